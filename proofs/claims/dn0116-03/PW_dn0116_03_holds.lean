import PyProof.Rows.All
import Wide.All
import OpenK.AllK
import Wide.FinOn
import PySem.Challenge.RW_dn0116_03
open PySem PySem.W PyProof.Rows
set_option Elab.async false
set_option maxRecDepth 100000
set_option maxHeartbeats 8000000
set_option linter.unusedVariables false
section
namespace Mine

structure Stop (P : Prop) : Prop where
  out : P

/-- what a turn of a for-loop must leave -/
def TurnSt {σ : Type} (h₀ : Heap) (L : Addr) (x : Str) (I : Addr) (oI : Obj) (Mp : σ → Str → Option Value) (Nw : σ → List (Addr × Obj)) (P : σ → Prop) (s₁ : Shared) (Q : Flow → Shared → Prop) (f : Flow) (s₂ : Shared) : Prop :=
  match f with
  | .ret v => Q (.ret v) s₂
  | .brk => Q .next s₂
  | _ => ∃ (c : σ) (h' : Heap) (tk : Nat) (m' : Str → Option Value) (news' : List (Addr × Obj)), s₂ = { s₁ with heap := h', toks := tk } ∧ Fr h₀ L h' m' ∧ News h₀ L h' news' ∧ (∀ p ∈ (I, oI) :: Nw c, p ∈ news') ∧ (∀ p ∈ Nw c, p.1 ≠ I) ∧ (∀ y, y ≠ x → m' y = Mp c y) ∧ P c

section
variable {prog : Program} {w : World} {A : Around} {E : Value → Shared → Prop} {s : Shared} {env : Env} {h₀ : Heap} {x : Str} {body : List Stmt} {Q : Flow → Shared → Prop} {m : Str → Option Value} {news : List (Addr × Obj)}

theorem loop_st {σ : Type} {I : Addr} {fp : List Addr} {n : Nat} {Pv : Nat → Value → Prop} {St : Nat → Heap → Prop} (W : Walks prog w A I fp [I] n Pv St) (Mp : σ → Str → Option Value) (Nw : σ → List (Addr × Obj)) (P : Nat → σ → Prop) (c₀ : σ)
    (hlive : ∀ i h, St i h → ∃ o, h.get? I = some o)
    (hfx : ∀ b ∈ fp, b ≠ I → (∃ o, h₀.get? b = some o) ∨ ∃ o, ∀ c, (b, o) ∈ Nw c)
    (hI : h₀.get? I = none) (hIL : env.locals ∉ fp) (hst : St 0 s.heap) (F : Fr h₀ env.locals s.heap m) (N : News h₀ env.locals s.heap news) (hn : ∀ p ∈ Nw c₀, p ∈ news) (hni : ∀ p ∈ Nw c₀, p.1 ≠ I) (hm : ∀ y, y ≠ x → m y = Mp c₀ y) (hp : P 0 c₀)
    (turn : ∀ i v c h tk oI, i < n → Pv i v → P i c → (∀ p ∈ Nw c, p.1 ≠ I) → Fr h₀ env.locals h (fun y => if y = x then some v else Mp c y) → News h₀ env.locals h ((I, oI) :: Nw c) →
      wpAny (model prog w) A (execs body env) (TurnSt h₀ env.locals x I oI Mp Nw (P (i + 1)) { s with heap := h, toks := tk } Q) E { s with heap := h, toks := tk })
    (done : ∀ c h tk u, P n c → Fr h₀ env.locals h (fun y => if y = x then u else Mp c y) → News h₀ env.locals h (Nw c) → Q .next { s with heap := h, toks := tk }) :
    LoopAtV prog w A h₀ env x body Q E (.ref I) s := by
  refine ⟨I, fp, [I], n, Pv, St, m, Nw c₀, (fun i m' news' => ∃ c, news' = Nw c ∧ (∀ p ∈ Nw c, p.1 ≠ I) ∧ (∀ y, y ≠ x → m' y = Mp c y) ∧ P i c), rfl, W, hIL, ?_, ?_, hst, F, (fun p hp => N p (hn p hp)), ⟨c₀, rfl, hni, hm, hp⟩, ?_, ?_⟩
  · intro b hb; rw [List.mem_singleton.mp hb]; exact hI
  · intro p hp hb; exact hni p hp (List.mem_singleton.mp hb)
  · rintro i v m₁ news₁ s₁ own ⟨hh, tk, rfl⟩ hi hv ⟨c, rfl, hc1, hc2, hc3⟩ _ hsub hget hall hst₁ F₁ N₁
    obtain ⟨oI, hoI⟩ := hlive _ _ hst₁
    have hIfp : I ∈ fp := W.sub I (by simp)
    have e : (fun y => if y = x then some v else m₁ y) = fun y => if y = x then some v else Mp c y := by
      funext y
      by_cases h : y = x
      · simp [h]
      · simp only [if_neg h]; exact hc2 y h
    rw [e] at F₁
    have N₂ : News h₀ env.locals hh ((I, oI) :: Nw c) := by
      intro p hp
      rcases List.mem_cons.mp hp with rfl | hp
      · exact N₁ _ (List.mem_append_left _ (hall _ hIfp hI _ hoI))
      · exact N₁ _ (List.mem_append_right _ hp)
    refine wpAny_mono (turn i v c hh tk oI hi hv hc3 hc1 F₁ N₂) (fun f s₂ q => ?_) fun _ _ e => e
    have fin : (∃ (c : σ) (h' : Heap) (tk' : Nat) (m' : Str → Option Value) (news' : List (Addr × Obj)), s₂ = { s with heap := h', toks := tk' } ∧ Fr h₀ env.locals h' m' ∧ News h₀ env.locals h' news' ∧ (∀ p ∈ (I, oI) :: Nw c, p ∈ news') ∧ (∀ p ∈ Nw c, p.1 ≠ I) ∧ (∀ y, y ≠ x → m' y = Mp c y) ∧ P (i + 1) c) →
        LoopStepU h₀ env.locals [I] own (fun m' news' => ∃ c, news' = Nw c ∧ (∀ p ∈ Nw c, p.1 ≠ I) ∧ (∀ y, y ≠ x → m' y = Mp c y) ∧ P (i + 1) c) { s with heap := hh, toks := tk } .next s₂ := by
      rintro ⟨c', h', tk', m', news', rfl, F', N', hsub', hne', hm', hp'⟩
      refine ⟨rfl, h', tk', m', Nw c', rfl, F', ?_, ?_, c', rfl, hne', hm', hp'⟩
      · intro p hp
        rcases List.mem_append.mp hp with hp | hp
        · have h1 := hget p hp
          by_cases hpI : p.1 = I
          · have : p = (I, oI) := by
              obtain ⟨p1, p2⟩ := p
              simp only at hpI h1
              subst hpI
              have h2 : hh.get? p1 = some oI := hoI
              have h3 : hh.get? p1 = some p2 := h1
              rw [h2] at h3; cases h3; rfl
            rw [this]; exact N' _ (hsub' _ (List.mem_cons_self))
          · rcases hfx p.1 (hsub p hp) hpI with ⟨o, ho⟩ | ⟨o, ho⟩
            · have := (N₁ p (List.mem_append_left _ hp)).2.2
              rw [this] at ho; cases ho
            · have h2 := (N₁ _ (List.mem_append_right _ (ho c))).1
              have h3 : hh.get? p.1 = some p.2 := h1
              have h4 : hh.get? p.1 = some o := h2
              rw [h3] at h4; cases h4
              exact N' _ (hsub' _ (List.mem_cons_of_mem _ (ho c')))
        · exact N' _ (hsub' _ (List.mem_cons_of_mem _ hp))
      · intro p hp hb; exact hne' p hp (List.mem_singleton.mp hb)
    cases f with
    | ret v => exact .ret q
    | brk => exact .brk q
    | next => exact .next (fin q)
    | cont => exact .cont (fin q)
  · rintro h' tk m' news' F' N' _ ⟨c, rfl, _, hm', hp'⟩
    refine done c h' tk (m' x) hp' ?_ N'
    have e : (fun y => if y = x then m' x else Mp c y) = m' := by
      funext y
      by_cases h : y = x
      · simp [h]
      · simp only [if_neg h]; exact (hm' y h).symm
    rw [e]; exact F'

theorem iter_str_st {σ : Type} {z : Str} {t : Tok} (Mp : σ → Str → Option Value) (Nw : σ → List (Addr × Obj)) (P : Nat → σ → Prop) (c₀ : σ)
    (hh : A.handled = none) (F : Fr h₀ env.locals s.heap m) (N : News h₀ env.locals s.heap news) (hn : ∀ p ∈ Nw c₀, p ∈ news) (hm : ∀ y, y ≠ x → m y = Mp c₀ y) (hp : P 0 c₀)
    (turn : ∀ i cp u c h tk I oI, z.cps[i]? = some cp → P i c → (∀ p ∈ Nw c, p.1 ≠ I) → Fr h₀ env.locals h (fun y => if y = x then some (.str ⟨#[cp]⟩ u) else Mp c y) → News h₀ env.locals h ((I, oI) :: Nw c) →
      wpAny (model prog w) A (execs body env) (TurnSt h₀ env.locals x I oI Mp Nw (P (i + 1)) { s with heap := h, toks := tk } Q) E { s with heap := h, toks := tk })
    (done : ∀ c h tk u, P z.cps.size c → Fr h₀ env.locals h (fun y => if y = x then u else Mp c y) → News h₀ env.locals h (Nw c) → Q .next { s with heap := h, toks := tk }) :
    wpAny (model prog w) A (pyIter (.str z t)) (fun it s₂ => LoopAtV prog w A h₀ env x body Q E it s₂) E s := by
  have hsz : s.heap.objs.size ∉ ([] : List Addr) := by simp
  have hI : h₀.get? s.heap.objs.size = none := next_is_new F
  have key : ∀ (nm : String), (Walks prog w A s.heap.objs.size [s.heap.objs.size] [s.heap.objs.size] z.cps.size (SignAt z) (fun i h => h.IsStrIter s.heap.objs.size nm z t i)) → ∀ o, (s.heap.push o).IsStrIter s.heap.objs.size nm z t 0 →
      LoopAtV prog w A h₀ env x body Q E (.ref s.heap.objs.size) { s with heap := s.heap.push o } := by
    intro nm W o hst
    refine loop_st (s := { s with heap := s.heap.push o }) (news := news) W Mp Nw P c₀ (fun i h st => ⟨_, st.choose_spec.1⟩) ?_ hI ?_ hst (F.push _) (fun p hp => ⟨Heap.get?_push_of_some _ (N p hp).1, (N p hp).2⟩) hn ?_ hm hp ?_ done
    · intro b hb hne; exact absurd (List.mem_singleton.mp hb) hne
    · intro hb; exact absurd F.ns.lt ((List.mem_singleton.mp hb) ▸ Nat.lt_irrefl _)
    · intro p hp e; exact absurd (Heap.lt_size (N p (hn p hp)).1) (e ▸ Nat.lt_irrefl _)
    · rintro i v c h tk oI hi ⟨cp, u, hcp, rfl⟩ hP hne F₁ N₁
      exact turn i cp u c h tk _ oI hcp hP hne F₁ N₁
  cases ha : z.cps.all (· < 128)
  · exact wpAny_pyIter_wide ha (key _ (Walks.strWide hh _ z t) _ ⟨_, Heap.get?_push_size _ rfl, rfl, rfl⟩)
  · exact wpAny_pyIter_ascii ha (key _ (Walks.strAscii hh _ z t) _ ⟨_, Heap.get?_push_size _ rfl, rfl, rfl⟩)

theorem iter_range_st {σ : Type} {r : Addr} {a₀ b₀ : Int} {t₀ u₀ v₀ : Tok} (n : Nat) (Mp : σ → Str → Option Value) (Nw : σ → List (Addr × Obj)) (P : Nat → σ → Prop) (c₀ : σ)
    (hh : A.handled = none) (hr : IsRange s.heap r a₀ b₀ 1 t₀ u₀ v₀) (hsmall : Builtin.Range.small a₀ b₀ 1 = true) (hnn : Builtin.Range.rangeSize a₀ b₀ 1 = (n : Int))
    (F : Fr h₀ env.locals s.heap m) (N : News h₀ env.locals s.heap news) (hn : ∀ p ∈ Nw c₀, p ∈ news) (hm : ∀ y, y ≠ x → m y = Mp c₀ y) (hp : P 0 c₀)
    (turn : ∀ i u c h tk I oI, i < n → P i c → (∀ p ∈ Nw c, p.1 ≠ I) → Fr h₀ env.locals h (fun y => if y = x then some (.int (a₀ + (i : Int)) u) else Mp c y) → News h₀ env.locals h ((I, oI) :: Nw c) →
      wpAny (model prog w) A (execs body env) (TurnSt h₀ env.locals x I oI Mp Nw (P (i + 1)) { s with heap := h, toks := tk } Q) E { s with heap := h, toks := tk })
    (done : ∀ c h tk u, P n c → Fr h₀ env.locals h (fun y => if y = x then u else Mp c y) → News h₀ env.locals h (Nw c) → Q .next { s with heap := h, toks := tk }) :
    wpAny (model prog w) A (pyIter (.ref r)) (fun it s₂ => LoopAtV prog w A h₀ env x body Q E it s₂) E s := by
  have hI : h₀.get? s.heap.objs.size = none := next_is_new F
  refine wpAny_pyIter_range hr hsmall ?_
  refine loop_st (s := { s with heap := s.heap.push _ }) (news := news) (LCg.range_walks (I := s.heap.objs.size) hh a₀ n) Mp Nw P c₀ (fun i h st => ⟨_, st⟩) ?_ hI ?_ (by show IsRangeIter _ _ _ _ _; rw [hnn]; simpa using Heap.get?_push_size _ rfl) (F.push _) (fun p hp => ⟨Heap.get?_push_of_some _ (N p hp).1, (N p hp).2⟩) hn ?_ hm hp ?_ done
  · intro b hb hne; exact absurd (List.mem_singleton.mp hb) hne
  · intro hb; exact absurd F.ns.lt ((List.mem_singleton.mp hb) ▸ Nat.lt_irrefl _)
  · intro p hp e; exact absurd (Heap.lt_size (N p (hn p hp)).1) (e ▸ Nat.lt_irrefl _)
  · rintro i v c h tk oI hi ⟨u, rfl⟩ hP hne F₁ N₁
    exact turn i u c h tk _ oI hi hP hne F₁ N₁

theorem iter_ints_st {σ : Type} {l : Addr} {vs : List Value} {ns : List Int} (Mp : σ → Str → Option Value) (Nw : σ → List (Addr × Obj)) (P : Nat → σ → Prop) (c₀ : σ)
    (hh : A.handled = none) (hl : h₀.IsList l vs.toArray) (hi : IntsAre vs ns)
    (F : Fr h₀ env.locals s.heap m) (N : News h₀ env.locals s.heap news) (hn : ∀ p ∈ Nw c₀, p ∈ news) (hm : ∀ y, y ≠ x → m y = Mp c₀ y) (hp : P 0 c₀)
    (turn : ∀ i n u c h tk I oI, ns[i]? = some n → P i c → (∀ p ∈ Nw c, p.1 ≠ I) → Fr h₀ env.locals h (fun y => if y = x then some (.int n u) else Mp c y) → News h₀ env.locals h ((I, oI) :: Nw c) →
      wpAny (model prog w) A (execs body env) (TurnSt h₀ env.locals x I oI Mp Nw (P (i + 1)) { s with heap := h, toks := tk } Q) E { s with heap := h, toks := tk })
    (done : ∀ c h tk u, P ns.length c → Fr h₀ env.locals h (fun y => if y = x then u else Mp c y) → News h₀ env.locals h (Nw c) → Q .next { s with heap := h, toks := tk }) :
    wpAny (model prog w) A (pyIter (.ref l)) (fun it s₂ => LoopAtV prog w A h₀ env x body Q E it s₂) E s := by
  have hI : h₀.get? s.heap.objs.size = none := next_is_new F
  have hls : s.heap.IsList l vs.toArray := hl.at fun o e => F.keep l o e
  obtain ⟨ol, hol, _⟩ := id hl
  have hlt : l < h₀.objs.size := Heap.lt_size hol
  have hne : l ≠ s.heap.objs.size := Nat.ne_of_lt (Nat.lt_trans (Nat.lt_of_lt_of_le hlt F.above) F.ns.lt)
  refine wpAny_pyIter_list hls ?_
  have W := Walks.list (prog := prog) (w := w) hh s.heap.objs.size l hne vs.toArray
  have hlen : vs.toArray.size = ns.length := by simp [hi.length]
  rw [hlen] at W
  refine loop_st (s := { s with heap := s.heap.push _ }) (news := news) W Mp Nw P c₀ (fun i h st => ⟨_, st.1.choose_spec.1⟩) ?_ hI ?_ ⟨⟨_, Heap.get?_push_size _ rfl, rfl, rfl⟩, hls.at fun o e => Heap.get?_push_of_some _ e⟩ (F.push _) (fun p hp => ⟨Heap.get?_push_of_some _ (N p hp).1, (N p hp).2⟩) hn ?_ hm hp ?_ done
  · intro b hb hne
    rcases List.mem_cons.mp hb with rfl | hb
    · exact absurd rfl hne
    · rw [List.mem_singleton.mp hb]; exact .inl ⟨ol, hol⟩
  · intro hm
    rcases List.mem_cons.mp hm with e | hm
    · exact absurd F.ns.lt (e ▸ Nat.lt_irrefl _)
    · exact absurd (Nat.lt_of_lt_of_le hlt F.above) ((List.mem_singleton.mp hm) ▸ Nat.lt_irrefl _)
  · intro p hp e; exact absurd (Heap.lt_size (N p (hn p hp)).1) (e ▸ Nat.lt_irrefl _)
  · rintro i v c h tk oI hin hP hPc hne F₁ N₁
    obtain ⟨t, hx⟩ := hi.get i ns[i] (by simp [hin])
    have hv : v = .int ns[i] t := by
      have hP' : vs[i]? = some v := by simpa using hP
      rw [hx] at hP'; exact (Option.some.inj hP').symm
    subst hv
    exact turn i ns[i] t c h tk _ oI (by simp [hin]) hPc hne F₁ N₁

/-- what a turn of a while-loop must leave -/
def WTurnSt {σ : Type} (h₀ : Heap) (L : Addr) (Mp : σ → Str → Option Value) (Nw : σ → List (Addr × Obj)) (P : σ → Prop) (meas : σ → Nat) (k : Nat) (s : Shared) (Q : Flow → Shared → Prop) (f : Flow) (s₂ : Shared) : Prop :=
  match f with
  | .ret v => Q (.ret v) s₂
  | .brk => Q .next s₂
  | _ => ∃ (c : σ) (h' : Heap) (tk : Nat) (m' : Str → Option Value) (news' : List (Addr × Obj)), s₂ = { s with heap := h', toks := tk } ∧ Fr h₀ L h' m' ∧ News h₀ L h' news' ∧ (∀ p ∈ Nw c, p ∈ news') ∧ (∀ y, m' y = Mp c y) ∧ P c ∧ meas c < k

theorem while_st {σ : Type} {L : Addr} {test : Expr} {pos : Pos} (Mp : σ → Str → Option Value) (Nw : σ → List (Addr × Obj)) (P : σ → Prop) (meas : σ → Nat) (c₀ : σ)
    (F : Fr h₀ L s.heap m) (N : News h₀ L s.heap news) (hn : ∀ p ∈ Nw c₀, p ∈ news) (hm : ∀ y, m y = Mp c₀ y) (hp : P c₀)
    (turn : ∀ c h tk, P c → Fr h₀ L h (Mp c) → News h₀ L h (Nw c) →
      wpAny (model prog w) A (isTrue test env (eval test env)) (fun b s₂ =>
        if b = true then wpAny (model prog w) A (execs body env) (WTurnSt h₀ L Mp Nw P meas (meas c) s Q) E s₂ else Q .next s₂) E { s with heap := h, toks := tk })
    (hE : PassesOwn (model prog w) A env E := by passes_own) :
    wpAny (model prog w) A (exec (.While test body [] pos) env) Q E s := by
  refine While_inv2 (fun k m' news' => ∃ c, news' = Nw c ∧ (∀ y, m' y = Mp c y) ∧ P c ∧ meas c = k) (n₀ := meas c₀) F (fun p hp => N p (hn p hp)) ⟨c₀, rfl, hm, hp, rfl⟩ ?_ hE
  rintro k m₁ news₁ h₁ tk₁ F₁ N₁ ⟨c, rfl, hm₁, hP, rfl⟩
  have e : m₁ = Mp c := funext hm₁
  subst e
  refine wpAny_mono (turn c h₁ tk₁ hP F₁ N₁) (fun b s₂ q => ?_) fun _ _ e => e
  cases b with
  | false => exact q
  | true =>
    simp only [if_true] at q ⊢
    refine wpAny_mono q (fun f s₃ q => ?_) fun _ _ e => e
    have fin : (∃ (c' : σ) (h' : Heap) (tk : Nat) (m' : Str → Option Value) (news' : List (Addr × Obj)), s₃ = { s with heap := h', toks := tk } ∧ Fr h₀ L h' m' ∧ News h₀ L h' news' ∧ (∀ p ∈ Nw c', p ∈ news') ∧ (∀ y, m' y = Mp c' y) ∧ P c' ∧ meas c' < meas c) →
        ∃ h' tk m₂ news₂ n', s₃ = { s with heap := h', toks := tk } ∧ Fr h₀ L h' m₂ ∧ News h₀ L h' news₂ ∧ n' < meas c ∧ ∃ c', news₂ = Nw c' ∧ (∀ y, m₂ y = Mp c' y) ∧ P c' ∧ meas c' = n' := by
      rintro ⟨c', h', tk, m', news', rfl, F', N', hs', hm', hp', hlt⟩
      exact ⟨h', tk, m', Nw c', meas c', rfl, F', fun p hp => N' p (hs' p hp), hlt, c', rfl, hm', hp', rfl⟩
    cases f with
    | ret v => exact q
    | brk => exact q
    | next => exact fin q
    | cont => exact fin q
end
abbrev tupObj (vs : List Value) : Obj := { cls := .type "tuple", data := .seq vs.toArray }

/-- what _splitext hands back, in the words of the rules -/
def SplitSpec (p : Str) (sepi dot : Int) (ext a b : Str) : Prop :=
  (sepi < dot ∧ (∃ i, sepi + 1 ≤ i ∧ i < dot ∧ Txt.slice p (some i) (some (i + 1)) ≠ ext) ∧ a = Txt.slice p none (some dot) ∧ b = Txt.slice p (some dot) none) ∨
  (¬ (sepi < dot ∧ ∃ i, sepi + 1 ≤ i ∧ i < dot ∧ Txt.slice p (some i) (some (i + 1)) ≠ ext) ∧ a = p ∧ b = Txt.slice p none (some 0))

def AltIx (p sep : Str) (alt : Value) (i : Int) : Prop :=
  match alt with
  | .str y _ => if (y.length : Int) = 0 then i = Txt.rfind p sep else i = (if Txt.rfind p y > Txt.rfind p sep then Txt.rfind p y else Txt.rfind p sep)
  | _ => i = Txt.rfind p sep
theorem altIx_none {p sep : Str} : AltIx p sep .none (Txt.rfind p sep) := rfl
theorem altIx_some {p sep y : Str} {u : Tok} (h : (y.length : Int) ≠ 0) : AltIx p sep (.str y u) (if Txt.rfind p y > Txt.rfind p sep then Txt.rfind p y else Txt.rfind p sep) := by
  unfold AltIx; simp only [if_neg h]
theorem altIx_zero {p sep y : Str} {u : Tok} (h : (y.length : Int) = 0) : AltIx p sep (.str y u) (Txt.rfind p sep) := by
  unfold AltIx; simp only [if_pos h]

section
variable {prog : Program} {w : World} {A : Around} {E : Value → Shared → Prop} {s : Shared} {env : Env} {h₀ : Heap} {x : Str} {body : List Stmt} {Q : Flow → Shared → Prop} {m : Str → Option Value} {news : List (Addr × Obj)}
def WTurnInt (h₀ : Heap) (L : Addr) (x : Str) (m : Str → Option Value) (news : List (Addr × Obj)) (P : Int → Prop) (meas : Int → Nat) (k : Nat) (s : Shared) (Q : Flow → Shared → Prop) (f : Flow) (s₂ : Shared) : Prop :=
  WTurnSt h₀ L (fun (c : Int × Tok) y => if y = x then some (.int c.1 c.2) else m y) (fun _ => news) (fun c => P c.1) (fun c => meas c.1) k s Q f s₂
theorem while_int {L : Addr} {test : Expr} {pos : Pos} {i₀ : Int} {t₀ : Tok} (P : Int → Int → Prop) (meas : Int → Nat)
    (F : Fr h₀ L s.heap (fun y => if y = x then some (.int i₀ t₀) else m y)) (N : News h₀ L s.heap news) (hp : P i₀ i₀)
    (turn : ∀ i t h tk, P i₀ i → Fr h₀ L h (fun y => if y = x then some (.int i t) else m y) → News h₀ L h news →
      wpAny (model prog w) A (isTrue test env (eval test env)) (fun b s₂ =>
        if b = true then wpAny (model prog w) A (execs body env) (WTurnInt h₀ L x m news (P i₀) meas (meas i) s Q) E s₂ else Q .next s₂) E { s with heap := h, toks := tk })
    (hE : PassesOwn (model prog w) A env E := by passes_own) :
    wpAny (model prog w) A (exec (.While test body [] pos) env) Q E s :=
  while_st (σ := Int × Tok) (fun c y => if y = x then some (.int c.1 c.2) else m y) (fun _ => news) (fun c => P i₀ c.1) (fun c => meas c.1) (i₀, t₀) F N (fun _ h => h) (fun _ => rfl) hp (fun c h tk hP F₁ N₁ => turn c.1 c.2 h tk hP F₁ N₁) hE
end
theorem map_again {x : Str} {a b : Option Value} {m : Str → Option Value} (y : Str) : (if y = x then a else if y = x then b else m y) = if y = x then a else m y := by
  by_cases h : y = x
  · simp [h]
  · simp [h]

theorem WTurnInt.ret {h₀ : Heap} {L : Addr} {x : Str} {m : Str → Option Value} {news : List (Addr × Obj)} {P : Int → Prop} {meas : Int → Nat} {k : Nat} {s s₂ : Shared} {Q : Flow → Shared → Prop} {v : Value} (h : Q (.ret v) s₂) : WTurnInt h₀ L x m news P meas k s Q (.ret v) s₂ := h
theorem TurnSt.ret {σ : Type} {h₀ : Heap} {L : Addr} {x : Str} {I : Addr} {oI : Obj} {Mp : σ → Str → Option Value} {Nw : σ → List (Addr × Obj)} {P : σ → Prop} {s₁ s₂ : Shared} {Q : Flow → Shared → Prop} {v : Value} (h : Q (.ret v) s₂) : TurnSt h₀ L x I oI Mp Nw P s₁ Q (.ret v) s₂ := h
theorem WTurnInt.next {h₀ : Heap} {L : Addr} {x : Str} {b : Option Value} {m : Str → Option Value} {news news' : List (Addr × Obj)} {P : Int → Prop} {meas : Int → Nat} {k : Nat} {s : Shared} {Q : Flow → Shared → Prop} {h' : Heap} {tk : Nat} {i' : Int} {t' : Tok}
    (F : Fr h₀ L h' (fun y => if y = x then some (.int i' t') else if y = x then b else m y)) (N : News h₀ L h' news') (hn : ∀ p ∈ news, p ∈ news') (hp : P i') (hlt : meas i' < k) :
    WTurnInt h₀ L x m news P meas k s Q .next { s with heap := h', toks := tk } :=
  ⟨(i', t'), h', tk, _, news', rfl, F, N, hn, fun y => map_again y, hp, hlt⟩

/-- a map overlaid by a few names -/
def ovl (ps : List (Str × Option Value)) (m : Str → Option Value) (y : Str) : Option Value :=
  match ps with
  | [] => m y
  | p :: r => if y = p.1 then p.2 else ovl r m y
def OvlAt (ps : List (Str × Option Value)) (m : Str → Option Value) : Prop :=
  match ps with
  | [] => True
  | p :: r => m p.1 = p.2 ∧ OvlAt r m
theorem ovl_self {m : Str → Option Value} : ∀ {ps : List (Str × Option Value)}, OvlAt ps m → ∀ y, m y = ovl ps m y
  | [], _, _ => rfl
  | p :: r, h, y => by
    unfold ovl
    by_cases e : y = p.1
    · rw [if_pos e, e]; exact h.1
    · rw [if_neg e]; exact ovl_self h.2 y

theorem ovl1_of {m' m : Str → Option Value} {x k1 : Str} {v1 : Option Value} (h1 : m' k1 = v1) (h3 : ∀ y, y ≠ x → y ≠ k1 → m' y = m y) : ∀ y, y ≠ x → m' y = ovl [(k1, v1)] m y := by
  intro y hx
  simp only [ovl]
  by_cases e1 : y = k1
  · subst e1; simp [h1]
  · simp only [if_neg e1]; exact h3 y hx e1
theorem ovl2_of {m' m : Str → Option Value} {x k1 k2 : Str} {v1 v2 : Option Value} (h1 : m' k1 = v1) (h2 : m' k2 = v2) (h3 : ∀ y, y ≠ x → y ≠ k1 → y ≠ k2 → m' y = m y) : ∀ y, y ≠ x → m' y = ovl [(k1, v1), (k2, v2)] m y := by
  intro y hx
  simp only [ovl]
  by_cases e1 : y = k1
  · subst e1; simp [h1]
  · by_cases e2 : y = k2
    · subst e2; simp [e1, h2]
    · simp only [if_neg e1, if_neg e2]; exact h3 y hx e1 e2
theorem ovl3_of {m' m : Str → Option Value} {x k1 k2 k3 : Str} {v1 v2 v3 : Option Value} (h1 : m' k1 = v1) (h2 : m' k2 = v2) (h4 : m' k3 = v3) (h3 : ∀ y, y ≠ x → y ≠ k1 → y ≠ k2 → y ≠ k3 → m' y = m y) : ∀ y, y ≠ x → m' y = ovl [(k1, v1), (k2, v2), (k3, v3)] m y := by
  intro y hx
  simp only [ovl]
  by_cases e1 : y = k1
  · subst e1; simp [h1]
  · by_cases e2 : y = k2
    · subst e2; simp [e1, h2]
    · by_cases e3 : y = k3
      · subst e3; simp [e1, e2, h4]
      · simp only [if_neg e1, if_neg e2, if_neg e3]; exact h3 y hx e1 e2 e3
section
variable {prog : Program} {w : World} {A : Around} {E : Value → Shared → Prop} {s : Shared} {env : Env} {h₀ : Heap} {x : Str} {body : List Stmt} {Q : Flow → Shared → Prop} {m : Str → Option Value} {news : List (Addr × Obj)}
theorem iter_str_ov {σ : Type} {z : Str} {t : Tok} (ps : σ → List (Str × Option Value)) (Nw : σ → List (Addr × Obj)) (P : Nat → σ → Prop) (c₀ : σ)
    (hh : A.handled = none) (F : Fr h₀ env.locals s.heap m) (N : News h₀ env.locals s.heap news) (hn : ∀ p ∈ Nw c₀, p ∈ news) (hm : OvlAt (ps c₀) m) (hp : P 0 c₀)
    (turn : ∀ i cp u c h tk I oI, z.cps[i]? = some cp → P i c → (∀ p ∈ Nw c, p.1 ≠ I) → Fr h₀ env.locals h (fun y => if y = x then some (.str ⟨#[cp]⟩ u) else ovl (ps c) m y) → News h₀ env.locals h ((I, oI) :: Nw c) →
      wpAny (model prog w) A (execs body env) (TurnSt h₀ env.locals x I oI (fun c => ovl (ps c) m) Nw (P (i + 1)) { s with heap := h, toks := tk } Q) E { s with heap := h, toks := tk })
    (done : ∀ c h tk u, P z.cps.size c → Fr h₀ env.locals h (fun y => if y = x then u else ovl (ps c) m y) → News h₀ env.locals h (Nw c) → Q .next { s with heap := h, toks := tk }) :
    wpAny (model prog w) A (pyIter (.str z t)) (fun it s₂ => LoopAtV prog w A h₀ env x body Q E it s₂) E s :=
  iter_str_st (fun c => ovl (ps c) m) Nw P c₀ hh F N hn (fun y _ => ovl_self hm y) hp turn done
theorem iter_range_ov {σ : Type} {r : Addr} {a₀ b₀ : Int} {t₀ u₀ v₀ : Tok} (n : Nat) (ps : σ → List (Str × Option Value)) (Nw : σ → List (Addr × Obj)) (P : Nat → σ → Prop) (c₀ : σ)
    (hh : A.handled = none) (hr : IsRange s.heap r a₀ b₀ 1 t₀ u₀ v₀) (hsmall : Builtin.Range.small a₀ b₀ 1 = true) (hnn : Builtin.Range.rangeSize a₀ b₀ 1 = (n : Int))
    (F : Fr h₀ env.locals s.heap m) (N : News h₀ env.locals s.heap news) (hn : ∀ p ∈ Nw c₀, p ∈ news) (hm : OvlAt (ps c₀) m) (hp : P 0 c₀)
    (turn : ∀ i u c h tk I oI, i < n → P i c → (∀ p ∈ Nw c, p.1 ≠ I) → Fr h₀ env.locals h (fun y => if y = x then some (.int (a₀ + (i : Int)) u) else ovl (ps c) m y) → News h₀ env.locals h ((I, oI) :: Nw c) →
      wpAny (model prog w) A (execs body env) (TurnSt h₀ env.locals x I oI (fun c => ovl (ps c) m) Nw (P (i + 1)) { s with heap := h, toks := tk } Q) E { s with heap := h, toks := tk })
    (done : ∀ c h tk u, P n c → Fr h₀ env.locals h (fun y => if y = x then u else ovl (ps c) m y) → News h₀ env.locals h (Nw c) → Q .next { s with heap := h, toks := tk }) :
    wpAny (model prog w) A (pyIter (.ref r)) (fun it s₂ => LoopAtV prog w A h₀ env x body Q E it s₂) E s :=
  iter_range_st n (fun c => ovl (ps c) m) Nw P c₀ hh hr hsmall hnn F N hn (fun y _ => ovl_self hm y) hp turn done
theorem iter_ints_ov {σ : Type} {l : Addr} {vs : List Value} {ns : List Int} (ps : σ → List (Str × Option Value)) (Nw : σ → List (Addr × Obj)) (P : Nat → σ → Prop) (c₀ : σ)
    (hh : A.handled = none) (hl : h₀.IsList l vs.toArray) (hi : IntsAre vs ns)
    (F : Fr h₀ env.locals s.heap m) (N : News h₀ env.locals s.heap news) (hn : ∀ p ∈ Nw c₀, p ∈ news) (hm : OvlAt (ps c₀) m) (hp : P 0 c₀)
    (turn : ∀ i n u c h tk I oI, ns[i]? = some n → P i c → (∀ p ∈ Nw c, p.1 ≠ I) → Fr h₀ env.locals h (fun y => if y = x then some (.int n u) else ovl (ps c) m y) → News h₀ env.locals h ((I, oI) :: Nw c) →
      wpAny (model prog w) A (execs body env) (TurnSt h₀ env.locals x I oI (fun c => ovl (ps c) m) Nw (P (i + 1)) { s with heap := h, toks := tk } Q) E { s with heap := h, toks := tk })
    (done : ∀ c h tk u, P ns.length c → Fr h₀ env.locals h (fun y => if y = x then u else ovl (ps c) m y) → News h₀ env.locals h (Nw c) → Q .next { s with heap := h, toks := tk }) :
    wpAny (model prog w) A (pyIter (.ref l)) (fun it s₂ => LoopAtV prog w A h₀ env x body Q E it s₂) E s :=
  iter_ints_st (fun c => ovl (ps c) m) Nw P c₀ hh hl hi F N hn (fun y _ => ovl_self hm y) hp turn done

theorem For_F {E : Value → Shared → Prop} {px pos : Pos} {iter : Expr} (F : Fr h₀ env.locals s.heap m) (hx : env.kindOf x = some .local)
    (hp : (env.scope.kind == .class || (env.scope.kind == .module && env.locals != env.globals)) = false)
    (h : wpAny (model prog w) A (eval iter env) (fun xv s₁ => wpAny (model prog w) A (pyIter xv) (fun it s₂ => LoopAtV prog w A h₀ env x body Q E it s₂) E s₁) E s)
    (hs : ∀ x, foldedSetIterable iter env x = pure x := by intro _; rfl)
    (hE : PassesOwn (model prog w) A env E := by passes_own) :
    wpAny (model prog w) A (exec (.For (.Name x px) iter body [] pos) env) Q E s := For_invV h₀ hx hp h hs hE
theorem TurnSt.next {σ : Type} {L I : Addr} {oI : Obj} {Mp : σ → Str → Option Value} {Nw : σ → List (Addr × Obj)} {P : σ → Prop} {s₁ : Shared} {h' : Heap} {tk : Nat} {m' : Str → Option Value} {news' : List (Addr × Obj)} (c : σ)
    (F : Fr h₀ L h' m') (N : News h₀ L h' news') (hs : ∀ p ∈ (I, oI) :: Nw c, p ∈ news') (hne : ∀ p ∈ Nw c, p.1 ≠ I) (hm : ∀ y, y ≠ x → m' y = Mp c y) (hP : P c) :
    TurnSt h₀ L x I oI Mp Nw P s₁ Q .next { s₁ with heap := h', toks := tk } := ⟨c, h', tk, m', news', rfl, F, N, hs, hne, hm, hP⟩
end
end Mine
end

section
open PySem.Spec PySem.Calls
namespace Mine
open LCg

/-- what the tests (and the element) of one turn of a comprehension must leave -/
def CEnd {σ : Type} (h₀ : Heap) (L : Addr) (m : Str → Option Value) (s : Shared) (I : Addr) (oI : Obj) (C : Addr) (oC : Obj) (D : Addr) (oD : Obj) (Nw : σ → List (Addr × Obj)) (R : σ → Prop) (s₂ : Shared) : Prop :=
  ∃ (c : σ) (h' : Heap) (tk : Nat) (news' : List (Addr × Obj)), s₂ = { s with heap := h', toks := tk } ∧ Fr h₀ L h' m ∧ News h₀ L h' news' ∧ (∀ p ∈ (I, oI) :: (C, oC) :: (D, oD) :: Nw c, p ∈ news') ∧ (∀ p ∈ Nw c, p.1 ≠ I ∧ p.1 ≠ C ∧ p.1 ≠ D) ∧ R c

theorem CEnd.intro {σ : Type} {h₀ : Heap} {L : Addr} {m : Str → Option Value} {s : Shared} {I C D : Addr} {oI oC oD : Obj} {Nw : σ → List (Addr × Obj)} {R : σ → Prop} {h' : Heap} {tk : Nat} {news' : List (Addr × Obj)} (c : σ)
    (F : Fr h₀ L h' m) (N : News h₀ L h' news') (hs : ∀ p ∈ (I, oI) :: (C, oC) :: (D, oD) :: Nw c, p ∈ news') (off : ∀ p ∈ Nw c, p.1 ≠ I ∧ p.1 ≠ C ∧ p.1 ≠ D) (hR : R c) :
    CEnd h₀ L m s I oI C oC D oD Nw R { s with heap := h', toks := tk } := ⟨c, h', tk, news', rfl, F, N, hs, off, hR⟩

section
variable {prog : Program} {w : World} {A : Around} {E : Value → Shared → Prop} {s : Shared} {h₀ : Heap} {L : Addr} {m : Str → Option Value} {env : Env} {news : List (Addr × Obj)}

theorem comp_block {σ : Type} {elt iter : Expr} {x : Str} {px : Pos} {ifs : List Expr} {scope : Scope} {cl : List (Str × Addr)} {pos : Pos} {I : Addr} {fp : List Addr} {n : Nat} {Pv : Nat → Value → Prop} {St : Nat → Heap → Prop}
    (W : Walks prog w A I fp [I] n Pv St) (hsz : n ≤ sizeLine) (Nw : σ → List (Addr × Obj)) (R : Nat → σ → List Value → Prop) (c₀ : σ)
    (hlive : ∀ i h, St i h → ∃ o, h.get? I = some o)
    (hfx : ∀ b ∈ fp, b ≠ I → (∃ o, h₀.get? b = some o) ∨ ∃ o, ∀ c, (b, o) ∈ Nw c)
    (hcell : ∀ y ∈ scope.names, y.2 ≠ .cell) (hkind : scope.kind = .function) (hx : scope.names.lookup x = some .local)
    (hst : St 0 s.heap) (hfp : ∀ b ∈ fp, b < s.heap.objs.size) (F : Fr h₀ L s.heap m) (N : News h₀ L s.heap news) (hn : ∀ p ∈ Nw c₀, p ∈ news) (hIL : L ≠ I) (hI : h₀.get? I = none) (hni : ∀ p ∈ Nw c₀, p.1 ≠ I) (hR : R 0 c₀ [])
    {RR : Value → Addr → Result → Shared → Prop}
    (turn : ∀ i v c ys oI C oC D m₂ h tk (E' : Value → Shared → Prop), i < n → Pv i v → R i c ys → ys.length ≤ i → NsObj oC m₂ → m₂ x = some v → Fr h₀ L h m → News h₀ L h ((I, oI) :: (C, oC) :: (D, lst ys) :: Nw c) →
      (∀ p ∈ Nw c, p.1 ≠ I ∧ p.1 ≠ C ∧ p.1 ≠ D) → I ≠ C ∧ I ≠ D ∧ C ≠ D →
      wpAny (model prog w) A (forIn ifs true fun c r => if r = true then do let ok ← isTrue c (compEnvC scope cl C env) (eval c (compEnvC scope cl C env)); pure (ForInStep.yield ok) else pure (ForInStep.yield r))
        (fun ok s₃ => if ok = true then wpAny (model prog w) A (eval elt (compEnvC scope cl C env)) (fun y s₄ => CEnd h₀ L m s I oI C oC D (lst ys) Nw (fun c' => R (i + 1) c' (ys ++ [y])) s₄) E' s₃
          else CEnd h₀ L m s I oI C oC D (lst ys) Nw (fun c' => R (i + 1) c' ys) s₃) E' { s with heap := h, toks := tk })
    (done : ∀ D C h tk m' c ys, R n c ys → Fr h₀ L h m → News h₀ L h ((D, lst ys) :: Nw c) → (∀ p ∈ Nw c, p.1 ≠ D) → h.Ns C m' → h₀.get? C = none → h₀.get? D = none → C ≠ L → D ≠ L → C ≠ D → (∀ p ∈ Nw c, p.1 ≠ C) → RR (.ref D) C (.ok .next) { s with heap := h, toks := tk }) :
    wpAny (model prog w) A (newList []) (fun acc s₃ => wpAny (model prog w) A (newFunctionEnv scope env.globals cl [] env.qual none .none (some env)) (fun cenv s₄ =>
      codeAny (model prog w) A (.compStart (.ListComp elt [⟨.Name x px, iter, ifs, 0⟩] scope pos) 0 (.ref I) acc { cenv with scope := relabel scope env }) (RR acc cenv.locals) s₄) E s₃) E s := by
  refine wpAny_newObj_type (wpAny_newFunctionEnv hcell (by intro y hy; simp at hy) (fun h₁ hns₁ hsb₁ => ?_) hkind)
  dsimp only at hns₁ hsb₁ ⊢
  generalize hH : s.heap.push { cls := .type "list", dict := none, data := .seq ([] : List Value).toArray } = H at hns₁ hsb₁ ⊢
  generalize hD : s.heap.objs.size = D
  generalize hC : H.objs.size = C at hns₁ hsb₁ ⊢
  have hCD : C = D + 1 := by rw [← hC, ← hH, Heap.size_push, hD]
  have lt_of : ∀ (b : Nat) o, s.heap.get? b = some o → b < D := fun b o e => hD ▸ Heap.lt_size e
  have old : ∀ b o, s.heap.get? b = some o → h₁.get? b = some o := fun b o e =>
    hsb₁.extBut b o (neN (by have := lt_of b o e; omega)) (Heap.get?_push_of_some _ (hH ▸ Heap.get?_push_of_some _ e))
  have hacc : h₁.get? D = some (lst []) := hsb₁.extBut _ _ (neN (by omega)) (Heap.get?_push_of_some _ (by rw [← hH, ← hD]; exact Heap.get?_push_size _ rfl))
  have hIfp : I ∈ fp := W.sub I (by simp)
  have hID : @LT.lt Nat _ I D := hD ▸ hfp I hIfp
  have hLD : @LT.lt Nat _ L D := hD ▸ F.ns.lt
  have fresh : ∀ (a : Nat), D ≤ a → h₀.get? a = none := fun a ha => by
    cases e : h₀.get? a with
    | none => rfl
    | some o => have := lt_of a o (F.keep a o e); omega
  have hD₀ : h₀.get? D = none := fresh D (Nat.le_refl _)
  have hC₀ : h₀.get? C = none := fresh C (by omega)
  have hDf : D ∉ fp := fun hm => by have : @LT.lt Nat _ D s.heap.objs.size := hfp D hm; omega
  have hCf : C ∉ fp := fun hm => by have : @LT.lt Nat _ C s.heap.objs.size := hfp C hm; omega
  have loop : ∀ s₃ : Shared, s₃ = { s with heap := h₁, toks := s.toks + ([] : List (Str × Value)).length } →
      codeAny (model prog w) A (.compLoop (.ListComp elt [⟨.Name x px, iter, ifs, 0⟩] scope pos) 0 (.ref I) (.ref D) (compEnvC scope cl C env)) (RR (.ref D) C) s₃ := by
    rintro s₃ rfl
    refine codeAny_compLoop_tests
      (fun k s' => ∃ h' tk i ys m' c, s' = { s with heap := h', toks := tk } ∧ i ≤ n ∧ k = n + 1 - i ∧ ys.length ≤ i ∧ St i h' ∧ Fr h₀ L h' m ∧ h'.Ns C m' ∧ News h₀ L h' ((D, lst ys) :: Nw c) ∧ (∀ p ∈ Nw c, p.1 ≠ I ∧ p.1 ≠ C ∧ p.1 ≠ D) ∧ R i c ys) ?_ (n + 1)
      ⟨h₁, _, 0, [], _, c₀, rfl, Nat.zero_le _, rfl, Nat.le_refl _, W.frame _ _ _ hst fun b _ o e => old b o e, F.keeps old, hns₁, ?_, ?_, hR⟩
    · rintro k s' ⟨h', tk, i, ys, m', c, rfl, hi, rfl, hyl, hst', F', hn', N', off', hR'⟩
      by_cases hlt : i < n
      · refine W.item i _ _ _ hlt hst' fun v h₂ tk₂ hPv hst₂ hk₂ => ?_
        have hk₂' : ∀ b o, b ≠ I → h'.get? b = some o → h₂.get? b = some o := fun b o hb e => hk₂ b o (by simpa using hb) e
        refine wpAny_assign_Name (wpAny_storeName_local (lookup_relabel_local hx) (hn'.at' fun o e => hk₂' _ o (neN (by omega)) e) (fun h₃ hn₃ hs₃ => ?_) (by simp [compEnvC, relabel, hkind]))
        have up : ∀ b o, b ≠ I → b ≠ C → h'.get? b = some o → h₃.get? b = some o := fun b o h1 h2 e => hs₃.extBut b o h2 (hk₂' b o h1 e)
        have hst₃ : St (i + 1) h₃ := W.frame _ _ _ hst₂ fun b hb o e => hs₃.extBut b o (fun q => hCf (by have q' : b = C := q; rw [← q']; exact hb)) e
        obtain ⟨oI, heI⟩ := hlive _ _ hst₃
        obtain ⟨oC, heC, hoC⟩ := ns_obj hn₃
        have F₃ : Fr h₀ L h₃ m := (fr_but F' hk₂ hIL hI).change hs₃ ((neN (by omega) : @Ne Nat C L)) hC₀
        have N₃ : News h₀ L h₃ ((I, oI) :: (C, oC) :: (D, lst ys) :: Nw c) := fun p hp => by
          rcases List.mem_cons.mp hp with rfl | hp
          · exact ⟨heI, Ne.symm hIL, hI⟩
          · rcases List.mem_cons.mp hp with rfl | hp
            · exact ⟨heC, (neN (by omega) : @Ne Nat C L), hC₀⟩
            · have z := N' p hp
              rcases List.mem_cons.mp hp with rfl | hp
              · exact ⟨up _ _ ((neN (by omega) : @Ne Nat D I)) ((neN (by omega) : @Ne Nat D C)) z.1, z.2⟩
              · exact ⟨up _ _ (off' p hp).1 (off' p hp).2.1 z.1, z.2⟩
        refine wpAny_mono (turn i v c ys oI C oC D _ h₃ _ _ hlt hPv hR' hyl hoC (by simp) F₃ N₃ off' ⟨neN (by omega), neN (by omega), neN (by omega)⟩) (fun ok s₄ q => ?_) fun _ _ e => e
        have after : ∀ (ys' : List Value) (s₅ : Shared), CEnd h₀ L m s I oI C oC D (lst ys) Nw (fun c' => R (i + 1) c' ys') s₅ → ∃ c' h₅ tk₅, s₅ = { s with heap := h₅, toks := tk₅ } ∧ Fr h₀ L h₅ m ∧ News h₀ L h₅ ((D, lst ys) :: Nw c') ∧ (∀ p ∈ Nw c', p.1 ≠ I ∧ p.1 ≠ C ∧ p.1 ≠ D) ∧ St (i + 1) h₅ ∧ (∃ m₅, h₅.Ns C m₅) ∧ R (i + 1) c' ys' := by
          rintro ys' s₅ ⟨c', h₅, tk₅, nw, rfl, F₅, N₅, sub, off₅, R₅⟩
          refine ⟨c', h₅, tk₅, rfl, F₅, fun p hp => N₅ p (sub p (List.mem_cons_of_mem _ (List.mem_cons_of_mem _ hp))), off₅, ?_, ⟨_, hoC.ns (N₅ _ (sub _ (List.mem_cons_of_mem _ List.mem_cons_self))).1⟩, R₅⟩
          refine W.frame _ _ _ hst₃ fun b hb o e => ?_
          by_cases hbI : b = I
          · subst hbI
            have : o = oI := by have e' : h₃.get? b = some oI := heI; rw [e] at e'; cases e'; rfl
            rw [this]; exact (N₅ _ (sub _ List.mem_cons_self)).1
          · rcases hfx b hb hbI with ⟨o', ho'⟩ | ⟨o', ho'⟩
            · have e1 := F₃.keep b o' ho'
              rw [e] at e1; cases e1
              exact F₅.keep b o ho'
            · have e1 := (N₃ _ (List.mem_cons_of_mem _ (List.mem_cons_of_mem _ (List.mem_cons_of_mem _ (ho' c))))).1
              have e1' : h₃.get? b = some o' := e1
              rw [e] at e1'; cases e1'
              exact (N₅ _ (sub _ (List.mem_cons_of_mem _ (List.mem_cons_of_mem _ (List.mem_cons_of_mem _ (ho' c')))))).1
        cases ok with
        | false =>
          simp only [Bool.false_eq_true, if_false] at q ⊢
          obtain ⟨c', h₅, tk₅, rfl, F₅, N₅, off₅, st₅, ⟨m₅, ns₅⟩, R₅⟩ := after ys _ q
          exact ⟨n + 1 - (i + 1), by omega, h₅, tk₅, i + 1, ys, m₅, c', rfl, hlt, rfl, by omega, st₅, F₅, ns₅, N₅, off₅, R₅⟩
        | true =>
          simp only [if_true] at q ⊢
          refine wpAny_mono q (fun y s₅ q => ?_) fun _ _ e => e
          obtain ⟨c', h₅, tk₅, rfl, F₅, N₅, off₅, st₅, ⟨m₅, ns₅⟩, R₅⟩ := after (ys ++ [y]) _ q
          refine append_at (hsz := by show ys.toArray.size ≤ sizeLine; rw [List.size_toArray]; omega) (N₅ _ List.mem_cons_self).1 fun h₆ hs₆ hD₆ => ?_
          refine ⟨n + 1 - (i + 1), by omega, h₆, tk₅, i + 1, ys ++ [y], m₅, c', rfl, hlt, rfl, by rw [List.length_append, List.length_singleton]; omega, W.frame _ _ _ st₅ fun b hb o e => hs₆.extBut b o (fun q => hDf (by have q' : b = D := q; rw [← q']; exact hb)) e, F₅.change hs₆ ((neN (by omega) : @Ne Nat D L)) hD₀, ns₅.sameBut hs₆ ((neN (by omega) : @Ne Nat C D)), fun p hp => ?_, off₅, R₅⟩
          rcases List.mem_cons.mp hp with rfl | hp
          · exact ⟨hD₆.trans (congrArg some (lst_snoc ys y)), (neN (by omega) : @Ne Nat D L), hD₀⟩
          · have z := N₅ p (List.mem_cons_of_mem _ hp)
            exact ⟨hs₆.extBut _ _ (off₅ p hp).2.2 z.1, z.2⟩
      · obtain rfl : i = n := Nat.le_antisymm hi (Nat.not_lt.mp hlt)
        refine W.done _ _ _ hst' fun h₂ tk₂ hk₂ => ?_
        refine done D C h₂ tk₂ m' c ys hR' (fr_but F' hk₂ hIL hI) (news_but N' hk₂ fun p hp => ?_) (fun p hp => (off' p hp).2.2) (hn'.at' fun o e => hk₂ _ o (by simpa using (neN (by omega) : @Ne Nat C I)) e) hC₀ hD₀ (neN (by omega)) (neN (by omega)) (neN (by omega)) (fun p hp => (off' p hp).2.1)
        rcases List.mem_cons.mp hp with rfl | hp
        · exact (neN (by omega) : @Ne Nat D I)
        · exact (off' p hp).1
    · intro p hp
      rcases List.mem_cons.mp hp with rfl | hp
      · exact ⟨hacc, (neN (by omega) : @Ne Nat D L), hD₀⟩
      · exact ⟨old _ _ (N p (hn p hp)).1, (N p (hn p hp)).2⟩
    · intro p hp
      have := lt_of _ _ (N p (hn p hp)).1
      exact ⟨hni p hp, neN (by omega), neN (by omega)⟩
  exact codeAny_compStart_list (loop _ rfl) (W.self 0 _ _ _ (W.frame _ _ _ hst fun b _ o e => old b o e) (loop _ rfl))

/-- behind the source of a comprehension: what is left to run -/
def CompGo (prog : Program) (w : World) (A : Around) (E : Value → Shared → Prop) (h₀ : Heap) (L : Addr) (m : Str → Option Value) (env : Env) (elt : Expr) (ifs : List Expr) (x : Str) (px : Pos) (iter : Expr) (scope : Scope) (pos : Pos) (cl : List (Str × Addr)) (Fin : Addr → List (Addr × Obj) → Shared → Prop) (xv : Value) (s₁ : Shared) : Prop :=
  ∀ RR : Value → Addr → Result → Shared → Prop,
    (∀ D C h tk m' news' , Fr h₀ L h m → News h₀ L h news' → h.Ns C m' → h₀.get? C = none → h₀.get? D = none → C ≠ L → D ≠ L → C ≠ D → (∀ p ∈ news', p.1 ≠ C) →
      Fin D news' s₁ → RR (.ref D) C (.ok .next) { s₁ with heap := h, toks := tk }) →
    wpAny (model prog w) A (pyIter xv) (fun it s₂ => wpAny (model prog w) A (newList []) (fun acc s₃ => wpAny (model prog w) A (newFunctionEnv scope env.globals cl [] env.qual none .none (some env)) (fun cenv s₄ =>
      codeAny (model prog w) A (.compStart (.ListComp elt [⟨.Name x px, iter, ifs, 0⟩] scope pos) 0 it acc { cenv with scope := relabel scope env }) (RR acc cenv.locals) s₄) E s₃) E s₂) E s₁

def CFinE (h₀ : Heap) (L : Addr) (m : Str → Option Value) (Q : Value → Shared → Prop) (D : Addr) (news' : List (Addr × Obj)) (s : Shared) : Prop :=
  ∀ h' tk', Fr h₀ L h' m → News h₀ L h' news' → Q (.ref D) { s with heap := h', toks := tk' }
def CFinA (h₀ : Heap) (L : Addr) (m : Str → Option Value) (y : Str) (Q : Flow → Shared → Prop) (D : Addr) (news' : List (Addr × Obj)) (s : Shared) : Prop :=
  ∀ h' tk', Fr h₀ L h' (fun z => if z = y then some (.ref D) else m z) → News h₀ L h' news' → Q .next { s with heap := h', toks := tk' }

theorem ListComp_go {elt iter : Expr} {ifs : List Expr} {x : Str} {px : Pos} {scope : Scope} {cl : List (Str × Addr)} {pos : Pos} {Q : Value → Shared → Prop} (hF0 : Fr h₀ L s.heap m)
    (hclos : closureFor scope env = pure cl) (hkind : scope.kind = .function)
    (hnames : ∀ y ∈ scope.names, y.2 = .local → scope.names.lookup y.1 = some .local)
    (h : wpAny (model prog w) A (eval iter env) (fun xv s₁ => CompGo prog w A E h₀ L m env elt ifs x px iter scope pos cl (CFinE h₀ L m Q) xv s₁) E s)
    (hs : ∀ x, foldedSetIterable iter env x = pure x := by intro _; rfl) :
    wpAny (model prog w) A (eval (.ListComp elt [⟨.Name x px, iter, ifs, 0⟩] scope pos) env) Q E s := by
  rw [eval_ListComp]
  refine wpAny_comprehension_free (use := none) rfl hs hclos hkind hnames (wpAny_mono h (fun xv s₁ h₁ => ?_) fun _ _ e => e)
  refine h₁ (fun acc C r s' => compPost (model prog w) A E none Q acc C r s') ?_
  intro D C hh tk m' news' F N hns hC₀ hD₀ hCL hDL hCD off fin
  exact ⟨m', hns, fun h'' hs'' => fin h'' tk (F.change hs'' hCL hC₀) fun p hp => ⟨hs''.extBut _ _ (off p hp) (N p hp).1, (N p hp).2⟩⟩

theorem Assign_ListComp_go {elt iter : Expr} {ifs : List Expr} {x y : Str} {px py : Pos} {scope : Scope} {cl : List (Str × Addr)} {pos spos : Pos} {Q : Flow → Shared → Prop} (hF0 : Fr h₀ L s.heap m) (hLe : env.locals = L)
    (hsw : swapsWith (.ListComp elt [⟨.Name x px, iter, ifs, 0⟩] scope pos) (some (.Name y py)) spos.line env = pure true)
    (hclos : closureFor scope env = pure cl) (hkind : scope.kind = .function)
    (hnames : ∀ z ∈ scope.names, z.2 = .local → scope.names.lookup z.1 = some .local)
    (hy : env.kindOf y = some .local) (hp : (env.scope.kind == .class || (env.scope.kind == .module && env.locals != env.globals)) = false)
    (h : wpAny (model prog w) A (eval iter env) (fun xv s₁ => CompGo prog w A E h₀ L m env elt ifs x px iter scope pos cl (CFinA h₀ L m y Q) xv s₁) E s)
    (hs : ∀ x, foldedSetIterable iter env x = pure x := by intro _; rfl) :
    wpAny (model prog w) A (exec (.Assign [.Name y py] (.ListComp elt [⟨.Name x px, iter, ifs, 0⟩] scope pos) spos) env) Q E s := by
  subst hLe
  rw [exec_Assign_Name_used _ _ _ _ hsw]
  refine wpAny_bind (wpAny_standAt (wpAny_bind ?_))
  show wpAny _ A (do let _ ← comprehension (.ListComp elt [⟨.Name x px, iter, ifs, 0⟩] scope pos) scope env _ (newList []) false (eval iter env) (some (assign (.Name y py) env))) _ _ s
  refine wpAny_bind (wpAny_mono (wpAny_comprehension_free (use := some (assign (.Name y py) env)) (Q := fun _ s' => Q .next s') rfl hs hclos hkind hnames
    (wpAny_mono h (fun xv s₁ h₁ => ?_) fun _ _ e => e)) (fun _ s' hq => wpAny_pure (wpAny_pure hq)) fun _ _ e => e)
  refine h₁ (fun acc C r s' => compPost (model prog w) A E (some (assign (.Name y py) env)) (fun _ s' => Q .next s') acc C r s') ?_
  intro D C hh tk m' news' F N hns hC₀ hD₀ hCL hDL hCD off fin
  show wpAny _ A (assign (.Name y py) env (.ref D)) _ _ _
  refine wpAny_assign_Name (wpAny_storeName_local hy F.ns (fun h₂ hn₂ hs₂ => ?_) hp)
  have hL₀ : h₀.get? env.locals = none := Heap.get?_none_of_le F.above
  have F₂ : Fr h₀ env.locals h₂ (fun z => if z = y then some (.ref D) else m z) := ⟨hn₂, fun b o e => hs₂.extBut b o (fun q => by rw [q, hL₀] at e; cases e) (F.keep b o e), F.above⟩
  exact ⟨m', hns.sameBut hs₂ hCL, fun h'' hs'' => fin h'' _ (F₂.change hs'' hCL hC₀) fun p hp => ⟨hs''.extBut _ _ (off p hp) (hs₂.extBut _ _ (N p hp).2.1 (N p hp).1), (N p hp).2⟩⟩

theorem CompGo.str {σ : Type} {elt iter : Expr} {ifs : List Expr} {x : Str} {px : Pos} {scope : Scope} {cl : List (Str × Addr)} {pos : Pos} {Fin : Addr → List (Addr × Obj) → Shared → Prop} {z : Str} {t : Tok}
    (Nw : σ → List (Addr × Obj)) (R : Nat → σ → List Value → Prop) (c₀ : σ) (hh : A.handled = none) (F : Fr h₀ L s.heap m) (N : News h₀ L s.heap news) (hn : ∀ p ∈ Nw c₀, p ∈ news) (hsz : z.cps.size ≤ sizeLine) (hR : R 0 c₀ [])
    (hcell : ∀ y ∈ scope.names, y.2 ≠ .cell) (hkind : scope.kind = .function) (hx : scope.names.lookup x = some .local)
    (turn : ∀ i cp u c ys I oI C oC D m₂ h tk (E' : Value → Shared → Prop), z.cps[i]? = some cp → R i c ys → ys.length ≤ i → NsObj oC m₂ → m₂ x = some (.str ⟨#[cp]⟩ u) → Fr h₀ L h m → News h₀ L h ((I, oI) :: (C, oC) :: (D, lst ys) :: Nw c) →
      (∀ p ∈ Nw c, p.1 ≠ I ∧ p.1 ≠ C ∧ p.1 ≠ D) → I ≠ C ∧ I ≠ D ∧ C ≠ D →
      wpAny (model prog w) A (forIn ifs true fun c r => if r = true then do let ok ← isTrue c (compEnvC scope cl C env) (eval c (compEnvC scope cl C env)); pure (ForInStep.yield ok) else pure (ForInStep.yield r))
        (fun ok s₃ => if ok = true then wpAny (model prog w) A (eval elt (compEnvC scope cl C env)) (fun y s₄ => CEnd h₀ L m s I oI C oC D (lst ys) Nw (fun c' => R (i + 1) c' (ys ++ [y])) s₄) E' s₃
          else CEnd h₀ L m s I oI C oC D (lst ys) Nw (fun c' => R (i + 1) c' ys) s₃) E' { s with heap := h, toks := tk })
    (done : ∀ D c ys, R z.cps.size c ys → (∀ p ∈ Nw c, p.1 ≠ D) → Fin D ((D, lst ys) :: Nw c) s) :
    CompGo prog w A E h₀ L m env elt ifs x px iter scope pos cl Fin (.str z t) s := by
  intro RR hRR
  have hI : h₀.get? s.heap.objs.size = none := next_is_new F
  have key : ∀ (nm : String), (Walks prog w A s.heap.objs.size [s.heap.objs.size] [s.heap.objs.size] z.cps.size (SignAt z) (fun i h => h.IsStrIter s.heap.objs.size nm z t i)) → ∀ o, (s.heap.push o).IsStrIter s.heap.objs.size nm z t 0 →
      wpAny (model prog w) A (newList []) (fun acc s₃ => wpAny (model prog w) A (newFunctionEnv scope env.globals cl [] env.qual none .none (some env)) (fun cenv s₄ =>
        codeAny (model prog w) A (.compStart (.ListComp elt [⟨.Name x px, iter, ifs, 0⟩] scope pos) 0 (.ref s.heap.objs.size) acc { cenv with scope := relabel scope env }) (RR acc cenv.locals) s₄) E s₃) E { s with heap := s.heap.push o } := by
    intro nm W o hst
    refine comp_block (s := { s with heap := s.heap.push o }) (news := news) W hsz Nw R c₀ (fun i h st => ⟨_, st.choose_spec.1⟩) ?_ hcell hkind hx hst ?_ (F.push _) (fun p hp => ⟨Heap.get?_push_of_some _ (N p hp).1, (N p hp).2⟩) hn (Nat.ne_of_lt F.ns.lt) hI ?_ hR ?_ ?_
    · intro b hb hne; exact absurd (List.mem_singleton.mp hb) hne
    · intro b hb; rw [List.mem_singleton.mp hb]; show s.heap.objs.size < (s.heap.push _).objs.size; rw [Heap.size_push]; exact Nat.lt_succ_self _
    · intro p hp e; exact absurd (Heap.lt_size (N p (hn p hp)).1) (e ▸ Nat.lt_irrefl _)
    · rintro i v c ys oI C oC D m₂ h tk E' hi ⟨cp, u, hcp, rfl⟩ hRi hyl hC hm F₁ N₁ off dis
      exact turn i cp u c ys _ oI C oC D m₂ h tk E' hcp hRi hyl hC hm F₁ N₁ off dis
    · intro D C h tk m' c ys hRn F₁ N₁ off hns hC₀ hD₀ hCL hDL hCD offC
      refine hRR D C h tk m' _ F₁ N₁ hns hC₀ hD₀ hCL hDL hCD ?_ (done D c ys hRn off)
      intro p hp
      rcases List.mem_cons.mp hp with rfl | hp
      · exact Ne.symm hCD
      · exact offC p hp
  cases ha : z.cps.all (· < 128)
  · exact wpAny_pyIter_wide ha (key _ (Walks.strWide hh _ z t) _ ⟨_, Heap.get?_push_size _ rfl, rfl, rfl⟩)
  · exact wpAny_pyIter_ascii ha (key _ (Walks.strAscii hh _ z t) _ ⟨_, Heap.get?_push_size _ rfl, rfl, rfl⟩)

theorem CompGo.range {σ : Type} {elt iter : Expr} {ifs : List Expr} {x : Str} {px : Pos} {scope : Scope} {cl : List (Str × Addr)} {pos : Pos} {Fin : Addr → List (Addr × Obj) → Shared → Prop} {r : Addr} {a₀ b₀ : Int} {t₀ u₀ v₀ : Tok} (n : Nat)
    (Nw : σ → List (Addr × Obj)) (R : Nat → σ → List Value → Prop) (c₀ : σ) (hh : A.handled = none) (hr : IsRange s.heap r a₀ b₀ 1 t₀ u₀ v₀) (hsmall : Builtin.Range.small a₀ b₀ 1 = true) (hnn : Builtin.Range.rangeSize a₀ b₀ 1 = (n : Int))
    (F : Fr h₀ L s.heap m) (N : News h₀ L s.heap news) (hn : ∀ p ∈ Nw c₀, p ∈ news) (hsz : n ≤ sizeLine) (hR : R 0 c₀ [])
    (hcell : ∀ y ∈ scope.names, y.2 ≠ .cell) (hkind : scope.kind = .function) (hx : scope.names.lookup x = some .local)
    (turn : ∀ i u c ys I oI C oC D m₂ h tk (E' : Value → Shared → Prop), i < n → R i c ys → ys.length ≤ i → NsObj oC m₂ → m₂ x = some (.int (a₀ + (i : Int)) u) → Fr h₀ L h m → News h₀ L h ((I, oI) :: (C, oC) :: (D, lst ys) :: Nw c) →
      (∀ p ∈ Nw c, p.1 ≠ I ∧ p.1 ≠ C ∧ p.1 ≠ D) → I ≠ C ∧ I ≠ D ∧ C ≠ D →
      wpAny (model prog w) A (forIn ifs true fun c r => if r = true then do let ok ← isTrue c (compEnvC scope cl C env) (eval c (compEnvC scope cl C env)); pure (ForInStep.yield ok) else pure (ForInStep.yield r))
        (fun ok s₃ => if ok = true then wpAny (model prog w) A (eval elt (compEnvC scope cl C env)) (fun y s₄ => CEnd h₀ L m s I oI C oC D (lst ys) Nw (fun c' => R (i + 1) c' (ys ++ [y])) s₄) E' s₃
          else CEnd h₀ L m s I oI C oC D (lst ys) Nw (fun c' => R (i + 1) c' ys) s₃) E' { s with heap := h, toks := tk })
    (done : ∀ D c ys, R n c ys → (∀ p ∈ Nw c, p.1 ≠ D) → Fin D ((D, lst ys) :: Nw c) s) :
    CompGo prog w A E h₀ L m env elt ifs x px iter scope pos cl Fin (.ref r) s := by
  intro RR hRR
  have hI : h₀.get? s.heap.objs.size = none := next_is_new F
  refine wpAny_pyIter_range hr hsmall ?_
  refine comp_block (s := { s with heap := s.heap.push _ }) (news := news) (LCg.range_walks (I := s.heap.objs.size) hh a₀ n) hsz Nw R c₀ (fun i h st => ⟨_, st⟩) ?_ hcell hkind hx (by show IsRangeIter _ _ _ _ _; rw [hnn]; simpa using Heap.get?_push_size _ rfl) ?_ (F.push _) (fun p hp => ⟨Heap.get?_push_of_some _ (N p hp).1, (N p hp).2⟩) hn (Nat.ne_of_lt F.ns.lt) hI ?_ hR ?_ ?_
  · intro b hb hne; exact absurd (List.mem_singleton.mp hb) hne
  · intro b hb; rw [List.mem_singleton.mp hb]; show s.heap.objs.size < (s.heap.push _).objs.size; rw [Heap.size_push]; exact Nat.lt_succ_self _
  · intro p hp e; exact absurd (Heap.lt_size (N p (hn p hp)).1) (e ▸ Nat.lt_irrefl _)
  · rintro i v c ys oI C oC D m₂ h tk E' hi ⟨u, rfl⟩ hRi hyl hC hm F₁ N₁ off dis
    exact turn i u c ys _ oI C oC D m₂ h tk E' hi hRi hyl hC hm F₁ N₁ off dis
  · intro D C h tk m' c ys hRn F₁ N₁ off hns hC₀ hD₀ hCL hDL hCD offC
    refine hRR D C h tk m' _ F₁ N₁ hns hC₀ hD₀ hCL hDL hCD ?_ (done D c ys hRn off)
    intro p hp
    rcases List.mem_cons.mp hp with rfl | hp
    · exact Ne.symm hCD
    · exact offC p hp

/-- the source is a list of the ledger -/
theorem CompGo.made {σ : Type} {elt iter : Expr} {ifs : List Expr} {x : Str} {px : Pos} {scope : Scope} {cl : List (Str × Addr)} {pos : Pos} {Fin : Addr → List (Addr × Obj) → Shared → Prop} {l : Addr} {its : Array Value} {e : Nat}
    (Nw : σ → List (Addr × Obj)) (R : Nat → σ → List Value → Prop) (c₀ : σ) (hh : A.handled = none) (hl : ∀ c, (l, W.listOf its e) ∈ Nw c)
    (F : Fr h₀ L s.heap m) (N : News h₀ L s.heap news) (hn : ∀ p ∈ Nw c₀, p ∈ news) (hsz : its.size ≤ sizeLine) (hR : R 0 c₀ [])
    (hcell : ∀ y ∈ scope.names, y.2 ≠ .cell) (hkind : scope.kind = .function) (hx : scope.names.lookup x = some .local)
    (turn : ∀ i v c ys I oI C oC D m₂ h tk (E' : Value → Shared → Prop), its[i]? = some v → R i c ys → ys.length ≤ i → NsObj oC m₂ → m₂ x = some v → Fr h₀ L h m → News h₀ L h ((I, oI) :: (C, oC) :: (D, lst ys) :: Nw c) →
      (∀ p ∈ Nw c, p.1 ≠ I ∧ p.1 ≠ C ∧ p.1 ≠ D) → I ≠ C ∧ I ≠ D ∧ C ≠ D →
      wpAny (model prog w) A (forIn ifs true fun c r => if r = true then do let ok ← isTrue c (compEnvC scope cl C env) (eval c (compEnvC scope cl C env)); pure (ForInStep.yield ok) else pure (ForInStep.yield r))
        (fun ok s₃ => if ok = true then wpAny (model prog w) A (eval elt (compEnvC scope cl C env)) (fun y s₄ => CEnd h₀ L m s I oI C oC D (lst ys) Nw (fun c' => R (i + 1) c' (ys ++ [y])) s₄) E' s₃
          else CEnd h₀ L m s I oI C oC D (lst ys) Nw (fun c' => R (i + 1) c' ys) s₃) E' { s with heap := h, toks := tk })
    (done : ∀ D c ys, R its.size c ys → (∀ p ∈ Nw c, p.1 ≠ D) → Fin D ((D, lst ys) :: Nw c) s) :
    CompGo prog w A E h₀ L m env elt ifs x px iter scope pos cl Fin (.ref l) s := by
  intro RR hRR
  have hI : h₀.get? s.heap.objs.size = none := next_is_new F
  have hls : s.heap.IsList l its := ⟨_, (N _ (hn _ (hl c₀))).1, rfl, _, rfl⟩
  have hlt : l < s.heap.objs.size := Heap.lt_size (N _ (hn _ (hl c₀))).1
  have hne : l ≠ s.heap.objs.size := Nat.ne_of_lt hlt
  refine wpAny_pyIter_list hls ?_
  refine comp_block (s := { s with heap := s.heap.push _ }) (news := news) (Walks.list hh s.heap.objs.size l hne its) hsz Nw R c₀ (fun i h st => ⟨_, st.1.choose_spec.1⟩) ?_ hcell hkind hx ⟨⟨_, Heap.get?_push_size _ rfl, rfl, rfl⟩, hls.at fun o e => Heap.get?_push_of_some _ e⟩ ?_ (F.push _) (fun p hp => ⟨Heap.get?_push_of_some _ (N p hp).1, (N p hp).2⟩) hn (Nat.ne_of_lt F.ns.lt) hI ?_ hR ?_ ?_
  · intro b hb hne
    rcases List.mem_cons.mp hb with rfl | hb
    · exact absurd rfl hne
    · rw [List.mem_singleton.mp hb]; exact .inr ⟨_, hl⟩
  · intro b hb
    show b < (s.heap.push _).objs.size
    rw [Heap.size_push]
    rcases List.mem_cons.mp hb with rfl | hb
    · exact Nat.lt_succ_self _
    · rw [List.mem_singleton.mp hb]; exact Nat.lt_succ_of_lt hlt
  · intro p hp e; exact absurd (Heap.lt_size (N p (hn p hp)).1) (e ▸ Nat.lt_irrefl _)
  · rintro i v c ys oI C oC D m₂ h tk E' hi hv hRi hyl hC hm F₁ N₁ off dis
    exact turn i v c ys _ oI C oC D m₂ h tk E' hv hRi hyl hC hm F₁ N₁ off dis
  · intro D C h tk m' c ys hRn F₁ N₁ off hns hC₀ hD₀ hCL hDL hCD offC
    refine hRR D C h tk m' _ F₁ N₁ hns hC₀ hD₀ hCL hDL hCD ?_ (done D c ys hRn off)
    intro p hp
    rcases List.mem_cons.mp hp with rfl | hp
    · exact Ne.symm hCD
    · exact offC p hp

/-- `in` a list of a text and None or another text -/
def wallHit (sep : Str) (alt : Value) (z : Str) : Bool := sep == z || valHitsStr z alt
theorem in_walls {wl : Addr} {sep z : Str} {alt : Value} {t u : Tok} {e : Nat} {Q : Value → Shared → Prop} (N : News h₀ L s.heap news) (hm : (wl, W.listOf #[.str sep t, alt] e) ∈ news) (ha : alt = .none ∨ ∃ y u, alt = .str y u)
    (h : Q (.bool (wallHit sep alt z)) s) : wpAny (model prog w) A (compareOp .In (.str z u) (.ref wl)) Q E s := by
  refine PySem.SeqAt.in_listAt (valHitsStr z) (items := #[.str sep t, alt]) ⟨_, (N _ hm).1, rfl, _, rfl⟩ ?_ ?_
  · intro y hy
    have hy' : y = .str sep t ∨ y = alt := by simpa using hy
    rcases hy' with rfl | rfl
    · exact PySem.SeqAt.EqAt.str_str _ _ _ _
    · rcases ha with rfl | ⟨y, u, rfl⟩
      · exact PySem.SeqAt.EqAt.none_str _ _
      · exact PySem.SeqAt.EqAt.str_str _ _ _ _
  · simpa [wallHit, valHitsStr] using h
theorem notin_walls {wl : Addr} {sep z : Str} {alt : Value} {t u : Tok} {e : Nat} {Q : Value → Shared → Prop} (N : News h₀ L s.heap news) (hm : (wl, W.listOf #[.str sep t, alt] e) ∈ news) (ha : alt = .none ∨ ∃ y u, alt = .str y u)
    (h : Q (.bool (!wallHit sep alt z)) s) : wpAny (model prog w) A (compareOp .NotIn (.str z u) (.ref wl)) Q E s := by
  refine PySem.SeqAt.notIn_listAt (valHitsStr z) (items := #[.str sep t, alt]) ⟨_, (N _ hm).1, rfl, _, rfl⟩ ?_ ?_
  · intro y hy
    have hy' : y = .str sep t ∨ y = alt := by simpa using hy
    rcases hy' with rfl | rfl
    · exact PySem.SeqAt.EqAt.str_str _ _ _ _
    · rcases ha with rfl | ⟨y, u, rfl⟩
      · exact PySem.SeqAt.EqAt.none_str _ _
      · exact PySem.SeqAt.EqAt.str_str _ _ _ _
  · simpa [wallHit, valHitsStr] using h
theorem ne_nilK {l b : Addr} {items : Array Value} {Q : Value → Shared → Prop} (hl : s.heap.IsList l items) (hb : s.heap.IsList b #[]) (hu : A.units < cLine)
    (h : Q (.bool (items.size != 0)) s) : wpAny (model prog w) A (compareOp .NotEq (.ref l) (.ref b)) Q E s := by
  by_cases hz : items.size = 0
  · have e : items = #[] := Array.eq_empty_of_size_eq_zero hz
    subst e
    refine PySem.SeqAt.RcNeAt.lists (e := fun _ => true) hl hb rfl hu ?_ prog w E Q ?_
    · intro j h1 _; exact absurd h1 (Nat.not_lt_zero _)
    · exact h
  · refine PySem.SeqAt.RcNeAt.lists_lengths hl hb ?_ hu prog w E Q ?_
    · simpa using hz
    · have : (items.size != 0) = true := by simpa using hz
      rw [this] at h; exact h
end
end Mine
end

section
open PySem.Builtin PySem.Builtin.Str
namespace Mine
theorem slice_ab (x : Str) (a b : Nat) (hab : a ≤ b) (hb : b ≤ x.length) : Txt.slice x (some (a : Int)) (some (b : Int)) = ⟨((x.cps.toList.drop a).take (b - a)).toArray⟩ := by
  have hl : x.cps.toList.length = x.length := by simp [Str.length]
  have e : (strSliceIndices (some (a : Int)) (some (b : Int)) 1 x.length).filterMap (x.cps[·]?) = (x.cps.toList.drop a).take (b - a) := by
    exact StrLaws.sliced_plain x hab hb
  unfold Txt.slice
  split
  · rename_i h
    simp only [BEq.rfl, Bool.true_and] at h
    rw [StrLaws.strSliceIndices_plain hab hb] at h
    simp at h
    have ha : a = 0 := by omega
    have hb' : b = x.length := by omega
    subst ha
    subst hb'
    have : (List.drop 0 x.cps.toList).take (x.length - 0) = x.cps.toList := by
      rw [List.drop_zero, Nat.sub_zero, ← hl, List.take_length]
    rw [this]
  · rw [e]
theorem slice_none_l (x : Str) (u : Option Int) : Txt.slice x none u = Txt.slice x (some 0) u := by
  have : strSliceIndices none u 1 x.length = strSliceIndices (some 0) u 1 x.length := by
    unfold strSliceIndices
    simp only [show (1 : Int) > 0 by decide, if_true]
    have : max 0 (min (if (0 : Int) < 0 then (0 : Int) + (x.length : Int) else 0) (x.length : Int)) = 0 := by split <;> omega
    rw [this]
  unfold Txt.slice; rw [this]
theorem slice_none_r (x : Str) (l : Option Int) : Txt.slice x l none = Txt.slice x l (some (x.length : Int)) := by
  have : strSliceIndices l none 1 x.length = strSliceIndices l (some (x.length : Int)) 1 x.length := by
    unfold strSliceIndices
    simp only [show (1 : Int) > 0 by decide, if_true]
    have : max 0 (min (if (x.length : Int) < 0 then (x.length : Int) + (x.length : Int) else (x.length : Int)) (x.length : Int)) = (x.length : Int) := by split <;> omega
    rw [this]
  unfold Txt.slice; rw [this]
theorem slice_from (x : Str) (a : Nat) (h : a ≤ x.length) : Txt.slice x (some (a : Int)) none = ⟨(x.cps.toList.drop a).toArray⟩ := by
  rw [slice_none_r, slice_ab x a x.length h (Nat.le_refl _)]
  congr 2
  apply List.take_of_length_le
  simp [Str.length]
theorem slice_to (x : Str) (b : Nat) (h : b ≤ x.length) : Txt.slice x none (some (b : Int)) = ⟨(x.cps.toList.take b).toArray⟩ := by
  rw [slice_none_l]
  have := slice_ab x 0 b (Nat.zero_le _) h
  simpa using this
theorem slice_one (x : Str) (i : Nat) (h : i < x.length) : Txt.slice x (some (i : Int)) (some ((i : Int) + 1)) = ⟨#[x.cps.toList[i]'(by simpa [Str.length] using h)]⟩ := by
  have := slice_ab x i (i + 1) (by omega) (by omega)
  rw [show (((i + 1 : Nat) : Int)) = (i : Int) + 1 by omega] at this
  rw [this]
  have hl : i < x.cps.toList.length := by simpa [Str.length] using h
  rw [show i + 1 - i = 1 by omega, List.drop_eq_getElem_cons hl]
  simp
theorem item_at (x : Str) (i : Nat) (h : i < x.length) : Txt.item x (i : Int) = ⟨#[x.cps.toList[i]'(by simpa [Str.length] using h)]⟩ := by
  have h' : i < x.cps.size := h
  unfold Txt.item Txt.charAt seqIndex?
  have h0 : ¬ ((i : Int) < 0) := by omega
  simp only [if_neg h0]
  have : (decide (0 ≤ (i : Int)) && decide ((i : Int) < (x.length : Int))) = true := by simp; omega
  rw [if_pos this]
  simp [h']
theorem mk1 {a b : Nat} : ((⟨#[a]⟩ : Str) = ⟨#[b]⟩) ↔ a = b := by simp
theorem mk1_beq {a b : Nat} : ((⟨#[a]⟩ : Str) == ⟨#[b]⟩) = (a == b) := by
  by_cases h : a = b
  · subst h; simp
  · have : ¬ ((⟨#[a]⟩ : Str) = ⟨#[b]⟩) := fun e => h (mk1.mp e)
    rw [beq_eq_false_iff_ne.mpr this, beq_eq_false_iff_ne.mpr h]

/-- the last place of a sign, -1 if there is none -/
def lastIx (c : Nat) : List Nat → Int
  | [] => -1
  | x :: r => if 0 ≤ lastIx c r then lastIx c r + 1 else if x = c then 0 else -1
theorem lastIx_ge (c : Nat) : ∀ xs, -1 ≤ lastIx c xs
  | [] => by simp [lastIx]
  | x :: r => by unfold lastIx; have := lastIx_ge c r; split <;> (try split) <;> omega
theorem lastIx_lt (c : Nat) : ∀ xs : List Nat, lastIx c xs < xs.length
  | [] => by simp [lastIx]
  | x :: r => by unfold lastIx; have := lastIx_lt c r; simp only [List.length_cons]; split <;> (try split) <;> omega
theorem lastIx_spec (c : Nat) : ∀ (xs : List Nat) (i : Nat), lastIx c xs = (i : Int) ↔ (xs[i]? = some c ∧ ∀ j, i < j → xs[j]? ≠ some c)
  | [], i => by simp [lastIx]
  | x :: r, i => by
    have ih := lastIx_spec c r
    have hge := lastIx_ge c r
    unfold lastIx
    by_cases h : 0 ≤ lastIx c r
    · rw [if_pos h]
      obtain ⟨k, hk⟩ : ∃ k : Nat, lastIx c r = k := ⟨(lastIx c r).toNat, by omega⟩
      obtain ⟨a1, a2⟩ := (ih k).mp hk
      constructor
      · intro e
        have : i = k + 1 := by omega
        subst this
        refine ⟨by simpa using a1, fun j hj => ?_⟩
        obtain ⟨j', rfl⟩ : ∃ j', j = j' + 1 := ⟨j - 1, by omega⟩
        simpa using a2 j' (by omega)
      · rintro ⟨b1, b2⟩
        cases i with
        | zero => exact absurd (by simpa using a1) (b2 (k + 1) (by omega))
        | succ i =>
          have : lastIx c r = (i : Int) := (ih i).mpr ⟨by simpa using b1, fun j hj => by simpa using b2 (j + 1) (by omega)⟩
          omega
    · rw [if_neg h]
      have hn : ∀ (j : Nat), r[j]? ≠ some c := by
        intro j hj
        -- take the last one
        have : ∃ k : Nat, r[k]? = some c ∧ ∀ j, k < j → r[j]? ≠ some c := by
          have : ∀ n, ∀ j : Nat, r.length - j ≤ n → r[j]? = some c → ∃ k : Nat, r[k]? = some c ∧ ∀ j, k < j → r[j]? ≠ some c := by
            intro n
            induction n with
            | zero => intro j hl hj; rw [List.getElem?_eq_none (by omega)] at hj; cases hj
            | succ n ihn =>
              intro j hl hj
              by_cases hex : ∃ j', j < j' ∧ r[j']? = some c
              · obtain ⟨j', h1, h2⟩ := hex
                exact ihn j' (by omega) h2
              · exact ⟨j, hj, fun j' h1 h2 => hex ⟨j', h1, h2⟩⟩
          exact this _ j (Nat.le_refl _) hj
        obtain ⟨k, h1, h2⟩ := this
        have := (ih k).mpr ⟨h1, h2⟩
        omega
      constructor
      · intro e
        split at e
        · rename_i hx
          have : i = 0 := by omega
          subst this
          exact ⟨by simp [hx], fun j hj => by obtain ⟨j', rfl⟩ : ∃ j', j = j' + 1 := ⟨j - 1, by omega⟩; simpa using hn j'⟩
        · omega
      · rintro ⟨b1, b2⟩
        cases i with
        | zero =>
          have : x = c := by simpa using b1
          rw [if_pos this]; rfl
        | succ i => exact absurd (by simpa using b1) (hn i)
theorem at_one (x : Str) (c i : Nat) : StrLaws.At x ⟨#[c]⟩ x.length i ↔ x.cps.toList[i]? = some c := by
  unfold StrLaws.At
  rw [StrLaws.subAt_eq]
  have h1 : (⟨#[c]⟩ : Str).length = 1 := rfl
  rw [h1]
  have hl : x.length = x.cps.toList.length := by simp [Str.length]
  rw [hl]
  constructor
  · rintro ⟨h2, h3⟩
    have hlt : i < x.cps.toList.length := by omega
    rw [List.drop_eq_getElem_cons hlt] at h3
    simp at h3
    rw [List.getElem?_eq_getElem hlt]
    simpa using h3
  · intro h
    have hlt : i < x.cps.toList.length := by
      rcases Nat.lt_or_ge i x.cps.toList.length with q | q
      · exact q
      · rw [List.getElem?_eq_none q] at h; cases h
    refine ⟨by omega, ?_⟩
    rw [List.drop_eq_getElem_cons hlt]
    rw [List.getElem?_eq_getElem hlt] at h
    have := Option.some.inj h
    simp at this
    simp [this]
theorem rfind_one (x : Str) (c : Nat) : Txt.rfind x ⟨#[c]⟩ = lastIx c x.cps.toList := by
  rcases rfind_whole x ⟨#[c]⟩ with ⟨h, hn⟩ | ⟨i, h, hi, hn⟩
  · rw [h]
    have hge := lastIx_ge c x.cps.toList
    rcases Int.lt_or_le (lastIx c x.cps.toList) 0 with q | q
    · omega
    · obtain ⟨k, hk⟩ : ∃ k : Nat, lastIx c x.cps.toList = k := ⟨(lastIx c x.cps.toList).toNat, by omega⟩
      exact absurd ((at_one x c k).mpr ((lastIx_spec c _ k).mp hk).1) (hn k)
  · rw [h]
    exact ((lastIx_spec c _ i).mpr ⟨(at_one x c i).mp hi, fun j hj e => hn j hj ((at_one x c j).mpr e)⟩).symm
end Mine
end

section
namespace Mine
def IsLast (p : Nat → Bool) (ts : List Nat) (i : Int) : Prop :=
  -1 ≤ i ∧ (∀ (j : Nat) (c : Nat), i < j → ts[j]? = some c → p c = false) ∧ (0 ≤ i → ∃ c, ts[i.toNat]? = some c ∧ p c = true)
theorem isLast_one (c : Nat) (ts : List Nat) : IsLast (fun x => c == x) ts (lastIx c ts) := by
  have hge := lastIx_ge c ts
  refine ⟨hge, ?_, ?_⟩
  · intro j d hj hd
    by_cases h : c = d
    · subst h
      exfalso
      by_cases h0 : 0 ≤ lastIx c ts
      · obtain ⟨k, hk⟩ : ∃ k : Nat, lastIx c ts = k := ⟨(lastIx c ts).toNat, by omega⟩
        exact ((lastIx_spec c ts k).mp hk).2 j (by omega) hd
      · -- no place at all
        have : ∀ n, ∀ j : Nat, ts.length - j ≤ n → ts[j]? = some c → ∃ k : Nat, ts[k]? = some c ∧ ∀ j, k < j → ts[j]? ≠ some c := by
          intro n
          induction n with
          | zero => intro j hl hj; rw [List.getElem?_eq_none (by omega)] at hj; cases hj
          | succ n ihn =>
            intro j hl hj
            by_cases hex : ∃ j', j < j' ∧ ts[j']? = some c
            · obtain ⟨j', h1, h2⟩ := hex
              exact ihn j' (by omega) h2
            · exact ⟨j, hj, fun j' h1 h2 => hex ⟨j', h1, h2⟩⟩
        obtain ⟨k, h1, h2⟩ := this _ j (Nat.le_refl _) hd
        have := (lastIx_spec c ts k).mpr ⟨h1, h2⟩
        omega
    · simpa using h
  · intro h0
    obtain ⟨k, hk⟩ : ∃ k : Nat, lastIx c ts = k := ⟨(lastIx c ts).toNat, by omega⟩
    have := ((lastIx_spec c ts k).mp hk).1
    exact ⟨c, by rw [hk]; simpa using this, by simp⟩
theorem isLast_or {p q : Nat → Bool} {ts : List Nat} {i j : Int} (hp : IsLast p ts i) (hq : IsLast q ts j) : IsLast (fun x => p x || q x) ts (if j > i then j else i) := by
  obtain ⟨a1, a2, a3⟩ := hp
  obtain ⟨b1, b2, b3⟩ := hq
  split
  · rename_i h
    refine ⟨b1, fun k c hk hc => ?_, fun h0 => ?_⟩
    · show (p c || q c) = false; rw [a2 k c (by omega) hc, b2 k c hk hc]; rfl
    · obtain ⟨c, hc, hc'⟩ := b3 h0
      exact ⟨c, hc, by show (p c || q c) = true; rw [hc']; simp⟩
  · rename_i h
    refine ⟨a1, fun k c hk hc => ?_, fun h0 => ?_⟩
    · show (p c || q c) = false; rw [a2 k c hk hc, b2 k c (by omega) hc]; rfl
    · obtain ⟨c, hc, hc'⟩ := a3 h0
      exact ⟨c, hc, by show (p c || q c) = true; rw [hc']; rfl⟩
theorem isLast_congr {p q : Nat → Bool} {ts : List Nat} {i : Int} (h : IsLast p ts i) (e : ∀ x, p x = q x) : IsLast q ts i := by
  have : p = q := funext e
  exact this ▸ h
end Mine
end

section
namespace Mine
/-- one past the last sign that is no dot, among the first k; 0 where it is a wall -/
def startsOf (ts : List Nat) (W : Nat → Bool) : Nat → Nat
  | 0 => 0
  | k + 1 => if ts.getD k 0 ≠ 46 then (if W (ts.getD k 0) then 0 else k + 1) else startsOf ts W k
def goodC (W : Nat → Bool) (c : Nat) : Bool := c != 46 && !W c
def reachOf (ts : List Nat) (W : Nat → Bool) (k : Nat) : Nat := ((ts.drop (k + 1)).takeWhile (goodC W)).length + 1
def CutB (ts : List Nat) (W : Nat → Bool) (i j k : Nat) : Bool := (ts.getD k 0 == 46) && decide (i < startsOf ts W k) && decide (k < j) && decide (j ≤ k + reachOf ts W k)

theorem getD_of {ts : List Nat} {q c : Nat} (h : ts[q]? = some c) : ts.getD q 0 = c := by simp [List.getD_eq_getElem?_getD, h]
theorem some_of {ts : List Nat} {q : Nat} (h : q < ts.length) : ts[q]? = some (ts.getD q 0) := by simp [List.getD_eq_getElem?_getD, List.getElem?_eq_getElem h]
theorem lt_of_some {ts : List Nat} {q c : Nat} (h : ts[q]? = some c) : q < ts.length := by
  rcases Nat.lt_or_ge q ts.length with a | a
  · exact a
  · rw [List.getElem?_eq_none a] at h; cases h
theorem goodC_iff {W : Nat → Bool} {c : Nat} : goodC W c = true ↔ c ≠ 46 ∧ W c = false := by
  unfold goodC; simp

theorem starts_le (ts : List Nat) (W : Nat → Bool) : ∀ k, startsOf ts W k ≤ k
  | 0 => Nat.le_refl _
  | k + 1 => by
    have := starts_le ts W k
    unfold startsOf
    split
    · split <;> omega
    · omega
theorem starts_iff {ts : List Nat} {W : Nat → Bool} (hW : W 46 = false) {i : Nat} : ∀ k, k ≤ ts.length → (i < startsOf ts W k ↔ ∃ m c, i ≤ m ∧ m < k ∧ ts[m]? = some c ∧ c ≠ 46 ∧ W c = false ∧ ∀ q d, m < q → q < k → ts[q]? = some d → W d = false)
  | 0, _ => by
    constructor
    · intro h; exact absurd h (Nat.not_lt_zero _)
    · rintro ⟨m, c, _, h, _⟩; exact absurd h (Nat.not_lt_zero _)
  | k + 1, hk => by
    have ih := starts_iff (ts := ts) hW (i := i) k (by omega)
    have hk' := some_of (ts := ts) (q := k) (by omega)
    unfold startsOf
    by_cases hd : ts.getD k 0 ≠ 46
    · rw [if_pos hd]
      by_cases hw : W (ts.getD k 0) = true
      · rw [if_pos hw]
        constructor
        · intro h; exact absurd h (Nat.not_lt_zero _)
        · rintro ⟨m, c, h1, h2, h3, h4, h5, h6⟩
          exfalso
          by_cases e : m = k
          · subst e
            rw [hk'] at h3; cases h3
            rw [hw] at h5; cases h5
          · have := h6 k _ (by omega) (by omega) hk'
            rw [hw] at this; cases this
      · rw [if_neg hw]
        constructor
        · intro h
          exact ⟨k, _, by omega, by omega, hk', hd, by simpa using hw, fun q d h1 h2 => by omega⟩
        · rintro ⟨m, c, h1, h2, _⟩; omega
    · rw [if_neg hd, ih]
      have hd' : ts.getD k 0 = 46 := by simpa using hd
      constructor
      · rintro ⟨m, c, h1, h2, h3, h4, h5, h6⟩
        refine ⟨m, c, h1, by omega, h3, h4, h5, fun q d g1 g2 g3 => ?_⟩
        by_cases e : q = k
        · subst e
          rw [hk', hd'] at g3; cases g3; exact hW
        · exact h6 q d g1 (by omega) g3
      · rintro ⟨m, c, h1, h2, h3, h4, h5, h6⟩
        have : m ≠ k := by
          intro e; subst e
          rw [hk', hd'] at h3; cases h3; exact h4 rfl
        exact ⟨m, c, h1, by omega, h3, h4, h5, fun q d g1 g2 g3 => h6 q d g1 (by omega) g3⟩

theorem takeWhile_iff {p : Nat → Bool} : ∀ (l : List Nat) (r : Nat), r ≤ (l.takeWhile p).length ↔ r ≤ l.length ∧ ∀ q c, q < r → l[q]? = some c → p c = true
  | [], r => by simp
  | x :: l, 0 => by simp
  | x :: l, r + 1 => by
    have ih := takeWhile_iff (p := p) l r
    by_cases hx : p x = true
    · rw [List.takeWhile_cons_of_pos hx, List.length_cons, List.length_cons]
      constructor
      · intro h
        obtain ⟨h1, h2⟩ := ih.mp (by omega)
        refine ⟨by omega, fun q c hq hc => ?_⟩
        cases q with
        | zero => simp at hc; rw [← hc]; exact hx
        | succ q => exact h2 q c (by omega) (by simpa using hc)
      · rintro ⟨h1, h2⟩
        have := ih.mpr ⟨by omega, fun q c hq hc => h2 (q + 1) c (by omega) (by simpa using hc)⟩
        omega
    · rw [List.takeWhile_cons_of_neg hx]
      constructor
      · intro h; simp at h
      · rintro ⟨_, h2⟩
        exact absurd (h2 0 x (by omega) rfl) hx
theorem reach_iff {ts : List Nat} {W : Nat → Bool} {j k : Nat} (hk : k < ts.length) (hkj : k < j) : j ≤ k + reachOf ts W k ↔ j ≤ ts.length ∧ ∀ q c, k < q → q < j → ts[q]? = some c → c ≠ 46 ∧ W c = false := by
  obtain ⟨r, rfl⟩ : ∃ r, j = k + 1 + r := ⟨j - k - 1, by omega⟩
  have h := takeWhile_iff (p := goodC W) (ts.drop (k + 1)) r
  unfold reachOf
  rw [show (k + 1 + r ≤ k + (((ts.drop (k + 1)).takeWhile (goodC W)).length + 1)) ↔ r ≤ ((ts.drop (k + 1)).takeWhile (goodC W)).length from ⟨fun h => by omega, fun h => by omega⟩, h, List.length_drop]
  constructor
  · rintro ⟨h1, h2⟩
    refine ⟨by omega, fun q c g1 g2 g3 => goodC_iff.mp (h2 (q - (k + 1)) c (by omega) ?_)⟩
    rw [List.getElem?_drop, show k + 1 + (q - (k + 1)) = q by omega]; exact g3
  · rintro ⟨h1, h2⟩
    refine ⟨by omega, fun q c g1 g2 => goodC_iff.mpr (h2 (k + 1 + q) c (by omega) (by omega) ?_)⟩
    rw [List.getElem?_drop] at g2; exact g2
theorem reach_pos (ts : List Nat) (W : Nat → Bool) (k : Nat) : 1 ≤ reachOf ts W k := by unfold reachOf; omega
theorem reach_le {ts : List Nat} {W : Nat → Bool} {k : Nat} (hk : k < ts.length) : k + reachOf ts W k ≤ ts.length := ((reach_iff hk (by have := reach_pos ts W k; omega)).mp (Nat.le_refl _)).1

/-- what it is that a window [i, j) is cut at k -/
def CutP (ts : List Nat) (W : Nat → Bool) (i j k : Nat) : Prop := ts[k]? = some 46 ∧ k < j ∧ (∀ q c, k < q → q < j → ts[q]? = some c → c ≠ 46 ∧ W c = false) ∧ ∃ m c, i ≤ m ∧ m < k ∧ ts[m]? = some c ∧ c ≠ 46 ∧ W c = false ∧ ∀ q d, m < q → q < k → ts[q]? = some d → W d = false
theorem cutB_iff {ts : List Nat} {W : Nat → Bool} (hW : W 46 = false) {i j k : Nat} (hk : k < ts.length) (hj : j ≤ ts.length) : CutB ts W i j k = true ↔ CutP ts W i j k := by
  unfold CutB CutP
  rw [Bool.and_eq_true, Bool.and_eq_true, Bool.and_eq_true, decide_eq_true_iff, decide_eq_true_iff, decide_eq_true_iff, beq_iff_eq, starts_iff hW k (by omega)]
  constructor
  · rintro ⟨⟨⟨h1, h2⟩, h3⟩, h4⟩
    exact ⟨by rw [some_of hk, h1], h3, ((reach_iff hk h3).mp h4).2, h2⟩
  · rintro ⟨h1, h2, h3, h4⟩
    exact ⟨⟨⟨getD_of h1, h4⟩, h2⟩, (reach_iff hk h2).mpr ⟨hj, h3⟩⟩

theorem window_at {ts : List Nat} {i j q : Nat} (hq : q < j - i) : ((ts.drop i).take (j - i))[q]? = ts[i + q]? := by
  rw [List.getElem?_take_of_lt hq, List.getElem?_drop]
theorem window_in {ts : List Nat} {i j q c : Nat} (h : ((ts.drop i).take (j - i))[q]? = some c) : q < j - i ∧ ts[i + q]? = some c := by
  have hq : q < j - i := by
    have := lt_of_some h
    rw [List.length_take] at this; omega
  exact ⟨hq, by rw [← window_at hq]; exact h⟩
theorem window_iff {ts : List Nat} {W : Nat → Bool} (hW : W 46 = false) {i j : Nat} (hij : i ≤ j) (hj : j ≤ ts.length) {sepi : Int} (hs : IsLast W ((ts.drop i).take (j - i)) sepi) {k : Nat} :
    CutP ts W i j k ↔ ((sepi < lastIx 46 ((ts.drop i).take (j - i)) ∧ ∃ p : Int, sepi + 1 ≤ p ∧ p < lastIx 46 ((ts.drop i).take (j - i)) ∧ ((ts.drop i).take (j - i))[p.toNat]? ≠ some 46) ∧ (k : Int) = i + lastIx 46 ((ts.drop i).take (j - i))) := by
  obtain ⟨s1, s2, s3⟩ := hs
  constructor
  · rintro ⟨h1, h2, h3, m, c, m1, m2, m3, m4, m5, m6⟩
    have hlast : lastIx 46 ((ts.drop i).take (j - i)) = ((k - i : Nat) : Int) := by
      refine (lastIx_spec 46 _ (k - i)).mpr ⟨?_, fun q hq e => ?_⟩
      · rw [window_at (by omega), show i + (k - i) = k by omega]; exact h1
      · obtain ⟨e1, e2⟩ := window_in e
        exact (h3 (i + q) 46 (by omega) (by omega) e2).1 rfl
    have hsm : sepi < ((m - i : Nat) : Int) := by
      rcases Int.lt_or_le sepi ((m - i : Nat) : Int) with q | q
      · exact q
      · exfalso
        obtain ⟨cc, c1, c2⟩ := s3 (by omega)
        obtain ⟨e1, e2⟩ := window_in c1
        by_cases a1 : i + sepi.toNat = m
        · rw [a1, m3] at e2; cases e2; rw [m5] at c2; cases c2
        · by_cases a2 : i + sepi.toNat < k
          · have := m6 (i + sepi.toNat) cc (by omega) a2 e2
            rw [this] at c2; cases c2
          · by_cases a3 : i + sepi.toNat = k
            · rw [a3, h1] at e2; cases e2; rw [hW] at c2; cases c2
            · have := (h3 (i + sepi.toNat) cc (by omega) (by omega) e2).2
              rw [this] at c2; cases c2
    rw [hlast]
    refine ⟨⟨by omega, ((m - i : Nat) : Int), by omega, by omega, ?_⟩, by omega⟩
    show ((ts.drop i).take (j - i))[m - i]? ≠ some 46
    rw [window_at (by omega), show i + (m - i) = m by omega, m3]
    intro e; exact m4 (Option.some.inj e)
  · rintro ⟨⟨h1, p, h2, h3, h4⟩, h5⟩
    obtain ⟨d, hd⟩ : ∃ d : Nat, lastIx 46 ((ts.drop i).take (j - i)) = d := ⟨(lastIx 46 ((ts.drop i).take (j - i))).toNat, by omega⟩
    obtain ⟨a1, a2⟩ := (lastIx_spec 46 _ d).mp hd
    obtain ⟨b1, b2⟩ := window_in a1
    rw [hd] at h1 h3 h5
    obtain rfl : k = i + d := by omega
    refine ⟨b2, by omega, fun q c g1 g2 g3 => ?_, ?_⟩
    · have g4 : ((ts.drop i).take (j - i))[q - i]? = some c := by
        rw [window_at (by omega), show i + (q - i) = q by omega]; exact g3
      exact ⟨fun e => a2 (q - i) (by omega) (e ▸ g4), s2 (q - i) c (by omega) g4⟩
    · have hp : p.toNat < j - i := by omega
      have hpl : i + p.toNat < ts.length := by omega
      have g0 := some_of hpl
      rw [window_at hp, g0] at h4
      have gw : ((ts.drop i).take (j - i))[p.toNat]? = some (ts.getD (i + p.toNat) 0) := by rw [window_at hp]; exact g0
      refine ⟨i + p.toNat, _, by omega, by omega, g0, fun e => h4 (by rw [e]), s2 p.toNat _ (by omega) gw, fun q dd g1 g2 g3 => ?_⟩
      refine s2 (q - i) dd (by omega) ?_
      rw [window_at (by omega), show i + (q - i) = q by omega]; exact g3

/-- sums -/
def sumTo (f : Nat → Int) : Nat → Int
  | 0 => 0
  | t + 1 => sumTo f t + f t
def tri : Nat → Nat
  | 0 => 0
  | v + 1 => tri v + (v + 1)
theorem tri_succ (v : Nat) : tri (v + 1) = tri v + (v + 1) := rfl
theorem tri_two : ∀ v, tri v * 2 = v * (v + 1)
  | 0 => rfl
  | v + 1 => by
    have := tri_two v
    unfold tri
    rw [Nat.add_mul, this, Nat.mul_comm v, ← Nat.mul_add]
theorem tri_div (v : Nat) : Int.fdiv ((v : Int) * ((v : Int) + 1)) 2 = (tri v : Int) := by
  have h := tri_two v
  have h' : (v : Int) * ((v : Int) + 1) = (tri v : Int) * 2 := by exact_mod_cast h.symm
  rw [h', Int.fdiv_eq_ediv_of_nonneg _ (by decide)]
  exact Int.mul_ediv_cancel _ (by decide)

theorem sumTo_zero {f : Nat → Int} : ∀ t, (∀ q, q < t → f q = 0) → sumTo f t = 0
  | 0, _ => rfl
  | t + 1, h => by
    unfold sumTo
    rw [sumTo_zero t fun q hq => h q (by omega), h t (by omega)]; rfl
theorem sumTo_congr {f g : Nat → Int} : ∀ t, (∀ q, q < t → f q = g q) → sumTo f t = sumTo g t
  | 0, _ => rfl
  | t + 1, h => by
    unfold sumTo
    rw [sumTo_congr t fun q hq => h q (by omega), h t (by omega)]

def stepX (ts : List Nat) (W : Nat → Bool) (i k q : Nat) : Int := if CutB ts W i (i + q) k then 1 else 0
def stepY (ts : List Nat) (W : Nat → Bool) (i k q : Nat) : Int := if CutB ts W i (i + q) k then ((i + q : Nat) : Int) - k else 0
def rowX (ts : List Nat) (W : Nat → Bool) (i k t : Nat) : Int := sumTo (stepX ts W i k) t
def rowY (ts : List Nat) (W : Nat → Bool) (i k t : Nat) : Int := sumTo (stepY ts W i k) t
def allX (ts : List Nat) (W : Nat → Bool) (k i : Nat) : Int := sumTo (fun i' => rowX ts W i' k (ts.length + 1 - i')) i
def allY (ts : List Nat) (W : Nat → Bool) (k i : Nat) : Int := sumTo (fun i' => rowY ts W i' k (ts.length + 1 - i')) i

theorem rows_part {ts : List Nat} {W : Nat → Bool} {i k : Nat} (hd : ts.getD k 0 = 46) (hi : i < startsOf ts W k) : ∀ t, rowX ts W i k t = ((min (i + t - 1 - k) (reachOf ts W k) : Nat) : Int) ∧ rowY ts W i k t = (tri (min (i + t - 1 - k) (reachOf ts W k)) : Int)
  | 0 => by
    have := starts_le ts W k
    have e : i + 0 - 1 - k = 0 := by omega
    rw [e, Nat.zero_min]; exact ⟨rfl, rfl⟩
  | t + 1 => by
    obtain ⟨h1, h2⟩ := rows_part hd hi t
    have hk := starts_le ts W k
    have e1 : rowX ts W i k (t + 1) = rowX ts W i k t + stepX ts W i k t := rfl
    have e2 : rowY ts W i k (t + 1) = rowY ts W i k t + stepY ts W i k t := rfl
    rw [e1, e2, h1, h2]
    by_cases hc : k < i + t ∧ i + t ≤ k + reachOf ts W k
    · have hb : CutB ts W i (i + t) k = true := by
        unfold CutB; simp only [hd, hi, hc.1, hc.2, decide_true, Bool.and_true]; rfl
      have e3 : min (i + (t + 1) - 1 - k) (reachOf ts W k) = min (i + t - 1 - k) (reachOf ts W k) + 1 := by omega
      have e4 : min (i + t - 1 - k) (reachOf ts W k) + 1 = i + t - k := by omega
      rw [e3]
      unfold stepX stepY
      rw [if_pos hb, if_pos hb, tri_succ]
      generalize min (i + t - 1 - k) (reachOf ts W k) = v at e4 ⊢
      generalize tri v = z
      constructor <;> omega
    · have hb : ¬ CutB ts W i (i + t) k = true := by
        intro h
        unfold CutB at h
        simp only [Bool.and_eq_true, decide_eq_true_iff] at h
        exact hc ⟨h.1.2, h.2⟩
      have e3 : min (i + (t + 1) - 1 - k) (reachOf ts W k) = min (i + t - 1 - k) (reachOf ts W k) := by omega
      rw [e3]
      unfold stepX stepY
      rw [if_neg hb, if_neg hb]
      exact ⟨Int.add_zero _, Int.add_zero _⟩
theorem rows_none {ts : List Nat} {W : Nat → Bool} {i k : Nat} (h : ¬ (ts.getD k 0 = 46 ∧ i < startsOf ts W k)) (t : Nat) : rowX ts W i k t = 0 ∧ rowY ts W i k t = 0 := by
  have hb : ∀ q, ¬ CutB ts W i (i + q) k = true := by
    intro q hh
    unfold CutB at hh
    simp only [Bool.and_eq_true, decide_eq_true_iff, beq_iff_eq] at hh
    exact h hh.1.1
  exact ⟨sumTo_zero t fun q _ => if_neg (hb q), sumTo_zero t fun q _ => if_neg (hb q)⟩
theorem rows_full {ts : List Nat} {W : Nat → Bool} {i k : Nat} (hk : k < ts.length) (hd : ts.getD k 0 = 46) (hi : i < startsOf ts W k) : rowX ts W i k (ts.length + 1 - i) = (reachOf ts W k : Int) ∧ rowY ts W i k (ts.length + 1 - i) = (tri (reachOf ts W k) : Int) := by
  have h := rows_part hd hi (ts.length + 1 - i)
  have h1 := reach_le (W := W) hk
  have h2 := starts_le ts W k
  rwa [show min (i + (ts.length + 1 - i) - 1 - k) (reachOf ts W k) = reachOf ts W k by omega] at h
theorem sum_below {c : Int} {f : Nat → Int} {b : Nat} (h1 : ∀ i, i < b → f i = c) (h2 : ∀ i, b ≤ i → f i = 0) : ∀ i, sumTo f i = ((min i b : Nat) : Int) * c
  | 0 => by rw [Nat.zero_min]; simp [sumTo]
  | i + 1 => by
    have ih := sum_below h1 h2 i
    unfold sumTo
    rw [ih]
    by_cases h : i < b
    · rw [h1 i h, show min (i + 1) b = min i b + 1 by omega, Int.natCast_add, Int.add_mul]; simp
    · rw [h2 i (by omega), show min (i + 1) b = min i b by omega, Int.add_zero]
/-- what is counted at k in the end -/
theorem all_dot {ts : List Nat} {W : Nat → Bool} {k : Nat} (hk : k < ts.length) (hd : ts.getD k 0 = 46) : allX ts W k (ts.length + 1) = (startsOf ts W k : Int) * (reachOf ts W k : Int) ∧ allY ts W k (ts.length + 1) = (startsOf ts W k : Int) * (tri (reachOf ts W k) : Int) := by
  have hs := starts_le ts W k
  constructor
  · have := sum_below (b := startsOf ts W k) (f := fun i' => rowX ts W i' k (ts.length + 1 - i')) (c := (reachOf ts W k : Int)) (fun i hi => (rows_full hk hd hi).1) (fun i hi => (rows_none (fun h => by omega) _).1) (ts.length + 1)
    rw [show min (ts.length + 1) (startsOf ts W k) = startsOf ts W k by omega] at this
    exact this
  · have := sum_below (b := startsOf ts W k) (f := fun i' => rowY ts W i' k (ts.length + 1 - i')) (c := (tri (reachOf ts W k) : Int)) (fun i hi => (rows_full hk hd hi).2) (fun i hi => (rows_none (fun h => by omega) _).2) (ts.length + 1)
    rw [show min (ts.length + 1) (startsOf ts W k) = startsOf ts W k by omega] at this
    exact this
theorem all_other {ts : List Nat} {W : Nat → Bool} {k : Nat} (hd : ts.getD k 0 ≠ 46) (n : Nat) : allX ts W k n = 0 ∧ allY ts W k n = 0 :=
  ⟨sumTo_zero n fun _ _ => (rows_none (fun h => hd h.1) _).1, sumTo_zero n fun _ _ => (rows_none (fun h => hd h.1) _).2⟩
end Mine
end

section
namespace Mine
def wallOf (alt : Value) (c : Nat) : Bool := wallHit ⟨#[47]⟩ alt ⟨#[c]⟩
def AltOk3 (v : Value) : Prop := v = .none ∨ ∃ u, v = .str ⟨#[92]⟩ u
theorem wallOf_dot {alt : Value} (h : AltOk3 alt) : wallOf alt 46 = false := by
  rcases h with rfl | ⟨u, rfl⟩
  · show ((⟨#[47]⟩ : Str) == ⟨#[46]⟩ || false) = false
    rw [mk1_beq]; rfl
  · show ((⟨#[47]⟩ : Str) == ⟨#[46]⟩ || (⟨#[92]⟩ : Str) == ⟨#[46]⟩) = false
    rw [mk1_beq, mk1_beq]; rfl
theorem alt_last {X : Str} {alt : Value} {sepi : Int} (ho : AltOk3 alt) (hix : AltIx X ⟨#[47]⟩ alt sepi) : IsLast (wallOf alt) X.cps.toList sepi := by
  rcases ho with rfl | ⟨u, rfl⟩
  · have e : sepi = lastIx 47 X.cps.toList := by rw [← rfind_one]; exact hix
    rw [e]
    refine isLast_congr (isLast_one 47 _) fun x => ?_
    show (47 == x) = ((⟨#[47]⟩ : Str) == ⟨#[x]⟩ || false)
    rw [mk1_beq, Bool.or_false]
  · have e : sepi = if lastIx 92 X.cps.toList > lastIx 47 X.cps.toList then lastIx 92 X.cps.toList else lastIx 47 X.cps.toList := by
      rw [← rfind_one, ← rfind_one]; exact hix
    rw [e]
    refine isLast_congr (isLast_or (isLast_one 47 _) (isLast_one 92 _)) fun x => ?_
    show (47 == x || 92 == x) = ((⟨#[47]⟩ : Str) == ⟨#[x]⟩ || (⟨#[92]⟩ : Str) == ⟨#[x]⟩)
    rw [mk1_beq, mk1_beq]
theorem win_plain {ts : List Nat} {i j : Nat} {X a b : Str} {alt : Value} {sepi : Int} (hij : i ≤ j) (hj : j ≤ ts.length) (hX : X = ⟨((ts.drop i).take (j - i)).toArray⟩) (ho : AltOk3 alt) (hix : AltIx X ⟨#[47]⟩ alt sepi) (hsp : SplitSpec X sepi (Txt.rfind X ⟨#[46]⟩) ⟨#[46]⟩ a b) :
    a ++ b = X ∧ ((b = ⟨#[]⟩ ∧ ∀ k, k < ts.length → CutB ts (wallOf alt) i j k = false) ∨
      ∃ k, k < ts.length ∧ i + a.length = k ∧ b.length = j - k ∧ k < j ∧ CutB ts (wallOf alt) i j k = true ∧ ∀ k', k' < ts.length → k' ≠ k → CutB ts (wallOf alt) i j k' = false) := by
  have hW := wallOf_dot ho
  have hlast := alt_last ho hix
  have hl : X.cps.toList = (ts.drop i).take (j - i) := by rw [hX]
  have hlen : X.length = j - i := by
    have : X.cps.toList.length = j - i := by rw [hl, List.length_take, List.length_drop]; omega
    simpa [Str.length] using this
  rw [hl] at hlast
  rw [rfind_one, hl] at hsp
  have hlt := lastIx_lt 46 ((ts.drop i).take (j - i))
  have hge := lastIx_ge 46 ((ts.drop i).take (j - i))
  have hsi := hlast.1
  have hwl : ((ts.drop i).take (j - i)).length = j - i := by rw [List.length_take, List.length_drop]; omega
  have hne : ∀ p : Int, sepi + 1 ≤ p → p < lastIx 46 ((ts.drop i).take (j - i)) → (Txt.slice X (some p) (some (p + 1)) ≠ ⟨#[46]⟩ ↔ ((ts.drop i).take (j - i))[p.toNat]? ≠ some 46) := by
    intro p h1 h2
    obtain ⟨q, rfl⟩ : ∃ q : Nat, p = q := ⟨p.toNat, by omega⟩
    have hq : q < X.length := by omega
    have hq' : q < X.cps.toList.length := by simpa [Str.length] using hq
    rw [slice_one X q hq, ← hl]
    show _ ↔ X.cps.toList[q]? ≠ some 46
    rw [List.getElem?_eq_getElem hq']
    constructor
    · intro h e; exact h (mk1.mpr (Option.some.inj e))
    · intro h e; exact h (congrArg some (mk1.mp e))
  have hcond : (sepi < lastIx 46 ((ts.drop i).take (j - i)) ∧ ∃ p : Int, sepi + 1 ≤ p ∧ p < lastIx 46 ((ts.drop i).take (j - i)) ∧ Txt.slice X (some p) (some (p + 1)) ≠ ⟨#[46]⟩) ↔ (sepi < lastIx 46 ((ts.drop i).take (j - i)) ∧ ∃ p : Int, sepi + 1 ≤ p ∧ p < lastIx 46 ((ts.drop i).take (j - i)) ∧ ((ts.drop i).take (j - i))[p.toNat]? ≠ some 46) :=
    ⟨fun ⟨h, p, h1, h2, h3⟩ => ⟨h, p, h1, h2, (hne p h1 h2).mp h3⟩, fun ⟨h, p, h1, h2, h3⟩ => ⟨h, p, h1, h2, (hne p h1 h2).mpr h3⟩⟩
  rcases hsp with ⟨h1, h2, ha, hb⟩ | ⟨h1, ha, hb⟩
  · have hC := hcond.mp ⟨h1, h2⟩
    obtain ⟨d, hd⟩ : ∃ d : Nat, lastIx 46 ((ts.drop i).take (j - i)) = d := ⟨(lastIx 46 ((ts.drop i).take (j - i))).toNat, by omega⟩
    rw [hd] at ha hb
    have hdX : d ≤ X.length := by omega
    rw [slice_to X d hdX, hl] at ha
    rw [slice_from X d hdX, hl] at hb
    have hk : i + d < ts.length := by omega
    have hcut : ∀ k', k' < ts.length → (CutB ts (wallOf alt) i j k' = true ↔ k' = i + d) := by
      intro k' hk'
      rw [cutB_iff hW hk' hj, window_iff hW hij hj hlast]
      constructor
      · rintro ⟨_, e⟩; omega
      · intro e; exact ⟨hC, by omega⟩
    refine ⟨?_, .inr ⟨i + d, hk, ?_, ?_, by omega, (hcut _ hk).mpr rfl, fun k' hk' hne' => ?_⟩⟩
    · rw [ha, hb, hX]
      show (⟨_ ++ _⟩ : Str) = _
      congr 1
      simp
    · rw [ha]; simp [Str.length]; omega
    · rw [hb]; simp [Str.length]; omega
    · have := mt (hcut k' hk').mp hne'
      simpa using this
  · have hC : ¬ _ := fun h => h1 (hcond.mpr h)
    have hb' : b = ⟨#[]⟩ := by
      rw [hb]; simpa using slice_to X 0 (Nat.zero_le _)
    refine ⟨?_, .inl ⟨hb', fun k hk => ?_⟩⟩
    · rw [ha, hb']
      show (⟨_ ++ _⟩ : Str) = _
      simp
    · have : ¬ CutB ts (wallOf alt) i j k = true := by
        rw [cutB_iff hW hk hj, window_iff hW hij hj hlast]
        exact fun h => hC h.1
      simpa using this
end Mine
end

section
namespace Mine
open_top hd3 for PySem.Challenge.rw_dn0116_03
end Mine
end

section
namespace Mine
local macro_rules | `(tactic| walk_at "WTurnInt") => `(tactic| (with_reducible refine WTurnInt.ret ?_))
local macro_rules | `(tactic| walk_at "TurnSt") => `(tactic| (with_reducible refine TurnSt.ret ?_))
local macro_rules | `(tactic| walk_at "exec While Compare cons nil") => `(tactic| (with_reducible refine Stop.out ?_))

theorem splitext_c : ∀ (w : World) (mean : ExcName → Option Value) (mg mb : Str → Option Value) (dp un : Nat) (gd : Option (List Code)) (cn : Str) (cs : Scope) (a : Addr) (ccd : Value) (cl : List (Str × Addr)) (outer : List Env) (A₀ : Around) (base h₀ : Heap) (L : Addr) (m : Str → Option Value) (news : List (Addr × Obj)) (s : Shared)
    (p sep ext : Str) (alt : Value) (t1 t2 t3 : Tok) (Q E : Value → Shared → Prop),
    Below A₀ base outer h₀ → Fr h₀ L s.heap m → (hd3.heap_39 w.params).In h₀ → News h₀ L s.heap news → Top hd3.view_39 (looseW hd3.view_39 []) mean mg mb h₀ → cs.kind = .function → dp < 900 → un < 900 → p.length ≤ 1000000 →
    (alt = .none ∨ ∃ y u, alt = .str y u ∧ y.length ≤ 1000000) →
    (∀ sepi t a b ta tb h' tk', AltIx p sep alt sepi → SplitSpec p sepi (Txt.rfind p ext) ext a b → Fr h₀ L h' m → News h₀ L h' ((t, tupObj [.str a ta, .str b tb]) :: news) → (∀ q ∈ news, q.1 < t) → Q (.ref t) { s with heap := h', toks := tk' }) →
    wpAny (model PySem.Challenge.rw_dn0116_03.prog w) (ktrTop dp un gd cn cs L a ccd cl outer) (call (.ref 21) [.str p t1, .str sep t2, alt, .str ext t3]) Q E s := by
  k_fill
  intro w mean mg mb dp un gd cn cs a ccd cl outer A₀ base h₀ L m news s p sep ext alt t1 t2 t3 Q E B F X N T hk hd hu hlen halt hret
  rcases halt with rfl | ⟨al, u, rfl, hal⟩
  all_goals
    refine wpAny_call ?_
    k_dflt ktr_enter
    k_steps
  all_goals first
    | exact hret _ _ _ _ _ _ _ _ (by first | exact altIx_none | exact altIx_some (by assumption) | exact altIx_zero (by assumption)) (.inr ⟨fun h => absurd h.1 (by assumption), rfl, rfl⟩) (by assumption) (by assumption) (by assumption)
    | refine ⟨?_⟩
      refine while_int (fun i₀ i => i₀ ≤ i ∧ ∀ j, i₀ ≤ j → j < i → Txt.slice p (some j) (some (j + 1)) = ext) (fun i => (Txt.rfind p ext - i).toNat) (by with_reducible assumption) (by with_reducible assumption) ⟨Int.le_refl _, fun j h1 h2 => absurd h1 (by omega)⟩ ?_
      rintro i t h tk ⟨hi, hall⟩ F9 N9
      k_steps
      all_goals first
        | exact hret _ _ _ _ _ _ _ _ (by first | exact altIx_none | exact altIx_some (by assumption) | exact altIx_zero (by assumption)) (.inl ⟨by assumption, ⟨i, hi, by assumption, by simpa using (by assumption : (Txt.slice p (some i) (some (i + 1)) != ext) = true)⟩, rfl, rfl⟩) (by assumption) (by assumption) (by assumption)
        | exact hret _ _ _ _ _ _ _ _ (by first | exact altIx_none | exact altIx_some (by assumption) | exact altIx_zero (by assumption)) (.inr ⟨fun h => let ⟨j, h1, h2, h3⟩ := h.2; h3 (hall j h1 (by omega)), rfl, rfl⟩) (by assumption) (by assumption) (by assumption)
        | refine WTurnInt.next (by with_reducible assumption) (by with_reducible assumption) (fun _ h => h) ⟨by omega, fun j h1 h2 => ?_⟩ (by omega)
          rcases Int.lt_or_eq_of_le (Int.le_of_lt_add_one h2) with h3 | h3
          · exact hall j h1 h3
          · subst h3; simpa using (by assumption : (Txt.slice p (some _) (some (_ + 1)) != ext) = false)
end Mine
end

section
namespace Mine
structure Row where
  a : Addr
  x : Int
  tx : Tok
  y : Int
  ty : Tok
  e : Nat
def Row.obj (r : Row) : Obj := W.listOf #[.int r.x r.tx, .int r.y r.ty] r.e
def cellsOf (rs : List Row) : List (Addr × Obj) := rs.map fun r => (r.a, r.obj)
def refsOf (rs : List Row) : List Value := rs.map fun r => .ref r.a
def dueX (ts : List Nat) (W : Nat → Bool) (k : Nat) : Int := if ts.getD k 0 = 46 then (startsOf ts W k : Int) * (reachOf ts W k : Int) else 0
def dueY (ts : List Nat) (W : Nat → Bool) (k : Nat) : Int := if ts.getD k 0 = 46 then (startsOf ts W k : Int) * (tri (reachOf ts W k) : Int) else 0
theorem refs_push (rows : List Row) (r : Row) : (refsOf (rows ++ [r])).toArray = (refsOf rows).toArray.push (.ref r.a) := by
  unfold refsOf; simp
theorem due_mem {I d : Addr} {oI : Obj} {rows : List Row} {news : List (Addr × Obj)} {r : Row} {e : Nat} : ∀ p ∈ (I, oI) :: (d, W.listOf (refsOf (rows ++ [r])).toArray (e + 1)) :: (cellsOf (rows ++ [r]) ++ news), p ∈ (r.a, r.obj) :: (I, oI) :: (d, W.listOf ((refsOf rows).toArray.push (.ref r.a)) (e + 1)) :: (cellsOf rows ++ news) := by
  intro p hp
  rw [refs_push] at hp
  unfold cellsOf at *
  simp only [List.map_append, List.map_cons, List.map_nil, List.mem_cons, List.mem_append, List.not_mem_nil, or_false] at hp ⊢
  rcases hp with h | h | (h | h) | h
  · exact .inr (.inl h)
  · exact .inr (.inr (.inl h))
  · exact .inr (.inr (.inr (.inl h)))
  · exact .inl h
  · exact .inr (.inr (.inr (.inr h)))
theorem due_off {I d : Addr} {rows : List Row} {news : List (Addr × Obj)} {r : Row} {e e' : Nat} {o o' : Array Value} (h : ∀ p ∈ (d, W.listOf o e) :: (cellsOf rows ++ news), p.1 ≠ I) (hr : r.a ≠ I) : ∀ p ∈ (d, W.listOf o' e') :: (cellsOf (rows ++ [r]) ++ news), p.1 ≠ I := by
  intro p hp
  unfold cellsOf at *
  simp only [List.map_append, List.map_cons, List.map_nil, List.mem_cons, List.mem_append, List.not_mem_nil, or_false] at hp h
  rcases hp with rfl | (hp | rfl) | hp
  · exact h (d, W.listOf o e) (.inl rfl)
  · exact h p (.inr (.inl hp))
  · exact hr
  · exact h p (.inr (.inr hp))
theorem due_vals {ts : List Nat} {W : Nat → Bool} {rows : List Row} {r : Row} {i : Nat} (hl : rows.length = i) (h : ∀ (k : Nat) (r : Row), rows[k]? = some r → r.x = dueX ts W k ∧ r.y = dueY ts W k) (hr : r.x = dueX ts W i ∧ r.y = dueY ts W i) : ∀ (k : Nat) (r' : Row), (rows ++ [r])[k]? = some r' → r'.x = dueX ts W k ∧ r'.y = dueY ts W k := by
  intro k r' hk
  by_cases hlt : k < rows.length
  · rw [List.getElem?_append_left hlt] at hk; exact h k r' hk
  · have hk' : k < (rows ++ [r]).length := by
      rcases Nat.lt_or_ge k (rows ++ [r]).length with a | a
      · exact a
      · rw [List.getElem?_eq_none a] at hk; cases hk
    rw [List.length_append, List.length_singleton] at hk'
    obtain rfl : k = rows.length := by omega
    rw [List.getElem?_append_right (Nat.le_refl _), Nat.sub_self] at hk
    cases hk
    rw [hl]; exact hr
theorem cells_off {rows : List Row} {news : List (Addr × Obj)} {d : Addr} (h : ∀ r ∈ rows, r.a ≠ d) (l1 : ∀ p ∈ news, p.1 < d) : ∀ p ∈ cellsOf rows ++ news, p.1 ≠ d := by
  intro p hp
  rcases List.mem_append.mp hp with hp | hp
  · obtain ⟨r, hr, rfl⟩ := List.mem_map.mp hp; exact h r hr
  · exact Nat.ne_of_lt (l1 p hp)
theorem refs_size {rows : List Row} : (refsOf rows).toArray.size = rows.length := by unfold refsOf; simp
theorem rows_off {rows : List Row} {r : Row} {d : Addr} (h : ∀ r ∈ rows, r.a ≠ d) (hr : r.a ≠ d) : ∀ r' ∈ rows ++ [r], r'.a ≠ d := by
  intro r' h'
  rcases List.mem_append.mp h' with h' | h'
  · exact h r' h'
  · rw [List.mem_singleton.mp h']; exact hr
section
variable {path : Str} {alt : Value} {q : Nat}
theorem item_dot (hq : q < path.length) : (Txt.item path (q : Int) == Str.ofString ".") = (path.cps.toList.getD q 0 == 46) := by
  have hq' : q < path.cps.toList.length := by simpa [Str.length] using hq
  rw [item_at path q hq, show Str.ofString "." = ⟨#[46]⟩ by rfl, mk1_beq]
  simp [List.getD_eq_getElem?_getD, List.getElem?_eq_getElem hq']
theorem item_wall (hq : q < path.length) : wallHit ⟨#[47]⟩ alt (Txt.item path (q : Int)) = wallOf alt (path.cps.toList.getD q 0) := by
  have hq' : q < path.cps.toList.length := by simpa [Str.length] using hq
  rw [item_at path q hq]
  unfold wallOf
  simp [List.getD_eq_getElem?_getD, List.getElem?_eq_getElem hq']
theorem st_wall (hq : q < path.length) (h1 : (Txt.item path (q : Int) != Str.ofString ".") = true) (h2 : wallHit ⟨#[47]⟩ alt (Txt.item path (q : Int)) = true) : (0 : Int) = (startsOf path.cps.toList (wallOf alt) (q + 1) : Int) := by
  rw [bne, item_dot hq] at h1
  rw [item_wall hq] at h2
  rw [startsOf, if_pos (by simpa using h1), if_pos h2]; rfl
theorem st_new (hq : q < path.length) (h1 : (Txt.item path (q : Int) != Str.ofString ".") = true) (h2 : wallHit ⟨#[47]⟩ alt (Txt.item path (q : Int)) = false) : (q : Int) + 1 = (startsOf path.cps.toList (wallOf alt) (q + 1) : Int) := by
  rw [bne, item_dot hq] at h1
  rw [item_wall hq] at h2
  rw [startsOf, if_pos (by simpa using h1), if_neg (by rw [h2]; exact Bool.false_ne_true)]; rfl
theorem st_dot (hq : q < path.length) (h1 : (Txt.item path (q : Int) != Str.ofString ".") = false) : (startsOf path.cps.toList (wallOf alt) q : Int) = (startsOf path.cps.toList (wallOf alt) (q + 1) : Int) := by
  rw [bne, item_dot hq] at h1
  rw [startsOf, if_neg (by simpa using h1)]
end
local macro_rules | `(tactic| walk_at "exec For Name Call cons nil") => `(tactic| (with_reducible refine Stop.out ?_))
local macro_rules | `(tactic| walk_at "pyIter ref") => `(tactic| (with_reducible refine Stop.out ?_))
local macro_rules | `(tactic| walk_at "exec While BoolOp cons nil") => `(tactic| (with_reducible refine Stop.out ?_))
local macro_rules | `(tactic| walk_at "compareOp In str ref") => `(tactic| k_dflt (refine in_walls (by with_reducible assumption) (by repeat' first | assumption | refine List.mem_cons_of_mem _ ?_) (by assumption) ?_))
local macro_rules | `(tactic| walk_at "compareOp NotIn str ref") => `(tactic| k_dflt (refine notin_walls (by with_reducible assumption) (by repeat' first | assumption | refine List.mem_cons_of_mem _ ?_) (by assumption) ?_))
local macro_rules | `(tactic| walk_at "call builtin:list.append") => `(tactic| (with_reducible refine Stop.out ?_))
local macro_rules | `(tactic| walk_at "binaryOp Mult int int") => `(tactic| k_dflt (refine mul_int ?_ (IntMulOk.of_left (by assumption))))
theorem reach_more {path : Str} {alt : Value} {i r : Nat} (hi : i < path.length) (h1 : 1 ≤ (r : Int)) (h2 : (r : Int) ≤ (reachOf path.cps.toList (wallOf alt) i : Int)) (h3 : (i : Int) + r < path.length) (h4 : (Txt.item path ((i : Int) + r) != Str.ofString ".") = true) (h5 : wallHit ⟨#[47]⟩ alt (Txt.item path ((i : Int) + r)) = false) :
    (r : Int) + 1 ≤ (reachOf path.cps.toList (wallOf alt) i : Int) := by
  have hl : path.cps.toList.length = path.length := by simp [Str.length]
  rw [show (i : Int) + r = ((i + r : Nat) : Int) by omega] at h4 h5
  have hir : i + r < path.length := by omega
  rw [bne, item_dot hir] at h4
  rw [item_wall hir] at h5
  obtain ⟨g1, g2⟩ := (reach_iff (W := wallOf alt) (j := i + r) (by omega) (by omega)).mp (show i + r ≤ i + reachOf path.cps.toList (wallOf alt) i by omega)
  have : i + (r + 1) ≤ i + reachOf path.cps.toList (wallOf alt) i := by
    refine (reach_iff (by omega) (by omega)).mpr ⟨by omega, fun q c q1 q2 q3 => ?_⟩
    by_cases e : q = i + r
    · subst e
      have := getD_of q3
      rw [this] at h4 h5
      exact ⟨by simpa using h4, h5⟩
    · exact g2 q c q1 (by omega) q3
  omega
theorem reach_done {path : Str} {alt : Value} {i r : Nat} (hi : i < path.length) (h1 : 1 ≤ (r : Int)) (h2 : (r : Int) ≤ (reachOf path.cps.toList (wallOf alt) i : Int)) (h3 : ¬ ((i : Int) + r < path.length) ∨ ((i : Int) + r < path.length ∧ ((Txt.item path ((i : Int) + r) != Str.ofString ".") = false ∨ wallHit ⟨#[47]⟩ alt (Txt.item path ((i : Int) + r)) = true))) :
    reachOf path.cps.toList (wallOf alt) i = r := by
  have hl : path.cps.toList.length = path.length := by simp [Str.length]
  have hle := reach_le (W := wallOf alt) (show i < path.cps.toList.length by omega)
  rcases h3 with h | ⟨h3, h⟩
  · omega
  · rcases Nat.lt_or_ge r (reachOf path.cps.toList (wallOf alt) i) with g | g
    · exfalso
      obtain ⟨_, g2⟩ := (reach_iff (W := wallOf alt) (j := i + (r + 1)) (by omega) (by omega)).mp (show i + (r + 1) ≤ i + reachOf path.cps.toList (wallOf alt) i by omega)
      have hir : i + r < path.length := by omega
      obtain ⟨k1, k2⟩ := g2 (i + r) _ (by omega) (by omega) (some_of (by omega))
      rw [show (i : Int) + r = ((i + r : Nat) : Int) by omega] at h
      rw [bne, item_dot hir, item_wall hir] at h
      rcases h with h | h
      · exact k1 (by simpa using h)
      · rw [k2] at h; cases h
    · omega
theorem due_c : ∀ (w : World) (mean : ExcName → Option Value) (mg mb : Str → Option Value) (dp un : Nat) (gd : Option (List Code)) (cn : Str) (cs : Scope) (a : Addr) (ccd : Value) (cl : List (Str × Addr)) (outer : List Env) (A₀ : Around) (base h₀ : Heap) (L : Addr) (m : Str → Option Value) (news : List (Addr × Obj)) (s : Shared)
    (wl : Addr) (path : Str) (alt : Value) (e2 : Nat) (t1 t2 : Tok) (Q E : Value → Shared → Prop),
    Below A₀ base outer h₀ → Fr h₀ L s.heap m → (hd3.heap_39 w.params).In h₀ → News h₀ L s.heap news → Top hd3.view_39 (looseW hd3.view_39 []) mean mg mb h₀ → cs.kind = .function → dp < 900 → un < 900 →
    path.length ≤ 100 → AltOk3 alt → (wl, W.listOf #[.str ⟨#[47]⟩ t2, alt] e2) ∈ news →
    (∀ d e rs h' tk', rs.length = path.length → (∀ (k : Nat) (r : Row), rs[k]? = some r → r.x = dueX path.cps.toList (wallOf alt) k ∧ r.y = dueY path.cps.toList (wallOf alt) k) → Fr h₀ L h' m → News h₀ L h' ((d, W.listOf (refsOf rs).toArray e) :: (cellsOf rs ++ news)) → Q (.ref d) { s with heap := h', toks := tk' }) →
    wpAny (model PySem.Challenge.rw_dn0116_03.prog w) (ktrTop dp un gd cn cs L a ccd cl outer) (call (.ref 35) [.str path t1, .ref wl]) Q E s := by
  k_fill
  intro w mean mg mb dp un gd cn cs a ccd cl outer A₀ base h₀ L m news s wl path alt e2 t1 t2 Q E B F X N T hk hd hu hlen halt hwl hret
  refine wpAny_call ?_
  w_on
  k_dflt ktr_enter
  k_steps
  refine ⟨?_⟩
  refine For_F (by assumption) (by rfl) (by rfl) ?_
  k_steps
  refine ⟨?_⟩
  rename_i d hA0 l1 hB0 F0 N0 hC0 tk0 tA tB tC hrng F00 N00 hkeep
  have halt' : alt = .none ∨ ∃ y u, alt = .str y u := by
    rcases halt with h | ⟨u, h⟩
    · exact .inl h
    · exact .inr ⟨_, u, h⟩
  refine iter_range_ov (σ := List Row × Nat × Option Value × Option Value × Option Value) path.length (fun c => [("starts", c.2.2.1), ("reach", c.2.2.2.1), ("m", c.2.2.2.2)]) (fun c => (d, W.listOf (refsOf c.1).toArray c.2.1) :: (cellsOf c.1 ++ news))
    (fun i c => c.1.length = i ∧ (∀ (k : Nat) (r : Row), c.1[k]? = some r → r.x = dueX path.cps.toList (wallOf alt) k ∧ r.y = dueY path.cps.toList (wallOf alt) k) ∧ ∀ r ∈ c.1, r.a ≠ d) ([], 0, none, none, none) (by rfl) hrng ?hsmall ?hsize F00 N00 (fun _ h => h) ⟨by rfl, by rfl, by rfl, trivial⟩ ⟨by rfl, (fun k r h => by simp at h), (fun r h => by cases h)⟩ ?_ ?_
  case hsmall => exact small_one (by decide) (by decide) (by omega) (by omega)
  case hsize => rw [rangeSize_nat]; omega
  · rintro i u ⟨rows, e, vs, vr, vm⟩ h4 tk4 I oI hi ⟨hlen4, hval4, hoff4⟩ hne F4 N4
    dsimp only at hlen4 hval4 hoff4 hne F4 N4
    rw [Int.zero_add] at F4
    have hwl' : (wl, W.listOf #[.str ⟨#[47]⟩ t2, alt] e2) ∈ cellsOf rows ++ news := List.mem_append_right _ hwl
    k_steps
    · refine ⟨?_⟩
      rename (Txt.item path (i : Int) == Str.ofString ".") = true => hdot
      rw [item_dot hi] at hdot
      have hdot' : path.cps.toList.getD i 0 = 46 := by simpa using hdot
      refine For_F (by assumption) (by rfl) (by rfl) ?_
      k_steps
      refine ⟨?_⟩
      rename IsRange _ _ _ _ _ _ _ _ => hrng2
      refine iter_range_ov (σ := Int × Tok) i (fun c => [("starts", some (.int c.1 c.2))]) (fun _ => (I, oI) :: (d, W.listOf (refsOf rows).toArray e) :: (cellsOf rows ++ news)) (fun q c => c.1 = (startsOf path.cps.toList (wallOf alt) q : Int)) (0, _) (by rfl) hrng2 ?hs2 ?hz2 (by assumption) (by assumption) (fun _ h => h) ⟨by rfl, trivial⟩ (by rfl) ?_ ?_
      case hs2 => exact small_one (by decide) (by decide) (by omega) (by omega)
      case hz2 => rw [rangeSize_nat]; omega
      · rintro q u5 ⟨sv, st⟩ h5 tk5 I2 oI2 hq hsv hne5 F5 N5
        dsimp only at hsv hne5 F5 N5
        rw [Int.zero_add] at F5
        have hqp : q < path.length := by omega
        k_steps
        all_goals
          refine TurnSt.next (σ := Int × Tok) (_, _) (by assumption) (by assumption) (fun p hp => hp) hne5 (ovl1_of (by rfl) ?_) ?_
          · intro y h1 h2; simp only [ovl, if_neg h1, if_neg h2]
          · dsimp only
            first
              | exact st_wall hqp (by assumption) (by assumption)
              | exact st_new hqp (by assumption) (by assumption)
              | (rw [hsv]; exact st_dot hqp (by assumption))
      · rintro ⟨sv, st⟩ h5 tk5 u5 hsv F5 N5
        dsimp only at hsv F5 N5
        k_steps
        refine ⟨?_⟩
        refine while_int (fun _ r => 1 ≤ r ∧ r ≤ (reachOf path.cps.toList (wallOf alt) i : Int)) (fun r => ((path.length : Int) - r).toNat) (by assumption) (by assumption) ⟨by decide, by have := reach_pos path.cps.toList (wallOf alt) i; omega⟩ ?_
        rintro r tr h7 tk7 ⟨hr1, hr2⟩ F7 N7
        obtain ⟨r, rfl⟩ : ∃ rn : Nat, r = rn := ⟨r.toNat, by omega⟩
        have hll : path.cps.toList.length = path.length := by simp [Str.length]
        have hrl := reach_le (W := wallOf alt) (show i < path.cps.toList.length by omega)
        have hbr : Builtin.Int.intBits (r : Int) ≤ 64 := intBits_cast_le (by rw [sizeLine_eq]; omega)
        have hbs : Builtin.Int.intBits sv ≤ 64 := by
          rw [hsv]
          have := starts_le path.cps.toList (wallOf alt) i
          exact intBits_cast_le (by rw [sizeLine_eq]; omega)
        k_steps
        all_goals first
          | (refine WTurnInt.next (by assumption) (by assumption) (fun _ h => h) ⟨by omega, reach_more hi hr1 hr2 (by assumption) (by assumption) (by assumption)⟩ (by omega); done)
          | skip
        all_goals
          refine ⟨?_⟩
          have hreach : reachOf path.cps.toList (wallOf alt) i = r := reach_done hi hr1 hr2 (by first | exact .inl (by assumption) | exact .inr ⟨by assumption, .inl (by assumption)⟩ | exact .inr ⟨by assumption, .inr (by assumption)⟩)
          rename_i l' hh' F' N' l1'
          refine append_K F' N' (Upd.tail (Ne.symm (Nat.ne_of_lt l1'.2.1)) (Upd.tail (Ne.symm (hne _ List.mem_cons_self)) (Upd.head (cells_off hoff4 l1)))) ?_ (by rw [refs_size, sizeLine_eq]; omega)
          intro h6 F6 N6
          k_steps
          refine TurnSt.next (σ := List Row × Nat × Option Value × Option Value × Option Value) (rows ++ [⟨l', _, _, _, _, 0⟩], e + 1, _, _, _) F6 N6 due_mem (due_off hne (Ne.symm (Nat.ne_of_lt l1'.1))) (ovl3_of (by rfl) (by rfl) (by rfl) ?_) ⟨?_, due_vals hlen4 hval4 ⟨?_, ?_⟩, rows_off hoff4 (Ne.symm (Nat.ne_of_lt l1'.2.1))⟩
          · intro y h1 h2 h3 h4; simp only [ovl, if_neg h1, if_neg h2, if_neg h3, if_neg h4]
          · dsimp only; rw [List.length_append, List.length_singleton]; omega
          · dsimp only; unfold dueX; rw [if_pos hdot', hreach, hsv]
          · dsimp only; unfold dueY; rw [if_pos hdot', hreach, hsv, tri_div]
    · refine ⟨?_⟩
      rename (Txt.item path (i : Int) == Str.ofString ".") = false => hdot
      rw [item_dot hi] at hdot
      have hdot' : path.cps.toList.getD i 0 ≠ 46 := by simpa using hdot
      rename_i l' hh' F' N' l1'
      refine append_K F' N' (Upd.tail (Ne.symm (Nat.ne_of_lt l1'.2.1)) (Upd.tail (Ne.symm (hne _ List.mem_cons_self)) (Upd.head ?hoff))) ?_ ?hsz
      case hoff => exact cells_off hoff4 l1
      case hsz => rw [refs_size, sizeLine_eq]; omega
      intro h6 F6 N6
      k_steps
      refine TurnSt.next (σ := List Row × Nat × Option Value × Option Value × Option Value) (rows ++ [⟨l', _, _, _, _, 0⟩], e + 1, _, _, _) F6 N6 due_mem (due_off hne (Ne.symm (Nat.ne_of_lt l1'.1))) (ovl3_of (by rfl) (by rfl) (by rfl) ?_) ⟨?_, due_vals hlen4 hval4 ⟨?_, ?_⟩, rows_off hoff4 (Ne.symm (Nat.ne_of_lt l1'.2.1))⟩
      · intro y h1 h2 h3 h4; simp only [ovl, if_neg h1, if_neg h2, if_neg h3, if_neg h4]
      · dsimp only; rw [List.length_append, List.length_singleton]; omega
      · dsimp only; unfold dueX; rw [if_neg hdot']; rfl
      · dsimp only; unfold dueY; rw [if_neg hdot']; rfl
  · rintro ⟨rows, e, vs, vr, vm⟩ h4 tk4 u ⟨hlen4, hval4, hoff4⟩ F4 N4
    dsimp only at hlen4 hval4 hoff4 F4 N4
    k_steps
    exact hret _ _ _ _ _ hlen4 hval4 (by assumption) (by assumption)
end Mine
end

section
namespace Mine
/-- what joined ways leave: a value of a kind, the frame and the ledger -/
def JPost (h₀ : Heap) (L : Addr) (m : Str → Option Value) (news : List (Addr × Obj)) (P : Value → Prop) (s : Shared) (v : Value) (s' : Shared) : Prop :=
  ∃ h' k news', s' = { s with heap := h', toks := k } ∧ Fr h₀ L h' m ∧ News h₀ L h' news' ∧ (∀ p ∈ news, p ∈ news') ∧ P v
section
variable {prog : Program} {w : World} {A : Around} {E : Value → Shared → Prop} {s : Shared} {h₀ : Heap} {L : Addr} {m : Str → Option Value} {news : List (Addr × Obj)} {Q : Value → Shared → Prop} {t : Sem Value}
theorem join_val (P : Value → Prop) (F : Fr h₀ L s.heap m) (N : News h₀ L s.heap news) (h1 : wpAny (model prog w) A t (JPost h₀ L m news P s) E s)
    (h2 : ∀ v h' k, P v → Fr h₀ L h' m → News h₀ L h' news → Q v { s with heap := h', toks := k }) : wpAny (model prog w) A t Q E s := by
  refine wpAny_mono h1 ?_ fun _ _ e => e
  rintro v s' ⟨h', k, news', rfl, F', N', sub, hP⟩
  exact h2 v h' k hP F' fun p hp => N' p (sub p hp)
theorem JPost.intro {P : Value → Prop} {v : Value} {h' : Heap} {k : Nat} {news' : List (Addr × Obj)} (F : Fr h₀ L h' m) (N : News h₀ L h' news') (sub : ∀ p ∈ news, p ∈ news') (hP : P v) : JPost h₀ L m news P s v { s with heap := h', toks := k } := ⟨h', k, news', rfl, F, N, sub, hP⟩
end
/-- the rows of zeros that a comprehension lays -/
def Zeros (i : Nat) (c : List Row) (ys : List Value) : Prop := c.length = i ∧ ys = refsOf c ∧ (∀ r ∈ c, r.x = 0 ∧ r.y = 0) ∧ (c.map (·.a)).Nodup
theorem zero_mem {I C D l : Addr} {oI oC oD : Obj} {c : List Row} {r : Row} : ∀ p ∈ (I, oI) :: (C, oC) :: (D, oD) :: cellsOf (c ++ [r]), p ∈ (r.a, r.obj) :: (I, oI) :: (C, oC) :: (D, oD) :: cellsOf c := by
  intro p hp
  unfold cellsOf at *
  simp only [List.map_append, List.map_cons, List.map_nil, List.mem_cons, List.mem_append, List.not_mem_nil, or_false] at hp ⊢
  rcases hp with h | h | h | h | h
  · exact .inr (.inl h)
  · exact .inr (.inr (.inl h))
  · exact .inr (.inr (.inr (.inl h)))
  · exact .inr (.inr (.inr (.inr h)))
  · exact .inl h
theorem zero_off {I C D : Addr} {c : List Row} {r : Row} (off : ∀ p ∈ cellsOf c, p.1 ≠ I ∧ p.1 ≠ C ∧ p.1 ≠ D) (h1 : I < r.a) (h2 : C < r.a) (h3 : D < r.a) : ∀ p ∈ cellsOf (c ++ [r]), p.1 ≠ I ∧ p.1 ≠ C ∧ p.1 ≠ D := by
  intro p hp
  unfold cellsOf at *
  simp only [List.map_append, List.map_cons, List.map_nil, List.mem_append, List.mem_singleton] at hp
  rcases hp with h | rfl
  · exact off p h
  · exact ⟨Ne.symm (Nat.ne_of_lt h1), Ne.symm (Nat.ne_of_lt h2), Ne.symm (Nat.ne_of_lt h3)⟩
theorem allLt_cells {d : Nat} {c : List Row} (h : AllLt d (cellsOf c)) : ∀ r ∈ c, r.a < d := by
  induction c with
  | nil => intro r h; cases h
  | cons x c ih =>
    intro r hr
    rcases List.mem_cons.mp hr with rfl | hr
    · exact h.1
    · exact ih h.2 r hr
theorem zeros_snoc {i : Nat} {c : List Row} {ys : List Value} {r : Row} (h : Zeros i c ys) (hr : r.x = 0 ∧ r.y = 0) (hl : AllLt r.a (cellsOf c)) : Zeros (i + 1) (c ++ [r]) (ys ++ [.ref r.a]) := by
  obtain ⟨h1, h2, h3, h4⟩ := h
  refine ⟨by rw [List.length_append, h1]; rfl, by rw [h2]; simp [refsOf], fun r' h' => ?_, ?_⟩
  · rcases List.mem_append.mp h' with h' | h'
    · exact h3 r' h'
    · rw [List.mem_singleton.mp h']; exact hr
  · rw [List.map_append, List.nodup_append]
    refine ⟨h4, by simp, fun a ha b hb => ?_⟩
    obtain ⟨r', hr', rfl⟩ := List.mem_map.mp ha
    simp only [List.map_cons, List.map_nil, List.mem_singleton] at hb
    rw [hb]
    exact Nat.ne_of_lt (allLt_cells hl r' hr')
def ToldAt (as : List Addr) (f g : Nat → Int) (rows : List Row) : Prop := rows.map (·.a) = as ∧ ∀ (k : Nat) (r : Row), rows[k]? = some r → r.x = f k ∧ r.y = g k
theorem rangeSize_from {i n : Nat} (h : i ≤ n) : Builtin.Range.rangeSize (i : Int) ((n : Int) + 1) 1 = ((n + 1 - i : Nat) : Int) := by
  unfold Builtin.Range.rangeSize
  rw [if_pos (by decide), if_pos (by omega), Int.ediv_one]; omega
section
variable {prog : Program} {w : World} {A : Around} {E : Value → Shared → Prop} {s : Shared} {h₀ : Heap} {L : Addr} {news : List (Addr × Obj)}
theorem eqAt_pair {a b : Addr} {x y : Int} {t u t' u' : Tok} (ha : s.heap.IsList a #[.int x t, .int y u]) (hb : s.heap.IsList b #[.int x t', .int y u']) (hu : A.units < cLine) : PySem.SeqAt.EqAt A s (.ref a) (.ref b) true := fun prog w E Q h => by
  unfold eqBool
  refine wpAny_holding ?_
  refine wpAny_ite_split (fun hab => ?_) (fun _ => ?_)
  · exact wpAny_bind (wpAny_rule (wpAny_pure h))
  · refine wpAny_bind (PySem.SeqAt.RcAt.lists (e := fun _ => true) ha hb rfl hu ?_ prog w E _ (wpAny_truthy_bool ?_))
    · intro j h1 h2
      have h1' : j < 2 := h1
      have : j = 0 ∨ j = 1 := by omega
      rcases this with rfl | rfl
      · have := PySem.SeqAt.EqAt.int_int (A := A.in1) (s := s) x t x t'
        rwa [beq_self_eq_true] at this
      · have := PySem.SeqAt.EqAt.int_int (A := A.in1) (s := s) y u y u'
        rwa [beq_self_eq_true] at this
    · exact h
theorem eq_rows {D d : Addr} {rows rs : List Row} {e : Nat} {Q : Value → Shared → Prop} (N : News h₀ L s.heap news) (h1 : (D, LCg.lst (refsOf rows)) ∈ news) (h2 : (d, W.listOf (refsOf rs).toArray e) ∈ news) (h3 : ∀ p ∈ cellsOf rows, p ∈ news) (h4 : ∀ p ∈ cellsOf rs, p ∈ news)
    (hl : rows.length = rs.length) (hv : ∀ (k : Nat) (r r' : Row), rows[k]? = some r → rs[k]? = some r' → r.x = r'.x ∧ r.y = r'.y) (hu : A.units + 1 < cLine) (h : Q (.bool true) s) : wpAny (model prog w) A (compareOp .Eq (.ref D) (.ref d)) Q E s := by
  refine PySem.SeqAt.eq_listAt (items := (refsOf rows).toArray) (items2 := (refsOf rs).toArray) (e := fun _ => true) (News.isList N h1) ⟨_, (N _ h2).1, rfl, _, rfl⟩ (by rw [refs_size, refs_size, hl]) (by omega) ?_ ?_
  · intro j g1 g2
    rw [refs_size] at g1 g2
    have e1 : (refsOf rows).toArray[j]'(by rw [refs_size]; exact g1) = .ref rows[j].a := by simp [refsOf]
    have e2 : (refsOf rs).toArray[j]'(by rw [refs_size]; exact g2) = .ref rs[j].a := by simp [refsOf]
    rw [e1, e2]
    obtain ⟨v1, v2⟩ := hv j rows[j] rs[j] (List.getElem?_eq_getElem g1) (List.getElem?_eq_getElem g2)
    have m1 := (N _ (h3 (rows[j].a, rows[j].obj) (List.mem_map.mpr ⟨rows[j], List.getElem_mem g1, rfl⟩))).1
    have m2 := (N _ (h4 (rs[j].a, rs[j].obj) (List.mem_map.mpr ⟨rs[j], List.getElem_mem g2, rfl⟩))).1
    refine eqAt_pair (x := rows[j].x) (y := rows[j].y) (t' := rs[j].tx) (u' := rs[j].ty) ⟨_, m1, rfl, _, rfl⟩ ⟨_, m2, rfl, rs[j].e, ?_⟩ hu
    rw [v1, v2]; rfl
  · have : (List.range (refsOf rows).toArray.size).all (fun _ => true) = true := by simp
    rw [this]; exact h
end
theorem told_due {ts : List Nat} {W : Nat → Bool} {k : Nat} (hk : k < ts.length) : allX ts W k (ts.length + 1) = dueX ts W k ∧ allY ts W k (ts.length + 1) = dueY ts W k := by
  unfold dueX dueY
  by_cases hd : ts.getD k 0 = 46
  · rw [if_pos hd, if_pos hd]; exact all_dot hk hd
  · rw [if_neg hd, if_neg hd]; exact all_other hd _
theorem told_off {rows rows' : List Row} {I D : Addr} {o o' : Obj} (e : rows'.map (·.a) = rows.map (·.a)) (h : ∀ p ∈ (D, o) :: cellsOf rows, p.1 ≠ I) : ∀ p ∈ (D, o') :: cellsOf rows', p.1 ≠ I := by
  intro p hp
  rcases List.mem_cons.mp hp with rfl | hp
  · exact h (D, o) List.mem_cons_self
  · obtain ⟨r, hr, rfl⟩ := List.mem_map.mp hp
    have : r.a ∈ rows.map (·.a) := by rw [← e]; exact List.mem_map.mpr ⟨r, hr, rfl⟩
    obtain ⟨r', hr', e'⟩ := List.mem_map.mp this
    have := h (r'.a, r'.obj) (List.mem_cons_of_mem _ (List.mem_map.mpr ⟨r', hr', rfl⟩))
    show r.a ≠ I
    rw [← e']; exact this
theorem alt_small {alt : Value} (h : AltOk3 alt) : alt = .none ∨ ∃ y u, alt = .str y u ∧ y.length ≤ 1000000 := by
  rcases h with rfl | ⟨u, rfl⟩
  · exact .inl rfl
  · exact .inr ⟨_, u, rfl, by decide⟩
theorem str_add_len (a b : Str) : (a ++ b).length = a.length + b.length := by
  show (a.cps ++ b.cps).size = a.cps.size + b.cps.size
  exact Array.size_append
theorem told_item {prog : Program} {w : World} {A : Around} {E : Value → Shared → Prop} {s : Shared} {h₀ : Heap} {L : Addr} {news : List (Addr × Obj)} {value slice : PySem.Expr} {D : Addr} {rows : List Row} {r : Row} {i : Int} {k : Nat} {u : Tok} {Q : Value → Shared → Prop} (N : News h₀ L s.heap news) (hm : (D, LCg.lst (refsOf rows)) ∈ news) (hr : rows[k]? = some r) (hi : i = (k : Int)) (hl : rows.length ≤ 100)
    (hs : subscripted slice false (.ref D) (.int i u) = operate [.ref D, .int i u] (getItem (.ref D) (.int i u)))
    (h : Q (.ref r.a) s) : wpAny (model prog w) A (subscriptTail value slice (.ref D) (.int i u)) Q E s := by
  subst hi
  have hk : k < rows.length := by
    rcases Nat.lt_or_ge k rows.length with q | q
    · exact q
    · rw [List.getElem?_eq_none q] at hr; cases hr
  exact item_litK (News.isList N hm) (Int.natCast_nonneg k) (by omega) (by rw [Int.toNat_natCast]; unfold refsOf; rw [List.getElem?_map, hr]; rfl) h hs
theorem told_same {ts : List Nat} {W : Nat → Bool} {as : List Addr} {rows : List Row} {i t : Nat} (hT : ToldAt as (fun k => allX ts W k i + rowX ts W i k t) (fun k => allY ts W k i + rowY ts W i k t) rows) (hl : rows.length = ts.length) (h : ∀ k, k < ts.length → CutB ts W i (i + t) k = false) :
    ToldAt as (fun k => allX ts W k i + rowX ts W i k (t + 1)) (fun k => allY ts W k i + rowY ts W i k (t + 1)) rows := by
  refine ⟨hT.1, fun k r hr => ?_⟩
  have hk : k < ts.length := by
    rcases Nat.lt_or_ge k rows.length with q | q
    · omega
    · rw [List.getElem?_eq_none q] at hr; cases hr
  obtain ⟨v1, v2⟩ := hT.2 k r hr
  have e1 : rowX ts W i k (t + 1) = rowX ts W i k t + stepX ts W i k t := rfl
  have e2 : rowY ts W i k (t + 1) = rowY ts W i k t + stepY ts W i k t := rfl
  have z1 : stepX ts W i k t = 0 := if_neg (by rw [h k hk]; exact Bool.false_ne_true)
  have z2 : stepY ts W i k t = 0 := if_neg (by rw [h k hk]; exact Bool.false_ne_true)
  dsimp only at v1 v2 ⊢
  rw [e1, e2, z1, z2, Int.add_zero, Int.add_zero]
  exact ⟨v1, v2⟩
theorem upd_cells {r r' : Row} (ha : r'.a = r.a) : ∀ {rows : List Row} {k : Nat}, rows[k]? = some r → (rows.map (·.a)).Nodup → Upd r.a r.obj r'.obj (cellsOf rows) (cellsOf (rows.set k r'))
  | [], k, h, _ => by simp at h
  | x :: rows, 0, h, hn => by
    simp at h; subst h
    show Upd x.a x.obj r'.obj ((x.a, x.obj) :: cellsOf rows) ((r'.a, r'.obj) :: cellsOf rows)
    rw [ha]
    refine Upd.head fun p hp => ?_
    obtain ⟨z, hz, rfl⟩ := List.mem_map.mp hp
    rw [List.map_cons, List.nodup_cons] at hn
    exact fun e => hn.1 (by rw [← e]; exact List.mem_map.mpr ⟨z, hz, rfl⟩)
  | x :: rows, k + 1, h, hn => by
    rw [List.map_cons, List.nodup_cons] at hn
    have h' : rows[k]? = some r := by simpa using h
    refine Upd.tail (p := (x.a, x.obj)) (fun e => hn.1 ?_) (upd_cells ha h' hn.2)
    have e' : x.a = r.a := e
    rw [e']; exact List.mem_map.mpr ⟨r, List.mem_of_getElem? h', rfl⟩
theorem map_set {rows : List Row} {k : Nat} {r r' : Row} (h : rows[k]? = some r) (ha : r'.a = r.a) : (rows.set k r').map (·.a) = rows.map (·.a) := by
  rw [List.map_set, ha]
  apply List.ext_getElem?
  intro j
  rw [List.getElem?_set]
  split
  · rename_i e; subst e
    split
    · rw [List.getElem?_map, h]; rfl
    · rename_i q
      rw [List.length_map] at q
      rw [List.getElem?_eq_none (by simpa using q)]
  · rfl
theorem refs_set {rows : List Row} {k : Nat} {r r' : Row} (h : rows[k]? = some r) (ha : r'.a = r.a) : refsOf (rows.set k r') = refsOf rows := by
  have e : ∀ l : List Row, refsOf l = (l.map (·.a)).map Value.ref := fun l => by unfold refsOf; rw [List.map_map]; rfl
  rw [e, e, map_set h ha]
section
variable {prog : Program} {w : World} {A : Around} {E : Value → Shared → Prop} {s : Shared} {h₀ : Heap} {L : Addr} {m : Str → Option Value} {P1 P2 P3 P4 : Addr × Obj} {rows : List Row} {r : Row} {k : Nat}
theorem get_x {t : Tok} {Q : Value → Shared → Prop} (N : News h₀ L s.heap (P1 :: P2 :: P3 :: P4 :: cellsOf rows)) (hr : rows[k]? = some r) (h : Q (.int r.x r.tx) s) : wpAny (model prog w) A (getItem (.ref r.a) (.int 0 t)) Q E s := by
  have z := (N (r.a, r.obj) (List.mem_cons_of_mem _ (List.mem_cons_of_mem _ (List.mem_cons_of_mem _ (List.mem_cons_of_mem _ (List.mem_map.mpr ⟨r, List.mem_of_getElem? hr, rfl⟩)))))).1
  exact wpAny_getItem_list (items := #[.int r.x r.tx, .int r.y r.ty]) ⟨_, z, rfl, _, rfl⟩ (by decide) (by decide) rfl h
theorem get_y {t : Tok} {Q : Value → Shared → Prop} (N : News h₀ L s.heap (P1 :: P2 :: P3 :: P4 :: cellsOf rows)) (hr : rows[k]? = some r) (h : Q (.int r.y r.ty) s) : wpAny (model prog w) A (getItem (.ref r.a) (.int 1 t)) Q E s := by
  have z := (N (r.a, r.obj) (List.mem_cons_of_mem _ (List.mem_cons_of_mem _ (List.mem_cons_of_mem _ (List.mem_cons_of_mem _ (List.mem_map.mpr ⟨r, List.mem_of_getElem? hr, rfl⟩)))))).1
  exact wpAny_getItem_list (items := #[.int r.x r.tx, .int r.y r.ty]) ⟨_, z, rfl, _, rfl⟩ (by decide) (by decide) rfl h
theorem set_x {t t' : Tok} {x' : Int} {Q : Unit → Shared → Prop} (F : Fr h₀ L s.heap m) (N : News h₀ L s.heap (P1 :: P2 :: P3 :: P4 :: cellsOf rows)) (hr : rows[k]? = some r) (hn : (rows.map (·.a)).Nodup) (h1 : P1.1 ≠ r.a) (h2 : P2.1 ≠ r.a) (h3 : P3.1 ≠ r.a) (h4 : P4.1 ≠ r.a)
    (h : ∀ h', Fr h₀ L h' m → News h₀ L h' (P1 :: P2 :: P3 :: P4 :: cellsOf (rows.set k { r with x := x', tx := t' })) → Q () { s with heap := h' }) : wpAny (model prog w) A (setItem (.ref r.a) (.int 0 t) (.int x' t')) Q E s :=
  ki_set (its := #[.int r.x r.tx, .int r.y r.ty]) (n := r.e) (q := [.int x' t', .int r.y r.ty]) F N (by decide) (by decide) rfl (Upd.tail h1 (Upd.tail h2 (Upd.tail h3 (Upd.tail h4 (upd_cells (r := r) (r' := { r with x := x', tx := t' }) rfl hr hn))))) h
theorem set_y {t t' : Tok} {y' : Int} {Q : Unit → Shared → Prop} (F : Fr h₀ L s.heap m) (N : News h₀ L s.heap (P1 :: P2 :: P3 :: P4 :: cellsOf rows)) (hr : rows[k]? = some r) (hn : (rows.map (·.a)).Nodup) (h1 : P1.1 ≠ r.a) (h2 : P2.1 ≠ r.a) (h3 : P3.1 ≠ r.a) (h4 : P4.1 ≠ r.a)
    (h : ∀ h', Fr h₀ L h' m → News h₀ L h' (P1 :: P2 :: P3 :: P4 :: cellsOf (rows.set k { r with y := y', ty := t' })) → Q () { s with heap := h' }) : wpAny (model prog w) A (setItem (.ref r.a) (.int 1 t) (.int y' t')) Q E s :=
  ki_set (its := #[.int r.x r.tx, .int r.y r.ty]) (n := r.e) (q := [.int r.x r.tx, .int y' t']) F N (by decide) (by decide) rfl (Upd.tail h1 (Upd.tail h2 (Upd.tail h3 (Upd.tail h4 (upd_cells (r := r) (r' := { r with y := y', ty := t' }) rfl hr hn))))) h
theorem get_set {rs : List Row} {q r' : Row} {j : Nat} (hr : rs[j]? = some q) : (rs.set j r')[j]? = some r' := by
  have hj : j < rs.length := by
    rcases Nat.lt_or_ge j rs.length with g | g
    · exact g
    · rw [List.getElem?_eq_none g] at hr; cases hr
  rw [List.getElem?_set, if_pos rfl, if_pos hj]
theorem get_y2 {x' : Int} {t t' : Tok} {Q : Value → Shared → Prop} (N : News h₀ L s.heap (P1 :: P2 :: P3 :: P4 :: cellsOf (rows.set k { r with x := x', tx := t' }))) (hr : rows[k]? = some r) (h : Q (.int r.y r.ty) s) : wpAny (model prog w) A (getItem (.ref r.a) (.int 1 t)) Q E s :=
  get_y (r := { r with x := x', tx := t' }) N (get_set hr) h
theorem set_y2 {t t' t2 : Tok} {x' y' : Int} {Q : Unit → Shared → Prop} (F : Fr h₀ L s.heap m) (N : News h₀ L s.heap (P1 :: P2 :: P3 :: P4 :: cellsOf (rows.set k { r with x := x', tx := t' }))) (hr : rows[k]? = some r) (hn : (rows.map (·.a)).Nodup) (h1 : P1.1 ≠ r.a) (h2 : P2.1 ≠ r.a) (h3 : P3.1 ≠ r.a) (h4 : P4.1 ≠ r.a)
    (h : ∀ h', Fr h₀ L h' m → News h₀ L h' (P1 :: P2 :: P3 :: P4 :: cellsOf (rows.set k { r with x := x', tx := t', y := y', ty := t2 })) → Q () { s with heap := h' }) : wpAny (model prog w) A (setItem (.ref r.a) (.int 1 t) (.int y' t2)) Q E s := by
  have g := set_y (prog := prog) (w := w) (A := A) (E := E) (Q := Q) (t := t) (t' := t2) (y' := y') (r := { r with x := x', tx := t' }) F N (get_set hr) (by rw [map_set (r' := { r with x := x', tx := t' }) hr rfl]; exact hn) h1 h2 h3 h4
  refine g ?_
  intro h' F' N'
  rw [List.set_set] at N'
  exact h h' F' N'
end
theorem told_step {ts : List Nat} {W : Nat → Bool} {as : List Addr} {rows : List Row} {i t k : Nat} {r r' : Row} (hT : ToldAt as (fun k => allX ts W k i + rowX ts W i k t) (fun k => allY ts W k i + rowY ts W i k t) rows) (hl : rows.length = ts.length) (hr : rows[k]? = some r) (ha : r'.a = r.a) (hx : r'.x = r.x + 1) (hy : r'.y = r.y + (((i + t : Nat) : Int) - k)) (hc : CutB ts W i (i + t) k = true) (h : ∀ k', k' < ts.length → k' ≠ k → CutB ts W i (i + t) k' = false) :
    ToldAt as (fun k => allX ts W k i + rowX ts W i k (t + 1)) (fun k => allY ts W k i + rowY ts W i k (t + 1)) (rows.set k r') := by
  refine ⟨(map_set hr ha).trans hT.1, fun j z hz => ?_⟩
  have e1 : rowX ts W i j (t + 1) = rowX ts W i j t + stepX ts W i j t := rfl
  have e2 : rowY ts W i j (t + 1) = rowY ts W i j t + stepY ts W i j t := rfl
  dsimp only
  rw [e1, e2]
  rw [List.getElem?_set] at hz
  by_cases e : k = j
  · subst e
    rw [if_pos rfl] at hz
    split at hz
    · cases hz
      obtain ⟨v1, v2⟩ := hT.2 k r hr
      have z1 : stepX ts W i k t = 1 := if_pos hc
      have z2 : stepY ts W i k t = ((i + t : Nat) : Int) - k := if_pos hc
      dsimp only at v1 v2
      rw [z1, z2, hx, hy, v1, v2]
      exact ⟨by omega, by omega⟩
    · cases hz
  · rw [if_neg e] at hz
    obtain ⟨v1, v2⟩ := hT.2 j z hz
    have hj : j < ts.length := by
      rcases Nat.lt_or_ge j rows.length with q | q
      · omega
      · rw [List.getElem?_eq_none q] at hz; cases hz
    have z1 : stepX ts W i j t = 0 := if_neg (by rw [h j hj (Ne.symm e)]; exact Bool.false_ne_true)
    have z2 : stepY ts W i j t = 0 := if_neg (by rw [h j hj (Ne.symm e)]; exact Bool.false_ne_true)
    dsimp only at v1 v2
    rw [z1, z2, Int.add_zero, Int.add_zero]
    exact ⟨v1, v2⟩
theorem told_len {rows c : List Row} (e : rows.map (·.a) = c.map (·.a)) : rows.length = c.length := by
  have := congrArg List.length e
  simpa using this
end Mine
open Mine
local macro_rules | `(tactic| walk_at "exec Assign cons ListComp") => `(tactic| k_dflt (refine Assign_ListComp_go (by assumption) (by rfl) (by rfl) (by rfl) (by rfl) (by decide) (by rfl) (by rfl) ?_))
local macro_rules | `(tactic| walk_at "exec For Name Call cons nil") => `(tactic| (with_reducible refine Stop.out ?_))
local macro_rules | `(tactic| walk_at "pyIter ref") => `(tactic| (with_reducible refine Stop.out ?_))
local macro_rules | `(tactic| walk_at "eval IfExp") => `(tactic| (with_reducible refine Stop.out ?_))
local macro_rules | `(tactic| walk_at "call ref cons nil") => `(tactic| ((with_reducible show wpAny _ _ (call (Value.ref 21) _) _ _ _); (with_reducible refine Stop.out ?_)))
local macro_rules | `(tactic| walk_at "call ref cons nil") => `(tactic| ((with_reducible show wpAny _ _ (call (Value.ref 35) _) _ _ _); (with_reducible refine Stop.out ?_)))
theorem PySem.Challenge.cw_dn0116_03_holds : PySem.Challenge.rw_dn0116_03.Holds := by
  refine Mine.hd3 ?_
  k_go0
  rename Below _ _ _ _ => hB
  unfold Top.heap at hB
  (all_goals try k_fold)
  rename IntsAre _ _ => hInts
  rename ¬ (_ : Int) < _ => h63
  k_steps
  refine ⟨?_⟩
  refine join_val AltOk3 (by with_reducible assumption) (by with_reducible assumption) (IfExp_ ?_) ?_
  · k_steps
    · exact JPost.intro (by with_reducible assumption) (by with_reducible assumption) (fun _ h => h) (.inr ⟨_, rfl⟩)
    · exact JPost.intro (by with_reducible assumption) (by with_reducible assumption) (fun _ h => h) (.inl rfl)
  · intro alt h2 tk2 halt F2 N2
    rename (Txt.join _ _).length = _ => hTL
    generalize Txt.join _ _ = TX at F2 hTL
    k_steps
    refine CompGo.str (σ := List Row) cellsOf Zeros [] (by rfl) (by assumption) (by assumption) (fun p hp => by cases hp) ?hsz ⟨by rfl, by rfl, (fun r h => by cases h), List.nodup_nil⟩ (by decide) (by rfl) (by rfl) ?_ ?_
    case hsz => rw [sizeLine_eq]; show TX.length ≤ _; omega
    · intro i cp u c ys I oI C oC D m₂ h tk E' hcp hR hyl hC hm F1 N1 off dis
      refine PySem.wpAny_tests_nil ?_
      rw [if_pos rfl]
      k_steps
      rename_i l' hh' F' N' l1'
      exact CEnd.intro (c ++ [⟨l', 0, _, 0, _, 0⟩]) F' N' (zero_mem (l := l')) (zero_off off l1'.1 l1'.2.1 l1'.2.2.1) (zeros_snoc hR ⟨rfl, rfl⟩ l1'.2.2.2)
    · intro D c ys hR off h3 tk3 F3 N3
      obtain ⟨hc1, rfl, hc3, hc4⟩ := hR
      have hts : TX.cps.toList.length = TX.length := by simp [Str.length]
      k_steps
      refine ⟨?_⟩
      refine For_F (by assumption) (by rfl) (by rfl) ?_
      k_steps
      refine ⟨?_⟩
      rename IsRange _ _ _ _ _ _ _ _ => hrng
      refine iter_range_ov (σ := List Row × Option Value × Option Value × Option Value) (TX.length + 1) (fun c => [("j", c.2.1), ("root", c.2.2.1), ("ext", c.2.2.2)]) (fun c => (D, LCg.lst (refsOf c.1)) :: cellsOf c.1)
        (fun i s => ToldAt (c.map (·.a)) (fun k => allX TX.cps.toList (wallOf alt) k i) (fun k => allY TX.cps.toList (wallOf alt) k i) s.1) (c, none, none, none) (by rfl) hrng ?hs1 ?hz1 (by assumption) (by assumption) (fun _ h => h) ⟨by rfl, by rfl, by rfl, trivial⟩ ⟨by rfl, fun k r h => hc3 r (List.mem_of_getElem? h)⟩ ?_ ?_
      case hs1 => exact small_one (by decide) (by decide) (by omega) (by omega)
      case hz1 => rw [show ((TX.length : Int) + 1) = ((TX.length + 1 : Nat) : Int) by omega, rangeSize_nat]; omega
      · rintro i u ⟨rows, vj, vr, ve⟩ h4 tk4 I oI hi hT hne F4 N4
        dsimp only at hT hne F4 N4
        rw [Int.zero_add] at F4
        k_steps
        refine ⟨?_⟩
        refine For_F (by assumption) (by rfl) (by rfl) ?_
        k_steps
        refine ⟨?_⟩
        rename IsRange _ _ _ _ _ _ _ _ => hrng2
        refine iter_range_ov (σ := List Row × Option Value × Option Value) (TX.length + 1 - i) (fun c => [("root", c.2.1), ("ext", c.2.2)]) (fun c => (I, oI) :: (D, LCg.lst (refsOf c.1)) :: cellsOf c.1)
          (fun t s => ToldAt (c.map (·.a)) (fun k => allX TX.cps.toList (wallOf alt) k i + rowX TX.cps.toList (wallOf alt) i k t) (fun k => allY TX.cps.toList (wallOf alt) k i + rowY TX.cps.toList (wallOf alt) i k t) s.1) (rows, vr, ve) (by rfl) hrng2 ?hs2 ?hz2 (by assumption) (by assumption) (fun _ h => h) ⟨by rfl, by rfl, trivial⟩ ⟨hT.1, fun k r h => ⟨by rw [(hT.2 k r h).1]; exact (Int.add_zero _).symm, by rw [(hT.2 k r h).2]; exact (Int.add_zero _).symm⟩⟩ ?_ ?_
        case hs2 => exact small_one (by omega) (by omega) (by omega) (by omega)
        case hz2 => exact rangeSize_from (by omega)
        · rintro t u5 ⟨rows5, vr5, ve5⟩ h5 tk5 I2 oI2 ht hT5 hne5 F5 N5
          dsimp only at hT5 hne5 F5 N5
          k_steps
          refine ⟨?_⟩
          rename (Txt.slice TX _ _).length ≤ TX.length => hsl
          refine splitext_c _ _ _ _ _ _ _ _ _ _ _ _ _ _ _ _ _ _ _ _ _ ⟨#[47]⟩ ⟨#[46]⟩ alt _ _ _ _ _ hB (by assumption) (by assumption) (by assumption) (by assumption) (by rfl) (by decide) (by decide) (by omega) (alt_small halt) ?_
          intro sepi tt a b ta tb h6 tk6 hix hsp F6 N6 hlt6
          have hX : Txt.slice TX (some (i : Int)) (some ((i : Int) + (t : Int))) = ⟨((TX.cps.toList.drop i).take (i + t - i)).toArray⟩ := by
            have := slice_ab TX i (i + t) (by omega) (by omega)
            rwa [show ((i + t : Nat) : Int) = (i : Int) + (t : Int) by omega] at this
          obtain ⟨hab, hcs⟩ := win_plain (ts := TX.cps.toList) (i := i) (j := i + t) (by omega) (by omega) hX halt hix hsp
          have hlab : a.length + b.length ≤ TX.length := by
            have := congrArg Str.length hab
            rw [str_add_len] at this
            omega
          have hal : a.length ≤ 100 := by omega
          have hbl : b.length ≤ 100 := by omega
          have hrl5 : rows5.length = TX.cps.toList.length := by rw [told_len hT5.1, hc1]; simp
          k_steps
          · exfalso
            rename (a ++ b != _) = true => hbad
            rw [hab] at hbad
            simp at hbad
          · rename (b != Str.ofString "") = true => hbne
            rcases hcs with ⟨hb0, _⟩ | ⟨k, hk, hka, hkb, hkj, hcut, hoth⟩
            · exfalso; rw [hb0] at hbne; exact absurd hbne (by decide)
            · obtain ⟨r, hr⟩ : ∃ r, rows5[k]? = some r := ⟨_, List.getElem?_eq_getElem (by omega)⟩
              refine told_item (by assumption) (by repeat' first | exact List.mem_cons_self | refine List.mem_cons_of_mem _ ?_) hr (by omega) (by omega) (by with_unfolding_all rfl) ?_
              k_steps
              refine get_x (by assumption) hr ?_
              have hmr : (r.a, r.obj) ∈ cellsOf rows5 := List.mem_map.mpr ⟨r, List.mem_of_getElem? hr, rfl⟩
              have g1 : tt ≠ r.a := Ne.symm (Nat.ne_of_lt (hlt6 (r.a, r.obj) (List.mem_cons_of_mem _ (List.mem_cons_of_mem _ (List.mem_cons_of_mem _ hmr)))))
              have g2 : I2 ≠ r.a := Ne.symm (hne5 (r.a, r.obj) (List.mem_cons_of_mem _ (List.mem_cons_of_mem _ hmr)))
              have g3 : I ≠ r.a := Ne.symm (told_off (o' := LCg.lst (refsOf rows5)) (hT5.1.trans hT.1.symm) hne (r.a, r.obj) (List.mem_cons_of_mem _ hmr))
              have g4 : D ≠ r.a := by
                have hm2 : r.a ∈ c.map (·.a) := by rw [← hT5.1]; exact List.mem_map.mpr ⟨r, List.mem_of_getElem? hr, rfl⟩
                obtain ⟨r2, hr2, e2⟩ := List.mem_map.mp hm2
                rw [← e2]
                exact Ne.symm (off (r2.a, r2.obj) (List.mem_map.mpr ⟨r2, hr2, rfl⟩))
              have gn : (rows5.map (·.a)).Nodup := by rw [hT5.1]; exact hc4
              k_steps
              refine set_x (by assumption) (by assumption) hr gn g1 g2 g3 g4 ?_
              intro h8 F8 N8
              k_steps
              refine told_item N8 (by repeat' first | exact List.mem_cons_self | refine List.mem_cons_of_mem _ ?_) hr (by omega) (by omega) (by with_unfolding_all rfl) ?_
              k_steps
              refine get_y2 N8 hr ?_
              k_steps
              refine set_y2 (by assumption) (by assumption) hr gn g1 g2 g3 g4 ?_
              intro h9 F9 N9
              k_steps
              generalize hr9 : Row.mk r.a _ _ _ _ r.e = r9 at N9
              have ha9 : r9.a = r.a := by rw [← hr9]
              have hx9 : r9.x = r.x + 1 := by rw [← hr9]
              have hy9 : r9.y = r.y + (((i + t : Nat) : Int) - k) := by
                rw [← hr9]; dsimp only; omega
              refine TurnSt.next (σ := List Row × Option Value × Option Value) (rows5.set k r9, _, _) F9 N9 ?_ ?_ (ovl2_of (by rfl) (by rfl) ?_) (told_step hT5 hrl5 hr ha9 hx9 hy9 hcut hoth)
              · dsimp only
                rw [refs_set hr ha9]
                intro p hp; exact List.mem_cons_of_mem _ hp
              · dsimp only
                intro p hp
                rcases List.mem_cons.mp hp with rfl | hp
                · exact hne5 (I, oI) List.mem_cons_self
                · exact told_off (o := LCg.lst (refsOf rows5)) (map_set hr ha9) (fun p hp => hne5 p (List.mem_cons_of_mem _ hp)) p hp
              · intro y h1 h2 h3; simp only [ovl, if_neg h1, if_neg h2, if_neg h3]
          · rename (b != Str.ofString "") = false => hbeq
            rcases hcs with ⟨hb0, hnone⟩ | ⟨k, hk, hka, hkb, hkj, hcut, hoth⟩
            · refine TurnSt.next (σ := List Row × Option Value × Option Value) (rows5, _, _) (by assumption) (by assumption) ?_ hne5 (ovl2_of (by rfl) (by rfl) ?_) (told_same hT5 hrl5 hnone)
              · intro p hp; exact List.mem_cons_of_mem _ hp
              · intro y h1 h2 h3; simp only [ovl, if_neg h1, if_neg h2, if_neg h3]
            · exfalso
              have hb0 : b = Str.ofString "" := by simpa using hbeq
              rw [hb0] at hkb
              have : (Str.ofString "").length = 0 := by rfl
              omega
        · rintro ⟨rows5, vr5, ve5⟩ h5 tk5 u5 hT5 F5 N5
          dsimp only at hT5 F5 N5
          k_steps
          refine TurnSt.next (σ := List Row × Option Value × Option Value × Option Value) (rows5, u5, vr5, ve5) F5 N5 (fun _ h => h) (told_off (hT5.1.trans hT.1.symm) hne) (ovl3_of (by rfl) (by rfl) (by rfl) ?_) ⟨hT5.1, fun k r h => ?_⟩
          · intro y h1 h2 h3 h4; simp only [ovl, if_neg h1, if_neg h2, if_neg h3, if_neg h4]
          · obtain ⟨v1, v2⟩ := hT5.2 k r h
            rw [← hts] at v1 v2
            exact ⟨v1, v2⟩
      · rintro ⟨rows, vj, vr, ve⟩ h4 tk4 u hT F4 N4
        dsimp only at hT F4 N4
        k_steps
        refine ⟨?_⟩
        refine due_c _ _ _ _ _ _ _ _ _ _ _ _ _ _ _ _ _ _ _ _ _ TX alt 0 _ _ _ _ hB (by assumption) (by assumption) (by assumption) (by assumption) (by rfl) (by decide) (by decide) (by omega) halt List.mem_cons_self ?_
        intro d e rs h5 tk5 hrl hrv F5 N5
        k_steps
        have hrows : rows.length = TX.length := (told_len hT.1).trans hc1
        refine eq_rows (rows := rows) (rs := rs) N5 ?_ List.mem_cons_self ?_ ?_ (hrows.trans hrl.symm) ?_ (by exact (by decide : (8 : Nat) < cLine)) ?_
        · exact List.mem_cons_of_mem _ (List.mem_append_right _ (List.mem_cons_of_mem _ List.mem_cons_self))
        · intro p hp; exact List.mem_cons_of_mem _ (List.mem_append_right _ (List.mem_cons_of_mem _ (List.mem_cons_of_mem _ hp)))
        · intro p hp; exact List.mem_cons_of_mem _ (List.mem_append_left _ hp)
        · intro k r r' hr hr'
          obtain ⟨a1, a2⟩ := hT.2 k r hr
          obtain ⟨b1, b2⟩ := hrv k r' hr'
          have hk : k < TX.cps.toList.length := by
            rcases Nat.lt_or_ge k rows.length with q | q
            · omega
            · rw [List.getElem?_eq_none q] at hr; cases hr
          obtain ⟨c1, c2⟩ := told_due (W := wallOf alt) hk
          rw [hts] at c1 c2
          rw [a1, a2, b1, b2]
          exact ⟨c1, c2⟩
        · k_steps
end
