import PyProof.Rows.All
import Wide.All
import OpenK.AllK
import Wide.FinOn
import PySem.Challenge.RW_dn0116_01
open PySem PySem.W PyProof.Rows
set_option Elab.async false
set_option maxRecDepth 100000
set_option maxHeartbeats 8000000
set_option linter.unusedVariables false
section
namespace Mine

structure Stop (P : Prop) : Prop where
  out : P

/-- what a turn of a for-loop must leave -/
def TurnSt {σ : Type} (h₀ : Heap) (L : Addr) (x : Str) (I : Addr) (oI : Obj) (Mp : σ → Str → Option Value) (Nw : σ → List (Addr × Obj)) (P : σ → Prop) (s₁ : Shared) (Q : Flow → Shared → Prop) (f : Flow) (s₂ : Shared) : Prop :=
  match f with
  | .ret v => Q (.ret v) s₂
  | .brk => Q .next s₂
  | _ => ∃ (c : σ) (h' : Heap) (tk : Nat) (m' : Str → Option Value) (news' : List (Addr × Obj)), s₂ = { s₁ with heap := h', toks := tk } ∧ Fr h₀ L h' m' ∧ News h₀ L h' news' ∧ (∀ p ∈ (I, oI) :: Nw c, p ∈ news') ∧ (∀ p ∈ Nw c, p.1 ≠ I) ∧ (∀ y, y ≠ x → m' y = Mp c y) ∧ P c

section
variable {prog : Program} {w : World} {A : Around} {E : Value → Shared → Prop} {s : Shared} {env : Env} {h₀ : Heap} {x : Str} {body : List Stmt} {Q : Flow → Shared → Prop} {m : Str → Option Value} {news : List (Addr × Obj)}

theorem loop_st {σ : Type} {I : Addr} {fp : List Addr} {n : Nat} {Pv : Nat → Value → Prop} {St : Nat → Heap → Prop} (W : Walks prog w A I fp [I] n Pv St) (Mp : σ → Str → Option Value) (Nw : σ → List (Addr × Obj)) (P : Nat → σ → Prop) (c₀ : σ)
    (hlive : ∀ i h, St i h → ∃ o, h.get? I = some o)
    (hfx : ∀ b ∈ fp, b ≠ I → (∃ o, h₀.get? b = some o) ∨ ∃ o, ∀ c, (b, o) ∈ Nw c)
    (hI : h₀.get? I = none) (hIL : env.locals ∉ fp) (hst : St 0 s.heap) (F : Fr h₀ env.locals s.heap m) (N : News h₀ env.locals s.heap news) (hn : ∀ p ∈ Nw c₀, p ∈ news) (hni : ∀ p ∈ Nw c₀, p.1 ≠ I) (hm : ∀ y, y ≠ x → m y = Mp c₀ y) (hp : P 0 c₀)
    (turn : ∀ i v c h tk oI, i < n → Pv i v → P i c → (∀ p ∈ Nw c, p.1 ≠ I) → Fr h₀ env.locals h (fun y => if y = x then some v else Mp c y) → News h₀ env.locals h ((I, oI) :: Nw c) →
      wpAny (model prog w) A (execs body env) (TurnSt h₀ env.locals x I oI Mp Nw (P (i + 1)) { s with heap := h, toks := tk } Q) E { s with heap := h, toks := tk })
    (done : ∀ c h tk u, P n c → Fr h₀ env.locals h (fun y => if y = x then u else Mp c y) → News h₀ env.locals h (Nw c) → Q .next { s with heap := h, toks := tk }) :
    LoopAtV prog w A h₀ env x body Q E (.ref I) s := by
  refine ⟨I, fp, [I], n, Pv, St, m, Nw c₀, (fun i m' news' => ∃ c, news' = Nw c ∧ (∀ p ∈ Nw c, p.1 ≠ I) ∧ (∀ y, y ≠ x → m' y = Mp c y) ∧ P i c), rfl, W, hIL, ?_, ?_, hst, F, (fun p hp => N p (hn p hp)), ⟨c₀, rfl, hni, hm, hp⟩, ?_, ?_⟩
  · intro b hb; rw [List.mem_singleton.mp hb]; exact hI
  · intro p hp hb; exact hni p hp (List.mem_singleton.mp hb)
  · rintro i v m₁ news₁ s₁ own ⟨hh, tk, rfl⟩ hi hv ⟨c, rfl, hc1, hc2, hc3⟩ _ hsub hget hall hst₁ F₁ N₁
    obtain ⟨oI, hoI⟩ := hlive _ _ hst₁
    have hIfp : I ∈ fp := W.sub I (by simp)
    have e : (fun y => if y = x then some v else m₁ y) = fun y => if y = x then some v else Mp c y := by
      funext y
      by_cases h : y = x
      · simp [h]
      · simp only [if_neg h]; exact hc2 y h
    rw [e] at F₁
    have N₂ : News h₀ env.locals hh ((I, oI) :: Nw c) := by
      intro p hp
      rcases List.mem_cons.mp hp with rfl | hp
      · exact N₁ _ (List.mem_append_left _ (hall _ hIfp hI _ hoI))
      · exact N₁ _ (List.mem_append_right _ hp)
    refine wpAny_mono (turn i v c hh tk oI hi hv hc3 hc1 F₁ N₂) (fun f s₂ q => ?_) fun _ _ e => e
    have fin : (∃ (c : σ) (h' : Heap) (tk' : Nat) (m' : Str → Option Value) (news' : List (Addr × Obj)), s₂ = { s with heap := h', toks := tk' } ∧ Fr h₀ env.locals h' m' ∧ News h₀ env.locals h' news' ∧ (∀ p ∈ (I, oI) :: Nw c, p ∈ news') ∧ (∀ p ∈ Nw c, p.1 ≠ I) ∧ (∀ y, y ≠ x → m' y = Mp c y) ∧ P (i + 1) c) →
        LoopStepU h₀ env.locals [I] own (fun m' news' => ∃ c, news' = Nw c ∧ (∀ p ∈ Nw c, p.1 ≠ I) ∧ (∀ y, y ≠ x → m' y = Mp c y) ∧ P (i + 1) c) { s with heap := hh, toks := tk } .next s₂ := by
      rintro ⟨c', h', tk', m', news', rfl, F', N', hsub', hne', hm', hp'⟩
      refine ⟨rfl, h', tk', m', Nw c', rfl, F', ?_, ?_, c', rfl, hne', hm', hp'⟩
      · intro p hp
        rcases List.mem_append.mp hp with hp | hp
        · have h1 := hget p hp
          by_cases hpI : p.1 = I
          · have : p = (I, oI) := by
              obtain ⟨p1, p2⟩ := p
              simp only at hpI h1
              subst hpI
              have h2 : hh.get? p1 = some oI := hoI
              have h3 : hh.get? p1 = some p2 := h1
              rw [h2] at h3; cases h3; rfl
            rw [this]; exact N' _ (hsub' _ (List.mem_cons_self))
          · rcases hfx p.1 (hsub p hp) hpI with ⟨o, ho⟩ | ⟨o, ho⟩
            · have := (N₁ p (List.mem_append_left _ hp)).2.2
              rw [this] at ho; cases ho
            · have h2 := (N₁ _ (List.mem_append_right _ (ho c))).1
              have h3 : hh.get? p.1 = some p.2 := h1
              have h4 : hh.get? p.1 = some o := h2
              rw [h3] at h4; cases h4
              exact N' _ (hsub' _ (List.mem_cons_of_mem _ (ho c')))
        · exact N' _ (hsub' _ (List.mem_cons_of_mem _ hp))
      · intro p hp hb; exact hne' p hp (List.mem_singleton.mp hb)
    cases f with
    | ret v => exact .ret q
    | brk => exact .brk q
    | next => exact .next (fin q)
    | cont => exact .cont (fin q)
  · rintro h' tk m' news' F' N' _ ⟨c, rfl, _, hm', hp'⟩
    refine done c h' tk (m' x) hp' ?_ N'
    have e : (fun y => if y = x then m' x else Mp c y) = m' := by
      funext y
      by_cases h : y = x
      · simp [h]
      · simp only [if_neg h]; exact (hm' y h).symm
    rw [e]; exact F'

theorem iter_str_st {σ : Type} {z : Str} {t : Tok} (Mp : σ → Str → Option Value) (Nw : σ → List (Addr × Obj)) (P : Nat → σ → Prop) (c₀ : σ)
    (hh : A.handled = none) (F : Fr h₀ env.locals s.heap m) (N : News h₀ env.locals s.heap news) (hn : ∀ p ∈ Nw c₀, p ∈ news) (hm : ∀ y, y ≠ x → m y = Mp c₀ y) (hp : P 0 c₀)
    (turn : ∀ i cp u c h tk I oI, z.cps[i]? = some cp → P i c → (∀ p ∈ Nw c, p.1 ≠ I) → Fr h₀ env.locals h (fun y => if y = x then some (.str ⟨#[cp]⟩ u) else Mp c y) → News h₀ env.locals h ((I, oI) :: Nw c) →
      wpAny (model prog w) A (execs body env) (TurnSt h₀ env.locals x I oI Mp Nw (P (i + 1)) { s with heap := h, toks := tk } Q) E { s with heap := h, toks := tk })
    (done : ∀ c h tk u, P z.cps.size c → Fr h₀ env.locals h (fun y => if y = x then u else Mp c y) → News h₀ env.locals h (Nw c) → Q .next { s with heap := h, toks := tk }) :
    wpAny (model prog w) A (pyIter (.str z t)) (fun it s₂ => LoopAtV prog w A h₀ env x body Q E it s₂) E s := by
  have hsz : s.heap.objs.size ∉ ([] : List Addr) := by simp
  have hI : h₀.get? s.heap.objs.size = none := next_is_new F
  have key : ∀ (nm : String), (Walks prog w A s.heap.objs.size [s.heap.objs.size] [s.heap.objs.size] z.cps.size (SignAt z) (fun i h => h.IsStrIter s.heap.objs.size nm z t i)) → ∀ o, (s.heap.push o).IsStrIter s.heap.objs.size nm z t 0 →
      LoopAtV prog w A h₀ env x body Q E (.ref s.heap.objs.size) { s with heap := s.heap.push o } := by
    intro nm W o hst
    refine loop_st (s := { s with heap := s.heap.push o }) (news := news) W Mp Nw P c₀ (fun i h st => ⟨_, st.choose_spec.1⟩) ?_ hI ?_ hst (F.push _) (fun p hp => ⟨Heap.get?_push_of_some _ (N p hp).1, (N p hp).2⟩) hn ?_ hm hp ?_ done
    · intro b hb hne; exact absurd (List.mem_singleton.mp hb) hne
    · intro hb; exact absurd F.ns.lt ((List.mem_singleton.mp hb) ▸ Nat.lt_irrefl _)
    · intro p hp e; exact absurd (Heap.lt_size (N p (hn p hp)).1) (e ▸ Nat.lt_irrefl _)
    · rintro i v c h tk oI hi ⟨cp, u, hcp, rfl⟩ hP hne F₁ N₁
      exact turn i cp u c h tk _ oI hcp hP hne F₁ N₁
  cases ha : z.cps.all (· < 128)
  · exact wpAny_pyIter_wide ha (key _ (Walks.strWide hh _ z t) _ ⟨_, Heap.get?_push_size _ rfl, rfl, rfl⟩)
  · exact wpAny_pyIter_ascii ha (key _ (Walks.strAscii hh _ z t) _ ⟨_, Heap.get?_push_size _ rfl, rfl, rfl⟩)

theorem iter_range_st {σ : Type} {r : Addr} {a₀ b₀ : Int} {t₀ u₀ v₀ : Tok} (n : Nat) (Mp : σ → Str → Option Value) (Nw : σ → List (Addr × Obj)) (P : Nat → σ → Prop) (c₀ : σ)
    (hh : A.handled = none) (hr : IsRange s.heap r a₀ b₀ 1 t₀ u₀ v₀) (hsmall : Builtin.Range.small a₀ b₀ 1 = true) (hnn : Builtin.Range.rangeSize a₀ b₀ 1 = (n : Int))
    (F : Fr h₀ env.locals s.heap m) (N : News h₀ env.locals s.heap news) (hn : ∀ p ∈ Nw c₀, p ∈ news) (hm : ∀ y, y ≠ x → m y = Mp c₀ y) (hp : P 0 c₀)
    (turn : ∀ i u c h tk I oI, i < n → P i c → (∀ p ∈ Nw c, p.1 ≠ I) → Fr h₀ env.locals h (fun y => if y = x then some (.int (a₀ + (i : Int)) u) else Mp c y) → News h₀ env.locals h ((I, oI) :: Nw c) →
      wpAny (model prog w) A (execs body env) (TurnSt h₀ env.locals x I oI Mp Nw (P (i + 1)) { s with heap := h, toks := tk } Q) E { s with heap := h, toks := tk })
    (done : ∀ c h tk u, P n c → Fr h₀ env.locals h (fun y => if y = x then u else Mp c y) → News h₀ env.locals h (Nw c) → Q .next { s with heap := h, toks := tk }) :
    wpAny (model prog w) A (pyIter (.ref r)) (fun it s₂ => LoopAtV prog w A h₀ env x body Q E it s₂) E s := by
  have hI : h₀.get? s.heap.objs.size = none := next_is_new F
  refine wpAny_pyIter_range hr hsmall ?_
  refine loop_st (s := { s with heap := s.heap.push _ }) (news := news) (LCg.range_walks (I := s.heap.objs.size) hh a₀ n) Mp Nw P c₀ (fun i h st => ⟨_, st⟩) ?_ hI ?_ (by show IsRangeIter _ _ _ _ _; rw [hnn]; simpa using Heap.get?_push_size _ rfl) (F.push _) (fun p hp => ⟨Heap.get?_push_of_some _ (N p hp).1, (N p hp).2⟩) hn ?_ hm hp ?_ done
  · intro b hb hne; exact absurd (List.mem_singleton.mp hb) hne
  · intro hb; exact absurd F.ns.lt ((List.mem_singleton.mp hb) ▸ Nat.lt_irrefl _)
  · intro p hp e; exact absurd (Heap.lt_size (N p (hn p hp)).1) (e ▸ Nat.lt_irrefl _)
  · rintro i v c h tk oI hi ⟨u, rfl⟩ hP hne F₁ N₁
    exact turn i u c h tk _ oI hi hP hne F₁ N₁

theorem iter_ints_st {σ : Type} {l : Addr} {vs : List Value} {ns : List Int} (Mp : σ → Str → Option Value) (Nw : σ → List (Addr × Obj)) (P : Nat → σ → Prop) (c₀ : σ)
    (hh : A.handled = none) (hl : h₀.IsList l vs.toArray) (hi : IntsAre vs ns)
    (F : Fr h₀ env.locals s.heap m) (N : News h₀ env.locals s.heap news) (hn : ∀ p ∈ Nw c₀, p ∈ news) (hm : ∀ y, y ≠ x → m y = Mp c₀ y) (hp : P 0 c₀)
    (turn : ∀ i n u c h tk I oI, ns[i]? = some n → P i c → (∀ p ∈ Nw c, p.1 ≠ I) → Fr h₀ env.locals h (fun y => if y = x then some (.int n u) else Mp c y) → News h₀ env.locals h ((I, oI) :: Nw c) →
      wpAny (model prog w) A (execs body env) (TurnSt h₀ env.locals x I oI Mp Nw (P (i + 1)) { s with heap := h, toks := tk } Q) E { s with heap := h, toks := tk })
    (done : ∀ c h tk u, P ns.length c → Fr h₀ env.locals h (fun y => if y = x then u else Mp c y) → News h₀ env.locals h (Nw c) → Q .next { s with heap := h, toks := tk }) :
    wpAny (model prog w) A (pyIter (.ref l)) (fun it s₂ => LoopAtV prog w A h₀ env x body Q E it s₂) E s := by
  have hI : h₀.get? s.heap.objs.size = none := next_is_new F
  have hls : s.heap.IsList l vs.toArray := hl.at fun o e => F.keep l o e
  obtain ⟨ol, hol, _⟩ := id hl
  have hlt : l < h₀.objs.size := Heap.lt_size hol
  have hne : l ≠ s.heap.objs.size := Nat.ne_of_lt (Nat.lt_trans (Nat.lt_of_lt_of_le hlt F.above) F.ns.lt)
  refine wpAny_pyIter_list hls ?_
  have W := Walks.list (prog := prog) (w := w) hh s.heap.objs.size l hne vs.toArray
  have hlen : vs.toArray.size = ns.length := by simp [hi.length]
  rw [hlen] at W
  refine loop_st (s := { s with heap := s.heap.push _ }) (news := news) W Mp Nw P c₀ (fun i h st => ⟨_, st.1.choose_spec.1⟩) ?_ hI ?_ ⟨⟨_, Heap.get?_push_size _ rfl, rfl, rfl⟩, hls.at fun o e => Heap.get?_push_of_some _ e⟩ (F.push _) (fun p hp => ⟨Heap.get?_push_of_some _ (N p hp).1, (N p hp).2⟩) hn ?_ hm hp ?_ done
  · intro b hb hne
    rcases List.mem_cons.mp hb with rfl | hb
    · exact absurd rfl hne
    · rw [List.mem_singleton.mp hb]; exact .inl ⟨ol, hol⟩
  · intro hm
    rcases List.mem_cons.mp hm with e | hm
    · exact absurd F.ns.lt (e ▸ Nat.lt_irrefl _)
    · exact absurd (Nat.lt_of_lt_of_le hlt F.above) ((List.mem_singleton.mp hm) ▸ Nat.lt_irrefl _)
  · intro p hp e; exact absurd (Heap.lt_size (N p (hn p hp)).1) (e ▸ Nat.lt_irrefl _)
  · rintro i v c h tk oI hin hP hPc hne F₁ N₁
    obtain ⟨t, hx⟩ := hi.get i ns[i] (by simp [hin])
    have hv : v = .int ns[i] t := by
      have hP' : vs[i]? = some v := by simpa using hP
      rw [hx] at hP'; exact (Option.some.inj hP').symm
    subst hv
    exact turn i ns[i] t c h tk _ oI (by simp [hin]) hPc hne F₁ N₁

/-- what a turn of a while-loop must leave -/
def WTurnSt {σ : Type} (h₀ : Heap) (L : Addr) (Mp : σ → Str → Option Value) (Nw : σ → List (Addr × Obj)) (P : σ → Prop) (meas : σ → Nat) (k : Nat) (s : Shared) (Q : Flow → Shared → Prop) (f : Flow) (s₂ : Shared) : Prop :=
  match f with
  | .ret v => Q (.ret v) s₂
  | .brk => Q .next s₂
  | _ => ∃ (c : σ) (h' : Heap) (tk : Nat) (m' : Str → Option Value) (news' : List (Addr × Obj)), s₂ = { s with heap := h', toks := tk } ∧ Fr h₀ L h' m' ∧ News h₀ L h' news' ∧ (∀ p ∈ Nw c, p ∈ news') ∧ (∀ y, m' y = Mp c y) ∧ P c ∧ meas c < k

theorem while_st {σ : Type} {L : Addr} {test : Expr} {pos : Pos} (Mp : σ → Str → Option Value) (Nw : σ → List (Addr × Obj)) (P : σ → Prop) (meas : σ → Nat) (c₀ : σ)
    (F : Fr h₀ L s.heap m) (N : News h₀ L s.heap news) (hn : ∀ p ∈ Nw c₀, p ∈ news) (hm : ∀ y, m y = Mp c₀ y) (hp : P c₀)
    (turn : ∀ c h tk, P c → Fr h₀ L h (Mp c) → News h₀ L h (Nw c) →
      wpAny (model prog w) A (isTrue test env (eval test env)) (fun b s₂ =>
        if b = true then wpAny (model prog w) A (execs body env) (WTurnSt h₀ L Mp Nw P meas (meas c) s Q) E s₂ else Q .next s₂) E { s with heap := h, toks := tk })
    (hE : PassesOwn (model prog w) A env E := by passes_own) :
    wpAny (model prog w) A (exec (.While test body [] pos) env) Q E s := by
  refine While_inv2 (fun k m' news' => ∃ c, news' = Nw c ∧ (∀ y, m' y = Mp c y) ∧ P c ∧ meas c = k) (n₀ := meas c₀) F (fun p hp => N p (hn p hp)) ⟨c₀, rfl, hm, hp, rfl⟩ ?_ hE
  rintro k m₁ news₁ h₁ tk₁ F₁ N₁ ⟨c, rfl, hm₁, hP, rfl⟩
  have e : m₁ = Mp c := funext hm₁
  subst e
  refine wpAny_mono (turn c h₁ tk₁ hP F₁ N₁) (fun b s₂ q => ?_) fun _ _ e => e
  cases b with
  | false => exact q
  | true =>
    simp only [if_true] at q ⊢
    refine wpAny_mono q (fun f s₃ q => ?_) fun _ _ e => e
    have fin : (∃ (c' : σ) (h' : Heap) (tk : Nat) (m' : Str → Option Value) (news' : List (Addr × Obj)), s₃ = { s with heap := h', toks := tk } ∧ Fr h₀ L h' m' ∧ News h₀ L h' news' ∧ (∀ p ∈ Nw c', p ∈ news') ∧ (∀ y, m' y = Mp c' y) ∧ P c' ∧ meas c' < meas c) →
        ∃ h' tk m₂ news₂ n', s₃ = { s with heap := h', toks := tk } ∧ Fr h₀ L h' m₂ ∧ News h₀ L h' news₂ ∧ n' < meas c ∧ ∃ c', news₂ = Nw c' ∧ (∀ y, m₂ y = Mp c' y) ∧ P c' ∧ meas c' = n' := by
      rintro ⟨c', h', tk, m', news', rfl, F', N', hs', hm', hp', hlt⟩
      exact ⟨h', tk, m', Nw c', meas c', rfl, F', fun p hp => N' p (hs' p hp), hlt, c', rfl, hm', hp', rfl⟩
    cases f with
    | ret v => exact q
    | brk => exact q
    | next => exact fin q
    | cont => exact fin q
end
abbrev tupObj (vs : List Value) : Obj := { cls := .type "tuple", data := .seq vs.toArray }

/-- what _splitext hands back, in the words of the rules -/
def SplitSpec (p : Str) (sepi dot : Int) (ext a b : Str) : Prop :=
  (sepi < dot ∧ (∃ i, sepi + 1 ≤ i ∧ i < dot ∧ Txt.slice p (some i) (some (i + 1)) ≠ ext) ∧ a = Txt.slice p none (some dot) ∧ b = Txt.slice p (some dot) none) ∨
  (¬ (sepi < dot ∧ ∃ i, sepi + 1 ≤ i ∧ i < dot ∧ Txt.slice p (some i) (some (i + 1)) ≠ ext) ∧ a = p ∧ b = Txt.slice p none (some 0))

def AltIx (p sep : Str) (alt : Value) (i : Int) : Prop :=
  match alt with
  | .str y _ => if (y.length : Int) = 0 then i = Txt.rfind p sep else i = (if Txt.rfind p y > Txt.rfind p sep then Txt.rfind p y else Txt.rfind p sep)
  | _ => i = Txt.rfind p sep
theorem altIx_none {p sep : Str} : AltIx p sep .none (Txt.rfind p sep) := rfl
theorem altIx_some {p sep y : Str} {u : Tok} (h : (y.length : Int) ≠ 0) : AltIx p sep (.str y u) (if Txt.rfind p y > Txt.rfind p sep then Txt.rfind p y else Txt.rfind p sep) := by
  unfold AltIx; simp only [if_neg h]
theorem altIx_zero {p sep y : Str} {u : Tok} (h : (y.length : Int) = 0) : AltIx p sep (.str y u) (Txt.rfind p sep) := by
  unfold AltIx; simp only [if_pos h]

section
variable {prog : Program} {w : World} {A : Around} {E : Value → Shared → Prop} {s : Shared} {env : Env} {h₀ : Heap} {x : Str} {body : List Stmt} {Q : Flow → Shared → Prop} {m : Str → Option Value} {news : List (Addr × Obj)}
def WTurnInt (h₀ : Heap) (L : Addr) (x : Str) (m : Str → Option Value) (news : List (Addr × Obj)) (P : Int → Prop) (meas : Int → Nat) (k : Nat) (s : Shared) (Q : Flow → Shared → Prop) (f : Flow) (s₂ : Shared) : Prop :=
  WTurnSt h₀ L (fun (c : Int × Tok) y => if y = x then some (.int c.1 c.2) else m y) (fun _ => news) (fun c => P c.1) (fun c => meas c.1) k s Q f s₂
theorem while_int {L : Addr} {test : Expr} {pos : Pos} {i₀ : Int} {t₀ : Tok} (P : Int → Int → Prop) (meas : Int → Nat)
    (F : Fr h₀ L s.heap (fun y => if y = x then some (.int i₀ t₀) else m y)) (N : News h₀ L s.heap news) (hp : P i₀ i₀)
    (turn : ∀ i t h tk, P i₀ i → Fr h₀ L h (fun y => if y = x then some (.int i t) else m y) → News h₀ L h news →
      wpAny (model prog w) A (isTrue test env (eval test env)) (fun b s₂ =>
        if b = true then wpAny (model prog w) A (execs body env) (WTurnInt h₀ L x m news (P i₀) meas (meas i) s Q) E s₂ else Q .next s₂) E { s with heap := h, toks := tk })
    (hE : PassesOwn (model prog w) A env E := by passes_own) :
    wpAny (model prog w) A (exec (.While test body [] pos) env) Q E s :=
  while_st (σ := Int × Tok) (fun c y => if y = x then some (.int c.1 c.2) else m y) (fun _ => news) (fun c => P i₀ c.1) (fun c => meas c.1) (i₀, t₀) F N (fun _ h => h) (fun _ => rfl) hp (fun c h tk hP F₁ N₁ => turn c.1 c.2 h tk hP F₁ N₁) hE
end
theorem map_again {x : Str} {a b : Option Value} {m : Str → Option Value} (y : Str) : (if y = x then a else if y = x then b else m y) = if y = x then a else m y := by
  by_cases h : y = x
  · simp [h]
  · simp [h]

theorem WTurnInt.ret {h₀ : Heap} {L : Addr} {x : Str} {m : Str → Option Value} {news : List (Addr × Obj)} {P : Int → Prop} {meas : Int → Nat} {k : Nat} {s s₂ : Shared} {Q : Flow → Shared → Prop} {v : Value} (h : Q (.ret v) s₂) : WTurnInt h₀ L x m news P meas k s Q (.ret v) s₂ := h
theorem TurnSt.ret {σ : Type} {h₀ : Heap} {L : Addr} {x : Str} {I : Addr} {oI : Obj} {Mp : σ → Str → Option Value} {Nw : σ → List (Addr × Obj)} {P : σ → Prop} {s₁ s₂ : Shared} {Q : Flow → Shared → Prop} {v : Value} (h : Q (.ret v) s₂) : TurnSt h₀ L x I oI Mp Nw P s₁ Q (.ret v) s₂ := h
theorem WTurnInt.next {h₀ : Heap} {L : Addr} {x : Str} {b : Option Value} {m : Str → Option Value} {news news' : List (Addr × Obj)} {P : Int → Prop} {meas : Int → Nat} {k : Nat} {s : Shared} {Q : Flow → Shared → Prop} {h' : Heap} {tk : Nat} {i' : Int} {t' : Tok}
    (F : Fr h₀ L h' (fun y => if y = x then some (.int i' t') else if y = x then b else m y)) (N : News h₀ L h' news') (hn : ∀ p ∈ news, p ∈ news') (hp : P i') (hlt : meas i' < k) :
    WTurnInt h₀ L x m news P meas k s Q .next { s with heap := h', toks := tk } :=
  ⟨(i', t'), h', tk, _, news', rfl, F, N, hn, fun y => map_again y, hp, hlt⟩

/-- a map overlaid by a few names -/
def ovl (ps : List (Str × Option Value)) (m : Str → Option Value) (y : Str) : Option Value :=
  match ps with
  | [] => m y
  | p :: r => if y = p.1 then p.2 else ovl r m y
def OvlAt (ps : List (Str × Option Value)) (m : Str → Option Value) : Prop :=
  match ps with
  | [] => True
  | p :: r => m p.1 = p.2 ∧ OvlAt r m
theorem ovl_self {m : Str → Option Value} : ∀ {ps : List (Str × Option Value)}, OvlAt ps m → ∀ y, m y = ovl ps m y
  | [], _, _ => rfl
  | p :: r, h, y => by
    unfold ovl
    by_cases e : y = p.1
    · rw [if_pos e, e]; exact h.1
    · rw [if_neg e]; exact ovl_self h.2 y

theorem ovl1_of {m' m : Str → Option Value} {x k1 : Str} {v1 : Option Value} (h1 : m' k1 = v1) (h3 : ∀ y, y ≠ x → y ≠ k1 → m' y = m y) : ∀ y, y ≠ x → m' y = ovl [(k1, v1)] m y := by
  intro y hx
  simp only [ovl]
  by_cases e1 : y = k1
  · subst e1; simp [h1]
  · simp only [if_neg e1]; exact h3 y hx e1
theorem ovl2_of {m' m : Str → Option Value} {x k1 k2 : Str} {v1 v2 : Option Value} (h1 : m' k1 = v1) (h2 : m' k2 = v2) (h3 : ∀ y, y ≠ x → y ≠ k1 → y ≠ k2 → m' y = m y) : ∀ y, y ≠ x → m' y = ovl [(k1, v1), (k2, v2)] m y := by
  intro y hx
  simp only [ovl]
  by_cases e1 : y = k1
  · subst e1; simp [h1]
  · by_cases e2 : y = k2
    · subst e2; simp [e1, h2]
    · simp only [if_neg e1, if_neg e2]; exact h3 y hx e1 e2
theorem ovl3_of {m' m : Str → Option Value} {x k1 k2 k3 : Str} {v1 v2 v3 : Option Value} (h1 : m' k1 = v1) (h2 : m' k2 = v2) (h4 : m' k3 = v3) (h3 : ∀ y, y ≠ x → y ≠ k1 → y ≠ k2 → y ≠ k3 → m' y = m y) : ∀ y, y ≠ x → m' y = ovl [(k1, v1), (k2, v2), (k3, v3)] m y := by
  intro y hx
  simp only [ovl]
  by_cases e1 : y = k1
  · subst e1; simp [h1]
  · by_cases e2 : y = k2
    · subst e2; simp [e1, h2]
    · by_cases e3 : y = k3
      · subst e3; simp [e1, e2, h4]
      · simp only [if_neg e1, if_neg e2, if_neg e3]; exact h3 y hx e1 e2 e3
section
variable {prog : Program} {w : World} {A : Around} {E : Value → Shared → Prop} {s : Shared} {env : Env} {h₀ : Heap} {x : Str} {body : List Stmt} {Q : Flow → Shared → Prop} {m : Str → Option Value} {news : List (Addr × Obj)}
theorem iter_str_ov {σ : Type} {z : Str} {t : Tok} (ps : σ → List (Str × Option Value)) (Nw : σ → List (Addr × Obj)) (P : Nat → σ → Prop) (c₀ : σ)
    (hh : A.handled = none) (F : Fr h₀ env.locals s.heap m) (N : News h₀ env.locals s.heap news) (hn : ∀ p ∈ Nw c₀, p ∈ news) (hm : OvlAt (ps c₀) m) (hp : P 0 c₀)
    (turn : ∀ i cp u c h tk I oI, z.cps[i]? = some cp → P i c → (∀ p ∈ Nw c, p.1 ≠ I) → Fr h₀ env.locals h (fun y => if y = x then some (.str ⟨#[cp]⟩ u) else ovl (ps c) m y) → News h₀ env.locals h ((I, oI) :: Nw c) →
      wpAny (model prog w) A (execs body env) (TurnSt h₀ env.locals x I oI (fun c => ovl (ps c) m) Nw (P (i + 1)) { s with heap := h, toks := tk } Q) E { s with heap := h, toks := tk })
    (done : ∀ c h tk u, P z.cps.size c → Fr h₀ env.locals h (fun y => if y = x then u else ovl (ps c) m y) → News h₀ env.locals h (Nw c) → Q .next { s with heap := h, toks := tk }) :
    wpAny (model prog w) A (pyIter (.str z t)) (fun it s₂ => LoopAtV prog w A h₀ env x body Q E it s₂) E s :=
  iter_str_st (fun c => ovl (ps c) m) Nw P c₀ hh F N hn (fun y _ => ovl_self hm y) hp turn done
theorem iter_range_ov {σ : Type} {r : Addr} {a₀ b₀ : Int} {t₀ u₀ v₀ : Tok} (n : Nat) (ps : σ → List (Str × Option Value)) (Nw : σ → List (Addr × Obj)) (P : Nat → σ → Prop) (c₀ : σ)
    (hh : A.handled = none) (hr : IsRange s.heap r a₀ b₀ 1 t₀ u₀ v₀) (hsmall : Builtin.Range.small a₀ b₀ 1 = true) (hnn : Builtin.Range.rangeSize a₀ b₀ 1 = (n : Int))
    (F : Fr h₀ env.locals s.heap m) (N : News h₀ env.locals s.heap news) (hn : ∀ p ∈ Nw c₀, p ∈ news) (hm : OvlAt (ps c₀) m) (hp : P 0 c₀)
    (turn : ∀ i u c h tk I oI, i < n → P i c → (∀ p ∈ Nw c, p.1 ≠ I) → Fr h₀ env.locals h (fun y => if y = x then some (.int (a₀ + (i : Int)) u) else ovl (ps c) m y) → News h₀ env.locals h ((I, oI) :: Nw c) →
      wpAny (model prog w) A (execs body env) (TurnSt h₀ env.locals x I oI (fun c => ovl (ps c) m) Nw (P (i + 1)) { s with heap := h, toks := tk } Q) E { s with heap := h, toks := tk })
    (done : ∀ c h tk u, P n c → Fr h₀ env.locals h (fun y => if y = x then u else ovl (ps c) m y) → News h₀ env.locals h (Nw c) → Q .next { s with heap := h, toks := tk }) :
    wpAny (model prog w) A (pyIter (.ref r)) (fun it s₂ => LoopAtV prog w A h₀ env x body Q E it s₂) E s :=
  iter_range_st n (fun c => ovl (ps c) m) Nw P c₀ hh hr hsmall hnn F N hn (fun y _ => ovl_self hm y) hp turn done
theorem iter_ints_ov {σ : Type} {l : Addr} {vs : List Value} {ns : List Int} (ps : σ → List (Str × Option Value)) (Nw : σ → List (Addr × Obj)) (P : Nat → σ → Prop) (c₀ : σ)
    (hh : A.handled = none) (hl : h₀.IsList l vs.toArray) (hi : IntsAre vs ns)
    (F : Fr h₀ env.locals s.heap m) (N : News h₀ env.locals s.heap news) (hn : ∀ p ∈ Nw c₀, p ∈ news) (hm : OvlAt (ps c₀) m) (hp : P 0 c₀)
    (turn : ∀ i n u c h tk I oI, ns[i]? = some n → P i c → (∀ p ∈ Nw c, p.1 ≠ I) → Fr h₀ env.locals h (fun y => if y = x then some (.int n u) else ovl (ps c) m y) → News h₀ env.locals h ((I, oI) :: Nw c) →
      wpAny (model prog w) A (execs body env) (TurnSt h₀ env.locals x I oI (fun c => ovl (ps c) m) Nw (P (i + 1)) { s with heap := h, toks := tk } Q) E { s with heap := h, toks := tk })
    (done : ∀ c h tk u, P ns.length c → Fr h₀ env.locals h (fun y => if y = x then u else ovl (ps c) m y) → News h₀ env.locals h (Nw c) → Q .next { s with heap := h, toks := tk }) :
    wpAny (model prog w) A (pyIter (.ref l)) (fun it s₂ => LoopAtV prog w A h₀ env x body Q E it s₂) E s :=
  iter_ints_st (fun c => ovl (ps c) m) Nw P c₀ hh hl hi F N hn (fun y _ => ovl_self hm y) hp turn done

theorem For_F {E : Value → Shared → Prop} {px pos : Pos} {iter : Expr} (F : Fr h₀ env.locals s.heap m) (hx : env.kindOf x = some .local)
    (hp : (env.scope.kind == .class || (env.scope.kind == .module && env.locals != env.globals)) = false)
    (h : wpAny (model prog w) A (eval iter env) (fun xv s₁ => wpAny (model prog w) A (pyIter xv) (fun it s₂ => LoopAtV prog w A h₀ env x body Q E it s₂) E s₁) E s)
    (hs : ∀ x, foldedSetIterable iter env x = pure x := by intro _; rfl)
    (hE : PassesOwn (model prog w) A env E := by passes_own) :
    wpAny (model prog w) A (exec (.For (.Name x px) iter body [] pos) env) Q E s := For_invV h₀ hx hp h hs hE
theorem TurnSt.next {σ : Type} {L I : Addr} {oI : Obj} {Mp : σ → Str → Option Value} {Nw : σ → List (Addr × Obj)} {P : σ → Prop} {s₁ : Shared} {h' : Heap} {tk : Nat} {m' : Str → Option Value} {news' : List (Addr × Obj)} (c : σ)
    (F : Fr h₀ L h' m') (N : News h₀ L h' news') (hs : ∀ p ∈ (I, oI) :: Nw c, p ∈ news') (hne : ∀ p ∈ Nw c, p.1 ≠ I) (hm : ∀ y, y ≠ x → m' y = Mp c y) (hP : P c) :
    TurnSt h₀ L x I oI Mp Nw P s₁ Q .next { s₁ with heap := h', toks := tk } := ⟨c, h', tk, m', news', rfl, F, N, hs, hne, hm, hP⟩
end
end Mine
end

section
open PySem.Spec PySem.Calls
namespace Mine
open LCg

/-- what the tests (and the element) of one turn of a comprehension must leave -/
def CEnd {σ : Type} (h₀ : Heap) (L : Addr) (m : Str → Option Value) (s : Shared) (I : Addr) (oI : Obj) (C : Addr) (oC : Obj) (D : Addr) (oD : Obj) (Nw : σ → List (Addr × Obj)) (R : σ → Prop) (s₂ : Shared) : Prop :=
  ∃ (c : σ) (h' : Heap) (tk : Nat) (news' : List (Addr × Obj)), s₂ = { s with heap := h', toks := tk } ∧ Fr h₀ L h' m ∧ News h₀ L h' news' ∧ (∀ p ∈ (I, oI) :: (C, oC) :: (D, oD) :: Nw c, p ∈ news') ∧ (∀ p ∈ Nw c, p.1 ≠ I ∧ p.1 ≠ C ∧ p.1 ≠ D) ∧ R c

theorem CEnd.intro {σ : Type} {h₀ : Heap} {L : Addr} {m : Str → Option Value} {s : Shared} {I C D : Addr} {oI oC oD : Obj} {Nw : σ → List (Addr × Obj)} {R : σ → Prop} {h' : Heap} {tk : Nat} {news' : List (Addr × Obj)} (c : σ)
    (F : Fr h₀ L h' m) (N : News h₀ L h' news') (hs : ∀ p ∈ (I, oI) :: (C, oC) :: (D, oD) :: Nw c, p ∈ news') (off : ∀ p ∈ Nw c, p.1 ≠ I ∧ p.1 ≠ C ∧ p.1 ≠ D) (hR : R c) :
    CEnd h₀ L m s I oI C oC D oD Nw R { s with heap := h', toks := tk } := ⟨c, h', tk, news', rfl, F, N, hs, off, hR⟩

section
variable {prog : Program} {w : World} {A : Around} {E : Value → Shared → Prop} {s : Shared} {h₀ : Heap} {L : Addr} {m : Str → Option Value} {env : Env} {news : List (Addr × Obj)}

theorem comp_block {σ : Type} {elt iter : Expr} {x : Str} {px : Pos} {ifs : List Expr} {scope : Scope} {cl : List (Str × Addr)} {pos : Pos} {I : Addr} {fp : List Addr} {n : Nat} {Pv : Nat → Value → Prop} {St : Nat → Heap → Prop}
    (W : Walks prog w A I fp [I] n Pv St) (hsz : n ≤ sizeLine) (Nw : σ → List (Addr × Obj)) (R : Nat → σ → List Value → Prop) (c₀ : σ)
    (hlive : ∀ i h, St i h → ∃ o, h.get? I = some o)
    (hfx : ∀ b ∈ fp, b ≠ I → (∃ o, h₀.get? b = some o) ∨ ∃ o, ∀ c, (b, o) ∈ Nw c)
    (hcell : ∀ y ∈ scope.names, y.2 ≠ .cell) (hkind : scope.kind = .function) (hx : scope.names.lookup x = some .local)
    (hst : St 0 s.heap) (hfp : ∀ b ∈ fp, b < s.heap.objs.size) (F : Fr h₀ L s.heap m) (N : News h₀ L s.heap news) (hn : ∀ p ∈ Nw c₀, p ∈ news) (hIL : L ≠ I) (hI : h₀.get? I = none) (hni : ∀ p ∈ Nw c₀, p.1 ≠ I) (hR : R 0 c₀ [])
    {RR : Value → Addr → Result → Shared → Prop}
    (turn : ∀ i v c ys oI C oC D m₂ h tk (E' : Value → Shared → Prop), i < n → Pv i v → R i c ys → ys.length ≤ i → NsObj oC m₂ → m₂ x = some v → Fr h₀ L h m → News h₀ L h ((I, oI) :: (C, oC) :: (D, lst ys) :: Nw c) →
      (∀ p ∈ Nw c, p.1 ≠ I ∧ p.1 ≠ C ∧ p.1 ≠ D) → I ≠ C ∧ I ≠ D ∧ C ≠ D →
      wpAny (model prog w) A (forIn ifs true fun c r => if r = true then do let ok ← isTrue c (compEnvC scope cl C env) (eval c (compEnvC scope cl C env)); pure (ForInStep.yield ok) else pure (ForInStep.yield r))
        (fun ok s₃ => if ok = true then wpAny (model prog w) A (eval elt (compEnvC scope cl C env)) (fun y s₄ => CEnd h₀ L m s I oI C oC D (lst ys) Nw (fun c' => R (i + 1) c' (ys ++ [y])) s₄) E' s₃
          else CEnd h₀ L m s I oI C oC D (lst ys) Nw (fun c' => R (i + 1) c' ys) s₃) E' { s with heap := h, toks := tk })
    (done : ∀ D C h tk m' c ys, R n c ys → Fr h₀ L h m → News h₀ L h ((D, lst ys) :: Nw c) → (∀ p ∈ Nw c, p.1 ≠ D) → h.Ns C m' → h₀.get? C = none → h₀.get? D = none → C ≠ L → D ≠ L → C ≠ D → (∀ p ∈ Nw c, p.1 ≠ C) → RR (.ref D) C (.ok .next) { s with heap := h, toks := tk }) :
    wpAny (model prog w) A (newList []) (fun acc s₃ => wpAny (model prog w) A (newFunctionEnv scope env.globals cl [] env.qual none .none (some env)) (fun cenv s₄ =>
      codeAny (model prog w) A (.compStart (.ListComp elt [⟨.Name x px, iter, ifs, 0⟩] scope pos) 0 (.ref I) acc { cenv with scope := relabel scope env }) (RR acc cenv.locals) s₄) E s₃) E s := by
  refine wpAny_newObj_type (wpAny_newFunctionEnv hcell (by intro y hy; simp at hy) (fun h₁ hns₁ hsb₁ => ?_) hkind)
  dsimp only at hns₁ hsb₁ ⊢
  generalize hH : s.heap.push { cls := .type "list", dict := none, data := .seq ([] : List Value).toArray } = H at hns₁ hsb₁ ⊢
  generalize hD : s.heap.objs.size = D
  generalize hC : H.objs.size = C at hns₁ hsb₁ ⊢
  have hCD : C = D + 1 := by rw [← hC, ← hH, Heap.size_push, hD]
  have lt_of : ∀ (b : Nat) o, s.heap.get? b = some o → b < D := fun b o e => hD ▸ Heap.lt_size e
  have old : ∀ b o, s.heap.get? b = some o → h₁.get? b = some o := fun b o e =>
    hsb₁.extBut b o (neN (by have := lt_of b o e; omega)) (Heap.get?_push_of_some _ (hH ▸ Heap.get?_push_of_some _ e))
  have hacc : h₁.get? D = some (lst []) := hsb₁.extBut _ _ (neN (by omega)) (Heap.get?_push_of_some _ (by rw [← hH, ← hD]; exact Heap.get?_push_size _ rfl))
  have hIfp : I ∈ fp := W.sub I (by simp)
  have hID : @LT.lt Nat _ I D := hD ▸ hfp I hIfp
  have hLD : @LT.lt Nat _ L D := hD ▸ F.ns.lt
  have fresh : ∀ (a : Nat), D ≤ a → h₀.get? a = none := fun a ha => by
    cases e : h₀.get? a with
    | none => rfl
    | some o => have := lt_of a o (F.keep a o e); omega
  have hD₀ : h₀.get? D = none := fresh D (Nat.le_refl _)
  have hC₀ : h₀.get? C = none := fresh C (by omega)
  have hDf : D ∉ fp := fun hm => by have : @LT.lt Nat _ D s.heap.objs.size := hfp D hm; omega
  have hCf : C ∉ fp := fun hm => by have : @LT.lt Nat _ C s.heap.objs.size := hfp C hm; omega
  have loop : ∀ s₃ : Shared, s₃ = { s with heap := h₁, toks := s.toks + ([] : List (Str × Value)).length } →
      codeAny (model prog w) A (.compLoop (.ListComp elt [⟨.Name x px, iter, ifs, 0⟩] scope pos) 0 (.ref I) (.ref D) (compEnvC scope cl C env)) (RR (.ref D) C) s₃ := by
    rintro s₃ rfl
    refine codeAny_compLoop_tests
      (fun k s' => ∃ h' tk i ys m' c, s' = { s with heap := h', toks := tk } ∧ i ≤ n ∧ k = n + 1 - i ∧ ys.length ≤ i ∧ St i h' ∧ Fr h₀ L h' m ∧ h'.Ns C m' ∧ News h₀ L h' ((D, lst ys) :: Nw c) ∧ (∀ p ∈ Nw c, p.1 ≠ I ∧ p.1 ≠ C ∧ p.1 ≠ D) ∧ R i c ys) ?_ (n + 1)
      ⟨h₁, _, 0, [], _, c₀, rfl, Nat.zero_le _, rfl, Nat.le_refl _, W.frame _ _ _ hst fun b _ o e => old b o e, F.keeps old, hns₁, ?_, ?_, hR⟩
    · rintro k s' ⟨h', tk, i, ys, m', c, rfl, hi, rfl, hyl, hst', F', hn', N', off', hR'⟩
      by_cases hlt : i < n
      · refine W.item i _ _ _ hlt hst' fun v h₂ tk₂ hPv hst₂ hk₂ => ?_
        have hk₂' : ∀ b o, b ≠ I → h'.get? b = some o → h₂.get? b = some o := fun b o hb e => hk₂ b o (by simpa using hb) e
        refine wpAny_assign_Name (wpAny_storeName_local (lookup_relabel_local hx) (hn'.at' fun o e => hk₂' _ o (neN (by omega)) e) (fun h₃ hn₃ hs₃ => ?_) (by simp [compEnvC, relabel, hkind]))
        have up : ∀ b o, b ≠ I → b ≠ C → h'.get? b = some o → h₃.get? b = some o := fun b o h1 h2 e => hs₃.extBut b o h2 (hk₂' b o h1 e)
        have hst₃ : St (i + 1) h₃ := W.frame _ _ _ hst₂ fun b hb o e => hs₃.extBut b o (fun q => hCf (by have q' : b = C := q; rw [← q']; exact hb)) e
        obtain ⟨oI, heI⟩ := hlive _ _ hst₃
        obtain ⟨oC, heC, hoC⟩ := ns_obj hn₃
        have F₃ : Fr h₀ L h₃ m := (fr_but F' hk₂ hIL hI).change hs₃ ((neN (by omega) : @Ne Nat C L)) hC₀
        have N₃ : News h₀ L h₃ ((I, oI) :: (C, oC) :: (D, lst ys) :: Nw c) := fun p hp => by
          rcases List.mem_cons.mp hp with rfl | hp
          · exact ⟨heI, Ne.symm hIL, hI⟩
          · rcases List.mem_cons.mp hp with rfl | hp
            · exact ⟨heC, (neN (by omega) : @Ne Nat C L), hC₀⟩
            · have z := N' p hp
              rcases List.mem_cons.mp hp with rfl | hp
              · exact ⟨up _ _ ((neN (by omega) : @Ne Nat D I)) ((neN (by omega) : @Ne Nat D C)) z.1, z.2⟩
              · exact ⟨up _ _ (off' p hp).1 (off' p hp).2.1 z.1, z.2⟩
        refine wpAny_mono (turn i v c ys oI C oC D _ h₃ _ _ hlt hPv hR' hyl hoC (by simp) F₃ N₃ off' ⟨neN (by omega), neN (by omega), neN (by omega)⟩) (fun ok s₄ q => ?_) fun _ _ e => e
        have after : ∀ (ys' : List Value) (s₅ : Shared), CEnd h₀ L m s I oI C oC D (lst ys) Nw (fun c' => R (i + 1) c' ys') s₅ → ∃ c' h₅ tk₅, s₅ = { s with heap := h₅, toks := tk₅ } ∧ Fr h₀ L h₅ m ∧ News h₀ L h₅ ((D, lst ys) :: Nw c') ∧ (∀ p ∈ Nw c', p.1 ≠ I ∧ p.1 ≠ C ∧ p.1 ≠ D) ∧ St (i + 1) h₅ ∧ (∃ m₅, h₅.Ns C m₅) ∧ R (i + 1) c' ys' := by
          rintro ys' s₅ ⟨c', h₅, tk₅, nw, rfl, F₅, N₅, sub, off₅, R₅⟩
          refine ⟨c', h₅, tk₅, rfl, F₅, fun p hp => N₅ p (sub p (List.mem_cons_of_mem _ (List.mem_cons_of_mem _ hp))), off₅, ?_, ⟨_, hoC.ns (N₅ _ (sub _ (List.mem_cons_of_mem _ List.mem_cons_self))).1⟩, R₅⟩
          refine W.frame _ _ _ hst₃ fun b hb o e => ?_
          by_cases hbI : b = I
          · subst hbI
            have : o = oI := by have e' : h₃.get? b = some oI := heI; rw [e] at e'; cases e'; rfl
            rw [this]; exact (N₅ _ (sub _ List.mem_cons_self)).1
          · rcases hfx b hb hbI with ⟨o', ho'⟩ | ⟨o', ho'⟩
            · have e1 := F₃.keep b o' ho'
              rw [e] at e1; cases e1
              exact F₅.keep b o ho'
            · have e1 := (N₃ _ (List.mem_cons_of_mem _ (List.mem_cons_of_mem _ (List.mem_cons_of_mem _ (ho' c))))).1
              have e1' : h₃.get? b = some o' := e1
              rw [e] at e1'; cases e1'
              exact (N₅ _ (sub _ (List.mem_cons_of_mem _ (List.mem_cons_of_mem _ (List.mem_cons_of_mem _ (ho' c')))))).1
        cases ok with
        | false =>
          simp only [Bool.false_eq_true, if_false] at q ⊢
          obtain ⟨c', h₅, tk₅, rfl, F₅, N₅, off₅, st₅, ⟨m₅, ns₅⟩, R₅⟩ := after ys _ q
          exact ⟨n + 1 - (i + 1), by omega, h₅, tk₅, i + 1, ys, m₅, c', rfl, hlt, rfl, by omega, st₅, F₅, ns₅, N₅, off₅, R₅⟩
        | true =>
          simp only [if_true] at q ⊢
          refine wpAny_mono q (fun y s₅ q => ?_) fun _ _ e => e
          obtain ⟨c', h₅, tk₅, rfl, F₅, N₅, off₅, st₅, ⟨m₅, ns₅⟩, R₅⟩ := after (ys ++ [y]) _ q
          refine append_at (hsz := by show ys.toArray.size ≤ sizeLine; rw [List.size_toArray]; omega) (N₅ _ List.mem_cons_self).1 fun h₆ hs₆ hD₆ => ?_
          refine ⟨n + 1 - (i + 1), by omega, h₆, tk₅, i + 1, ys ++ [y], m₅, c', rfl, hlt, rfl, by rw [List.length_append, List.length_singleton]; omega, W.frame _ _ _ st₅ fun b hb o e => hs₆.extBut b o (fun q => hDf (by have q' : b = D := q; rw [← q']; exact hb)) e, F₅.change hs₆ ((neN (by omega) : @Ne Nat D L)) hD₀, ns₅.sameBut hs₆ ((neN (by omega) : @Ne Nat C D)), fun p hp => ?_, off₅, R₅⟩
          rcases List.mem_cons.mp hp with rfl | hp
          · exact ⟨hD₆.trans (congrArg some (lst_snoc ys y)), (neN (by omega) : @Ne Nat D L), hD₀⟩
          · have z := N₅ p (List.mem_cons_of_mem _ hp)
            exact ⟨hs₆.extBut _ _ (off₅ p hp).2.2 z.1, z.2⟩
      · obtain rfl : i = n := Nat.le_antisymm hi (Nat.not_lt.mp hlt)
        refine W.done _ _ _ hst' fun h₂ tk₂ hk₂ => ?_
        refine done D C h₂ tk₂ m' c ys hR' (fr_but F' hk₂ hIL hI) (news_but N' hk₂ fun p hp => ?_) (fun p hp => (off' p hp).2.2) (hn'.at' fun o e => hk₂ _ o (by simpa using (neN (by omega) : @Ne Nat C I)) e) hC₀ hD₀ (neN (by omega)) (neN (by omega)) (neN (by omega)) (fun p hp => (off' p hp).2.1)
        rcases List.mem_cons.mp hp with rfl | hp
        · exact (neN (by omega) : @Ne Nat D I)
        · exact (off' p hp).1
    · intro p hp
      rcases List.mem_cons.mp hp with rfl | hp
      · exact ⟨hacc, (neN (by omega) : @Ne Nat D L), hD₀⟩
      · exact ⟨old _ _ (N p (hn p hp)).1, (N p (hn p hp)).2⟩
    · intro p hp
      have := lt_of _ _ (N p (hn p hp)).1
      exact ⟨hni p hp, neN (by omega), neN (by omega)⟩
  exact codeAny_compStart_list (loop _ rfl) (W.self 0 _ _ _ (W.frame _ _ _ hst fun b _ o e => old b o e) (loop _ rfl))

/-- behind the source of a comprehension: what is left to run -/
def CompGo (prog : Program) (w : World) (A : Around) (E : Value → Shared → Prop) (h₀ : Heap) (L : Addr) (m : Str → Option Value) (env : Env) (elt : Expr) (ifs : List Expr) (x : Str) (px : Pos) (iter : Expr) (scope : Scope) (pos : Pos) (cl : List (Str × Addr)) (Fin : Addr → List (Addr × Obj) → Shared → Prop) (xv : Value) (s₁ : Shared) : Prop :=
  ∀ RR : Value → Addr → Result → Shared → Prop,
    (∀ D C h tk m' news' , Fr h₀ L h m → News h₀ L h news' → h.Ns C m' → h₀.get? C = none → h₀.get? D = none → C ≠ L → D ≠ L → C ≠ D → (∀ p ∈ news', p.1 ≠ C) →
      Fin D news' s₁ → RR (.ref D) C (.ok .next) { s₁ with heap := h, toks := tk }) →
    wpAny (model prog w) A (pyIter xv) (fun it s₂ => wpAny (model prog w) A (newList []) (fun acc s₃ => wpAny (model prog w) A (newFunctionEnv scope env.globals cl [] env.qual none .none (some env)) (fun cenv s₄ =>
      codeAny (model prog w) A (.compStart (.ListComp elt [⟨.Name x px, iter, ifs, 0⟩] scope pos) 0 it acc { cenv with scope := relabel scope env }) (RR acc cenv.locals) s₄) E s₃) E s₂) E s₁

def CFinE (h₀ : Heap) (L : Addr) (m : Str → Option Value) (Q : Value → Shared → Prop) (D : Addr) (news' : List (Addr × Obj)) (s : Shared) : Prop :=
  ∀ h' tk', Fr h₀ L h' m → News h₀ L h' news' → Q (.ref D) { s with heap := h', toks := tk' }
def CFinA (h₀ : Heap) (L : Addr) (m : Str → Option Value) (y : Str) (Q : Flow → Shared → Prop) (D : Addr) (news' : List (Addr × Obj)) (s : Shared) : Prop :=
  ∀ h' tk', Fr h₀ L h' (fun z => if z = y then some (.ref D) else m z) → News h₀ L h' news' → Q .next { s with heap := h', toks := tk' }

theorem ListComp_go {elt iter : Expr} {ifs : List Expr} {x : Str} {px : Pos} {scope : Scope} {cl : List (Str × Addr)} {pos : Pos} {Q : Value → Shared → Prop} (hF0 : Fr h₀ L s.heap m)
    (hclos : closureFor scope env = pure cl) (hkind : scope.kind = .function)
    (hnames : ∀ y ∈ scope.names, y.2 = .local → scope.names.lookup y.1 = some .local)
    (h : wpAny (model prog w) A (eval iter env) (fun xv s₁ => CompGo prog w A E h₀ L m env elt ifs x px iter scope pos cl (CFinE h₀ L m Q) xv s₁) E s)
    (hs : ∀ x, foldedSetIterable iter env x = pure x := by intro _; rfl) :
    wpAny (model prog w) A (eval (.ListComp elt [⟨.Name x px, iter, ifs, 0⟩] scope pos) env) Q E s := by
  rw [eval_ListComp]
  refine wpAny_comprehension_free (use := none) rfl hs hclos hkind hnames (wpAny_mono h (fun xv s₁ h₁ => ?_) fun _ _ e => e)
  refine h₁ (fun acc C r s' => compPost (model prog w) A E none Q acc C r s') ?_
  intro D C hh tk m' news' F N hns hC₀ hD₀ hCL hDL hCD off fin
  exact ⟨m', hns, fun h'' hs'' => fin h'' tk (F.change hs'' hCL hC₀) fun p hp => ⟨hs''.extBut _ _ (off p hp) (N p hp).1, (N p hp).2⟩⟩

theorem Assign_ListComp_go {elt iter : Expr} {ifs : List Expr} {x y : Str} {px py : Pos} {scope : Scope} {cl : List (Str × Addr)} {pos spos : Pos} {Q : Flow → Shared → Prop} (hF0 : Fr h₀ L s.heap m) (hLe : env.locals = L)
    (hsw : swapsWith (.ListComp elt [⟨.Name x px, iter, ifs, 0⟩] scope pos) (some (.Name y py)) spos.line env = pure true)
    (hclos : closureFor scope env = pure cl) (hkind : scope.kind = .function)
    (hnames : ∀ z ∈ scope.names, z.2 = .local → scope.names.lookup z.1 = some .local)
    (hy : env.kindOf y = some .local) (hp : (env.scope.kind == .class || (env.scope.kind == .module && env.locals != env.globals)) = false)
    (h : wpAny (model prog w) A (eval iter env) (fun xv s₁ => CompGo prog w A E h₀ L m env elt ifs x px iter scope pos cl (CFinA h₀ L m y Q) xv s₁) E s)
    (hs : ∀ x, foldedSetIterable iter env x = pure x := by intro _; rfl) :
    wpAny (model prog w) A (exec (.Assign [.Name y py] (.ListComp elt [⟨.Name x px, iter, ifs, 0⟩] scope pos) spos) env) Q E s := by
  subst hLe
  rw [exec_Assign_Name_used _ _ _ _ hsw]
  refine wpAny_bind (wpAny_standAt (wpAny_bind ?_))
  show wpAny _ A (do let _ ← comprehension (.ListComp elt [⟨.Name x px, iter, ifs, 0⟩] scope pos) scope env _ (newList []) false (eval iter env) (some (assign (.Name y py) env))) _ _ s
  refine wpAny_bind (wpAny_mono (wpAny_comprehension_free (use := some (assign (.Name y py) env)) (Q := fun _ s' => Q .next s') rfl hs hclos hkind hnames
    (wpAny_mono h (fun xv s₁ h₁ => ?_) fun _ _ e => e)) (fun _ s' hq => wpAny_pure (wpAny_pure hq)) fun _ _ e => e)
  refine h₁ (fun acc C r s' => compPost (model prog w) A E (some (assign (.Name y py) env)) (fun _ s' => Q .next s') acc C r s') ?_
  intro D C hh tk m' news' F N hns hC₀ hD₀ hCL hDL hCD off fin
  show wpAny _ A (assign (.Name y py) env (.ref D)) _ _ _
  refine wpAny_assign_Name (wpAny_storeName_local hy F.ns (fun h₂ hn₂ hs₂ => ?_) hp)
  have hL₀ : h₀.get? env.locals = none := Heap.get?_none_of_le F.above
  have F₂ : Fr h₀ env.locals h₂ (fun z => if z = y then some (.ref D) else m z) := ⟨hn₂, fun b o e => hs₂.extBut b o (fun q => by rw [q, hL₀] at e; cases e) (F.keep b o e), F.above⟩
  exact ⟨m', hns.sameBut hs₂ hCL, fun h'' hs'' => fin h'' _ (F₂.change hs'' hCL hC₀) fun p hp => ⟨hs''.extBut _ _ (off p hp) (hs₂.extBut _ _ (N p hp).2.1 (N p hp).1), (N p hp).2⟩⟩

theorem CompGo.str {σ : Type} {elt iter : Expr} {ifs : List Expr} {x : Str} {px : Pos} {scope : Scope} {cl : List (Str × Addr)} {pos : Pos} {Fin : Addr → List (Addr × Obj) → Shared → Prop} {z : Str} {t : Tok}
    (Nw : σ → List (Addr × Obj)) (R : Nat → σ → List Value → Prop) (c₀ : σ) (hh : A.handled = none) (F : Fr h₀ L s.heap m) (N : News h₀ L s.heap news) (hn : ∀ p ∈ Nw c₀, p ∈ news) (hsz : z.cps.size ≤ sizeLine) (hR : R 0 c₀ [])
    (hcell : ∀ y ∈ scope.names, y.2 ≠ .cell) (hkind : scope.kind = .function) (hx : scope.names.lookup x = some .local)
    (turn : ∀ i cp u c ys I oI C oC D m₂ h tk (E' : Value → Shared → Prop), z.cps[i]? = some cp → R i c ys → ys.length ≤ i → NsObj oC m₂ → m₂ x = some (.str ⟨#[cp]⟩ u) → Fr h₀ L h m → News h₀ L h ((I, oI) :: (C, oC) :: (D, lst ys) :: Nw c) →
      (∀ p ∈ Nw c, p.1 ≠ I ∧ p.1 ≠ C ∧ p.1 ≠ D) → I ≠ C ∧ I ≠ D ∧ C ≠ D →
      wpAny (model prog w) A (forIn ifs true fun c r => if r = true then do let ok ← isTrue c (compEnvC scope cl C env) (eval c (compEnvC scope cl C env)); pure (ForInStep.yield ok) else pure (ForInStep.yield r))
        (fun ok s₃ => if ok = true then wpAny (model prog w) A (eval elt (compEnvC scope cl C env)) (fun y s₄ => CEnd h₀ L m s I oI C oC D (lst ys) Nw (fun c' => R (i + 1) c' (ys ++ [y])) s₄) E' s₃
          else CEnd h₀ L m s I oI C oC D (lst ys) Nw (fun c' => R (i + 1) c' ys) s₃) E' { s with heap := h, toks := tk })
    (done : ∀ D c ys, R z.cps.size c ys → (∀ p ∈ Nw c, p.1 ≠ D) → Fin D ((D, lst ys) :: Nw c) s) :
    CompGo prog w A E h₀ L m env elt ifs x px iter scope pos cl Fin (.str z t) s := by
  intro RR hRR
  have hI : h₀.get? s.heap.objs.size = none := next_is_new F
  have key : ∀ (nm : String), (Walks prog w A s.heap.objs.size [s.heap.objs.size] [s.heap.objs.size] z.cps.size (SignAt z) (fun i h => h.IsStrIter s.heap.objs.size nm z t i)) → ∀ o, (s.heap.push o).IsStrIter s.heap.objs.size nm z t 0 →
      wpAny (model prog w) A (newList []) (fun acc s₃ => wpAny (model prog w) A (newFunctionEnv scope env.globals cl [] env.qual none .none (some env)) (fun cenv s₄ =>
        codeAny (model prog w) A (.compStart (.ListComp elt [⟨.Name x px, iter, ifs, 0⟩] scope pos) 0 (.ref s.heap.objs.size) acc { cenv with scope := relabel scope env }) (RR acc cenv.locals) s₄) E s₃) E { s with heap := s.heap.push o } := by
    intro nm W o hst
    refine comp_block (s := { s with heap := s.heap.push o }) (news := news) W hsz Nw R c₀ (fun i h st => ⟨_, st.choose_spec.1⟩) ?_ hcell hkind hx hst ?_ (F.push _) (fun p hp => ⟨Heap.get?_push_of_some _ (N p hp).1, (N p hp).2⟩) hn (Nat.ne_of_lt F.ns.lt) hI ?_ hR ?_ ?_
    · intro b hb hne; exact absurd (List.mem_singleton.mp hb) hne
    · intro b hb; rw [List.mem_singleton.mp hb]; show s.heap.objs.size < (s.heap.push _).objs.size; rw [Heap.size_push]; exact Nat.lt_succ_self _
    · intro p hp e; exact absurd (Heap.lt_size (N p (hn p hp)).1) (e ▸ Nat.lt_irrefl _)
    · rintro i v c ys oI C oC D m₂ h tk E' hi ⟨cp, u, hcp, rfl⟩ hRi hyl hC hm F₁ N₁ off dis
      exact turn i cp u c ys _ oI C oC D m₂ h tk E' hcp hRi hyl hC hm F₁ N₁ off dis
    · intro D C h tk m' c ys hRn F₁ N₁ off hns hC₀ hD₀ hCL hDL hCD offC
      refine hRR D C h tk m' _ F₁ N₁ hns hC₀ hD₀ hCL hDL hCD ?_ (done D c ys hRn off)
      intro p hp
      rcases List.mem_cons.mp hp with rfl | hp
      · exact Ne.symm hCD
      · exact offC p hp
  cases ha : z.cps.all (· < 128)
  · exact wpAny_pyIter_wide ha (key _ (Walks.strWide hh _ z t) _ ⟨_, Heap.get?_push_size _ rfl, rfl, rfl⟩)
  · exact wpAny_pyIter_ascii ha (key _ (Walks.strAscii hh _ z t) _ ⟨_, Heap.get?_push_size _ rfl, rfl, rfl⟩)

theorem CompGo.range {σ : Type} {elt iter : Expr} {ifs : List Expr} {x : Str} {px : Pos} {scope : Scope} {cl : List (Str × Addr)} {pos : Pos} {Fin : Addr → List (Addr × Obj) → Shared → Prop} {r : Addr} {a₀ b₀ : Int} {t₀ u₀ v₀ : Tok} (n : Nat)
    (Nw : σ → List (Addr × Obj)) (R : Nat → σ → List Value → Prop) (c₀ : σ) (hh : A.handled = none) (hr : IsRange s.heap r a₀ b₀ 1 t₀ u₀ v₀) (hsmall : Builtin.Range.small a₀ b₀ 1 = true) (hnn : Builtin.Range.rangeSize a₀ b₀ 1 = (n : Int))
    (F : Fr h₀ L s.heap m) (N : News h₀ L s.heap news) (hn : ∀ p ∈ Nw c₀, p ∈ news) (hsz : n ≤ sizeLine) (hR : R 0 c₀ [])
    (hcell : ∀ y ∈ scope.names, y.2 ≠ .cell) (hkind : scope.kind = .function) (hx : scope.names.lookup x = some .local)
    (turn : ∀ i u c ys I oI C oC D m₂ h tk (E' : Value → Shared → Prop), i < n → R i c ys → ys.length ≤ i → NsObj oC m₂ → m₂ x = some (.int (a₀ + (i : Int)) u) → Fr h₀ L h m → News h₀ L h ((I, oI) :: (C, oC) :: (D, lst ys) :: Nw c) →
      (∀ p ∈ Nw c, p.1 ≠ I ∧ p.1 ≠ C ∧ p.1 ≠ D) → I ≠ C ∧ I ≠ D ∧ C ≠ D →
      wpAny (model prog w) A (forIn ifs true fun c r => if r = true then do let ok ← isTrue c (compEnvC scope cl C env) (eval c (compEnvC scope cl C env)); pure (ForInStep.yield ok) else pure (ForInStep.yield r))
        (fun ok s₃ => if ok = true then wpAny (model prog w) A (eval elt (compEnvC scope cl C env)) (fun y s₄ => CEnd h₀ L m s I oI C oC D (lst ys) Nw (fun c' => R (i + 1) c' (ys ++ [y])) s₄) E' s₃
          else CEnd h₀ L m s I oI C oC D (lst ys) Nw (fun c' => R (i + 1) c' ys) s₃) E' { s with heap := h, toks := tk })
    (done : ∀ D c ys, R n c ys → (∀ p ∈ Nw c, p.1 ≠ D) → Fin D ((D, lst ys) :: Nw c) s) :
    CompGo prog w A E h₀ L m env elt ifs x px iter scope pos cl Fin (.ref r) s := by
  intro RR hRR
  have hI : h₀.get? s.heap.objs.size = none := next_is_new F
  refine wpAny_pyIter_range hr hsmall ?_
  refine comp_block (s := { s with heap := s.heap.push _ }) (news := news) (LCg.range_walks (I := s.heap.objs.size) hh a₀ n) hsz Nw R c₀ (fun i h st => ⟨_, st⟩) ?_ hcell hkind hx (by show IsRangeIter _ _ _ _ _; rw [hnn]; simpa using Heap.get?_push_size _ rfl) ?_ (F.push _) (fun p hp => ⟨Heap.get?_push_of_some _ (N p hp).1, (N p hp).2⟩) hn (Nat.ne_of_lt F.ns.lt) hI ?_ hR ?_ ?_
  · intro b hb hne; exact absurd (List.mem_singleton.mp hb) hne
  · intro b hb; rw [List.mem_singleton.mp hb]; show s.heap.objs.size < (s.heap.push _).objs.size; rw [Heap.size_push]; exact Nat.lt_succ_self _
  · intro p hp e; exact absurd (Heap.lt_size (N p (hn p hp)).1) (e ▸ Nat.lt_irrefl _)
  · rintro i v c ys oI C oC D m₂ h tk E' hi ⟨u, rfl⟩ hRi hyl hC hm F₁ N₁ off dis
    exact turn i u c ys _ oI C oC D m₂ h tk E' hi hRi hyl hC hm F₁ N₁ off dis
  · intro D C h tk m' c ys hRn F₁ N₁ off hns hC₀ hD₀ hCL hDL hCD offC
    refine hRR D C h tk m' _ F₁ N₁ hns hC₀ hD₀ hCL hDL hCD ?_ (done D c ys hRn off)
    intro p hp
    rcases List.mem_cons.mp hp with rfl | hp
    · exact Ne.symm hCD
    · exact offC p hp

/-- the source is a list of the ledger -/
theorem CompGo.made {σ : Type} {elt iter : Expr} {ifs : List Expr} {x : Str} {px : Pos} {scope : Scope} {cl : List (Str × Addr)} {pos : Pos} {Fin : Addr → List (Addr × Obj) → Shared → Prop} {l : Addr} {its : Array Value} {e : Nat}
    (Nw : σ → List (Addr × Obj)) (R : Nat → σ → List Value → Prop) (c₀ : σ) (hh : A.handled = none) (hl : ∀ c, (l, W.listOf its e) ∈ Nw c)
    (F : Fr h₀ L s.heap m) (N : News h₀ L s.heap news) (hn : ∀ p ∈ Nw c₀, p ∈ news) (hsz : its.size ≤ sizeLine) (hR : R 0 c₀ [])
    (hcell : ∀ y ∈ scope.names, y.2 ≠ .cell) (hkind : scope.kind = .function) (hx : scope.names.lookup x = some .local)
    (turn : ∀ i v c ys I oI C oC D m₂ h tk (E' : Value → Shared → Prop), its[i]? = some v → R i c ys → ys.length ≤ i → NsObj oC m₂ → m₂ x = some v → Fr h₀ L h m → News h₀ L h ((I, oI) :: (C, oC) :: (D, lst ys) :: Nw c) →
      (∀ p ∈ Nw c, p.1 ≠ I ∧ p.1 ≠ C ∧ p.1 ≠ D) → I ≠ C ∧ I ≠ D ∧ C ≠ D →
      wpAny (model prog w) A (forIn ifs true fun c r => if r = true then do let ok ← isTrue c (compEnvC scope cl C env) (eval c (compEnvC scope cl C env)); pure (ForInStep.yield ok) else pure (ForInStep.yield r))
        (fun ok s₃ => if ok = true then wpAny (model prog w) A (eval elt (compEnvC scope cl C env)) (fun y s₄ => CEnd h₀ L m s I oI C oC D (lst ys) Nw (fun c' => R (i + 1) c' (ys ++ [y])) s₄) E' s₃
          else CEnd h₀ L m s I oI C oC D (lst ys) Nw (fun c' => R (i + 1) c' ys) s₃) E' { s with heap := h, toks := tk })
    (done : ∀ D c ys, R its.size c ys → (∀ p ∈ Nw c, p.1 ≠ D) → Fin D ((D, lst ys) :: Nw c) s) :
    CompGo prog w A E h₀ L m env elt ifs x px iter scope pos cl Fin (.ref l) s := by
  intro RR hRR
  have hI : h₀.get? s.heap.objs.size = none := next_is_new F
  have hls : s.heap.IsList l its := ⟨_, (N _ (hn _ (hl c₀))).1, rfl, _, rfl⟩
  have hlt : l < s.heap.objs.size := Heap.lt_size (N _ (hn _ (hl c₀))).1
  have hne : l ≠ s.heap.objs.size := Nat.ne_of_lt hlt
  refine wpAny_pyIter_list hls ?_
  refine comp_block (s := { s with heap := s.heap.push _ }) (news := news) (Walks.list hh s.heap.objs.size l hne its) hsz Nw R c₀ (fun i h st => ⟨_, st.1.choose_spec.1⟩) ?_ hcell hkind hx ⟨⟨_, Heap.get?_push_size _ rfl, rfl, rfl⟩, hls.at fun o e => Heap.get?_push_of_some _ e⟩ ?_ (F.push _) (fun p hp => ⟨Heap.get?_push_of_some _ (N p hp).1, (N p hp).2⟩) hn (Nat.ne_of_lt F.ns.lt) hI ?_ hR ?_ ?_
  · intro b hb hne
    rcases List.mem_cons.mp hb with rfl | hb
    · exact absurd rfl hne
    · rw [List.mem_singleton.mp hb]; exact .inr ⟨_, hl⟩
  · intro b hb
    show b < (s.heap.push _).objs.size
    rw [Heap.size_push]
    rcases List.mem_cons.mp hb with rfl | hb
    · exact Nat.lt_succ_self _
    · rw [List.mem_singleton.mp hb]; exact Nat.lt_succ_of_lt hlt
  · intro p hp e; exact absurd (Heap.lt_size (N p (hn p hp)).1) (e ▸ Nat.lt_irrefl _)
  · rintro i v c ys oI C oC D m₂ h tk E' hi hv hRi hyl hC hm F₁ N₁ off dis
    exact turn i v c ys _ oI C oC D m₂ h tk E' hv hRi hyl hC hm F₁ N₁ off dis
  · intro D C h tk m' c ys hRn F₁ N₁ off hns hC₀ hD₀ hCL hDL hCD offC
    refine hRR D C h tk m' _ F₁ N₁ hns hC₀ hD₀ hCL hDL hCD ?_ (done D c ys hRn off)
    intro p hp
    rcases List.mem_cons.mp hp with rfl | hp
    · exact Ne.symm hCD
    · exact offC p hp

/-- `in` a list of a text and None or another text -/
def wallHit (sep : Str) (alt : Value) (z : Str) : Bool := sep == z || valHitsStr z alt
theorem in_walls {wl : Addr} {sep z : Str} {alt : Value} {t u : Tok} {e : Nat} {Q : Value → Shared → Prop} (N : News h₀ L s.heap news) (hm : (wl, W.listOf #[.str sep t, alt] e) ∈ news) (ha : alt = .none ∨ ∃ y u, alt = .str y u)
    (h : Q (.bool (wallHit sep alt z)) s) : wpAny (model prog w) A (compareOp .In (.str z u) (.ref wl)) Q E s := by
  refine PySem.SeqAt.in_listAt (valHitsStr z) (items := #[.str sep t, alt]) ⟨_, (N _ hm).1, rfl, _, rfl⟩ ?_ ?_
  · intro y hy
    have hy' : y = .str sep t ∨ y = alt := by simpa using hy
    rcases hy' with rfl | rfl
    · exact PySem.SeqAt.EqAt.str_str _ _ _ _
    · rcases ha with rfl | ⟨y, u, rfl⟩
      · exact PySem.SeqAt.EqAt.none_str _ _
      · exact PySem.SeqAt.EqAt.str_str _ _ _ _
  · simpa [wallHit, valHitsStr] using h
theorem notin_walls {wl : Addr} {sep z : Str} {alt : Value} {t u : Tok} {e : Nat} {Q : Value → Shared → Prop} (N : News h₀ L s.heap news) (hm : (wl, W.listOf #[.str sep t, alt] e) ∈ news) (ha : alt = .none ∨ ∃ y u, alt = .str y u)
    (h : Q (.bool (!wallHit sep alt z)) s) : wpAny (model prog w) A (compareOp .NotIn (.str z u) (.ref wl)) Q E s := by
  refine PySem.SeqAt.notIn_listAt (valHitsStr z) (items := #[.str sep t, alt]) ⟨_, (N _ hm).1, rfl, _, rfl⟩ ?_ ?_
  · intro y hy
    have hy' : y = .str sep t ∨ y = alt := by simpa using hy
    rcases hy' with rfl | rfl
    · exact PySem.SeqAt.EqAt.str_str _ _ _ _
    · rcases ha with rfl | ⟨y, u, rfl⟩
      · exact PySem.SeqAt.EqAt.none_str _ _
      · exact PySem.SeqAt.EqAt.str_str _ _ _ _
  · simpa [wallHit, valHitsStr] using h
theorem ne_nilK {l b : Addr} {items : Array Value} {Q : Value → Shared → Prop} (hl : s.heap.IsList l items) (hb : s.heap.IsList b #[]) (hu : A.units < cLine)
    (h : Q (.bool (items.size != 0)) s) : wpAny (model prog w) A (compareOp .NotEq (.ref l) (.ref b)) Q E s := by
  by_cases hz : items.size = 0
  · have e : items = #[] := Array.eq_empty_of_size_eq_zero hz
    subst e
    refine PySem.SeqAt.RcNeAt.lists (e := fun _ => true) hl hb rfl hu ?_ prog w E Q ?_
    · intro j h1 _; exact absurd h1 (Nat.not_lt_zero _)
    · exact h
  · refine PySem.SeqAt.RcNeAt.lists_lengths hl hb ?_ hu prog w E Q ?_
    · simpa using hz
    · have : (items.size != 0) = true := by simpa using hz
      rw [this] at h; exact h
end
end Mine
end

section
namespace Mine
open_top hd1 for PySem.Challenge.rw_dn0116_01
end Mine
end

section
namespace Mine
local macro_rules | `(tactic| walk_at "WTurnInt") => `(tactic| (with_reducible refine WTurnInt.ret ?_))
local macro_rules | `(tactic| walk_at "TurnSt") => `(tactic| (with_reducible refine TurnSt.ret ?_))
local macro_rules | `(tactic| walk_at "exec While Compare cons nil") => `(tactic| (with_reducible refine Stop.out ?_))

theorem splitext_c : ∀ (w : World) (mean : ExcName → Option Value) (mg mb : Str → Option Value) (dp un : Nat) (gd : Option (List Code)) (cn : Str) (cs : Scope) (a : Addr) (ccd : Value) (cl : List (Str × Addr)) (outer : List Env) (A₀ : Around) (base h₀ : Heap) (L : Addr) (m : Str → Option Value) (news : List (Addr × Obj)) (s : Shared)
    (p sep ext : Str) (alt : Value) (t1 t2 t3 : Tok) (Q E : Value → Shared → Prop),
    Below A₀ base outer h₀ → Fr h₀ L s.heap m → (hd1.heap_39 w.params).In h₀ → News h₀ L s.heap news → Top hd1.view_39 (looseW hd1.view_39 []) mean mg mb h₀ → cs.kind = .function → dp < 900 → un < 900 → p.length ≤ 1000000 →
    (alt = .none ∨ ∃ y u, alt = .str y u ∧ y.length ≤ 1000000) →
    (∀ sepi t a b ta tb h' tk', AltIx p sep alt sepi → SplitSpec p sepi (Txt.rfind p ext) ext a b → Fr h₀ L h' m → News h₀ L h' ((t, tupObj [.str a ta, .str b tb]) :: news) → (∀ q ∈ news, q.1 < t) → Q (.ref t) { s with heap := h', toks := tk' }) →
    wpAny (model PySem.Challenge.rw_dn0116_01.prog w) (ktrTop dp un gd cn cs L a ccd cl outer) (call (.ref 21) [.str p t1, .str sep t2, alt, .str ext t3]) Q E s := by
  k_fill
  intro w mean mg mb dp un gd cn cs a ccd cl outer A₀ base h₀ L m news s p sep ext alt t1 t2 t3 Q E B F X N T hk hd hu hlen halt hret
  rcases halt with rfl | ⟨al, u, rfl, hal⟩
  all_goals
    refine wpAny_call ?_
    k_dflt ktr_enter
    k_steps
  all_goals first
    | exact hret _ _ _ _ _ _ _ _ (by first | exact altIx_none | exact altIx_some (by assumption) | exact altIx_zero (by assumption)) (.inr ⟨fun h => absurd h.1 (by assumption), rfl, rfl⟩) (by assumption) (by assumption) (by assumption)
    | refine ⟨?_⟩
      refine while_int (fun i₀ i => i₀ ≤ i ∧ ∀ j, i₀ ≤ j → j < i → Txt.slice p (some j) (some (j + 1)) = ext) (fun i => (Txt.rfind p ext - i).toNat) (by with_reducible assumption) (by with_reducible assumption) ⟨Int.le_refl _, fun j h1 h2 => absurd h1 (by omega)⟩ ?_
      rintro i t h tk ⟨hi, hall⟩ F9 N9
      k_steps
      all_goals first
        | exact hret _ _ _ _ _ _ _ _ (by first | exact altIx_none | exact altIx_some (by assumption) | exact altIx_zero (by assumption)) (.inl ⟨by assumption, ⟨i, hi, by assumption, by simpa using (by assumption : (Txt.slice p (some i) (some (i + 1)) != ext) = true)⟩, rfl, rfl⟩) (by assumption) (by assumption) (by assumption)
        | exact hret _ _ _ _ _ _ _ _ (by first | exact altIx_none | exact altIx_some (by assumption) | exact altIx_zero (by assumption)) (.inr ⟨fun h => let ⟨j, h1, h2, h3⟩ := h.2; h3 (hall j h1 (by omega)), rfl, rfl⟩) (by assumption) (by assumption) (by assumption)
        | refine WTurnInt.next (by with_reducible assumption) (by with_reducible assumption) (fun _ h => h) ⟨by omega, fun j h1 h2 => ?_⟩ (by omega)
          rcases Int.lt_or_eq_of_le (Int.le_of_lt_add_one h2) with h3 | h3
          · exact hall j h1 h3
          · subst h3; simpa using (by assumption : (Txt.slice p (some _) (some (_ + 1)) != ext) = false)
end Mine
end

section
namespace Mine
def absI (n : Int) : Int := if n < 0 then -n else n
theorem absI_eq (n : Int) : absI n = (n.natAbs : Int) := by unfold absI; split <;> omega
theorem fmodN (k d : Nat) : (Int.fmod (k : Int) (d : Int)).toNat = k % d := by
  rw [Int.fmod_eq_emod_of_nonneg _ (Int.natCast_nonneg d)]; omega
theorem fdivN (k d : Nat) : Int.fdiv (k : Int) (d : Int) = ((k / d : Nat) : Int) := by
  rw [Int.fdiv_eq_ediv_of_nonneg _ (Int.natCast_nonneg d)]; simp
theorem sign0 (n : Int) : (Int.fmod (if n < 0 then -n else n) 6).toNat = n.natAbs % 6 := by
  have := absI_eq n; unfold absI at this; rw [this]; exact fmodN _ 6
theorem sign1 (n : Int) : (Int.fmod (Int.fdiv (if n < 0 then -n else n) 6) 6).toNat = n.natAbs / 6 % 6 := by
  have := absI_eq n; unfold absI at this; rw [this]
  have h := fdivN n.natAbs 6
  rw [show ((6 : Nat) : Int) = 6 from rfl] at h
  rw [h]; exact fmodN _ 6
theorem sign2 (n : Int) : (Int.fmod (Int.fdiv (if n < 0 then -n else n) 36) 6).toNat = n.natAbs / 36 % 6 := by
  have := absI_eq n; unfold absI at this; rw [this]
  have h := fdivN n.natAbs 36
  rw [show ((36 : Nat) : Int) = 36 from rfl] at h
  rw [h]; exact fmodN _ 6
def signsOf (n : Nat) : List Nat := [n % 6] ++ (if n > 5 then [n / 6 % 6] else []) ++ (if n > 35 then [n / 36 % 6] else [])
def placesOf (ns : List Int) : List Nat := ns.flatMap fun x => signsOf x.natAbs
theorem placesOf_step {ns : List Int} {i : Nat} {n : Int} (h : ns[i]? = some n) : placesOf (ns.take (i + 1)) = placesOf (ns.take i) ++ signsOf n.natAbs := by
  rw [List.take_add_one, h]; simp [placesOf]
theorem signsOf_length (n : Nat) : (signsOf n).length ≤ 3 := by unfold signsOf; split <;> split <;> simp
theorem placesOf_length (ns : List Int) : (placesOf ns).length ≤ 3 * ns.length := by
  induction ns with
  | nil => simp [placesOf]
  | cons n r ih =>
    have := signsOf_length n.natAbs
    simp only [placesOf, List.flatMap_cons, List.length_append, List.length_cons] at *
    omega
theorem str_app (xs ys : List Nat) : (⟨xs.toArray⟩ : Str) ++ ⟨ys.toArray⟩ = ⟨(xs ++ ys).toArray⟩ := by
  show (⟨xs.toArray ++ ys.toArray⟩ : Str) = _
  simp
theorem text_step3 {ns : List Int} {i : Nat} {n : Int} {f : Nat → Nat} {tx : Str} (h : ns[i]? = some n) (htx : tx = ⟨((placesOf (ns.take i)).map f).toArray⟩) (h35 : 35 < if n < 0 then -n else n) :
    tx ++ ⟨#[f (Int.fmod (if n < 0 then -n else n) 6).toNat]⟩ ++ ⟨#[f (Int.fmod (Int.fdiv (if n < 0 then -n else n) 6) 6).toNat]⟩ ++ ⟨#[f (Int.fmod (Int.fdiv (if n < 0 then -n else n) 36) 6).toNat]⟩ = ⟨((placesOf (ns.take (i + 1))).map f).toArray⟩ := by
  rw [sign0, sign1, sign2, htx, placesOf_step h]
  have e : signsOf n.natAbs = [n.natAbs % 6] ++ [n.natAbs / 6 % 6] ++ [n.natAbs / 36 % 6] := by
    unfold signsOf; rw [if_pos (by omega), if_pos (by omega)]
  rw [e, List.map_append, List.map_append, List.map_append, ← str_app, ← str_app, ← str_app]
  simp only [List.map_cons, List.map_nil]
  show _ = (_ : Str) ++ (_ ++ _ ++ _)
  apply congrArg Str.mk
  show ((_ ++ _) ++ _) ++ _ = _ ++ ((_ ++ _) ++ _)
  simp only [Array.append_assoc]
theorem text_step2 {ns : List Int} {i : Nat} {n : Int} {f : Nat → Nat} {tx : Str} (h : ns[i]? = some n) (htx : tx = ⟨((placesOf (ns.take i)).map f).toArray⟩) (h5 : 5 < if n < 0 then -n else n) (h35 : ¬ 35 < if n < 0 then -n else n) :
    tx ++ ⟨#[f (Int.fmod (if n < 0 then -n else n) 6).toNat]⟩ ++ ⟨#[f (Int.fmod (Int.fdiv (if n < 0 then -n else n) 6) 6).toNat]⟩ = ⟨((placesOf (ns.take (i + 1))).map f).toArray⟩ := by
  rw [sign0, sign1, htx, placesOf_step h]
  have e : signsOf n.natAbs = [n.natAbs % 6] ++ [n.natAbs / 6 % 6] := by
    unfold signsOf; rw [if_pos (by omega), if_neg (by omega)]; simp
  rw [e, List.map_append, List.map_append, ← str_app, ← str_app]
  simp only [List.map_cons, List.map_nil]
  apply congrArg Str.mk
  show ((_ ++ _) ++ _) = _ ++ (_ ++ _)
  simp only [Array.append_assoc]
theorem text_step1 {ns : List Int} {i : Nat} {n : Int} {f : Nat → Nat} {tx : Str} (h : ns[i]? = some n) (htx : tx = ⟨((placesOf (ns.take i)).map f).toArray⟩) (h5 : ¬ 5 < if n < 0 then -n else n) :
    tx ++ ⟨#[f (Int.fmod (if n < 0 then -n else n) 6).toNat]⟩ = ⟨((placesOf (ns.take (i + 1))).map f).toArray⟩ := by
  rw [sign0, htx, placesOf_step h]
  have e : signsOf n.natAbs = [n.natAbs % 6] := by
    unfold signsOf; rw [if_neg (by omega), if_neg (by omega)]; simp
  rw [e, List.map_append, ← str_app]
  simp only [List.map_cons, List.map_nil]
end Mine
end

section
open PySem.Builtin PySem.Builtin.Str
namespace Mine
theorem slice_ab (x : Str) (a b : Nat) (hab : a ≤ b) (hb : b ≤ x.length) : Txt.slice x (some (a : Int)) (some (b : Int)) = ⟨((x.cps.toList.drop a).take (b - a)).toArray⟩ := by
  have hl : x.cps.toList.length = x.length := by simp [Str.length]
  have e : (strSliceIndices (some (a : Int)) (some (b : Int)) 1 x.length).filterMap (x.cps[·]?) = (x.cps.toList.drop a).take (b - a) := by
    exact StrLaws.sliced_plain x hab hb
  unfold Txt.slice
  split
  · rename_i h
    simp only [BEq.rfl, Bool.true_and] at h
    rw [StrLaws.strSliceIndices_plain hab hb] at h
    simp at h
    have ha : a = 0 := by omega
    have hb' : b = x.length := by omega
    subst ha
    subst hb'
    have : (List.drop 0 x.cps.toList).take (x.length - 0) = x.cps.toList := by
      rw [List.drop_zero, Nat.sub_zero, ← hl, List.take_length]
    rw [this]
  · rw [e]
theorem slice_none_l (x : Str) (u : Option Int) : Txt.slice x none u = Txt.slice x (some 0) u := by
  have : strSliceIndices none u 1 x.length = strSliceIndices (some 0) u 1 x.length := by
    unfold strSliceIndices
    simp only [show (1 : Int) > 0 by decide, if_true]
    have : max 0 (min (if (0 : Int) < 0 then (0 : Int) + (x.length : Int) else 0) (x.length : Int)) = 0 := by split <;> omega
    rw [this]
  unfold Txt.slice; rw [this]
theorem slice_none_r (x : Str) (l : Option Int) : Txt.slice x l none = Txt.slice x l (some (x.length : Int)) := by
  have : strSliceIndices l none 1 x.length = strSliceIndices l (some (x.length : Int)) 1 x.length := by
    unfold strSliceIndices
    simp only [show (1 : Int) > 0 by decide, if_true]
    have : max 0 (min (if (x.length : Int) < 0 then (x.length : Int) + (x.length : Int) else (x.length : Int)) (x.length : Int)) = (x.length : Int) := by split <;> omega
    rw [this]
  unfold Txt.slice; rw [this]
theorem slice_from (x : Str) (a : Nat) (h : a ≤ x.length) : Txt.slice x (some (a : Int)) none = ⟨(x.cps.toList.drop a).toArray⟩ := by
  rw [slice_none_r, slice_ab x a x.length h (Nat.le_refl _)]
  congr 2
  apply List.take_of_length_le
  simp [Str.length]
theorem slice_to (x : Str) (b : Nat) (h : b ≤ x.length) : Txt.slice x none (some (b : Int)) = ⟨(x.cps.toList.take b).toArray⟩ := by
  rw [slice_none_l]
  have := slice_ab x 0 b (Nat.zero_le _) h
  simpa using this
theorem slice_one (x : Str) (i : Nat) (h : i < x.length) : Txt.slice x (some (i : Int)) (some ((i : Int) + 1)) = ⟨#[x.cps.toList[i]'(by simpa [Str.length] using h)]⟩ := by
  have := slice_ab x i (i + 1) (by omega) (by omega)
  rw [show (((i + 1 : Nat) : Int)) = (i : Int) + 1 by omega] at this
  rw [this]
  have hl : i < x.cps.toList.length := by simpa [Str.length] using h
  rw [show i + 1 - i = 1 by omega, List.drop_eq_getElem_cons hl]
  simp
theorem item_at (x : Str) (i : Nat) (h : i < x.length) : Txt.item x (i : Int) = ⟨#[x.cps.toList[i]'(by simpa [Str.length] using h)]⟩ := by
  have h' : i < x.cps.size := h
  unfold Txt.item Txt.charAt seqIndex?
  have h0 : ¬ ((i : Int) < 0) := by omega
  simp only [if_neg h0]
  have : (decide (0 ≤ (i : Int)) && decide ((i : Int) < (x.length : Int))) = true := by simp; omega
  rw [if_pos this]
  simp [h']
theorem mk1 {a b : Nat} : ((⟨#[a]⟩ : Str) = ⟨#[b]⟩) ↔ a = b := by simp
theorem mk1_beq {a b : Nat} : ((⟨#[a]⟩ : Str) == ⟨#[b]⟩) = (a == b) := by
  by_cases h : a = b
  · subst h; simp
  · have : ¬ ((⟨#[a]⟩ : Str) = ⟨#[b]⟩) := fun e => h (mk1.mp e)
    rw [beq_eq_false_iff_ne.mpr this, beq_eq_false_iff_ne.mpr h]

/-- the last place of a sign, -1 if there is none -/
def lastIx (c : Nat) : List Nat → Int
  | [] => -1
  | x :: r => if 0 ≤ lastIx c r then lastIx c r + 1 else if x = c then 0 else -1
theorem lastIx_ge (c : Nat) : ∀ xs, -1 ≤ lastIx c xs
  | [] => by simp [lastIx]
  | x :: r => by unfold lastIx; have := lastIx_ge c r; split <;> (try split) <;> omega
theorem lastIx_lt (c : Nat) : ∀ xs : List Nat, lastIx c xs < xs.length
  | [] => by simp [lastIx]
  | x :: r => by unfold lastIx; have := lastIx_lt c r; simp only [List.length_cons]; split <;> (try split) <;> omega
theorem lastIx_spec (c : Nat) : ∀ (xs : List Nat) (i : Nat), lastIx c xs = (i : Int) ↔ (xs[i]? = some c ∧ ∀ j, i < j → xs[j]? ≠ some c)
  | [], i => by simp [lastIx]
  | x :: r, i => by
    have ih := lastIx_spec c r
    have hge := lastIx_ge c r
    unfold lastIx
    by_cases h : 0 ≤ lastIx c r
    · rw [if_pos h]
      obtain ⟨k, hk⟩ : ∃ k : Nat, lastIx c r = k := ⟨(lastIx c r).toNat, by omega⟩
      obtain ⟨a1, a2⟩ := (ih k).mp hk
      constructor
      · intro e
        have : i = k + 1 := by omega
        subst this
        refine ⟨by simpa using a1, fun j hj => ?_⟩
        obtain ⟨j', rfl⟩ : ∃ j', j = j' + 1 := ⟨j - 1, by omega⟩
        simpa using a2 j' (by omega)
      · rintro ⟨b1, b2⟩
        cases i with
        | zero => exact absurd (by simpa using a1) (b2 (k + 1) (by omega))
        | succ i =>
          have : lastIx c r = (i : Int) := (ih i).mpr ⟨by simpa using b1, fun j hj => by simpa using b2 (j + 1) (by omega)⟩
          omega
    · rw [if_neg h]
      have hn : ∀ (j : Nat), r[j]? ≠ some c := by
        intro j hj
        -- take the last one
        have : ∃ k : Nat, r[k]? = some c ∧ ∀ j, k < j → r[j]? ≠ some c := by
          have : ∀ n, ∀ j : Nat, r.length - j ≤ n → r[j]? = some c → ∃ k : Nat, r[k]? = some c ∧ ∀ j, k < j → r[j]? ≠ some c := by
            intro n
            induction n with
            | zero => intro j hl hj; rw [List.getElem?_eq_none (by omega)] at hj; cases hj
            | succ n ihn =>
              intro j hl hj
              by_cases hex : ∃ j', j < j' ∧ r[j']? = some c
              · obtain ⟨j', h1, h2⟩ := hex
                exact ihn j' (by omega) h2
              · exact ⟨j, hj, fun j' h1 h2 => hex ⟨j', h1, h2⟩⟩
          exact this _ j (Nat.le_refl _) hj
        obtain ⟨k, h1, h2⟩ := this
        have := (ih k).mpr ⟨h1, h2⟩
        omega
      constructor
      · intro e
        split at e
        · rename_i hx
          have : i = 0 := by omega
          subst this
          exact ⟨by simp [hx], fun j hj => by obtain ⟨j', rfl⟩ : ∃ j', j = j' + 1 := ⟨j - 1, by omega⟩; simpa using hn j'⟩
        · omega
      · rintro ⟨b1, b2⟩
        cases i with
        | zero =>
          have : x = c := by simpa using b1
          rw [if_pos this]; rfl
        | succ i => exact absurd (by simpa using b1) (hn i)
theorem at_one (x : Str) (c i : Nat) : StrLaws.At x ⟨#[c]⟩ x.length i ↔ x.cps.toList[i]? = some c := by
  unfold StrLaws.At
  rw [StrLaws.subAt_eq]
  have h1 : (⟨#[c]⟩ : Str).length = 1 := rfl
  rw [h1]
  have hl : x.length = x.cps.toList.length := by simp [Str.length]
  rw [hl]
  constructor
  · rintro ⟨h2, h3⟩
    have hlt : i < x.cps.toList.length := by omega
    rw [List.drop_eq_getElem_cons hlt] at h3
    simp at h3
    rw [List.getElem?_eq_getElem hlt]
    simpa using h3
  · intro h
    have hlt : i < x.cps.toList.length := by
      rcases Nat.lt_or_ge i x.cps.toList.length with q | q
      · exact q
      · rw [List.getElem?_eq_none q] at h; cases h
    refine ⟨by omega, ?_⟩
    rw [List.drop_eq_getElem_cons hlt]
    rw [List.getElem?_eq_getElem hlt] at h
    have := Option.some.inj h
    simp at this
    simp [this]
theorem rfind_one (x : Str) (c : Nat) : Txt.rfind x ⟨#[c]⟩ = lastIx c x.cps.toList := by
  rcases rfind_whole x ⟨#[c]⟩ with ⟨h, hn⟩ | ⟨i, h, hi, hn⟩
  · rw [h]
    have hge := lastIx_ge c x.cps.toList
    rcases Int.lt_or_le (lastIx c x.cps.toList) 0 with q | q
    · omega
    · obtain ⟨k, hk⟩ : ∃ k : Nat, lastIx c x.cps.toList = k := ⟨(lastIx c x.cps.toList).toNat, by omega⟩
      exact absurd ((at_one x c k).mpr ((lastIx_spec c _ k).mp hk).1) (hn k)
  · rw [h]
    exact ((lastIx_spec c _ i).mpr ⟨(at_one x c i).mp hi, fun j hj e => hn j hj ((at_one x c j).mpr e)⟩).symm
end Mine
end

section
namespace Mine
local macro_rules | `(tactic| walk_at "TurnSt") => `(tactic| (with_reducible refine TurnSt.ret ?_))
local macro_rules | `(tactic| walk_at "exec For Name Name cons nil") => `(tactic| (with_reducible refine Stop.out ?_))
local macro_rules | `(tactic| walk_at "exec For Name Call cons nil") => `(tactic| (with_reducible refine Stop.out ?_))
local macro_rules | `(tactic| walk_at "exec For Name Subscript cons nil") => `(tactic| (with_reducible refine Stop.out ?_))
local macro_rules | `(tactic| walk_at "pyIter ref") => `(tactic| (with_reducible refine Stop.out ?_))
local macro_rules | `(tactic| walk_at "pyIter str") => `(tactic| (with_reducible refine Stop.out ?_))

/-- six texts of one sign -/
def PoolIs (vs : List Value) (f : Nat → Nat) : Prop := vs.length = 6 ∧ ∀ i, i < 6 → ∃ t, vs[i]? = some (.str ⟨#[f i]⟩ t)

theorem one_len (c : Nat) : (⟨#[c]⟩ : Str).length = 1 := rfl
section
variable {prog : Program} {w : World} {A : Around} {E : Value → Shared → Prop} {s : Shared} {h₀ : Heap} {L : Addr} {m : Str → Option Value} {news : List (Addr × Obj)}
theorem pool_item {value slice : PySem.Expr} {pl : Addr} {pv : List Value} {f : Nat → Nat} {k : Int} {u : Tok} {Q : Value → Shared → Prop} (hp : PoolIs pv f) (N : News h₀ L s.heap news) (hm : (pl, LCg.lst pv) ∈ news) (h0 : 0 ≤ k) (h6 : k < 6)
    (hs : subscripted slice false (.ref pl) (.int k u) = operate [.ref pl, .int k u] (getItem (.ref pl) (.int k u)))
    (h : ∀ t, Q (.str ⟨#[f k.toNat]⟩ t) s) :
    wpAny (model prog w) A (subscriptTail value slice (.ref pl) (.int k u)) Q E s := by
  obtain ⟨t, ht⟩ := hp.2 k.toNat (by omega)
  exact item_litK (News.isList N hm) h0 (by omega) ht (h t) hs
end
local macro_rules | `(tactic| walk_at "subscriptTail") => `(tactic| ((with_reducible show wpAny _ _ (subscriptTail _ _ (Value.ref _) (Value.int _ _)) _ _ _); refine pool_item (by with_reducible assumption) (by with_reducible assumption) (by first | assumption | exact List.mem_cons_of_mem _ (by assumption)) (by first | omega | exact Int.fmod_nonneg_of_pos _ (by decide)) (by first | omega | exact Int.fmod_lt_of_pos _ (by decide)) (by with_unfolding_all rfl) ?_; intro _))
theorem lawtext_c : ∀ (w : World) (mean : ExcName → Option Value) (mg mb : Str → Option Value) (dp un : Nat) (gd : Option (List Code)) (cn : Str) (cs : Scope) (a : Addr) (ccd : Value) (cl : List (Str × Addr)) (outer : List Env) (A₀ : Around) (base h₀ : Heap) (L : Addr) (m : Str → Option Value) (news : List (Addr × Obj)) (s : Shared)
    (l pl : Addr) (vs pv : List Value) (ns : List Int) (f : Nat → Nat) (Q E : Value → Shared → Prop),
    Below A₀ base outer h₀ → Fr h₀ L s.heap m → (hd1.heap_39 w.params).In h₀ → News h₀ L s.heap news → Top hd1.view_39 (looseW hd1.view_39 []) mean mg mb h₀ → cs.kind = .function → dp < 900 → un < 900 →
    base.IsList l vs.toArray → IntsAre vs ns → ns.length ≤ 63 → (pl, LCg.lst pv) ∈ news → PoolIs pv f →
    (∀ t h' tk', Fr h₀ L h' m → News h₀ L h' news → Q (.str ⟨((placesOf ns).map f).toArray⟩ t) { s with heap := h', toks := tk' }) →
    wpAny (model PySem.Challenge.rw_dn0116_01.prog w) (ktrTop dp un gd cn cs L a ccd cl outer) (call (.ref 28) [.ref l, .ref pl]) Q E s := by
  k_fill
  intro w mean mg mb dp un gd cn cs a ccd cl outer A₀ base h₀ L m news s l pl vs pv ns f Q E B F X N T hk hd hu hl hI hlen hpl hpool hret
  refine wpAny_call ?_
  w_on
  k_dflt ktr_enter
  k_steps
  refine ⟨?_⟩
  refine For_F (by assumption) (by rfl) (by rfl) ?_
  k_steps
  refine ⟨?_⟩
  rename Below (ktrTop _ _ _ _ _ _ _ _ _ _) _ _ _ => B'
  have hl' := stays_list (Below.stays B') hl

  refine iter_ints_ov (σ := Str × Tok × Option Value) (fun c => [("text", some (.str c.1 c.2.1)), ("n", c.2.2)]) (fun _ => news) (fun i c => c.1 = ⟨((placesOf (ns.take i)).map f).toArray⟩ ∧ c.1.length ≤ 3 * i) ⟨_, _, none⟩ (by rfl) hl' hI (by assumption) (by assumption) (fun _ h => h) ⟨by rfl, by rfl, trivial⟩ ⟨by rfl, by exact Nat.le_refl 0⟩ ?_ ?_
  · rintro i n u ⟨tx, tt, nv⟩ h tk I oI hn ⟨htx, hlt⟩ hne F9 N9
    have hi : i < ns.length := by
      rcases Nat.lt_or_ge i ns.length with h | h
      · exact h
      · rw [List.getElem?_eq_none h] at hn; cases hn
    dsimp only at htx hlt F9 N9
    k_steps
    all_goals
      refine TurnSt.next (σ := Str × Tok × Option Value) ⟨_, _, _⟩ (by assumption) (by assumption) (fun _ h => h) hne (ovl2_of (by rfl) (by rfl) ?_) ⟨?h1, ?h2⟩
      · intro y h1 h2 h3
        simp only [ovl, if_neg h1, if_neg h2, if_neg h3]
      case h1 => dsimp only; first | with_reducible exact text_step3 hn htx (by assumption) | with_reducible exact text_step2 hn htx (by assumption) (by assumption) | with_reducible exact text_step1 hn htx (by assumption)
      case h2 =>
        simp only [Str.length_append, one_len]
        clear F9 N9
        omega
  · rintro ⟨tx, tt, nv⟩ h tk u ⟨htx, hlt⟩ F9 N9
    dsimp only at htx hlt F9 N9
    k_steps
    rw [List.take_length] at htx
    subst htx
    exact hret _ _ _ (by assumption) (by assumption)
theorem lawtext_w : ∀ (w : World) (mean : ExcName → Option Value) (mg mb : Str → Option Value) (dp un : Nat) (gd : Option (List Code)) (cn : Str) (cs : Scope) (a : Addr) (ccd : Value) (cl : List (Str × Addr)) (outer : List Env) (A₀ : Around) (base h₀ : Heap) (L : Addr) (m : Str → Option Value) (news : List (Addr × Obj)) (s : Shared)
    (l pl : Addr) (vs pv : List Value) (ns : List Int) (f : Nat → Nat) (Q E : Value → Shared → Prop),
    Below A₀ base outer h₀ → Fr h₀ L s.heap m → (hd1.heap_39 w.params).In h₀ → News h₀ L s.heap news → Top hd1.view_39 (looseW hd1.view_39 []) mean mg mb h₀ → cs.kind = .function → dp < 900 → un < 900 →
    base.IsList l vs.toArray → IntsAre vs ns → ns.length ≤ 63 → (pl, LCg.lst pv) ∈ news → PoolIs pv f →
    (∀ TX t h' tk', TX.length ≤ 200 → Fr h₀ L h' m → News h₀ L h' news → Q (.str TX t) { s with heap := h', toks := tk' }) →
    wpAny (model PySem.Challenge.rw_dn0116_01.prog w) (ktrTop dp un gd cn cs L a ccd cl outer) (call (.ref 28) [.ref l, .ref pl]) Q E s := by
  intro w mean mg mb dp un gd cn cs a ccd cl outer A₀ base h₀ L m news s l pl vs pv ns f Q E B F X N T hk hd hu hl hI hlen hpl hpool hret
  refine lawtext_c w mean mg mb dp un gd cn cs a ccd cl outer A₀ base h₀ L m news s l pl vs pv ns f Q E B F X N T hk hd hu hl hI hlen hpl hpool ?_
  intro t h' tk' F' N'
  refine hret _ t h' tk' ?_ F' N'
  have := placesOf_length ns
  show (List.map f (placesOf ns)).toArray.size ≤ 200
  rw [List.size_toArray, List.length_map]
  omega
end Mine
end

section
namespace Mine
local macro_rules | `(tactic| walk_at "TurnSt") => `(tactic| (with_reducible refine TurnSt.ret ?_))
local macro_rules | `(tactic| walk_at "exec For Name Name cons nil") => `(tactic| (with_reducible refine Stop.out ?_))
local macro_rules | `(tactic| walk_at "exec For Name Call cons nil") => `(tactic| (with_reducible refine Stop.out ?_))
local macro_rules | `(tactic| walk_at "exec For Name Subscript cons nil") => `(tactic| (with_reducible refine Stop.out ?_))
local macro_rules | `(tactic| walk_at "pyIter ref") => `(tactic| (with_reducible refine Stop.out ?_))
local macro_rules | `(tactic| walk_at "call builtin:list.append") => `(tactic| (with_reducible refine Stop.out ?_))
local macro_rules | `(tactic| walk_at "pyIter str") => `(tactic| (with_reducible refine Stop.out ?_))
local macro_rules | `(tactic| walk_at "eval ListComp") => `(tactic| k_dflt (refine ListComp_go (by assumption) (by rfl) (by rfl) (by decide) ?_))
local macro_rules | `(tactic| walk_at "compareOp In str ref") => `(tactic| k_dflt (refine in_walls (by with_reducible assumption) (by repeat' first | assumption | refine List.mem_cons_of_mem _ ?_) (by assumption) ?_))
local macro_rules | `(tactic| walk_at "compareOp NotEq ref ref") => `(tactic| k_dflt (refine ne_nilK (News.isList (by assumption) (by k_mem)) (News.isList (by assumption) (by k_mem)) (by ktr_units) ?_))


theorem any_take_step {xs : Array Nat} {i cp : Nat} {f : Nat → Bool} (h : xs[i]? = some cp) : (xs.toList.take (i + 1)).any f = ((xs.toList.take i).any f || f cp) := by
  have h' : xs.toList[i]? = some cp := by simpa using h
  rw [List.take_add_one, h']; simp
theorem comp_hit {xs : Array Nat} {i cp : Nat} {f : Nat → Bool} {ys : List Value} {v : Value} (h : xs[i]? = some cp) (hf : f cp = true) : ((ys ++ [v]).length != 0) = (xs.toList.take (i + 1)).any f := by
  rw [any_take_step h, hf]; simp
theorem comp_miss {xs : Array Nat} {i cp : Nat} {f : Nat → Bool} {ys : List Value} (h : xs[i]? = some cp) (hf : f cp = false) (hR : (ys.length != 0) = (xs.toList.take i).any f) : (ys.length != 0) = (xs.toList.take (i + 1)).any f := by
  rw [any_take_step h, hf, hR]; simp

def pieceOf (W : Nat → Bool) (xs : List Nat) : List Nat := xs.foldl (fun p c => if W c then [] else p ++ [c]) []
theorem pieceOf_step {W : Nat → Bool} {xs : List Nat} {i c : Nat} (h : xs[i]? = some c) : pieceOf W (xs.take (i + 1)) = if W c then [] else pieceOf W (xs.take i) ++ [c] := by
  unfold pieceOf
  rw [List.take_add_one, h]; simp
def isCutP (ts : List Nat) (k : Nat) (X W : Nat → Bool) (extW : Bool) : Bool :=
  X (ts.getD k 0) && !extW && !((ts.drop (k + 1)).any fun c => X c || W c) && (pieceOf W (ts.take k)).any fun c => !X c

/-- values of one sign each -/
inductive OnesAre : List Value → List Nat → Prop
  | nil : OnesAre [] []
  | cons (c : Nat) (t : Tok) {vs cs} : OnesAre vs cs → OnesAre (.str ⟨#[c]⟩ t :: vs) (c :: cs)
theorem OnesAre.length : ∀ {vs : List Value} {cs : List Nat}, OnesAre vs cs → vs.length = cs.length
  | _, _, .nil => rfl
  | _, _, .cons _ _ r => by simp [r.length]
theorem OnesAre.snoc (c : Nat) (t : Tok) : ∀ {vs : List Value} {cs : List Nat}, OnesAre vs cs → OnesAre (vs ++ [.str ⟨#[c]⟩ t]) (cs ++ [c])
  | _, _, .nil => .cons c t .nil
  | _, _, .cons c' t' r => .cons c' t' (r.snoc c t)
theorem OnesAre.get : ∀ {vs : List Value} {cs : List Nat}, OnesAre vs cs → ∀ (i : Nat) (v : Value), vs[i]? = some v → ∃ c t, cs[i]? = some c ∧ v = .str ⟨#[c]⟩ t
  | _, _, .nil, i, v, h => by simp at h
  | _, _, .cons c t r, 0, v, h => ⟨c, t, rfl, by simpa using h.symm⟩
  | _, _, .cons c t r, i + 1, v, h => by simpa using r.get i v (by simpa using h)
theorem allLt_mem {d : Nat} : ∀ {l : List (Addr × Obj)}, AllLt d l → ∀ p ∈ l, p.1 < d
  | [], _, _, h => nomatch h
  | _ :: _, x, p, h => by
    rcases List.mem_cons.mp h with rfl | h
    · exact x.1
    · exact allLt_mem x.2 p h
theorem iscut_c : ∀ (w : World) (mean : ExcName → Option Value) (mg mb : Str → Option Value) (dp un : Nat) (gd : Option (List Code)) (cn : Str) (cs : Scope) (a : Addr) (ccd : Value) (cl : List (Str × Addr)) (outer : List Env) (A₀ : Around) (base h₀ : Heap) (L : Addr) (m : Str → Option Value) (news : List (Addr × Obj)) (s : Shared)
    (wl : Addr) (text sep ext : Str) (alt : Value) (k : Nat) (t1 t2 t3 t4 : Tok) (Q E : Value → Shared → Prop),
    Below A₀ base outer h₀ → Fr h₀ L s.heap m → (hd1.heap_39 w.params).In h₀ → News h₀ L s.heap news → Top hd1.view_39 (looseW hd1.view_39 []) mean mg mb h₀ → cs.kind = .function → dp < 900 → un < 900 →
    text.length ≤ 1000 → k < text.length → sep.length ≤ 1 → ext.length ≤ 1 → (alt = .none ∨ ∃ y u, alt = .str y u) → (wl, W.listOf #[.str sep t2, alt] 0) ∈ news →
    (∀ h' tk', Fr h₀ L h' m → News h₀ L h' news → Q (.bool (isCutP text.cps.toList k (fun c => (⟨#[c]⟩ : Str) == ext) (fun c => wallHit sep alt ⟨#[c]⟩) (wallHit sep alt ext))) { s with heap := h', toks := tk' }) →
    wpAny (model PySem.Challenge.rw_dn0116_01.prog w) (ktrTop dp un gd cn cs L a ccd cl outer) (call (.ref 33) [.str text t1, .int k t3, .ref wl, .str ext t4]) Q E s := by
  k_fill
  intro w mean mg mb dp un gd cn cs a ccd cl outer A₀ base h₀ L m news s wl text sep ext alt k t1 t2 t3 t4 Q E B F X N T hk hd hu hlen hkl hsl hel halt hwl hret
  refine wpAny_call ?_
  w_on
  k_dflt (refine' code_defC ?k1 ?k2 ?k3 ?k4 ?k5 ?kA ?kF ?kK ?k6 ?k7 ?k8 ?k9 ?kB ?kD ?_ ?c2 ?c3 ?c4; (case kA => exact rfl); (case kF => exact rfl); (case kK => assumption); (case k1 => k_asm); (case k2 => k_asm); (case k3 => k_asm); (case k4 => k_asm); (case k5 => k_asm); (case k6 => k_is); (case k7 => k_is); (case k8 => ktr_room); (case k9 => exact BindsTo.of_eq rfl); (case kB => exact rfl); (case kD => decide +kernel); (case c2 => exact rfl); (case c3 => exact rfl); (case c4 => exact rfl); k_whole)
  intro g9 L9 h9 tk9 cells9 FG9 F9 N9 Y9 B9 X9 T9 l9
  obtain ⟨o1, o2, hE, d1, d2⟩ := CellsAre.two Y9
  subst hE
  clear Y9
  simp only [List.cons_append, List.nil_append] at N9
  (try dsimp only)
  (try k_fold)
  have hksz : k < text.cps.toList.length := by simpa [Str.length] using hkl
  have hgd : text.cps.toList.getD k 0 = text.cps.toList[k] := by simp [List.getD_eq_getElem?_getD, List.getElem?_eq_getElem hksz]
  have hitem := item_at text k hkl
  have hfrom : Txt.slice text (some ((k : Int) + 1)) none = ⟨(text.cps.toList.drop (k + 1)).toArray⟩ := by
    have := slice_from text (k + 1) (by omega)
    rwa [show (((k + 1 : Nat) : Int)) = (k : Int) + 1 by omega] at this
  have hto : Txt.slice text none (some (k : Int)) = ⟨(text.cps.toList.take k).toArray⟩ := slice_to text k (by omega)
  have sub : ∀ (c1 c2 : Addr × Obj) (p : Addr × Obj), p ∈ news → p ∈ c1 :: c2 :: news := fun _ _ _ h => List.mem_cons_of_mem _ (List.mem_cons_of_mem _ h)
  k_steps
  · have e : isCutP text.cps.toList k (fun c => (⟨#[c]⟩ : Str) == ext) (fun c => wallHit sep alt ⟨#[c]⟩) (wallHit sep alt ext) = false := by
      have h1 : (Txt.item text (k : Int) != ext) = true := by assumption
      rw [hitem] at h1
      unfold isCutP
      rw [hgd]
      have h2 : ((⟨#[text.cps.toList[k]]⟩ : Str) == ext) = false := by simpa [bne] using h1
      simp only [h2, Bool.false_and]
    rw [e] at hret
    exact hret _ _ (by assumption) (fun p hp => (by assumption : News h₀ L _ (_ :: _ :: news)) p (sub _ _ p hp))
  · have e : isCutP text.cps.toList k (fun c => (⟨#[c]⟩ : Str) == ext) (fun c => wallHit sep alt ⟨#[c]⟩) (wallHit sep alt ext) = false := by
      have h1 : wallHit sep alt ext = true := by assumption
      unfold isCutP; simp [h1]
    rw [e] at hret
    exact hret _ _ (by assumption) (fun p hp => (by assumption : News h₀ L _ (_ :: _ :: news)) p (sub _ _ p hp))
  · rename wallHit sep alt ext = false => hew
    rename (Txt.item text (k : Int) != ext) = false => hit
    have hX : ((⟨#[text.cps.toList.getD k 0]⟩ : Str) == ext) = true := by
      rw [hgd]; rw [hitem] at hit; simpa [bne] using hit
    refine CompGo.str (σ := Unit) (fun _ => _) (fun i _ ys => (ys.length != 0) = ((Txt.slice text (some ((k : Int) + 1)) none).cps.toList.take i).any fun c => ((⟨#[c]⟩ : Str) == ext) || wallHit sep alt ⟨#[c]⟩) () (by rfl) (by assumption) (by assumption) (fun _ h => h) ?hsz (by rfl) (by decide) (by rfl) (by rfl) ?_ ?_
    case hsz => exact Nat.le_trans (Txt.slice_le text _ _) (by rw [sizeLine_eq]; omega)
    · intro i cp u c ys I oI C oC D m₂ h tk E' hcp hR hyl hC hm F1 N1 off dis
      refine PySem.wpAny_tests_one ?_
      k_steps
      all_goals
        refine CEnd.intro () (by assumption) (by assumption) (fun _ h => h) off ?_
        first
          | exact comp_hit hcp (by simp_all)
          | exact comp_miss hcp (by simp_all) hR
    · intro D c ys hR off h2 tk2 F2 N2
      rw [hfrom] at hR
      have hany : (ys.length != 0) = (text.cps.toList.drop (k + 1)).any fun c => ((⟨#[c]⟩ : Str) == ext) || wallHit sep alt ⟨#[c]⟩ := by
        rw [hR, List.take_of_length_le (by simp)]
      k_steps
      · have e : isCutP text.cps.toList k (fun c => (⟨#[c]⟩ : Str) == ext) (fun c => wallHit sep alt ⟨#[c]⟩) (wallHit sep alt ext) = false := by
          have h1 : (ys.toArray.size != 0) = true := by assumption
          rw [List.size_toArray, hany] at h1
          unfold isCutP
          simp only [h1, Bool.not_true, Bool.and_false, Bool.false_and]
        rw [e] at hret
        exact hret _ _ (by assumption) (fun p hp => (by assumption : News h₀ L _ (_ :: _ :: _ :: _ :: news)) p (List.mem_cons_of_mem _ (List.mem_cons_of_mem _ (sub _ _ p hp))))
      · rename (ys.toArray.size != 0) = false => hys
        rw [List.size_toArray, hany] at hys
        have hcut : isCutP text.cps.toList k (fun c => (⟨#[c]⟩ : Str) == ext) (fun c => wallHit sep alt ⟨#[c]⟩) (wallHit sep alt ext) = (pieceOf (fun c => wallHit sep alt ⟨#[c]⟩) (text.cps.toList.take k)).any fun c => !((⟨#[c]⟩ : Str) == ext) := by
          unfold isCutP
          simp only [hX, hew, hys, Bool.not_false, Bool.true_and, Bool.and_true]
        rw [hcut] at hret
        rename_i lp hpA hl1 hpB FP NP
        refine ⟨?_⟩
        refine For_F FP (by rfl) (by rfl) ?_
        k_steps
        refine ⟨?_⟩
        rw [hto]
        refine iter_str_ov (σ := Addr × List Nat × List Value × Nat) (fun c => [("piece", some (.ref c.1))]) (fun c => (c.1, W.listOf c.2.2.1.toArray c.2.2.2) :: (L9 + 1 + 1, o1) :: (L9 + 1, o2) :: news)
          (fun i c => OnesAre c.2.2.1 c.2.1 ∧ c.2.1 = pieceOf (fun c => wallHit sep alt ⟨#[c]⟩) ((text.cps.toList.take k).take i) ∧ c.2.1.length ≤ i ∧ ∀ p ∈ (L9 + 1 + 1, o1) :: (L9 + 1, o2) :: news, p.1 < c.1) (lp, [], [], 0)
          (by rfl) (by assumption) (by assumption) ?hn ⟨by rfl, trivial⟩ ⟨.nil, by rfl, by exact Nat.le_refl 0, ?hl⟩ ?_ ?_
        case hn =>
          intro p hp
          rcases List.mem_cons.mp hp with rfl | hp
          · exact List.mem_cons_self
          · exact List.mem_cons_of_mem _ (List.mem_cons_of_mem _ (List.mem_cons_of_mem _ hp))
        case hl =>
          obtain ⟨_, _, a3, a4, a5⟩ := hl1
          exact allLt_mem ⟨a3, a4, a5⟩
        · rintro i cp u ⟨d, cs', vs, e⟩ h3 tk3 I oI hcp ⟨hones, hpc, hcl, hdl⟩ hne F3 N3
          dsimp only at hones hpc hcl hdl hne F3 N3
          have hdI : d ≠ I := hne (d, _) List.mem_cons_self
          have hvl := hones.length
          have hi : i < k := by
            have : i < (List.take k text.cps.toList).toArray.size := by
              rcases Nat.lt_or_ge i (List.take k text.cps.toList).toArray.size with q | q
              · exact q
              · rw [Array.getElem?_eq_none q] at hcp; cases hcp
            simp at this; omega
          have hcp' : (text.cps.toList.take k)[i]? = some cp := by simpa using hcp
          k_steps
          · rename wallHit sep alt ⟨#[cp]⟩ = true => hw
            rename_i lp2 hpA2 FA2 NA2 hl2 hpB2 FP2 NP2
            obtain ⟨b1, b2, b3, b4, b5⟩ := hl2
            refine TurnSt.next (σ := Addr × List Nat × List Value × Nat) (lp2, [], [], 0) FP2 NP2 ?hs ?hne (ovl1_of (by rfl) ?hm) ⟨.nil, ?hp, Nat.zero_le _, allLt_mem ⟨b3, b4, b5⟩⟩
            case hs =>
              intro p hp
              rcases List.mem_cons.mp hp with rfl | hp
              · exact List.mem_cons_of_mem _ List.mem_cons_self
              · rcases List.mem_cons.mp hp with rfl | hp
                · exact List.mem_cons_self
                · exact List.mem_cons_of_mem _ (List.mem_cons_of_mem _ (List.mem_cons_of_mem _ hp))
            case hne =>
              intro p hp
              rcases List.mem_cons.mp hp with rfl | hp
              · exact Ne.symm (Nat.ne_of_lt b1)
              · exact hne p (List.mem_cons_of_mem _ hp)
            case hm => intro y h1 h2; simp only [ovl, if_neg h1, if_neg h2]
            case hp => dsimp only; rw [pieceOf_step hcp', if_pos hw]
          · rename wallHit sep alt ⟨#[cp]⟩ = false => hw
            refine ⟨?_⟩
            refine append_K (news' := (I, oI) :: (d, W.listOf (vs.toArray.push (.str ⟨#[cp]⟩ u)) (e + 1)) :: (L9 + 1 + 1, o1) :: (L9 + 1, o2) :: news) (by assumption) (by assumption) (Upd.tail (Ne.symm hdI) (Upd.head fun p hp => Nat.ne_of_lt (hdl p hp))) ?_ ?_
            · intro h4 F4 N4
              k_steps
              refine TurnSt.next (σ := Addr × List Nat × List Value × Nat) (d, cs' ++ [cp], vs ++ [.str ⟨#[cp]⟩ u], e + 1) F4 N4 ?hs ?hne (ovl1_of (by rfl) ?hm) ⟨hones.snoc cp u, ?hp, ?hq, hdl⟩
              case hs => intro p hp; simpa [List.push_toArray] using hp
              case hne =>
                intro p hp
                rcases List.mem_cons.mp hp with rfl | hp
                · exact hdI
                · exact hne p (List.mem_cons_of_mem _ hp)
              case hm => intro y h1 h2; simp only [ovl, if_neg h1, if_neg h2]
              case hp => dsimp only; rw [pieceOf_step hcp', if_neg (by rw [hw]; exact Bool.false_ne_true), hpc]
              case hq => dsimp only; rw [List.length_append, List.length_singleton]; omega
            · rw [List.size_toArray, sizeLine_eq]; omega
        · rintro ⟨d, cs', vs, e⟩ h3 tk3 u ⟨hones, hpc, hcl, hdl⟩ F3 N3
          dsimp only at hones hpc hcl hdl F3 N3
          k_steps
          have hpc' : cs' = pieceOf (fun c => wallHit sep alt ⟨#[c]⟩) (text.cps.toList.take k) := by
            rw [hpc, List.take_of_length_le (by simp)]
          have hvl := hones.length
          refine CompGo.made (σ := Unit) (its := vs.toArray) (e := e) (fun _ => _) (fun i _ ys => (ys.length != 0) = (cs'.take i).any fun c => !((⟨#[c]⟩ : Str) == ext)) () (by rfl) ?hl (by assumption) (by assumption) (fun _ h => h) ?hsz (by rfl) (by decide) (by rfl) (by rfl) ?_ ?_
          case hl => intro _; exact List.mem_cons_self
          case hsz => rw [List.size_toArray, sizeLine_eq]; simp at hcl; omega
          · intro i v c ys I oI C oC D m₂ h tk E' hcp hR hyl hC hm F1 N1 off dis
            obtain ⟨cc, t5, hcc, rfl⟩ := hones.get i v (by simpa using hcp)
            refine PySem.wpAny_tests_one ?_
            k_steps
            all_goals
              refine CEnd.intro () (by assumption) (by assumption) (fun _ h => h) off ?_
              first
                | exact comp_hit (xs := cs'.toArray) (by simpa using hcc) (by simp_all)
                | exact comp_miss (xs := cs'.toArray) (by simpa using hcc) (by simp_all) hR
          · intro D c ys hR off h2 tk2 F2 N2
            have hany2 : (ys.length != 0) = cs'.any fun c => !((⟨#[c]⟩ : Str) == ext) := by
              rw [hR, List.take_of_length_le (by simp [hvl])]
            rw [← hpc', ← hany2] at hret
            k_steps
            exact hret _ _ (by assumption) (fun p hp => (by assumption : News h₀ L _ (_ :: _ :: _ :: _ :: _ :: news)) p (List.mem_cons_of_mem _ (List.mem_cons_of_mem _ (List.mem_cons_of_mem _ (sub _ _ p hp)))))
end Mine
end

section
namespace Mine
/-- None, an empty text or a text of one sign -/
def AltOk (v : Value) : Prop := v = .none ∨ ∃ y u, v = .str y u ∧ (y = ⟨#[]⟩ ∨ ∃ c, y = ⟨#[c]⟩)
/-- the law's own reading: the last place that is a cut -/
def dueP (ts : List Nat) (C : Nat → Bool) (n : Nat) : List Nat × List Nat := (List.range n).foldl (fun acc k => if C k then (ts.take k, ts.drop k) else acc) (ts, [])
theorem dueP_step {ts : List Nat} {C : Nat → Bool} {n : Nat} : dueP ts C (n + 1) = if C n then (ts.take n, ts.drop n) else dueP ts C n := by
  unfold dueP; rw [List.range_succ]; simp
def IsLast (p : Nat → Bool) (ts : List Nat) (i : Int) : Prop :=
  -1 ≤ i ∧ (∀ (j : Nat) (c : Nat), i < j → ts[j]? = some c → p c = false) ∧ (0 ≤ i → ∃ c, ts[i.toNat]? = some c ∧ p c = true)
theorem isLast_one (c : Nat) (ts : List Nat) : IsLast (fun x => c == x) ts (lastIx c ts) := by
  have hge := lastIx_ge c ts
  refine ⟨hge, ?_, ?_⟩
  · intro j d hj hd
    by_cases h : c = d
    · subst h
      exfalso
      by_cases h0 : 0 ≤ lastIx c ts
      · obtain ⟨k, hk⟩ : ∃ k : Nat, lastIx c ts = k := ⟨(lastIx c ts).toNat, by omega⟩
        exact ((lastIx_spec c ts k).mp hk).2 j (by omega) hd
      · -- no place at all
        have : ∀ n, ∀ j : Nat, ts.length - j ≤ n → ts[j]? = some c → ∃ k : Nat, ts[k]? = some c ∧ ∀ j, k < j → ts[j]? ≠ some c := by
          intro n
          induction n with
          | zero => intro j hl hj; rw [List.getElem?_eq_none (by omega)] at hj; cases hj
          | succ n ihn =>
            intro j hl hj
            by_cases hex : ∃ j', j < j' ∧ ts[j']? = some c
            · obtain ⟨j', h1, h2⟩ := hex
              exact ihn j' (by omega) h2
            · exact ⟨j, hj, fun j' h1 h2 => hex ⟨j', h1, h2⟩⟩
        obtain ⟨k, h1, h2⟩ := this _ j (Nat.le_refl _) hd
        have := (lastIx_spec c ts k).mpr ⟨h1, h2⟩
        omega
    · simpa using h
  · intro h0
    obtain ⟨k, hk⟩ : ∃ k : Nat, lastIx c ts = k := ⟨(lastIx c ts).toNat, by omega⟩
    have := ((lastIx_spec c ts k).mp hk).1
    exact ⟨c, by rw [hk]; simpa using this, by simp⟩
theorem isLast_or {p q : Nat → Bool} {ts : List Nat} {i j : Int} (hp : IsLast p ts i) (hq : IsLast q ts j) : IsLast (fun x => p x || q x) ts (if j > i then j else i) := by
  obtain ⟨a1, a2, a3⟩ := hp
  obtain ⟨b1, b2, b3⟩ := hq
  split
  · rename_i h
    refine ⟨b1, fun k c hk hc => ?_, fun h0 => ?_⟩
    · show (p c || q c) = false; rw [a2 k c (by omega) hc, b2 k c hk hc]; rfl
    · obtain ⟨c, hc, hc'⟩ := b3 h0
      exact ⟨c, hc, by show (p c || q c) = true; rw [hc']; simp⟩
  · rename_i h
    refine ⟨a1, fun k c hk hc => ?_, fun h0 => ?_⟩
    · show (p c || q c) = false; rw [a2 k c hk hc, b2 k c (by omega) hc]; rfl
    · obtain ⟨c, hc, hc'⟩ := a3 h0
      exact ⟨c, hc, by show (p c || q c) = true; rw [hc']; rfl⟩
theorem isLast_congr {p q : Nat → Bool} {ts : List Nat} {i : Int} (h : IsLast p ts i) (e : ∀ x, p x = q x) : IsLast q ts i := by
  have : p = q := funext e
  exact this ▸ h

theorem piece_any {W f : Nat → Bool} (ts : List Nat) : ∀ k, k ≤ ts.length → ((pieceOf W (ts.take k)).any f = true ↔ ∃ i c, i < k ∧ ts[i]? = some c ∧ f c = true ∧ ∀ j d, i ≤ j → j < k → ts[j]? = some d → W d = false)
  | 0, _ => by simp [pieceOf]
  | k + 1, hk => by
    have hlt : k < ts.length := by omega
    have hg : ts[k]? = some ts[k] := List.getElem?_eq_getElem hlt
    have ih := piece_any (W := W) (f := f) ts k (by omega)
    rw [pieceOf_step hg]
    by_cases hw : W ts[k] = true
    · rw [if_pos hw]
      constructor
      · intro h; simp at h
      · rintro ⟨i, c, hi, hc, hf, hall⟩
        rw [hall k ts[k] (by omega) (by omega) hg] at hw
        cases hw
    · rw [if_neg hw, List.any_append]
      have hw' : W ts[k] = false := by simpa using hw
      constructor
      · intro h
        rcases Bool.or_eq_true_iff.mp h with h | h
        · obtain ⟨i, c, hi, hc, hf, hall⟩ := ih.mp h
          refine ⟨i, c, by omega, hc, hf, fun j d h1 h2 hd => ?_⟩
          by_cases hjk : j = k
          · subst hjk; rw [hg] at hd; cases hd; exact hw'
          · exact hall j d h1 (by omega) hd
        · refine ⟨k, ts[k], by omega, hg, by simpa using h, fun j d h1 h2 hd => ?_⟩
          have : j = k := by omega
          subst this; rw [hg] at hd; cases hd; exact hw'
      · rintro ⟨i, c, hi, hc, hf, hall⟩
        by_cases hik : i = k
        · subst hik; rw [hg] at hc; cases hc
          simp [hf]
        · rw [ih.mpr ⟨i, c, by omega, hc, hf, fun j d h1 h2 hd => hall j d h1 (by omega) hd⟩]; rfl

theorem cut_iff {ts : List Nat} {k ec : Nat} {W : Nat → Bool} (hk : k < ts.length) : isCutP ts k (fun c => c == ec) W (W ec) = true ↔
    ts[k]? = some ec ∧ W ec = false ∧ (∀ (j d : Nat), k < j → ts[j]? = some d → d ≠ ec ∧ W d = false) ∧ ∃ i c, i < k ∧ ts[i]? = some c ∧ c ≠ ec ∧ ∀ j d, i ≤ j → j < k → ts[j]? = some d → W d = false := by
  have hg : ts[k]? = some ts[k] := List.getElem?_eq_getElem hk
  unfold isCutP
  rw [Bool.and_eq_true, Bool.and_eq_true, Bool.and_eq_true, piece_any ts k (by omega)]
  have e1 : ts.getD k 0 = ts[k] := by simp [List.getD_eq_getElem?_getD, hg]
  rw [e1, hg]
  have e2 : (!(List.drop (k + 1) ts).any fun c => c == ec || W c) = true ↔ ∀ (j d : Nat), k < j → ts[j]? = some d → d ≠ ec ∧ W d = false := by
    rw [Bool.not_eq_true', List.any_eq_false]
    constructor
    · intro h j d hj hd
      have hm : d ∈ List.drop (k + 1) ts := by
        apply List.mem_of_getElem? (i := j - (k + 1))
        rw [List.getElem?_drop, show k + 1 + (j - (k + 1)) = j by omega]; exact hd
      have := h d hm
      simpa using this
    · intro h c hc
      obtain ⟨i, hi⟩ := List.getElem?_of_mem hc
      rw [List.getElem?_drop] at hi
      have := h (k + 1 + i) c (by omega) hi
      simpa using this
  rw [e2]
  constructor
  · rintro ⟨⟨⟨a, b⟩, c⟩, i, cc, d1, d2, d3, d4⟩
    exact ⟨by simpa using a, by simpa using b, c, i, cc, d1, d2, by simpa using d3, d4⟩
  · rintro ⟨a, b, c, i, cc, d1, d2, d3, d4⟩
    exact ⟨⟨⟨by simpa using a, by simpa using b⟩, c⟩, i, cc, d1, d2, by simpa using d3, d4⟩

theorem dueP_none {ts : List Nat} {C : Nat → Bool} : ∀ n, (∀ k, k < n → C k = false) → dueP ts C n = (ts, [])
  | 0, _ => rfl
  | n + 1, h => by rw [dueP_step, h n (by omega), dueP_none n fun k hk => h k (by omega)]; simp
theorem dueP_one {ts : List Nat} {C : Nat → Bool} {d : Nat} (hd : C d = true) : ∀ n, d < n → (∀ k, k < n → C k = true → k = d) → dueP ts C n = (ts.take d, ts.drop d)
  | 0, h, _ => absurd h (Nat.not_lt_zero _)
  | n + 1, h, hu => by
    rw [dueP_step]
    by_cases hn : C n = true
    · rw [if_pos hn, hu n (by omega) hn]
    · rw [if_neg hn]
      have : d ≠ n := fun e => hn (e ▸ hd)
      exact dueP_one hd n (by omega) fun k hk => hu k (by omega)

/-- the plain law: the two readings agree -/
theorem readings {ts : List Nat} {ec : Nat} {W : Nat → Bool} {sepi : Int} (hs : IsLast W ts sepi) :
    (sepi < lastIx ec ts ∧ (∃ i : Int, sepi + 1 ≤ i ∧ i < lastIx ec ts ∧ ts[i.toNat]? ≠ some ec) →
      dueP ts (fun k => isCutP ts k (fun c => c == ec) W (W ec)) ts.length = (ts.take (lastIx ec ts).toNat, ts.drop (lastIx ec ts).toNat)) ∧
    (¬ (sepi < lastIx ec ts ∧ ∃ i : Int, sepi + 1 ≤ i ∧ i < lastIx ec ts ∧ ts[i.toNat]? ≠ some ec) →
      dueP ts (fun k => isCutP ts k (fun c => c == ec) W (W ec)) ts.length = (ts, [])) := by
  obtain ⟨s1, s2, s3⟩ := hs
  have key : ∀ k, k < ts.length → isCutP ts k (fun c => c == ec) W (W ec) = true → lastIx ec ts = (k : Int) ∧ sepi < (k : Int) ∧ ∃ i : Int, sepi + 1 ≤ i ∧ i < (k : Int) ∧ ts[i.toNat]? ≠ some ec := by
    intro k hk hc
    obtain ⟨c1, c2, c3, i, c, d1, d2, d3, d4⟩ := (cut_iff hk).mp hc
    have hlast : lastIx ec ts = (k : Int) := (lastIx_spec ec ts k).mpr ⟨c1, fun j hj e => (c3 j ec hj e).1 rfl⟩
    have hsk : sepi < (i : Int) := by
      rcases Int.lt_or_le sepi (i : Int) with q | q
      · exact q
      · exfalso
        obtain ⟨cc, h1, h2⟩ := s3 (by omega)
        rcases Int.lt_or_le (k : Int) sepi with r | r
        · have := (c3 sepi.toNat cc (by omega) h1).2
          rw [this] at h2; cases h2
        · by_cases hek : sepi.toNat = k
          · rw [hek, c1] at h1; cases h1; rw [c2] at h2; cases h2
          · have := d4 sepi.toNat cc (by omega) (by omega) h1
            rw [this] at h2; cases h2
    refine ⟨hlast, by omega, (i : Int), by omega, by omega, ?_⟩
    show ts[i]? ≠ some ec
    rw [d2]; simpa using d3
  constructor
  · rintro ⟨h1, i, h2, h3, h4⟩
    have hd : ∃ k : Nat, lastIx ec ts = k := ⟨(lastIx ec ts).toNat, by have := s1; omega⟩
    obtain ⟨k, hk⟩ := hd
    have hlt := lastIx_lt ec ts
    have hkn : k < ts.length := by omega
    obtain ⟨a1, a2⟩ := (lastIx_spec ec ts k).mp hk
    have hcut : isCutP ts k (fun c => c == ec) W (W ec) = true := by
      refine (cut_iff hkn).mpr ⟨a1, s2 k ec (by omega) a1, fun j d hj hd => ⟨fun e => a2 j hj (e ▸ hd), s2 j d (by omega) hd⟩, ?_⟩
      have hi0 : i.toNat < ts.length := by omega
      refine ⟨i.toNat, ts[i.toNat], by omega, List.getElem?_eq_getElem hi0, ?_, fun j d g1 g2 g3 => s2 j d (by omega) g3⟩
      intro e
      exact h4 (by rw [List.getElem?_eq_getElem hi0, e])
    rw [dueP_one hcut ts.length hkn (fun k' hk' hc' => by have := (key k' hk' hc').1; omega), hk]
    rfl
  · intro h
    refine dueP_none _ fun k hk => ?_
    by_cases hc : isCutP ts k (fun c => c == ec) W (W ec) = true
    · exfalso
      obtain ⟨a, b, c⟩ := key k hk hc
      exact h ⟨by omega, by rw [a]; exact c⟩
    · simpa using hc

theorem law1_plain {TX a b : Str} {sc ec : Nat} {alt : Value} {sepi : Int} (ho : AltOk alt) (hix : AltIx TX ⟨#[sc]⟩ alt sepi) (hsp : SplitSpec TX sepi (Txt.rfind TX ⟨#[ec]⟩) ⟨#[ec]⟩ a b) :
    a = ⟨(dueP TX.cps.toList (fun k => isCutP TX.cps.toList k (fun c => (⟨#[c]⟩ : Str) == ⟨#[ec]⟩) (fun c => wallHit ⟨#[sc]⟩ alt ⟨#[c]⟩) (wallHit ⟨#[sc]⟩ alt ⟨#[ec]⟩)) TX.length).1.toArray⟩ ∧
    b = ⟨(dueP TX.cps.toList (fun k => isCutP TX.cps.toList k (fun c => (⟨#[c]⟩ : Str) == ⟨#[ec]⟩) (fun c => wallHit ⟨#[sc]⟩ alt ⟨#[c]⟩) (wallHit ⟨#[sc]⟩ alt ⟨#[ec]⟩)) TX.length).2.toArray⟩ := by
  have hlen : TX.length = TX.cps.toList.length := by simp [Str.length]
  have hX : (fun c => (⟨#[c]⟩ : Str) == ⟨#[ec]⟩) = fun c => c == ec := funext fun c => mk1_beq
  have hlast : IsLast (fun c => wallHit ⟨#[sc]⟩ alt ⟨#[c]⟩) TX.cps.toList sepi := by
    rcases ho with rfl | ⟨y, u, rfl, h⟩
    · have e : sepi = lastIx sc TX.cps.toList := by rw [← rfind_one]; exact hix
      rw [e]
      refine isLast_congr (isLast_one sc _) fun x => ?_
      show (sc == x) = ((⟨#[sc]⟩ : Str) == ⟨#[x]⟩ || false)
      rw [mk1_beq, Bool.or_false]
    · rcases h with rfl | ⟨c, rfl⟩
      · have e : sepi = lastIx sc TX.cps.toList := by rw [← rfind_one]; exact hix
        rw [e]
        refine isLast_congr (isLast_one sc _) fun x => ?_
        show (sc == x) = ((⟨#[sc]⟩ : Str) == ⟨#[x]⟩ || ((⟨#[]⟩ : Str) == ⟨#[x]⟩))
        have : ((⟨#[]⟩ : Str) == ⟨#[x]⟩) = false := by
          rw [beq_eq_false_iff_ne]; intro e; simp at e
        rw [mk1_beq, this, Bool.or_false]
      · have e : sepi = if lastIx c TX.cps.toList > lastIx sc TX.cps.toList then lastIx c TX.cps.toList else lastIx sc TX.cps.toList := by
          rw [← rfind_one, ← rfind_one]; exact hix
        rw [e]
        refine isLast_congr (isLast_or (isLast_one sc _) (isLast_one c _)) fun x => ?_
        show (sc == x || c == x) = ((⟨#[sc]⟩ : Str) == ⟨#[x]⟩ || (⟨#[c]⟩ : Str) == ⟨#[x]⟩)
        rw [mk1_beq, mk1_beq]
  have hr := readings (ec := ec) hlast
  rw [hX, hlen]
  have hc : (fun k => isCutP TX.cps.toList k (fun c => c == ec) (fun c => wallHit ⟨#[sc]⟩ alt ⟨#[c]⟩) (wallHit ⟨#[sc]⟩ alt ⟨#[ec]⟩)) = fun k => isCutP TX.cps.toList k (fun c => c == ec) (fun c => wallHit ⟨#[sc]⟩ alt ⟨#[c]⟩) ((fun c => wallHit ⟨#[sc]⟩ alt ⟨#[c]⟩) ec) := rfl
  rw [hc]
  rw [rfind_one] at hsp
  have hlt := lastIx_lt ec TX.cps.toList
  have hge := lastIx_ge ec TX.cps.toList
  have hsi := hlast.1
  have hne : ∀ i : Int, sepi + 1 ≤ i → i < lastIx ec TX.cps.toList → (Txt.slice TX (some i) (some (i + 1)) ≠ ⟨#[ec]⟩ ↔ TX.cps.toList[i.toNat]? ≠ some ec) := by
    intro i h1 h2
    obtain ⟨k, rfl⟩ : ∃ k : Nat, i = k := ⟨i.toNat, by omega⟩
    have hk : k < TX.length := by omega
    have hk' : k < TX.cps.toList.length := by omega
    rw [slice_one TX k hk]
    show _ ↔ TX.cps.toList[k]? ≠ some ec
    rw [List.getElem?_eq_getElem hk']
    constructor
    · intro h e; exact h (mk1.mpr (Option.some.inj e))
    · intro h e; exact h (congrArg some (mk1.mp e))
  have hcond : (sepi < lastIx ec TX.cps.toList ∧ ∃ i : Int, sepi + 1 ≤ i ∧ i < lastIx ec TX.cps.toList ∧ Txt.slice TX (some i) (some (i + 1)) ≠ ⟨#[ec]⟩) ↔ (sepi < lastIx ec TX.cps.toList ∧ ∃ i : Int, sepi + 1 ≤ i ∧ i < lastIx ec TX.cps.toList ∧ TX.cps.toList[i.toNat]? ≠ some ec) :=
    ⟨fun ⟨h, i, h1, h2, h3⟩ => ⟨h, i, h1, h2, (hne i h1 h2).mp h3⟩, fun ⟨h, i, h1, h2, h3⟩ => ⟨h, i, h1, h2, (hne i h1 h2).mpr h3⟩⟩
  rcases hsp with ⟨h1, h2, ha, hb⟩ | ⟨h1, ha, hb⟩
  · rw [hr.1 (hcond.mp ⟨h1, h2⟩), ha, hb]
    obtain ⟨k, hk⟩ : ∃ k : Nat, lastIx ec TX.cps.toList = k := ⟨(lastIx ec TX.cps.toList).toNat, by omega⟩
    rw [hk]
    exact ⟨slice_to TX k (by omega), slice_from TX k (by omega)⟩
  · rw [hr.2 (fun h => h1 (hcond.mpr h)), ha, hb]
    refine ⟨rfl, ?_⟩
    have := slice_to TX 0 (Nat.zero_le _)
    simpa using this
end Mine
end

section
namespace Mine
section
variable {prog : Program} {w : World} {A : Around} {E : Value → Shared → Prop} {s : Shared} {h₀ : Heap} {L : Addr} {m : Str → Option Value} {news : List (Addr × Obj)}
theorem menu_item {value slice : PySem.Expr} {pl : Addr} {its : List Value} {e : Nat} {k : Int} {u : Tok} {Q : Value → Shared → Prop} (N : News h₀ L s.heap news) (hm : (pl, W.listOf its.toArray e) ∈ news) (hp : ∀ v ∈ its, AltOk v) (hl : its.length = 7) (h0 : 0 ≤ k) (h7 : k < 7)
    (hs : subscripted slice false (.ref pl) (.int k u) = operate [.ref pl, .int k u] (getItem (.ref pl) (.int k u)))
    (h : ∀ v, AltOk v → Q v s) :
    wpAny (model prog w) A (subscriptTail value slice (.ref pl) (.int k u)) Q E s := by
  have hk : k.toNat < its.length := by omega
  exact item_litK (News.isList N hm) h0 (by omega) (List.getElem?_eq_getElem hk) (h _ (hp _ (List.getElem_mem hk))) hs
end
theorem pool_of {vs : List Value} (hl : vs.length = 6) (h : ∀ j, j < vs.length → ∃ c t, vs[j]? = some (.str ⟨#[c]⟩ t)) : ∃ f, PoolIs vs f := by
  refine ⟨fun j => if hj : j < vs.length then (h j hj).choose else 0, hl, fun i hi => ?_⟩
  have hj : i < vs.length := by omega
  simp only [dif_pos hj]
  exact (h i hj).choose_spec
theorem upto_snoc {ys : List Value} {c : Nat} {t : Tok} {i : Nat} (h : ys.length = i ∧ ∀ j, j < ys.length → ∃ c t, ys[j]? = some (.str ⟨#[c]⟩ t)) : (ys ++ [Value.str ⟨#[c]⟩ t]).length = i + 1 ∧ ∀ j, j < (ys ++ [Value.str ⟨#[c]⟩ t]).length → ∃ c' t', (ys ++ [Value.str ⟨#[c]⟩ t])[j]? = some (.str ⟨#[c']⟩ t') := by
  refine ⟨by rw [List.length_append, h.1]; rfl, fun j hj => ?_⟩
  rw [List.length_append, List.length_singleton] at hj
  by_cases hlt : j < ys.length
  · rw [List.getElem?_append_left hlt]; exact h.2 j hlt
  · have : j = ys.length := by omega
    subst this
    exact ⟨c, t, by simp⟩
theorem pool_any {prog : Program} {w : World} {A : Around} {E : Value → Shared → Prop} {s : Shared} {h₀ : Heap} {L : Addr} {news : List (Addr × Obj)} {value slice : PySem.Expr} {pl : Addr} {pv : List Value} {f : Nat → Nat} {k : Int} {u : Tok} {Q : Value → Shared → Prop} (hp : PoolIs pv f) (N : News h₀ L s.heap news) (hm : (pl, LCg.lst pv) ∈ news) (h0 : 0 ≤ k) (h6 : k < 6)
    (hs : subscripted slice false (.ref pl) (.int k u) = operate [.ref pl, .int k u] (getItem (.ref pl) (.int k u)))
    (h : ∀ c t, Q (.str ⟨#[c]⟩ t) s) :
    wpAny (model prog w) A (subscriptTail value slice (.ref pl) (.int k u)) Q E s := pool_item hp N hm h0 h6 hs fun t => h _ t
theorem mem_turn {x y : Addr × Obj} {n : List (Addr × Obj)} (h1 : x ∈ n) (h2 : y ∈ n) : ∀ p ∈ x :: [y], p ∈ n := by
  intro p hp
  rcases List.mem_cons.mp hp with rfl | hp
  · exact h1
  · rw [List.mem_singleton.mp hp]; exact h2
theorem eq_pairK {prog : Program} {w : World} {A : Around} {E : Value → Shared → Prop} {s : Shared} {h₀ : Heap} {L t d : Addr} {news : List (Addr × Obj)} {a b : Str} {ta tb ta' tb' : Tok} {Q : Value → Shared → Prop} (N : News h₀ L s.heap news)
    (ht : (t, tupObj [.str a ta, .str b tb]) ∈ news) (hd : (d, tupObj [.str a ta', .str b tb']) ∈ news) (hu : A.units < cLine) (h : Q (.bool true) s) : wpAny (model prog w) A (compareOp .Eq (.ref t) (.ref d)) Q E s := by
  refine PySem.SeqAt.eq_tupleAt (items := #[.str a ta, .str b tb]) (items2 := #[.str a ta', .str b tb']) (e := fun _ => true) ⟨_, (N _ ht).1, rfl, _, rfl⟩ ⟨_, (N _ hd).1, rfl, _, rfl⟩ hu ?_ ?_
  · intro j h1 h2
    have h1' : j < 2 := h1
    have : j = 0 ∨ j = 1 := by omega
    rcases this with rfl | rfl
    · have := PySem.SeqAt.EqAt.str_str (A := A.in1) (s := s) a ta a ta'
      rwa [beq_self_eq_true] at this
    · have := PySem.SeqAt.EqAt.str_str (A := A.in1) (s := s) b tb b tb'
      rwa [beq_self_eq_true] at this
  · exact h
end Mine
open Mine
local macro_rules | `(tactic| walk_at "subscriptTail") => `(tactic| ((with_reducible show wpAny _ _ (subscriptTail _ _ (Value.ref _) (Value.int _ _)) _ _ _); refine pool_item (by with_reducible assumption) (by with_reducible assumption) (by repeat' first | exact List.mem_cons_self | refine List.mem_cons_of_mem _ ?_) (by first | omega | exact Int.fmod_nonneg_of_pos _ (by decide)) (by first | omega | exact Int.lt_trans (Int.fmod_lt_of_pos _ (by decide)) (by decide)) (by with_unfolding_all rfl) ?_; intro _))
local macro_rules | `(tactic| walk_at "subscriptTail") => `(tactic| ((with_reducible show wpAny _ _ (subscriptTail (Expr.List _ _) _ (Value.ref _) (Value.int _ _)) _ _ _); with_reducible refine Stop.out ?_))
local macro_rules | `(tactic| walk_at "subscriptTail") => `(tactic| ((with_reducible show wpAny _ _ (subscriptTail (Expr.Name _ _) (Expr.BinOp _ _ _ _) (Value.ref _) (Value.int _ _)) _ _ _); with_reducible refine Stop.out ?_))
local macro_rules | `(tactic| walk_at "TurnSt") => `(tactic| (with_reducible refine TurnSt.ret ?_))
local macro_rules | `(tactic| walk_at "exec For Name Name cons nil") => `(tactic| (with_reducible refine Stop.out ?_))
local macro_rules | `(tactic| walk_at "exec For Name Call cons nil") => `(tactic| (with_reducible refine Stop.out ?_))
local macro_rules | `(tactic| walk_at "compareOp Eq ref ref") => `(tactic| (with_reducible refine Stop.out ?_))
local macro_rules | `(tactic| walk_at "pyIter ref") => `(tactic| (with_reducible refine Stop.out ?_))
local macro_rules | `(tactic| walk_at "call ref cons nil") => `(tactic| (with_reducible refine Stop.out ?_))
local macro_rules | `(tactic| walk_at "exec Assign cons ListComp") => `(tactic| k_dflt (refine Assign_ListComp_go (by assumption) (by rfl) (by rfl) (by rfl) (by rfl) (by decide) (by rfl) (by rfl) ?_))
local macro_rules | `(tactic| walk_at "no such step one") => `(tactic| fail)
theorem PySem.Challenge.cw_dn0116_01_holds : PySem.Challenge.rw_dn0116_01.Holds := by
  refine Mine.hd1 ?_
  k_go0
  rename Below _ _ _ _ => hB
  unfold Top.heap at hB
  (all_goals try k_fold)
  k_steps
  refine CompGo.range (σ := Unit) 6 (fun _ => _) (fun i _ ys => ys.length = i ∧ ∀ j, j < ys.length → ∃ c t, ys[j]? = some (.str ⟨#[c]⟩ t)) () (by rfl) (by assumption) (by decide) (by decide) (by assumption) (by assumption) (fun _ h => h) (by decide) ⟨by rfl, fun j hj => absurd hj (Nat.not_lt_zero _)⟩ (by decide) (by rfl) (by rfl) ?_ ?_
  · intro i u c ys I oI C oC D m₂ h tk E' hi hR hyl hC hm F1 N1 off dis
    refine PySem.wpAny_tests_nil ?_
    rw [if_pos rfl]
    k_steps
    refine CEnd.intro () (by assumption) (by assumption) (fun _ h => h) off (upto_snoc hR)
  · intro D c ys hR off
    intro h2 tk2 F2 N2
    obtain ⟨f, hpool⟩ := pool_of hR.1 hR.2
    k_steps
    refine ⟨?_⟩
    refine pool_any hpool (by with_reducible assumption) List.mem_cons_self (Int.fmod_nonneg_of_pos _ (by decide)) (Int.lt_trans (Int.fmod_lt_of_pos _ (by decide)) (by decide)) (by with_unfolding_all rfl) ?_
    intro sc st
    k_steps
    refine ⟨?_⟩
    refine pool_any hpool (by with_reducible assumption) List.mem_cons_self (Int.fmod_nonneg_of_pos _ (by decide)) (Int.lt_trans (Int.fmod_lt_of_pos _ (by decide)) (by decide)) (by with_unfolding_all rfl) ?_
    intro ec et
    k_steps
    refine ⟨?_⟩
    refine menu_item (by with_reducible assumption) List.mem_cons_self ?hp (by rfl) (Int.fmod_nonneg_of_pos _ (by decide)) (Int.fmod_lt_of_pos _ (by decide)) (by with_unfolding_all rfl) ?_
    case hp =>
      intro v hv
      simp only [List.mem_cons, List.not_mem_nil, or_false] at hv
      rcases hv with rfl | rfl | rfl | rfl | rfl | rfl | rfl
      · exact .inl rfl
      · exact .inr ⟨_, _, rfl, .inl rfl⟩
      all_goals exact .inr ⟨_, _, rfl, .inr ⟨_, rfl⟩⟩
    intro alt halt
    k_steps
    refine ⟨?_⟩
    rename IntsAre _ _ => hInts
    rename ¬ (_ : Int) < _ => h63
    refine lawtext_w _ _ _ _ _ _ _ _ _ _ _ _ _ _ _ _ _ _ _ _ _ _ _ _ _ f _ _ (by assumption) (by assumption) (by assumption) (by assumption) (by assumption) (by rfl) (by decide) (by decide) (by assumption) hInts (by omega) ?hmem hpool ?_
    case hmem => exact List.mem_cons_of_mem _ List.mem_cons_self
    intro TX tt h3 tk3 hTL F3 N3
    k_steps
    refine ⟨?_⟩
    refine For_F (by assumption) (by rfl) (by rfl) ?_
    k_steps
    refine ⟨?_⟩
    rename_i dd hA0 l10 hB0 F0 N0 tA tB tC hC0 tk0 hrng F00 N00 hkeep
    have halt' : alt = .none ∨ ∃ y u, alt = .str y u := by
      rcases halt with h | ⟨y, u, h, _⟩
      · exact .inl h
      · exact .inr ⟨y, u, h⟩
    refine iter_range_ov (σ := Addr × Str × Str × Tok × Tok) TX.length (fun c => [("due", some (.ref c.1))]) (fun c => [(c.1, tupObj [.str c.2.1 c.2.2.2.1, .str c.2.2.1 c.2.2.2.2])])
      (fun i c => c.2.1 = ⟨(dueP TX.cps.toList (fun k => isCutP TX.cps.toList k (fun c => (⟨#[c]⟩ : Str) == ⟨#[ec]⟩) (fun c => wallHit ⟨#[sc]⟩ alt ⟨#[c]⟩) (wallHit ⟨#[sc]⟩ alt ⟨#[ec]⟩)) i).1.toArray⟩ ∧ c.2.2.1 = ⟨(dueP TX.cps.toList (fun k => isCutP TX.cps.toList k (fun c => (⟨#[c]⟩ : Str) == ⟨#[ec]⟩) (fun c => wallHit ⟨#[sc]⟩ alt ⟨#[c]⟩) (wallHit ⟨#[sc]⟩ alt ⟨#[ec]⟩)) i).2.toArray⟩)
      (dd, TX, Str.ofString "", _, _) (by rfl) hrng ?hsmall ?hsize F00 N00 (by intro p hp; rw [List.mem_singleton.mp hp]; exact List.mem_cons_self) ⟨by rfl, trivial⟩ ⟨by rfl, by rfl⟩ ?_ ?_
    case hsmall => exact small_one (by decide) (by decide) (by omega) (by omega)
    case hsize => rw [rangeSize_nat]; omega
    · rintro i u ⟨d, a, b, ta, tb⟩ h4 tk4 I oI hi ⟨ha, hb⟩ hne F4 N4
      dsimp only at ha hb hne F4 N4
      rw [Int.zero_add] at F4
      k_steps
      refine ⟨?_⟩
      refine iscut_c _ _ _ _ _ _ _ _ _ _ _ _ _ _ _ _ _ _ _ _ _ TX ⟨#[sc]⟩ ⟨#[ec]⟩ alt i _ _ _ _ _ _ hB (by assumption) (by assumption) (by assumption) (by assumption) (by rfl) (by decide) (by decide) (by omega) hi (Nat.le_refl 1) (Nat.le_refl 1) halt' List.mem_cons_self ?_
      intro h5 tk5 F5 N5
      k_steps
      · rename isCutP _ _ _ _ _ = true => hcut
        refine TurnSt.next (σ := Addr × Str × Str × Tok × Tok) (_, _, _, _, _) (by assumption) (by assumption) (mem_turn (by repeat' first | exact List.mem_cons_self | refine List.mem_cons_of_mem _ ?_) (by repeat' first | exact List.mem_cons_self | refine List.mem_cons_of_mem _ ?_)) ?_ (ovl1_of (by rfl) ?_) ⟨?_, ?_⟩
        · intro p hp
          rw [List.mem_singleton.mp hp]
          exact neN (by dsimp only; omega)
        · intro y h1 h2; simp only [ovl, if_neg h1, if_neg h2]
        · dsimp only; rw [dueP_step, if_pos hcut]; exact slice_to TX i (by omega)
        · dsimp only; rw [dueP_step, if_pos hcut]; exact slice_from TX i (by omega)
      · rename isCutP _ _ _ _ _ = false => hcut
        refine TurnSt.next (σ := Addr × Str × Str × Tok × Tok) (d, a, b, ta, tb) (by assumption) (by assumption) (mem_turn (by repeat' first | exact List.mem_cons_self | refine List.mem_cons_of_mem _ ?_) (by repeat' first | exact List.mem_cons_self | refine List.mem_cons_of_mem _ ?_)) hne (ovl1_of (by rfl) ?_) ⟨?_, ?_⟩
        · intro y h1 h2; simp only [ovl, if_neg h1, if_neg h2]
        · dsimp only; rw [dueP_step, if_neg (by rw [hcut]; exact Bool.false_ne_true)]; exact ha
        · dsimp only; rw [dueP_step, if_neg (by rw [hcut]; exact Bool.false_ne_true)]; exact hb
    · rintro ⟨d, a, b, ta, tb⟩ h4 tk4 u ⟨ha, hb⟩ F4 N4
      dsimp only at ha hb F4 N4
      k_steps
      refine ⟨?_⟩
      refine splitext_c _ _ _ _ _ _ _ _ _ _ _ _ _ _ _ _ _ _ _ _ TX ⟨#[sc]⟩ ⟨#[ec]⟩ alt _ _ _ _ _ hB (by assumption) (by assumption) (by assumption) (by assumption) (by rfl) (by decide) (by decide) (by omega) ?halt ?_
      case halt =>
        rcases halt with h | ⟨y, u, h, h' | ⟨c, h'⟩⟩
        · exact .inl h
        · exact .inr ⟨y, u, h, by rw [h']; decide⟩
        · exact .inr ⟨y, u, h, by rw [h']; exact Nat.le_of_ble_eq_true rfl⟩
      intro sepi t5 a5 b5 ta5 tb5 h5 tk5 hix hsp F5 N5 hlt5
      k_steps
      refine ⟨?_⟩
      obtain ⟨e1, e2⟩ := law1_plain halt hix hsp
      rw [← e1] at ha
      rw [← e2] at hb
      subst ha
      subst hb
      refine eq_pairK (by assumption) List.mem_cons_self (List.mem_cons_of_mem _ List.mem_cons_self) (by exact (by decide : (7 : Nat) < cLine)) ?_
      k_steps
end
