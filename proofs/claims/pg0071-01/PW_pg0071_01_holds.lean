import PyProof.Rows.All
import Wide.All
import OpenK.AllK
import Wide.FinOn
import PySem.Challenge.RW_pg0071_01
open PySem PySem.W PyProof.Rows PySem.Spec PySem.Calls
set_option Elab.async false
set_option maxRecDepth 100000
set_option maxHeartbeats 8000000
set_option linter.unusedVariables false
namespace Mine
open_top hd for PySem.Challenge.rw_pg0071_01
end Mine
namespace Mine
theorem lk1 {a : Str} {v : Value} : (fun y => [(a, v)].reverse.lookup y) = fun y => if y = a then some v else none := by
  funext y
  simp only [List.reverse_cons, List.reverse_nil, List.nil_append, List.lookup]
  by_cases h : y = a
  · subst h; simp
  · have : (y == a) = false := by simpa using h
    simp [this, h]
theorem lk2 {a b : Str} {v u : Value} : (fun y => [(a, v), (b, u)].reverse.lookup y) = fun y => if y = b then some u else if y = a then some v else none := by
  funext y
  simp only [List.reverse_cons, List.reverse_nil, List.nil_append, List.cons_append, List.lookup]
  by_cases h : y = b
  · subst h; simp
  · have h1 : (y == b) = false := by simpa using h
    by_cases h2 : y = a
    · subst h2; simp [h1, h]
    · have h3 : (y == a) = false := by simpa using h2
      simp [h1, h, h2, h3]
theorem lk4 {a b c d : Str} {v u x z : Value} : (fun y => [(a, v), (b, u), (c, x), (d, z)].reverse.lookup y) = fun y => if y = d then some z else if y = c then some x else if y = b then some u else if y = a then some v else none := by
  funext y
  simp only [List.reverse_cons, List.reverse_nil, List.nil_append, List.cons_append, List.lookup]
  by_cases h : y = d
  · subst h; simp
  · have h1 : (y == d) = false := by simpa using h
    by_cases h2 : y = c
    · subst h2; simp [h1, h]
    · have h3 : (y == c) = false := by simpa using h2
      by_cases h4 : y = b
      · subst h4; simp [h1, h, h2, h3]
      · have h5 : (y == b) = false := by simpa using h4
        by_cases h6 : y = a
        · subst h6; simp [h1, h, h2, h3, h4, h5]
        · have h7 : (y == a) = false := by simpa using h6
          simp [h1, h, h2, h3, h4, h5, h6, h7]
abbrev tupleOf (vs : List Value) (n : Nat) : Obj := { cls := .type "tuple", data := .seq vs.toArray n }
theorem news_sub {h₀ h : Heap} {L : Addr} {l l' : List (Addr × Obj)} (N : News h₀ L h l) (hs : ∀ p ∈ l', p ∈ l) : News h₀ L h l' := fun p hp => N p (hs p hp)
theorem sub_skip {l l' : List (Addr × Obj)} {a : Addr × Obj} (b : Addr × Obj) (hs : ∀ p ∈ l', p ∈ l) : ∀ p ∈ a :: l', p ∈ a :: b :: l := fun p hp => by
  rcases List.mem_cons.mp hp with rfl | hp
  · exact List.mem_cons_self
  · exact List.mem_cons_of_mem _ (List.mem_cons_of_mem _ (hs p hp))
theorem lt_of_all {d : Addr} : ∀ {l : List (Addr × Obj)}, AllLt d l → ∀ p ∈ l, p.1 < d
  | [], _, _, hp => nomatch hp
  | q :: r, h, p, hp => by
    rcases List.mem_cons.mp hp with rfl | hp
    · exact h.1
    · exact lt_of_all h.2 p hp
end Mine
namespace Mine
section Loops
variable {prog : Program} {w : World} {A : Around} {E : Value → Shared → Prop} {s : Shared} {env : Env} {h₀ : Heap} {x : Str} {body : List Stmt} {Q : Flow → Shared → Prop}
def TurnEnd (h₀ : Heap) (L : Addr) (J : (Str → Option Value) → List (Addr × Obj) → Prop) (I : Addr) (oI : Obj) (s s₂ : Shared) : Prop :=
  ∃ h' tk m' nx, s₂ = { s with heap := h', toks := tk } ∧ Fr h₀ L h' m' ∧ News h₀ L h' ((I, oI) :: nx) ∧ (∀ p ∈ nx, p.1 ≠ I) ∧ J m' nx
def TurnPost (h₀ : Heap) (L : Addr) (J : (Str → Option Value) → List (Addr × Obj) → Prop) (I : Addr) (oI : Obj) (s : Shared) (Q : Flow → Shared → Prop) (f : Flow) (s₂ : Shared) : Prop :=
  match f with
  | .ret v => Q (.ret v) s₂
  | .brk => Q .next s₂
  | _ => TurnEnd h₀ L J I oI s s₂
theorem loop_core {I : Addr} {fp : List Addr} {n : Nat} {P : Nat → Value → Prop} {St : Nat → Heap → Prop} {m₀ : Str → Option Value} {news : List (Addr × Obj)} (J : Nat → (Str → Option Value) → List (Addr × Obj) → Prop)
    (W : Walks prog w A I fp [I] n P St) (hLf : env.locals ∉ fp) (hI0 : h₀.get? I = none) (hnw : ∀ p ∈ news, p.1 ≠ I) (hst : St 0 s.heap) (hob : ∀ i h, St i h → ∃ o, h.get? I = some o)
    (hfix : ∀ b ∈ fp, b ≠ I → ∃ ob, ∀ i m nx, J i m nx → (b, ob) ∈ nx)
    (F : Fr h₀ env.locals s.heap m₀) (N : News h₀ env.locals s.heap news) (hj : J 0 m₀ news)
    (turn : ∀ i v m₁ nx h tk oI, i < n → P i v → (∀ p ∈ nx, p.1 ≠ I) → J i m₁ nx → Fr h₀ env.locals h (fun y => if y = x then some v else m₁ y) → News h₀ env.locals h ((I, oI) :: nx) →
      wpAny (model prog w) A (execs body env) (TurnPost h₀ env.locals (J (i + 1)) I oI s Q) E { s with heap := h, toks := tk })
    (done : ∀ m₁ nx h tk, J n m₁ nx → Fr h₀ env.locals h m₁ → News h₀ env.locals h nx → Q .next { s with heap := h, toks := tk }) :
    LoopAtV prog w A h₀ env x body Q E (.ref I) s := by
  have hIfp : I ∈ fp := W.sub I (List.mem_singleton.mpr rfl)
  refine ⟨I, fp, [I], n, P, St, m₀, news, J, rfl, W, hLf, ?_, ?_, hst, F, N, hj, ?_, ?_⟩
  · intro b hb; rw [List.mem_singleton.mp hb]; exact hI0
  · intro p hp hq; exact hnw p hp (List.mem_singleton.mp hq)
  · rintro i v m₁ news₁ s₁ own ⟨hh', tk', rfl⟩ hin hP hJ hoff hown hget hfp hst' F₁ N₁
    obtain ⟨oI, hoI⟩ := hob _ _ hst'
    have hIown : (I, oI) ∈ own := hfp I hIfp hI0 oI hoI
    have hne : ∀ p ∈ news₁, p.1 ≠ I := fun p hp e => hoff p hp (List.mem_singleton.mpr e)
    have N₂ : News h₀ env.locals hh' ((I, oI) :: news₁) := fun p hp => by
      rcases List.mem_cons.mp hp with rfl | hp
      · exact N₁ _ (List.mem_append_left _ hIown)
      · exact N₁ _ (List.mem_append_right _ hp)
    refine wpAny_mono (turn i v m₁ news₁ hh' tk' oI hin hP hne hJ F₁ N₂) (fun f s₂ p => ?_) fun _ _ e => e
    have fin : TurnEnd h₀ env.locals (J (i + 1)) I oI s s₂ → LoopStepU h₀ env.locals [I] own (J (i + 1)) { s with heap := hh', toks := tk' } .next s₂ := by
      rintro ⟨h', tk, m', nx, rfl, F', N', hne', hJ'⟩
      refine ⟨rfl, h', tk, m', nx, rfl, F', fun p hp => ?_, fun p hp hq => hne' p hp (List.mem_singleton.mp hq), hJ'⟩
      rcases List.mem_append.mp hp with hp | hp
      · by_cases hpI : p.1 = I
        · have h2 : hh'.get? p.1 = some p.2 := hget p hp
          rw [hpI, show hh'.get? I = some oI from hoI] at h2
          have h3 : p = (I, oI) := Prod.ext hpI (Option.some.inj h2).symm
          rw [h3]
          exact N' _ List.mem_cons_self
        · obtain ⟨ob, hb⟩ := hfix p.1 (hown p hp) hpI
          have h1 : hh'.get? p.1 = some ob := (N₁ _ (List.mem_append_right _ (hb _ _ _ hJ))).1
          have h2 : hh'.get? p.1 = some p.2 := hget p hp
          rw [h1] at h2
          have h3 : p = (p.1, ob) := Prod.ext rfl (Option.some.inj h2).symm
          rw [h3]
          exact N' _ (List.mem_cons_of_mem _ (hb _ _ _ hJ'))
      · exact N' p (List.mem_cons_of_mem _ hp)
    cases f with
    | ret v => exact .ret p
    | brk => exact .brk p
    | next => exact .next (fin p)
    | cont => exact .cont (fin p)
  · rintro h' tk m' news' F' N' _ hJ
    exact done m' news' h' tk hJ F' N'
/-- a loop over a list of the ledger that stays as it is -/
theorem loop_list {l : Addr} {vs : List Value} {nn : Nat} {m₀ : Str → Option Value} {news : List (Addr × Obj)} (J : Nat → (Str → Option Value) → List (Addr × Obj) → Prop)
    (hh : A.handled = none) (hJl : ∀ i m nx, J i m nx → (l, listOf vs.toArray nn) ∈ nx) (F : Fr h₀ env.locals s.heap m₀) (N : News h₀ env.locals s.heap news) (hj : J 0 m₀ news)
    (turn : ∀ i v m₁ nx h tk I oI, vs[i]? = some v → (∀ p ∈ nx, p.1 ≠ I) → J i m₁ nx → Fr h₀ env.locals h (fun y => if y = x then some v else m₁ y) → News h₀ env.locals h ((I, oI) :: nx) →
      wpAny (model prog w) A (execs body env) (TurnPost h₀ env.locals (J (i + 1)) I oI s Q) E { s with heap := h, toks := tk })
    (done : ∀ m₁ nx h tk, J vs.length m₁ nx → Fr h₀ env.locals h m₁ → News h₀ env.locals h nx → Q .next { s with heap := h, toks := tk }) :
    wpAny (model prog w) A (pyIter (.ref l)) (fun it s₂ => LoopAtV prog w A h₀ env x body Q E it s₂) E s := by
  have hl := hJl _ _ _ hj
  have hol : s.heap.get? l = some (listOf vs.toArray nn) := (N _ hl).1
  have hls : s.heap.IsList l vs.toArray := ⟨_, hol, rfl, nn, rfl⟩
  have hne : l ≠ s.heap.objs.size := Nat.ne_of_lt (Heap.lt_size hol)
  refine wpAny_pyIter_list hls ?_
  have W := Walks.list (prog := prog) (w := w) hh s.heap.objs.size l hne vs.toArray
  refine loop_core (s := { s with heap := _ }) J W ?_ (next_is_new F) ?_ ⟨⟨_, Heap.get?_push_size _ rfl, rfl, rfl⟩, hls.at fun o e => Heap.get?_push_of_some _ e⟩ ?_ ?_ (F.push _) (fun p hp => ⟨Heap.get?_push_of_some _ (N p hp).1, (N p hp).2⟩) hj ?_ ?_
  · intro hm
    rcases List.mem_cons.mp hm with e | hm
    · exact absurd F.ns.lt (e ▸ Nat.lt_irrefl _)
    · exact (N _ hl).2.1 ((List.mem_singleton.mp hm).symm)
  · intro p hp hI
    exact absurd (Heap.lt_size (N p hp).1) (hI ▸ Nat.lt_irrefl _)
  · rintro i h ⟨⟨o, ho, _⟩, _⟩
    exact ⟨o, ho⟩
  · intro b hb hbI
    rcases List.mem_cons.mp hb with e | hb
    · exact absurd e hbI
    · rw [List.mem_singleton.mp hb]
      exact ⟨_, hJl⟩
  · intro i v m₁ nx h tk oI hi hP
    exact turn i v m₁ nx h tk _ oI (by simpa using hP)
  · intro m₁ nx h tk hJ
    exact done m₁ nx h tk (by simpa using hJ)
/-- a loop over the signs of a text -/
theorem loop_text {xt : Str} {tx : Tok} {m₀ : Str → Option Value} {news : List (Addr × Obj)} (J : Nat → (Str → Option Value) → List (Addr × Obj) → Prop)
    (hh : A.handled = none) (F : Fr h₀ env.locals s.heap m₀) (N : News h₀ env.locals s.heap news) (hj : J 0 m₀ news)
    (turn : ∀ i c t m₁ nx h tk I oI, xt.cps[i]? = some c → (∀ p ∈ nx, p.1 ≠ I) → J i m₁ nx → Fr h₀ env.locals h (fun y => if y = x then some (.str ⟨#[c]⟩ t) else m₁ y) → News h₀ env.locals h ((I, oI) :: nx) →
      wpAny (model prog w) A (execs body env) (TurnPost h₀ env.locals (J (i + 1)) I oI s Q) E { s with heap := h, toks := tk })
    (done : ∀ m₁ nx h tk, J xt.cps.size m₁ nx → Fr h₀ env.locals h m₁ → News h₀ env.locals h nx → Q .next { s with heap := h, toks := tk }) :
    wpAny (model prog w) A (pyIter (.str xt tx)) (fun it s₂ => LoopAtV prog w A h₀ env x body Q E it s₂) E s := by
  cases ha : xt.cps.all (· < 128)
  · refine wpAny_pyIter_wide ha ?_
    refine loop_core (s := { s with heap := _ }) J (Walks.strWide hh _ xt tx) ?_ (next_is_new F) ?_ ⟨_, Heap.get?_push_size _ rfl, rfl, rfl⟩ ?_ ?_ (F.push _) (fun p hp => ⟨Heap.get?_push_of_some _ (N p hp).1, (N p hp).2⟩) hj ?_ ?_
    · intro hm
      exact absurd F.ns.lt ((List.mem_singleton.mp hm) ▸ Nat.lt_irrefl _)
    · intro p hp hI
      exact absurd (Heap.lt_size (N p hp).1) (hI ▸ Nat.lt_irrefl _)
    · rintro i h ⟨o, ho, _⟩
      exact ⟨o, ho⟩
    · intro b hb hbI
      exact absurd (List.mem_singleton.mp hb) hbI
    · rintro i v m₁ nx h tk oI hi ⟨c, u, hc, rfl⟩
      exact turn i c u m₁ nx h tk _ oI hc
    · exact done
  · refine wpAny_pyIter_ascii ha ?_
    refine loop_core (s := { s with heap := _ }) J (Walks.strAscii hh _ xt tx) ?_ (next_is_new F) ?_ ⟨_, Heap.get?_push_size _ rfl, rfl, rfl⟩ ?_ ?_ (F.push _) (fun p hp => ⟨Heap.get?_push_of_some _ (N p hp).1, (N p hp).2⟩) hj ?_ ?_
    · intro hm
      exact absurd F.ns.lt ((List.mem_singleton.mp hm) ▸ Nat.lt_irrefl _)
    · intro p hp hI
      exact absurd (Heap.lt_size (N p hp).1) (hI ▸ Nat.lt_irrefl _)
    · rintro i h ⟨o, ho, _⟩
      exact ⟨o, ho⟩
    · intro b hb hbI
      exact absurd (List.mem_singleton.mp hb) hbI
    · rintro i v m₁ nx h tk oI hi ⟨c, u, hc, rfl⟩
      exact turn i c u m₁ nx h tk _ oI hc
    · exact done
/-- a loop over a range by ones -/
theorem loop_range {r : Addr} {a₀ b₀ : Int} {t₀ u₀ v₀ : Tok} {n : Nat} {m₀ : Str → Option Value} {news : List (Addr × Obj)} (J : Nat → (Str → Option Value) → List (Addr × Obj) → Prop)
    (hh : A.handled = none) (hr : IsRange s.heap r a₀ b₀ 1 t₀ u₀ v₀) (hsmall : Builtin.Range.small a₀ b₀ 1 = true) (hn : Builtin.Range.rangeSize a₀ b₀ 1 = (n : Int)) (F : Fr h₀ env.locals s.heap m₀) (N : News h₀ env.locals s.heap news) (hj : J 0 m₀ news)
    (turn : ∀ i t m₁ nx h tk I oI, i < n → (∀ p ∈ nx, p.1 ≠ I) → J i m₁ nx → Fr h₀ env.locals h (fun y => if y = x then some (.int (a₀ + (i : Int)) t) else m₁ y) → News h₀ env.locals h ((I, oI) :: nx) →
      wpAny (model prog w) A (execs body env) (TurnPost h₀ env.locals (J (i + 1)) I oI s Q) E { s with heap := h, toks := tk })
    (done : ∀ m₁ nx h tk, J n m₁ nx → Fr h₀ env.locals h m₁ → News h₀ env.locals h nx → Q .next { s with heap := h, toks := tk }) :
    wpAny (model prog w) A (pyIter (.ref r)) (fun it s₂ => LoopAtV prog w A h₀ env x body Q E it s₂) E s := by
  refine wpAny_pyIter_range hr hsmall ?_
  have W : Walks prog w A s.heap.objs.size [s.heap.objs.size] [s.heap.objs.size] n (fun i v => i < n ∧ ∃ t, v = .int (a₀ + i * 1) t)
      (fun i h => IsRangeIter h s.heap.objs.size (a₀ + (i : Nat) * 1) ((n : Int) - (i : Nat)) 1) := (Walks.range hh _ a₀ 1 n).bound
  refine loop_core (s := { s with heap := _ }) J W ?_ (next_is_new F) ?_ (by show IsRangeIter _ _ _ _ _; rw [hn]; simpa using Heap.get?_push_size _ rfl) ?_ ?_ (F.push _) (fun p hp => ⟨Heap.get?_push_of_some _ (N p hp).1, (N p hp).2⟩) hj ?_ ?_
  · intro hm
    exact absurd F.ns.lt ((List.mem_singleton.mp hm) ▸ Nat.lt_irrefl _)
  · intro p hp hI
    exact absurd (Heap.lt_size (N p hp).1) (hI ▸ Nat.lt_irrefl _)
  · intro i h ho
    exact ⟨_, ho⟩
  · intro b hb hbI
    exact absurd (List.mem_singleton.mp hb) hbI
  · rintro i v m₁ nx h tk oI hi ⟨_, t, rfl⟩
    rw [Int.mul_one]
    exact turn i t m₁ nx h tk _ oI hi
  · exact done
theorem TurnEnd.intro {L : Addr} {J : (Str → Option Value) → List (Addr × Obj) → Prop} {I : Addr} {oI : Obj} {h' : Heap} {tk : Nat} {m' : Str → Option Value} {nx : List (Addr × Obj)} (F : Fr h₀ L h' m') (N : News h₀ L h' ((I, oI) :: nx)) (hn : ∀ p ∈ nx, p.1 ≠ I) (hj : J m' nx) :
    TurnEnd h₀ L J I oI s { s with heap := h', toks := tk } := ⟨h', tk, m', nx, rfl, F, N, hn, hj⟩
theorem loop_one {l : Addr} {v : Value} {nn : Nat} {m₀ : Str → Option Value} {news : List (Addr × Obj)} (hh : A.handled = none) (F : Fr h₀ env.locals s.heap m₀) (N : News h₀ env.locals s.heap news) (hl : (l, listOf [v].toArray nn) ∈ news)
    (turn : ∀ h tk I oI, (∀ p ∈ news, p.1 ≠ I) → Fr h₀ env.locals h (fun y => if y = x then some v else m₀ y) → News h₀ env.locals h ((I, oI) :: news) →
      wpAny (model prog w) A (execs body env) (TurnPost h₀ env.locals (fun _ nx => nx = news) I oI s Q) E { s with heap := h, toks := tk })
    (done : ∀ m₁ h tk, Fr h₀ env.locals h m₁ → News h₀ env.locals h news → Q .next { s with heap := h, toks := tk }) :
    wpAny (model prog w) A (pyIter (.ref l)) (fun it s₂ => LoopAtV prog w A h₀ env x body Q E it s₂) E s := by
  refine loop_list (vs := [v]) (nn := nn) (fun i m nx => nx = news ∧ (i = 0 → m = m₀)) hh (fun i m nx h => h.1 ▸ hl) F N ⟨rfl, fun _ => rfl⟩ ?_ ?_
  · rintro i u m₁ nx h tk I oI hv hI ⟨rfl, hm₁⟩ F₁ N₁
    have hi : i = 0 := by
      have := (List.getElem?_eq_some_iff.mp hv).1
      simp at this; exact this
    subst hi
    obtain rfl := hm₁ rfl
    simp only [List.getElem?_cons_zero, Option.some.injEq] at hv
    subst hv
    refine wpAny_mono (turn h tk I oI hI F₁ N₁) (fun f s₂ p => ?_) fun _ _ e => e
    have fin : TurnEnd h₀ env.locals (fun _ nx' => nx' = nx) I oI s s₂ → TurnEnd h₀ env.locals (fun m' nx' => nx' = nx ∧ (0 + 1 = 0 → m' = m₁)) I oI s s₂ := by
      rintro ⟨h', tk, m', nx', e, F', N', hne, hj⟩
      exact ⟨h', tk, m', nx', e, F', N', hne, hj, fun h => by cases h⟩
    cases f with
    | ret v => exact p
    | brk => exact p
    | next => exact fin p
    | cont => exact fin p
  · rintro m₁ nx h tk ⟨rfl, _⟩ F₁ N₁
    exact done m₁ h tk F₁ N₁
end Loops
end Mine
namespace Mine
section Texts
/-- a text by its signs -/
abbrev st (l : List Nat) : Str := ⟨l.toArray⟩
theorem st_toList (l : List Nat) : (st l).cps.toList = l := rfl
theorem st_length (l : List Nat) : (st l).length = l.length := by simp [Str.length]
theorem st_append (a b : List Nat) : st a ++ st b = st (a ++ b) := Str.ext' (by rw [Str.cps_append]; simp)
theorem st_of (x : Str) : x = st x.cps.toList := rfl
theorem st_inj {a b : List Nat} (h : st a = st b) : a = b := by
  have := congrArg (fun x : Str => x.cps.toList) h
  simpa using this
theorem slice_st {l p m q : List Nat} {i j : Int} (e : l = p ++ (m ++ q)) (hi : i = (p.length : Int)) (hj : j = ((p.length + m.length : Nat) : Int)) : Txt.slice (st l) (some i) (some j) = st m := by
  have h := StrLaws.sliceText_nat (st l) (a := p.length) (b := p.length + m.length) (by omega) (by rw [st_length, e]; simp)
  rw [hi, hj]
  refine Eq.trans (show Txt.slice (st l) _ _ = StrLaws.sliceText (st l) _ _ from rfl) (h.trans ?_)
  rw [st_toList, e, List.drop_left, Nat.add_sub_cancel_left, List.take_left]
theorem slice_to_st {l m q : List Nat} {j : Int} (e : l = m ++ q) (hj : j = (m.length : Int)) : Txt.slice (st l) none (some j) = st m := by
  have h := StrLaws.sliceText_to (x := st l) (j := j) ⟨by omega, by rw [st_toList, e, hj]; simp only [List.length_append]; omega⟩
  refine Eq.trans (show Txt.slice (st l) _ _ = StrLaws.sliceText (st l) _ _ from rfl) (h.trans ?_)
  rw [st_toList, e, hj]
  simp
theorem at_one {l : List Nat} {c i : Nat} : StrLaws.At (st l) ⟨#[c]⟩ (st l).length i ↔ l[i]? = some c := StrLaws.subAt_one (st l) c i
theorem find3_st {l p m q : List Nat} {c : Nat} {i : Int} {n : Int} (e : l = p ++ (m ++ c :: q)) (hm : c ∉ m) (hi : i = (p.length : Int)) (hn : n = ((p.length + m.length : Nat) : Int)) : Txt.find3 (st l) ⟨#[c]⟩ i = n := by
  have e0 : fromIndex (st l).length i = p.length := by unfold fromIndex; rw [hi]; split <;> omega
  have hat : l[p.length + m.length]? = some c := by
    rw [e, List.getElem?_append_right (by omega), Nat.add_sub_cancel_left, List.getElem?_append_right (by omega)]; simp
  have hno : ∀ k, p.length ≤ k → k < p.length + m.length → l[k]? ≠ some c := by
    intro k h1 h2 h3
    rw [e, List.getElem?_append_right h1, List.getElem?_append_left (by omega)] at h3
    exact hm (List.mem_of_getElem? h3)
  unfold Txt.find3
  rw [e0]
  rcases StrLaws.occ_head_from (st l) ⟨#[c]⟩ p.length 1 (Nat.le_refl 1) with ⟨h0, hn'⟩ | ⟨k, r, h0, hlo, hk, hn'⟩
  · exact absurd (at_one.mpr hat) (hn' _ (by omega))
  · rw [h0, hn]
    have hk' := at_one.mp hk
    have h1 : ¬ k < p.length + m.length := fun h => hno k hlo h hk'
    have h2 : ¬ p.length + m.length < k := fun h => hn' _ (by omega) h (at_one.mpr hat)
    show ((k : Nat) : Int) = _
    omega
theorem find_st {l m q : List Nat} {c : Nat} {n : Int} (e : l = m ++ c :: q) (hm : c ∉ m) (hn : n = (m.length : Int)) : Txt.find (st l) ⟨#[c]⟩ = n := by
  have h := find3_st (l := l) (p := []) (m := m) (q := q) (c := c) (i := 0) (n := n) (by simpa using e) hm rfl (by simpa using hn)
  exact (find_is_find3 _ _).trans h
theorem item_st {l p q : List Nat} {c : Nat} {i : Int} (e : l = p ++ c :: q) (hi : i = (p.length : Int)) : Txt.item (st l) i = ⟨#[c]⟩ := by
  have h : Txt.charAt (st l) i = some c := by
    unfold Txt.charAt
    have hlt : p.length < (st l).length := by rw [st_length, e]; simp
    rw [StrLaws.seqIndex_nonneg (by omega) (by omega)]
    have e1 : i.toNat = p.length := by omega
    show (st l).cps[i.toNat]? = some c
    rw [e1]
    show l.toArray[p.length]? = some c
    rw [List.getElem?_toArray, e, List.getElem?_append_right (Nat.le_refl _)]
    simp
  show (⟨#[(Txt.charAt (st l) i).getD 0]⟩ : Str) = _
  rw [h]; rfl
/-- the parts joined by a sign -/
def glueL (c : Nat) : List (List Nat) → List Nat
  | [] => []
  | [a] => a
  | a :: b :: r => a ++ c :: glueL c (b :: r)
theorem glueL_cons {c : Nat} {a : List Nat} {r : List (List Nat)} (h : r ≠ []) : glueL c (a :: r) = a ++ c :: glueL c r := by
  cases r with
  | nil => exact absurd rfl h
  | cons b r => rfl
theorem head_unique {c : Nat} : ∀ {a b u v : List Nat}, c ∉ a → c ∉ b → a ++ c :: u = b ++ c :: v → a = b ∧ u = v
  | [], [], _, _, _, _, h => by simpa using h
  | [], y :: b, _, _, _, hb, h => by
    simp only [List.nil_append, List.cons_append, List.cons.injEq] at h
    exact absurd (by rw [h.1]; exact List.mem_cons_self) hb
  | x :: a, [], _, _, ha, _, h => by
    simp only [List.nil_append, List.cons_append, List.cons.injEq] at h
    exact absurd (by rw [← h.1]; exact List.mem_cons_self) ha
  | x :: a, y :: b, u, v, ha, hb, h => by
    simp only [List.cons_append, List.cons.injEq] at h
    have := head_unique (fun hm => ha (List.mem_cons_of_mem _ hm)) (fun hm => hb (List.mem_cons_of_mem _ hm)) h.2
    exact ⟨by rw [h.1, this.1], this.2⟩
theorem glueL_unique {c : Nat} : ∀ {ps qs : List (List Nat)}, ps ≠ [] → qs ≠ [] → (∀ p ∈ ps, c ∉ p) → (∀ q ∈ qs, c ∉ q) → glueL c ps = glueL c qs → ps = qs
  | [], _, h, _, _, _, _ => absurd rfl h
  | _, [], _, h, _, _, _ => absurd rfl h
  | [a], [b], _, _, _, _, h => by simpa [glueL] using h
  | [a], b :: d :: r, _, _, ha, _, h => by
    exfalso
    refine ha a List.mem_cons_self ?_
    have : a = b ++ c :: glueL c (d :: r) := h
    rw [this]; simp
  | a :: d :: r, [b], _, _, _, hb, h => by
    exfalso
    refine hb b List.mem_cons_self ?_
    have : a ++ c :: glueL c (d :: r) = b := h
    rw [← this]; simp
  | a :: d :: r, b :: d' :: r', _, _, ha, hb, h => by
    have h' : a ++ c :: glueL c (d :: r) = b ++ c :: glueL c (d' :: r') := h
    obtain ⟨e1, e2⟩ := head_unique (ha a List.mem_cons_self) (hb b List.mem_cons_self) h'
    have := glueL_unique (by simp) (by simp) (fun p hp => ha p (List.mem_cons_of_mem _ hp)) (fun q hq => hb q (List.mem_cons_of_mem _ hq)) e2
    rw [e1, this]
theorem join_glue (c : Nat) : ∀ ps : List Str, (Str.join ⟨#[c]⟩ ps).cps.toList = glueL c (ps.map fun p => p.cps.toList)
  | [] => rfl
  | [a] => rfl
  | a :: b :: r => by
    have ih := join_glue c (b :: r)
    show ((a ++ ⟨#[c]⟩ ++ Str.join ⟨#[c]⟩ (b :: r) : Str)).cps.toList = _
    rw [Str.cps_append, Str.cps_append, Array.toList_append, Array.toList_append, ih]
    simp [glueL]
theorem split_ne (x y : Str) : Txt.split x y ≠ [] := by
  unfold Txt.split
  split
  · simp
  · split
    · simp
    · rw [StrLaws.partsBetween_eq]
      obtain ⟨p, r, h⟩ := StrLaws.partsFrom_ne x y.length 0 (Builtin.Str.occurrences x y 0 x.length (x.length + 1))
      rw [h]; simp
theorem split_st {l : List Nat} {c : Nat} {qs : List (List Nat)} (e : l = glueL c qs) (hne : qs ≠ []) (hf : ∀ q ∈ qs, c ∉ q) : Txt.split (st l) ⟨#[c]⟩ = qs.map st := by
  have h1 := congrArg (fun x : Str => x.cps.toList) (StrLaws.join_split (st l) ⟨#[c]⟩)
  simp only [join_glue] at h1
  have h2 := StrLaws.split_free (st l) c
  have h3 : (Txt.split (st l) ⟨#[c]⟩).map (fun p => p.cps.toList) = qs := by
    refine glueL_unique (c := c) (by simp [split_ne]) hne ?_ hf (h1.trans e)
    intro p hp
    obtain ⟨x, hx, rfl⟩ := List.mem_map.mp hp
    exact h2 x hx
  rw [← h3, List.map_map]
  have : (st ∘ fun p : Str => p.cps.toList) = id := by funext x; rfl
  rw [this, List.map_id]
theorem at_st {l y : List Nat} {hi i : Nat} : StrLaws.At (st l) (st y) hi i ↔ i + y.length ≤ hi ∧ (l.drop i).take y.length = y := by
  have : StrLaws.At (st l) (st y) hi i ↔ i + (st y).length ≤ hi ∧ Builtin.Str.subAt (st l) (st y) i = true := Iff.rfl
  rw [this, StrLaws.subAt_eq, st_length, st_toList, st_toList, beq_iff_eq]
theorem chainG_unique {s sub : Str} {hi : Nat} : ∀ {cuts cuts' : List Nat} {a f f' : Nat}, StrLaws.ChainG s sub hi a cuts f → StrLaws.ChainG s sub hi a cuts' f' → (∀ k, f ≤ k → ¬ StrLaws.At s sub hi k) → (∀ k, f' ≤ k → ¬ StrLaws.At s sub hi k) → cuts = cuts'
  | [], [], _, _, _, _, _, _, _ => rfl
  | [], c :: r, a, f, f', h, h', hn, _ => by
    have e : f = a := h
    exact absurd h'.2.1 (hn c (by have := h'.1; omega))
  | c :: r, [], a, f, f', h, h', _, hn => by
    have e : f' = a := h'
    exact absurd h.2.1 (hn c (by have := h.1; omega))
  | c :: r, d :: r', a, f, f', h, h', hn, hn' => by
    have e : c = d := by
      rcases Nat.lt_trichotomy c d with hlt | rfl | hlt
      · exact absurd h.2.1 (h'.2.2.1 c h.1 hlt)
      · rfl
      · exact absurd h'.2.1 (h.2.2.1 d h'.1 hlt)
    subst e
    rw [chainG_unique h.2.2.2 h'.2.2.2 hn hn']
/-! the two replies -/
abbrev wHead : List Nat := [50, 50, 57, 32, 46, 46, 46, 32, 40, 46, 46, 46]
def wantL (t : List Nat) : List Nat := wHead ++ (t ++ [46, 41])
def gotL (wd t ds : List Nat) : List Nat := [50, 50, 57, 32] ++ (wd ++ ([32, 40, 46, 49, 46] ++ (t ++ ([46, 48, 48, 48, 48] ++ (ds ++ [46, 41])))))
theorem lit_dot : Str.ofString "." = ⟨#[46]⟩ := by decide
theorem lit_open : Str.ofString "(" = ⟨#[40]⟩ := by decide
theorem lit_close : Str.ofString ")" = ⟨#[41]⟩ := by decide
theorem lit_dots : Str.ofString "..." = st [46, 46, 46] := by decide
theorem lit_229 : Str.ofString "229" = st [50, 50, 57] := by decide
theorem lit_229s : Str.ofString "229 " = st [50, 50, 57, 32] := by decide
theorem lit_sopen : Str.ofString " (" = st [32, 40] := by decide
open NumText in
theorem digit_ne {t : List Nat} (ht : AllDigits t) {c : Nat} (hc : c < 48) : c ∉ t := fun h => by have := ht c h; omega
section Want
open NumText
variable {t : List Nat}
theorem want_len : (st (wantL t)).length = 14 + t.length := by rw [st_length]; simp [wantL]; omega
theorem want_1 : Txt.slice (st (wantL t)) none (some 3) = Str.ofString "229" := by
  rw [lit_229]
  exact slice_to_st (m := [50, 50, 57]) (q := [32, 46, 46, 46, 32, 40, 46, 46, 46] ++ (t ++ [46, 41])) rfl rfl
theorem want_2 : Txt.find (st (wantL t)) (Str.ofString "(") = 8 := by
  rw [lit_open]
  exact find_st (m := [50, 50, 57, 32, 46, 46, 46, 32]) (q := [46, 46, 46] ++ (t ++ [46, 41])) rfl (by decide) rfl
theorem want_3 (ht : AllDigits t) : Txt.find3 (st (wantL t)) (Str.ofString ")") (8 + 1) = 13 + (t.length : Int) := by
  rw [lit_close]
  refine find3_st (p := [50, 50, 57, 32, 46, 46, 46, 32, 40]) (m := [46, 46, 46] ++ (t ++ [46])) (q := []) ?_ ?_ rfl ?_
  · simp [wantL]
  · have := digit_ne ht (c := 41) (by omega)
    simp [this]
  · simp; omega
theorem want_4 : Txt.item (st (wantL t)) (8 + 1) = Str.ofString "." := by
  rw [lit_dot]
  exact item_st (p := [50, 50, 57, 32, 46, 46, 46, 32, 40]) (q := [46, 46] ++ (t ++ [46, 41])) rfl rfl
theorem want_5 : Txt.item (st (wantL t)) (13 + (t.length : Int) - 1) = Str.ofString "." := by
  rw [lit_dot]
  refine item_st (p := wHead ++ t) (q := [41]) ?_ ?_
  · simp [wantL]
  · simp; omega
theorem want_6 : Txt.slice (st (wantL t)) (some (8 + 1)) (some (13 + (t.length : Int))) = st ([46, 46, 46] ++ (t ++ [46])) := by
  refine slice_st (p := [50, 50, 57, 32, 46, 46, 46, 32, 40]) (q := [41]) ?_ rfl ?_
  · simp [wantL]
  · simp; omega
theorem want_7 (ht : AllDigits t) : Txt.split (st ([46, 46, 46] ++ (t ++ [46]))) (Str.ofString ".") = [st [], st [], st [], st t, st []] := by
  rw [lit_dot]
  refine (split_st (qs := [[], [], [], t, []]) ?_ (by simp) ?_)
  · simp [glueL]
  · have := digit_ne ht (c := 46) (by omega)
    simp [this]
theorem text_int (ht : AllDigits t) (hne : t ≠ []) (hl : t.length ≤ 200) : PySem.intText? (st t) = some ((digitsVal t : Nat) : Int) :=
  intText_digits (x := st t) ht hne (by rw [st_length]; omega)
theorem want_dots_at (ht : AllDigits t) : StrLaws.ChainG (st (wantL t)) (st [46, 46, 46]) (st (wantL t)).length 0 [4, 9] 12 ∧ ∀ k, 12 ≤ k → ¬ StrLaws.At (st (wantL t)) (st [46, 46, 46]) (st (wantL t)).length k := by
  have hlen := want_len (t := t)
  refine ⟨⟨by omega, ?_, ?_, by show 4 + 3 ≤ 9; omega, ?_, ?_, rfl⟩, ?_⟩
  · rw [at_st]; exact ⟨by rw [hlen]; simp; omega, rfl⟩
  · intro k h1 h2 h3
    rw [at_st] at h3
    have h4 := h3.2
    match k, h2 with
    | 0, _ => cases h4
    | 1, _ => cases h4
    | 2, _ => cases h4
    | 3, _ => cases h4
  · rw [at_st]; exact ⟨by rw [hlen]; simp; omega, rfl⟩
  · intro k h1 h2 h3
    have h1' : 7 ≤ k := h1
    rw [at_st] at h3
    have h4 := h3.2
    match k, h1', h2 with
    | 7, _, _ => cases h4
    | 8, _, _ => cases h4
  · intro k hk h3
    rw [at_st, hlen] at h3
    obtain ⟨h5, h6⟩ := h3
    simp only [List.length_cons, List.length_nil] at h5
    have e : k = 12 + (k - 12) := by omega
    have hlt : k - 12 < t.length := by omega
    have h7 : (wantL t).drop k = t.drop (k - 12) ++ [46, 41] := by
      rw [e]
      show (wHead ++ (t ++ [46, 41])).drop (wHead.length + (k - 12)) = _
      rw [List.drop_length_add_append, List.drop_append_of_le_length (by omega)]
      simp
    rw [h7] at h6
    have h8 := congrArg (fun l => l[0]?) h6
    simp only [List.length_cons, List.length_nil] at h8
    rw [List.getElem?_take_of_lt (by omega), List.getElem?_append_left (by simp; omega), List.getElem?_drop] at h8
    have h9 : t[k - 12 + 0]? = some 46 := h8
    exact digit_ne ht (c := 46) (by omega) (List.mem_of_getElem? h9)
theorem want_cuts (ht : AllDigits t) : Builtin.Str.occurrences (st (wantL t)) (Str.ofString "...") 0 (st (wantL t)).length ((st (wantL t)).length + 1) = [4, 9] := by
  rw [lit_dots]
  obtain ⟨f, h1, h2⟩ := StrLaws.occ_tight (st (wantL t)) (st [46, 46, 46]) (by decide)
  obtain ⟨h3, h4⟩ := want_dots_at ht
  exact chainG_unique h1 h3 h2 h4
theorem want_has : (Builtin.Str.occurrences (st (wantL t)) (Str.ofString "...") 0 (st (wantL t)).length 1).isEmpty = false := by
  rw [lit_dots]
  have h := (StrLaws.found_iff (st (wantL t)) (st [46, 46, 46])).mpr ⟨4, by
    have hlen := want_len (t := t)
    exact ⟨by rw [hlen]; simp [Str.length]; omega, ((at_st (l := wantL t) (y := [46, 46, 46]) (hi := 7) (i := 4)).mpr ⟨by simp, rfl⟩).2⟩⟩
  simpa using h
theorem sub_st {l p m q : List Nat} {i j : Nat} (e : l = p ++ (m ++ q)) (hi : i = p.length) (hj : j = p.length + m.length) : Builtin.Str.strSub (st l) i j = st m := by
  have h := StrLaws.strSub_toList (st l) i j
  rw [st_toList, e, hi, hj, List.drop_left, Nat.add_sub_cancel_left, List.take_left] at h
  rw [st_of (Builtin.Str.strSub (st l) i j), ← hi, ← hj] at *
  rw [← e] at h
  rw [h]
theorem want_split (ht : AllDigits t) : Txt.split (st (wantL t)) (Str.ofString "...") = [Str.ofString "229 ", Str.ofString " (", st (t ++ [46, 41])] := by
  have hc := want_cuts ht
  have hk : Builtin.Str.strKind (Str.ofString "...") = 1 := by decide +kernel
  unfold Txt.split
  rw [hc, hk]
  have hlen := want_len (t := t)
  have h3 : (Str.ofString "...").length = 3 := by decide
  have hk2 : ¬ Builtin.Str.strKind (st (wantL t)) < 1 := by unfold Builtin.Str.strKind; split <;> (try split) <;> omega
  rw [if_neg (by rw [hlen, h3]; simp [hk2]; omega), if_neg (by simp)]
  rw [StrLaws.partsBetween_eq, h3]
  show [Builtin.Str.strSub (st (wantL t)) 0 4, Builtin.Str.strSub (st (wantL t)) 7 9, Builtin.Str.strSub (st (wantL t)) 12 (st (wantL t)).length] = _
  rw [lit_229s, lit_sopen]
  have a1 : Builtin.Str.strSub (st (wantL t)) 0 4 = st [50, 50, 57, 32] := sub_st (p := []) (q := [46, 46, 46, 32, 40, 46, 46, 46] ++ (t ++ [46, 41])) rfl rfl rfl
  have a2 : Builtin.Str.strSub (st (wantL t)) 7 9 = st [32, 40] := sub_st (p := [50, 50, 57, 32, 46, 46, 46]) (q := [46, 46, 46] ++ (t ++ [46, 41])) rfl rfl rfl
  have a3 : Builtin.Str.strSub (st (wantL t)) 12 (st (wantL t)).length = st (t ++ [46, 41]) := sub_st (p := wHead) (q := []) (by simp [wantL]) rfl (by rw [hlen]; simp; omega)
  rw [a1, a2, a3]
end Want
section Got
open NumText
variable {wd t ds : List Nat}
theorem got_len : (st (gotL wd t ds)).length = 16 + wd.length + t.length + ds.length := by rw [st_length]; simp [gotL]; omega
theorem got_1 : Txt.slice (st (gotL wd t ds)) none (some 3) = Str.ofString "229" := by
  rw [lit_229]
  exact slice_to_st (m := [50, 50, 57]) (q := [32] ++ (wd ++ ([32, 40, 46, 49, 46] ++ (t ++ ([46, 48, 48, 48, 48] ++ (ds ++ [46, 41])))))) rfl rfl
theorem got_2 (hwd : 40 ∉ wd) : Txt.find (st (gotL wd t ds)) (Str.ofString "(") = 5 + (wd.length : Int) := by
  rw [lit_open]
  refine find_st (m := [50, 50, 57, 32] ++ (wd ++ [32])) (q := [46, 49, 46] ++ (t ++ ([46, 48, 48, 48, 48] ++ (ds ++ [46, 41])))) ?_ ?_ ?_
  · simp [gotL]
  · simp [hwd]
  · simp; omega
abbrev midL (t ds : List Nat) : List Nat := [46, 49, 46] ++ (t ++ ([46, 48, 48, 48, 48] ++ (ds ++ [46])))
theorem mid_len : (st (midL t ds)).length = 9 + t.length + ds.length := by rw [st_length]; simp; omega
theorem got_3 (ht : AllDigits t) (hds : AllDigits ds) : Txt.find3 (st (gotL wd t ds)) (Str.ofString ")") (5 + (wd.length : Int) + 1) = 15 + (wd.length : Int) + t.length + ds.length := by
  rw [lit_close]
  refine find3_st (p := [50, 50, 57, 32] ++ (wd ++ [32, 40])) (m := midL t ds) (q := []) ?_ ?_ ?_ ?_
  · simp [gotL]
  · have h1 := digit_ne ht (c := 41) (by omega)
    have h2 := digit_ne hds (c := 41) (by omega)
    simp [h1, h2]
  · simp; omega
  · simp; omega
theorem got_4 : Txt.item (st (gotL wd t ds)) (5 + (wd.length : Int) + 1) = Str.ofString "." := by
  rw [lit_dot]
  refine item_st (p := [50, 50, 57, 32] ++ (wd ++ [32, 40])) (q := [49, 46] ++ (t ++ ([46, 48, 48, 48, 48] ++ (ds ++ [46, 41])))) ?_ ?_
  · simp [gotL]
  · simp; omega
theorem got_5 : Txt.item (st (gotL wd t ds)) (15 + (wd.length : Int) + t.length + ds.length - 1) = Str.ofString "." := by
  rw [lit_dot]
  refine item_st (p := [50, 50, 57, 32] ++ (wd ++ ([32, 40, 46, 49, 46] ++ (t ++ ([46, 48, 48, 48, 48] ++ ds))))) (q := [41]) ?_ ?_
  · simp [gotL]
  · simp; omega
theorem got_6 : Txt.slice (st (gotL wd t ds)) (some (5 + (wd.length : Int) + 1)) (some (15 + (wd.length : Int) + t.length + ds.length)) = st (midL t ds) := by
  refine slice_st (p := [50, 50, 57, 32] ++ (wd ++ [32, 40])) (q := [41]) ?_ ?_ ?_
  · simp [gotL]
  · simp; omega
  · simp; omega
theorem got_7 (ht : AllDigits t) (hds : AllDigits ds) : Txt.split (st (midL t ds)) (Str.ofString ".") = [st [], st [49], st t, st ([48, 48, 48, 48] ++ ds), st []] := by
  rw [lit_dot]
  refine (split_st (qs := [[], [49], t, [48, 48, 48, 48] ++ ds, []]) ?_ (by simp) ?_)
  · simp [glueL]
  · have h1 := digit_ne ht (c := 46) (by omega)
    have h2 := digit_ne hds (c := 46) (by omega)
    simp [h1, h2]
theorem zeros_digits (hds : AllDigits ds) : AllDigits ([48, 48, 48, 48] ++ ds) := by
  intro c hc
  rcases List.mem_append.mp hc with hc | hc
  · simp at hc; omega
  · exact hds c hc
theorem zeros_val : digitsVal ([48, 48, 48, 48] ++ ds) = digitsVal ds := by
  unfold digitsVal
  rw [List.foldl_append]
  rfl
theorem got_8 (hds : AllDigits ds) (hl : ds.length ≤ 100) : PySem.intText? (st ([48, 48, 48, 48] ++ ds)) = some ((digitsVal ds : Nat) : Int) := by
  rw [← zeros_val (ds := ds)]
  exact intText_digits (x := st _) (zeros_digits hds) (by simp) (by rw [st_length]; simp; omega)
theorem got_starts : Txt.startswith (st (gotL wd t ds)) (Str.ofString "229 ") = true := by
  rw [lit_229s]
  unfold Txt.startswith
  have h := ((at_st (l := gotL wd t ds) (y := [50, 50, 57, 32]) (hi := 4) (i := 0)).mpr ⟨by simp, rfl⟩).2
  rw [h, got_len]
  simp [Str.length]; omega
theorem foldl_dv : ∀ (b : List Nat) (acc : Nat), b.foldl (fun acc c => acc * 10 + (c - 48)) acc = acc * 10 ^ b.length + digitsVal b
  | [], acc => by simp [digitsVal]
  | c :: b, acc => by
    have h1 := foldl_dv b (acc * 10 + (c - 48))
    have h2 := foldl_dv b (0 * 10 + (c - 48))
    have h3 : digitsVal (c :: b) = b.foldl (fun acc c => acc * 10 + (c - 48)) (0 * 10 + (c - 48)) := rfl
    rw [List.foldl_cons, h1, h3, h2, List.length_cons, Nat.pow_succ, Nat.add_mul, Nat.mul_assoc, Nat.mul_comm 10 (10 ^ b.length), Nat.zero_mul, Nat.zero_add, Nat.add_assoc]
theorem dv_append (a b : List Nat) : digitsVal (a ++ b) = digitsVal a * 10 ^ b.length + digitsVal b := by
  unfold digitsVal
  rw [List.foldl_append, foldl_dv]
  rfl
theorem dv_cons (c : Nat) (t : List Nat) : digitsVal (c :: t) = (c - 48) * 10 ^ t.length + digitsVal t := by
  have := dv_append [c] t
  simpa [digitsVal] using this
theorem dv_lt : ∀ {l : List Nat}, AllDigits l → digitsVal l < 10 ^ l.length
  | [], _ => by simp [digitsVal]
  | c :: t, h => by
    have h1 := dv_lt h.tail
    have h2 := h.head
    rw [dv_cons, List.length_cons, Nat.pow_succ]
    have h3 : (c - 48) * 10 ^ t.length ≤ 9 * 10 ^ t.length := Nat.mul_le_mul_right _ (by omega)
    omega
theorem dv_inj : ∀ {a b : List Nat}, AllDigits a → AllDigits b → a.length = b.length → digitsVal a = digitsVal b → a = b
  | [], [], _, _, _, _ => rfl
  | [], _ :: _, _, _, h, _ => by simp at h
  | _ :: _, [], _, _, h, _ => by simp at h
  | c :: a, d :: b, ha, hb, hl, h => by
    have hl' : a.length = b.length := by simpa using hl
    rw [dv_cons, dv_cons, hl'] at h
    have h1 := dv_lt ha.tail
    have h2 := dv_lt hb.tail
    rw [hl'] at h1
    have h3 := ha.head
    have h4 := hb.head
    have hp : 0 < 10 ^ b.length := Nat.pow_pos (by decide)
    have e1 : ((c - 48) * 10 ^ b.length + digitsVal a) / 10 ^ b.length = c - 48 := by
      rw [Nat.mul_comm, Nat.mul_add_div hp, Nat.div_eq_of_lt h1]; omega
    have e2 : ((d - 48) * 10 ^ b.length + digitsVal b) / 10 ^ b.length = d - 48 := by
      rw [Nat.mul_comm, Nat.mul_add_div hp, Nat.div_eq_of_lt h2]; omega
    have e3 : c - 48 = d - 48 := by rw [← e1, ← e2, h]
    have e4 : c = d := by omega
    subst e4
    have e5 : digitsVal a = digitsVal b := by omega
    rw [dv_inj ha.tail hb.tail hl' e5]
theorem last_digits {z t : List Nat} (hz : AllDigits z) (ht : AllDigits t) (hl : t.length ≤ z.length) : z.drop (z.length - t.length) = t ↔ digitsVal z % 10 ^ t.length = digitsVal t := by
  have e : z = z.take (z.length - t.length) ++ z.drop (z.length - t.length) := (List.take_append_drop _ _).symm
  have hlen : (z.drop (z.length - t.length)).length = t.length := by simp; omega
  have hd : AllDigits (z.drop (z.length - t.length)) := fun c hc => hz c (List.mem_of_mem_drop hc)
  have h1 : digitsVal z % 10 ^ t.length = digitsVal (z.drop (z.length - t.length)) := by
    have h2 : digitsVal z = _ := congrArg digitsVal e
    rw [h2, dv_append, hlen, Nat.mul_comm, Nat.mul_add_mod, Nat.mod_eq_of_lt]
    have h3 := dv_lt hd
    rw [hlen] at h3
    exact h3
  rw [h1]
  exact ⟨fun h => by rw [h], fun h => dv_inj hd ht hlen h⟩
/-- the end of the reply, by its value's last figures -/
theorem got_ends (ht : AllDigits t) (hds : AllDigits ds) (hk : t.length ≤ 4) : Txt.endswith (st (gotL wd t ds)) (st (t ++ [46, 41])) = decide (digitsVal ds % 10 ^ t.length = digitsVal t) := by
  have hz := zeros_digits hds
  have hzl : t.length ≤ ([48, 48, 48, 48] ++ ds).length := by simp; omega
  have key := last_digits hz ht hzl
  rw [zeros_val] at key
  have hlen : (st (gotL wd t ds)).length = 16 + wd.length + t.length + ds.length := got_len
  have hyl : (st (t ++ [46, 41])).length = t.length + 2 := by rw [st_length]; simp
  unfold Txt.endswith
  rw [Bool.eq_iff_iff, Bool.and_eq_true, decide_eq_true_eq, decide_eq_true_eq, ← key, StrLaws.subAt_eq, st_toList, st_toList, beq_iff_eq, hyl, hlen]
  generalize hzz : [48, 48, 48, 48] ++ ds = z at *
  have hzlen : z.length = 4 + ds.length := by rw [← hzz]; simp; omega
  have e1 : gotL wd t ds = ([50, 50, 57, 32] ++ (wd ++ ([32, 40, 46, 49, 46] ++ (t ++ [46]))) ++ z.take (z.length - t.length)) ++ (z.drop (z.length - t.length) ++ [46, 41]) := by
    have : z.take (z.length - t.length) ++ (z.drop (z.length - t.length) ++ [46, 41]) = z ++ [46, 41] := by rw [← List.append_assoc, List.take_append_drop]
    rw [List.append_assoc, this, ← hzz]
    simp [gotL]
  have e2 : 16 + wd.length + t.length + ds.length - (t.length + 2) = ([50, 50, 57, 32] ++ (wd ++ ([32, 40, 46, 49, 46] ++ (t ++ [46]))) ++ z.take (z.length - t.length)).length := by
    simp; omega
  rw [e2, e1, List.drop_left]
  have hdl : (z.drop (z.length - t.length)).length = t.length := by simp; omega
  rw [List.take_of_length_le (by rw [List.length_append, hdl]; simp)]
  constructor
  · rintro ⟨_, h⟩
    exact (List.append_inj h (by rw [hdl])).1
  · intro h
    exact ⟨by omega, by rw [h]⟩
theorem got_finds : ∃ k rest, Builtin.Str.occurrences (st (gotL wd t ds)) (Str.ofString " (") 4 ((st (gotL wd t ds)).length - (st (t ++ [46, 41])).length) 1 = k :: rest := by
  have hlen : (st (gotL wd t ds)).length = 16 + wd.length + t.length + ds.length := got_len
  have hyl : (st (t ++ [46, 41])).length = t.length + 2 := by rw [st_length]; simp
  rw [hlen, hyl, lit_sopen, StrLaws.occ_eq]
  have hat : StrLaws.At (st (gotL wd t ds)) (st [32, 40]) (16 + wd.length + t.length + ds.length - (t.length + 2)) (4 + wd.length) := by
    rw [at_st]
    refine ⟨by simp; omega, ?_⟩
    have e : gotL wd t ds = ([50, 50, 57, 32] ++ wd) ++ ([32, 40] ++ ([46, 49, 46] ++ (t ++ ([46, 48, 48, 48, 48] ++ (ds ++ [46, 41]))))) := by simp [gotL]
    have e' : 4 + wd.length = ([50, 50, 57, 32] ++ wd).length := by simp; omega
    rw [e', e, List.drop_left]
    rfl
  generalize hhi : 16 + wd.length + t.length + ds.length - (t.length + 2) = hi at hat
  rcases StrLaws.occ_first (st (gotL wd t ds)) (st [32, 40]) hi 1 (Nat.le_refl 1) (List.range' 4 (hi + 1 - 4)) 4 (fun i hi => by have := List.mem_range'_1.mp hi; omega) with ⟨_, hn⟩ | ⟨pre, a, post, e, h0, ha, hn⟩
  · exact absurd hat (hn _ (by rw [List.mem_range'_1]; omega))
  · generalize (forIn (List.range' 4 (hi + 1 - 4)) ((#[] : Array Nat), 4) (StrLaws.occBody (st (gotL wd t ds)) (st [32, 40]) hi 1)).run.fst = arr at h0
    have h1 : arr.toList[0]? = some a := by simpa using h0
    cases hL : arr.toList with
    | nil => rw [hL] at h1; cases h1
    | cons b t => exact ⟨b, t, rfl⟩
end Got
end Texts
end Mine
namespace Mine
theorem fillParse : (hd.heap_39 = hd.heap_39 ∧ Challenge.rw_pg0071_01 = Challenge.rw_pg0071_01) := by
  k_fill
  trivial
section Parse
variable {prog : Program} {w : World} {A : Around} {E : Value → Shared → Prop} {s : Shared}
theorem ite_sne {x y : Str} {P R : Prop} (h : x = y) (hr : R) : if (x != y) = true then P else R := by subst h; simpa using hr
theorem ite_sne2 {x : Str} {P R : Prop} (hr : R) : if (x != x) = true then P else R := by simpa using hr
theorem find_eq {x y : Str} {t u : Tok} {n : Int} {Q : Value → Shared → Prop} (e : Txt.find x y = n) (hq : Q (.int n s.toks) { s with toks := s.toks + 1 }) :
    wpAny (model prog w) A (call (.builtin "str.find") [.str x t, .str y u]) Q E s := SC.find (by rw [e]; exact hq)
theorem find3_eq {x y : Str} {t u v : Tok} {i n : Int} {Q : Value → Shared → Prop} (e : Txt.find3 x y i = n) (hq : Q (.int n s.toks) { s with toks := s.toks + 1 }) :
    wpAny (model prog w) A (call (.builtin "str.find") [.str x t, .str y u, .int i v]) Q E s := SC.find3 (by rw [e]; exact hq)
theorem item_eq {x y : Str} {t u : Tok} {i : Int} {value slice : PySem.Expr} {Q : Value → Shared → Prop} (e : Txt.item x i = y) (hl : x.length ≤ 200) (h0 : 0 ≤ i) (h1 : i < (x.length : Int)) (h : Q (.str y s.toks) { s with toks := s.toks + 1 })
    (hs : subscripted slice false (.str x t) (.int i u) = operate [.str x t, .int i u] (getItem (.str x t) (.int i u)) := by with_unfolding_all rfl)
    (ht : ∀ r, letTemporaryGo value (.str x t) r = pure () := by intro _; with_unfolding_all rfl) :
    wpAny (model prog w) A (subscriptTail value slice (.str x t) (.int i u)) Q E s :=
  KXi.item rfl (by omega) h1 (by omega) (fun _ => by rw [e]; exact h) hs ht
theorem slice_ss_eq {x y : Str} {t : Tok} {h₀ : Heap} {L : Addr} {m : Str → Option Value} {news : List (Addr × Obj)} {value slice : PySem.Expr} {i j : Int} {ui uj : Tok} {Q : Value → Shared → Prop} (e : Txt.slice x (some i) (some j) = y) (hl : x.length ≤ 200)
    (hF : Fr h₀ L s.heap m) (hN : News h₀ L s.heap news) (h : ∀ h' t' k, Fr h₀ L h' m → News h₀ L h' news → Q (.str y t') { s with heap := h', toks := k })
    (hs : subscripted slice false (.str x t) (.ref s.heap.objs.size) = operate [.ref s.heap.objs.size, .str x t] (getItem (.str x t) (.ref s.heap.objs.size)) := by with_unfolding_all rfl)
    (ht : ∀ r, letTemporaryGo value (.str x t) r = pure () := by intro _; with_unfolding_all rfl) :
    wpAny (model prog w) A (subscriptTail value slice (.str x t) (.ref s.heap.objs.size)) Q E { s with heap := s.heap.push { cls := .type "slice", data := .fields #[.int i ui, .int j uj, .none] } } :=
  slice_strN_ss hF hN (fun h' t' k a b => by rw [e]; exact h h' t' k a b) hs ht (by rw [sizeLine_eq]; omega)
theorem split5_eq {x y p0 p1 p2 p3 p4 : Str} {t u : Tok} {h₀ : Heap} {L : Addr} {m : Str → Option Value} {news : List (Addr × Obj)} {Q : Value → Shared → Prop} (e : Txt.split x y = [p0, p1, p2, p3, p4]) (hl : x.length ≤ 200) (hy : (y.length == 0) = false)
    (hF : Fr h₀ L s.heap m) (hN : News h₀ L s.heap news)
    (h : ∀ a t0 t1 t2 t3 t4 h' k, Fr h₀ L h' m → News h₀ L h' ((a, listOf [Value.str p0 t0, .str p1 t1, .str p2 t2, .str p3 t3, .str p4 t4].toArray 0) :: news) → (∀ p ∈ news, p.1 < a) → Q (.ref a) { s with heap := h', toks := k }) :
    wpAny (model prog w) A (call (.builtin "str.split") [.str x t, .str y u]) Q E s := by
  refine splitN1 hF hN hy (fun l h' k hl' F' N' => ?_) (by rw [sizeLine_eq]; omega)
  rw [e] at hl'
  match l, hl' with
  | [(q0, t0), (q1, t1), (q2, t2), (q3, t3), (q4, t4)], hl' =>
    simp only [List.map_cons, List.map_nil, List.cons.injEq, and_true] at hl'
    obtain ⟨rfl, rfl, rfl, rfl, rfl⟩ := hl'
    exact h _ t0 t1 t2 t3 t4 h' k F' N' fun p hp => Heap.lt_size (hN p hp).1
theorem tup_item {value slice : PySem.Expr} {t : Addr} {l : List Value} {n : Nat} {k : Int} {u : Tok} {x : Value} {h₀ : Heap} {L : Addr} {news : List (Addr × Obj)} {Q : Value → Shared → Prop} (N : News h₀ L s.heap news) (hm : (t, tupleOf l n) ∈ news)
    (h0 : 0 ≤ k) (h1 : k < 100) (hx : l[k.toNat]? = some x) (h : Q x s)
    (hs : subscripted slice false (.ref t) (.int k u) = operate [.ref t, .int k u] (getItem (.ref t) (.int k u)) := by with_unfolding_all rfl) :
    wpAny (model prog w) A (subscriptTail value slice (.ref t) (.int k u)) Q E s := by
  refine item_tupleT (News.isTup N hm) (by omega) (by omega) (j := k.toNat) ?_ hx h hs
  have hlt : k.toNat < l.length := (List.getElem?_eq_some_iff.mp hx).1
  unfold seqIndex?
  simp only [show ¬ (k < 0) by omega, if_false]
  rw [if_pos (by simp; omega)]
local macro_rules | `(tactic| k_mem) => `(tactic| first | assumption | exact List.mem_cons_self | (refine List.mem_cons_of_mem _ ?_; k_mem))
local macro_rules | `(tactic| walk_at "ite") => `(tactic| refine ite_sne (by assumption) ?_)
local macro_rules | `(tactic| walk_at "ite") => `(tactic| refine ite_sne2 ?_)
local macro_rules | `(tactic| walk_at "call builtin:str.find") => `(tactic| refine find_eq (by assumption) ?_)
local macro_rules | `(tactic| walk_at "call builtin:str.find") => `(tactic| refine find3_eq (by assumption) ?_)
local macro_rules | `(tactic| walk_at "call builtin:str.split") => `(tactic| (refine split5_eq (by assumption) (by assumption) (by decide) (by assumption) (by assumption) ?_; intro a' t0' t1' t2' t3' t4' h' k' F' N' l1))
local macro_rules | `(tactic| walk_at "subscriptTail Name BinOp str int") => `(tactic| (refine item_eq (by assumption) (by assumption) (by omega) (by omega) ?_))
local macro_rules | `(tactic| walk_at "subscriptTail Name Slice str ref") => `(tactic| (refine slice_ss_eq (s := ⟨_, _, _, _, _⟩) (by assumption) (by assumption) (by assumption) (by assumption) ?_; intro h' t' k' F' N'))
local macro_rules | `(tactic| walk_at "subscriptTail Name Constant ref int") => `(tactic| (refine' tup_item ?k1 ?k2 ?k3 ?k4 ?k5 ?_; (case k1 => assumption); (case k2 => k_mem); (case k3 => decide); (case k4 => decide); (case k5 => rfl)))
theorem parse_ok {p : Program} {loose : List Str} {mean : ExcName → Option Value} {mg mb : Str → Option Value}
    (resp host mid p0 p1 p2 p3 p4 : Str) (l r port : Int) (t0 t1 t2 : Tok) (pl : Addr) (pn : Nat) (news : List (Addr × Obj)) (hlen : resp.length ≤ 200) (hm : (pl, tupleOf [.str host t1, .int 21 t2] pn) ∈ news)
    (h1 : Txt.slice resp none (some 3) = Str.ofString "229") (h2 : Txt.find resp (Str.ofString "(") = l) (h3 : Txt.find3 resp (Str.ofString ")") (l + 1) = r)
    (hl : 0 ≤ l) (hlr : l + 1 < r) (hr : r < (resp.length : Int)) (h4 : Txt.item resp (l + 1) = Str.ofString ".") (h5 : Txt.item resp (r - 1) = Str.ofString ".")
    (h6 : Txt.slice resp (some (l + 1)) (some r) = mid) (hml : mid.length ≤ 200) (h7 : Txt.split mid (Str.ofString ".") = [p0, p1, p2, p3, p4]) (h8 : PySem.intText? p3 = some port) (hp3 : p3.length ≤ 200)
    (dp un : Nat) (gd : Option (List Code)) (cn : Str) (cs : Scope) (a : Addr) (ccd : Value) (cl : List (Str × Addr)) (outer : List Env) (A₀ : Around) (base h₀ : Heap) (L : Addr) (m : Str → Option Value) (s : Shared) (Q E : Value → Shared → Prop)
    (B : Below A₀ base outer h₀) (F : Fr h₀ L s.heap m) (X : (hd.heap_39 w.params).In h₀) (N : News h₀ L s.heap news) (T : Top p loose mean mg mb h₀) (hk : cs.kind = .function)
    (hd : dp + 1 < recursionLimit) (hu : un + 8 < cLine)
    (ret : ∀ (D : Addr) (t : Tok) (h' : Heap) (tk' : Nat), Fr h₀ L h' m → News h₀ L h' ((D, tupleOf [.str host t1, .int port t] 0) :: news) → (∀ p ∈ news, p.1 < D) → Q (.ref D) { s with heap := h', toks := tk' }) :
    wpAny (model prog w) (ktrTop dp un gd cn cs L a ccd cl outer) (call (.ref 58) [.str resp t0, .ref pl]) Q E s := by
  refine wpAny_call ?_
  refine code_def (binds := [(Str.ofString "resp", .str resp t0), (Str.ofString "peer", .ref pl)]) B F X N T rfl rfl hk (by k_is) (by k_is) (by ktr_room) (BindsTo.of_eq rfl) (locs rfl) ?_ rfl rfl rfl (by decide)
  intro g' L' h' FG' F' N' B' X' T'
  rw [lk2] at F'
  k_fold
  k_steps
  rename _ ∧ AllLt _ _ => hA
  exact ret _ _ _ _ (by assumption) (news_sub (by assumption) (sub_skip _ (fun _ h => h))) (lt_of_all hA.2)
end Parse
end Mine
namespace Mine
theorem fillEll : (hd.heap_39 = hd.heap_39 ∧ Challenge.rw_pg0071_01 = Challenge.rw_pg0071_01) := by
  k_fill
  trivial
section Ell
variable {prog : Program} {w : World} {A : Around} {E : Value → Shared → Prop} {s : Shared}
theorem split3_eq {x y p0 p1 p2 : Str} {t u : Tok} {h₀ : Heap} {L : Addr} {m : Str → Option Value} {news : List (Addr × Obj)} {Q : Value → Shared → Prop} (e : Txt.split x y = [p0, p1, p2]) (hl : x.length ≤ 200) (hy : (y.length == 0) = false)
    (hF : Fr h₀ L s.heap m) (hN : News h₀ L s.heap news)
    (h : ∀ a t0 t1 t2 h' k, Fr h₀ L h' m → News h₀ L h' ((a, listOf [Value.str p0 t0, .str p1 t1, .str p2 t2].toArray 0) :: news) → (∀ p ∈ news, p.1 < a) → Q (.ref a) { s with heap := h', toks := k }) :
    wpAny (model prog w) A (call (.builtin "str.split") [.str x t, .str y u]) Q E s := by
  refine splitN1 hF hN hy (fun l h' k hl' F' N' => ?_) (by rw [sizeLine_eq]; omega)
  rw [e] at hl'
  match l, hl' with
  | [(q0, t0), (q1, t1), (q2, t2)], hl' =>
    simp only [List.map_cons, List.map_nil, List.cons.injEq, and_true] at hl'
    obtain ⟨rfl, rfl, rfl⟩ := hl'
    exact h _ t0 t1 t2 h' k F' N' fun p hp => Heap.lt_size (hN p hp).1
theorem ite_bt {b : Bool} {P R : Prop} (h : b = true) (hp : P) : if b = true then P else R := by rw [if_pos h]; exact hp
theorem ite_bf {b : Bool} {P R : Prop} (h : b = false) (hp : R) : if b = true then P else R := by rw [if_neg (by rw [h]; decide)]; exact hp
theorem truthy_pos {x : Str} {t : Tok} {Q : Bool → Shared → Prop} (hx : 0 < x.length) (hl : x.length ≤ 200) (h : Q true { s with toks := s.toks + 1 + 1 }) : wpAny (model prog w) A (truthy (.str x t)) Q E s := by
  refine SBL.truthy (by omega) ?_
  have : ((x.length : Int) != 0) = true := by simp; omega
  rw [this]; exact h
open Builtin Builtin.Str in
theorem gives_find4 (x y : Str) (i j : Int) (t u v z : Tok) : Gives («str.find» ⟨[.str x t, .str y u, .int i v, .int j z], []⟩) (.int (match occurrences x y (fromIndex x.length i) (min (fromIndex x.length j) x.length) 1 with | k :: _ => (k : Int) | [] => -1)) := by
  show Gives (match occurrences x y (fromIndex x.length i) (min (fromIndex x.length j) x.length) 1 with | k :: _ => retInt k | [] => (do rule "str.find.not-found"; retInt (-1))) _
  cases occurrences x y (fromIndex x.length i) (min (fromIndex x.length j) x.length) 1 with
  | nil => exact .rule (.of_eq rfl)
  | cons k _ => exact .of_eq rfl
theorem find4_eq {x y : Str} {t u v z : Tok} {i j : Int} {k : Nat} {rest : List Nat} {lo hi : Nat} {Q : Value → Shared → Prop} (e : Builtin.Str.occurrences x y lo hi 1 = k :: rest) (hi0 : i = (lo : Int)) (hj : j = (hi : Int)) (hhi : hi ≤ x.length)
    (hq : Q (.int (k : Int) s.toks) { s with toks := s.toks + 1 }) :
    wpAny (model prog w) A (call (.builtin "str.find") [.str x t, .str y u, .int i v, .int j z]) Q E s := by
  have e1 : fromIndex x.length i = lo := by unfold fromIndex; split <;> omega
  have e2 : min (fromIndex x.length j) x.length = hi := by unfold fromIndex; split <;> omega
  have h := gives_find4 x y i j t u v z
  rw [e1, e2, e] at h
  exact call_gives PySem.F.slot_str_find (typeIs_str _ _ _) PySem.F.entry_str_find (PySem.F.args_str_find_4 _ _ _ _) h hq
local macro_rules | `(tactic| k_mem) => `(tactic| first | assumption | exact List.mem_cons_self | (refine List.mem_cons_of_mem _ ?_; k_mem))
local macro_rules | `(tactic| walk_at "ite") => `(tactic| first | refine ite_bt (by assumption) ?_ | refine ite_bf (by assumption) ?_)
local macro_rules | `(tactic| walk_at "truthy str") => `(tactic| (refine truthy_pos (by first | assumption | decide) (by first | decide | omega) ?_))
local macro_rules | `(tactic| walk_at "call builtin:str.split") => `(tactic| (refine split3_eq (by assumption) (by assumption) (by decide) (by assumption) (by assumption) ?_; intro a' t0' t1' t2' h' k' F' N' l1))
theorem ell_ok {p : Program} {loose : List Str} {mean : ExcName → Option Value} {mg mb : Str → Option Value}
    (want got w2 : Str) (b : Bool) (t0 t1 : Tok) (news : List (Addr × Obj)) (hlw : want.length ≤ 200) (hlg : got.length ≤ 200)
    (e1 : (Builtin.Str.occurrences want (Str.ofString "...") 0 want.length 1).isEmpty = false)
    (e2 : Txt.split want (Str.ofString "...") = [Str.ofString "229 ", Str.ofString " (", w2]) (hw2 : 0 < w2.length) (hw2l : w2.length ≤ 100)
    (e3 : Txt.startswith got (Str.ofString "229 ") = true) (e4 : Txt.endswith got w2 = b) (e5 : b = true → 4 + w2.length ≤ got.length)
    (e6 : b = true → ∃ k rest, Builtin.Str.occurrences got (Str.ofString " (") 4 (got.length - w2.length) 1 = k :: rest)
    (dp un : Nat) (gd : Option (List Code)) (cn : Str) (cs : Scope) (a : Addr) (ccd : Value) (cl : List (Str × Addr)) (outer : List Env) (A₀ : Around) (base h₀ : Heap) (L : Addr) (m : Str → Option Value) (s : Shared) (Q E : Value → Shared → Prop)
    (B : Below A₀ base outer h₀) (F : Fr h₀ L s.heap m) (X : (hd.heap_39 w.params).In h₀) (N : News h₀ L s.heap news) (T : Top p loose mean mg mb h₀) (hk : cs.kind = .function)
    (hd : dp + 1 < recursionLimit) (hu : un + 8 < cLine)
    (ret : ∀ (h' : Heap) (tk' : Nat), Fr h₀ L h' m → News h₀ L h' news → Q (.bool b) { s with heap := h', toks := tk' }) :
    wpAny (model prog w) (ktrTop dp un gd cn cs L a ccd cl outer) (call (.ref 65) [.str want t0, .str got t1]) Q E s := by
  refine wpAny_call ?_
  refine code_def (binds := [(Str.ofString "want", .str want t0), (Str.ofString "got", .str got t1)]) B F X N T rfl rfl hk (by k_is) (by k_is) (by ktr_room) (BindsTo.of_eq rfl) (locs rfl) ?_ rfl rfl rfl (by decide)
  intro g' L' h' FG' F' N' B' X' T'
  rw [lk2] at F'
  k_fold
  k_steps
  · have hb : b = true := by rw [← e4]; assumption
    have := e5 hb
    omega
  · have hb : b = true := by rw [← e4]; assumption
    obtain ⟨k, rest, e7⟩ := e6 hb
    rename Fr _ _ _ _ => FF
    rename News _ _ _ _ => NN
    refine For_invVF FF rfl rfl ?_
    refine ld FF rfl ?_
    refine' loop_one ?k0 FF NN ?k1 ?_ ?_
    case k0 => rfl
    case k1 => k_mem
    · intro h tk I oI hI F₁ N₁
      k_fold
      k_steps
      refine find4_eq e7 (by omega) (by omega) (by omega) ?_
      k_steps
      refine TurnEnd.intro (by assumption) (by assumption) hI rfl
    · intro m₁ h tk F₁ N₁
      k_steps
      rw [hb] at ret
      exact ret _ _ (by assumption) (news_sub (by assumption) (fun p hp => List.mem_cons_of_mem _ (List.mem_cons_of_mem _ hp)))
  · have hb : b = false := by rw [← e4]; assumption
    subst hb
    exact ret _ _ (by assumption) (news_sub (by assumption) (fun p hp => List.mem_cons_of_mem _ (List.mem_cons_of_mem _ hp)))
end Ell
end Mine
namespace Mine
theorem fillVal : (hd.heap_39 = hd.heap_39 ∧ Challenge.rw_pg0071_01 = Challenge.rw_pg0071_01) := by
  k_fill
  trivial
section Val
variable {prog : Program} {w : World} {A : Around} {E : Value → Shared → Prop} {s : Shared}
theorem list_item {value slice : PySem.Expr} {t : Addr} {l : List Value} {n : Nat} {k : Int} {u : Tok} {x : Value} {h₀ : Heap} {L : Addr} {news : List (Addr × Obj)} {Q : Value → Shared → Prop} (N : News h₀ L s.heap news) (hm : (t, listOf l.toArray n) ∈ news)
    (h0 : 0 ≤ k) (h1 : k < 100) (hx : l[k.toNat]? = some x) (h : Q x s)
    (hs : subscripted slice false (.ref t) (.int k u) = operate [.ref t, .int k u] (getItem (.ref t) (.int k u)) := by with_unfolding_all rfl) :
    wpAny (model prog w) A (subscriptTail value slice (.ref t) (.int k u)) Q E s := by
  have hl : s.heap.IsList t l.toArray := ⟨_, (N _ hm).1, rfl, n, rfl⟩
  exact tail_any hl.typeIs slot_list_getitem.lookup (wpAny_getItem_list hl h0 (by omega) (by simpa using hx) h) hs
local macro_rules | `(tactic| k_mem) => `(tactic| first | assumption | exact List.mem_cons_self | (refine List.mem_cons_of_mem _ ?_; k_mem))
local macro_rules | `(tactic| walk_at "subscriptTail Name Constant ref int") => `(tactic| (refine' list_item ?k1 ?k2 ?k3 ?k4 ?k5 ?_; (case k1 => assumption); (case k2 => k_mem); (case k3 => decide); (case k4 => decide); (case k5 => rfl)))
abbrev fval (n0 n1 n2 port : Int) : Int := port ^ (2 + n0 % 2).toNat + n1 % 1000 * port + n2 % 1000
theorem value_ok {p : Program} {loose : List Str} {mean : ExcName → Option Value} {mg mb : Str → Option Value}
    (n0 n1 n2 port : Int) (t0 t1 t2 t3 : Tok) (nl : Addr) (ne : Nat) (news : List (Addr × Obj)) (hm : (nl, listOf [.int n0 t0, .int n1 t1, .int n2 t2].toArray ne) ∈ news)
    (hp0 : 0 ≤ port) (hp1 : port < 10000)
    (dp un : Nat) (gd : Option (List Code)) (cn : Str) (cs : Scope) (a : Addr) (ccd : Value) (cl : List (Str × Addr)) (outer : List Env) (A₀ : Around) (base h₀ : Heap) (L : Addr) (m : Str → Option Value) (s : Shared) (Q E : Value → Shared → Prop)
    (B : Below A₀ base outer h₀) (F : Fr h₀ L s.heap m) (X : (hd.heap_39 w.params).In h₀) (N : News h₀ L s.heap news) (T : Top p loose mean mg mb h₀) (hk : cs.kind = .function)
    (hd : dp + 1 < recursionLimit) (hu : un + 8 < cLine)
    (ret : ∀ (t : Tok) (h' : Heap) (tk' : Nat), Fr h₀ L h' m → News h₀ L h' news → Q (.int (fval n0 n1 n2 port) t) { s with heap := h', toks := tk' }) :
    wpAny (model prog w) (ktrTop dp un gd cn cs L a ccd cl outer) (call (.ref 72) [.ref nl, .int port t3]) Q E s := by
  have hf0 := fmod_lo n0 (n := 2) (by decide)
  have hf1 := fmod_hi n0 (n := 2) (by decide)
  refine wpAny_call ?_
  refine code_def (binds := [(Str.ofString "numbers", .ref nl), (Str.ofString "port", .int port t3)]) B F X N T rfl rfl hk (by k_is) (by k_is) (by ktr_room) (BindsTo.of_eq rfl) (locs rfl) ?_ rfl rfl rfl (by decide)
  intro g' L' h' FG' F' N' B' X' T'
  rw [lk2] at F'
  k_fold
  k_steps
  have e0 : n0.fmod 2 = n0 % 2 := Int.fmod_eq_emod_of_nonneg _ (by decide)
  have e1 : n1.fmod 1000 = n1 % 1000 := Int.fmod_eq_emod_of_nonneg _ (by decide)
  have e2 : n2.fmod 1000 = n2 % 1000 := Int.fmod_eq_emod_of_nonneg _ (by decide)
  rw [e0, e1, e2]
  exact ret _ _ _ (by assumption) (by assumption)
end Val
end Mine
open NumText
namespace Mine
section CallRules
def dsOf (m : Nat) : List Nat := (Nat.toDigits 10 m).map Char.toNat
theorem text_of_int (m : Nat) : Str.ofString (toString ((m : Nat) : Int)) = st (dsOf m) := (st_of _).trans (by rw [KIN.signs_num]; rfl)
theorem ds_val (m : Nat) : digitsVal (dsOf m) = m := KIN.val_back m
theorem ds_digits (m : Nat) : AllDigits (dsOf m) := by
  intro c hc
  obtain ⟨ch, hch, e⟩ := List.mem_map.mp hc
  have r := digit_range (Nat.isDigit_of_mem_toDigits (by decide) (by decide) hch)
  rw [← e]
  exact r
theorem toDigits_len (k : Nat) : ∀ m : Nat, m < 10 ^ (k + 1) → (Nat.toDigits 10 m).length ≤ k + 1 := by
  induction k with
  | zero => intro m h; rw [Nat.toDigits_of_lt_base (by omega)]; simp
  | succ k ih =>
    intro m h
    by_cases hm : m < 10
    · rw [Nat.toDigits_of_lt_base hm]; simp
    · have h2 : m % 10 < 10 := Nat.mod_lt m (by decide)
      have t : Nat.toDigits 10 (m / 10) ++ Nat.toDigits 10 (m % 10) = Nat.toDigits 10 (10 * (m / 10) + m % 10) := Nat.toDigits_append_toDigits (by decide) (by omega) h2
      rw [Nat.div_add_mod] at t
      rw [← t, List.length_append, Nat.toDigits_of_lt_base h2]
      have := ih (m / 10) (by rw [Nat.pow_succ] at h; omega)
      simp
      omega
theorem ds_len {m : Nat} (h : m < 10 ^ 20) : (dsOf m).length ≤ 20 := by
  have := toDigits_len 19 m h
  unfold dsOf
  rw [List.length_map]
  exact this
variable {prog : Program} {w : World} {p : Program} {loose : List Str} {mean : ExcName → Option Value} {mg mb : Str → Option Value} {dp un : Nat} {gd : Option (List Code)} {cn : Str} {cs : Scope} {a : Addr} {ccd : Value} {cl : List (Str × Addr)} {outer : List Env} {A₀ : Around} {base h₀ : Heap} {L : Addr} {m : Str → Option Value} {s : Shared} {Q E : Value → Shared → Prop} {news : List (Addr × Obj)}
theorem parse_want {t : List Nat} {host : Str} {t0 t1 t2 : Tok} {pl : Addr} {pn : Nat} (ht : AllDigits t) (hne : t ≠ []) (hl : t.length ≤ 4)
    (hm : (pl, tupleOf [.str host t1, .int 21 t2] pn) ∈ news)
    (B : Below A₀ base outer h₀) (F : Fr h₀ L s.heap m) (X : (hd.heap_39 w.params).In h₀) (N : News h₀ L s.heap news) (T : Top p loose mean mg mb h₀) (hk : cs.kind = .function)
    (hd : dp + 1 < recursionLimit) (hu : un + 8 < cLine)
    (ret : ∀ (D : Addr) (t' : Tok) (h' : Heap) (tk' : Nat), Fr h₀ L h' m → News h₀ L h' ((D, tupleOf [.str host t1, .int ((digitsVal t : Nat) : Int) t'] 0) :: news) → (∀ p ∈ news, p.1 < D) → Q (.ref D) { s with heap := h', toks := tk' }) :
    wpAny (model prog w) (ktrTop dp un gd cn cs L a ccd cl outer) (call (.ref 58) [.str (st (wantL t)) t0, .ref pl]) Q E s := by
  have hlen := want_len (t := t)
  have hml : (st ([46, 46, 46] ++ (t ++ [46]))).length ≤ 200 := by rw [st_length]; simp; omega
  have htl : (st t).length ≤ 200 := by rw [st_length]; omega
  exact parse_ok (st (wantL t)) host _ _ _ _ _ _ 8 (13 + (t.length : Int)) ((digitsVal t : Nat) : Int) t0 t1 t2 pl pn news (by omega) hm want_1 want_2 (want_3 ht) (by omega) (by omega) (by omega) want_4 want_5 want_6 hml (want_7 ht) (text_int ht hne (by omega)) htl dp un gd cn cs a ccd cl outer A₀ base h₀ L m s Q E B F X N T hk hd hu ret
theorem parse_got {wd t ds : List Nat} {host : Str} {t0 t1 t2 : Tok} {pl : Addr} {pn : Nat} (ht : AllDigits t) (hds : AllDigits ds) (hwd : 40 ∉ wd) (hl : t.length ≤ 4) (hwl : wd.length ≤ 20) (hdl : ds.length ≤ 20)
    (hm : (pl, tupleOf [.str host t1, .int 21 t2] pn) ∈ news)
    (B : Below A₀ base outer h₀) (F : Fr h₀ L s.heap m) (X : (hd.heap_39 w.params).In h₀) (N : News h₀ L s.heap news) (T : Top p loose mean mg mb h₀) (hk : cs.kind = .function)
    (hd : dp + 1 < recursionLimit) (hu : un + 8 < cLine)
    (ret : ∀ (D : Addr) (t' : Tok) (h' : Heap) (tk' : Nat), Fr h₀ L h' m → News h₀ L h' ((D, tupleOf [.str host t1, .int ((digitsVal ds : Nat) : Int) t'] 0) :: news) → (∀ p ∈ news, p.1 < D) → Q (.ref D) { s with heap := h', toks := tk' }) :
    wpAny (model prog w) (ktrTop dp un gd cn cs L a ccd cl outer) (call (.ref 58) [.str (st (gotL wd t ds)) t0, .ref pl]) Q E s := by
  have hlen := got_len (wd := wd) (t := t) (ds := ds)
  have hml : (st (midL t ds)).length ≤ 200 := by rw [mid_len]; omega
  have htl : (st ([48, 48, 48, 48] ++ ds)).length ≤ 200 := by rw [st_length]; simp; omega
  exact parse_ok (st (gotL wd t ds)) host _ _ _ _ _ _ (5 + (wd.length : Int)) (15 + (wd.length : Int) + t.length + ds.length) ((digitsVal ds : Nat) : Int) t0 t1 t2 pl pn news (by omega) hm got_1 (got_2 hwd) (got_3 ht hds) (by omega) (by omega) (by omega) got_4 got_5 got_6 hml (got_7 ht hds) (got_8 hds (by omega)) htl dp un gd cn cs a ccd cl outer A₀ base h₀ L m s Q E B F X N T hk hd hu ret
theorem ell_call {wd t ds : List Nat} {t0 t1 : Tok} (ht : AllDigits t) (hne : t ≠ []) (hds : AllDigits ds) (hl : t.length ≤ 4) (hwl : wd.length ≤ 20) (hdl : ds.length ≤ 20)
    (B : Below A₀ base outer h₀) (F : Fr h₀ L s.heap m) (X : (hd.heap_39 w.params).In h₀) (N : News h₀ L s.heap news) (T : Top p loose mean mg mb h₀) (hk : cs.kind = .function)
    (hd : dp + 1 < recursionLimit) (hu : un + 8 < cLine)
    (ret : ∀ (h' : Heap) (tk' : Nat), Fr h₀ L h' m → News h₀ L h' news → Q (.bool (decide (digitsVal ds % 10 ^ t.length = digitsVal t))) { s with heap := h', toks := tk' }) :
    wpAny (model prog w) (ktrTop dp un gd cn cs L a ccd cl outer) (call (.ref 65) [.str (st (wantL t)) t0, .str (st (gotL wd t ds)) t1]) Q E s := by
  have hlen := want_len (t := t)
  have hlen2 := got_len (wd := wd) (t := t) (ds := ds)
  have hyl : (st (t ++ [46, 41])).length = t.length + 2 := by rw [st_length]; simp
  exact ell_ok (st (wantL t)) (st (gotL wd t ds)) (st (t ++ [46, 41])) _ t0 t1 news (by omega) (by omega) want_has (want_split ht) (by omega) (by omega) got_starts (got_ends ht hds hl) (fun _ => by omega) (fun _ => got_finds) dp un gd cn cs a ccd cl outer A₀ base h₀ L m s Q E B F X N T hk hd hu ret
end CallRules
end Mine
namespace Mine
section Plain
/-- the figures -/
abbrev figs : List Nat := [48, 49, 50, 51, 52, 53, 54, 55, 56, 57]
variable (n0 n1 n2 : Int)
/-- f of the port that the figures tell -/
def valN (t : List Nat) : Nat := (fval n0 n1 n2 ((digitsVal t : Nat) : Int)).toNat
def tkn (t : List Nat) : Bool := decide (valN n0 n1 n2 t % 10 ^ t.length = digitsVal t)
def growN (e : List Nat) (i : Nat) : List (List Nat) := ((figs.take i).map (· :: e)).filter (tkn n0 n1 n2)
def growE (e : List Nat) : List (List Nat) := (figs.map (· :: e)).filter (tkn n0 n1 n2)
def grow (es : List (List Nat)) : List (List Nat) := es.flatMap (growE n0 n1 n2)
def lvl : Nat → List (List Nat)
  | 0 => [[]]
  | k + 1 => grow n0 n1 n2 (lvl k)
def asked : Nat → Nat
  | 0 => 0
  | k + 1 => asked k + 10 * (lvl n0 n1 n2 k).length
def portI (t : List Nat) : Int := ((digitsVal t : Nat) : Int)
def ports (k : Nat) : List Int := (lvl n0 n1 n2 k).map portI
def srt (l : List Int) : List Int := l.mergeSort (fun a b => decide (a ≤ b))
theorem srt_perm (l : List Int) : (srt l).Perm l := List.mergeSort_perm _ _
theorem srt_sorted (l : List Int) : (srt l).Pairwise (· ≤ ·) := by
  have h := List.pairwise_mergeSort (le := fun a b : Int => decide (a ≤ b)) (fun a b c h1 h2 => by simp at *; omega) (fun a b => by simp; omega) l
  exact h.imp (by simp)
theorem srt_eq {l l' : List Int} (hp : l'.Perm l) (ho : l'.Pairwise (· ≤ ·)) : l' = srt l := ksm_same (hp.trans (srt_perm l).symm) ho (srt_sorted l)
theorem srt_congr {l l' : List Int} (hp : l'.Perm l) : srt l' = srt l := srt_eq ((srt_perm l').trans hp) (srt_sorted l')
theorem growN_zero (e : List Nat) : growN n0 n1 n2 e 0 = [] := rfl
theorem growN_all (e : List Nat) : growN n0 n1 n2 e 10 = growE n0 n1 n2 e := rfl
theorem growN_succ {e : List Nat} {i c : Nat} (h : figs[i]? = some c) : growN n0 n1 n2 e (i + 1) = growN n0 n1 n2 e i ++ (if tkn n0 n1 n2 (c :: e) then [c :: e] else []) := by
  unfold growN
  rw [List.take_add_one, h]
  simp only [Option.toList_some, List.map_append, List.map_cons, List.map_nil, List.filter_append, List.filter_cons, List.filter_nil]
theorem grow_take_succ {es : List (List Nat)} {e : List Nat} {j : Nat} (h : es[j]? = some e) : grow n0 n1 n2 (es.take (j + 1)) = grow n0 n1 n2 (es.take j) ++ growE n0 n1 n2 e := by
  unfold grow
  rw [List.take_add_one, h]
  simp
theorem growE_mem {e t : List Nat} (h : t ∈ growE n0 n1 n2 e) : ∃ c, c ∈ figs ∧ t = c :: e := by
  unfold growE at h
  obtain ⟨h1, _⟩ := List.mem_filter.mp h
  obtain ⟨c, hc, rfl⟩ := List.mem_map.mp h1
  exact ⟨c, hc, rfl⟩
theorem fig_digit {c : Nat} (h : c ∈ figs) : 48 ≤ c ∧ c ≤ 57 := by
  simp [figs] at h
  omega
theorem lvl_ok : ∀ k t, t ∈ lvl n0 n1 n2 k → AllDigits t ∧ t.length = k
  | 0, t, h => by
    have : t = [] := by simpa [lvl] using h
    subst this
    exact ⟨fun c hc => by simp at hc, rfl⟩
  | k + 1, t, h => by
    obtain ⟨e, he, ht⟩ := List.mem_flatMap.mp h
    obtain ⟨c, hc, rfl⟩ := growE_mem n0 n1 n2 ht
    obtain ⟨h1, h2⟩ := lvl_ok k e he
    refine ⟨fun d hd => ?_, by simp [h2]⟩
    rcases List.mem_cons.mp hd with rfl | hd
    · exact fig_digit hc
    · exact h1 d hd
theorem growE_len (e : List Nat) : (growE n0 n1 n2 e).length ≤ 10 := by
  unfold growE
  refine Nat.le_trans (List.length_filter_le _ _) ?_
  simp
theorem grow_len (es : List (List Nat)) : (grow n0 n1 n2 es).length ≤ 10 * es.length := by
  unfold grow
  induction es with
  | nil => simp
  | cons e es ih =>
    rw [List.flatMap_cons, List.length_append, List.length_cons]
    have := growE_len n0 n1 n2 e
    omega
theorem grow_take_len (es : List (List Nat)) (j : Nat) : (grow n0 n1 n2 (es.take j)).length ≤ 10 * es.length := by
  have h1 := grow_len n0 n1 n2 (es.take j)
  have h2 := List.length_take_le' j es
  omega
theorem growN_len (e : List Nat) (i : Nat) : (growN n0 n1 n2 e i).length ≤ 10 := by
  unfold growN
  refine Nat.le_trans (List.length_filter_le _ _) ?_
  rw [List.length_map]
  exact List.length_take_le' _ _
theorem lvl_len : ∀ k, (lvl n0 n1 n2 k).length ≤ 10 ^ k
  | 0 => by simp [lvl]
  | k + 1 => by
    have h1 := lvl_len k
    have h2 : (lvl n0 n1 n2 (k + 1)).length ≤ 10 * (lvl n0 n1 n2 k).length := grow_len n0 n1 n2 _
    rw [Nat.pow_succ]
    omega
theorem lvl_small {k : Nat} (h : k < 4) : (lvl n0 n1 n2 k).length ≤ 1000 := by
  have h1 := lvl_len n0 n1 n2 k
  have h2 : 10 ^ k ≤ 10 ^ 3 := Nat.pow_le_pow_right (by decide) (by omega)
  omega
theorem ports_len (k : Nat) : (ports n0 n1 n2 k).length = (lvl n0 n1 n2 k).length := by simp [ports]
theorem asked_mono : ∀ {i j : Nat}, i ≤ j → asked n0 n1 n2 i ≤ asked n0 n1 n2 j := by
  intro i j h
  induction j with
  | zero => have : i = 0 := by omega
            subst this; exact Nat.le_refl _
  | succ j ih =>
    by_cases e : i = j + 1
    · subst e; exact Nat.le_refl _
    · have := ih (by omega)
      have h2 : asked n0 n1 n2 (j + 1) = asked n0 n1 n2 j + 10 * (lvl n0 n1 n2 j).length := rfl
      omega
theorem ports_small {i : Nat} (h : asked n0 n1 n2 i ≤ 70) : ∀ k < i, (ports n0 n1 n2 (k + 1)).length ≤ 60 := by
  intro k hk
  rw [ports_len]
  have h1 : (lvl n0 n1 n2 (k + 1)).length ≤ 10 * (lvl n0 n1 n2 k).length := grow_len n0 n1 n2 _
  cases k with
  | zero => have : (lvl n0 n1 n2 0).length = 1 := rfl
            omega
  | succ k =>
    have h2 := asked_mono n0 n1 n2 (i := k + 1 + 1) (j := i) (by omega)
    have h3 : asked n0 n1 n2 (k + 1 + 1) = asked n0 n1 n2 (k + 1) + 10 * (lvl n0 n1 n2 (k + 1)).length := rfl
    have h4 := asked_mono n0 n1 n2 (i := 1) (j := k + 1) (by omega)
    have h5 : asked n0 n1 n2 1 = 10 := rfl
    omega
/-- the value is a small number -/
theorem fval_nonneg {x : Int} (h : 0 ≤ x) : 0 ≤ fval n0 n1 n2 x := by
  have h1 : 0 ≤ x ^ (2 + n0 % 2).toNat := Int.pow_nonneg h
  have h2 : 0 ≤ n1 % 1000 * x := Int.mul_nonneg (Int.emod_nonneg _ (by decide)) h
  have h3 : 0 ≤ n2 % 1000 := Int.emod_nonneg _ (by decide)
  unfold fval
  omega
theorem fval_lt {x : Int} (h0 : 0 ≤ x) (h : x < 10000) : fval n0 n1 n2 x < 10 ^ 20 := by
  have hn : n0 % 2 = 0 ∨ n0 % 2 = 1 := by omega
  have h2 : n1 % 1000 * x ≤ 999 * 10000 := Int.mul_le_mul (by omega) (by omega) h0 (by decide)
  have hx2 : x * x ≤ 10000 * 10000 := Int.mul_le_mul (by omega) (by omega) h0 (by decide)
  have hx20 : 0 ≤ x * x := Int.mul_nonneg h0 h0
  have hx3 : x * x * x ≤ 10000 * 10000 * 10000 := Int.mul_le_mul hx2 (by omega) h0 (by decide)
  have hp : x ^ (2 + n0 % 2).toNat ≤ 10000 * 10000 * 10000 := by
    rcases hn with e | e
    · rw [e]
      show x ^ 2 ≤ _
      have : x ^ 2 = x * x := by simp [Int.pow_succ]
      rw [this]; omega
    · rw [e]
      show x ^ 3 ≤ _
      have : x ^ 3 = x * x * x := by simp [Int.pow_succ]
      rw [this]; omega
  unfold fval
  omega
theorem valN_cast {t : List Nat} : ((valN n0 n1 n2 t : Nat) : Int) = fval n0 n1 n2 (portI t) := Int.toNat_of_nonneg (fval_nonneg n0 n1 n2 (by omega))
theorem valN_lt {t : List Nat} (ht : AllDigits t) (hl : t.length ≤ 4) : valN n0 n1 n2 t < 10 ^ 20 := by
  have h1 := dv_lt ht
  have h2 : 10 ^ t.length ≤ 10 ^ 4 := Nat.pow_le_pow_right (by decide) hl
  have h3 := fval_lt n0 n1 n2 (x := portI t) (by unfold portI; omega) (by unfold portI; omega)
  have h4 := valN_cast n0 n1 n2 (t := t)
  omega
/-- the rows as data -/
def rowD (l : List Int) : Dat := Dat.list (l.map Dat.int)
def rowsD (c : Nat) : List Dat := (List.range c).map fun k => rowD (srt (ports n0 n1 n2 (k + 1)))
theorem rowsD_succ (c : Nat) : rowsD n0 n1 n2 (c + 1) = rowsD n0 n1 n2 c ++ [rowD (srt (ports n0 n1 n2 (c + 1)))] := by
  unfold rowsD
  rw [List.range_succ]
  simp
end Plain
section Vals
theorem ints_dat {news : List (Addr × Obj)} : ∀ {vs : List Value} {ns : List Int}, IntsAre vs ns → DatAll news vs (ns.map Dat.int)
  | _, _, .nil => .nil
  | _, _, .cons n t h => .cons (.int n t) (ints_dat h)
theorem row_dat {news : List (Addr × Obj)} {a : Addr} {vs : List Value} {ns : List Int} {n : Nat} (hm : (a, listOf vs.toArray n) ∈ news) (h : IntsAre vs ns) : DatIn news (.ref a) (rowD ns) := .list hm (ints_dat h)
theorem strs_len {vs : List Value} {xs : List Str} (h : StrsAre vs xs) : vs.length = xs.length := by
  induction h with
  | nil => rfl
  | cons y t _ ih => simp [ih]
theorem strs_get {vs : List Value} {xs : List Str} {i : Nat} {v : Value} (h : StrsAre vs xs) (hv : vs[i]? = some v) : ∃ x t, xs[i]? = some x ∧ v = .str x t := by
  induction h generalizing i with
  | nil => simp at hv
  | cons y t _ ih =>
    cases i with
    | zero => simp at hv; exact ⟨y, t, rfl, hv.symm⟩
    | succ i => exact ih (by simpa using hv)
theorem strs_snoc {vs : List Value} {xs : List Str} (h : StrsAre vs xs) (x : Str) (t : Tok) : StrsAre (vs ++ [.str x t]) (xs ++ [x]) := KStt.strs_snoc h
theorem ints_snoc {vs : List Value} {xs : List Int} (h : IntsAre vs xs) (x : Int) (t : Tok) : IntsAre (vs ++ [.int x t]) (xs ++ [x]) := by
  induction h with
  | nil => exact .cons _ _ .nil
  | cons n u _ ih => exact .cons n u ih
theorem fr_pin {h₀ h : Heap} {L : Addr} {m : Str → Option Value} {x : Str} {v : Value} (F : Fr h₀ L h m) (e : m x = some v) : Fr h₀ L h (fun y => if y = x then some v else m y) := by
  have : (fun y => if y = x then some v else m y) = m := by
    funext y
    by_cases hy : y = x
    · rw [if_pos hy, hy, e]
    · rw [if_neg hy]
  rw [this]; exact F
end Vals
end Mine
namespace Mine
def StopP (P : Prop) : Prop := P
theorem stopHere {P : Prop} (h : StopP P) : P := h
theorem StopP.go {P : Prop} (h : P) : StopP P := h
section Rows
variable (n0 n1 n2 : Int)
/-- between two sizes -/
structure J1 (nl : Addr) (news : List (Addr × Obj)) (rl : Addr) (i : Nat) (m : Str → Option Value) (nx : List (Addr × Obj)) : Prop where
  ex : ∃ el ev ee rv re robjs ta, nx = (rl, listOf rv.toArray re) :: (el, listOf ev.toArray ee) :: (robjs ++ news) ∧ (∀ p ∈ (el, listOf ev.toArray ee) :: (robjs ++ news), p.1 ≠ rl) ∧
    m (Str.ofString "numbers") = some (.ref nl) ∧ m (Str.ofString "rows") = some (.ref rl) ∧ m (Str.ofString "ends") = some (.ref el) ∧ m (Str.ofString "asked") = some (.int (asked n0 n1 n2 i : Nat) ta) ∧
    StrsAre ev ((lvl n0 n1 n2 i).map st) ∧ DatAll robjs rv (rowsD n0 n1 n2 i)
  le : asked n0 n1 n2 i ≤ 70
/-- between two ends -/
def J2 (es : List (List Nat)) (nl rl gl pl : Addr) (av : Value) (rest : List (Addr × Obj)) (j : Nat) (m : Str → Option Value) (nx : List (Addr × Obj)) : Prop :=
  ∃ gv ge pv pe, nx = (gl, listOf gv.toArray ge) :: (pl, listOf pv.toArray pe) :: rest ∧ m (Str.ofString "numbers") = some (.ref nl) ∧ m (Str.ofString "rows") = some (.ref rl) ∧ m (Str.ofString "asked") = some av ∧
    m (Str.ofString "grown") = some (.ref gl) ∧ m (Str.ofString "ports") = some (.ref pl) ∧ StrsAre gv ((grow n0 n1 n2 (es.take j)).map st) ∧ IntsAre pv ((grow n0 n1 n2 (es.take j)).map portI)
/-- between two figures -/
def J3 (pre : List (List Nat)) (e : List Nat) (te : Tok) (nl rl gl pl : Addr) (av : Value) (rest : List (Addr × Obj)) (i : Nat) (m : Str → Option Value) (nx : List (Addr × Obj)) : Prop :=
  ∃ gv ge pv pe, nx = (gl, listOf gv.toArray ge) :: (pl, listOf pv.toArray pe) :: rest ∧ m (Str.ofString "numbers") = some (.ref nl) ∧ m (Str.ofString "rows") = some (.ref rl) ∧ m (Str.ofString "asked") = some av ∧
    m (Str.ofString "grown") = some (.ref gl) ∧ m (Str.ofString "ports") = some (.ref pl) ∧ m (Str.ofString "end") = some (.str (st e) te) ∧
    StrsAre gv ((pre ++ growN n0 n1 n2 e i).map st) ∧ IntsAre pv ((pre ++ growN n0 n1 n2 e i).map portI)
section Loops
variable {prog : Program} {w : World} {A : Around} {E : Value → Shared → Prop} {s : Shared} {env : Env} {h₀ : Heap} {body : List Stmt} {Q : Flow → Shared → Prop} {news : List (Addr × Obj)} {nl L : Addr}
theorem loop1 {rl el D r : Addr} {oD : Obj} {te ta t₀ u₀ v₀ : Tok} (hL : env.locals = L) (hh : A.handled = none) (hr : IsRange s.heap r 0 4 1 t₀ u₀ v₀)
    (F : Fr h₀ L s.heap (fun y => if y = Str.ofString "rows" then some (.ref rl) else if y = Str.ofString "ends" then some (.ref el) else if y = Str.ofString "asked" then some (.int 0 ta) else if y = Str.ofString "numbers" then some (.ref nl) else none))
    (N : News h₀ L s.heap ((D, oD) :: (el, listOf #[.str (Str.ofString "") te] 0) :: (rl, listOf #[] 0) :: news)) (l1 : rl < el ∧ AllLt el news) (l2 : ∀ p ∈ news, p.1 < rl)
    (turn : ∀ rl i t m₁ nx h tk I oI, i < 4 → (∀ p ∈ nx, p.1 ≠ I) → J1 n0 n1 n2 nl news rl i m₁ nx → Fr h₀ L h (fun y => if y = Str.ofString "size" then some (.int (0 + (i : Int)) t) else m₁ y) → News h₀ L h ((I, oI) :: nx) →
      wpAny (model prog w) A (execs body env) (TurnPost h₀ L (J1 n0 n1 n2 nl news rl (i + 1)) I oI s Q) E { s with heap := h, toks := tk })
    (done : ∀ rl m₁ nx h tk, J1 n0 n1 n2 nl news rl 4 m₁ nx → Fr h₀ L h m₁ → News h₀ L h nx → Q .next { s with heap := h, toks := tk }) :
    wpAny (model prog w) A (pyIter (.ref r)) (fun it s₂ => LoopAtV prog w A h₀ env (Str.ofString "size") body Q E it s₂) E s := by
  subst hL
  refine loop_range (J1 n0 n1 n2 nl news rl) hh hr (by decide) (n := 4) (by decide) F (news := (rl, listOf #[] 0) :: (el, listOf #[.str (Str.ofString "") te] 0) :: news) ?_ ?_ (turn rl) (done rl)
  · refine news_sub N fun p hp => ?_
    rcases List.mem_cons.mp hp with rfl | hp
    · exact List.mem_cons_of_mem _ (List.mem_cons_of_mem _ List.mem_cons_self)
    · rcases List.mem_cons.mp hp with rfl | hp
      · exact List.mem_cons_of_mem _ List.mem_cons_self
      · exact List.mem_cons_of_mem _ (List.mem_cons_of_mem _ (List.mem_cons_of_mem _ hp))
  · refine ⟨⟨el, [.str (Str.ofString "") te], 0, [], 0, [], ta, rfl, ?_, rfl, rfl, rfl, rfl, ?_, .nil⟩, Nat.zero_le _⟩
    · intro p hp
      rcases List.mem_cons.mp hp with rfl | hp
      · exact Nat.ne_of_gt l1.1
      · exact Nat.ne_of_lt (l2 p hp)
    · exact .cons _ _ .nil
theorem loop2 {es : List (List Nat)} {rl el gl pl D : Addr} {oD : Obj} {ak : Int} {av : Tok} {ev : List Value} {ee : Nat} {m : Str → Option Value} {rest : List (Addr × Obj)} (hL : env.locals = L) (hh : A.handled = none) (hev : StrsAre ev (es.map st)) (hel : (el, listOf ev.toArray ee) ∈ rest)
    (F : Fr h₀ L s.heap m) (N : News h₀ L s.heap ((D, oD) :: (pl, listOf #[] 0) :: (gl, listOf #[] 0) :: rest))
    (m1 : m (Str.ofString "numbers") = some (.ref nl)) (m2 : m (Str.ofString "rows") = some (.ref rl)) (m3 : m (Str.ofString "asked") = some (.int ak av)) (m4 : m (Str.ofString "grown") = some (.ref gl)) (m5 : m (Str.ofString "ports") = some (.ref pl))
    (l1 : gl < pl ∧ AllLt pl rest) (l2 : ∀ p ∈ rest, p.1 < gl)
    (turn : ∀ av gl pl j e te m₁ nx h tk I oI, es[j]? = some e → gl ≠ pl → (∀ p ∈ rest, p.1 ≠ gl) → (∀ p ∈ rest, p.1 ≠ pl) → (∀ p ∈ nx, p.1 ≠ I) → J2 n0 n1 n2 es nl rl gl pl (.int ak av) rest j m₁ nx →
      Fr h₀ L h (fun y => if y = Str.ofString "end" then some (.str (st e) te) else m₁ y) → News h₀ L h ((I, oI) :: nx) →
      wpAny (model prog w) A (execs body env) (TurnPost h₀ L (J2 n0 n1 n2 es nl rl gl pl (.int ak av) rest (j + 1)) I oI s Q) E { s with heap := h, toks := tk })
    (done : ∀ av gl pl m₁ nx h tk, gl ≠ pl → (∀ p ∈ rest, p.1 ≠ gl) → (∀ p ∈ rest, p.1 ≠ pl) → J2 n0 n1 n2 es nl rl gl pl (.int ak av) rest es.length m₁ nx → Fr h₀ L h m₁ → News h₀ L h nx → Q .next { s with heap := h, toks := tk }) :
    wpAny (model prog w) A (pyIter (.ref el)) (fun it s₂ => LoopAtV prog w A h₀ env (Str.ofString "end") body Q E it s₂) E s := by
  subst hL
  have h1 : gl ≠ pl := Nat.ne_of_lt l1.1
  have h2 : ∀ p ∈ rest, p.1 ≠ gl := fun p hp => Nat.ne_of_lt (l2 p hp)
  have h3 : ∀ p ∈ rest, p.1 ≠ pl := fun p hp => Nat.ne_of_lt (lt_of_all l1.2 p hp)
  have hlen : ev.length = es.length := by rw [strs_len hev]; simp
  refine loop_list (vs := ev) (nn := ee) (news := (gl, listOf #[] 0) :: (pl, listOf #[] 0) :: rest) (J2 n0 n1 n2 es nl rl gl pl (.int ak av) rest) hh ?_ F ?_ ?_ ?_ ?_
  · rintro i m nx ⟨gv, ge, pv, pe, rfl, _⟩
    exact List.mem_cons_of_mem _ (List.mem_cons_of_mem _ hel)
  · refine news_sub N fun p hp => ?_
    rcases List.mem_cons.mp hp with rfl | hp
    · exact List.mem_cons_of_mem _ (List.mem_cons_of_mem _ List.mem_cons_self)
    · rcases List.mem_cons.mp hp with rfl | hp
      · exact List.mem_cons_of_mem _ List.mem_cons_self
      · exact List.mem_cons_of_mem _ (List.mem_cons_of_mem _ (List.mem_cons_of_mem _ hp))
  · exact ⟨[], 0, [], 0, rfl, m1, m2, m3, m4, m5, .nil, .nil⟩
  · intro i v m₁ nx h tk I oI hv hI hJ F₁ N₁
    obtain ⟨x, t, hx, rfl⟩ := strs_get hev hv
    rw [List.getElem?_map] at hx
    cases he : es[i]? with
    | none => rw [he] at hx; cases hx
    | some e =>
      rw [he] at hx
      cases hx
      exact turn av gl pl i e t m₁ nx h tk I oI he h1 h2 h3 hI hJ F₁ N₁
  · intro m₁ nx h tk hJ
    rw [hlen] at hJ
    exact done av gl pl m₁ nx h tk h1 h2 h3 hJ
theorem loop3 {pre : List (List Nat)} {e : List Nat} {te tx : Tok} {rl gl pl : Addr} {av : Value} {rest nx₀ : List (Addr × Obj)} {m : Str → Option Value} (hL : env.locals = L) (hh : A.handled = none) (F : Fr h₀ L s.heap m) (N : News h₀ L s.heap nx₀)
    (hJ : J3 n0 n1 n2 pre e te nl rl gl pl av rest 0 m nx₀)
    (turn : ∀ i c t m₁ nx h tk I oI, figs[i]? = some c → (∀ p ∈ nx, p.1 ≠ I) → J3 n0 n1 n2 pre e te nl rl gl pl av rest i m₁ nx →
      Fr h₀ L h (fun y => if y = Str.ofString "figure" then some (.str ⟨#[c]⟩ t) else m₁ y) → News h₀ L h ((I, oI) :: nx) →
      wpAny (model prog w) A (execs body env) (TurnPost h₀ L (J3 n0 n1 n2 pre e te nl rl gl pl av rest (i + 1)) I oI s Q) E { s with heap := h, toks := tk })
    (done : ∀ m₁ nx h tk, J3 n0 n1 n2 pre e te nl rl gl pl av rest 10 m₁ nx → Fr h₀ L h m₁ → News h₀ L h nx → Q .next { s with heap := h, toks := tk }) :
    wpAny (model prog w) A (pyIter (.str (Str.ofString "0123456789") tx)) (fun it s₂ => LoopAtV prog w A h₀ env (Str.ofString "figure") body Q E it s₂) E s := by
  subst hL
  have e0 : Str.ofString "0123456789" = st figs := by decide
  rw [e0]
  refine loop_text (J3 n0 n1 n2 pre e te nl rl gl pl av rest) hh F N hJ ?_ done
  intro i c t m₁ nx h tk I oI hc
  exact turn i c t m₁ nx h tk I oI (by simpa using hc)
end Loops
end Rows
end Mine
namespace Mine
section TurnRules
variable {prog : Program} {w : World} {A : Around} {E : Value → Shared → Prop} {s : Shared}
theorem lit_w : Str.ofString "229 ... (..." = st wHead := by decide
theorem lit_e : Str.ofString ".)" = st [46, 41] := by decide
theorem lit_p : Str.ofString " (.1." = st [32, 40, 46, 49, 46] := by decide
theorem lit_z : Str.ofString ".0000" = st [46, 48, 48, 48, 48] := by decide
theorem lit_ent : Str.ofString "Entering" = st [69, 110, 116, 101, 114, 105, 110, 103] := by decide
theorem lit_nil : Str.ofString "" = st [] := by decide
theorem want_glue (t : List Nat) : (wHead ++ t) ++ [46, 41] = wantL t := by simp [wantL]
theorem got_glue (wd t ds : List Nat) : ((((([50, 50, 57, 32] ++ wd) ++ [32, 40, 46, 49, 46]) ++ t) ++ [46, 48, 48, 48, 48]) ++ ds) ++ [46, 41] = gotL wd t ds := by simp [gotL]
theorem got_glue2 (wd t ds : List Nat) : (50 :: 50 :: 57 :: 32 :: (wd ++ [32, 40, 46, 49, 46] ++ t ++ [46, 48, 48, 48, 48] ++ ds)) ++ [46, 41] = gotL wd t ds := by simp [gotL]
theorem got_glue3 (wd t ds : List Nat) : ((50 :: 50 :: 57 :: 32 :: (wd ++ [32, 40, 46, 49, 46] ++ t ++ [46, 48, 48, 48, 48])) ++ ds) ++ [46, 41] = gotL wd t ds := by simp [gotL]
theorem text_glue (c : Nat) (e : List Nat) : [c] ++ e = c :: e := rfl
theorem add_st {x y : Str} {t u : Tok} {a b r : List Nat} {Q : Value → Shared → Prop} (hx : x = st a) (hy : y = st b) (hr : a ++ b = r) (hl : a.length + b.length ≤ 200) (h : ∀ t' k, Q (.str (st r) t') { s with toks := k }) :
    wpAny (model prog w) A (binaryOp .Add (.str x t) (.str y u)) Q E s := by
  subst hx hy hr
  refine SBL.add (fun t' k _ => ?_) (by rw [st_length, st_length, sizeLine_eq]; omega)
  rw [st_append]
  exact h t' k
/-- the word of the reply -/
structure WordOk (t wd : List Nat) : Prop where
  free : 40 ∉ wd
  short : wd.length ≤ 20
theorem pick_word {value slice : PySem.Expr} {T : Addr} {n : Nat} {t x : List Nat} {ta tb tc td : Tok} {k : Int} {u : Tok} {h₀ : Heap} {L : Addr} {news : List (Addr × Obj)} {Q : Value → Shared → Prop} (N : News h₀ L s.heap news)
    (hm : (T, tupleOf [.str (Str.ofString "Entering") ta, .str (Str.ofString "") tb, .str (Str.ofString "...") tc, .str (st x) td] n) ∈ news)
    (ht : AllDigits t) (hx : x = t ++ [46, 41]) (hl : t.length ≤ 4) (h0 : 0 ≤ k) (h1 : k < 4) (h : ∀ wd tw, WordOk t wd → Q (.str (st wd) tw) s)
    (hs : subscripted slice false (.ref T) (.int k u) = operate [.ref T, .int k u] (getItem (.ref T) (.int k u)) := by with_unfolding_all rfl) :
    wpAny (model prog w) A (subscriptTail value slice (.ref T) (.int k u)) Q E s := by
  subst hx
  rw [lit_ent, lit_nil, lit_dots] at hm
  have hk : k = 0 ∨ k = 1 ∨ k = 2 ∨ k = 3 := by omega
  have hd := digit_ne ht (c := 40) (by omega)
  rcases hk with rfl | rfl | rfl | rfl
  · exact tup_item N hm (by decide) (by decide) rfl (h _ _ ⟨by decide, by decide⟩) hs
  · exact tup_item N hm (by decide) (by decide) rfl (h _ _ ⟨by decide, by decide⟩) hs
  · exact tup_item N hm (by decide) (by decide) rfl (h _ _ ⟨by decide, by decide⟩) hs
  · exact tup_item N hm (by decide) (by decide) rfl (h _ _ ⟨by simp [hd], by simp; omega⟩) hs
theorem len_of {h₀ : Heap} {L l : Addr} {news : List (Addr × Obj)} {vs : List Value} {n k : Nat} {Q : Value → Shared → Prop} (N : News h₀ L s.heap news) (hm : (l, listOf vs.toArray n) ∈ news) (hk : vs.length = k) (hb : k ≤ 1000)
    (h : Q (.int (k : Int) (s.toks + 1)) { s with toks := s.toks + 1 + 1 }) : wpAny (model prog w) A (call (.builtin "len") [.ref l]) Q E s := by
  have hl : s.heap.IsList l vs.toArray := ⟨_, (N _ hm).1, rfl, n, rfl⟩
  have e : vs.toArray.size = k := by rw [List.size_toArray, hk]
  exact PyProof.Rows.len_list hl (by rw [e]; omega) (by rw [e]; exact h)
theorem mem_drop1 {l : List (Addr × Obj)} {p q : Addr × Obj} (h : p ∈ l) : p ∈ q :: l := List.mem_cons_of_mem _ h
theorem mem_skip1 {l : List (Addr × Obj)} {p q r : Addr × Obj} (h : p ∈ q :: l) : p ∈ q :: r :: l := by
  rcases List.mem_cons.mp h with rfl | h
  · exact List.mem_cons_self
  · exact List.mem_cons_of_mem _ (List.mem_cons_of_mem _ h)
section
variable {p : Program} {loose : List Str} {mean : ExcName → Option Value} {mg mb : Str → Option Value} {dp un : Nat} {gd : Option (List Code)} {cn : Str} {cs : Scope} {a : Addr} {ccd : Value} {cl : List (Str × Addr)} {outer : List Env} {A₀ : Around} {base h₀ : Heap} {L : Addr} {m : Str → Option Value} {Q E : Value → Shared → Prop} {news : List (Addr × Obj)}
theorem value_call {n0 n1 n2 : Int} {t : List Nat} {t0 t1 t2 t3 : Tok} {nl : Addr} {ne : Nat} (hm : (nl, listOf [.int n0 t0, .int n1 t1, .int n2 t2].toArray ne) ∈ news) (ht : AllDigits t) (hl : t.length ≤ 4)
    (B : Below A₀ base outer h₀) (F : Fr h₀ L s.heap m) (X : (hd.heap_39 w.params).In h₀) (N : News h₀ L s.heap news) (T : Top p loose mean mg mb h₀) (hk : cs.kind = .function)
    (hd : dp + 1 < recursionLimit) (hu : un + 8 < cLine)
    (ret : ∀ (tv : Tok) (h' : Heap) (tk' : Nat), Fr h₀ L h' m → News h₀ L h' news → Q (.int ((valN n0 n1 n2 t : Nat) : Int) tv) { s with heap := h', toks := tk' }) :
    wpAny (model prog w) (ktrTop dp un gd cn cs L a ccd cl outer) (call (.ref 72) [.ref nl, .int ((digitsVal t : Nat) : Int) t3]) Q E s := by
  have h1 := dv_lt ht
  have h2 : 10 ^ t.length ≤ 10 ^ 4 := Nat.pow_le_pow_right (by decide) hl
  refine value_ok n0 n1 n2 ((digitsVal t : Nat) : Int) t0 t1 t2 t3 nl ne news hm (by omega) (by omega) dp un gd cn cs a ccd cl outer A₀ base h₀ L m s Q E B F X N T hk hd hu fun tv h' tk' F' N' => ?_
  have h3 := ret tv h' tk' F' N'
  rw [valN_cast] at h3
  exact h3
end
theorem str_nat {V : Nat} {t : Tok} {Q : Value → Shared → Prop} (hV : V < 10 ^ 20) (h : Q (.str (st (dsOf V)) s.toks) { s with toks := s.toks + 1 }) : wpAny (model prog w) A (call (.type "str") [.int (V : Int) t]) Q E s := by
  refine P.str_of_int ?_ ?_
  · rw [Int.natAbs_natCast]
    by_cases h0 : V = 0
    · subst h0; decide
    · rw [Nat.log2_lt h0]
      exact Nat.lt_trans hV (by decide +kernel)
  · have e := text_of_int V
    show Q (.str (Str.ofString (toString ((V : Nat) : Int))) s.toks) _
    rw [e]
    exact h
section
variable {p : Program} {loose : List Str} {mean : ExcName → Option Value} {mg mb : Str → Option Value} {dp un : Nat} {gd : Option (List Code)} {cn : Str} {cs : Scope} {a : Addr} {ccd : Value} {cl : List (Str × Addr)} {outer : List Env} {A₀ : Around} {base h₀ : Heap} {L : Addr} {m : Str → Option Value} {Q E : Value → Shared → Prop} {news : List (Addr × Obj)}
theorem ell_tkn {n0 n1 n2 : Int} {wd t : List Nat} {V : Nat} {t0 t1 : Tok} (ht : AllDigits t) (hne : t ≠ []) (hV : valN n0 n1 n2 t = V) (hl : t.length ≤ 4) (hwl : wd.length ≤ 20) (hdl : (dsOf V).length ≤ 20)
    (B : Below A₀ base outer h₀) (F : Fr h₀ L s.heap m) (X : (hd.heap_39 w.params).In h₀) (N : News h₀ L s.heap news) (T : Top p loose mean mg mb h₀) (hk : cs.kind = .function)
    (hd : dp + 1 < recursionLimit) (hu : un + 8 < cLine)
    (ret : ∀ (h' : Heap) (tk' : Nat), Fr h₀ L h' m → News h₀ L h' news → Q (.bool (tkn n0 n1 n2 t)) { s with heap := h', toks := tk' }) :
    wpAny (model prog w) (ktrTop dp un gd cn cs L a ccd cl outer) (call (.ref 65) [.str (st (wantL t)) t0, .str (st (gotL wd t (dsOf V))) t1]) Q E s := by
  refine ell_call ht hne (ds_digits V) hl hwl hdl B F X N T hk hd hu fun h' tk' F' N' => ?_
  have h3 := ret h' tk' F' N'
  unfold tkn at h3
  rw [hV] at h3
  rw [ds_val]
  exact h3
theorem parse_back {wd t : List Nat} {V : Nat} {host : Str} {t0 t1 t2 : Tok} {pl : Addr} {pn : Nat} (ht : AllDigits t) (hw : WordOk t wd) (hl : t.length ≤ 4) (hdl : (dsOf V).length ≤ 20)
    (hm : (pl, tupleOf [.str host t1, .int 21 t2] pn) ∈ news)
    (B : Below A₀ base outer h₀) (F : Fr h₀ L s.heap m) (X : (hd.heap_39 w.params).In h₀) (N : News h₀ L s.heap news) (T : Top p loose mean mg mb h₀) (hk : cs.kind = .function)
    (hd : dp + 1 < recursionLimit) (hu : un + 8 < cLine)
    (ret : ∀ (D : Addr) (t' : Tok) (h' : Heap) (tk' : Nat), Fr h₀ L h' m → News h₀ L h' ((D, tupleOf [.str host t1, .int (V : Int) t'] 0) :: news) → (∀ p ∈ news, p.1 < D) → Q (.ref D) { s with heap := h', toks := tk' }) :
    wpAny (model prog w) (ktrTop dp un gd cn cs L a ccd cl outer) (call (.ref 58) [.str (st (gotL wd t (dsOf V))) t0, .ref pl]) Q E s := by
  refine parse_got ht (ds_digits V) hw.free hl hw.short hdl hm B F X N T hk hd hu fun D t' h' tk' F' N' l => ?_
  rw [ds_val] at N'
  exact ret D t' h' tk' F' N' l
end
theorem pair_ne_same {h₀ : Heap} {L a b : Addr} {news : List (Addr × Obj)} {x : Str} {V : Int} {ta tb tc td : Tok} {na nb : Nat} {Q : Value → Shared → Prop} (N : News h₀ L s.heap news) (ma : (a, tupleOf [.str x ta, .int V tb] na) ∈ news)
    (mb : (b, tupleOf [.str x tc, .int V td] nb) ∈ news) (hx : PyData.strOk x = true) (hu : A.units + 64 < cLine) (h : Q (.bool false) s) : wpAny (model prog w) A (compareOp .NotEq (.ref a) (.ref b)) Q E s := by
  have ra : ∃ as, Reads s.heap (.ref a) (.tuple [.str x, .int V]) as := ⟨_, reads_tuple_at (N.get ma) rfl rfl (ReadsAll.cons (Reads.str x ta) (ReadsAll.cons (Reads.int V tb) ReadsAll.nil))⟩
  have rb : ∃ as, Reads s.heap (.ref b) (.tuple [.str x, .int V]) as := ⟨_, reads_tuple_at (N.get mb) rfl rfl (ReadsAll.cons (Reads.str x tc) (ReadsAll.cons (Reads.int V td) ReadsAll.nil))⟩
  obtain ⟨as, ra⟩ := ra
  obtain ⟨bs, rb⟩ := rb
  have hc : (PyData.tuple [.str x, .int V]).canLay0 = true := by simp [PyData.canLay0, PyData.canLayAll0, hx]
  have hs : SeqAt.shaped (PyData.tuple [.str x, .int V]) = true := by unfold SeqAt.shaped; rw [hc, Bool.true_and]; exact decide_eq_true (by simp [PyData.depth, PyData.depthAll])
  refine ne_dataH ra rb hs hs hu ?_
  rw [show PyData.eqv (PyData.tuple [.str x, .int V]) (PyData.tuple [.str x, .int V]) = true from SeqAt.eqv_refl _ hc]
  exact h
section App
variable {h₀ : Heap} {L gl pl I : Addr} {m : Str → Option Value} {oI oG : Obj} {led rest : List (Addr × Obj)} {gv pv : List Value} {ge pe : Nat} {x : Value} {Q : Value → Shared → Prop}
theorem append_gl (F : Fr h₀ L s.heap m) (N : News h₀ L s.heap led) (hs : ∀ p ∈ (gl, listOf gv.toArray ge) :: (pl, listOf pv.toArray pe) :: (I, oI) :: rest, p ∈ led) (hgp : gl ≠ pl) (hI : I ≠ gl) (hr : ∀ p ∈ rest, p.1 ≠ gl) (hsz : gv.length ≤ 100000)
    (h : ∀ h', Fr h₀ L h' m → News h₀ L h' ((gl, listOf (gv ++ [x]).toArray (ge + 1)) :: (pl, listOf pv.toArray pe) :: (I, oI) :: rest) → Q .none { s with heap := h' }) :
    wpAny (model prog w) A (call (.builtin "list.append") [.ref gl, x]) Q E s := by
  refine append_K F (news_sub N hs) (Upd.head ?_) (fun h' F' N' => h h' F' (by simpa using N')) (by rw [List.size_toArray, sizeLine_eq]; omega)
  intro p hp
  rcases List.mem_cons.mp hp with rfl | hp
  · exact fun e => hgp e.symm
  · rcases List.mem_cons.mp hp with rfl | hp
    · exact hI
    · exact hr p hp
theorem append_pl (F : Fr h₀ L s.heap m) (N : News h₀ L s.heap ((gl, oG) :: (pl, listOf pv.toArray pe) :: (I, oI) :: rest)) (hgp : gl ≠ pl) (hI : I ≠ pl) (hr : ∀ p ∈ rest, p.1 ≠ pl) (hsz : pv.length ≤ 100000)
    (h : ∀ h', Fr h₀ L h' m → News h₀ L h' ((I, oI) :: (gl, oG) :: (pl, listOf (pv ++ [x]).toArray (pe + 1)) :: rest) → Q .none { s with heap := h' }) :
    wpAny (model prog w) A (call (.builtin "list.append") [.ref pl, x]) Q E s := by
  refine append_K F N (Upd.tail hgp (Upd.head ?_)) (fun h' F' N' => h h' F' ?_) (by rw [List.size_toArray, sizeLine_eq]; omega)
  · intro p hp
    rcases List.mem_cons.mp hp with rfl | hp
    · exact hI
    · exact hr p hp
  · refine news_sub (by simpa using N') fun p hp => ?_
    simp only [List.mem_cons] at hp ⊢
    rcases hp with h | h | h | h
    · exact .inr (.inr (.inl h))
    · exact .inl h
    · exact .inr (.inl (by simpa using h))
    · exact .inr (.inr (.inr h))
theorem append_one (F : Fr h₀ L s.heap m) (N : News h₀ L s.heap led) (hs : ∀ p ∈ (gl, listOf gv.toArray ge) :: rest, p ∈ led) (hr : ∀ p ∈ rest, p.1 ≠ gl) (hsz : gv.length ≤ 100000)
    (h : ∀ h', Fr h₀ L h' m → News h₀ L h' ((gl, listOf (gv ++ [x]).toArray (ge + 1)) :: rest) → Q .none { s with heap := h' }) :
    wpAny (model prog w) A (call (.builtin "list.append") [.ref gl, x]) Q E s :=
  append_K F (news_sub N hs) (Upd.head hr) (fun h' F' N' => h h' F' (by simpa using N')) (by rw [List.size_toArray, sizeLine_eq]; omega)
theorem off_ends {gv' pv' : List Value} {ge' pe' : Nat} (h : ∀ p ∈ (gl, listOf gv.toArray ge) :: (pl, listOf pv.toArray pe) :: rest, p.1 ≠ I) : ∀ p ∈ (gl, listOf gv'.toArray ge') :: (pl, listOf pv'.toArray pe') :: rest, p.1 ≠ I := by
  intro p hp
  rcases List.mem_cons.mp hp with rfl | hp
  · exact h (gl, listOf gv.toArray ge) List.mem_cons_self
  · rcases List.mem_cons.mp hp with rfl | hp
    · exact h (pl, listOf pv.toArray pe) (List.mem_cons_of_mem _ List.mem_cons_self)
    · exact h p (List.mem_cons_of_mem _ (List.mem_cons_of_mem _ hp))
end App
theorem growN_skip {n0 n1 n2 : Int} {e : List Nat} {i c : Nat} (h : figs[i]? = some c) (ht : tkn n0 n1 n2 (c :: e) = false) : growN n0 n1 n2 e (i + 1) = growN n0 n1 n2 e i := by
  rw [growN_succ n0 n1 n2 h, ht]; simp
theorem growN_keep {n0 n1 n2 : Int} {e : List Nat} {i c : Nat} (h : figs[i]? = some c) (ht : tkn n0 n1 n2 (c :: e) = true) : growN n0 n1 n2 e (i + 1) = growN n0 n1 n2 e i ++ [c :: e] := by
  rw [growN_succ n0 n1 n2 h, ht]; simp
theorem sub1 {l : List (Addr × Obj)} {q : Addr × Obj} : ∀ p ∈ l, p ∈ q :: l := fun p hp => List.mem_cons_of_mem _ hp
theorem sub2 {l : List (Addr × Obj)} {q r : Addr × Obj} : ∀ p ∈ l, p ∈ q :: r :: l := fun p hp => List.mem_cons_of_mem _ (List.mem_cons_of_mem _ hp)
end TurnRules
end Mine
namespace Mine
theorem fillRows : (hd.heap_39 = hd.heap_39 ∧ Challenge.rw_pg0071_01 = Challenge.rw_pg0071_01) := by
  k_fill
  trivial
section RowsWalk
variable {prog : Program} {w : World} {A : Around} {E : Value → Shared → Prop} {s : Shared}
local macro_rules | `(tactic| k_mem) => `(tactic| first | assumption | exact List.mem_cons_self | (refine List.mem_cons_of_mem _ ?_; k_mem))
local macro_rules | `(tactic| walk_at "call ref cons nil") => `(tactic| refine stopHere ?_)
local macro_rules | `(tactic| walk_at "exec For Name Call cons nil") => `(tactic| refine stopHere ?_)
local macro_rules | `(tactic| walk_at "exec For Name Name cons nil") => `(tactic| refine stopHere ?_)
local macro_rules | `(tactic| walk_at "exec For Name Constant cons nil") => `(tactic| refine stopHere ?_)
local macro_rules | `(tactic| walk_at "pyIter ref") => `(tactic| refine stopHere ?_)
local macro_rules | `(tactic| walk_at "pyIter str") => `(tactic| refine stopHere ?_)
local macro_rules | `(tactic| walk_at "TurnPost") => `(tactic| (dsimp only [TurnPost]))
local macro_rules | `(tactic| walk_at "call builtin:len") => `(tactic| (refine' len_of ?k1 ?k2 ?k3 ?k4 ?_; (case k1 => assumption); (case k2 => k_mem); (case k3 => assumption); (case k4 => omega)))
local macro_rules | `(tactic| walk_at "binaryOp Add str str") => `(tactic| (refine' add_st ?k1 ?k2 ?k3 ?k4 ?_; (case k1 => first | with_reducible exact lit_w | with_reducible exact lit_229s | with_reducible rfl); (case k2 => first | with_reducible exact lit_e | with_reducible exact lit_p | with_reducible exact lit_z | with_reducible rfl); (case k3 => first | with_reducible exact want_glue _ | with_reducible exact got_glue _ _ _ | with_reducible exact got_glue2 _ _ _ | with_reducible exact got_glue3 _ _ _ | with_reducible exact text_glue _ _ | with_reducible rfl); (case k4 => (simp only [wHead, List.length_append, List.length_cons, List.length_nil]; omega)); intro t' k'))
local macro_rules | `(tactic| walk_at "subscriptTail Name Constant ref int") => `(tactic| (refine' list_item ?k1 ?k2 ?k3 ?k4 ?k5 ?_; (case k1 => assumption); (case k2 => k_mem); (case k3 => decide); (case k4 => decide); (case k5 => rfl)))
local macro_rules | `(tactic| walk_at "subscriptTail Tuple cons BinOp ref int") => `(tactic| (refine' pick_word ?k1 ?k2 ?k3 ?kx ?k4 ?k5 ?k6 ?_; (case k1 => assumption); (case k2 => k_mem); (case k3 => assumption); (case kx => rfl); (case k4 => assumption); (case k5 => assumption); (case k6 => assumption); intro wd' tw' hw'; have hws' := WordOk.short hw'))
local macro_rules | `(tactic| walk_at "subscriptTail Name BinOp ref int") => `(tactic| (refine' pick_word ?k1 ?k2 ?k3 ?kx ?k4 ?k5 ?k6 ?_; (case k1 => assumption); (case k2 => k_mem); (case k3 => assumption); (case kx => rfl); (case k4 => assumption); (case k5 => assumption); (case k6 => assumption); intro wd' tw' hw'; have hws' := WordOk.short hw'))
local macro_rules | `(tactic| walk_at "call type:str") => `(tactic| (refine str_nat (by assumption) ?_))
local macro_rules | `(tactic| walk_at "call type:str cons nil") => `(tactic| (refine str_nat (by assumption) ?_))
local macro_rules | `(tactic| walk_at "compareOp NotEq ref ref") => `(tactic| (refine' pair_ne_same ?k1 ?k2 ?k3 ?k4 ?k5 ?_; (case k1 => assumption); (case k2 => k_mem); (case k3 => k_mem); (case k4 => decide); (case k5 => ktr_units)))
local macro_rules | `(tactic| walk_at "call builtin:list.append cons nil") => `(tactic| refine stopHere ?_)
local macro_rules | `(tactic| walk_at "call builtin:sorted cons nil") => `(tactic| refine stopHere ?_)
theorem rows_ok {p : Program} {loose : List Str} {mean : ExcName → Option Value} {mg mb : Str → Option Value}
    (n0 n1 n2 : Int) (t0 t1 t2 : Tok) (nl : Addr) (ne : Nat) (news : List (Addr × Obj)) (hm : (nl, listOf [.int n0 t0, .int n1 t1, .int n2 t2].toArray ne) ∈ news)
    (dp un : Nat) (gd : Option (List Code)) (cn : Str) (cs : Scope) (a : Addr) (ccd : Value) (cl : List (Str × Addr)) (outer : List Env) (A₀ : Around) (base h₀ : Heap) (L : Addr) (m : Str → Option Value) (s : Shared) (Q E : Value → Shared → Prop)
    (B : Below A₀ base outer h₀) (F : Fr h₀ L s.heap m) (X : (hd.heap_39 w.params).In h₀) (N : News h₀ L s.heap news) (T : Top p loose mean mg mb h₀) (hk : cs.kind = .function)
    (hd : dp + 2 < recursionLimit) (hu : un + 100 < cLine)
    (ret : ∀ (c : Nat) (rl : Addr) (rv : List Value) (re : Nat) (robjs : List (Addr × Obj)) (h' : Heap) (tk' : Nat), c ≤ 4 → (∀ k < c, (ports n0 n1 n2 (k + 1)).length ≤ 60) → DatAll robjs rv (rowsD n0 n1 n2 c) → Fr h₀ L h' m → News h₀ L h' ((rl, listOf rv.toArray re) :: (robjs ++ news)) → Q (.ref rl) { s with heap := h', toks := tk' }) :
    wpAny (model prog w) (ktrTop dp un gd cn cs L a ccd cl outer) (call (.ref 79) [.ref nl]) Q E s := by
  refine wpAny_call ?_
  refine code_def (binds := [(Str.ofString "numbers", .ref nl)]) B F X N T rfl rfl hk (by k_is) (by k_is) (by ktr_room) (BindsTo.of_eq rfl) (locs rfl) ?_ rfl rfl rfl (by decide)
  intro g' L' h' FG' F' N' B' X' T'
  rw [lk1] at F'
  k_fold
  k_steps
  refine StopP.go ?_
  rename Fr _ _ _ _ => FF
  refine For_invVF FF rfl rfl ?_
  k_steps
  refine StopP.go ?_
  rename Fr _ _ _ _ => F1
  rename News _ _ _ _ => N1
  rename IsRange _ _ _ _ _ _ _ _ => R1
  rename _ < _ ∧ AllLt _ _ => hl1
  refine loop1 n0 n1 n2 (L := L') rfl rfl R1 F1 N1 hl1 (by assumption) ?_ ?_
  · clear R1 F1 N1 hl1
    rintro rl i t m₁ nx h tk I oI hi hI ⟨⟨el, ev, ee, rv, re, robjs, ta, rfl, hrl, m1, m2, m3, m4, hev, hrv⟩, hle⟩ F₁ N₁
    k_fold
    have hel : ev.length = (lvl n0 n1 n2 i).length := by rw [strs_len hev]; simp
    have F₂ := fr_pin (fr_pin (fr_pin (fr_pin F₁ (x := Str.ofString "numbers") m1) (x := Str.ofString "rows") m2) (x := Str.ofString "ends") m3) (x := Str.ofString "asked") m4
    clear F₁
    have hlb : (lvl n0 n1 n2 i).length ≤ 1000 := lvl_small n0 n1 n2 hi
    k_steps
    · exact ret i rl rv re robjs _ _ (by omega) (ports_small n0 n1 n2 hle) hrv (by assumption) (news_sub (by assumption) (fun p hp => mem_drop1 (mem_skip1 hp)))
    · refine StopP.go ?_
      rename Fr _ _ _ _ => F3
      rename News _ _ _ _ => N3
      rename _ < _ ∧ _ < _ ∧ _ < _ ∧ AllLt _ _ => hA
      rename _ < _ ∧ _ < _ ∧ _ < _ ∧ _ < _ ∧ AllLt _ _ => hB
      refine For_invVF F3 rfl rfl ?_
      refine ld F3 rfl ?_
      refine loop2 n0 n1 n2 (L := L') rfl rfl hev (List.mem_cons_of_mem _ (List.mem_cons_of_mem _ List.mem_cons_self)) F3 N3 rfl rfl rfl rfl rfl hB (lt_of_all hA) ?_ ?_
      · clear F3 N3 hA hB
        rintro ta gl pl j e te m₂ nx h₂ tk I₂ oI₂ he hgp hrg hrp hI₂ ⟨gv, ge, pv, pe, rfl, q1, q2, q3, q4, q5, hgv, hpv⟩ F₄ N₄
        k_fold
        have F₅ := fr_pin (fr_pin (fr_pin (fr_pin (fr_pin F₄ (x := Str.ofString "numbers") q1) (x := Str.ofString "rows") q2) (x := Str.ofString "asked") q3) (x := Str.ofString "grown") q4) (x := Str.ofString "ports") q5
        clear F₄
        have hee := lvl_ok n0 n1 n2 i e (List.mem_of_getElem? he)
        obtain ⟨hed, helen⟩ := hee
        have hpl : (grow n0 n1 n2 ((lvl n0 n1 n2 i).take j)).length ≤ 10000 := by
          have := grow_take_len n0 n1 n2 (lvl n0 n1 n2 i) j
          omega
        generalize hpre : grow n0 n1 n2 ((lvl n0 n1 n2 i).take j) = pre at hgv hpv hpl
        k_steps
        refine StopP.go ?_
        refine For_invVF F₅ rfl rfl ?_
        k_steps
        refine StopP.go ?_
        have hIg : I₂ ≠ gl := fun e => hI₂ _ List.mem_cons_self e.symm
        have hIp : I₂ ≠ pl := fun e => hI₂ _ (List.mem_cons_of_mem _ List.mem_cons_self) e.symm
        refine loop3 n0 n1 n2 (L := L') (pre := pre) (rest := (I₂, oI₂) :: (I, oI) :: (rl, listOf rv.toArray re) :: (el, listOf ev.toArray ee) :: (robjs ++ news)) rfl rfl F₅ (news_sub N₄ ?_) ⟨gv, ge, pv, pe, rfl, rfl, rfl, rfl, rfl, rfl, rfl, by simpa [growN_zero] using hgv, by simpa [growN_zero] using hpv⟩ ?_ ?_
        · intro p hp
          simp only [List.mem_cons] at hp ⊢
          rcases hp with h | h | h | h
          · exact .inr (.inl h)
          · exact .inr (.inr (.inl h))
          · exact .inl h
          · exact .inr (.inr (.inr h))
        · clear F₅ N₄ hgv hpv q1 q2 q3 q4 q5 hI₂
          rintro f c tf m₃ nx h₃ tk I₃ oI₃ hc hI₃ ⟨gv, ge, pv, pe, rfl, q1, q2, q3, q4, q5, q6, hgv, hpv⟩ F₆ N₆
          k_fold
          have F₇ := fr_pin (fr_pin (fr_pin (fr_pin (fr_pin (fr_pin F₆ (x := Str.ofString "numbers") q1) (x := Str.ofString "rows") q2) (x := Str.ofString "asked") q3) (x := Str.ofString "grown") q4) (x := Str.ofString "ports") q5) (x := Str.ofString "end") q6
          clear F₆ q1 q2 q3 q4 q5 q6 m1 m2 m3 m4 hev hrv hel hle hlb
          have hcd := fig_digit (List.mem_of_getElem? hc)
          have htd : AllDigits (c :: e) := by
            intro d hd
            rcases List.mem_cons.mp hd with rfl | hd
            · exact hcd
            · exact hed d hd
          have htl : (c :: e).length ≤ 4 := by rw [List.length_cons]; omega
          k_steps
          refine StopP.go ?_
          rename Fr _ _ _ _ => F8
          rename News _ _ _ _ => N8
          refine' parse_want htd (List.cons_ne_nil _ _) htl ?km B' F8 X' N8 T' ?kk ?kd ?ku ?_
          case km => k_mem
          case kk => rfl
          case kd => ktr_room
          case ku => ktr_units
          intro D1 t1' h8 tk8 F9 N9 l9
          clear l9
          k_steps
          refine StopP.go ?_
          rename Fr _ _ _ _ => F10
          rename News _ _ _ _ => N10
          have hmn : (nl, listOf [.int n0 t0, .int n1 t1, .int n2 t2].toArray ne) ∈ robjs ++ news := List.mem_append_right _ hm
          refine' value_call ?km ?kp ?kq B' F10 X' (news_sub N10 sub2) T' ?kk ?kd ?ku ?_
          case km => k_mem
          case kp => assumption
          case kq => assumption
          case kk => rfl
          case kd => ktr_room
          case ku => ktr_units
          intro tv h11 tk11 F11 N11
          have hvl := valN_lt n0 n1 n2 htd htl
          generalize hV : valN n0 n1 n2 (c :: e) = V at hvl ⊢
          have hfl := fmod_lo (n0.fdiv 2) (n := 4) (by decide)
          have hfh := fmod_hi (n0.fdiv 2) (n := 4) (by decide)
          have hdl := ds_len hvl
          k_steps
          refine StopP.go ?_
          rename Fr _ _ _ _ => F12
          rename News _ _ _ _ => N12
          rename WordOk _ _ => hword
          refine' ell_tkn htd (List.cons_ne_nil _ _) hV htl hword.short hdl B' F12 X' (news_sub N12 sub1) T' ?kk ?kd ?ku ?_
          case kk => rfl
          case kd => ktr_room
          case ku => ktr_units
          intro h13 tk13 F13 N13
          k_steps
          · refine StopP.go ?_
            rename Fr _ _ _ _ => F14
            rename News _ _ _ _ => N14
            refine' parse_back htd hword htl hdl ?km B' F14 X' N14 T' ?kk ?kd ?ku ?_
            case km => k_mem
            case kk => rfl
            case kd => ktr_room
            case ku => ktr_units
            intro D2 t2' h15 tk15 F15 N15 l15
            k_lt l15
            k_steps
            have hI3g : I₃ ≠ gl := fun e => hI₃ _ List.mem_cons_self e.symm
            have hI3p : I₃ ≠ pl := fun e => hI₃ _ (List.mem_cons_of_mem _ List.mem_cons_self) e.symm
            have hr3g : ∀ p ∈ (I₂, oI₂) :: (I, oI) :: (rl, listOf rv.toArray re) :: (el, listOf ev.toArray ee) :: (robjs ++ news), p.1 ≠ gl := List.forall_mem_cons.mpr ⟨hIg, hrg⟩
            have hr3p : ∀ p ∈ (I₂, oI₂) :: (I, oI) :: (rl, listOf rv.toArray re) :: (el, listOf ev.toArray ee) :: (robjs ++ news), p.1 ≠ pl := List.forall_mem_cons.mpr ⟨hIp, hrp⟩
            have hgl := growN_len n0 n1 n2 e f
            have hgvl : gv.length ≤ 100000 := by rw [strs_len hgv, List.length_map, List.length_append]; omega
            have hpvl : pv.length ≤ 100000 := by rw [IntsAre.length hpv, List.length_map, List.length_append]; omega
            rename Fr _ _ _ _ => F16
            rename News _ _ _ _ => N16
            refine StopP.go ?_
            refine append_gl (ge := ge) (I := I₃) (oI := oI₃) (pv := pv) (pe := pe) F16 N16 ?_ hgp hI3g hr3g hgvl ?_
            · intro p hp
              refine List.mem_cons_of_mem _ (List.mem_cons_of_mem _ (List.mem_cons_of_mem _ ?_))
              simp only [List.mem_cons] at hp ⊢
              rcases hp with h | h | h | h
              · exact .inr (.inl h)
              · exact .inr (.inr (.inl h))
              · exact .inl h
              · exact .inr (.inr (.inr h))
            intro h17 F17 N17
            k_steps
            rename Fr _ _ _ _ => F18
            rename News _ _ _ _ => N18
            refine StopP.go ?_
            refine append_pl F18 N18 hgp hI3p hr3p hpvl ?_
            intro h19 F19 N19
            k_steps
            refine TurnEnd.intro F19 N19 (off_ends hI₃) ⟨_, _, _, _, rfl, rfl, rfl, rfl, rfl, rfl, rfl, ?_, ?_⟩
            · rw [growN_keep hc (by assumption), ← List.append_assoc, List.map_append]
              exact strs_snoc hgv _ _
            · rw [growN_keep hc (by assumption), ← List.append_assoc, List.map_append]
              exact ints_snoc hpv _ _
          · refine TurnEnd.intro F13 N13 hI₃ ⟨gv, ge, pv, pe, rfl, rfl, rfl, rfl, rfl, rfl, rfl, ?_, ?_⟩
            · rw [growN_skip hc (by assumption)]; exact hgv
            · rw [growN_skip hc (by assumption)]; exact hpv
        · clear F₅ N₄ hgv hpv q1 q2 q3 q4 q5
          rintro m₃ nx h₃ tk ⟨gv, ge, pv, pe, rfl, q1, q2, q3, q4, q5, q6, hgv, hpv⟩ F₆ N₆
          k_steps
          refine TurnEnd.intro F₆ (news_sub N₆ ?_) (off_ends hI₂) ⟨gv, ge, pv, pe, rfl, q1, q2, q3, q4, q5, ?_, ?_⟩
          · intro p hp
            simp only [List.mem_cons] at hp ⊢
            rcases hp with h | h | h | h
            · exact .inr (.inr (.inl h))
            · exact .inl h
            · exact .inr (.inl h)
            · exact .inr (.inr (.inr h))
          · rw [grow_take_succ n0 n1 n2 he, hpre, ← growN_all]; exact hgv
          · rw [grow_take_succ n0 n1 n2 he, hpre, ← growN_all]; exact hpv
      · clear F3 N3 hA hB
        rintro ta gl pl m₂ nx h₂ tk hgp hrg hrp ⟨gv, ge, pv, pe, rfl, q1, q2, q3, q4, q5, hgv, hpv⟩ F₄ N₄
        have F₅ := fr_pin (fr_pin (fr_pin (fr_pin (fr_pin F₄ (x := Str.ofString "numbers") q1) (x := Str.ofString "rows") q2) (x := Str.ofString "asked") q3) (x := Str.ofString "grown") q4) (x := Str.ofString "ports") q5
        clear F₄
        rw [List.take_length] at hgv hpv
        have hask : asked n0 n1 n2 (i + 1) ≤ 70 := by
          have h2 : asked n0 n1 n2 (i + 1) = asked n0 n1 n2 i + 10 * (lvl n0 n1 n2 i).length := rfl
          omega
        have hp60 := ports_small n0 n1 n2 hask i (by omega)
        dsimp only
        k_steps
        refine StopP.go ?_
        rename Fr _ _ _ _ => F6
        rename News _ _ _ _ => N6
        have hpN : (pl, listOf pv.toArray pe) ∈ (gl, listOf gv.toArray ge) :: (pl, listOf pv.toArray pe) :: (I, oI) :: (rl, listOf rv.toArray re) :: (el, listOf ev.toArray ee) :: (robjs ++ news) := List.mem_cons_of_mem _ List.mem_cons_self
        refine kso_sorted F6 N6 (vs := pv) ⟨_, (N6 _ hpN).1, rfl, pe, rfl⟩ hpv (Nat.lt_of_le_of_lt hp60 (by decide)) ?_
        intro D vs' ns' c' h7 F7 N7 l7 hi7 _ hperm hsort _
        have hns : ns' = srt (ports n0 n1 n2 (i + 1)) := srt_eq hperm hsort
        subst hns
        clear F6 N6
        k_steps
        refine StopP.go ?_
        have hrvl : rv.length ≤ 100000 := by rw [hrv.length]; simp [rowsD]; omega
        have hIr : I ≠ rl := fun e => hI _ List.mem_cons_self e.symm
        have hgI : gl ≠ I := fun e => hrg _ List.mem_cons_self e.symm
        have hgr : gl ≠ rl := fun e => hrg _ (List.mem_cons_of_mem _ List.mem_cons_self) e.symm
        have hDI : I < D := l7 _ (List.mem_cons_of_mem _ (List.mem_cons_of_mem _ List.mem_cons_self))
        have hDr : rl < D := l7 _ (List.mem_cons_of_mem _ (List.mem_cons_of_mem _ (List.mem_cons_of_mem _ List.mem_cons_self)))
        have hrest : ∀ p ∈ (gl, listOf gv.toArray ge) :: (((D, listOf vs'.toArray c') :: robjs) ++ news), p.1 ≠ rl := by
          intro p hp
          rcases List.mem_cons.mp hp with rfl | hp
          · exact hgr
          · rcases List.mem_cons.mp hp with rfl | hp
            · exact Nat.ne_of_gt hDr
            · exact hrl p (List.mem_cons_of_mem _ hp)
        refine append_one (ge := re) (rest := (I, oI) :: (gl, listOf gv.toArray ge) :: (((D, listOf vs'.toArray c') :: robjs) ++ news)) F7 N7 ?_ (List.forall_mem_cons.mpr ⟨hIr, hrest⟩) hrvl ?_
        · intro p hp
          simp only [List.mem_cons, List.cons_append] at hp ⊢
          rcases hp with h | h | h | h | h
          · exact .inr (.inr (.inr (.inr (.inl h))))
          · exact .inr (.inr (.inr (.inl h)))
          · exact .inr (.inl h)
          · exact .inl h
          · exact .inr (.inr (.inr (.inr (.inr (.inr h)))))
        intro h8 F8 N8
        k_steps
        refine TurnEnd.intro (nx := (rl, listOf (rv ++ [Value.ref D]).toArray (re + 1)) :: (gl, listOf gv.toArray ge) :: (((D, listOf vs'.toArray c') :: robjs) ++ news)) F8 (news_sub N8 ?_) ?_ ⟨⟨gl, gv, ge, rv ++ [Value.ref D], re + 1, (D, listOf vs'.toArray c') :: robjs, ta, rfl, hrest, rfl, rfl, rfl, ?_, hgv, ?_⟩, hask⟩
        · intro p hp
          simp only [List.mem_cons, List.cons_append] at hp ⊢
          rcases hp with h | h | h | h | h
          · exact .inr (.inl h)
          · exact .inl h
          · exact .inr (.inr (.inl h))
          · exact .inr (.inr (.inr (.inl h)))
          · exact .inr (.inr (.inr (.inr h)))
        · intro p hp
          rcases List.mem_cons.mp hp with rfl | hp
          · exact fun e => hIr e.symm
          · rcases List.mem_cons.mp hp with rfl | hp
            · exact hgI
            · rcases List.mem_cons.mp hp with rfl | hp
              · exact Nat.ne_of_gt hDI
              · exact hI p (List.mem_cons_of_mem _ (List.mem_cons_of_mem _ hp))
        · have hc : ((asked n0 n1 n2 (i + 1) : Nat) : Int) = (asked n0 n1 n2 i : Int) + 10 * ((lvl n0 n1 n2 i).length : Int) := by simp [asked]
          rw [hc]
          rfl
        · rw [rowsD_succ]
          exact (hrv.mono fun p hp => List.mem_cons_of_mem _ hp).append (DatAll.one (row_dat List.mem_cons_self hi7))
  · clear R1 F1 N1 hl1
    rintro rl m₁ nx h tk ⟨⟨el, ev, ee, rv, re, robjs, ta, rfl, hrl, m1, m2, m3, m4, hev, hrv⟩, hle⟩ F₁ N₁
    have F₂ := fr_pin F₁ (x := Str.ofString "rows") m2
    clear F₁
    dsimp only
    k_steps
    exact ret 4 rl rv re robjs _ _ (by omega) (ports_small n0 n1 n2 hle) hrv (by assumption) (news_sub (by assumption) (fun p hp => mem_skip1 hp))
end RowsWalk
end Mine
namespace Mine
theorem fillLift : (hd.heap_39 = hd.heap_39 ∧ Challenge.rw_pg0071_01 = Challenge.rw_pg0071_01) := by
  k_fill
  trivial
section LiftPlain
variable (n0 n1 n2 : Int)
def okL (q k : Nat) (x : Int) : Bool := decide ((fval n0 n1 n2 x - x) % ((q : Int) ^ k * (q : Int)) = 0)
def liftN (q k : Nat) (r : Int) (i : Nat) : List Int := ((List.range i).map fun (j : Nat) => r + (q : Int) ^ k * (j : Int)).filter (okL n0 n1 n2 q k)
def liftL (q k : Nat) (rs : List Int) : List Int := rs.flatMap fun r => liftN n0 n1 n2 q k r q
theorem liftN_succ (q k : Nat) (r : Int) (i : Nat) : liftN n0 n1 n2 q k r (i + 1) = liftN n0 n1 n2 q k r i ++ (if okL n0 n1 n2 q k (r + (q : Int) ^ k * (i : Int)) then [r + (q : Int) ^ k * (i : Int)] else []) := by
  unfold liftN
  rw [List.range_succ, List.map_append, List.filter_append]
  simp [List.filter_cons]
theorem liftN_keep {q k : Nat} {r V : Int} {i : Nat} (hV : V = fval n0 n1 n2 (r + (q : Int) ^ k * (0 + (i : Int)))) (hd : (0 : Int) ≤ (q : Int) ^ k * (q : Int)) (h : (V - (r + (q : Int) ^ k * (0 + (i : Int)))).fmod ((q : Int) ^ k * (q : Int)) = 0) :
    liftN n0 n1 n2 q k r (i + 1) = liftN n0 n1 n2 q k r i ++ [r + (q : Int) ^ k * (0 + (i : Int))] := by
  rw [liftN_succ]
  rw [Int.zero_add] at h hV ⊢
  have : okL n0 n1 n2 q k (r + (q : Int) ^ k * (i : Int)) = true := by
    unfold okL
    rw [← hV, ← Int.fmod_eq_emod_of_nonneg _ hd]
    exact decide_eq_true h
  rw [this]; simp
theorem liftN_skip {q k : Nat} {r V : Int} {i : Nat} (hV : V = fval n0 n1 n2 (r + (q : Int) ^ k * (0 + (i : Int)))) (hd : (0 : Int) ≤ (q : Int) ^ k * (q : Int)) (h : (V - (r + (q : Int) ^ k * (0 + (i : Int)))).fmod ((q : Int) ^ k * (q : Int)) ≠ 0) :
    liftN n0 n1 n2 q k r (i + 1) = liftN n0 n1 n2 q k r i := by
  rw [liftN_succ]
  rw [Int.zero_add] at h hV
  have : okL n0 n1 n2 q k (r + (q : Int) ^ k * (i : Int)) = false := by
    unfold okL
    rw [← hV, ← Int.fmod_eq_emod_of_nonneg _ hd]
    exact decide_eq_false h
  rw [this]; simp
theorem liftL_take {q k : Nat} {rs : List Int} {r : Int} {j : Nat} (h : rs[j]? = some r) : liftL n0 n1 n2 q k (rs.take (j + 1)) = liftL n0 n1 n2 q k (rs.take j) ++ liftN n0 n1 n2 q k r q := by
  unfold liftL
  rw [List.take_add_one, h]
  simp
theorem liftN_len (q k : Nat) (r : Int) (i : Nat) : (liftN n0 n1 n2 q k r i).length ≤ i := by
  unfold liftN
  refine Nat.le_trans (List.length_filter_le _ _) ?_
  simp
theorem liftL_len (q k : Nat) (rs : List Int) : (liftL n0 n1 n2 q k rs).length ≤ q * rs.length := by
  unfold liftL
  induction rs with
  | nil => simp
  | cons r rs ih =>
    rw [List.flatMap_cons, List.length_append, List.length_cons, Nat.mul_add]
    have := liftN_len n0 n1 n2 q k r q
    omega
def JA (q k : Nat) (rs : List Int) (nl ll : Addr) (rest : List (Addr × Obj)) (j : Nat) (m : Str → Option Value) (nx : List (Addr × Obj)) : Prop :=
  ∃ lv le tp ts, nx = (ll, listOf lv.toArray le) :: rest ∧ m (Str.ofString "numbers") = some (.ref nl) ∧ m (Str.ofString "prime") = some (.int (q : Int) tp) ∧ m (Str.ofString "step") = some (.int ((q : Int) ^ k) ts) ∧ m (Str.ofString "lifted") = some (.ref ll) ∧
    IntsAre lv (liftL n0 n1 n2 q k (rs.take j))
def JB (q k : Nat) (pre : List Int) (r : Int) (tr : Tok) (nl ll : Addr) (rest : List (Addr × Obj)) (i : Nat) (m : Str → Option Value) (nx : List (Addr × Obj)) : Prop :=
  ∃ lv le tp ts, nx = (ll, listOf lv.toArray le) :: rest ∧ m (Str.ofString "numbers") = some (.ref nl) ∧ m (Str.ofString "prime") = some (.int (q : Int) tp) ∧ m (Str.ofString "step") = some (.int ((q : Int) ^ k) ts) ∧ m (Str.ofString "lifted") = some (.ref ll) ∧
    m (Str.ofString "rest") = some (.int r tr) ∧ IntsAre lv (pre ++ liftN n0 n1 n2 q k r i)
end LiftPlain
theorem news_swap {h₀ h : Heap} {L : Addr} {a b : Addr × Obj} {l : List (Addr × Obj)} (N : News h₀ L h (a :: b :: l)) : News h₀ L h (b :: a :: l) := news_sub N fun p hp => by
  simp only [List.mem_cons] at hp ⊢
  rcases hp with h | h | h
  · exact .inr (.inl h)
  · exact .inl h
  · exact .inr (.inr h)
section LiftLoops
variable (n0 n1 n2 : Int) {prog : Program} {w : World} {A : Around} {E : Value → Shared → Prop} {s : Shared} {env : Env} {h₀ : Heap} {body : List Stmt} {Q : Flow → Shared → Prop} {news : List (Addr × Obj)} {nl L : Addr}
theorem ints_get {vs : List Value} {xs : List Int} {i : Nat} {v : Value} (h : IntsAre vs xs) (hv : vs[i]? = some v) : ∃ x t, xs[i]? = some x ∧ v = .int x t := by
  induction h generalizing i with
  | nil => simp at hv
  | cons y t _ ih =>
    cases i with
    | zero => simp at hv; exact ⟨y, t, rfl, hv.symm⟩
    | succ i => exact ih (by simpa using hv)
theorem loopA {q k : Nat} {rs : List Int} {rl ll D : Addr} {oD : Obj} {rv : List Value} {re : Nat} {tp ts : Tok} {m : Str → Option Value} (hL : env.locals = L) (hh : A.handled = none) (hrv : IntsAre rv rs) (hrl : (rl, listOf rv.toArray re) ∈ news)
    (F : Fr h₀ L s.heap m) (N : News h₀ L s.heap ((D, oD) :: (ll, listOf #[] 0) :: news))
    (m1 : m (Str.ofString "numbers") = some (.ref nl)) (m2 : m (Str.ofString "prime") = some (.int (q : Int) tp)) (m3 : m (Str.ofString "step") = some (.int ((q : Int) ^ k) ts)) (m4 : m (Str.ofString "lifted") = some (.ref ll)) (l2 : ∀ p ∈ news, p.1 < ll)
    (turn : ∀ ll j r tr m₁ nx h tk I oI, rs[j]? = some r → (∀ p ∈ news, p.1 < ll) → (∀ p ∈ nx, p.1 ≠ I) → JA n0 n1 n2 q k rs nl ll news j m₁ nx →
      Fr h₀ L h (fun y => if y = Str.ofString "rest" then some (.int r tr) else m₁ y) → News h₀ L h ((I, oI) :: nx) →
      wpAny (model prog w) A (execs body env) (TurnPost h₀ L (JA n0 n1 n2 q k rs nl ll news (j + 1)) I oI s Q) E { s with heap := h, toks := tk })
    (done : ∀ ll m₁ nx h tk, (∀ p ∈ news, p.1 < ll) → JA n0 n1 n2 q k rs nl ll news rs.length m₁ nx → Fr h₀ L h m₁ → News h₀ L h nx → Q .next { s with heap := h, toks := tk }) :
    wpAny (model prog w) A (pyIter (.ref rl)) (fun it s₂ => LoopAtV prog w A h₀ env (Str.ofString "rest") body Q E it s₂) E s := by
  subst hL
  have hlen : rv.length = rs.length := IntsAre.length hrv
  refine loop_list (vs := rv) (nn := re) (news := (ll, listOf #[] 0) :: news) (JA n0 n1 n2 q k rs nl ll news) hh ?_ F (news_sub N fun p hp => List.mem_cons_of_mem _ hp) ?_ ?_ ?_
  · rintro i m nx ⟨lv, le, tp, ts, rfl, _⟩
    exact List.mem_cons_of_mem _ hrl
  · exact ⟨[], 0, tp, ts, rfl, m1, m2, m3, m4, .nil⟩
  · intro i v m₁ nx h tk I oI hv hI hJ F₁ N₁
    obtain ⟨x, t, hx, rfl⟩ := ints_get hrv hv
    exact turn ll i x t m₁ nx h tk I oI hx l2 hI hJ F₁ N₁
  · intro m₁ nx h tk hJ
    rw [hlen] at hJ
    exact done ll m₁ nx h tk l2 hJ
theorem loopB {q k : Nat} {pre : List Int} {r : Int} {tr t₀ u₀ v₀ : Tok} {ll rg : Addr} {rest nx₀ : List (Addr × Obj)} {m : Str → Option Value} (hL : env.locals = L) (hh : A.handled = none) (hq5 : q ≤ 5) (hr : IsRange s.heap rg 0 (q : Int) 1 t₀ u₀ v₀) (F : Fr h₀ L s.heap m) (N : News h₀ L s.heap nx₀)
    (hJ : JB n0 n1 n2 q k pre r tr nl ll rest 0 m nx₀)
    (turn : ∀ i t m₁ nx h tk I oI, i < q → (∀ p ∈ nx, p.1 ≠ I) → JB n0 n1 n2 q k pre r tr nl ll rest i m₁ nx →
      Fr h₀ L h (fun y => if y = Str.ofString "k" then some (.int (0 + (i : Int)) t) else m₁ y) → News h₀ L h ((I, oI) :: nx) →
      wpAny (model prog w) A (execs body env) (TurnPost h₀ L (JB n0 n1 n2 q k pre r tr nl ll rest (i + 1)) I oI s Q) E { s with heap := h, toks := tk })
    (done : ∀ m₁ nx h tk, JB n0 n1 n2 q k pre r tr nl ll rest q m₁ nx → Fr h₀ L h m₁ → News h₀ L h nx → Q .next { s with heap := h, toks := tk }) :
    wpAny (model prog w) A (pyIter (.ref rg)) (fun it s₂ => LoopAtV prog w A h₀ env (Str.ofString "k") body Q E it s₂) E s := by
  subst hL
  refine loop_range (JB n0 n1 n2 q k pre r tr nl ll rest) hh hr (small_one (by omega) (by omega) (by omega) (by omega)) (n := q) (by rw [rangeSize_nat]; simp) F N hJ turn done
end LiftLoops
structure QOk (q : Nat) : Prop where
  lo : 2 ≤ q
  hi : q ≤ 5
section LiftWalk
variable {prog : Program} {w : World} {A : Around} {E : Value → Shared → Prop} {s : Shared}
theorem value_callI {p : Program} {loose : List Str} {mean : ExcName → Option Value} {mg mb : Str → Option Value} {dp un : Nat} {gd : Option (List Code)} {cn : Str} {cs : Scope} {a : Addr} {ccd : Value} {cl : List (Str × Addr)} {outer : List Env} {A₀ : Around} {base h₀ : Heap} {L : Addr} {m : Str → Option Value} {Q E : Value → Shared → Prop} {news : List (Addr × Obj)}
    {n0 n1 n2 port : Int} {t0 t1 t2 t3 : Tok} {nl : Addr} {ne : Nat} (hm : (nl, listOf [.int n0 t0, .int n1 t1, .int n2 t2].toArray ne) ∈ news) (hp0 : 0 ≤ port) (hp1 : port < 10000)
    (B : Below A₀ base outer h₀) (F : Fr h₀ L s.heap m) (X : (hd.heap_39 w.params).In h₀) (N : News h₀ L s.heap news) (T : Top p loose mean mg mb h₀) (hk : cs.kind = .function)
    (hd : dp + 1 < recursionLimit) (hu : un + 8 < cLine)
    (ret : ∀ (t : Tok) (h' : Heap) (tk' : Nat) (v : Int), v = fval n0 n1 n2 port → Fr h₀ L h' m → News h₀ L h' news → Q (.int v t) { s with heap := h', toks := tk' }) :
    wpAny (model prog w) (ktrTop dp un gd cn cs L a ccd cl outer) (call (.ref 72) [.ref nl, .int port t3]) Q E s :=
  value_ok n0 n1 n2 port t0 t1 t2 t3 nl ne news hm hp0 hp1 dp un gd cn cs a ccd cl outer A₀ base h₀ L m s Q E B F X N T hk hd hu fun t h' tk' F' N' => ret t h' tk' _ rfl F' N'
local macro_rules | `(tactic| k_mem) => `(tactic| first | assumption | exact List.mem_cons_self | (refine List.mem_cons_of_mem _ ?_; k_mem))
local macro_rules | `(tactic| walk_at "call ref cons nil") => `(tactic| refine stopHere ?_)
local macro_rules | `(tactic| walk_at "exec For Name Call cons nil") => `(tactic| refine stopHere ?_)
local macro_rules | `(tactic| walk_at "exec For Name Name cons nil") => `(tactic| refine stopHere ?_)
local macro_rules | `(tactic| walk_at "pyIter ref") => `(tactic| refine stopHere ?_)
local macro_rules | `(tactic| walk_at "TurnPost") => `(tactic| (dsimp only [TurnPost]))
local macro_rules | `(tactic| walk_at "call builtin:list.append cons nil") => `(tactic| refine stopHere ?_)
theorem lift_ok {p : Program} {loose : List Str} {mean : ExcName → Option Value} {mg mb : Str → Option Value}
    (n0 n1 n2 : Int) (q k : Nat) (rs : List Int) (t0 t1 t2 t3 t4 : Tok) (nl rl : Addr) (ne re : Nat) (rv : List Value) (news : List (Addr × Obj)) (hm : (nl, listOf [.int n0 t0, .int n1 t1, .int n2 t2].toArray ne) ∈ news)
    (hr : (rl, listOf rv.toArray re) ∈ news) (hrv : IntsAre rv rs) (hrs : ∀ r ∈ rs, 0 ≤ r ∧ r < (q : Int) ^ k) (hrl : rs.length ≤ 1000) (hQ : QOk q) (hk4 : k < 4)
    (dp un : Nat) (gd : Option (List Code)) (cn : Str) (cs : Scope) (a : Addr) (ccd : Value) (cl : List (Str × Addr)) (outer : List Env) (A₀ : Around) (base h₀ : Heap) (L : Addr) (m : Str → Option Value) (s : Shared) (Q E : Value → Shared → Prop)
    (B : Below A₀ base outer h₀) (F : Fr h₀ L s.heap m) (X : (hd.heap_39 w.params).In h₀) (N : News h₀ L s.heap news) (T : Top p loose mean mg mb h₀) (hk : cs.kind = .function)
    (hd : dp + 2 < recursionLimit) (hu : un + 100 < cLine)
    (ret : ∀ (ll : Addr) (lv : List Value) (le : Nat) (h' : Heap) (tk' : Nat), IntsAre lv (liftL n0 n1 n2 q k rs) → Fr h₀ L h' m → News h₀ L h' ((ll, listOf lv.toArray le) :: news) → (∀ p ∈ news, p.1 < ll) → Q (.ref ll) { s with heap := h', toks := tk' }) :
    wpAny (model prog w) (ktrTop dp un gd cn cs L a ccd cl outer) (call (.ref 86) [.ref nl, .ref rl, .int (q : Int) t3, .int ((k : Int) + 1) t4]) Q E s := by
  have hqk : (0 : Int) < (q : Int) ^ k := Int.pow_pos (by have := hQ.lo; omega)
  have hkn : ((k : Int) + 1 - 1).toNat = k := by omega
  have hq6 : q < 1000000 := Nat.lt_of_le_of_lt hQ.hi (by decide)
  refine wpAny_call ?_
  refine code_def (binds := [(Str.ofString "numbers", .ref nl), (Str.ofString "rests", .ref rl), (Str.ofString "prime", .int (q : Int) t3), (Str.ofString "size", .int ((k : Int) + 1) t4)]) B F X N T rfl rfl hk (by k_is) (by k_is) (by ktr_room) (BindsTo.of_eq rfl) (locs rfl) ?_ rfl rfl rfl (by decide)
  intro g' L' h' FG' F' N' B' X' T'
  rw [lk4] at F'
  k_fold
  k_steps
  refine StopP.go ?_
  rename Fr _ _ _ _ => F1
  rename News _ _ _ _ => N1
  refine For_invVF F1 rfl rfl ?_
  refine ld F1 rfl ?_
  refine loopA n0 n1 n2 (L := L') (q := q) (k := k) rfl rfl hrv hr F1 N1 rfl rfl (by show some _ = some _; rw [hkn]) rfl (by assumption) ?_ ?_
  · clear F1 N1
    rintro ll j r tr m₁ nx h tk I oI hj hll hI ⟨lv, le, tp, ts, rfl, q1, q2, q3, q4, hlv⟩ F₁ N₁
    k_fold
    have F₂ := fr_pin (fr_pin (fr_pin (fr_pin F₁ (x := Str.ofString "numbers") q1) (x := Str.ofString "prime") q2) (x := Str.ofString "step") q3) (x := Str.ofString "lifted") q4
    clear F₁
    have hrr := hrs r (List.mem_of_getElem? hj)
    have hIl : I ≠ ll := fun e => hI _ List.mem_cons_self e.symm
    have hnl : ∀ p ∈ news, p.1 ≠ ll := fun p hp => Nat.ne_of_lt (hll p hp)
    have hpl : (liftL n0 n1 n2 q k (rs.take j)).length ≤ 10000 := by
      have h1 := liftL_len n0 n1 n2 q k (rs.take j)
      have h2 := List.length_take_le' j rs
      have h3 : q * (rs.take j).length ≤ 5 * 1000 := Nat.mul_le_mul hQ.hi (by omega)
      omega
    generalize hpre : liftL n0 n1 n2 q k (rs.take j) = pre at hlv hpl
    k_steps
    refine StopP.go ?_
    refine For_invVF F₂ rfl rfl ?_
    k_steps
    refine StopP.go ?_
    rename Fr _ _ _ _ => F3
    rename News _ _ _ _ => N3
    rename IsRange _ _ _ _ _ _ _ _ => R3
    refine loopB n0 n1 n2 (L := L') (k := k) (pre := pre) (r := r) (tr := tr) (nl := nl) (ll := ll) (rest := (I, oI) :: news) rfl rfl hQ.hi R3 F3 (news_sub N3 ?_) ⟨lv, le, tp, ts, rfl, rfl, rfl, rfl, rfl, rfl, by simpa [liftN] using hlv⟩ ?_ ?_
    · intro p hp
      simp only [List.mem_cons] at hp ⊢
      rcases hp with h | h | h
      · exact .inr (.inl h)
      · exact .inl h
      · exact .inr (.inr h)
    · clear F3 N3 R3 hlv q1 q2 q3 q4
      rintro f tf m₂ nx h₂ tk I₂ oI₂ hf hI₂ ⟨lv, le, tp, ts, rfl, q1, q2, q3, q4, q5, hlv⟩ F₄ N₄
      k_fold
      have F₅ := fr_pin (fr_pin (fr_pin (fr_pin (fr_pin F₄ (x := Str.ofString "numbers") q1) (x := Str.ofString "prime") q2) (x := Str.ofString "step") q3) (x := Str.ofString "lifted") q4) (x := Str.ofString "rest") q5
      clear F₄
      have hq5 := hQ.hi
      have hq2 := hQ.lo
      have hport : 0 ≤ r + (q : Int) ^ k * (0 + (f : Int)) ∧ r + (q : Int) ^ k * (0 + (f : Int)) < 10000 := by
        have h1 : (q : Int) ^ k * (0 + (f : Int)) ≤ (q : Int) ^ k * 4 := Int.mul_le_mul_of_nonneg_left (by omega) (by omega)
        have h2 : 0 ≤ (q : Int) ^ k * (0 + (f : Int)) := Int.mul_nonneg (by omega) (by omega)
        have h3 : (q : Int) ^ k ≤ 5 ^ 3 := by
          have h4 : q ^ k ≤ 5 ^ k := Nat.pow_le_pow_left hq5 k
          have h5 : 5 ^ k ≤ 5 ^ 3 := Nat.pow_le_pow_right (by decide) (by omega)
          have h6 : q ^ k ≤ 5 ^ 3 := Nat.le_trans h4 h5
          exact_mod_cast h6
        omega
      have hdiv : (q : Int) ^ k * (q : Int) ≠ 0 := Int.ne_of_gt (Int.mul_pos hqk (by omega))
      k_steps
      refine StopP.go ?_
      rename Fr _ _ _ _ => F6
      rename News _ _ _ _ => N6
      refine' value_callI ?km hport.1 hport.2 B' F6 X' N6 T' ?kk ?kd ?ku ?_
      case km => k_mem
      case kk => rfl
      case kd => ktr_room
      case ku => ktr_units
      intro tv h7 tk7 V hV F7 N7
      have hd0 : (0 : Int) ≤ (q : Int) ^ k * (q : Int) := Int.mul_nonneg (by omega) (by omega)
      have hI2l : I₂ ≠ ll := fun e => hI₂ _ List.mem_cons_self e.symm
      have hlvl : lv.length ≤ 100000 := by
        have := liftN_len n0 n1 n2 q k r f
        rw [IntsAre.length hlv, List.length_append]; omega
      k_steps
      · exact absurd (by assumption) (Int.ne_of_gt (Int.mul_pos hqk (show (0 : Int) < (q : Int) by omega)))
      · refine StopP.go ?_
        refine append_one (ge := le) (rest := (I₂, oI₂) :: (I, oI) :: news) F7 N7 ?_ (List.forall_mem_cons.mpr ⟨hI2l, List.forall_mem_cons.mpr ⟨hIl, hnl⟩⟩) hlvl ?_
        · intro p hp
          simp only [List.mem_cons] at hp ⊢
          rcases hp with h | h | h | h
          · exact .inr (.inl h)
          · exact .inl h
          · exact .inr (.inr (.inl h))
          · exact .inr (.inr (.inr h))
        intro h8 F8 N8
        k_steps
        refine TurnEnd.intro F8 (news_swap N8) ?_ ⟨_, _, tp, ts, rfl, rfl, rfl, rfl, rfl, rfl, ?_⟩
        · intro p hp
          rcases List.mem_cons.mp hp with rfl | hp
          · exact fun e => hI2l e.symm
          · exact hI₂ p (List.mem_cons_of_mem _ hp)
        · rw [liftN_keep n0 n1 n2 hV hd0 (by assumption), ← List.append_assoc]
          exact ints_snoc hlv _ _
      · refine TurnEnd.intro F7 N7 hI₂ ⟨lv, le, tp, ts, rfl, rfl, rfl, rfl, rfl, rfl, ?_⟩
        rw [liftN_skip n0 n1 n2 hV hd0 (by assumption)]
        exact hlv
    · clear F3 N3 R3 hlv q1 q2 q3 q4
      rintro m₂ nx h₂ tk ⟨lv, le, tp, ts, rfl, q1, q2, q3, q4, q5, hlv⟩ F₄ N₄
      k_steps
      refine TurnEnd.intro (nx := (ll, listOf lv.toArray le) :: news) F₄ (news_sub N₄ ?_) ?_ ⟨lv, le, tp, ts, rfl, q1, q2, q3, q4, ?_⟩
      · intro p hp
        simp only [List.mem_cons] at hp ⊢
        rcases hp with h | h | h
        · exact .inr (.inl h)
        · exact .inl h
        · exact .inr (.inr h)
      · intro p hp
        rcases List.mem_cons.mp hp with rfl | hp
        · exact fun e => hIl e.symm
        · exact hI p (List.mem_cons_of_mem _ hp)
      · rw [liftL_take n0 n1 n2 hj, hpre]
        exact hlv
  · clear F1 N1
    rintro ll m₁ nx h tk hll ⟨lv, le, tp, ts, rfl, q1, q2, q3, q4, hlv⟩ F₁ N₁
    have F₂ := fr_pin F₁ (x := Str.ofString "lifted") q4
    clear F₁
    rw [List.take_length] at hlv
    dsimp only
    k_steps
    exact ret ll lv le _ _ hlv (by assumption) (by assumption) hll
end LiftWalk
end Mine
namespace Mine
section PlainLaw
theorem pow_emod (x M : Int) : ∀ n : Nat, x ^ n % M = (x % M) ^ n % M
  | 0 => by simp
  | n + 1 => by
    rw [Int.pow_succ, Int.pow_succ, Int.mul_emod, pow_emod x M n, Int.mul_emod ((x % M) ^ n), Int.emod_emod]
theorem pow_congr {x y M : Int} (h : x % M = y % M) (n : Nat) : x ^ n % M = y ^ n % M := by rw [pow_emod x, pow_emod y, h]
variable (n0 n1 n2 : Int)
theorem fval_congr {x y M : Int} (h : x % M = y % M) : fval n0 n1 n2 x % M = fval n0 n1 n2 y % M := by
  have h1 := pow_congr h (2 + n0 % 2).toNat
  have h2 : n1 % 1000 * x % M = n1 % 1000 * y % M := by rw [Int.mul_emod, h, ← Int.mul_emod]
  have h3 : (x ^ (2 + n0 % 2).toNat + n1 % 1000 * x) % M = (y ^ (2 + n0 % 2).toNat + n1 % 1000 * y) % M := by rw [Int.add_emod, h1, h2, ← Int.add_emod]
  show (x ^ (2 + n0 % 2).toNat + n1 % 1000 * x + n2 % 1000) % M = (y ^ (2 + n0 % 2).toNat + n1 % 1000 * y + n2 % 1000) % M
  rw [Int.add_emod, h3, ← Int.add_emod]
/-- f leaves x as it is -/
def Fix (M x : Int) : Prop := fval n0 n1 n2 x % M = x % M
theorem fix_sub {M x : Int} : (fval n0 n1 n2 x - x) % M = 0 ↔ Fix n0 n1 n2 M x := Int.emod_eq_emod_iff_emod_sub_eq_zero.symm
theorem fix_dvd {M K x : Int} (h : M ∣ K) (hx : Fix n0 n1 n2 K x) : Fix n0 n1 n2 M x := by
  unfold Fix at *
  rw [← Int.emod_emod_of_dvd _ h, hx, Int.emod_emod_of_dvd _ h]
theorem fix_congr {M x y : Int} (h : x % M = y % M) (hx : Fix n0 n1 n2 M x) : Fix n0 n1 n2 M y := by
  unfold Fix at *
  rw [← fval_congr n0 n1 n2 h, hx, h]
def liftS (q : Nat) : Nat → List Int
  | 0 => [0]
  | s + 1 => liftL n0 n1 n2 q s (liftS q s)
theorem mem_liftN {q k : Nat} {r x : Int} {i : Nat} : x ∈ liftN n0 n1 n2 q k r i ↔ (∃ j : Nat, j < i ∧ x = r + (q : Int) ^ k * (j : Int)) ∧ Fix n0 n1 n2 ((q : Int) ^ (k + 1)) x := by
  unfold liftN okL
  rw [List.mem_filter, decide_eq_true_eq, fix_sub, Int.pow_succ]
  simp only [List.mem_map, List.mem_range]
  constructor
  · rintro ⟨⟨j, hj, e⟩, h⟩; exact ⟨⟨j, hj, e.symm⟩, h⟩
  · rintro ⟨⟨j, hj, e⟩, h⟩; exact ⟨⟨j, hj, e.symm⟩, h⟩
theorem mem_liftS {q : Nat} (hq : 0 < q) : ∀ (s : Nat) (x : Int), x ∈ liftS n0 n1 n2 q s ↔ 0 ≤ x ∧ x < (q : Int) ^ s ∧ Fix n0 n1 n2 ((q : Int) ^ s) x
  | 0, x => by
    have h1 : Fix n0 n1 n2 1 x := by unfold Fix; rw [Int.emod_one, Int.emod_one]
    simp only [liftS, List.mem_singleton, Int.pow_zero]
    constructor
    · rintro rfl; exact ⟨by omega, by omega, h1⟩
    · rintro ⟨a, b, _⟩; omega
  | s + 1, x => by
    have hM : (0 : Int) < (q : Int) ^ s := Int.pow_pos (by omega)
    have hdvd : (q : Int) ^ s ∣ (q : Int) ^ (s + 1) := ⟨(q : Int), Int.pow_succ _ _⟩
    show x ∈ liftL n0 n1 n2 q s (liftS n0 n1 n2 q s) ↔ _
    unfold liftL
    rw [List.mem_flatMap]
    constructor
    · rintro ⟨r, hr, hx⟩
      obtain ⟨⟨j, hj, rfl⟩, hfix⟩ := (mem_liftN n0 n1 n2).mp hx
      obtain ⟨h0, h1, _⟩ := (mem_liftS hq s r).mp hr
      have h2 : 0 ≤ (q : Int) ^ s * (j : Int) := Int.mul_nonneg (by omega) (by omega)
      have h3 : (q : Int) ^ s * ((j : Int) + 1) ≤ (q : Int) ^ s * (q : Int) := Int.mul_le_mul_of_nonneg_left (by omega) (by omega)
      rw [Int.mul_add, Int.mul_one] at h3
      refine ⟨by omega, ?_, hfix⟩
      rw [Int.pow_succ]
      omega
    · rintro ⟨h0, h1, hfix⟩
      rw [Int.pow_succ] at h1
      have hj0 : 0 ≤ x / (q : Int) ^ s := Int.ediv_nonneg h0 (by omega)
      have hj1 : x / (q : Int) ^ s < (q : Int) := Int.ediv_lt_of_lt_mul hM (by rw [Int.mul_comm]; exact h1)
      refine ⟨x % (q : Int) ^ s, (mem_liftS hq s _).mpr ⟨Int.emod_nonneg _ (by omega), Int.emod_lt_of_pos _ hM, ?_⟩, (mem_liftN n0 n1 n2).mpr ⟨⟨(x / (q : Int) ^ s).toNat, by omega, ?_⟩, hfix⟩⟩
      · exact fix_congr n0 n1 n2 (Int.emod_emod _ _).symm (fix_dvd n0 n1 n2 hdvd hfix)
      · rw [Int.toNat_of_nonneg hj0]
        have := Int.emod_add_mul_ediv x ((q : Int) ^ s)
        omega
theorem liftS_nodup {q : Nat} (hq : 0 < q) : ∀ s : Nat, (liftS n0 n1 n2 q s).Nodup
  | 0 => by simp [liftS]
  | s + 1 => by
    have hM : (0 : Int) < (q : Int) ^ s := Int.pow_pos (by omega)
    show (liftL n0 n1 n2 q s (liftS n0 n1 n2 q s)).Nodup
    unfold liftL
    rw [List.nodup_iff_pairwise_ne, List.pairwise_flatMap]
    constructor
    · intro r hr
      refine List.Pairwise.filter _ ?_
      rw [List.pairwise_map]
      refine List.pairwise_lt_range.imp ?_
      intro a b hab e
      have h1 : (q : Int) ^ s * (a : Int) = (q : Int) ^ s * (b : Int) := by omega
      have h2 := Int.eq_of_mul_eq_mul_left (by omega) h1
      omega
    · refine List.Pairwise.imp_of_mem ?_ (List.nodup_iff_pairwise_ne.mp (liftS_nodup hq s))
      intro r1 r2 hr1 hr2 hne x hx y hy e
      obtain ⟨⟨j1, _, e1⟩, _⟩ := (mem_liftN n0 n1 n2).mp hx
      obtain ⟨⟨j2, _, e2⟩, _⟩ := (mem_liftN n0 n1 n2).mp hy
      obtain ⟨a0, a1, _⟩ := (mem_liftS n0 n1 n2 hq s r1).mp hr1
      obtain ⟨b0, b1, _⟩ := (mem_liftS n0 n1 n2 hq s r2).mp hr2
      have h1 : x % (q : Int) ^ s = r1 := by rw [e1, Int.add_mul_emod_self_left, Int.emod_eq_of_lt a0 a1]
      have h2 : y % (q : Int) ^ s = r2 := by rw [e2, Int.add_mul_emod_self_left, Int.emod_eq_of_lt b0 b1]
      exact hne (by rw [← h1, ← h2, e])
theorem tkn_iff {t : List Nat} (ht : AllDigits t) : tkn n0 n1 n2 t = true ↔ Fix n0 n1 n2 ((10 : Int) ^ t.length) (portI t) := by
  have h1 := dv_lt ht
  have hc := valN_cast n0 n1 n2 (t := t)
  have hp : (((10 ^ t.length : Nat)) : Int) = (10 : Int) ^ t.length := by simp
  have h2 : portI t % (10 : Int) ^ t.length = portI t := Int.emod_eq_of_lt (by unfold portI; omega) (by rw [← hp]; unfold portI; omega)
  unfold tkn Fix
  rw [decide_eq_true_eq, h2, ← hc, ← hp, ← Int.natCast_emod]
  unfold portI
  omega
theorem portI_cons (c : Nat) (e : List Nat) : portI (c :: e) = portI e + (10 : Int) ^ e.length * ((c - 48 : Nat) : Int) := by
  unfold portI
  rw [dv_cons, Nat.add_comm, Nat.mul_comm]
  simp
theorem mem_lvl : ∀ (s : Nat) (t : List Nat), t ∈ lvl n0 n1 n2 s ↔ AllDigits t ∧ t.length = s ∧ Fix n0 n1 n2 ((10 : Int) ^ s) (portI t)
  | 0, t => by
    have h1 : Fix n0 n1 n2 1 (portI t) := by unfold Fix; rw [Int.emod_one, Int.emod_one]
    simp only [lvl, List.mem_singleton, Int.pow_zero]
    constructor
    · rintro rfl; exact ⟨fun c hc => by simp at hc, rfl, h1⟩
    · rintro ⟨_, h, _⟩; exact List.length_eq_zero_iff.mp h
  | s + 1, t => by
    show t ∈ grow n0 n1 n2 (lvl n0 n1 n2 s) ↔ _
    unfold grow
    rw [List.mem_flatMap]
    constructor
    · rintro ⟨e, he, ht⟩
      obtain ⟨hd, hl, _⟩ := (mem_lvl s e).mp he
      unfold growE at ht
      obtain ⟨h1, h2⟩ := List.mem_filter.mp ht
      obtain ⟨c, hc, rfl⟩ := List.mem_map.mp h1
      have htd : AllDigits (c :: e) := by
        intro d hd'
        rcases List.mem_cons.mp hd' with rfl | hd'
        · exact fig_digit hc
        · exact hd d hd'
      refine ⟨htd, by simp [hl], ?_⟩
      have := (tkn_iff n0 n1 n2 htd).mp h2
      rw [List.length_cons, hl] at this
      exact this
    · rintro ⟨hd, hl, hfix⟩
      cases t with
      | nil => simp at hl
      | cons c e =>
        have hl' : e.length = s := by simpa using hl
        refine ⟨e, (mem_lvl s e).mpr ⟨hd.tail, hl', ?_⟩, ?_⟩
        · refine fix_congr n0 n1 n2 ?_ (fix_dvd n0 n1 n2 ⟨10, Int.pow_succ _ _⟩ hfix)
          rw [portI_cons, hl', Int.add_mul_emod_self_left]
        · unfold growE
          refine List.mem_filter.mpr ⟨List.mem_map.mpr ⟨c, ?_, rfl⟩, (tkn_iff n0 n1 n2 hd).mpr (by rw [hl]; exact hfix)⟩
          have := hd.head
          simp [figs]
          omega
def figOf : Nat → Nat → List Nat
  | 0, _ => []
  | s + 1, n => (48 + n / 10 ^ s) :: figOf s (n % 10 ^ s)
theorem figOf_ok : ∀ (s n : Nat), n < 10 ^ s → AllDigits (figOf s n) ∧ (figOf s n).length = s ∧ digitsVal (figOf s n) = n
  | 0, n, h => ⟨fun c hc => by simp [figOf] at hc, rfl, by simp [figOf, digitsVal]; simp at h; omega⟩
  | s + 1, n, h => by
    have hp : 0 < 10 ^ s := Nat.pow_pos (by decide)
    obtain ⟨h1, h2, h3⟩ := figOf_ok s (n % 10 ^ s) (Nat.mod_lt _ hp)
    have h4 : n / 10 ^ s < 10 := Nat.div_lt_of_lt_mul (by rw [Nat.pow_succ] at h; exact h)
    refine ⟨?_, by simp [figOf, h2], ?_⟩
    · intro c hc
      rcases List.mem_cons.mp hc with rfl | hc
      · generalize n / 10 ^ s = d at h4
        exact ⟨Nat.le_add_right _ _, by omega⟩
      · exact h1 c hc
    · show digitsVal ((48 + n / 10 ^ s) :: figOf s (n % 10 ^ s)) = n
      rw [dv_cons, h2, h3, Nat.add_sub_cancel_left, Nat.mul_comm]
      exact Nat.div_add_mod n (10 ^ s)
theorem mem_ports (s : Nat) (x : Int) : x ∈ ports n0 n1 n2 s ↔ 0 ≤ x ∧ x < (10 : Int) ^ s ∧ Fix n0 n1 n2 ((10 : Int) ^ s) x := by
  have hp : (((10 ^ s : Nat)) : Int) = (10 : Int) ^ s := by simp
  unfold ports
  rw [List.mem_map]
  constructor
  · rintro ⟨t, ht, rfl⟩
    obtain ⟨hd, hl, hfix⟩ := (mem_lvl n0 n1 n2 s t).mp ht
    have h1 := dv_lt hd
    rw [hl] at h1
    exact ⟨by unfold portI; omega, by rw [← hp]; unfold portI; omega, hfix⟩
  · rintro ⟨h0, h1, hfix⟩
    rw [← hp] at h1
    obtain ⟨a, b, c⟩ := figOf_ok s x.toNat (by omega)
    have e : portI (figOf s x.toNat) = x := by unfold portI; rw [c]; omega
    exact ⟨figOf s x.toNat, (mem_lvl n0 n1 n2 s _).mpr ⟨a, b, by rw [e]; exact hfix⟩, e⟩
theorem lvl_nodup : ∀ s : Nat, (lvl n0 n1 n2 s).Nodup
  | 0 => by simp [lvl]
  | s + 1 => by
    show (grow n0 n1 n2 (lvl n0 n1 n2 s)).Nodup
    unfold grow
    rw [List.nodup_iff_pairwise_ne, List.pairwise_flatMap]
    constructor
    · intro e _
      refine List.Pairwise.filter _ ?_
      rw [List.pairwise_map]
      have h : figs.Pairwise (· ≠ ·) := by decide
      exact h.imp fun hne e => hne (List.cons.inj e).1
    · refine (List.nodup_iff_pairwise_ne.mp (lvl_nodup s)).imp ?_
      intro e1 e2 hne x hx y hy e
      obtain ⟨c1, _, rfl⟩ := growE_mem n0 n1 n2 hx
      obtain ⟨c2, _, rfl⟩ := growE_mem n0 n1 n2 hy
      exact hne (List.cons.inj e).2
theorem ports_nodup (s : Nat) : (ports n0 n1 n2 s).Nodup := by
  unfold ports
  rw [List.nodup_iff_pairwise_ne, List.pairwise_map]
  refine List.Pairwise.imp_of_mem ?_ (List.nodup_iff_pairwise_ne.mp (lvl_nodup n0 n1 n2 s))
  intro a b ha hb hne e
  obtain ⟨a1, a2, _⟩ := (mem_lvl n0 n1 n2 s a).mp ha
  obtain ⟨b1, b2, _⟩ := (mem_lvl n0 n1 n2 s b).mp hb
  exact hne (dv_inj a1 b1 (by rw [a2, b2]) (by unfold portI at e; omega))
/-- the port that two remainders tell -/
def joinP (s : Nat) (u w : Int) : Int := ((5 : Int) ^ 2 ^ s * u + (1 - (5 : Int) ^ 2 ^ s) * w) % (10 : Int) ^ s
def crt (s : Nat) : List Int := (liftS n0 n1 n2 2 s).flatMap fun u => (liftS n0 n1 n2 5 s).map fun w => joinP s u w
theorem join_two {s : Nat} (hs : s ≤ 4) {u w : Int} (h0 : 0 ≤ u) (h1 : u < (2 : Int) ^ s) : joinP s u w % (2 : Int) ^ s = u := by
  unfold joinP
  match s, hs with
  | 0, _ => simp at *; omega
  | 1, _ => simp at *; omega
  | 2, _ => simp at *; omega
  | 3, _ => simp at *; omega
  | 4, _ => simp at *; omega
theorem join_five {s : Nat} (hs : s ≤ 4) {u w : Int} (h0 : 0 ≤ w) (h1 : w < (5 : Int) ^ s) : joinP s u w % (5 : Int) ^ s = w := by
  unfold joinP
  match s, hs with
  | 0, _ => simp at *; omega
  | 1, _ => simp at *; omega
  | 2, _ => simp at *; omega
  | 3, _ => simp at *; omega
  | 4, _ => simp at *; omega
theorem join_dvd {s : Nat} (hs : s ≤ 4) {d : Int} (h2 : d % (2 : Int) ^ s = 0) (h5 : d % (5 : Int) ^ s = 0) : d % (10 : Int) ^ s = 0 := by
  match s, hs with
  | 0, _ => simp at *
  | 1, _ => simp at *; omega
  | 2, _ => simp at *; omega
  | 3, _ => simp at *; omega
  | 4, _ => simp at *; omega
theorem mem_crt {s : Nat} (hs : s ≤ 4) (x : Int) : x ∈ crt n0 n1 n2 s ↔ 0 ≤ x ∧ x < (10 : Int) ^ s ∧ Fix n0 n1 n2 ((10 : Int) ^ s) x := by
  have hp10 : (0 : Int) < (10 : Int) ^ s := Int.pow_pos (by decide)
  have hp2 : (0 : Int) < (2 : Int) ^ s := Int.pow_pos (by decide)
  have hp5 : (0 : Int) < (5 : Int) ^ s := Int.pow_pos (by decide)
  have d2 : (2 : Int) ^ s ∣ (10 : Int) ^ s := ⟨(5 : Int) ^ s, by rw [← Int.mul_pow]; rfl⟩
  have d5 : (5 : Int) ^ s ∣ (10 : Int) ^ s := ⟨(2 : Int) ^ s, by rw [← Int.mul_pow]; rfl⟩
  unfold crt
  rw [List.mem_flatMap]
  constructor
  · rintro ⟨u, hu, hx⟩
    obtain ⟨v, hv, rfl⟩ := List.mem_map.mp hx
    obtain ⟨u0, u1, uf⟩ := (mem_liftS n0 n1 n2 (q := 2) (by decide) s u).mp hu
    obtain ⟨v0, v1, vf⟩ := (mem_liftS n0 n1 n2 (q := 5) (by decide) s v).mp hv
    refine ⟨Int.emod_nonneg _ (by omega), Int.emod_lt_of_pos _ hp10, ?_⟩
    rw [← fix_sub]
    refine join_dvd hs ?_ ?_
    · rw [fix_sub]
      exact fix_congr n0 n1 n2 (by rw [join_two hs u0 u1]; exact Int.emod_eq_of_lt u0 u1) uf
    · rw [fix_sub]
      exact fix_congr n0 n1 n2 (by rw [join_five hs v0 v1]; exact Int.emod_eq_of_lt v0 v1) vf
  · rintro ⟨h0, h1, hfix⟩
    have hu : x % (2 : Int) ^ s ∈ liftS n0 n1 n2 2 s := (mem_liftS n0 n1 n2 (q := 2) (by decide) s _).mpr ⟨Int.emod_nonneg _ (by omega), Int.emod_lt_of_pos _ hp2, fix_congr n0 n1 n2 (Int.emod_emod _ _).symm (fix_dvd n0 n1 n2 d2 hfix)⟩
    have hv : x % (5 : Int) ^ s ∈ liftS n0 n1 n2 5 s := (mem_liftS n0 n1 n2 (q := 5) (by decide) s _).mpr ⟨Int.emod_nonneg _ (by omega), Int.emod_lt_of_pos _ hp5, fix_congr n0 n1 n2 (Int.emod_emod _ _).symm (fix_dvd n0 n1 n2 d5 hfix)⟩
    refine ⟨_, hu, List.mem_map.mpr ⟨_, hv, ?_⟩⟩
    have e2 := join_two hs (w := x % (5 : Int) ^ s) (Int.emod_nonneg x (show (2 : Int) ^ s ≠ 0 by omega)) (Int.emod_lt_of_pos x hp2)
    have e5 := join_five hs (u := x % (2 : Int) ^ s) (Int.emod_nonneg x (show (5 : Int) ^ s ≠ 0 by omega)) (Int.emod_lt_of_pos x hp5)
    have b0 : 0 ≤ joinP s (x % (2 : Int) ^ s) (x % (5 : Int) ^ s) := Int.emod_nonneg _ (by omega)
    have b1 : joinP s (x % (2 : Int) ^ s) (x % (5 : Int) ^ s) < (10 : Int) ^ s := Int.emod_lt_of_pos _ hp10
    generalize joinP s (x % (2 : Int) ^ s) (x % (5 : Int) ^ s) = y at *
    have f2 := Int.emod_eq_emod_iff_emod_sub_eq_zero.mp e2
    have f5 := Int.emod_eq_emod_iff_emod_sub_eq_zero.mp e5
    have f10 := Int.emod_eq_emod_iff_emod_sub_eq_zero.mpr (join_dvd hs f2 f5)
    rw [Int.emod_eq_of_lt b0 b1, Int.emod_eq_of_lt h0 h1] at f10
    exact f10
theorem crt_nodup {s : Nat} (hs : s ≤ 4) : (crt n0 n1 n2 s).Nodup := by
  unfold crt
  rw [List.nodup_iff_pairwise_ne, List.pairwise_flatMap]
  constructor
  · intro u _
    rw [List.pairwise_map]
    refine List.Pairwise.imp_of_mem ?_ (List.nodup_iff_pairwise_ne.mp (liftS_nodup n0 n1 n2 (q := 5) (by decide) s))
    intro a b ha hb hne e
    obtain ⟨a0, a1, _⟩ := (mem_liftS n0 n1 n2 (q := 5) (by decide) s a).mp ha
    obtain ⟨b0, b1, _⟩ := (mem_liftS n0 n1 n2 (q := 5) (by decide) s b).mp hb
    exact hne (by rw [← join_five hs (u := u) a0 a1, ← join_five hs (u := u) b0 b1, e])
  · refine List.Pairwise.imp_of_mem ?_ (List.nodup_iff_pairwise_ne.mp (liftS_nodup n0 n1 n2 (q := 2) (by decide) s))
    intro a b ha hb hne x hx y hy e
    obtain ⟨v, hv, rfl⟩ := List.mem_map.mp hx
    obtain ⟨v', hv', rfl⟩ := List.mem_map.mp hy
    obtain ⟨a0, a1, _⟩ := (mem_liftS n0 n1 n2 (q := 2) (by decide) s a).mp ha
    obtain ⟨b0, b1, _⟩ := (mem_liftS n0 n1 n2 (q := 2) (by decide) s b).mp hb
    exact hne (by rw [← join_two hs (w := v) a0 a1, ← join_two hs (w := v') b0 b1, e])
/-- the plain law: the ports that are taken are those that the two rows tell -/
theorem ports_crt {s : Nat} (hs : s ≤ 4) : (crt n0 n1 n2 s).Perm (ports n0 n1 n2 s) :=
  (List.perm_ext_iff_of_nodup (crt_nodup n0 n1 n2 hs) (ports_nodup n0 n1 n2 s)).mpr fun x => (mem_crt n0 n1 n2 hs x).trans (mem_ports n0 n1 n2 s x).symm
end PlainLaw
end Mine
namespace Mine
open LCg (lst lst_snoc NsObj ns_obj)
/-- a comprehension of two clauses over lists, with no tests -/
abbrev lc2 (elt itx ity : Expr) (x y : Str) (px py : Pos) (scope : Scope) (pos : Pos) : Expr :=
  .ListComp elt [⟨.Name x px, itx, [], 0⟩, ⟨.Name y py, ity, [], 0⟩] scope pos
section Comp2
variable {prog : Program} {w : World} {A : Around} {E : Value → Shared → Prop} {R : Result → Shared → Prop} {s : Shared} {env : Env}
variable {elt itx ity : Expr} {x y : Str} {px py : Pos} {scope : Scope} {pos : Pos} {it acc : Value}
theorem compStart_in
    (h0 : codeAny (model prog w) A (.compLoop (lc2 elt itx ity x y px py scope pos) 1 it acc env) R s)
    (h : wpAny (model prog w) A (pyIter it) (fun it' s' => codeAny (model prog w) A (.compLoop (lc2 elt itx ity x y px py scope pos) 1 it' acc env) R s')
      (notedBy (model prog w) A env fun x s' => R (.error x) s') s) :
    codeAny (model prog w) A (.compStart (lc2 elt itx ity x y px py scope pos) 1 it acc env) R s := by
  refine codeAny_of_tree (wpAny_notedAt (env := env) (pos := theWindowsPlace) ?_)
  refine (show wpAny (model prog w) _ (ask >>= _) _ _ s from wpAny_bind (wpAny_askSetting (wpAny_ite ?_)))
  by_cases hf : Setting.params ⟨(model prog w).prog, (model prog w).w.params⟩ |>.followText "comprehension-iter-twice"
  · rw [if_pos hf]
    exact wpAny_pure ⟨rfl, h0⟩
  · rw [if_neg hf]
    refine wpAny_bind (wpAny_rule ?_)
    refine (show wpAny (model prog w) _ (standAt ity.pos >>= _) _ _ s from wpAny_bind (wpAny_standAt (wpAny_bind ?_)))
    exact wpAny_mono h (fun it' s' h' => wpAny_pure ⟨rfl, h'⟩) fun _ _ e => e
theorem loop_in (I : Nat → Shared → Prop)
    (turn : ∀ n s, I n s → wpAny (model prog w) A (pyNext it) (fun r s₁ => match r with
      | none => R (.ok .next) s₁
      | some v => wpAny (model prog w) A (assign (.Name y py) env v) (fun _ s₂ =>
          wpAny (model prog w) A (eval elt env) (fun x s₄ =>
              wpAny (model prog w) A (call (.builtin "list.append") [acc, x]) (fun _ s₅ => ∃ m, m < n ∧ I m s₅) (notedBy (model prog w) A env fun e s' => R (.error e) s') s₄) (notedBy (model prog w) A env fun e s' => R (.error e) s') s₂) (notedBy (model prog w) A env fun e s' => R (.error e) s') s₁)
          (notedBy (model prog w) A env fun e s' => R (.error e) s') s)
    (n : Nat) (h : I n s) : codeAny (model prog w) A (.compLoop (lc2 elt itx ity x y px py scope pos) 1 it acc env) R s := by
  refine codeAny_loop rfl I (fun n s hI => ?_) n h
  refine wpAny_noted (env := env) ?_
  refine (show wpAny (model prog w) A (standAt ity.pos >>= fun _ => pyNext it >>= _) _ _ s from wpAny_bind (wpAny_standAt (wpAny_bind ?_)))
  refine (wpAny_mono (turn n s hI) (fun r s₁ h₁ => ?_) fun _ _ h' => h')
  cases r with
  | none => exact wpAny_pure h₁
  | some v =>
    refine wpAny_bind (wpAny_of_eq (show letOwnedTupleGo (.Name y py) it v = pure () from rfl) ?_)
    refine wpAny_bind (wpAny_mono h₁ (fun _ s₂ h₂ => wpAny_bind (wpAny_mono (wpAny_tests_nil (Q := fun ok s₃ => ok = true ∧ s₃ = s₂) ⟨rfl, rfl⟩) (fun ok s₃ h₃ => ?_) fun _ _ h' => h')) fun _ _ h' => h')
    obtain ⟨rfl, rfl⟩ := h₃
    exact wpAny_bind (wpAny_bind (wpAny_mono h₂ (fun x s₄ h₄ => wpAny_bind (wpAny_mono h₄ (fun _ s₅ h₅ => wpAny_pure (wpAny_pure ⟨rfl, h₅⟩)) fun _ _ h' => h')) fun _ _ h' => h'))
theorem loop_out (I : Nat → Shared → Prop) (hs : ∀ z, foldedSetIterable ity env z = pure z)
    (turn : ∀ n s, I n s → wpAny (model prog w) A (pyNext it) (fun r s₁ => match r with
      | none => R (.ok .next) s₁
      | some v => wpAny (model prog w) A (assign (.Name x px) env v) (fun _ s₂ =>
          wpAny (model prog w) A (eval ity env) (fun z s₃ => wpAny (model prog w) A (pyIter z) (fun it' s₄ =>
              codeAny (model prog w) A (.compStart (lc2 elt itx ity x y px py scope pos) 1 it' acc env) (fun r s₅ => (∃ f, r = .ok f) ∧ ∃ m, m < n ∧ I m s₅) s₄)
              (fun _ _ => False) s₃) (fun _ _ => False) s₂) (fun _ _ => False) s₁)
          (notedBy (model prog w) A env fun e s' => R (.error e) s') s)
    (n : Nat) (h : I n s) : codeAny (model prog w) A (.compLoop (lc2 elt itx ity x y px py scope pos) 0 it acc env) R s := by
  refine codeAny_loop rfl I (fun n s hI => ?_) n h
  refine wpAny_noted (env := env) ?_
  refine (show wpAny (model prog w) A (standAt itx.pos >>= fun _ => pyNext it >>= _) _ _ s from wpAny_bind (wpAny_standAt (wpAny_bind ?_)))
  refine (wpAny_mono (turn n s hI) (fun r s₁ h₁ => ?_) fun _ _ h' => h')
  cases r with
  | none => exact wpAny_pure h₁
  | some v =>
    refine wpAny_bind (wpAny_of_eq (show letOwnedTupleGo (.Name x px) it v = pure () from rfl) ?_)
    refine wpAny_bind (wpAny_mono h₁ (fun _ s₂ h₂ => wpAny_bind (wpAny_mono (wpAny_tests_nil (Q := fun ok s₃ => ok = true ∧ s₃ = s₂) ⟨rfl, rfl⟩) (fun ok s₃ h₃ => ?_) fun _ _ h' => h')) fun _ _ h' => h'.elim)
    obtain ⟨rfl, rfl⟩ := h₃
    refine wpAny_bind (wpAny_mono h₂ (fun z s₄ h₄ => wpAny_bind (wpAny_standAt (wpAny_bind (wpAny_of_eq (hs z) (wpAny_bind (wpAny_holding (wpAny_mono h₄ (fun it' s₅ h₅ => ?_) fun _ _ h' => h'.elim))))))) fun _ _ h' => h'.elim)
    refine wpAny_bind (wpAny_runOwn (h := none) (show codeAny (model prog w) A _ _ s₅ from codeAny_mono h₅ fun r s₆ h₆ => ?_))
    obtain ⟨⟨f, rfl⟩, h₆⟩ := h₆
    exact wpAny_pure ⟨rfl, h₆⟩
theorem map_in {J ay D C : Addr} {cenv : Env} {vs ys : List Value} {nn : Nat} {xv : Value} {m : Str → Option Value} (G : Value → Value → Prop)
    (hc : cenv.locals = C) (hh : A.handled = none) (hy : cenv.kindOf y = some .local) (hp : (cenv.scope.kind == .class || (cenv.scope.kind == .module && cenv.locals != cenv.globals)) = false)
    (hDJ : D ≠ J) (hDC : D ≠ C) (hJC : J ≠ C) (haJ : ay ≠ J) (haC : ay ≠ C) (haD : ay ≠ D) (hxy : x ≠ y)
    (hit : s.heap.IsListIter J ay 0) (hl : s.heap.get? ay = some (listOf vs.toArray nn)) (hacc : s.heap.get? D = some (lst ys)) (hn : s.heap.Ns C m) (hmx : m x = some xv)
    (hsz : ys.length + vs.length ≤ sizeLine)
    (helt : ∀ v s₂ m₂ E', v ∈ vs → s₂.heap.Ns C m₂ → m₂ x = some xv → m₂ y = some v → (∀ b o, b ≠ C → b ≠ J → b ≠ D → s.heap.get? b = some o → s₂.heap.get? b = some o) →
      wpAny (model prog w) A (eval elt cenv) (fun z s₃ => G v z ∧ Keeps s₂ s₃) E' s₂)
    (hR : ∀ h' tk m' zs, h'.Ns C m' → h'.get? D = some (lst (ys ++ zs)) → Paired G vs zs →
      (∀ b o, b ≠ C → b ≠ J → b ≠ D → s.heap.get? b = some o → h'.get? b = some o) → R (.ok .next) { s with heap := h', toks := tk }) :
    codeAny (model prog w) A (.compLoop (lc2 elt itx ity x y px py scope pos) 1 (.ref J) (.ref D) cenv) R s := by
  subst hc
  have asL : ∀ h : Heap, h.get? ay = some (listOf vs.toArray nn) → h.IsList ay vs.toArray := fun h e => ⟨_, e, rfl, nn, rfl⟩
  refine loop_in
    (fun k s' => ∃ h' tk m' zs i, s' = { s with heap := h', toks := tk } ∧ h'.IsListIter J ay i ∧ h'.get? ay = some (listOf vs.toArray nn) ∧ h'.get? D = some (lst (ys ++ zs)) ∧ h'.Ns cenv.locals m' ∧ m' x = some xv ∧
      Paired G (vs.take i) zs ∧ i ≤ vs.length ∧ k = vs.length + 1 - i ∧
      ∀ b o, b ≠ cenv.locals → b ≠ J → b ≠ D → s.heap.get? b = some o → h'.get? b = some o) ?_ (vs.length + 1)
    ⟨s.heap, s.toks, m, [], 0, rfl, hit, hl, by simpa using hacc, hn, hmx, by simpa using Paired.nil, Nat.zero_le _, rfl, fun _ _ _ _ _ e => e⟩
  rintro k s' ⟨H, tk, m', zs, i, rfl, hit', hl', hacc', hn', hmx', hF, hi, rfl, hk⟩
  cases hv : vs[i]? with
  | none =>
    have hle : vs.length ≤ i := by simpa using hv
    refine wpAny_pyNext_list_end hh hit' (asL _ hl') (by simpa using hv) fun h₁ he₁ => ?_
    refine hR h₁ tk m' zs (hn'.extBut he₁ (Ne.symm hJC)) (he₁ _ _ hDJ hacc') ?_ fun b o hbC hbI hbD e => he₁ b o hbI (hk b o hbC hbI hbD e)
    rwa [List.take_of_length_le hle] at hF
  | some v =>
    have hlt : i < vs.length := (List.getElem?_eq_some_iff.mp hv).1
    have hmem : v ∈ vs := List.mem_of_getElem? hv
    refine wpAny_pyNext_list_item hit' (asL _ hl') (x := v) (by simpa using hv) fun h₁ hit₁ hs₁ => ?_
    refine wpAny_assign_Name (wpAny_storeName_local hy (hn'.sameBut hs₁ (Ne.symm hJC)) (fun h₂ hn₂ hs₂ => ?_) hp)
    have up : ∀ b o, b ≠ cenv.locals → b ≠ J → H.get? b = some o → h₂.get? b = some o := fun b o hbC hbI e => hs₂.extBut b o hbC (hs₁.extBut b o hbI e)
    refine wpAny_mono (helt v _ _ _ hmem hn₂ (by simp [hxy, hmx']) (by simp) fun b o hbC hbI hbD e => up b o hbC hbI (hk b o hbC hbI hbD e)) (fun z s₄ h₄ => ?_) fun _ _ e => e
    obtain ⟨hG, h₄, tk₄, rfl, hk₄⟩ := h₄
    have hit₃ : h₂.IsListIter J ay (i + 1) := hit₁.extBut hs₂.extBut hJC
    have hzl : zs.length = i := by
      have := hF.length
      rw [List.length_take, Nat.min_eq_left (Nat.le_of_lt hlt)] at this
      exact this.symm
    refine append_at (hsz := by rw [List.size_toArray, List.length_append, hzl]; omega) (hk₄ _ _ (up _ _ hDC hDJ hacc')) fun h₅ hs₅ hD₅ => ?_
    refine ⟨vs.length + 1 - (i + 1), by omega, h₅, tk₄, _, zs ++ [z], i + 1, rfl, (hit₃.at fun o e => hk₄ _ o e).extBut hs₅.extBut (Ne.symm hDJ), hs₅.extBut _ _ haD (hk₄ _ _ (up _ _ haC haJ hl')), ?_, (hn₂.keeps hk₄).sameBut hs₅ (Ne.symm hDC), by simp [hxy, hmx'], ?_, hlt, rfl,
      fun b o hbC hbI hbD e => hs₅.extBut b o hbD (hk₄ b o (up b o hbC hbI (hk b o hbC hbI hbD e)))⟩
    · rw [hD₅, lst_snoc, List.append_assoc]
    · rw [List.take_add_one, hv]
      exact Paired.snoc hF hG
theorem comp2 {env : Env} {cl : List (Str × Addr)} {ax ay : Addr} {us vs : List Value} {nx ny : Nat} {Q : Value → Shared → Prop} (G : Value → Value → Value → Prop)
    (hclos : closureFor scope env = pure cl) (hcell : ∀ z ∈ scope.names, z.2 ≠ .cell) (hkind : scope.kind = .function)
    (hnames : ∀ z ∈ scope.names, z.2 = .local → scope.names.lookup z.1 = some .local) (hx : scope.names.lookup x = some .local) (hy : scope.names.lookup y = some .local) (hxy : x ≠ y)
    (hsx : ∀ z, foldedSetIterable itx env z = pure z) (hsy : ∀ C z, foldedSetIterable ity (compEnvC scope cl C env) z = pure z)
    (hh : A.handled = none) (hsz : us.length * vs.length ≤ sizeLine)
    (hlx : s.heap.get? ax = some (listOf us.toArray nx)) (hly : s.heap.get? ay = some (listOf vs.toArray ny))
    (hitx : ∀ Q' : Value → Shared → Prop, Q' (.ref ax) s → wpAny (model prog w) A (eval itx env) Q' E s)
    (hity : ∀ C (s₂ : Shared) E' (Q' : Value → Shared → Prop), (∀ b o, s.heap.get? b = some o → s₂.heap.get? b = some o) → Q' (.ref ay) s₂ → wpAny (model prog w) A (eval ity (compEnvC scope cl C env)) Q' E' s₂)
    (helt : ∀ C u v (s₂ : Shared) m₂ E', u ∈ us → v ∈ vs → s.heap.get? C = none → s₂.heap.Ns C m₂ → m₂ x = some u → m₂ y = some v → (∀ b o, s.heap.get? b = some o → s₂.heap.get? b = some o) →
      wpAny (model prog w) A (eval elt (compEnvC scope cl C env)) (fun z s₃ => G u v z ∧ Keeps s₂ s₃) E' s₂)
    (hQ : ∀ D h' tk (zss : List (List Value)), s.heap.get? D = none → h'.get? D = some (lst zss.flatten) → Paired (fun u zs => Paired (G u) vs zs) us zss →
      (∀ b o, s.heap.get? b = some o → h'.get? b = some o) → Q (.ref D) { s with heap := h', toks := tk }) :
    wpAny (model prog w) A (eval (lc2 elt itx ity x y px py scope pos) env) Q E s := by
  have asX : ∀ h : Heap, h.get? ax = some (listOf us.toArray nx) → h.IsList ax us.toArray := fun h e => ⟨_, e, rfl, nx, rfl⟩
  have asY : ∀ h : Heap, h.get? ay = some (listOf vs.toArray ny) → h.IsList ay vs.toArray := fun h e => ⟨_, e, rfl, ny, rfl⟩
  rw [eval_ListComp]
  refine wpAny_comprehension_free (use := none) rfl hsx hclos hkind hnames (hitx _ ?_)
  refine wpAny_pyIter_list (asX _ hlx) (wpAny_newObj_type (hd := by size_fits) (wpAny_newFunctionEnv hcell (by intro y hy; simp at hy) (fun h₁ hns₁ hsb₁ => ?_) hkind))
  dsimp only at hns₁ hsb₁ ⊢
  have hax : ax < s.heap.objs.size := Heap.lt_size hlx
  have hay : ay < s.heap.objs.size := Heap.lt_size hly
  generalize hH1 : s.heap.push { cls := .type "list_iterator", data := .fields #[.ref ax, .int 0 0] } = H1 at hns₁ hsb₁ ⊢
  have hD : H1.objs.size = s.heap.objs.size + 1 := by rw [← hH1, Heap.size_push]
  generalize hH2 : H1.push { cls := .type "list", dict := none, data := .seq ([] : List Value).toArray } = H2 at hns₁ hsb₁ ⊢
  have hC : H2.objs.size = s.heap.objs.size + 2 := by rw [← hH2, Heap.size_push, hD]
  have hDI : H1.objs.size ≠ s.heap.objs.size := by rw [hD]; exact Nat.succ_ne_self _
  have hDC : H1.objs.size ≠ H2.objs.size := by rw [hD, hC]; exact Nat.ne_of_lt (Nat.lt_succ_self _)
  have hIC : s.heap.objs.size ≠ H2.objs.size := by rw [hC]; exact Nat.ne_of_lt (Nat.lt_succ_of_lt (Nat.lt_succ_self _))
  have below : ∀ b, b < s.heap.objs.size → b ≠ H2.objs.size ∧ b ≠ s.heap.objs.size ∧ b ≠ H1.objs.size := fun b hb =>
    ⟨by rw [hC]; exact Nat.ne_of_lt (Nat.lt_succ_of_lt (Nat.lt_succ_of_lt hb)), Nat.ne_of_lt hb, by rw [hD]; exact Nat.ne_of_lt (Nat.lt_succ_of_lt hb)⟩
  have old : ∀ b o, s.heap.get? b = some o → h₁.get? b = some o := fun b o e =>
    hsb₁.extBut b o (below b (Heap.lt_size e)).1 (Heap.get?_push_of_some _ (hH2 ▸ Heap.get?_push_of_some _ (hH1 ▸ Heap.get?_push_of_some _ e)))
  have hit : h₁.IsListIter s.heap.objs.size ax 0 :=
    ⟨_, hsb₁.extBut _ _ hIC (Heap.get?_push_of_some _ (hH2 ▸ Heap.get?_push_of_some _ (hH1 ▸ Heap.get?_push_size _ rfl))), rfl, rfl⟩
  have hacc : h₁.get? H1.objs.size = some (lst []) := hsb₁.extBut _ _ hDC (Heap.get?_push_of_some _ (hH2 ▸ Heap.get?_push_size _ rfl))
  have fresh : ∀ a, s.heap.objs.size ≤ a → s.heap.get? a = none := fun a ha => by
    cases e : s.heap.get? a with
    | none => rfl
    | some o' => exact absurd (Heap.lt_size e) (Nat.not_lt.mpr ha)
  have hDn := fresh H1.objs.size (by rw [hD]; exact Nat.le_succ _)
  have hCn := fresh H2.objs.size (by rw [hC]; omega)
  have loop : ∀ s₂ : Shared, s₂ = { s with heap := h₁, toks := s.toks + ([] : List (Str × Value)).length } →
      codeAny (model prog w) A (.compLoop (lc2 elt itx ity x y px py scope pos) 0 (.ref s.heap.objs.size) (.ref H1.objs.size) (compEnvC scope cl H2.objs.size env))
        (compPost (model prog w) A E none Q (.ref H1.objs.size) H2.objs.size) s₂ := by
    rintro s₂ rfl
    refine loop_out
      (fun k s' => ∃ h' tk m' zss i, s' = { s with heap := h', toks := tk } ∧ h'.IsListIter s.heap.objs.size ax i ∧ h'.get? H1.objs.size = some (lst zss.flatten) ∧ h'.Ns H2.objs.size m' ∧
        Paired (fun u zs => Paired (G u) vs zs) (us.take i) zss ∧ zss.flatten.length = i * vs.length ∧ i ≤ us.length ∧ k = us.length + 1 - i ∧ (∀ b o, s.heap.get? b = some o → h'.get? b = some o)) (hsy _) ?_ (us.length + 1)
      ⟨h₁, _, _, [], 0, rfl, hit, hacc, hns₁, by simpa using Paired.nil, by simp, Nat.zero_le _, rfl, old⟩
    rintro k s' ⟨H, tk, m', zss, i, rfl, hit', hacc', hn', hF, hlen, hi, rfl, hk⟩
    cases hv : us[i]? with
    | none =>
      have hle : us.length ≤ i := by simpa using hv
      refine wpAny_pyNext_list_end hh hit' (asX _ (hk _ _ hlx)) (by simpa using hv) fun h₂ he₂ => ?_
      rw [List.take_of_length_le hle] at hF
      refine ⟨m', hn'.extBut he₂ (Ne.symm hIC), fun h'' hs'' => hQ H1.objs.size h'' tk zss hDn (hs''.extBut _ _ hDC (he₂ _ _ hDI hacc')) hF fun b o e => ?_⟩
      exact hs''.extBut b o (below b (Heap.lt_size e)).1 (he₂ b o (below b (Heap.lt_size e)).2.1 (hk b o e))
    | some u =>
      have hlt : i < us.length := (List.getElem?_eq_some_iff.mp hv).1
      have hmem : u ∈ us := List.mem_of_getElem? hv
      refine wpAny_pyNext_list_item hit' (asX _ (hk _ _ hlx)) (x := u) (by simpa using hv) fun h₂ hit₂ hs₂ => ?_
      refine wpAny_assign_Name (wpAny_storeName_local (lookup_relabel_local hx) (hn'.sameBut hs₂ (Ne.symm hIC)) (fun h₃ hn₃ hs₃ => ?_) (by simp [compEnvC, relabel, hkind]))
      have up : ∀ b o, b ≠ H2.objs.size → b ≠ s.heap.objs.size → H.get? b = some o → h₃.get? b = some o := fun b o hbC hbI e => hs₃.extBut b o hbC (hs₂.extBut b o hbI e)
      have old₃ : ∀ b o, s.heap.get? b = some o → h₃.get? b = some o := fun b o e => up b o (below b (Heap.lt_size e)).1 (below b (Heap.lt_size e)).2.1 (hk b o e)
      refine hity _ _ _ _ old₃ ?_
      refine wpAny_pyIter_list (asY _ (old₃ _ _ hly)) ?_
      dsimp only
      have hI₃ : h₃.IsListIter s.heap.objs.size ax (i + 1) := hit₂.extBut hs₃.extBut hIC
      have hD₃ : h₃.get? H1.objs.size = some (lst zss.flatten) := up _ _ hDC hDI hacc'
      have hC₃ : H2.objs.size < h₃.objs.size := hn₃.lt
      have hJ1 : H1.objs.size ≠ h₃.objs.size := Nat.ne_of_lt (Heap.lt_size hD₃)
      have hJ2 : h₃.objs.size ≠ H2.objs.size := Ne.symm (Nat.ne_of_lt hC₃)
      have hJ3 : ay ≠ h₃.objs.size := Nat.ne_of_lt (Heap.lt_size (old₃ _ _ hly))
      have hJ4 : s.heap.objs.size ≠ h₃.objs.size := by obtain ⟨o, ho, _⟩ := hI₃; exact Nat.ne_of_lt (Heap.lt_size ho)
      have inner : ∀ s₅ : Shared, s₅ = { s with heap := h₃.push { cls := .type "list_iterator", data := .fields #[.ref ay, .int 0 0] }, toks := tk + 1 } →
          codeAny (model prog w) A (.compLoop (lc2 elt itx ity x y px py scope pos) 1 (.ref h₃.objs.size) (.ref H1.objs.size) (compEnvC scope cl H2.objs.size env))
            (fun r s₅ => (∃ f, r = .ok f) ∧ ∃ m, m < us.length + 1 - i ∧ ∃ h' tk m' zss i, s₅ = { s with heap := h', toks := tk } ∧ h'.IsListIter s.heap.objs.size ax i ∧ h'.get? H1.objs.size = some (lst zss.flatten) ∧ h'.Ns H2.objs.size m' ∧
              Paired (fun u zs => Paired (G u) vs zs) (us.take i) zss ∧ zss.flatten.length = i * vs.length ∧ i ≤ us.length ∧ m = us.length + 1 - i ∧ (∀ b o, s.heap.get? b = some o → h'.get? b = some o)) s₅ := by
        rintro s₅ rfl
        refine map_in (C := H2.objs.size) (cenv := compEnvC scope cl H2.objs.size env) (xv := u) (G u) rfl hh (lookup_relabel_local hy) (by simp [compEnvC, relabel, hkind]) hJ1 hDC hJ2 hJ3 (below ay hay).1 (below ay hay).2.2 hxy
          ⟨_, Heap.get?_push_size _ rfl, rfl, rfl⟩ (Heap.get?_push_of_some _ (old₃ _ _ hly)) (Heap.get?_push_of_some _ hD₃) (hn₃.keeps fun b o e => Heap.get?_push_of_some _ e) (by simp) ?_ ?_ ?_
        · rw [hlen]
          have : (i + 1) * vs.length ≤ us.length * vs.length := Nat.mul_le_mul_right _ hlt
          rw [Nat.succ_mul] at this
          exact Nat.le_trans this hsz
        · intro v s₂ m₂ E' hv hn₂ h1 h2 hkk
          exact helt _ u v s₂ m₂ E' hmem hv hCn hn₂ h1 h2 fun b o e => hkk b o (below b (Heap.lt_size e)).1 (Nat.ne_of_lt (Heap.lt_size (old₃ b o e))) (below b (Heap.lt_size e)).2.2 (Heap.get?_push_of_some _ (old₃ b o e))
        · intro h' tk' m'' zs hn'' hD'' hG hkk
          refine ⟨⟨_, rfl⟩, us.length + 1 - (i + 1), by omega, h', tk', m'', zss ++ [zs], i + 1, rfl, hI₃.at fun o e => hkk _ o hIC hJ4 (Ne.symm hDI) (Heap.get?_push_of_some _ e), ?_, hn'', ?_, ?_, hlt, rfl, fun b o e => ?_⟩
          · rw [hD'']; simp
          · rw [List.take_add_one, hv]; exact Paired.snoc hF hG
          · rw [List.flatten_append, List.length_append, hlen, Nat.succ_mul]; simp [hG.length]
          · exact hkk b o (below b (Heap.lt_size e)).1 (Nat.ne_of_lt (Heap.lt_size (old₃ b o e))) (below b (Heap.lt_size e)).2.2 (Heap.get?_push_of_some _ (old₃ b o e))
      exact compStart_in (inner _ rfl) (wpAny_pyIter_listiter ⟨_, Heap.get?_push_size _ rfl, rfl, rfl⟩ (inner _ rfl))
  exact codeAny_compStart_list (loop _ rfl) (wpAny_pyIter_listiter hit (loop _ rfl))
end Comp2
end Mine
namespace Mine
section CellLoop
variable {prog : Program} {w : World} {A : Around} {E : Value → Shared → Prop} {R : Result → Shared → Prop} {s : Shared} {env : Env} {h₀ : Heap} {x : Str} {px : Pos} {body : List Stmt}
def CellEnd (h₀ : Heap) (L : Addr) (J : (Str → Option Value) → List (Addr × Obj) → Prop) (I c : Addr) (oI oc : Obj) (s : Shared) (f : Flow) (s₂ : Shared) : Prop :=
  f = .next ∧ ∃ h' tk' m' nx', s₂ = { s with heap := h', toks := tk' } ∧ Fr h₀ L h' m' ∧ News h₀ L h' ((I, oI) :: (c, oc) :: nx') ∧ (∀ p ∈ nx', p.1 ≠ I) ∧ (∀ p ∈ nx', p.1 ≠ c) ∧ J m' nx'
theorem range_cell {r c : Addr} {oc : Obj} {a₀ b₀ : Int} {t₀ u₀ v₀ : Tok} {n : Nat} {m₀ : Str → Option Value} {news : List (Addr × Obj)} (J : Nat → (Str → Option Value) → List (Addr × Obj) → Prop)
    (hh : A.handled = none) (hr : IsRange s.heap r a₀ b₀ 1 t₀ u₀ v₀) (hsmall : Builtin.Range.small a₀ b₀ 1 = true) (hn : Builtin.Range.rangeSize a₀ b₀ 1 = (n : Int))
    (hk : env.scope.kind = .function) (hx : env.kindOf x = some .cell) (hcc : env.cells.lookup x = some c)
    (F : Fr h₀ env.locals s.heap m₀) (N : News h₀ env.locals s.heap ((c, oc) :: news)) (hoc : ∃ v, oc.data = .cell v) (hoff : ∀ p ∈ news, p.1 ≠ c) (hj : J 0 m₀ news)
    (turn : ∀ i t m₁ nx h tk I oI oc E', i < n → (∀ p ∈ nx, p.1 ≠ I) → (∀ p ∈ nx, p.1 ≠ c) → c ≠ I → oc.data = .cell (some (.int (a₀ + (i : Int)) t)) → J i m₁ nx → Fr h₀ env.locals h m₁ → News h₀ env.locals h ((I, oI) :: (c, oc) :: nx) →
      wpAny (model prog w) A (execs body env) (CellEnd h₀ env.locals (J (i + 1)) I c oI oc s) E' { s with heap := h, toks := tk })
    (done : ∀ m₁ nx h tk, J n m₁ nx → Fr h₀ env.locals h m₁ → News h₀ env.locals h nx → R (.ok .next) { s with heap := h, toks := tk }) :
    wpAny (model prog w) A (pyIter (.ref r)) (fun it s₂ => codeAny (model prog w) A (.forLoop (.Name x px) it body [] env) R s₂) E s := by
  refine wpAny_pyIter_range hr hsmall ?_
  have W : Walks prog w A s.heap.objs.size [s.heap.objs.size] [s.heap.objs.size] n (fun i v => i < n ∧ ∃ t, v = .int (a₀ + i * 1) t)
      (fun i h => IsRangeIter h s.heap.objs.size (a₀ + (i : Nat) * 1) ((n : Int) - (i : Nat)) 1) := (Walks.range hh _ a₀ 1 n).bound
  have hI0 := next_is_new F
  have hIL : env.locals ≠ s.heap.objs.size := Nat.ne_of_lt F.ns.lt
  have hcI : c ≠ s.heap.objs.size := Nat.ne_of_lt (Heap.lt_size (N _ List.mem_cons_self).1)
  have hnI : ∀ p ∈ news, p.1 ≠ s.heap.objs.size := fun p hp => Nat.ne_of_lt (Heap.lt_size (N p (List.mem_cons_of_mem _ hp)).1)
  generalize hI : s.heap.objs.size = I at *
  refine codeAny_forLoop
    (fun k s' => ∃ h' tk m' nx oc i, s' = { s with heap := h', toks := tk } ∧ IsRangeIter h' I (a₀ + (i : Nat) * 1) ((n : Int) - (i : Nat)) 1 ∧ Fr h₀ env.locals h' m' ∧ News h₀ env.locals h' ((c, oc) :: nx) ∧ (∃ v, oc.data = .cell v) ∧
      (∀ p ∈ nx, p.1 ≠ I) ∧ (∀ p ∈ nx, p.1 ≠ c) ∧ J i m' nx ∧ i ≤ n ∧ k = n + 1 - i) ?_ (n + 1)
    ⟨_, s.toks, m₀, news, oc, 0, rfl, (by rw [hn]; subst hI; simpa using Heap.get?_push_size _ rfl), F.push _, fun p hp => ⟨Heap.get?_push_of_some _ (N p hp).1, (N p hp).2⟩, hoc, hnI, hoff, hj, Nat.zero_le _, rfl⟩
  rintro k s' ⟨h', tk, m', nx, oc', i, rfl, hst', F', N', ⟨ov, hov⟩, hnI', hnc', hJ, hi, rfl⟩
  by_cases hlt : i < n
  · refine W.item i _ _ _ hlt hst' fun v h₁ tk₁ hP hst₁ hk₁ => ?_
    obtain ⟨_, t, rfl⟩ := hP
    have F₁ := LCg.fr_but F' hk₁ hIL hI0
    have N₁ : News h₀ env.locals h₁ ((c, oc') :: nx) := LCg.news_but N' hk₁ (List.forall_mem_cons.mpr ⟨hcI, hnI'⟩)
    have hc₁ := N₁ _ List.mem_cons_self
    refine wpAny_assign_Name (wpAny_storeName_cell hk hx hcc ⟨oc', hc₁.1, hov⟩ fun h₂ hv₂ hs₂ => ?_)
    obtain ⟨o₂, ho₂, hd₂⟩ := hv₂
    have F₂ : Fr h₀ env.locals h₂ m' := F₁.change hs₂ hc₁.2.1 hc₁.2.2
    have hst₂ : IsRangeIter h₂ I (a₀ + ((i + 1 : Nat) : Int) * 1) ((n : Int) - ((i + 1 : Nat) : Int)) 1 := W.frame _ _ _ hst₁ fun b hb o e => hs₂.extBut b o (by rw [List.mem_singleton.mp hb]; exact Ne.symm hcI) e
    obtain ⟨oI, hoI⟩ : ∃ oI, h₂.get? I = some oI := ⟨_, hst₂⟩
    have N₂ : News h₀ env.locals h₂ ((I, oI) :: (c, o₂) :: nx) := by
      intro p hp
      rcases List.mem_cons.mp hp with rfl | hp
      · exact ⟨hoI, Ne.symm hIL, hI0⟩
      · rcases List.mem_cons.mp hp with rfl | hp
        · exact ⟨ho₂, hc₁.2⟩
        · have z := N₁ p (List.mem_cons_of_mem _ hp)
          exact ⟨hs₂.extBut _ _ (hnc' p hp) z.1, z.2⟩
    rw [Int.mul_one] at hd₂
    refine wpAny_mono (turn i t m' nx h₂ _ I oI o₂ _ hlt hnI' hnc' hcI hd₂ hJ F₂ N₂) (fun f s₃ h₃ => ?_) fun _ _ e => e
    obtain ⟨rfl, h₃, tk₃, m₃, nx₃, rfl, F₃, N₃, a₃, b₃, J₃⟩ := h₃
    refine ⟨n + 1 - (i + 1), by omega, h₃, tk₃, m₃, nx₃, o₂, i + 1, rfl, ?_, F₃, news_sub N₃ (fun p hp => List.mem_cons_of_mem _ hp), ⟨_, hd₂⟩, a₃, b₃, J₃, hlt, rfl⟩
    have e1 := (N₃ _ List.mem_cons_self).1
    exact W.frame _ _ _ hst₂ fun b hb o e => by
      rw [List.mem_singleton.mp hb] at e ⊢
      rw [hoI] at e
      rw [← e]
      exact e1
  · have hin : i = n := by omega
    subst hin
    refine W.done _ _ _ hst' fun h₁ tk₁ hk₁ => wpAny_execs_nil ?_
    exact done m' nx h₁ tk₁ hJ (LCg.fr_but F' hk₁ hIL hI0) (LCg.news_but (news_sub N' fun p hp => List.mem_cons_of_mem _ hp) hk₁ hnI')
end CellLoop
end Mine
namespace Mine
theorem fillDue : (hd.heap_39 = hd.heap_39 ∧ Challenge.rw_pg0071_01 = Challenge.rw_pg0071_01) := by
  k_fill
  trivial
section DueWalk
variable {prog : Program} {w : World} {A : Around} {E : Value → Shared → Prop} {s : Shared}
theorem liftS_len (n0 n1 n2 : Int) (q : Nat) : ∀ k, (liftS n0 n1 n2 q k).length ≤ q ^ k
  | 0 => Nat.le_refl _
  | k + 1 => by
    have h1 := liftS_len n0 n1 n2 q k
    have h2 : (liftS n0 n1 n2 q (k + 1)).length ≤ q * (liftS n0 n1 n2 q k).length := liftL_len n0 n1 n2 q k _
    rw [Nat.pow_succ, Nat.mul_comm]
    exact Nat.le_trans h2 (Nat.mul_le_mul_left _ h1)
theorem liftS_small (n0 n1 n2 : Int) {q k : Nat} (hQ : QOk q) (hk : k ≤ 4) : (liftS n0 n1 n2 q k).length ≤ 1000 := by
  have h1 := liftS_len n0 n1 n2 q k
  have h2 : q ^ k ≤ 5 ^ k := Nat.pow_le_pow_left hQ.hi k
  have h3 : 5 ^ k ≤ 5 ^ 4 := Nat.pow_le_pow_right (by decide) hk
  omega
theorem liftS_rng (n0 n1 n2 : Int) {q : Nat} (hQ : QOk q) (k : Nat) : ∀ r ∈ liftS n0 n1 n2 q k, 0 ≤ r ∧ r < (q : Int) ^ k := fun r hr => by
  have h := (mem_liftS n0 n1 n2 (by have := hQ.lo; omega) k r).mp hr
  exact ⟨h.1, h.2.1⟩
theorem crt_small (n0 n1 n2 : Int) {k : Nat} (hk : k ≤ 4) : (crt n0 n1 n2 k).length = (ports n0 n1 n2 k).length := (ports_crt n0 n1 n2 hk).length_eq
theorem crt_srt (n0 n1 n2 : Int) {k : Nat} (hk : k ≤ 4) : srt (crt n0 n1 n2 k) = srt (ports n0 n1 n2 k) := srt_congr (ports_crt n0 n1 n2 hk)
theorem Q2 : QOk 2 := ⟨by decide, by decide⟩
theorem Q5 : QOk 5 := ⟨by decide, by decide⟩
theorem lift_call {p : Program} {loose : List Str} {mean : ExcName → Option Value} {mg mb : Str → Option Value} {dp un : Nat} {gd : Option (List Code)} {cn : Str} {cs : Scope} {a : Addr} {ccd : Value} {cl : List (Str × Addr)} {outer : List Env} {A₀ : Around} {base h₀ : Heap} {L : Addr} {m : Str → Option Value} {Q E : Value → Shared → Prop} {news : List (Addr × Obj)}
    {n0 n1 n2 qi si : Int} {q k : Nat} {t0 t1 t2 t3 t4 : Tok} {nl rl : Addr} {ne re : Nat} {rv : List Value} (hqi : qi = (q : Int)) (hsi : si = (k : Int) + 1) (hQ : QOk q) (hk4 : k < 4)
    (hrv : IntsAre rv (liftS n0 n1 n2 q k)) (hm : (nl, listOf [.int n0 t0, .int n1 t1, .int n2 t2].toArray ne) ∈ news) (hr : (rl, listOf rv.toArray re) ∈ news)
    (B : Below A₀ base outer h₀) (F : Fr h₀ L s.heap m) (X : (hd.heap_39 w.params).In h₀) (N : News h₀ L s.heap news) (T : Top p loose mean mg mb h₀) (hk : cs.kind = .function)
    (hd : dp + 2 < recursionLimit) (hu : un + 100 < cLine)
    (ret : ∀ (ll : Addr) (lv : List Value) (le : Nat) (h' : Heap) (tk' : Nat), IntsAre lv (liftS n0 n1 n2 q (k + 1)) → Fr h₀ L h' m → News h₀ L h' ((ll, listOf lv.toArray le) :: news) → (∀ p ∈ news, p.1 < ll) → Q (.ref ll) { s with heap := h', toks := tk' }) :
    wpAny (model prog w) (ktrTop dp un gd cn cs L a ccd cl outer) (call (.ref 86) [.ref nl, .ref rl, .int qi t3, .int si t4]) Q E s := by
  subst hqi hsi
  have hb := liftS_rng n0 n1 n2 hQ k
  exact lift_ok n0 n1 n2 q k _ t0 t1 t2 t3 t4 nl rl ne re rv news hm hr hrv hb (liftS_small n0 n1 n2 hQ (Nat.le_of_lt hk4)) hQ hk4 dp un gd cn cs a ccd cl outer A₀ base h₀ L m s Q E B F X N T hk hd hu ret
def JD (n0 n1 n2 : Int) (nl fc ec dl : Addr) (news : List (Addr × Obj)) (i : Nat) (m : Str → Option Value) (nx : List (Addr × Obj)) : Prop :=
  ∃ of oe tl tw te fl fw fe rv re robjs, nx = (fc, of) :: (ec, oe) :: (dl, listOf rv.toArray re) :: (tl, listOf tw.toArray te) :: (fl, listOf fw.toArray fe) :: (robjs ++ news) ∧
    of.data = .cell (some (.ref fl)) ∧ (∃ v, oe.data = .cell v) ∧ (∀ p ∈ (dl, listOf rv.toArray re) :: (tl, listOf tw.toArray te) :: (fl, listOf fw.toArray fe) :: (robjs ++ news), p.1 ≠ fc ∧ p.1 ≠ ec) ∧
    (∀ p ∈ (tl, listOf tw.toArray te) :: (fl, listOf fw.toArray fe) :: (robjs ++ news), p.1 ≠ dl) ∧
    m (Str.ofString "numbers") = some (.ref nl) ∧ m (Str.ofString "twos") = some (.ref tl) ∧ m (Str.ofString "due") = some (.ref dl) ∧
    IntsAre tw (liftS n0 n1 n2 2 i) ∧ IntsAre fw (liftS n0 n1 n2 5 i) ∧ DatAll robjs rv (rowsD n0 n1 n2 i)
theorem loopD {n0 n1 n2 : Int} {R : Result → Shared → Prop} {env : Env} {h₀ : Heap} {px : Pos} {body : List Stmt} {news : List (Addr × Obj)} {c : Nat} {nl L D dl fl tl r : Addr} {oD oe os of : Obj} {t5 t2 t₀ u₀ v₀ : Tok} {m : Str → Option Value}
    (hL : env.locals = L) (hh : A.handled = none) (hr : IsRange s.heap r 1 ((c : Int) + 1) 1 t₀ u₀ v₀) (hc : c ≤ 4)
    (hk : env.scope.kind = .function) (hx : env.kindOf (Str.ofString "size") = some .cell) (hcc : env.cells.lookup (Str.ofString "size") = some (L + 1 + 1))
    (F : Fr h₀ L s.heap m) (N : News h₀ L s.heap ((D, oD) :: (dl, listOf #[] 0) :: (fl, listOf #[.int 0 t5] 0) :: (tl, listOf #[.int 0 t2] 0) :: (L + 1 + 1 + 1, oe) :: (L + 1 + 1, os) :: (L + 1, of) :: news))
    (l1 : ∀ p ∈ news, p.1 < L) (ha1 : L + 1 + 1 + 1 < tl) (ha2 : tl < fl) (ha3 : fl < dl)
    (hof : of.data = .cell (some (.ref fl))) (hoe : ∃ v, oe.data = .cell v) (hos : ∃ v, os.data = .cell v)
    (m1 : m (Str.ofString "numbers") = some (.ref nl)) (m2 : m (Str.ofString "twos") = some (.ref tl)) (m3 : m (Str.ofString "due") = some (.ref dl))
    (turn : ∀ dl i t m₁ nx h tk I oI oc E', i < c → (∀ p ∈ nx, p.1 ≠ I) → (∀ p ∈ nx, p.1 ≠ L + 1 + 1) → L + 1 + 1 ≠ I → oc.data = .cell (some (.int (1 + (i : Int)) t)) → JD n0 n1 n2 nl (L + 1) (L + 1 + 1 + 1) dl news i m₁ nx → Fr h₀ L h m₁ → News h₀ L h ((I, oI) :: (L + 1 + 1, oc) :: nx) →
      wpAny (model prog w) A (execs body env) (CellEnd h₀ L (JD n0 n1 n2 nl (L + 1) (L + 1 + 1 + 1) dl news (i + 1)) I (L + 1 + 1) oI oc s) E' { s with heap := h, toks := tk })
    (done : ∀ dl m₁ nx h tk, JD n0 n1 n2 nl (L + 1) (L + 1 + 1 + 1) dl news c m₁ nx → Fr h₀ L h m₁ → News h₀ L h nx → R (.ok .next) { s with heap := h, toks := tk }) :
    wpAny (model prog w) A (pyIter (.ref r)) (fun it s₂ => codeAny (model prog w) A (.forLoop (.Name (Str.ofString "size") px) it body [] env) R s₂) E s := by
  subst hL
  have hn : ∀ p ∈ news, p.1 < env.locals := l1
  refine range_cell (n := c) (news := (env.locals + 1, of) :: (env.locals + 1 + 1 + 1, oe) :: (dl, listOf #[] 0) :: (tl, listOf #[.int 0 t2] 0) :: (fl, listOf #[.int 0 t5] 0) :: ([] ++ news)) (JD n0 n1 n2 nl (env.locals + 1) (env.locals + 1 + 1 + 1) dl news) hh hr
    (small_one (by omega) (by omega) (by omega) (by omega)) (by rw [rangeSize_nat]; omega) hk hx hcc F (news_sub N ?_) hos ?_ ?_ (turn dl) (done dl)
  · intro p hp
    simp only [List.mem_cons, List.nil_append] at hp ⊢
    rcases hp with h | h | h | h | h | h | h
    · exact .inr (.inr (.inr (.inr (.inr (.inl h)))))
    · exact .inr (.inr (.inr (.inr (.inr (.inr (.inl h))))))
    · exact .inr (.inr (.inr (.inr (.inl h))))
    · exact .inr (.inl h)
    · exact .inr (.inr (.inr (.inl h)))
    · exact .inr (.inr (.inl h))
    · exact .inr (.inr (.inr (.inr (.inr (.inr (.inr h))))))
  · intro p hp
    simp only [List.mem_cons, List.nil_append] at hp
    rcases hp with rfl | rfl | rfl | rfl | rfl | h
    · exact Nat.ne_of_lt (Nat.lt_succ_self _)
    · exact Nat.ne_of_gt (Nat.lt_succ_self _)
    · exact Nat.ne_of_gt (Nat.lt_trans (Nat.lt_of_succ_lt ha1) (Nat.lt_trans ha2 ha3))
    · exact Nat.ne_of_gt (Nat.lt_of_succ_lt ha1)
    · exact Nat.ne_of_gt (Nat.lt_trans (Nat.lt_of_succ_lt ha1) ha2)
    · exact Nat.ne_of_lt (Nat.lt_succ_of_lt (Nat.lt_succ_of_lt (hn p h)))
  · have b1 : env.locals + 1 < tl := Nat.lt_of_succ_lt (Nat.lt_of_succ_lt ha1)
    refine ⟨of, oe, tl, [.int 0 t2], 0, fl, [.int 0 t5], 0, [], 0, [], rfl, hof, hoe, ?_, ?_, m1, m2, m3, .cons _ _ .nil, .cons _ _ .nil, ?_⟩
    · intro p hp
      simp only [List.mem_cons, List.nil_append] at hp
      rcases hp with rfl | rfl | rfl | h
      · exact ⟨Nat.ne_of_gt (Nat.lt_trans b1 (Nat.lt_trans ha2 ha3)), Nat.ne_of_gt (Nat.lt_trans ha1 (Nat.lt_trans ha2 ha3))⟩
      · exact ⟨Nat.ne_of_gt b1, Nat.ne_of_gt ha1⟩
      · exact ⟨Nat.ne_of_gt (Nat.lt_trans b1 ha2), Nat.ne_of_gt (Nat.lt_trans ha1 ha2)⟩
      · exact ⟨Nat.ne_of_lt (Nat.lt_succ_of_lt (hn p h)), Nat.ne_of_lt (Nat.lt_succ_of_lt (Nat.lt_succ_of_lt (Nat.lt_succ_of_lt (hn p h))))⟩
    · intro p hp
      simp only [List.mem_cons, List.nil_append] at hp
      rcases hp with rfl | rfl | h
      · exact Nat.ne_of_lt (Nat.lt_trans ha2 ha3)
      · exact Nat.ne_of_lt ha3
      · exact Nat.ne_of_lt (Nat.lt_trans (hn p h) (Nat.lt_trans (Nat.lt_of_succ_lt b1) (Nat.lt_trans ha2 ha3)))
    · exact .nil
structure I4 (i : Nat) : Prop where
  lt : i < 4
theorem pow_size {q : Int} {i : Nat} {t u : Tok} {Q : Value → Shared → Prop} (hi : I4 i) (hq : q.natAbs < 2 ^ 64) (h : Q (.int (q ^ (i + 1)) s.toks) { s with toks := s.toks + 1 }) :
    wpAny (model prog w) A (binaryOp .Pow (.int q t) (.int (1 + (i : Int)) u)) Q E s := by
  have := hi.lt
  refine pow_int_small (by omega) (by omega) hq ?_
  have e : (1 + (i : Int)).toNat = i + 1 := by omega
  rw [e]; exact h
theorem pow_pow {i : Nat} {t u : Tok} {Q : Value → Shared → Prop} (hi : I4 i) (h : Q (.int (5 ^ 2 ^ (i + 1)) s.toks) { s with toks := s.toks + 1 }) :
    wpAny (model prog w) A (binaryOp .Pow (.int 5 t) (.int ((2 : Int) ^ (i + 1)) u)) Q E s := by
  have h4 := hi.lt
  have e1 : ((2 : Int) ^ (i + 1)) = ((2 ^ (i + 1) : Nat) : Int) := by simp
  have e2 : 2 ^ (i + 1) ≤ 2 ^ 4 := Nat.pow_le_pow_right (by decide) (by omega)
  rw [e1]
  refine pow_int_small (Int.natCast_nonneg _) (Int.le_trans (Int.ofNat_le.mpr e2) (by decide)) (by decide) ?_
  rw [Int.toNat_natCast]; exact h
theorem ints_mem {vs : List Value} {xs : List Int} {v : Value} (h : IntsAre vs xs) (hv : v ∈ vs) : ∃ x t, x ∈ xs ∧ v = .int x t := by
  obtain ⟨i, hi⟩ := List.mem_iff_getElem?.mp hv
  obtain ⟨x, t, hx, rfl⟩ := ints_get h hi
  exact ⟨x, t, List.mem_of_getElem? hx, rfl⟩
theorem fit_right {n0 n1 n2 : Int} {q i : Nat} {a b : Int} (hQ : QOk q) (hi : I4 i) (hb : b ∈ liftS n0 n1 n2 q (i + 1)) : IntMulOk a b := by
  have h := liftS_rng n0 n1 n2 hQ (i + 1) b hb
  have h4 := hi.lt
  have h5 : (q : Int) ^ (i + 1) ≤ 5 ^ 4 := by
    have h6 : q ^ (i + 1) ≤ 5 ^ (i + 1) := Nat.pow_le_pow_left hQ.hi (i + 1)
    have h7 : 5 ^ (i + 1) ≤ 5 ^ 4 := Nat.pow_le_pow_right (by decide) (by omega)
    have h8 : q ^ (i + 1) ≤ 5 ^ 4 := Nat.le_trans h6 h7
    exact_mod_cast h8
  exact IntMulOk.of_right (intBits_le_64 (by omega) (by omega))
def EltP (G : Value → Prop) (s₂ : Shared) (z : Value) (s₃ : Shared) : Prop := G z ∧ Keeps s₂ s₃
def EltG (i : Nat) (u v z : Value) : Prop := ∃ a b ta tb tz, u = .int a ta ∧ v = .int b tb ∧ z = .int (joinP (i + 1) a b) tz
theorem fmod_join {s : Nat} {X : Int} : X.fmod ((10 : Int) ^ s) = X % (10 : Int) ^ s := Int.fmod_eq_emod_of_nonneg _ (Int.le_of_lt (Int.pow_pos (by decide)))
theorem elt_end {i : Nat} {a b : Int} {ta tb tz : Tok} {s₂ : Shared} {k : Nat} : EltP (EltG i (.int a ta) (.int b tb)) s₂ (.int (((5 : Int) ^ 2 ^ (i + 1) * a + (1 - (5 : Int) ^ 2 ^ (i + 1)) * b).fmod ((10 : Int) ^ (i + 1))) tz) { s₂ with toks := k } :=
  ⟨⟨a, b, ta, tb, tz, rfl, rfl, congrArg (fun z => Value.int z tz) fmod_join⟩, _, _, rfl, fun _ _ e => e⟩
theorem join_row {i : Nat} {a : Int} {ta : Tok} : ∀ {fw zs : List Value} {ws : List Int}, IntsAre fw ws → Paired (EltG i (.int a ta)) fw zs → IntsAre zs (ws.map fun w => joinP (i + 1) a w)
  | _, _, _, .nil, .nil => .nil
  | _, _, _, .cons n t h, .cons hg r => by
    obtain ⟨a', b', ta', tb', tz, e1, e2, rfl⟩ := hg
    cases e1; cases e2
    exact .cons _ _ (join_row h r)
theorem join_all {i : Nat} {fw : List Value} {ws : List Int} (hf : IntsAre fw ws) : ∀ {tw : List Value} {zss : List (List Value)} {us : List Int}, IntsAre tw us → Paired (fun u zs => Paired (EltG i u) fw zs) tw zss → IntsAre zss.flatten (us.flatMap fun u => ws.map fun w => joinP (i + 1) u w)
  | _, _, _, .nil, .nil => .nil
  | _, _, _, .cons n t h, .cons hg r => by
    rw [List.flatten_cons, List.flatMap_cons]
    exact IntsAre.append (join_row hf hg) (join_all hf h r)
theorem join_crt {n0 n1 n2 : Int} {i : Nat} {tw fw : List Value} {zss : List (List Value)} (ht : IntsAre tw (liftS n0 n1 n2 2 (i + 1))) (hf : IntsAre fw (liftS n0 n1 n2 5 (i + 1))) (hz : Paired (fun u zs => Paired (EltG i u) fw zs) tw zss) : IntsAre zss.flatten (crt n0 n1 n2 (i + 1)) :=
  join_all hf ht hz
theorem comp_news {g h h8 : Heap} {L D : Addr} {m : Str → Option Value} {l : List Value} {led : List (Addr × Obj)} (F : Fr g L h m) (N : News g L h led) (hD : h.get? D = none) (hD8 : h8.get? D = some (LCg.lst l)) (hk : ∀ b o, h.get? b = some o → h8.get? b = some o) :
    News g L h8 ((D, listOf l.toArray l.length) :: led) := by
  refine List.forall_mem_cons.mpr ⟨⟨hD8, ?_, ?_⟩, N.grown hk⟩
  · rintro rfl
    obtain ⟨o, _, _, ho, _⟩ := F.ns
    rw [hD] at ho; cases ho
  · cases e : g.get? D with
    | none => rfl
    | some o => have := F.keep D o e; rw [hD] at this; cases this
theorem crt_len {n0 n1 n2 : Int} {c i : Nat} (hc : c ≤ 4) (hi : i < c) (h6 : ∀ k < c, (ports n0 n1 n2 (k + 1)).length ≤ 60) : (crt n0 n1 n2 (i + 1)).length < 64 := by
  rw [crt_small n0 n1 n2 (show i + 1 ≤ 4 by omega)]
  exact Nat.lt_of_le_of_lt (h6 i hi) (by decide)
theorem done_sub {a b c d e : Addr × Obj} {p : Addr × Obj} {x y : List (Addr × Obj)} (hp : p ∈ c :: (x ++ y)) : p ∈ a :: b :: c :: d :: e :: (x ++ y) := by
  rcases List.mem_cons.mp hp with rfl | hp
  · exact List.mem_cons_of_mem _ (List.mem_cons_of_mem _ List.mem_cons_self)
  · exact List.mem_cons_of_mem _ (List.mem_cons_of_mem _ (List.mem_cons_of_mem _ (List.mem_cons_of_mem _ (List.mem_cons_of_mem _ hp))))
theorem due_append {h₀ : Heap} {L D D2 fa ea I ca dl tl fl : Addr} {m : Str → Option Value} {oD of oe oI oc o2 otl ofl : Obj} {rv : List Value} {re : Nat} {robjs news : List (Addr × Obj)} {x : Value} {Q : Value → Shared → Prop} (F : Fr h₀ L s.heap m)
    (N : News h₀ L s.heap ((D2, o2) :: (D, oD) :: (fa, of) :: (ea, oe) :: (I, oI) :: (ca, oc) :: (dl, listOf rv.toArray re) :: (tl, otl) :: (fl, ofl) :: (robjs ++ news)))
    (hr : ∀ p ∈ (I, oI) :: (ca, oc) :: (fa, of) :: (ea, oe) :: (tl, otl) :: (fl, ofl) :: (((D2, o2) :: robjs) ++ news), p.1 ≠ dl) (hsz : rv.length ≤ 100000)
    (h : ∀ h', Fr h₀ L h' m → News h₀ L h' ((I, oI) :: (ca, oc) :: (fa, of) :: (ea, oe) :: (dl, listOf (rv ++ [x]).toArray (re + 1)) :: (tl, otl) :: (fl, ofl) :: (((D2, o2) :: robjs) ++ news)) → Q .none { s with heap := h' }) :
    wpAny (model prog w) A (call (.builtin "list.append") [.ref dl, x]) Q E s := by
  refine append_one (ge := re) F N ?_ hr hsz fun h' F' N' => h h' F' (news_sub N' ?_)
  · intro p hp
    simp only [List.mem_cons, List.cons_append] at hp ⊢
    rcases hp with h | h | h | h | h | h | h | h | h
    · exact .inr (.inr (.inr (.inr (.inr (.inr (.inl h))))))
    · exact .inr (.inr (.inr (.inr (.inl h))))
    · exact .inr (.inr (.inr (.inr (.inr (.inl h)))))
    · exact .inr (.inr (.inl h))
    · exact .inr (.inr (.inr (.inl h)))
    · exact .inr (.inr (.inr (.inr (.inr (.inr (.inr (.inl h)))))))
    · exact .inr (.inr (.inr (.inr (.inr (.inr (.inr (.inr (.inl h))))))))
    · exact .inl h
    · exact .inr (.inr (.inr (.inr (.inr (.inr (.inr (.inr (.inr h))))))))
  · intro p hp
    simp only [List.mem_cons, List.cons_append] at hp ⊢
    rcases hp with h | h | h | h | h | h
    · exact .inr (.inl h)
    · exact .inr (.inr (.inl h))
    · exact .inr (.inr (.inr (.inl h)))
    · exact .inr (.inr (.inr (.inr (.inl h))))
    · exact .inl h
    · exact .inr (.inr (.inr (.inr (.inr h))))
local macro_rules | `(tactic| k_mem) => `(tactic| first | assumption | exact List.mem_cons_self | (refine List.mem_cons_of_mem _ ?_; k_mem))
local macro_rules | `(tactic| walk_at "call ref cons nil") => `(tactic| refine stopHere ?_)
local macro_rules | `(tactic| walk_at "exec For Name Call cons nil") => `(tactic| refine stopHere ?_)
local macro_rules | `(tactic| walk_at "pyIter ref") => `(tactic| refine stopHere ?_)
local macro_rules | `(tactic| walk_at "TurnPost") => `(tactic| (dsimp only [TurnPost]))
local macro_rules | `(tactic| walk_at "call builtin:list.append cons nil") => `(tactic| refine stopHere ?_)
local macro_rules | `(tactic| walk_at "call builtin:sorted cons nil") => `(tactic| refine stopHere ?_)
local macro_rules | `(tactic| k_all) => `(tactic| assumption)
local macro_rules | `(tactic| walk_at "binaryOp Pow int int") => `(tactic| first | (refine pow_pow (by assumption) ?_) | (refine pow_size (by assumption) (by decide) ?_))
theorem due_ok {p : Program} {loose : List Str} {mean : ExcName → Option Value} {mg mb : Str → Option Value}
    (n0 n1 n2 : Int) (c : Nat) (t0 t1 t2 t3 : Tok) (nl : Addr) (ne : Nat) (news : List (Addr × Obj)) (hm : (nl, listOf [.int n0 t0, .int n1 t1, .int n2 t2].toArray ne) ∈ news) (hc : c ≤ 4) (hc6 : ∀ k < c, (ports n0 n1 n2 (k + 1)).length ≤ 60)
    (dp un : Nat) (gd : Option (List Code)) (cn : Str) (cs : Scope) (a : Addr) (ccd : Value) (cl : List (Str × Addr)) (outer : List Env) (A₀ : Around) (base h₀ : Heap) (L : Addr) (m : Str → Option Value) (s : Shared) (Q E : Value → Shared → Prop)
    (B : Below A₀ base outer h₀) (F : Fr h₀ L s.heap m) (X : (hd.heap_39 w.params).In h₀) (N : News h₀ L s.heap news) (T : Top p loose mean mg mb h₀) (hk : cs.kind = .function)
    (hd : dp + 4 < recursionLimit) (hu : un + 200 < cLine)
    (ret : ∀ (rl : Addr) (rv : List Value) (re : Nat) (robjs : List (Addr × Obj)) (h' : Heap) (tk' : Nat), DatAll robjs rv (rowsD n0 n1 n2 c) → Fr h₀ L h' m → News h₀ L h' ((rl, listOf rv.toArray re) :: (robjs ++ news)) → Q (.ref rl) { s with heap := h', toks := tk' }) :
    wpAny (model prog w) (ktrTop dp un gd cn cs L a ccd cl outer) (call (.ref 91) [.ref nl, .int (c : Int) t3]) Q E s := by
  refine wpAny_call ?_
  refine' code_defC (binds := [(Str.ofString "numbers", .ref nl), (Str.ofString "count", .int (c : Int) t3)]) B F X N T rfl rfl hk ?k6 ?k7 ?k8 ?k9 ?kB ?kD ?_ ?c2 ?c3 ?c4
  case k6 => k_is
  case k7 => k_is
  case k8 => ktr_room
  case k9 => exact BindsTo.of_eq rfl
  case kB => exact rfl
  case kD => decide +kernel
  case c2 => exact rfl
  case c3 => exact rfl
  case c4 => exact rfl
  intro g' L' h' tk' cells' FG' F' N' Y' B' X' T' l1
  k_fold
  k_cells Y'
  simp only [List.cons_append, List.nil_append] at N'
  have o1 : ∀ p ∈ news, p.1 ≠ L' + 1 := fun p hp => Nat.ne_of_lt (Nat.lt_of_lt_of_le (l1 p hp) (by first | exact Nat.le_add_right _ _ | exact Nat.le_add_right _ 2 | exact Nat.le_add_right _ 3))
  have o2 : ∀ p ∈ news, p.1 ≠ L' + 1 + 1 := fun p hp => Nat.ne_of_lt (Nat.lt_of_lt_of_le (l1 p hp) (by first | exact Nat.le_add_right _ _ | exact Nat.le_add_right _ 2 | exact Nat.le_add_right _ 3))
  have o3 : ∀ p ∈ news, p.1 ≠ L' + 1 + 1 + 1 := fun p hp => Nat.ne_of_lt (Nat.lt_of_lt_of_le (l1 p hp) (by first | exact Nat.le_add_right _ _ | exact Nat.le_add_right _ 2 | exact Nat.le_add_right _ 3))
  k_steps
  refine StopP.go ?_
  refine wpAny_For ?_
  k_steps
  refine StopP.go ?_
  rename Fr _ _ _ _ => F1
  rename News _ _ _ _ => N1
  rename IsRange _ _ _ _ _ _ _ _ => R1
  rename _ = Data.cell (some _) => hd1
  rename _ < _ ∧ _ < _ ∧ _ < _ ∧ AllLt _ _ => ha1
  rename _ < _ ∧ _ < _ ∧ _ < _ ∧ _ < _ ∧ AllLt _ _ => ha2
  rename _ < _ ∧ _ < _ ∧ _ < _ ∧ _ < _ ∧ _ < _ ∧ AllLt _ _ => ha3
  obtain ⟨a11, a12, a13, a14⟩ := ha1
  obtain ⟨a21, a22, a23, a24, a25⟩ := ha2
  obtain ⟨a31, a32, a33, a34, a35, a36⟩ := ha3
  refine loopD (n0 := n0) (n1 := n1) (n2 := n2) (nl := nl) (L := L') rfl rfl R1 hc rfl rfl rfl F1 N1 l1 a11 a21 a31 hd1 ⟨_, by assumption⟩ ⟨_, by assumption⟩ rfl rfl rfl ?_ ?_
  · clear R1 F1 N1 hd1 a11 a12 a13 a14 a21 a22 a23 a24 a25 a31 a32 a33 a34 a35 a36
    rintro dl i t m₁ nx h tk I oI oc E' hi hI hS hSI hoc ⟨of, oe, tl, tw, te, fl, fw, fe, rv, re, robjs, rfl, hof, ⟨ov, hoe⟩, off1, off2, m1, m2, m3, htw, hfw, hrv⟩ F₁ N₁
    k_fold
    have F₂ := fr_pin (fr_pin (fr_pin F₁ (x := Str.ofString "numbers") m1) (x := Str.ofString "twos") m2) (x := Str.ofString "due") m3
    clear F₁
    have hmn : (nl, listOf [.int n0 t0, .int n1 t1, .int n2 t2].toArray ne) ∈ robjs ++ news := List.mem_append_right _ hm
    k_steps
    refine StopP.go ?_
    refine' lift_call (q := 2) (k := i) rfl (Int.add_comm _ _) Q2 (by omega) htw ?km ?kr B' F₂ X' N₁ T' ?kk ?kd ?ku ?_
    case km => k_mem
    case kr => k_mem
    case kk => rfl
    case kd => ktr_room
    case ku => ktr_units
    intro tl' tw' te' h3 tk3 htw' F3 N3 ltl
    k_steps
    refine StopP.go ?_
    rename Fr _ _ _ _ => F4
    rename News _ _ _ _ => N4
    refine' lift_call (q := 5) (k := i) rfl (Int.add_comm _ _) Q5 (by omega) hfw ?km ?kr B' F4 X' N4 T' ?kk ?kd ?ku ?_
    case km => k_mem
    case kr => k_mem
    case kk => rfl
    case kd => ktr_room
    case ku => ktr_units
    intro fl' fw' fe' h5 tk5 hfw' F5 N5 lfl
    try clear N4
    try clear F4
    try clear N₁
    try clear F₂
    try clear N3
    try clear F3
    have N6 : News g' L' h5 ((L' + 1, of) :: (L' + 1 + 1 + 1, oe) :: (I, oI) :: (L' + 1 + 1, oc) :: (dl, listOf rv.toArray re) :: (tl', listOf tw'.toArray te') :: (fl', listOf fw'.toArray fe') :: (robjs ++ news)) := by
      refine news_sub N5 fun p hp => ?_
      simp only [List.mem_cons] at hp ⊢
      rcases hp with h | h | h | h | h | h | h | h
      · exact .inr (.inr (.inr (.inr (.inl h))))
      · exact .inr (.inr (.inr (.inr (.inr (.inl h)))))
      · exact .inr (.inr (.inl h))
      · exact .inr (.inr (.inr (.inl h)))
      · exact .inr (.inr (.inr (.inr (.inr (.inr (.inl h))))))
      · exact .inr (.inl h)
      · exact .inl h
      · exact .inr (.inr (.inr (.inr (.inr (.inr (.inr (.inr (.inr h))))))))
    have hIf : I ≠ L' + 1 := fun e => hI _ List.mem_cons_self e.symm
    have hIe : I ≠ L' + 1 + 1 + 1 := fun e => hI _ (List.mem_cons_of_mem _ List.mem_cons_self) e.symm
    have hId : I ≠ dl := fun e => hI _ (List.mem_cons_of_mem _ (List.mem_cons_of_mem _ List.mem_cons_self)) e.symm
    have kI1 : I < tl' := ltl _ List.mem_cons_self
    have kI2 : I < fl' := lfl _ (List.mem_cons_of_mem _ List.mem_cons_self)
    have kS1 : L' + 1 + 1 < tl' := ltl (L' + 1 + 1, oc) (List.mem_cons_of_mem _ List.mem_cons_self)
    have kS2 : L' + 1 + 1 < fl' := lfl (L' + 1 + 1, oc) (List.mem_cons_of_mem _ (List.mem_cons_of_mem _ List.mem_cons_self))
    have kF1 : L' + 1 < tl' := ltl (L' + 1, of) (List.mem_cons_of_mem _ (List.mem_cons_of_mem _ List.mem_cons_self))
    have kF2 : L' + 1 < fl' := Nat.lt_of_succ_lt kS2
    have kE1 : L' + 1 + 1 + 1 < tl' := ltl (L' + 1 + 1 + 1, oe) (List.mem_cons_of_mem _ (List.mem_cons_of_mem _ (List.mem_cons_of_mem _ List.mem_cons_self)))
    have kE2 : L' + 1 + 1 + 1 < fl' := lfl (L' + 1 + 1 + 1, oe) (List.mem_cons_of_mem _ (List.mem_cons_of_mem _ (List.mem_cons_of_mem _ (List.mem_cons_of_mem _ List.mem_cons_self))))
    have kD1 : dl < tl' := ltl (dl, listOf rv.toArray re) (List.mem_cons_of_mem _ (List.mem_cons_of_mem _ (List.mem_cons_of_mem _ (List.mem_cons_of_mem _ List.mem_cons_self))))
    have kD2 : dl < fl' := lfl (dl, listOf rv.toArray re) (List.mem_cons_of_mem _ (List.mem_cons_of_mem _ (List.mem_cons_of_mem _ (List.mem_cons_of_mem _ (List.mem_cons_of_mem _ List.mem_cons_self)))))
    have offr : ∀ p ∈ robjs ++ news, (p.1 ≠ L' + 1 ∧ p.1 ≠ L' + 1 + 1 + 1) ∧ p.1 ≠ dl ∧ p.1 ≠ I ∧ p.1 ≠ L' + 1 + 1 := fun p hp =>
      ⟨off1 p (List.mem_cons_of_mem _ (List.mem_cons_of_mem _ (List.mem_cons_of_mem _ hp))), off2 p (List.mem_cons_of_mem _ (List.mem_cons_of_mem _ hp)),
        hI p (List.mem_cons_of_mem _ (List.mem_cons_of_mem _ (List.mem_cons_of_mem _ (List.mem_cons_of_mem _ (List.mem_cons_of_mem _ hp))))), hS p (List.mem_cons_of_mem _ (List.mem_cons_of_mem _ (List.mem_cons_of_mem _ (List.mem_cons_of_mem _ (List.mem_cons_of_mem _ hp)))))⟩
    have hdf := off1 _ List.mem_cons_self
    have hds : dl ≠ L' + 1 + 1 := hS _ (List.mem_cons_of_mem _ (List.mem_cons_of_mem _ List.mem_cons_self))
    have q1 : ∀ p ∈ (I, oI) :: (L' + 1 + 1, oc) :: (dl, listOf rv.toArray re) :: (tl', listOf tw'.toArray te') :: (fl', listOf fw'.toArray fe') :: (robjs ++ news), p.1 ≠ L' + 1 + 1 + 1 := by
      intro p hp
      simp only [List.mem_cons] at hp
      rcases hp with rfl | rfl | rfl | rfl | rfl | h
      · exact hIe
      · exact Nat.ne_of_lt (Nat.lt_succ_self _)
      · exact hdf.2
      · exact Nat.ne_of_gt kE1
      · exact Nat.ne_of_gt kE2
      · exact (offr p h).1.2
    have q2 : ∀ p ∈ (L' + 1 + 1 + 1, oe) :: (I, oI) :: (L' + 1 + 1, oc) :: (dl, listOf rv.toArray re) :: (tl', listOf tw'.toArray te') :: (fl', listOf fw'.toArray fe') :: (robjs ++ news), p.1 ≠ L' + 1 := by
      intro p hp
      simp only [List.mem_cons] at hp
      rcases hp with rfl | rfl | rfl | rfl | rfl | rfl | h
      · exact Nat.ne_of_gt (Nat.lt_succ_of_lt (Nat.lt_succ_self _))
      · exact hIf
      · exact Nat.ne_of_gt (Nat.lt_succ_self _)
      · exact hdf.1
      · exact Nat.ne_of_gt kF1
      · exact Nat.ne_of_gt kF2
      · exact (offr p h).1.1
    clear N5 ltl lfl
    have hi4 : I4 i := ⟨by omega⟩
    k_steps
    rename Fr _ _ _ _ => F7
    rename News _ _ _ _ => N7
    rename _ = Data.cell (some (Value.int (5 ^ _) _)) => he7
    rename _ = Data.cell (some (Value.ref fl')) => hf7
    have htl7 := (N7 (tl', listOf tw'.toArray te') (by k_mem)).1
    have hfl7 := (N7 (fl', listOf fw'.toArray fe') (by k_mem)).1
    refine comp2 (us := tw') (vs := fw') (ax := tl') (ay := fl') (nx := te') (ny := fe') (EltG i) (by with_unfolding_all rfl) (by decide) (by rfl) (by decide) (by rfl) (by rfl) (by decide) (fun _ => rfl) (fun _ _ => rfl) rfl ?_ htl7 hfl7 ?_ ?_ ?_ ?_
    · rw [IntsAre.length htw', IntsAre.length hfw', sizeLine_eq]
      have z1 := liftS_small n0 n1 n2 Q2 (k := i + 1) hi4.lt
      have z2 := liftS_small n0 n1 n2 Q5 (k := i + 1) hi4.lt
      have z3 := Nat.mul_le_mul z1 z2
      omega
    · intro Q' hQ'
      exact nameX_L F7 rfl hQ'
    · intro C s₂ E₂ Q' hk₂ hQ'
      have N8 := N7.grown hk₂
      exact lcf_cell N8 (by rfl) List.mem_cons_self hf7 hQ' (by rfl) (by rfl)
    · intro C u v s₂ m₂ E₂ hu hv hC hn mu mv hk₂
      obtain ⟨a₁, ta₁, ha₁, rfl⟩ := ints_mem htw' hu
      obtain ⟨b₁, tb₁, hb₁, rfl⟩ := ints_mem hfw' hv
      have hf1 : IntMulOk (5 ^ 2 ^ (i + 1)) a₁ := fit_right Q2 hi4 ha₁
      have hf2 : IntMulOk (1 - 5 ^ 2 ^ (i + 1)) b₁ := fit_right Q5 hi4 hb₁
      obtain ⟨oC, hoC, hnC⟩ := LCg.ns_obj hn
      have F8 := F7.keeps hk₂
      have N8 := N7.grown hk₂
      have hCg : g'.get? C = none := by
        cases e : g'.get? C with
        | none => rfl
        | some o => have := F7.keep C o e; rw [hC] at this; cases this
      have hCL : C ≠ L' := by
        rintro rfl
        obtain ⟨o, _, _, ho, _⟩ := F7.ns
        rw [hC] at ho; cases ho
      have N9 : News g' L' s₂.heap ((C, oC) :: _) := List.forall_mem_cons.mpr ⟨⟨hoC, hCL, hCg⟩, N8⟩
      clear N7 N8 F7
      have hten : (10 : Int) ^ (i + 1) ≠ 0 := Int.ne_of_gt (Int.pow_pos (by decide))
      show wpAny _ _ _ (EltP (EltG i _ _) s₂) _ _
      k_steps
      exact elt_end
    · intro D h8 tk8 zss hD hD8 hz hk8
      have hcrt := join_crt htw' hfw' hz
      have F8 := F7.keeps hk8
      have N8 := comp_news F7 N7 hD hD8 hk8
      clear N7 F7
      k_steps
      refine StopP.go ?_
      rename Fr _ _ _ _ => F9
      rename News _ _ _ _ => N9
      refine kso_sorted F9 N9 (vs := zss.flatten) ⟨_, (N9 _ List.mem_cons_self).1, rfl, _, rfl⟩ hcrt (crt_len hc hi hc6) ?_
      intro D2 vs' ns' c' h10 F10 N10 l10 hi10 _ hperm hsort _
      have hns : ns' = srt (ports n0 n1 n2 (i + 1)) := (srt_eq hperm hsort).trans (crt_srt n0 n1 n2 (show i + 1 ≤ 4 by omega))
      subst hns
      clear F9 N9
      have g1 : I < D2 := l10 (I, oI) (List.mem_cons_of_mem _ (List.mem_cons_of_mem _ (List.mem_cons_of_mem _ List.mem_cons_self)))
      have g2 : L' + 1 + 1 < D2 := l10 (L' + 1 + 1, oc) (List.mem_cons_of_mem _ (List.mem_cons_of_mem _ (List.mem_cons_of_mem _ (List.mem_cons_of_mem _ List.mem_cons_self))))
      have g3 : dl < D2 := l10 (dl, listOf rv.toArray re) (List.mem_cons_of_mem _ (List.mem_cons_of_mem _ (List.mem_cons_of_mem _ (List.mem_cons_of_mem _ (List.mem_cons_of_mem _ List.mem_cons_self)))))
      have g4 : L' + 1 < D2 := Nat.lt_of_succ_lt g2
      have g5 : L' + 1 + 1 + 1 < D2 := l10 _ (List.mem_cons_of_mem _ (List.mem_cons_of_mem _ List.mem_cons_self))
      have r1 : ∀ p ∈ (tl', listOf tw'.toArray te') :: (fl', listOf fw'.toArray fe') :: (((D2, listOf vs'.toArray c') :: robjs) ++ news), (p.1 ≠ L' + 1 ∧ p.1 ≠ L' + 1 + 1 + 1) ∧ p.1 ≠ dl ∧ p.1 ≠ I ∧ p.1 ≠ L' + 1 + 1 := by
        intro p hp
        simp only [List.mem_cons, List.cons_append] at hp
        rcases hp with rfl | rfl | rfl | h
        · exact ⟨⟨Nat.ne_of_gt kF1, Nat.ne_of_gt kE1⟩, Nat.ne_of_gt kD1, Nat.ne_of_gt kI1, Nat.ne_of_gt kS1⟩
        · exact ⟨⟨Nat.ne_of_gt kF2, Nat.ne_of_gt kE2⟩, Nat.ne_of_gt kD2, Nat.ne_of_gt kI2, Nat.ne_of_gt kS2⟩
        · exact ⟨⟨Nat.ne_of_gt g4, Nat.ne_of_gt g5⟩, Nat.ne_of_gt g3, Nat.ne_of_gt g1, Nat.ne_of_gt g2⟩
        · exact offr p h
      have hrvl : rv.length ≤ 100000 := by rw [hrv.length]; simp [rowsD]; omega
      k_steps
      refine StopP.go ?_
      refine due_append F10 N10 ?_ hrvl ?_
      · intro p hp
        rcases List.mem_cons.mp hp with rfl | hp
        · exact hId
        rcases List.mem_cons.mp hp with rfl | hp
        · exact fun e => hds e.symm
        rcases List.mem_cons.mp hp with rfl | hp
        · exact fun e => hdf.1 e.symm
        rcases List.mem_cons.mp hp with rfl | hp
        · exact fun e => hdf.2 e.symm
        · exact (r1 p hp).2.1
      intro h12 F12 N12
      k_steps
      refine ⟨rfl, _, _, _, _, rfl, F12, N12, ?_, ?_, _, _, tl', tw', te', fl', fw', fe', rv ++ [.ref D2], re + 1, (D2, listOf vs'.toArray c') :: robjs, rfl, hf7, ⟨_, he7⟩, ?_, fun p hp => (r1 p hp).2.1, rfl, rfl, rfl, htw', hfw', ?_⟩
      · intro p hp
        rcases List.mem_cons.mp hp with rfl | hp
        · exact fun e => hIf e.symm
        rcases List.mem_cons.mp hp with rfl | hp
        · exact fun e => hIe e.symm
        rcases List.mem_cons.mp hp with rfl | hp
        · exact fun e => hId e.symm
        · exact (r1 p hp).2.2.1
      · intro p hp
        rcases List.mem_cons.mp hp with rfl | hp
        · exact Nat.ne_of_lt (Nat.lt_succ_self _)
        rcases List.mem_cons.mp hp with rfl | hp
        · exact Nat.ne_of_gt (Nat.lt_succ_self _)
        rcases List.mem_cons.mp hp with rfl | hp
        · exact hds
        · exact (r1 p hp).2.2.2
      · intro p hp
        rcases List.mem_cons.mp hp with rfl | hp
        · exact hdf
        · exact (r1 p hp).1
      · rw [rowsD_succ]
        exact (hrv.mono fun p hp => List.mem_cons_of_mem _ hp).append (DatAll.one (row_dat List.mem_cons_self hi10))
  · clear R1 F1 N1 hd1 a11 a12 a13 a14 a21 a22 a23 a24 a25 a31 a32 a33 a34 a35 a36
    rintro dl m₁ nx h tk ⟨of, oe, tl, tw, te, fl, fw, fe, rv, re, robjs, rfl, hof, ⟨ov, hoe⟩, off1, off2, m1, m2, m3, htw, hfw, hrv⟩ F₁ N₁
    have F₂ := fr_pin F₁ (x := Str.ofString "due") m3
    clear F₁
    dsimp only
    k_steps
    exact ret dl rv re robjs _ _ hrv (by assumption) (news_sub (by assumption) fun p hp => done_sub hp)
end DueWalk
end Mine
namespace Mine
theorem three_ints {vs : List Value} {xs : List Int} (h : IntsAre vs xs) (hl : xs.length = 3) : ∃ n0 n1 n2 t0 t1 t2, vs = [.int n0 t0, .int n1 t1, .int n2 t2] := by
  cases h with
  | nil => cases hl
  | cons n0 t0 h =>
    cases h with
    | nil => cases hl
    | cons n1 t1 h =>
      cases h with
      | nil => cases hl
      | cons n2 t2 h =>
        cases h with
        | nil => exact ⟨n0, n1, n2, t0, t1, t2, rfl⟩
        | cons n3 t3 h => simp at hl
theorem numbers_len {ns : List Int} {f : Int → Int} : ((ns.take 3).map f ++ List.drop ((((ns.take 3).map f).length : Nat) : Int).toNat [1, 0, 0]).length = 3 := by
  simp only [List.length_append, List.length_map, List.length_take, List.length_drop, Int.toNat_natCast, List.length_cons, List.length_nil]
  omega
theorem rows_kqd {n0 n1 n2 : Int} {c : Nat} : ∀ d ∈ rowsD n0 n1 n2 c, kqdOk 8 d = true := by
  intro d hd
  obtain ⟨k, _, rfl⟩ := List.mem_map.mp hd
  unfold rowD
  simp [kqdOk]
section
variable {prog : Program} {w : World} {A : Around} {E : Value → Shared → Prop} {s : Shared}
theorem rows_eq {h₀ : Heap} {L a b : Addr} {news n₁ n₂ : List (Addr × Obj)} {xs ys : List Value} {ka kb : Nat} {n0 n1 n2 : Int} {c : Nat} {Q : Value → Shared → Prop} (N : News h₀ L s.heap news) (ma : (a, listOf xs.toArray ka) ∈ news) (mb : (b, listOf ys.toArray kb) ∈ news)
    (Da : DatAll n₁ xs (rowsD n0 n1 n2 c)) (sa : ∀ p ∈ n₁, p ∈ news) (Db : DatAll n₂ ys (rowsD n0 n1 n2 c)) (sb : ∀ p ∈ n₂, p ∈ news) (hu : A.units + 64 < cLine) (h : Q (.bool true) s) :
    wpAny (model prog w) A (compareOp .Eq (.ref a) (.ref b)) Q E s :=
  kqd_eq N ma rfl rfl Da sa mb rfl rfl Db sb rows_kqd rows_kqd hu (by simpa using h)
end
local macro_rules | `(tactic| k_mem) => `(tactic| first | assumption | exact List.mem_cons_self | (refine List.mem_cons_of_mem _ ?_; k_mem))
local macro_rules | `(tactic| walk_at "call ref cons nil") => `(tactic| refine stopHere ?_)
local macro_rules | `(tactic| walk_at "call builtin:len") => `(tactic| (refine' len_of ?k1 ?k2 ?k3 ?k4 ?_; (case k1 => assumption); (case k2 => k_mem); (case k3 => assumption); (case k4 => omega)))
local macro_rules | `(tactic| walk_at "compareOp Eq ref ref") => `(tactic| refine stopHere ?_)
theorem law_walk : Challenge.rw_pg0071_01.Holds := by
  refine hd ?_
  k_go0
  all_goals try k_fold
  k_steps
  refine StopP.go ?_
  rename Fr _ _ _ _ => F1
  rename News _ _ _ _ => N1
  rename Below _ _ _ _ => B1
  rename Top _ _ _ _ _ _ => T1
  rename Frag.In _ _ => X1
  rename IntsAre _ (List.map _ _ ++ _) => hI1
  obtain ⟨n0, n1, n2, t0, t1, t2, e0⟩ := three_ints hI1 numbers_len
  subst e0
  refine' rows_ok n0 n1 n2 t0 t1 t2 _ 0 _ List.mem_cons_self _ _ _ _ _ _ _ _ _ _ _ _ _ _ _ _ _ B1 F1 X1 N1 T1 ?kk ?kd ?ku ?_
  case kk => rfl
  case kd => ktr_room
  case ku => ktr_units
  intro c rl rv re robjs h2 tk2 hc hc6 hrv F2 N2
  have hrl : rv.length = c := by rw [hrv.length]; simp [rowsD]
  k_steps
  refine StopP.go ?_
  rename Fr _ _ _ _ => F3
  rename News _ _ _ _ => N3
  refine' due_ok n0 n1 n2 c t0 t1 t2 _ _ 0 _ (List.mem_cons_of_mem _ (List.mem_append_right _ List.mem_cons_self)) hc hc6 _ _ _ _ _ _ _ _ _ _ _ _ _ _ _ _ _ B1 F3 X1 N3 T1 ?kk ?kd ?ku ?_
  case kk => rfl
  case kd => ktr_room
  case ku => ktr_units
  intro rl2 rv2 re2 robjs2 h4 tk4 hrv2 F4 N4
  k_steps
  refine StopP.go ?_
  refine rows_eq N4 (List.mem_cons_of_mem _ (List.mem_append_right _ List.mem_cons_self)) List.mem_cons_self hrv ?_ hrv2 ?_ ?_ ?_
  · exact fun p hp => List.mem_cons_of_mem _ (List.mem_append_right _ (List.mem_cons_of_mem _ (List.mem_append_left _ hp)))
  · exact fun p hp => List.mem_cons_of_mem _ (List.mem_append_left _ hp)
  · ktr_units
  k_steps
end Mine
theorem PySem.Challenge.cw_pg0071_01_holds : PySem.Challenge.rw_pg0071_01.Holds :=
  Mine.law_walk
