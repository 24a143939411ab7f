import PyProof.Rows.All
import Wide.All
import OpenK.AllK
import Wide.FinOn
import Lean
import PySem.Challenge.RW_pg0153_03
set_option Elab.async false
set_option rowWalk.seconds 0

set_option genInjectivity false
set_option genSizeOf false

section
open PySem PySem.W PyProof.Rows
namespace Mine

noncomputable def Does (prog : Program) (w : World) (K : Frag) (p : Program) (loose : List Str) (mean : ExcName → Option Value) (mg mb : Str → Option Value)
    (f : Value) (vs : List Value) (dN uN : Nat) (news : List (Addr × Obj)) (Post : List (Addr × Obj) → Value → Prop) : Prop :=
  ∀ (dp un : Nat) (gd : Option (List Code)) (cn : Str) (cs : Scope) (a : Addr) (ccd : Value) (cl : List (Str × Addr)) (outer : List Env) (A₀ : Around) (base h₀ : Heap) (L : Addr) (m : Str → Option Value) (s : Shared) (Q E : Value → Shared → Prop),
    Below A₀ base outer h₀ → Fr h₀ L s.heap m → K.In h₀ → News h₀ L s.heap news → Top p loose mean mg mb h₀ → cs.kind = .function →
    dp + dN < recursionLimit → un + uN < cLine →
    (∀ r h' tk' tl, Fr h₀ L h' m → News h₀ L h' (tl ++ news) → (∀ q ∈ news, ∀ p ∈ tl, q.1 < p.1) → Post tl r → Q r { s with heap := h', toks := tk' }) →
    wpAny (model prog w) (ktrTop dp un gd cn cs L a ccd cl outer) (call f vs) Q E s

end Mine
namespace Mine
theorem Does.use {prog : Program} {w : World} {K : Frag} {p : Program} {loose : List Str} {mean : ExcName → Option Value} {mg mb : Str → Option Value} {f : Value} {vs : List Value} {dN uN : Nat} {news : List (Addr × Obj)} {Post : List (Addr × Obj) → Value → Prop}
    (C : Does prog w K p loose mean mg mb f vs dN uN news Post)
    {dp un : Nat} {gd : Option (List Code)} {cn : Str} {cs : Scope} {a : Addr} {ccd : Value} {cl : List (Str × Addr)} {outer : List Env} {A₀ : Around} {base h₀ : Heap} {L : Addr} {m : Str → Option Value} {s : Shared} {Q E : Value → Shared → Prop}
    (B : Below A₀ base outer h₀) (F : Fr h₀ L s.heap m) (X : K.In h₀) (N : News h₀ L s.heap news) (T : Top p loose mean mg mb h₀) (hk : cs.kind = .function) (hd : dp + dN < recursionLimit) (hu : un + uN < cLine)
    (h : ∀ r h' tk' tl, Fr h₀ L h' m → News h₀ L h' (tl ++ news) → (∀ q ∈ news, ∀ p ∈ tl, q.1 < p.1) → Post tl r → Q r { s with heap := h', toks := tk' }) :
    wpAny (model prog w) (ktrTop dp un gd cn cs L a ccd cl outer) (call f vs) Q E s := C dp un gd cn cs a ccd cl outer A₀ base h₀ L m s Q E B F X N T hk hd hu h
end Mine
end

section
namespace Mine
noncomputable def Stop (P : Prop) : Prop := P
theorem Stop.intro {P : Prop} (h : Stop P) : P := h
end Mine
end

section
open PySem PySem.W PyProof.Rows
namespace Mine
noncomputable def apL (n : Nat) : List Int := if n = 0 then [] else apL (n / 16) ++ [65 + ((n % 16 : Nat) : Int)]
termination_by n
decreasing_by omega
theorem apL_zero : apL 0 = [] := by rw [apL]; simp
theorem apL_pos {n : Nat} (h : n ≠ 0) : apL n = apL (n / 16) ++ [65 + ((n % 16 : Nat) : Int)] := by rw [apL]; simp [h]
theorem apL_len : ∀ (k n : Nat), n < 16 ^ k → (apL n).length ≤ k
  | 0, n, h => by
    have : n = 0 := by simpa using h
    subst this; simp [apL_zero]
  | k + 1, n, h => by
    by_cases h0 : n = 0
    · subst h0; simp [apL_zero]
    · rw [apL_pos h0, List.length_append, List.length_singleton]
      have := apL_len k (n / 16) (by rw [Nat.pow_succ] at h; omega)
      omega
noncomputable def apCodes : List Int := [65, 66, 67, 68, 69, 70, 71, 72, 73, 74, 75, 76, 77, 78, 79, 80]
theorem ap_turn {num : Int} {n : Nat} {ks : List Int} (h0 : 0 ≤ num) (hne : num ≠ 0) (h : apL num.toNat ++ ks = apL n) :
    apL (num.fdiv 16).toNat ++ ([65 + num.fmod 16] ++ ks) = apL n := by
  obtain ⟨k, rfl⟩ := Int.eq_ofNat_of_zero_le h0
  have hk : k ≠ 0 := fun e => hne (e ▸ rfl)
  rw [← h, Int.toNat_natCast, apL_pos hk]
  have e1 : ((k : Int).fdiv 16).toNat = k / 16 := by
    rw [Int.fdiv_eq_ediv_of_nonneg _ (by decide)]; rfl
  have e2 : (k : Int).fmod 16 = ((k % 16 : Nat) : Int) := by
    rw [Int.fmod_eq_emod_of_nonneg _ (by decide)]; rfl
  rw [e1, e2, List.append_assoc]
end Mine
end

section
open PySem PySem.W PyProof.Rows PySem.Spec PySem.Calls PyProof.V
namespace Mine

section
variable {prog : Program} {w : World} {A : Around} {E : Value → Shared → Prop} {s : Shared} {env : Env} {h₀ : Heap} {x : Str} {body : List Stmt} {Q : Flow → Shared → Prop}

noncomputable def MyEnd {σ : Type} (h₀ : Heap) (L I : Addr) (oI : Obj) (Led : σ → List (Addr × Obj)) (ps : σ → List (Str × Value)) (x : Str) (stored : List Str) (m₀ : Str → Option Value) (P : σ → Prop) (s₁ s₂ : Shared) : Prop :=
  ∃ c h' tk m' news', s₂ = { s₁ with heap := h', toks := tk } ∧ Fr h₀ L h' m' ∧ News h₀ L h' news' ∧ (I, oI) ∈ news' ∧ (∀ p ∈ Led c, p ∈ news') ∧ (∀ p ∈ Led c, p.1 ≠ I) ∧
    (∀ p ∈ ps c, m' p.1 = some p.2) ∧ (∀ z, z ≠ x → (∀ p ∈ ps c, z ≠ p.1) → stored.contains z = false → m' z = m₀ z) ∧ P c
noncomputable def MyTurn {σ : Type} (h₀ : Heap) (L I : Addr) (oI : Obj) (Led : σ → List (Addr × Obj)) (ps : σ → List (Str × Value)) (x : Str) (stored : List Str) (m₀ : Str → Option Value) (P : σ → Prop) (s₁ : Shared) (Q : Flow → Shared → Prop) (f : Flow) (s₂ : Shared) : Prop :=
  match f with
  | .ret v => Q (.ret v) s₂
  | .brk => Q .next s₂
  | _ => MyEnd h₀ L I oI Led ps x stored m₀ P s₁ s₂
theorem MyEnd.intro {σ : Type} {L I : Addr} {oI : Obj} {Led : σ → List (Addr × Obj)} {ps : σ → List (Str × Value)} {stored : List Str} {m₀ m' : Str → Option Value} {P : σ → Prop} {s₁ : Shared} {h' : Heap} {tk : Nat} {news' : List (Addr × Obj)} (c : σ)
    (F : Fr h₀ L h' m') (N : News h₀ L h' news') (hk : ∀ p ∈ ps c, m' p.1 = some p.2) (hI : (I, oI) ∈ news') (hl : ∀ p ∈ Led c, p ∈ news') (ho : ∀ p ∈ Led c, p.1 ≠ I)
    (hr : ∀ z, z ≠ x → (∀ p ∈ ps c, z ≠ p.1) → stored.contains z = false → m' z = m₀ z) (hp : P c) : MyEnd h₀ L I oI Led ps x stored m₀ P s₁ { s₁ with heap := h', toks := tk } :=
  ⟨c, h', tk, m', news', rfl, F, N, hI, hl, ho, hk, hr, hp⟩

theorem loop_my {σ : Type} {I : Addr} {n : Nat} {Pv : Nat → Value → Prop} {St : Nat → Heap → Prop} {m₀ : Str → Option Value} (Led : σ → List (Addr × Obj)) (ps : σ → List (Str × Value)) (stored : List Str) (P : Nat → σ → Prop) (c₀ : σ)
    (W : Walks prog w A I [I] [I] n Pv St) (hLI : env.locals ≠ I) (hI0 : h₀.get? I = none) (hlive : ∀ i h, St i h → ∃ o, h.get? I = some o) (hst : St 0 s.heap)
    (F : Fr h₀ env.locals s.heap m₀) (N : News h₀ env.locals s.heap (Led c₀)) (hoff : ∀ p ∈ Led c₀, p.1 ≠ I) (hk : ∀ p ∈ ps c₀, m₀ p.1 = some p.2) (hp : P 0 c₀)
    (turn : ∀ i c v (u : Str → Option Value) h tk oI, i < n → Pv i v → P i c → (∀ p ∈ Led c, p.1 ≠ I) →
      Fr h₀ env.locals h (fun y => if y = x then some v else kstB (fun z => if stored.contains z then u z else m₀ z) (ps c) y) → News h₀ env.locals h ((I, oI) :: Led c) →
      wpAny (model prog w) A (execs body env) (MyTurn h₀ env.locals I oI Led ps x stored m₀ (P (i + 1)) { s with heap := h, toks := tk } Q) E { s with heap := h, toks := tk })
    (done : ∀ c (u : Str → Option Value) h tk, P n c → Fr h₀ env.locals h (fun y => if y = x then u y else kstB (fun z => if stored.contains z then u z else m₀ z) (ps c) y) → News h₀ env.locals h (Led c) → Q .next { s with heap := h, toks := tk }) :
    LoopAtV prog w A h₀ env x body Q E (.ref I) s := by
  let J : Nat → (Str → Option Value) → List (Addr × Obj) → Prop := fun i m nx => ∃ c, nx = Led c ∧ (∀ p ∈ ps c, m p.1 = some p.2) ∧ (∀ z, z ≠ x → (∀ p ∈ ps c, z ≠ p.1) → stored.contains z = false → m z = m₀ z) ∧ P i c
  refine ⟨I, [I], [I], n, Pv, St, m₀, Led c₀, J, rfl, W, ?_, ?_, ?_, hst, F, N, ⟨c₀, rfl, hk, fun _ _ _ _ => rfl, hp⟩, ?_, ?_⟩
  · intro hm; exact hLI (List.mem_singleton.mp hm)
  · intro b hb; rw [List.mem_singleton.mp hb]; exact hI0
  · intro p hp hm; exact hoff p hp (List.mem_singleton.mp hm)
  · rintro i v m₁ news₁ s₁ own ⟨hh', tk', rfl⟩ hin hP ⟨c, rfl, h1, h2, hPc⟩ hnw hown hget hall hst₁ F₁ N₁
    obtain ⟨oI, hoI⟩ := hlive _ _ hst₁
    have hmem : (I, oI) ∈ own := hall I (List.mem_singleton.mpr rfl) hI0 oI hoI
    have hsub : ∀ p ∈ own, p = (I, oI) := fun p hp => by
      have e : p.1 = I := List.mem_singleton.mp (hown p hp)
      have g := hget p hp
      rw [e] at g
      have g' : hh'.get? I = some p.2 := g
      have g'' : hh'.get? I = some oI := hoI
      rw [g''] at g'
      exact Prod.ext e (Option.some.inj g').symm
    have N₂ : News h₀ env.locals hh' ((I, oI) :: Led c) := fun p hp => by
      rcases List.mem_cons.mp hp with rfl | hp
      · exact N₁ _ (List.mem_append_left _ hmem)
      · exact N₁ p (List.mem_append_right _ hp)
    refine wpAny_mono (turn i c v m₁ hh' tk' oI hin hP hPc (fun p hp e => hnw p hp (List.mem_singleton.mpr e)) (kst_fr h1 h2 F₁) N₂) (fun f s₂ p => ?_) fun _ _ e => e
    have fin : MyEnd h₀ env.locals I oI Led ps x stored m₀ (P (i + 1)) { s with heap := hh', toks := tk' } s₂ → LoopStepU h₀ env.locals [I] own (J (i + 1)) { s with heap := hh', toks := tk' } .next s₂ := by
      rintro ⟨c', h', tk, m', news', e, F', N', hI, hl, ho, hk', hr', hp'⟩
      refine ⟨rfl, h', tk, m', Led c', e, F', fun p hp => ?_, fun p hp hm => ho p hp (List.mem_singleton.mp hm), c', rfl, hk', hr', hp'⟩
      rcases List.mem_append.mp hp with hp | hp
      · rw [hsub p hp]; exact N' _ hI
      · exact N' p (hl p hp)
    cases f with
    | ret v => exact .ret p
    | brk => exact .brk p
    | next => exact .next (fin p)
    | cont => exact .cont (fin p)
  · rintro h' tk m' news' F' N' _ ⟨c, rfl, h1, h2, hPc⟩
    exact done c m' h' tk hPc (kst_frOut h1 h2 F') N'

theorem news_lt {h : Heap} {L : Addr} {news : List (Addr × Obj)} (N : News h₀ L h news) : ∀ p ∈ news, p.1 < h.objs.size := fun p hp => Heap.lt_size (N p hp).1

theorem for_text {σ : Type} {xt : Str} {tx : Tok} {m₀ : Str → Option Value} (Led : σ → List (Addr × Obj)) (ps : σ → List (Str × Value)) (stored : List Str) (P : List Nat → σ → Prop) (c₀ : σ)
    (hh : A.handled = none) (F : Fr h₀ env.locals s.heap m₀) (N : News h₀ env.locals s.heap (Led c₀)) (hk : ∀ p ∈ ps c₀, m₀ p.1 = some p.2) (hp : P [] c₀)
    (turn : ∀ (I : Addr) c (pre post : List Nat) (n : Nat) t (u : Str → Option Value) h tk oI, (∀ p ∈ Led c₀, p.1 < I) → xt.cps.toList = pre ++ n :: post → P pre c → (∀ p ∈ Led c, p.1 ≠ I) →
      Fr h₀ env.locals h (fun y => if y = x then some (.str ⟨#[n]⟩ t) else kstB (fun z => if stored.contains z then u z else m₀ z) (ps c) y) → News h₀ env.locals h ((I, oI) :: Led c) →
      wpAny (model prog w) A (execs body env) (MyTurn h₀ env.locals I oI Led ps x stored m₀ (P (pre ++ [n])) { s with heap := h, toks := tk } Q) E { s with heap := h, toks := tk })
    (done : ∀ c (u : Str → Option Value) h tk, P xt.cps.toList c → Fr h₀ env.locals h (fun y => if y = x then u y else kstB (fun z => if stored.contains z then u z else m₀ z) (ps c) y) → News h₀ env.locals h (Led c) → Q .next { s with heap := h, toks := tk }) :
    wpAny (model prog w) A (pyIter (.str xt tx)) (fun it s₂ => LoopAtV prog w A h₀ env x body Q E it s₂) E s := by
  have main : ∀ (o : Obj) (St : Nat → Heap → Prop), o.isFreed = false → Walks prog w A s.heap.objs.size [s.heap.objs.size] [s.heap.objs.size] xt.cps.size (SignAt xt) St → (∀ i h, St i h → ∃ o, h.get? s.heap.objs.size = some o) → St 0 (s.heap.push o) →
      LoopAtV prog w A h₀ env x body Q E (.ref s.heap.objs.size) { s with heap := s.heap.push o } := by
    intro o St hfree W hlive hst
    refine loop_my (s := { s with heap := s.heap.push o }) Led ps stored (fun i c => P (xt.cps.toList.take i) c) c₀ W (Nat.ne_of_lt F.ns.lt) (next_is_new F) hlive hst (F.push _)
      (fun p hp => ⟨Heap.get?_push_of_some _ (N p hp).1, (N p hp).2⟩) (fun p hp => Nat.ne_of_lt (news_lt N p hp)) hk (by simpa using hp) ?_ ?_
    · rintro i c v u h tk oI hi ⟨n, t, hn, rfl⟩ hP hoff F₁ N₁
      have hn' : xt.cps.toList[i]? = some n := by simpa using hn
      have hs : xt.cps.toList.take (i + 1) = xt.cps.toList.take i ++ [n] := by simp [List.take_add_one, hn']
      have e : xt.cps.toList = xt.cps.toList.take i ++ n :: xt.cps.toList.drop (i + 1) := by
        have ht := List.take_append_drop (i + 1) xt.cps.toList
        rw [hs, List.append_assoc] at ht
        exact ht.symm
      have := turn s.heap.objs.size c _ _ n t u h tk oI (news_lt N) e hP hoff F₁ N₁
      rw [← hs] at this
      exact this
    · rintro c u h tk hP F₁ N₁
      have hl : xt.cps.size = xt.cps.toList.length := by simp
      rw [hl, List.take_length] at hP
      exact done c u h tk hP F₁ N₁
  cases ha : xt.cps.all (· < 128)
  · refine wpAny_pyIter_wide ha (main _ _ rfl (Walks.strWide hh _ xt tx) (fun i h st => ?_) ⟨_, Heap.get?_push_size _ rfl, rfl, rfl⟩)
    obtain ⟨o, e, _⟩ := st; exact ⟨o, e⟩
  · refine wpAny_pyIter_ascii ha (main _ _ rfl (Walks.strAscii hh _ xt tx) (fun i h st => ?_) ⟨_, Heap.get?_push_size _ rfl, rfl, rfl⟩)
    obtain ⟨o, e, _⟩ := st; exact ⟨o, e⟩

theorem for_range {σ : Type} {r : Addr} {a₀ b₀ : Int} {t₀ u₀ v₀ : Tok} {n : Nat} {m₀ : Str → Option Value} (Led : σ → List (Addr × Obj)) (ps : σ → List (Str × Value)) (stored : List Str) (P : Nat → σ → Prop) (c₀ : σ)
    (hh : A.handled = none) (hr : IsRange s.heap r a₀ b₀ 1 t₀ u₀ v₀) (hsmall : Builtin.Range.small a₀ b₀ 1 = true) (hn : Builtin.Range.rangeSize a₀ b₀ 1 = (n : Int))
    (F : Fr h₀ env.locals s.heap m₀) (N : News h₀ env.locals s.heap (Led c₀)) (hk : ∀ p ∈ ps c₀, m₀ p.1 = some p.2) (hp : P 0 c₀)
    (turn : ∀ (I : Addr) c (i : Nat) t (u : Str → Option Value) h tk oI, (∀ p ∈ Led c₀, p.1 < I) → i < n → P i c → (∀ p ∈ Led c, p.1 ≠ I) →
      Fr h₀ env.locals h (fun y => if y = x then some (.int (a₀ + (i : Int)) t) else kstB (fun z => if stored.contains z then u z else m₀ z) (ps c) y) → News h₀ env.locals h ((I, oI) :: Led c) →
      wpAny (model prog w) A (execs body env) (MyTurn h₀ env.locals I oI Led ps x stored m₀ (P (i + 1)) { s with heap := h, toks := tk } Q) E { s with heap := h, toks := tk })
    (done : ∀ c (u : Str → Option Value) h tk, P n c → Fr h₀ env.locals h (fun y => if y = x then u y else kstB (fun z => if stored.contains z then u z else m₀ z) (ps c) y) → News h₀ env.locals h (Led c) → Q .next { s with heap := h, toks := tk }) :
    wpAny (model prog w) A (pyIter (.ref r)) (fun it s₂ => LoopAtV prog w A h₀ env x body Q E it s₂) E s := by
  refine wpAny_pyIter_range hr hsmall ?_
  have W : Walks prog w A s.heap.objs.size [s.heap.objs.size] [s.heap.objs.size] n (fun i v => i < n ∧ ∃ t, v = .int (a₀ + i * 1) t)
      (fun i h => IsRangeIter h s.heap.objs.size (a₀ + (i : Nat) * 1) ((n : Int) - (i : Nat)) 1) := (Walks.range hh _ a₀ 1 n).bound
  refine loop_my (s := { s with heap := s.heap.push _ }) Led ps stored P c₀ W (Nat.ne_of_lt F.ns.lt) (next_is_new F) (fun i h st => ⟨_, st⟩) (by show IsRangeIter _ _ _ _ _; rw [hn]; simpa using Heap.get?_push_size _ rfl) (F.push _)
      (fun p hp => ⟨Heap.get?_push_of_some _ (N p hp).1, (N p hp).2⟩) (fun p hp => Nat.ne_of_lt (news_lt N p hp)) hk hp ?_ done
  rintro i c v u h tk oI hi ⟨_, t, rfl⟩ hP hoff F₁ N₁
  rw [Int.mul_one] at F₁
  exact turn s.heap.objs.size c i t u h tk oI (news_lt N) hi hP hoff F₁ N₁
end

section
variable {prog : Program} {w : World} {A : Around} {E : Value → Shared → Prop} {s : Shared} {h₀ : Heap} {L l : Addr} {m : Str → Option Value} {news : List (Addr × Obj)} {vs : List Value} {Q : Value → Shared → Prop}
theorem tuple_of_my (F : Fr h₀ L s.heap m) (N : News h₀ L s.heap news) (hl : s.heap.IsList l vs.toArray) (hz : vs.length ≤ sizeLine)
    (h : ∀ D h', Fr h₀ L h' m → News h₀ L h' ((D, ({ cls := .type "tuple", data := .seq vs.toArray } : Obj)) :: news) → (∀ p ∈ news, p.1 < D) → Q (.ref D) { s with heap := h' }) : wpAny (model prog w) A (call (.type "tuple") [.ref l]) Q E s := by
  refine call_tuple_list hl (fun h' hk => ?_) (by rw [List.size_toArray]; exact hz)
  have F' : Fr h₀ L h' m := F.keeps hk
  have N' : News h₀ L h' news := fun p hp => ⟨hk _ _ (N p hp).1, (N p hp).2⟩
  exact h _ _ (F'.push _) (N'.push F' _) fun p hp => Heap.lt_size (N' p hp).1
end
theorem allNe_of {d d' : Addr} {news : List (Addr × Obj)} (h : AllLt d news) (hd : @LE.le Nat _ d d') : ∀ p ∈ news, p.1 ≠ d' := fun p hp => Nat.ne_of_lt (Nat.lt_of_lt_of_le (ktn_ltOf h p hp) hd)
end Mine
namespace Mine
section
variable {prog : Program} {w : World} {A : Around} {E : Value → Shared → Prop} {s : Shared} {h₀ : Heap} {L l : Addr} {news : List (Addr × Obj)} {vs : List Value} {ns : List Int} {Q : Value → Shared → Prop} {k : Int} {u : Tok}
theorem len_tup_my (N : News h₀ L s.heap news) (hm : (l, ({ cls := .type "tuple", data := .seq vs.toArray } : Obj)) ∈ news) (hI : IntsAre vs ns) (hz : ns.length ≤ 1048576) (h : Q (.int ns.length (s.toks + 1)) { s with toks := s.toks + 1 + 1 }) :
    wpAny (model prog w) A (call (.builtin "len") [.ref l]) Q E s := by
  have e : vs.toArray.size = ns.length := by rw [List.size_toArray]; exact hI.length
  refine len_tuple (News.isTup N hm) (by rw [e]; omega) ?_
  rw [e]; exact h
theorem item_tup_my {value slice : Expr} (N : News h₀ L s.heap news) (hm : (l, ({ cls := .type "tuple", data := .seq vs.toArray } : Obj)) ∈ news) (hI : IntsAre vs ns) (h0 : 0 ≤ k) (h1 : k < ns.length) (hz : ns.length ≤ 1048576) (h : ∀ t, Q (.int (ns.getD k.toNat 0) t) s)
    (hs : subscripted slice false (.ref l) (.int k u) = operate [.ref l, .int k u] (getItem (.ref l) (.int k u))) (hg : ∀ r, letTemporaryGo value (.ref l) r = pure ()) :
    wpAny (model prog w) A (subscriptTail value slice (.ref l) (.int k u)) Q E s := by
  have hl := hI.length
  have hlt : k.toNat < ns.length := by omega
  obtain ⟨t, hx⟩ := hI.get k.toNat ns[k.toNat] (by simp [hlt])
  have e : ns.getD k.toNat 0 = ns[k.toNat] := by simp [List.getD_eq_getElem?_getD, hlt]
  rw [e] at h
  exact item_tupleL (News.isTup N hm) (by omega) (by omega) (seqIndex_of h0 (by omega)) hx (h t) hs hg
end
theorem fr_gen {h₀ h : Heap} {L : Addr} {m : Str → Option Value} (F : Fr h₀ L h m) : ∃ m', m' = m ∧ Fr h₀ L h m' := ⟨m, rfl, F⟩
end Mine
end

section
open PySem PySem.W PyProof.Rows PySem.Spec PySem.Calls PyProof.V
namespace Mine
section
variable {prog : Program} {w : World} {A : Around} {E : Value → Shared → Prop} {s : Shared} {env : Env} {h₀ : Heap} {x : Str} {body : List Stmt} {Q : Flow → Shared → Prop}
noncomputable def MyTurnX {σ : Type} (h₀ : Heap) (L I : Addr) (oI : Obj) (Led : σ → List (Addr × Obj)) (ps : σ → List (Str × Value)) (x : Str) (stored : List Str) (m₀ : Str → Option Value) (P X : σ → Prop) (s₁ : Shared) (Q : Flow → Shared → Prop) (f : Flow) (s₂ : Shared) : Prop :=
  match f with
  | .ret v => Q (.ret v) s₂
  | .brk => MyEnd h₀ L I oI Led ps x stored m₀ X s₁ s₂
  | _ => MyEnd h₀ L I oI Led ps x stored m₀ P s₁ s₂
theorem for_textX {σ : Type} {xt : Str} {tx : Tok} {m₀ : Str → Option Value} (Led : σ → List (Addr × Obj)) (ps : σ → List (Str × Value)) (stored : List Str) (P : List Nat → σ → Prop) (X : σ → Prop) (c₀ : σ)
    (hh : A.handled = none) (F : Fr h₀ env.locals s.heap m₀) (N : News h₀ env.locals s.heap (Led c₀)) (hk : ∀ p ∈ ps c₀, m₀ p.1 = some p.2) (hp : P [] c₀) (hX : ∀ c, P xt.cps.toList c → X c)
    (turn : ∀ (I : Addr) c (pre post : List Nat) (n : Nat) t (u : Str → Option Value) h tk oI, (∀ p ∈ Led c₀, p.1 < I) → xt.cps.toList = pre ++ n :: post → P pre c → (∀ p ∈ Led c, p.1 ≠ I) →
      Fr h₀ env.locals h (fun y => if y = x then some (.str ⟨#[n]⟩ t) else kstB (fun z => if stored.contains z then u z else m₀ z) (ps c) y) → News h₀ env.locals h ((I, oI) :: Led c) →
      wpAny (model prog w) A (execs body env) (MyTurnX h₀ env.locals I oI Led ps x stored m₀ (P (pre ++ [n])) X { s with heap := h, toks := tk } Q) E { s with heap := h, toks := tk })
    (done : ∀ c (u : Str → Option Value) h tk, X c → Fr h₀ env.locals h (fun y => if y = x then u y else kstB (fun z => if stored.contains z then u z else m₀ z) (ps c) y) → News h₀ env.locals h (Led c) → Q .next { s with heap := h, toks := tk }) :
    wpAny (model prog w) A (pyIter (.str xt tx)) (fun it s₂ => LoopAtV prog w A h₀ env x body Q E it s₂) E s := by
  refine for_text Led ps stored P c₀ hh F N hk hp (fun I c pre post n t u h tk oI h1 h2 h3 h4 F₁ N₁ => ?_) fun c u h tk hP F₁ N₁ => done c u h tk (hX c hP) F₁ N₁
  refine wpAny_mono (turn I c pre post n t u h tk oI h1 h2 h3 h4 F₁ N₁) (fun f s₂ p => ?_) fun _ _ e => e
  cases f with
  | ret v => exact p
  | brk =>
    obtain ⟨c', h', tk', m', news', rfl, F', N', -, hl, -, hk', hr', hp'⟩ := p
    exact done c' m' h' tk' hp' (kst_frOut hk' hr' F') fun p hp => N' p (hl p hp)
  | next => exact p
  | cont => exact p
end
end Mine
end

section
open PySem PySem.W PyProof.Rows PySem.Spec PySem.Calls PyProof.V
namespace Mine
section
variable {prog : Program} {w : World} {A : Around} {E : Value → Shared → Prop} {s : Shared} {env : Env} {h₀ : Heap} {x : Str} {target : Expr} {body : List Stmt} {Q : Flow → Shared → Prop}
theorem loop_turns {σ : Type} {I : Addr} {n : Nat} {Pv : Nat → Value → Prop} {St : Nat → Heap → Prop} {m₀ : Str → Option Value} (Led : σ → List (Addr × Obj)) (ps : σ → List (Str × Value)) (stored : List Str) (P : Nat → σ → Prop) (c₀ : σ)
    (W : Walks prog w A I [I] [I] n Pv St) (hgo : ∀ i v (s : Shared) (Q : Unit → Shared → Prop) (E : Value → Shared → Prop), St i s.heap → Q () s → wpAny (model prog w) A (letOwnedTupleGo target (.ref I) v) Q E s) (hLI : env.locals ≠ I) (hI0 : h₀.get? I = none) (hlive : ∀ i h, St i h → ∃ o, h.get? I = some o) (hst : St 0 s.heap)
    (F : Fr h₀ env.locals s.heap m₀) (N : News h₀ env.locals s.heap (Led c₀)) (hoff : ∀ p ∈ Led c₀, p.1 ≠ I) (hk : ∀ p ∈ ps c₀, m₀ p.1 = some p.2) (hp : P 0 c₀)
    (turn : ∀ i c v (u : Str → Option Value) h tk oI, i < n → Pv i v → P i c → (∀ p ∈ Led c, p.1 ≠ I) →
      Fr h₀ env.locals h (fun y => if y = x then u y else kstB (fun z => if stored.contains z then u z else m₀ z) (ps c) y) → News h₀ env.locals h ((I, oI) :: Led c) →
      wpAny (model prog w) A (assign target env v) (fun _ s₃ => wpAny (model prog w) A (execs body env) (MyTurn h₀ env.locals I oI Led ps x stored m₀ (P (i + 1)) { s with heap := h, toks := tk } Q) E s₃) E { s with heap := h, toks := tk })
    (done : ∀ c (u : Str → Option Value) h tk, P n c → Fr h₀ env.locals h (fun y => if y = x then u y else kstB (fun z => if stored.contains z then u z else m₀ z) (ps c) y) → News h₀ env.locals h (Led c) → Q .next { s with heap := h, toks := tk }) :
    TurnsAt prog w A h₀ env target body Q E (.ref I) s := by
  let J : Nat → (Str → Option Value) → List (Addr × Obj) → Prop := fun i m nx => ∃ c, nx = Led c ∧ (∀ p ∈ ps c, m p.1 = some p.2) ∧ (∀ z, z ≠ x → (∀ p ∈ ps c, z ≠ p.1) → stored.contains z = false → m z = m₀ z) ∧ P i c
  refine ⟨I, [I], [I], n, _, _, St, m₀, Led c₀, J, rfl, KTurns.ofWalks W hgo, ?_, ?_, ?_, hst, F, N, ⟨c₀, rfl, hk, fun _ _ _ _ => rfl, hp⟩, ?_, ?_⟩
  · intro hm; exact hLI (List.mem_singleton.mp hm)
  · intro b hb; rw [List.mem_singleton.mp hb]; exact hI0
  · intro p hp hm; exact hoff p hp (List.mem_singleton.mp hm)
  · rintro i v m₁ news₁ hh' tk' own hin hP ⟨c, rfl, h1, h2, hPc⟩ hnw hown hget hall hst₁ F₁ N₁
    obtain ⟨oI, hoI⟩ := hlive _ _ hst₁
    have hmem : (I, oI) ∈ own := hall I (List.mem_singleton.mpr rfl) hI0 oI hoI
    have hsub : ∀ p ∈ own, p = (I, oI) := fun p hp => by
      have e : p.1 = I := List.mem_singleton.mp (hown p hp)
      have g := hget p hp
      rw [e] at g
      have g' : hh'.get? I = some p.2 := g
      have g'' : hh'.get? I = some oI := hoI
      rw [g''] at g'
      exact Prod.ext e (Option.some.inj g').symm
    have N₂ : News h₀ env.locals hh' ((I, oI) :: Led c) := fun p hp => by
      rcases List.mem_cons.mp hp with rfl | hp
      · exact N₁ _ (List.mem_append_left _ hmem)
      · exact N₁ p (List.mem_append_right _ hp)
    refine wpAny_mono (turn i c v m₁ hh' tk' oI hin hP hPc (fun p hp e => hnw p hp (List.mem_singleton.mpr e)) (kst_frOut h1 h2 F₁) N₂) (fun _ s₃ q => wpAny_mono q (fun f s₂ p => ?_) fun _ _ e => e) fun _ _ e => e
    have fin : MyEnd h₀ env.locals I oI Led ps x stored m₀ (P (i + 1)) { s with heap := hh', toks := tk' } s₂ → LoopStepU h₀ env.locals [I] own (J (i + 1)) { s with heap := hh', toks := tk' } .next s₂ := by
      rintro ⟨c', h', tk, m', news', e, F', N', hI, hl, ho, hk', hr', hp'⟩
      refine ⟨rfl, h', tk, m', Led c', e, F', fun p hp => ?_, fun p hp hm => ho p hp (List.mem_singleton.mp hm), c', rfl, hk', hr', hp'⟩
      rcases List.mem_append.mp hp with hp | hp
      · rw [hsub p hp]; exact N' _ hI
      · exact N' p (hl p hp)
    cases f with
    | ret v => exact .ret p
    | brk => exact .brk p
    | next => exact .next (fin p)
    | cont => exact .cont (fin p)
  · rintro h' tk m' news' F' N' _ ⟨c, rfl, h1, h2, hPc⟩
    exact done c m' h' tk hPc (kst_frOut h1 h2 F') N'
theorem turns_range {σ : Type} {r : Addr} {a₀ b₀ : Int} {t₀ u₀ v₀ : Tok} {n : Nat} {y : Str} {py : Pos} {m₀ : Str → Option Value} (Led : σ → List (Addr × Obj)) (ps : σ → List (Str × Value)) (stored : List Str) (P : Nat → σ → Prop) (c₀ : σ)
    (hh : A.handled = none) (hr : IsRange s.heap r a₀ b₀ 1 t₀ u₀ v₀) (hsmall : Builtin.Range.small a₀ b₀ 1 = true) (hn : Builtin.Range.rangeSize a₀ b₀ 1 = (n : Int))
    (F : Fr h₀ env.locals s.heap m₀) (N : News h₀ env.locals s.heap (Led c₀)) (hk : ∀ p ∈ ps c₀, m₀ p.1 = some p.2) (hp : P 0 c₀)
    (turn : ∀ (I : Addr) c (i : Nat) t (u : Str → Option Value) h tk oI, (∀ p ∈ Led c₀, p.1 < I) → i < n → P i c → (∀ p ∈ Led c, p.1 ≠ I) →
      Fr h₀ env.locals h (fun y => if y = x then u y else kstB (fun z => if stored.contains z then u z else m₀ z) (ps c) y) → News h₀ env.locals h ((I, oI) :: Led c) →
      wpAny (model prog w) A (assign (.Name y py) env (.int (a₀ + (i : Int)) t)) (fun _ s₃ => wpAny (model prog w) A (execs body env) (MyTurn h₀ env.locals I oI Led ps x stored m₀ (P (i + 1)) { s with heap := h, toks := tk } Q) E s₃) E { s with heap := h, toks := tk })
    (done : ∀ c (u : Str → Option Value) h tk, P n c → Fr h₀ env.locals h (fun y => if y = x then u y else kstB (fun z => if stored.contains z then u z else m₀ z) (ps c) y) → News h₀ env.locals h (Led c) → Q .next { s with heap := h, toks := tk }) :
    wpAny (model prog w) A (pyIter (.ref r)) (fun it s₂ => TurnsAt prog w A h₀ env (.Name y py) body Q E it s₂) E s := by
  refine wpAny_pyIter_range hr hsmall ?_
  have W : Walks prog w A s.heap.objs.size [s.heap.objs.size] [s.heap.objs.size] n (fun i v => i < n ∧ ∃ t, v = .int (a₀ + i * 1) t)
      (fun i h => IsRangeIter h s.heap.objs.size (a₀ + (i : Nat) * 1) ((n : Int) - (i : Nat)) 1) := (Walks.range hh _ a₀ 1 n).bound
  refine loop_turns (s := { s with heap := s.heap.push _ }) Led ps stored P c₀ W (fun i v s Q E _ hq => wpAny_pure hq) (Nat.ne_of_lt F.ns.lt) (next_is_new F) (fun i h st => ⟨_, st⟩) (by show IsRangeIter _ _ _ _ _; rw [hn]; simpa using Heap.get?_push_size _ rfl) (F.push _)
      (fun p hp => ⟨Heap.get?_push_of_some _ (N p hp).1, (N p hp).2⟩) (fun p hp => Nat.ne_of_lt (news_lt N p hp)) hk hp ?_ done
  rintro i c v u h tk oI hi ⟨_, t, rfl⟩ hP hoff F₁ N₁
  rw [Int.mul_one]
  exact turn s.heap.objs.size c i t u h tk oI (news_lt N) hi hP hoff F₁ N₁
end
end Mine
end

section
open PySem PySem.W PyProof.Rows
namespace Mine
noncomputable def Hid (P : Prop) : Prop := P
noncomputable def wsStep (st : List Int × Int × Int × Int) (c : Nat) : List Int × Int × Int × Int :=
  if c = 32 then (st.1, st.2.1 + 1, st.2.2.1 + 1, st.2.2.2)
  else
    let g := if (st.1.length : Int) ≤ st.2.1 then st.1 ++ (List.replicate (st.2.1 - (st.1.length : Int) + 1).toNat [(0 : Int)]).flatten else st.1
    (g.set st.2.1.toNat (g.getD st.2.1.toNat 0 + 1), 0, st.2.2.1 + 1, st.2.2.2 + 1)
noncomputable def wsRun (pre : List Nat) : List Int × Int × Int × Int := pre.foldl wsStep ([], 0, 0, 0)
noncomputable def blank (c : Nat) : Prop := c = 32 ∨ c = 9
theorem wsRun_snoc (pre : List Nat) (c : Nat) : wsRun (pre ++ [c]) = wsStep (wsRun pre) c := by simp [wsRun]
theorem flat_zero (k : Nat) : ((List.replicate k [(0 : Int)]).flatten).length = k := by
  induction k with
  | zero => rfl
  | succ k ih => rw [List.replicate_succ, List.flatten_cons, List.length_append, ih]; simp; omega
theorem wsStep_bound {st : List Int × Int × Int × Int} {k : Nat} (c : Nat) (h : st.1.length ≤ k ∧ 0 ≤ st.2.1 ∧ st.2.1 ≤ k ∧ 0 ≤ st.2.2.1 ∧ st.2.2.1 ≤ k ∧ 0 ≤ st.2.2.2 ∧ st.2.2.2 ≤ k) :
    (wsStep st c).1.length ≤ k + 1 ∧ 0 ≤ (wsStep st c).2.1 ∧ (wsStep st c).2.1 ≤ ((k + 1 : Nat) : Int) ∧ 0 ≤ (wsStep st c).2.2.1 ∧ (wsStep st c).2.2.1 ≤ ((k + 1 : Nat) : Int) ∧ 0 ≤ (wsStep st c).2.2.2 ∧ (wsStep st c).2.2.2 ≤ ((k + 1 : Nat) : Int) := by
  obtain ⟨h1, h2, h3, h4, h5, h6, h7⟩ := h
  unfold wsStep
  split
  · refine ⟨by show st.1.length ≤ k + 1; omega, by show 0 ≤ st.2.1 + 1; omega, by show st.2.1 + 1 ≤ _; omega, by show 0 ≤ st.2.2.1 + 1; omega, by show st.2.2.1 + 1 ≤ _; omega, h6, by show st.2.2.2 ≤ _; omega⟩
  · refine ⟨?_, Int.le_refl _, by show (0 : Int) ≤ _; omega, by show 0 ≤ st.2.2.1 + 1; omega, by show st.2.2.1 + 1 ≤ _; omega, by show 0 ≤ st.2.2.2 + 1; omega, by show st.2.2.2 + 1 ≤ _; omega⟩
    show (List.set _ _ _).length ≤ k + 1
    rw [List.length_set]
    split
    · rw [List.length_append, flat_zero]; omega
    · omega
theorem wsRun_bound (pre : List Nat) : (wsRun pre).1.length ≤ pre.length ∧ 0 ≤ (wsRun pre).2.1 ∧ (wsRun pre).2.1 ≤ pre.length ∧ 0 ≤ (wsRun pre).2.2.1 ∧ (wsRun pre).2.2.1 ≤ pre.length ∧ 0 ≤ (wsRun pre).2.2.2 ∧ (wsRun pre).2.2.2 ≤ pre.length := by
  have all : ∀ l : List Nat, ∀ st : List Int × Int × Int × Int, ∀ k : Nat, (st.1.length ≤ k ∧ 0 ≤ st.2.1 ∧ st.2.1 ≤ k ∧ 0 ≤ st.2.2.1 ∧ st.2.2.1 ≤ k ∧ 0 ≤ st.2.2.2 ∧ st.2.2.2 ≤ k) →
      ((l.foldl wsStep st).1.length ≤ k + l.length ∧ 0 ≤ (l.foldl wsStep st).2.1 ∧ (l.foldl wsStep st).2.1 ≤ ((k + l.length : Nat) : Int) ∧ 0 ≤ (l.foldl wsStep st).2.2.1 ∧ (l.foldl wsStep st).2.2.1 ≤ ((k + l.length : Nat) : Int) ∧ 0 ≤ (l.foldl wsStep st).2.2.2 ∧ (l.foldl wsStep st).2.2.2 ≤ ((k + l.length : Nat) : Int)) := by
    intro l
    induction l with
    | nil => intro st k h; simpa using h
    | cons c r ih =>
      intro st k h
      have := ih (wsStep st c) (k + 1) (wsStep_bound c h)
      rw [List.length_cons, show k + (r.length + 1) = k + 1 + r.length by omega]
      exact this
  have := all pre ([], 0, 0, 0) 0 (by simp)
  simpa [wsRun] using this
noncomputable def wsRead (cs : List Nat) : List Int × Int × Int × Int := wsRun (cs.takeWhile fun c => c = 32 || c = 9)
theorem takeWhile_all {cs : List Nat} (h : ∀ c ∈ cs, blank c) : (cs.takeWhile fun c => c = 32 || c = 9) = cs := by
  induction cs with
  | nil => rfl
  | cons c r ih =>
    have hc := h c (.head _)
    rw [List.takeWhile_cons_of_pos (by simpa [blank] using hc), ih fun d hd => h d (.tail _ hd)]
theorem takeWhile_stop {pre post : List Nat} {c : Nat} (h : ∀ c ∈ pre, blank c) (hc : ¬ blank c) : ((pre ++ c :: post).takeWhile fun c => c = 32 || c = 9) = pre := by
  induction pre with
  | nil => rw [List.nil_append, List.takeWhile_cons_of_neg]; simpa [blank] using hc
  | cons d r ih =>
    have hd := h d (.head _)
    rw [List.cons_append, List.takeWhile_cons_of_pos (by simpa [blank] using hd), ih fun e he => h e (.tail _ he)]
end Mine
namespace Mine
inductive LeadIn (P : Params) (C : Addr) (news : List (Addr × Obj)) (v : Value) (st : List Int × Int × Int × Int) : Prop
  | mk (x d T Tc : Addr) (vs : List Value) (raw : Str) (t0 t1 t2 t3 k0 k1 k2 k3 k4 : Tok) (ep : Nat) (e : v = .ref x) (m1 : (x, instObj C d) ∈ news)
    (m2 : (d, dictOf [⟨PyData.keyHash P (Str.ofString "raw"), .str (Str.ofString "raw") k0, .str raw t0⟩, ⟨PyData.keyHash P (Str.ofString "n"), .str (Str.ofString "n") k1, .int st.2.2.1 t1⟩, ⟨PyData.keyHash P (Str.ofString "nt"), .str (Str.ofString "nt") k2, .int st.2.2.2 t2⟩,
      ⟨PyData.keyHash P (Str.ofString "norm"), .str (Str.ofString "norm") k3, .ref T⟩, ⟨PyData.keyHash P (Str.ofString "is_simple"), .str (Str.ofString "is_simple") k4, .bool (decide ((st.1.length : Int) ≤ 1))⟩] ep) ∈ news)
    (m3 : (T, ({ cls := .type "tuple", data := .seq #[.ref Tc, .int st.2.1 t3] } : Obj)) ∈ news) (m4 : (Tc, ({ cls := .type "tuple", data := .seq vs.toArray } : Obj)) ∈ news) (hI : IntsAre vs st.1) : LeadIn P C news v st
theorem LeadIn.mono {P : Params} {C : Addr} {news news' : List (Addr × Obj)} {v : Value} {st : List Int × Int × Int × Int} (h : LeadIn P C news v st) (hs : ∀ p ∈ news, p ∈ news') : LeadIn P C news' v st := by
  obtain ⟨x, d, T, Tc, vs, raw, t0, t1, t2, t3, k0, k1, k2, k3, k4, ep, e, h1, h2, h3, h4, h5⟩ := h
  exact ⟨x, d, T, Tc, vs, raw, t0, t1, t2, t3, k0, k1, k2, k3, k4, ep, e, hs _ h1, hs _ h2, hs _ h3, hs _ h4, h5⟩
end Mine
namespace Mine
theorem mul_ok_left {a b : Int} (h : a.natAbs < 18446744073709551616) : IntMulOk a b := IntMulOk.of_left (intBits_le_iff.mpr (by omega))
theorem fdiv_ok {a k b : Int} (h0 : 0 ≤ a) (ha : a < 4611686018427387904) (hk : 1 ≤ k) : IntMulOk (a.fdiv k) b := by
  refine mul_ok_left ?_
  rw [Int.fdiv_eq_ediv_of_nonneg _ (by omega)]
  have h1 : 0 ≤ a / k := Int.ediv_nonneg h0 (by omega)
  have h2 : a / k ≤ a := Int.ediv_le_self _ h0
  omega
noncomputable def ilAcc (cs : List Int) (k : Int) : Nat → Int
  | 0 => 0
  | i + 1 => ilAcc cs k i + (k + (i : Int)).fdiv k * cs.getD (k + (i : Int)).toNat 0
noncomputable def ilev (st : List Int × Int × Int × Int) (k : Int) : Int := st.2.1 + k * (ilAcc st.1 k ((st.1.length : Int) - k).toNat + st.2.2.2)
end Mine
namespace Mine
theorem wsRead_len (cs : List Nat) : (wsRead cs).1.length ≤ cs.length := by
  unfold wsRead
  refine Nat.le_trans (wsRun_bound _).1 ?_
  induction cs with
  | nil => exact Nat.le_refl _
  | cons c r ih =>
    rw [List.takeWhile_cons]
    split
    · simpa using ih
    · simp
theorem str_len (x : Str) : x.cps.toList.length = x.length := by simp [Str.length]
theorem news_right {h₀ h : Heap} {L : Addr} {a b : List (Addr × Obj)} (N : News h₀ L h (a ++ b)) : News h₀ L h b := fun p hp => N p (List.mem_append_right _ hp)
end Mine
namespace Mine
end Mine
end

section
open PySem PySem.W PyProof.Rows
namespace Mine
noncomputable def rowCodes (r : Nat) : List Nat := List.replicate r 32 ++ [9]
noncomputable def rowsCodes (rows : List Nat) : List Nat := (rows.map rowCodes).flatten
noncomputable def bump (cs : List Int) (r : Nat) : List Int :=
  (if cs.length ≤ r then cs ++ List.replicate (r + 1 - cs.length) 0 else cs).set r ((if cs.length ≤ r then cs ++ List.replicate (r + 1 - cs.length) 0 else cs).getD r 0 + 1)
noncomputable def hist (rows : List Nat) : List Int := rows.foldl bump []
theorem flat_zeros (k : Nat) : (List.replicate k [(0 : Int)]).flatten = List.replicate k 0 := by
  induction k with
  | zero => rfl
  | succ k ih => rw [List.replicate_succ, List.flatten_cons, ih, List.replicate_succ]; rfl
theorem spaces_step (k : Nat) : ∀ (st : List Int × Int × Int × Int), (List.replicate k 32).foldl wsStep st = (st.1, st.2.1 + k, st.2.2.1 + k, st.2.2.2) := by
  induction k with
  | zero => intro st; simp
  | succ k ih =>
    intro st
    rw [List.replicate_succ, List.foldl_cons, ih]
    simp only [wsStep, if_pos]
    have e1 : st.2.1 + 1 + (k : Int) = st.2.1 + ((k + 1 : Nat) : Int) := by omega
    have e2 : st.2.2.1 + 1 + (k : Int) = st.2.2.1 + ((k + 1 : Nat) : Int) := by omega
    rw [e1, e2]
theorem row_step (cs : List Int) (n nt : Int) (r : Nat) : (rowCodes r).foldl wsStep (cs, 0, n, nt) = (bump cs r, 0, n + r + 1, nt + 1) := by
  unfold rowCodes
  rw [List.foldl_append, spaces_step, List.foldl_cons, List.foldl_nil]
  simp only [wsStep, if_neg (show ¬ (9 : Nat) = 32 by decide), flat_zeros]
  unfold bump
  have e : (0 + (r : Int)).toNat = r := by rw [Int.zero_add]; rfl
  rw [e]
  by_cases h : cs.length ≤ r
  · rw [if_pos (show (cs.length : Int) ≤ 0 + (r : Int) by omega), if_pos h]
    have e2 : (0 + (r : Int) - (cs.length : Int) + 1).toNat = r + 1 - cs.length := by
      rw [Int.zero_add, Int.sub_eq_add_neg, Int.add_right_comm, ← Int.sub_eq_add_neg]; exact Int.toNat_sub (r + 1) cs.length
    rw [e2]
  · rw [if_neg (show ¬ (cs.length : Int) ≤ 0 + (r : Int) by omega), if_neg h]
theorem rows_step (rows : List Nat) : ∀ (cs : List Int) (n nt : Int), (rowsCodes rows).foldl wsStep (cs, 0, n, nt) = (rows.foldl bump cs, 0, n + (rows.map fun (r : Nat) => (r : Int) + 1).sum, nt + rows.length) := by
  induction rows with
  | nil => intro cs n nt; simp [rowsCodes]
  | cons r rest ih =>
    intro cs n nt
    have e : rowsCodes (r :: rest) = rowCodes r ++ rowsCodes rest := rfl
    rw [e, List.foldl_append, row_step, ih, List.foldl_cons, List.map_cons, List.sum_cons, List.length_cons]
    have e1 : n + (r : Int) + 1 + (rest.map fun (r : Nat) => (r : Int) + 1).sum = n + ((r : Int) + 1 + (rest.map fun (r : Nat) => (r : Int) + 1).sum) := by omega
    have e2 : nt + 1 + (rest.length : Int) = nt + ((rest.length + 1 : Nat) : Int) := by omega
    rw [e1, e2]
theorem read_rows (rows : List Nat) (tr : Nat) : wsRun (rowsCodes rows ++ List.replicate tr 32) = (hist rows, (tr : Int), (rows.map fun (r : Nat) => (r : Int) + 1).sum + tr, (rows.length : Int)) := by
  unfold wsRun hist
  rw [List.foldl_append, rows_step, spaces_step]
  simp
theorem rows_blank (rows : List Nat) (tr : Nat) : ∀ c ∈ rowsCodes rows ++ List.replicate tr 32, blank c := by
  intro c hc
  rcases List.mem_append.mp hc with h | h
  · unfold rowsCodes at h
    obtain ⟨l, hl, hcl⟩ := List.mem_flatten.mp h
    obtain ⟨r, _, rfl⟩ := List.mem_map.mp hl
    unfold rowCodes at hcl
    rcases List.mem_append.mp hcl with h | h
    · exact .inl (List.eq_of_mem_replicate h)
    · exact .inr (List.mem_singleton.mp h)
  · exact .inl (List.eq_of_mem_replicate h)
theorem read_lead (rows : List Nat) (tr : Nat) : wsRead (rowsCodes rows ++ List.replicate tr 32) = (hist rows, (tr : Int), (rows.map fun (r : Nat) => (r : Int) + 1).sum + tr, (rows.length : Int)) := by
  unfold wsRead
  rw [takeWhile_all (rows_blank rows tr), read_rows]
noncomputable def weigh (f : Nat → Int) : Nat → List Int → Int
  | _, [] => 0
  | i, c :: r => f i * c + weigh f (i + 1) r
theorem weigh_append (f : Nat → Int) (a b : List Int) : ∀ i, weigh f i (a ++ b) = weigh f i a + weigh f (i + a.length) b := by
  induction a with
  | nil => intro i; simp [weigh]
  | cons c r ih =>
    intro i
    rw [List.cons_append, weigh, weigh, ih, List.length_cons]
    have e : i + 1 + r.length = i + (r.length + 1) := by omega
    rw [e]; omega
theorem weigh_zeros (f : Nat → Int) (k : Nat) : ∀ i, weigh f i (List.replicate k 0) = 0 := by
  induction k with
  | zero => intro i; rfl
  | succ k ih => intro i; rw [List.replicate_succ, weigh, ih]; simp
theorem weigh_set (f : Nat → Int) (cs : List Int) : ∀ (i j : Nat), j < cs.length → weigh f i (cs.set j (cs.getD j 0 + 1)) = weigh f i cs + f (i + j) := by
  induction cs with
  | nil => intro i j h; exact absurd h (Nat.not_lt_zero _)
  | cons c r ih =>
    intro i j h
    cases j with
    | zero =>
      simp only [List.set_cons_zero, List.getD_cons_zero, weigh, Nat.add_zero]
      rw [Int.mul_add, Int.mul_one]; omega
    | succ j =>
      simp only [List.set_cons_succ, List.getD_cons_succ, weigh]
      rw [ih (i + 1) j (by simpa using h)]
      have e : i + 1 + j = i + (j + 1) := by omega
      rw [e]; omega
theorem weigh_bump (f : Nat → Int) (cs : List Int) (r : Nat) : weigh f 0 (bump cs r) = weigh f 0 cs + f r := by
  unfold bump
  by_cases h : cs.length ≤ r
  · rw [if_pos h, weigh_set _ _ _ _ (by rw [List.length_append, List.length_replicate]; omega), weigh_append, weigh_zeros]
    simp
  · rw [if_neg h, weigh_set _ _ _ _ (by omega)]
    simp
theorem weigh_hist (f : Nat → Int) (rows : List Nat) : weigh f 0 (hist rows) = (rows.map f).sum := by
  have all : ∀ (l : List Nat) (cs : List Int), weigh f 0 (l.foldl bump cs) = weigh f 0 cs + (l.map f).sum := by
    intro l
    induction l with
    | nil => intro cs; simp
    | cons r rest ih => intro cs; rw [List.foldl_cons, ih, weigh_bump, List.map_cons, List.sum_cons]; omega
  have := all rows []
  simpa [weigh, hist] using this
theorem weigh_drop (f : Nat → Int) (cs : List Int) (k : Nat) (hf : ∀ i, i < k → f i = 0) (hk : k ≤ cs.length) : weigh f 0 cs = weigh f k (cs.drop k) := by
  have e : cs = cs.take k ++ cs.drop k := (List.take_append_drop k cs).symm
  have z : ∀ (l : List Int) (i : Nat), i + l.length ≤ k → weigh f i l = 0 := by
    intro l
    induction l with
    | nil => intro i _; rfl
    | cons c r ih =>
      intro i h
      rw [List.length_cons] at h
      rw [weigh, hf i (by omega), ih (i + 1) (by omega)]; simp
  conv => lhs; rw [e]
  rw [weigh_append, z _ _ (by simp; omega), List.length_take, Nat.min_eq_left hk]
  simp
theorem weigh_acc (f : Nat → Int) (cs : List Int) (k : Nat) : ∀ n, k + n ≤ cs.length → ∀ g : Nat → Int, (∀ i, g (i + 1) = g i + f (k + i) * cs.getD (k + i) 0) → g 0 = 0 → g n = weigh f k ((cs.drop k).take n) := by
  intro n
  induction n with
  | zero => intro _ g _ h0; simpa [weigh] using h0
  | succ n ih =>
    intro hn g hg h0
    have hlt : k + n < cs.length := hn
    have e : (cs.drop k).take (n + 1) = (cs.drop k).take n ++ [cs.getD (k + n) 0] := by
      rw [List.take_add_one]
      congr 1
      simp [List.getElem?_drop, List.getD_eq_getElem?_getD, hlt]
    rw [e, weigh_append, hg, ih (Nat.le_of_succ_le hn) g hg h0]
    have l : ((cs.drop k).take n).length = n := by rw [List.length_take, List.length_drop]; exact Nat.min_eq_left (Nat.le_sub_of_add_le (Nat.add_comm k n ▸ Nat.le_of_succ_le hn))
    rw [l]
    simp [weigh]
theorem ilAcc_weigh (cs : List Int) (k : Nat) (hk : 1 ≤ k) : ilAcc cs (k : Int) ((cs.length : Int) - (k : Int)).toNat = weigh (fun (i : Nat) => ((i / k : Nat) : Int)) 0 cs := by
  by_cases h : k ≤ cs.length
  · rw [weigh_drop (fun (i : Nat) => ((i / k : Nat) : Int)) cs k (fun i hi => by simp [Nat.div_eq_of_lt hi]) h]
    have e : ((cs.length : Int) - (k : Int)).toNat = cs.length - k := Int.toNat_sub cs.length k
    rw [e]
    have := weigh_acc (fun (i : Nat) => ((i / k : Nat) : Int)) cs k (cs.length - k) (by omega) (ilAcc cs (k : Int)) (fun i => ?_) rfl
    · rw [this, List.take_of_length_le (by simp)]
    · show ilAcc cs (k : Int) i + ((k : Int) + (i : Int)).fdiv (k : Int) * cs.getD ((k : Int) + (i : Int)).toNat 0 = _
      have e1 : ((k : Int) + (i : Int)).toNat = k + i := rfl
      have e2 : ((k : Int) + (i : Int)).fdiv (k : Int) = (((k + i) / k : Nat) : Int) := by
        rw [Int.fdiv_eq_ediv_of_nonneg _ (Int.natCast_nonneg k), ← Int.natCast_add, Int.natCast_ediv]
      rw [e1, e2]
  · have e : ((cs.length : Int) - (k : Int)).toNat = 0 := Int.toNat_eq_zero.mpr (Int.sub_nonpos_of_le (Int.ofNat_le.mpr (Nat.le_of_not_le h)))
    rw [e]
    have z : ∀ (l : List Int) (i : Nat), i + l.length ≤ k → weigh (fun (i : Nat) => ((i / k : Nat) : Int)) i l = 0 := by
      intro l
      induction l with
      | nil => intro i _; rfl
      | cons c r ih =>
        intro i h
        rw [List.length_cons] at h
        have hd : i / k = 0 := Nat.div_eq_of_lt (by omega)
        rw [weigh, ih (i + 1) (by omega)]
        simp [hd]
    rw [z cs 0 (by omega)]
    rfl
theorem ilev_rows (rows : List Nat) (tr : Int) (n : Int) (k : Nat) (hk : 1 ≤ k) : ilev (hist rows, tr, n, (rows.length : Int)) (k : Int) = tr + (k : Int) * ((rows.map fun (r : Nat) => ((r / k : Nat) : Int) + 1).sum) := by
  unfold ilev
  show tr + (k : Int) * (ilAcc (hist rows) (k : Int) (((hist rows).length : Int) - (k : Int)).toNat + (rows.length : Int)) = _
  rw [ilAcc_weigh _ _ hk, weigh_hist]
  congr 2
  induction rows with
  | nil => rfl
  | cons r rest ih => rw [List.map_cons, List.map_cons, List.sum_cons, List.sum_cons, List.length_cons, ← ih]; omega
end Mine
end

section
open PySem PySem.W PyProof.Rows
namespace Mine
theorem codes_append (a b : Str) : (a ++ b : Str).cps.toList = a.cps.toList ++ b.cps.toList := by rw [Str.cps_append, Array.toList_append]
theorem codes_empty : (Str.ofString "").cps.toList = [] := by decide +kernel
theorem codes_tab : (Str.ofString "\t").cps.toList = [9] := by decide +kernel
theorem codes_space : (Str.ofString " ").cps.toList = [32] := by decide +kernel
theorem fold_rep (a : Array Nat) (n : Nat) : ∀ acc : Array Nat, (List.foldl (fun x1 x2 => x1 ++ x2) acc (List.replicate n a)).toList = acc.toList ++ (List.replicate n a.toList).flatten := by
  induction n with
  | zero => intro acc; simp
  | succ n ih => intro acc; rw [List.replicate_succ, List.foldl_cons, ih, List.replicate_succ, List.flatten_cons, Array.toList_append, List.append_assoc]
theorem flat_one (c : Nat) (n : Nat) : (List.replicate n [c]).flatten = List.replicate n c := by
  induction n with
  | zero => rfl
  | succ k ih => rw [List.replicate_succ, List.flatten_cons, ih, List.replicate_succ]; rfl
theorem codes_mul_one {x : Str} {c : Nat} (hx : x.cps.toList = [c]) (n : Int) : (Txt.mul x n).cps.toList = List.replicate n.toNat c := by
  unfold Txt.mul
  by_cases h : n < 1
  · rw [if_pos h, show n.toNat = 0 by omega]
    rfl
  · rw [if_neg h]
    by_cases h1 : (n == 1 || x.length == 0) = true
    · rw [if_pos h1]
      have hl : x.length = 1 := by rw [← str_len, hx]; rfl
      have : n = 1 := by simpa [hl] using h1
      rw [hx, this]
      rfl
    · rw [if_neg h1]
      show (List.foldl (fun x1 x2 => x1 ++ x2) #[] (List.replicate n.toNat x.cps)).toList = _
      rw [fold_rep, hx, flat_one]
      rfl
theorem codes_mul (n : Int) : (Txt.mul (Str.ofString " ") n).cps.toList = List.replicate n.toNat 32 := codes_mul_one codes_space n
theorem codes_mul_tab (n : Int) : (Txt.mul (Str.ofString "\t") n).cps.toList = List.replicate n.toNat 9 := codes_mul_one codes_tab n

noncomputable def dvStep (k : Nat) (st : List Int × Nat × List Nat) (c : Int) : List Int × Nat × List Nat :=
  (st.1 ++ [65 + (((16 * st.2.1 + (c - 65).toNat) / k : Nat) : Int)], (16 * st.2.1 + (c - 65).toNat) % k, st.2.2 ++ [16 * st.2.1 + (c - 65).toNat])
noncomputable def dvRun (k : Nat) (pre : List Int) : List Int × Nat × List Nat := pre.foldl (dvStep k) ([], 0, [])
noncomputable def colOf (k : Nat) (rows : List Nat) : Int := (k : Int) * ((rows.map fun (r : Nat) => ((r / k : Nat) : Int) + 1).sum)
theorem rowsCodes_len (rows : List Nat) (n : Nat) (h : ∀ r ∈ rows, r ≤ n) : (rowsCodes rows).length ≤ rows.length * (n + 1) := by
  induction rows with
  | nil => simp [rowsCodes]
  | cons r rest ih =>
    have e : rowsCodes (r :: rest) = (List.replicate r 32 ++ [9]) ++ rowsCodes rest := rfl
    have h1 := h r (.head _)
    have h2 := ih fun x hx => h x (.tail _ hx)
    rw [e, List.length_append, List.length_append, List.length_replicate, List.length_singleton, List.length_cons, Nat.succ_mul]
    omega
end Mine
end

section
open PySem PySem.W PyProof.Rows PySem.Spec PySem.Calls PyProof.V PyProof.Rows.LCg
namespace Mine
section
variable {prog : Program} {w : World} {A : Around} {h₀ : Heap} {L : Addr} {m : Str → Option Value}

noncomputable def tests (prog : Program) (w : World) (A : Around) (ifs : List Expr) (env : Env) (K : Bool → Shared → Prop) (E : Value → Shared → Prop) (s : Shared) : Prop :=
  match ifs with
  | [] => K true s
  | c :: _ => wpAny (model prog w) A (isTrue c env (eval c env)) K E s
theorem tests_mono {ifs : List Expr} {env : Env} {K K' : Bool → Shared → Prop} {E : Value → Shared → Prop} {s : Shared} (h : tests prog w A ifs env K E s) (hK : ∀ ok s, K ok s → K' ok s) : tests prog w A ifs env K' E s := by
  cases ifs with
  | nil => exact hK _ _ h
  | cons c r => exact wpAny_mono h hK fun _ _ e => e
noncomputable def CEnd (h₀ : Heap) (L : Addr) (m : Str → Option Value) (ca : List Addr) (own : List (Addr × Obj)) (D : Addr) (oD : Obj) (S : List (Addr × Obj) → Prop) (rest : List (Addr × Obj) → Prop) (s₁ s₂ : Shared) : Prop :=
  ∃ h' tk nw, s₂ = { s₁ with heap := h', toks := tk } ∧ Fr h₀ L h' m ∧ News h₀ L h' (own ++ (D, oD) :: nw) ∧ (∀ p ∈ nw, p.1 ∉ ca ∧ p.1 ≠ D) ∧ S nw ∧ rest nw
noncomputable def CRest (prog : Program) (w : World) (A : Around) (h₀ : Heap) (L : Addr) (m : Str → Option Value) (env : Env) (elt : Expr) (ifs : List Expr) (ca : List Addr) (D : Addr) (s : Shared) (S : List (Addr × Obj) → Prop) (B : Nat → List (Addr × Obj) → Prop)
    (Fin : List Value → List (Addr × Obj) → Prop) : Nat → Nat → List Value → List (Addr × Obj) → Prop
  | 0, _, ys, nw => Fin ys nw
  | k + 1, i, ys, nw => ∀ own h tk (E' : Value → Shared → Prop), B i own → (∀ p ∈ own, p.1 ∈ ca) → Fr h₀ L h m → News h₀ L h (own ++ (D, lst ys) :: nw) → (∀ p ∈ nw, p.1 ∉ ca ∧ p.1 ≠ D) →
      tests prog w A ifs env (fun ok s₃ => if ok = true then wpAny (model prog w) A (eval elt env) (fun y s₄ => CEnd h₀ L m ca own D (lst ys) S (fun nw' => CRest prog w A h₀ L m env elt ifs ca D s S B Fin k (i + 1) (ys ++ [y]) nw') s s₄) E' s₃
        else CEnd h₀ L m ca own D (lst ys) S (fun nw' => CRest prog w A h₀ L m env elt ifs ca D s S B Fin k (i + 1) ys nw') s s₃) E' { s with heap := h, toks := tk }

structure CSrc (prog : Program) (w : World) (A : Around) (h₀ : Heap) (L : Addr) (target : Expr) (env : Env) (I D C : Addr) (ca : List Addr) (n : Nat) (S : List (Addr × Obj) → Prop) (Idle : Nat → Heap → Prop) (B : Nat → List (Addr × Obj) → Prop) : Prop where
  next : ∀ i (s : Shared) (P : Option Value → Shared → Prop) (Q : Shared → Prop) (E : Value → Shared → Prop), i < n → Idle i s.heap →
    (∀ v s₁, wpAny (model prog w) A (letOwnedTupleGo target (.ref I) v) (fun _ s₀ => wpAny (model prog w) A (assign target env v) (fun _ s₂ => Q s₂) E s₀) E s₁ → P (some v) s₁) →
    (∀ own h' tk, B i own → (∀ p ∈ own, p.1 ∈ ca) → (∀ p ∈ own, h'.get? p.1 = some p.2) → (∀ b o, b ∉ ca → s.heap.get? b = some o → h'.get? b = some o) → Q { s with heap := h', toks := tk }) →
    wpAny (model prog w) A (pyNext (.ref I)) P E s
  back : ∀ i own h nw, B i own → (∀ p ∈ own, h.get? p.1 = some p.2) → (∀ b o, h₀.get? b = some o → h.get? b = some o) → News h₀ L h nw → S nw → Idle (i + 1) h
  keep : ∀ i h h', Idle i h → (∀ b o, b ≠ D → h.get? b = some o → h'.get? b = some o) → Idle i h'
  done : ∀ (s : Shared) (P : Option Value → Shared → Prop) (E : Value → Shared → Prop), Idle n s.heap →
    (∀ h' tk, (∀ b o, b ∉ ca → s.heap.get? b = some o → h'.get? b = some o) → (∃ m', h'.Ns C m') → P none { s with heap := h', toks := tk }) →
    wpAny (model prog w) A (pyNext (.ref I)) P E s
  self : ∀ (s : Shared) (Q : Value → Shared → Prop) (E : Value → Shared → Prop), Idle 0 s.heap → Q (.ref I) s → wpAny (model prog w) A (pyIter (.ref I)) Q E s

theorem my_loop {elt target iter : Expr} {ifs : List Expr} (hifs : ifs.length ≤ 1) {scope : Scope} {pos : Pos} {it acc : Value} {env : Env} {R : Result → Shared → Prop} (I : Nat → Shared → Prop)
    (turn : ∀ n s, I n s → wpAny (model prog w) A (pyNext it) (fun r s₁ => match r with
      | none => R (.ok .next) s₁
      | some v => wpAny (model prog w) A (letOwnedTupleGo target it v) (fun _ s₀ => wpAny (model prog w) A (assign target env v) (fun _ s₂ =>
          tests prog w A ifs env (fun ok s₃ => if ok = true then wpAny (model prog w) A (eval elt env) (fun x s₄ =>
            wpAny (model prog w) A (call (.builtin "list.append") [acc, x]) (fun _ s₅ => ∃ m, m < n ∧ I m s₅) (notedBy (model prog w) A env fun e s' => R (.error e) s') s₄) (notedBy (model prog w) A env fun e s' => R (.error e) s') s₃
            else ∃ m, m < n ∧ I m s₃) (notedBy (model prog w) A env fun e s' => R (.error e) s') s₂)
          (notedBy (model prog w) A env fun e s' => R (.error e) s') s₀) (notedBy (model prog w) A env fun e s' => R (.error e) s') s₁) (notedBy (model prog w) A env fun e s' => R (.error e) s') s)
    (n : Nat) (h : I n s) : codeAny (model prog w) A (.compLoop (.ListComp elt [⟨target, iter, ifs, 0⟩] scope pos) 0 it acc env) R s := by
  match ifs, hifs with
  | [], _ =>
    refine kcp_loop I (fun n s hI => wpAny_mono (turn n s hI) (fun r s₁ h₁ => ?_) fun _ _ e => e) n h
    cases r with
    | none => exact h₁
    | some v => exact wpAny_mono h₁ (fun _ s₀ h₀ => wpAny_mono h₀ (fun _ s₂ h₂ => by simpa [tests] using h₂) fun _ _ e => e) fun _ _ e => e
  | [c], _ => exact kct_loop I turn n h
  | _ :: _ :: _, h => exact absurd h (by simp)

theorem block_my {elt target iter : Expr} {ifs : List Expr} (hifs : ifs.length ≤ 1) {scope : Scope} {pos : Pos} {env : Env} {RR : Result → Shared → Prop} {I D C : Addr} {ca : List Addr} {n : Nat} {S : List (Addr × Obj) → Prop} {Idle : Nat → Heap → Prop} {B : Nat → List (Addr × Obj) → Prop}
    {Fin : List Value → List (Addr × Obj) → Prop} {nw₀ : List (Addr × Obj)} {s : Shared}
    (W : CSrc prog w A h₀ L target env I D C ca n S Idle B) (hsz : n ≤ sizeLine) (hDca : D ∉ ca) (hD0 : h₀.get? D = none) (hDL : D ≠ L) (hLca : L ∉ ca) (hca0 : ∀ b ∈ ca, h₀.get? b = none)
    (hidle : Idle 0 s.heap) (hacc : s.heap.get? D = some (lst [])) (F : Fr h₀ L s.heap m) (N : News h₀ L s.heap nw₀) (off : ∀ p ∈ nw₀, p.1 ∉ ca ∧ p.1 ≠ D) (hS : S nw₀)
    (R : CRest prog w A h₀ L m env elt ifs ca D s S B Fin n 0 [] nw₀)
    (hR : ∀ h tk ys nw, (∃ m', h.Ns C m') → Fr h₀ L h m → News h₀ L h ((D, lst ys) :: nw) → (∀ p ∈ nw, p.1 ∉ ca ∧ p.1 ≠ D) → Fin ys nw → RR (.ok .next) { s with heap := h, toks := tk }) :
    codeAny (model prog w) A (.compLoop (.ListComp elt [⟨target, iter, ifs, 0⟩] scope pos) 0 (.ref I) (.ref D) env) RR s := by
  have frTo : ∀ {h h' : Heap}, Fr h₀ L h m → (∀ b o, b ∉ ca → h.get? b = some o → h'.get? b = some o) → Fr h₀ L h' m := fun F' k =>
    ⟨F'.ns.at' fun o e => k _ o hLca e, fun b o e => k b o (fun hb => by rw [hca0 b hb] at e; cases e) (F'.keep b o e), F'.above⟩
  refine my_loop hifs
    (fun k s' => ∃ h' tk i ys nw, s' = { s with heap := h', toks := tk } ∧ i ≤ n ∧ k = n + 1 - i ∧ ys.length ≤ i ∧ Idle i h' ∧ Fr h₀ L h' m ∧ News h₀ L h' ((D, lst ys) :: nw) ∧ (∀ p ∈ nw, p.1 ∉ ca ∧ p.1 ≠ D) ∧ S nw ∧
      CRest prog w A h₀ L m env elt ifs ca D s S B Fin (n - i) i ys nw) ?_ (n + 1)
    ⟨s.heap, s.toks, 0, [], nw₀, rfl, Nat.zero_le _, rfl, Nat.le_refl _, hidle, F, fun p hp => ?_, off, hS, R⟩
  · rintro k s' ⟨h', tk, i, ys, nw, rfl, hi, rfl, hyl, hid, F', N', off', hS', R'⟩
    by_cases hlt : i < n
    · obtain ⟨j, hj⟩ : ∃ j, n - i = j + 1 := Nat.exists_eq_succ_of_ne_zero (Nat.sub_ne_zero_of_lt hlt)
      rw [hj] at R'
      refine W.next i _ _ _ _ hlt hid (fun v s₁ h₁ => h₁) fun own h₂ tk₂ hB hoc hog hk₂ => ?_
      have F₂ : Fr h₀ L h₂ m := frTo F' hk₂
      have N₂ : News h₀ L h₂ (own ++ (D, lst ys) :: nw) := fun p hp => by
        rcases List.mem_append.mp hp with hp | hp
        · exact ⟨hog p hp, fun e => hLca (e ▸ hoc p hp), hca0 _ (hoc p hp)⟩
        · refine ⟨hk₂ _ _ ?_ (N' p hp).1, (N' p hp).2⟩
          rcases List.mem_cons.mp hp with rfl | hp
          · exact hDca
          · exact (off' p hp).1
      have T := R' own h₂ tk₂ (notedBy (model prog w) A env fun e s' => RR (.error e) s') hB hoc F₂ N₂ off'
      have skip : ∀ (ys' : List Value) (s₃ : Shared), ys'.length ≤ i + 1 → CEnd h₀ L m ca own D (lst ys') S (fun nw' => CRest prog w A h₀ L m env elt ifs ca D s S B Fin j (i + 1) ys' nw') s s₃ →
          ∃ m₁, m₁ < n + 1 - i ∧ ∃ h' tk i' ys nw, s₃ = { s with heap := h', toks := tk } ∧ i' ≤ n ∧ m₁ = n + 1 - i' ∧ ys.length ≤ i' ∧ Idle i' h' ∧ Fr h₀ L h' m ∧ News h₀ L h' ((D, lst ys) :: nw) ∧ (∀ p ∈ nw, p.1 ∉ ca ∧ p.1 ≠ D) ∧ S nw ∧
            CRest prog w A h₀ L m env elt ifs ca D s S B Fin (n - i') i' ys nw := by
        rintro ys' s₃ hl ⟨h₃, tk₃, nw₃, rfl, F₃, N₃, off₃, hS₃, R₃⟩
        have N₃' : News h₀ L h₃ ((D, lst ys') :: nw₃) := fun p hp => N₃ p (List.mem_append_right _ hp)
        refine ⟨n + 1 - (i + 1), Nat.sub_lt_sub_left (Nat.lt_succ_of_lt hlt) (Nat.lt_succ_self i), h₃, tk₃, i + 1, ys', nw₃, rfl, hlt, rfl, hl, ?_, F₃, N₃', off₃, hS₃, ?_⟩
        · exact W.back i own h₃ nw₃ hB (fun p hp => (N₃ p (List.mem_append_left _ hp)).1) F₃.keep (fun p hp => N₃' p (List.mem_cons_of_mem _ hp)) hS₃
        · have : n - (i + 1) = j := by rw [Nat.sub_add_eq, hj]; rfl
          rw [this]; exact R₃
      have after : ∀ (ok : Bool) (s₃ : Shared), (if ok = true then wpAny (model prog w) A (eval elt env) (fun y s₄ => CEnd h₀ L m ca own D (lst ys) S (fun nw' => CRest prog w A h₀ L m env elt ifs ca D s S B Fin j (i + 1) (ys ++ [y]) nw') s s₄) (notedBy (model prog w) A env fun e s' => RR (.error e) s') s₃
          else CEnd h₀ L m ca own D (lst ys) S (fun nw' => CRest prog w A h₀ L m env elt ifs ca D s S B Fin j (i + 1) ys nw') s s₃) →
          (if ok = true then wpAny (model prog w) A (eval elt env) (fun x s₄ =>
            wpAny (model prog w) A (call (.builtin "list.append") [.ref D, x]) (fun _ s₅ => ∃ m₁, m₁ < n + 1 - i ∧ ∃ h' tk i' ys nw, s₅ = { s with heap := h', toks := tk } ∧ i' ≤ n ∧ m₁ = n + 1 - i' ∧ ys.length ≤ i' ∧ Idle i' h' ∧ Fr h₀ L h' m ∧ News h₀ L h' ((D, lst ys) :: nw) ∧ (∀ p ∈ nw, p.1 ∉ ca ∧ p.1 ≠ D) ∧ S nw ∧
              CRest prog w A h₀ L m env elt ifs ca D s S B Fin (n - i') i' ys nw) (notedBy (model prog w) A env fun e s' => RR (.error e) s') s₄) (notedBy (model prog w) A env fun e s' => RR (.error e) s') s₃
            else ∃ m₁, m₁ < n + 1 - i ∧ ∃ h' tk i' ys nw, s₃ = { s with heap := h', toks := tk } ∧ i' ≤ n ∧ m₁ = n + 1 - i' ∧ ys.length ≤ i' ∧ Idle i' h' ∧ Fr h₀ L h' m ∧ News h₀ L h' ((D, lst ys) :: nw) ∧ (∀ p ∈ nw, p.1 ∉ ca ∧ p.1 ≠ D) ∧ S nw ∧
              CRest prog w A h₀ L m env elt ifs ca D s S B Fin (n - i') i' ys nw) := by
        intro ok s₃ hok
        cases ok with
        | false =>
          simp only [Bool.false_eq_true, if_false] at hok ⊢
          exact skip ys s₃ (Nat.le_succ_of_le hyl) hok
        | true =>
          simp only [if_true] at hok ⊢
          refine wpAny_mono hok (fun y s₄ h₄ => ?_) fun _ _ e => e
          obtain ⟨h₃, tk₃, nw₃, rfl, F₃, N₃, off₃, hS₃, R₃⟩ := h₄
          have zD := (N₃ (D, lst ys) (List.mem_append_right _ List.mem_cons_self)).1
          refine append_at (hsz := by show ys.toArray.size ≤ sizeLine; rw [List.size_toArray]; exact Nat.le_trans hyl (Nat.le_trans hi hsz)) zD fun h₅ hs₅ hD₅ => ?_
          have N₃' : News h₀ L h₃ nw₃ := fun p hp => N₃ p (List.mem_append_right _ (List.mem_cons_of_mem _ hp))
          refine ⟨n + 1 - (i + 1), Nat.sub_lt_sub_left (Nat.lt_succ_of_lt hlt) (Nat.lt_succ_self i), h₅, tk₃, i + 1, ys ++ [y], nw₃, rfl, hlt, rfl, by rw [List.length_append, List.length_singleton]; exact Nat.succ_le_succ hyl, ?_, F₃.change hs₅ hDL hD0, fun p hp => ?_, off₃, hS₃, ?_⟩
          · exact W.keep (i + 1) h₃ h₅ (W.back i own h₃ nw₃ hB (fun p hp => (N₃ p (List.mem_append_left _ hp)).1) F₃.keep N₃' hS₃) fun b o hb e => hs₅.extBut b o hb e
          · rcases List.mem_cons.mp hp with rfl | hp
            · exact ⟨hD₅.trans (congrArg some (lst_snoc ys y)), hDL, hD0⟩
            · exact ⟨hs₅.extBut _ _ (off₃ p hp).2 (N₃' p hp).1, (N₃' p hp).2⟩
          · have : n - (i + 1) = j := by rw [Nat.sub_add_eq, hj]; rfl
            rw [this]; exact R₃
      exact tests_mono T after
    · have hin : i = n := Nat.le_antisymm hi (Nat.not_lt.mp hlt)
      subst hin
      rw [Nat.sub_self] at R'
      refine W.done _ _ _ hid fun h₂ tk₂ hk₂ hC₂ => ?_
      refine hR h₂ tk₂ ys nw hC₂ (frTo F' hk₂) (fun p hp => ⟨hk₂ _ _ ?_ (N' p hp).1, (N' p hp).2⟩) off' R'
      rcases List.mem_cons.mp hp with rfl | hp
      · exact hDca
      · exact (off' p hp).1
  · rcases List.mem_cons.mp hp with rfl | hp
    · exact ⟨hacc, hDL, hD0⟩
    · exact N p hp
end
theorem np (n k : Nat) (h : 0 < k) : n + k ≠ n := Nat.ne_of_gt (Nat.lt_add_of_pos_right h)
theorem nq {a b : Nat} (n : Nat) (h : a ≠ b) : n + a ≠ n + b := fun e => h (Nat.add_left_cancel e)
theorem ad1 {n D C : Nat} (hD : D = n + 1) (hC : C = n + 2) : C ≠ n ∧ D ≠ n ∧ D ≠ C ∧ n ≠ D ∧ n ≤ C ∧ C ≠ D := by
  subst hD hC
  exact ⟨np n 2 (by decide), np n 1 (by decide), nq n (by decide), Ne.symm (np n 1 (by decide)), Nat.le_add_right n 2, nq n (by decide)⟩
theorem ad2 {n D C p : Nat} (hD : D = n + 1) (hC : C = n + 2) (h : p < n) : p ≠ n ∧ p ≠ C ∧ p ≠ D ∧ p ≠ C + 1 := by
  subst hD hC
  exact ⟨Nat.ne_of_lt h, Nat.ne_of_lt (Nat.lt_add_right 2 h), Nat.ne_of_lt (Nat.lt_add_right 1 h), Nat.ne_of_lt (Nat.lt_add_right 3 h)⟩
theorem ad3 {n D C : Nat} (hD : D = n + 1) (hC : C = n + 2) : C + 1 ≠ n ∧ C + 1 ≠ D ∧ n ≤ C + 1 := by
  subst hD hC
  exact ⟨np n 3 (by decide), nq (a := 3) n (by decide), Nat.le_add_right n 3⟩
theorem ad4 {n D C : Nat} (hD : D = n + 2) (hC : C = n + 3) : C ≠ n + 1 ∧ C ≠ n ∧ D ≠ n + 1 ∧ D ≠ n ∧ D ≠ C ∧ n ≤ C ∧ n + 1 ≠ D ∧ n ≠ D ∧ C ≠ D := by
  subst hD hC
  exact ⟨nq n (by decide), np n 3 (by decide), nq n (by decide), np n 2 (by decide), nq n (by decide), Nat.le_add_right n 3, nq n (by decide), Ne.symm (np n 2 (by decide)), nq n (by decide)⟩
theorem ad5 {n D C p : Nat} (hD : D = n + 2) (hC : C = n + 3) (h : p < n) : p ≠ n + 1 ∧ p ≠ n ∧ p ≠ C ∧ D ≠ p ∧ C ≠ p := by
  subst hD hC
  exact ⟨Nat.ne_of_lt (Nat.lt_add_right 1 h), Nat.ne_of_lt h, Nat.ne_of_lt (Nat.lt_add_right 3 h), Nat.ne_of_gt (Nat.lt_add_right 2 h), Nat.ne_of_gt (Nat.lt_add_right 3 h)⟩
end Mine
end

section
open PySem PySem.W PyProof.Rows PySem.Spec PySem.Calls PyProof.V PyProof.Rows.LCg
namespace Mine
section
variable {prog : Program} {w : World} {A : Around} {h₀ : Heap} {L : Addr} {m : Str → Option Value} {E : Value → Shared → Prop} {s : Shared} {env : Env}

theorem newEnv_around {scope : Scope} {globals : Addr} {cl : List (Str × Addr)} {qual : Str} {outer : Env} {Q : Env → Shared → Prop}
    (hQ : Q (newEnv scope s.heap.objs.size globals (cellsFrom (s.heap.objs.size + 1) scope.names cl) qual none .none (some outer) builtinsNs) { s with heap := pushCells (s.heap.push { cls := .type "dict", data := .dict #[] }) scope.names }) :
    wpAny (model prog w) A (newFunctionEnv scope globals cl [] qual none .none (some outer)) Q E s := by
  simp only [newFunctionEnv, Option.isSome_some, if_true]
  refine wpAny_bind (wpAny_alloc ?_)
  refine wpAny_bind (wpAny_layCells _ (fun name kind cells => by cases hkc : kind == NameKind.cell <;> simp [hkc]) _ _ _ _ ?_)
  rw [show ({ s with heap := s.heap.push { cls := .type "dict", data := .dict #[] } } : Shared).heap.objs.size = s.heap.objs.size + 1 from Heap.size_push ..]
  refine wpAny_bind ?_
  rw [List.forIn_nil]
  exact wpAny_pure (wpAny_pure hQ)

noncomputable def CompAt (prog : Program) (w : World) (A : Around) (h₀ : Heap) (L : Addr) (m : Str → Option Value) (env : Env) (target elt : Expr) (ifs : List Expr) (scope : Scope) (cl : List (Str × Addr)) (Fin : Addr → Shared → List Value → List (Addr × Obj) → Prop) (it : Value) (s₂ : Shared) : Prop :=
  ∃ I n nw₀, it = .ref I ∧ n ≤ sizeLine ∧ Fr h₀ L s₂.heap m ∧ News h₀ L s₂.heap nw₀ ∧
      ∀ D C h₃, D = s₂.heap.objs.size → C = D + 1 → h₃ = pushCells ((s₂.heap.push (lst [])).push { cls := .type "dict", data := .dict #[] }) scope.names →
        ∃ ca S Idle B, CSrc prog w A h₀ L target (compEnvC scope (cellsFrom (C + 1) scope.names cl) C env) I D C ca n S Idle B ∧ (∀ b ∈ ca, h₀.get? b = none ∧ b ≠ L ∧ b ≠ D) ∧ C ∈ ca ∧ Idle 0 h₃ ∧ (∀ p ∈ nw₀, p.1 ∉ ca) ∧ S nw₀ ∧
          CRest prog w A h₀ L m (compEnvC scope (cellsFrom (C + 1) scope.names cl) C env) elt ifs ca D { s₂ with heap := h₃ } S B (Fin D s₂) n 0 [] nw₀
noncomputable def FinEx (h₀ : Heap) (L : Addr) (m : Str → Option Value) (Q : Value → Shared → Prop) (D : Addr) (s₂ : Shared) (ys : List Value) (nw : List (Addr × Obj)) : Prop :=
  ∀ h tk, Fr h₀ L h m → News h₀ L h ((D, lst ys) :: nw) → (∀ p ∈ nw, p.1 ≠ D) → Q (.ref D) { s₂ with heap := h, toks := tk }
noncomputable def FinAs (h₀ : Heap) (L : Addr) (m : Str → Option Value) (y : Str) (Q : Flow → Shared → Prop) (D : Addr) (s₂ : Shared) (ys : List Value) (nw : List (Addr × Obj)) : Prop :=
  ∀ h tk, Fr h₀ L h (fun z => if z = y then some (.ref D) else m z) → News h₀ L h ((D, lst ys) :: nw) → (∀ p ∈ nw, p.1 ≠ D) → Q .next { s₂ with heap := h, toks := tk }

theorem comp_at_code {elt iter target : Expr} {ifs : List Expr} {scope : Scope} {cl : List (Str × Addr)} {pos : Pos} (hifs : ifs.length ≤ 1) {it : Value} {s₂ : Shared} {Fin : Addr → Shared → List Value → List (Addr × Obj) → Prop} {RR : Value → Addr → Result → Shared → Prop}
    (h : CompAt prog w A h₀ L m env target elt ifs scope cl Fin it s₂)
    (hR : ∀ D C h tk m' ys nw, C ≠ L → h₀.get? C = none → C ≠ D → (∀ p ∈ nw, p.1 ≠ C ∧ p.1 ≠ D) → h.Ns C m' → Fr h₀ L h m → News h₀ L h ((D, lst ys) :: nw) → Fin D s₂ ys nw → RR (.ref D) C (.ok .next) { s₂ with heap := h, toks := tk }) :
    wpAny (model prog w) A (newList []) (fun acc s₃ => wpAny (model prog w) A (newFunctionEnv scope env.globals cl [] env.qual none .none (some env)) (fun cenv s₄ =>
      codeAny (model prog w) A (.compStart (.ListComp elt [⟨target, iter, ifs, 0⟩] scope pos) 0 it acc { cenv with scope := relabel scope env }) (RR acc cenv.locals) s₄) E s₃) E s₂ := by
  obtain ⟨I, n, nw₀, rfl, hsz, F, N, h₂⟩ := h
  have e0 : s₂.heap.push { cls := .type "list", dict := none, data := .seq ([] : List Value).toArray } = s₂.heap.push (lst []) := rfl
  refine wpAny_newObj_type ?_
  rw [e0]
  try dsimp only
  refine newEnv_around ?_
  have hC : (s₂.heap.push (lst [])).objs.size = s₂.heap.objs.size + 1 := Heap.size_push ..
  try dsimp only
  rw [hC]
  obtain ⟨ca, S, Idle, B, W, hca, hCca, hid, hoff, hS, R⟩ := h₂ s₂.heap.objs.size (s₂.heap.objs.size + 1) _ rfl rfl rfl
  have old : ∀ b o, s₂.heap.get? b = some o → (pushCells ((s₂.heap.push (lst [])).push { cls := .type "dict", data := .dict #[] }) scope.names).get? b = some o := fun b o e => pushCells_keeps _ _ _ _ (Heap.get?_push_of_some _ (Heap.get?_push_of_some _ e))
  have hD0 : h₀.get? s₂.heap.objs.size = none := next_is_new F
  have hDL : s₂.heap.objs.size ≠ L := Nat.ne_of_gt F.ns.lt
  have hacc : (pushCells ((s₂.heap.push (lst [])).push { cls := .type "dict", data := .dict #[] }) scope.names).get? s₂.heap.objs.size = some (lst []) := pushCells_keeps _ _ _ _ (Heap.get?_push_of_some _ (Heap.get?_push_size _ rfl))
  have loop := block_my (s := { s₂ with heap := pushCells ((s₂.heap.push (lst [])).push { cls := .type "dict", data := .dict #[] }) scope.names }) (elt := elt) (iter := iter) (target := target) hifs (scope := scope) (pos := pos)
    (RR := RR (.ref s₂.heap.objs.size) (s₂.heap.objs.size + 1)) W hsz (fun hm => (hca _ hm).2.2 rfl) hD0 hDL (fun hm => (hca _ hm).2.1 rfl) (fun b hb => (hca b hb).1) hid hacc (F.keeps old) (N.grown old)
    (fun p hp => ⟨hoff p hp, Nat.ne_of_lt (Heap.lt_size (N p hp).1)⟩) hS R ?_
  · exact codeAny_compStart_list loop (W.self _ _ _ hid loop)
  · intro h tk ys nw hC' F' N' off' fin
    obtain ⟨m', hn⟩ := hC'
    exact hR _ _ h tk m' ys nw (hca _ hCca).2.1 (hca _ hCca).1 (Nat.ne_of_gt (Nat.lt_succ_self _)) (fun p hp => ⟨fun e => (off' p hp).1 (e ▸ hCca), (off' p hp).2⟩) hn F' N' fin

theorem ListComp_my {elt iter target : Expr} {ifs : List Expr} {scope : Scope} {cl : List (Str × Addr)} {pos : Pos} {Q : Value → Shared → Prop} (_F₀ : Fr h₀ L s.heap m) (hifs : ifs.length ≤ 1)
    (hclos : closureFor scope env = pure cl) (hkind : scope.kind = .function) (hnames : ∀ y ∈ scope.names, y.2 = .local → scope.names.lookup y.1 = some .local)
    (h : wpAny (model prog w) A (eval iter env) (fun xv s₁ => wpAny (model prog w) A (pyIter xv) (CompAt prog w A h₀ L m env target elt ifs scope cl (FinEx h₀ L m Q)) E s₁) E s)
    (hs : ∀ x, foldedSetIterable iter env x = pure x) :
    wpAny (model prog w) A (eval (.ListComp elt [⟨target, iter, ifs, 0⟩] scope pos) env) Q E s := by
  rw [eval_ListComp]
  refine wpAny_comprehension_free (use := none) rfl hs hclos hkind hnames (wpAny_mono h (fun xv s₁ h₁ => wpAny_mono h₁ (fun it s₂ h₂ => ?_) fun _ _ e => e) fun _ _ e => e)
  refine comp_at_code hifs h₂ ?_
  intro D C h tk m' ys nw hCL hC₀ hCD off' hn F' N' fin
  refine ⟨m', hn, fun h'' hs'' => ?_⟩
  refine fin h'' tk (F'.change hs'' hCL hC₀) (fun p hp => ⟨hs''.extBut _ _ ?_ (N' p hp).1, (N' p hp).2⟩) fun p hp => (off' p hp).2
  rcases List.mem_cons.mp hp with rfl | hp
  · exact Ne.symm hCD
  · exact (off' p hp).1

theorem Assign_ListComp_my {elt iter target : Expr} {ifs : List Expr} {y : Str} {py : Pos} {scope : Scope} {cl : List (Str × Addr)} {pos spos : Pos} {Q : Flow → Shared → Prop} (_F₀ : Fr h₀ L s.heap m) (hifs : ifs.length ≤ 1) (hLe : env.locals = L)
    (hsw : swapsWith (.ListComp elt [⟨target, iter, ifs, 0⟩] scope pos) (some (.Name y py)) spos.line env = pure true)
    (hclos : closureFor scope env = pure cl) (hkind : scope.kind = .function) (hnames : ∀ y ∈ scope.names, y.2 = .local → scope.names.lookup y.1 = some .local)
    (hy : env.kindOf y = some .local) (hp : (env.scope.kind == .class || (env.scope.kind == .module && env.locals != env.globals)) = false)
    (h : wpAny (model prog w) A (eval iter env) (fun xv s₁ => wpAny (model prog w) A (pyIter xv) (CompAt prog w A h₀ L m env target elt ifs scope cl (FinAs h₀ L m y Q)) E s₁) E s)
    (hs : ∀ x, foldedSetIterable iter env x = pure x) :
    wpAny (model prog w) A (exec (.Assign [.Name y py] (.ListComp elt [⟨target, iter, ifs, 0⟩] scope pos) spos) env) Q E s := by
  subst hLe
  rw [exec_Assign_Name_used _ _ _ _ hsw]
  refine wpAny_bind (wpAny_standAt (wpAny_bind ?_))
  show wpAny _ A (do let _ ← comprehension (.ListComp elt [⟨target, iter, ifs, 0⟩] scope pos) scope env _ (newList []) false (eval iter env) (some (assign (.Name y py) env))) _ _ s
  refine wpAny_bind (wpAny_mono (wpAny_comprehension_free (use := some (assign (.Name y py) env)) (Q := fun _ s' => Q .next s') rfl hs hclos hkind hnames
    (wpAny_mono h (fun xv s₁ h₁ => wpAny_mono h₁ (fun it s₂ h₂ => ?_) fun _ _ e => e) fun _ _ e => e)) (fun _ s' hq => wpAny_pure (wpAny_pure hq)) fun _ _ e => e)
  refine comp_at_code hifs h₂ ?_
  intro D C h' tk m' ys nw hCL hC₀ hCD off' hn F' N' fin
  show wpAny _ A (assign (.Name y py) env (.ref D)) _ _ _
  refine wpAny_assign_Name (wpAny_storeName_local hy F'.ns (fun h₂ hn₂ hs₂ => ?_) hp)
  have hL₀ : h₀.get? env.locals = none := Heap.get?_none_of_le F'.above
  have F₂ : Fr h₀ env.locals h₂ (fun z => if z = y then some (.ref D) else m z) := ⟨hn₂, fun b o e => hs₂.extBut b o (fun q => by rw [q, hL₀] at e; cases e) (F'.keep b o e), F'.above⟩
  refine ⟨m', hn.sameBut hs₂ hCL, fun h'' hs'' => fin h'' _ (F₂.change hs'' hCL hC₀) (fun p hp => ?_) fun p hp => (off' p hp).2⟩
  have z : h₂.get? p.1 = some p.2 := hs₂.extBut _ _ (N' p hp).2.1 (N' p hp).1
  refine ⟨hs''.extBut _ _ ?_ z, (N' p hp).2⟩
  rcases List.mem_cons.mp hp with rfl | hp
  · exact Ne.symm hCD
  · exact (off' p hp).1
end
end Mine
end

section
open PySem PySem.W PyProof.Rows PySem.Spec PySem.Calls PyProof.V PyProof.Rows.LCg
namespace Mine
theorem cells_none {names : List (Str × NameKind)} : ∀ (n : Nat) (cl : List (Str × Addr)), (∀ y ∈ names, y.2 ≠ .cell) → cellsFrom n names cl = cl := by
  induction names with
  | nil => intro n cl _; rfl
  | cons y r ih =>
    intro n cl h
    obtain ⟨x, k⟩ := y
    have hk : (k == NameKind.cell) = false := by simpa using h _ (.head _)
    unfold cellsFrom
    rw [hk]
    exact ih n cl fun z hz => h z (.tail _ hz)
theorem push_none {names : List (Str × NameKind)} : ∀ (g : Heap), (∀ y ∈ names, y.2 ≠ .cell) → pushCells g names = g := by
  induction names with
  | nil => intro g _; rfl
  | cons y r ih =>
    intro g h
    obtain ⟨x, k⟩ := y
    have hk : (k == NameKind.cell) = false := by simpa using h _ (.head _)
    unfold pushCells
    rw [hk]
    exact ih g fun z hz => h z (.tail _ hz)
section
variable {prog : Program} {w : World} {A : Around} {h₀ : Heap} {L : Addr} {m : Str → Option Value} {E : Value → Shared → Prop} {s : Shared} {env : Env}

noncomputable def EnumB (e it l C : Addr) (items : Array Value) (a b : Str) (i : Nat) (own : List (Addr × Obj)) : Prop :=
  ∃ (oe oit oC : Obj) (m₂ : Str → Option Value) (v : Value) (t : Tok), own = [(e, oe), (it, oit), (C, oC)] ∧ NsObj oC m₂ ∧ items[i]? = some v ∧ m₂ a = some (.int i t) ∧ m₂ b = some v ∧
    (∀ h : Heap, h.get? e = some oe → ∃ old, IsEnum h e it ((i + 1 : Nat) : Int) old) ∧ (∀ h : Heap, h.get? it = some oit → h.IsListIter it l (i + 1))
noncomputable def EnumI (e it l C : Addr) (items : Array Value) (i : Nat) (h : Heap) : Prop := (∃ old, IsEnum h e it (i : Int) old) ∧ h.IsListIter it l i ∧ h.IsList l items ∧ ∃ m', h.Ns C m'

theorem CSrc.enum (hh : A.handled = none) {e it l C D : Addr} (hei : e ≠ it) (hle : l ≠ e) (hli : l ≠ it) (hCe : C ≠ e) (hCi : C ≠ it) (hCl : C ≠ l) (hDe : D ≠ e) (hDi : D ≠ it) (hDl : D ≠ l) (hDC : D ≠ C)
    {items : Array Value} {n : Nat} {a b : Str} {pa pb tp : Pos} {kk : Nat} (hab : ¬ a = b) (hC : env.locals = C) (ha : env.kindOf a = some .local) (hb : env.kindOf b = some .local)
    (hp : (env.scope.kind == .class || (env.scope.kind == .module && env.locals != env.globals)) = false) :
    CSrc prog w A h₀ L (.Tuple [.Name a pa, .Name b pb] kk tp) env e D C [e, it, C] items.size (fun nw => (l, ({ cls := .type "list", data := .seq items n } : Obj)) ∈ nw) (EnumI e it l C items) (EnumB e it l C items a b) where
  next := by
    intro i s P Q E hi hid hP hQ
    obtain ⟨he, hit, hl, m', hn⟩ := hid
    have W := WalksT.enumerate (prog := prog) (w := w) hh e it l hei hle hli items
    refine W.item i s P E hi ⟨he, hit, hl⟩ fun T vals h' tk hPv _ hT hMid hk => hP _ _ ?_
    refine W.go _ _ _ i T _ _ _ hMid fun h₂ hSt hk₂ => ?_
    obtain ⟨t, x, hx, rfl⟩ := hPv
    have hap := W.apart i T h' hMid
    have hT₂ : h₂.IsTuple T #[.int i t, x] := by obtain ⟨o, ho, r⟩ := hT; exact ⟨o, hk₂ T o hap ho, r⟩
    have nm : ∀ c, c ≠ e → c ≠ it → c ∉ [e, it] := fun c h1 h2 hm => by
      rcases List.mem_cons.mp hm with q | q
      · exact h1 q
      · exact h2 (List.mem_singleton.mp q)
    have up : ∀ c o, c ≠ e → c ≠ it → s.heap.get? c = some o → h₂.get? c = some o := fun c o h1 h2 q => hk₂ c o (nm c h1 h2) (hk c o (nm c h1 h2) q)
    refine kcp_assign hh hT₂ ha hb hp (m := m') (by rw [hC]; exact hn.at' fun o q => up C o hCe hCi q) fun h₃ tk₃ hn₃ hk₃ => ?_
    rw [hC] at hn₃ hk₃
    obtain ⟨⟨old, he₂⟩, hit₂, hl₂⟩ := hSt
    obtain ⟨oC, heC, hoC⟩ := ns_obj hn₃
    obtain ⟨oit, hoit, r1, r2⟩ := hit₂
    refine hQ [(e, _), (it, oit), (C, oC)] h₃ tk₃ ⟨_, _, _, _, x, t, rfl, hoC, hx, ?_, by simp, fun h q => ⟨old, q⟩, fun h q => ⟨oit, q, r1, r2⟩⟩ ?_ ?_ ?_
    · simp [hab]
    · intro p hp
      rcases List.mem_cons.mp hp with rfl | hp
      · exact List.mem_cons_self
      · rcases List.mem_cons.mp hp with rfl | hp
        · exact List.mem_cons_of_mem _ List.mem_cons_self
        · rw [List.mem_singleton.mp hp]; exact List.mem_cons_of_mem _ (List.mem_cons_of_mem _ List.mem_cons_self)
    · intro p hp
      rcases List.mem_cons.mp hp with rfl | hp
      · exact hk₃ _ _ (Ne.symm hCe) (by simpa using he₂)
      · rcases List.mem_cons.mp hp with rfl | hp
        · exact hk₃ _ _ (Ne.symm hCi) hoit
        · rw [List.mem_singleton.mp hp]; exact heC
    · intro c o hc q
      have h1 : c ≠ e := fun z => hc (by rw [z]; exact List.mem_cons_self)
      have h2 : c ≠ it := fun z => hc (by rw [z]; exact List.mem_cons_of_mem _ List.mem_cons_self)
      have h3 : c ≠ C := fun z => hc (by rw [z]; exact List.mem_cons_of_mem _ (List.mem_cons_of_mem _ List.mem_cons_self))
      exact hk₃ c o h3 (up c o h1 h2 q)
  back := by
    intro i own h nw hB hog _ N hS
    obtain ⟨oe, oit, oC, m₂, v, t, rfl, hoC, _, _, _, f1, f2⟩ := hB
    exact ⟨f1 h (hog (e, oe) List.mem_cons_self), f2 h (hog (it, oit) (List.mem_cons_of_mem _ List.mem_cons_self)), ⟨_, (N _ hS).1, rfl, _, rfl⟩, m₂, hoC.ns (hog (C, oC) (List.mem_cons_of_mem _ (List.mem_cons_of_mem _ List.mem_cons_self)))⟩
  keep := by
    intro i h h' hid k
    obtain ⟨⟨old, he⟩, hit, hl, m', hn⟩ := hid
    exact ⟨⟨old, k _ _ (Ne.symm hDe) he⟩, hit.at fun o q => k _ o (Ne.symm hDi) q, hl.at fun o q => k _ o (Ne.symm hDl) q, m', hn.at' fun o q => k _ o (Ne.symm hDC) q⟩
  done := by
    intro s P E hid hP
    obtain ⟨he, hit, hl, m', hn⟩ := hid
    have W := WalksT.enumerate (prog := prog) (w := w) hh e it l hei hle hli items
    have nm : ∀ c, c ∉ [e, it, C] → c ∉ [e, it] := fun c h hm => h (by
      rcases List.mem_cons.mp hm with q | q
      · exact q ▸ List.mem_cons_self
      · exact List.mem_singleton.mp q ▸ List.mem_cons_of_mem _ List.mem_cons_self)
    refine W.done s P E ⟨he, hit, hl⟩ fun h' tk hk => hP h' tk (fun c o hc q => hk c o (nm c hc) q) ⟨m', hn.at' fun o q => hk C o ?_ q⟩
    intro hm
    rcases List.mem_cons.mp hm with q | q
    · exact hCe q
    · exact hCi (List.mem_singleton.mp q)
  self := by
    intro s Q E hid hQ
    obtain ⟨⟨old, he⟩, _⟩ := hid
    exact wpAny_pyIter_enum he hQ

theorem enum_at {elt : Expr} {ifs : List Expr} {scope : Scope} {cl : List (Str × Addr)} {l : Addr} {items : Array Value} {n : Nat} {a b : Str} {pa pb tp : Pos} {kk : Nat} {nw₀ : List (Addr × Obj)} {Fin : Addr → Shared → List Value → List (Addr × Obj) → Prop}
    (hh : A.handled = none) (F : Fr h₀ L s.heap m) (N : News h₀ L s.heap nw₀) (hm : (l, ({ cls := .type "list", data := .seq items n } : Obj)) ∈ nw₀) (hsz : items.size ≤ sizeLine) (hab : ¬ a = b)
    (hcell : ∀ y ∈ scope.names, y.2 ≠ .cell) (hkind : scope.kind = .function) (hxa : scope.names.lookup a = some .local) (hxb : scope.names.lookup b = some .local)
    (R : ∀ D C e it h₁ h₂, (∀ p ∈ nw₀, p.1 < it) → e = it + 1 → D = it + 2 → C = it + 3 → CRest prog w A h₀ L m (compEnvC scope cl C env) elt ifs [e, it, C] D { s with heap := h₁ } (fun nw => (l, ({ cls := .type "list", data := .seq items n } : Obj)) ∈ nw) (EnumB e it l C items a b)
      (Fin D { s with heap := h₂ }) items.size 0 [] nw₀) :
    wpAny (model prog w) A (call (.type "enumerate") [.ref l]) (fun xv s₁ => wpAny (model prog w) A (pyIter xv) (CompAt prog w A h₀ L m env (.Tuple [.Name a pa, .Name b pb] kk tp) elt ifs scope cl Fin) E s₁) E s := by
  have hl : s.heap.IsList l items := ⟨_, (N _ hm).1, rfl, _, rfl⟩
  have hlt : l < s.heap.objs.size := Heap.lt_size (N _ hm).1
  refine call_enumerate_list hl fun h' he hit hsz' hk => ?_
  refine wpAny_pyIter_enum he ?_
  refine ⟨s.heap.objs.size + 1, items.size, nw₀, rfl, hsz, F.keeps hk, N.grown hk, ?_⟩
  intro D C h₃ hD hC hh3
  have hD' : D = s.heap.objs.size + 2 := by rw [hD]; exact hsz'
  have hDn : @Eq Nat D (s.heap.objs.size + 2) := hD'
  have hCn : @Eq Nat C (s.heap.objs.size + 3) := by rw [hC, hD']
  have hltn : @LT.lt Nat _ l s.heap.objs.size := hlt
  rw [cells_none _ _ hcell]
  rw [push_none _ hcell] at hh3
  have hNlt : ∀ p ∈ nw₀, p.1 < s.heap.objs.size := fun p hp => Heap.lt_size (N p hp).1
  have fresh : ∀ c, s.heap.objs.size ≤ c → h₀.get? c = none := fun c hc => by
    cases q : h₀.get? c with
    | none => rfl
    | some o => exact absurd (Nat.lt_of_lt_of_le (Heap.lt_size (F.keep c o q)) hc) (Nat.lt_irrefl _)
  have hLlt : L < s.heap.objs.size := F.ns.lt
  have up : ∀ c o, h'.get? c = some o → h₃.get? c = some o := fun c o q => by rw [hh3]; exact Heap.get?_push_of_some _ (Heap.get?_push_of_some _ q)
  have hnsC : h₃.Ns C (fun _ => none) := by
    have e1 : ((h'.push (lst [])) : Heap).objs.size = C := by rw [Heap.size_push, hC, hD]
    rw [hh3, ← e1]
    exact Heap.Ns.new _ (.type "dict")
  refine ⟨[s.heap.objs.size + 1, s.heap.objs.size, C], _, _, _, CSrc.enum (n := n) hh (it := s.heap.objs.size) (l := l) (items := items) ?_ ?_ ?_ ?_ ?_ ?_ ?_ ?_ ?_ ?_ hab rfl (lookup_relabel_local hxa) (lookup_relabel_local hxb) (by simp [compEnvC, relabel, hkind]), ?_, ?_, ?_, ?_, hm, R D C _ _ h₃ _ hNlt rfl hD' hCn⟩
  case refine_1 => exact Nat.ne_of_gt (Nat.lt_succ_self _)
  case refine_2 => exact Nat.ne_of_lt (Nat.lt_succ_of_lt hlt)
  case refine_3 => exact Nat.ne_of_lt hlt
  case refine_4 => exact (ad4 hDn hCn).1
  case refine_5 => exact (ad4 hDn hCn).2.1
  case refine_6 => exact (ad5 hDn hCn hltn).2.2.2.2
  case refine_7 => exact (ad4 hDn hCn).2.2.1
  case refine_8 => exact (ad4 hDn hCn).2.2.2.1
  case refine_9 => exact (ad5 hDn hCn hltn).2.2.2.1
  case refine_10 => exact (ad4 hDn hCn).2.2.2.2.1
  case refine_11 =>
    intro c hc
    have hb : s.heap.objs.size ≤ c ∧ c ≠ D := by
      rcases List.mem_cons.mp hc with rfl | hc
      · exact ⟨Nat.le_succ _, (ad4 hDn hCn).2.2.2.2.2.2.1⟩
      · rcases List.mem_cons.mp hc with rfl | hc
        · exact ⟨Nat.le_refl _, (ad4 hDn hCn).2.2.2.2.2.2.2.1⟩
        · rw [List.mem_singleton.mp hc]; exact ⟨(ad4 hDn hCn).2.2.2.2.2.1, (ad4 hDn hCn).2.2.2.2.2.2.2.2⟩
    exact ⟨fresh c hb.1, Nat.ne_of_gt (Nat.lt_of_lt_of_le hLlt hb.1), hb.2⟩
  case refine_12 => exact List.mem_cons_of_mem _ (List.mem_cons_of_mem _ List.mem_cons_self)
  case refine_13 => exact ⟨⟨_, up _ _ he⟩, hit.at fun o q => up _ o q, hl.at fun o q => up _ o (hk _ o q), _, hnsC⟩
  case refine_14 =>
    intro p hp hc
    have h1 : @LT.lt Nat _ p.1 s.heap.objs.size := hNlt p hp
    rcases List.mem_cons.mp hc with q | hc
    · exact (ad5 hDn hCn h1).1 q
    · rcases List.mem_cons.mp hc with q | hc
      · exact (ad5 hDn hCn h1).2.1 q
      · exact (ad5 hDn hCn h1).2.2.1 (List.mem_singleton.mp hc)
end
end Mine
end

section
open PySem PySem.W PyProof.Rows PySem.Spec PySem.Calls PyProof.V PyProof.Rows.LCg
namespace Mine
section
variable {prog : Program} {w : World} {A : Around} {h₀ : Heap} {L : Addr} {m : Str → Option Value} {env : Env}
noncomputable def IntBack (h₀ : Heap) (L : Addr) (m : Str → Option Value) (led : List (Addr × Obj)) (s : Shared) (P : Int → Prop) (y : Value) (s₄ : Shared) : Prop :=
  ∃ z t h' tk', y = .int z t ∧ P z ∧ s₄ = { s with heap := h', toks := tk' } ∧ Fr h₀ L h' m ∧ News h₀ L h' led
theorem IntBack.intro {led led' : List (Addr × Obj)} {s : Shared} {P : Int → Prop} {z : Int} {t : Tok} {h' : Heap} {tk' : Nat} (F : Fr h₀ L h' m) (N : News h₀ L h' led') (hs : ∀ p ∈ led, p ∈ led') (hP : P z) :
    IntBack h₀ L m led s P (.int z t) { s with heap := h', toks := tk' } := ⟨z, t, h', tk', rfl, hP, rfl, F, fun p hp => N p (hs p hp)⟩
theorem crest_ints {elt : Expr} {ca : List Addr} {D : Addr} {s : Shared} {S : List (Addr × Obj) → Prop} {B : Nat → List (Addr × Obj) → Prop} {Fin : List Value → List (Addr × Obj) → Prop} {nw₀ : List (Addr × Obj)} {n : Nat} (Pz : Nat → Int → Prop) (hS : S nw₀)
    (turn : ∀ i ys own h tk (E' : Value → Shared → Prop), i < n → B i own → (∀ p ∈ own, p.1 ∈ ca) → Fr h₀ L h m → News h₀ L h (own ++ (D, lst ys) :: nw₀) → (∀ p ∈ nw₀, p.1 ∉ ca ∧ p.1 ≠ D) →
      wpAny (model prog w) A (eval elt env) (IntBack h₀ L m (own ++ (D, lst ys) :: nw₀) s (Pz i)) E' { s with heap := h, toks := tk })
    (fin : ∀ ys zs, IntsAre ys zs → zs.length = n → (∀ i z, zs[i]? = some z → Pz i z) → Fin ys nw₀) : CRest prog w A h₀ L m env elt [] ca D s S B Fin n 0 [] nw₀ := by
  have key : ∀ (k i : Nat) (ys : List Value) (zs : List Int), i + k = n → IntsAre ys zs → zs.length = i → (∀ j z, zs[j]? = some z → Pz j z) → CRest prog w A h₀ L m env elt [] ca D s S B Fin k i ys nw₀ := by
    intro k
    induction k with
    | zero => intro i ys zs hi hI hl hP; exact fin ys zs hI (by omega) hP
    | succ k ih =>
      intro i ys zs hi hI hl hP own h tk E' hB hoc F N off
      show tests prog w A [] env _ _ _
      unfold tests
      refine wpAny_mono (turn i ys own h tk E' (by omega) hB hoc F N off) (fun y s₄ h₄ => ?_) fun _ _ e => e
      obtain ⟨z, t, h', tk', rfl, hz, rfl, F', N'⟩ := h₄
      refine ⟨h', tk', nw₀, rfl, F', N', off, hS, ih (i + 1) _ (zs ++ [z]) (by omega) (hI.append (.cons z t .nil)) (by simp [hl]) ?_⟩
      intro j z' hj
      by_cases hlt : j < zs.length
      · rw [List.getElem?_append_left hlt] at hj; exact hP j z' hj
      · rw [List.getElem?_append_right (by omega)] at hj
        have : j = zs.length := by
          cases hq : j - zs.length with
          | zero => omega
          | succ q => rw [hq] at hj; simp at hj
        subst this
        simp at hj
        subst hj
        rw [hl]; exact hz
  exact key n 0 [] [] (by omega) .nil rfl (fun j z hj => by simp at hj)
end
end Mine
namespace Mine
theorem ints_ex : ∀ {l : List Value}, (∀ v ∈ l, ∃ i t, v = .int i t) → ∃ ns, IntsAre l ns
  | [], _ => ⟨[], .nil⟩
  | v :: r, h => by
    obtain ⟨i, t, rfl⟩ := h v (.head _)
    obtain ⟨ns, hn⟩ := ints_ex fun x hx => h x (.tail _ hx)
    exact ⟨i :: ns, .cons i t hn⟩
theorem ints_all {vs : List Value} {ns : List Int} (h : IntsAre vs ns) : ∀ v ∈ vs, ∃ i t, v = .int i t := by
  induction h with
  | nil => intro v hv; exact nomatch hv
  | cons i t _ ih =>
    intro v hv
    rcases List.mem_cons.mp hv with rfl | hv
    · exact ⟨i, t, rfl⟩
    · exact ih v hv
theorem slice_ints {vs : List Value} {ns : List Int} {lo hi st : Option Int} (h : IntsAre vs ns) : ∃ ms, IntsAre (slicePick vs.toArray lo hi st).toList ms := by
  refine ints_ex fun v hv => ?_
  unfold slicePick at hv
  simp only [List.mem_filterMap] at hv
  obtain ⟨j, _, hj⟩ := hv
  exact ints_all h v (by simpa using List.mem_of_getElem? (by simpa using hj))
end Mine
end

section
open PySem PySem.W PyProof.Rows PySem.Spec PySem.Calls PyProof.V PyProof.Rows.LCg
namespace Mine
section
variable {prog : Program} {w : World} {A : Around} {h₀ : Heap} {L : Addr} {m : Str → Option Value} {E : Value → Shared → Prop} {s : Shared} {env : Env}

noncomputable abbrev cellObj (v : Option Value) : Obj := { cls := .type "cell", data := .cell v }
noncomputable def NmL (I C : Addr) (near : List (Addr × Obj)) (x : Str) (Pv : Nat → Value → Prop) (St : Nat → Heap → Prop) (i : Nat) (own : List (Addr × Obj)) : Prop :=
  ∃ (oI oC : Obj) (m₂ : Str → Option Value) (v : Value), own = [(I, oI), (C, oC)] ∧ NsObj oC m₂ ∧ Pv i v ∧ m₂ x = some v ∧ (∀ h : Heap, h.get? I = some oI → (∀ p ∈ near, h.get? p.1 = some p.2) → St (i + 1) h)
noncomputable def NmLI (C : Addr) (near : List (Addr × Obj)) (St : Nat → Heap → Prop) (i : Nat) (h : Heap) : Prop := St i h ∧ (∀ p ∈ near, h.get? p.1 = some p.2) ∧ ∃ m', h.Ns C m'
noncomputable def NmC (I C X : Addr) (near : List (Addr × Obj)) (Pv : Nat → Value → Prop) (St : Nat → Heap → Prop) (i : Nat) (own : List (Addr × Obj)) : Prop :=
  ∃ (oI oC : Obj) (m₂ : Str → Option Value) (v : Value), own = [(I, oI), (C, oC), (X, cellObj (some v))] ∧ NsObj oC m₂ ∧ Pv i v ∧ (∀ h : Heap, h.get? I = some oI → (∀ p ∈ near, h.get? p.1 = some p.2) → St (i + 1) h)
noncomputable def NmCI (C X : Addr) (near : List (Addr × Obj)) (St : Nat → Heap → Prop) (i : Nat) (h : Heap) : Prop := St i h ∧ (∀ p ∈ near, h.get? p.1 = some p.2) ∧ (∃ m', h.Ns C m') ∧ ∃ v, h.get? X = some (cellObj v)

theorem storeCell {name : Str} {c : Addr} {v₀ : Option Value} {v : Value} {Q : Unit → Shared → Prop} (hk : env.scope.kind = .function) (hl : env.kindOf name = some .cell)
    (hc : env.cells.lookup name = some c) (hv : s.heap.get? c = some (cellObj v₀))
    (h : ∀ h' : Heap, h'.get? c = some (cellObj (some v)) → Heap.SameBut c s.heap h' → Q () { s with heap := h' }) : wpAny (model prog w) A (storeName env name v) Q E s := by
  unfold storeName
  simp only [hl, hk]
  refine wpAny_bind (wpAny_cellOf hc ?_)
  unfold cellSet
  refine wpAny_bind (wpAny_load hv ?_)
  exact wpAny_update hv (h _ (Heap.get?_update_self _ hv rfl) (Heap.SameBut.update ..))

section
variable {I C D X : Addr} {fp wr : List Addr} {n : Nat} {Pv : Nat → Value → Prop} {St : Nat → Heap → Prop} {near : List (Addr × Obj)} {x : Str} {px : Pos}

theorem walk_at' (W : Walks prog w A I fp wr n Pv St) (hfp : ∀ b ∈ fp, b = I ∨ ∃ o, (b, o) ∈ near) {i : Nat} {h h' : Heap} {oI : Obj} (hs : St i h) (hI : h.get? I = some oI) (hn : ∀ p ∈ near, h.get? p.1 = some p.2)
    (hI' : h'.get? I = some oI) (hn' : ∀ p ∈ near, h'.get? p.1 = some p.2) : St i h' := by
  refine W.frame i h h' hs fun b hb o e => ?_
  rcases hfp b hb with rfl | ⟨o', ho⟩
  · rw [hI] at e; rw [hI']; exact e
  · rw [hn _ ho] at e; rw [hn' _ ho]; exact e

theorem CSrc.name (W : Walks prog w A I fp wr n Pv St) (hfp : ∀ b ∈ fp, b = I ∨ ∃ o, (b, o) ∈ near) (hwr : ∀ b ∈ wr, b = I) (hlive : ∀ i h, St i h → ∃ o, h.get? I = some o)
    (hCI : C ≠ I) (hDI : D ≠ I) (hDC : D ≠ C) (hnI : ∀ p ∈ near, p.1 ≠ I ∧ p.1 ≠ C ∧ p.1 ≠ D) (hC : env.locals = C) (hx : env.kindOf x = some .local)
    (hp : (env.scope.kind == .class || (env.scope.kind == .module && env.locals != env.globals)) = false) :
    CSrc prog w A h₀ L (.Name x px) env I D C [I, C] n (fun nw => ∀ p ∈ near, p ∈ nw) (NmLI C near St) (NmL I C near x Pv St) where
  next := by
    intro i s P Q E hi hid hP hQ
    obtain ⟨hst, hn, m', hns⟩ := hid
    refine W.item i s P E hi hst fun v h' tk hPv hst' hk => hP _ _ ?_
    have hkI : ∀ b o, b ≠ I → s.heap.get? b = some o → h'.get? b = some o := fun b o hb e => hk b o (fun hm => hb (hwr b hm)) e
    refine wpAny_pure ?_
    refine wpAny_assign_Name (wpAny_storeName_local hx (m := m') (by rw [hC]; exact hns.at' fun o q => hkI C o hCI q) (fun h₂ hn₂ hs₂ => ?_) hp)
    rw [hC] at hn₂ hs₂
    obtain ⟨oI, hoI⟩ := hlive _ _ hst'
    obtain ⟨oC, heC, hoC⟩ := ns_obj hn₂
    have hn' : ∀ p ∈ near, h'.get? p.1 = some p.2 := fun p hp => hkI _ _ (hnI p hp).1 (hn p hp)
    refine hQ [(I, oI), (C, oC)] h₂ _ ⟨oI, oC, _, v, rfl, hoC, hPv, by simp, fun h q1 q2 => walk_at' W hfp hst' hoI hn' q1 q2⟩ ?_ ?_ ?_
    · intro p hp
      rcases List.mem_cons.mp hp with rfl | hp
      · exact List.mem_cons_self
      · rw [List.mem_singleton.mp hp]; exact List.mem_cons_of_mem _ List.mem_cons_self
    · intro p hp
      rcases List.mem_cons.mp hp with rfl | hp
      · exact hs₂.extBut _ _ (Ne.symm hCI) hoI
      · rw [List.mem_singleton.mp hp]; exact heC
    · intro b o hb e
      have h1 : b ≠ I := fun z => hb (by rw [z]; exact List.mem_cons_self)
      have h2 : b ≠ C := fun z => hb (by rw [z]; exact List.mem_cons_of_mem _ List.mem_cons_self)
      exact hs₂.extBut _ _ h2 (hkI b o h1 e)
  back := by
    intro i own h nw hB hog _ N hS
    obtain ⟨oI, oC, m₂, v, rfl, hoC, _, _, f⟩ := hB
    have hn : ∀ p ∈ near, h.get? p.1 = some p.2 := fun p hp => (N p (hS p hp)).1
    exact ⟨f h (hog (I, oI) List.mem_cons_self) hn, hn, m₂, hoC.ns (hog (C, oC) (List.mem_cons_of_mem _ List.mem_cons_self))⟩
  keep := by
    intro i h h' hid k
    obtain ⟨hst, hn, m', hns⟩ := hid
    obtain ⟨oI, hoI⟩ := hlive _ _ hst
    have hn' : ∀ p ∈ near, h'.get? p.1 = some p.2 := fun p hp => k _ _ (hnI p hp).2.2 (hn p hp)
    exact ⟨walk_at' W hfp hst hoI hn (k _ _ (Ne.symm hDI) hoI) hn', hn', m', hns.at' fun o q => k _ o (Ne.symm hDC) q⟩
  done := by
    intro s P E hid hP
    obtain ⟨hst, hn, m', hns⟩ := hid
    refine W.done s P E hst fun h' tk hk => hP h' tk (fun c o hc q => hk c o (fun hm => hc (by rw [hwr c hm]; exact List.mem_cons_self)) q) ⟨m', hns.at' fun o q => hk C o (fun hm => hCI (hwr C hm)) q⟩
  self := by
    intro s Q E hid hQ
    exact W.self 0 s Q E hid.1 hQ

theorem CSrc.cell (W : Walks prog w A I fp wr n Pv St) (hfp : ∀ b ∈ fp, b = I ∨ ∃ o, (b, o) ∈ near) (hwr : ∀ b ∈ wr, b = I) (hlive : ∀ i h, St i h → ∃ o, h.get? I = some o)
    (hCI : C ≠ I) (hDI : D ≠ I) (hDC : D ≠ C) (hXI : X ≠ I) (hXC : X ≠ C) (hXD : X ≠ D) (hnI : ∀ p ∈ near, p.1 ≠ I ∧ p.1 ≠ X ∧ p.1 ≠ D) (hx : env.kindOf x = some .cell) (hk : env.scope.kind = .function) (hc : env.cells.lookup x = some X) :
    CSrc prog w A h₀ L (.Name x px) env I D C [I, C, X] n (fun nw => ∀ p ∈ near, p ∈ nw) (NmCI C X near St) (NmC I C X near Pv St) where
  next := by
    intro i s P Q E hi hid hP hQ
    obtain ⟨hst, hn, ⟨m', hns⟩, v₀, hcv⟩ := hid
    refine W.item i s P E hi hst fun v h' tk hPv hst' hk' => hP _ _ ?_
    have hkI : ∀ b o, b ≠ I → s.heap.get? b = some o → h'.get? b = some o := fun b o hb e => hk' b o (fun hm => hb (hwr b hm)) e
    refine wpAny_pure ?_
    refine wpAny_assign_Name (storeCell hk hx hc (hkI X _ hXI hcv) fun h₂ hcv₂ hs₂ => ?_)
    obtain ⟨oI, hoI⟩ := hlive _ _ hst'
    have hns₂ : h₂.Ns C m' := hns.at' fun o q => hs₂.extBut _ _ (Ne.symm hXC) (hkI C o hCI q)
    obtain ⟨oC, heC, hoC⟩ := ns_obj hns₂
    have hn' : ∀ p ∈ near, h'.get? p.1 = some p.2 := fun p hp => hkI _ _ (hnI p hp).1 (hn p hp)
    refine hQ [(I, oI), (C, oC), (X, cellObj (some v))] h₂ _ ⟨oI, oC, _, v, rfl, hoC, hPv, fun h q1 q2 => walk_at' W hfp hst' hoI hn' q1 q2⟩ ?_ ?_ ?_
    · intro p hp
      rcases List.mem_cons.mp hp with rfl | hp
      · exact List.mem_cons_self
      · rcases List.mem_cons.mp hp with rfl | hp
        · exact List.mem_cons_of_mem _ List.mem_cons_self
        · rw [List.mem_singleton.mp hp]; exact List.mem_cons_of_mem _ (List.mem_cons_of_mem _ List.mem_cons_self)
    · intro p hp
      rcases List.mem_cons.mp hp with rfl | hp
      · exact hs₂.extBut _ _ (Ne.symm hXI) hoI
      · rcases List.mem_cons.mp hp with rfl | hp
        · exact heC
        · rw [List.mem_singleton.mp hp]; exact hcv₂
    · intro b o hb e
      have h1 : b ≠ I := fun z => hb (by rw [z]; exact List.mem_cons_self)
      have h2 : b ≠ X := fun z => hb (by rw [z]; exact List.mem_cons_of_mem _ (List.mem_cons_of_mem _ List.mem_cons_self))
      exact hs₂.extBut _ _ h2 (hkI b o h1 e)
  back := by
    intro i own h nw hB hog _ N hS
    obtain ⟨oI, oC, m₂, v, rfl, hoC, _, f⟩ := hB
    have hn : ∀ p ∈ near, h.get? p.1 = some p.2 := fun p hp => (N p (hS p hp)).1
    exact ⟨f h (hog (I, oI) List.mem_cons_self) hn, hn, ⟨m₂, hoC.ns (hog (C, oC) (List.mem_cons_of_mem _ List.mem_cons_self))⟩, _, hog (X, cellObj (some v)) (List.mem_cons_of_mem _ (List.mem_cons_of_mem _ List.mem_cons_self))⟩
  keep := by
    intro i h h' hid k
    obtain ⟨hst, hn, ⟨m', hns⟩, v₀, hcv⟩ := hid
    obtain ⟨oI, hoI⟩ := hlive _ _ hst
    have hn' : ∀ p ∈ near, h'.get? p.1 = some p.2 := fun p hp => k _ _ (hnI p hp).2.2 (hn p hp)
    exact ⟨walk_at' W hfp hst hoI hn (k _ _ (Ne.symm hDI) hoI) hn', hn', ⟨m', hns.at' fun o q => k _ o (Ne.symm hDC) q⟩, _, k _ _ hXD hcv⟩
  done := by
    intro s P E hid hP
    obtain ⟨hst, hn, ⟨m', hns⟩, v₀, hcv⟩ := hid
    refine W.done s P E hst fun h' tk hk => hP h' tk (fun c o hc q => hk c o (fun hm => hc (by rw [hwr c hm]; exact List.mem_cons_self)) q) ⟨m', hns.at' fun o q => hk C o (fun hm => hCI (hwr C hm)) q⟩
  self := by
    intro s Q E hid hQ
    exact W.self 0 s Q E hid.1 hQ
end
end
end Mine
end

section
open PySem PySem.W PyProof.Rows PySem.Spec PySem.Calls PyProof.V PyProof.Rows.LCg
namespace Mine
theorem lookup_relabel_cell {env : Env} {scope : Scope} {x : Str} (h : scope.names.lookup x = some .cell) : (relabel scope env).names.lookup x = some .cell := by
  unfold relabel
  show List.lookup x (scope.names.map _) = _
  generalize scope.names = ns at h ⊢
  induction ns with
  | nil => simp at h
  | cons y r ih =>
    obtain ⟨n, k⟩ := y
    rw [List.map_cons]
    cases hxn : x == n with
    | true =>
      simp only [List.lookup, hxn] at h
      cases h
      simp [List.lookup, hxn]
    | false =>
      simp only [List.lookup, hxn] at h
      have := ih h
      by_cases hc : (k == NameKind.free && env.scope.kind == .function && env.kindOf n == some .cell) = true
      · simp only [hc, if_true, List.lookup, hxn]; exact this
      · show List.lookup x ((if (k == NameKind.free && env.scope.kind == .function && env.kindOf n == some .cell) = true then (n, NameKind.cell) else (n, k)) :: _) = _
        rw [if_neg hc]
        simp only [List.lookup, hxn]
        exact this
section
variable {prog : Program} {w : World} {A : Around} {h₀ : Heap} {L : Addr} {m : Str → Option Value} {E : Value → Shared → Prop} {s : Shared} {env : Env}

theorem name_at {elt : Expr} {ifs : List Expr} {scope : Scope} {cl : List (Str × Addr)} {fp wr : List Addr} {n : Nat} {Pv : Nat → Value → Prop} {St : Nat → Heap → Prop} {near : List (Addr × Obj)} {x : Str} {px : Pos} {nw₀ : List (Addr × Obj)} {oI : Obj} {Fin : Addr → Shared → List Value → List (Addr × Obj) → Prop}
    (W : Walks prog w A s.heap.objs.size fp wr n Pv St) (hfp : ∀ b ∈ fp, b = s.heap.objs.size ∨ ∃ o, (b, o) ∈ near) (hwr : ∀ b ∈ wr, b = s.heap.objs.size) (hlive : ∀ i h, St i h → ∃ o, h.get? s.heap.objs.size = some o)
    (hst : St 0 (s.heap.push oI)) (hfree : oI.isFreed = false) (F : Fr h₀ L s.heap m) (N : News h₀ L s.heap nw₀) (hnear : ∀ p ∈ near, p ∈ nw₀) (hsz : n ≤ sizeLine) (hkind : scope.kind = .function) (hcell : ∀ y ∈ scope.names, y.2 ≠ .cell) (hx : scope.names.lookup x = some .local)
    (R : ∀ I D C h₁ h₂, (∀ p ∈ nw₀, p.1 < I) → D = I + 1 → C = I + 2 → CRest prog w A h₀ L m (compEnvC scope cl C env) elt ifs [I, C] D { s with heap := h₁ } (fun nw => ∀ p ∈ near, p ∈ nw) (NmL I C near x Pv St) (Fin D { s with heap := h₂ }) n 0 [] nw₀) :
    CompAt prog w A h₀ L m env (.Name x px) elt ifs scope cl Fin (.ref s.heap.objs.size) { s with heap := s.heap.push oI } := by
  have hNlt : ∀ p ∈ nw₀, p.1 < s.heap.objs.size := fun p hp => Heap.lt_size (N p hp).1
  have hLlt : L < s.heap.objs.size := F.ns.lt
  have fresh : ∀ c, s.heap.objs.size ≤ c → h₀.get? c = none := fun c hc => by
    cases q : h₀.get? c with
    | none => rfl
    | some o => exact absurd (Nat.lt_of_lt_of_le (Heap.lt_size (F.keep c o q)) hc) (Nat.lt_irrefl _)
  have hsp : (s.heap.push oI).objs.size = s.heap.objs.size + 1 := Heap.size_push ..
  have up0 : ∀ b o, s.heap.get? b = some o → (s.heap.push oI).get? b = some o := fun b o e => Heap.get?_push_of_some _ e
  refine ⟨s.heap.objs.size, n, nw₀, rfl, hsz, F.push _, fun p hp => ⟨up0 _ _ (N p hp).1, (N p hp).2⟩, ?_⟩
  intro D C h₃ hD hC hh3
  have hD' : D = s.heap.objs.size + 1 := by rw [hD]; exact hsp
  have hDn : @Eq Nat D (s.heap.objs.size + 1) := hD'
  have hCn : @Eq Nat C (s.heap.objs.size + 2) := by rw [hC, hD']

  rw [cells_none _ _ hcell]
  rw [push_none _ hcell] at hh3
  have up : ∀ c o, (s.heap.push oI).get? c = some o → h₃.get? c = some o := fun c o q => by rw [hh3]; exact Heap.get?_push_of_some _ (Heap.get?_push_of_some _ q)
  have hnsC : h₃.Ns C (fun _ => none) := by
    have e1 : (((s.heap.push oI).push (lst [])) : Heap).objs.size = C := by rw [Heap.size_push, hC, hD]
    rw [hh3, ← e1]
    exact Heap.Ns.new _ (.type "dict")
  have hoI : (s.heap.push oI).get? s.heap.objs.size = some oI := Heap.get?_push_size _ hfree
  have hn1 : ∀ p ∈ near, (s.heap.push oI).get? p.1 = some p.2 := fun p hp => up0 _ _ (N p (hnear p hp)).1
  refine ⟨[s.heap.objs.size, C], _, _, _, CSrc.name (near := near) W hfp hwr hlive ?_ ?_ ?_ ?_ rfl (lookup_relabel_local hx) (by simp [compEnvC, relabel, hkind]), ?_, ?_, ?_, ?_, hnear, R s.heap.objs.size D C h₃ _ hNlt hD' (by rw [hC, hD'])⟩
  case refine_1 => exact (ad1 hDn hCn).1
  case refine_2 => exact (ad1 hDn hCn).2.1
  case refine_3 => exact (ad1 hDn hCn).2.2.1
  case refine_4 =>
    intro p hp
    have h1 : @LT.lt Nat _ p.1 s.heap.objs.size := hNlt p (hnear p hp)
    exact ⟨(ad2 hDn hCn h1).1, (ad2 hDn hCn h1).2.1, (ad2 hDn hCn h1).2.2.1⟩
  case refine_5 =>
    intro c hc
    have hb : s.heap.objs.size ≤ c ∧ c ≠ D := by
      rcases List.mem_cons.mp hc with rfl | hc
      · exact ⟨Nat.le_refl _, (ad1 hDn hCn).2.2.2.1⟩
      · rw [List.mem_singleton.mp hc]; exact ⟨(ad1 hDn hCn).2.2.2.2.1, (ad1 hDn hCn).2.2.2.2.2⟩
    exact ⟨fresh c hb.1, Nat.ne_of_gt (Nat.lt_of_lt_of_le hLlt hb.1), hb.2⟩
  case refine_6 => exact List.mem_cons_of_mem _ List.mem_cons_self
  case refine_7 => exact ⟨walk_at' W hfp hst hoI hn1 (up _ _ hoI) (fun p hp => up _ _ (hn1 p hp)), fun p hp => up _ _ (hn1 p hp), _, hnsC⟩
  case refine_8 =>
    intro p hp hc
    have h1 : @LT.lt Nat _ p.1 s.heap.objs.size := hNlt p hp
    rcases List.mem_cons.mp hc with q | hc
    · exact (ad2 hDn hCn h1).1 q
    · exact (ad2 hDn hCn h1).2.1 (List.mem_singleton.mp hc)

theorem cell_at {elt : Expr} {ifs : List Expr} {scope : Scope} {cl : List (Str × Addr)} {fp wr : List Addr} {n : Nat} {Pv : Nat → Value → Prop} {St : Nat → Heap → Prop} {near : List (Addr × Obj)} {x : Str} {px : Pos} {nw₀ : List (Addr × Obj)} {oI : Obj} {Fin : Addr → Shared → List Value → List (Addr × Obj) → Prop}
    (W : Walks prog w A s.heap.objs.size fp wr n Pv St) (hfp : ∀ b ∈ fp, b = s.heap.objs.size ∨ ∃ o, (b, o) ∈ near) (hwr : ∀ b ∈ wr, b = s.heap.objs.size) (hlive : ∀ i h, St i h → ∃ o, h.get? s.heap.objs.size = some o)
    (hst : St 0 (s.heap.push oI)) (hfree : oI.isFreed = false) (F : Fr h₀ L s.heap m) (N : News h₀ L s.heap nw₀) (hnear : ∀ p ∈ near, p ∈ nw₀) (hsz : n ≤ sizeLine) (hkind : scope.kind = .function) (hcf : ∀ k acc, cellsFrom k scope.names acc = (x, k) :: acc) (hpc : ∀ h : Heap, pushCells h scope.names = h.push (cellObj none)) (hx : scope.names.lookup x = some .cell)
    (R : ∀ I D C h₁ h₂, (∀ p ∈ nw₀, p.1 < I) → D = I + 1 → C = I + 2 → CRest prog w A h₀ L m (compEnvC scope ((x, C + 1) :: cl) C env) elt ifs [I, C, C + 1] D { s with heap := h₁ } (fun nw => ∀ p ∈ near, p ∈ nw) (NmC I C (C + 1) near Pv St) (Fin D { s with heap := h₂ }) n 0 [] nw₀) :
    CompAt prog w A h₀ L m env (.Name x px) elt ifs scope cl Fin (.ref s.heap.objs.size) { s with heap := s.heap.push oI } := by
  have hNlt : ∀ p ∈ nw₀, p.1 < s.heap.objs.size := fun p hp => Heap.lt_size (N p hp).1
  have hLlt : L < s.heap.objs.size := F.ns.lt
  have fresh : ∀ c, s.heap.objs.size ≤ c → h₀.get? c = none := fun c hc => by
    cases q : h₀.get? c with
    | none => rfl
    | some o => exact absurd (Nat.lt_of_lt_of_le (Heap.lt_size (F.keep c o q)) hc) (Nat.lt_irrefl _)
  have hsp : (s.heap.push oI).objs.size = s.heap.objs.size + 1 := Heap.size_push ..
  have up0 : ∀ b o, s.heap.get? b = some o → (s.heap.push oI).get? b = some o := fun b o e => Heap.get?_push_of_some _ e
  refine ⟨s.heap.objs.size, n, nw₀, rfl, hsz, F.push _, fun p hp => ⟨up0 _ _ (N p hp).1, (N p hp).2⟩, ?_⟩
  intro D C h₃ hD hC hh3
  have hD' : D = s.heap.objs.size + 1 := by rw [hD]; exact hsp
  have hDn : @Eq Nat D (s.heap.objs.size + 1) := hD'
  have hCn : @Eq Nat C (s.heap.objs.size + 2) := by rw [hC, hD']

  rw [hcf]
  rw [hpc] at hh3
  have up : ∀ c o, (s.heap.push oI).get? c = some o → h₃.get? c = some o := fun c o q => by rw [hh3]; exact Heap.get?_push_of_some _ (Heap.get?_push_of_some _ (Heap.get?_push_of_some _ q))
  have e1 : (((s.heap.push oI).push (lst [])) : Heap).objs.size = C := by rw [Heap.size_push, hC, hD]
  have e2 : ((((s.heap.push oI).push (lst [])).push { cls := .type "dict", data := .dict #[] }) : Heap).objs.size = C + 1 := by rw [Heap.size_push, e1]
  have hnsC : h₃.Ns C (fun _ => none) := by
    have q : ((((s.heap.push oI).push (lst [])).push { cls := .type "dict", data := .dict #[] }) : Heap).Ns C (fun _ => none) := by
      rw [← e1]
      exact Heap.Ns.new _ (.type "dict")
    rw [hh3]
    exact q.at' fun o e => Heap.get?_push_of_some _ e
  have hX : h₃.get? (C + 1) = some (cellObj none) := by
    rw [hh3, ← e2]
    exact Heap.get?_push_size _ rfl
  have hoI : (s.heap.push oI).get? s.heap.objs.size = some oI := Heap.get?_push_size _ hfree
  have hn1 : ∀ p ∈ near, (s.heap.push oI).get? p.1 = some p.2 := fun p hp => up0 _ _ (N p (hnear p hp)).1
  have hXn : @Eq Nat (C + 1) (s.heap.objs.size + 3) := by rw [hC, hD']
  refine ⟨[s.heap.objs.size, C, C + 1], _, _, _, CSrc.cell (near := near) (X := C + 1) W hfp hwr hlive ?_ ?_ ?_ ?_ ?_ ?_ ?_ ?_ (by simpa [compEnvC, relabel] using hkind) ?_, ?_, ?_, ?_, ?_, hnear, R s.heap.objs.size D C h₃ _ hNlt hD' (by rw [hC, hD'])⟩
  case refine_1 => exact (ad1 hDn hCn).1
  case refine_2 => exact (ad1 hDn hCn).2.1
  case refine_3 => exact (ad1 hDn hCn).2.2.1
  case refine_4 => exact (ad3 hDn hCn).1
  case refine_5 => exact Nat.ne_of_gt (Nat.lt_succ_self _)
  case refine_6 => exact (ad3 hDn hCn).2.1
  case refine_7 =>
    intro p hp
    have h1 : @LT.lt Nat _ p.1 s.heap.objs.size := hNlt p (hnear p hp)
    exact ⟨(ad2 hDn hCn h1).1, (ad2 hDn hCn h1).2.2.2, (ad2 hDn hCn h1).2.2.1⟩
  case refine_8 => exact lookup_relabel_cell hx
  case refine_9 => simp [compEnvC]
  case refine_10 =>
    intro c hc
    have hb : s.heap.objs.size ≤ c ∧ c ≠ D := by
      rcases List.mem_cons.mp hc with rfl | hc
      · exact ⟨Nat.le_refl _, (ad1 hDn hCn).2.2.2.1⟩
      · rcases List.mem_cons.mp hc with rfl | hc
        · exact ⟨(ad1 hDn hCn).2.2.2.2.1, (ad1 hDn hCn).2.2.2.2.2⟩
        · rw [List.mem_singleton.mp hc]; exact ⟨(ad3 hDn hCn).2.2, (ad3 hDn hCn).2.1⟩
    exact ⟨fresh c hb.1, Nat.ne_of_gt (Nat.lt_of_lt_of_le hLlt hb.1), hb.2⟩
  case refine_11 => exact List.mem_cons_of_mem _ List.mem_cons_self
  case refine_12 => exact ⟨walk_at' W hfp hst hoI hn1 (up _ _ hoI) (fun p hp => up _ _ (hn1 p hp)), fun p hp => up _ _ (hn1 p hp), ⟨_, hnsC⟩, _, hX⟩
  case refine_13 =>
    intro p hp hc
    have h1 : @LT.lt Nat _ p.1 s.heap.objs.size := hNlt p hp
    rcases List.mem_cons.mp hc with q | hc
    · exact (ad2 hDn hCn h1).1 q
    · rcases List.mem_cons.mp hc with q | hc
      · exact (ad2 hDn hCn h1).2.1 q
      · exact (ad2 hDn hCn h1).2.2.2 (List.mem_singleton.mp hc)
end
end Mine
end

section
open PySem PySem.W PyProof.Rows PySem.Spec PySem.Calls PyProof.V PyProof.Rows.LCg
namespace Mine
section
variable {prog : Program} {w : World} {A : Around} {h₀ : Heap} {L : Addr} {m : Str → Option Value} {env : Env} {E : Value → Shared → Prop} {s : Shared}
noncomputable def BoolBack (h₀ : Heap) (L : Addr) (m : Str → Option Value) (led : List (Addr × Obj)) (s : Shared) (b ok : Bool) (s₃ : Shared) : Prop :=
  ok = b ∧ ∃ h' tk', s₃ = { s with heap := h', toks := tk' } ∧ Fr h₀ L h' m ∧ News h₀ L h' led
theorem BoolBack.intro {led led' : List (Addr × Obj)} {s : Shared} {b ok : Bool} {h' : Heap} {tk' : Nat} (F : Fr h₀ L h' m) (N : News h₀ L h' led') (hs : ∀ p ∈ led, p ∈ led') (hb : ok = b) :
    BoolBack h₀ L m led s b ok { s with heap := h', toks := tk' } := ⟨hb, h', tk', rfl, F, fun p hp => N p (hs p hp)⟩
noncomputable def ValBack (h₀ : Heap) (L : Addr) (m : Str → Option Value) (own : List (Addr × Obj)) (ca : List Addr) (D : Addr) (oD : Obj) (s : Shared) (J : Value → List (Addr × Obj) → Prop) (y : Value) (s₄ : Shared) : Prop :=
  ∃ h' tk' nw, s₄ = { s with heap := h', toks := tk' } ∧ Fr h₀ L h' m ∧ News h₀ L h' (own ++ (D, oD) :: nw) ∧ (∀ p ∈ nw, p.1 ∉ ca ∧ p.1 ≠ D) ∧ J y nw
section
variable {elt c : Expr} {ca : List Addr} {D : Addr} {S : List (Addr × Obj) → Prop} {B : Nat → List (Addr × Obj) → Prop} {Fin : List Value → List (Addr × Obj) → Prop} {nw₀ : List (Addr × Obj)} {n : Nat}
theorem crest_exact (f : Nat → Int) (hS : S nw₀)
    (turn : ∀ i ys own h tk (E' : Value → Shared → Prop), i < n → B i own → (∀ p ∈ own, p.1 ∈ ca) → Fr h₀ L h m → News h₀ L h (own ++ (D, lst ys) :: nw₀) → (∀ p ∈ nw₀, p.1 ∉ ca ∧ p.1 ≠ D) →
      wpAny (model prog w) A (eval elt env) (IntBack h₀ L m (own ++ (D, lst ys) :: nw₀) s (fun z => z = f i)) E' { s with heap := h, toks := tk })
    (fin : ∀ ys, IntsAre ys ((List.range n).map f) → Fin ys nw₀) : CRest prog w A h₀ L m env elt [] ca D s S B Fin n 0 [] nw₀ := by
  refine crest_ints (fun i z => z = f i) hS turn fun ys zs hI hl hP => fin ys ?_
  have e : zs = (List.range n).map f := by
    apply List.ext_getElem?
    intro i
    by_cases hi : i < n
    · rw [List.getElem?_eq_getElem (by omega)]
      have := hP i zs[i] (List.getElem?_eq_getElem (by omega))
      rw [this]
      simp [hi]
    · rw [List.getElem?_eq_none (by omega), List.getElem?_eq_none (by simp; omega)]
  rw [← e]; exact hI
theorem crest_if (f : Nat → Int) (p : Nat → Bool) (hS : S nw₀)
    (test : ∀ i ys own h tk (E' : Value → Shared → Prop), i < n → B i own → (∀ p ∈ own, p.1 ∈ ca) → Fr h₀ L h m → News h₀ L h (own ++ (D, lst ys) :: nw₀) → (∀ p ∈ nw₀, p.1 ∉ ca ∧ p.1 ≠ D) →
      wpAny (model prog w) A (isTrue c env (eval c env)) (BoolBack h₀ L m (own ++ (D, lst ys) :: nw₀) s (p i)) E' { s with heap := h, toks := tk })
    (turn : ∀ i ys own h tk (E' : Value → Shared → Prop), i < n → p i = true → B i own → (∀ p ∈ own, p.1 ∈ ca) → Fr h₀ L h m → News h₀ L h (own ++ (D, lst ys) :: nw₀) → (∀ p ∈ nw₀, p.1 ∉ ca ∧ p.1 ≠ D) →
      wpAny (model prog w) A (eval elt env) (IntBack h₀ L m (own ++ (D, lst ys) :: nw₀) s (fun z => z = f i)) E' { s with heap := h, toks := tk })
    (fin : ∀ ys, IntsAre ys (((List.range n).filter p).map f) → Fin ys nw₀) : CRest prog w A h₀ L m env elt [c] ca D s S B Fin n 0 [] nw₀ := by
  have key : ∀ (k i : Nat) (ys : List Value), i + k = n → IntsAre ys (((List.range i).filter p).map f) → CRest prog w A h₀ L m env elt [c] ca D s S B Fin k i ys nw₀ := by
    intro k
    induction k with
    | zero => intro i ys hi hI; have e : i = n := by omega
              subst e; exact fin ys hI
    | succ k ih =>
      intro i ys hi hI own h tk E' hB hoc F N off
      show tests prog w A [c] env _ _ _
      unfold tests
      refine wpAny_mono (test i ys own h tk E' (by omega) hB hoc F N off) (fun ok s₃ h₃ => ?_) fun _ _ e => e
      obtain ⟨rfl, h', tk', rfl, F', N'⟩ := h₃
      cases hp : p i with
      | false =>
        simp only [Bool.false_eq_true, if_false]
        refine ⟨h', tk', nw₀, rfl, F', N', off, hS, ih (i + 1) ys (by omega) ?_⟩
        rw [List.range_succ, List.filter_append, List.map_append]
        simpa [hp] using hI
      | true =>
        simp only [if_true]
        refine wpAny_mono (turn i ys own h' tk' E' (by omega) hp hB hoc F' N' off) (fun y s₄ h₄ => ?_) fun _ _ e => e
        obtain ⟨z, t, h'', tk'', rfl, hz, rfl, F'', N''⟩ := h₄
        subst hz
        refine ⟨h'', tk'', nw₀, rfl, F'', N'', off, hS, ih (i + 1) _ (by omega) ?_⟩
        rw [List.range_succ, List.filter_append, List.map_append]
        simpa [hp] using hI.append (.cons (f i) t .nil)
  exact key n 0 [] (by omega) .nil
theorem crest_grow (J : Nat → List Value → List (Addr × Obj) → Prop) (hJS : ∀ i ys nw, J i ys nw → S nw) (h0 : J 0 [] nw₀)
    (turn : ∀ i ys nw own h tk (E' : Value → Shared → Prop), i < n → J i ys nw → B i own → (∀ p ∈ own, p.1 ∈ ca) → Fr h₀ L h m → News h₀ L h (own ++ (D, lst ys) :: nw) → (∀ p ∈ nw, p.1 ∉ ca ∧ p.1 ≠ D) →
      wpAny (model prog w) A (eval elt env) (ValBack h₀ L m own ca D (lst ys) s (fun y nw' => J (i + 1) (ys ++ [y]) nw')) E' { s with heap := h, toks := tk })
    (fin : ∀ ys nw, J n ys nw → Fin ys nw) : CRest prog w A h₀ L m env elt [] ca D s S B Fin n 0 [] nw₀ := by
  have key : ∀ (k i : Nat) (ys : List Value) (nw : List (Addr × Obj)), i + k = n → J i ys nw → CRest prog w A h₀ L m env elt [] ca D s S B Fin k i ys nw := by
    intro k
    induction k with
    | zero => intro i ys nw hi hJ; have e : i = n := by omega
              subst e; exact fin ys nw hJ
    | succ k ih =>
      intro i ys nw hi hJ own h tk E' hB hoc F N off
      show tests prog w A [] env _ _ _
      unfold tests
      refine wpAny_mono (turn i ys nw own h tk E' (by omega) hJ hB hoc F N off) (fun y s₄ h₄ => ?_) fun _ _ e => e
      obtain ⟨h', tk', nw', rfl, F', N', off', hJ'⟩ := h₄
      exact ⟨h', tk', nw', rfl, F', N', off', hJS _ _ _ hJ', ih (i + 1) _ nw' (by omega) hJ'⟩
  exact key n 0 [] nw₀ (by omega) h0
end
section
variable {elt : Expr} {ifs : List Expr} {scope : Scope} {cl : List (Str × Addr)} {n : Nat} {x : Str} {px : Pos} {nw₀ : List (Addr × Obj)} {Fin : Addr → Shared → List Value → List (Addr × Obj) → Prop} {r l : Addr} {a c : Int} {t₀ u₀ v₀ : Tok} {b : Array UInt8} {tb : Tok}
noncomputable abbrev rangeSt (I : Addr) (a c : Int) (n : Nat) : Nat → Heap → Prop := fun i h => IsRangeIter h I (a + (i : Nat) * c) ((n : Int) - (i : Nat)) c
noncomputable abbrev rangeV (a c : Int) : Nat → Value → Prop := fun i v => ∃ t, v = .int (a + i * c) t
theorem range_name {b : Int} (hh : A.handled = none) (hr : IsRange s.heap r a b c t₀ u₀ v₀) (hsmall : Builtin.Range.small a b c = true) (hn : Builtin.Range.rangeSize a b c = (n : Int)) (F : Fr h₀ L s.heap m) (N : News h₀ L s.heap nw₀) (hsz : n ≤ sizeLine)
    (hkind : scope.kind = .function) (hcell : ∀ y ∈ scope.names, y.2 ≠ .cell) (hx : scope.names.lookup x = some .local)
    (R : ∀ I D C h₁ h₂, (∀ p ∈ nw₀, p.1 < I) → D = I + 1 → C = I + 2 → CRest prog w A h₀ L m (compEnvC scope cl C env) elt ifs [I, C] D { s with heap := h₁ } (fun nw => ∀ p ∈ ([] : List (Addr × Obj)), p ∈ nw) (NmL I C [] x (rangeV a c) (rangeSt s.heap.objs.size a c n)) (Fin D { s with heap := h₂ }) n 0 [] nw₀) :
    wpAny (model prog w) A (pyIter (.ref r)) (CompAt prog w A h₀ L m env (.Name x px) elt ifs scope cl Fin) E s := by
  refine wpAny_pyIter_range hr hsmall ?_
  refine name_at (near := []) (Walks.range hh _ a c n) (fun b hb => .inl (by simpa using hb)) (fun b hb => by simpa using hb) (fun i h st => ⟨_, st⟩) (by show IsRangeIter _ _ _ _ _; rw [hn]; simpa using Heap.get?_push_size _ rfl) rfl F N (fun p hp => nomatch hp) hsz hkind hcell hx R
theorem range_cell {b : Int} (hh : A.handled = none) (hr : IsRange s.heap r a b c t₀ u₀ v₀) (hsmall : Builtin.Range.small a b c = true) (hn : Builtin.Range.rangeSize a b c = (n : Int)) (F : Fr h₀ L s.heap m) (N : News h₀ L s.heap nw₀) (hsz : n ≤ sizeLine)
    (hkind : scope.kind = .function) (hcf : ∀ k acc, cellsFrom k scope.names acc = (x, k) :: acc) (hpc : ∀ h : Heap, pushCells h scope.names = h.push (cellObj none)) (hx : scope.names.lookup x = some .cell)
    (R : ∀ I D C h₁ h₂, (∀ p ∈ nw₀, p.1 < I) → D = I + 1 → C = I + 2 → CRest prog w A h₀ L m (compEnvC scope ((x, C + 1) :: cl) C env) elt ifs [I, C, C + 1] D { s with heap := h₁ } (fun nw => ∀ p ∈ ([] : List (Addr × Obj)), p ∈ nw) (NmC I C (C + 1) [] (rangeV a c) (rangeSt s.heap.objs.size a c n)) (Fin D { s with heap := h₂ }) n 0 [] nw₀) :
    wpAny (model prog w) A (pyIter (.ref r)) (CompAt prog w A h₀ L m env (.Name x px) elt ifs scope cl Fin) E s := by
  refine wpAny_pyIter_range hr hsmall ?_
  refine cell_at (near := []) (Walks.range hh _ a c n) (fun b hb => .inl (by simpa using hb)) (fun b hb => by simpa using hb) (fun i h st => ⟨_, st⟩) (by show IsRangeIter _ _ _ _ _; rw [hn]; simpa using Heap.get?_push_size _ rfl) rfl F N (fun p hp => nomatch hp) hsz hkind hcf hpc hx R
theorem bytes_name (hh : A.handled = none) (F : Fr h₀ L s.heap m) (N : News h₀ L s.heap nw₀) (hsz : b.size ≤ sizeLine)
    (hkind : scope.kind = .function) (hcell : ∀ y ∈ scope.names, y.2 ≠ .cell) (hx : scope.names.lookup x = some .local)
    (R : ∀ I D C h₁ h₂, (∀ p ∈ nw₀, p.1 < I) → D = I + 1 → C = I + 2 → CRest prog w A h₀ L m (compEnvC scope cl C env) elt ifs [I, C] D { s with heap := h₁ } (fun nw => ∀ p ∈ ([] : List (Addr × Obj)), p ∈ nw) (NmL I C [] x (fun i v => ∃ c u, b[i]? = some c ∧ v = .int (c.toNat : Int) u) (fun i h => KBw.IsBytesIter h s.heap.objs.size b tb i)) (Fin D { s with heap := h₂ }) b.size 0 [] nw₀) :
    wpAny (model prog w) A (pyIter (.bytes b tb)) (CompAt prog w A h₀ L m env (.Name x px) elt ifs scope cl Fin) E s := by
  refine KBw.pyIter_bytes ?_
  refine name_at (near := []) (KBw.walks (prog := prog) (w := w) hh s.heap.objs.size b tb) (fun b hb => .inl (by simpa using hb)) (fun b hb => by simpa using hb) (fun i h st => ?_) ⟨_, Heap.get?_push_size _ rfl, rfl, rfl⟩ rfl F N (fun p hp => nomatch hp) hsz hkind hcell hx R
  obtain ⟨o, e, _⟩ := st; exact ⟨o, e⟩
noncomputable abbrev listSt (I l : Addr) (its : Array Value) : Nat → Heap → Prop := fun i h => h.IsListIter I l i ∧ h.IsList l its
theorem list_name {its : Array Value} {ep : Nat} (hh : A.handled = none) (F : Fr h₀ L s.heap m) (N : News h₀ L s.heap nw₀) (hm : (l, ({ cls := .type "list", data := .seq its ep } : Obj)) ∈ nw₀) (hsz : its.size ≤ sizeLine)
    (hkind : scope.kind = .function) (hcell : ∀ y ∈ scope.names, y.2 ≠ .cell) (hx : scope.names.lookup x = some .local)
    (R : ∀ I D C h₁ h₂, (∀ p ∈ nw₀, p.1 < I) → D = I + 1 → C = I + 2 → CRest prog w A h₀ L m (compEnvC scope cl C env) elt ifs [I, C] D { s with heap := h₁ } (fun nw => ∀ p ∈ [(l, ({ cls := .type "list", data := .seq its ep } : Obj))], p ∈ nw) (NmL I C [(l, ({ cls := .type "list", data := .seq its ep } : Obj))] x (fun i v => its[i]? = some v) (listSt s.heap.objs.size l its)) (Fin D { s with heap := h₂ }) its.size 0 [] nw₀) :
    wpAny (model prog w) A (pyIter (.ref l)) (CompAt prog w A h₀ L m env (.Name x px) elt ifs scope cl Fin) E s := by
  have hls : s.heap.IsList l its := ⟨_, (N _ hm).1, rfl, _, rfl⟩
  have hlt : l < s.heap.objs.size := Heap.lt_size (N _ hm).1
  refine wpAny_pyIter_list hls ?_
  refine name_at (near := [(l, ({ cls := .type "list", data := .seq its ep } : Obj))]) (Walks.list hh s.heap.objs.size l (Nat.ne_of_lt hlt) its) (fun b hb => ?_) (fun b hb => by simpa using hb) (fun i h st => ?_) ⟨⟨_, Heap.get?_push_size _ rfl, rfl, rfl⟩, hls.at fun o e => Heap.get?_push_of_some _ e⟩ rfl F N (fun p hp => by rw [List.mem_singleton.mp hp]; exact hm) hsz hkind hcell hx R
  · rcases List.mem_cons.mp hb with e | e
    · exact .inl e
    · exact .inr ⟨_, by rw [List.mem_singleton.mp e]; exact List.mem_cons_self⟩
  · obtain ⟨o, e, _⟩ := st.1; exact ⟨o, e⟩
theorem list_cell {its : Array Value} {ep : Nat} (hh : A.handled = none) (F : Fr h₀ L s.heap m) (N : News h₀ L s.heap nw₀) (hm : (l, ({ cls := .type "list", data := .seq its ep } : Obj)) ∈ nw₀) (hsz : its.size ≤ sizeLine)
    (hkind : scope.kind = .function) (hcf : ∀ k acc, cellsFrom k scope.names acc = (x, k) :: acc) (hpc : ∀ h : Heap, pushCells h scope.names = h.push (cellObj none)) (hx : scope.names.lookup x = some .cell)
    (R : ∀ I D C h₁ h₂, (∀ p ∈ nw₀, p.1 < I) → D = I + 1 → C = I + 2 → CRest prog w A h₀ L m (compEnvC scope ((x, C + 1) :: cl) C env) elt ifs [I, C, C + 1] D { s with heap := h₁ } (fun nw => ∀ p ∈ [(l, ({ cls := .type "list", data := .seq its ep } : Obj))], p ∈ nw) (NmC I C (C + 1) [(l, ({ cls := .type "list", data := .seq its ep } : Obj))] (fun i v => its[i]? = some v) (listSt s.heap.objs.size l its)) (Fin D { s with heap := h₂ }) its.size 0 [] nw₀) :
    wpAny (model prog w) A (pyIter (.ref l)) (CompAt prog w A h₀ L m env (.Name x px) elt ifs scope cl Fin) E s := by
  have hls : s.heap.IsList l its := ⟨_, (N _ hm).1, rfl, _, rfl⟩
  have hlt : l < s.heap.objs.size := Heap.lt_size (N _ hm).1
  refine wpAny_pyIter_list hls ?_
  refine cell_at (near := [(l, ({ cls := .type "list", data := .seq its ep } : Obj))]) (Walks.list hh s.heap.objs.size l (Nat.ne_of_lt hlt) its) (fun b hb => ?_) (fun b hb => by simpa using hb) (fun i h st => ?_) ⟨⟨_, Heap.get?_push_size _ rfl, rfl, rfl⟩, hls.at fun o e => Heap.get?_push_of_some _ e⟩ rfl F N (fun p hp => by rw [List.mem_singleton.mp hp]; exact hm) hsz hkind hcf hpc hx R
  · rcases List.mem_cons.mp hb with e | e
    · exact .inl e
    · exact .inr ⟨_, by rw [List.mem_singleton.mp e]; exact List.mem_cons_self⟩
  · obtain ⟨o, e, _⟩ := st.1; exact ⟨o, e⟩
end
end
end Mine
end

section
open PySem PySem.W PyProof.Rows PySem.Spec PySem.Calls PyProof.V PyProof.Rows.LCg
namespace Mine
section
variable {prog : Program} {w : World} {A : Around} {h₀ : Heap} {L : Addr} {m : Str → Option Value} {env : Env} {E : Value → Shared → Prop} {s : Shared}
noncomputable def KeepBack (h₀ : Heap) (L : Addr) (m : Str → Option Value) (led : List (Addr × Obj)) (s : Shared) (J : Value → Prop) (y : Value) (s₄ : Shared) : Prop :=
  ∃ h' tk', s₄ = { s with heap := h', toks := tk' } ∧ Fr h₀ L h' m ∧ News h₀ L h' led ∧ J y
theorem KeepBack.intro {led led' : List (Addr × Obj)} {s : Shared} {J : Value → Prop} {y : Value} {h' : Heap} {tk' : Nat} (F : Fr h₀ L h' m) (N : News h₀ L h' led') (hs : ∀ p ∈ led, p ∈ led') (hJ : J y) :
    KeepBack h₀ L m led s J y { s with heap := h', toks := tk' } := ⟨h', tk', rfl, F, fun p hp => N p (hs p hp), hJ⟩
noncomputable def TailBack (h₀ : Heap) (L : Addr) (m : Str → Option Value) (led : List (Addr × Obj)) (s : Shared) (J : Value → List (Addr × Obj) → Prop) (y : Value) (s₄ : Shared) : Prop :=
  ∃ h' tk' tl, s₄ = { s with heap := h', toks := tk' } ∧ Fr h₀ L h' m ∧ News h₀ L h' (tl ++ led) ∧ (∀ q ∈ led, ∀ p ∈ tl, q.1 < p.1) ∧ J y tl
theorem TailBack.intro {led : List (Addr × Obj)} {s : Shared} {J : Value → List (Addr × Obj) → Prop} {y : Value} {h' : Heap} {tk' : Nat} (tl : List (Addr × Obj)) (F : Fr h₀ L h' m) (N : News h₀ L h' (tl ++ led)) (ho : ∀ q ∈ led, ∀ p ∈ tl, q.1 < p.1) (hJ : J y tl) :
    TailBack h₀ L m led s J y { s with heap := h', toks := tk' } := ⟨h', tk', tl, rfl, F, N, ho, hJ⟩
section
variable {elt : Expr} {ca : List Addr} {D : Addr} {S : List (Addr × Obj) → Prop} {B : Nat → List (Addr × Obj) → Prop} {Fin : List Value → List (Addr × Obj) → Prop} {nw₀ : List (Addr × Obj)} {n : Nat}
theorem crest_vals (J : Nat → List Value → Prop) (hS : S nw₀) (h0 : J 0 [])
    (turn : ∀ i ys own h tk (E' : Value → Shared → Prop), i < n → J i ys → B i own → (∀ p ∈ own, p.1 ∈ ca) → Fr h₀ L h m → News h₀ L h (own ++ (D, lst ys) :: nw₀) → (∀ p ∈ nw₀, p.1 ∉ ca ∧ p.1 ≠ D) →
      wpAny (model prog w) A (eval elt env) (KeepBack h₀ L m (own ++ (D, lst ys) :: nw₀) s (fun y => J (i + 1) (ys ++ [y]))) E' { s with heap := h, toks := tk })
    (fin : ∀ ys, J n ys → Fin ys nw₀) : CRest prog w A h₀ L m env elt [] ca D s S B Fin n 0 [] nw₀ := by
  refine crest_grow (fun i ys nw => nw = nw₀ ∧ J i ys) (fun i ys nw h => h.1 ▸ hS) ⟨rfl, h0⟩ ?_ ?_
  · rintro i ys nw own h tk E' hi ⟨rfl, hJ⟩ hB hoc F N off
    refine wpAny_mono (turn i ys own h tk E' hi hJ hB hoc F N off) (fun y s₄ h₄ => ?_) fun _ _ e => e
    obtain ⟨h', tk', rfl, F', N', hJ'⟩ := h₄
    exact ⟨h', tk', nw, rfl, F', N', off, rfl, hJ'⟩
  · rintro ys nw ⟨rfl, hJ⟩
    exact fin ys hJ
theorem crest_tail (J : Nat → List Value → List (Addr × Obj) → Prop) (hS : S nw₀) (hSm : ∀ tl, S nw₀ → S (tl ++ nw₀)) (h0 : J 0 [] [])
    (hcov : ∀ i own, B i own → ∀ a ∈ ca, ∃ p ∈ own, p.1 = a)
    (turn : ∀ i ys tl own h tk (E' : Value → Shared → Prop), i < n → J i ys tl → B i own → (∀ p ∈ own, p.1 ∈ ca) → Fr h₀ L h m → News h₀ L h (own ++ (D, lst ys) :: (tl ++ nw₀)) → (∀ q ∈ nw₀, ∀ p ∈ tl, q.1 < p.1) →
      wpAny (model prog w) A (eval elt env) (TailBack h₀ L m (own ++ (D, lst ys) :: (tl ++ nw₀)) s (fun y tl' => J (i + 1) (ys ++ [y]) (tl' ++ tl))) E' { s with heap := h, toks := tk })
    (fin : ∀ ys tl, J n ys tl → (∀ q ∈ nw₀, ∀ p ∈ tl, q.1 < p.1) → Fin ys (tl ++ nw₀)) : CRest prog w A h₀ L m env elt [] ca D s S B Fin n 0 [] nw₀ := by
  refine crest_grow (fun i ys nw => ∃ tl, nw = tl ++ nw₀ ∧ (∀ q ∈ nw₀, ∀ p ∈ tl, q.1 < p.1) ∧ J i ys tl) ?_ ⟨[], rfl, (fun _ _ _ h => nomatch h), h0⟩ ?_ ?_
  · rintro i ys nw ⟨tl, rfl, -, -⟩
    exact hSm tl hS
  · rintro i ys nw own h tk E' hi ⟨tl, rfl, hlt, hJ⟩ hB hoc F N off
    refine wpAny_mono (turn i ys tl own h tk E' hi hJ hB hoc F N hlt) (fun y s₄ h₄ => ?_) fun _ _ e => e
    obtain ⟨h', tk', tl', rfl, F', N', ho', hJ'⟩ := h₄
    refine ⟨h', tk', tl' ++ (tl ++ nw₀), rfl, F', fun p hp => N' p ?_, ?_, tl' ++ tl, (List.append_assoc ..).symm, ?_, hJ'⟩
    · rcases List.mem_append.mp hp with hp | hp
      · exact List.mem_append_right _ (List.mem_append_left _ hp)
      · rcases List.mem_cons.mp hp with rfl | hp
        · exact List.mem_append_right _ (List.mem_append_right _ List.mem_cons_self)
        · rcases List.mem_append.mp hp with hp | hp
          · exact List.mem_append_left _ hp
          · exact List.mem_append_right _ (List.mem_append_right _ (List.mem_cons_of_mem _ hp))
    · intro p hp
      rcases List.mem_append.mp hp with hp | hp
      · refine ⟨fun hc => ?_, fun e => ?_⟩
        · obtain ⟨q, hq, e⟩ := hcov i own hB _ hc
          have := ho' q (List.mem_append_left _ hq) p hp
          rw [e] at this
          exact Nat.lt_irrefl _ this
        · have := ho' (D, lst ys) (List.mem_append_right _ List.mem_cons_self) p hp
          rw [e] at this
          exact Nat.lt_irrefl _ this
      · exact off p hp
    · intro q hq p hp
      rcases List.mem_append.mp hp with hp | hp
      · exact ho' q (List.mem_append_right _ (List.mem_cons_of_mem _ (List.mem_append_right _ hq))) p hp
      · exact hlt q hq p hp
  · rintro ys nw ⟨tl, rfl, hlt, hJ⟩
    exact fin ys tl hJ hlt
end
theorem nml_cov {I C : Addr} {near : List (Addr × Obj)} {x : Str} {Pv : Nat → Value → Prop} {St : Nat → Heap → Prop} : ∀ i own, NmL I C near x Pv St i own → ∀ a ∈ [I, C], ∃ p ∈ own, p.1 = a := by
  rintro i own ⟨oI, oC, m₂, v, rfl, -⟩ a ha
  rcases List.mem_cons.mp ha with rfl | ha
  · exact ⟨_, .head _, rfl⟩
  · rw [List.mem_singleton.mp ha]; exact ⟨_, .tail _ (.head _), rfl⟩
section
variable {elt : Expr} {ifs : List Expr} {scope : Scope} {cl : List (Str × Addr)} {n : Nat} {x : Str} {px : Pos} {nw₀ : List (Addr × Obj)} {Fin : Addr → Shared → List Value → List (Addr × Obj) → Prop} {l : Addr}
noncomputable abbrev tupSt (I l : Addr) (its : Array Value) : Nat → Heap → Prop := fun i h => h.IsTupleIter I l i ∧ h.IsTuple l its
theorem tuple_name {its : Array Value} {ep : Nat} (hh : A.handled = none) (F : Fr h₀ L s.heap m) (N : News h₀ L s.heap nw₀) (hm : (l, ({ cls := .type "tuple", data := .seq its ep } : Obj)) ∈ nw₀) (hsz : its.size ≤ sizeLine)
    (hkind : scope.kind = .function) (hcell : ∀ y ∈ scope.names, y.2 ≠ .cell) (hx : scope.names.lookup x = some .local)
    (R : ∀ I D C h₁ h₂, (∀ p ∈ nw₀, p.1 < I) → D = I + 1 → C = I + 2 → CRest prog w A h₀ L m (compEnvC scope cl C env) elt ifs [I, C] D { s with heap := h₁ } (fun nw => ∀ p ∈ [(l, ({ cls := .type "tuple", data := .seq its ep } : Obj))], p ∈ nw) (NmL I C [(l, ({ cls := .type "tuple", data := .seq its ep } : Obj))] x (fun i v => its[i]? = some v) (tupSt s.heap.objs.size l its)) (Fin D { s with heap := h₂ }) its.size 0 [] nw₀) :
    wpAny (model prog w) A (pyIter (.ref l)) (CompAt prog w A h₀ L m env (.Name x px) elt ifs scope cl Fin) E s := by
  have hls : s.heap.IsTuple l its := ⟨_, (N _ hm).1, rfl, _, rfl⟩
  have hlt : l < s.heap.objs.size := Heap.lt_size (N _ hm).1
  refine wpAny_pyIter_tuple hls ?_
  refine name_at (near := [(l, ({ cls := .type "tuple", data := .seq its ep } : Obj))]) (Walks.tuple hh s.heap.objs.size l (Nat.ne_of_lt hlt) its) (fun b hb => ?_) (fun b hb => by simpa using hb) (fun i h st => ?_) ⟨⟨_, Heap.get?_push_size _ rfl, rfl, rfl⟩, hls.at fun o e => Heap.get?_push_of_some _ e⟩ rfl F N (fun p hp => by rw [List.mem_singleton.mp hp]; exact hm) hsz hkind hcell hx R
  · rcases List.mem_cons.mp hb with e | e
    · exact .inl e
    · exact .inr ⟨_, by rw [List.mem_singleton.mp e]; exact List.mem_cons_self⟩
  · obtain ⟨o, e, _⟩ := st.1; exact ⟨o, e⟩
end
end
theorem news_in {h₀ h : Heap} {L : Addr} {a b : List (Addr × Obj)} (N : News h₀ L h a) (hs : ∀ p ∈ b, p ∈ a) : News h₀ L h b := fun p hp => N p (hs p hp)
noncomputable def AllGt (d : Addr) (tl : List (Addr × Obj)) : Prop := ∀ p ∈ tl, @LT.lt Nat _ d p.1
theorem allNe_up {d d' : Addr} {tl : List (Addr × Obj)} (h : AllGt d tl) (hd : @LE.le Nat _ d' d) : ∀ p ∈ tl, p.1 ≠ d' := fun p hp => Nat.ne_of_gt (Nat.lt_of_le_of_lt hd (h p hp))
end Mine
end

section
open PySem PySem.W PyProof.Rows PySem.Spec PySem.Calls PyProof.V
namespace Mine
section
variable {prog : Program} {w : World} {A : Around} {E : Value → Shared → Prop} {s : Shared} {env : Env} {h₀ : Heap} {target : Expr} {body : List Stmt} {Q : Flow → Shared → Prop}
noncomputable def PlEnd (h₀ : Heap) (L : Addr) (led : List (Addr × Obj)) (stored : List Str) (m₀ : Str → Option Value) (s₁ s₂ : Shared) : Prop :=
  ∃ h' tk m', s₂ = { s₁ with heap := h', toks := tk } ∧ Fr h₀ L h' m' ∧ News h₀ L h' led ∧ (∀ z, z ≠ Str.ofString "" → (∀ p ∈ ([] : List (Str × Value)), z ≠ p.1) → stored.contains z = false → m' z = m₀ z)
noncomputable def PlTurn (h₀ : Heap) (L : Addr) (led : List (Addr × Obj)) (stored : List Str) (m₀ : Str → Option Value) (s₁ : Shared) (Q : Flow → Shared → Prop) (f : Flow) (s₂ : Shared) : Prop :=
  match f with
  | .ret v => Q (.ret v) s₂
  | .brk => Q .next s₂
  | _ => PlEnd h₀ L led stored m₀ s₁ s₂
theorem PlEnd.intro {L : Addr} {led all : List (Addr × Obj)} {stored : List Str} {m₀ m' : Str → Option Value} {s₁ : Shared} {h' : Heap} {tk : Nat} (F : Fr h₀ L h' m') (N : News h₀ L h' all) (hs : ∀ p ∈ led, p ∈ all)
    (hm : ∀ z, z ≠ Str.ofString "" → (∀ p ∈ ([] : List (Str × Value)), z ≠ p.1) → stored.contains z = false → m' z = m₀ z) : PlEnd h₀ L led stored m₀ s₁ { s₁ with heap := h', toks := tk } := ⟨h', tk, m', rfl, F, fun p hp => N p (hs p hp), hm⟩

theorem plain_items {ws : List (Addr × String)} {keep led : List (Addr × Obj)} {m₀ : Str → Option Value} {stored : List Str} {all : List (Value × Value)} (hkeep : SubL keep led) (hoff : ∀ p ∈ led, ∀ b ∈ ws, p.1 ≠ b.1)
    (turn : ∀ x y T (u : Str → Option Value) own h tk, (x, y) ∈ all → IsTup h T #[x, y] →
      Fr h₀ env.locals h (fun z => if z = Str.ofString "" then u z else kstB (fun z => if stored.contains z then u z else m₀ z) [] z) → News h₀ env.locals h (led ++ own) →
      wpAny (model prog w) A (assign target env (.ref T)) (fun _ s₃ => wpAny (model prog w) A (execs body env) (PlTurn h₀ env.locals (led ++ own) stored m₀ { s with heap := h, toks := tk } Q) E s₃) E { s with heap := h, toks := tk })
    (done : ∀ (u : Str → Option Value) h tk, Fr h₀ env.locals h (fun z => if z = Str.ofString "" then u z else kstB (fun z => if stored.contains z then u z else m₀ z) [] z) → News h₀ env.locals h led → Q .next { s with heap := h, toks := tk }) :
    ∀ (xs ys : List Value) (m : Str → Option Value), (∀ p ∈ xs.zip ys, p ∈ all) → (∀ z, z ≠ Str.ofString "" → (∀ p ∈ ([] : List (Str × Value)), z ≠ p.1) → stored.contains z = false → m z = m₀ z) →
      ItemsRest prog w A E h₀ env target body Q s ws keep (zipItems xs ys) m led := by
  have hnil : ∀ {m : Str → Option Value}, ∀ p ∈ ([] : List (Str × Value)), m p.1 = some p.2 := fun p hp => nomatch hp
  have stop : ∀ (m : Str → Option Value), (∀ z, z ≠ Str.ofString "" → (∀ p ∈ ([] : List (Str × Value)), z ≠ p.1) → stored.contains z = false → m z = m₀ z) → ItemsRest prog w A E h₀ env target body Q s ws keep [] m led := by
    intro m hm h tk F N
    exact done m h tk (kst_frOut hnil hm F) N
  intro xs
  induction xs with
  | nil => intro ys m _ hm; exact stop m hm
  | cons x r ih =>
    intro ys m hall hm
    cases ys with
    | nil => exact stop m hm
    | cons y q =>
      refine ItemsRest.pair (fun T t h tk hT F => ?_)
      have hT' : IsTup h T #[x, y] := hT
      have put : ∀ (ws' : List (Addr × String)) (k : List (Addr × Obj) → Prop), (∀ its, (∀ p ∈ its, ∃ b ∈ ws', p.1 = b.1) → k its) → AllObj ws' k := by
        intro ws'
        induction ws' with
        | nil => intro k hk; exact hk [] fun p hp => nomatch hp
        | cons b rest ihb =>
          intro k hk o _
          refine ihb _ fun its hits => hk _ fun p hp => ?_
          rcases List.mem_cons.mp hp with rfl | hp
          · exact ⟨b, List.mem_cons_self, rfl⟩
          · obtain ⟨b', hb', e⟩ := hits p hp
            exact ⟨b', List.mem_cons_of_mem _ hb', e⟩
      refine put ws _ fun its hits N => ?_
      have N₂ : News h₀ env.locals h (led ++ its) := fun p hp => N p (by
        rcases List.mem_append.mp hp with hp | hp
        · exact List.mem_append_right _ hp
        · exact List.mem_append_left _ hp)
      refine wpAny_mono (turn x y T m its h tk (hall _ List.mem_cons_self) hT' (kst_frOut hnil hm F) N₂) (fun _ s₂ h₂ => wpAny_mono h₂ (fun f s₃ p => ?_) fun _ _ e => e) fun _ _ e => e
      have fin : PlEnd h₀ env.locals (led ++ its) stored m₀ { s with heap := h, toks := tk } s₃ → UnrEndW h₀ env.locals { s with heap := h, toks := tk } its (fun m' n' => SubL keep n' ∧ ItemsRest prog w A E h₀ env target body Q s ws keep (zipItems r q) m' n') s₃ := by
        rintro ⟨h', tk', m', e, F', N', hm'⟩
        refine ⟨h', tk', m', led, e, F', fun p hp => N' p ?_, fun p hp p' hp' => ?_, hkeep, ih q m' (fun p hp => hall p (List.mem_cons_of_mem _ hp)) hm'⟩
        · rcases List.mem_append.mp hp with hp | hp
          · exact List.mem_append_right _ hp
          · exact List.mem_append_left _ hp
        · obtain ⟨b, hb, e⟩ := hits p' hp'
          rw [e]; exact hoff p hp b hb
      cases f with
      | ret v => exact p
      | brk => exact p
      | next => exact fin p
      | cont => exact fin p

theorem turns_zip {elts : List Expr} {k : Nat} {pos : Pos} {l1 l2 : Addr} {lo1 lo2 : Obj} {xs ys : List Value} {n1 n2 : Nat} {m₀ : Str → Option Value} {led : List (Addr × Obj)} (stored : List Str)
    (hh : A.handled = none) (F : Fr h₀ env.locals s.heap m₀) (N : News h₀ env.locals s.heap led) (hm1 : (l1, lo1) ∈ led) (hc1 : lo1.cls = .type "list") (hd1 : lo1.data = .seq xs.toArray n1) (hm2 : (l2, lo2) ∈ led) (hc2 : lo2.cls = .type "list") (hd2 : lo2.data = .seq ys.toArray n2)
    (turn : ∀ x y T (u : Str → Option Value) own h tk, (x, y) ∈ xs.zip ys → IsTup h T #[x, y] →
      Fr h₀ env.locals h (fun z => if z = Str.ofString "" then u z else kstB (fun z => if stored.contains z then u z else m₀ z) [] z) → News h₀ env.locals h (led ++ own) →
      wpAny (model prog w) A (assign (.Tuple elts k pos) env (.ref T)) (fun _ s₃ => wpAny (model prog w) A (execs body env) (PlTurn h₀ env.locals (led ++ own) stored m₀ { s with heap := h, toks := tk } Q) E s₃) E { s with heap := h, toks := tk })
    (done : ∀ (u : Str → Option Value) h tk, Fr h₀ env.locals h (fun z => if z = Str.ofString "" then u z else kstB (fun z => if stored.contains z then u z else m₀ z) [] z) → News h₀ env.locals h led → Q .next { s with heap := h, toks := tk }) :
    wpAny (model prog w) A (call (.type "zip") [.ref l1, .ref l2]) (fun xv s₁ => wpAny (model prog w) A (pyIter xv) (fun it s₂ => TurnsAt prog w A h₀ env (.Tuple elts k pos) body Q E it s₂) E s₁) E s := by
  refine ktu_zip hh F N hm1 hc1 hd1 hm2 hc2 hd2 fun I hI => ?_
  refine plain_items (stored := stored) (all := xs.zip ys) (show SubL [(l1, lo1), (l2, lo2)] led from And.intro hm1 (And.intro hm2 trivial)) ?_ turn done xs ys m₀ (fun p hp => hp) fun _ _ _ _ => rfl
  intro p hp b hb
  have h1 : @LT.lt Nat _ p.1 I := hI p hp
  simp only [List.mem_cons, List.not_mem_nil, or_false] at hb
  rcases hb with rfl | rfl | rfl | rfl | rfl
  · exact Nat.ne_of_lt (Nat.lt_of_lt_of_le h1 (Nat.le_add_right I 4))
  · exact Nat.ne_of_lt (Nat.lt_of_lt_of_le h1 (Nat.le_add_right I 2))
  · exact Nat.ne_of_lt (Nat.lt_of_lt_of_le h1 (Nat.le_add_right I 3))
  · exact Nat.ne_of_lt h1
  · exact Nat.ne_of_lt (Nat.lt_of_lt_of_le h1 (Nat.le_add_right I 1))
end
end Mine
end

section
open PySem PySem.W PyProof.Rows
namespace Mine
noncomputable def digs : Nat → Nat → List Int
  | 0, _ => []
  | n + 1, q => digs n (q / 16) ++ [65 + ((q % 16 : Nat) : Int)]
theorem apL_digs (n : Nat) : ∀ q, q < 16 ^ n → List.replicate (n - (apL q).length) 65 ++ apL q = digs n q := by
  induction n with
  | zero =>
    intro q h
    have : q = 0 := by simpa using h
    subst this; simp [apL_zero, digs]
  | succ n ih =>
    intro q h
    by_cases h0 : q = 0
    · subst h0
      have := ih 0 (Nat.pos_of_ne_zero (by simp))
      rw [apL_zero] at this ⊢
      simp only [List.length_nil, Nat.sub_zero, List.append_nil] at this ⊢
      rw [digs, Nat.zero_div, ← this, List.replicate_succ']
      rfl
    · have hq : q / 16 < 16 ^ n := Nat.div_lt_of_lt_mul (by rw [Nat.mul_comm]; exact h)
      rw [apL_pos h0, digs, ← ih (q / 16) hq, List.length_append, List.length_singleton, List.append_assoc, Nat.add_sub_add_right]
end Mine
namespace Mine
end Mine
namespace Mine
end Mine
end

section
open PySem PySem.W PyProof.Rows
namespace Mine
set_option maxRecDepth 100000 in
set_option maxHeartbeats 8000000 in
open_top hd for PySem.Challenge.rw_pg0153_03
end Mine
end

section
open PySem PySem.W PyProof.Rows
namespace Mine
local macro_rules | `(tactic| walk_at "exec While Name cons nil") => `(tactic| (k_here; refine Stop.intro ?_))
local macro_rules | `(tactic| walk_at "subscriptTail Name Slice bytes ref") => `(tactic| (k_here; refine Stop.intro ?_))

local macro_rules | `(tactic| walk_at "binaryOp Add bytes bytes") => `(tactic| (k_here; refine Stop.intro ?_))

theorem ap_start {i x : Int} (hx : x = if i < 0 then -i else i) : 0 ≤ x ∧ apL x.toNat ++ KBw.bInts #[] = apL i.natAbs := by
  have e : x.toNat = i.natAbs := by subst hx; split <;> omega
  refine ⟨by subst hx; split <;> omega, ?_⟩
  rw [e]; exact List.append_nil _
theorem ap_next {num : Int} {n : Nat} {v w : Array UInt8} (h0 : 0 ≤ num) (h : apL num.toNat ++ KBw.bInts v = apL n) (hne : num ≠ 0) (hc : KBw.bInts w = [65 + num.fmod 16]) :
    0 ≤ num.fdiv 16 ∧ apL (num.fdiv 16).toNat ++ KBw.bInts (w ++ v) = apL n := by
  refine ⟨Int.fdiv_nonneg h0 (by omega), ?_⟩
  rw [KBw.ints_app hc rfl]
  exact ap_turn h0 hne h
theorem ap_meas {num : Int} (h0 : 0 ≤ num) (hne : num ≠ 0) : (num.fdiv 16).toNat < num.toNat := by
  rw [Int.fdiv_eq_ediv_of_nonneg _ (by omega)]; omega
theorem ap_short {n : Nat} {ks l : List Int} (h : apL n ++ ks = l) (hl : l.length ≤ 16) : ks.length ≤ 16 := by
  have := congrArg List.length h
  rw [List.length_append] at this
  omega
theorem ap_cut {j : Int} (h0 : 0 ≤ j) (h1 : j < 16) :
    List.take ((some (j + 1)).elim apCodes.length (clipAt apCodes.length) - (some j).elim 0 (clipAt apCodes.length)) (List.drop ((some j).elim 0 (clipAt apCodes.length)) apCodes) = [65 + j] := by
  have all : ∀ k : Fin 16, List.take ((some ((k.1 : Int) + 1)).elim apCodes.length (clipAt apCodes.length) - (some (k.1 : Int)).elim 0 (clipAt apCodes.length)) (List.drop ((some (k.1 : Int)).elim 0 (clipAt apCodes.length)) apCodes) = [65 + (k.1 : Int)] := by decide
  obtain ⟨k, rfl⟩ : ∃ k : Nat, j = (k : Int) := ⟨j.toNat, by omega⟩
  exact all ⟨k, by omega⟩
set_option maxRecDepth 100000 in
set_option maxHeartbeats 8000000 in
theorem int2ap (w : World) (loose : List Str) (mean : ExcName → Option Value) (mg mb : Str → Option Value) (news : List (Addr × Obj)) (i : Int) (t : Tok) (hi : i.natAbs < 2 ^ 64) :
    Does PySem.Challenge.rw_pg0153_03.row.prog w (hd.heap_39 w.params) hd.view_39 loose mean mg mb (.ref 94) [.int i t] 3 20 news
      (fun tl r => tl = [] ∧ ∃ b t', r = .bytes b t' ∧ KBw.bInts b = apL i.natAbs) := by
  k_fill
  intro dp un gd cn cs a ccd cl outer A₀ base h₀ L m s Q E B F X N T hk hdp hun hret
  have hlen : (apL i.natAbs).length ≤ 16 := apL_len 16 _ (by omega)
  refine wpAny_call ?_
  k_dflt cell_enter
  k_steps
  unfold Stop
  (k_with "state" => first | exact ap_start rfl | exact ap_next (by assumption) (by assumption) (by assumption) (by assumption))
  (k_with "measure" => exact ap_meas (by assumption) (by assumption))
  k_while (fun (_ : List Int) (num : Int) (val : Array UInt8) => 0 ≤ num ∧ apL num.toNat ++ KBw.bInts val = apL i.natAbs) (fun (_ : List Int) (num : Int) (_ : Array UInt8) => num.toNat) "num" "val"
  k_steps
  · unfold Stop
    rename Fr _ _ _ _ => F9
    rename News _ _ _ _ => N9
    refine KBc.slice_K (s := ⟨_, _, _, _, _⟩) F9 N9 (ks := apCodes) (by rfl) (by constructor) (by constructor) (by decide) ?_
    intro h9 t9 k9 F9 N9 hc
    rw [ap_cut (Int.fmod_nonneg_of_pos _ (by omega)) (Int.fmod_lt_of_pos _ (by omega))] at hc
    rename (apL _ ++ _ = _) => hw
    have hv := ap_short hw hlen
    k_steps
    unfold Stop
    refine KBa.add_K hc rfl ?hs ?_
    case hs => (rw [List.length_singleton]; clear_value qk ek; clear hret; omega)
    intro t8 k8 hs8
    k_steps
  · rename _ = (0 : Int) => hz
    rename Fr h₀ _ _ _ => kF
    rename News h₀ _ _ _ => kN
    rename (apL _ ++ _ = _) => hw
    refine hret _ _ _ [] kF kN (fun _ _ _ h => nomatch h) ⟨rfl, _, _, rfl, ?_⟩
    subst hz
    rw [← hw]
    simp [apL_zero]
end Mine
end

section
open PySem PySem.W PyProof.Rows
namespace Mine
local macro_rules | `(tactic| walk_at "exec For Name Attribute cons nil") => `(tactic| (k_here; refine Stop.intro ?_))
local macro_rules | `(tactic| walk_at "pyIter str") => `(tactic| (k_here; refine Stop.intro ?_))
local macro_rules | `(tactic| walk_at "MyTurnX") => `(tactic| (dsimp only [MyTurnX]))
local macro_rules | `(tactic| walk_at "MyEnd") => `(tactic| (refine Stop.intro ?_))
local macro_rules | `(tactic| k_all) => `(tactic| (refine' allNe_of ?a9 ?b9; (case a9 => assumption); (case b9 => omega)))

theorem sign_eq {ch : Nat} {k : Nat} (h : (({ cps := #[ch] } : Str) == { cps := #[k] }) = true) : ch = k := by
  have h := eq_of_beq h
  injection h with h
  simpa using h
theorem sign_ne {ch : Nat} {k : Nat} (h : (({ cps := #[ch] } : Str) == { cps := #[k] }) = false) : ch ≠ k := fun e => by
  subst e
  simp at h
theorem ofString_space : Str.ofString " " = { cps := #[32] } := by decide +kernel
theorem ofString_tab : Str.ofString "\t" = { cps := #[9] } := by decide +kernel
theorem blank_snoc {pre : List Nat} {ch : Nat} (h : ∀ c ∈ pre, blank c) (hc : blank ch) : ∀ c ∈ pre ++ [ch], blank c := fun c hm => by
  rcases List.mem_append.mp hm with h1 | h1
  · exact h c h1
  · rw [List.mem_singleton.mp h1]; exact hc
theorem ws_space {pre : List Nat} {ch : Nat} {ns : List Int} {b n nt : Int} (h : wsRun pre = (ns, b, n, nt)) (hc : (({ cps := #[ch] } : Str) == Str.ofString " ") = true) : wsRun (pre ++ [ch]) = (ns, b + 1, n + 1, nt) := by
  rw [ofString_space] at hc
  rw [wsRun_snoc, h, sign_eq hc]
  rfl
theorem ws_grow {pre : List Nat} {ch : Nat} {ns : List Int} {b n nt : Int} (h : wsRun pre = (ns, b, n, nt)) (hc : (({ cps := #[ch] } : Str) == Str.ofString "\t") = true) (hb : (ns.length : Int) ≤ b) :
    wsRun (pre ++ [ch]) = ((ns ++ (List.replicate (b - (ns.length : Int) + 1).toNat [(0 : Int)]).flatten).set b.toNat ((ns ++ (List.replicate (b - (ns.length : Int) + 1).toNat [(0 : Int)]).flatten).getD b.toNat 0 + 1), 0, n + 1, nt + 1) := by
  rw [ofString_tab] at hc
  rw [wsRun_snoc, h, sign_eq hc]
  simp only [wsStep]
  rw [if_neg (by decide), if_pos hb]
theorem ws_keep {pre : List Nat} {ch : Nat} {ns : List Int} {b n nt : Int} (h : wsRun pre = (ns, b, n, nt)) (hc : (({ cps := #[ch] } : Str) == Str.ofString "\t") = true) (hb : ¬ (ns.length : Int) ≤ b) :
    wsRun (pre ++ [ch]) = (ns.set b.toNat (ns.getD b.toNat 0 + 1), 0, n + 1, nt + 1) := by
  rw [ofString_tab] at hc
  rw [wsRun_snoc, h, sign_eq hc]
  simp only [wsStep]
  rw [if_neg (by decide), if_neg hb]
theorem ws_stop {cs pre post : List Nat} {ch : Nat} {st : List Int × Int × Int × Int} (h : wsRun pre = st) (e : cs = pre ++ ch :: post) (hbl : ∀ c ∈ pre, blank c) (h1 : (({ cps := #[ch] } : Str) == Str.ofString " ") = false) (h2 : (({ cps := #[ch] } : Str) == Str.ofString "\t") = false) : wsRead cs = st := by
  rw [ofString_space] at h1
  rw [ofString_tab] at h2
  unfold wsRead
  rw [e, takeWhile_stop hbl (fun hb => hb.elim (sign_ne h1) (sign_ne h2)), h]
theorem ws_done {cs : List Nat} {st : List Int × Int × Int × Int} (h : wsRun cs = st) (hbl : ∀ c ∈ cs, blank c) : wsRead cs = st := by
  unfold wsRead
  rw [takeWhile_all hbl, h]
theorem lead_news {h₀ h : Heap} {L : Addr} {A B X D : Addr × Obj} {rest news : List (Addr × Obj)} (N : News h₀ L h (A :: B :: rest)) (hx : X ∈ rest) (hd : D ∈ rest) (hs : ∀ p ∈ news, p ∈ rest) : News h₀ L h ([A, B, X, D] ++ news) := fun p hp => N p (by
  rcases List.mem_append.mp hp with h | h
  · rcases List.mem_cons.mp h with h | h
    · exact h ▸ .head _
    · rcases List.mem_cons.mp h with h | h
      · exact h ▸ .tail _ (.head _)
      · rcases List.mem_cons.mp h with h | h
        · exact h ▸ .tail _ (.tail _ hx)
        · exact List.mem_singleton.mp h ▸ .tail _ (.tail _ hd)
  · exact .tail _ (.tail _ (hs p h)))
theorem lead_order {d : Addr} {news tl : List (Addr × Obj)} (hA : AllLt d news) (h : ∀ p ∈ tl, @LE.le Nat _ d p.1) : ∀ q ∈ news, ∀ p ∈ tl, q.1 < p.1 := fun q hq p hp => Nat.lt_of_lt_of_le (ktn_ltOf hA q hq) (h p hp)
theorem init_gen {h₀ h : Heap} {L l D x d : Addr} {lo oD ox od : Obj} {news : List (Addr × Obj)} (N : News h₀ L h ((l, lo) :: (D, oD) :: (x, ox) :: (d, od) :: news)) :
    ∃ od', od' = od ∧ News h₀ L h ((l, lo) :: (x, ox) :: (d, od') :: news) :=
  ⟨od, rfl, fun p hp => N p (by
    rcases List.mem_cons.mp hp with h | h
    · exact List.mem_cons.mpr (.inl h)
    · exact List.mem_cons_of_mem _ (List.mem_cons_of_mem _ h))⟩
local macro_rules | `(tactic| walk_at "call type:tuple") => `(tactic| (k_here; (with_reducible show wpAny _ _ (call (Value.type _) [Value.ref _]) _ _ _); k_dflt (refine' tuple_of_my ?k1 ?k2 ?k3 ?k4 ?_; (case k1 => k_asm); (case k2 => k_asm); (case k3 => exact News.isList (by k_asm) (by k_mem)); (case k4 => (rw [sizeLine_eq]; omega)); k_whole); intro D' h' F' N' l1; (try k_lt l1); (try k_sweep)))
structure WsC where
  l : Addr
  vs : List Value
  ns : List Int
  ep : Nat
  b : Int
  n : Int
  nt : Int
  tb : Tok
  tn : Tok
  tnt : Tok

set_option maxRecDepth 100000 in
set_option maxHeartbeats 8000000 in
theorem wsnew (w : World) (loose : List Str) (mean : ExcName → Option Value) (mg mb : Str → Option Value) (news : List (Addr × Obj)) (x : Str) (t : Tok) (hx : x.cps.toList.length ≤ 65536) :
    Does PySem.Challenge.rw_pg0153_03.row.prog w (hd.heap_39 w.params) hd.view_39 loose mean mg mb (.ref 83) [.str x t] 3 20 news
      (fun tl r => LeadIn w.params 83 tl r (wsRead x.cps.toList)) := by
  k_fill
  intro dp un gd cn cs a ccd cl outer A₀ base h₀ L m s Q E B F X N T hk hdp hun hret
  k_dflt (refine' call_cls ?k1 ?k2 ?k3 ?k4 ?k5 ?k6 ?_; (case k1 => k_asm); (case k2 => k_asm); (case k3 => k_asm); (case k4 => k_is); (case k5 => k_is); (case k6 => k_is); k_whole; intro x' d' h' F' N' l1 l2; (try k_lt l1); (try k_lt2 l2))
  have hA : AllLt d' news := allLt_of l1
  clear l1
  k_dflt cell_enter
  k_steps
  unfold Stop
  rename Fr _ _ _ _ => F8
  (with_unfolding_all refine' For_invVF F8 ?k1 ?k2 ?_; (case k1 => exact rfl); (case k2 => exact rfl); k_whole)
  k_steps
  unfold Stop
  rename Fr _ _ _ _ => F9
  rename News _ _ _ _ => N9
  obtain ⟨od, hod, N9⟩ := init_gen N9
  obtain ⟨m9, hm9, F9⟩ := fr_gen F9
  obtain ⟨tb, hb⟩ : ∃ t, m9 (Str.ofString "b") = some (.int 0 t) := ⟨_, by rw [hm9]; rfl⟩
  obtain ⟨tn, hn⟩ : ∃ t, m9 (Str.ofString "n") = some (.int 0 t) := ⟨_, by rw [hm9]; rfl⟩
  obtain ⟨tnt, hnt⟩ : ∃ t, m9 (Str.ofString "nt") = some (.int 0 t) := ⟨_, by rw [hm9]; rfl⟩
  with_unfolding_all
   refine' for_textX (σ := WsC) (fun c => (c.l, W.listOf c.vs.toArray c.ep) :: (x', instObj 83 d') :: (d', od) :: news)
     (fun c => [(Str.ofString "count", .ref c.l), (Str.ofString "b", .int c.b c.tb), (Str.ofString "n", .int c.n c.tn), (Str.ofString "nt", .int c.nt c.tnt)])
     [] (fun pre c => IntsAre c.vs c.ns ∧ @LT.lt Nat _ x' c.l ∧ wsRun pre = (c.ns, c.b, c.n, c.nt) ∧ ∀ ch ∈ pre, blank ch) (fun c => IntsAre c.vs c.ns ∧ @LT.lt Nat _ x' c.l ∧ wsRead x.cps.toList = (c.ns, c.b, c.n, c.nt) ∧ c.ns.length ≤ x.cps.toList.length ∧ 0 ≤ c.b ∧ c.b ≤ x.cps.toList.length ∧ 0 ≤ c.n ∧ c.n ≤ x.cps.toList.length ∧ 0 ≤ c.nt ∧ c.nt ≤ x.cps.toList.length) ⟨_, [], [], 0, 0, 0, 0, tb, tn, tnt⟩ (by rfl) F9 N9 ?hk ?hp ?hX ?_ ?_
  case hk => exact List.forall_mem_cons.mpr ⟨by rw [hm9]; rfl, List.forall_mem_cons.mpr ⟨hb, List.forall_mem_cons.mpr ⟨hn, List.forall_mem_cons.mpr ⟨hnt, List.forall_mem_nil _⟩⟩⟩⟩
  case hp => exact ⟨.nil, by (dsimp only; omega), rfl, List.forall_mem_nil _⟩
  case hX =>
    rintro ⟨vl, vvs, vns, vep, vb, vn, vnt, vtb, vtn, vtnt⟩ ⟨hI, hxl, hrun, hbl⟩
    have hbd := wsRun_bound x.cps.toList
    rw [hrun] at hbd
    exact ⟨hI, hxl, ws_done hrun hbl, hbd⟩
  · subst hm9
    intro I c pre post ch tc u h9 tk9 oI hlt hsplit hP hoff F9 N9
    obtain ⟨vl, vvs, vns, vep, vb, vn, vnt, vtb, vtn, vtnt⟩ := c
    obtain ⟨hI, hxl, hrun, hbl⟩ := hP
    have hpre : pre.length ≤ 65535 := by
      have := congrArg List.length hsplit
      rw [List.length_append, List.length_cons] at this
      omega
    have hbd := wsRun_bound pre
    rw [hrun] at hbd
    dsimp only at hbd hI hxl F9 N9 hoff
    obtain ⟨hb1, hb2, hb3, hb4, hb5, hb6, hb7⟩ := hbd
    dsimp only [kstB] at F9
    have hvl := hI.length
    have hoI : @Ne Nat vl I := hoff _ (.head _)
    have hltI := allLt_of hlt
    simp only [AllLt] at hltI
    subst hod
    clear hb hn hnt hlt hoff
    k_steps
    · unfold Stop
      rename Fr _ _ _ _ => F7
      rename News _ _ _ _ => N7
      refine MyEnd.intro ⟨_, _, vns, _, _, _, _, _, _, _⟩ F7 N7 (by kst_all) (by k_mem) (by kst_in) (List.forall_mem_cons.mpr ⟨by k_ne, List.forall_mem_cons.mpr ⟨by k_ne, List.forall_mem_cons.mpr ⟨by k_ne, allNe_of hA (by omega)⟩⟩⟩) (by kst_same) ⟨hI, hxl, ?_, ?_⟩
      · exact ws_space hrun (by assumption)
      · exact blank_snoc hbl (.inl (sign_eq (ofString_space ▸ (by assumption))))
    · unfold Stop
      rename Fr _ _ _ _ => F7
      rename News _ _ _ _ => N7
      refine MyEnd.intro ⟨_, _, _, _, _, _, _, _, _, _⟩ F7 N7 (by kst_all) (by k_mem) (by kst_in) (List.forall_mem_cons.mpr ⟨by k_ne, List.forall_mem_cons.mpr ⟨by k_ne, List.forall_mem_cons.mpr ⟨by k_ne, allNe_of hA (by omega)⟩⟩⟩) (by kst_same) ⟨by assumption, by (dsimp only; omega), ?_, ?_⟩
      · first | exact ws_grow hrun (by assumption) (by assumption) | exact ws_keep hrun (by assumption) (by omega)
      · exact blank_snoc hbl (.inr (sign_eq (ofString_tab ▸ (by assumption))))
    · unfold Stop
      rename Fr _ _ _ _ => F7
      rename News _ _ _ _ => N7
      refine MyEnd.intro ⟨_, _, _, _, _, _, _, _, _, _⟩ F7 N7 (by kst_all) (by k_mem) (by kst_in) (List.forall_mem_cons.mpr ⟨by k_ne, List.forall_mem_cons.mpr ⟨by k_ne, List.forall_mem_cons.mpr ⟨by k_ne, allNe_of hA (by omega)⟩⟩⟩) (by kst_same) ⟨by assumption, by (dsimp only; omega), ?_, ?_⟩
      · first | exact ws_grow hrun (by assumption) (by assumption) | exact ws_keep hrun (by assumption) (by omega)
      · exact blank_snoc hbl (.inr (sign_eq (ofString_tab ▸ (by assumption))))
    · unfold Stop
      rename Fr _ _ _ _ => F7
      rename News _ _ _ _ => N7
      have hrd := ws_stop hrun hsplit hbl (by assumption) (by assumption)
      have hpx : pre.length ≤ x.cps.toList.length := by
        rw [hsplit, List.length_append]; exact Nat.le_add_right _ _
      refine MyEnd.intro ⟨_, _, vns, _, _, _, _, _, _, _⟩ F7 N7 (by kst_all) (by k_mem) (by kst_in) (List.forall_mem_cons.mpr ⟨by k_ne, List.forall_mem_cons.mpr ⟨by k_ne, List.forall_mem_cons.mpr ⟨by k_ne, allNe_of hA (by omega)⟩⟩⟩) (by kst_same) ⟨hI, hxl, hrd, ?_⟩
      dsimp only
      omega
  · subst hm9
    intro c u h9 tk9 hP F9 N9
    obtain ⟨vl, vvs, vns, vep, vb, vn, vnt, vtb, vtn, vtnt⟩ := c
    obtain ⟨hI, hxl, hrd, hb1, hb2, hb3, hb4, hb5, hb6, hb7⟩ := hP
    dsimp only at hb1 hb2 hb3 hb4 hb5 hb6 hb7 hI hxl hrd F9 N9
    dsimp only [kstB] at F9
    have hvl := hI.length
    subst hod
    clear hb hn hnt
    k_steps
    rename Fr h₀ _ _ _ => F7
    rename News h₀ _ _ _ => N7
    refine hret _ _ _ _ F7 (lead_news N7 (X := (x', _)) (D := (d', _)) (by k_mem) (by k_mem) (fun p hp => by repeat (first | exact hp | apply List.mem_cons_of_mem))) ?_ ?_
    · exact lead_order hA (List.forall_mem_cons.mpr ⟨by (dsimp only; omega), List.forall_mem_cons.mpr ⟨by (dsimp only; omega), List.forall_mem_cons.mpr ⟨by (dsimp only; omega), List.forall_mem_cons.mpr ⟨by (dsimp only; omega), List.forall_mem_nil _⟩⟩⟩⟩)
    · rw [hrd]
      exact ⟨_, _, _, _, _, _, _, _, _, _, _, _, _, _, _, _, rfl, .tail _ (.tail _ (.head _)), .tail _ (.tail _ (.tail _ (.head _))), .head _, .tail _ (.head _), hI⟩
end Mine
end

section
open PySem PySem.W PyProof.Rows
namespace Mine
local macro_rules | `(tactic| walk_at "exec For Name Call cons nil") => `(tactic| (k_here; refine Stop.intro ?_))
local macro_rules | `(tactic| walk_at "pyIter ref") => `(tactic| (k_here; refine Stop.intro ?_))
local macro_rules | `(tactic| walk_at "MyTurn") => `(tactic| (dsimp only [MyTurn]))
local macro_rules | `(tactic| walk_at "MyEnd") => `(tactic| (refine Stop.intro ?_))

local macro_rules | `(tactic| walk_at "call builtin:len") => `(tactic| (k_here; (with_reducible show wpAny _ _ (call (Value.builtin "len") [Value.ref _]) _ _ _); k_dflt (refine' len_tup_my ?k1 ?k2 ?k3 ?k4 ?_; (case k1 => k_asm); (case k2 => k_mem); (case k3 => assumption); (case k4 => omega); k_whole)))
local macro_rules | `(tactic| walk_at "subscriptTail Name Name ref int") => `(tactic| (k_here; k_dflt (refine' item_tup_my ?k1 ?k2 ?k3 ?k4 ?k5 ?k6 ?_ ?k7 ?k8; (case k1 => k_asm); (case k2 => k_mem); (case k3 => assumption); (case k4 => omega); (case k5 => omega); (case k6 => omega); (case k7 => with_unfolding_all rfl); (case k8 => (intro _; with_unfolding_all rfl)); k_whole); intro tI))
local macro_rules | `(tactic| walk_at "binaryOp Mult int int") => `(tactic| (k_here; refine Stop.intro ?_))
theorem range_size (a b : Int) : Builtin.Range.rangeSize a b 1 = (((b - a).toNat : Nat) : Int) := by
  unfold Builtin.Range.rangeSize
  rw [if_pos (by decide), Int.ediv_one]
  split <;> omega
theorem range_small {a b : Int} (h : 0 ≤ a ∧ a ≤ 65536) (h' : 0 ≤ b ∧ b ≤ 65536) : Builtin.Range.small a b 1 = true := by
  unfold Builtin.Range.small
  have e := range_size a b
  rw [e]
  have f : ∀ i : Int, -65536 ≤ i → i ≤ 65536 → Builtin.Range.rangeFitsLong i = true := fun i h1 h2 => by
    unfold Builtin.Range.rangeFitsLong
    simp only [Bool.and_eq_true, decide_eq_true_eq]
    omega
  rw [f a (by omega) (by omega), f b (by omega) (by omega), f 1 (by omega) (by omega), f _ (by omega) (by omega), if_pos (by decide), f (b + (1 - 1)) (by omega) (by omega)]
  simp
theorem AllNe.of {I : Addr} {news : List (Addr × Obj)} (h : ∀ p ∈ news, p.1 ≠ I) : ∀ p ∈ news, p.1 ≠ I := h
local macro_rules | `(tactic| k_mem) => `(tactic| ((with_reducible repeat (first | assumption | apply List.mem_cons_of_mem)); done))
structure IlC where
  il : Int
  t : Tok
set_option maxRecDepth 100000 in
set_option maxHeartbeats 8000000 in
theorem ilevel (w : World) (loose : List Str) (mean : ExcName → Option Value) (mg mb : Str → Option Value) (news : List (Addr × Obj)) (v : Value) (st : List Int × Int × Int × Int) (k : Int) (t : Tok)
    (hv : LeadIn w.params 83 news v st) (hlen : st.1.length ≤ 65536) (hk1 : 1 ≤ k) (hk2 : k ≤ 65536) :
    Does PySem.Challenge.rw_pg0153_03.row.prog w (hd.heap_39 w.params) hd.view_39 loose mean mg mb (.ref 52) [v, .int k t] 3 20 news
      (fun tl r => tl = [] ∧ ∃ t', r = .int (ilev st k) t') := by
  k_fill
  intro dp un gd cn cs a ccd cl outer A₀ base h₀ L m s Q E B F X N T hk hdp hun hret
  obtain ⟨x, d, Ta, Tc, vs, raw, t0, t1, t2, t3, k0, k1, k2, k3, k4, ep, e, m1, m2, m3, m4, hI⟩ := hv
  subst e
  refine wpAny_call ?_
  k_dflt cell_enter
  k_steps
  unfold Stop
  rename Fr _ _ _ _ => F8
  (with_unfolding_all refine' For_invVF F8 ?k1 ?k2 ?_; (case k1 => exact rfl); (case k2 => exact rfl); k_whole)
  k_steps
  unfold Stop
  rename Fr _ _ _ _ => F9
  rename News _ _ _ _ => N9
  rename IsRange _ _ _ _ _ _ _ _ => hR
  obtain ⟨m9, hm9, F9⟩ := fr_gen F9
  obtain ⟨tb, hb⟩ : ∃ t, m9 (Str.ofString "il") = some (.int 0 t) := ⟨_, by rw [hm9]; rfl⟩
  with_unfolding_all
   refine' for_range (σ := IlC) (n := ((st.1.length : Int) - k).toNat) (fun _ => news) (fun c => [(Str.ofString "il", .int c.il c.t)]) [] (fun i c => c.il = ilAcc st.1 k i) ⟨0, tb⟩ (by rfl) hR ?hs ?hn F9 N9 ?hk rfl ?_ ?_
  case hs => exact range_small (by omega) (by omega)
  case hn => exact range_size k _
  case hk => exact List.forall_mem_cons.mpr ⟨hb, List.forall_mem_nil _⟩
  · subst hm9
    intro I c i ti u h9 tk9 oI hlt hi hP hoff F9 N9
    obtain ⟨il, til⟩ := c
    dsimp only at hP F9 N9 hoff
    dsimp only [kstB] at F9
    have hoA := AllNe.of hoff
    have hi2 : k + (i : Int) < st.1.length := by omega
    clear hlt hoff
    k_steps
    · unfold Stop
      refine mul_int ?_ (fdiv_ok (by omega) (by omega) (by omega))
      k_steps
      unfold Stop
      rename Fr _ _ _ _ => F7
      rename News _ _ _ _ => N7
      refine MyEnd.intro ⟨_, _⟩ F7 N7 (by kst_all) (by k_mem) (by kst_in) hoA (by kst_same) ?_
      dsimp only
      rw [hP]
      rfl
  · subst hm9
    intro c u h9 tk9 hP F9 N9
    obtain ⟨il, til⟩ := c
    dsimp only at hP F9 N9
    dsimp only [kstB] at F9
    k_steps
    unfold Stop
    refine mul_int ?_ (mul_ok_left (by omega))
    k_steps
    rename Fr h₀ _ _ _ => F7
    rename News h₀ _ _ _ => N7
    subst hP
    exact hret _ _ _ [] F7 N7 (fun _ _ _ h => nomatch h) ⟨rfl, _, rfl⟩
end Mine
end

section
open PySem PySem.W PyProof.Rows
namespace Mine
noncomputable def longest (st : List Int × Int × Int × Int) : Int := max ((st.1.length : Int) - 1) st.2.1
noncomputable def lessB (a b : List Int × Int × Int × Int) : Bool :=
  if b.2.2.1 ≤ a.2.2.1 then false
  else if (a.1.length : Int) ≤ 1 ∧ (b.1.length : Int) ≤ 1 then decide (a.2.2.2 ≤ b.2.2.2)
  else (List.range (max (longest a) (longest b)).toNat).all fun i => decide (ilev a (2 + (i : Int)) < ilev b (2 + (i : Int)))
local macro_rules | `(tactic| walk_at "call ref") => `(tactic| (k_here; refine Stop.intro ?_))
local macro_rules | `(tactic| walk_at "call builtin:len") => `(tactic| (k_here; (with_reducible show wpAny _ _ (call (Value.builtin "len") [Value.ref _]) _ _ _); k_dflt (refine' len_tup_my ?k1 ?k2 ?k3 ?k4 ?_; (case k1 => k_asm); (case k2 => k_mem); (case k3 => assumption); (case k4 => omega); k_whole)))
local macro_rules | `(tactic| walk_at "exec For Name Call cons nil") => `(tactic| (k_here; refine Stop.intro ?_))
local macro_rules | `(tactic| walk_at "pyIter ref") => `(tactic| (k_here; refine Stop.intro ?_))
local macro_rules | `(tactic| walk_at "MyTurn") => `(tactic| (dsimp only [MyTurn]))
local macro_rules | `(tactic| walk_at "MyEnd") => `(tactic| (refine Stop.intro ?_))
local macro_rules | `(tactic| k_mem) => `(tactic| ((with_reducible repeat (first | assumption | apply List.mem_cons_of_mem)); done))
set_option maxRecDepth 100000 in
set_option maxHeartbeats 8000000 in
theorem longrun (w : World) (loose : List Str) (mean : ExcName → Option Value) (mg mb : Str → Option Value) (news : List (Addr × Obj)) (v : Value) (st : List Int × Int × Int × Int)
    (hv : LeadIn w.params 83 news v st) (hlen : st.1.length ≤ 65536) :
    Does PySem.Challenge.rw_pg0153_03.row.prog w (hd.heap_39 w.params) hd.view_39 loose mean mg mb (.ref 45) [v] 3 20 news
      (fun tl r => tl = [] ∧ ∃ t', r = .int (longest st) t') := by
  k_fill
  intro dp un gd cn cs a ccd cl outer A₀ base h₀ L m s Q E B F X N T hk hdp hun hret
  obtain ⟨x, d, Ta, Tc, vs, raw, t0, t1, t2, t3, k0, k1, k2, k3, k4, ep, e, m1, m2, m3, m4, hI⟩ := hv
  subst e
  refine wpAny_call ?_
  k_dflt cell_enter
  k_steps
  rename Fr h₀ _ _ _ => F7
  rename News h₀ _ _ _ => N7
  refine hret _ _ _ [] F7 N7 (fun _ _ _ h => nomatch h) ⟨rfl, _, congrArg (fun z => Value.int z _) ?_⟩
  unfold longest
  split <;> omega
theorem lessB_n {a b : List Int × Int × Int × Int} (h : b.2.2.1 ≤ a.2.2.1) : lessB a b = false := by unfold lessB; rw [if_pos h]
theorem lessB_simple {a b : List Int × Int × Int × Int} (h : ¬ b.2.2.1 ≤ a.2.2.1) (h1 : (a.1.length : Int) ≤ 1) (h2 : (b.1.length : Int) ≤ 1) : lessB a b = decide (a.2.2.2 ≤ b.2.2.2) := by
  unfold lessB; rw [if_neg h, if_pos ⟨h1, h2⟩]
theorem lessB_all {a b : List Int × Int × Int × Int} (h : ¬ b.2.2.1 ≤ a.2.2.1) (h1 : ¬ ((a.1.length : Int) ≤ 1 ∧ (b.1.length : Int) ≤ 1)) (hs : ∀ j, j < (max (longest a) (longest b)).toNat → ilev a (2 + (j : Int)) < ilev b (2 + (j : Int))) : lessB a b = true := by
  unfold lessB
  rw [if_neg h, if_neg h1, List.all_eq_true]
  intro j hj
  exact decide_eq_true (hs j (List.mem_range.mp hj))
theorem lessB_not {a b : List Int × Int × Int × Int} (h : ¬ b.2.2.1 ≤ a.2.2.1) (h1 : ¬ ((a.1.length : Int) ≤ 1 ∧ (b.1.length : Int) ≤ 1)) {j : Nat} (hj : j < (max (longest a) (longest b)).toNat) (hs : ilev b (2 + (j : Int)) ≤ ilev a (2 + (j : Int))) : lessB a b = false := by
  unfold lessB
  rw [if_neg h, if_neg h1, List.all_eq_false]
  exact ⟨j, List.mem_range.mpr hj, by simp; omega⟩
structure LsC where
  z : Unit
local macro_rules | `(tactic| walk_at "isTrue BoolOp") => `(tactic| (k_here; (fail_if_success (with_reducible show wpAny _ _ _ (BoolBack _ _ _ _ _ _) _ _)); refine Stop.intro ?_))
theorem wp_bool {M : Model} {A : Around} {t : Sem Bool} {E : Value → Shared → Prop} {s : Shared} {Q : Bool → Shared → Prop} {h₀ : Heap} {L : Addr} {m : Str → Option Value} {led : List (Addr × Obj)} (_F : Fr h₀ L s.heap m) (_N : News h₀ L s.heap led) (b : Bool)
    (h : wpAny M A t (BoolBack h₀ L m led s b) E s) (k : ∀ h' tk', Fr h₀ L h' m → News h₀ L h' led → Q b { s with heap := h', toks := tk' }) : wpAny M A t Q E s :=
  wpAny_mono h (fun ok s₃ hb => by
    obtain ⟨rfl, h', tk', rfl, F', N'⟩ := hb
    exact k h' tk' F' N') fun _ _ e => e
set_option maxRecDepth 100000 in
set_option maxHeartbeats 8000000 in
theorem lessc (w : World) (loose : List Str) (mean : ExcName → Option Value) (mg mb : Str → Option Value) (news : List (Addr × Obj)) (v v' : Value) (st st' : List Int × Int × Int × Int)
    (hv : LeadIn w.params 83 news v st) (hv' : LeadIn w.params 83 news v' st') (hlen : st.1.length ≤ 60000) (hlen' : st'.1.length ≤ 60000) (ht : 0 ≤ st.2.1 ∧ st.2.1 ≤ 60000) (ht' : 0 ≤ st'.2.1 ∧ st'.2.1 ≤ 60000) :
    Does PySem.Challenge.rw_pg0153_03.row.prog w (hd.heap_39 w.params) hd.view_39 loose mean mg mb (.ref 73) [v, v'] 8 60 news
      (fun tl r => r = .bool (lessB st st')) := by
  k_fill
  intro dp un gd cn cs a ccd cl outer A₀ base h₀ L m s Q E B F X N T hk hdp hun hret
  have hL1 := hv
  have hL2 := hv'
  obtain ⟨x, d, Ta, Tc, vs, raw, t0, t1, t2, t3, k0, k1, k2, k3, k4, ep, e, m1, m2, m3, m4, hI⟩ := hv
  subst e
  obtain ⟨y, yd, yTa, yTc, yvs, yraw, yt0, yt1, yt2, yt3, yk0, yk1, yk2, yk3, yk4, yep, e, n1, n2, n3, n4, yI⟩ := hv'
  subst e
  refine wpAny_call ?_
  k_dflt cell_enter
  k_steps
  · rename Fr h₀ _ _ _ => F7
    rename News h₀ _ _ _ => N7
    exact hret _ _ _ [] F7 N7 (fun _ _ _ h => nomatch h) (by rw [lessB_n (by assumption)])
  unfold Stop
  rename Fr _ _ _ _ => F4
  rename News _ _ _ _ => N4
  refine wp_bool F4 N4 (decide ((st.1.length : Int) ≤ 1 ∧ (st'.1.length : Int) ≤ 1)) ?_ fun h4 tk4 F5 N5 => ?_
  · k_steps
    all_goals
      rename Fr _ _ _ _ => F7
      rename News _ _ _ _ => N7
      refine BoolBack.intro F7 N7 (fun p hp => hp) ?_
      first | exact (decide_eq_true (by omega)).symm | exact (decide_eq_false (by omega)).symm
  by_cases hs : (st.1.length : Int) ≤ 1 ∧ (st'.1.length : Int) ≤ 1
  · rw [decide_eq_true hs]
    try dsimp only
    try k_fold
    k_steps
    rename Fr h₀ _ _ _ => F7
    rename News h₀ _ _ _ => N7
    exact hret _ _ _ [] F7 N7 (fun _ _ _ h => nomatch h) (by rw [lessB_simple (by assumption) hs.1 hs.2])
  · rw [decide_eq_false hs]
    try dsimp only
    try k_fold
    k_steps
    unfold Stop
    have hnot : ¬ ((st.1.length : Int) ≤ 1 ∧ (st'.1.length : Int) ≤ 1) := by omega
    have hlo1 : longest st ≤ 60000 ∧ 0 ≤ longest st := by unfold longest; omega
    have hlo2 : longest st' ≤ 60000 ∧ 0 ≤ longest st' := by unfold longest; omega
    k_dflt (refine' Does.use (longrun w _ _ _ _ _ _ _ hL1 (by omega)) ?q1 ?q2 ?q3 ?q4 ?q5 ?q6 ?q7 ?q8 ?_)
    case q1 => k_asm
    case q2 => k_asm
    case q3 => k_asm
    case q4 => k_asm
    case q5 => k_asm
    case q6 => exact rfl
    case q7 => ktr_room
    case q8 => ktr_units
    intro r5 h5 tk5 tl5 F5 N5 ho5 hP5
    obtain ⟨e5, t5, e6⟩ := hP5
    subst e5 e6
    rw [List.nil_append] at N5
    try dsimp only
    try k_fold
    k_steps
    unfold Stop
    k_dflt (refine' Does.use (longrun w _ _ _ _ _ _ _ hL2 (by omega)) ?q1 ?q2 ?q3 ?q4 ?q5 ?q6 ?q7 ?q8 ?_)
    case q1 => k_asm
    case q2 => k_asm
    case q3 => k_asm
    case q4 => k_asm
    case q5 => k_asm
    case q6 => exact rfl
    case q7 => ktr_room
    case q8 => ktr_units
    intro r6 h6 tk6 tl6 F6 N6 ho6 hP6
    obtain ⟨e5, t6, e6⟩ := hP6
    subst e5 e6
    rw [List.nil_append] at N6
    try dsimp only
    try k_fold
    k_steps
    unfold Stop
    rename Fr _ _ _ _ => F8
    (with_unfolding_all refine' For_invVF F8 ?k1 ?k2 ?_; (case k1 => exact rfl); (case k2 => exact rfl); k_whole)
    k_steps
    unfold Stop
    rename Fr _ _ _ _ => F9
    rename News _ _ _ _ => N9
    rename IsRange _ _ _ _ _ _ _ _ => hR
    obtain ⟨m9, hm9, F9⟩ := fr_gen F9
    with_unfolding_all
     refine' for_range (σ := LsC) (n := (max (longest st) (longest st')).toNat) (fun _ => news) (fun c => []) [] (fun i c => ∀ j, j < i → ilev st (2 + (j : Int)) < ilev st' (2 + (j : Int))) ⟨()⟩ (by rfl) hR ?hs ?hn F9 N9 ?hk ?hp ?_ ?_
    case hs => exact range_small (by omega) (by split <;> omega)
    case hn => (rw [range_size]; congr 1; split <;> omega)
    case hk => exact List.forall_mem_nil _
    case hp => exact fun j hj => absurd hj (Nat.not_lt_zero j)
    · subst hm9
      intro I c i ti u h9 tk9 oI hlt hi hP hoff F9 N9
      dsimp only at hP F9 N9 hoff
      dsimp only [kstB] at F9
      have hoA := AllNe.of hoff
      have hi2 : (2 : Int) + (i : Int) ≤ 65536 := by omega
      have hA := allLt_of hlt
      clear hlt hoff
      have hM1 : LeadIn w.params 83 ((I, oI) :: news) _ st := hL1.mono fun _ hp => List.mem_cons_of_mem _ hp
      have hM2 : LeadIn w.params 83 ((I, oI) :: news) _ st' := hL2.mono fun _ hp => List.mem_cons_of_mem _ hp
      k_steps
      unfold Stop
      k_dflt (refine' Does.use (ilevel w _ _ _ _ _ _ _ (2 + (i : Int)) _ hM1 (by omega) (by omega) (by omega)) ?q1 ?q2 ?q3 ?q4 ?q5 ?q6 ?q7 ?q8 ?_)
      case q1 => k_asm
      case q2 => k_asm
      case q3 => k_asm
      case q4 => k_asm
      case q5 => k_asm
      case q6 => exact rfl
      case q7 => ktr_room
      case q8 => ktr_units
      intro r7 h7 tk7 tl7 F7 N7 ho7 hP7
      obtain ⟨e5, t7, e6⟩ := hP7
      subst e5 e6
      rw [List.nil_append] at N7
      try dsimp only
      try k_fold
      k_steps
      unfold Stop
      k_dflt (refine' Does.use (ilevel w _ _ _ _ _ _ _ (2 + (i : Int)) _ hM2 (by omega) (by omega) (by omega)) ?q1 ?q2 ?q3 ?q4 ?q5 ?q6 ?q7 ?q8 ?_)
      case q1 => k_asm
      case q2 => k_asm
      case q3 => k_asm
      case q4 => k_asm
      case q5 => k_asm
      case q6 => exact rfl
      case q7 => ktr_room
      case q8 => ktr_units
      intro r8 h8 tk8 tl8 F8 N8 ho8 hP8
      obtain ⟨e5, t8, e6⟩ := hP8
      subst e5 e6
      rw [List.nil_append] at N8
      try dsimp only
      try k_fold
      k_steps
      · rename Fr h₀ _ _ _ => F7
        rename News h₀ _ _ _ => N7
        exact hret _ _ _ [(I, oI)] F7 N7 (fun q hq p hp => by rw [List.mem_singleton.mp hp]; exact ktn_ltOf hA q hq) (by rw [lessB_not (by assumption) hnot hi (by omega)])
      · unfold Stop
        rename Fr _ _ _ _ => F7
        rename News _ _ _ _ => N7
        refine MyEnd.intro ⟨()⟩ F7 N7 (by kst_all) (by k_mem) (by kst_in) hoA (by kst_same) ?_
        intro j hj
        by_cases hji : j < i
        · exact hP j hji
        · have e : j = i := by omega
          subst e
          omega
    · subst hm9
      intro c u h9 tk9 hP F9 N9
      dsimp only at hP F9 N9
      dsimp only [kstB] at F9
      k_steps
      rename Fr h₀ _ _ _ => F7
      rename News h₀ _ _ _ => N7
      exact hret _ _ _ [] F7 N7 (fun _ _ _ h => nomatch h) (by rw [lessB_all (by assumption) hnot hP])
end Mine
end

section
open PySem PySem.W PyProof.Rows
namespace Mine
local macro_rules | `(tactic| walk_at "eval ListComp") => `(tactic| (k_here; refine Stop.intro ?_))
local macro_rules | `(tactic| walk_at "call ref") => `(tactic| (k_here; refine Stop.intro ?_))
local macro_rules | `(tactic| walk_at "pyIter ref") => `(tactic| (k_here; (with_reducible show wpAny _ _ (pyIter (Value.ref _)) (CompAt _ _ _ _ _ _ _ _ _ _ _ _ _) _ _); refine Stop.intro ?_))
local macro_rules | `(tactic| walk_at "pyIter ref") => `(tactic| (k_here; (with_reducible show wpAny _ _ (pyIter (Value.ref _)) (fun it s₂ => TurnsAt _ _ _ _ _ _ _ _ _ it s₂) _ _); refine Stop.intro ?_))
local macro_rules | `(tactic| walk_at "binaryOp Mult int int") => `(tactic| (k_here; refine Stop.intro ?_))
local macro_rules | `(tactic| walk_at "MyTurn") => `(tactic| (dsimp only [MyTurn]))
local macro_rules | `(tactic| walk_at "MyEnd") => `(tactic| (refine Stop.intro ?_))
local macro_rules | `(tactic| k_mem) => `(tactic| ((with_reducible repeat (first | assumption | apply List.mem_cons_of_mem)); done))
local macro_rules | `(tactic| k_all) => `(tactic| (refine' allNe_of ?a9 ?b9; (case a9 => assumption); (case b9 => omega)))
noncomputable def onesAt (n i : Nat) : Int := (List.map (fun j => ((n / 2 ^ (i + 4 * j) % 2 : Nat) : Int)) (List.range 4)).sum
theorem bit_eq (n k : Nat) : ((n : Int).fdiv (2 ^ ((k : Nat) : Int).toNat)).fmod 2 = ((n / 2 ^ k % 2 : Nat) : Int) := by
  rw [Int.toNat_natCast, Int.fdiv_eq_ediv_of_nonneg _ (Int.pow_nonneg (by decide)), Int.fmod_eq_emod_of_nonneg _ (by decide)]
  have : ((2 : Int) ^ k) = ((2 ^ k : Nat) : Int) := by push_cast; rfl
  rw [this]
  norm_cast
theorem onesAt_bound (n i : Nat) : 0 ≤ onesAt n i ∧ onesAt n i ≤ 4 := by
  have h : onesAt n i = ((n / 2 ^ (i + 4 * 0) % 2 : Nat) : Int) + (((n / 2 ^ (i + 4 * 1) % 2 : Nat) : Int) + (((n / 2 ^ (i + 4 * 2) % 2 : Nat) : Int) + (((n / 2 ^ (i + 4 * 3) % 2 : Nat) : Int) + 0))) := rfl
  omega
theorem onesAt_get {n i : Nat} (h : i < 4) : (List.map (fun i => onesAt n i) (List.range 4)).getD ((i : Nat) : Int).toNat 0 = onesAt n i := by
  rw [Int.toNat_natCast, List.getD_eq_getElem?_getD, List.getElem?_map, List.getElem?_range h]
  rfl
structure ToC where
  op : Obj
theorem four_size {i : Nat} (h : i < 4) : Builtin.Range.rangeSize (i : Int) 16 4 = ((4 : Nat) : Int) := by
  rcases i with _ | _ | _ | _ | i
  · decide
  · decide
  · decide
  · decide
  · omega
theorem four_small {i : Nat} (h : i < 4) : Builtin.Range.small (i : Int) 16 4 = true := by
  rcases i with _ | _ | _ | _ | i
  · decide
  · decide
  · decide
  · decide
  · omega
set_option maxRecDepth 100000 in
set_option maxHeartbeats 8000000 in
theorem lawtold (w : World) (loose : List Str) (mean : ExcName → Option Value) (mg mb : Str → Option Value) (news : List (Addr × Obj)) (v : Value) (st : List Int × Int × Int × Int) (n : Nat) (t : Tok) (hn : n < 65536)
    (hv : LeadIn w.params 83 news v st) (hlen : st.1.length ≤ 60000) (hcol : ∀ p, p < 5 → ilev st ((2 ^ p : Nat) : Int) = ((2 ^ p : Nat) : Int) * (4 + (List.map (fun j => onesAt n (p + j) * 2 ^ j) (List.range (4 - p))).sum)) :
    Does PySem.Challenge.rw_pg0153_03.row.prog w (hd.heap_39 w.params) hd.view_39 loose mean mg mb (.ref 104) [.int (n : Int) t, v] 8 60 news
      (fun tl r => r = .bool true) := by
  k_fill
  intro dp un gd cn cs a ccd cl outer A₀ base h₀ L m s Q E B F X N T hk hdp hun hret
  have hL1 := hv
  obtain ⟨x, d, Ta, Tc, vs, raw, t0, t1, t2, t3, k0, k1, k2, k3, k4, ep, e, m1, m2, m3, m4, hI⟩ := hv
  subst e
  refine wpAny_call ?_
  k_dflt (refine' code_defC ?k1 ?k2 ?k3 ?k4 ?k5 ?kA ?kF ?kK ?k6 ?k7 ?k8 ?k9 ?kB ?kD ?_ ?c2 ?c3 ?c4; (case kA => exact rfl); (case kF => exact rfl); (case kK => assumption); (case k1 => k_asm); (case k2 => k_asm); (case k3 => k_asm); (case k4 => k_asm); (case k5 => k_asm); (case k6 => k_is); (case k7 => k_is); (case k8 => ktr_room); (case k9 => exact BindsTo.of_eq rfl); (case kB => exact rfl); (case kD => decide +kernel); (case c2 => exact rfl); (case c3 => exact rfl); (case c4 => exact rfl); k_whole; intro g' L' h' tk' cells' FG' F' N' Y' B' X' T' l1; have hA := allLt_of l1; k_cells Y'; (try simp only [List.cons_append, List.nil_append] at N'); (try dsimp only); (try k_lift B'); (try k_fold))
  k_steps
  unfold Stop
  k_dflt (refine ListComp_my (by k_asm) (by decide) (by with_unfolding_all rfl) (by rfl) (by decide) ?_ (by intro _; rfl))
  k_steps
  unfold Stop
  rename IsRange _ _ _ _ _ _ _ _ => hR
  k_dflt (refine' range_name (n := 4) ?p1 hR ?p2 ?p3 ?p4 ?p5 ?p6 ?p7 ?p8 ?p9 ?_)
  case p1 => rfl
  case p2 => decide
  case p3 => decide
  case p4 => k_asm
  case p5 => k_asm
  case p6 => exact Nat.le_of_ble_eq_true rfl
  case p7 => rfl
  case p8 => decide
  case p9 => rfl
  intro I D C h₁ h₂ hlt hD hC
  have hltA := allLt_of hlt
  simp only [AllLt] at hltA
  have hDn : @Eq Nat D (I + 1) := hD
  have hCn : @Eq Nat C (I + 2) := hC
  refine crest_exact (fun i => onesAt n i) (fun p hp => nomatch hp) ?_ ?_
  · intro i ys own h tk E' hi hB hoc F N off
    obtain ⟨oI, oC, m₂, v2, rfl, hoC, hPv, hx2, -⟩ := hB
    obtain ⟨u, rfl⟩ := hPv
    rw [show (0 : Int) + (i : Int) * 1 = (i : Int) by omega] at hx2
    simp only [List.cons_append, List.nil_append] at N
    clear hoc off
    k_steps
    unfold Stop
    k_dflt (refine ListComp_my (by k_asm) (by decide) (by with_unfolding_all rfl) (by rfl) (by decide) ?_ (by intro _; rfl))
    k_steps
    unfold Stop
    rename IsRange _ _ _ _ _ _ _ _ => hR2
    k_dflt (refine' range_name (n := 4) ?p1 hR2 ?p2 ?p3 ?p4 ?p5 ?p6 ?p7 ?p8 ?p9 ?_)
    case p1 => rfl
    case p2 => exact four_small hi
    case p3 => exact four_size hi
    case p4 => k_asm
    case p5 => k_asm
    case p6 => exact Nat.le_of_ble_eq_true rfl
    case p7 => rfl
    case p8 => decide
    case p9 => rfl
    intro I2 D2 C2 h₃ h₄ hlt2 hD2 hC2
    refine crest_exact (fun j => ((n / 2 ^ (i + 4 * j) % 2 : Nat) : Int)) (fun p hp => nomatch hp) ?_ ?_
    · intro j ys2 own2 h5 tk5 E5 hj hB2 hoc2 F5 N5 off2
      obtain ⟨oI2, oC2, m₃, v3, rfl, hoC2, hPv2, hx3, -⟩ := hB2
      obtain ⟨u2, rfl⟩ := hPv2
      rw [show (i : Int) + (j : Int) * 4 = ((i + 4 * j : Nat) : Int) by omega] at hx3
      simp only [List.cons_append, List.nil_append] at N5
      clear hoc2 off2
      k_steps
      rename Fr _ _ _ _ => F7
      rename News _ _ _ _ => N7
      refine IntBack.intro F7 N7 (fun p hp => hp) ?_
      exact bit_eq n _
    · intro ys2 hS2
      intro h9 tk9 F9 N9 off9
      try dsimp only
      try k_fold
      k_steps
      rename Fr _ _ _ _ => F7
      rename News _ _ _ _ => N7
      refine IntBack.intro F7 N7 (fun p hp => List.mem_cons_of_mem _ hp) ?_
      rfl
  · intro ys hS
    intro h9 tk9 F9 N9 off9
    try dsimp only
    try k_fold
    k_steps
    rename Fr _ _ _ _ => F8
    (with_unfolding_all refine' For_turns F8 ?_; k_whole)
    k_steps
    unfold Stop
    rename Fr _ _ _ _ => F9
    rename News _ _ _ _ => N9
    rename IsRange _ _ _ _ _ _ _ _ => hR5
    obtain ⟨m9, hm9, F9⟩ := fr_gen F9
    rename (Obj.data _ = Data.cell (some (Value.ref D))) => hdO
    with_unfolding_all
     refine' turns_range (x := Str.ofString "") (σ := ToC) (n := 5) (fun c => (D, LCg.lst ys) :: (L' + 1 + 1 + 1, c.op) :: _) (fun c => []) [Str.ofString "steps"] (fun i c => ∃ v, c.op.data = .cell v) ⟨_⟩ (by rfl) hR5 ?hs ?hn F9 N9 ?hk ?hp ?_ ?_
    case hs => decide
    case hn => decide
    case hk => exact List.forall_mem_nil _
    case hp => exact ⟨_, by assumption⟩
    · subst hm9
      intro I5 c i ti u h10 tk10 oI5 hlt5 hi hP hoff F9 N9
      obtain ⟨op⟩ := c
      obtain ⟨vp, hop⟩ := hP
      dsimp only at hop F9 N9 hoff
      dsimp only [kstB] at F9
      have hlt5A := allLt_of hlt5
      simp only [AllLt] at hlt5A
      clear hlt5 hoff
      rw [show (0 : Int) + (i : Int) = (i : Int) by omega]
      k_steps
      unfold Stop
      k_dflt (refine ListComp_my (by k_asm) (by decide) (by with_unfolding_all rfl) (by rfl) (by decide) ?_ (by intro _; rfl))
      k_steps
      unfold Stop
      rename IsRange _ _ _ _ _ _ _ _ => hR6
      k_dflt (refine' range_name (n := 4 - i) ?p1 hR6 ?p2 ?p3 ?p4 ?p5 ?p6 ?p7 ?p8 ?p9 ?_)
      case p1 => rfl
      case p2 => exact range_small (by omega) (by omega)
      case p3 => (rw [range_size]; congr 1; omega)
      case p4 => k_asm
      case p5 => k_asm
      case p6 => (rw [sizeLine_eq]; omega)
      case p7 => rfl
      case p8 => decide
      case p9 => rfl
      intro I7 D7 C7 h₇ h₈ hlt7 hD7 hC7
      refine crest_exact (fun j => onesAt n (i + j) * 2 ^ j) (fun p hp => nomatch hp) ?_ ?_
      · intro j ys7 own7 h5 tk5 E5 hj hB7 hoc7 F5 N5 off7
        obtain ⟨oI7, oC7, m₇, v7, rfl, hoC7, hPv7, hx7, -⟩ := hB7
        obtain ⟨u7, rfl⟩ := hPv7
        rw [show (i : Int) + (j : Int) * 1 = ((i + j : Nat) : Int) by omega] at hx7
        simp only [List.cons_append, List.nil_append] at N5
        clear hoc7 off7
        k_steps
        unfold Stop
        rw [onesAt_get (by omega), show (((i + j : Nat) : Int) - (i : Int)).toNat = j by omega]
        have hob := onesAt_bound n (i + j)
        refine mul_int ?_ (mul_ok_left (by omega))
        k_steps
        rename Fr _ _ _ _ => F7
        rename News _ _ _ _ => N7
        exact IntBack.intro F7 N7 (fun p hp => hp) rfl
      · intro ys7 hS7
        intro h9 tk9 F9 N9 off9
        try dsimp only
        try k_fold
        have hS := hcol i hi
        generalize hSS : (List.map (fun j => onesAt n (i + j) * 2 ^ j) (List.range (4 - i))).sum = SS
        k_steps
        unfold Stop
        have hk2 : ((2 : Int) ^ (i : Int).toNat) = ((2 ^ i : Nat) : Int) := by rw [Int.toNat_natCast]; push_cast; rfl
        have hk3 : 1 ≤ 2 ^ i := Nat.one_le_two_pow
        have hk4 : 2 ^ i ≤ 2 ^ 4 := Nat.pow_le_pow_right (by decide) (by omega)
        rw [hk2]
        generalize 2 ^ i = K at *
        have hk5 : @LE.le Int _ 1 (K : Int) ∧ (K : Int) ≤ 65536 := by omega
        k_dflt (refine' Does.use (ilevel w _ _ _ _ _ _ _ (K : Int) _ ?qL (Nat.le_trans hlen (by decide)) hk5.1 hk5.2) ?q1 ?q2 ?q3 ?q4 ?q5 ?q6 ?q7 ?q8 ?_)
        case q1 => k_asm
        case q2 => k_asm
        case q3 => k_asm
        case q4 => k_asm
        case q5 => k_asm
        case q6 => exact rfl
        case q7 => ktr_room
        case q8 => ktr_units
        case qL => exact hL1.mono fun _ hp => by (repeat (first | exact hp | apply List.mem_cons_of_mem))
        intro r8 h8 tk8 tl8 F8 N8 ho8 hP8
        obtain ⟨e8, t8, e9⟩ := hP8
        subst e8 e9
        rw [List.nil_append] at N8
        rw [hS]
        try dsimp only
        try k_fold
        k_steps
        unfold Stop
        rw [hk2]
        refine mul_int ?_ (mul_ok_left (by omega))
        k_steps
        · rename (¬ (_ : Int) = _) => hne
          exact absurd (by rw [hSS]) hne
        · unfold Stop
          rename Fr _ _ _ _ => F7
          rename News _ _ _ _ => N7
          refine MyEnd.intro ⟨_⟩ F7 N7 (by kst_all) (by k_mem) ?sub ?off (by kst_same) ⟨_, by assumption⟩
          case sub => exact fun p hp => List.mem_cons_of_mem _ (List.mem_cons_of_mem _ hp)
          case off => k_all
    · subst hm9
      intro c u h10 tk10 hP F9 N9
      try dsimp only at N9
      dsimp only [kstB] at F9
      k_steps
      rename Fr h₀ _ _ _ => F7
      rename News h₀ _ _ _ => N7
      refine hret _ _ _ [(D, LCg.lst ys), _, _, _] F7 N7 (fun q hq p hp => ?_) rfl
      have hq1 : @LT.lt Nat _ q.1 L' := ktn_ltOf hA q hq
      have hp1 : @LE.le Nat _ L' p.1 := by
        rcases List.mem_cons.mp hp with rfl | hp
        · show @LE.le Nat _ L' D; omega
        · rcases List.mem_cons.mp hp with rfl | hp
          · show @LE.le Nat _ L' (L' + 1 + 1 + 1); omega
          · rcases List.mem_cons.mp hp with rfl | hp
            · show @LE.le Nat _ L' (L' + 1 + 1); omega
            · rw [List.mem_singleton.mp hp]; show @LE.le Nat _ L' (L' + 1); omega
      exact Nat.lt_of_lt_of_le hq1 hp1
end Mine
end

section
open PySem PySem.W PyProof.Rows
namespace Mine
local macro_rules | `(tactic| walk_at "eval ListComp") => `(tactic| (k_here; refine Stop.intro ?_))
local macro_rules | `(tactic| walk_at "pyIter bytes") => `(tactic| (k_here; refine Stop.intro ?_))
local macro_rules | `(tactic| walk_at "call ref") => `(tactic| (k_here; refine Stop.intro ?_))
local macro_rules | `(tactic| walk_at "call builtin:len") => `(tactic| (k_here; (with_reducible show wpAny _ _ (call (Value.builtin "len") [Value.bytes _ _]) _ _ _); (refine' KBw.len_K (ks := KBw.bInts _) rfl ?z9 ?_; (case z9 => omega))))
theorem ValBack.intro {h₀ : Heap} {L : Addr} {m : Str → Option Value} {own : List (Addr × Obj)} {ca : List Addr} {D : Addr} {oD : Obj} {s : Shared} {J : Value → List (Addr × Obj) → Prop} {y : Value} {h' : Heap} {tk' : Nat} (nw : List (Addr × Obj))
    (F : Fr h₀ L h' m) (N : News h₀ L h' (own ++ (D, oD) :: nw)) (off : ∀ p ∈ nw, p.1 ∉ ca ∧ p.1 ≠ D) (hJ : J y nw) : ValBack h₀ L m own ca D oD s J y { s with heap := h', toks := tk' } := ⟨h', tk', nw, rfl, F, N, off, hJ⟩
theorem strs_snoc {y : Str} {t : Tok} : ∀ {vs : List Value} {ys : List Str}, StrsAre vs ys → StrsAre (vs ++ [.str y t]) (ys ++ [y])
  | _, _, .nil => .cons _ _ .nil
  | _, _, .cons _ _ r => .cons _ _ (strs_snoc r)
theorem codes_join (ys : List Str) : (Txt.join (Str.ofString "") ys).cps.toList = ys.flatMap fun y => y.cps.toList := by
  unfold Txt.join
  rw [StrLaws.glued_eq_join]
  have e0 : ∀ ys : List Str, (Str.join (Str.ofString "") ys).cps.toList = ys.flatMap fun y => y.cps.toList := by
    intro ys
    induction ys with
    | nil => rfl
    | cons y r ih =>
      cases r with
      | nil => simp [Str.join]
      | cons z r =>
        show (y ++ Str.ofString "" ++ Str.join (Str.ofString "") (z :: r)).cps.toList = _
        rw [codes_append, codes_append, codes_empty, ih, List.append_nil]
        rfl
  exact e0 ys
noncomputable def rowStr (c : Int) : Str := Txt.mul (Str.ofString " ") (c - 65) ++ Str.ofString "\t"
theorem rowStr_codes (c : Int) : (rowStr c).cps.toList = List.replicate (c - 65).toNat 32 ++ [9] := by
  unfold rowStr; rw [codes_append, codes_mul, codes_tab]
theorem rows_light : ∀ cs : List Int, (∀ c ∈ cs, c ≤ 255) → ((cs.map rowStr).map (·.length)).sum + (cs.map rowStr).length ≤ cs.length * 257
  | [], _ => by simp
  | c :: r, h => by
    have := rows_light r fun x hx => h x (.tail _ hx)
    have hc := h c (.head _)
    have e : (rowStr c).length ≤ 256 := by
      rw [← str_len, rowStr_codes, List.length_append, List.length_replicate, List.length_singleton]; omega
    simp only [List.map_cons, List.sum_cons, List.length_cons] at this ⊢
    omega
theorem join_len (ys : List Str) : (Txt.join (Str.ofString "") ys).length = (ys.map (·.length)).sum := by
  rw [← str_len, codes_join, List.length_flatMap]
  exact congrArg List.sum (List.map_congr_left fun y _ => str_len y)
theorem flat65 (k : Nat) : (List.replicate k (65 : Int)).flatMap (fun c => List.replicate (c - 65).toNat 32 ++ [9]) = List.replicate k 9 := by
  induction k with
  | zero => rfl
  | succ k ih => rw [List.replicate_succ, List.flatMap_cons, ih]; rfl
set_option maxRecDepth 100000 in
set_option maxHeartbeats 8000000 in
theorem lawtext (w : World) (loose : List Str) (mean : ExcName → Option Value) (mg mb : Str → Option Value) (news : List (Addr × Obj)) (n : Nat) (t : Tok) (hn : n < 65536) :
    Does PySem.Challenge.rw_pg0153_03.row.prog w (hd.heap_39 w.params) hd.view_39 loose mean mg mb (.ref 99) [.int (n : Int) t] 8 60 news
      (fun tl r => ∃ x t', r = .str x t' ∧ x.cps.toList = (digs 4 n).flatMap (fun c => List.replicate (c - 65).toNat 32 ++ [9])) := by
  k_fill
  intro dp un gd cn cs a ccd cl outer A₀ base h₀ L m s Q E B F X N T hk hdp hun hret
  refine wpAny_call ?_
  k_dflt cell_enter
  k_steps
  unfold Stop
  k_dflt (refine' Does.use (int2ap w _ _ _ _ _ _ _ (by omega)) ?q1 ?q2 ?q3 ?q4 ?q5 ?q6 ?q7 ?q8 ?_)
  case q1 => k_asm
  case q2 => k_asm
  case q3 => k_asm
  case q4 => k_asm
  case q5 => k_asm
  case q6 => exact rfl
  case q7 => ktr_room
  case q8 => ktr_units
  intro r5 h5 tk5 tl5 F5 N5 ho5 hP5
  obtain ⟨e5, b5, t5, e6, hb⟩ := hP5
  subst e5 e6
  rw [List.nil_append] at N5
  have hl5 := apL_len 4 n (by omega)
  rw [show (-(n : Int)).natAbs = n by omega] at hb
  rw [← hb] at hl5
  try dsimp only
  try k_fold
  k_steps
  unfold Stop
  k_dflt (refine ListComp_my (by k_asm) (by decide) (by with_unfolding_all rfl) (by rfl) (by decide) ?_ (by intro _; rfl))
  k_steps
  unfold Stop
  k_dflt (refine' bytes_name ?p1 ?p2 ?p3 ?p4 ?p5 ?p6 ?p7 ?_)
  case p1 => rfl
  case p2 => k_asm
  case p3 => k_asm
  case p4 => (have := KBw.ints_length b5; rw [sizeLine_eq]; omega)
  case p5 => rfl
  case p6 => decide
  case p7 => rfl
  intro I D C h₁ h₂ hlt hD hC
  refine crest_grow (fun i ys nw => nw = news ∧ StrsAre ys (((KBw.bInts b5).take i).map rowStr)) (fun _ _ _ _ p hp => nomatch hp) ⟨rfl, .nil⟩ ?_ ?_
  · intro i ys nw own h tk E' hi hJ hB hoc F N off
    obtain ⟨e, hS⟩ := hJ
    subst e
    obtain ⟨oI, oC, m₂, v, rfl, hoC, hPv, hx2, -⟩ := hB
    obtain ⟨c, u, hc, rfl⟩ := hPv
    simp only [List.cons_append, List.nil_append] at N
    have hbig : c.toNat < 256 := c.toBitVec.isLt
    clear hoc
    k_steps
    rename Fr _ _ _ _ => F7
    rename News _ _ _ _ => N7
    refine ValBack.intro nw F7 N7 off ⟨rfl, ?_⟩
    have hn' : (KBw.bInts b5)[i]? = some (c.toNat : Int) := KBw.ints_get hc
    rw [List.take_add_one, hn', List.map_append]
    exact strs_snoc hS
  · intro ys nw hJ
    obtain ⟨e, hS⟩ := hJ
    subst e
    intro h9 tk9 F9 N9 off9
    rw [← KBw.ints_length, List.take_length] at hS
    try dsimp only
    try k_fold
    k_steps
    show wpAny _ _ (call (.builtin "str.join") [.str _ _, .ref D]) _ _ _
    have hbs : ∀ c ∈ KBw.bInts b5, c ≤ 255 := by
      intro c hc
      unfold KBw.bInts at hc
      obtain ⟨x, _, rfl⟩ := List.mem_map.mp hc
      have := x.toBitVec.isLt
      have : x.toNat < 256 := this
      omega
    refine join_listW (News.isList N9 (.head _)) (by simpa using hS) (by decide) ?_ ?_
    · have := rows_light _ hbs
      omega
    intro t10 k10
    have hj : (Txt.join (Str.ofString "") (List.map rowStr (KBw.bInts b5))).length ≤ 2000 := by
      rw [join_len]
      have := rows_light _ hbs
      omega
    have hm4 : (Txt.mul (Str.ofString "\t") (4 - ((KBw.bInts b5).length : Int))).length ≤ 4 := by
      rw [← str_len, codes_mul_tab, List.length_replicate]
      omega
    have hdg := apL_digs 4 n (by omega)
    rw [← hb] at hdg
    have hfin : (Txt.mul (Str.ofString "\t") (4 - ((KBw.bInts b5).length : Int)) ++ Txt.join (Str.ofString "") (List.map rowStr (KBw.bInts b5))).cps.toList = (digs 4 n).flatMap (fun c => List.replicate (c - 65).toNat 32 ++ [9]) := by
      rw [codes_append, codes_mul_tab, codes_join, ← hdg, List.flatMap_append, flat65, List.flatMap_map]
      congr 1
      · congr 1; omega
      · simp only [rowStr_codes]
    generalize Txt.mul (Str.ofString "\t") (4 - ((KBw.bInts b5).length : Int)) = xa at *
    generalize Txt.join (Str.ofString "") (List.map rowStr (KBw.bInts b5)) = xb at *
    k_steps
    rename Fr h₀ _ _ _ => F7
    rename News h₀ _ _ _ => N7
    exact hret _ _ _ [(D, LCg.lst ys)] F7 N7 (fun q hq p hp => by
      rw [List.mem_singleton.mp hp]
      have h1 : @LT.lt Nat _ q.1 I := hlt q hq
      show @LT.lt Nat _ q.1 D
      rw [hD]; exact Nat.lt_succ_of_lt h1) ⟨_, _, rfl, hfin⟩
end Mine
end

section
open PySem PySem.W PyProof.Rows
namespace Mine
local macro_rules | `(tactic| walk_at "eval ListComp") => `(tactic| (k_here; refine Stop.intro ?_))
local macro_rules | `(tactic| walk_at "call ref") => `(tactic| (k_here; refine Stop.intro ?_))
local macro_rules | `(tactic| walk_at "pyIter ref") => `(tactic| (k_here; (with_reducible show wpAny _ _ (pyIter (Value.ref _)) (CompAt _ _ _ _ _ _ _ _ _ _ _ _ _) _ _); refine Stop.intro ?_))
local macro_rules | `(tactic| walk_at "pyIter ref") => `(tactic| (k_here; (with_reducible show wpAny _ _ (pyIter (Value.ref _)) (fun it s₂ => TurnsAt _ _ _ _ _ _ _ _ _ it s₂) _ _); refine Stop.intro ?_))
local macro_rules | `(tactic| walk_at "binaryOp Pow int int") => `(tactic| (k_here; refine Stop.intro ?_))
local macro_rules | `(tactic| walk_at "MyTurn") => `(tactic| (dsimp only [MyTurn]))
local macro_rules | `(tactic| walk_at "MyEnd") => `(tactic| (refine Stop.intro ?_))
local macro_rules | `(tactic| k_mem) => `(tactic| ((with_reducible repeat (first | assumption | apply List.mem_cons_of_mem)); done))
local macro_rules | `(tactic| k_all) => `(tactic| (refine' allNe_of ?a9 ?b9; (case a9 => assumption); (case b9 => omega)))
noncomputable def digSum (n k : Nat) : Int := (List.map (fun j => ((n / 16 ^ j % 16 / k : Nat) : Int)) (List.range 4)).sum
noncomputable def underB (a b : Nat) : Bool := (List.range 15).all fun i => decide (digSum a (i + 1) ≤ digSum b (i + 1))
theorem pow16 (j : Nat) : ((16 : Int) ^ j) = ((16 ^ j : Nat) : Int) := by push_cast; rfl
theorem pow16_bound {j : Nat} (h : j < 4) : 1 ≤ 16 ^ j ∧ 16 ^ j ≤ 4096 := by
  rcases j with _ | _ | _ | _ | j
  · decide
  · decide
  · decide
  · decide
  · omega
theorem dig_eq (n K k : Nat) : (((n : Int).fdiv (K : Int)).fmod 16).fdiv (k : Int) = ((n / K % 16 / k : Nat) : Int) := by
  rw [Int.fdiv_eq_ediv_of_nonneg (n : Int) (by omega : (0 : Int) ≤ (K : Int)), Int.fmod_eq_emod_of_nonneg _ (by omega), Int.fdiv_eq_ediv_of_nonneg _ (by omega : (0 : Int) ≤ (k : Int))]
  norm_cast
theorem underB_all {a b : Nat} (h : ∀ j, j < 15 → digSum a (j + 1) ≤ digSum b (j + 1)) : underB a b = true := by
  unfold underB
  rw [List.all_eq_true]
  intro j hj
  exact decide_eq_true (h j (List.mem_range.mp hj))
theorem underB_not {a b : Nat} {j : Nat} (hj : j < 15) (h : digSum b (j + 1) < digSum a (j + 1)) : underB a b = false := by
  unfold underB
  rw [List.all_eq_false]
  exact ⟨j, List.mem_range.mpr hj, by simp; omega⟩
structure UnC where
  op : Obj
set_option maxRecDepth 100000 in
set_option maxHeartbeats 8000000 in
theorem lawunder (w : World) (loose : List Str) (mean : ExcName → Option Value) (mg mb : Str → Option Value) (news : List (Addr × Obj)) (a b : Nat) (ta tb : Tok) (ha : a < 65536) (hb : b < 65536) :
    Does PySem.Challenge.rw_pg0153_03.row.prog w (hd.heap_39 w.params) hd.view_39 loose mean mg mb (.ref 109) [.int (a : Int) ta, .int (b : Int) tb] 8 60 news
      (fun tl r => r = .bool (underB a b)) := by
  k_fill
  intro dp un gd cn cs aa ccd cl outer A₀ base h₀ L m s Q E B F X N T hk hdp hun hret
  refine wpAny_call ?_
  k_dflt (refine' code_defC ?k1 ?k2 ?k3 ?k4 ?k5 ?kA ?kF ?kK ?k6 ?k7 ?k8 ?k9 ?kB ?kD ?_ ?c2 ?c3 ?c4; (case kA => exact rfl); (case kF => exact rfl); (case kK => assumption); (case k1 => k_asm); (case k2 => k_asm); (case k3 => k_asm); (case k4 => k_asm); (case k5 => k_asm); (case k6 => k_is); (case k7 => k_is); (case k8 => ktr_room); (case k9 => exact BindsTo.of_eq rfl); (case kB => exact rfl); (case kD => decide +kernel); (case c2 => exact rfl); (case c3 => exact rfl); (case c4 => exact rfl); k_whole; intro g' L' h' tk' cells' FG' F' N' Y' B' X' T' l1; have hA := allLt_of l1; k_cells Y'; (try simp only [List.cons_append, List.nil_append] at N'); (try dsimp only); (try k_lift B'); (try k_fold))
  k_steps
  rename Fr _ _ _ _ => F8
  (with_unfolding_all refine' For_turns F8 ?_; k_whole)
  k_steps
  unfold Stop
  rename Fr _ _ _ _ => F9
  rename News _ _ _ _ => N9
  rename IsRange _ _ _ _ _ _ _ _ => hR5
  obtain ⟨m9, hm9, F9⟩ := fr_gen F9
  with_unfolding_all
   refine' turns_range (x := Str.ofString "") (σ := UnC) (n := 15) (fun c => (L' + 1 + 1 + 1, c.op) :: _) (fun c => []) [Str.ofString "mine"] (fun i c => (∃ v, c.op.data = .cell v) ∧ ∀ j, j < i → digSum a (j + 1) ≤ digSum b (j + 1)) ⟨_⟩ (by rfl) hR5 ?hs ?hn F9 N9 ?hk ?hp ?_ ?_
  case hs => decide
  case hn => decide
  case hk => exact List.forall_mem_nil _
  case hp => exact ⟨⟨_, by assumption⟩, fun j hj => absurd hj (Nat.not_lt_zero j)⟩
  · subst hm9
    intro I5 c i ti u h10 tk10 oI5 hlt5 hi hP hoff F9 N9
    obtain ⟨op⟩ := c
    obtain ⟨⟨v0, hP0⟩, hP⟩ := hP
    dsimp only at hP0 F9 N9 hoff
    dsimp only [kstB] at F9
    have hlt5A := allLt_of hlt5
    simp only [AllLt] at hlt5A
    clear hlt5 hoff
    rw [show (1 : Int) + (i : Int) = ((i + 1 : Nat) : Int) by omega]
    k_steps
    unfold Stop
    k_dflt (refine ListComp_my (by k_asm) (by decide) (by with_unfolding_all rfl) (by rfl) (by decide) ?_ (by intro _; rfl))
    k_steps
    unfold Stop
    rename IsRange _ _ _ _ _ _ _ _ => hR6
    k_dflt (refine' range_name (n := 4) ?p1 hR6 ?p2 ?p3 ?p4 ?p5 ?p6 ?p7 ?p8 ?p9 ?_)
    case p1 => rfl
    case p2 => decide
    case p3 => decide
    case p4 => k_asm
    case p5 => k_asm
    case p6 => exact Nat.le_of_ble_eq_true rfl
    case p7 => rfl
    case p8 => decide
    case p9 => rfl
    intro I7 D7 C7 h₇ h₈ hlt7 hD7 hC7
    refine crest_exact (fun j => ((a / 16 ^ j % 16 / (i + 1) : Nat) : Int)) (fun p hp => nomatch hp) ?_ ?_
    · intro j ys7 own7 h5 tk5 E5 hj hB7 hoc7 F5 N5 off7
      obtain ⟨oI7, oC7, m₇, v7, rfl, hoC7, hPv7, hx7, -⟩ := hB7
      obtain ⟨u7, rfl⟩ := hPv7
      rw [show (0 : Int) + (j : Int) * 1 = ((j : Nat) : Int) by omega] at hx7
      simp only [List.cons_append, List.nil_append] at N5
      clear hoc7 off7
      k_steps
      unfold Stop
      refine pow_int_small (by omega) (by omega) (by decide) ?_
      rw [Int.toNat_natCast, pow16]
      have hK := pow16_bound hj
      generalize hKK : 16 ^ j = K at hK ⊢
      k_steps
      rename Fr _ _ _ _ => F7
      rename News _ _ _ _ => N7
      refine IntBack.intro F7 N7 (fun p hp => hp) ?_
      exact dig_eq a K (i + 1)
    · intro ys7 hS7
      intro h9 tk9 F9 N9 off9
      try dsimp only
      try k_fold
      k_steps
      unfold Stop
      rename Fr _ _ _ _ => F10
      rename News _ _ _ _ => N10
      have N10 := fun p hp => N10 p (List.mem_cons_of_mem _ hp)
      k_dflt (refine ListComp_my (by k_asm) (by decide) (by with_unfolding_all rfl) (by rfl) (by decide) ?_ (by intro _; rfl))
      k_steps
      unfold Stop
      rename IsRange _ _ _ _ _ _ _ _ => hR8
      k_dflt (refine' range_name (n := 4) ?p1 hR8 ?p2 ?p3 ?p4 ?p5 ?p6 ?p7 ?p8 ?p9 ?_)
      case p1 => rfl
      case p2 => decide
      case p3 => decide
      case p4 => k_asm
      case p5 => k_asm
      case p6 => exact Nat.le_of_ble_eq_true rfl
      case p7 => rfl
      case p8 => decide
      case p9 => rfl
      intro I8 D8 C8 h₇ h₈ hlt8 hD8 hC8
      refine crest_exact (fun j => ((b / 16 ^ j % 16 / (i + 1) : Nat) : Int)) (fun p hp => nomatch hp) ?_ ?_
      · intro j ys8 own8 h5 tk5 E5 hj hB8 hoc8 F5 N5 off8
        obtain ⟨oI8, oC8, m₈, v8, rfl, hoC8, hPv8, hx8, -⟩ := hB8
        obtain ⟨u8, rfl⟩ := hPv8
        rw [show (0 : Int) + (j : Int) * 1 = ((j : Nat) : Int) by omega] at hx8
        simp only [List.cons_append, List.nil_append] at N5
        clear hoc8 off8
        k_steps
        unfold Stop
        refine pow_int_small (by omega) (by omega) (by decide) ?_
        rw [Int.toNat_natCast, pow16]
        have hK := pow16_bound hj
        generalize hKK : 16 ^ j = K at hK ⊢
        k_steps
        rename Fr _ _ _ _ => F7
        rename News _ _ _ _ => N7
        refine IntBack.intro F7 N7 (fun p hp => hp) ?_
        exact dig_eq b K (i + 1)
      · intro ys8 hS8
        have hlt7A := allLt_of hlt7
        simp only [AllLt] at hlt7A
        have hlt8A := allLt_of hlt8
        simp only [AllLt] at hlt8A
        have hD7n : @Eq Nat D7 (I7 + 1) := hD7
        have hD8n : @Eq Nat D8 (I8 + 1) := hD8
        intro h11 tk11 F11 N11 off11
        try dsimp only
        try k_fold
        k_steps
        · rename Fr h₀ _ _ _ => F7
          rename News h₀ _ _ _ => N7
          refine hret _ _ _ [_, _, _, _, _, _] F7 N7 (lead_order hA (List.forall_mem_cons.mpr ⟨?_, List.forall_mem_cons.mpr ⟨?_, List.forall_mem_cons.mpr ⟨?_, List.forall_mem_cons.mpr ⟨?_, List.forall_mem_cons.mpr ⟨?_, List.forall_mem_cons.mpr ⟨?_, List.forall_mem_nil _⟩⟩⟩⟩⟩⟩)) ?_
          · show @LE.le Nat _ L' D8; omega
          · show @LE.le Nat _ L' D7; omega
          · show @LE.le Nat _ L' I5; omega
          · show @LE.le Nat _ L' (L' + 1 + 1 + 1); omega
          · show @LE.le Nat _ L' (L' + 1 + 1); omega
          · show @LE.le Nat _ L' (L' + 1); omega
          · rw [underB_not hi (by assumption)]
        · unfold Stop
          rename Fr _ _ _ _ => F7
          rename News _ _ _ _ => N7
          rename ¬ _ < _ => hle
          refine MyEnd.intro ⟨_⟩ F7 N7 (by kst_all) (by k_mem) ?sub ?off (by kst_same) ⟨⟨_, by assumption⟩, ?_⟩
          case sub => exact fun p hp => List.mem_cons_of_mem _ (List.mem_cons_of_mem _ (List.mem_cons_of_mem _ hp))
          case off => k_all
          intro j hj
          by_cases hji : j < i
          · exact hP j hji
          · have e : j = i := by omega
            subst e
            exact Int.not_lt.mp hle
  · subst hm9
    intro c u h10 tk10 hP F9 N9
    try dsimp only at N9
    dsimp only [kstB] at F9
    k_steps
    rename Fr h₀ _ _ _ => F7
    rename News h₀ _ _ _ => N7
    refine hret _ _ _ [_, _, _] F7 N7 (fun q hq p hp => ?_) ?_
    · have hq1 : @LT.lt Nat _ q.1 L' := ktn_ltOf hA q hq
      have hp1 : @LE.le Nat _ L' p.1 := by
        rcases List.mem_cons.mp hp with rfl | hp
        · show @LE.le Nat _ L' (L' + 1 + 1 + 1); omega
        · rcases List.mem_cons.mp hp with rfl | hp
          · show @LE.le Nat _ L' (L' + 1 + 1); omega
          · rw [List.mem_singleton.mp hp]; show @LE.le Nat _ L' (L' + 1); omega
      exact Nat.lt_of_lt_of_le hq1 hp1
    · rw [underB_all hP.2]
end Mine
end

section
open PySem PySem.W PyProof.Rows
namespace Mine
noncomputable def drAt (d0 d1 d2 j : Nat) : Nat := [d0, d1, d2].getD j 0
theorem drAt_lt {d0 d1 d2 : Nat} (j : Nat) (h0 : d0 < 65536) (h1 : d1 < 65536) (h2 : d2 < 65536) : drAt d0 d1 d2 j < 65536 := by
  unfold drAt
  rcases j with _ | _ | _ | j <;> simp <;> omega
noncomputable def cntAt (d0 d1 d2 i : Nat) : Int := (List.map (fun j => ((drAt d0 d1 d2 j / 2 ^ i % 2 : Nat) : Int)) (List.range 3)).sum
noncomputable def combN (d0 d1 d2 k : Nat) : Nat := (((List.range 16).filter fun j => decide (((k + 1 : Nat) : Int) ≤ cntAt d0 d1 d2 j)).map fun j => 2 ^ j).sum
theorem cnt_get {d0 d1 d2 i : Nat} (h : i < 16) : (List.map (fun i => cntAt d0 d1 d2 i) (List.range 16)).getD ((i : Nat) : Int).toNat 0 = cntAt d0 d1 d2 i := by
  rw [Int.toNat_natCast, List.getD_eq_getElem?_getD, List.getElem?_map, List.getElem?_range h]
  rfl
theorem comb_sum (d0 d1 d2 k : Nat) : (List.map (fun j => ((2 ^ j : Nat) : Int)) ((List.range 16).filter fun j => decide (((k + 1 : Nat) : Int) ≤ cntAt d0 d1 d2 j))).sum = ((combN d0 d1 d2 k : Nat) : Int) := by
  unfold combN
  generalize (List.range 16).filter _ = l
  induction l with
  | nil => rfl
  | cons x r ih => rw [List.map_cons, List.sum_cons, List.map_cons, List.sum_cons, ih]; push_cast; rfl
noncomputable def codesOf (n : Nat) : List Nat := (digs 4 n).flatMap (fun c => List.replicate (c - 65).toNat 32 ++ [9])
noncomputable def rowsD (n : Nat) : List Nat := [n / 4096 % 16, n / 256 % 16, n / 16 % 16, n % 16]
theorem codesOf_rows (n : Nat) : codesOf n = rowsCodes (rowsD n) := by
  have e : digs 4 n = [65 + ((n / 16 / 16 / 16 % 16 : Nat) : Int), 65 + ((n / 16 / 16 % 16 : Nat) : Int), 65 + ((n / 16 % 16 : Nat) : Int), 65 + ((n % 16 : Nat) : Int)] := rfl
  unfold codesOf rowsD rowsCodes
  rw [e]
  have h : ∀ k : Nat, (65 + (k : Int) - 65).toNat = k := fun k => by omega
  simp only [List.flatMap_cons, List.flatMap_nil, List.map_cons, List.map_nil, List.flatten_cons, List.flatten_nil, rowCodes, h]
  have e1 : n / 16 / 16 / 16 % 16 = n / 4096 % 16 := by rw [Nat.div_div_eq_div_mul, Nat.div_div_eq_div_mul]
  have e2 : n / 16 / 16 % 16 = n / 256 % 16 := by rw [Nat.div_div_eq_div_mul]
  rw [e1, e2]
theorem codesOf_len (n : Nat) : (codesOf n).length ≤ 64 := by
  rw [codesOf_rows]
  have := rowsCodes_len (rowsD n) 15 (fun r hr => by
    unfold rowsD at hr
    simp only [List.mem_cons, List.not_mem_nil, or_false] at hr
    omega)
  have e : (rowsD n).length = 4 := rfl
  omega
noncomputable def stN (n tr : Nat) : List Int × Int × Int × Int := wsRead (codesOf n ++ List.replicate tr 32)
theorem stN_eq (n tr : Nat) : stN n tr = (hist (rowsD n), (tr : Int), ((rowsD n).map fun (r : Nat) => (r : Int) + 1).sum + tr, 4) := by
  unfold stN
  rw [codesOf_rows, read_lead]
  rfl
theorem stN_len (n tr : Nat) (h : tr ≤ 1) : (stN n tr).1.length ≤ 60000 := by
  have h1 := wsRead_len (codesOf n ++ List.replicate tr 32)
  have h2 := codesOf_len n
  rw [List.length_append, List.length_replicate] at h1
  unfold stN
  omega
theorem stN_tr (n tr : Nat) (h : tr ≤ 1) : 0 ≤ (stN n tr).2.1 ∧ (stN n tr).2.1 ≤ 60000 := by
  rw [stN_eq]
  show (0 : Int) ≤ (tr : Int) ∧ (tr : Int) ≤ 60000
  omega
theorem digSum_eq (n k : Nat) : digSum n k = ((n % 16 / k : Nat) : Int) + (((n / 16 % 16 / k : Nat) : Int) + (((n / 256 % 16 / k : Nat) : Int) + (((n / 4096 % 16 / k : Nat) : Int) + 0))) := by
  have h : digSum n k = ((n / 16 ^ 0 % 16 / k : Nat) : Int) + (((n / 16 ^ 1 % 16 / k : Nat) : Int) + (((n / 16 ^ 2 % 16 / k : Nat) : Int) + (((n / 16 ^ 3 % 16 / k : Nat) : Int) + 0))) := rfl
  rw [h, show 16 ^ 0 = 1 by decide, show 16 ^ 1 = 16 by decide, show 16 ^ 2 = 256 by decide, show 16 ^ 3 = 4096 by decide, Nat.div_one]
theorem ilev_stN (n tr k : Nat) (hk : 1 ≤ k) : ilev (stN n tr) (k : Int) = (tr : Int) + (k : Int) * (digSum n k + 4) := by
  rw [stN_eq]
  have := ilev_rows (rowsD n) (tr : Int) (((rowsD n).map fun (r : Nat) => (r : Int) + 1).sum + tr) k hk
  have e : ((rowsD n).length : Int) = 4 := rfl
  rw [e] at this
  rw [this, digSum_eq]
  congr 2
  unfold rowsD
  simp only [List.map_cons, List.map_nil, List.sum_cons, List.sum_nil]
  generalize n % 16 / k = a0
  generalize n / 16 % 16 / k = a1
  generalize n / 256 % 16 / k = a2
  generalize n / 4096 % 16 / k = a3
  clear this hk
  omega
theorem stN_n (n tr : Nat) : (stN n tr).2.2.1 = digSum n 1 + 4 + tr := by
  rw [stN_eq, digSum_eq]
  show ((rowsD n).map fun (r : Nat) => (r : Int) + 1).sum + (tr : Int) = _
  unfold rowsD
  simp only [List.map_cons, List.map_nil, List.sum_cons, List.sum_nil, Nat.div_one]
  generalize n % 16 = a0
  generalize n / 16 % 16 = a1
  generalize n / 256 % 16 = a2
  generalize n / 4096 % 16 = a3
  omega
theorem bump_len (cs : List Int) (r : Nat) : (bump cs r).length = max cs.length (r + 1) := by
  unfold bump
  by_cases h : cs.length ≤ r
  · rw [if_pos h, List.length_set, List.length_append, List.length_replicate]; omega
  · rw [if_neg h, List.length_set]; omega
noncomputable def topD (n : Nat) : Nat := max (max (max (n / 4096 % 16) (n / 256 % 16)) (n / 16 % 16)) (n % 16)
theorem stN_cnt (n tr : Nat) : (stN n tr).1.length = topD n + 1 := by
  rw [stN_eq]
  show (hist (rowsD n)).length = _
  unfold hist rowsD topD
  simp only [List.foldl_cons, List.foldl_nil, bump_len, List.length_nil, Nat.zero_max, Nat.add_max_add_right]
theorem big_zero {n k : Nat} (h : topD n < k) : digSum n k = 0 := by
  have h1 : n % 16 ≤ topD n := Nat.le_max_right _ _
  have h2 : n / 16 % 16 ≤ topD n := Nat.le_trans (Nat.le_max_right _ _) (Nat.le_max_left _ _)
  have h3 : n / 256 % 16 ≤ topD n := Nat.le_trans (Nat.le_trans (Nat.le_max_right _ _) (Nat.le_max_left _ _)) (Nat.le_max_left _ _)
  have h4 : n / 4096 % 16 ≤ topD n := Nat.le_trans (Nat.le_trans (Nat.le_max_left _ _) (Nat.le_max_left _ _)) (Nat.le_max_left _ _)
  rw [digSum_eq, Nat.div_eq_of_lt (Nat.lt_of_le_of_lt h1 h), Nat.div_eq_of_lt (Nat.lt_of_le_of_lt h2 h), Nat.div_eq_of_lt (Nat.lt_of_le_of_lt h3 h), Nat.div_eq_of_lt (Nat.lt_of_le_of_lt h4 h)]
  rfl
theorem topD_le (n : Nat) : topD n ≤ 15 :=
  Nat.max_le.mpr ⟨Nat.max_le.mpr ⟨Nat.max_le.mpr ⟨Nat.le_of_lt_succ (Nat.mod_lt _ (by decide)), Nat.le_of_lt_succ (Nat.mod_lt _ (by decide))⟩, Nat.le_of_lt_succ (Nat.mod_lt _ (by decide))⟩, Nat.le_of_lt_succ (Nat.mod_lt _ (by decide))⟩
theorem long0 (n : Nat) : longest (stN n 0) = (topD n : Int) := by
  unfold longest
  have h : (stN n 0).2.1 = 0 := by rw [stN_eq]; rfl
  rw [h, stN_cnt]
  omega
theorem long1 (n : Nat) : longest (stN n 1) = ((max (topD n) 1 : Nat) : Int) := by
  unfold longest
  have h : (stN n 1).2.1 = 1 := by rw [stN_eq]; rfl
  rw [h, stN_cnt]
  omega
theorem toNat_max (a b : Nat) : (max (a : Int) (b : Int)).toNat = max a b := by omega
theorem digSum_nonneg (n k : Nat) : 0 ≤ digSum n k := by
  rw [digSum_eq]
  generalize n % 16 / k = a
  generalize n / 16 % 16 / k = b
  generalize n / 256 % 16 / k = c
  generalize n / 4096 % 16 / k = d
  omega
theorem four_zero {a b c d : Nat} (h : (a : Int) + ((b : Int) + ((c : Int) + ((d : Int) + 0))) = 0) : a = 0 ∧ b = 0 ∧ c = 0 ∧ d = 0 := by omega
theorem zero_all {n k : Nat} (h : digSum n 1 = 0) : digSum n k = 0 := by
  rw [digSum_eq] at h ⊢
  rw [Nat.div_one, Nat.div_one, Nat.div_one, Nat.div_one] at h
  obtain ⟨h1, h2, h3, h4⟩ := four_zero h
  rw [h1, h2, h3, h4, Nat.zero_div]
  rfl
theorem less_step (a b tr k : Nat) (hk : 1 ≤ k) : ilev (stN a 0) (k : Int) < ilev (stN b tr) (k : Int) ↔ (k : Int) * digSum a k < (tr : Int) + (k : Int) * digSum b k := by
  rw [ilev_stN _ _ _ hk, ilev_stN _ _ _ hk, Int.mul_add, Int.mul_add]
  constructor <;> intro h <;> omega
theorem less_plain (a b : Nat) : lessB (stN a 0) (stN b 0) = false := by
  by_cases h : (stN b 0).2.2.1 ≤ (stN a 0).2.2.1
  · exact lessB_n h
  have hn : digSum a 1 < digSum b 1 := by
    rw [stN_n, stN_n] at h; omega
  have hs : ¬ (((stN a 0).1.length : Int) ≤ 1 ∧ ((stN b 0).1.length : Int) ≤ 1) := by
    rintro ⟨h1, h2⟩
    rw [stN_cnt] at h1 h2
    have e := big_zero (n := b) (k := 1) (by omega)
    have e' := big_zero (n := a) (k := 1) (by omega)
    rw [e, e'] at hn
    exact absurd hn (by decide)
  have hb1 : 1 ≤ topD b := Nat.pos_of_ne_zero fun h0 => by
    have e := big_zero (n := b) (k := 1) (by omega)
    by_cases ha : topD a < 1
    · rw [big_zero (n := a) ha, e] at hn
      exact absurd hn (by decide)
    · refine hs ⟨?_, ?_⟩
      · exfalso
        have := digSum_nonneg a 1
        rw [e] at hn
        omega
      · rw [stN_cnt, h0]; decide
  obtain ⟨M, hM⟩ : ∃ M, M = max (topD a) (topD b) := ⟨_, rfl⟩
  have ha' : topD a ≤ M := by rw [hM]; exact Nat.le_max_left _ _
  have hb' : topD b ≤ M := by rw [hM]; exact Nat.le_max_right _ _
  have hL : (max (longest (stN a 0)) (longest (stN b 0))).toNat = M := by rw [long0, long0, toNat_max, hM]
  clear hM
  refine lessB_not h hs (j := M - 1) (by rw [hL]; omega) ?_
  have e : (2 : Int) + ((M - 1 : Nat) : Int) = ((M + 1 : Nat) : Int) := by omega
  rw [e]
  refine Int.not_lt.mp fun hlt => ?_
  rw [less_step _ _ _ _ (Nat.succ_pos _), big_zero (n := a) (Nat.lt_succ_of_le ha'), big_zero (n := b) (Nat.lt_succ_of_le hb')] at hlt
  omega
theorem one_step (a b k : Nat) (hk : 1 ≤ k) : ilev (stN a 0) (k : Int) < ilev (stN b 1) (k : Int) ↔ digSum a k ≤ digSum b k := by
  rw [less_step _ _ _ _ hk]
  generalize digSum a k = A
  generalize digSum b k = B
  constructor
  · intro h
    refine Int.not_lt.mp fun hlt => ?_
    have h2 : (k : Int) * (B + 1) ≤ (k : Int) * A := Int.mul_le_mul_of_nonneg_left hlt (by omega)
    rw [Int.mul_add, Int.mul_one] at h2
    clear hlt
    omega
  · intro h
    have := Int.mul_le_mul_of_nonneg_left h (show (0 : Int) ≤ (k : Int) by omega)
    clear h
    omega
theorem less_one (a b : Nat) : lessB (stN a 0) (stN b 1) = underB a b := by
  by_cases h : (stN b 1).2.2.1 ≤ (stN a 0).2.2.1
  · rw [lessB_n h, underB_not (j := 0) (by decide)]
    rw [stN_n, stN_n] at h
    show digSum b 1 < digSum a 1
    omega
  have hn : digSum a 1 ≤ digSum b 1 := by
    rw [stN_n, stN_n] at h; omega
  by_cases hs : ((stN a 0).1.length : Int) ≤ 1 ∧ ((stN b 1).1.length : Int) ≤ 1
  · obtain ⟨h1, h2⟩ := hs
    have e := big_zero (n := b) (k := 1) (by rw [stN_cnt] at h2; omega)
    have e' := big_zero (n := a) (k := 1) (by rw [stN_cnt] at h1; omega)
    rw [lessB_simple h h1 h2, underB_all fun j _ => by rw [zero_all e, zero_all e']; exact Int.le_refl _]
    rw [stN_eq, stN_eq]
    rfl
  obtain ⟨M, hM⟩ : ∃ M, M = max (topD a) (max (topD b) 1) := ⟨_, rfl⟩
  have ha' : topD a ≤ M := by rw [hM]; exact Nat.le_max_left _ _
  have hb' : topD b ≤ M := by rw [hM]; exact Nat.le_trans (Nat.le_max_left _ _) (Nat.le_max_right _ _)
  have hL : (max (longest (stN a 0)) (longest (stN b 1))).toNat = M := by rw [long0, long1, toNat_max, hM]
  clear hM
  by_cases hu : ∀ j, j < 15 → digSum a (j + 1) ≤ digSum b (j + 1)
  · rw [underB_all hu]
    refine lessB_all h hs fun j _ => ?_
    have e : (2 : Int) + (j : Int) = ((j + 2 : Nat) : Int) := by omega
    rw [e, one_step _ _ _ (Nat.succ_pos _)]
    by_cases hj : j + 1 < 15
    · exact hu (j + 1) hj
    · have ta := topD_le a
      have tb := topD_le b
      rw [big_zero (n := a) (by omega), big_zero (n := b) (by omega)]; exact Int.le_refl _
  · obtain ⟨j, hj⟩ := Classical.not_forall.mp hu
    have hj15 : j < 15 := Classical.byContradiction fun h => hj fun h' => absurd h' h
    have hlt : digSum b (j + 1) < digSum a (j + 1) := Int.not_le.mp fun h => hj fun _ => h
    rw [underB_not hj15 hlt]
    have hj0 : j ≠ 0 := by
      rintro rfl
      exact absurd hn (Int.not_le.mpr hlt)
    have hjM : j - 1 < M := by
      refine Classical.byContradiction fun h => ?_
      rw [big_zero (n := a) (k := j + 1) (by omega), big_zero (n := b) (k := j + 1) (by omega)] at hlt
      exact absurd hlt (by decide)
    refine lessB_not h hs (j := j - 1) (by rw [hL]; exact hjM) ?_
    have e : (2 : Int) + ((j - 1 : Nat) : Int) = ((j + 1 : Nat) : Int) := by omega
    rw [e]
    refine Int.not_lt.mp fun h => ?_
    rw [one_step _ _ _ (Nat.succ_pos _)] at h
    exact absurd h (Int.not_le.mpr hlt)
end Mine
end

section
open PySem PySem.W PyProof.Rows
namespace Mine
theorem letter_told : ∀ d : Fin 16, ∀ p : Fin 5, d.1 / 2 ^ p.1 = ((List.range (4 - p.1)).map fun j => d.1 / 2 ^ (p.1 + j) % 2 * 2 ^ j).sum := by decide +kernel
theorem bitq (n q i : Nat) (h : i < 4) : n / 16 ^ q % 16 / 2 ^ i % 2 = n / 2 ^ (i + 4 * q) % 2 := by
  have e16 : ∀ m : Nat, m % 16 / 2 ^ i % 2 = m / 2 ^ i % 2 := fun m => by
    have e : 16 = 2 ^ i * 2 ^ (4 - i) := by rw [← Nat.pow_add, Nat.add_sub_cancel' (Nat.le_of_lt h)]
    rw [e, Nat.mod_mul_right_div_self, Nat.mod_mod_of_dvd _ (Nat.pow_dvd_pow 2 (Nat.le_sub_of_add_le (Nat.add_comm 1 i ▸ h)) : 2 ^ 1 ∣ 2 ^ (4 - i))]
  rw [e16, Nat.div_div_eq_div_mul]
  have e : (16 : Nat) ^ q * 2 ^ i = 2 ^ (i + 4 * q) := by
    rw [show (16 : Nat) = 2 ^ 4 by decide, ← Nat.pow_mul, ← Nat.pow_add, Nat.add_comm]
  rw [e]
theorem onesAt_digits (n i : Nat) (h : i < 4) : onesAt n i = (List.map (fun q => ((n / 16 ^ q % 16 / 2 ^ i % 2 : Nat) : Int)) (List.range 4)).sum := by
  unfold onesAt
  congr 1
  exact List.map_congr_left fun q _ => by rw [bitq n q i h]
theorem told_all (n p : Nat) (hp : p < 5) : ilev (stN n 0) ((2 ^ p : Nat) : Int) = ((2 ^ p : Nat) : Int) * (4 + (List.map (fun j => onesAt n (p + j) * 2 ^ j) (List.range (4 - p))).sum) := by
  rw [ilev_stN _ _ _ (Nat.pos_of_ne_zero (by simp))]
  have e : digSum n (2 ^ p) = (List.map (fun j => onesAt n (p + j) * 2 ^ j) (List.range (4 - p))).sum := by
    have hd : ∀ q, ((n / 16 ^ q % 16 / 2 ^ p : Nat) : Int) = ((List.range (4 - p)).map fun j => ((n / 16 ^ q % 16 / 2 ^ (p + j) % 2 : Nat) : Int) * 2 ^ j).sum := by
      intro q
      have := letter_told ⟨n / 16 ^ q % 16, Nat.mod_lt _ (by decide)⟩ ⟨p, hp⟩
      dsimp only at this
      rw [this]
      generalize List.range (4 - p) = l
      induction l with
      | nil => rfl
      | cons x r ih => rw [List.map_cons, List.sum_cons, List.map_cons, List.sum_cons, ← ih]; push_cast; rfl
    have ho : ∀ j ∈ List.range (4 - p), onesAt n (p + j) * 2 ^ j = (List.map (fun q => ((n / 16 ^ q % 16 / 2 ^ (p + j) % 2 : Nat) : Int)) (List.range 4)).sum * 2 ^ j := by
      intro j hj
      rw [onesAt_digits n (p + j) (by have := List.mem_range.mp hj; omega)]
    rw [List.map_congr_left ho]
    have hs : digSum n (2 ^ p) = ((n / 16 ^ 0 % 16 / 2 ^ p : Nat) : Int) + (((n / 16 ^ 1 % 16 / 2 ^ p : Nat) : Int) + (((n / 16 ^ 2 % 16 / 2 ^ p : Nat) : Int) + (((n / 16 ^ 3 % 16 / 2 ^ p : Nat) : Int) + 0))) := rfl
    rw [hs, hd 0, hd 1, hd 2, hd 3]
    have ht : ∀ j, (List.map (fun q => ((n / 16 ^ q % 16 / 2 ^ (p + j) % 2 : Nat) : Int)) (List.range 4)).sum = ((n / 16 ^ 0 % 16 / 2 ^ (p + j) % 2 : Nat) : Int) + (((n / 16 ^ 1 % 16 / 2 ^ (p + j) % 2 : Nat) : Int) + (((n / 16 ^ 2 % 16 / 2 ^ (p + j) % 2 : Nat) : Int) + (((n / 16 ^ 3 % 16 / 2 ^ (p + j) % 2 : Nat) : Int) + 0))) := fun _ => rfl
    generalize List.range (4 - p) = l
    induction l with
    | nil => rfl
    | cons x r ih =>
      simp only [List.map_cons, List.sum_cons]
      rw [← ih, ht]
      simp only [Int.add_mul]
      omega
  rw [e, Int.add_comm 4]
  omega
noncomputable def combB (d0 d1 d2 k j : Nat) : Nat := if ((k + 1 : Nat) : Int) ≤ cntAt d0 d1 d2 j then 1 else 0
theorem filter_sum (l : List Nat) (p : Nat → Bool) (f : Nat → Nat) : ((l.filter p).map f).sum = (l.map fun j => (if p j then 1 else 0) * f j).sum := by
  induction l with
  | nil => rfl
  | cons x r ih =>
    rw [List.map_cons, List.sum_cons, ← ih]
    cases h : p x
    · rw [List.filter_cons_of_neg (by simp [h])]; simp
    · rw [List.filter_cons_of_pos h, List.map_cons, List.sum_cons]; simp
theorem combB_le (d0 d1 d2 k j : Nat) : combB d0 d1 d2 k j ≤ 1 := by unfold combB; split <;> omega
theorem combB_mono (d0 d1 d2 k j : Nat) : combB d0 d1 d2 (k + 1) j ≤ combB d0 d1 d2 k j := by
  unfold combB
  split
  · rw [if_pos (by omega)]; exact Nat.le_refl _
  · exact Nat.zero_le _
noncomputable def combX (d0 d1 d2 k q : Nat) : Nat := combB d0 d1 d2 k (4 * q) + 2 * combB d0 d1 d2 k (4 * q + 1) + 4 * combB d0 d1 d2 k (4 * q + 2) + 8 * combB d0 d1 d2 k (4 * q + 3)
theorem combX_lt (d0 d1 d2 k q : Nat) : combX d0 d1 d2 k q < 16 := by
  have a := combB_le d0 d1 d2 k (4 * q)
  have b := combB_le d0 d1 d2 k (4 * q + 1)
  have c := combB_le d0 d1 d2 k (4 * q + 2)
  have d := combB_le d0 d1 d2 k (4 * q + 3)
  unfold combX
  omega
theorem combX_mono (d0 d1 d2 k q : Nat) : combX d0 d1 d2 (k + 1) q ≤ combX d0 d1 d2 k q := by
  have a := combB_mono d0 d1 d2 k (4 * q)
  have b := combB_mono d0 d1 d2 k (4 * q + 1)
  have c := combB_mono d0 d1 d2 k (4 * q + 2)
  have d := combB_mono d0 d1 d2 k (4 * q + 3)
  unfold combX
  omega
theorem combN_eq (d0 d1 d2 k : Nat) : combN d0 d1 d2 k = combX d0 d1 d2 k 0 + 16 * combX d0 d1 d2 k 1 + 256 * combX d0 d1 d2 k 2 + 4096 * combX d0 d1 d2 k 3 := by
  unfold combN
  rw [filter_sum]
  have e : ∀ j, (if decide (((k + 1 : Nat) : Int) ≤ cntAt d0 d1 d2 j) = true then 1 else 0) = combB d0 d1 d2 k j := fun j => by simp [combB]
  simp only [e]
  rw [show List.range 16 = [0, 1, 2, 3, 4, 5, 6, 7, 8, 9, 10, 11, 12, 13, 14, 15] by decide]
  simp only [List.map_cons, List.map_nil, List.sum_cons, List.sum_nil]
  unfold combX
  simp only [Nat.mul_zero, Nat.zero_add, Nat.mul_one, Nat.reduceMul, Nat.reduceAdd, Nat.reducePow]
  omega
theorem combN_lt (d0 d1 d2 k : Nat) : combN d0 d1 d2 k < 65536 := by
  rw [combN_eq]
  have a := combX_lt d0 d1 d2 k 0
  have b := combX_lt d0 d1 d2 k 1
  have c := combX_lt d0 d1 d2 k 2
  have d := combX_lt d0 d1 d2 k 3
  omega
theorem four_digs {x0 x1 x2 x3 : Nat} (a : x0 < 16) (b : x1 < 16) (c : x2 < 16) (d : x3 < 16) : (x0 + 16 * x1 + 256 * x2 + 4096 * x3) % 16 = x0 ∧ (x0 + 16 * x1 + 256 * x2 + 4096 * x3) / 16 % 16 = x1 ∧ (x0 + 16 * x1 + 256 * x2 + 4096 * x3) / 256 % 16 = x2 ∧ (x0 + 16 * x1 + 256 * x2 + 4096 * x3) / 4096 % 16 = x3 := by omega
theorem combN_digs (d0 d1 d2 k : Nat) : combN d0 d1 d2 k % 16 = combX d0 d1 d2 k 0 ∧ combN d0 d1 d2 k / 16 % 16 = combX d0 d1 d2 k 1 ∧ combN d0 d1 d2 k / 256 % 16 = combX d0 d1 d2 k 2 ∧ combN d0 d1 d2 k / 4096 % 16 = combX d0 d1 d2 k 3 := by
  rw [combN_eq]
  exact four_digs (combX_lt d0 d1 d2 k 0) (combX_lt d0 d1 d2 k 1) (combX_lt d0 d1 d2 k 2) (combX_lt d0 d1 d2 k 3)
theorem comb_sums (d0 d1 d2 k s : Nat) : digSum (combN d0 d1 d2 (k + 1)) s ≤ digSum (combN d0 d1 d2 k) s := by
  obtain ⟨a0, a1, a2, a3⟩ := combN_digs d0 d1 d2 (k + 1)
  obtain ⟨b0, b1, b2, b3⟩ := combN_digs d0 d1 d2 k
  rw [digSum_eq, digSum_eq, a0, a1, a2, a3, b0, b1, b2, b3]
  have c0 := Nat.div_le_div_right (c := s) (combX_mono d0 d1 d2 k 0)
  have c1 := Nat.div_le_div_right (c := s) (combX_mono d0 d1 d2 k 1)
  have c2 := Nat.div_le_div_right (c := s) (combX_mono d0 d1 d2 k 2)
  have c3 := Nat.div_le_div_right (c := s) (combX_mono d0 d1 d2 k 3)
  omega
theorem chain_up (d0 d1 d2 k : Nat) : lessB (stN (combN d0 d1 d2 (k + 1)) 0) (stN (combN d0 d1 d2 k) 1) = true := by
  rw [less_one]
  exact underB_all fun j _ => comb_sums d0 d1 d2 k (j + 1)
theorem chain_down (d0 d1 d2 k : Nat) : lessB (stN (combN d0 d1 d2 k) 0) (stN (combN d0 d1 d2 (k + 1)) 1) = decide (combN d0 d1 d2 k = combN d0 d1 d2 (k + 1)) := by
  rw [less_one]
  by_cases h : combN d0 d1 d2 k = combN d0 d1 d2 (k + 1)
  · rw [decide_eq_true h, h]
    exact underB_all fun j _ => Int.le_refl _
  · rw [decide_eq_false h]
    refine underB_not (j := 0) (by decide) ?_
    show digSum (combN d0 d1 d2 (k + 1)) 1 < digSum (combN d0 d1 d2 k) 1
    obtain ⟨a0, a1, a2, a3⟩ := combN_digs d0 d1 d2 (k + 1)
    obtain ⟨b0, b1, b2, b3⟩ := combN_digs d0 d1 d2 k
    have c0 := combX_mono d0 d1 d2 k 0
    have c1 := combX_mono d0 d1 d2 k 1
    have c2 := combX_mono d0 d1 d2 k 2
    have c3 := combX_mono d0 d1 d2 k 3
    rw [digSum_eq, digSum_eq, a0, a1, a2, a3, b0, b1, b2, b3]
    simp only [Nat.div_one]
    refine Int.not_le.mp fun hle => h ?_
    rw [combN_eq, combN_eq]
    clear a0 a1 a2 a3 b0 b1 b2 b3 h
    generalize combX d0 d1 d2 k 0 = x0 at *
    generalize combX d0 d1 d2 k 1 = x1 at *
    generalize combX d0 d1 d2 k 2 = x2 at *
    generalize combX d0 d1 d2 k 3 = x3 at *
    generalize combX d0 d1 d2 (k + 1) 0 = y0 at *
    generalize combX d0 d1 d2 (k + 1) 1 = y1 at *
    generalize combX d0 d1 d2 (k + 1) 2 = y2 at *
    generalize combX d0 d1 d2 (k + 1) 3 = y3 at *
    have e0 : x0 = y0 := by omega
    have e1 : x1 = y1 := by omega
    have e2 : x2 = y2 := by omega
    have e3 : x3 = y3 := by omega
    rw [e0, e1, e2, e3]
noncomputable def stT (o tr : Nat) : List Int × Int × Int × Int := wsRead (List.replicate o 9 ++ List.replicate tr 32)
theorem stT_eq (o tr : Nat) : stT o tr = (hist (List.replicate o 0), (tr : Int), (o : Int) + tr, (o : Int)) := by
  have e : List.replicate o 9 = rowsCodes (List.replicate o 0) := by
    induction o with
    | zero => rfl
    | succ o ih => rw [List.replicate_succ, ih]; rfl
  unfold stT
  rw [e, read_lead, List.length_replicate]
  congr 3
  induction o with
  | zero => rfl
  | succ o ih => rw [List.replicate_succ, List.map_cons, List.sum_cons]; have := ih (by
      clear e ih
      induction o with
      | zero => rfl
      | succ o ih => rw [List.replicate_succ, ih]; rfl); omega
theorem stT_len (o tr : Nat) : (stT o tr).1.length ≤ 1 := by
  rw [stT_eq]
  show (hist (List.replicate o 0)).length ≤ 1
  have all : ∀ (o : Nat) (cs : List Int), cs.length ≤ 1 → ((List.replicate o 0).foldl bump cs).length ≤ 1 := by
    intro o
    induction o with
    | zero => intro cs h; exact h
    | succ o ih => intro cs h; rw [List.replicate_succ, List.foldl_cons]; exact ih _ (by rw [bump_len]; omega)
  exact all o [] (by simp)
theorem tabs_less (o0 o1 o2 : Nat) (h2 : o2 ≤ 16) : lessB (stT o0 0) (stT o1 o2) = decide (((List.range 17).filter fun (i : Nat) => decide ((1 + (i : Int)) * (o1 : Int) + (o2 : Int) ≤ (1 + (i : Int)) * (o0 : Int))) = []) := by
  have hn0 : (stT o0 0).2.2.1 = (o0 : Int) := by rw [stT_eq]; simp
  have hn1 : (stT o1 o2).2.2.1 = (o1 : Int) + o2 := by rw [stT_eq]
  have ht0 : (stT o0 0).2.2.2 = (o0 : Int) := by rw [stT_eq]
  have ht1 : (stT o1 o2).2.2.2 = (o1 : Int) := by rw [stT_eq]
  have l0 := stT_len o0 0
  have l1 := stT_len o1 o2
  have no : ∀ i : Nat, i < 17 → (1 + (i : Int)) * (o1 : Int) + (o2 : Int) ≤ (1 + (i : Int)) * (o0 : Int) → ((List.range 17).filter fun (i : Nat) => decide ((1 + (i : Int)) * (o1 : Int) + (o2 : Int) ≤ (1 + (i : Int)) * (o0 : Int))) ≠ [] := by
    intro i hi h e
    have := List.filter_eq_nil_iff.mp e i (List.mem_range.mpr hi)
    exact this (decide_eq_true h)
  by_cases h : (stT o1 o2).2.2.1 ≤ (stT o0 0).2.2.1
  · rw [lessB_n h, decide_eq_false (no 0 (by decide) (by rw [hn0, hn1] at h; omega))]
  · rw [lessB_simple h (by omega) (by omega), ht0, ht1]
    rw [hn0, hn1] at h
    by_cases h3 : (o0 : Int) ≤ o1
    · rw [decide_eq_true h3]
      refine (decide_eq_true (List.filter_eq_nil_iff.mpr fun i hi => ?_)).symm
      have := Int.mul_le_mul_of_nonneg_left h3 (show (0 : Int) ≤ (i : Int) by omega)
      simp only [decide_eq_true_eq, Int.add_mul, Int.one_mul]
      omega
    · rw [decide_eq_false h3, decide_eq_false (no 16 (by decide) (by omega))]
end Mine
end

section
open PySem PySem.W PyProof.Rows
namespace Mine
noncomputable def onesN (n : Nat) : Nat := ((List.range 16).map fun i => n / 2 ^ i % 2).sum
theorem onesN_cast (n : Nat) : (List.map (fun i => ((n / 2 ^ i % 2 : Nat) : Int)) (List.range 16)).sum = ((onesN n : Nat) : Int) := by
  unfold onesN
  generalize List.range 16 = l
  induction l with
  | nil => rfl
  | cons x r ih => rw [List.map_cons, List.sum_cons, List.map_cons, List.sum_cons, ih]; push_cast; rfl
theorem onesN_le (n : Nat) : onesN n ≤ 16 := by
  unfold onesN
  have all : ∀ l : List Nat, (l.map fun i => n / 2 ^ i % 2).sum ≤ l.length := by
    intro l
    induction l with
    | nil => exact Nat.le_refl _
    | cons x r ih => rw [List.map_cons, List.sum_cons, List.length_cons]; omega
  have := all (List.range 16)
  rw [List.length_range] at this
  exact this
theorem stT_of (o : Nat) : wsRead (Txt.mul (Str.ofString "\t") (o : Int)).cps.toList = stT o 0 := by
  unfold stT
  rw [codes_mul_tab, Int.toNat_natCast, List.replicate_zero, List.append_nil]
theorem stT_of2 (o p : Nat) : wsRead (Txt.mul (Str.ofString "\t") (o : Int) ++ Txt.mul (Str.ofString " ") (p : Int)).cps.toList = stT o p := by
  unfold stT
  rw [codes_append, codes_mul_tab, codes_mul, Int.toNat_natCast, Int.toNat_natCast]
theorem stT_sz (o : Nat) (h : o ≤ 16) : (Txt.mul (Str.ofString "\t") (o : Int)).cps.toList.length ≤ 65536 := by
  rw [codes_mul_tab, List.length_replicate]; omega
theorem stT_sz2 (o p : Nat) (h : o ≤ 16) (h' : p ≤ 16) : (Txt.mul (Str.ofString "\t") (o : Int) ++ Txt.mul (Str.ofString " ") (p : Int)).cps.toList.length ≤ 65536 := by
  rw [codes_append, codes_mul_tab, codes_mul, List.length_append, List.length_replicate, List.length_replicate]; omega
theorem stT_trl (o p : Nat) (h : p ≤ 16) : 0 ≤ (stT o p).2.1 ∧ (stT o p).2.1 ≤ 60000 := by
  rw [stT_eq]
  show (0 : Int) ≤ (p : Int) ∧ (p : Int) ≤ 60000
  omega
end Mine
end

section
open PySem PySem.W PyProof.Rows
namespace Mine
local macro_rules | `(tactic| walk_at "exec Assign cons ListComp") => `(tactic| (k_here; (fail_if_success (with_reducible show wpAny _ _ (exec (Stmt.Assign [Expr.Name (Str.ofString "cells") _] _ _) _) _ _ _)); refine Stop.intro ?_))
local macro_rules | `(tactic| walk_at "eval ListComp") => `(tactic| (k_here; (fail_if_success (with_reducible show wpAny _ _ (eval (Expr.ListComp _ [⟨Expr.Name (Str.ofString "cell") _, _, _, _⟩] _ _) _) _ _ _)); refine Stop.intro ?_))
local macro_rules | `(tactic| walk_at "call ref") => `(tactic| (k_here; refine Stop.intro ?_))
local macro_rules | `(tactic| walk_at "call type:enumerate") => `(tactic| (k_here; refine Stop.intro ?_))
local macro_rules | `(tactic| walk_at "subscriptTail Name Slice ref ref") => `(tactic| (k_here; (with_reducible show wpAny _ _ (subscriptTail _ (Expr.Slice _ _ (some _) _) _ _) _ _ _); refine Stop.intro ?_))
local macro_rules | `(tactic| walk_at "call builtin:sum") => `(tactic| (k_here; (with_reducible show wpAny _ _ (call (Value.builtin "sum") [Value.ref _]) _ _ _); k_dflt (refine' sumK ?k0 ?k1 ?k2 ?k3 ?k4 ?_; (case k0 => exact rfl); (case k1 => k_asm); (case k2 => k_asm); (case k3 => (refine' News.isList ?k5 ?k6; (case k5 => k_asm); (case k6 => k_mem))); (case k4 => assumption); k_whole); intro h' tk' t' F' N'))
local macro_rules | `(tactic| walk_at "pyIter ref") => `(tactic| (k_here; (with_reducible show wpAny _ _ (pyIter (Value.ref _)) (CompAt _ _ _ _ _ _ _ _ _ _ _ _ _) _ _); refine Stop.intro ?_))
local macro_rules | `(tactic| walk_at "exec For Tuple Call cons nil") => `(tactic| (k_here; refine Stop.intro ?_))
local macro_rules | `(tactic| walk_at "call type:zip") => `(tactic| (k_here; refine Stop.intro ?_))
local macro_rules | `(tactic| walk_at "PlTurn") => `(tactic| (dsimp only [PlTurn]))
local macro_rules | `(tactic| walk_at "PlEnd") => `(tactic| (refine Stop.intro ?_))
local macro_rules | `(tactic| k_all) => `(tactic| (refine' allNe_up ?a9 ?b9; (case a9 => assumption); (case b9 => omega)))
local macro_rules | `(tactic| walk_at "binaryOp Mult str int") => `(tactic| (k_here; (with_reducible show wpAny _ _ (binaryOp Operator.Mult (Value.str _ _) (Value.int (List.getD _ _ _) _)) _ _ _); refine Stop.intro ?_))
local macro_rules | `(tactic| walk_at "binaryOp Mult int int") => `(tactic| (k_here; refine Stop.intro ?_))
theorem news_skip1 {h₀ h : Heap} {L : Addr} {a b : Addr × Obj} {r : List (Addr × Obj)} (N : News h₀ L h (a :: b :: r)) : News h₀ L h (a :: r) := fun p hp => N p (by
  rcases List.mem_cons.mp hp with h | h
  · exact h ▸ .head _
  · exact .tail _ (.tail _ h))
noncomputable def AllAt (Pv : Nat → Value → Prop) (i : Nat) (ys : List Value) : Prop := ys.length = i ∧ ∀ j y, ys[j]? = some y → Pv j y
theorem AllAt.nil {Pv : Nat → Value → Prop} : AllAt Pv 0 [] := ⟨rfl, fun j y h => by simp at h⟩
theorem AllAt.snoc {Pv Pv' : Nat → Value → Prop} {i : Nat} {ys : List Value} {y : Value} (h : AllAt Pv i ys) (hm : ∀ j y, Pv j y → Pv' j y) (hy : Pv' i y) : AllAt Pv' (i + 1) (ys ++ [y]) := by
  obtain ⟨hl, ha⟩ := h
  refine ⟨by rw [List.length_append, List.length_singleton, hl], fun j z hj => ?_⟩
  by_cases hlt : j < ys.length
  · rw [List.getElem?_append_left hlt] at hj; exact hm _ _ (ha j z hj)
  · rw [List.getElem?_append_right (by omega)] at hj
    have e : j = ys.length := by
      cases hq : j - ys.length with
      | zero => omega
      | succ q => rw [hq] at hj; simp at hj
    subst e
    simp at hj
    subst hj
    rw [hl]; exact hy
theorem AllAt.six {Pv : Nat → Value → Prop} {ys : List Value} (h : AllAt Pv 6 ys) : ∃ a b c d e f, ys = [a, b, c, d, e, f] ∧ Pv 0 a ∧ Pv 1 b ∧ Pv 2 c ∧ Pv 3 d ∧ Pv 4 e ∧ Pv 5 f := by
  obtain ⟨hl, ha⟩ := h
  rcases ys with _ | ⟨a, _ | ⟨b, _ | ⟨c, _ | ⟨d, _ | ⟨e, _ | ⟨f, _ | _⟩⟩⟩⟩⟩⟩ <;> simp at hl
  exact ⟨a, b, c, d, e, f, rfl, ha 0 a rfl, ha 1 b rfl, ha 2 c rfl, ha 3 d rfl, ha 4 e rfl, ha 5 f rfl⟩
theorem AllAt.three {Pv : Nat → Value → Prop} {ys : List Value} (h : AllAt Pv 3 ys) : ∃ a b c, ys = [a, b, c] ∧ Pv 0 a ∧ Pv 1 b ∧ Pv 2 c := by
  obtain ⟨hl, ha⟩ := h
  rcases ys with _ | ⟨a, _ | ⟨b, _ | ⟨c, _ | _⟩⟩⟩ <;> simp at hl
  exact ⟨a, b, c, rfl, ha 0 a rfl, ha 1 b rfl, ha 2 c rfl⟩
noncomputable def numAt (l : List Nat) (j : Nat) : Nat := l.getD j 0
noncomputable def TextAt (l : List Nat) (j : Nat) (y : Value) : Prop := ∃ x t, y = .str x t ∧ x.cps.toList = codesOf (numAt l j)
theorem news_rot {h₀ h : Heap} {L : Addr} {a : Addr × Obj} {b tl : List (Addr × Obj)} (N : News h₀ L h (a :: (tl ++ b))) : News h₀ L h (a :: (b ++ tl)) := fun p hp => N p (by
  rcases List.mem_cons.mp hp with h | h
  · exact h ▸ .head _
  · rcases List.mem_append.mp h with h | h
    · exact .tail _ (List.mem_append_right _ h)
    · exact .tail _ (List.mem_append_left _ h))
theorem stN_of {x : Str} {n : Nat} (h : x.cps.toList = codesOf n) : wsRead x.cps.toList = stN n 0 := by
  unfold stN
  rw [List.replicate_zero, List.append_nil, h]
theorem news_hide {h₀ h : Heap} {L : Addr} {a b c : Addr × Obj} {r : List (Addr × Obj)} (N : News h₀ L h (a :: b :: c :: r)) : ∃ r', r' = r ∧ News h₀ L h (a :: b :: c :: r') := ⟨r, rfl, N⟩
theorem news_tail {h₀ h : Heap} {L : Addr} {A : Addr × Obj} {r : List (Addr × Obj)} (N : News h₀ L h (A :: r)) : News h₀ L h r := fun p hp => N p (.tail _ hp)
theorem mem_rot3 {α : Type} {a b c : α} {t u : List α} : ∀ p ∈ a :: b :: c :: (t ++ u), p ∈ a :: b :: c :: (u ++ t) := by
  intro p hp
  simp only [List.mem_cons, List.mem_append] at hp ⊢
  rcases hp with h | h | h | h | h
  · exact .inl h
  · exact .inr (.inl h)
  · exact .inr (.inr (.inl h))
  · exact .inr (.inr (.inr (.inr h)))
  · exact .inr (.inr (.inr (.inl h)))
theorem mem_rot1 {α : Type} {a : α} {t u : List α} : ∀ p ∈ a :: (u ++ t), p ∈ a :: (t ++ u) := by
  intro p hp
  simp only [List.mem_cons, List.mem_append] at hp ⊢
  rcases hp with h | h | h
  · exact .inl h
  · exact .inr (.inr h)
  · exact .inr (.inl h)
theorem news_up {h₀ h : Heap} {L : Addr} {t a b : List (Addr × Obj)} (N : News h₀ L h (t ++ a)) (hs : ∀ p ∈ b, p ∈ a) : News h₀ L h (t ++ b) := fun p hp => N p (by
  rcases List.mem_append.mp hp with h | h
  · exact List.mem_append_left _ h
  · exact List.mem_append_right _ (hs p h))
theorem stN_of1 {x : Str} {n : Nat} (h : x.cps.toList = codesOf n) : wsRead (x ++ Str.ofString " ").cps.toList = stN n 1 := by
  unfold stN
  rw [codes_append, codes_space, h]
  rfl
theorem len_of1 {x : Str} {n : Nat} (h : x.cps.toList = codesOf n) : (x ++ Str.ofString " ").cps.toList.length ≤ 65536 := by
  have := codesOf_len n
  rw [codes_append, codes_space, h, List.length_append, List.length_singleton]
  omega
theorem len_of {x : Str} {n : Nat} (h : x.cps.toList = codesOf n) : x.length ≤ 64 := by
  have := codesOf_len n
  rw [← str_len, h]
  exact this
theorem news_skip2 {h₀ h : Heap} {L : Addr} {a b c : Addr × Obj} {r : List (Addr × Obj)} (N : News h₀ L h (a :: b :: c :: r)) : News h₀ L h (a :: b :: r) := fun p hp => N p (by
  rcases List.mem_cons.mp hp with h | h
  · exact h ▸ .head _
  · rcases List.mem_cons.mp h with h | h
    · exact h ▸ .tail _ (.head _)
    · exact .tail _ (.tail _ (.tail _ h)))
theorem AllGt.app {d : Addr} {a b : List (Addr × Obj)} (ha : AllGt d a) (hb : AllGt d b) : AllGt d (a ++ b) := fun p hp => (List.mem_append.mp hp).elim (ha p) (hb p)
local macro_rules | `(tactic| k_mem) => `(tactic| ((with_reducible repeat (first | assumption | apply List.mem_cons_of_mem)); done))
theorem news_end {h₀ h : Heap} {L : Addr} {t a r : List (Addr × Obj)} (N : News h₀ L h (t ++ (a ++ r))) : News h₀ L h (a ++ (r ++ t)) := fun p hp => N p (by
  simp only [List.mem_append] at hp ⊢
  rcases hp with h | h | h
  · exact .inr (.inl h)
  · exact .inr (.inr h)
  · exact .inl h)
theorem news_drop {h₀ h : Heap} {L : Addr} {a : List (Addr × Obj)} {b : Addr × Obj} {r : List (Addr × Obj)} (N : News h₀ L h (a ++ b :: r)) : News h₀ L h (a ++ r) := fun p hp => N p (by
  rcases List.mem_append.mp hp with h | h
  · exact List.mem_append_left _ h
  · exact List.mem_append_right _ (List.mem_cons_of_mem _ h))
set_option maxRecDepth 100000 in
set_option maxHeartbeats 4000000 in
theorem law_holds : PySem.Challenge.rw_pg0153_03.Holds := hd (by
  w_strict (k_go0; (all_goals try k_fold); k_steps)
  unfold Stop
  refine wpAny_Assign_Name ?_
  k_dflt (refine ListComp_my (by k_asm) (by decide) (by with_unfolding_all rfl) (by rfl) (by decide) ?_ (by intro _; rfl))
  k_steps
  unfold Stop
  k_dflt (refine' enum_at (by rfl) ?F ?N ?m ?sz (by decide) (by decide) rfl rfl rfl ?R)
  case F => k_asm
  case N => k_asm
  case m => k_mem
  case sz => exact Nat.le_of_ble_eq_true rfl
  case R =>
    intro D C e it h₁ h₂ hlt he hD hC
    refine crest_ints (fun _ z => 0 ≤ z ∧ z < 65536) (by k_mem) ?_ ?_
    · intro i ys own h tk E' hi hB hoc F N off
      obtain ⟨oe, oit, oC, m₂, v, tv, rfl, hoC, hv, hma, hmb, -, -⟩ := hB
      obtain ⟨zv, tz, rfl⟩ : ∃ z t, v = .int z t := by
        rcases i with _ | _ | _ | i <;> simp at hv <;> exact ⟨_, _, hv.symm⟩
      simp only [List.cons_append, List.nil_append] at N
      clear off hoc
      rename IntsAre _ (List.map _ _) => hI9
      k_steps
      unfold Stop
      obtain ⟨ms, hms⟩ := slice_ints (lo := some (i : Int)) (hi := none) (st := some 3) hI9
      k_dflt (refine' kmk_slice3_lit ?q1 ?q2 ?q3 ?q4 ?q5 ?q6 ?q7 ?q8 ?_ ?q9 ?q10 ?q11)
      case q1 => k_asm
      case q2 => k_asm
      case q3 => exact News.isList (by k_asm) (by k_mem)
      case q4 => constructor
      case q5 => constructor
      case q6 => constructor
      case q7 => decide
      case q8 => rfl
      case q9 => with_unfolding_all rfl
      case q10 => intro _; with_unfolding_all rfl
      case q11 => (rw [List.size_toArray, hI9.length, List.length_map, sizeLine_eq]; have := List.length_take_le 12 (by assumption : List Int); omega)
      intro D7 h7 F7 N7 l7
      k_steps
      rename Fr _ _ _ _ => F8
      rename News _ _ _ _ => N8
      exact IntBack.intro F8 N8 (fun p hp => List.mem_cons_of_mem _ hp) ⟨Int.fmod_nonneg_of_pos _ (by decide), Int.fmod_lt_of_pos _ (by decide)⟩
    · intro ys zs hI hl hz
      obtain ⟨n0, n1, n2, rfl⟩ : ∃ a b c, zs = [a, b, c] := by
        rcases zs with _ | ⟨a, _ | ⟨b, _ | ⟨c, _ | _⟩⟩⟩ <;> simp at hl
        exact ⟨a, b, c, rfl⟩
      have z0 := hz 0 n0 rfl
      have z1 := hz 1 n1 rfl
      have z2 := hz 2 n2 rfl
      clear hz hl
      obtain ⟨d0, rfl⟩ : ∃ d : Nat, n0 = (d : Int) := ⟨n0.toNat, by omega⟩
      obtain ⟨d1, rfl⟩ : ∃ d : Nat, n1 = (d : Int) := ⟨n1.toNat, by omega⟩
      obtain ⟨d2, rfl⟩ : ∃ d : Nat, n2 = (d : Int) := ⟨n2.toNat, by omega⟩
      replace z0 : d0 < 65536 := by omega
      replace z1 : d1 < 65536 := by omega
      replace z2 : d2 < 65536 := by omega
      cases hI with | cons _ t0 hI => ?_
      cases hI with | cons _ t1 hI => ?_
      cases hI with | cons _ t2 hI => ?_
      cases hI
      have hltA := allLt_of hlt
      simp only [AllLt] at hltA
      have hDn : @Eq Nat D (it + 2) := hD
      intro h9 tk9 F9 N9 off9
      try dsimp only
      try k_fold
      have N9 := news_skip1 (news_skip1 (news_skip1 N9))
      have N9 := news_drop (a := [_, _, _, _, _]) N9
      simp only [List.cons_append, List.nil_append] at N9
      obtain ⟨mB, -, F9⟩ := fr_gen F9
      have g5 := hltA.2.2.2.1
      have gD := Nat.lt_trans g5 (show @LT.lt Nat _ it D by omega)
      clear off9 hlt he hD hC hltA hDn g5
      repeat (rename (_ < _ ∧ _) => hz; clear hz)
      repeat (rename (_ ≠ _ ∧ _) => hz; clear hz)
      k_steps
      unfold Stop
      refine wpAny_Assign_Name ?_
      k_dflt (refine ListComp_my (by k_asm) (by decide) (by with_unfolding_all rfl) (by rfl) (by decide) ?_ (by intro _; rfl))
      k_steps
      unfold Stop
      rename IsRange _ _ _ _ _ _ _ _ => hR1
      k_dflt (refine' range_cell (n := 16) ?p1 hR1 ?p2 ?p3 ?p4 ?p5 ?p6 ?p7 ?p8 ?p9 ?p10 ?_)
      case p1 => rfl
      case p2 => decide
      case p3 => decide
      case p4 => k_asm
      case p5 => k_asm
      case p6 => exact Nat.le_of_ble_eq_true rfl
      case p7 => rfl
      case p8 => intro k acc; rfl
      case p9 => intro h; rfl
      case p10 => rfl
      intro I1 D1 C1 h₁ h₂ hlt1 hD1 hC1
      have hD1n : @Eq Nat D1 (I1 + 1) := hD1
      have hC1n : @Eq Nat C1 (I1 + 2) := hC1
      have hlt1A := allLt_of hlt1
      simp only [AllLt] at hlt1A
      have gi := hlt1A.2.1
      have gD1 := Nat.lt_trans gi (show @LT.lt Nat _ I1 D1 by omega)
      clear hlt1
      refine crest_exact (fun i => cntAt d0 d1 d2 i) (fun p hp => nomatch hp) ?_ ?_
      · intro i ys own h tk E' hi hB hoc F N off
        obtain ⟨oI, oC, m₂, v2, rfl, hoC, hPv, -⟩ := hB
        obtain ⟨u, rfl⟩ := hPv
        rw [show (0 : Int) + (i : Int) * 1 = (i : Int) by omega] at N ⊢
        obtain ⟨oX, hoX⟩ : ∃ o, o = cellObj (some (.int (i : Int) u)) := ⟨_, rfl⟩
        rw [← hoX] at N ⊢
        have hdX : oX.data = .cell (some (.int (i : Int) u)) := by rw [hoX]
        simp only [List.cons_append, List.nil_append] at N
        clear hoc off
        k_steps
        unfold Stop
        k_dflt (refine ListComp_my (by k_asm) (by decide) (by with_unfolding_all rfl) (by rfl) (by decide) ?_ (by intro _; rfl))
        k_steps
        unfold Stop
        k_dflt (refine' list_name ?p1 ?p4 ?p5 ?p2 ?p6 ?p7 ?p8 ?p9 ?_)
        case p1 => rfl
        case p4 => k_asm
        case p5 => k_asm
        case p2 => k_mem
        case p6 => exact Nat.le_of_ble_eq_true rfl
        case p7 => rfl
        case p8 => decide
        case p9 => rfl
        intro I2 D2 C2 h₃ h₄ hlt2 hD2 hC2
        refine crest_exact (fun j => ((drAt d0 d1 d2 j / 2 ^ i % 2 : Nat) : Int)) (fun p hp => by rw [List.mem_singleton.mp hp]; k_mem) ?_ ?_
        · intro j ys2 own2 h5 tk5 E5 hj hB2 hoc2 F5 N5 off2
          obtain ⟨oI2, oC2, m₃, v3, rfl, hoC2, hPv2, hx3, -⟩ := hB2
          obtain ⟨u2, rfl⟩ : ∃ t, v3 = .int ((drAt d0 d1 d2 j : Nat) : Int) t := by
            rcases j with _ | _ | _ | j <;> simp at hPv2 <;> exact ⟨_, hPv2.symm⟩
          have hdr := drAt_lt j z0 z1 z2
          generalize hdd : drAt d0 d1 d2 j = dd at *
          simp only [List.cons_append, List.nil_append] at N5
          clear hoc2 off2
          k_steps
          rename Fr _ _ _ _ => F7
          rename News _ _ _ _ => N7
          refine IntBack.intro F7 N7 (fun p hp => hp) ?_
          exact bit_eq dd _
        · intro ys2 hS2
          intro h9 tk9 F9 N9 off9
          try dsimp only
          try k_fold
          k_steps
          rename Fr _ _ _ _ => F7
          rename News _ _ _ _ => N7
          refine IntBack.intro F7 N7 (fun p hp => List.mem_cons_of_mem _ hp) ?_
          rfl
      · intro ysC hSC
        clear hlt1A hD1 hC1 hD1n hC1n gi
        intro h9 tk9 F9 N9 off9
        try dsimp only
        try k_fold
        clear off9
        k_steps
        unfold Stop
        k_dflt (refine Assign_ListComp_my (by k_asm) (by decide) (by rfl) (by with_unfolding_all rfl) (by with_unfolding_all rfl) (by rfl) (by decide) (by rfl) (by rfl) ?_ (by intro _; rfl))
        k_steps
        unfold Stop
        rename IsRange _ _ _ _ _ _ _ _ => hR3
        k_dflt (refine' range_cell (n := 3) ?p1 hR3 ?p2 ?p3 ?p4 ?p5 ?p6 ?p7 ?p8 ?p9 ?p10 ?_)
        case p1 => rfl
        case p2 => decide
        case p3 => decide
        case p4 => k_asm
        case p5 => k_asm
        case p6 => exact Nat.le_of_ble_eq_true rfl
        case p7 => rfl
        case p8 => intro k acc; rfl
        case p9 => intro h; rfl
        case p10 => rfl
        intro I3 D3 C3 h₁ h₂ hlt3 hD3 hC3
        have hD3n : @Eq Nat D3 (I3 + 1) := hD3
        have hC3n : @Eq Nat C3 (I3 + 2) := hC3
        have hlt3A := allLt_of hlt3
        simp only [AllLt] at hlt3A
        have gi := hlt3A.2.2.1
        have gD3 := Nat.lt_trans gi (show @LT.lt Nat _ I3 D3 by omega)
        clear hlt3
        refine crest_exact (fun k => ((combN d0 d1 d2 k : Nat) : Int)) (fun p hp => nomatch hp) ?_ ?_
        · intro i ys own h tk E' hi hB hoc F N off
          obtain ⟨oI, oC, m₂, v2, rfl, hoC, hPv, -⟩ := hB
          obtain ⟨u, rfl⟩ := hPv
          rw [show (1 : Int) + (i : Int) * 1 = ((i + 1 : Nat) : Int) by omega] at N ⊢
          obtain ⟨oX, hoX⟩ : ∃ o, o = cellObj (some (.int ((i + 1 : Nat) : Int) u)) := ⟨_, rfl⟩
          rw [← hoX] at N ⊢
          have hdX : oX.data = .cell (some (.int ((i + 1 : Nat) : Int) u)) := by rw [hoX]
          simp only [List.cons_append, List.nil_append] at N
          clear hoc off
          k_steps
          unfold Stop
          k_dflt (refine ListComp_my (by k_asm) (by decide) (by with_unfolding_all rfl) (by rfl) (by decide) ?_ (by intro _; rfl))
          k_steps
          unfold Stop
          rename IsRange _ _ _ _ _ _ _ _ => hR4
          k_dflt (refine' range_name (n := 16) ?p1 hR4 ?p2 ?p3 ?p4 ?p5 ?p6 ?p7 ?p8 ?p9 ?_)
          case p1 => rfl
          case p2 => decide
          case p3 => decide
          case p4 => k_asm
          case p5 => k_asm
          case p6 => exact Nat.le_of_ble_eq_true rfl
          case p7 => rfl
          case p8 => decide
          case p9 => rfl
          intro I4 D4 C4 h₃ h₄ hlt4 hD4 hC4
          refine crest_if (fun j => ((2 ^ j : Nat) : Int)) (fun j => decide (((i + 1 : Nat) : Int) ≤ cntAt d0 d1 d2 j)) (fun p hp => nomatch hp) ?_ ?_ ?_
          · intro j ys2 own2 h5 tk5 E5 hj hB2 hoc2 F5 N5 off2
            obtain ⟨oI2, oC2, m₃, v3, rfl, hoC2, hPv2, hx3, -⟩ := hB2
            obtain ⟨u2, rfl⟩ := hPv2
            rw [show (0 : Int) + (j : Int) * 1 = (j : Int) by omega] at hx3
            simp only [List.cons_append, List.nil_append] at N5
            clear hoc2 off2
            k_steps
            rename Fr _ _ _ _ => F7
            rename News _ _ _ _ => N7
            refine BoolBack.intro F7 N7 (fun p hp => hp) ?_
            rw [cnt_get hj]
          · intro j ys2 own2 h5 tk5 E5 hj hpj hB2 hoc2 F5 N5 off2
            obtain ⟨oI2, oC2, m₃, v3, rfl, hoC2, hPv2, hx3, -⟩ := hB2
            obtain ⟨u2, rfl⟩ := hPv2
            rw [show (0 : Int) + (j : Int) * 1 = (j : Int) by omega] at hx3
            simp only [List.cons_append, List.nil_append] at N5
            clear hoc2 off2
            k_steps
            rename Fr _ _ _ _ => F7
            rename News _ _ _ _ => N7
            refine IntBack.intro F7 N7 (fun p hp => hp) ?_
            show (2 : Int) ^ (j : Int).toNat = ((2 ^ j : Nat) : Int)
            rw [Int.toNat_natCast]; push_cast; rfl
          · intro ys2 hS2
            intro h9 tk9 F9 N9 off9
            try dsimp only
            try k_fold
            k_steps
            rename Fr _ _ _ _ => F7
            rename News _ _ _ _ => N7
            refine IntBack.intro F7 N7 (fun p hp => List.mem_cons_of_mem _ hp) ?_
            exact comb_sum d0 d1 d2 i
        · intro ysB hSB
          clear hlt3A hD3 hC3 hD3n hC3n gi
          intro h9 tk9 F9 N9 off9
          try dsimp only
          try k_fold
          have N9 := news_drop (a := [_, _, _, _]) (news_skip1 N9)
          simp only [List.cons_append, List.nil_append] at N9
          clear off9
          obtain ⟨c0, hc0⟩ : ∃ c, combN d0 d1 d2 0 = c := ⟨_, rfl⟩
          obtain ⟨c1, hc1⟩ : ∃ c, combN d0 d1 d2 1 = c := ⟨_, rfl⟩
          obtain ⟨c2, hc2⟩ : ∃ c, combN d0 d1 d2 2 = c := ⟨_, rfl⟩
          have y0 := combN_lt d0 d1 d2 0
          have y1 := combN_lt d0 d1 d2 1
          have y2 := combN_lt d0 d1 d2 2
          replace hSB : IntsAre ysB [((combN d0 d1 d2 0 : Nat) : Int), ((combN d0 d1 d2 1 : Nat) : Int), ((combN d0 d1 d2 2 : Nat) : Int)] := hSB
          have q1 := chain_up d0 d1 d2 1
          have q2 := chain_up d0 d1 d2 0
          have q3 := chain_down d0 d1 d2 0
          rw [show 1 + 1 = 2 by decide] at q1
          rw [show 0 + 1 = 1 by decide] at q2 q3
          rw [hc0, hc1, hc2] at hSB
          rw [hc0] at y0 q2 q3
          rw [hc1] at y1 q1 q2 q3
          rw [hc2] at y2 q1
          clear hc0 hc1 hc2
          cases hSB with | cons _ s0 hSB => ?_
          cases hSB with | cons _ s1 hSB => ?_
          cases hSB with | cons _ s2 hSB => ?_
          cases hSB
          have hnum : ∀ j, numAt [d0, d1, d2, c0, c1, c2] j < 65536 := by
            intro j
            unfold numAt
            rcases j with _ | _ | _ | _ | _ | _ | j <;> simp <;> omega
          k_steps
          unfold Stop
          refine wpAny_Assign_Name ?_
          k_dflt (refine ListComp_my (by k_asm) (by decide) (by with_unfolding_all rfl) (by rfl) (by decide) ?_ (by intro _; rfl))
          k_steps
          unfold Stop
          rename News _ _ _ _ => N5
          k_dflt (refine' list_name ?p1 ?p4 N5 List.mem_cons_self ?p6 ?p7 ?p8 ?p9 ?_)
          case p1 => rfl
          case p4 => k_asm
          case p6 => exact Nat.le_of_ble_eq_true rfl
          case p7 => rfl
          case p8 => decide
          case p9 => rfl
          intro I5 D5 C5 h₁ h₂ hlt5 hD5 hC5
          have hD5n : @Eq Nat D5 (I5 + 1) := hD5
          have hC5n : @Eq Nat C5 (I5 + 2) := hC5
          have hlt5A := allLt_of hlt5
          simp only [AllLt] at hlt5A
          have gi := hlt5A.2.2.2.1
          have gD5 := Nat.lt_trans gi (show @LT.lt Nat _ I5 D5 by omega)
          clear hlt5
          refine crest_vals (fun i ys => AllAt (TextAt [d0, d1, d2, c0, c1, c2]) i ys) (fun p hp => by rw [List.mem_singleton.mp hp]; exact List.mem_cons_self) AllAt.nil ?_ ?_
          · intro i ys own h tk E' hi hJ hB hoc F N off
            obtain ⟨oI, oC, m₂, v2, rfl, hoC, hPv, hx2, -⟩ := hB
            obtain ⟨u, rfl⟩ : ∃ t, v2 = .int ((numAt [d0, d1, d2, c0, c1, c2] i : Nat) : Int) t := by
              rcases i with _ | _ | _ | _ | _ | _ | i <;> simp at hPv <;> exact ⟨_, hPv.symm⟩
            have hnum1 := hnum i
            generalize hnn : numAt [d0, d1, d2, c0, c1, c2] i = nn at *
            simp only [List.cons_append, List.nil_append] at N
            clear hoc off
            k_steps
            unfold Stop
            k_dflt (refine' Does.use (lawtext _ _ _ _ _ _ nn _ hnum1) ?q1 ?q2 ?q3 ?q4 ?q5 ?q6 ?q7 ?q8 ?_)
            case q1 => k_asm
            case q2 => k_asm
            case q3 => k_asm
            case q4 => k_asm
            case q5 => k_asm
            case q6 => exact rfl
            case q7 => ktr_room
            case q8 => ktr_units
            intro r5 h5 tk5 tl5 F5 N5 ho5 hP5
            obtain ⟨x5, t5, e5, hx5⟩ := hP5
            subst e5
            try dsimp only
            try k_fold
            k_steps
            refine KeepBack.intro F5 N5 (fun p hp => List.mem_append_right _ hp) ?_
            exact hJ.snoc (fun _ _ h => h) ⟨_, _, rfl, by rw [hnn]; exact hx5⟩
          · intro ysT hAT
            clear hlt5A hD5 hC5 hD5n hC5n gi
            repeat (rename (_ < _ ∧ _) => hz; clear hz)
            repeat (rename (_ ≠ _ ∧ _) => hz; clear hz)
            intro h9 tk9 F9 N9 off9
            try dsimp only
            try k_fold
            have N9 := news_skip1 N9
            clear off9
            replace hAT : AllAt (TextAt [d0, d1, d2, c0, c1, c2]) 6 ysT := hAT
            obtain ⟨e0, e1, e2, e3, e4, e5, rfl, ht0, ht1, ht2, ht3, ht4, ht5⟩ := hAT.six
            clear hAT
            obtain ⟨x0, u0, rfl, hx0⟩ := ht0
            obtain ⟨x1, u1, rfl, hx1⟩ := ht1
            obtain ⟨x2, u2, rfl, hx2⟩ := ht2
            obtain ⟨x3, u3, rfl, hx3⟩ := ht3
            obtain ⟨x4, u4, rfl, hx4⟩ := ht4
            obtain ⟨x5, u5, rfl, hx5⟩ := ht5
            replace hx0 : x0.cps.toList = codesOf d0 := hx0
            replace hx1 : x1.cps.toList = codesOf d1 := hx1
            replace hx2 : x2.cps.toList = codesOf d2 := hx2
            replace hx3 : x3.cps.toList = codesOf c0 := hx3
            replace hx4 : x4.cps.toList = codesOf c1 := hx4
            replace hx5 : x5.cps.toList = codesOf c2 := hx5
            k_steps
            unfold Stop
            k_dflt (refine Assign_ListComp_my (by k_asm) (by decide) (by rfl) (by with_unfolding_all rfl) (by with_unfolding_all rfl) (by rfl) (by decide) (by rfl) (by rfl) ?_ (by intro _; rfl))
            k_steps
            unfold Stop
            rename News _ _ _ _ => N6
            rename World => w0
            k_dflt (refine' list_name ?p1 ?p4 N6 List.mem_cons_self ?p6 ?p7 ?p8 ?p9 ?_)
            case p1 => rfl
            case p4 => k_asm
            case p6 => exact Nat.le_of_ble_eq_true rfl
            case p7 => rfl
            case p8 => decide
            case p9 => rfl
            intro I6 D6 C6 h₁ h₂ hlt6 hD6 hC6
            have hD6n : @Eq Nat D6 (I6 + 1) := hD6
            have hC6n : @Eq Nat C6 (I6 + 2) := hC6
            have hlt6A := allLt_of hlt6
            simp only [AllLt] at hlt6A
            have gi := hlt6A.2.2.2.1
            have gD6 := Nat.lt_trans gi (show @LT.lt Nat _ I6 D6 by omega)
            clear hlt6
            refine crest_tail (fun i ys tl => AllAt (fun j y => LeadIn w0.params 83 tl y (stN (numAt [d0, d1, d2, c0, c1, c2] j) 0)) i ys) (fun p hp => by rw [List.mem_singleton.mp hp]; exact List.mem_cons_self)
              (fun tl hS p hp => List.mem_append_right _ (hS p hp)) AllAt.nil nml_cov ?_ ?_
            · intro i ys tl own h tk E' hi hJ hB hoc F N hord
              obtain ⟨oI, oC, m₂, v2, rfl, hoC, hPv, hx2, -⟩ := hB
              obtain ⟨xx, u, rfl, hxx⟩ : ∃ x t, v2 = .str x t ∧ x.cps.toList = codesOf (numAt [d0, d1, d2, c0, c1, c2] i) := by
                rcases i with _ | _ | _ | _ | _ | _ | i <;> simp at hPv <;> exact ⟨_, _, hPv.symm, by assumption⟩
              have hsz : xx.cps.toList.length ≤ 65536 := by
                have := codesOf_len (numAt [d0, d1, d2, c0, c1, c2] i)
                rw [hxx]; omega
              simp only [List.cons_append, List.nil_append] at N
              obtain ⟨rest, hrest, N⟩ := news_hide N
              clear hoc hord
              k_steps
              unfold Stop
              k_dflt (refine' Does.use (wsnew _ _ _ _ _ _ xx _ hsz) ?q1 ?q2 ?q3 ?q4 ?q5 ?q6 ?q7 ?q8 ?_)
              case q1 => k_asm
              case q2 => k_asm
              case q3 => k_asm
              case q4 => k_asm
              case q5 => k_asm
              case q6 => exact rfl
              case q7 => ktr_room
              case q8 => ktr_units
              intro r5 h5 tk5 tl5 F5 N5 ho5 hP5
              try dsimp only
              try k_fold
              subst hrest
              refine TailBack.intro tl5 F5 N5 ho5 ?_
              refine hJ.snoc (fun j y h => h.mono fun p hp => List.mem_append_right _ hp) ?_
              rw [stN_of hxx] at hP5
              exact hP5.mono fun p hp => List.mem_append_left _ hp
            · intro ysL tl hAL hord
              clear hlt6A hD6 hC6 hD6n hC6n gi
              have hgt : AllGt D5 tl := fun p hp => hord _ List.mem_cons_self p hp
              clear hord
              intro h9 tk9 F9 N9 off9
              replace hAL : AllAt (fun j y => LeadIn w0.params 83 tl y (stN (numAt [d0, d1, d2, c0, c1, c2] j) 0)) 6 ysL := hAL
              obtain ⟨lv0, lv1, lv2, lv3, lv4, lv5, rfl, hl0, hl1, hl2, hl3, hl4, hl5⟩ := hAL.six
              clear hAL
              replace hl0 : LeadIn w0.params 83 tl lv0 (stN d0 0) := hl0
              replace hl1 : LeadIn w0.params 83 tl lv1 (stN d1 0) := hl1
              replace hl2 : LeadIn w0.params 83 tl lv2 (stN d2 0) := hl2
              replace hl3 : LeadIn w0.params 83 tl lv3 (stN c0 0) := hl3
              replace hl4 : LeadIn w0.params 83 tl lv4 (stN c1 0) := hl4
              replace hl5 : LeadIn w0.params 83 tl lv5 (stN c2 0) := hl5
              have N9 := news_rot N9
              simp only [List.cons_append, List.nil_append] at N9
              clear off9
              try dsimp only
              try k_fold
              k_steps
              unfold Stop
              rename Fr _ _ _ _ => F8
              (with_unfolding_all refine' For_turns F8 ?_; k_whole)
              k_steps
              unfold Stop
              rename Fr _ _ _ _ => F9
              rename News _ _ _ _ => N9
              obtain ⟨m9, hm9, F9⟩ := fr_gen F9
              with_unfolding_all
               refine' turns_zip [Str.ofString "value", Str.ofString "lead"] (by rfl) F9 N9 List.mem_cons_self (by rfl) (by rfl) (by k_mem) (by rfl) (by rfl) ?_ ?_
              · subst hm9
                intro x y T u own h10 tk10 hxy hT F10 N10
                obtain ⟨nn, tt, rfl, hn, hy⟩ : ∃ n t, x = .int ((n : Nat) : Int) t ∧ n < 65536 ∧ LeadIn w0.params 83 tl y (stN n 0) := by
                  simp only [List.zip_cons_cons, List.zip_nil_right, List.mem_cons, Prod.mk.injEq, List.not_mem_nil, or_false] at hxy
                  rcases hxy with ⟨rfl, rfl⟩ | ⟨rfl, rfl⟩ | ⟨rfl, rfl⟩ | ⟨rfl, rfl⟩ | ⟨rfl, rfl⟩ | ⟨rfl, rfl⟩
                  · exact ⟨d0, _, rfl, z0, hl0⟩
                  · exact ⟨d1, _, rfl, z1, hl1⟩
                  · exact ⟨d2, _, rfl, z2, hl2⟩
                  · exact ⟨c0, _, rfl, y0, hl3⟩
                  · exact ⟨c1, _, rfl, y1, hl4⟩
                  · exact ⟨c2, _, rfl, y2, hl5⟩
                clear hxy
                dsimp only [kstB] at F10
                simp only [List.cons_append] at N10
                try dsimp only at N10
                obtain ⟨rest, hrest⟩ : ∃ rest, rest = tl ++ own := ⟨_, rfl⟩
                have hL : LeadIn w0.params 83 (tl ++ own) y (stN nn 0) := hy.mono fun p hp => List.mem_append_left _ hp
                rw [← hrest] at N10 hL
                k_steps
                unfold Stop
                k_dflt (refine' Does.use (lawtold _ _ _ _ _ _ _ (stN nn 0) nn _ hn ?qL (stN_len nn 0 (by decide)) (told_all nn)) ?q1 ?q2 ?q3 ?q4 ?q5 ?q6 ?q7 ?q8 ?_)
                case q1 => k_asm
                case q2 => k_asm
                case q3 => k_asm
                case q4 => k_asm
                case q5 => k_asm
                case q6 => exact rfl
                case q7 => ktr_room
                case q8 => ktr_units
                case qL => exact hL.mono fun _ hp => by (repeat (first | exact hp | apply List.mem_cons_of_mem))
                intro r8 h8 tk8 tl8 F8 N8 ho8 hP8
                subst hP8
                have N8 := news_right N8
                clear ho8
                try dsimp only
                try k_fold
                k_steps
                unfold Stop
                rename Fr _ _ _ _ => F7
                rename News _ _ _ _ => N7
                subst hrest
                exact PlEnd.intro F7 N7 (fun p hp => hp) (by kst_same)
              · subst hm9
                intro u h10 tk10 F10 N10
                try dsimp only at N10
                dsimp only [kstB] at F10
                have N10 := news_tail N10
                k_steps
                unfold Stop
                refine Assign_Tuple ?_
                k_dflt (refine ListComp_my (by k_asm) (by decide) (by with_unfolding_all rfl) (by rfl) (by decide) ?_ (by intro _; rfl))
                k_steps
                unfold Stop
                rename News _ _ _ _ => N5
                k_dflt (refine' tuple_name ?p1 ?p4 N5 List.mem_cons_self ?p6 ?p7 ?p8 ?p9 ?_)
                case p1 => rfl
                case p4 => k_asm
                case p6 => exact Nat.le_of_ble_eq_true rfl
                case p7 => rfl
                case p8 => decide
                case p9 => rfl
                intro I7 D7 C7 h₁ h₂ hlt7 hD7 hC7
                have hD7n : @Eq Nat D7 (I7 + 1) := hD7
                have hC7n : @Eq Nat C7 (I7 + 2) := hC7
                have hlt7A := allLt_of hlt7
                simp only [AllLt] at hlt7A
                have gi := hlt7A.2.2.2.2.2.1
                have gD7 := Nat.lt_trans gi (show @LT.lt Nat _ I7 D7 by omega)
                clear hlt7
                refine crest_tail (fun i ys tl' => AllAt (fun j y => LeadIn w0.params 83 tl' y (stN (numAt [d1, c1, c0] j) 1)) i ys) (fun p hp => by rw [List.mem_singleton.mp hp]; exact List.mem_cons_self)
                  (fun tl hS p hp => List.mem_append_right _ (hS p hp)) AllAt.nil nml_cov ?_ ?_
                · intro i ys tl' own h tk E' hi hJ hB hoc F N hord
                  obtain ⟨oI, oC, m₂, v2, rfl, hoC, hPv, hx2', -⟩ := hB
                  simp only [List.cons_append, List.nil_append] at N
                  have N := news_in N (fun p hp => mem_rot3 p hp)
                  simp only [List.cons_append] at N
                  obtain ⟨rest, hrest⟩ : ∃ rest, rest = tl ++ tl' := ⟨_, rfl⟩
                  rw [← hrest] at N
                  clear hoc hord
                  rcases i with _ | _ | _ | i
                  · simp at hPv
                    subst hPv
                    have hsz := len_of1 hx1
                    have hxl := len_of hx1
                    k_steps
                    unfold Stop
                    k_dflt (refine' Does.use (wsnew _ _ _ _ _ _ _ _ hsz) ?q1 ?q2 ?q3 ?q4 ?q5 ?q6 ?q7 ?q8 ?_)
                    case q1 => k_asm
                    case q2 => k_asm
                    case q3 => k_asm
                    case q4 => k_asm
                    case q5 => k_asm
                    case q6 => exact rfl
                    case q7 => ktr_room
                    case q8 => ktr_units
                    intro r5 h5 tk5 tl5 F5 N5 ho5 hP5
                    try dsimp only
                    try k_fold
                    subst hrest
                    refine TailBack.intro tl5 F5 (news_up N5 mem_rot3) (fun q hq => ho5 q (mem_rot3 q hq)) ?_
                    refine hJ.snoc (fun j y h => h.mono fun p hp => List.mem_append_right _ hp) ?_
                    rw [stN_of1 hx1] at hP5
                    exact hP5.mono fun p hp => List.mem_append_left _ hp
                  · simp at hPv
                    subst hPv
                    have hsz := len_of1 hx4
                    have hxl := len_of hx4
                    k_steps
                    unfold Stop
                    k_dflt (refine' Does.use (wsnew _ _ _ _ _ _ _ _ hsz) ?q1 ?q2 ?q3 ?q4 ?q5 ?q6 ?q7 ?q8 ?_)
                    case q1 => k_asm
                    case q2 => k_asm
                    case q3 => k_asm
                    case q4 => k_asm
                    case q5 => k_asm
                    case q6 => exact rfl
                    case q7 => ktr_room
                    case q8 => ktr_units
                    intro r5 h5 tk5 tl5 F5 N5 ho5 hP5
                    try dsimp only
                    try k_fold
                    subst hrest
                    refine TailBack.intro tl5 F5 (news_up N5 mem_rot3) (fun q hq => ho5 q (mem_rot3 q hq)) ?_
                    refine hJ.snoc (fun j y h => h.mono fun p hp => List.mem_append_right _ hp) ?_
                    rw [stN_of1 hx4] at hP5
                    exact hP5.mono fun p hp => List.mem_append_left _ hp
                  · simp at hPv
                    subst hPv
                    have hsz := len_of1 hx3
                    have hxl := len_of hx3
                    k_steps
                    unfold Stop
                    k_dflt (refine' Does.use (wsnew _ _ _ _ _ _ _ _ hsz) ?q1 ?q2 ?q3 ?q4 ?q5 ?q6 ?q7 ?q8 ?_)
                    case q1 => k_asm
                    case q2 => k_asm
                    case q3 => k_asm
                    case q4 => k_asm
                    case q5 => k_asm
                    case q6 => exact rfl
                    case q7 => ktr_room
                    case q8 => ktr_units
                    intro r5 h5 tk5 tl5 F5 N5 ho5 hP5
                    try dsimp only
                    try k_fold
                    subst hrest
                    refine TailBack.intro tl5 F5 (news_up N5 mem_rot3) (fun q hq => ho5 q (mem_rot3 q hq)) ?_
                    refine hJ.snoc (fun j y h => h.mono fun p hp => List.mem_append_right _ hp) ?_
                    rw [stN_of1 hx3] at hP5
                    exact hP5.mono fun p hp => List.mem_append_left _ hp
                  · exact absurd hi (by simp)
                · intro ysL tl' hAL hord
                  clear hlt7A hD7 hC7 hD7n hC7n gi
                  repeat (rename (_ < _ ∧ _) => hz; clear hz)
                  repeat (rename (_ ≠ _ ∧ _) => hz; clear hz)
                  have hgt' : AllGt D5 tl' := fun p hp => hord (D5, _) (.tail _ (.tail _ (.head _))) p hp
                  clear hord
                  intro h9 tk9 F9 N9 off9
                  clear off9
                  replace hAL : AllAt (fun j y => LeadIn w0.params 83 tl' y (stN (numAt [d1, c1, c0] j) 1)) 3 ysL := hAL
                  obtain ⟨sv1, sv2, sv3, rfl, hs1, hs2, hs3⟩ := hAL.three
                  clear hAL
                  replace hs1 : LeadIn w0.params 83 tl' sv1 (stN d1 1) := hs1
                  replace hs2 : LeadIn w0.params 83 tl' sv2 (stN c1 1) := hs2
                  replace hs3 : LeadIn w0.params 83 tl' sv3 (stN c0 1) := hs3
                  have N9 := news_in N9 (fun p hp => mem_rot1 p hp)
                  simp only [List.cons_append] at N9
                  have N9 := news_drop (a := [_, _, _, _, _]) (news_skip2 (news_skip1 N9))
                  simp only [List.cons_append, List.nil_append] at N9
                  obtain ⟨rest, hrest⟩ : ∃ rest, rest = tl ++ tl' := ⟨_, rfl⟩
                  have hgtR : AllGt D5 rest := by rw [hrest]; exact hgt.app hgt'
                  have mA : ∀ p ∈ tl, p ∈ rest := fun p hp => by rw [hrest]; exact List.mem_append_left _ hp
                  have mB : ∀ p ∈ tl', p ∈ rest := fun p hp => by rw [hrest]; exact List.mem_append_right _ hp
                  rw [← hrest] at N9
                  have hL0 := hl0.mono mA
                  have hL1 := hl1.mono mA
                  have hL3 := hl3.mono mA
                  have hL4 := hl4.mono mA
                  have hL5 := hl5.mono mA
                  have hS1 := hs1.mono mB
                  have hS2 := hs2.mono mB
                  have hS3 := hs3.mono mB
                  clear hl0 hl1 hl2 hl3 hl4 hl5 hs1 hs2 hs3 hgt hgt' mA mB
                  clear hrest
                  have hL0' := hL0
                  have hL3' := hL3
                  have hL4' := hL4
                  have hL5' := hL5
                  obtain ⟨a0, ad0, aT0, ac0, av0, ar0, b00, b01, b02, b03, k00, k01, k02, k03, k04, aep0, rfl, m00, m01, m02, m03, -⟩ := hL0'
                  obtain ⟨a3, ad3, aT3, ac3, av3, ar3, b30, b31, b32, b33, k30, k31, k32, k33, k34, aep3, rfl, m30, m31, m32, m33, -⟩ := hL3'
                  obtain ⟨a4, ad4, aT4, ac4, av4, ar4, b40, b41, b42, b43, k40, k41, k42, k43, k44, aep4, rfl, m40, m41, m42, m43, -⟩ := hL4'
                  obtain ⟨a5, ad5, aT5, ac5, av5, ar5, b50, b51, b52, b53, k50, k51, k52, k53, k54, aep5, rfl, m50, m51, m52, m53, -⟩ := hL5'
                  clear m02 m03 m32 m33 m42 m43 m52 m53
                  try dsimp only
                  try k_fold
                  k_steps
                  unfold Stop
                  k_dflt (refine' Does.use (lessc _ _ _ _ _ _ _ _ (stN c2 0) (stN c1 1) ?qL ?qM (stN_len _ _ (by decide)) (stN_len _ _ (by decide)) (stN_tr _ _ (by decide)) (stN_tr _ _ (by decide))) ?q1 ?q2 ?q3 ?q4 ?q5 ?q6 ?q7 ?q8 ?_)
                  case q1 => k_asm
                  case q2 => k_asm
                  case q3 => k_asm
                  case q4 => k_asm
                  case q5 => k_asm
                  case q6 => exact rfl
                  case q7 => ktr_room
                  case q8 => ktr_units
                  case qL => exact hL5.mono fun _ hp => by (repeat (first | exact hp | apply List.mem_cons_of_mem))
                  case qM => exact hS2.mono fun _ hp => by (repeat (first | exact hp | apply List.mem_cons_of_mem))
                  intro r8 h8 tk8 tl8 F8 N8 ho8 hP8
                  rw [q1] at hP8
                  subst hP8
                  have N8 := news_right N8
                  clear ho8
                  try dsimp only
                  try k_fold
                  k_steps
                  unfold Stop
                  k_dflt (refine' Does.use (lessc _ _ _ _ _ _ _ _ (stN c1 0) (stN c0 1) ?qL ?qM (stN_len _ _ (by decide)) (stN_len _ _ (by decide)) (stN_tr _ _ (by decide)) (stN_tr _ _ (by decide))) ?q1 ?q2 ?q3 ?q4 ?q5 ?q6 ?q7 ?q8 ?_)
                  case q1 => k_asm
                  case q2 => k_asm
                  case q3 => k_asm
                  case q4 => k_asm
                  case q5 => k_asm
                  case q6 => exact rfl
                  case q7 => ktr_room
                  case q8 => ktr_units
                  case qL => exact hL4.mono fun _ hp => by (repeat (first | exact hp | apply List.mem_cons_of_mem))
                  case qM => exact hS3.mono fun _ hp => by (repeat (first | exact hp | apply List.mem_cons_of_mem))
                  intro r8 h8 tk8 tl8 F8 N8 ho8 hP8
                  rw [q2] at hP8
                  subst hP8
                  have N8 := news_right N8
                  clear ho8
                  try dsimp only
                  try k_fold
                  k_steps
                  unfold Stop
                  k_dflt (refine' Does.use (lessc _ _ _ _ _ _ _ _ (stN c0 0) (stN c1 1) ?qL ?qM (stN_len _ _ (by decide)) (stN_len _ _ (by decide)) (stN_tr _ _ (by decide)) (stN_tr _ _ (by decide))) ?q1 ?q2 ?q3 ?q4 ?q5 ?q6 ?q7 ?q8 ?_)
                  case q1 => k_asm
                  case q2 => k_asm
                  case q3 => k_asm
                  case q4 => k_asm
                  case q5 => k_asm
                  case q6 => exact rfl
                  case q7 => ktr_room
                  case q8 => ktr_units
                  case qL => exact hL3.mono fun _ hp => by (repeat (first | exact hp | apply List.mem_cons_of_mem))
                  case qM => exact hS2.mono fun _ hp => by (repeat (first | exact hp | apply List.mem_cons_of_mem))
                  intro r8 h8 tk8 tl8 F8 N8 ho8 hP8
                  rw [q3] at hP8
                  subst hP8
                  have N8 := news_right N8
                  clear ho8
                  try dsimp only
                  try k_fold
                  k_steps
                  unfold Stop
                  rename News _ _ _ _ => N8
                  have N8 := news_skip1 (news_tail (news_tail (news_tail N8)))
                  k_dflt (refine' Does.use (lessc _ _ _ _ _ _ _ _ (stN c2 0) (stN c1 0) ?qL ?qM (stN_len _ _ (by decide)) (stN_len _ _ (by decide)) (stN_tr _ _ (by decide)) (stN_tr _ _ (by decide))) ?q1 ?q2 ?q3 ?q4 ?q5 ?q6 ?q7 ?q8 ?_)
                  case q1 => k_asm
                  case q2 => k_asm
                  case q3 => k_asm
                  case q4 => k_asm
                  case q5 => k_asm
                  case q6 => exact rfl
                  case q7 => ktr_room
                  case q8 => ktr_units
                  case qL => exact hL5.mono fun _ hp => by (repeat (first | exact hp | apply List.mem_cons_of_mem))
                  case qM => exact hL4.mono fun _ hp => by (repeat (first | exact hp | apply List.mem_cons_of_mem))
                  intro r8 h8 tk8 tl8 F8 N8 ho8 hP8
                  rw [less_plain] at hP8
                  subst hP8
                  have N8 := news_right N8
                  clear ho8
                  try dsimp only
                  try k_fold
                  k_steps
                  unfold Stop
                  k_dflt (refine' Does.use (lessc _ _ _ _ _ _ _ _ (stN c1 0) (stN c0 0) ?qL ?qM (stN_len _ _ (by decide)) (stN_len _ _ (by decide)) (stN_tr _ _ (by decide)) (stN_tr _ _ (by decide))) ?q1 ?q2 ?q3 ?q4 ?q5 ?q6 ?q7 ?q8 ?_)
                  case q1 => k_asm
                  case q2 => k_asm
                  case q3 => k_asm
                  case q4 => k_asm
                  case q5 => k_asm
                  case q6 => exact rfl
                  case q7 => ktr_room
                  case q8 => ktr_units
                  case qL => exact hL4.mono fun _ hp => by (repeat (first | exact hp | apply List.mem_cons_of_mem))
                  case qM => exact hL3.mono fun _ hp => by (repeat (first | exact hp | apply List.mem_cons_of_mem))
                  intro r8 h8 tk8 tl8 F8 N8 ho8 hP8
                  rw [less_plain] at hP8
                  subst hP8
                  have N8 := news_right N8
                  clear ho8
                  try dsimp only
                  try k_fold
                  k_steps
                  unfold Stop
                  k_dflt (refine' Does.use (lessc _ _ _ _ _ _ _ _ (stN d0 0) (stN d1 0) ?qL ?qM (stN_len _ _ (by decide)) (stN_len _ _ (by decide)) (stN_tr _ _ (by decide)) (stN_tr _ _ (by decide))) ?q1 ?q2 ?q3 ?q4 ?q5 ?q6 ?q7 ?q8 ?_)
                  case q1 => k_asm
                  case q2 => k_asm
                  case q3 => k_asm
                  case q4 => k_asm
                  case q5 => k_asm
                  case q6 => exact rfl
                  case q7 => ktr_room
                  case q8 => ktr_units
                  case qL => exact hL0.mono fun _ hp => by (repeat (first | exact hp | apply List.mem_cons_of_mem))
                  case qM => exact hL1.mono fun _ hp => by (repeat (first | exact hp | apply List.mem_cons_of_mem))
                  intro r8 h8 tk8 tl8 F8 N8 ho8 hP8
                  rw [less_plain] at hP8
                  subst hP8
                  have N8 := news_right N8
                  clear ho8
                  try dsimp only
                  try k_fold
                  k_steps
                  unfold Stop
                  rename News _ _ _ _ => N8
                  have N8 := news_tail (news_tail N8)
                  refine wpAny_Assign_Name ?_
                  k_dflt (refine ListComp_my (by k_asm) (by decide) (by with_unfolding_all rfl) (by rfl) (by decide) ?_ (by intro _; rfl))
                  k_steps
                  unfold Stop
                  k_dflt (refine' list_cell ?p1 ?p4 ?p5 ?p2 ?p6 ?p7 ?p8 ?p9 ?p10 ?_)
                  case p1 => rfl
                  case p4 => k_asm
                  case p5 => k_asm
                  case p2 => exact .tail _ (.head _)
                  case p6 => exact Nat.le_of_ble_eq_true rfl
                  case p7 => rfl
                  case p8 => intro k acc; rfl
                  case p9 => intro h; rfl
                  case p10 => rfl
                  intro I8 D8 C8 h₁ h₂ hlt8 hD8 hC8
                  have hD8n : @Eq Nat D8 (I8 + 1) := hD8
                  have hC8n : @Eq Nat C8 (I8 + 2) := hC8
                  have hlt8A := allLt_of hlt8
                  simp only [AllLt] at hlt8A
                  have gi := hlt8A.2.2.1
                  have gD8 := Nat.lt_trans gi (show @LT.lt Nat _ I8 D8 by omega)
                  clear hlt8
                  refine crest_exact (fun j => ((onesN (drAt d0 d1 d2 j) : Nat) : Int)) (fun p hp => by rw [List.mem_singleton.mp hp]; exact .tail _ (.head _)) ?_ ?_
                  · intro i ys own h tk E' hi hB hoc F N off
                    obtain ⟨oI, oC, m₂, v2, rfl, hoC, hPv, -⟩ := hB
                    obtain ⟨u, rfl⟩ : ∃ t, v2 = .int ((drAt d0 d1 d2 i : Nat) : Int) t := by
                      rcases i with _ | _ | _ | i <;> simp at hPv <;> exact ⟨_, hPv.symm⟩
                    have hdr := drAt_lt i z0 z1 z2
                    obtain ⟨oX, hoX⟩ : ∃ o, o = cellObj (some (.int ((drAt d0 d1 d2 i : Nat) : Int) u)) := ⟨_, rfl⟩
                    rw [← hoX] at N ⊢
                    have hdX : oX.data = .cell (some (.int ((drAt d0 d1 d2 i : Nat) : Int) u)) := by rw [hoX]
                    generalize drAt d0 d1 d2 i = dd at *
                    simp only [List.cons_append, List.nil_append] at N
                    clear hoc off
                    k_steps
                    unfold Stop
                    k_dflt (refine ListComp_my (by k_asm) (by decide) (by with_unfolding_all rfl) (by rfl) (by decide) ?_ (by intro _; rfl))
                    k_steps
                    unfold Stop
                    rename IsRange _ _ _ _ _ _ _ _ => hR9
                    k_dflt (refine' range_name (n := 16) ?p1 hR9 ?p2 ?p3 ?p4 ?p5 ?p6 ?p7 ?p8 ?p9 ?_)
                    case p1 => rfl
                    case p2 => decide
                    case p3 => decide
                    case p4 => k_asm
                    case p5 => k_asm
                    case p6 => exact Nat.le_of_ble_eq_true rfl
                    case p7 => rfl
                    case p8 => decide
                    case p9 => rfl
                    intro I9 D9 C9 h₃ h₄ hlt9 hD9 hC9
                    refine crest_exact (fun j => ((dd / 2 ^ j % 2 : Nat) : Int)) (fun p hp => nomatch hp) ?_ ?_
                    · intro j ys2 own2 h5 tk5 E5 hj hB2 hoc2 F5 N5 off2
                      obtain ⟨oI2, oC2, m₃, v3, rfl, hoC2, hPv2, hx3', -⟩ := hB2
                      obtain ⟨u2, rfl⟩ := hPv2
                      rw [show (0 : Int) + (j : Int) * 1 = (j : Int) by omega] at hx3'
                      simp only [List.cons_append, List.nil_append] at N5
                      clear hoc2 off2
                      k_steps
                      rename Fr _ _ _ _ => F7
                      rename News _ _ _ _ => N7
                      refine IntBack.intro F7 N7 (fun p hp => hp) ?_
                      exact bit_eq dd _
                    · intro ys2 hS2'
                      intro h9 tk9 F9 N9 off9
                      try dsimp only
                      try k_fold
                      k_steps
                      rename Fr _ _ _ _ => F7
                      rename News _ _ _ _ => N7
                      refine IntBack.intro F7 N7 (fun p hp => List.mem_cons_of_mem _ hp) ?_
                      exact onesN_cast dd
                  · intro ysO hSO
                    clear hlt8A hD8 hC8 hD8n hC8n gi
                    repeat (rename (_ < _ ∧ _) => hz; clear hz)
                    repeat (rename (_ ≠ _ ∧ _) => hz; clear hz)
                    intro h9 tk9 F9 N9 off9
                    clear off9
                    obtain ⟨o0, ho0⟩ : ∃ o, onesN d0 = o := ⟨_, rfl⟩
                    obtain ⟨o1, ho1⟩ : ∃ o, onesN d1 = o := ⟨_, rfl⟩
                    obtain ⟨o2, ho2⟩ : ∃ o, onesN d2 = o := ⟨_, rfl⟩
                    have b0 := onesN_le d0
                    have b1 := onesN_le d1
                    have b2 := onesN_le d2
                    replace hSO : IntsAre ysO [((onesN d0 : Nat) : Int), ((onesN d1 : Nat) : Int), ((onesN d2 : Nat) : Int)] := hSO
                    rw [ho0, ho1, ho2] at hSO
                    rw [ho0] at b0
                    rw [ho1] at b1
                    rw [ho2] at b2
                    clear ho0 ho1 ho2
                    cases hSO with | cons _ r0 hSO => ?_
                    cases hSO with | cons _ r1 hSO => ?_
                    cases hSO with | cons _ r2 hSO => ?_
                    cases hSO
                    try dsimp only
                    try k_fold
                    k_steps
                    unfold Stop
                    change wpAny _ _ (binaryOp Operator.Mult (Value.str _ _) (Value.int (o0 : Int) _)) _ _ _
                    k_steps
                    unfold Stop
                    k_dflt (refine' Does.use (wsnew _ _ _ _ _ _ _ _ (stT_sz o0 b0)) ?q1 ?q2 ?q3 ?q4 ?q5 ?q6 ?q7 ?q8 ?_)
                    case q1 => k_asm
                    case q2 => k_asm
                    case q3 => k_asm
                    case q4 => k_asm
                    case q5 => k_asm
                    case q6 => exact rfl
                    case q7 => ktr_room
                    case q8 => ktr_units
                    intro r5 h5 tk5 tl5 F5 N5 ho5 hT1
                    rw [stT_of] at hT1
                    have N5 := news_end (a := [_, _, _, _, _]) (r := rest) N5
                    simp only [List.cons_append, List.nil_append] at N5
                    obtain ⟨rest1, hrest1⟩ : ∃ r, r = rest ++ tl5 := ⟨_, rfl⟩
                    have mA : ∀ p ∈ rest, p ∈ rest1 := fun p hp => by rw [hrest1]; exact List.mem_append_left _ hp
                    have mB : ∀ p ∈ tl5, p ∈ rest1 := fun p hp => by rw [hrest1]; exact List.mem_append_right _ hp
                    rw [← hrest1] at N5
                    have hL0 := hL0.mono mA
                    have hS1 := hS1.mono mA
                    have hT1 := hT1.mono mB
                    have m00 := mA _ m00
                    have m01 := mA _ m01
                    clear mA mB hrest1 ho5 hgtR hL1 hL3 hL4 hL5 hS2 hS3 m30 m31 m40 m41 m50 m51
                    try dsimp only
                    try k_fold
                    k_steps
                    unfold Stop
                    change wpAny _ _ (binaryOp Operator.Mult (Value.str _ _) (Value.int (o1 : Int) _)) _ _ _
                    k_steps
                    unfold Stop
                    change wpAny _ _ (binaryOp Operator.Mult (Value.str _ _) (Value.int (o2 : Int) _)) _ _ _
                    k_steps
                    unfold Stop
                    k_dflt (refine' Does.use (wsnew _ _ _ _ _ _ _ _ (stT_sz2 o1 o2 b1 b2)) ?q1 ?q2 ?q3 ?q4 ?q5 ?q6 ?q7 ?q8 ?_)
                    case q1 => k_asm
                    case q2 => k_asm
                    case q3 => k_asm
                    case q4 => k_asm
                    case q5 => k_asm
                    case q6 => exact rfl
                    case q7 => ktr_room
                    case q8 => ktr_units
                    intro r6 h6 tk6 tl6 F6 N6 ho6 hT2
                    rw [stT_of2] at hT2
                    have N6 := news_end (a := [_, _, _, _, _]) (r := rest1) N6
                    simp only [List.cons_append, List.nil_append] at N6
                    obtain ⟨rest2, hrest2⟩ : ∃ r, r = rest1 ++ tl6 := ⟨_, rfl⟩
                    have mA : ∀ p ∈ rest1, p ∈ rest2 := fun p hp => by rw [hrest2]; exact List.mem_append_left _ hp
                    have mB : ∀ p ∈ tl6, p ∈ rest2 := fun p hp => by rw [hrest2]; exact List.mem_append_right _ hp
                    rw [← hrest2] at N6
                    have hL0 := hL0.mono mA
                    have hS1 := hS1.mono mA
                    have hT1 := hT1.mono mA
                    have hT2 := hT2.mono mB
                    have m00 := mA _ m00
                    have m01 := mA _ m01
                    clear mA mB hrest2 ho6
                    have hT1' := hT1
                    obtain ⟨g0, gd0, gT0, gc0, gv0, gr0, f00, f01, f02, f03, j00, j01, j02, j03, j04, gep0, rfl, n00, n01, -, -, -⟩ := hT1'
                    try dsimp only
                    try k_fold
                    k_steps
                    unfold Stop
                    k_dflt (refine Assign_ListComp_my (by k_asm) (by decide) (by rfl) (by with_unfolding_all rfl) (by with_unfolding_all rfl) (by rfl) (by decide) (by rfl) (by rfl) ?_ (by intro _; rfl))
                    k_steps
                    unfold Stop
                    rename IsRange _ _ _ _ _ _ _ _ => hR0
                    k_dflt (refine' range_name (n := 17) ?p1 hR0 ?p2 ?p3 ?p4 ?p5 ?p6 ?p7 ?p8 ?p9 ?_)
                    case p1 => rfl
                    case p2 => decide
                    case p3 => decide
                    case p4 => k_asm
                    case p5 => k_asm
                    case p6 => exact Nat.le_of_ble_eq_true rfl
                    case p7 => rfl
                    case p8 => decide
                    case p9 => rfl
                    intro I10 D10 C10 h₁ h₂ hlt10 hD10 hC10
                    refine crest_if (fun i => 1 + (i : Int)) (fun i => decide ((1 + (i : Int)) * (o1 : Int) + (o2 : Int) ≤ (1 + (i : Int)) * (o0 : Int))) (fun p hp => nomatch hp) ?_ ?_ ?_
                    · intro j ys2 own2 h5 tk5 E5 hj hB2 hoc2 F5 N5 off2
                      obtain ⟨oI2, oC2, m₃, v3, rfl, hoC2, hPv2, hx3', -⟩ := hB2
                      obtain ⟨u2, rfl⟩ := hPv2
                      rw [Int.mul_one] at hx3'
                      simp only [List.cons_append, List.nil_append] at N5
                      clear hoc2 off2
                      k_steps
                      unfold Stop
                      change wpAny _ _ (binaryOp Operator.Mult (Value.int _ _) (Value.int (o0 : Int) _)) _ _ _
                      refine mul_int ?_ (mul_ok_left (by omega))
                      have g0 : (1 + (j : Int)) * (o0 : Int) ≤ 17 * 16 := Int.mul_le_mul (by omega) (by omega) (by omega) (by omega)
                      have g1 : 0 ≤ (1 + (j : Int)) * (o0 : Int) := Int.mul_nonneg (by omega) (by omega)
                      have g2 : (1 + (j : Int)) * (o1 : Int) ≤ 17 * 16 := Int.mul_le_mul (by omega) (by omega) (by omega) (by omega)
                      have g3 : 0 ≤ (1 + (j : Int)) * (o1 : Int) := Int.mul_nonneg (by omega) (by omega)
                      generalize hg0 : (1 + (j : Int)) * (o0 : Int) = G0 at *
                      k_steps
                      unfold Stop
                      change wpAny _ _ (binaryOp Operator.Mult (Value.int _ _) (Value.int (o1 : Int) _)) _ _ _
                      refine mul_int ?_ (mul_ok_left (by omega))
                      generalize hg1 : (1 + (j : Int)) * (o1 : Int) = G1 at *
                      k_steps
                      rename Fr _ _ _ _ => F7
                      rename News _ _ _ _ => N7
                      refine BoolBack.intro F7 N7 (fun p hp => hp) ?_
                      rfl
                    · intro j ys2 own2 h5 tk5 E5 hj hpj hB2 hoc2 F5 N5 off2
                      obtain ⟨oI2, oC2, m₃, v3, rfl, hoC2, hPv2, hx3', -⟩ := hB2
                      obtain ⟨u2, rfl⟩ := hPv2
                      rw [Int.mul_one] at hx3'
                      simp only [List.cons_append, List.nil_append] at N5
                      clear hoc2 off2
                      k_steps
                      rename Fr _ _ _ _ => F7
                      rename News _ _ _ _ => N7
                      refine IntBack.intro F7 N7 (fun p hp => hp) ?_
                      rfl
                    · intro ysV hSV
                      intro h9 tk9 F9 N9 off9
                      clear off9
                      try dsimp only
                      try k_fold
                      k_steps
                      unfold Stop
                      k_dflt (refine' Does.use (lessc _ _ _ _ _ _ _ _ (stT o0 0) (stT o1 o2) ?qL ?qM (Nat.le_trans (stT_len _ _) (by decide)) (Nat.le_trans (stT_len _ _) (by decide)) (stT_trl _ _ (by decide)) (stT_trl _ _ b2)) ?q1 ?q2 ?q3 ?q4 ?q5 ?q6 ?q7 ?q8 ?_)
                      case q1 => k_asm
                      case q2 => k_asm
                      case q3 => k_asm
                      case q4 => k_asm
                      case q5 => k_asm
                      case q6 => exact rfl
                      case q7 => ktr_room
                      case q8 => ktr_units
                      case qL => exact hT1.mono fun _ hp => by (repeat (first | exact hp | apply List.mem_cons_of_mem))
                      case qM => exact hT2.mono fun _ hp => by (repeat (first | exact hp | apply List.mem_cons_of_mem))
                      intro r8 h8 tk8 tl8 F8 N8 ho8 hP8
                      rw [tabs_less o0 o1 o2 b2] at hP8
                      subst hP8
                      have N8 := news_right N8
                      clear ho8
                      try dsimp only
                      try k_fold
                      k_steps
                      unfold Stop
                      rename News _ _ _ _ => N8
                      have N8 := news_tail (news_tail (news_tail N8))
                      k_dflt (refine' Does.use (lessc _ _ _ _ _ _ _ _ (stN d0 0) (stN d1 1) ?qL ?qM (stN_len _ _ (by decide)) (stN_len _ _ (by decide)) (stN_tr _ _ (by decide)) (stN_tr _ _ (by decide))) ?q1 ?q2 ?q3 ?q4 ?q5 ?q6 ?q7 ?q8 ?_)
                      case q1 => k_asm
                      case q2 => k_asm
                      case q3 => k_asm
                      case q4 => k_asm
                      case q5 => k_asm
                      case q6 => exact rfl
                      case q7 => ktr_room
                      case q8 => ktr_units
                      case qL => exact hL0.mono fun _ hp => by (repeat (first | exact hp | apply List.mem_cons_of_mem))
                      case qM => exact hS1.mono fun _ hp => by (repeat (first | exact hp | apply List.mem_cons_of_mem))
                      intro r8 h8 tk8 tl8 F8 N8 ho8 hP8
                      rw [less_one] at hP8
                      subst hP8
                      have N8 := news_right N8
                      clear ho8
                      try dsimp only
                      try k_fold
                      k_steps
                      unfold Stop
                      k_dflt (refine' Does.use (lawunder _ _ _ _ _ _ d0 d1 _ _ z0 z1) ?q1 ?q2 ?q3 ?q4 ?q5 ?q6 ?q7 ?q8 ?_)
                      case q1 => k_asm
                      case q2 => k_asm
                      case q3 => k_asm
                      case q4 => k_asm
                      case q5 => k_asm
                      case q6 => exact rfl
                      case q7 => ktr_room
                      case q8 => ktr_units
                      intro r9 h9 tk9 tl9 F9 N9 ho9 hP9
                      subst hP9
                      have N9 := news_right N9
                      clear ho9
                      try dsimp only
                      try k_fold
                      k_steps)
end Mine
end

open PySem PySem.W PyProof.Rows
set_option maxRecDepth 100000 in
set_option maxHeartbeats 8000000 in
theorem PySem.Challenge.cw_pg0153_03_holds : PySem.Challenge.rw_pg0153_03.Holds := by
  exact Mine.law_holds
