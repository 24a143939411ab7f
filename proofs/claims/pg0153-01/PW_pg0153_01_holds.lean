import PyProof.Rows.All
import Wide.All
import OpenK.AllK
import Wide.FinOn
import Lean
import PySem.Challenge.RW_pg0153_01
set_option Elab.async false
set_option rowWalk.seconds 0

set_option genInjectivity false
set_option genSizeOf false

section
open PySem PySem.W PyProof.Rows
namespace Mine

noncomputable def Does (prog : Program) (w : World) (K : Frag) (p : Program) (loose : List Str) (mean : ExcName → Option Value) (mg mb : Str → Option Value)
    (f : Value) (vs : List Value) (dN uN : Nat) (news : List (Addr × Obj)) (Post : List (Addr × Obj) → Value → Prop) : Prop :=
  ∀ (dp un : Nat) (gd : Option (List Code)) (cn : Str) (cs : Scope) (a : Addr) (ccd : Value) (cl : List (Str × Addr)) (outer : List Env) (A₀ : Around) (base h₀ : Heap) (L : Addr) (m : Str → Option Value) (s : Shared) (Q E : Value → Shared → Prop),
    Below A₀ base outer h₀ → Fr h₀ L s.heap m → K.In h₀ → News h₀ L s.heap news → Top p loose mean mg mb h₀ → cs.kind = .function →
    dp + dN < recursionLimit → un + uN < cLine →
    (∀ r h' tk' tl, Fr h₀ L h' m → News h₀ L h' (tl ++ news) → (∀ q ∈ news, ∀ p ∈ tl, q.1 < p.1) → Post tl r → Q r { s with heap := h', toks := tk' }) →
    wpAny (model prog w) (ktrTop dp un gd cn cs L a ccd cl outer) (call f vs) Q E s

end Mine
namespace Mine
theorem Does.use {prog : Program} {w : World} {K : Frag} {p : Program} {loose : List Str} {mean : ExcName → Option Value} {mg mb : Str → Option Value} {f : Value} {vs : List Value} {dN uN : Nat} {news : List (Addr × Obj)} {Post : List (Addr × Obj) → Value → Prop}
    (C : Does prog w K p loose mean mg mb f vs dN uN news Post)
    {dp un : Nat} {gd : Option (List Code)} {cn : Str} {cs : Scope} {a : Addr} {ccd : Value} {cl : List (Str × Addr)} {outer : List Env} {A₀ : Around} {base h₀ : Heap} {L : Addr} {m : Str → Option Value} {s : Shared} {Q E : Value → Shared → Prop}
    (B : Below A₀ base outer h₀) (F : Fr h₀ L s.heap m) (X : K.In h₀) (N : News h₀ L s.heap news) (T : Top p loose mean mg mb h₀) (hk : cs.kind = .function) (hd : dp + dN < recursionLimit) (hu : un + uN < cLine)
    (h : ∀ r h' tk' tl, Fr h₀ L h' m → News h₀ L h' (tl ++ news) → (∀ q ∈ news, ∀ p ∈ tl, q.1 < p.1) → Post tl r → Q r { s with heap := h', toks := tk' }) :
    wpAny (model prog w) (ktrTop dp un gd cn cs L a ccd cl outer) (call f vs) Q E s := C dp un gd cn cs a ccd cl outer A₀ base h₀ L m s Q E B F X N T hk hd hu h
end Mine
end

section
namespace Mine
noncomputable def Stop (P : Prop) : Prop := P
theorem Stop.intro {P : Prop} (h : Stop P) : P := h
end Mine
end

section
open PySem PySem.W PyProof.Rows
namespace Mine
noncomputable def apL (n : Nat) : List Int := if n = 0 then [] else apL (n / 16) ++ [65 + ((n % 16 : Nat) : Int)]
termination_by n
decreasing_by omega
theorem apL_zero : apL 0 = [] := by rw [apL]; simp
theorem apL_pos {n : Nat} (h : n ≠ 0) : apL n = apL (n / 16) ++ [65 + ((n % 16 : Nat) : Int)] := by rw [apL]; simp [h]
theorem apL_len : ∀ (k n : Nat), n < 16 ^ k → (apL n).length ≤ k
  | 0, n, h => by
    have : n = 0 := by simpa using h
    subst this; simp [apL_zero]
  | k + 1, n, h => by
    by_cases h0 : n = 0
    · subst h0; simp [apL_zero]
    · rw [apL_pos h0, List.length_append, List.length_singleton]
      have := apL_len k (n / 16) (by rw [Nat.pow_succ] at h; omega)
      omega
noncomputable def apCodes : List Int := [65, 66, 67, 68, 69, 70, 71, 72, 73, 74, 75, 76, 77, 78, 79, 80]
theorem ap_turn {num : Int} {n : Nat} {ks : List Int} (h0 : 0 ≤ num) (hne : num ≠ 0) (h : apL num.toNat ++ ks = apL n) :
    apL (num.fdiv 16).toNat ++ ([65 + num.fmod 16] ++ ks) = apL n := by
  obtain ⟨k, rfl⟩ := Int.eq_ofNat_of_zero_le h0
  have hk : k ≠ 0 := fun e => hne (e ▸ rfl)
  rw [← h, Int.toNat_natCast, apL_pos hk]
  have e1 : ((k : Int).fdiv 16).toNat = k / 16 := by
    rw [Int.fdiv_eq_ediv_of_nonneg _ (by decide)]; rfl
  have e2 : (k : Int).fmod 16 = ((k % 16 : Nat) : Int) := by
    rw [Int.fmod_eq_emod_of_nonneg _ (by decide)]; rfl
  rw [e1, e2, List.append_assoc]
end Mine
end

section
open PySem PySem.W PyProof.Rows PySem.Spec PySem.Calls PyProof.V
namespace Mine

section
variable {prog : Program} {w : World} {A : Around} {E : Value → Shared → Prop} {s : Shared} {env : Env} {h₀ : Heap} {x : Str} {body : List Stmt} {Q : Flow → Shared → Prop}

noncomputable def MyEnd {σ : Type} (h₀ : Heap) (L I : Addr) (oI : Obj) (Led : σ → List (Addr × Obj)) (ps : σ → List (Str × Value)) (x : Str) (stored : List Str) (m₀ : Str → Option Value) (P : σ → Prop) (s₁ s₂ : Shared) : Prop :=
  ∃ c h' tk m' news', s₂ = { s₁ with heap := h', toks := tk } ∧ Fr h₀ L h' m' ∧ News h₀ L h' news' ∧ (I, oI) ∈ news' ∧ (∀ p ∈ Led c, p ∈ news') ∧ (∀ p ∈ Led c, p.1 ≠ I) ∧
    (∀ p ∈ ps c, m' p.1 = some p.2) ∧ (∀ z, z ≠ x → (∀ p ∈ ps c, z ≠ p.1) → stored.contains z = false → m' z = m₀ z) ∧ P c
noncomputable def MyTurn {σ : Type} (h₀ : Heap) (L I : Addr) (oI : Obj) (Led : σ → List (Addr × Obj)) (ps : σ → List (Str × Value)) (x : Str) (stored : List Str) (m₀ : Str → Option Value) (P : σ → Prop) (s₁ : Shared) (Q : Flow → Shared → Prop) (f : Flow) (s₂ : Shared) : Prop :=
  match f with
  | .ret v => Q (.ret v) s₂
  | .brk => Q .next s₂
  | _ => MyEnd h₀ L I oI Led ps x stored m₀ P s₁ s₂
theorem MyEnd.intro {σ : Type} {L I : Addr} {oI : Obj} {Led : σ → List (Addr × Obj)} {ps : σ → List (Str × Value)} {stored : List Str} {m₀ m' : Str → Option Value} {P : σ → Prop} {s₁ : Shared} {h' : Heap} {tk : Nat} {news' : List (Addr × Obj)} (c : σ)
    (F : Fr h₀ L h' m') (N : News h₀ L h' news') (hk : ∀ p ∈ ps c, m' p.1 = some p.2) (hI : (I, oI) ∈ news') (hl : ∀ p ∈ Led c, p ∈ news') (ho : ∀ p ∈ Led c, p.1 ≠ I)
    (hr : ∀ z, z ≠ x → (∀ p ∈ ps c, z ≠ p.1) → stored.contains z = false → m' z = m₀ z) (hp : P c) : MyEnd h₀ L I oI Led ps x stored m₀ P s₁ { s₁ with heap := h', toks := tk } :=
  ⟨c, h', tk, m', news', rfl, F, N, hI, hl, ho, hk, hr, hp⟩

theorem loop_my {σ : Type} {I : Addr} {n : Nat} {Pv : Nat → Value → Prop} {St : Nat → Heap → Prop} {m₀ : Str → Option Value} (Led : σ → List (Addr × Obj)) (ps : σ → List (Str × Value)) (stored : List Str) (P : Nat → σ → Prop) (c₀ : σ)
    (W : Walks prog w A I [I] [I] n Pv St) (hLI : env.locals ≠ I) (hI0 : h₀.get? I = none) (hlive : ∀ i h, St i h → ∃ o, h.get? I = some o) (hst : St 0 s.heap)
    (F : Fr h₀ env.locals s.heap m₀) (N : News h₀ env.locals s.heap (Led c₀)) (hoff : ∀ p ∈ Led c₀, p.1 ≠ I) (hk : ∀ p ∈ ps c₀, m₀ p.1 = some p.2) (hp : P 0 c₀)
    (turn : ∀ i c v (u : Str → Option Value) h tk oI, i < n → Pv i v → P i c → (∀ p ∈ Led c, p.1 ≠ I) →
      Fr h₀ env.locals h (fun y => if y = x then some v else kstB (fun z => if stored.contains z then u z else m₀ z) (ps c) y) → News h₀ env.locals h ((I, oI) :: Led c) →
      wpAny (model prog w) A (execs body env) (MyTurn h₀ env.locals I oI Led ps x stored m₀ (P (i + 1)) { s with heap := h, toks := tk } Q) E { s with heap := h, toks := tk })
    (done : ∀ c (u : Str → Option Value) h tk, P n c → Fr h₀ env.locals h (fun y => if y = x then u y else kstB (fun z => if stored.contains z then u z else m₀ z) (ps c) y) → News h₀ env.locals h (Led c) → Q .next { s with heap := h, toks := tk }) :
    LoopAtV prog w A h₀ env x body Q E (.ref I) s := by
  let J : Nat → (Str → Option Value) → List (Addr × Obj) → Prop := fun i m nx => ∃ c, nx = Led c ∧ (∀ p ∈ ps c, m p.1 = some p.2) ∧ (∀ z, z ≠ x → (∀ p ∈ ps c, z ≠ p.1) → stored.contains z = false → m z = m₀ z) ∧ P i c
  refine ⟨I, [I], [I], n, Pv, St, m₀, Led c₀, J, rfl, W, ?_, ?_, ?_, hst, F, N, ⟨c₀, rfl, hk, fun _ _ _ _ => rfl, hp⟩, ?_, ?_⟩
  · intro hm; exact hLI (List.mem_singleton.mp hm)
  · intro b hb; rw [List.mem_singleton.mp hb]; exact hI0
  · intro p hp hm; exact hoff p hp (List.mem_singleton.mp hm)
  · rintro i v m₁ news₁ s₁ own ⟨hh', tk', rfl⟩ hin hP ⟨c, rfl, h1, h2, hPc⟩ hnw hown hget hall hst₁ F₁ N₁
    obtain ⟨oI, hoI⟩ := hlive _ _ hst₁
    have hmem : (I, oI) ∈ own := hall I (List.mem_singleton.mpr rfl) hI0 oI hoI
    have hsub : ∀ p ∈ own, p = (I, oI) := fun p hp => by
      have e : p.1 = I := List.mem_singleton.mp (hown p hp)
      have g := hget p hp
      rw [e] at g
      have g' : hh'.get? I = some p.2 := g
      have g'' : hh'.get? I = some oI := hoI
      rw [g''] at g'
      exact Prod.ext e (Option.some.inj g').symm
    have N₂ : News h₀ env.locals hh' ((I, oI) :: Led c) := fun p hp => by
      rcases List.mem_cons.mp hp with rfl | hp
      · exact N₁ _ (List.mem_append_left _ hmem)
      · exact N₁ p (List.mem_append_right _ hp)
    refine wpAny_mono (turn i c v m₁ hh' tk' oI hin hP hPc (fun p hp e => hnw p hp (List.mem_singleton.mpr e)) (kst_fr h1 h2 F₁) N₂) (fun f s₂ p => ?_) fun _ _ e => e
    have fin : MyEnd h₀ env.locals I oI Led ps x stored m₀ (P (i + 1)) { s with heap := hh', toks := tk' } s₂ → LoopStepU h₀ env.locals [I] own (J (i + 1)) { s with heap := hh', toks := tk' } .next s₂ := by
      rintro ⟨c', h', tk, m', news', e, F', N', hI, hl, ho, hk', hr', hp'⟩
      refine ⟨rfl, h', tk, m', Led c', e, F', fun p hp => ?_, fun p hp hm => ho p hp (List.mem_singleton.mp hm), c', rfl, hk', hr', hp'⟩
      rcases List.mem_append.mp hp with hp | hp
      · rw [hsub p hp]; exact N' _ hI
      · exact N' p (hl p hp)
    cases f with
    | ret v => exact .ret p
    | brk => exact .brk p
    | next => exact .next (fin p)
    | cont => exact .cont (fin p)
  · rintro h' tk m' news' F' N' _ ⟨c, rfl, h1, h2, hPc⟩
    exact done c m' h' tk hPc (kst_frOut h1 h2 F') N'

theorem news_lt {h : Heap} {L : Addr} {news : List (Addr × Obj)} (N : News h₀ L h news) : ∀ p ∈ news, p.1 < h.objs.size := fun p hp => Heap.lt_size (N p hp).1

theorem for_text {σ : Type} {xt : Str} {tx : Tok} {m₀ : Str → Option Value} (Led : σ → List (Addr × Obj)) (ps : σ → List (Str × Value)) (stored : List Str) (P : List Nat → σ → Prop) (c₀ : σ)
    (hh : A.handled = none) (F : Fr h₀ env.locals s.heap m₀) (N : News h₀ env.locals s.heap (Led c₀)) (hk : ∀ p ∈ ps c₀, m₀ p.1 = some p.2) (hp : P [] c₀)
    (turn : ∀ (I : Addr) c (pre post : List Nat) (n : Nat) t (u : Str → Option Value) h tk oI, (∀ p ∈ Led c₀, p.1 < I) → xt.cps.toList = pre ++ n :: post → P pre c → (∀ p ∈ Led c, p.1 ≠ I) →
      Fr h₀ env.locals h (fun y => if y = x then some (.str ⟨#[n]⟩ t) else kstB (fun z => if stored.contains z then u z else m₀ z) (ps c) y) → News h₀ env.locals h ((I, oI) :: Led c) →
      wpAny (model prog w) A (execs body env) (MyTurn h₀ env.locals I oI Led ps x stored m₀ (P (pre ++ [n])) { s with heap := h, toks := tk } Q) E { s with heap := h, toks := tk })
    (done : ∀ c (u : Str → Option Value) h tk, P xt.cps.toList c → Fr h₀ env.locals h (fun y => if y = x then u y else kstB (fun z => if stored.contains z then u z else m₀ z) (ps c) y) → News h₀ env.locals h (Led c) → Q .next { s with heap := h, toks := tk }) :
    wpAny (model prog w) A (pyIter (.str xt tx)) (fun it s₂ => LoopAtV prog w A h₀ env x body Q E it s₂) E s := by
  have main : ∀ (o : Obj) (St : Nat → Heap → Prop), o.isFreed = false → Walks prog w A s.heap.objs.size [s.heap.objs.size] [s.heap.objs.size] xt.cps.size (SignAt xt) St → (∀ i h, St i h → ∃ o, h.get? s.heap.objs.size = some o) → St 0 (s.heap.push o) →
      LoopAtV prog w A h₀ env x body Q E (.ref s.heap.objs.size) { s with heap := s.heap.push o } := by
    intro o St hfree W hlive hst
    refine loop_my (s := { s with heap := s.heap.push o }) Led ps stored (fun i c => P (xt.cps.toList.take i) c) c₀ W (Nat.ne_of_lt F.ns.lt) (next_is_new F) hlive hst (F.push _)
      (fun p hp => ⟨Heap.get?_push_of_some _ (N p hp).1, (N p hp).2⟩) (fun p hp => Nat.ne_of_lt (news_lt N p hp)) hk (by simpa using hp) ?_ ?_
    · rintro i c v u h tk oI hi ⟨n, t, hn, rfl⟩ hP hoff F₁ N₁
      have hn' : xt.cps.toList[i]? = some n := by simpa using hn
      have hs : xt.cps.toList.take (i + 1) = xt.cps.toList.take i ++ [n] := by simp [List.take_add_one, hn']
      have e : xt.cps.toList = xt.cps.toList.take i ++ n :: xt.cps.toList.drop (i + 1) := by
        have ht := List.take_append_drop (i + 1) xt.cps.toList
        rw [hs, List.append_assoc] at ht
        exact ht.symm
      have := turn s.heap.objs.size c _ _ n t u h tk oI (news_lt N) e hP hoff F₁ N₁
      rw [← hs] at this
      exact this
    · rintro c u h tk hP F₁ N₁
      have hl : xt.cps.size = xt.cps.toList.length := by simp
      rw [hl, List.take_length] at hP
      exact done c u h tk hP F₁ N₁
  cases ha : xt.cps.all (· < 128)
  · refine wpAny_pyIter_wide ha (main _ _ rfl (Walks.strWide hh _ xt tx) (fun i h st => ?_) ⟨_, Heap.get?_push_size _ rfl, rfl, rfl⟩)
    obtain ⟨o, e, _⟩ := st; exact ⟨o, e⟩
  · refine wpAny_pyIter_ascii ha (main _ _ rfl (Walks.strAscii hh _ xt tx) (fun i h st => ?_) ⟨_, Heap.get?_push_size _ rfl, rfl, rfl⟩)
    obtain ⟨o, e, _⟩ := st; exact ⟨o, e⟩

theorem for_range {σ : Type} {r : Addr} {a₀ b₀ : Int} {t₀ u₀ v₀ : Tok} {n : Nat} {m₀ : Str → Option Value} (Led : σ → List (Addr × Obj)) (ps : σ → List (Str × Value)) (stored : List Str) (P : Nat → σ → Prop) (c₀ : σ)
    (hh : A.handled = none) (hr : IsRange s.heap r a₀ b₀ 1 t₀ u₀ v₀) (hsmall : Builtin.Range.small a₀ b₀ 1 = true) (hn : Builtin.Range.rangeSize a₀ b₀ 1 = (n : Int))
    (F : Fr h₀ env.locals s.heap m₀) (N : News h₀ env.locals s.heap (Led c₀)) (hk : ∀ p ∈ ps c₀, m₀ p.1 = some p.2) (hp : P 0 c₀)
    (turn : ∀ (I : Addr) c (i : Nat) t (u : Str → Option Value) h tk oI, (∀ p ∈ Led c₀, p.1 < I) → i < n → P i c → (∀ p ∈ Led c, p.1 ≠ I) →
      Fr h₀ env.locals h (fun y => if y = x then some (.int (a₀ + (i : Int)) t) else kstB (fun z => if stored.contains z then u z else m₀ z) (ps c) y) → News h₀ env.locals h ((I, oI) :: Led c) →
      wpAny (model prog w) A (execs body env) (MyTurn h₀ env.locals I oI Led ps x stored m₀ (P (i + 1)) { s with heap := h, toks := tk } Q) E { s with heap := h, toks := tk })
    (done : ∀ c (u : Str → Option Value) h tk, P n c → Fr h₀ env.locals h (fun y => if y = x then u y else kstB (fun z => if stored.contains z then u z else m₀ z) (ps c) y) → News h₀ env.locals h (Led c) → Q .next { s with heap := h, toks := tk }) :
    wpAny (model prog w) A (pyIter (.ref r)) (fun it s₂ => LoopAtV prog w A h₀ env x body Q E it s₂) E s := by
  refine wpAny_pyIter_range hr hsmall ?_
  have W : Walks prog w A s.heap.objs.size [s.heap.objs.size] [s.heap.objs.size] n (fun i v => i < n ∧ ∃ t, v = .int (a₀ + i * 1) t)
      (fun i h => IsRangeIter h s.heap.objs.size (a₀ + (i : Nat) * 1) ((n : Int) - (i : Nat)) 1) := (Walks.range hh _ a₀ 1 n).bound
  refine loop_my (s := { s with heap := s.heap.push _ }) Led ps stored P c₀ W (Nat.ne_of_lt F.ns.lt) (next_is_new F) (fun i h st => ⟨_, st⟩) (by show IsRangeIter _ _ _ _ _; rw [hn]; simpa using Heap.get?_push_size _ rfl) (F.push _)
      (fun p hp => ⟨Heap.get?_push_of_some _ (N p hp).1, (N p hp).2⟩) (fun p hp => Nat.ne_of_lt (news_lt N p hp)) hk hp ?_ done
  rintro i c v u h tk oI hi ⟨_, t, rfl⟩ hP hoff F₁ N₁
  rw [Int.mul_one] at F₁
  exact turn s.heap.objs.size c i t u h tk oI (news_lt N) hi hP hoff F₁ N₁
end

section
variable {prog : Program} {w : World} {A : Around} {E : Value → Shared → Prop} {s : Shared} {h₀ : Heap} {L l : Addr} {m : Str → Option Value} {news : List (Addr × Obj)} {vs : List Value} {Q : Value → Shared → Prop}
theorem tuple_of_my (F : Fr h₀ L s.heap m) (N : News h₀ L s.heap news) (hl : s.heap.IsList l vs.toArray) (hz : vs.length ≤ sizeLine)
    (h : ∀ D h', Fr h₀ L h' m → News h₀ L h' ((D, ({ cls := .type "tuple", data := .seq vs.toArray } : Obj)) :: news) → (∀ p ∈ news, p.1 < D) → Q (.ref D) { s with heap := h' }) : wpAny (model prog w) A (call (.type "tuple") [.ref l]) Q E s := by
  refine call_tuple_list hl (fun h' hk => ?_) (by rw [List.size_toArray]; exact hz)
  have F' : Fr h₀ L h' m := F.keeps hk
  have N' : News h₀ L h' news := fun p hp => ⟨hk _ _ (N p hp).1, (N p hp).2⟩
  exact h _ _ (F'.push _) (N'.push F' _) fun p hp => Heap.lt_size (N' p hp).1
end
theorem allNe_of {d d' : Addr} {news : List (Addr × Obj)} (h : AllLt d news) (hd : @LE.le Nat _ d d') : ∀ p ∈ news, p.1 ≠ d' := fun p hp => Nat.ne_of_lt (Nat.lt_of_lt_of_le (ktn_ltOf h p hp) hd)
end Mine
namespace Mine
section
variable {prog : Program} {w : World} {A : Around} {E : Value → Shared → Prop} {s : Shared} {h₀ : Heap} {L l : Addr} {news : List (Addr × Obj)} {vs : List Value} {ns : List Int} {Q : Value → Shared → Prop} {k : Int} {u : Tok}
theorem len_tup_my (N : News h₀ L s.heap news) (hm : (l, ({ cls := .type "tuple", data := .seq vs.toArray } : Obj)) ∈ news) (hI : IntsAre vs ns) (hz : ns.length ≤ 1048576) (h : Q (.int ns.length (s.toks + 1)) { s with toks := s.toks + 1 + 1 }) :
    wpAny (model prog w) A (call (.builtin "len") [.ref l]) Q E s := by
  have e : vs.toArray.size = ns.length := by rw [List.size_toArray]; exact hI.length
  refine len_tuple (News.isTup N hm) (by rw [e]; omega) ?_
  rw [e]; exact h
theorem item_tup_my {value slice : Expr} (N : News h₀ L s.heap news) (hm : (l, ({ cls := .type "tuple", data := .seq vs.toArray } : Obj)) ∈ news) (hI : IntsAre vs ns) (h0 : 0 ≤ k) (h1 : k < ns.length) (hz : ns.length ≤ 1048576) (h : ∀ t, Q (.int (ns.getD k.toNat 0) t) s)
    (hs : subscripted slice false (.ref l) (.int k u) = operate [.ref l, .int k u] (getItem (.ref l) (.int k u))) (hg : ∀ r, letTemporaryGo value (.ref l) r = pure ()) :
    wpAny (model prog w) A (subscriptTail value slice (.ref l) (.int k u)) Q E s := by
  have hl := hI.length
  have hlt : k.toNat < ns.length := by omega
  obtain ⟨t, hx⟩ := hI.get k.toNat ns[k.toNat] (by simp [hlt])
  have e : ns.getD k.toNat 0 = ns[k.toNat] := by simp [List.getD_eq_getElem?_getD, hlt]
  rw [e] at h
  exact item_tupleL (News.isTup N hm) (by omega) (by omega) (seqIndex_of h0 (by omega)) hx (h t) hs hg
end
theorem fr_gen {h₀ h : Heap} {L : Addr} {m : Str → Option Value} (F : Fr h₀ L h m) : ∃ m', m' = m ∧ Fr h₀ L h m' := ⟨m, rfl, F⟩
end Mine
end

section
open PySem PySem.W PyProof.Rows PySem.Spec PySem.Calls PyProof.V
namespace Mine
section
variable {prog : Program} {w : World} {A : Around} {E : Value → Shared → Prop} {s : Shared} {env : Env} {h₀ : Heap} {x : Str} {body : List Stmt} {Q : Flow → Shared → Prop}
noncomputable def MyTurnX {σ : Type} (h₀ : Heap) (L I : Addr) (oI : Obj) (Led : σ → List (Addr × Obj)) (ps : σ → List (Str × Value)) (x : Str) (stored : List Str) (m₀ : Str → Option Value) (P X : σ → Prop) (s₁ : Shared) (Q : Flow → Shared → Prop) (f : Flow) (s₂ : Shared) : Prop :=
  match f with
  | .ret v => Q (.ret v) s₂
  | .brk => MyEnd h₀ L I oI Led ps x stored m₀ X s₁ s₂
  | _ => MyEnd h₀ L I oI Led ps x stored m₀ P s₁ s₂
theorem for_textX {σ : Type} {xt : Str} {tx : Tok} {m₀ : Str → Option Value} (Led : σ → List (Addr × Obj)) (ps : σ → List (Str × Value)) (stored : List Str) (P : List Nat → σ → Prop) (X : σ → Prop) (c₀ : σ)
    (hh : A.handled = none) (F : Fr h₀ env.locals s.heap m₀) (N : News h₀ env.locals s.heap (Led c₀)) (hk : ∀ p ∈ ps c₀, m₀ p.1 = some p.2) (hp : P [] c₀) (hX : ∀ c, P xt.cps.toList c → X c)
    (turn : ∀ (I : Addr) c (pre post : List Nat) (n : Nat) t (u : Str → Option Value) h tk oI, (∀ p ∈ Led c₀, p.1 < I) → xt.cps.toList = pre ++ n :: post → P pre c → (∀ p ∈ Led c, p.1 ≠ I) →
      Fr h₀ env.locals h (fun y => if y = x then some (.str ⟨#[n]⟩ t) else kstB (fun z => if stored.contains z then u z else m₀ z) (ps c) y) → News h₀ env.locals h ((I, oI) :: Led c) →
      wpAny (model prog w) A (execs body env) (MyTurnX h₀ env.locals I oI Led ps x stored m₀ (P (pre ++ [n])) X { s with heap := h, toks := tk } Q) E { s with heap := h, toks := tk })
    (done : ∀ c (u : Str → Option Value) h tk, X c → Fr h₀ env.locals h (fun y => if y = x then u y else kstB (fun z => if stored.contains z then u z else m₀ z) (ps c) y) → News h₀ env.locals h (Led c) → Q .next { s with heap := h, toks := tk }) :
    wpAny (model prog w) A (pyIter (.str xt tx)) (fun it s₂ => LoopAtV prog w A h₀ env x body Q E it s₂) E s := by
  refine for_text Led ps stored P c₀ hh F N hk hp (fun I c pre post n t u h tk oI h1 h2 h3 h4 F₁ N₁ => ?_) fun c u h tk hP F₁ N₁ => done c u h tk (hX c hP) F₁ N₁
  refine wpAny_mono (turn I c pre post n t u h tk oI h1 h2 h3 h4 F₁ N₁) (fun f s₂ p => ?_) fun _ _ e => e
  cases f with
  | ret v => exact p
  | brk =>
    obtain ⟨c', h', tk', m', news', rfl, F', N', -, hl, -, hk', hr', hp'⟩ := p
    exact done c' m' h' tk' hp' (kst_frOut hk' hr' F') fun p hp => N' p (hl p hp)
  | next => exact p
  | cont => exact p
end
end Mine
end

section
open PySem PySem.W PyProof.Rows
namespace Mine
noncomputable def Hid (P : Prop) : Prop := P
noncomputable def wsStep (st : List Int × Int × Int × Int) (c : Nat) : List Int × Int × Int × Int :=
  if c = 32 then (st.1, st.2.1 + 1, st.2.2.1 + 1, st.2.2.2)
  else
    let g := if (st.1.length : Int) ≤ st.2.1 then st.1 ++ (List.replicate (st.2.1 - (st.1.length : Int) + 1).toNat [(0 : Int)]).flatten else st.1
    (g.set st.2.1.toNat (g.getD st.2.1.toNat 0 + 1), 0, st.2.2.1 + 1, st.2.2.2 + 1)
noncomputable def wsRun (pre : List Nat) : List Int × Int × Int × Int := pre.foldl wsStep ([], 0, 0, 0)
noncomputable def blank (c : Nat) : Prop := c = 32 ∨ c = 9
theorem wsRun_snoc (pre : List Nat) (c : Nat) : wsRun (pre ++ [c]) = wsStep (wsRun pre) c := by simp [wsRun]
theorem flat_zero (k : Nat) : ((List.replicate k [(0 : Int)]).flatten).length = k := by
  induction k with
  | zero => rfl
  | succ k ih => rw [List.replicate_succ, List.flatten_cons, List.length_append, ih]; simp; omega
theorem wsStep_bound {st : List Int × Int × Int × Int} {k : Nat} (c : Nat) (h : st.1.length ≤ k ∧ 0 ≤ st.2.1 ∧ st.2.1 ≤ k ∧ 0 ≤ st.2.2.1 ∧ st.2.2.1 ≤ k ∧ 0 ≤ st.2.2.2 ∧ st.2.2.2 ≤ k) :
    (wsStep st c).1.length ≤ k + 1 ∧ 0 ≤ (wsStep st c).2.1 ∧ (wsStep st c).2.1 ≤ ((k + 1 : Nat) : Int) ∧ 0 ≤ (wsStep st c).2.2.1 ∧ (wsStep st c).2.2.1 ≤ ((k + 1 : Nat) : Int) ∧ 0 ≤ (wsStep st c).2.2.2 ∧ (wsStep st c).2.2.2 ≤ ((k + 1 : Nat) : Int) := by
  obtain ⟨h1, h2, h3, h4, h5, h6, h7⟩ := h
  unfold wsStep
  split
  · refine ⟨by show st.1.length ≤ k + 1; omega, by show 0 ≤ st.2.1 + 1; omega, by show st.2.1 + 1 ≤ _; omega, by show 0 ≤ st.2.2.1 + 1; omega, by show st.2.2.1 + 1 ≤ _; omega, h6, by show st.2.2.2 ≤ _; omega⟩
  · refine ⟨?_, Int.le_refl _, by show (0 : Int) ≤ _; omega, by show 0 ≤ st.2.2.1 + 1; omega, by show st.2.2.1 + 1 ≤ _; omega, by show 0 ≤ st.2.2.2 + 1; omega, by show st.2.2.2 + 1 ≤ _; omega⟩
    show (List.set _ _ _).length ≤ k + 1
    rw [List.length_set]
    split
    · rw [List.length_append, flat_zero]; omega
    · omega
theorem wsRun_bound (pre : List Nat) : (wsRun pre).1.length ≤ pre.length ∧ 0 ≤ (wsRun pre).2.1 ∧ (wsRun pre).2.1 ≤ pre.length ∧ 0 ≤ (wsRun pre).2.2.1 ∧ (wsRun pre).2.2.1 ≤ pre.length ∧ 0 ≤ (wsRun pre).2.2.2 ∧ (wsRun pre).2.2.2 ≤ pre.length := by
  have all : ∀ l : List Nat, ∀ st : List Int × Int × Int × Int, ∀ k : Nat, (st.1.length ≤ k ∧ 0 ≤ st.2.1 ∧ st.2.1 ≤ k ∧ 0 ≤ st.2.2.1 ∧ st.2.2.1 ≤ k ∧ 0 ≤ st.2.2.2 ∧ st.2.2.2 ≤ k) →
      ((l.foldl wsStep st).1.length ≤ k + l.length ∧ 0 ≤ (l.foldl wsStep st).2.1 ∧ (l.foldl wsStep st).2.1 ≤ ((k + l.length : Nat) : Int) ∧ 0 ≤ (l.foldl wsStep st).2.2.1 ∧ (l.foldl wsStep st).2.2.1 ≤ ((k + l.length : Nat) : Int) ∧ 0 ≤ (l.foldl wsStep st).2.2.2 ∧ (l.foldl wsStep st).2.2.2 ≤ ((k + l.length : Nat) : Int)) := by
    intro l
    induction l with
    | nil => intro st k h; simpa using h
    | cons c r ih =>
      intro st k h
      have := ih (wsStep st c) (k + 1) (wsStep_bound c h)
      rw [List.length_cons, show k + (r.length + 1) = k + 1 + r.length by omega]
      exact this
  have := all pre ([], 0, 0, 0) 0 (by simp)
  simpa [wsRun] using this
noncomputable def wsRead (cs : List Nat) : List Int × Int × Int × Int := wsRun (cs.takeWhile fun c => c = 32 || c = 9)
theorem takeWhile_all {cs : List Nat} (h : ∀ c ∈ cs, blank c) : (cs.takeWhile fun c => c = 32 || c = 9) = cs := by
  induction cs with
  | nil => rfl
  | cons c r ih =>
    have hc := h c (.head _)
    rw [List.takeWhile_cons_of_pos (by simpa [blank] using hc), ih fun d hd => h d (.tail _ hd)]
theorem takeWhile_stop {pre post : List Nat} {c : Nat} (h : ∀ c ∈ pre, blank c) (hc : ¬ blank c) : ((pre ++ c :: post).takeWhile fun c => c = 32 || c = 9) = pre := by
  induction pre with
  | nil => rw [List.nil_append, List.takeWhile_cons_of_neg]; simpa [blank] using hc
  | cons d r ih =>
    have hd := h d (.head _)
    rw [List.cons_append, List.takeWhile_cons_of_pos (by simpa [blank] using hd), ih fun e he => h e (.tail _ he)]
end Mine
namespace Mine
inductive LeadIn (P : Params) (C : Addr) (news : List (Addr × Obj)) (v : Value) (st : List Int × Int × Int × Int) : Prop
  | mk (x d T Tc : Addr) (vs : List Value) (raw : Str) (t0 t1 t2 t3 k0 k1 k2 k3 k4 : Tok) (ep : Nat) (e : v = .ref x) (m1 : (x, instObj C d) ∈ news)
    (m2 : (d, dictOf [⟨PyData.keyHash P (Str.ofString "raw"), .str (Str.ofString "raw") k0, .str raw t0⟩, ⟨PyData.keyHash P (Str.ofString "n"), .str (Str.ofString "n") k1, .int st.2.2.1 t1⟩, ⟨PyData.keyHash P (Str.ofString "nt"), .str (Str.ofString "nt") k2, .int st.2.2.2 t2⟩,
      ⟨PyData.keyHash P (Str.ofString "norm"), .str (Str.ofString "norm") k3, .ref T⟩, ⟨PyData.keyHash P (Str.ofString "is_simple"), .str (Str.ofString "is_simple") k4, .bool (decide ((st.1.length : Int) ≤ 1))⟩] ep) ∈ news)
    (m3 : (T, ({ cls := .type "tuple", data := .seq #[.ref Tc, .int st.2.1 t3] } : Obj)) ∈ news) (m4 : (Tc, ({ cls := .type "tuple", data := .seq vs.toArray } : Obj)) ∈ news) (hI : IntsAre vs st.1) : LeadIn P C news v st
theorem LeadIn.mono {P : Params} {C : Addr} {news news' : List (Addr × Obj)} {v : Value} {st : List Int × Int × Int × Int} (h : LeadIn P C news v st) (hs : ∀ p ∈ news, p ∈ news') : LeadIn P C news' v st := by
  obtain ⟨x, d, T, Tc, vs, raw, t0, t1, t2, t3, k0, k1, k2, k3, k4, ep, e, h1, h2, h3, h4, h5⟩ := h
  exact ⟨x, d, T, Tc, vs, raw, t0, t1, t2, t3, k0, k1, k2, k3, k4, ep, e, hs _ h1, hs _ h2, hs _ h3, hs _ h4, h5⟩
end Mine
namespace Mine
theorem mul_ok_left {a b : Int} (h : a.natAbs < 18446744073709551616) : IntMulOk a b := IntMulOk.of_left (intBits_le_iff.mpr (by omega))
theorem fdiv_ok {a k b : Int} (h0 : 0 ≤ a) (ha : a < 4611686018427387904) (hk : 1 ≤ k) : IntMulOk (a.fdiv k) b := by
  refine mul_ok_left ?_
  rw [Int.fdiv_eq_ediv_of_nonneg _ (by omega)]
  have h1 : 0 ≤ a / k := Int.ediv_nonneg h0 (by omega)
  have h2 : a / k ≤ a := Int.ediv_le_self _ h0
  omega
noncomputable def ilAcc (cs : List Int) (k : Int) : Nat → Int
  | 0 => 0
  | i + 1 => ilAcc cs k i + (k + (i : Int)).fdiv k * cs.getD (k + (i : Int)).toNat 0
noncomputable def ilev (st : List Int × Int × Int × Int) (k : Int) : Int := st.2.1 + k * (ilAcc st.1 k ((st.1.length : Int) - k).toNat + st.2.2.2)
end Mine
namespace Mine
theorem str_len (x : Str) : x.cps.toList.length = x.length := by simp [Str.length]
theorem news_right {h₀ h : Heap} {L : Addr} {a b : List (Addr × Obj)} (N : News h₀ L h (a ++ b)) : News h₀ L h b := fun p hp => N p (List.mem_append_right _ hp)
end Mine
namespace Mine
end Mine
end

section
open PySem PySem.W PyProof.Rows
namespace Mine
noncomputable def rowCodes (r : Nat) : List Nat := List.replicate r 32 ++ [9]
noncomputable def rowsCodes (rows : List Nat) : List Nat := (rows.map rowCodes).flatten
noncomputable def bump (cs : List Int) (r : Nat) : List Int :=
  (if cs.length ≤ r then cs ++ List.replicate (r + 1 - cs.length) 0 else cs).set r ((if cs.length ≤ r then cs ++ List.replicate (r + 1 - cs.length) 0 else cs).getD r 0 + 1)
noncomputable def hist (rows : List Nat) : List Int := rows.foldl bump []
theorem flat_zeros (k : Nat) : (List.replicate k [(0 : Int)]).flatten = List.replicate k 0 := by
  induction k with
  | zero => rfl
  | succ k ih => rw [List.replicate_succ, List.flatten_cons, ih, List.replicate_succ]; rfl
theorem spaces_step (k : Nat) : ∀ (st : List Int × Int × Int × Int), (List.replicate k 32).foldl wsStep st = (st.1, st.2.1 + k, st.2.2.1 + k, st.2.2.2) := by
  induction k with
  | zero => intro st; simp
  | succ k ih =>
    intro st
    rw [List.replicate_succ, List.foldl_cons, ih]
    simp only [wsStep, if_pos]
    have e1 : st.2.1 + 1 + (k : Int) = st.2.1 + ((k + 1 : Nat) : Int) := by omega
    have e2 : st.2.2.1 + 1 + (k : Int) = st.2.2.1 + ((k + 1 : Nat) : Int) := by omega
    rw [e1, e2]
theorem row_step (cs : List Int) (n nt : Int) (r : Nat) : (rowCodes r).foldl wsStep (cs, 0, n, nt) = (bump cs r, 0, n + r + 1, nt + 1) := by
  unfold rowCodes
  rw [List.foldl_append, spaces_step, List.foldl_cons, List.foldl_nil]
  simp only [wsStep, if_neg (show ¬ (9 : Nat) = 32 by decide), flat_zeros]
  unfold bump
  have e : (0 + (r : Int)).toNat = r := by rw [Int.zero_add]; rfl
  rw [e]
  by_cases h : cs.length ≤ r
  · rw [if_pos (show (cs.length : Int) ≤ 0 + (r : Int) by omega), if_pos h]
    have e2 : (0 + (r : Int) - (cs.length : Int) + 1).toNat = r + 1 - cs.length := by
      rw [Int.zero_add, Int.sub_eq_add_neg, Int.add_right_comm, ← Int.sub_eq_add_neg]; exact Int.toNat_sub (r + 1) cs.length
    rw [e2]
  · rw [if_neg (show ¬ (cs.length : Int) ≤ 0 + (r : Int) by omega), if_neg h]
theorem rows_step (rows : List Nat) : ∀ (cs : List Int) (n nt : Int), (rowsCodes rows).foldl wsStep (cs, 0, n, nt) = (rows.foldl bump cs, 0, n + (rows.map fun (r : Nat) => (r : Int) + 1).sum, nt + rows.length) := by
  induction rows with
  | nil => intro cs n nt; simp [rowsCodes]
  | cons r rest ih =>
    intro cs n nt
    have e : rowsCodes (r :: rest) = rowCodes r ++ rowsCodes rest := rfl
    rw [e, List.foldl_append, row_step, ih, List.foldl_cons, List.map_cons, List.sum_cons, List.length_cons]
    have e1 : n + (r : Int) + 1 + (rest.map fun (r : Nat) => (r : Int) + 1).sum = n + ((r : Int) + 1 + (rest.map fun (r : Nat) => (r : Int) + 1).sum) := by omega
    have e2 : nt + 1 + (rest.length : Int) = nt + ((rest.length + 1 : Nat) : Int) := by omega
    rw [e1, e2]
theorem read_rows (rows : List Nat) (tr : Nat) : wsRun (rowsCodes rows ++ List.replicate tr 32) = (hist rows, (tr : Int), (rows.map fun (r : Nat) => (r : Int) + 1).sum + tr, (rows.length : Int)) := by
  unfold wsRun hist
  rw [List.foldl_append, rows_step, spaces_step]
  simp
theorem rows_blank (rows : List Nat) (tr : Nat) : ∀ c ∈ rowsCodes rows ++ List.replicate tr 32, blank c := by
  intro c hc
  rcases List.mem_append.mp hc with h | h
  · unfold rowsCodes at h
    obtain ⟨l, hl, hcl⟩ := List.mem_flatten.mp h
    obtain ⟨r, _, rfl⟩ := List.mem_map.mp hl
    unfold rowCodes at hcl
    rcases List.mem_append.mp hcl with h | h
    · exact .inl (List.eq_of_mem_replicate h)
    · exact .inr (List.mem_singleton.mp h)
  · exact .inl (List.eq_of_mem_replicate h)
theorem read_lead (rows : List Nat) (tr : Nat) : wsRead (rowsCodes rows ++ List.replicate tr 32) = (hist rows, (tr : Int), (rows.map fun (r : Nat) => (r : Int) + 1).sum + tr, (rows.length : Int)) := by
  unfold wsRead
  rw [takeWhile_all (rows_blank rows tr), read_rows]
noncomputable def weigh (f : Nat → Int) : Nat → List Int → Int
  | _, [] => 0
  | i, c :: r => f i * c + weigh f (i + 1) r
theorem weigh_append (f : Nat → Int) (a b : List Int) : ∀ i, weigh f i (a ++ b) = weigh f i a + weigh f (i + a.length) b := by
  induction a with
  | nil => intro i; simp [weigh]
  | cons c r ih =>
    intro i
    rw [List.cons_append, weigh, weigh, ih, List.length_cons]
    have e : i + 1 + r.length = i + (r.length + 1) := by omega
    rw [e]; omega
theorem weigh_zeros (f : Nat → Int) (k : Nat) : ∀ i, weigh f i (List.replicate k 0) = 0 := by
  induction k with
  | zero => intro i; rfl
  | succ k ih => intro i; rw [List.replicate_succ, weigh, ih]; simp
theorem weigh_set (f : Nat → Int) (cs : List Int) : ∀ (i j : Nat), j < cs.length → weigh f i (cs.set j (cs.getD j 0 + 1)) = weigh f i cs + f (i + j) := by
  induction cs with
  | nil => intro i j h; exact absurd h (Nat.not_lt_zero _)
  | cons c r ih =>
    intro i j h
    cases j with
    | zero =>
      simp only [List.set_cons_zero, List.getD_cons_zero, weigh, Nat.add_zero]
      rw [Int.mul_add, Int.mul_one]; omega
    | succ j =>
      simp only [List.set_cons_succ, List.getD_cons_succ, weigh]
      rw [ih (i + 1) j (by simpa using h)]
      have e : i + 1 + j = i + (j + 1) := by omega
      rw [e]; omega
theorem weigh_bump (f : Nat → Int) (cs : List Int) (r : Nat) : weigh f 0 (bump cs r) = weigh f 0 cs + f r := by
  unfold bump
  by_cases h : cs.length ≤ r
  · rw [if_pos h, weigh_set _ _ _ _ (by rw [List.length_append, List.length_replicate]; omega), weigh_append, weigh_zeros]
    simp
  · rw [if_neg h, weigh_set _ _ _ _ (by omega)]
    simp
theorem weigh_hist (f : Nat → Int) (rows : List Nat) : weigh f 0 (hist rows) = (rows.map f).sum := by
  have all : ∀ (l : List Nat) (cs : List Int), weigh f 0 (l.foldl bump cs) = weigh f 0 cs + (l.map f).sum := by
    intro l
    induction l with
    | nil => intro cs; simp
    | cons r rest ih => intro cs; rw [List.foldl_cons, ih, weigh_bump, List.map_cons, List.sum_cons]; omega
  have := all rows []
  simpa [weigh, hist] using this
theorem weigh_drop (f : Nat → Int) (cs : List Int) (k : Nat) (hf : ∀ i, i < k → f i = 0) (hk : k ≤ cs.length) : weigh f 0 cs = weigh f k (cs.drop k) := by
  have e : cs = cs.take k ++ cs.drop k := (List.take_append_drop k cs).symm
  have z : ∀ (l : List Int) (i : Nat), i + l.length ≤ k → weigh f i l = 0 := by
    intro l
    induction l with
    | nil => intro i _; rfl
    | cons c r ih =>
      intro i h
      rw [List.length_cons] at h
      rw [weigh, hf i (by omega), ih (i + 1) (by omega)]; simp
  conv => lhs; rw [e]
  rw [weigh_append, z _ _ (by simp; omega), List.length_take, Nat.min_eq_left hk]
  simp
theorem weigh_acc (f : Nat → Int) (cs : List Int) (k : Nat) : ∀ n, k + n ≤ cs.length → ∀ g : Nat → Int, (∀ i, g (i + 1) = g i + f (k + i) * cs.getD (k + i) 0) → g 0 = 0 → g n = weigh f k ((cs.drop k).take n) := by
  intro n
  induction n with
  | zero => intro _ g _ h0; simpa [weigh] using h0
  | succ n ih =>
    intro hn g hg h0
    have hlt : k + n < cs.length := hn
    have e : (cs.drop k).take (n + 1) = (cs.drop k).take n ++ [cs.getD (k + n) 0] := by
      rw [List.take_add_one]
      congr 1
      simp [List.getElem?_drop, List.getD_eq_getElem?_getD, hlt]
    rw [e, weigh_append, hg, ih (Nat.le_of_succ_le hn) g hg h0]
    have l : ((cs.drop k).take n).length = n := by rw [List.length_take, List.length_drop]; exact Nat.min_eq_left (Nat.le_sub_of_add_le (Nat.add_comm k n ▸ Nat.le_of_succ_le hn))
    rw [l]
    simp [weigh]
theorem ilAcc_weigh (cs : List Int) (k : Nat) (hk : 1 ≤ k) : ilAcc cs (k : Int) ((cs.length : Int) - (k : Int)).toNat = weigh (fun (i : Nat) => ((i / k : Nat) : Int)) 0 cs := by
  by_cases h : k ≤ cs.length
  · rw [weigh_drop (fun (i : Nat) => ((i / k : Nat) : Int)) cs k (fun i hi => by simp [Nat.div_eq_of_lt hi]) h]
    have e : ((cs.length : Int) - (k : Int)).toNat = cs.length - k := Int.toNat_sub cs.length k
    rw [e]
    have := weigh_acc (fun (i : Nat) => ((i / k : Nat) : Int)) cs k (cs.length - k) (by omega) (ilAcc cs (k : Int)) (fun i => ?_) rfl
    · rw [this, List.take_of_length_le (by simp)]
    · show ilAcc cs (k : Int) i + ((k : Int) + (i : Int)).fdiv (k : Int) * cs.getD ((k : Int) + (i : Int)).toNat 0 = _
      have e1 : ((k : Int) + (i : Int)).toNat = k + i := rfl
      have e2 : ((k : Int) + (i : Int)).fdiv (k : Int) = (((k + i) / k : Nat) : Int) := by
        rw [Int.fdiv_eq_ediv_of_nonneg _ (Int.natCast_nonneg k), ← Int.natCast_add, Int.natCast_ediv]
      rw [e1, e2]
  · have e : ((cs.length : Int) - (k : Int)).toNat = 0 := Int.toNat_eq_zero.mpr (Int.sub_nonpos_of_le (Int.ofNat_le.mpr (Nat.le_of_not_le h)))
    rw [e]
    have z : ∀ (l : List Int) (i : Nat), i + l.length ≤ k → weigh (fun (i : Nat) => ((i / k : Nat) : Int)) i l = 0 := by
      intro l
      induction l with
      | nil => intro i _; rfl
      | cons c r ih =>
        intro i h
        rw [List.length_cons] at h
        have hd : i / k = 0 := Nat.div_eq_of_lt (by omega)
        rw [weigh, ih (i + 1) (by omega)]
        simp [hd]
    rw [z cs 0 (by omega)]
    rfl
theorem ilev_rows (rows : List Nat) (tr : Int) (n : Int) (k : Nat) (hk : 1 ≤ k) : ilev (hist rows, tr, n, (rows.length : Int)) (k : Int) = tr + (k : Int) * ((rows.map fun (r : Nat) => ((r / k : Nat) : Int) + 1).sum) := by
  unfold ilev
  show tr + (k : Int) * (ilAcc (hist rows) (k : Int) (((hist rows).length : Int) - (k : Int)).toNat + (rows.length : Int)) = _
  rw [ilAcc_weigh _ _ hk, weigh_hist]
  congr 2
  induction rows with
  | nil => rfl
  | cons r rest ih => rw [List.map_cons, List.map_cons, List.sum_cons, List.sum_cons, List.length_cons, ← ih]; omega
end Mine
end

section
open PySem PySem.W PyProof.Rows
namespace Mine
theorem codes_append (a b : Str) : (a ++ b : Str).cps.toList = a.cps.toList ++ b.cps.toList := by rw [Str.cps_append, Array.toList_append]
theorem codes_empty : (Str.ofString "").cps.toList = [] := by decide +kernel
theorem codes_tab : (Str.ofString "\t").cps.toList = [9] := by decide +kernel
theorem codes_space : (Str.ofString " ").cps.toList = [32] := by decide +kernel
theorem fold_rep (a : Array Nat) (n : Nat) : ∀ acc : Array Nat, (List.foldl (fun x1 x2 => x1 ++ x2) acc (List.replicate n a)).toList = acc.toList ++ (List.replicate n a.toList).flatten := by
  induction n with
  | zero => intro acc; simp
  | succ n ih => intro acc; rw [List.replicate_succ, List.foldl_cons, ih, List.replicate_succ, List.flatten_cons, Array.toList_append, List.append_assoc]
theorem flat_one (c : Nat) (n : Nat) : (List.replicate n [c]).flatten = List.replicate n c := by
  induction n with
  | zero => rfl
  | succ k ih => rw [List.replicate_succ, List.flatten_cons, ih, List.replicate_succ]; rfl
theorem codes_mul_one {x : Str} {c : Nat} (hx : x.cps.toList = [c]) (n : Int) : (Txt.mul x n).cps.toList = List.replicate n.toNat c := by
  unfold Txt.mul
  by_cases h : n < 1
  · rw [if_pos h, show n.toNat = 0 by omega]
    rfl
  · rw [if_neg h]
    by_cases h1 : (n == 1 || x.length == 0) = true
    · rw [if_pos h1]
      have hl : x.length = 1 := by rw [← str_len, hx]; rfl
      have : n = 1 := by simpa [hl] using h1
      rw [hx, this]
      rfl
    · rw [if_neg h1]
      show (List.foldl (fun x1 x2 => x1 ++ x2) #[] (List.replicate n.toNat x.cps)).toList = _
      rw [fold_rep, hx, flat_one]
      rfl
theorem codes_mul (n : Int) : (Txt.mul (Str.ofString " ") n).cps.toList = List.replicate n.toNat 32 := codes_mul_one codes_space n
noncomputable def dvStep (k : Nat) (st : List Int × Nat × List Nat) (c : Int) : List Int × Nat × List Nat :=
  (st.1 ++ [65 + (((16 * st.2.1 + (c - 65).toNat) / k : Nat) : Int)], (16 * st.2.1 + (c - 65).toNat) % k, st.2.2 ++ [16 * st.2.1 + (c - 65).toNat])
noncomputable def dvRun (k : Nat) (pre : List Int) : List Int × Nat × List Nat := pre.foldl (dvStep k) ([], 0, [])
noncomputable def colOf (k : Nat) (rows : List Nat) : Int := (k : Int) * ((rows.map fun (r : Nat) => ((r / k : Nat) : Int) + 1).sum)
end Mine
end

section
open PySem PySem.W PyProof.Rows PySem.Spec PySem.Calls PyProof.V PyProof.Rows.LCg
namespace Mine
section
variable {prog : Program} {w : World} {A : Around} {h₀ : Heap} {L : Addr} {m : Str → Option Value}

noncomputable def tests (prog : Program) (w : World) (A : Around) (ifs : List Expr) (env : Env) (K : Bool → Shared → Prop) (E : Value → Shared → Prop) (s : Shared) : Prop :=
  match ifs with
  | [] => K true s
  | c :: _ => wpAny (model prog w) A (isTrue c env (eval c env)) K E s
theorem tests_mono {ifs : List Expr} {env : Env} {K K' : Bool → Shared → Prop} {E : Value → Shared → Prop} {s : Shared} (h : tests prog w A ifs env K E s) (hK : ∀ ok s, K ok s → K' ok s) : tests prog w A ifs env K' E s := by
  cases ifs with
  | nil => exact hK _ _ h
  | cons c r => exact wpAny_mono h hK fun _ _ e => e
noncomputable def CEnd (h₀ : Heap) (L : Addr) (m : Str → Option Value) (ca : List Addr) (own : List (Addr × Obj)) (D : Addr) (oD : Obj) (S : List (Addr × Obj) → Prop) (rest : List (Addr × Obj) → Prop) (s₁ s₂ : Shared) : Prop :=
  ∃ h' tk nw, s₂ = { s₁ with heap := h', toks := tk } ∧ Fr h₀ L h' m ∧ News h₀ L h' (own ++ (D, oD) :: nw) ∧ (∀ p ∈ nw, p.1 ∉ ca ∧ p.1 ≠ D) ∧ S nw ∧ rest nw
noncomputable def CRest (prog : Program) (w : World) (A : Around) (h₀ : Heap) (L : Addr) (m : Str → Option Value) (env : Env) (elt : Expr) (ifs : List Expr) (ca : List Addr) (D : Addr) (s : Shared) (S : List (Addr × Obj) → Prop) (B : Nat → List (Addr × Obj) → Prop)
    (Fin : List Value → List (Addr × Obj) → Prop) : Nat → Nat → List Value → List (Addr × Obj) → Prop
  | 0, _, ys, nw => Fin ys nw
  | k + 1, i, ys, nw => ∀ own h tk (E' : Value → Shared → Prop), B i own → (∀ p ∈ own, p.1 ∈ ca) → Fr h₀ L h m → News h₀ L h (own ++ (D, lst ys) :: nw) → (∀ p ∈ nw, p.1 ∉ ca ∧ p.1 ≠ D) →
      tests prog w A ifs env (fun ok s₃ => if ok = true then wpAny (model prog w) A (eval elt env) (fun y s₄ => CEnd h₀ L m ca own D (lst ys) S (fun nw' => CRest prog w A h₀ L m env elt ifs ca D s S B Fin k (i + 1) (ys ++ [y]) nw') s s₄) E' s₃
        else CEnd h₀ L m ca own D (lst ys) S (fun nw' => CRest prog w A h₀ L m env elt ifs ca D s S B Fin k (i + 1) ys nw') s s₃) E' { s with heap := h, toks := tk }

structure CSrc (prog : Program) (w : World) (A : Around) (h₀ : Heap) (L : Addr) (target : Expr) (env : Env) (I D C : Addr) (ca : List Addr) (n : Nat) (S : List (Addr × Obj) → Prop) (Idle : Nat → Heap → Prop) (B : Nat → List (Addr × Obj) → Prop) : Prop where
  next : ∀ i (s : Shared) (P : Option Value → Shared → Prop) (Q : Shared → Prop) (E : Value → Shared → Prop), i < n → Idle i s.heap →
    (∀ v s₁, wpAny (model prog w) A (letOwnedTupleGo target (.ref I) v) (fun _ s₀ => wpAny (model prog w) A (assign target env v) (fun _ s₂ => Q s₂) E s₀) E s₁ → P (some v) s₁) →
    (∀ own h' tk, B i own → (∀ p ∈ own, p.1 ∈ ca) → (∀ p ∈ own, h'.get? p.1 = some p.2) → (∀ b o, b ∉ ca → s.heap.get? b = some o → h'.get? b = some o) → Q { s with heap := h', toks := tk }) →
    wpAny (model prog w) A (pyNext (.ref I)) P E s
  back : ∀ i own h nw, B i own → (∀ p ∈ own, h.get? p.1 = some p.2) → (∀ b o, h₀.get? b = some o → h.get? b = some o) → News h₀ L h nw → S nw → Idle (i + 1) h
  keep : ∀ i h h', Idle i h → (∀ b o, b ≠ D → h.get? b = some o → h'.get? b = some o) → Idle i h'
  done : ∀ (s : Shared) (P : Option Value → Shared → Prop) (E : Value → Shared → Prop), Idle n s.heap →
    (∀ h' tk, (∀ b o, b ∉ ca → s.heap.get? b = some o → h'.get? b = some o) → (∃ m', h'.Ns C m') → P none { s with heap := h', toks := tk }) →
    wpAny (model prog w) A (pyNext (.ref I)) P E s
  self : ∀ (s : Shared) (Q : Value → Shared → Prop) (E : Value → Shared → Prop), Idle 0 s.heap → Q (.ref I) s → wpAny (model prog w) A (pyIter (.ref I)) Q E s

theorem my_loop {elt target iter : Expr} {ifs : List Expr} (hifs : ifs.length ≤ 1) {scope : Scope} {pos : Pos} {it acc : Value} {env : Env} {R : Result → Shared → Prop} (I : Nat → Shared → Prop)
    (turn : ∀ n s, I n s → wpAny (model prog w) A (pyNext it) (fun r s₁ => match r with
      | none => R (.ok .next) s₁
      | some v => wpAny (model prog w) A (letOwnedTupleGo target it v) (fun _ s₀ => wpAny (model prog w) A (assign target env v) (fun _ s₂ =>
          tests prog w A ifs env (fun ok s₃ => if ok = true then wpAny (model prog w) A (eval elt env) (fun x s₄ =>
            wpAny (model prog w) A (call (.builtin "list.append") [acc, x]) (fun _ s₅ => ∃ m, m < n ∧ I m s₅) (notedBy (model prog w) A env fun e s' => R (.error e) s') s₄) (notedBy (model prog w) A env fun e s' => R (.error e) s') s₃
            else ∃ m, m < n ∧ I m s₃) (notedBy (model prog w) A env fun e s' => R (.error e) s') s₂)
          (notedBy (model prog w) A env fun e s' => R (.error e) s') s₀) (notedBy (model prog w) A env fun e s' => R (.error e) s') s₁) (notedBy (model prog w) A env fun e s' => R (.error e) s') s)
    (n : Nat) (h : I n s) : codeAny (model prog w) A (.compLoop (.ListComp elt [⟨target, iter, ifs, 0⟩] scope pos) 0 it acc env) R s := by
  match ifs, hifs with
  | [], _ =>
    refine kcp_loop I (fun n s hI => wpAny_mono (turn n s hI) (fun r s₁ h₁ => ?_) fun _ _ e => e) n h
    cases r with
    | none => exact h₁
    | some v => exact wpAny_mono h₁ (fun _ s₀ h₀ => wpAny_mono h₀ (fun _ s₂ h₂ => by simpa [tests] using h₂) fun _ _ e => e) fun _ _ e => e
  | [c], _ => exact kct_loop I turn n h
  | _ :: _ :: _, h => exact absurd h (by simp)

theorem block_my {elt target iter : Expr} {ifs : List Expr} (hifs : ifs.length ≤ 1) {scope : Scope} {pos : Pos} {env : Env} {RR : Result → Shared → Prop} {I D C : Addr} {ca : List Addr} {n : Nat} {S : List (Addr × Obj) → Prop} {Idle : Nat → Heap → Prop} {B : Nat → List (Addr × Obj) → Prop}
    {Fin : List Value → List (Addr × Obj) → Prop} {nw₀ : List (Addr × Obj)} {s : Shared}
    (W : CSrc prog w A h₀ L target env I D C ca n S Idle B) (hsz : n ≤ sizeLine) (hDca : D ∉ ca) (hD0 : h₀.get? D = none) (hDL : D ≠ L) (hLca : L ∉ ca) (hca0 : ∀ b ∈ ca, h₀.get? b = none)
    (hidle : Idle 0 s.heap) (hacc : s.heap.get? D = some (lst [])) (F : Fr h₀ L s.heap m) (N : News h₀ L s.heap nw₀) (off : ∀ p ∈ nw₀, p.1 ∉ ca ∧ p.1 ≠ D) (hS : S nw₀)
    (R : CRest prog w A h₀ L m env elt ifs ca D s S B Fin n 0 [] nw₀)
    (hR : ∀ h tk ys nw, (∃ m', h.Ns C m') → Fr h₀ L h m → News h₀ L h ((D, lst ys) :: nw) → (∀ p ∈ nw, p.1 ∉ ca ∧ p.1 ≠ D) → Fin ys nw → RR (.ok .next) { s with heap := h, toks := tk }) :
    codeAny (model prog w) A (.compLoop (.ListComp elt [⟨target, iter, ifs, 0⟩] scope pos) 0 (.ref I) (.ref D) env) RR s := by
  have frTo : ∀ {h h' : Heap}, Fr h₀ L h m → (∀ b o, b ∉ ca → h.get? b = some o → h'.get? b = some o) → Fr h₀ L h' m := fun F' k =>
    ⟨F'.ns.at' fun o e => k _ o hLca e, fun b o e => k b o (fun hb => by rw [hca0 b hb] at e; cases e) (F'.keep b o e), F'.above⟩
  refine my_loop hifs
    (fun k s' => ∃ h' tk i ys nw, s' = { s with heap := h', toks := tk } ∧ i ≤ n ∧ k = n + 1 - i ∧ ys.length ≤ i ∧ Idle i h' ∧ Fr h₀ L h' m ∧ News h₀ L h' ((D, lst ys) :: nw) ∧ (∀ p ∈ nw, p.1 ∉ ca ∧ p.1 ≠ D) ∧ S nw ∧
      CRest prog w A h₀ L m env elt ifs ca D s S B Fin (n - i) i ys nw) ?_ (n + 1)
    ⟨s.heap, s.toks, 0, [], nw₀, rfl, Nat.zero_le _, rfl, Nat.le_refl _, hidle, F, fun p hp => ?_, off, hS, R⟩
  · rintro k s' ⟨h', tk, i, ys, nw, rfl, hi, rfl, hyl, hid, F', N', off', hS', R'⟩
    by_cases hlt : i < n
    · obtain ⟨j, hj⟩ : ∃ j, n - i = j + 1 := Nat.exists_eq_succ_of_ne_zero (Nat.sub_ne_zero_of_lt hlt)
      rw [hj] at R'
      refine W.next i _ _ _ _ hlt hid (fun v s₁ h₁ => h₁) fun own h₂ tk₂ hB hoc hog hk₂ => ?_
      have F₂ : Fr h₀ L h₂ m := frTo F' hk₂
      have N₂ : News h₀ L h₂ (own ++ (D, lst ys) :: nw) := fun p hp => by
        rcases List.mem_append.mp hp with hp | hp
        · exact ⟨hog p hp, fun e => hLca (e ▸ hoc p hp), hca0 _ (hoc p hp)⟩
        · refine ⟨hk₂ _ _ ?_ (N' p hp).1, (N' p hp).2⟩
          rcases List.mem_cons.mp hp with rfl | hp
          · exact hDca
          · exact (off' p hp).1
      have T := R' own h₂ tk₂ (notedBy (model prog w) A env fun e s' => RR (.error e) s') hB hoc F₂ N₂ off'
      have skip : ∀ (ys' : List Value) (s₃ : Shared), ys'.length ≤ i + 1 → CEnd h₀ L m ca own D (lst ys') S (fun nw' => CRest prog w A h₀ L m env elt ifs ca D s S B Fin j (i + 1) ys' nw') s s₃ →
          ∃ m₁, m₁ < n + 1 - i ∧ ∃ h' tk i' ys nw, s₃ = { s with heap := h', toks := tk } ∧ i' ≤ n ∧ m₁ = n + 1 - i' ∧ ys.length ≤ i' ∧ Idle i' h' ∧ Fr h₀ L h' m ∧ News h₀ L h' ((D, lst ys) :: nw) ∧ (∀ p ∈ nw, p.1 ∉ ca ∧ p.1 ≠ D) ∧ S nw ∧
            CRest prog w A h₀ L m env elt ifs ca D s S B Fin (n - i') i' ys nw := by
        rintro ys' s₃ hl ⟨h₃, tk₃, nw₃, rfl, F₃, N₃, off₃, hS₃, R₃⟩
        have N₃' : News h₀ L h₃ ((D, lst ys') :: nw₃) := fun p hp => N₃ p (List.mem_append_right _ hp)
        refine ⟨n + 1 - (i + 1), Nat.sub_lt_sub_left (Nat.lt_succ_of_lt hlt) (Nat.lt_succ_self i), h₃, tk₃, i + 1, ys', nw₃, rfl, hlt, rfl, hl, ?_, F₃, N₃', off₃, hS₃, ?_⟩
        · exact W.back i own h₃ nw₃ hB (fun p hp => (N₃ p (List.mem_append_left _ hp)).1) F₃.keep (fun p hp => N₃' p (List.mem_cons_of_mem _ hp)) hS₃
        · have : n - (i + 1) = j := by rw [Nat.sub_add_eq, hj]; rfl
          rw [this]; exact R₃
      have after : ∀ (ok : Bool) (s₃ : Shared), (if ok = true then wpAny (model prog w) A (eval elt env) (fun y s₄ => CEnd h₀ L m ca own D (lst ys) S (fun nw' => CRest prog w A h₀ L m env elt ifs ca D s S B Fin j (i + 1) (ys ++ [y]) nw') s s₄) (notedBy (model prog w) A env fun e s' => RR (.error e) s') s₃
          else CEnd h₀ L m ca own D (lst ys) S (fun nw' => CRest prog w A h₀ L m env elt ifs ca D s S B Fin j (i + 1) ys nw') s s₃) →
          (if ok = true then wpAny (model prog w) A (eval elt env) (fun x s₄ =>
            wpAny (model prog w) A (call (.builtin "list.append") [.ref D, x]) (fun _ s₅ => ∃ m₁, m₁ < n + 1 - i ∧ ∃ h' tk i' ys nw, s₅ = { s with heap := h', toks := tk } ∧ i' ≤ n ∧ m₁ = n + 1 - i' ∧ ys.length ≤ i' ∧ Idle i' h' ∧ Fr h₀ L h' m ∧ News h₀ L h' ((D, lst ys) :: nw) ∧ (∀ p ∈ nw, p.1 ∉ ca ∧ p.1 ≠ D) ∧ S nw ∧
              CRest prog w A h₀ L m env elt ifs ca D s S B Fin (n - i') i' ys nw) (notedBy (model prog w) A env fun e s' => RR (.error e) s') s₄) (notedBy (model prog w) A env fun e s' => RR (.error e) s') s₃
            else ∃ m₁, m₁ < n + 1 - i ∧ ∃ h' tk i' ys nw, s₃ = { s with heap := h', toks := tk } ∧ i' ≤ n ∧ m₁ = n + 1 - i' ∧ ys.length ≤ i' ∧ Idle i' h' ∧ Fr h₀ L h' m ∧ News h₀ L h' ((D, lst ys) :: nw) ∧ (∀ p ∈ nw, p.1 ∉ ca ∧ p.1 ≠ D) ∧ S nw ∧
              CRest prog w A h₀ L m env elt ifs ca D s S B Fin (n - i') i' ys nw) := by
        intro ok s₃ hok
        cases ok with
        | false =>
          simp only [Bool.false_eq_true, if_false] at hok ⊢
          exact skip ys s₃ (Nat.le_succ_of_le hyl) hok
        | true =>
          simp only [if_true] at hok ⊢
          refine wpAny_mono hok (fun y s₄ h₄ => ?_) fun _ _ e => e
          obtain ⟨h₃, tk₃, nw₃, rfl, F₃, N₃, off₃, hS₃, R₃⟩ := h₄
          have zD := (N₃ (D, lst ys) (List.mem_append_right _ List.mem_cons_self)).1
          refine append_at (hsz := by show ys.toArray.size ≤ sizeLine; rw [List.size_toArray]; exact Nat.le_trans hyl (Nat.le_trans hi hsz)) zD fun h₅ hs₅ hD₅ => ?_
          have N₃' : News h₀ L h₃ nw₃ := fun p hp => N₃ p (List.mem_append_right _ (List.mem_cons_of_mem _ hp))
          refine ⟨n + 1 - (i + 1), Nat.sub_lt_sub_left (Nat.lt_succ_of_lt hlt) (Nat.lt_succ_self i), h₅, tk₃, i + 1, ys ++ [y], nw₃, rfl, hlt, rfl, by rw [List.length_append, List.length_singleton]; exact Nat.succ_le_succ hyl, ?_, F₃.change hs₅ hDL hD0, fun p hp => ?_, off₃, hS₃, ?_⟩
          · exact W.keep (i + 1) h₃ h₅ (W.back i own h₃ nw₃ hB (fun p hp => (N₃ p (List.mem_append_left _ hp)).1) F₃.keep N₃' hS₃) fun b o hb e => hs₅.extBut b o hb e
          · rcases List.mem_cons.mp hp with rfl | hp
            · exact ⟨hD₅.trans (congrArg some (lst_snoc ys y)), hDL, hD0⟩
            · exact ⟨hs₅.extBut _ _ (off₃ p hp).2 (N₃' p hp).1, (N₃' p hp).2⟩
          · have : n - (i + 1) = j := by rw [Nat.sub_add_eq, hj]; rfl
            rw [this]; exact R₃
      exact tests_mono T after
    · have hin : i = n := Nat.le_antisymm hi (Nat.not_lt.mp hlt)
      subst hin
      rw [Nat.sub_self] at R'
      refine W.done _ _ _ hid fun h₂ tk₂ hk₂ hC₂ => ?_
      refine hR h₂ tk₂ ys nw hC₂ (frTo F' hk₂) (fun p hp => ⟨hk₂ _ _ ?_ (N' p hp).1, (N' p hp).2⟩) off' R'
      rcases List.mem_cons.mp hp with rfl | hp
      · exact hDca
      · exact (off' p hp).1
  · rcases List.mem_cons.mp hp with rfl | hp
    · exact ⟨hacc, hDL, hD0⟩
    · exact N p hp
end
theorem np (n k : Nat) (h : 0 < k) : n + k ≠ n := Nat.ne_of_gt (Nat.lt_add_of_pos_right h)
theorem nq {a b : Nat} (n : Nat) (h : a ≠ b) : n + a ≠ n + b := fun e => h (Nat.add_left_cancel e)
theorem ad1 {n D C : Nat} (hD : D = n + 1) (hC : C = n + 2) : C ≠ n ∧ D ≠ n ∧ D ≠ C ∧ n ≠ D ∧ n ≤ C ∧ C ≠ D := by
  subst hD hC
  exact ⟨np n 2 (by decide), np n 1 (by decide), nq n (by decide), Ne.symm (np n 1 (by decide)), Nat.le_add_right n 2, nq n (by decide)⟩
theorem ad2 {n D C p : Nat} (hD : D = n + 1) (hC : C = n + 2) (h : p < n) : p ≠ n ∧ p ≠ C ∧ p ≠ D ∧ p ≠ C + 1 := by
  subst hD hC
  exact ⟨Nat.ne_of_lt h, Nat.ne_of_lt (Nat.lt_add_right 2 h), Nat.ne_of_lt (Nat.lt_add_right 1 h), Nat.ne_of_lt (Nat.lt_add_right 3 h)⟩
theorem ad3 {n D C : Nat} (hD : D = n + 1) (hC : C = n + 2) : C + 1 ≠ n ∧ C + 1 ≠ D ∧ n ≤ C + 1 := by
  subst hD hC
  exact ⟨np n 3 (by decide), nq (a := 3) n (by decide), Nat.le_add_right n 3⟩
theorem ad4 {n D C : Nat} (hD : D = n + 2) (hC : C = n + 3) : C ≠ n + 1 ∧ C ≠ n ∧ D ≠ n + 1 ∧ D ≠ n ∧ D ≠ C ∧ n ≤ C ∧ n + 1 ≠ D ∧ n ≠ D ∧ C ≠ D := by
  subst hD hC
  exact ⟨nq n (by decide), np n 3 (by decide), nq n (by decide), np n 2 (by decide), nq n (by decide), Nat.le_add_right n 3, nq n (by decide), Ne.symm (np n 2 (by decide)), nq n (by decide)⟩
theorem ad5 {n D C p : Nat} (hD : D = n + 2) (hC : C = n + 3) (h : p < n) : p ≠ n + 1 ∧ p ≠ n ∧ p ≠ C ∧ D ≠ p ∧ C ≠ p := by
  subst hD hC
  exact ⟨Nat.ne_of_lt (Nat.lt_add_right 1 h), Nat.ne_of_lt h, Nat.ne_of_lt (Nat.lt_add_right 3 h), Nat.ne_of_gt (Nat.lt_add_right 2 h), Nat.ne_of_gt (Nat.lt_add_right 3 h)⟩
end Mine
end

section
open PySem PySem.W PyProof.Rows PySem.Spec PySem.Calls PyProof.V PyProof.Rows.LCg
namespace Mine
section
variable {prog : Program} {w : World} {A : Around} {h₀ : Heap} {L : Addr} {m : Str → Option Value} {E : Value → Shared → Prop} {s : Shared} {env : Env}

theorem newEnv_around {scope : Scope} {globals : Addr} {cl : List (Str × Addr)} {qual : Str} {outer : Env} {Q : Env → Shared → Prop}
    (hQ : Q (newEnv scope s.heap.objs.size globals (cellsFrom (s.heap.objs.size + 1) scope.names cl) qual none .none (some outer) builtinsNs) { s with heap := pushCells (s.heap.push { cls := .type "dict", data := .dict #[] }) scope.names }) :
    wpAny (model prog w) A (newFunctionEnv scope globals cl [] qual none .none (some outer)) Q E s := by
  simp only [newFunctionEnv, Option.isSome_some, if_true]
  refine wpAny_bind (wpAny_alloc ?_)
  refine wpAny_bind (wpAny_layCells _ (fun name kind cells => by cases hkc : kind == NameKind.cell <;> simp [hkc]) _ _ _ _ ?_)
  rw [show ({ s with heap := s.heap.push { cls := .type "dict", data := .dict #[] } } : Shared).heap.objs.size = s.heap.objs.size + 1 from Heap.size_push ..]
  refine wpAny_bind ?_
  rw [List.forIn_nil]
  exact wpAny_pure (wpAny_pure hQ)

noncomputable def CompAt (prog : Program) (w : World) (A : Around) (h₀ : Heap) (L : Addr) (m : Str → Option Value) (env : Env) (target elt : Expr) (ifs : List Expr) (scope : Scope) (cl : List (Str × Addr)) (Fin : Addr → Shared → List Value → List (Addr × Obj) → Prop) (it : Value) (s₂ : Shared) : Prop :=
  ∃ I n nw₀, it = .ref I ∧ n ≤ sizeLine ∧ Fr h₀ L s₂.heap m ∧ News h₀ L s₂.heap nw₀ ∧
      ∀ D C h₃, D = s₂.heap.objs.size → C = D + 1 → h₃ = pushCells ((s₂.heap.push (lst [])).push { cls := .type "dict", data := .dict #[] }) scope.names →
        ∃ ca S Idle B, CSrc prog w A h₀ L target (compEnvC scope (cellsFrom (C + 1) scope.names cl) C env) I D C ca n S Idle B ∧ (∀ b ∈ ca, h₀.get? b = none ∧ b ≠ L ∧ b ≠ D) ∧ C ∈ ca ∧ Idle 0 h₃ ∧ (∀ p ∈ nw₀, p.1 ∉ ca) ∧ S nw₀ ∧
          CRest prog w A h₀ L m (compEnvC scope (cellsFrom (C + 1) scope.names cl) C env) elt ifs ca D { s₂ with heap := h₃ } S B (Fin D s₂) n 0 [] nw₀
noncomputable def FinEx (h₀ : Heap) (L : Addr) (m : Str → Option Value) (Q : Value → Shared → Prop) (D : Addr) (s₂ : Shared) (ys : List Value) (nw : List (Addr × Obj)) : Prop :=
  ∀ h tk, Fr h₀ L h m → News h₀ L h ((D, lst ys) :: nw) → (∀ p ∈ nw, p.1 ≠ D) → Q (.ref D) { s₂ with heap := h, toks := tk }
noncomputable def FinAs (h₀ : Heap) (L : Addr) (m : Str → Option Value) (y : Str) (Q : Flow → Shared → Prop) (D : Addr) (s₂ : Shared) (ys : List Value) (nw : List (Addr × Obj)) : Prop :=
  ∀ h tk, Fr h₀ L h (fun z => if z = y then some (.ref D) else m z) → News h₀ L h ((D, lst ys) :: nw) → (∀ p ∈ nw, p.1 ≠ D) → Q .next { s₂ with heap := h, toks := tk }

theorem comp_at_code {elt iter target : Expr} {ifs : List Expr} {scope : Scope} {cl : List (Str × Addr)} {pos : Pos} (hifs : ifs.length ≤ 1) {it : Value} {s₂ : Shared} {Fin : Addr → Shared → List Value → List (Addr × Obj) → Prop} {RR : Value → Addr → Result → Shared → Prop}
    (h : CompAt prog w A h₀ L m env target elt ifs scope cl Fin it s₂)
    (hR : ∀ D C h tk m' ys nw, C ≠ L → h₀.get? C = none → C ≠ D → (∀ p ∈ nw, p.1 ≠ C ∧ p.1 ≠ D) → h.Ns C m' → Fr h₀ L h m → News h₀ L h ((D, lst ys) :: nw) → Fin D s₂ ys nw → RR (.ref D) C (.ok .next) { s₂ with heap := h, toks := tk }) :
    wpAny (model prog w) A (newList []) (fun acc s₃ => wpAny (model prog w) A (newFunctionEnv scope env.globals cl [] env.qual none .none (some env)) (fun cenv s₄ =>
      codeAny (model prog w) A (.compStart (.ListComp elt [⟨target, iter, ifs, 0⟩] scope pos) 0 it acc { cenv with scope := relabel scope env }) (RR acc cenv.locals) s₄) E s₃) E s₂ := by
  obtain ⟨I, n, nw₀, rfl, hsz, F, N, h₂⟩ := h
  have e0 : s₂.heap.push { cls := .type "list", dict := none, data := .seq ([] : List Value).toArray } = s₂.heap.push (lst []) := rfl
  refine wpAny_newObj_type ?_
  rw [e0]
  try dsimp only
  refine newEnv_around ?_
  have hC : (s₂.heap.push (lst [])).objs.size = s₂.heap.objs.size + 1 := Heap.size_push ..
  try dsimp only
  rw [hC]
  obtain ⟨ca, S, Idle, B, W, hca, hCca, hid, hoff, hS, R⟩ := h₂ s₂.heap.objs.size (s₂.heap.objs.size + 1) _ rfl rfl rfl
  have old : ∀ b o, s₂.heap.get? b = some o → (pushCells ((s₂.heap.push (lst [])).push { cls := .type "dict", data := .dict #[] }) scope.names).get? b = some o := fun b o e => pushCells_keeps _ _ _ _ (Heap.get?_push_of_some _ (Heap.get?_push_of_some _ e))
  have hD0 : h₀.get? s₂.heap.objs.size = none := next_is_new F
  have hDL : s₂.heap.objs.size ≠ L := Nat.ne_of_gt F.ns.lt
  have hacc : (pushCells ((s₂.heap.push (lst [])).push { cls := .type "dict", data := .dict #[] }) scope.names).get? s₂.heap.objs.size = some (lst []) := pushCells_keeps _ _ _ _ (Heap.get?_push_of_some _ (Heap.get?_push_size _ rfl))
  have loop := block_my (s := { s₂ with heap := pushCells ((s₂.heap.push (lst [])).push { cls := .type "dict", data := .dict #[] }) scope.names }) (elt := elt) (iter := iter) (target := target) hifs (scope := scope) (pos := pos)
    (RR := RR (.ref s₂.heap.objs.size) (s₂.heap.objs.size + 1)) W hsz (fun hm => (hca _ hm).2.2 rfl) hD0 hDL (fun hm => (hca _ hm).2.1 rfl) (fun b hb => (hca b hb).1) hid hacc (F.keeps old) (N.grown old)
    (fun p hp => ⟨hoff p hp, Nat.ne_of_lt (Heap.lt_size (N p hp).1)⟩) hS R ?_
  · exact codeAny_compStart_list loop (W.self _ _ _ hid loop)
  · intro h tk ys nw hC' F' N' off' fin
    obtain ⟨m', hn⟩ := hC'
    exact hR _ _ h tk m' ys nw (hca _ hCca).2.1 (hca _ hCca).1 (Nat.ne_of_gt (Nat.lt_succ_self _)) (fun p hp => ⟨fun e => (off' p hp).1 (e ▸ hCca), (off' p hp).2⟩) hn F' N' fin

theorem ListComp_my {elt iter target : Expr} {ifs : List Expr} {scope : Scope} {cl : List (Str × Addr)} {pos : Pos} {Q : Value → Shared → Prop} (_F₀ : Fr h₀ L s.heap m) (hifs : ifs.length ≤ 1)
    (hclos : closureFor scope env = pure cl) (hkind : scope.kind = .function) (hnames : ∀ y ∈ scope.names, y.2 = .local → scope.names.lookup y.1 = some .local)
    (h : wpAny (model prog w) A (eval iter env) (fun xv s₁ => wpAny (model prog w) A (pyIter xv) (CompAt prog w A h₀ L m env target elt ifs scope cl (FinEx h₀ L m Q)) E s₁) E s)
    (hs : ∀ x, foldedSetIterable iter env x = pure x) :
    wpAny (model prog w) A (eval (.ListComp elt [⟨target, iter, ifs, 0⟩] scope pos) env) Q E s := by
  rw [eval_ListComp]
  refine wpAny_comprehension_free (use := none) rfl hs hclos hkind hnames (wpAny_mono h (fun xv s₁ h₁ => wpAny_mono h₁ (fun it s₂ h₂ => ?_) fun _ _ e => e) fun _ _ e => e)
  refine comp_at_code hifs h₂ ?_
  intro D C h tk m' ys nw hCL hC₀ hCD off' hn F' N' fin
  refine ⟨m', hn, fun h'' hs'' => ?_⟩
  refine fin h'' tk (F'.change hs'' hCL hC₀) (fun p hp => ⟨hs''.extBut _ _ ?_ (N' p hp).1, (N' p hp).2⟩) fun p hp => (off' p hp).2
  rcases List.mem_cons.mp hp with rfl | hp
  · exact Ne.symm hCD
  · exact (off' p hp).1

theorem Assign_ListComp_my {elt iter target : Expr} {ifs : List Expr} {y : Str} {py : Pos} {scope : Scope} {cl : List (Str × Addr)} {pos spos : Pos} {Q : Flow → Shared → Prop} (_F₀ : Fr h₀ L s.heap m) (hifs : ifs.length ≤ 1) (hLe : env.locals = L)
    (hsw : swapsWith (.ListComp elt [⟨target, iter, ifs, 0⟩] scope pos) (some (.Name y py)) spos.line env = pure true)
    (hclos : closureFor scope env = pure cl) (hkind : scope.kind = .function) (hnames : ∀ y ∈ scope.names, y.2 = .local → scope.names.lookup y.1 = some .local)
    (hy : env.kindOf y = some .local) (hp : (env.scope.kind == .class || (env.scope.kind == .module && env.locals != env.globals)) = false)
    (h : wpAny (model prog w) A (eval iter env) (fun xv s₁ => wpAny (model prog w) A (pyIter xv) (CompAt prog w A h₀ L m env target elt ifs scope cl (FinAs h₀ L m y Q)) E s₁) E s)
    (hs : ∀ x, foldedSetIterable iter env x = pure x) :
    wpAny (model prog w) A (exec (.Assign [.Name y py] (.ListComp elt [⟨target, iter, ifs, 0⟩] scope pos) spos) env) Q E s := by
  subst hLe
  rw [exec_Assign_Name_used _ _ _ _ hsw]
  refine wpAny_bind (wpAny_standAt (wpAny_bind ?_))
  show wpAny _ A (do let _ ← comprehension (.ListComp elt [⟨target, iter, ifs, 0⟩] scope pos) scope env _ (newList []) false (eval iter env) (some (assign (.Name y py) env))) _ _ s
  refine wpAny_bind (wpAny_mono (wpAny_comprehension_free (use := some (assign (.Name y py) env)) (Q := fun _ s' => Q .next s') rfl hs hclos hkind hnames
    (wpAny_mono h (fun xv s₁ h₁ => wpAny_mono h₁ (fun it s₂ h₂ => ?_) fun _ _ e => e) fun _ _ e => e)) (fun _ s' hq => wpAny_pure (wpAny_pure hq)) fun _ _ e => e)
  refine comp_at_code hifs h₂ ?_
  intro D C h' tk m' ys nw hCL hC₀ hCD off' hn F' N' fin
  show wpAny _ A (assign (.Name y py) env (.ref D)) _ _ _
  refine wpAny_assign_Name (wpAny_storeName_local hy F'.ns (fun h₂ hn₂ hs₂ => ?_) hp)
  have hL₀ : h₀.get? env.locals = none := Heap.get?_none_of_le F'.above
  have F₂ : Fr h₀ env.locals h₂ (fun z => if z = y then some (.ref D) else m z) := ⟨hn₂, fun b o e => hs₂.extBut b o (fun q => by rw [q, hL₀] at e; cases e) (F'.keep b o e), F'.above⟩
  refine ⟨m', hn.sameBut hs₂ hCL, fun h'' hs'' => fin h'' _ (F₂.change hs'' hCL hC₀) (fun p hp => ?_) fun p hp => (off' p hp).2⟩
  have z : h₂.get? p.1 = some p.2 := hs₂.extBut _ _ (N' p hp).2.1 (N' p hp).1
  refine ⟨hs''.extBut _ _ ?_ z, (N' p hp).2⟩
  rcases List.mem_cons.mp hp with rfl | hp
  · exact Ne.symm hCD
  · exact (off' p hp).1
end
end Mine
end

section
open PySem PySem.W PyProof.Rows PySem.Spec PySem.Calls PyProof.V PyProof.Rows.LCg
namespace Mine
theorem cells_none {names : List (Str × NameKind)} : ∀ (n : Nat) (cl : List (Str × Addr)), (∀ y ∈ names, y.2 ≠ .cell) → cellsFrom n names cl = cl := by
  induction names with
  | nil => intro n cl _; rfl
  | cons y r ih =>
    intro n cl h
    obtain ⟨x, k⟩ := y
    have hk : (k == NameKind.cell) = false := by simpa using h _ (.head _)
    unfold cellsFrom
    rw [hk]
    exact ih n cl fun z hz => h z (.tail _ hz)
theorem push_none {names : List (Str × NameKind)} : ∀ (g : Heap), (∀ y ∈ names, y.2 ≠ .cell) → pushCells g names = g := by
  induction names with
  | nil => intro g _; rfl
  | cons y r ih =>
    intro g h
    obtain ⟨x, k⟩ := y
    have hk : (k == NameKind.cell) = false := by simpa using h _ (.head _)
    unfold pushCells
    rw [hk]
    exact ih g fun z hz => h z (.tail _ hz)
section
variable {prog : Program} {w : World} {A : Around} {h₀ : Heap} {L : Addr} {m : Str → Option Value} {E : Value → Shared → Prop} {s : Shared} {env : Env}

noncomputable def EnumB (e it l C : Addr) (items : Array Value) (a b : Str) (i : Nat) (own : List (Addr × Obj)) : Prop :=
  ∃ (oe oit oC : Obj) (m₂ : Str → Option Value) (v : Value) (t : Tok), own = [(e, oe), (it, oit), (C, oC)] ∧ NsObj oC m₂ ∧ items[i]? = some v ∧ m₂ a = some (.int i t) ∧ m₂ b = some v ∧
    (∀ h : Heap, h.get? e = some oe → ∃ old, IsEnum h e it ((i + 1 : Nat) : Int) old) ∧ (∀ h : Heap, h.get? it = some oit → h.IsListIter it l (i + 1))
noncomputable def EnumI (e it l C : Addr) (items : Array Value) (i : Nat) (h : Heap) : Prop := (∃ old, IsEnum h e it (i : Int) old) ∧ h.IsListIter it l i ∧ h.IsList l items ∧ ∃ m', h.Ns C m'

theorem CSrc.enum (hh : A.handled = none) {e it l C D : Addr} (hei : e ≠ it) (hle : l ≠ e) (hli : l ≠ it) (hCe : C ≠ e) (hCi : C ≠ it) (hCl : C ≠ l) (hDe : D ≠ e) (hDi : D ≠ it) (hDl : D ≠ l) (hDC : D ≠ C)
    {items : Array Value} {n : Nat} {a b : Str} {pa pb tp : Pos} {kk : Nat} (hab : ¬ a = b) (hC : env.locals = C) (ha : env.kindOf a = some .local) (hb : env.kindOf b = some .local)
    (hp : (env.scope.kind == .class || (env.scope.kind == .module && env.locals != env.globals)) = false) :
    CSrc prog w A h₀ L (.Tuple [.Name a pa, .Name b pb] kk tp) env e D C [e, it, C] items.size (fun nw => (l, ({ cls := .type "list", data := .seq items n } : Obj)) ∈ nw) (EnumI e it l C items) (EnumB e it l C items a b) where
  next := by
    intro i s P Q E hi hid hP hQ
    obtain ⟨he, hit, hl, m', hn⟩ := hid
    have W := WalksT.enumerate (prog := prog) (w := w) hh e it l hei hle hli items
    refine W.item i s P E hi ⟨he, hit, hl⟩ fun T vals h' tk hPv _ hT hMid hk => hP _ _ ?_
    refine W.go _ _ _ i T _ _ _ hMid fun h₂ hSt hk₂ => ?_
    obtain ⟨t, x, hx, rfl⟩ := hPv
    have hap := W.apart i T h' hMid
    have hT₂ : h₂.IsTuple T #[.int i t, x] := by obtain ⟨o, ho, r⟩ := hT; exact ⟨o, hk₂ T o hap ho, r⟩
    have nm : ∀ c, c ≠ e → c ≠ it → c ∉ [e, it] := fun c h1 h2 hm => by
      rcases List.mem_cons.mp hm with q | q
      · exact h1 q
      · exact h2 (List.mem_singleton.mp q)
    have up : ∀ c o, c ≠ e → c ≠ it → s.heap.get? c = some o → h₂.get? c = some o := fun c o h1 h2 q => hk₂ c o (nm c h1 h2) (hk c o (nm c h1 h2) q)
    refine kcp_assign hh hT₂ ha hb hp (m := m') (by rw [hC]; exact hn.at' fun o q => up C o hCe hCi q) fun h₃ tk₃ hn₃ hk₃ => ?_
    rw [hC] at hn₃ hk₃
    obtain ⟨⟨old, he₂⟩, hit₂, hl₂⟩ := hSt
    obtain ⟨oC, heC, hoC⟩ := ns_obj hn₃
    obtain ⟨oit, hoit, r1, r2⟩ := hit₂
    refine hQ [(e, _), (it, oit), (C, oC)] h₃ tk₃ ⟨_, _, _, _, x, t, rfl, hoC, hx, ?_, by simp, fun h q => ⟨old, q⟩, fun h q => ⟨oit, q, r1, r2⟩⟩ ?_ ?_ ?_
    · simp [hab]
    · intro p hp
      rcases List.mem_cons.mp hp with rfl | hp
      · exact List.mem_cons_self
      · rcases List.mem_cons.mp hp with rfl | hp
        · exact List.mem_cons_of_mem _ List.mem_cons_self
        · rw [List.mem_singleton.mp hp]; exact List.mem_cons_of_mem _ (List.mem_cons_of_mem _ List.mem_cons_self)
    · intro p hp
      rcases List.mem_cons.mp hp with rfl | hp
      · exact hk₃ _ _ (Ne.symm hCe) (by simpa using he₂)
      · rcases List.mem_cons.mp hp with rfl | hp
        · exact hk₃ _ _ (Ne.symm hCi) hoit
        · rw [List.mem_singleton.mp hp]; exact heC
    · intro c o hc q
      have h1 : c ≠ e := fun z => hc (by rw [z]; exact List.mem_cons_self)
      have h2 : c ≠ it := fun z => hc (by rw [z]; exact List.mem_cons_of_mem _ List.mem_cons_self)
      have h3 : c ≠ C := fun z => hc (by rw [z]; exact List.mem_cons_of_mem _ (List.mem_cons_of_mem _ List.mem_cons_self))
      exact hk₃ c o h3 (up c o h1 h2 q)
  back := by
    intro i own h nw hB hog _ N hS
    obtain ⟨oe, oit, oC, m₂, v, t, rfl, hoC, _, _, _, f1, f2⟩ := hB
    exact ⟨f1 h (hog (e, oe) List.mem_cons_self), f2 h (hog (it, oit) (List.mem_cons_of_mem _ List.mem_cons_self)), ⟨_, (N _ hS).1, rfl, _, rfl⟩, m₂, hoC.ns (hog (C, oC) (List.mem_cons_of_mem _ (List.mem_cons_of_mem _ List.mem_cons_self)))⟩
  keep := by
    intro i h h' hid k
    obtain ⟨⟨old, he⟩, hit, hl, m', hn⟩ := hid
    exact ⟨⟨old, k _ _ (Ne.symm hDe) he⟩, hit.at fun o q => k _ o (Ne.symm hDi) q, hl.at fun o q => k _ o (Ne.symm hDl) q, m', hn.at' fun o q => k _ o (Ne.symm hDC) q⟩
  done := by
    intro s P E hid hP
    obtain ⟨he, hit, hl, m', hn⟩ := hid
    have W := WalksT.enumerate (prog := prog) (w := w) hh e it l hei hle hli items
    have nm : ∀ c, c ∉ [e, it, C] → c ∉ [e, it] := fun c h hm => h (by
      rcases List.mem_cons.mp hm with q | q
      · exact q ▸ List.mem_cons_self
      · exact List.mem_singleton.mp q ▸ List.mem_cons_of_mem _ List.mem_cons_self)
    refine W.done s P E ⟨he, hit, hl⟩ fun h' tk hk => hP h' tk (fun c o hc q => hk c o (nm c hc) q) ⟨m', hn.at' fun o q => hk C o ?_ q⟩
    intro hm
    rcases List.mem_cons.mp hm with q | q
    · exact hCe q
    · exact hCi (List.mem_singleton.mp q)
  self := by
    intro s Q E hid hQ
    obtain ⟨⟨old, he⟩, _⟩ := hid
    exact wpAny_pyIter_enum he hQ

theorem enum_at {elt : Expr} {ifs : List Expr} {scope : Scope} {cl : List (Str × Addr)} {l : Addr} {items : Array Value} {n : Nat} {a b : Str} {pa pb tp : Pos} {kk : Nat} {nw₀ : List (Addr × Obj)} {Fin : Addr → Shared → List Value → List (Addr × Obj) → Prop}
    (hh : A.handled = none) (F : Fr h₀ L s.heap m) (N : News h₀ L s.heap nw₀) (hm : (l, ({ cls := .type "list", data := .seq items n } : Obj)) ∈ nw₀) (hsz : items.size ≤ sizeLine) (hab : ¬ a = b)
    (hcell : ∀ y ∈ scope.names, y.2 ≠ .cell) (hkind : scope.kind = .function) (hxa : scope.names.lookup a = some .local) (hxb : scope.names.lookup b = some .local)
    (R : ∀ D C e it h₁ h₂, (∀ p ∈ nw₀, p.1 < it) → e = it + 1 → D = it + 2 → C = it + 3 → CRest prog w A h₀ L m (compEnvC scope cl C env) elt ifs [e, it, C] D { s with heap := h₁ } (fun nw => (l, ({ cls := .type "list", data := .seq items n } : Obj)) ∈ nw) (EnumB e it l C items a b)
      (Fin D { s with heap := h₂ }) items.size 0 [] nw₀) :
    wpAny (model prog w) A (call (.type "enumerate") [.ref l]) (fun xv s₁ => wpAny (model prog w) A (pyIter xv) (CompAt prog w A h₀ L m env (.Tuple [.Name a pa, .Name b pb] kk tp) elt ifs scope cl Fin) E s₁) E s := by
  have hl : s.heap.IsList l items := ⟨_, (N _ hm).1, rfl, _, rfl⟩
  have hlt : l < s.heap.objs.size := Heap.lt_size (N _ hm).1
  refine call_enumerate_list hl fun h' he hit hsz' hk => ?_
  refine wpAny_pyIter_enum he ?_
  refine ⟨s.heap.objs.size + 1, items.size, nw₀, rfl, hsz, F.keeps hk, N.grown hk, ?_⟩
  intro D C h₃ hD hC hh3
  have hD' : D = s.heap.objs.size + 2 := by rw [hD]; exact hsz'
  have hDn : @Eq Nat D (s.heap.objs.size + 2) := hD'
  have hCn : @Eq Nat C (s.heap.objs.size + 3) := by rw [hC, hD']
  have hltn : @LT.lt Nat _ l s.heap.objs.size := hlt
  rw [cells_none _ _ hcell]
  rw [push_none _ hcell] at hh3
  have hNlt : ∀ p ∈ nw₀, p.1 < s.heap.objs.size := fun p hp => Heap.lt_size (N p hp).1
  have fresh : ∀ c, s.heap.objs.size ≤ c → h₀.get? c = none := fun c hc => by
    cases q : h₀.get? c with
    | none => rfl
    | some o => exact absurd (Nat.lt_of_lt_of_le (Heap.lt_size (F.keep c o q)) hc) (Nat.lt_irrefl _)
  have hLlt : L < s.heap.objs.size := F.ns.lt
  have up : ∀ c o, h'.get? c = some o → h₃.get? c = some o := fun c o q => by rw [hh3]; exact Heap.get?_push_of_some _ (Heap.get?_push_of_some _ q)
  have hnsC : h₃.Ns C (fun _ => none) := by
    have e1 : ((h'.push (lst [])) : Heap).objs.size = C := by rw [Heap.size_push, hC, hD]
    rw [hh3, ← e1]
    exact Heap.Ns.new _ (.type "dict")
  refine ⟨[s.heap.objs.size + 1, s.heap.objs.size, C], _, _, _, CSrc.enum (n := n) hh (it := s.heap.objs.size) (l := l) (items := items) ?_ ?_ ?_ ?_ ?_ ?_ ?_ ?_ ?_ ?_ hab rfl (lookup_relabel_local hxa) (lookup_relabel_local hxb) (by simp [compEnvC, relabel, hkind]), ?_, ?_, ?_, ?_, hm, R D C _ _ h₃ _ hNlt rfl hD' hCn⟩
  case refine_1 => exact Nat.ne_of_gt (Nat.lt_succ_self _)
  case refine_2 => exact Nat.ne_of_lt (Nat.lt_succ_of_lt hlt)
  case refine_3 => exact Nat.ne_of_lt hlt
  case refine_4 => exact (ad4 hDn hCn).1
  case refine_5 => exact (ad4 hDn hCn).2.1
  case refine_6 => exact (ad5 hDn hCn hltn).2.2.2.2
  case refine_7 => exact (ad4 hDn hCn).2.2.1
  case refine_8 => exact (ad4 hDn hCn).2.2.2.1
  case refine_9 => exact (ad5 hDn hCn hltn).2.2.2.1
  case refine_10 => exact (ad4 hDn hCn).2.2.2.2.1
  case refine_11 =>
    intro c hc
    have hb : s.heap.objs.size ≤ c ∧ c ≠ D := by
      rcases List.mem_cons.mp hc with rfl | hc
      · exact ⟨Nat.le_succ _, (ad4 hDn hCn).2.2.2.2.2.2.1⟩
      · rcases List.mem_cons.mp hc with rfl | hc
        · exact ⟨Nat.le_refl _, (ad4 hDn hCn).2.2.2.2.2.2.2.1⟩
        · rw [List.mem_singleton.mp hc]; exact ⟨(ad4 hDn hCn).2.2.2.2.2.1, (ad4 hDn hCn).2.2.2.2.2.2.2.2⟩
    exact ⟨fresh c hb.1, Nat.ne_of_gt (Nat.lt_of_lt_of_le hLlt hb.1), hb.2⟩
  case refine_12 => exact List.mem_cons_of_mem _ (List.mem_cons_of_mem _ List.mem_cons_self)
  case refine_13 => exact ⟨⟨_, up _ _ he⟩, hit.at fun o q => up _ o q, hl.at fun o q => up _ o (hk _ o q), _, hnsC⟩
  case refine_14 =>
    intro p hp hc
    have h1 : @LT.lt Nat _ p.1 s.heap.objs.size := hNlt p hp
    rcases List.mem_cons.mp hc with q | hc
    · exact (ad5 hDn hCn h1).1 q
    · rcases List.mem_cons.mp hc with q | hc
      · exact (ad5 hDn hCn h1).2.1 q
      · exact (ad5 hDn hCn h1).2.2.1 (List.mem_singleton.mp hc)
end
end Mine
end

section
open PySem PySem.W PyProof.Rows PySem.Spec PySem.Calls PyProof.V PyProof.Rows.LCg
namespace Mine
section
variable {prog : Program} {w : World} {A : Around} {h₀ : Heap} {L : Addr} {m : Str → Option Value} {env : Env}
noncomputable def IntBack (h₀ : Heap) (L : Addr) (m : Str → Option Value) (led : List (Addr × Obj)) (s : Shared) (P : Int → Prop) (y : Value) (s₄ : Shared) : Prop :=
  ∃ z t h' tk', y = .int z t ∧ P z ∧ s₄ = { s with heap := h', toks := tk' } ∧ Fr h₀ L h' m ∧ News h₀ L h' led
theorem IntBack.intro {led led' : List (Addr × Obj)} {s : Shared} {P : Int → Prop} {z : Int} {t : Tok} {h' : Heap} {tk' : Nat} (F : Fr h₀ L h' m) (N : News h₀ L h' led') (hs : ∀ p ∈ led, p ∈ led') (hP : P z) :
    IntBack h₀ L m led s P (.int z t) { s with heap := h', toks := tk' } := ⟨z, t, h', tk', rfl, hP, rfl, F, fun p hp => N p (hs p hp)⟩
theorem crest_ints {elt : Expr} {ca : List Addr} {D : Addr} {s : Shared} {S : List (Addr × Obj) → Prop} {B : Nat → List (Addr × Obj) → Prop} {Fin : List Value → List (Addr × Obj) → Prop} {nw₀ : List (Addr × Obj)} {n : Nat} (Pz : Nat → Int → Prop) (hS : S nw₀)
    (turn : ∀ i ys own h tk (E' : Value → Shared → Prop), i < n → B i own → (∀ p ∈ own, p.1 ∈ ca) → Fr h₀ L h m → News h₀ L h (own ++ (D, lst ys) :: nw₀) → (∀ p ∈ nw₀, p.1 ∉ ca ∧ p.1 ≠ D) →
      wpAny (model prog w) A (eval elt env) (IntBack h₀ L m (own ++ (D, lst ys) :: nw₀) s (Pz i)) E' { s with heap := h, toks := tk })
    (fin : ∀ ys zs, IntsAre ys zs → zs.length = n → (∀ i z, zs[i]? = some z → Pz i z) → Fin ys nw₀) : CRest prog w A h₀ L m env elt [] ca D s S B Fin n 0 [] nw₀ := by
  have key : ∀ (k i : Nat) (ys : List Value) (zs : List Int), i + k = n → IntsAre ys zs → zs.length = i → (∀ j z, zs[j]? = some z → Pz j z) → CRest prog w A h₀ L m env elt [] ca D s S B Fin k i ys nw₀ := by
    intro k
    induction k with
    | zero => intro i ys zs hi hI hl hP; exact fin ys zs hI (by omega) hP
    | succ k ih =>
      intro i ys zs hi hI hl hP own h tk E' hB hoc F N off
      show tests prog w A [] env _ _ _
      unfold tests
      refine wpAny_mono (turn i ys own h tk E' (by omega) hB hoc F N off) (fun y s₄ h₄ => ?_) fun _ _ e => e
      obtain ⟨z, t, h', tk', rfl, hz, rfl, F', N'⟩ := h₄
      refine ⟨h', tk', nw₀, rfl, F', N', off, hS, ih (i + 1) _ (zs ++ [z]) (by omega) (hI.append (.cons z t .nil)) (by simp [hl]) ?_⟩
      intro j z' hj
      by_cases hlt : j < zs.length
      · rw [List.getElem?_append_left hlt] at hj; exact hP j z' hj
      · rw [List.getElem?_append_right (by omega)] at hj
        have : j = zs.length := by
          cases hq : j - zs.length with
          | zero => omega
          | succ q => rw [hq] at hj; simp at hj
        subst this
        simp at hj
        subst hj
        rw [hl]; exact hz
  exact key n 0 [] [] (by omega) .nil rfl (fun j z hj => by simp at hj)
end
end Mine
namespace Mine
theorem ints_ex : ∀ {l : List Value}, (∀ v ∈ l, ∃ i t, v = .int i t) → ∃ ns, IntsAre l ns
  | [], _ => ⟨[], .nil⟩
  | v :: r, h => by
    obtain ⟨i, t, rfl⟩ := h v (.head _)
    obtain ⟨ns, hn⟩ := ints_ex fun x hx => h x (.tail _ hx)
    exact ⟨i :: ns, .cons i t hn⟩
theorem ints_all {vs : List Value} {ns : List Int} (h : IntsAre vs ns) : ∀ v ∈ vs, ∃ i t, v = .int i t := by
  induction h with
  | nil => intro v hv; exact nomatch hv
  | cons i t _ ih =>
    intro v hv
    rcases List.mem_cons.mp hv with rfl | hv
    · exact ⟨i, t, rfl⟩
    · exact ih v hv
theorem slice_ints {vs : List Value} {ns : List Int} {lo hi st : Option Int} (h : IntsAre vs ns) : ∃ ms, IntsAre (slicePick vs.toArray lo hi st).toList ms := by
  refine ints_ex fun v hv => ?_
  unfold slicePick at hv
  simp only [List.mem_filterMap] at hv
  obtain ⟨j, _, hj⟩ := hv
  exact ints_all h v (by simpa using List.mem_of_getElem? (by simpa using hj))
end Mine
end

section
open PySem PySem.W PyProof.Rows PySem.Spec PySem.Calls PyProof.V PyProof.Rows.LCg
namespace Mine
section
variable {prog : Program} {w : World} {A : Around} {h₀ : Heap} {L : Addr} {m : Str → Option Value} {E : Value → Shared → Prop} {s : Shared} {env : Env}

noncomputable abbrev cellObj (v : Option Value) : Obj := { cls := .type "cell", data := .cell v }
noncomputable def NmL (I C : Addr) (near : List (Addr × Obj)) (x : Str) (Pv : Nat → Value → Prop) (St : Nat → Heap → Prop) (i : Nat) (own : List (Addr × Obj)) : Prop :=
  ∃ (oI oC : Obj) (m₂ : Str → Option Value) (v : Value), own = [(I, oI), (C, oC)] ∧ NsObj oC m₂ ∧ Pv i v ∧ m₂ x = some v ∧ (∀ h : Heap, h.get? I = some oI → (∀ p ∈ near, h.get? p.1 = some p.2) → St (i + 1) h)
noncomputable def NmLI (C : Addr) (near : List (Addr × Obj)) (St : Nat → Heap → Prop) (i : Nat) (h : Heap) : Prop := St i h ∧ (∀ p ∈ near, h.get? p.1 = some p.2) ∧ ∃ m', h.Ns C m'
noncomputable def NmC (I C X : Addr) (near : List (Addr × Obj)) (Pv : Nat → Value → Prop) (St : Nat → Heap → Prop) (i : Nat) (own : List (Addr × Obj)) : Prop :=
  ∃ (oI oC : Obj) (m₂ : Str → Option Value) (v : Value), own = [(I, oI), (C, oC), (X, cellObj (some v))] ∧ NsObj oC m₂ ∧ Pv i v ∧ (∀ h : Heap, h.get? I = some oI → (∀ p ∈ near, h.get? p.1 = some p.2) → St (i + 1) h)
noncomputable def NmCI (C X : Addr) (near : List (Addr × Obj)) (St : Nat → Heap → Prop) (i : Nat) (h : Heap) : Prop := St i h ∧ (∀ p ∈ near, h.get? p.1 = some p.2) ∧ (∃ m', h.Ns C m') ∧ ∃ v, h.get? X = some (cellObj v)

theorem storeCell {name : Str} {c : Addr} {v₀ : Option Value} {v : Value} {Q : Unit → Shared → Prop} (hk : env.scope.kind = .function) (hl : env.kindOf name = some .cell)
    (hc : env.cells.lookup name = some c) (hv : s.heap.get? c = some (cellObj v₀))
    (h : ∀ h' : Heap, h'.get? c = some (cellObj (some v)) → Heap.SameBut c s.heap h' → Q () { s with heap := h' }) : wpAny (model prog w) A (storeName env name v) Q E s := by
  unfold storeName
  simp only [hl, hk]
  refine wpAny_bind (wpAny_cellOf hc ?_)
  unfold cellSet
  refine wpAny_bind (wpAny_load hv ?_)
  exact wpAny_update hv (h _ (Heap.get?_update_self _ hv rfl) (Heap.SameBut.update ..))

section
variable {I C D X : Addr} {fp wr : List Addr} {n : Nat} {Pv : Nat → Value → Prop} {St : Nat → Heap → Prop} {near : List (Addr × Obj)} {x : Str} {px : Pos}

theorem walk_at' (W : Walks prog w A I fp wr n Pv St) (hfp : ∀ b ∈ fp, b = I ∨ ∃ o, (b, o) ∈ near) {i : Nat} {h h' : Heap} {oI : Obj} (hs : St i h) (hI : h.get? I = some oI) (hn : ∀ p ∈ near, h.get? p.1 = some p.2)
    (hI' : h'.get? I = some oI) (hn' : ∀ p ∈ near, h'.get? p.1 = some p.2) : St i h' := by
  refine W.frame i h h' hs fun b hb o e => ?_
  rcases hfp b hb with rfl | ⟨o', ho⟩
  · rw [hI] at e; rw [hI']; exact e
  · rw [hn _ ho] at e; rw [hn' _ ho]; exact e

theorem CSrc.name (W : Walks prog w A I fp wr n Pv St) (hfp : ∀ b ∈ fp, b = I ∨ ∃ o, (b, o) ∈ near) (hwr : ∀ b ∈ wr, b = I) (hlive : ∀ i h, St i h → ∃ o, h.get? I = some o)
    (hCI : C ≠ I) (hDI : D ≠ I) (hDC : D ≠ C) (hnI : ∀ p ∈ near, p.1 ≠ I ∧ p.1 ≠ C ∧ p.1 ≠ D) (hC : env.locals = C) (hx : env.kindOf x = some .local)
    (hp : (env.scope.kind == .class || (env.scope.kind == .module && env.locals != env.globals)) = false) :
    CSrc prog w A h₀ L (.Name x px) env I D C [I, C] n (fun nw => ∀ p ∈ near, p ∈ nw) (NmLI C near St) (NmL I C near x Pv St) where
  next := by
    intro i s P Q E hi hid hP hQ
    obtain ⟨hst, hn, m', hns⟩ := hid
    refine W.item i s P E hi hst fun v h' tk hPv hst' hk => hP _ _ ?_
    have hkI : ∀ b o, b ≠ I → s.heap.get? b = some o → h'.get? b = some o := fun b o hb e => hk b o (fun hm => hb (hwr b hm)) e
    refine wpAny_pure ?_
    refine wpAny_assign_Name (wpAny_storeName_local hx (m := m') (by rw [hC]; exact hns.at' fun o q => hkI C o hCI q) (fun h₂ hn₂ hs₂ => ?_) hp)
    rw [hC] at hn₂ hs₂
    obtain ⟨oI, hoI⟩ := hlive _ _ hst'
    obtain ⟨oC, heC, hoC⟩ := ns_obj hn₂
    have hn' : ∀ p ∈ near, h'.get? p.1 = some p.2 := fun p hp => hkI _ _ (hnI p hp).1 (hn p hp)
    refine hQ [(I, oI), (C, oC)] h₂ _ ⟨oI, oC, _, v, rfl, hoC, hPv, by simp, fun h q1 q2 => walk_at' W hfp hst' hoI hn' q1 q2⟩ ?_ ?_ ?_
    · intro p hp
      rcases List.mem_cons.mp hp with rfl | hp
      · exact List.mem_cons_self
      · rw [List.mem_singleton.mp hp]; exact List.mem_cons_of_mem _ List.mem_cons_self
    · intro p hp
      rcases List.mem_cons.mp hp with rfl | hp
      · exact hs₂.extBut _ _ (Ne.symm hCI) hoI
      · rw [List.mem_singleton.mp hp]; exact heC
    · intro b o hb e
      have h1 : b ≠ I := fun z => hb (by rw [z]; exact List.mem_cons_self)
      have h2 : b ≠ C := fun z => hb (by rw [z]; exact List.mem_cons_of_mem _ List.mem_cons_self)
      exact hs₂.extBut _ _ h2 (hkI b o h1 e)
  back := by
    intro i own h nw hB hog _ N hS
    obtain ⟨oI, oC, m₂, v, rfl, hoC, _, _, f⟩ := hB
    have hn : ∀ p ∈ near, h.get? p.1 = some p.2 := fun p hp => (N p (hS p hp)).1
    exact ⟨f h (hog (I, oI) List.mem_cons_self) hn, hn, m₂, hoC.ns (hog (C, oC) (List.mem_cons_of_mem _ List.mem_cons_self))⟩
  keep := by
    intro i h h' hid k
    obtain ⟨hst, hn, m', hns⟩ := hid
    obtain ⟨oI, hoI⟩ := hlive _ _ hst
    have hn' : ∀ p ∈ near, h'.get? p.1 = some p.2 := fun p hp => k _ _ (hnI p hp).2.2 (hn p hp)
    exact ⟨walk_at' W hfp hst hoI hn (k _ _ (Ne.symm hDI) hoI) hn', hn', m', hns.at' fun o q => k _ o (Ne.symm hDC) q⟩
  done := by
    intro s P E hid hP
    obtain ⟨hst, hn, m', hns⟩ := hid
    refine W.done s P E hst fun h' tk hk => hP h' tk (fun c o hc q => hk c o (fun hm => hc (by rw [hwr c hm]; exact List.mem_cons_self)) q) ⟨m', hns.at' fun o q => hk C o (fun hm => hCI (hwr C hm)) q⟩
  self := by
    intro s Q E hid hQ
    exact W.self 0 s Q E hid.1 hQ

theorem CSrc.cell (W : Walks prog w A I fp wr n Pv St) (hfp : ∀ b ∈ fp, b = I ∨ ∃ o, (b, o) ∈ near) (hwr : ∀ b ∈ wr, b = I) (hlive : ∀ i h, St i h → ∃ o, h.get? I = some o)
    (hCI : C ≠ I) (hDI : D ≠ I) (hDC : D ≠ C) (hXI : X ≠ I) (hXC : X ≠ C) (hXD : X ≠ D) (hnI : ∀ p ∈ near, p.1 ≠ I ∧ p.1 ≠ X ∧ p.1 ≠ D) (hx : env.kindOf x = some .cell) (hk : env.scope.kind = .function) (hc : env.cells.lookup x = some X) :
    CSrc prog w A h₀ L (.Name x px) env I D C [I, C, X] n (fun nw => ∀ p ∈ near, p ∈ nw) (NmCI C X near St) (NmC I C X near Pv St) where
  next := by
    intro i s P Q E hi hid hP hQ
    obtain ⟨hst, hn, ⟨m', hns⟩, v₀, hcv⟩ := hid
    refine W.item i s P E hi hst fun v h' tk hPv hst' hk' => hP _ _ ?_
    have hkI : ∀ b o, b ≠ I → s.heap.get? b = some o → h'.get? b = some o := fun b o hb e => hk' b o (fun hm => hb (hwr b hm)) e
    refine wpAny_pure ?_
    refine wpAny_assign_Name (storeCell hk hx hc (hkI X _ hXI hcv) fun h₂ hcv₂ hs₂ => ?_)
    obtain ⟨oI, hoI⟩ := hlive _ _ hst'
    have hns₂ : h₂.Ns C m' := hns.at' fun o q => hs₂.extBut _ _ (Ne.symm hXC) (hkI C o hCI q)
    obtain ⟨oC, heC, hoC⟩ := ns_obj hns₂
    have hn' : ∀ p ∈ near, h'.get? p.1 = some p.2 := fun p hp => hkI _ _ (hnI p hp).1 (hn p hp)
    refine hQ [(I, oI), (C, oC), (X, cellObj (some v))] h₂ _ ⟨oI, oC, _, v, rfl, hoC, hPv, fun h q1 q2 => walk_at' W hfp hst' hoI hn' q1 q2⟩ ?_ ?_ ?_
    · intro p hp
      rcases List.mem_cons.mp hp with rfl | hp
      · exact List.mem_cons_self
      · rcases List.mem_cons.mp hp with rfl | hp
        · exact List.mem_cons_of_mem _ List.mem_cons_self
        · rw [List.mem_singleton.mp hp]; exact List.mem_cons_of_mem _ (List.mem_cons_of_mem _ List.mem_cons_self)
    · intro p hp
      rcases List.mem_cons.mp hp with rfl | hp
      · exact hs₂.extBut _ _ (Ne.symm hXI) hoI
      · rcases List.mem_cons.mp hp with rfl | hp
        · exact heC
        · rw [List.mem_singleton.mp hp]; exact hcv₂
    · intro b o hb e
      have h1 : b ≠ I := fun z => hb (by rw [z]; exact List.mem_cons_self)
      have h2 : b ≠ X := fun z => hb (by rw [z]; exact List.mem_cons_of_mem _ (List.mem_cons_of_mem _ List.mem_cons_self))
      exact hs₂.extBut _ _ h2 (hkI b o h1 e)
  back := by
    intro i own h nw hB hog _ N hS
    obtain ⟨oI, oC, m₂, v, rfl, hoC, _, f⟩ := hB
    have hn : ∀ p ∈ near, h.get? p.1 = some p.2 := fun p hp => (N p (hS p hp)).1
    exact ⟨f h (hog (I, oI) List.mem_cons_self) hn, hn, ⟨m₂, hoC.ns (hog (C, oC) (List.mem_cons_of_mem _ List.mem_cons_self))⟩, _, hog (X, cellObj (some v)) (List.mem_cons_of_mem _ (List.mem_cons_of_mem _ List.mem_cons_self))⟩
  keep := by
    intro i h h' hid k
    obtain ⟨hst, hn, ⟨m', hns⟩, v₀, hcv⟩ := hid
    obtain ⟨oI, hoI⟩ := hlive _ _ hst
    have hn' : ∀ p ∈ near, h'.get? p.1 = some p.2 := fun p hp => k _ _ (hnI p hp).2.2 (hn p hp)
    exact ⟨walk_at' W hfp hst hoI hn (k _ _ (Ne.symm hDI) hoI) hn', hn', ⟨m', hns.at' fun o q => k _ o (Ne.symm hDC) q⟩, _, k _ _ hXD hcv⟩
  done := by
    intro s P E hid hP
    obtain ⟨hst, hn, ⟨m', hns⟩, v₀, hcv⟩ := hid
    refine W.done s P E hst fun h' tk hk => hP h' tk (fun c o hc q => hk c o (fun hm => hc (by rw [hwr c hm]; exact List.mem_cons_self)) q) ⟨m', hns.at' fun o q => hk C o (fun hm => hCI (hwr C hm)) q⟩
  self := by
    intro s Q E hid hQ
    exact W.self 0 s Q E hid.1 hQ
end
end
end Mine
end

section
open PySem PySem.W PyProof.Rows PySem.Spec PySem.Calls PyProof.V PyProof.Rows.LCg
namespace Mine
theorem lookup_relabel_cell {env : Env} {scope : Scope} {x : Str} (h : scope.names.lookup x = some .cell) : (relabel scope env).names.lookup x = some .cell := by
  unfold relabel
  show List.lookup x (scope.names.map _) = _
  generalize scope.names = ns at h ⊢
  induction ns with
  | nil => simp at h
  | cons y r ih =>
    obtain ⟨n, k⟩ := y
    rw [List.map_cons]
    cases hxn : x == n with
    | true =>
      simp only [List.lookup, hxn] at h
      cases h
      simp [List.lookup, hxn]
    | false =>
      simp only [List.lookup, hxn] at h
      have := ih h
      by_cases hc : (k == NameKind.free && env.scope.kind == .function && env.kindOf n == some .cell) = true
      · simp only [hc, if_true, List.lookup, hxn]; exact this
      · show List.lookup x ((if (k == NameKind.free && env.scope.kind == .function && env.kindOf n == some .cell) = true then (n, NameKind.cell) else (n, k)) :: _) = _
        rw [if_neg hc]
        simp only [List.lookup, hxn]
        exact this
section
variable {prog : Program} {w : World} {A : Around} {h₀ : Heap} {L : Addr} {m : Str → Option Value} {E : Value → Shared → Prop} {s : Shared} {env : Env}

theorem name_at {elt : Expr} {ifs : List Expr} {scope : Scope} {cl : List (Str × Addr)} {fp wr : List Addr} {n : Nat} {Pv : Nat → Value → Prop} {St : Nat → Heap → Prop} {near : List (Addr × Obj)} {x : Str} {px : Pos} {nw₀ : List (Addr × Obj)} {oI : Obj} {Fin : Addr → Shared → List Value → List (Addr × Obj) → Prop}
    (W : Walks prog w A s.heap.objs.size fp wr n Pv St) (hfp : ∀ b ∈ fp, b = s.heap.objs.size ∨ ∃ o, (b, o) ∈ near) (hwr : ∀ b ∈ wr, b = s.heap.objs.size) (hlive : ∀ i h, St i h → ∃ o, h.get? s.heap.objs.size = some o)
    (hst : St 0 (s.heap.push oI)) (hfree : oI.isFreed = false) (F : Fr h₀ L s.heap m) (N : News h₀ L s.heap nw₀) (hnear : ∀ p ∈ near, p ∈ nw₀) (hsz : n ≤ sizeLine) (hkind : scope.kind = .function) (hcell : ∀ y ∈ scope.names, y.2 ≠ .cell) (hx : scope.names.lookup x = some .local)
    (R : ∀ I D C h₁ h₂, (∀ p ∈ nw₀, p.1 < I) → D = I + 1 → C = I + 2 → CRest prog w A h₀ L m (compEnvC scope cl C env) elt ifs [I, C] D { s with heap := h₁ } (fun nw => ∀ p ∈ near, p ∈ nw) (NmL I C near x Pv St) (Fin D { s with heap := h₂ }) n 0 [] nw₀) :
    CompAt prog w A h₀ L m env (.Name x px) elt ifs scope cl Fin (.ref s.heap.objs.size) { s with heap := s.heap.push oI } := by
  have hNlt : ∀ p ∈ nw₀, p.1 < s.heap.objs.size := fun p hp => Heap.lt_size (N p hp).1
  have hLlt : L < s.heap.objs.size := F.ns.lt
  have fresh : ∀ c, s.heap.objs.size ≤ c → h₀.get? c = none := fun c hc => by
    cases q : h₀.get? c with
    | none => rfl
    | some o => exact absurd (Nat.lt_of_lt_of_le (Heap.lt_size (F.keep c o q)) hc) (Nat.lt_irrefl _)
  have hsp : (s.heap.push oI).objs.size = s.heap.objs.size + 1 := Heap.size_push ..
  have up0 : ∀ b o, s.heap.get? b = some o → (s.heap.push oI).get? b = some o := fun b o e => Heap.get?_push_of_some _ e
  refine ⟨s.heap.objs.size, n, nw₀, rfl, hsz, F.push _, fun p hp => ⟨up0 _ _ (N p hp).1, (N p hp).2⟩, ?_⟩
  intro D C h₃ hD hC hh3
  have hD' : D = s.heap.objs.size + 1 := by rw [hD]; exact hsp
  have hDn : @Eq Nat D (s.heap.objs.size + 1) := hD'
  have hCn : @Eq Nat C (s.heap.objs.size + 2) := by rw [hC, hD']

  rw [cells_none _ _ hcell]
  rw [push_none _ hcell] at hh3
  have up : ∀ c o, (s.heap.push oI).get? c = some o → h₃.get? c = some o := fun c o q => by rw [hh3]; exact Heap.get?_push_of_some _ (Heap.get?_push_of_some _ q)
  have hnsC : h₃.Ns C (fun _ => none) := by
    have e1 : (((s.heap.push oI).push (lst [])) : Heap).objs.size = C := by rw [Heap.size_push, hC, hD]
    rw [hh3, ← e1]
    exact Heap.Ns.new _ (.type "dict")
  have hoI : (s.heap.push oI).get? s.heap.objs.size = some oI := Heap.get?_push_size _ hfree
  have hn1 : ∀ p ∈ near, (s.heap.push oI).get? p.1 = some p.2 := fun p hp => up0 _ _ (N p (hnear p hp)).1
  refine ⟨[s.heap.objs.size, C], _, _, _, CSrc.name (near := near) W hfp hwr hlive ?_ ?_ ?_ ?_ rfl (lookup_relabel_local hx) (by simp [compEnvC, relabel, hkind]), ?_, ?_, ?_, ?_, hnear, R s.heap.objs.size D C h₃ _ hNlt hD' (by rw [hC, hD'])⟩
  case refine_1 => exact (ad1 hDn hCn).1
  case refine_2 => exact (ad1 hDn hCn).2.1
  case refine_3 => exact (ad1 hDn hCn).2.2.1
  case refine_4 =>
    intro p hp
    have h1 : @LT.lt Nat _ p.1 s.heap.objs.size := hNlt p (hnear p hp)
    exact ⟨(ad2 hDn hCn h1).1, (ad2 hDn hCn h1).2.1, (ad2 hDn hCn h1).2.2.1⟩
  case refine_5 =>
    intro c hc
    have hb : s.heap.objs.size ≤ c ∧ c ≠ D := by
      rcases List.mem_cons.mp hc with rfl | hc
      · exact ⟨Nat.le_refl _, (ad1 hDn hCn).2.2.2.1⟩
      · rw [List.mem_singleton.mp hc]; exact ⟨(ad1 hDn hCn).2.2.2.2.1, (ad1 hDn hCn).2.2.2.2.2⟩
    exact ⟨fresh c hb.1, Nat.ne_of_gt (Nat.lt_of_lt_of_le hLlt hb.1), hb.2⟩
  case refine_6 => exact List.mem_cons_of_mem _ List.mem_cons_self
  case refine_7 => exact ⟨walk_at' W hfp hst hoI hn1 (up _ _ hoI) (fun p hp => up _ _ (hn1 p hp)), fun p hp => up _ _ (hn1 p hp), _, hnsC⟩
  case refine_8 =>
    intro p hp hc
    have h1 : @LT.lt Nat _ p.1 s.heap.objs.size := hNlt p hp
    rcases List.mem_cons.mp hc with q | hc
    · exact (ad2 hDn hCn h1).1 q
    · exact (ad2 hDn hCn h1).2.1 (List.mem_singleton.mp hc)

theorem cell_at {elt : Expr} {ifs : List Expr} {scope : Scope} {cl : List (Str × Addr)} {fp wr : List Addr} {n : Nat} {Pv : Nat → Value → Prop} {St : Nat → Heap → Prop} {near : List (Addr × Obj)} {x : Str} {px : Pos} {nw₀ : List (Addr × Obj)} {oI : Obj} {Fin : Addr → Shared → List Value → List (Addr × Obj) → Prop}
    (W : Walks prog w A s.heap.objs.size fp wr n Pv St) (hfp : ∀ b ∈ fp, b = s.heap.objs.size ∨ ∃ o, (b, o) ∈ near) (hwr : ∀ b ∈ wr, b = s.heap.objs.size) (hlive : ∀ i h, St i h → ∃ o, h.get? s.heap.objs.size = some o)
    (hst : St 0 (s.heap.push oI)) (hfree : oI.isFreed = false) (F : Fr h₀ L s.heap m) (N : News h₀ L s.heap nw₀) (hnear : ∀ p ∈ near, p ∈ nw₀) (hsz : n ≤ sizeLine) (hkind : scope.kind = .function) (hcf : ∀ k acc, cellsFrom k scope.names acc = (x, k) :: acc) (hpc : ∀ h : Heap, pushCells h scope.names = h.push (cellObj none)) (hx : scope.names.lookup x = some .cell)
    (R : ∀ I D C h₁ h₂, (∀ p ∈ nw₀, p.1 < I) → D = I + 1 → C = I + 2 → CRest prog w A h₀ L m (compEnvC scope ((x, C + 1) :: cl) C env) elt ifs [I, C, C + 1] D { s with heap := h₁ } (fun nw => ∀ p ∈ near, p ∈ nw) (NmC I C (C + 1) near Pv St) (Fin D { s with heap := h₂ }) n 0 [] nw₀) :
    CompAt prog w A h₀ L m env (.Name x px) elt ifs scope cl Fin (.ref s.heap.objs.size) { s with heap := s.heap.push oI } := by
  have hNlt : ∀ p ∈ nw₀, p.1 < s.heap.objs.size := fun p hp => Heap.lt_size (N p hp).1
  have hLlt : L < s.heap.objs.size := F.ns.lt
  have fresh : ∀ c, s.heap.objs.size ≤ c → h₀.get? c = none := fun c hc => by
    cases q : h₀.get? c with
    | none => rfl
    | some o => exact absurd (Nat.lt_of_lt_of_le (Heap.lt_size (F.keep c o q)) hc) (Nat.lt_irrefl _)
  have hsp : (s.heap.push oI).objs.size = s.heap.objs.size + 1 := Heap.size_push ..
  have up0 : ∀ b o, s.heap.get? b = some o → (s.heap.push oI).get? b = some o := fun b o e => Heap.get?_push_of_some _ e
  refine ⟨s.heap.objs.size, n, nw₀, rfl, hsz, F.push _, fun p hp => ⟨up0 _ _ (N p hp).1, (N p hp).2⟩, ?_⟩
  intro D C h₃ hD hC hh3
  have hD' : D = s.heap.objs.size + 1 := by rw [hD]; exact hsp
  have hDn : @Eq Nat D (s.heap.objs.size + 1) := hD'
  have hCn : @Eq Nat C (s.heap.objs.size + 2) := by rw [hC, hD']

  rw [hcf]
  rw [hpc] at hh3
  have up : ∀ c o, (s.heap.push oI).get? c = some o → h₃.get? c = some o := fun c o q => by rw [hh3]; exact Heap.get?_push_of_some _ (Heap.get?_push_of_some _ (Heap.get?_push_of_some _ q))
  have e1 : (((s.heap.push oI).push (lst [])) : Heap).objs.size = C := by rw [Heap.size_push, hC, hD]
  have e2 : ((((s.heap.push oI).push (lst [])).push { cls := .type "dict", data := .dict #[] }) : Heap).objs.size = C + 1 := by rw [Heap.size_push, e1]
  have hnsC : h₃.Ns C (fun _ => none) := by
    have q : ((((s.heap.push oI).push (lst [])).push { cls := .type "dict", data := .dict #[] }) : Heap).Ns C (fun _ => none) := by
      rw [← e1]
      exact Heap.Ns.new _ (.type "dict")
    rw [hh3]
    exact q.at' fun o e => Heap.get?_push_of_some _ e
  have hX : h₃.get? (C + 1) = some (cellObj none) := by
    rw [hh3, ← e2]
    exact Heap.get?_push_size _ rfl
  have hoI : (s.heap.push oI).get? s.heap.objs.size = some oI := Heap.get?_push_size _ hfree
  have hn1 : ∀ p ∈ near, (s.heap.push oI).get? p.1 = some p.2 := fun p hp => up0 _ _ (N p (hnear p hp)).1
  have hXn : @Eq Nat (C + 1) (s.heap.objs.size + 3) := by rw [hC, hD']
  refine ⟨[s.heap.objs.size, C, C + 1], _, _, _, CSrc.cell (near := near) (X := C + 1) W hfp hwr hlive ?_ ?_ ?_ ?_ ?_ ?_ ?_ ?_ (by simpa [compEnvC, relabel] using hkind) ?_, ?_, ?_, ?_, ?_, hnear, R s.heap.objs.size D C h₃ _ hNlt hD' (by rw [hC, hD'])⟩
  case refine_1 => exact (ad1 hDn hCn).1
  case refine_2 => exact (ad1 hDn hCn).2.1
  case refine_3 => exact (ad1 hDn hCn).2.2.1
  case refine_4 => exact (ad3 hDn hCn).1
  case refine_5 => exact Nat.ne_of_gt (Nat.lt_succ_self _)
  case refine_6 => exact (ad3 hDn hCn).2.1
  case refine_7 =>
    intro p hp
    have h1 : @LT.lt Nat _ p.1 s.heap.objs.size := hNlt p (hnear p hp)
    exact ⟨(ad2 hDn hCn h1).1, (ad2 hDn hCn h1).2.2.2, (ad2 hDn hCn h1).2.2.1⟩
  case refine_8 => exact lookup_relabel_cell hx
  case refine_9 => simp [compEnvC]
  case refine_10 =>
    intro c hc
    have hb : s.heap.objs.size ≤ c ∧ c ≠ D := by
      rcases List.mem_cons.mp hc with rfl | hc
      · exact ⟨Nat.le_refl _, (ad1 hDn hCn).2.2.2.1⟩
      · rcases List.mem_cons.mp hc with rfl | hc
        · exact ⟨(ad1 hDn hCn).2.2.2.2.1, (ad1 hDn hCn).2.2.2.2.2⟩
        · rw [List.mem_singleton.mp hc]; exact ⟨(ad3 hDn hCn).2.2, (ad3 hDn hCn).2.1⟩
    exact ⟨fresh c hb.1, Nat.ne_of_gt (Nat.lt_of_lt_of_le hLlt hb.1), hb.2⟩
  case refine_11 => exact List.mem_cons_of_mem _ List.mem_cons_self
  case refine_12 => exact ⟨walk_at' W hfp hst hoI hn1 (up _ _ hoI) (fun p hp => up _ _ (hn1 p hp)), fun p hp => up _ _ (hn1 p hp), ⟨_, hnsC⟩, _, hX⟩
  case refine_13 =>
    intro p hp hc
    have h1 : @LT.lt Nat _ p.1 s.heap.objs.size := hNlt p hp
    rcases List.mem_cons.mp hc with q | hc
    · exact (ad2 hDn hCn h1).1 q
    · rcases List.mem_cons.mp hc with q | hc
      · exact (ad2 hDn hCn h1).2.1 q
      · exact (ad2 hDn hCn h1).2.2.2 (List.mem_singleton.mp hc)
end
end Mine
end

section
open PySem PySem.W PyProof.Rows PySem.Spec PySem.Calls PyProof.V PyProof.Rows.LCg
namespace Mine
section
variable {prog : Program} {w : World} {A : Around} {h₀ : Heap} {L : Addr} {m : Str → Option Value} {env : Env} {E : Value → Shared → Prop} {s : Shared}
noncomputable def BoolBack (h₀ : Heap) (L : Addr) (m : Str → Option Value) (led : List (Addr × Obj)) (s : Shared) (b ok : Bool) (s₃ : Shared) : Prop :=
  ok = b ∧ ∃ h' tk', s₃ = { s with heap := h', toks := tk' } ∧ Fr h₀ L h' m ∧ News h₀ L h' led
theorem BoolBack.intro {led led' : List (Addr × Obj)} {s : Shared} {b ok : Bool} {h' : Heap} {tk' : Nat} (F : Fr h₀ L h' m) (N : News h₀ L h' led') (hs : ∀ p ∈ led, p ∈ led') (hb : ok = b) :
    BoolBack h₀ L m led s b ok { s with heap := h', toks := tk' } := ⟨hb, h', tk', rfl, F, fun p hp => N p (hs p hp)⟩
noncomputable def ValBack (h₀ : Heap) (L : Addr) (m : Str → Option Value) (own : List (Addr × Obj)) (ca : List Addr) (D : Addr) (oD : Obj) (s : Shared) (J : Value → List (Addr × Obj) → Prop) (y : Value) (s₄ : Shared) : Prop :=
  ∃ h' tk' nw, s₄ = { s with heap := h', toks := tk' } ∧ Fr h₀ L h' m ∧ News h₀ L h' (own ++ (D, oD) :: nw) ∧ (∀ p ∈ nw, p.1 ∉ ca ∧ p.1 ≠ D) ∧ J y nw
section
variable {elt c : Expr} {ca : List Addr} {D : Addr} {S : List (Addr × Obj) → Prop} {B : Nat → List (Addr × Obj) → Prop} {Fin : List Value → List (Addr × Obj) → Prop} {nw₀ : List (Addr × Obj)} {n : Nat}
theorem crest_exact (f : Nat → Int) (hS : S nw₀)
    (turn : ∀ i ys own h tk (E' : Value → Shared → Prop), i < n → B i own → (∀ p ∈ own, p.1 ∈ ca) → Fr h₀ L h m → News h₀ L h (own ++ (D, lst ys) :: nw₀) → (∀ p ∈ nw₀, p.1 ∉ ca ∧ p.1 ≠ D) →
      wpAny (model prog w) A (eval elt env) (IntBack h₀ L m (own ++ (D, lst ys) :: nw₀) s (fun z => z = f i)) E' { s with heap := h, toks := tk })
    (fin : ∀ ys, IntsAre ys ((List.range n).map f) → Fin ys nw₀) : CRest prog w A h₀ L m env elt [] ca D s S B Fin n 0 [] nw₀ := by
  refine crest_ints (fun i z => z = f i) hS turn fun ys zs hI hl hP => fin ys ?_
  have e : zs = (List.range n).map f := by
    apply List.ext_getElem?
    intro i
    by_cases hi : i < n
    · rw [List.getElem?_eq_getElem (by omega)]
      have := hP i zs[i] (List.getElem?_eq_getElem (by omega))
      rw [this]
      simp [hi]
    · rw [List.getElem?_eq_none (by omega), List.getElem?_eq_none (by simp; omega)]
  rw [← e]; exact hI
theorem crest_grow (J : Nat → List Value → List (Addr × Obj) → Prop) (hJS : ∀ i ys nw, J i ys nw → S nw) (h0 : J 0 [] nw₀)
    (turn : ∀ i ys nw own h tk (E' : Value → Shared → Prop), i < n → J i ys nw → B i own → (∀ p ∈ own, p.1 ∈ ca) → Fr h₀ L h m → News h₀ L h (own ++ (D, lst ys) :: nw) → (∀ p ∈ nw, p.1 ∉ ca ∧ p.1 ≠ D) →
      wpAny (model prog w) A (eval elt env) (ValBack h₀ L m own ca D (lst ys) s (fun y nw' => J (i + 1) (ys ++ [y]) nw')) E' { s with heap := h, toks := tk })
    (fin : ∀ ys nw, J n ys nw → Fin ys nw) : CRest prog w A h₀ L m env elt [] ca D s S B Fin n 0 [] nw₀ := by
  have key : ∀ (k i : Nat) (ys : List Value) (nw : List (Addr × Obj)), i + k = n → J i ys nw → CRest prog w A h₀ L m env elt [] ca D s S B Fin k i ys nw := by
    intro k
    induction k with
    | zero => intro i ys nw hi hJ; have e : i = n := by omega
              subst e; exact fin ys nw hJ
    | succ k ih =>
      intro i ys nw hi hJ own h tk E' hB hoc F N off
      show tests prog w A [] env _ _ _
      unfold tests
      refine wpAny_mono (turn i ys nw own h tk E' (by omega) hJ hB hoc F N off) (fun y s₄ h₄ => ?_) fun _ _ e => e
      obtain ⟨h', tk', nw', rfl, F', N', off', hJ'⟩ := h₄
      exact ⟨h', tk', nw', rfl, F', N', off', hJS _ _ _ hJ', ih (i + 1) _ nw' (by omega) hJ'⟩
  exact key n 0 [] nw₀ (by omega) h0
end
section
variable {elt : Expr} {ifs : List Expr} {scope : Scope} {cl : List (Str × Addr)} {n : Nat} {x : Str} {px : Pos} {nw₀ : List (Addr × Obj)} {Fin : Addr → Shared → List Value → List (Addr × Obj) → Prop} {r l : Addr} {a c : Int} {t₀ u₀ v₀ : Tok} {b : Array UInt8} {tb : Tok}
noncomputable abbrev rangeSt (I : Addr) (a c : Int) (n : Nat) : Nat → Heap → Prop := fun i h => IsRangeIter h I (a + (i : Nat) * c) ((n : Int) - (i : Nat)) c
noncomputable abbrev rangeV (a c : Int) : Nat → Value → Prop := fun i v => ∃ t, v = .int (a + i * c) t
theorem range_name {b : Int} (hh : A.handled = none) (hr : IsRange s.heap r a b c t₀ u₀ v₀) (hsmall : Builtin.Range.small a b c = true) (hn : Builtin.Range.rangeSize a b c = (n : Int)) (F : Fr h₀ L s.heap m) (N : News h₀ L s.heap nw₀) (hsz : n ≤ sizeLine)
    (hkind : scope.kind = .function) (hcell : ∀ y ∈ scope.names, y.2 ≠ .cell) (hx : scope.names.lookup x = some .local)
    (R : ∀ I D C h₁ h₂, (∀ p ∈ nw₀, p.1 < I) → D = I + 1 → C = I + 2 → CRest prog w A h₀ L m (compEnvC scope cl C env) elt ifs [I, C] D { s with heap := h₁ } (fun nw => ∀ p ∈ ([] : List (Addr × Obj)), p ∈ nw) (NmL I C [] x (rangeV a c) (rangeSt s.heap.objs.size a c n)) (Fin D { s with heap := h₂ }) n 0 [] nw₀) :
    wpAny (model prog w) A (pyIter (.ref r)) (CompAt prog w A h₀ L m env (.Name x px) elt ifs scope cl Fin) E s := by
  refine wpAny_pyIter_range hr hsmall ?_
  refine name_at (near := []) (Walks.range hh _ a c n) (fun b hb => .inl (by simpa using hb)) (fun b hb => by simpa using hb) (fun i h st => ⟨_, st⟩) (by show IsRangeIter _ _ _ _ _; rw [hn]; simpa using Heap.get?_push_size _ rfl) rfl F N (fun p hp => nomatch hp) hsz hkind hcell hx R
theorem range_cell {b : Int} (hh : A.handled = none) (hr : IsRange s.heap r a b c t₀ u₀ v₀) (hsmall : Builtin.Range.small a b c = true) (hn : Builtin.Range.rangeSize a b c = (n : Int)) (F : Fr h₀ L s.heap m) (N : News h₀ L s.heap nw₀) (hsz : n ≤ sizeLine)
    (hkind : scope.kind = .function) (hcf : ∀ k acc, cellsFrom k scope.names acc = (x, k) :: acc) (hpc : ∀ h : Heap, pushCells h scope.names = h.push (cellObj none)) (hx : scope.names.lookup x = some .cell)
    (R : ∀ I D C h₁ h₂, (∀ p ∈ nw₀, p.1 < I) → D = I + 1 → C = I + 2 → CRest prog w A h₀ L m (compEnvC scope ((x, C + 1) :: cl) C env) elt ifs [I, C, C + 1] D { s with heap := h₁ } (fun nw => ∀ p ∈ ([] : List (Addr × Obj)), p ∈ nw) (NmC I C (C + 1) [] (rangeV a c) (rangeSt s.heap.objs.size a c n)) (Fin D { s with heap := h₂ }) n 0 [] nw₀) :
    wpAny (model prog w) A (pyIter (.ref r)) (CompAt prog w A h₀ L m env (.Name x px) elt ifs scope cl Fin) E s := by
  refine wpAny_pyIter_range hr hsmall ?_
  refine cell_at (near := []) (Walks.range hh _ a c n) (fun b hb => .inl (by simpa using hb)) (fun b hb => by simpa using hb) (fun i h st => ⟨_, st⟩) (by show IsRangeIter _ _ _ _ _; rw [hn]; simpa using Heap.get?_push_size _ rfl) rfl F N (fun p hp => nomatch hp) hsz hkind hcf hpc hx R
theorem bytes_name (hh : A.handled = none) (F : Fr h₀ L s.heap m) (N : News h₀ L s.heap nw₀) (hsz : b.size ≤ sizeLine)
    (hkind : scope.kind = .function) (hcell : ∀ y ∈ scope.names, y.2 ≠ .cell) (hx : scope.names.lookup x = some .local)
    (R : ∀ I D C h₁ h₂, (∀ p ∈ nw₀, p.1 < I) → D = I + 1 → C = I + 2 → CRest prog w A h₀ L m (compEnvC scope cl C env) elt ifs [I, C] D { s with heap := h₁ } (fun nw => ∀ p ∈ ([] : List (Addr × Obj)), p ∈ nw) (NmL I C [] x (fun i v => ∃ c u, b[i]? = some c ∧ v = .int (c.toNat : Int) u) (fun i h => KBw.IsBytesIter h s.heap.objs.size b tb i)) (Fin D { s with heap := h₂ }) b.size 0 [] nw₀) :
    wpAny (model prog w) A (pyIter (.bytes b tb)) (CompAt prog w A h₀ L m env (.Name x px) elt ifs scope cl Fin) E s := by
  refine KBw.pyIter_bytes ?_
  refine name_at (near := []) (KBw.walks (prog := prog) (w := w) hh s.heap.objs.size b tb) (fun b hb => .inl (by simpa using hb)) (fun b hb => by simpa using hb) (fun i h st => ?_) ⟨_, Heap.get?_push_size _ rfl, rfl, rfl⟩ rfl F N (fun p hp => nomatch hp) hsz hkind hcell hx R
  obtain ⟨o, e, _⟩ := st; exact ⟨o, e⟩
noncomputable abbrev listSt (I l : Addr) (its : Array Value) : Nat → Heap → Prop := fun i h => h.IsListIter I l i ∧ h.IsList l its
theorem list_name {its : Array Value} {ep : Nat} (hh : A.handled = none) (F : Fr h₀ L s.heap m) (N : News h₀ L s.heap nw₀) (hm : (l, ({ cls := .type "list", data := .seq its ep } : Obj)) ∈ nw₀) (hsz : its.size ≤ sizeLine)
    (hkind : scope.kind = .function) (hcell : ∀ y ∈ scope.names, y.2 ≠ .cell) (hx : scope.names.lookup x = some .local)
    (R : ∀ I D C h₁ h₂, (∀ p ∈ nw₀, p.1 < I) → D = I + 1 → C = I + 2 → CRest prog w A h₀ L m (compEnvC scope cl C env) elt ifs [I, C] D { s with heap := h₁ } (fun nw => ∀ p ∈ [(l, ({ cls := .type "list", data := .seq its ep } : Obj))], p ∈ nw) (NmL I C [(l, ({ cls := .type "list", data := .seq its ep } : Obj))] x (fun i v => its[i]? = some v) (listSt s.heap.objs.size l its)) (Fin D { s with heap := h₂ }) its.size 0 [] nw₀) :
    wpAny (model prog w) A (pyIter (.ref l)) (CompAt prog w A h₀ L m env (.Name x px) elt ifs scope cl Fin) E s := by
  have hls : s.heap.IsList l its := ⟨_, (N _ hm).1, rfl, _, rfl⟩
  have hlt : l < s.heap.objs.size := Heap.lt_size (N _ hm).1
  refine wpAny_pyIter_list hls ?_
  refine name_at (near := [(l, ({ cls := .type "list", data := .seq its ep } : Obj))]) (Walks.list hh s.heap.objs.size l (Nat.ne_of_lt hlt) its) (fun b hb => ?_) (fun b hb => by simpa using hb) (fun i h st => ?_) ⟨⟨_, Heap.get?_push_size _ rfl, rfl, rfl⟩, hls.at fun o e => Heap.get?_push_of_some _ e⟩ rfl F N (fun p hp => by rw [List.mem_singleton.mp hp]; exact hm) hsz hkind hcell hx R
  · rcases List.mem_cons.mp hb with e | e
    · exact .inl e
    · exact .inr ⟨_, by rw [List.mem_singleton.mp e]; exact List.mem_cons_self⟩
  · obtain ⟨o, e, _⟩ := st.1; exact ⟨o, e⟩
end
end
end Mine
end

section
open PySem PySem.W PyProof.Rows PySem.Spec PySem.Calls PyProof.V PyProof.Rows.LCg
namespace Mine
section
variable {prog : Program} {w : World} {A : Around} {h₀ : Heap} {L : Addr} {m : Str → Option Value} {env : Env} {E : Value → Shared → Prop} {s : Shared}
noncomputable def KeepBack (h₀ : Heap) (L : Addr) (m : Str → Option Value) (led : List (Addr × Obj)) (s : Shared) (J : Value → Prop) (y : Value) (s₄ : Shared) : Prop :=
  ∃ h' tk', s₄ = { s with heap := h', toks := tk' } ∧ Fr h₀ L h' m ∧ News h₀ L h' led ∧ J y
theorem KeepBack.intro {led led' : List (Addr × Obj)} {s : Shared} {J : Value → Prop} {y : Value} {h' : Heap} {tk' : Nat} (F : Fr h₀ L h' m) (N : News h₀ L h' led') (hs : ∀ p ∈ led, p ∈ led') (hJ : J y) :
    KeepBack h₀ L m led s J y { s with heap := h', toks := tk' } := ⟨h', tk', rfl, F, fun p hp => N p (hs p hp), hJ⟩
noncomputable def TailBack (h₀ : Heap) (L : Addr) (m : Str → Option Value) (led : List (Addr × Obj)) (s : Shared) (J : Value → List (Addr × Obj) → Prop) (y : Value) (s₄ : Shared) : Prop :=
  ∃ h' tk' tl, s₄ = { s with heap := h', toks := tk' } ∧ Fr h₀ L h' m ∧ News h₀ L h' (tl ++ led) ∧ (∀ q ∈ led, ∀ p ∈ tl, q.1 < p.1) ∧ J y tl
theorem TailBack.intro {led : List (Addr × Obj)} {s : Shared} {J : Value → List (Addr × Obj) → Prop} {y : Value} {h' : Heap} {tk' : Nat} (tl : List (Addr × Obj)) (F : Fr h₀ L h' m) (N : News h₀ L h' (tl ++ led)) (ho : ∀ q ∈ led, ∀ p ∈ tl, q.1 < p.1) (hJ : J y tl) :
    TailBack h₀ L m led s J y { s with heap := h', toks := tk' } := ⟨h', tk', tl, rfl, F, N, ho, hJ⟩
section
variable {elt : Expr} {ca : List Addr} {D : Addr} {S : List (Addr × Obj) → Prop} {B : Nat → List (Addr × Obj) → Prop} {Fin : List Value → List (Addr × Obj) → Prop} {nw₀ : List (Addr × Obj)} {n : Nat}
theorem crest_tail (J : Nat → List Value → List (Addr × Obj) → Prop) (hS : S nw₀) (hSm : ∀ tl, S nw₀ → S (tl ++ nw₀)) (h0 : J 0 [] [])
    (hcov : ∀ i own, B i own → ∀ a ∈ ca, ∃ p ∈ own, p.1 = a)
    (turn : ∀ i ys tl own h tk (E' : Value → Shared → Prop), i < n → J i ys tl → B i own → (∀ p ∈ own, p.1 ∈ ca) → Fr h₀ L h m → News h₀ L h (own ++ (D, lst ys) :: (tl ++ nw₀)) → (∀ q ∈ nw₀, ∀ p ∈ tl, q.1 < p.1) →
      wpAny (model prog w) A (eval elt env) (TailBack h₀ L m (own ++ (D, lst ys) :: (tl ++ nw₀)) s (fun y tl' => J (i + 1) (ys ++ [y]) (tl' ++ tl))) E' { s with heap := h, toks := tk })
    (fin : ∀ ys tl, J n ys tl → (∀ q ∈ nw₀, ∀ p ∈ tl, q.1 < p.1) → Fin ys (tl ++ nw₀)) : CRest prog w A h₀ L m env elt [] ca D s S B Fin n 0 [] nw₀ := by
  refine crest_grow (fun i ys nw => ∃ tl, nw = tl ++ nw₀ ∧ (∀ q ∈ nw₀, ∀ p ∈ tl, q.1 < p.1) ∧ J i ys tl) ?_ ⟨[], rfl, (fun _ _ _ h => nomatch h), h0⟩ ?_ ?_
  · rintro i ys nw ⟨tl, rfl, -, -⟩
    exact hSm tl hS
  · rintro i ys nw own h tk E' hi ⟨tl, rfl, hlt, hJ⟩ hB hoc F N off
    refine wpAny_mono (turn i ys tl own h tk E' hi hJ hB hoc F N hlt) (fun y s₄ h₄ => ?_) fun _ _ e => e
    obtain ⟨h', tk', tl', rfl, F', N', ho', hJ'⟩ := h₄
    refine ⟨h', tk', tl' ++ (tl ++ nw₀), rfl, F', fun p hp => N' p ?_, ?_, tl' ++ tl, (List.append_assoc ..).symm, ?_, hJ'⟩
    · rcases List.mem_append.mp hp with hp | hp
      · exact List.mem_append_right _ (List.mem_append_left _ hp)
      · rcases List.mem_cons.mp hp with rfl | hp
        · exact List.mem_append_right _ (List.mem_append_right _ List.mem_cons_self)
        · rcases List.mem_append.mp hp with hp | hp
          · exact List.mem_append_left _ hp
          · exact List.mem_append_right _ (List.mem_append_right _ (List.mem_cons_of_mem _ hp))
    · intro p hp
      rcases List.mem_append.mp hp with hp | hp
      · refine ⟨fun hc => ?_, fun e => ?_⟩
        · obtain ⟨q, hq, e⟩ := hcov i own hB _ hc
          have := ho' q (List.mem_append_left _ hq) p hp
          rw [e] at this
          exact Nat.lt_irrefl _ this
        · have := ho' (D, lst ys) (List.mem_append_right _ List.mem_cons_self) p hp
          rw [e] at this
          exact Nat.lt_irrefl _ this
      · exact off p hp
    · intro q hq p hp
      rcases List.mem_append.mp hp with hp | hp
      · exact ho' q (List.mem_append_right _ (List.mem_cons_of_mem _ (List.mem_append_right _ hq))) p hp
      · exact hlt q hq p hp
  · rintro ys nw ⟨tl, rfl, hlt, hJ⟩
    exact fin ys tl hJ hlt
end
theorem nml_cov {I C : Addr} {near : List (Addr × Obj)} {x : Str} {Pv : Nat → Value → Prop} {St : Nat → Heap → Prop} : ∀ i own, NmL I C near x Pv St i own → ∀ a ∈ [I, C], ∃ p ∈ own, p.1 = a := by
  rintro i own ⟨oI, oC, m₂, v, rfl, -⟩ a ha
  rcases List.mem_cons.mp ha with rfl | ha
  · exact ⟨_, .head _, rfl⟩
  · rw [List.mem_singleton.mp ha]; exact ⟨_, .tail _ (.head _), rfl⟩
section
variable {elt : Expr} {ifs : List Expr} {scope : Scope} {cl : List (Str × Addr)} {n : Nat} {x : Str} {px : Pos} {nw₀ : List (Addr × Obj)} {Fin : Addr → Shared → List Value → List (Addr × Obj) → Prop} {l : Addr}
noncomputable abbrev tupSt (I l : Addr) (its : Array Value) : Nat → Heap → Prop := fun i h => h.IsTupleIter I l i ∧ h.IsTuple l its
end
end
theorem news_in {h₀ h : Heap} {L : Addr} {a b : List (Addr × Obj)} (N : News h₀ L h a) (hs : ∀ p ∈ b, p ∈ a) : News h₀ L h b := fun p hp => N p (hs p hp)
noncomputable def AllGt (d : Addr) (tl : List (Addr × Obj)) : Prop := ∀ p ∈ tl, @LT.lt Nat _ d p.1
theorem allNe_up {d d' : Addr} {tl : List (Addr × Obj)} (h : AllGt d tl) (hd : @LE.le Nat _ d' d) : ∀ p ∈ tl, p.1 ≠ d' := fun p hp => Nat.ne_of_gt (Nat.lt_of_le_of_lt hd (h p hp))
end Mine
end

section
open PySem PySem.W PyProof.Rows PySem.Spec PySem.Calls PyProof.V
open Sem (wp)
set_option maxRecDepth 100000
namespace Mine
section
variable {prog : Program} {w : World} {A : Around} {E : Value → Shared → Prop} {s : Shared} {b : Array UInt8} {tb : Tok}
theorem drawB_item {it : Addr} {i : Nat} {c : UInt8} {Q : Value → Shared → Prop} (hit : KBw.IsBytesIter s.heap it b tb i) (hx : b[i]? = some c)
    (hQ : ∀ h', KBw.IsBytesIter h' it b tb (i + 1) → Heap.SameBut it s.heap h' → Q (.int (c.toNat : Int) s.toks) { s with heap := h', toks := s.toks + 1 }) :
    wpAny (model prog w) A (Builtin.SmallTypes.nextOf (.ref it)) Q E s := by
  obtain ⟨o, ho, hc, hd⟩ := id hit
  unfold Builtin.SmallTypes.nextOf
  refine wpAny_bind (wpAny_callSpecial?_slot (name := Str.ofString "__next__") (KBw.iter_typeIs hit) KBw.slot_next
    (wpAny_call_entry KBw.slot_next (KBw.iter_typeIs hit) KBw.entry_next ?_ (KBw.args_next _)))
  show wpAny _ _ (field (.ref it) 0 >>= _) _ _ s
  refine wpAny_bind (wpAny_field ho hd (x := .bytes b tb) rfl ?_)
  show wpAny _ _ (if (Value.bytes b tb == Value.none) = true then _ else _) _ _ s
  rw [if_neg (show ¬ ((Value.bytes b tb == Value.none) = true) from Bool.false_ne_true)]
  show wpAny _ _ (field (.ref it) 1 >>= _) _ _ s
  refine wpAny_bind (wpAny_field ho hd (x := .int i 0) rfl ?_)
  refine wpAny_bind (wpAny_of_eq (a := b) rfl ?_)
  simp only [Int.toNat_natCast, hx]
  refine wpAny_bind (wpAny_setField ho hd (by simp) (wpAny_bind (wpAny_mkInt (wpAny_pure ⟨_, rfl, wpAny_pure (hQ _ ?_ (Heap.SameBut.update ..))⟩))))
  refine ⟨_, Heap.get?_update_self _ ho (Obj.isFreed_of_fields (Obj.data_mapFields hd _)), (Obj.cls_mapFields ..).trans hc, ?_⟩
  rw [Obj.data_mapFields hd]; simp [rawInt]
theorem drawB_end {it : Addr} {i : Nat} {Q : Value → Shared → Prop} (hh : A.handled = none) (hit : KBw.IsBytesIter s.heap it b tb i) (hx : b[i]? = none)
    (hE : ∀ h' e, Heap.ExtBut it s.heap h' → (∃ o, h'.get? e = some o ∧ o.cls = .type "StopIteration") → E (.ref e) { s with heap := h' }) :
    wpAny (model prog w) A (Builtin.SmallTypes.nextOf (.ref it)) Q E s := by
  obtain ⟨o, ho, hc, hd⟩ := id hit
  unfold Builtin.SmallTypes.nextOf
  refine wpAny_bind (wpAny_callSpecial?_slot (name := Str.ofString "__next__") (KBw.iter_typeIs hit) KBw.slot_next
    (wpAny_call_entry KBw.slot_next (KBw.iter_typeIs hit) KBw.entry_next ?_ (KBw.args_next _)))
  show wpAny _ _ (field (.ref it) 0 >>= _) _ _ s
  refine wpAny_bind (wpAny_field ho hd (x := .bytes b tb) rfl ?_)
  show wpAny _ _ (if (Value.bytes b tb == Value.none) = true then _ else _) _ _ s
  rw [if_neg (show ¬ ((Value.bytes b tb == Value.none) = true) from Bool.false_ne_true)]
  show wpAny _ _ (field (.ref it) 1 >>= _) _ _ s
  refine wpAny_bind (wpAny_field ho hd (x := .int i 0) rfl ?_)
  refine wpAny_bind (wpAny_of_eq (a := b) rfl ?_)
  simp only [Int.toNat_natCast, hx]
  refine wpAny_bind (wpAny_rule (wpAny_bind (wpAny_setField ho hd (by simp) ?_)))
  show wpAny _ _ (newExc (.type "StopIteration") [] >>= _) _ _ _
  refine wpAny_bind ?_
  simp only [newExc, newTuple]
  refine wpAny_bind (wpAny_newObj_type ?_ (by size_fits))
  refine wpAny_bind (m := firstArgMember _ _) (wpAny_of_eq (a := Value.none) (by first | rfl | (simp only [firstArgMember]; rfl)) ?_)
  refine wpAny_newObj_type ?_ (by size_fits)
  simp only [raiseNew]
  refine wpAny_bind (wpAny_handled ?_)
  first | rw [show A.in1.handled = none from hh] | rw [hh]
  refine wpAny_bind (wpAny_pure (wpAny_throw ?_))
  exact hE _ _ (((Heap.SameBut.update ..).extBut.push _).push _) ⟨_, Heap.get?_push_size _ rfl, rfl⟩
theorem drawsB (hh : A.handled = none) (it : Addr) : Draws prog w A it [it] b.size (fun i v => ∃ c u, b[i]? = some c ∧ v = .int (c.toNat : Int) u) (fun i h => KBw.IsBytesIter h it b tb i) where
  live := fun _ _ st => let ⟨o, ho, _⟩ := st; ⟨o, ho⟩
  frame := fun _ _ _ st hk => let ⟨o, ho, r⟩ := st; ⟨o, hk it (by simp) o ho, r⟩
  item := fun i s Q E hi st hQ => drawB_item st (c := b[i]) (by simp [hi]) fun h' hit' hs' => hQ _ h' (s.toks + 1) ⟨_, _, by simp [hi], rfl⟩ hit' hs'
  done := fun s Q E st hE => drawB_end hh st (by simp) hE
theorem pure_any {M : Model} {A : Around} {α : Type} {x : α} {Q : α → Shared → Prop} {E : Value → Shared → Prop} {s : Shared} (h : ∀ a, Q a s) : wpAny M A (pure x) Q E s := wpAny_pure (h x)
set_option maxHeartbeats 1000000 in
theorem makeB (b : Array UInt8) (tb : Tok) :
    Meets (Builtin.«enumerate.__new__» ⟨[.type "enumerate", .bytes b tb], []⟩) (fun _ R s =>
      R (.ok (.ret (.ref (s.heap.push { cls := .type "bytes_iterator", data := .fields #[.bytes b tb, .int 0 0] }).objs.size)))
        { s with heap := (s.heap.push { cls := .type "bytes_iterator", data := .fields #[.bytes b tb, .int 0 0] }).push { cls := .type "enumerate", data := .fields #[.none, .bool false, .ref s.heap.objs.size, rawInt 0, .none, .none] } }) :=
  .of_wp fun prog w A R s h => by
    obtain ⟨hp, g, d, tk, os⟩ := s
    have hsub := sub_enumerate
    wp_walk
    refine wpAny_stack_any fun st => pure_any ?_
    intro c
    cases c
    · wp_walk using KBw.pyIter_bytes
      exact ⟨_, rfl, h⟩
    · wp_walk using KBw.pyIter_bytes
      exact ⟨_, rfl, h⟩
theorem enumerate_bytes {Q : Value → Shared → Prop}
    (h : ∀ h', IsEnum h' (s.heap.objs.size + 1) s.heap.objs.size 0 .none → KBw.IsBytesIter h' s.heap.objs.size b tb 0 → h'.objs.size = s.heap.objs.size + 2 →
      (∀ b o, s.heap.get? b = some o → h'.get? b = some o) → Q (.ref (s.heap.objs.size + 1)) { s with heap := h' }) :
    wpAny (model prog w) A (call (.type "enumerate") [.bytes b tb]) Q E s := by
  refine callType_new F.called_enumerate (by decide) (F.typeCall_enumerate_1 _) (F.newCall_enumerate_1 _) (fun obj => F.args_object_init_2 obj _) F.entry_enumerate_new (makeB b tb) ?_
  generalize hi : (s.heap.push { cls := .type "bytes_iterator", data := .fields #[.bytes b tb, .int 0 0] }) = h1
  have hz : h1.objs.size = s.heap.objs.size + 1 := by rw [← hi]; exact Heap.size_push ..
  have hb : h1.get? s.heap.objs.size = some { cls := .type "bytes_iterator", data := .fields #[.bytes b tb, .int 0 0] } := by rw [← hi]; exact Heap.get?_push_size _ rfl
  have hk : ∀ c o, s.heap.get? c = some o → h1.get? c = some o := fun c o e => by rw [← hi]; exact Heap.get?_push_of_some _ e
  show _ ∧ _
  rw [hz]
  have he : IsEnum (h1.push { cls := .type "enumerate", data := .fields #[.none, .bool false, .ref s.heap.objs.size, rawInt 0, .none, .none] }) (s.heap.objs.size + 1) s.heap.objs.size 0 .none := by
    have := Heap.get?_push_size h1 (o := { cls := .type "enumerate", data := .fields #[.none, .bool false, .ref s.heap.objs.size, rawInt 0, .none, .none] }) rfl
    rw [hz] at this; exact this
  exact ⟨⟨_, he, rfl⟩, h _ he ⟨_, Heap.get?_push_of_some _ hb, rfl, rfl⟩ (by rw [Heap.size_push, hz]) fun c o y => Heap.get?_push_of_some _ (hk c o y)⟩
end
end Mine
end

section
open PySem PySem.W PyProof.Rows PySem.Spec PySem.Calls PyProof.V
namespace Mine
section
variable {prog : Program} {w : World} {A : Around} {E : Value → Shared → Prop} {s : Shared} {env : Env} {h₀ : Heap} {body : List Stmt} {Q : Flow → Shared → Prop}
noncomputable def EnEnd {σ : Type} (h₀ : Heap) (L e it : Addr) (oe oi : Obj) (Led : σ → List (Addr × Obj)) (ps : σ → List (Str × Value)) (x : Str) (stored : List Str) (m₀ : Str → Option Value) (P : σ → Prop) (s₁ s₂ : Shared) : Prop :=
  ∃ c h' tk m' news', s₂ = { s₁ with heap := h', toks := tk } ∧ Fr h₀ L h' m' ∧ News h₀ L h' news' ∧ (e, oe) ∈ news' ∧ (it, oi) ∈ news' ∧ (∀ p ∈ Led c, p ∈ news') ∧ (∀ p ∈ Led c, p.1 ≠ e ∧ p.1 ≠ it) ∧
    (∀ p ∈ ps c, m' p.1 = some p.2) ∧ (∀ z, z ≠ x → (∀ p ∈ ps c, z ≠ p.1) → stored.contains z = false → m' z = m₀ z) ∧ P c
noncomputable def EnTurn {σ : Type} (h₀ : Heap) (L e it : Addr) (oe oi : Obj) (Led : σ → List (Addr × Obj)) (ps : σ → List (Str × Value)) (x : Str) (stored : List Str) (m₀ : Str → Option Value) (P : σ → Prop) (s₁ : Shared) (Q : Flow → Shared → Prop) (f : Flow) (s₂ : Shared) : Prop :=
  match f with
  | .ret v => Q (.ret v) s₂
  | .brk => Q .next s₂
  | _ => EnEnd h₀ L e it oe oi Led ps x stored m₀ P s₁ s₂
theorem EnEnd.intro {σ : Type} {L e it : Addr} {oe oi : Obj} {x : Str} {Led : σ → List (Addr × Obj)} {ps : σ → List (Str × Value)} {stored : List Str} {m₀ m' : Str → Option Value} {P : σ → Prop} {s₁ : Shared} {h' : Heap} {tk : Nat} {news' : List (Addr × Obj)} (c : σ)
    (F : Fr h₀ L h' m') (N : News h₀ L h' news') (hk : ∀ p ∈ ps c, m' p.1 = some p.2) (he : (e, oe) ∈ news') (hi : (it, oi) ∈ news') (hl : ∀ p ∈ Led c, p ∈ news') (ho : ∀ p ∈ Led c, p.1 ≠ e ∧ p.1 ≠ it)
    (hr : ∀ z, z ≠ x → (∀ p ∈ ps c, z ≠ p.1) → stored.contains z = false → m' z = m₀ z) (hp : P c) : EnEnd h₀ L e it oe oi Led ps x stored m₀ P s₁ { s₁ with heap := h', toks := tk } :=
  ⟨c, h', tk, m', news', rfl, F, N, he, hi, hl, ho, hk, hr, hp⟩
theorem turns_enumD {σ : Type} {elts : List Expr} {k : Nat} {pos : Pos} {e it : Addr} {fp : List Addr} {n : Nat} {PD : Nat → Value → Prop} {St : Nat → Heap → Prop} {near : List (Addr × Obj)} {x : Str} {m₀ : Str → Option Value} (Led : σ → List (Addr × Obj)) (ps : σ → List (Str × Value)) (stored : List Str) (P : Nat → σ → Prop) (c₀ : σ)
    (D : Draws prog w A.in1 it fp n PD St) (hif : it ∈ fp) (hfp : ∀ b ∈ fp, b = it ∨ ∃ o, (b, o) ∈ near) (hnear : ∀ c, ∀ p ∈ near, p ∈ Led c)
    (hei : e ≠ it) (hLe : env.locals ≠ e) (hLi : env.locals ≠ it) (he0 : h₀.get? e = none) (hi0 : h₀.get? it = none) {old : Value} (hen : IsEnum s.heap e it 0 old) (hst : St 0 s.heap)
    (F : Fr h₀ env.locals s.heap m₀) (N : News h₀ env.locals s.heap (Led c₀)) (hoff : ∀ p ∈ Led c₀, p.1 ≠ e ∧ p.1 ≠ it) (hk : ∀ p ∈ ps c₀, m₀ p.1 = some p.2) (hp : P 0 c₀)
    (turn : ∀ i c v T t (u : Str → Option Value) h tk oe oi, i < n → PD i v → P i c → (∀ p ∈ Led c, p.1 ≠ e ∧ p.1 ≠ it) → IsTup h T #[.int (i : Int) t, v] →
      Fr h₀ env.locals h (fun y => if y = x then u y else kstB (fun z => if stored.contains z then u z else m₀ z) (ps c) y) → News h₀ env.locals h ((e, oe) :: (it, oi) :: Led c) →
      wpAny (model prog w) A (assign (.Tuple elts k pos) env (.ref T)) (fun _ s₃ => wpAny (model prog w) A (execs body env) (EnTurn h₀ env.locals e it oe oi Led ps x stored m₀ (P (i + 1)) { s with heap := h, toks := tk } Q) E s₃) E { s with heap := h, toks := tk })
    (done : ∀ c (u : Str → Option Value) h tk, P n c → Fr h₀ env.locals h (fun y => if y = x then u y else kstB (fun z => if stored.contains z then u z else m₀ z) (ps c) y) → News h₀ env.locals h (Led c) → Q .next { s with heap := h, toks := tk }) :
    TurnsAt prog w A h₀ env (.Tuple elts k pos) body Q E (.ref e) s := by
  have hef : e ∉ fp := fun hm => by
    rcases hfp e hm with q | ⟨o, ho⟩
    · exact hei q
    · exact (hoff _ (hnear c₀ _ ho)).1 rfl
  let J : Nat → (Str → Option Value) → List (Addr × Obj) → Prop := fun i m nx => ∃ c, nx = Led c ∧ (∀ p ∈ ps c, m p.1 = some p.2) ∧ (∀ z, z ≠ x → (∀ p ∈ ps c, z ≠ p.1) → stored.contains z = false → m z = m₀ z) ∧ P i c
  have hwr : ∀ b, b ∈ [e, it] → b = e ∨ b = it := fun b hb => by
    rcases List.mem_cons.mp hb with q | q
    · exact .inl q
    · exact .inr (List.mem_singleton.mp q)
  refine ⟨e, e :: fp, [e, it], n, _, _, _, m₀, Led c₀, J, rfl, KTurns.ofWalksU (WalksT.enumerateD D e hei hef hif).toU, ?_, ?_, ?_, ⟨⟨old, hen⟩, hst⟩, F, N, ⟨c₀, rfl, hk, fun _ _ _ _ => rfl, hp⟩, ?_, ?_⟩
  · intro hm
    rcases List.mem_cons.mp hm with q | q
    · exact hLe q
    · rcases hfp _ q with q | ⟨o, ho⟩
      · exact hLi q
      · exact (N _ (hnear c₀ _ ho)).2.1 rfl
  · intro b hb
    rcases hwr b hb with q | q
    · rw [q]; exact he0
    · rw [q]; exact hi0
  · intro p hp hm
    rcases hwr _ hm with q | q
    · exact (hoff p hp).1 q
    · exact (hoff p hp).2 q
  · rintro i v m₁ news₁ hh' tk' own hin ⟨T, vals, rfl, ⟨t, y, hy, rfl⟩, hT⟩ ⟨c, rfl, h1, h2, hPc⟩ hnw hown hget hall hst₁ F₁ N₁
    obtain ⟨⟨old', hen'⟩, hstD⟩ := hst₁
    obtain ⟨oi, hoi⟩ := D.live _ _ hstD
    obtain ⟨oe, hoe⟩ : ∃ oe, hh'.get? e = some oe := ⟨_, hen'⟩
    have hme : (e, oe) ∈ own := hall e List.mem_cons_self he0 oe hoe
    have hmi : (it, oi) ∈ own := hall it (List.mem_cons_of_mem _ hif) hi0 oi hoi
    have hsub : ∀ p ∈ own, p = (e, oe) ∨ p = (it, oi) ∨ p ∈ near := fun p hp => by
      have g : hh'.get? p.1 = some p.2 := hget p hp
      rcases List.mem_cons.mp (hown p hp) with q | q
      · rw [q] at g
        have g' : hh'.get? e = some oe := hoe
        rw [g'] at g
        exact .inl (Prod.ext q (Option.some.inj g).symm)
      · rcases hfp _ q with q | ⟨o, ho⟩
        · rw [q] at g
          have g' : hh'.get? it = some oi := hoi
          rw [g'] at g
          exact .inr (.inl (Prod.ext q (Option.some.inj g).symm))
        · have z := (N₁ _ (List.mem_append_right _ (hnear c _ ho))).1
          have z' : hh'.get? p.1 = some o := z
          rw [z'] at g
          have e2 : p = (p.1, o) := Prod.ext rfl (Option.some.inj g).symm
          rw [e2]; exact .inr (.inr ho)
    have N₂ : News h₀ env.locals hh' ((e, oe) :: (it, oi) :: Led c) := fun p hp => by
      rcases List.mem_cons.mp hp with rfl | hp
      · exact N₁ _ (List.mem_append_left _ hme)
      · rcases List.mem_cons.mp hp with rfl | hp
        · exact N₁ _ (List.mem_append_left _ hmi)
        · exact N₁ p (List.mem_append_right _ hp)
    have hT' : IsTup hh' T #[.int (i : Int) t, y] := hT
    refine wpAny_mono (turn i c y T t m₁ hh' tk' oe oi hin hy hPc (fun p hp => ⟨fun q => hnw p hp (q ▸ List.mem_cons_self), fun q => hnw p hp (q ▸ List.mem_cons_of_mem _ List.mem_cons_self)⟩) hT' (kst_frOut h1 h2 F₁) N₂) (fun _ s₃ q => wpAny_mono q (fun f s₂ p => ?_) fun _ _ e => e) fun _ _ e => e
    have fin : EnEnd h₀ env.locals e it oe oi Led ps x stored m₀ (P (i + 1)) { s with heap := hh', toks := tk' } s₂ → LoopStepU h₀ env.locals [e, it] own (J (i + 1)) { s with heap := hh', toks := tk' } .next s₂ := by
      rintro ⟨c', h', tk, m', news', e', F', N', he, hI, hl, ho, hk', hr', hp'⟩
      refine ⟨rfl, h', tk, m', Led c', e', F', fun p hp => ?_, fun p hp hm => ?_, c', rfl, hk', hr', hp'⟩
      · rcases List.mem_append.mp hp with hp | hp
        · rcases hsub p hp with q | q | q
          · rw [q]; exact N' _ he
          · rw [q]; exact N' _ hI
          · exact N' _ (hl _ (hnear c' _ q))
        · exact N' p (hl p hp)
      · rcases hwr _ hm with q | q
        · exact (ho p hp).1 q
        · exact (ho p hp).2 q
    cases f with
    | ret v => exact .ret p
    | brk => exact .brk p
    | next => exact .next (fin p)
    | cont => exact .cont (fin p)
  · rintro h' tk m' news' F' N' _ ⟨c, rfl, h1, h2, hPc⟩
    exact done c m' h' tk hPc (kst_frOut h1 h2 F') N'
theorem enum_bytes {σ : Type} {elts : List Expr} {k : Nat} {pos : Pos} {b : Array UInt8} {tb : Tok} {m₀ : Str → Option Value} (Led : σ → List (Addr × Obj)) (ps : σ → List (Str × Value)) (stored : List Str) (P : List Int → σ → Prop) (c₀ : σ)
    (hh : A.handled = none) (F : Fr h₀ env.locals s.heap m₀) (N : News h₀ env.locals s.heap (Led c₀)) (hk : ∀ p ∈ ps c₀, m₀ p.1 = some p.2) (hp : P [] c₀)
    (turn : ∀ (e it : Addr) c (pre post : List Int) (n : Int) T t t' (u : Str → Option Value) h tk oe oi, (∀ p ∈ Led c₀, p.1 < it) → e = it + 1 → KBw.bInts b = pre ++ n :: post → P pre c → (∀ p ∈ Led c, p.1 ≠ e ∧ p.1 ≠ it) → IsTup h T #[.int (pre.length : Int) t, .int n t'] →
      Fr h₀ env.locals h (fun y => if y = Str.ofString "" then u y else kstB (fun z => if stored.contains z then u z else m₀ z) (ps c) y) → News h₀ env.locals h ((e, oe) :: (it, oi) :: Led c) →
      wpAny (model prog w) A (assign (.Tuple elts k pos) env (.ref T)) (fun _ s₃ => wpAny (model prog w) A (execs body env) (EnTurn h₀ env.locals e it oe oi Led ps (Str.ofString "") stored m₀ (P (pre ++ [n])) { s with heap := h, toks := tk } Q) E s₃) E { s with heap := h, toks := tk })
    (done : ∀ c (u : Str → Option Value) h tk, P (KBw.bInts b) c → Fr h₀ env.locals h (fun y => if y = Str.ofString "" then u y else kstB (fun z => if stored.contains z then u z else m₀ z) (ps c) y) → News h₀ env.locals h (Led c) → Q .next { s with heap := h, toks := tk }) :
    wpAny (model prog w) A (call (.type "enumerate") [.bytes b tb]) (fun xv s₁ => wpAny (model prog w) A (pyIter xv) (fun it s₂ => TurnsAt prog w A h₀ env (.Tuple elts k pos) body Q E it s₂) E s₁) E s := by
  have hLs : @LT.lt Nat _ env.locals s.heap.objs.size := F.ns.lt
  have hlt : ∀ p ∈ Led c₀, p.1 < s.heap.objs.size := news_lt N
  have fresh : ∀ c, s.heap.objs.size ≤ c → h₀.get? c = none := fun c hc => by
    cases q : h₀.get? c with
    | none => rfl
    | some o => exact absurd (Nat.lt_of_lt_of_le (Heap.lt_size (F.keep c o q)) hc) (Nat.lt_irrefl _)
  refine enumerate_bytes fun h' hE hI hsz hk' => ?_
  refine wpAny_pyIter_enum hE ?_
  have hh1 : A.in1.handled = none := hh
  have D : Draws prog w A.in1 s.heap.objs.size [s.heap.objs.size] b.size (fun i v => ∃ c u, b[i]? = some c ∧ v = .int (c.toNat : Int) u) (fun i h => KBw.IsBytesIter h s.heap.objs.size b tb i) := drawsB hh1 s.heap.objs.size
  refine turns_enumD (x := Str.ofString "") (s := { s with heap := h' }) (near := []) Led ps stored (fun i c => P ((KBw.bInts b).take i) c) c₀ D (List.mem_singleton.mpr rfl) (fun b hb => .inl (List.mem_singleton.mp hb)) (fun _ _ hp => nomatch hp)
    (Nat.succ_ne_self _) (Nat.ne_of_lt (Nat.lt_succ_of_lt hLs)) (Nat.ne_of_lt hLs) (fresh _ (Nat.le_succ _)) (fresh _ (Nat.le_refl _)) hE hI (F.keeps hk') (N.grown hk') (fun p hp => ⟨Nat.ne_of_lt (Nat.lt_succ_of_lt (hlt p hp)), Nat.ne_of_lt (hlt p hp)⟩) hk (by simpa using hp) ?_ ?_
  · rintro i c v T t u h tk oe oi hi ⟨n, t', hn, rfl⟩ hP hoff hT F₁ N₁
    have hn' : (KBw.bInts b)[i]? = some (n.toNat : Int) := KBw.ints_get hn
    have hs : (KBw.bInts b).take (i + 1) = (KBw.bInts b).take i ++ [(n.toNat : Int)] := by simp [List.take_add_one, hn']
    have e : KBw.bInts b = (KBw.bInts b).take i ++ (n.toNat : Int) :: (KBw.bInts b).drop (i + 1) := by
      have ht := List.take_append_drop (i + 1) (KBw.bInts b)
      rw [hs, List.append_assoc] at ht
      exact ht.symm
    have hl : ((KBw.bInts b).take i).length = i := by rw [List.length_take, KBw.ints_length]; omega
    have := turn (s.heap.objs.size + 1) s.heap.objs.size c _ _ _ T t t' u h tk oe oi hlt rfl e hP hoff (by rw [hl]; exact hT) F₁ N₁
    rw [← hs] at this
    exact this
  · rintro c u h tk hP F₁ N₁
    rw [← KBw.ints_length b, List.take_length] at hP
    exact done c u h tk hP F₁ N₁
theorem enum_list {σ : Type} {elts : List Expr} {k : Nat} {pos : Pos} {l : Addr} {its : Array Value} {ep : Nat} {m₀ : Str → Option Value} (Led : σ → List (Addr × Obj)) (ps : σ → List (Str × Value)) (stored : List Str) (P : Nat → σ → Prop) (c₀ : σ)
    (hh : A.handled = none) (hlm : ∀ c, (l, W.listOf its ep) ∈ Led c) (F : Fr h₀ env.locals s.heap m₀) (N : News h₀ env.locals s.heap (Led c₀)) (hk : ∀ p ∈ ps c₀, m₀ p.1 = some p.2) (hp : P 0 c₀)
    (turn : ∀ (e it : Addr) c i v T t (u : Str → Option Value) h tk oe oi, (∀ p ∈ Led c₀, p.1 < it) → e = it + 1 → i < its.size → its[i]? = some v → P i c → (∀ p ∈ Led c, p.1 ≠ e ∧ p.1 ≠ it) → IsTup h T #[.int (i : Int) t, v] →
      Fr h₀ env.locals h (fun y => if y = Str.ofString "" then u y else kstB (fun z => if stored.contains z then u z else m₀ z) (ps c) y) → News h₀ env.locals h ((e, oe) :: (it, oi) :: Led c) →
      wpAny (model prog w) A (assign (.Tuple elts k pos) env (.ref T)) (fun _ s₃ => wpAny (model prog w) A (execs body env) (EnTurn h₀ env.locals e it oe oi Led ps (Str.ofString "") stored m₀ (P (i + 1)) { s with heap := h, toks := tk } Q) E s₃) E { s with heap := h, toks := tk })
    (done : ∀ c (u : Str → Option Value) h tk, P its.size c → Fr h₀ env.locals h (fun y => if y = Str.ofString "" then u y else kstB (fun z => if stored.contains z then u z else m₀ z) (ps c) y) → News h₀ env.locals h (Led c) → Q .next { s with heap := h, toks := tk }) :
    wpAny (model prog w) A (call (.type "enumerate") [.ref l]) (fun xv s₁ => wpAny (model prog w) A (pyIter xv) (fun it s₂ => TurnsAt prog w A h₀ env (.Tuple elts k pos) body Q E it s₂) E s₁) E s := by
  have hLs : @LT.lt Nat _ env.locals s.heap.objs.size := F.ns.lt
  have hlt : ∀ p ∈ Led c₀, p.1 < s.heap.objs.size := news_lt N
  have hls : s.heap.IsList l its := News.isList N (hlm c₀)
  have hll : @LT.lt Nat _ l s.heap.objs.size := hlt _ (hlm c₀)
  have fresh : ∀ c, s.heap.objs.size ≤ c → h₀.get? c = none := fun c hc => by
    cases q : h₀.get? c with
    | none => rfl
    | some o => exact absurd (Nat.lt_of_lt_of_le (Heap.lt_size (F.keep c o q)) hc) (Nat.lt_irrefl _)
  refine call_enumerate_list hls fun h' hE hI hsz hk' => ?_
  refine wpAny_pyIter_enum hE ?_
  have hh1 : A.in1.handled = none := hh
  have D : Draws prog w A.in1 s.heap.objs.size [s.heap.objs.size, l] its.size (fun i v => its[i]? = some v) (fun i h => h.IsListIter s.heap.objs.size l i ∧ h.IsList l its) := Draws.list hh1 s.heap.objs.size l (Nat.ne_of_lt hll) its
  refine turns_enumD (x := Str.ofString "") (s := { s with heap := h' }) (near := [(l, W.listOf its ep)]) Led ps stored P c₀ D List.mem_cons_self (fun b hb => ?_) (fun c p hp => by rw [List.mem_singleton.mp hp]; exact hlm c)
    (Nat.succ_ne_self _) (Nat.ne_of_lt (Nat.lt_succ_of_lt hLs)) (Nat.ne_of_lt hLs) (fresh _ (Nat.le_succ _)) (fresh _ (Nat.le_refl _)) hE ⟨hI, hls.at fun o e => hk' l o e⟩ (F.keeps hk') (N.grown hk') (fun p hp => ⟨Nat.ne_of_lt (Nat.lt_succ_of_lt (hlt p hp)), Nat.ne_of_lt (hlt p hp)⟩) hk hp ?_ done
  · rcases List.mem_cons.mp hb with q | q
    · exact .inl q
    · exact .inr ⟨_, by rw [List.mem_singleton.mp q]; exact List.mem_cons_self⟩
  · rintro i c v T t u h tk oe oi hi hv hP hoff hT F₁ N₁
    exact turn (s.heap.objs.size + 1) s.heap.objs.size c i v T t u h tk oe oi hlt rfl hi hv hP hoff hT F₁ N₁
end
end Mine
end

section
open PySem PySem.W PyProof.Rows PySem.Spec PySem.Calls PyProof.V
set_option maxRecDepth 100000
namespace Mine
section
variable {prog : Program} {w : World} {A : Around} {E : Value → Shared → Prop} {s : Shared} {h₀ : Heap} {L : Addr} {m : Str → Option Value} {Q : Value → Shared → Prop}
theorem iadd_my {l b : Addr} {its its2 : Array Value} {n n2 : Nat} {pre post : List (Addr × Obj)} (Fm : Fr h₀ L s.heap m) (N : News h₀ L s.heap (pre ++ (l, W.listOf its n) :: post)) (hb : (b, W.listOf its2 n2) ∈ pre ++ (l, W.listOf its n) :: post)
    (h1 : ∀ p ∈ pre, p.1 ≠ l) (h2 : ∀ p ∈ post, p.1 ≠ l) (hz : its.size + its2.size ≤ 1000)
    (h : ∀ h' ep', Fr h₀ L h' m → News h₀ L h' (pre ++ (l, W.listOf (its ++ its2) ep') :: post) → Q (.ref l) { s with heap := h' }) : wpAny (model prog w) A (inplaceOp .Add (.ref l) (.ref b)) Q E s := by
  have zl := N (l, W.listOf its n) (List.mem_append_right _ (.head _))
  have zb := N _ hb
  have tl : s.TypeIs (.ref l) "list" := ⟨_, zl.1, rfl⟩
  have tb : s.TypeIs (.ref b) "list" := ⟨_, zb.1, rfl⟩
  have hfi : fillsInplaceSlot (.type "list") "add" (Operator.Add == .Add) = pure false := by
    unfold fillsInplaceSlot
    show (typeLookup (.type "list") (dunderI "add") >>= fun fi => pure (fi.isSome && !isSeqSlot fi)) = pure false
    rw [PySem.F.slot_list_iadd.lookup, pure_bind]
    have : isSeqSlot (some (.builtin "list.__iadd__")) = true := by decide +kernel
    rw [this]; rfl
  have hseq : seqSlot? (.type "list") (dunderI "add") = pure (some (.builtin "list.__iadd__")) := PySem.seqSlot_of PySem.F.slot_list_iadd.lookup (by decide +kernel)
  have hs : sizeLine = 16777216 := PySem.sizeLine_eq
  unfold inplaceOp
  refine wpAny_holding ?_
  refine wpAny_bind (wpAny_typeOf tl (wpAny_bind (wpAny_of_eq hfi ?_)))
  show wpAny _ _ (if false = true then _ else _) _ _ _
  rw [if_neg Bool.false_ne_true]
  refine wpAny_bind (wpAny_binaryOp1_none (nm := "add") tl tb noFill_list_add ?_)
  refine wpAny_bind (wpAny_of_eq hseq ?_)
  refine wpAny_bind (wpAny_rule ?_)
  refine call_meets PySem.F.slot_list_iadd tl PySem.F.entry_list_iadd (PySem.F.args_list_iadd_2 _ _) (PySem.AutoSeq1.list___iadd___list_list_0 l its n b its2 n2 ?_ (by omega) (by omega)) ⟨zl.1, zb.1, ?_⟩
  · intro hc
    rw [Bool.and_eq_true] at hc
    have := hc.2
    unfold Builtin.List.listTooLong at this
    rw [decide_eq_true_eq] at this
    omega
  · have q := PySem.IsL.update zl.1 (fun x => x ++ its2)
    exact h _ _ (Fm.change (Heap.SameBut.update ..) zl.2.1 zl.2.2) (N.setAt h1 h2 (Heap.SameBut.update ..) q)
end
end Mine
end

section
open PySem PySem.W PyProof.Rows PySem.Spec PySem.Calls PyProof.V
set_option maxRecDepth 100000
namespace Mine
theorem rev_nolen : typeLookup (.type "list_reverseiterator") "__len__" = pure none := by rw [typeLookup_type, builtinLookup_eq_fast]; kernel_rfl
theorem rev_hint : typeLookup (.type "list_reverseiterator") "__length_hint__" = pure (some (.builtin "list_reverseiterator.__length_hint__")) := by rw [typeLookup_type, builtinLookup_eq_fast]; kernel_rfl
section
variable {prog : Program} {w : World} {A : Around} {E : Value → Shared → Prop} {s : Shared} {I l : Addr} {items : Array Value}
noncomputable abbrev revP (items : Array Value) : Nat → Value → Prop := fun i v => items[items.size - 1 - i]? = some v
noncomputable abbrev revS (I l : Addr) (items : Array Value) : Nat → Shared → Prop := fun i s => i ≤ items.size ∧ s.heap.IsRevIter I l ((items.size : Int) - 1 - (i : Int)) ∧ s.heap.IsList l items
theorem collect_rev {Q : List Value → Shared → Prop} (hh : A.handled = none) (hne : l ≠ I) (st : revS I l items 0 s) (hI : I < s.heap.objs.size) (hl : l < s.heap.objs.size) (hn : items.size ≤ sizeLine)
    (hQ : ∀ s' acc, Moved [I] (fun a b => b = a) s s' → ItemsOf (revP items) acc items.size → Q acc.toList s') : wpAny (model prog w) A (collect (.ref I)) Q E s := by
  have W : WalksS prog w A.in1 I [I, l] [I] (fun a b => b = a) items.size (revP items) (revS I l items) := (Walks.listRev (A := A.in1) hh I l hne items).toS
  have hT : ∀ (s : Shared), revS I l items 0 s → s.TypeIs (.ref I) "list_reverseiterator" := fun _ x => x.2.1.typeIs
  have hfp : ∀ b ∈ [I, l], b < s.heap.objs.size := fun b hb => by
    rcases List.mem_cons.mp hb with rfl | hb
    · exact hI
    · rw [List.mem_singleton.mp hb]; exact hl
  have hSf : s.heap.objs.size ∉ [I, l] := fun hm => Nat.lt_irrefl _ (hfp _ hm)
  have hSI : s.heap.objs.size ≠ I := Nat.ne_of_gt hI
  unfold collect
  refine wpAny_bind (wpAny_runValue (codeAny_builtin F.entry_proto_collect ?_))
  rw [Around.under_plainId F.plain_proto_collect _]
  show wpAny _ A.in1 (newList [] >>= fun l => again (.builtin "list.__iadd__" ⟨[l, .ref I], []⟩)) _ _ s
  refine wpAny_bind (wpAny_newObj_type (wpAny_pure ⟨plainId_quiet F.plain_list_iadd _, codeAny_builtin F.entry_list_iadd ?_⟩))
  rw [Around.under_plainId F.plain_list_iadd _]
  have st1 := W.frame 0 s (s.heap.push { cls := .type "list", data := .seq ([] : List Value).toArray }) s.toks st (Nat.le_refl _) fun b _ o e => Heap.get?_push_of_some _ e
  have hS1 : (s.heap.push { cls := .type "list", data := .seq ([] : List Value).toArray }).get? s.heap.objs.size = some { cls := .type "list", data := .seq ([] : List Value).toArray } := Heap.get?_push_size _ rfl
  have h1 : Builtin.List.listSameRef (.ref s.heap.objs.size) (.ref I) = false := by simp [Builtin.List.listSameRef, hSI]
  show wpAny _ A.in1 (Builtin.List.listExtendWith (.ref s.heap.objs.size) (.ref I) (.ref s.heap.objs.size)) _ _ _
  unfold Builtin.List.listExtendWith
  refine wpAny_bind (wpAny_typeOf (hT _ st1) ?_)
  rw [if_neg (by rw [h1]; decide)]
  refine wpAny_bind (W.self 0 _ _ _ st1 (wpAny_bind (wpAny_holding ?_)))
  unfold Builtin.List.listLengthHint
  refine wpAny_bind (wpAny_specialOf (hT _ st1) rev_nolen ?_)
  show wpAny _ A.in1 (specialOf (Value.ref I) (Str.ofString "__length_hint__") >>= _) _ _ _
  refine wpAny_bind (wpAny_specialOf (hT _ st1) rev_hint ?_)
  generalize hid : ("list_reverseiterator.__length_hint__" : String) = id0
  wp_delta
  rw [show splitId id0 = some ("list_reverseiterator", "__length_hint__") from by subst hid; decide +kernel]
  subst hid
  refine wpAny_bind (wpAny_isInstance (b := true) (hT _ st1) (by rw [isSubtype_type]; kernel_rfl) (wpAny_pure ?_))
  rw [if_neg (by decide)]
  refine wpAny_pure ⟨plainId_quiet F.plain_extend_loop _, codeAny_extend_loopS W hn _ hSf _ items.size 0 _ _ _ rfl (Nat.zero_le _) st1 hS1 (ItemsOf.nil _) fun s' acc' c' hm hS' hacc => ?_⟩
  show wpAny _ A (load s.heap.objs.size >>= _) _ _ s'
  refine wpAny_bind (wpAny_load hS' (wpAny_pure (hQ s' acc' (Moved.drop_new (o := { cls := .type "list", data := .seq ([] : List Value).toArray }) (tk := s.toks) hm (Nat.le_refl _)) hacc)))
theorem rev_acc {acc : Array Value} (h : ItemsOf (revP items) acc items.size) : acc = items.toList.reverse.toArray := by
  apply Array.ext'
  rw [List.toList_toArray]
  apply List.ext_getElem?
  intro j
  rw [Array.getElem?_toList]
  by_cases hj : j < acc.size
  · have e := Array.getElem?_eq_getElem hj
    have q := h.2 j _ e
    have hs := h.1
    rw [e, List.getElem?_reverse (by rw [Array.length_toList]; omega), Array.length_toList, Array.getElem?_toList]
    exact q.symm
  · rw [Array.getElem?_eq_none (by omega), List.getElem?_eq_none (by rw [List.length_reverse, Array.length_toList]; have := h.1; omega)]
theorem code_tuple_rev {Q₁ : Value → Shared → Prop} (hh : A.handled = none) (hne : l ≠ I) (st : revS I l items 0 s) (hI : I < s.heap.objs.size) (hl : l < s.heap.objs.size) (hn : items.size ≤ sizeLine)
    (h : ∀ s', Moved [I] (fun a b => b = a) s s' → Q₁ (.ref s'.heap.objs.size) { s' with heap := s'.heap.push { cls := .type "tuple", data := .seq items.toList.reverse.toArray } }) :
    codeAny (model prog w) A (.call (.builtin "tuple.__new__") ⟨[.type "tuple", .ref I], []⟩) (wants Q₁ E) s := by
  refine codeAny_of_tree ?_
  show wpAny _ A.in1 (do checkBuiltinCall "tuple.__new__" ⟨[.type "tuple", .ref I], []⟩; again (.builtin "tuple.__new__" ⟨[.type "tuple", .ref I], []⟩)) _ _ s
  refine wpAny_bind (wpAny_of_eq (F.newCall_tuple_1 _) (wpAny_pure ⟨plainId_quiet F.plain_tuple_new _, codeAny_builtin F.entry_tuple_new ?_⟩))
  rw [Around.under_plainId F.plain_tuple_new _]
  have hsub := sub_tuple_self
  have hinit := init_tuple_lookup
  have hmh := madeHere_tuple
  have hTI := st.2.1.typeIs
  have hh1 : A.in1.handled = none := hh
  wp_walk using wpAny_typeOf hTI, collect_rev hh1 hne st hI hl hn
  intro s' acc hm hacc
  show wpAny _ _ (Builtin.Tuple.tupleExact acc.toList.toArray >>= fun v => ret v) _ _ _
  have e := rev_acc hacc
  subst e
  unfold Builtin.Tuple.tupleExact
  refine wpAny_bind (wpAny_newObj_type (wpAny_pure ?_) (by show items.toList.reverse.toArray.toList.toArray.size ≤ sizeLine; simpa using hn))
  have e2 : items.toList.reverse.toArray.toList.toArray = items.toList.reverse.toArray := by simp
  rw [e2]
  exact h s' hm
theorem call_tuple_rev {Q : Value → Shared → Prop} (hh : A.handled = none) (hne : l ≠ I) (st : revS I l items 0 s) (hI : I < s.heap.objs.size) (hl : l < s.heap.objs.size) (hn : items.size ≤ sizeLine)
    (h : ∀ s', Moved [I] (fun a b => b = a) s s' → Q (.ref s'.heap.objs.size) { s' with heap := s'.heap.push { cls := .type "tuple", data := .seq items.toList.reverse.toArray } }) :
    wpAny (model prog w) A (call (.type "tuple") [.ref I]) Q E s := by
  refine callType_codes (Q₁ := fun obj s₁ => s₁.TypeIs obj "tuple" ∧ Q obj s₁) F.called_tuple (F.typeCall_tuple_1 _) F.entry_object_init
    (code_tuple_rev hh hne st hI hl hn fun s' hm => ⟨⟨_, Heap.get?_push_size _ rfl, rfl⟩, h s' hm⟩) fun obj s₁ h₁ => ?_
  exact ⟨h₁.1, F.args_object_init_2 obj _, object_init_meets F.called_tuple.init.lookup F.called_tuple.made (by decide) prog w A.in1 _ s₁ ⟨h₁.1, rfl, h₁.2⟩⟩
theorem tuple_rev_my {h₀ : Heap} {L : Addr} {m : Str → Option Value} {vs : List Value} {lo : Obj} {ep : Nat} {news : List (Addr × Obj)} {Q : Value → Shared → Prop} (hh : A.handled = none) (F : Fr h₀ L s.heap m) (N : News h₀ L s.heap ((I, revObj l ((vs.length : Int) - 1)) :: news)) (hoff : ∀ p ∈ news, p.1 ≠ I)
    (hm : (l, lo) ∈ news) (hc : lo.cls = .type "list") (hd : lo.data = .seq vs.toArray ep) (hz : vs.length ≤ 1000)
    (h : ∀ D h' tk, Fr h₀ L h' m → News h₀ L h' ((D, ({ cls := .type "tuple", data := .seq vs.reverse.toArray } : Obj)) :: news) → (∀ p ∈ news, p.1 < D) → Q (.ref D) { s with heap := h', toks := tk }) :
    wpAny (model prog w) A (call (.type "tuple") [.ref I]) Q E s := by
  have zI := N _ List.mem_cons_self
  have zl := N _ (List.mem_cons_of_mem _ hm)
  have hne : l ≠ I := hoff _ hm
  have hls : s.heap.IsList l vs.toArray := ⟨_, zl.1, hc, _, hd⟩
  refine call_tuple_rev (items := vs.toArray) hh hne ⟨Nat.zero_le _, ⟨_, zI.1, rfl, ?_⟩, hls⟩ (Heap.lt_size zI.1) (Heap.lt_size zl.1) (by rw [List.size_toArray, sizeLine_eq]; omega) ?_
  · show (revObj l ((vs.length : Int) - 1)).data = _
    rw [List.size_toArray, show ((vs.length : Int) - 1 - ((0 : Nat) : Int)) = (vs.length : Int) - 1 by omega]
    rfl
  · rintro ⟨h', g', d', t', o'⟩ hm'
    obtain ⟨m1, m2, m3, m4, _⟩ := hm'
    have m2 : g' = s.gens := m2
    have m3 : d' = s.drawn := m3
    have m4 : o' = s.os := m4
    subst m2 m3 m4
    have up : ∀ b o, b ≠ I → s.heap.get? b = some o → h'.get? b = some o := fun b o hb e => m1 b o (by simpa using hb) e
    have hI0 : h₀.get? I = none := zI.2.2
    have F' : Fr h₀ L h' m := ⟨F.ns.at' fun o e => up _ o (Ne.symm zI.2.1) e, fun b o e => up b o (fun q => by rw [q, hI0] at e; cases e) (F.keep b o e), F.above⟩
    have N' : News h₀ L h' news := fun p hp => ⟨up _ _ (hoff p hp) (N p (List.mem_cons_of_mem _ hp)).1, (N p (List.mem_cons_of_mem _ hp)).2⟩
    have e : vs.toArray.toList.reverse.toArray = vs.reverse.toArray := by rw [List.toList_toArray]
    rw [e]
    exact h _ _ _ (F'.push _) (N'.push F' _) fun p hp => Heap.lt_size (N' p hp).1
end
end Mine
end

section
open PySem PySem.W PyProof.Rows
namespace Mine
noncomputable def digs : Nat → Nat → List Int
  | 0, _ => []
  | n + 1, q => digs n (q / 16) ++ [65 + ((q % 16 : Nat) : Int)]
theorem apL_digs (n : Nat) : ∀ q, q < 16 ^ n → List.replicate (n - (apL q).length) 65 ++ apL q = digs n q := by
  induction n with
  | zero =>
    intro q h
    have : q = 0 := by simpa using h
    subst this; simp [apL_zero, digs]
  | succ n ih =>
    intro q h
    by_cases h0 : q = 0
    · subst h0
      have := ih 0 (Nat.pos_of_ne_zero (by simp))
      rw [apL_zero] at this ⊢
      simp only [List.length_nil, Nat.sub_zero, List.append_nil] at this ⊢
      rw [digs, Nat.zero_div, ← this, List.replicate_succ']
      rfl
    · have hq : q / 16 < 16 ^ n := Nat.div_lt_of_lt_mul (by rw [Nat.mul_comm]; exact h)
      rw [apL_pos h0, digs, ← ih (q / 16) hq, List.length_append, List.length_singleton, List.append_assoc, Nat.add_sub_add_right]
end Mine
namespace Mine
end Mine
namespace Mine
end Mine
end

section
open PySem PySem.W PyProof.Rows
namespace Mine
theorem reads_ints {h : Heap} : ∀ {vs : List Value} {ns : List Int}, IntsAre vs ns → ReadsAll h vs (ns.map PyData.int) []
  | _, _, .nil => .nil
  | _, _, .cons i t r => .cons (.int i t) (reads_ints r)
inductive TabIn (led : List (Addr × Obj)) : List Value → List (Int × Int × Int) → Prop
  | nil : TabIn led [] []
  | cons {T : Addr} {a b c : Int} {t u v : Tok} {vs : List Value} {rows : List (Int × Int × Int)} : (T, ({ cls := .type "tuple", data := .seq #[.int a t, .int b u, .int c v] } : Obj)) ∈ led → TabIn led vs rows → TabIn led (.ref T :: vs) ((a, b, c) :: rows)
theorem TabIn.mono {led led' : List (Addr × Obj)} (hs : ∀ p ∈ led, p ∈ led') : ∀ {vs : List Value} {rows : List (Int × Int × Int)}, TabIn led vs rows → TabIn led' vs rows
  | _, _, .nil => .nil
  | _, _, .cons h r => .cons (hs _ h) (r.mono hs)
theorem TabIn.snoc {led : List (Addr × Obj)} {T : Addr} {a b c : Int} {t u v : Tok} (h : (T, ({ cls := .type "tuple", data := .seq #[.int a t, .int b u, .int c v] } : Obj)) ∈ led) : ∀ {vs : List Value} {rows : List (Int × Int × Int)}, TabIn led vs rows → TabIn led (vs ++ [.ref T]) (rows ++ [(a, b, c)])
  | _, _, .nil => .cons h .nil
  | _, _, .cons h' r => .cons h' (r.snoc h)
theorem TabIn.length {led : List (Addr × Obj)} : ∀ {vs : List Value} {rows : List (Int × Int × Int)}, TabIn led vs rows → vs.length = rows.length
  | _, _, .nil => rfl
  | _, _, .cons _ r => congrArg (· + 1) r.length
noncomputable def rowData (r : Int × Int × Int) : PyData := .tuple [.int r.1, .int r.2.1, .int r.2.2]
theorem TabIn.reads {h₀ h : Heap} {L : Addr} {led : List (Addr × Obj)} (N : News h₀ L h led) : ∀ {vs : List Value} {rows : List (Int × Int × Int)}, TabIn led vs rows → ReadsAll h vs (rows.map rowData) []
  | _, _, .nil => .nil
  | _, _, .cons (a := a) (b := b) (c := c) hm r => by
    have h1 : Reads h _ (rowData (a, b, c)) [] := reads_tuple_at (N _ hm).1 rfl rfl (.cons (.int _ _) (.cons (.int _ _) (.cons (.int _ _) .nil)))
    exact .cons h1 (r.reads N)
theorem rows_eqv : ∀ xs ys : List (Int × Int × Int), PyData.eqvAll (xs.map rowData) (ys.map rowData) = decide (xs = ys)
  | [], [] => by simp [PyData.eqvAll]
  | [], _ :: _ => by simp [PyData.eqvAll]
  | _ :: _, [] => by simp [PyData.eqvAll]
  | (a, b, c) :: r, (a', b', c') :: q => by
    simp only [List.map_cons, PyData.eqvAll, rows_eqv r q]
    simp only [rowData, PyData.eqv, PyData.eqvAll]
    by_cases h1 : a = a' <;> by_cases h2 : b = b' <;> by_cases h3 : c = c' <;> by_cases h4 : r = q <;> simp [h1, h2, h3, h4]
theorem rows_lay : ∀ xs : List (Int × Int × Int), PyData.canLayAll0 (xs.map rowData) = true
  | [] => rfl
  | x :: r => by simp [PyData.canLayAll0, rowData, PyData.canLay0, rows_lay r]
theorem rows_depth : ∀ xs : List (Int × Int × Int), PyData.depthAll (xs.map rowData) ≤ 2
  | [] => by simp [PyData.depthAll]
  | x :: r => by
    have := rows_depth r
    simp only [List.map_cons, PyData.depthAll, rowData, PyData.depth]
    exact Nat.max_le.mpr ⟨by decide, this⟩
end Mine
end

section
open PySem PySem.W PyProof.Rows PySem.Spec PySem.Calls PyProof.V PyProof.Rows.LCg
namespace Mine
section
variable {prog : Program} {w : World} {A : Around} {h₀ : Heap} {L : Addr} {m : Str → Option Value} {E : Value → Shared → Prop} {s : Shared} {env : Env}
theorem assign3 {a b c : Str} {pa pb pc tp : Pos} {kk : Nat} {T : Addr} {x y z : Value} {m : Str → Option Value} {Q : Unit → Shared → Prop} (hh : A.handled = none) (ht : s.heap.IsTuple T #[x, y, z])
    (ha : env.kindOf a = some .local) (hb : env.kindOf b = some .local) (hc : env.kindOf c = some .local) (hp : (env.scope.kind == .class || (env.scope.kind == .module && env.locals != env.globals)) = false) (hn : s.heap.Ns env.locals m)
    (h : ∀ (h' : Heap) (tk : Nat), h'.Ns env.locals (fun q => if q = c then some z else if q = b then some y else if q = a then some x else m q) → (∀ d o, d ≠ env.locals → s.heap.get? d = some o → h'.get? d = some o) → Q () { s with heap := h', toks := tk }) :
    wpAny (model prog w) A (assign (.Tuple [.Name a pa, .Name b pb, .Name c pc] kk tp) env (.ref T)) Q E s := by
  refine wpAny_assign_Tuple hh ht rfl rfl fun g hg => ?_
  have gn : g.Ns env.locals m := hn.at' fun o e => hg _ o (Nat.ne_of_lt hn.lt) e
  have gk : ∀ d o, s.heap.get? d = some o → g.get? d = some o := fun d o e => hg d o (Nat.ne_of_lt (Heap.lt_size e)) e
  show wpAny _ _ (assignInOrder [assign (.Name a pa) env, assign (.Name b pb) env, assign (.Name c pc) env] [x, y, z]) _ _ _
  refine assignInOrder_cons (wpAny_assign_Name (wpAny_storeName_local ha gn (fun g1 n1 k1 => ?_) hp))
  refine assignInOrder_cons (wpAny_assign_Name (wpAny_storeName_local hb n1 (fun g2 n2 k2 => ?_) hp))
  refine assignInOrder_cons (wpAny_assign_Name (wpAny_storeName_local hc n2 (fun g3 n3 k3 => ?_) hp))
  exact assignInOrder_nil (h g3 _ n3 fun d o hd e => k3.extBut d o hd (k2.extBut d o hd (k1.extBut d o hd (gk d o e))))
noncomputable def NmT (I C : Addr) (near : List (Addr × Obj)) (a b c : Str) (R : Nat → Value → Value → Value → Prop) (St : Nat → Heap → Prop) (i : Nat) (own : List (Addr × Obj)) : Prop :=
  ∃ (oI oC : Obj) (m₂ : Str → Option Value) (x y z : Value), own = [(I, oI), (C, oC)] ∧ NsObj oC m₂ ∧ R i x y z ∧ m₂ a = some x ∧ m₂ b = some y ∧ m₂ c = some z ∧ (∀ h : Heap, h.get? I = some oI → (∀ p ∈ near, h.get? p.1 = some p.2) → St (i + 1) h)
theorem nmt_cov {I C : Addr} {near : List (Addr × Obj)} {a b c : Str} {R : Nat → Value → Value → Value → Prop} {St : Nat → Heap → Prop} : ∀ i own, NmT I C near a b c R St i own → ∀ d ∈ [I, C], ∃ p ∈ own, p.1 = d := by
  rintro i own ⟨oI, oC, m₂, x, y, z, rfl, -⟩ d hd
  rcases List.mem_cons.mp hd with rfl | hd
  · exact ⟨_, .head _, rfl⟩
  · rw [List.mem_singleton.mp hd]; exact ⟨_, .tail _ (.head _), rfl⟩
section
variable {I C D l : Addr} {fp wr : List Addr} {n : Nat} {Pv : Nat → Value → Prop} {St : Nat → Heap → Prop} {near : List (Addr × Obj)} {a b c : Str} {pa pb pc tp : Pos} {kk : Nat} {R : Nat → Value → Value → Value → Prop}
theorem CSrc.tup3 (hh : A.handled = none) (W : Walks prog w A I fp wr n Pv St) (hfp : ∀ b ∈ fp, b = I ∨ ∃ o, (b, o) ∈ near) (hwr : ∀ b ∈ wr, b = I) (hlive : ∀ i h, St i h → h.IsListIter I l i)
    (hT : ∀ i v, Pv i v → ∃ T x y z, v = .ref T ∧ (T, ({ cls := .type "tuple", data := .seq #[x, y, z] } : Obj)) ∈ near ∧ R i x y z)
    (hCI : C ≠ I) (hDI : D ≠ I) (hDC : D ≠ C) (hnI : ∀ p ∈ near, p.1 ≠ I ∧ p.1 ≠ C ∧ p.1 ≠ D) (hC : env.locals = C) (ha : env.kindOf a = some .local) (hb : env.kindOf b = some .local) (hc : env.kindOf c = some .local) (hab : ¬ a = b) (hac : ¬ a = c) (hbc : ¬ b = c)
    (hp : (env.scope.kind == .class || (env.scope.kind == .module && env.locals != env.globals)) = false) :
    CSrc prog w A h₀ L (.Tuple [.Name a pa, .Name b pb, .Name c pc] kk tp) env I D C [I, C] n (fun nw => ∀ p ∈ near, p ∈ nw) (NmLI C near St) (NmT I C near a b c R St) where
  next := by
    intro i s P Q E hi hid hP hQ
    obtain ⟨hst, hn, m', hns⟩ := hid
    refine W.item i s P E hi hst fun v h' tk hPv hst' hk => hP _ _ ?_
    obtain ⟨T, x, y, z, rfl, hTm, hR⟩ := hT i v hPv
    have hkI : ∀ b o, b ≠ I → s.heap.get? b = some o → h'.get? b = some o := fun b o hb e => hk b o (fun hm => hb (hwr b hm)) e
    have hn' : ∀ p ∈ near, h'.get? p.1 = some p.2 := fun p hp => hkI _ _ (hnI p hp).1 (hn p hp)
    refine wpAny_letOwnedTupleGo_listiter (hlive _ _ hst') ?_
    refine assign3 hh (m := m') ⟨_, hn' _ hTm, rfl, _, rfl⟩ ha hb hc hp (by rw [hC]; exact hns.at' fun o q => hkI C o hCI q) fun h₂ tk₂ hn₂ hs₂ => ?_
    rw [hC] at hn₂ hs₂
    obtain ⟨oI, hoI, -⟩ := hlive _ _ hst'
    obtain ⟨oC, heC, hoC⟩ := ns_obj hn₂
    refine hQ [(I, oI), (C, oC)] h₂ _ ⟨oI, oC, _, x, y, z, rfl, hoC, hR, by simp [hab, hac], by simp [hbc], by simp, fun h q1 q2 => walk_at' W hfp hst' hoI hn' q1 q2⟩ ?_ ?_ ?_
    · intro p hp
      rcases List.mem_cons.mp hp with rfl | hp
      · exact List.mem_cons_self
      · rw [List.mem_singleton.mp hp]; exact List.mem_cons_of_mem _ List.mem_cons_self
    · intro p hp
      rcases List.mem_cons.mp hp with rfl | hp
      · exact hs₂ _ _ (Ne.symm hCI) hoI
      · rw [List.mem_singleton.mp hp]; exact heC
    · intro d o hd e
      have h1 : d ≠ I := fun z => hd (by rw [z]; exact List.mem_cons_self)
      have h2 : d ≠ C := fun z => hd (by rw [z]; exact List.mem_cons_of_mem _ List.mem_cons_self)
      exact hs₂ _ _ h2 (hkI d o h1 e)
  back := by
    intro i own h nw hB hog _ N hS
    obtain ⟨oI, oC, m₂, x, y, z, rfl, hoC, _, _, _, _, f⟩ := hB
    have hn : ∀ p ∈ near, h.get? p.1 = some p.2 := fun p hp => (N p (hS p hp)).1
    exact ⟨f h (hog (I, oI) List.mem_cons_self) hn, hn, m₂, hoC.ns (hog (C, oC) (List.mem_cons_of_mem _ List.mem_cons_self))⟩
  keep := by
    intro i h h' hid k
    obtain ⟨hst, hn, m', hns⟩ := hid
    obtain ⟨oI, hoI, -⟩ := hlive _ _ hst
    have hn' : ∀ p ∈ near, h'.get? p.1 = some p.2 := fun p hp => k _ _ (hnI p hp).2.2 (hn p hp)
    exact ⟨walk_at' W hfp hst hoI hn (k _ _ (Ne.symm hDI) hoI) hn', hn', m', hns.at' fun o q => k _ o (Ne.symm hDC) q⟩
  done := by
    intro s P E hid hP
    obtain ⟨hst, hn, m', hns⟩ := hid
    refine W.done s P E hst fun h' tk hk => hP h' tk (fun c o hc q => hk c o (fun hm => hc (by rw [hwr c hm]; exact List.mem_cons_self)) q) ⟨m', hns.at' fun o q => hk C o (fun hm => hCI (hwr C hm)) q⟩
  self := by
    intro s Q E hid hQ
    exact W.self 0 s Q E hid.1 hQ
end
noncomputable def RowAt (rows : List (Int × Int × Int)) (i : Nat) (x y z : Value) : Prop := ∃ r t u v, rows[i]? = some r ∧ x = .int r.1 t ∧ y = .int r.2.1 u ∧ z = .int r.2.2 v
theorem TabIn.at {led : List (Addr × Obj)} : ∀ {vs : List Value} {rows : List (Int × Int × Int)}, TabIn led vs rows → ∀ (i : Nat) (v : Value), vs[i]? = some v → ∃ T x y z, v = .ref T ∧ (T, ({ cls := .type "tuple", data := .seq #[x, y, z] } : Obj)) ∈ led ∧ RowAt rows i x y z
  | _, _, .nil, i, v, h => by simp at h
  | _, _, .cons (T := T) (a := a) (b := b) (c := c) (t := t) (u := u) (v := v) hm r, 0, w, h => by
    simp at h
    exact ⟨T, _, _, _, h.symm, hm, ⟨(a, b, c), t, u, v, rfl, rfl, rfl, rfl⟩⟩
  | _, _, .cons hm r, i + 1, w, h => by
    obtain ⟨T, x, y, z, e, h1, q, t, u, v, h2, h3⟩ := r.at i w (by simpa using h)
    exact ⟨T, x, y, z, e, h1, q, t, u, v, by simpa using h2, h3⟩
section
variable {elt : Expr} {ifs : List Expr} {scope : Scope} {cl : List (Str × Addr)} {l : Addr} {a b c : Str} {pa pb pc tp : Pos} {kk : Nat} {nw₀ near : List (Addr × Obj)} {vs : List Value} {ep : Nat} {rows : List (Int × Int × Int)} {Fin : Addr → Shared → List Value → List (Addr × Obj) → Prop}
theorem tab_src (hh : A.handled = none) (F : Fr h₀ L s.heap m) (N : News h₀ L s.heap nw₀) (hm : (l, ({ cls := .type "list", data := .seq vs.toArray ep } : Obj)) ∈ nw₀) (hT : TabIn near vs rows) (hs : ∀ p ∈ near, p ∈ nw₀) (hsz : vs.length ≤ 1000)
    (hkind : scope.kind = .function) (hcell : ∀ y ∈ scope.names, y.2 ≠ .cell) (ha : scope.names.lookup a = some .local) (hb : scope.names.lookup b = some .local) (hc : scope.names.lookup c = some .local) (hab : ¬ a = b) (hac : ¬ a = c) (hbc : ¬ b = c)
    (R : ∀ I D C h₁ h₂, (∀ p ∈ nw₀, p.1 < I) → D = I + 1 → C = I + 2 → CRest prog w A h₀ L m (compEnvC scope cl C env) elt ifs [I, C] D { s with heap := h₁ } (fun nw => ∀ p ∈ (l, ({ cls := .type "list", data := .seq vs.toArray ep } : Obj)) :: near, p ∈ nw) (NmT I C ((l, ({ cls := .type "list", data := .seq vs.toArray ep } : Obj)) :: near) a b c (RowAt rows) (listSt s.heap.objs.size l vs.toArray)) (Fin D { s with heap := h₂ }) rows.length 0 [] nw₀) :
    wpAny (model prog w) A (pyIter (.ref l)) (CompAt prog w A h₀ L m env (.Tuple [.Name a pa, .Name b pb, .Name c pc] kk tp) elt ifs scope cl Fin) E s := by
  have hls : s.heap.IsList l vs.toArray := ⟨_, (N _ hm).1, rfl, _, rfl⟩
  have hlt : l < s.heap.objs.size := Heap.lt_size (N _ hm).1
  have hlen : vs.length = rows.length := hT.length
  refine wpAny_pyIter_list hls ?_
  have hNlt : ∀ p ∈ nw₀, p.1 < s.heap.objs.size := fun p hp => Heap.lt_size (N p hp).1
  have hLlt : L < s.heap.objs.size := F.ns.lt
  have fresh : ∀ d, s.heap.objs.size ≤ d → h₀.get? d = none := fun d hd => by
    cases q : h₀.get? d with
    | none => rfl
    | some o => exact absurd (Nat.lt_of_lt_of_le (Heap.lt_size (F.keep d o q)) hd) (Nat.lt_irrefl _)
  obtain ⟨oI, hoI⟩ : ∃ o : Obj, o = { cls := .type "list_iterator", data := .fields #[.ref l, .int 0 0] } := ⟨_, rfl⟩
  have hfree : oI.isFreed = false := by rw [hoI]; rfl
  have hg0 : (s.heap.push oI).IsListIter s.heap.objs.size l 0 := ⟨_, Heap.get?_push_size _ hfree, by rw [hoI], by rw [hoI]; rfl⟩
  show CompAt prog w A h₀ L m env (.Tuple [.Name a pa, .Name b pb, .Name c pc] kk tp) elt ifs scope cl Fin (.ref s.heap.objs.size) { s with heap := s.heap.push { cls := .type "list_iterator", data := .fields #[.ref l, .int 0 0] } }
  rw [← hoI]
  have hsp : (s.heap.push oI).objs.size = s.heap.objs.size + 1 := Heap.size_push ..
  have up0 : ∀ b o, s.heap.get? b = some o → (s.heap.push oI).get? b = some o := fun b o e => Heap.get?_push_of_some _ e
  have hnear : ∀ p ∈ (l, ({ cls := .type "list", data := .seq vs.toArray ep } : Obj)) :: near, p ∈ nw₀ := List.forall_mem_cons.mpr ⟨hm, hs⟩
  refine ⟨s.heap.objs.size, rows.length, nw₀, rfl, by rw [sizeLine_eq]; omega, F.push _, fun p hp => ⟨up0 _ _ (N p hp).1, (N p hp).2⟩, ?_⟩
  intro D C h₃ hD hC hh3
  have hD' : D = s.heap.objs.size + 1 := by rw [hD]; exact hsp
  have hDn : @Eq Nat D (s.heap.objs.size + 1) := hD'
  have hCn : @Eq Nat C (s.heap.objs.size + 2) := by rw [hC, hD']
  rw [cells_none _ _ hcell]
  rw [push_none _ hcell] at hh3
  have up : ∀ d o, (s.heap.push oI).get? d = some o → h₃.get? d = some o := fun d o q => by rw [hh3]; exact Heap.get?_push_of_some _ (Heap.get?_push_of_some _ q)
  have hnsC : h₃.Ns C (fun _ => none) := by
    have e1 : (((s.heap.push oI).push (lst [])) : Heap).objs.size = C := by rw [Heap.size_push, hC, hD]
    rw [hh3, ← e1]
    exact Heap.Ns.new _ (.type "dict")
  have hn1 : ∀ p ∈ (l, ({ cls := .type "list", data := .seq vs.toArray ep } : Obj)) :: near, (s.heap.push oI).get? p.1 = some p.2 := fun p hp => up0 _ _ (N p (hnear p hp)).1
  have W := Walks.list (prog := prog) (w := w) hh s.heap.objs.size l (Nat.ne_of_lt hlt) vs.toArray
  have hsz2 : vs.toArray.size = rows.length := by rw [List.size_toArray]; exact hlen
  rw [hsz2] at W
  have src := CSrc.tup3 (h₀ := h₀) (L := L) (env := compEnvC scope cl C env) (D := D) (C := C) (near := (l, ({ cls := .type "list", data := .seq vs.toArray ep } : Obj)) :: near) (a := a) (b := b) (c := c) (pa := pa) (pb := pb) (pc := pc) (tp := tp) (kk := kk) (R := RowAt rows) hh W
    (fun d hd => by
      rcases List.mem_cons.mp hd with e | e
      · exact .inl e
      · exact .inr ⟨_, by rw [List.mem_singleton.mp e]; exact List.mem_cons_self⟩)
    (fun d hd => by simpa using hd) (fun i h st => st.1)
    (fun i v hv => by
      obtain ⟨T, x, y, z, e, h1, h2⟩ := hT.at i v (by simpa using hv)
      exact ⟨T, x, y, z, e, List.mem_cons_of_mem _ h1, h2⟩)
    (ad1 hDn hCn).1 (ad1 hDn hCn).2.1 (ad1 hDn hCn).2.2.1
    (fun p hp => by
      have h1 : @LT.lt Nat _ p.1 s.heap.objs.size := hNlt p (hnear p hp)
      exact ⟨(ad2 hDn hCn h1).1, (ad2 hDn hCn h1).2.1, (ad2 hDn hCn h1).2.2.1⟩)
    rfl (lookup_relabel_local ha) (lookup_relabel_local hb) (lookup_relabel_local hc) hab hac hbc (by simp [compEnvC, relabel, hkind])
  refine ⟨[s.heap.objs.size, C], _, _, _, src, ?_, ?_, ?_, ?_, hnear, R s.heap.objs.size D C h₃ _ hNlt hD' (by rw [hC, hD'])⟩
  case refine_1 =>
    intro d hd
    have hb : s.heap.objs.size ≤ d ∧ d ≠ D := by
      rcases List.mem_cons.mp hd with rfl | hd
      · exact ⟨Nat.le_refl _, (ad1 hDn hCn).2.2.2.1⟩
      · rw [List.mem_singleton.mp hd]; exact ⟨(ad1 hDn hCn).2.2.2.2.1, (ad1 hDn hCn).2.2.2.2.2⟩
    exact ⟨fresh d hb.1, Nat.ne_of_gt (Nat.lt_of_lt_of_le hLlt hb.1), hb.2⟩
  case refine_2 => exact List.mem_cons_of_mem _ List.mem_cons_self
  case refine_3 =>
    obtain ⟨oi, e1, e2⟩ := hg0
    exact ⟨⟨⟨oi, up _ _ e1, e2⟩, hls.at fun o e => up _ _ (up0 _ _ e)⟩, fun p hp => up _ _ (hn1 p hp), _, hnsC⟩
  case refine_4 =>
    intro p hp hc
    have h1 : @LT.lt Nat _ p.1 s.heap.objs.size := hNlt p hp
    rcases List.mem_cons.mp hc with q | hc
    · exact (ad2 hDn hCn h1).1 q
    · exact (ad2 hDn hCn h1).2.1 (List.mem_singleton.mp hc)
end
section
variable {elt cnd : Expr} {ca : List Addr} {D : Addr} {S : List (Addr × Obj) → Prop} {B : Nat → List (Addr × Obj) → Prop} {Fin : List Value → List (Addr × Obj) → Prop} {nw₀ : List (Addr × Obj)} {n : Nat}
theorem crest_iftail (J : Nat → List Value → List (Addr × Obj) → Prop) (p : Nat → Bool) (hS : S nw₀) (hSm : ∀ tl, S nw₀ → S (tl ++ nw₀)) (h0 : J 0 [] [])
    (hcov : ∀ i own, B i own → ∀ a ∈ ca, ∃ p ∈ own, p.1 = a)
    (test : ∀ i ys tl own h tk (E' : Value → Shared → Prop), i < n → B i own → (∀ p ∈ own, p.1 ∈ ca) → Fr h₀ L h m → News h₀ L h (own ++ (D, lst ys) :: (tl ++ nw₀)) → (∀ q ∈ nw₀, ∀ p ∈ tl, q.1 < p.1) →
      wpAny (model prog w) A (isTrue cnd env (eval cnd env)) (BoolBack h₀ L m (own ++ (D, lst ys) :: (tl ++ nw₀)) s (p i)) E' { s with heap := h, toks := tk })
    (skip : ∀ i ys tl, i < n → p i = false → J i ys tl → J (i + 1) ys tl)
    (turn : ∀ i ys tl own h tk (E' : Value → Shared → Prop), i < n → p i = true → J i ys tl → B i own → (∀ p ∈ own, p.1 ∈ ca) → Fr h₀ L h m → News h₀ L h (own ++ (D, lst ys) :: (tl ++ nw₀)) → (∀ q ∈ nw₀, ∀ p ∈ tl, q.1 < p.1) →
      wpAny (model prog w) A (eval elt env) (TailBack h₀ L m (own ++ (D, lst ys) :: (tl ++ nw₀)) s (fun y tl' => J (i + 1) (ys ++ [y]) (tl' ++ tl))) E' { s with heap := h, toks := tk })
    (fin : ∀ ys tl, J n ys tl → (∀ q ∈ nw₀, ∀ p ∈ tl, q.1 < p.1) → Fin ys (tl ++ nw₀)) : CRest prog w A h₀ L m env elt [cnd] ca D s S B Fin n 0 [] nw₀ := by
  have key : ∀ (k i : Nat) (ys : List Value) (tl : List (Addr × Obj)), i + k = n → J i ys tl → (∀ q ∈ nw₀, ∀ p ∈ tl, q.1 < p.1) → CRest prog w A h₀ L m env elt [cnd] ca D s S B Fin k i ys (tl ++ nw₀) := by
    intro k
    induction k with
    | zero =>
      intro i ys tl hi hJ hlt
      obtain rfl : i = n := by omega
      exact fin ys tl hJ hlt
    | succ k ih =>
      intro i ys tl hi hJ hlt own h tk E' hB hoc F N off
      show tests prog w A [cnd] env _ _ _
      unfold tests
      refine wpAny_mono (test i ys tl own h tk E' (by omega) hB hoc F N hlt) (fun ok s₃ h₃ => ?_) fun _ _ e => e
      obtain ⟨rfl, h', tk', rfl, F', N'⟩ := h₃
      cases hp : p i with
      | false =>
        simp only [Bool.false_eq_true, if_false]
        exact ⟨h', tk', tl ++ nw₀, rfl, F', N', off, hSm tl hS, ih (i + 1) ys tl (by omega) (skip i ys tl (by omega) hp hJ) hlt⟩
      | true =>
        simp only [if_true]
        refine wpAny_mono (turn i ys tl own h' tk' E' (by omega) hp hJ hB hoc F' N' hlt) (fun y s₄ h₄ => ?_) fun _ _ e => e
        obtain ⟨g, tg, tl', rfl, G, M, ho', hJ'⟩ := h₄
        refine ⟨g, tg, (tl' ++ tl) ++ nw₀, rfl, G, fun p hp => M p ?_, ?_, hSm _ hS, ih (i + 1) (ys ++ [y]) (tl' ++ tl) (by omega) hJ' ?_⟩
        · rw [List.append_assoc] at hp
          rcases List.mem_append.mp hp with hp | hp
          · exact List.mem_append_right _ (List.mem_append_left _ hp)
          · rcases List.mem_cons.mp hp with rfl | hp
            · exact List.mem_append_right _ (List.mem_append_right _ List.mem_cons_self)
            · rcases List.mem_append.mp hp with hp | hp
              · exact List.mem_append_left _ hp
              · exact List.mem_append_right _ (List.mem_append_right _ (List.mem_cons_of_mem _ hp))
        · intro p hp
          rw [List.append_assoc] at hp
          rcases List.mem_append.mp hp with hp | hp
          · refine ⟨fun hc => ?_, fun e => ?_⟩
            · obtain ⟨q, hq, e⟩ := hcov i own hB _ hc
              have := ho' q (List.mem_append_left _ hq) p hp
              rw [e] at this
              exact Nat.lt_irrefl _ this
            · have := ho' (D, lst ys) (List.mem_append_right _ List.mem_cons_self) p hp
              rw [e] at this
              exact Nat.lt_irrefl _ this
          · exact off p hp
        · intro q hq p hp
          rcases List.mem_append.mp hp with hp | hp
          · exact ho' q (List.mem_append_right _ (List.mem_cons_of_mem _ (List.mem_append_right _ hq))) p hp
          · exact hlt q hq p hp
  exact key n 0 [] [] (by omega) h0 (fun _ _ _ h => nomatch h)
end
noncomputable def outR (P : Int × Int × Int → Bool) (G : Int × Int × Int → Int × Int × Int) (rows : List (Int × Int × Int)) (i : Nat) : List (Int × Int × Int) := ((rows.take i).filter P).map G
theorem outR_yes {P : Int × Int × Int → Bool} {G : Int × Int × Int → Int × Int × Int} {rows : List (Int × Int × Int)} {i : Nat} {r : Int × Int × Int} (h : rows[i]? = some r) (hp : P r = true) : outR P G rows (i + 1) = outR P G rows i ++ [G r] := by
  unfold outR
  rw [List.take_add_one, h, List.filter_append, List.map_append]
  simp [hp]
theorem outR_no {P : Int × Int × Int → Bool} {G : Int × Int × Int → Int × Int × Int} {rows : List (Int × Int × Int)} {i : Nat} {r : Int × Int × Int} (h : rows[i]? = some r) (hp : P r = false) : outR P G rows (i + 1) = outR P G rows i := by
  unfold outR
  rw [List.take_add_one, h, List.filter_append, List.map_append]
  simp [hp]
theorem outR_all (P : Int × Int × Int → Bool) (G : Int × Int × Int → Int × Int × Int) (rows : List (Int × Int × Int)) : outR P G rows rows.length = (rows.filter P).map G := by
  unfold outR
  rw [List.take_length]
end
end Mine
end

section
open PySem PySem.W PyProof.Rows
namespace Mine
set_option maxRecDepth 100000 in
set_option maxHeartbeats 8000000 in
open_top hd for PySem.Challenge.rw_pg0153_01
end Mine
end

open PySem PySem.W PyProof.Rows
section
local macro_rules | `(tactic| k_mem) => `(tactic| ((with_reducible repeat (first | assumption | apply List.mem_cons_of_mem)); done))
local macro_rules | `(tactic| k_all) => `(tactic| first | assumption | (refine' Mine.allNe_of ?a9 ?b9; (case a9 => assumption); (case b9 => omega)) | (refine' Mine.allNe_up ?a9 ?b9; (case a9 => assumption); (case b9 => omega)))
section
open PySem PySem.W PyProof.Rows
namespace Mine
local macro_rules | `(tactic| walk_at "dummy") => `(tactic| skip)
local macro_rules | `(tactic| walk_at $k:str) => if ["call type:tuple", "exec For Name Attribute cons nil", "pyIter str"].contains k.getString then `(tactic| (k_here; refine Stop.intro ?_)) else if k.getString == "MyEnd" then `(tactic| refine Stop.intro ?_) else if k.getString == "MyTurnX" then `(tactic| dsimp only [MyTurnX]) else Lean.Macro.throwUnsupported

theorem sign_eq {ch : Nat} {k : Nat} (h : (({ cps := #[ch] } : Str) == { cps := #[k] }) = true) : ch = k := by
  have h := eq_of_beq h
  injection h with h
  simpa using h
theorem sign_ne {ch : Nat} {k : Nat} (h : (({ cps := #[ch] } : Str) == { cps := #[k] }) = false) : ch ≠ k := fun e => by
  subst e
  simp at h
theorem ofString_space : Str.ofString " " = { cps := #[32] } := by decide +kernel
theorem ofString_tab : Str.ofString "\t" = { cps := #[9] } := by decide +kernel
theorem blank_snoc {pre : List Nat} {ch : Nat} (h : ∀ c ∈ pre, blank c) (hc : blank ch) : ∀ c ∈ pre ++ [ch], blank c := fun c hm => by
  rcases List.mem_append.mp hm with h1 | h1
  · exact h c h1
  · rw [List.mem_singleton.mp h1]; exact hc
theorem ws_space {pre : List Nat} {ch : Nat} {ns : List Int} {b n nt : Int} (h : wsRun pre = (ns, b, n, nt)) (hc : (({ cps := #[ch] } : Str) == Str.ofString " ") = true) : wsRun (pre ++ [ch]) = (ns, b + 1, n + 1, nt) := by
  rw [ofString_space] at hc
  rw [wsRun_snoc, h, sign_eq hc]
  rfl
theorem ws_grow {pre : List Nat} {ch : Nat} {ns : List Int} {b n nt : Int} (h : wsRun pre = (ns, b, n, nt)) (hc : (({ cps := #[ch] } : Str) == Str.ofString "\t") = true) (hb : (ns.length : Int) ≤ b) :
    wsRun (pre ++ [ch]) = ((ns ++ (List.replicate (b - (ns.length : Int) + 1).toNat [(0 : Int)]).flatten).set b.toNat ((ns ++ (List.replicate (b - (ns.length : Int) + 1).toNat [(0 : Int)]).flatten).getD b.toNat 0 + 1), 0, n + 1, nt + 1) := by
  rw [ofString_tab] at hc
  rw [wsRun_snoc, h, sign_eq hc]
  simp only [wsStep]
  rw [if_neg (by decide), if_pos hb]
theorem ws_keep {pre : List Nat} {ch : Nat} {ns : List Int} {b n nt : Int} (h : wsRun pre = (ns, b, n, nt)) (hc : (({ cps := #[ch] } : Str) == Str.ofString "\t") = true) (hb : ¬ (ns.length : Int) ≤ b) :
    wsRun (pre ++ [ch]) = (ns.set b.toNat (ns.getD b.toNat 0 + 1), 0, n + 1, nt + 1) := by
  rw [ofString_tab] at hc
  rw [wsRun_snoc, h, sign_eq hc]
  simp only [wsStep]
  rw [if_neg (by decide), if_neg hb]
theorem ws_stop {cs pre post : List Nat} {ch : Nat} {st : List Int × Int × Int × Int} (h : wsRun pre = st) (e : cs = pre ++ ch :: post) (hbl : ∀ c ∈ pre, blank c) (h1 : (({ cps := #[ch] } : Str) == Str.ofString " ") = false) (h2 : (({ cps := #[ch] } : Str) == Str.ofString "\t") = false) : wsRead cs = st := by
  rw [ofString_space] at h1
  rw [ofString_tab] at h2
  unfold wsRead
  rw [e, takeWhile_stop hbl (fun hb => hb.elim (sign_ne h1) (sign_ne h2)), h]
theorem ws_done {cs : List Nat} {st : List Int × Int × Int × Int} (h : wsRun cs = st) (hbl : ∀ c ∈ cs, blank c) : wsRead cs = st := by
  unfold wsRead
  rw [takeWhile_all hbl, h]
theorem lead_news {h₀ h : Heap} {L : Addr} {A B X D : Addr × Obj} {rest news : List (Addr × Obj)} (N : News h₀ L h (A :: B :: rest)) (hx : X ∈ rest) (hd : D ∈ rest) (hs : ∀ p ∈ news, p ∈ rest) : News h₀ L h ([A, B, X, D] ++ news) := fun p hp => N p (by
  rcases List.mem_append.mp hp with h | h
  · rcases List.mem_cons.mp h with h | h
    · exact h ▸ .head _
    · rcases List.mem_cons.mp h with h | h
      · exact h ▸ .tail _ (.head _)
      · rcases List.mem_cons.mp h with h | h
        · exact h ▸ .tail _ (.tail _ hx)
        · exact List.mem_singleton.mp h ▸ .tail _ (.tail _ hd)
  · exact .tail _ (.tail _ (hs p h)))
theorem lead_order {d : Addr} {news tl : List (Addr × Obj)} (hA : AllLt d news) (h : ∀ p ∈ tl, @LE.le Nat _ d p.1) : ∀ q ∈ news, ∀ p ∈ tl, q.1 < p.1 := fun q hq p hp => Nat.lt_of_lt_of_le (ktn_ltOf hA q hq) (h p hp)
theorem init_gen {h₀ h : Heap} {L l D x d : Addr} {lo oD ox od : Obj} {news : List (Addr × Obj)} (N : News h₀ L h ((l, lo) :: (D, oD) :: (x, ox) :: (d, od) :: news)) :
    ∃ od', od' = od ∧ News h₀ L h ((l, lo) :: (x, ox) :: (d, od') :: news) :=
  ⟨od, rfl, fun p hp => N p (by
    rcases List.mem_cons.mp hp with h | h
    · exact List.mem_cons.mpr (.inl h)
    · exact List.mem_cons_of_mem _ (List.mem_cons_of_mem _ h))⟩
structure WsC where
  l : Addr
  vs : List Value
  ns : List Int
  ep : Nat
  b : Int
  n : Int
  nt : Int
  tb : Tok
  tn : Tok
  tnt : Tok

set_option maxRecDepth 100000 in
set_option maxHeartbeats 8000000 in
theorem wsnew (w : World) (loose : List Str) (mean : ExcName → Option Value) (mg mb : Str → Option Value) (news : List (Addr × Obj)) (x : Str) (t : Tok) (hx : x.cps.toList.length ≤ 65536) :
    Does PySem.Challenge.rw_pg0153_01.row.prog w (hd.heap_39 w.params) hd.view_39 loose mean mg mb (.ref 76) [.str x t] 3 20 news
      (fun tl r => LeadIn w.params 76 tl r (wsRead x.cps.toList)) := by
  k_fill
  intro dp un gd cn cs a ccd cl outer A₀ base h₀ L m s Q E B F X N T hk hdp hun hret
  k_dflt (refine' call_cls ?k1 ?k2 ?k3 ?k4 ?k5 ?k6 ?_; (case k1 => k_asm); (case k2 => k_asm); (case k3 => k_asm); (case k4 => k_is); (case k5 => k_is); (case k6 => k_is); k_whole; intro x' d' h' F' N' l1 l2; (try k_lt l1); (try k_lt2 l2))
  have hA : AllLt d' news := allLt_of l1
  clear l1
  k_dflt cell_enter
  k_steps
  unfold Stop
  rename Fr _ _ _ _ => F8
  (with_unfolding_all refine' For_invVF F8 ?k1 ?k2 ?_; (case k1 => exact rfl); (case k2 => exact rfl); k_whole)
  k_steps
  unfold Stop
  rename Fr _ _ _ _ => F9
  rename News _ _ _ _ => N9
  obtain ⟨od, hod, N9⟩ := init_gen N9
  obtain ⟨m9, hm9, F9⟩ := fr_gen F9
  obtain ⟨tb, hb⟩ : ∃ t, m9 (Str.ofString "b") = some (.int 0 t) := ⟨_, by rw [hm9]; rfl⟩
  obtain ⟨tn, hn⟩ : ∃ t, m9 (Str.ofString "n") = some (.int 0 t) := ⟨_, by rw [hm9]; rfl⟩
  obtain ⟨tnt, hnt⟩ : ∃ t, m9 (Str.ofString "nt") = some (.int 0 t) := ⟨_, by rw [hm9]; rfl⟩
  with_unfolding_all
   refine' for_textX (σ := WsC) (fun c => (c.l, W.listOf c.vs.toArray c.ep) :: (x', instObj 76 d') :: (d', od) :: news)
     (fun c => [(Str.ofString "count", .ref c.l), (Str.ofString "b", .int c.b c.tb), (Str.ofString "n", .int c.n c.tn), (Str.ofString "nt", .int c.nt c.tnt)])
     [] (fun pre c => IntsAre c.vs c.ns ∧ @LT.lt Nat _ x' c.l ∧ wsRun pre = (c.ns, c.b, c.n, c.nt) ∧ ∀ ch ∈ pre, blank ch) (fun c => IntsAre c.vs c.ns ∧ @LT.lt Nat _ x' c.l ∧ wsRead x.cps.toList = (c.ns, c.b, c.n, c.nt) ∧ c.ns.length ≤ x.cps.toList.length ∧ 0 ≤ c.b ∧ c.b ≤ x.cps.toList.length ∧ 0 ≤ c.n ∧ c.n ≤ x.cps.toList.length ∧ 0 ≤ c.nt ∧ c.nt ≤ x.cps.toList.length) ⟨_, [], [], 0, 0, 0, 0, tb, tn, tnt⟩ (by rfl) F9 N9 ?hk ?hp ?hX ?_ ?_
  case hk => exact List.forall_mem_cons.mpr ⟨by rw [hm9]; rfl, List.forall_mem_cons.mpr ⟨hb, List.forall_mem_cons.mpr ⟨hn, List.forall_mem_cons.mpr ⟨hnt, List.forall_mem_nil _⟩⟩⟩⟩
  case hp => exact ⟨.nil, by (dsimp only; omega), rfl, List.forall_mem_nil _⟩
  case hX =>
    rintro ⟨vl, vvs, vns, vep, vb, vn, vnt, vtb, vtn, vtnt⟩ ⟨hI, hxl, hrun, hbl⟩
    have hbd := wsRun_bound x.cps.toList
    rw [hrun] at hbd
    exact ⟨hI, hxl, ws_done hrun hbl, hbd⟩
  · subst hm9
    intro I c pre post ch tc u h9 tk9 oI hlt hsplit hP hoff F9 N9
    obtain ⟨vl, vvs, vns, vep, vb, vn, vnt, vtb, vtn, vtnt⟩ := c
    obtain ⟨hI, hxl, hrun, hbl⟩ := hP
    have hpre : pre.length ≤ 65535 := by
      have := congrArg List.length hsplit
      rw [List.length_append, List.length_cons] at this
      omega
    have hbd := wsRun_bound pre
    rw [hrun] at hbd
    dsimp only at hbd hI hxl F9 N9 hoff
    obtain ⟨hb1, hb2, hb3, hb4, hb5, hb6, hb7⟩ := hbd
    dsimp only [kstB] at F9
    have hvl := hI.length
    have hoI : @Ne Nat vl I := hoff _ (.head _)
    have hltI := allLt_of hlt
    simp only [AllLt] at hltI
    subst hod
    clear hb hn hnt hlt hoff
    k_steps
    · unfold Stop
      rename Fr _ _ _ _ => F7
      rename News _ _ _ _ => N7
      refine MyEnd.intro ⟨_, _, vns, _, _, _, _, _, _, _⟩ F7 N7 (by kst_all) (by k_mem) (by kst_in) (List.forall_mem_cons.mpr ⟨by k_ne, List.forall_mem_cons.mpr ⟨by k_ne, List.forall_mem_cons.mpr ⟨by k_ne, allNe_of hA (by omega)⟩⟩⟩) (by kst_same) ⟨hI, hxl, ?_, ?_⟩
      · exact ws_space hrun (by assumption)
      · exact blank_snoc hbl (.inl (sign_eq (ofString_space ▸ (by assumption))))
    · unfold Stop
      rename Fr _ _ _ _ => F7
      rename News _ _ _ _ => N7
      refine MyEnd.intro ⟨_, _, _, _, _, _, _, _, _, _⟩ F7 N7 (by kst_all) (by k_mem) (by kst_in) (List.forall_mem_cons.mpr ⟨by k_ne, List.forall_mem_cons.mpr ⟨by k_ne, List.forall_mem_cons.mpr ⟨by k_ne, allNe_of hA (by omega)⟩⟩⟩) (by kst_same) ⟨by assumption, by (dsimp only; omega), ?_, ?_⟩
      · first | exact ws_grow hrun (by assumption) (by assumption) | exact ws_keep hrun (by assumption) (by omega)
      · exact blank_snoc hbl (.inr (sign_eq (ofString_tab ▸ (by assumption))))
    · unfold Stop
      rename Fr _ _ _ _ => F7
      rename News _ _ _ _ => N7
      refine MyEnd.intro ⟨_, _, _, _, _, _, _, _, _, _⟩ F7 N7 (by kst_all) (by k_mem) (by kst_in) (List.forall_mem_cons.mpr ⟨by k_ne, List.forall_mem_cons.mpr ⟨by k_ne, List.forall_mem_cons.mpr ⟨by k_ne, allNe_of hA (by omega)⟩⟩⟩) (by kst_same) ⟨by assumption, by (dsimp only; omega), ?_, ?_⟩
      · first | exact ws_grow hrun (by assumption) (by assumption) | exact ws_keep hrun (by assumption) (by omega)
      · exact blank_snoc hbl (.inr (sign_eq (ofString_tab ▸ (by assumption))))
    · unfold Stop
      rename Fr _ _ _ _ => F7
      rename News _ _ _ _ => N7
      have hrd := ws_stop hrun hsplit hbl (by assumption) (by assumption)
      have hpx : pre.length ≤ x.cps.toList.length := by
        rw [hsplit, List.length_append]; exact Nat.le_add_right _ _
      refine MyEnd.intro ⟨_, _, vns, _, _, _, _, _, _, _⟩ F7 N7 (by kst_all) (by k_mem) (by kst_in) (List.forall_mem_cons.mpr ⟨by k_ne, List.forall_mem_cons.mpr ⟨by k_ne, List.forall_mem_cons.mpr ⟨by k_ne, allNe_of hA (by omega)⟩⟩⟩) (by kst_same) ⟨hI, hxl, hrd, ?_⟩
      exact ⟨Nat.le_trans hb1 hpx, hb2, Int.le_trans hb3 (Int.ofNat_le.mpr hpx), hb4, Int.le_trans hb5 (Int.ofNat_le.mpr hpx), hb6, Int.le_trans hb7 (Int.ofNat_le.mpr hpx)⟩
  · subst hm9
    intro c u h9 tk9 hP F9 N9
    obtain ⟨vl, vvs, vns, vep, vb, vn, vnt, vtb, vtn, vtnt⟩ := c
    obtain ⟨hI, hxl, hrd, hb1, hb2, hb3, hb4, hb5, hb6, hb7⟩ := hP
    dsimp only at hb1 hb2 hb3 hb4 hb5 hb6 hb7 hI hxl hrd F9 N9
    dsimp only [kstB] at F9
    have hvl := hI.length
    subst hod
    clear hb hn hnt
    k_steps
    unfold Stop
    k_dflt (refine' tuple_of_my ?k1 ?k2 ?k3 ?k4 ?_; (case k1 => k_asm); (case k2 => k_asm); (case k3 => exact News.isList (by k_asm) (by k_mem)); (case k4 => (rw [sizeLine_eq]; omega)); k_whole)
    intro D' h' F' N' l1
    try k_lt l1
    try k_sweep
    k_steps
    rename Fr h₀ _ _ _ => F7
    rename News h₀ _ _ _ => N7
    refine hret _ _ _ _ F7 (lead_news N7 (X := (x', _)) (D := (d', _)) (by k_mem) (by k_mem) (fun p hp => by repeat (first | exact hp | apply List.mem_cons_of_mem))) ?_ ?_
    · exact lead_order hA (List.forall_mem_cons.mpr ⟨by (dsimp only; omega), List.forall_mem_cons.mpr ⟨by (dsimp only; omega), List.forall_mem_cons.mpr ⟨by (dsimp only; omega), List.forall_mem_cons.mpr ⟨by (dsimp only; omega), List.forall_mem_nil _⟩⟩⟩⟩)
    · rw [hrd]
      exact ⟨_, _, _, _, _, _, _, _, _, _, _, _, _, _, _, _, rfl, .tail _ (.tail _ (.head _)), .tail _ (.tail _ (.tail _ (.head _))), .head _, .tail _ (.head _), hI⟩
end Mine
end

section
local macro_rules | `(tactic| walk_at $k:str) => if ["exec While Name cons nil", "subscriptTail Name Slice bytes ref", "binaryOp Add bytes bytes", "call type:tuple", "exec For Name Attribute cons nil", "pyIter str", "exec While Name", "eval ListComp", "pyIter bytes", "binaryOp Mult int int", "subscriptTail Name Name ref int", "call builtin:len", "exec For Name Call cons nil", "pyIter ref", "compareOp Eq ref ref", "compareOp NotEq ref ref", "call ref", "exec For Name Call", "exec For", "exec For Tuple Call cons nil", "call type:enumerate", "binaryOp Mult ref int", "inplaceOp Add ref ref"].contains k.getString then `(tactic| (k_here; refine Mine.Stop.intro ?_)) else if ["MyEnd", "EnEnd"].contains k.getString then `(tactic| refine Mine.Stop.intro ?_) else if ["MyTurn", "MyTurnX", "EnTurn"].contains k.getString then `(tactic| dsimp only [Mine.MyTurn, Mine.MyTurnX, Mine.EnTurn]) else Lean.Macro.throwUnsupported
section
open PySem PySem.W PyProof.Rows
namespace Mine


theorem ap_start {i x : Int} (hx : x = if i < 0 then -i else i) : 0 ≤ x ∧ apL x.toNat ++ KBw.bInts #[] = apL i.natAbs := by
  have e : x = (i.natAbs : Int) := by
    subst hx
    cases i with
    | ofNat n => rw [if_neg (show ¬ Int.ofNat n < 0 from Int.not_lt.mpr (Int.natCast_nonneg n))]; rfl
    | negSucc n => rw [if_pos (Int.negSucc_lt_zero n)]; rfl
  refine ⟨e ▸ Int.natCast_nonneg _, ?_⟩
  rw [e]; exact List.append_nil _
theorem ap_next {num : Int} {n : Nat} {v w : Array UInt8} (h0 : 0 ≤ num) (h : apL num.toNat ++ KBw.bInts v = apL n) (hne : num ≠ 0) (hc : KBw.bInts w = [65 + num.fmod 16]) :
    0 ≤ num.fdiv 16 ∧ apL (num.fdiv 16).toNat ++ KBw.bInts (w ++ v) = apL n := by
  refine ⟨Int.fdiv_nonneg h0 (by omega), ?_⟩
  rw [KBw.ints_app hc rfl]
  exact ap_turn h0 hne h
theorem ap_meas {num : Int} (h0 : 0 ≤ num) (hne : num ≠ 0) : (num.fdiv 16).toNat < num.toNat := by
  obtain ⟨n, rfl⟩ := Int.eq_ofNat_of_zero_le h0
  rw [Int.fdiv_eq_ediv_of_nonneg _ (by decide)]
  show n / 16 < n
  exact Nat.div_lt_self (Nat.pos_of_ne_zero fun e => hne (congrArg Int.ofNat e)) (by decide)
theorem ap_short {n : Nat} {ks l : List Int} (h : apL n ++ ks = l) (hl : l.length ≤ 16) : ks.length ≤ 16 := by
  have := congrArg List.length h
  rw [List.length_append] at this
  omega
theorem ap_cut {j : Int} (h0 : 0 ≤ j) (h1 : j < 16) :
    List.take ((some (j + 1)).elim apCodes.length (clipAt apCodes.length) - (some j).elim 0 (clipAt apCodes.length)) (List.drop ((some j).elim 0 (clipAt apCodes.length)) apCodes) = [65 + j] := by
  have all : ∀ k : Fin 16, List.take ((some ((k.1 : Int) + 1)).elim apCodes.length (clipAt apCodes.length) - (some (k.1 : Int)).elim 0 (clipAt apCodes.length)) (List.drop ((some (k.1 : Int)).elim 0 (clipAt apCodes.length)) apCodes) = [65 + (k.1 : Int)] := by decide
  obtain ⟨k, rfl⟩ : ∃ k : Nat, j = (k : Int) := ⟨j.toNat, by omega⟩
  exact all ⟨k, by omega⟩
set_option maxRecDepth 100000 in
set_option maxHeartbeats 8000000 in
theorem int2ap (w : World) (loose : List Str) (mean : ExcName → Option Value) (mg mb : Str → Option Value) (news : List (Addr × Obj)) (i : Int) (t : Tok) (hi : i.natAbs < 2 ^ 64) :
    Does PySem.Challenge.rw_pg0153_01.row.prog w (hd.heap_39 w.params) hd.view_39 loose mean mg mb (.ref 87) [.int i t] 3 20 news
      (fun tl r => tl = [] ∧ ∃ b t', r = .bytes b t' ∧ KBw.bInts b = apL i.natAbs) := by
  k_fill
  intro dp un gd cn cs a ccd cl outer A₀ base h₀ L m s Q E B F X N T hk hdp hun hret
  have hlen : (apL i.natAbs).length ≤ 16 := apL_len 16 _ (by omega)
  refine wpAny_call ?_
  k_dflt cell_enter
  k_steps
  unfold Stop
  (k_with "state" => first | exact ap_start rfl | exact ap_next (by assumption) (by assumption) (by assumption) (by assumption))
  (k_with "measure" => exact ap_meas (by assumption) (by assumption))
  k_while (fun (_ : List Int) (num : Int) (val : Array UInt8) => 0 ≤ num ∧ apL num.toNat ++ KBw.bInts val = apL i.natAbs) (fun (_ : List Int) (num : Int) (_ : Array UInt8) => num.toNat) "num" "val"
  k_steps
  · unfold Stop
    rename Fr _ _ _ _ => F9
    rename News _ _ _ _ => N9
    refine KBc.slice_K (s := ⟨_, _, _, _, _⟩) F9 N9 (ks := apCodes) (by rfl) (by constructor) (by constructor) (by decide) ?_
    intro h9 t9 k9 F9 N9 hc
    rw [ap_cut (Int.fmod_nonneg_of_pos _ (by omega)) (Int.fmod_lt_of_pos _ (by omega))] at hc
    rename (apL _ ++ _ = _) => hw
    have hv := ap_short hw hlen
    k_steps
    unfold Stop
    refine KBa.add_K hc rfl ?hs ?_
    case hs => (rw [List.length_singleton]; clear_value qk ek; clear hret; omega)
    intro t8 k8 hs8
    k_steps
  · rename _ = (0 : Int) => hz
    rename Fr h₀ _ _ _ => kF
    rename News h₀ _ _ _ => kN
    rename (apL _ ++ _ = _) => hw
    refine hret _ _ _ [] kF kN (fun _ _ _ h => nomatch h) ⟨rfl, _, _, rfl, ?_⟩
    subst hz
    rw [← hw]
    simp [apL_zero]
end Mine
end

section
open PySem PySem.W PyProof.Rows
namespace Mine
noncomputable def sumL (ks : List Int) : Int := (ks.map fun k => k - 65).sum
noncomputable def colW (size : Nat) (ks : List Int) : Int := if h : ks = [] ∨ size = 0 then 0 else (size : Int) * sumL ks + colW size (ks.take (ks.length - size))
termination_by ks.length
decreasing_by
  have : ks.length ≠ 0 := fun e => h (.inl (List.length_eq_zero_iff.mp e))
  rw [List.length_take]
  exact Nat.lt_of_le_of_lt (Nat.min_le_left _ _) (Nat.sub_lt (Nat.pos_of_ne_zero this) (Nat.pos_of_ne_zero fun e => h (.inr e)))
theorem colW_nil (size : Nat) : colW size [] = 0 := by rw [colW]; simp
theorem colW_step {size : Nat} {ks : List Int} (h : ks ≠ []) (hs : 1 ≤ size) : colW size ks = (size : Int) * sumL ks + colW size (ks.take (ks.length - size)) := by
  rw [colW, dif_neg (by rintro (h' | h'); exact h h'; omega)]
theorem col_cut {ks : List Int} {size : Nat} (hs : 1 ≤ size) : List.take ((some (-(size : Int))).elim ks.length (clipAt ks.length) - (none : Option Int).elim 0 (clipAt ks.length)) (List.drop ((none : Option Int).elim 0 (clipAt ks.length)) ks) = ks.take (ks.length - size) := by
  have e : clipAt ks.length (-(size : Int)) = ks.length - size := by
    unfold clipAt
    generalize ks.length = n
    rw [if_pos (Int.neg_neg_of_pos (Int.ofNat_lt.mpr hs)), Int.min_eq_left (Int.add_le_of_le_sub_right (by rw [Int.sub_self]; exact Int.neg_nonpos_of_nonneg (Int.natCast_nonneg size))), Int.add_comm, ← Int.sub_eq_add_neg]
    rcases Int.le_total 0 ((n : Int) - size) with q | q
    · rw [Int.max_eq_right q]; exact Int.toNat_sub n size
    · rw [Int.max_eq_left q]; exact (Nat.sub_eq_zero_of_le (Int.ofNat_le.mp (Int.le_of_sub_nonpos q))).symm
  simp [e]
theorem col_next {col : Int} {size : Nat} {p w b : Array UInt8} (hs : 1 ≤ size) (h5 : (KBw.bInts w).length ≤ 5) (hr : ∀ c ∈ KBw.bInts w, 65 ≤ c ∧ c ≤ 80) (h : col + colW size (KBw.bInts w) = colW size (KBw.bInts b)) (h0 : 0 < (KBw.bInts w).length)
    (hc : KBw.bInts p = (KBw.bInts w).take ((KBw.bInts w).length - size)) : (KBw.bInts p).length ≤ 5 ∧ (∀ c ∈ KBw.bInts p, 65 ≤ c ∧ c ≤ 80) ∧ col + (size : Int) * sumL (KBw.bInts w) + colW size (KBw.bInts p) = colW size (KBw.bInts b) := by
  rw [colW_step (by intro e; rw [e] at h0; exact absurd h0 (by decide)) hs] at h
  rw [hc]
  refine ⟨by rw [List.length_take]; omega, fun c hm => hr c (List.mem_of_mem_take hm), by omega⟩
theorem col_meas {size : Nat} {p w : Array UInt8} (hs : 1 ≤ size) (h0 : 0 < (KBw.bInts w).length) (hc : KBw.bInts p = (KBw.bInts w).take ((KBw.bInts w).length - size)) : (KBw.bInts p).length < (KBw.bInts w).length := by
  rw [hc, List.length_take]; omega
theorem sum_range (ks : List Int) (n : Nat) (h : n = ks.length) : List.map (fun i => ks.getD i 0 - 65) (List.range n) = ks.map fun k => k - 65 := by
  subst h
  apply List.ext_getElem?
  intro i
  by_cases hi : i < ks.length
  · simp [hi, List.getD_eq_getElem?_getD]
  · rw [List.getElem?_eq_none (by simp; omega), List.getElem?_eq_none (by simp; omega)]
set_option maxRecDepth 100000 in
set_option maxHeartbeats 8000000 in
theorem lawcol (w : World) (loose : List Str) (mean : ExcName → Option Value) (mg mb : Str → Option Value) (news : List (Addr × Obj)) (b : Array UInt8) (tb : Tok) (size : Nat) (t : Tok)
    (hb : (KBw.bInts b).length ≤ 5) (hr : ∀ c ∈ KBw.bInts b, 65 ≤ c ∧ c ≤ 80) (h1 : 1 ≤ size) (h2 : size ≤ 16) :
    Does PySem.Challenge.rw_pg0153_01.row.prog w (hd.heap_39 w.params) hd.view_39 loose mean mg mb (.ref 99) [.bytes b tb, .int (size : Int) t] 8 60 news
      (fun tl r => tl = [] ∧ ∃ t', r = .int (colW size (KBw.bInts b)) t') := by
  k_fill
  intro dp un gd cn cs' a ccd cl outer A₀ base h₀ L m s Q E B F X N T hk hdp hun hret
  refine wpAny_call ?_
  k_dflt cell_enter
  k_steps
  unfold Stop
  (k_with "state" => first | exact ⟨hb, hr, Int.zero_add _⟩ | exact col_next h1 (by assumption) (by assumption) (by assumption) (by assumption) (by assumption))
  (k_with "measure" => exact col_meas h1 (by assumption) (by assumption))
  k_while (fun (_ : List Int) (column : Int) (word : Array UInt8) => (KBw.bInts word).length ≤ 5 ∧ (∀ c ∈ KBw.bInts word, 65 ≤ c ∧ c ≤ 80) ∧ column + colW size (KBw.bInts word) = colW size (KBw.bInts b)) (fun (_ : List Int) (_ : Int) (word : Array UInt8) => (KBw.bInts word).length) "column" "word"
  k_steps
  refine' KBw.truthy_K (ks := KBw.bInts _) rfl ?z9 ?_
  case z9 => omega
  k_steps
  · unfold Stop
    k_dflt (refine ListComp_my (by k_asm) (by decide) (by with_unfolding_all rfl) (by rfl) (by decide) ?_ (by intro _; rfl))
    k_steps
    unfold Stop
    rename (List.length (KBw.bInts _) ≤ 5) => hw5
    rename (∀ c ∈ KBw.bInts _, 65 ≤ c ∧ c ≤ 80) => hwr
    k_dflt (refine' bytes_name ?p1 ?p2 ?p3 ?p4 ?p5 ?p6 ?p7 ?_)
    case p1 => rfl
    case p2 => k_asm
    case p3 => k_asm
    case p4 => (rw [sizeLine_eq, ← KBw.ints_length]; omega)
    case p5 => rfl
    case p6 => decide
    case p7 => rfl
    intro I D C h₁ h₂ hlt hD hC
    rename Array UInt8 => wd
    refine crest_exact (fun i => (KBw.bInts wd).getD i 0 - 65) (fun p hp => nomatch hp) ?_ ?_
    · intro i ys own h tk E' hi hB hoc F N off
      obtain ⟨oI, oC, m₂, v, rfl, hoC, hPv, hx2, -⟩ := hB
      obtain ⟨c, u, hc, rfl⟩ := hPv
      simp only [List.cons_append, List.nil_append] at N
      have hbig : c.toNat < 256 := c.toBitVec.isLt
      have hn' : (KBw.bInts wd)[i]? = some (c.toNat : Int) := KBw.ints_get hc
      clear hoc
      k_steps
      rename Fr _ _ _ _ => F7
      rename News _ _ _ _ => N7
      refine IntBack.intro F7 N7 (fun p hp => hp) ?_
      rw [List.getD_eq_getElem?_getD, hn']
      rfl
    · intro ys hS
      rw [sum_range _ _ (KBw.ints_length wd).symm] at hS
      intro h9 tk9 F9 N9 off9
      try dsimp only
      try k_fold
      k_steps
      unfold Stop
      show wpAny _ _ (binaryOp Operator.Mult (Value.int _ _) (Value.int (sumL (KBw.bInts wd)) _)) _ _ _
      refine mul_int ?_ (mul_ok_left (by omega))
      k_steps
      unfold Stop
      rename Fr _ _ _ _ => F9
      rename News _ _ _ _ => N9
      refine KBc.slice_K (s := ⟨_, _, _, _, _⟩) F9 N9 (ks := KBw.bInts wd) rfl (by constructor) (by constructor) (by omega) ?_
      intro h9 t9 k9 F9 N9 hc
      rw [col_cut h1] at hc
      k_steps
  · rename Fr h₀ _ _ _ => F7
    rename News h₀ _ _ _ => N7
    rename Array UInt8 => wd
    rename (_ + colW size (KBw.bInts _) = _) => hw
    have hz : (KBw.bInts wd).length = 0 := by omega
    refine hret _ _ _ [] F7 N7 (fun _ _ _ h => nomatch h) ⟨rfl, _, congrArg (fun z => Value.int z _) ?_⟩
    rw [List.length_eq_zero_iff.mp hz, colW_nil] at hw
    omega
end Mine
end

section
open PySem PySem.W PyProof.Rows
namespace Mine

theorem range_size (a b : Int) : Builtin.Range.rangeSize a b 1 = (((b - a).toNat : Nat) : Int) := by
  unfold Builtin.Range.rangeSize
  rw [if_pos (by decide), Int.ediv_one]
  split <;> omega
theorem range_small {a b : Int} (h : 0 ≤ a ∧ a ≤ 65536) (h' : 0 ≤ b ∧ b ≤ 65536) : Builtin.Range.small a b 1 = true := by
  unfold Builtin.Range.small
  have e := range_size a b
  rw [e]
  have f : ∀ i : Int, -65536 ≤ i → i ≤ 65536 → Builtin.Range.rangeFitsLong i = true := fun i h1 h2 => by
    unfold Builtin.Range.rangeFitsLong
    simp only [Bool.and_eq_true, decide_eq_true_eq]
    omega
  rw [f a (by omega) (by omega), f b (by omega) (by omega), f 1 (by omega) (by omega), f _ (by omega) (by omega), if_pos (by decide), f (b + (1 - 1)) (by omega) (by omega)]
  simp
theorem AllNe.of {I : Addr} {news : List (Addr × Obj)} (h : ∀ p ∈ news, p.1 ≠ I) : ∀ p ∈ news, p.1 ≠ I := h
structure IlC where
  il : Int
  t : Tok
set_option maxRecDepth 100000 in
set_option maxHeartbeats 8000000 in
theorem ilevel (w : World) (loose : List Str) (mean : ExcName → Option Value) (mg mb : Str → Option Value) (news : List (Addr × Obj)) (v : Value) (st : List Int × Int × Int × Int) (k : Int) (t : Tok)
    (hv : LeadIn w.params 76 news v st) (hlen : st.1.length ≤ 65536) (hk1 : 1 ≤ k) (hk2 : k ≤ 65536) :
    Does PySem.Challenge.rw_pg0153_01.row.prog w (hd.heap_39 w.params) hd.view_39 loose mean mg mb (.ref 45) [v, .int k t] 3 20 news
      (fun tl r => tl = [] ∧ ∃ t', r = .int (ilev st k) t') := by
  k_fill
  intro dp un gd cn cs a ccd cl outer A₀ base h₀ L m s Q E B F X N T hk hdp hun hret
  obtain ⟨x, d, Ta, Tc, vs, raw, t0, t1, t2, t3, k0, k1, k2, k3, k4, ep, e, m1, m2, m3, m4, hI⟩ := hv
  subst e
  refine wpAny_call ?_
  k_dflt cell_enter
  k_steps
  unfold Stop
  rename Fr _ _ _ _ => F8
  (with_unfolding_all refine' For_invVF F8 ?k1 ?k2 ?_; (case k1 => exact rfl); (case k2 => exact rfl); k_whole)
  k_steps
  unfold Stop
  k_dflt (refine' len_tup_my ?k1 ?k2 ?k3 ?k4 ?_; (case k1 => k_asm); (case k2 => k_mem); (case k3 => assumption); (case k4 => omega); k_whole)
  k_steps
  unfold Stop
  rename Fr _ _ _ _ => F9
  rename News _ _ _ _ => N9
  rename IsRange _ _ _ _ _ _ _ _ => hR
  obtain ⟨m9, hm9, F9⟩ := fr_gen F9
  obtain ⟨tb, hb⟩ : ∃ t, m9 (Str.ofString "il") = some (.int 0 t) := ⟨_, by rw [hm9]; rfl⟩
  with_unfolding_all
   refine' for_range (σ := IlC) (n := ((st.1.length : Int) - k).toNat) (fun _ => news) (fun c => [(Str.ofString "il", .int c.il c.t)]) [] (fun i c => c.il = ilAcc st.1 k i) ⟨0, tb⟩ (by rfl) hR ?hs ?hn F9 N9 ?hk rfl ?_ ?_
  case hs => exact range_small (by omega) (by omega)
  case hn => exact range_size k _
  case hk => exact List.forall_mem_cons.mpr ⟨hb, List.forall_mem_nil _⟩
  · subst hm9
    intro I c i ti u h9 tk9 oI hlt hi hP hoff F9 N9
    obtain ⟨il, til⟩ := c
    dsimp only at hP F9 N9 hoff
    dsimp only [kstB] at F9
    have hoA := AllNe.of hoff
    have hi2 : k + (i : Int) < st.1.length := by omega
    clear hlt hoff
    k_steps
    unfold Stop
    k_dflt (refine' item_tup_my ?k1 ?k2 ?k3 ?k4 ?k5 ?k6 ?_ ?k7 ?k8; (case k1 => k_asm); (case k2 => k_mem); (case k3 => assumption); (case k4 => omega); (case k5 => omega); (case k6 => omega); (case k7 => with_unfolding_all rfl); (case k8 => (intro _; with_unfolding_all rfl)); k_whole)
    intro tI
    k_steps
    · unfold Stop
      refine mul_int ?_ (fdiv_ok (by omega) (by omega) (by omega))
      k_steps
      unfold Stop
      rename Fr _ _ _ _ => F7
      rename News _ _ _ _ => N7
      refine MyEnd.intro ⟨_, _⟩ F7 N7 (by kst_all) (by k_mem) (by kst_in) hoA (by kst_same) ?_
      dsimp only
      rw [hP]
      rfl
  · subst hm9
    intro c u h9 tk9 hP F9 N9
    obtain ⟨il, til⟩ := c
    dsimp only at hP F9 N9
    dsimp only [kstB] at F9
    k_steps
    unfold Stop
    refine mul_int ?_ (mul_ok_left (by omega))
    k_steps
    rename Fr h₀ _ _ _ => F7
    rename News h₀ _ _ _ => N7
    subst hP
    exact hret _ _ _ [] F7 N7 (fun _ _ _ h => nomatch h) ⟨rfl, _, rfl⟩
end Mine
end

section
open PySem PySem.W PyProof.Rows
namespace Mine
noncomputable def normData (st : List Int × Int × Int × Int) : PyData := .tuple [.tuple (st.1.map PyData.int), .int st.2.1]
theorem norm_eqv (a b : List Int × Int × Int × Int) : PyData.eqv (normData a) (normData b) = (decide (a.1 = b.1) && decide (a.2.1 = b.2.1)) := by
  by_cases h : a.2.1 = b.2.1 <;> simp [normData, PyData.eqv, PyData.eqvAll, ked_eqvAll, h]
theorem ints_lay : ∀ ns : List Int, PyData.canLayAll0 (ns.map PyData.int) = true
  | [] => rfl
  | x :: r => by simp [PyData.canLayAll0, PyData.canLay0, ints_lay r]
theorem ints_depth : ∀ ns : List Int, PyData.depthAll (ns.map PyData.int) ≤ 1
  | [] => by simp [PyData.depthAll]
  | x :: r => by
    have := ints_depth r
    simp only [List.map_cons, PyData.depthAll, PyData.depth]
    omega
theorem norm_shaped (a : List Int × Int × Int × Int) : SeqAt.shaped (normData a) = true := by
  have h1 := ints_lay a.1
  have h2 := ints_depth a.1
  have h3 : (normData a).canLay0 = true := by simp [normData, PyData.canLay0, PyData.canLayAll0, h1]
  have h4 : (normData a).depth ≤ 64 := by
    simp only [normData, PyData.depth, PyData.depthAll]
    omega
  unfold SeqAt.shaped
  rw [h3, decide_eq_true h4]
  rfl
set_option maxRecDepth 100000 in
set_option maxHeartbeats 8000000 in
theorem equalc (w : World) (loose : List Str) (mean : ExcName → Option Value) (mg mb : Str → Option Value) (news : List (Addr × Obj)) (v v' : Value) (st st' : List Int × Int × Int × Int)
    (hv : LeadIn w.params 76 news v st) (hv' : LeadIn w.params 76 news v' st') :
    Does PySem.Challenge.rw_pg0153_01.row.prog w (hd.heap_39 w.params) hd.view_39 loose mean mg mb (.ref 52) [v, v'] 8 200 news
      (fun tl r => tl = [] ∧ r = .bool (decide (st.1 = st'.1) && decide (st.2.1 = st'.2.1))) := by
  k_fill
  intro dp un gd cn cs a ccd cl outer A₀ base h₀ L m s Q E B F X N T hk hdp hun hret
  obtain ⟨x, d, Ta, Tc, vs, raw, t0, t1, t2, t3, k0, k1, k2, k3, k4, ep, e, m1, m2, m3, m4, hI⟩ := hv
  subst e
  obtain ⟨y, yd, yTa, yTc, yvs, yraw, yt0, yt1, yt2, yt3, yk0, yk1, yk2, yk3, yk4, yep, e, n1, n2, n3, n4, yI⟩ := hv'
  subst e
  refine wpAny_call ?_
  k_dflt cell_enter
  k_steps
  unfold Stop
  rename News _ _ _ _ => N9
  have r1 : Reads _ (.ref Ta) (normData st) [] := reads_tuple_at (N9 _ m3).1 rfl rfl (.cons (reads_tuple_at (N9 _ m4).1 rfl rfl (reads_ints hI)) (.cons (.int _ _) .nil))
  have r2 : Reads _ (.ref yTa) (normData st') [] := reads_tuple_at (N9 _ n3).1 rfl rfl (.cons (reads_tuple_at (N9 _ n4).1 rfl rfl (reads_ints yI)) (.cons (.int _ _) .nil))
  refine eq_dataH r1 r2 (norm_shaped _) (norm_shaped _) (by ktr_units) ?_
  rw [norm_eqv]
  k_steps
  rename Fr h₀ _ _ _ => F7
  rename News h₀ _ _ _ => N7
  exact hret _ _ _ [] F7 N7 (fun _ _ _ h => nomatch h) ⟨rfl, rfl⟩
end Mine
end

section
open PySem PySem.W PyProof.Rows
namespace Mine
noncomputable def longest (st : List Int × Int × Int × Int) : Int := max ((st.1.length : Int) - 1) st.2.1
noncomputable def lessB (a b : List Int × Int × Int × Int) : Bool :=
  if b.2.2.1 ≤ a.2.2.1 then false
  else if (a.1.length : Int) ≤ 1 ∧ (b.1.length : Int) ≤ 1 then decide (a.2.2.2 ≤ b.2.2.2)
  else (List.range (max (longest a) (longest b)).toNat).all fun i => decide (ilev a (2 + (i : Int)) < ilev b (2 + (i : Int)))
set_option maxRecDepth 100000 in
set_option maxHeartbeats 8000000 in
theorem longrun (w : World) (loose : List Str) (mean : ExcName → Option Value) (mg mb : Str → Option Value) (news : List (Addr × Obj)) (v : Value) (st : List Int × Int × Int × Int)
    (hv : LeadIn w.params 76 news v st) (hlen : st.1.length ≤ 65536) :
    Does PySem.Challenge.rw_pg0153_01.row.prog w (hd.heap_39 w.params) hd.view_39 loose mean mg mb (.ref 38) [v] 3 20 news
      (fun tl r => tl = [] ∧ ∃ t', r = .int (longest st) t') := by
  k_fill
  intro dp un gd cn cs a ccd cl outer A₀ base h₀ L m s Q E B F X N T hk hdp hun hret
  obtain ⟨x, d, Ta, Tc, vs, raw, t0, t1, t2, t3, k0, k1, k2, k3, k4, ep, e, m1, m2, m3, m4, hI⟩ := hv
  subst e
  refine wpAny_call ?_
  k_dflt cell_enter
  k_steps
  unfold Stop
  k_dflt (refine' len_tup_my ?k1 ?k2 ?k3 ?k4 ?_; (case k1 => k_asm); (case k2 => k_mem); (case k3 => assumption); (case k4 => omega); k_whole)
  k_steps
  rename Fr h₀ _ _ _ => F7
  rename News h₀ _ _ _ => N7
  refine hret _ _ _ [] F7 N7 (fun _ _ _ h => nomatch h) ⟨rfl, _, congrArg (fun z => Value.int z _) ?_⟩
  unfold longest
  split <;> omega
theorem longest_in {st : List Int × Int × Int × Int} (hl : st.1.length ≤ 60000) (ht : 0 ≤ st.2.1 ∧ st.2.1 ≤ 60000) : longest st ≤ 60000 ∧ 0 ≤ longest st :=
  ⟨Int.max_le.mpr ⟨by omega, ht.2⟩, Int.le_trans ht.1 (Int.le_max_right _ _)⟩
theorem wd_small {a x y : Int} (ha : 0 ≤ a ∧ a ≤ 65536) (hx : x ≤ 60000 ∧ 0 ≤ x) (hy : y ≤ 60000 ∧ 0 ≤ y) : Builtin.Range.small a ((if y > x then y else x) + 1 + 1) 1 = true := range_small ha (by split <;> omega)
theorem wd_max {x y : Int} : (if y > x then y else x) = max x y := by
  split
  · exact (Int.max_eq_right (by omega)).symm
  · exact (Int.max_eq_left (by omega)).symm
theorem wd_size {x y : Int} (hx : x ≤ 60000 ∧ 0 ≤ x) : Builtin.Range.rangeSize 1 ((if y > x then y else x) + 1 + 1) 1 = (((max x y).toNat + 1 : Nat) : Int) := by
  rw [range_size, wd_max]
  have := Int.le_trans hx.2 (Int.le_max_left x y)
  generalize max x y = z at *
  omega
theorem wd_size2 {x y : Int} : Builtin.Range.rangeSize 2 ((if y > x then y else x) + 1 + 1) 1 = (((max x y).toNat : Nat) : Int) := by
  rw [range_size, wd_max]
  generalize max x y = z at *
  omega
theorem wd_in {x y : Int} {i : Nat} (hx : x ≤ 60000 ∧ 0 ≤ x) (hy : y ≤ 60000 ∧ 0 ≤ y) (h : i < (max x y).toNat + 1) : (2 : Int) + (i : Int) ≤ 65536 ∧ (1 : Int) + (i : Int) ≤ 65536 := by
  have := Int.max_le.mpr ⟨hx.1, hy.1⟩
  generalize max x y = z at *
  omega
theorem wd_len {n i : Nat} (h : n ≤ i) (h2 : (1 : Int) + (i : Int) ≤ 65536) : n ≤ 65535 := by omega
theorem wd_fin {x y : Int} {n : Nat} (hx : x ≤ 60000 ∧ 0 ≤ x) (hy : y ≤ 60000 ∧ 0 ≤ y) (h : n ≤ (max x y).toNat + 1) : n ≤ 60001 := by
  have := Int.max_le.mpr ⟨hx.1, hy.1⟩
  generalize max x y = z at *
  omega
theorem wd_one (i : Nat) : (1 : Int) ≤ 1 + (i : Int) ∧ (1 : Int) ≤ 2 + (i : Int) := by omega
theorem lessB_n {a b : List Int × Int × Int × Int} (h : b.2.2.1 ≤ a.2.2.1) : lessB a b = false := by unfold lessB; rw [if_pos h]
theorem lessB_simple {a b : List Int × Int × Int × Int} (h : ¬ b.2.2.1 ≤ a.2.2.1) (h1 : (a.1.length : Int) ≤ 1) (h2 : (b.1.length : Int) ≤ 1) : lessB a b = decide (a.2.2.2 ≤ b.2.2.2) := by
  unfold lessB; rw [if_neg h, if_pos ⟨h1, h2⟩]
theorem lessB_all {a b : List Int × Int × Int × Int} (h : ¬ b.2.2.1 ≤ a.2.2.1) (h1 : ¬ ((a.1.length : Int) ≤ 1 ∧ (b.1.length : Int) ≤ 1)) (hs : ∀ j, j < (max (longest a) (longest b)).toNat → ilev a (2 + (j : Int)) < ilev b (2 + (j : Int))) : lessB a b = true := by
  unfold lessB
  rw [if_neg h, if_neg h1, List.all_eq_true]
  intro j hj
  exact decide_eq_true (hs j (List.mem_range.mp hj))
theorem lessB_not {a b : List Int × Int × Int × Int} (h : ¬ b.2.2.1 ≤ a.2.2.1) (h1 : ¬ ((a.1.length : Int) ≤ 1 ∧ (b.1.length : Int) ≤ 1)) {j : Nat} (hj : j < (max (longest a) (longest b)).toNat) (hs : ilev b (2 + (j : Int)) ≤ ilev a (2 + (j : Int))) : lessB a b = false := by
  unfold lessB
  rw [if_neg h, if_neg h1, List.all_eq_false]
  exact ⟨j, List.mem_range.mpr hj, by simp; omega⟩
structure LsC where
  z : Unit
local macro_rules | `(tactic| walk_at "isTrue BoolOp") => `(tactic| (k_here; (fail_if_success (with_reducible show wpAny _ _ _ (BoolBack _ _ _ _ _ _) _ _)); refine Stop.intro ?_))
theorem wp_bool {M : Model} {A : Around} {t : Sem Bool} {E : Value → Shared → Prop} {s : Shared} {Q : Bool → Shared → Prop} {h₀ : Heap} {L : Addr} {m : Str → Option Value} {led : List (Addr × Obj)} (_F : Fr h₀ L s.heap m) (_N : News h₀ L s.heap led) (b : Bool)
    (h : wpAny M A t (BoolBack h₀ L m led s b) E s) (k : ∀ h' tk', Fr h₀ L h' m → News h₀ L h' led → Q b { s with heap := h', toks := tk' }) : wpAny M A t Q E s :=
  wpAny_mono h (fun ok s₃ hb => by
    obtain ⟨rfl, h', tk', rfl, F', N'⟩ := hb
    exact k h' tk' F' N') fun _ _ e => e
set_option maxRecDepth 100000 in
set_option maxHeartbeats 8000000 in
theorem lessc (w : World) (loose : List Str) (mean : ExcName → Option Value) (mg mb : Str → Option Value) (news : List (Addr × Obj)) (v v' : Value) (st st' : List Int × Int × Int × Int)
    (hv : LeadIn w.params 76 news v st) (hv' : LeadIn w.params 76 news v' st') (hlen : st.1.length ≤ 60000) (hlen' : st'.1.length ≤ 60000) (ht : 0 ≤ st.2.1 ∧ st.2.1 ≤ 60000) (ht' : 0 ≤ st'.2.1 ∧ st'.2.1 ≤ 60000) :
    Does PySem.Challenge.rw_pg0153_01.row.prog w (hd.heap_39 w.params) hd.view_39 loose mean mg mb (.ref 66) [v, v'] 8 60 news
      (fun tl r => r = .bool (lessB st st')) := by
  k_fill
  intro dp un gd cn cs a ccd cl outer A₀ base h₀ L m s Q E B F X N T hk hdp hun hret
  have hl1 : Hid (st.1.length ≤ 65536) := Nat.le_trans hlen (by decide)
  have hl2 : Hid (st'.1.length ≤ 65536) := Nat.le_trans hlen' (by decide)
  have hlo1 : Hid (longest st ≤ 60000 ∧ 0 ≤ longest st) := longest_in hlen ht
  have hlo2 : Hid (longest st' ≤ 60000 ∧ 0 ≤ longest st') := longest_in hlen' ht'
  clear hlen hlen' ht ht'
  have hL1 := hv
  have hL2 := hv'
  obtain ⟨x, d, Ta, Tc, vs, raw, t0, t1, t2, t3, k0, k1, k2, k3, k4, ep, e, m1, m2, m3, m4, hI⟩ := hv
  subst e
  obtain ⟨y, yd, yTa, yTc, yvs, yraw, yt0, yt1, yt2, yt3, yk0, yk1, yk2, yk3, yk4, yep, e, n1, n2, n3, n4, yI⟩ := hv'
  subst e
  refine wpAny_call ?_
  k_dflt cell_enter
  k_steps
  · rename Fr h₀ _ _ _ => F7
    rename News h₀ _ _ _ => N7
    exact hret _ _ _ [] F7 N7 (fun _ _ _ h => nomatch h) (by rw [lessB_n (by assumption)])
  unfold Stop
  rename Fr _ _ _ _ => F4
  rename News _ _ _ _ => N4
  refine wp_bool F4 N4 (decide ((st.1.length : Int) ≤ 1 ∧ (st'.1.length : Int) ≤ 1)) ?_ fun h4 tk4 F5 N5 => ?_
  · k_steps
    all_goals
      rename Fr _ _ _ _ => F7
      rename News _ _ _ _ => N7
      refine BoolBack.intro F7 N7 (fun p hp => hp) ?_
      first | exact (decide_eq_true (by omega)).symm | exact (decide_eq_false (by omega)).symm
  by_cases hs : (st.1.length : Int) ≤ 1 ∧ (st'.1.length : Int) ≤ 1
  · rw [decide_eq_true hs]
    try dsimp only
    try k_fold
    k_steps
    rename Fr h₀ _ _ _ => F7
    rename News h₀ _ _ _ => N7
    exact hret _ _ _ [] F7 N7 (fun _ _ _ h => nomatch h) (by rw [lessB_simple (by assumption) hs.1 hs.2])
  · rw [decide_eq_false hs]
    try dsimp only
    try k_fold
    k_steps
    unfold Stop
    have hnot : ¬ ((st.1.length : Int) ≤ 1 ∧ (st'.1.length : Int) ≤ 1) := hs
    k_dflt (refine' Does.use (longrun w _ _ _ _ _ _ _ hL1 hl1) ?q1 ?q2 ?q3 ?q4 ?q5 ?q6 ?q7 ?q8 ?_)
    case q1 => k_asm
    case q2 => k_asm
    case q3 => k_asm
    case q4 => k_asm
    case q5 => k_asm
    case q6 => exact rfl
    case q7 => ktr_room
    case q8 => ktr_units
    intro r5 h5 tk5 tl5 F5 N5 ho5 hP5
    obtain ⟨e5, t5, e6⟩ := hP5
    subst e5 e6
    rw [List.nil_append] at N5
    try dsimp only
    try k_fold
    k_steps
    unfold Stop
    k_dflt (refine' Does.use (longrun w _ _ _ _ _ _ _ hL2 hl2) ?q1 ?q2 ?q3 ?q4 ?q5 ?q6 ?q7 ?q8 ?_)
    case q1 => k_asm
    case q2 => k_asm
    case q3 => k_asm
    case q4 => k_asm
    case q5 => k_asm
    case q6 => exact rfl
    case q7 => ktr_room
    case q8 => ktr_units
    intro r6 h6 tk6 tl6 F6 N6 ho6 hP6
    obtain ⟨e5, t6, e6⟩ := hP6
    subst e5 e6
    rw [List.nil_append] at N6
    try dsimp only
    try k_fold
    k_steps
    unfold Stop
    rename Fr _ _ _ _ => F8
    (with_unfolding_all refine' For_invVF F8 ?k1 ?k2 ?_; (case k1 => exact rfl); (case k2 => exact rfl); k_whole)
    k_steps
    unfold Stop
    rename Fr _ _ _ _ => F9
    rename News _ _ _ _ => N9
    rename IsRange _ _ _ _ _ _ _ _ => hR
    obtain ⟨m9, hm9, F9⟩ := fr_gen F9
    with_unfolding_all
     refine' for_range (σ := LsC) (n := (max (longest st) (longest st')).toNat) (fun _ => news) (fun c => []) [] (fun i c => ∀ j, j < i → ilev st (2 + (j : Int)) < ilev st' (2 + (j : Int))) ⟨()⟩ (by rfl) hR ?hs ?hn F9 N9 ?hk ?hp ?_ ?_
    case hs => exact wd_small (by decide) hlo1 hlo2
    case hn => exact wd_size2
    case hk => exact List.forall_mem_nil _
    case hp => exact fun j hj => absurd hj (Nat.not_lt_zero j)
    · subst hm9
      intro I c i ti u h9 tk9 oI hlt hi hP hoff F9 N9
      dsimp only at hP F9 N9 hoff
      dsimp only [kstB] at F9
      have hoA := AllNe.of hoff
      have hi2 := (wd_in hlo1 hlo2 (Nat.lt_succ_of_lt hi)).1
      have hA := allLt_of hlt
      clear hlt hoff
      have hM1 : LeadIn w.params 76 ((I, oI) :: news) _ st := hL1.mono fun _ hp => List.mem_cons_of_mem _ hp
      have hM2 : LeadIn w.params 76 ((I, oI) :: news) _ st' := hL2.mono fun _ hp => List.mem_cons_of_mem _ hp
      k_steps
      unfold Stop
      k_dflt (refine' Does.use (ilevel w _ _ _ _ _ _ _ (2 + (i : Int)) _ hM1 hl1 (wd_one i).2 hi2) ?q1 ?q2 ?q3 ?q4 ?q5 ?q6 ?q7 ?q8 ?_)
      case q1 => k_asm
      case q2 => k_asm
      case q3 => k_asm
      case q4 => k_asm
      case q5 => k_asm
      case q6 => exact rfl
      case q7 => ktr_room
      case q8 => ktr_units
      intro r7 h7 tk7 tl7 F7 N7 ho7 hP7
      obtain ⟨e5, t7, e6⟩ := hP7
      subst e5 e6
      rw [List.nil_append] at N7
      try dsimp only
      try k_fold
      k_steps
      unfold Stop
      k_dflt (refine' Does.use (ilevel w _ _ _ _ _ _ _ (2 + (i : Int)) _ hM2 hl2 (wd_one i).2 hi2) ?q1 ?q2 ?q3 ?q4 ?q5 ?q6 ?q7 ?q8 ?_)
      case q1 => k_asm
      case q2 => k_asm
      case q3 => k_asm
      case q4 => k_asm
      case q5 => k_asm
      case q6 => exact rfl
      case q7 => ktr_room
      case q8 => ktr_units
      intro r8 h8 tk8 tl8 F8 N8 ho8 hP8
      obtain ⟨e5, t8, e6⟩ := hP8
      subst e5 e6
      rw [List.nil_append] at N8
      try dsimp only
      try k_fold
      k_steps
      · rename Fr h₀ _ _ _ => F7
        rename News h₀ _ _ _ => N7
        exact hret _ _ _ [(I, oI)] F7 N7 (fun q hq p hp => by rw [List.mem_singleton.mp hp]; exact ktn_ltOf hA q hq) (by rw [lessB_not (by assumption) hnot hi (by omega)])
      · unfold Stop
        rename Fr _ _ _ _ => F7
        rename News _ _ _ _ => N7
        refine MyEnd.intro ⟨()⟩ F7 N7 (by kst_all) (by k_mem) (by kst_in) hoA (by kst_same) ?_
        intro j hj
        by_cases hji : j < i
        · exact hP j hji
        · have e : j = i := by omega
          subst e
          omega
    · subst hm9
      intro c u h9 tk9 hP F9 N9
      dsimp only at hP F9 N9
      dsimp only [kstB] at F9
      k_steps
      rename Fr h₀ _ _ _ => F7
      rename News h₀ _ _ _ => N7
      exact hret _ _ _ [] F7 N7 (fun _ _ _ h => nomatch h) (by rw [lessB_all (by assumption) hnot hP])
end Mine
end

section
open PySem PySem.W PyProof.Rows
namespace Mine
theorem mem_swap3 {α : Type} {a i b : α} {t n : List α} : ∀ p ∈ b :: ((a :: t) ++ n), p ∈ a :: i :: b :: (t ++ n) := fun p hp => by
  rcases List.mem_cons.mp hp with h | h
  · exact h ▸ .tail _ (.tail _ (.head _))
  · rcases List.mem_cons.mp h with h | h
    · exact h ▸ .head _
    · exact .tail _ (.tail _ (.tail _ h))
theorem news_name {h₀ h : Heap} {L : Addr} {D : Addr} {o : Obj} {r : List (Addr × Obj)} (_N : News h₀ L h ((D, o) :: r)) : ∃ d, d = D := ⟨D, rfl⟩
structure WnC where
  l : Addr
  vs : List Value
  ep : Nat
  tl : List (Addr × Obj)
noncomputable def Pne (a b : List Int × Int × Int × Int) (j : Nat) : Bool := decide (ilev a (1 + (j : Int)) ≠ ilev b (1 + (j : Int)))
noncomputable def rne (a b : List Int × Int × Int × Int) (n : Nat) : List (Int × Int × Int) := ((List.range n).filter (Pne a b)).map fun (j : Nat) => (1 + (j : Int), ilev a (1 + (j : Int)), ilev b (1 + (j : Int)))
theorem rne_yes {a b : List Int × Int × Int × Int} {n : Nat} (h : Pne a b n = true) : rne a b (n + 1) = rne a b n ++ [(1 + (n : Int), ilev a (1 + (n : Int)), ilev b (1 + (n : Int)))] := by
  unfold rne
  rw [List.range_succ, List.filter_append, List.map_append]
  simp [h]
theorem rne_no {a b : List Int × Int × Int × Int} {n : Nat} (h : Pne a b n = false) : rne a b (n + 1) = rne a b n := by
  unfold rne
  rw [List.range_succ, List.filter_append, List.map_append]
  simp [h]
set_option maxRecDepth 100000 in
set_option maxHeartbeats 8000000 in
theorem wne (w : World) (loose : List Str) (mean : ExcName → Option Value) (mg mb : Str → Option Value) (news : List (Addr × Obj)) (v v' : Value) (st st' : List Int × Int × Int × Int)
    (hv : LeadIn w.params 76 news v st) (hv' : LeadIn w.params 76 news v' st') (hlen : st.1.length ≤ 60000) (hlen' : st'.1.length ≤ 60000) (ht : 0 ≤ st.2.1 ∧ st.2.1 ≤ 60000) (ht' : 0 ≤ st'.2.1 ∧ st'.2.1 ≤ 60000) :
    Does PySem.Challenge.rw_pg0153_01.row.prog w (hd.heap_39 w.params) hd.view_39 loose mean mg mb (.ref 59) [v, v'] 8 60 news
      (fun tl r => ∃ l vs ep, r = .ref l ∧ vs.length ≤ 60001 ∧ (l, W.listOf vs.toArray ep) ∈ tl ∧ TabIn tl vs (rne st st' ((max (longest st) (longest st')).toNat + 1))) := by
  k_fill
  intro dp un gd cn cs a ccd cl outer A₀ base h₀ L m s Q E B F X N T hk hdp hun hret
  have hl1 : Hid (st.1.length ≤ 65536) := Nat.le_trans hlen (by decide)
  have hl2 : Hid (st'.1.length ≤ 65536) := Nat.le_trans hlen' (by decide)
  have hlo1 : Hid (longest st ≤ 60000 ∧ 0 ≤ longest st) := longest_in hlen ht
  have hlo2 : Hid (longest st' ≤ 60000 ∧ 0 ≤ longest st') := longest_in hlen' ht'
  clear hlen hlen' ht ht'
  have hL1 := hv
  have hL2 := hv'
  obtain ⟨x, d, Ta, Tc, vs, raw, t0, t1, t2, t3, k0, k1, k2, k3, k4, ep, e, m1, m2, m3, m4, hI⟩ := hv
  subst e
  obtain ⟨y, yd, yTa, yTc, yvs, yraw, yt0, yt1, yt2, yt3, yk0, yk1, yk2, yk3, yk4, yep, e, n1, n2, n3, n4, yI⟩ := hv'
  subst e
  clear m3 m4 n3 n4
  refine wpAny_call ?_
  k_dflt cell_enter
  k_steps
  unfold Stop
  k_dflt (refine' Does.use (longrun w _ _ _ _ _ _ _ hL1 hl1) ?q1 ?q2 ?q3 ?q4 ?q5 ?q6 ?q7 ?q8 ?_)
  case q1 => k_asm
  case q2 => k_asm
  case q3 => k_asm
  case q4 => k_asm
  case q5 => k_asm
  case q6 => exact rfl
  case q7 => ktr_room
  case q8 => ktr_units
  intro r5 h5 tk5 tl5 F5 N5 ho5 hP5
  obtain ⟨e5, t5, e6⟩ := hP5
  subst e5 e6
  rw [List.nil_append] at N5
  try dsimp only
  try k_fold
  k_steps
  unfold Stop
  k_dflt (refine' Does.use (longrun w _ _ _ _ _ _ _ hL2 hl2) ?q1 ?q2 ?q3 ?q4 ?q5 ?q6 ?q7 ?q8 ?_)
  case q1 => k_asm
  case q2 => k_asm
  case q3 => k_asm
  case q4 => k_asm
  case q5 => k_asm
  case q6 => exact rfl
  case q7 => ktr_room
  case q8 => ktr_units
  intro r6 h6 tk6 tl6 F6 N6 ho6 hP6
  obtain ⟨e5, t6, e6⟩ := hP6
  subst e5 e6
  rw [List.nil_append] at N6
  try dsimp only
  try k_fold
  k_steps
  unfold Stop
  rename Fr _ _ _ _ => F8
  (with_unfolding_all refine' For_invVF F8 ?k1 ?k2 ?_; (case k1 => exact rfl); (case k2 => exact rfl); k_whole)
  k_steps
  unfold Stop
  rename Fr _ _ _ _ => F9
  rename News _ _ _ _ => N9
  rename IsRange _ _ _ _ _ _ _ _ => hR
  have hA : AllLt _ news := allLt_of (by assumption)
  obtain ⟨m9, hm9, F9⟩ := fr_gen F9
  with_unfolding_all
   refine' for_range (σ := WnC) (n := (max (longest st) (longest st')).toNat + 1) (fun c => (c.l, W.listOf c.vs.toArray c.ep) :: (c.tl ++ news)) (fun c => [(Str.ofString "a", .ref c.l)]) [] (fun i c => TabIn c.tl c.vs (rne st st' i) ∧ AllGt c.l c.tl ∧ AllLt c.l news ∧ c.vs.length ≤ i) ⟨_, [], _, []⟩ (by rfl) hR ?hs ?hn F9 N9 ?hk ?hp ?_ ?_
  case hs => exact wd_small (by decide) hlo1 hlo2
  case hn => exact wd_size hlo1
  case hk => exact List.forall_mem_cons.mpr ⟨by rw [hm9]; rfl, List.forall_mem_nil _⟩
  case hp => exact ⟨.nil, List.forall_mem_nil _, hA, Nat.le_refl _⟩
  · subst hm9
    intro I c i ti u h9 tk9 oI hlt hi hP hoff F9 N9
    obtain ⟨cl', cvs, cep, ctl⟩ := c
    obtain ⟨hT, hG, hA', hci⟩ := hP
    dsimp only at hT hG hA' F9 N9 hoff hci
    dsimp only [kstB] at F9
    have hi2 : Hid ((1 : Int) + (i : Int) ≤ 65536) := (wd_in hlo1 hlo2 hi).2
    have hcv := wd_len hci hi2
    replace hi : Hid (i < _) := hi
    obtain ⟨rest, hrest⟩ : ∃ r, r = ctl ++ news := ⟨_, rfl⟩
    have hM1 := hL1.mono (news' := rest) fun p hp => by rw [hrest]; exact List.mem_append_right _ hp
    have hM2 := hL2.mono (news' := rest) fun p hp => by rw [hrest]; exact List.mem_append_right _ hp
    have mB : ∀ p ∈ news, p ∈ rest := fun p hp => by rw [hrest]; exact List.mem_append_right _ hp
    have m1' := mB _ m1
    have m2' := mB _ m2
    have n1' := mB _ n1
    have n2' := mB _ n2
    have hrl : ∀ p ∈ rest, p.1 ≠ cl' := fun p hp => by
      rw [hrest] at hp
      exact (List.mem_append.mp hp).elim (fun h => Nat.ne_of_gt (hG p h)) (fun h => Nat.ne_of_lt (ktn_ltOf hA' p h))
    have hoI : @Ne Nat cl' I := hoff _ (List.mem_cons_self)
    have hoR : ∀ p ∈ rest, p.1 ≠ I := fun p hp => hoff p (List.mem_cons_of_mem _ (hrest ▸ hp))
    rw [← hrest] at N9
    clear hlt m1 m2 n1 n2
    k_steps
    unfold Stop
    k_dflt (refine' Does.use (ilevel w _ _ _ _ _ _ st (1 + (i : Int)) _ ?qL hl1 (wd_one i).1 hi2) ?q1 ?q2 ?q3 ?q4 ?q5 ?q6 ?q7 ?q8 ?_)
    case q1 => k_asm
    case q2 => k_asm
    case q3 => k_asm
    case q4 => k_asm
    case q5 => k_asm
    case q6 => exact rfl
    case q7 => ktr_room
    case q8 => ktr_units
    case qL => exact hM1.mono fun _ hp => by (repeat (first | exact hp | apply List.mem_cons_of_mem))
    intro r7 h7 tk7 tl7 F7 N7 ho7 hP7
    obtain ⟨e5, t7, e6⟩ := hP7
    subst e5 e6
    rw [List.nil_append] at N7
    try dsimp only
    try k_fold
    k_steps
    unfold Stop
    k_dflt (refine' Does.use (ilevel w _ _ _ _ _ _ st' (1 + (i : Int)) _ ?qL hl2 (wd_one i).1 hi2) ?q1 ?q2 ?q3 ?q4 ?q5 ?q6 ?q7 ?q8 ?_)
    case q1 => k_asm
    case q2 => k_asm
    case q3 => k_asm
    case q4 => k_asm
    case q5 => k_asm
    case q6 => exact rfl
    case q7 => ktr_room
    case q8 => ktr_units
    case qL => exact hM2.mono fun _ hp => by (repeat (first | exact hp | apply List.mem_cons_of_mem))
    intro r7 h7 tk7 tl7 F7 N7 ho7 hP7
    obtain ⟨e5, t7, e6⟩ := hP7
    subst e5 e6
    rw [List.nil_append] at N7
    try dsimp only
    try k_fold
    k_steps
    · unfold Stop
      k_dflt (refine' Does.use (ilevel w _ _ _ _ _ _ st (1 + (i : Int)) _ ?qL hl1 (wd_one i).1 hi2) ?q1 ?q2 ?q3 ?q4 ?q5 ?q6 ?q7 ?q8 ?_)
      case q1 => k_asm
      case q2 => k_asm
      case q3 => k_asm
      case q4 => k_asm
      case q5 => k_asm
      case q6 => exact rfl
      case q7 => ktr_room
      case q8 => ktr_units
      case qL => exact hM1.mono fun _ hp => by (repeat (first | exact hp | apply List.mem_cons_of_mem))
      intro r7 h7 tk7 tl7 F7 N7 ho7 hP7
      obtain ⟨e5, t7, e6⟩ := hP7
      subst e5 e6
      rw [List.nil_append] at N7
      try dsimp only
      try k_fold
      k_steps
      unfold Stop
      k_dflt (refine' Does.use (ilevel w _ _ _ _ _ _ st' (1 + (i : Int)) _ ?qL hl2 (wd_one i).1 hi2) ?q1 ?q2 ?q3 ?q4 ?q5 ?q6 ?q7 ?q8 ?_)
      case q1 => k_asm
      case q2 => k_asm
      case q3 => k_asm
      case q4 => k_asm
      case q5 => k_asm
      case q6 => exact rfl
      case q7 => ktr_room
      case q8 => ktr_units
      case qL => exact hM2.mono fun _ hp => by (repeat (first | exact hp | apply List.mem_cons_of_mem))
      intro r7 h7 tk7 tl7 F7 N7 ho7 hP7
      obtain ⟨e5, t7, e6⟩ := hP7
      subst e5 e6
      rw [List.nil_append] at N7
      try dsimp only
      try k_fold
      k_steps
      unfold Stop
      rename Fr _ _ _ _ => F7
      rename News _ _ _ _ => N7
      obtain ⟨D9, e9⟩ := news_name N7
      subst e9
      try simp only [List.push_toArray] at N7
      have hord : (I < D9) ∧ (cl' < D9) ∧ AllLt D9 rest := by assumption
      have hIn : @LT.lt Nat _ I D9 := hord.1
      have hln : @LT.lt Nat _ cl' D9 := hord.2.1
      have hpn : Pne st st' i = true := decide_eq_true (by omega)
      subst hrest
      refine MyEnd.intro ⟨cl', cvs ++ [.ref D9], _, (D9, _) :: ctl⟩ F7 N7 (by kst_all) (by k_mem) mem_swap3 (List.forall_mem_cons.mpr ⟨hoI, List.forall_mem_cons.mpr ⟨Nat.ne_of_gt hIn, hoR⟩⟩) (by kst_same) ⟨?_, List.forall_mem_cons.mpr ⟨hln, hG⟩, hA', ?_⟩
      · rw [rne_yes hpn]
        exact (hT.mono fun p hp => List.mem_cons_of_mem _ hp).snoc List.mem_cons_self
      · dsimp only
        rw [List.length_append, List.length_singleton]
        omega
    · unfold Stop
      rename Fr _ _ _ _ => F7
      rename News _ _ _ _ => N7
      have hpn : Pne st st' i = false := decide_eq_false (by omega)
      subst hrest
      refine MyEnd.intro ⟨cl', cvs, cep, ctl⟩ F7 N7 (by kst_all) (by k_mem) (fun p hp => List.mem_cons_of_mem _ hp) (List.forall_mem_cons.mpr ⟨hoI, hoR⟩) (by kst_same) ⟨?_, hG, hA', Nat.le_succ_of_le hci⟩
      rw [rne_no hpn]
      exact hT
  · subst hm9
    intro c u h9 tk9 hP F9 N9
    obtain ⟨cl', cvs, cep, ctl⟩ := c
    obtain ⟨hT, hG, hA', hci⟩ := hP
    dsimp only at hT hG hA' hci F9 N9
    dsimp only [kstB] at F9
    k_steps
    rename Fr h₀ _ _ _ => F7
    rename News h₀ _ _ _ => N7
    refine hret _ _ _ ((_, W.listOf cvs.toArray cep) :: ctl) F7 N7 (fun q hq p hp => ?_) ⟨_, _, _, rfl, wd_fin hlo1 hlo2 hci, List.mem_cons_self, hT.mono fun p hp => List.mem_cons_of_mem _ hp⟩
    have hq1 := ktn_ltOf hA' q hq
    rcases List.mem_cons.mp hp with rfl | hp
    · exact hq1
    · exact Nat.lt_trans hq1 (hG p hp)

noncomputable def Pnl (a b : List Int × Int × Int × Int) (j : Nat) : Bool := decide (ilev b (1 + (j : Int)) ≤ ilev a (1 + (j : Int)))
noncomputable def rnl (a b : List Int × Int × Int × Int) (n : Nat) : List (Int × Int × Int) := ((List.range n).filter (Pnl a b)).map fun (j : Nat) => (1 + (j : Int), ilev a (1 + (j : Int)), ilev b (1 + (j : Int)))
theorem rnl_yes {a b : List Int × Int × Int × Int} {n : Nat} (h : Pnl a b n = true) : rnl a b (n + 1) = rnl a b n ++ [(1 + (n : Int), ilev a (1 + (n : Int)), ilev b (1 + (n : Int)))] := by
  unfold rnl
  rw [List.range_succ, List.filter_append, List.map_append]
  simp [h]
theorem rnl_no {a b : List Int × Int × Int × Int} {n : Nat} (h : Pnl a b n = false) : rnl a b (n + 1) = rnl a b n := by
  unfold rnl
  rw [List.range_succ, List.filter_append, List.map_append]
  simp [h]
set_option maxRecDepth 100000 in
set_option maxHeartbeats 8000000 in
theorem wnl (w : World) (loose : List Str) (mean : ExcName → Option Value) (mg mb : Str → Option Value) (news : List (Addr × Obj)) (v v' : Value) (st st' : List Int × Int × Int × Int)
    (hv : LeadIn w.params 76 news v st) (hv' : LeadIn w.params 76 news v' st') (hlen : st.1.length ≤ 60000) (hlen' : st'.1.length ≤ 60000) (ht : 0 ≤ st.2.1 ∧ st.2.1 ≤ 60000) (ht' : 0 ≤ st'.2.1 ∧ st'.2.1 ≤ 60000) :
    Does PySem.Challenge.rw_pg0153_01.row.prog w (hd.heap_39 w.params) hd.view_39 loose mean mg mb (.ref 73) [v, v'] 8 60 news
      (fun tl r => ∃ l vs ep, r = .ref l ∧ vs.length ≤ 60001 ∧ (l, W.listOf vs.toArray ep) ∈ tl ∧ TabIn tl vs (rnl st st' ((max (longest st) (longest st')).toNat + 1))) := by
  k_fill
  intro dp un gd cn cs a ccd cl outer A₀ base h₀ L m s Q E B F X N T hk hdp hun hret
  have hl1 : Hid (st.1.length ≤ 65536) := Nat.le_trans hlen (by decide)
  have hl2 : Hid (st'.1.length ≤ 65536) := Nat.le_trans hlen' (by decide)
  have hlo1 : Hid (longest st ≤ 60000 ∧ 0 ≤ longest st) := longest_in hlen ht
  have hlo2 : Hid (longest st' ≤ 60000 ∧ 0 ≤ longest st') := longest_in hlen' ht'
  clear hlen hlen' ht ht'
  have hL1 := hv
  have hL2 := hv'
  obtain ⟨x, d, Ta, Tc, vs, raw, t0, t1, t2, t3, k0, k1, k2, k3, k4, ep, e, m1, m2, m3, m4, hI⟩ := hv
  subst e
  obtain ⟨y, yd, yTa, yTc, yvs, yraw, yt0, yt1, yt2, yt3, yk0, yk1, yk2, yk3, yk4, yep, e, n1, n2, n3, n4, yI⟩ := hv'
  subst e
  clear m3 m4 n3 n4
  refine wpAny_call ?_
  k_dflt cell_enter
  k_steps
  unfold Stop
  k_dflt (refine' Does.use (longrun w _ _ _ _ _ _ _ hL1 hl1) ?q1 ?q2 ?q3 ?q4 ?q5 ?q6 ?q7 ?q8 ?_)
  case q1 => k_asm
  case q2 => k_asm
  case q3 => k_asm
  case q4 => k_asm
  case q5 => k_asm
  case q6 => exact rfl
  case q7 => ktr_room
  case q8 => ktr_units
  intro r5 h5 tk5 tl5 F5 N5 ho5 hP5
  obtain ⟨e5, t5, e6⟩ := hP5
  subst e5 e6
  rw [List.nil_append] at N5
  try dsimp only
  try k_fold
  k_steps
  unfold Stop
  k_dflt (refine' Does.use (longrun w _ _ _ _ _ _ _ hL2 hl2) ?q1 ?q2 ?q3 ?q4 ?q5 ?q6 ?q7 ?q8 ?_)
  case q1 => k_asm
  case q2 => k_asm
  case q3 => k_asm
  case q4 => k_asm
  case q5 => k_asm
  case q6 => exact rfl
  case q7 => ktr_room
  case q8 => ktr_units
  intro r6 h6 tk6 tl6 F6 N6 ho6 hP6
  obtain ⟨e5, t6, e6⟩ := hP6
  subst e5 e6
  rw [List.nil_append] at N6
  try dsimp only
  try k_fold
  k_steps
  unfold Stop
  rename Fr _ _ _ _ => F8
  (with_unfolding_all refine' For_invVF F8 ?k1 ?k2 ?_; (case k1 => exact rfl); (case k2 => exact rfl); k_whole)
  k_steps
  unfold Stop
  rename Fr _ _ _ _ => F9
  rename News _ _ _ _ => N9
  rename IsRange _ _ _ _ _ _ _ _ => hR
  have hA : AllLt _ news := allLt_of (by assumption)
  obtain ⟨m9, hm9, F9⟩ := fr_gen F9
  with_unfolding_all
   refine' for_range (σ := WnC) (n := (max (longest st) (longest st')).toNat + 1) (fun c => (c.l, W.listOf c.vs.toArray c.ep) :: (c.tl ++ news)) (fun c => [(Str.ofString "a", .ref c.l)]) [] (fun i c => TabIn c.tl c.vs (rnl st st' i) ∧ AllGt c.l c.tl ∧ AllLt c.l news ∧ c.vs.length ≤ i) ⟨_, [], _, []⟩ (by rfl) hR ?hs ?hn F9 N9 ?hk ?hp ?_ ?_
  case hs => exact wd_small (by decide) hlo1 hlo2
  case hn => exact wd_size hlo1
  case hk => exact List.forall_mem_cons.mpr ⟨by rw [hm9]; rfl, List.forall_mem_nil _⟩
  case hp => exact ⟨.nil, List.forall_mem_nil _, hA, Nat.le_refl _⟩
  · subst hm9
    intro I c i ti u h9 tk9 oI hlt hi hP hoff F9 N9
    obtain ⟨cl', cvs, cep, ctl⟩ := c
    obtain ⟨hT, hG, hA', hci⟩ := hP
    dsimp only at hT hG hA' F9 N9 hoff hci
    dsimp only [kstB] at F9
    have hi2 : Hid ((1 : Int) + (i : Int) ≤ 65536) := (wd_in hlo1 hlo2 hi).2
    have hcv := wd_len hci hi2
    replace hi : Hid (i < _) := hi
    obtain ⟨rest, hrest⟩ : ∃ r, r = ctl ++ news := ⟨_, rfl⟩
    have hM1 := hL1.mono (news' := rest) fun p hp => by rw [hrest]; exact List.mem_append_right _ hp
    have hM2 := hL2.mono (news' := rest) fun p hp => by rw [hrest]; exact List.mem_append_right _ hp
    have mB : ∀ p ∈ news, p ∈ rest := fun p hp => by rw [hrest]; exact List.mem_append_right _ hp
    have m1' := mB _ m1
    have m2' := mB _ m2
    have n1' := mB _ n1
    have n2' := mB _ n2
    have hrl : ∀ p ∈ rest, p.1 ≠ cl' := fun p hp => by
      rw [hrest] at hp
      exact (List.mem_append.mp hp).elim (fun h => Nat.ne_of_gt (hG p h)) (fun h => Nat.ne_of_lt (ktn_ltOf hA' p h))
    have hoI : @Ne Nat cl' I := hoff _ (List.mem_cons_self)
    have hoR : ∀ p ∈ rest, p.1 ≠ I := fun p hp => hoff p (List.mem_cons_of_mem _ (hrest ▸ hp))
    rw [← hrest] at N9
    clear hlt m1 m2 n1 n2
    k_steps
    unfold Stop
    k_dflt (refine' Does.use (ilevel w _ _ _ _ _ _ st (1 + (i : Int)) _ ?qL hl1 (wd_one i).1 hi2) ?q1 ?q2 ?q3 ?q4 ?q5 ?q6 ?q7 ?q8 ?_)
    case q1 => k_asm
    case q2 => k_asm
    case q3 => k_asm
    case q4 => k_asm
    case q5 => k_asm
    case q6 => exact rfl
    case q7 => ktr_room
    case q8 => ktr_units
    case qL => exact hM1.mono fun _ hp => by (repeat (first | exact hp | apply List.mem_cons_of_mem))
    intro r7 h7 tk7 tl7 F7 N7 ho7 hP7
    obtain ⟨e5, t7, e6⟩ := hP7
    subst e5 e6
    rw [List.nil_append] at N7
    try dsimp only
    try k_fold
    k_steps
    unfold Stop
    k_dflt (refine' Does.use (ilevel w _ _ _ _ _ _ st' (1 + (i : Int)) _ ?qL hl2 (wd_one i).1 hi2) ?q1 ?q2 ?q3 ?q4 ?q5 ?q6 ?q7 ?q8 ?_)
    case q1 => k_asm
    case q2 => k_asm
    case q3 => k_asm
    case q4 => k_asm
    case q5 => k_asm
    case q6 => exact rfl
    case q7 => ktr_room
    case q8 => ktr_units
    case qL => exact hM2.mono fun _ hp => by (repeat (first | exact hp | apply List.mem_cons_of_mem))
    intro r7 h7 tk7 tl7 F7 N7 ho7 hP7
    obtain ⟨e5, t7, e6⟩ := hP7
    subst e5 e6
    rw [List.nil_append] at N7
    try dsimp only
    try k_fold
    k_steps
    · unfold Stop
      k_dflt (refine' Does.use (ilevel w _ _ _ _ _ _ st (1 + (i : Int)) _ ?qL hl1 (wd_one i).1 hi2) ?q1 ?q2 ?q3 ?q4 ?q5 ?q6 ?q7 ?q8 ?_)
      case q1 => k_asm
      case q2 => k_asm
      case q3 => k_asm
      case q4 => k_asm
      case q5 => k_asm
      case q6 => exact rfl
      case q7 => ktr_room
      case q8 => ktr_units
      case qL => exact hM1.mono fun _ hp => by (repeat (first | exact hp | apply List.mem_cons_of_mem))
      intro r7 h7 tk7 tl7 F7 N7 ho7 hP7
      obtain ⟨e5, t7, e6⟩ := hP7
      subst e5 e6
      rw [List.nil_append] at N7
      try dsimp only
      try k_fold
      k_steps
      unfold Stop
      k_dflt (refine' Does.use (ilevel w _ _ _ _ _ _ st' (1 + (i : Int)) _ ?qL hl2 (wd_one i).1 hi2) ?q1 ?q2 ?q3 ?q4 ?q5 ?q6 ?q7 ?q8 ?_)
      case q1 => k_asm
      case q2 => k_asm
      case q3 => k_asm
      case q4 => k_asm
      case q5 => k_asm
      case q6 => exact rfl
      case q7 => ktr_room
      case q8 => ktr_units
      case qL => exact hM2.mono fun _ hp => by (repeat (first | exact hp | apply List.mem_cons_of_mem))
      intro r7 h7 tk7 tl7 F7 N7 ho7 hP7
      obtain ⟨e5, t7, e6⟩ := hP7
      subst e5 e6
      rw [List.nil_append] at N7
      try dsimp only
      try k_fold
      k_steps
      unfold Stop
      rename Fr _ _ _ _ => F7
      rename News _ _ _ _ => N7
      obtain ⟨D9, e9⟩ := news_name N7
      subst e9
      try simp only [List.push_toArray] at N7
      have hord : (I < D9) ∧ (cl' < D9) ∧ AllLt D9 rest := by assumption
      have hIn : @LT.lt Nat _ I D9 := hord.1
      have hln : @LT.lt Nat _ cl' D9 := hord.2.1
      have hpn : Pnl st st' i = true := decide_eq_true (by omega)
      subst hrest
      refine MyEnd.intro ⟨cl', cvs ++ [.ref D9], _, (D9, _) :: ctl⟩ F7 N7 (by kst_all) (by k_mem) mem_swap3 (List.forall_mem_cons.mpr ⟨hoI, List.forall_mem_cons.mpr ⟨Nat.ne_of_gt hIn, hoR⟩⟩) (by kst_same) ⟨?_, List.forall_mem_cons.mpr ⟨hln, hG⟩, hA', ?_⟩
      · rw [rnl_yes hpn]
        exact (hT.mono fun p hp => List.mem_cons_of_mem _ hp).snoc List.mem_cons_self
      · dsimp only
        rw [List.length_append, List.length_singleton]
        omega
    · unfold Stop
      rename Fr _ _ _ _ => F7
      rename News _ _ _ _ => N7
      have hpn : Pnl st st' i = false := decide_eq_false (by omega)
      subst hrest
      refine MyEnd.intro ⟨cl', cvs, cep, ctl⟩ F7 N7 (by kst_all) (by k_mem) (fun p hp => List.mem_cons_of_mem _ hp) (List.forall_mem_cons.mpr ⟨hoI, hoR⟩) (by kst_same) ⟨?_, hG, hA', Nat.le_succ_of_le hci⟩
      rw [rnl_no hpn]
      exact hT
  · subst hm9
    intro c u h9 tk9 hP F9 N9
    obtain ⟨cl', cvs, cep, ctl⟩ := c
    obtain ⟨hT, hG, hA', hci⟩ := hP
    dsimp only at hT hG hA' hci F9 N9
    dsimp only [kstB] at F9
    k_steps
    rename Fr h₀ _ _ _ => F7
    rename News h₀ _ _ _ => N7
    refine hret _ _ _ ((_, W.listOf cvs.toArray cep) :: ctl) F7 N7 (fun q hq p hp => ?_) ⟨_, _, _, rfl, wd_fin hlo1 hlo2 hci, List.mem_cons_self, hT.mono fun p hp => List.mem_cons_of_mem _ hp⟩
    have hq1 := ktn_ltOf hA' q hq
    rcases List.mem_cons.mp hp with rfl | hp
    · exact hq1
    · exact Nat.lt_trans hq1 (hG p hp)
end Mine
end

section
open PySem PySem.W PyProof.Rows
namespace Mine
noncomputable def rowS (n : Int) : Str := Txt.mul (Str.ofString " ") n ++ Str.ofString "\t"
noncomputable def rowsOf (n : Nat) : Nat → List Int → List Str
  | _, [] => []
  | i, k :: r => List.replicate (k - 65).toNat (rowS ((n : Int) - 1 - (i : Int))) ++ rowsOf n (i + 1) r
theorem rowsOf_snoc (n : Nat) (k : Int) : ∀ (pre : List Int) (i : Nat), rowsOf n i (pre ++ [k]) = rowsOf n i pre ++ List.replicate (k - 65).toNat (rowS ((n : Int) - 1 - ((i + pre.length : Nat) : Int)))
  | [], i => by simp [rowsOf]
  | c :: r, i => by
    rw [List.cons_append, rowsOf, rowsOf, rowsOf_snoc n k r (i + 1), List.append_assoc, List.length_cons]
    rw [show i + 1 + r.length = i + (r.length + 1) by omega]
theorem rep_flat {α : Type} (k : Nat) (x : α) : (List.replicate k [x]).flatten = List.replicate k x := by
  induction k with
  | zero => rfl
  | succ k ih => rw [List.replicate_succ, List.flatten_cons, ih, List.replicate_succ]; rfl
theorem strs_app {vs ws : List Value} {a b : List Str} (h : StrsAre vs a) (h' : StrsAre ws b) : StrsAre (vs ++ ws) (a ++ b) := by
  induction h with
  | nil => exact h'
  | cons x t _ ih => exact .cons x t ih
theorem strs_rep (x : Str) (t : Tok) : ∀ k : Nat, StrsAre (List.replicate k (Value.str x t)) (List.replicate k x)
  | 0 => .nil
  | k + 1 => .cons x t (strs_rep x t k)
theorem news_tail2b {h₀ h : Heap} {L : Addr} {a b : Addr × Obj} {r : List (Addr × Obj)} (N : News h₀ L h (a :: b :: r)) : News h₀ L h (a :: r) := fun p hp => N p (by
  rcases List.mem_cons.mp hp with h | h
  · exact h ▸ .head _
  · exact .tail _ (.tail _ h))
structure RoC where
  l : Addr
  vs : List Value
  ep : Nat
set_option maxRecDepth 100000 in
set_option maxHeartbeats 8000000 in
theorem lawrows (w : World) (loose : List Str) (mean : ExcName → Option Value) (mg mb : Str → Option Value) (news : List (Addr × Obj)) (b : Array UInt8) (tb : Tok)
    (hb : (KBw.bInts b).length ≤ 5) (hr : ∀ c ∈ KBw.bInts b, 65 ≤ c ∧ c ≤ 80) :
    Does PySem.Challenge.rw_pg0153_01.row.prog w (hd.heap_39 w.params) hd.view_39 loose mean mg mb (.ref 94) [.bytes b tb] 8 60 news
      (fun tl r => ∃ l vs ep, tl = [(l, W.listOf vs.toArray ep)] ∧ r = .ref l ∧ StrsAre vs (rowsOf (KBw.bInts b).length 0 (KBw.bInts b))) := by
  k_fill
  intro dp un gd cn cs' a ccd cl outer A₀ base h₀ L m s Q E B F X N T hk hdp hun hret
  refine wpAny_call ?_
  k_dflt cell_enter
  k_steps
  unfold Stop
  rename Fr _ _ _ _ => F8
  (with_unfolding_all refine' For_turns F8 ?_; k_whole)
  k_steps
  unfold Stop
  have hA : AllLt _ news := allLt_of (by assumption)
  rename Fr _ _ _ _ => F9
  rename News _ _ _ _ => N9
  obtain ⟨m9, hm9, F9⟩ := fr_gen F9
  with_unfolding_all
   refine' enum_bytes (σ := RoC) (fun c => (c.l, W.listOf c.vs.toArray c.ep) :: news) (fun c => [(Str.ofString "rows", .ref c.l)]) [Str.ofString "place", Str.ofString "letter"] (fun pre c => StrsAre c.vs (rowsOf (KBw.bInts b).length 0 pre) ∧ AllLt c.l news ∧ c.vs.length ≤ 15 * pre.length) ⟨_, [], _⟩ (by rfl) F9 N9 ?hk ?hp ?_ ?_
  case hk => exact List.forall_mem_cons.mpr ⟨by rw [hm9]; rfl, List.forall_mem_nil _⟩
  case hp => exact ⟨.nil, hA, Nat.le_refl _⟩
  · subst hm9
    intro e it c pre post ch T9 tT tC u h9 tk9 oe oi hlt he hsplit hP hoff hT F9 N9
    obtain ⟨vl, vvs, vep⟩ := c
    obtain ⟨hS, hA', hvl⟩ := hP
    have hpre : pre.length ≤ 4 := by
      have := congrArg List.length hsplit
      rw [List.length_append, List.length_cons] at this
      omega
    have hch : 65 ≤ ch ∧ ch ≤ 80 := hr ch (hsplit ▸ List.mem_append_right _ (.head _))
    have h15 : (ch - 65).toNat ≤ 15 := Int.toNat_le.mpr (Int.sub_le_sub_right hch.2 65)
    dsimp only at hS hA' hvl F9 N9 hoff
    dsimp only [kstB] at F9
    have hAi := allLt_of hlt
    have hlen : (KBw.bInts b).length - 1 - pre.length ≤ 5 := by omega
    k_steps
    unfold Stop
    refine' KBw.len_K (ks := KBw.bInts _) rfl ?z9 ?_
    case z9 => omega
    k_steps
    unfold Stop
    rename Fr _ _ _ _ => F7
    rename News _ _ _ _ => N7
    refine KMa.mul F7 N7 (News.isList N7 List.mem_cons_self) (by omega) (by omega) (by simp; omega) (rep_flat _ _) ?_
    intro D9 h9 F8 N8 hD9
    have gD9 : @Ne Nat D9 vl := Nat.ne_of_gt (hD9 (vl, W.listOf vvs.toArray vep) (.tail _ (.tail _ (.tail _ (.head _)))))
    have N8 := news_tail2b N8
    k_steps
    unfold Stop
    rename Fr _ _ _ _ => F7
    rename News _ _ _ _ => N7
    refine iadd_my (pre := [_, _, _]) F7 N7 List.mem_cons_self (List.forall_mem_cons.mpr ⟨gD9, List.forall_mem_cons.mpr ⟨Ne.symm (hoff _ List.mem_cons_self).1, List.forall_mem_cons.mpr ⟨Ne.symm (hoff _ List.mem_cons_self).2, List.forall_mem_nil _⟩⟩⟩) (fun p hp => Nat.ne_of_lt (ktn_ltOf hA' p hp)) (by simp; exact Nat.le_trans (Nat.add_le_add hvl h15) (Nat.le_trans (Nat.add_le_add_right (Nat.mul_le_mul_left 15 hpre) 15) (by decide))) ?_
    intro h10 ep10 F10 N10
    simp only [List.cons_append, List.nil_append, List.append_toArray] at N10
    k_steps
    unfold Stop
    rename Fr _ _ _ _ => F7
    rename News _ _ _ _ => N7
    refine EnEnd.intro ⟨vl, _, _⟩ F7 N7 (by kst_all) (by k_mem) (by k_mem) (fun p hp => .tail _ (.tail _ (.tail _ hp))) (List.forall_mem_cons.mpr ⟨hoff (vl, W.listOf vvs.toArray vep) List.mem_cons_self, fun p hp => hoff p (List.mem_cons_of_mem _ hp)⟩) (by kst_same) ⟨?_, hA', ?_⟩
    · rw [rowsOf_snoc, Nat.zero_add]
      exact strs_app hS (strs_rep _ _ _)
    · dsimp only
      rw [List.length_append, List.length_append, List.length_replicate, List.length_singleton]
      exact Nat.add_le_add hvl h15
  · subst hm9
    intro c u h9 tk9 hP F9 N9
    obtain ⟨vl, vvs, vep⟩ := c
    obtain ⟨hS, hA', hvl⟩ := hP
    dsimp only at hS hA' F9 N9
    dsimp only [kstB] at F9
    k_steps
    rename Fr h₀ _ _ _ => F7
    rename News h₀ _ _ _ => N7
    exact hret _ _ _ [(vl, _)] F7 N7 (fun q hq p hp => by rw [List.mem_singleton.mp hp]; exact ktn_ltOf hA' q hq) ⟨_, _, _, rfl, rfl, hS⟩
end Mine
end

section
open PySem PySem.W PyProof.Rows
namespace Mine
noncomputable def takeOne (size : Int) (place : Nat) (times : Int) : Int := times * size * (16 * ((place : Int).fdiv size + 1) - (((place : Int) + 1).fdiv size + 1))
noncomputable def takeAcc (size : Int) (cs : List Int) : Nat → Int
  | 0 => 0
  | i + 1 => takeAcc size cs i + takeOne size i (cs.getD i 0)
structure TaC where
  tk : Int
  t : Tok
set_option maxRecDepth 100000 in
set_option maxHeartbeats 8000000 in
theorem lawtaken (w : World) (loose : List Str) (mean : ExcName → Option Value) (mg mb : Str → Option Value) (news : List (Addr × Obj)) (l : Addr) (vs : List Value) (ep : Nat) (cs : List Int) (size : Int) (t : Tok)
    (hm : (l, W.listOf vs.toArray ep) ∈ news) (hI : IntsAre vs cs) (hl : cs.length = 4) (hc : ∀ c ∈ cs, 0 ≤ c ∧ c ≤ 3) (h1 : 1 ≤ size) (h2 : size ≤ 16) :
    Does PySem.Challenge.rw_pg0153_01.row.prog w (hd.heap_39 w.params) hd.view_39 loose mean mg mb (.ref 106) [.ref l, .int size t] 8 60 news
      (fun tl r => tl = [] ∧ ∃ t', r = .int (takeAcc size cs 4) t') := by
  k_fill
  intro dp un gd cn cs' a ccd cl outer A₀ base h₀ L m s Q E B F X N T hk hdp hun hret
  refine wpAny_call ?_
  k_dflt cell_enter
  k_steps
  unfold Stop
  rename Fr _ _ _ _ => F8
  (with_unfolding_all refine' For_turns F8 ?_; k_whole)
  k_steps
  unfold Stop
  rename Fr _ _ _ _ => F9
  rename News _ _ _ _ => N9
  obtain ⟨m9, hm9, F9⟩ := fr_gen F9
  obtain ⟨t0, ht0⟩ : ∃ t, m9 (Str.ofString "taken") = some (.int 0 t) := ⟨_, by rw [hm9]; rfl⟩
  with_unfolding_all
   refine' enum_list (σ := TaC) (its := vs.toArray) (ep := ep) (fun _ => news) (fun c => [(Str.ofString "taken", .int c.tk c.t)]) [Str.ofString "place", Str.ofString "times"] (fun i c => c.tk = takeAcc size cs i) ⟨0, t0⟩ (by rfl) (fun _ => hm) F9 N9 ?hk rfl ?_ ?_
  case hk => exact List.forall_mem_cons.mpr ⟨ht0, List.forall_mem_nil _⟩
  · subst hm9
    intro e it c i v T9 tT u h9 tk9 oe oi hlt he hi hv hP hoff hT F9 N9
    obtain ⟨tk, t1⟩ := c
    dsimp only at hP F9 N9
    dsimp only [kstB] at F9
    rw [List.size_toArray, hI.length, hl] at hi
    have hlt2 : i < cs.length := by omega
    have hgi : cs.getD i 0 = cs[i] := by simp [List.getD_eq_getElem?_getD, hlt2]
    obtain ⟨tv, rfl⟩ : ∃ t, v = .int (cs.getD i 0) t := by
      obtain ⟨t, hx⟩ := hI.get i cs[i] (by simp [hlt2])
      have hv' : vs[i]? = some v := by simpa using hv
      rw [hx] at hv'
      exact ⟨t, by rw [hgi]; exact (Option.some.inj hv').symm⟩
    have hg := hc _ (List.getElem_mem hlt2)
    rw [← hgi] at hg
    have hstep : takeAcc size cs (i + 1) = takeAcc size cs i + takeOne size i (cs.getD i 0) := rfl
    generalize cs.getD i 0 = g at *
    clear hgi hv
    k_steps
    unfold Stop
    refine mul_int ?_ (mul_ok_left (by omega))
    have a1 : g * size ≤ 3 * 16 := Int.mul_le_mul (by omega) (by omega) (by omega) (by omega)
    have a2 : 0 ≤ g * size := Int.mul_nonneg (by omega) (by omega)
    generalize hA : g * size = A at *
    k_steps
    unfold Stop
    refine mul_int ?_ (mul_ok_left (by omega))
    k_steps
    unfold Stop
    refine mul_int ?_ (mul_ok_left (by omega))
    k_steps
    unfold Stop
    rename Fr _ _ _ _ => F7
    rename News _ _ _ _ => N7
    refine EnEnd.intro ⟨_, _⟩ F7 N7 (by kst_all) (by k_mem) (by k_mem) (fun p hp => List.mem_cons_of_mem _ (List.mem_cons_of_mem _ hp)) hoff (by kst_same) ?_
    dsimp only
    rw [hP, hstep]
    unfold takeOne
    rw [hA]
  · subst hm9
    intro c u h9 tk9 hP F9 N9
    obtain ⟨tk, t1⟩ := c
    dsimp only at hP F9 N9
    dsimp only [kstB] at F9
    k_steps
    rename Fr h₀ _ _ _ => F7
    rename News h₀ _ _ _ => N7
    rw [List.size_toArray, hI.length, hl] at hP
    subst hP
    exact hret _ _ _ [] F7 N7 (fun _ _ _ h => nomatch h) ⟨rfl, _, rfl⟩
end Mine
end

end

section
open PySem PySem.W PyProof.Rows
namespace Mine
noncomputable def posL : List Int → List Nat
  | [] => []
  | k :: r => List.replicate (k - 65).toNat r.length ++ posL r
theorem posL_skip (z : Nat) (ks : List Int) : posL (List.replicate z 65 ++ ks) = posL ks := by
  induction z with
  | zero => rfl
  | succ z ih => rw [List.replicate_succ, List.cons_append, posL, ih]; rfl
theorem posL_app : ∀ (a b : List Int), posL (a ++ b) = (posL a).map (· + b.length) ++ posL b
  | [], b => rfl
  | k :: r, b => by
    rw [List.cons_append, posL, posL, posL_app r b, List.map_append, List.map_replicate, List.length_append, List.append_assoc]
theorem posL_lt : ∀ (ks : List Int), ∀ r ∈ posL ks, r < ks.length
  | [], r, h => nomatch h
  | k :: q, r, h => by
    rw [posL] at h
    rw [List.length_cons]
    rcases List.mem_append.mp h with h | h
    · rw [List.eq_of_mem_replicate h]; omega
    · have := posL_lt q r h; omega
noncomputable def rsum (f : Nat → Int) (rows : List Nat) : Int := (rows.map f).sum
theorem rsum_app (f : Nat → Int) (a b : List Nat) : rsum f (a ++ b) = rsum f a + rsum f b := by simp [rsum]
theorem rsum_rep (f : Nat → Int) (n r : Nat) : rsum f (List.replicate n r) = (n : Int) * f r := by
  induction n with
  | zero => simp [rsum]
  | succ n ih =>
    have e : rsum f (List.replicate (n + 1) r) = f r + rsum f (List.replicate n r) := by simp [rsum, List.replicate_succ]
    rw [e, ih]
    push_cast
    rw [Int.add_mul, Int.one_mul, Int.add_comm]
theorem rsum_map (f : Nat → Int) (g : Nat → Nat) (a : List Nat) : rsum f (a.map g) = rsum (fun r => f (g r)) a := by simp [rsum, List.map_map, Function.comp_def]
theorem rsum_add (f g : Nat → Int) (a : List Nat) : rsum (fun r => f r + g r) a = rsum f a + rsum g a := by
  induction a with
  | nil => rfl
  | cons x r ih =>
    have e : ∀ h : Nat → Int, rsum h (x :: r) = h x + rsum h r := fun h => rfl
    rw [e, e, e, ih]; omega
theorem rsum_congr {f g : Nat → Int} {a : List Nat} (h : ∀ r ∈ a, f r = g r) : rsum f a = rsum g a := congrArg List.sum (List.map_congr_left h)
theorem rsum_digs (f : Nat → Int) (n : Nat) : ∀ q, rsum f (posL (digs n q)) = (List.map (fun p => ((q / 16 ^ p % 16 : Nat) : Int) * f p) (List.range n)).sum := by
  induction n generalizing f with
  | zero => intro q; rfl
  | succ n ih =>
    intro q
    rw [digs, posL_app, rsum_app, rsum_map, ih (fun r => f (r + [65 + ((q % 16 : Nat) : Int)].length))]
    have e : posL [65 + ((q % 16 : Nat) : Int)] = List.replicate (q % 16) 0 := by
      rw [posL]
      have : (65 + ((q % 16 : Nat) : Int) - 65).toNat = q % 16 := by rw [Int.add_comm, Int.add_sub_cancel]; rfl
      rw [this]; simp [posL]
    rw [e, rsum_rep, List.range_succ_eq_map, List.map_cons, List.sum_cons, List.map_map, Int.add_comm]
    congr 1
    · rw [Nat.pow_zero, Nat.div_one]
    · congr 1
      refine List.map_congr_left fun p _ => ?_
      show ((q / 16 / 16 ^ p % 16 : Nat) : Int) * f (p + 1) = ((q / 16 ^ (p + 1) % 16 : Nat) : Int) * f (p + 1)
      rw [Nat.div_div_eq_div_mul, Nat.pow_succ, Nat.mul_comm 16]
theorem posL_ap (n : Nat) (h : n < 16 ^ 5) : posL (apL n) = posL (digs 5 n) := by
  rw [← apL_digs 5 n h, posL_skip]
theorem rsum_ap (f : Nat → Int) (n : Nat) (h : n < 16 ^ 5) : rsum f (posL (apL n)) = ((n % 16 : Nat) : Int) * f 0 + (((n / 16 % 16 : Nat) : Int) * f 1 + (((n / 256 % 16 : Nat) : Int) * f 2 + (((n / 4096 % 16 : Nat) : Int) * f 3 + (((n / 65536 % 16 : Nat) : Int) * f 4 + 0)))) := by
  rw [posL_ap n h, rsum_digs]
  have e : List.map (fun p => ((n / 16 ^ p % 16 : Nat) : Int) * f p) (List.range 5) = [((n / 16 ^ 0 % 16 : Nat) : Int) * f 0, ((n / 16 ^ 1 % 16 : Nat) : Int) * f 1, ((n / 16 ^ 2 % 16 : Nat) : Int) * f 2, ((n / 16 ^ 3 % 16 : Nat) : Int) * f 3, ((n / 16 ^ 4 % 16 : Nat) : Int) * f 4] := rfl
  rw [e]
  simp only [List.sum_cons, List.sum_nil, Nat.pow_zero, Nat.div_one, Nat.pow_one, show 16 ^ 2 = 256 by decide, show 16 ^ 3 = 4096 by decide, show 16 ^ 4 = 65536 by decide]
noncomputable def carryN (a b c p : Nat) : Nat := (a % 16 ^ (p + 1) + b % 16 ^ (p + 1) + c % 16 ^ (p + 1)) / 16 ^ (p + 1)
theorem place0 (a b c : Nat) : a % 16 + b % 16 + c % 16 = (a + b + c) % 16 + 16 * carryN a b c 0 := by
  show _ = (a + b + c) % 16 + 16 * ((a % 16 + b % 16 + c % 16) / 16)
  rw [Nat.add_mod (a + b) c, Nat.add_mod a b, Nat.mod_add_mod, ← Nat.add_mod_mod ((a % 16 + b % 16)) (c % 16), Nat.mod_mod, Nat.mod_add_div]
theorem carry_next (a b c p : Nat) : carryN a b c (p + 1) = (a / 16 ^ (p + 1) % 16 + b / 16 ^ (p + 1) % 16 + c / 16 ^ (p + 1) % 16 + carryN a b c p) / 16 := by
  unfold carryN
  have hM : 0 < 16 ^ (p + 1) := Nat.pos_of_ne_zero (by simp)
  rw [Nat.mod_pow_succ (x := a), Nat.mod_pow_succ (x := b), Nat.mod_pow_succ (x := c), Nat.pow_succ 16 (p + 1)]
  generalize 16 ^ (p + 1) = M at *
  generalize a / M % 16 = x
  generalize b / M % 16 = y
  generalize c / M % 16 = z
  have e : a % M + M * x + (b % M + M * y) + (c % M + M * z) = (a % M + b % M + c % M) + M * (x + y + z) := by
    rw [Nat.mul_add, Nat.mul_add]; omega
  rw [e, ← Nat.div_div_eq_div_mul, Nat.add_mul_div_left _ _ hM, Nat.add_comm]
theorem mod16 (x y z w : Nat) : (x + y + z + w) % 16 = (x % 16 + y % 16 + z % 16 + w) % 16 := by
  rw [Nat.add_assoc (x % 16 + y % 16), Nat.add_assoc (x % 16), Nat.mod_add_mod, Nat.add_left_comm, Nat.mod_add_mod, Nat.add_left_comm x, Nat.add_left_comm y, Nat.mod_add_mod, Nat.add_left_comm y, Nat.add_left_comm z, Nat.add_left_comm z, Nat.add_assoc, Nat.add_assoc]
theorem digit_sum (a b c p : Nat) : (a + b + c) / 16 ^ (p + 1) % 16 = (a / 16 ^ (p + 1) % 16 + b / 16 ^ (p + 1) % 16 + c / 16 ^ (p + 1) % 16 + carryN a b c p) % 16 := by
  unfold carryN
  have hM : 0 < 16 ^ (p + 1) := Nat.pos_of_ne_zero (by simp)
  generalize 16 ^ (p + 1) = M at *
  have ea := Nat.div_add_mod a M
  have eb := Nat.div_add_mod b M
  have ec := Nat.div_add_mod c M
  have e : a + b + c = M * (a / M + b / M + c / M) + (a % M + b % M + c % M) := by
    rw [Nat.mul_add, Nat.mul_add, Nat.add_add_add_comm, Nat.add_add_add_comm (M * (a / M)), ea, eb, ec]
  rw [e, Nat.mul_add_div hM]
  exact mod16 _ _ _ _
theorem place (a b c p : Nat) : a / 16 ^ (p + 1) % 16 + b / 16 ^ (p + 1) % 16 + c / 16 ^ (p + 1) % 16 + carryN a b c p = (a + b + c) / 16 ^ (p + 1) % 16 + 16 * carryN a b c (p + 1) := by
  rw [carry_next, digit_sum]
  exact (Nat.mod_add_div _ _).symm
theorem place4 {a b c : Nat} (ha : a < 65536) (hb : b < 65536) (hc : c < 65536) : carryN a b c 3 = (a + b + c) / 65536 % 16 := by
  show (a % 65536 + b % 65536 + c % 65536) / 65536 = _
  rw [Nat.mod_eq_of_lt ha, Nat.mod_eq_of_lt hb, Nat.mod_eq_of_lt hc]
  exact (Nat.mod_eq_of_lt (Nat.div_lt_of_lt_mul (Nat.lt_of_lt_of_le (Nat.add_lt_add (Nat.add_lt_add ha hb) hc) (by decide)))).symm
theorem carry_le (a b c p : Nat) : carryN a b c p ≤ 2 := by
  unfold carryN
  have hM : 0 < 16 ^ (p + 1) := Nat.pos_of_ne_zero (by simp)
  have ea := Nat.mod_lt a hM
  have eb := Nat.mod_lt b hM
  have ec := Nat.mod_lt c hM
  have : (a % 16 ^ (p + 1) + b % 16 ^ (p + 1) + c % 16 ^ (p + 1)) / 16 ^ (p + 1) < 3 := (Nat.div_lt_iff_lt_mul hM).mpr (by omega)
  omega
noncomputable def takenW (f : Nat → Int) (c0 c1 c2 c3 : Nat) : Int := (c0 : Int) * (16 * f 0 - f 1) + ((c1 : Int) * (16 * f 1 - f 2) + ((c2 : Int) * (16 * f 2 - f 3) + (c3 : Int) * (16 * f 3 - f 4)))
theorem col_eq {a b c d k k' : Nat} (f : Int) (h : a + b + c + k' = d + 16 * k) : (a : Int) * f + (b : Int) * f + (c : Int) * f + (k' : Int) * f = (d : Int) * f + 16 * ((k : Int) * f) := by
  have e : ((a : Int) + b + c + k') * f = ((d : Int) + 16 * k) * f := by
    congr 1
    omega
  rw [Int.add_mul, Int.add_mul, Int.add_mul, Int.add_mul, Int.mul_assoc] at e
  exact e
theorem sixteen (k : Nat) (f g : Int) : (k : Int) * (16 * f - g) = 16 * ((k : Int) * f) - (k : Int) * g := by
  rw [Int.mul_sub, Int.mul_left_comm]
theorem lin_one {a b c d k m n A B C D V : Int} (e : a + b + c + k = d + 16 * m) (r : A + B + C + n = D + V) : a + A + (b + B) + (c + C) + k = d + D + (16 * m - n + V) := by omega
theorem lin_end {A0 A1 A2 A3 B0 B1 B2 B3 C0 C1 C2 C3 D0 D1 D2 D3 K00 K01 K11 K12 K22 K23 K33 K34 : Int} (e0 : A0 + B0 + C0 = D0 + 16 * K00) (e1 : A1 + B1 + C1 + K01 = D1 + 16 * K11) (e2 : A2 + B2 + C2 + K12 = D2 + 16 * K22) (e3 : A3 + B3 + C3 + K23 = D3 + 16 * K33) :
    A0 + (A1 + (A2 + A3)) + (B0 + (B1 + (B2 + B3))) + (C0 + (C1 + (C2 + C3))) = D0 + (D1 + (D2 + (D3 + K34))) + (16 * K00 - K01 + (16 * K11 - K12 + (16 * K22 - K23 + (16 * K33 - K34)))) :=
  (Int.add_zero _).symm.trans (lin_one ((Int.add_zero _).trans e0) (lin_one e1 (lin_one e2 (e3.trans (by omega)))))
theorem sum_rows (f : Nat → Int) {a b c : Nat} (ha : a < 65536) (hb : b < 65536) (hc : c < 65536) :
    rsum f (posL (apL a)) + rsum f (posL (apL b)) + rsum f (posL (apL c)) = rsum f (posL (apL (a + b + c))) + takenW f (carryN a b c 0) (carryN a b c 1) (carryN a b c 2) (carryN a b c 3) := by
  rw [rsum_ap f a (by omega), rsum_ap f b (by omega), rsum_ap f c (by omega), rsum_ap f (a + b + c) (by omega)]
  have p0 : a % 16 + b % 16 + c % 16 + 0 = (a + b + c) % 16 + 16 * carryN a b c 0 := place0 a b c
  have p1 : a / 16 % 16 + b / 16 % 16 + c / 16 % 16 + carryN a b c 0 = (a + b + c) / 16 % 16 + 16 * carryN a b c 1 := place a b c 0
  have p2 : a / 256 % 16 + b / 256 % 16 + c / 256 % 16 + carryN a b c 1 = (a + b + c) / 256 % 16 + 16 * carryN a b c 2 := place a b c 1
  have p3 : a / 4096 % 16 + b / 4096 % 16 + c / 4096 % 16 + carryN a b c 2 = (a + b + c) / 4096 % 16 + 16 * carryN a b c 3 := place a b c 2
  have z : ∀ x : Nat, x < 65536 → x / 65536 % 16 = 0 := fun x hx => by rw [Nat.div_eq_of_lt hx]
  rw [z a ha, z b hb, z c hc, ← place4 ha hb hc]
  have e0 := col_eq (f 0) p0
  have e1 := col_eq (f 1) p1
  have e2 := col_eq (f 2) p2
  have e3 := col_eq (f 3) p3
  rw [Int.ofNat_zero, Int.zero_mul, Int.add_zero] at e0
  unfold takenW
  rw [sixteen, sixteen, sixteen, sixteen, Int.ofNat_zero, Int.zero_mul]
  simp only [Int.add_zero]
  exact lin_end e0 e1 e2 e3
end Mine
end

section
open PySem PySem.W PyProof.Rows
namespace Mine
theorem bump_at (i : Nat) (x : Int) (t : List Int) : bump (List.replicate i 0 ++ (x :: t)) i = List.replicate i 0 ++ ((x + 1) :: t) := by
  unfold bump
  have hl : ¬ (List.replicate i (0 : Int) ++ (x :: t)).length ≤ i := by
    rw [List.length_append, List.length_replicate, List.length_cons]; omega
  rw [if_neg hl]
  have hg : (List.replicate i (0 : Int) ++ (x :: t)).getD i 0 = x := by
    rw [List.getD_eq_getElem?_getD, List.getElem?_append_right (by simp)]
    simp
  rw [hg, List.set_append_right _ _ (by simp)]
  simp
theorem bump_many (i : Nat) (t : List Int) : ∀ (d : Nat) (x : Int), (List.replicate d i).foldl bump (List.replicate i 0 ++ (x :: t)) = List.replicate i 0 ++ ((x + d) :: t)
  | 0, x => by simp
  | d + 1, x => by
    rw [List.replicate_succ, List.foldl_cons, bump_at, bump_many i t d (x + 1)]
    rw [show x + 1 + (d : Int) = x + ((d + 1 : Nat) : Int) by omega]
theorem fill_word : ∀ (ks : List Int) (t : List Int), (∀ c ∈ ks, 65 ≤ c) → (posL ks).foldl bump (List.replicate ks.length 0 ++ t) = (ks.reverse.map fun k => k - 65) ++ t
  | [], t, _ => rfl
  | k :: r, t, h => by
    have hk := h k (.head _)
    rw [posL, List.foldl_append, List.length_cons, List.replicate_succ', List.append_assoc, List.singleton_append, bump_many, fill_word r _ fun c hc => h c (.tail _ hc)]
    rw [List.reverse_cons, List.map_append, List.append_assoc]
    rw [show (0 : Int) + ((k - 65).toNat : Int) = k - 65 by omega]
    rfl
theorem hist_word {k : Int} {r : List Int} (h : ∀ c ∈ k :: r, 65 ≤ c) (hk : 65 < k) : hist (posL (k :: r)) = ((k :: r).reverse.map fun k => k - 65) := by
  unfold hist
  obtain ⟨d, hd⟩ : ∃ d : Nat, (k - 65).toNat = d + 1 := Nat.exists_eq_succ_of_ne_zero fun e => Int.not_le.mpr hk (Int.le_of_sub_nonpos (Int.toNat_eq_zero.mp e))
  have e0 : bump [] r.length = List.replicate r.length 0 ++ [1] := by
    unfold bump
    rw [if_pos (show ([] : List Int).length ≤ r.length from Nat.zero_le _), List.nil_append, List.length_nil, Nat.sub_zero, List.replicate_succ']
    have hg : (List.replicate r.length (0 : Int) ++ [0]).getD r.length 0 = 0 := by
      rw [List.getD_eq_getElem?_getD, List.getElem?_append_right (by simp)]
      simp
    rw [hg, List.set_append_right _ _ (by simp)]
    simp
  rw [posL, hd, List.replicate_succ, List.cons_append, List.foldl_cons, e0, List.foldl_append, bump_many, fill_word r _ fun c hc => h c (.tail _ hc), List.reverse_cons, List.map_append]
  congr 1
  simp only [List.map_cons, List.map_nil]
  congr 1
  omega
theorem apL_in : ∀ (n : Nat), ∀ c ∈ apL n, 65 ≤ c ∧ c ≤ 80 := by
  intro n
  induction n using Nat.strongRecOn with
  | ind n ih =>
    intro c hc
    by_cases h0 : n = 0
    · subst h0; rw [apL_zero] at hc; exact nomatch hc
    · rw [apL_pos h0] at hc
      rcases List.mem_append.mp hc with h | h
      · exact ih (n / 16) (by omega) c h
      · rw [List.mem_singleton.mp h]; omega
theorem apL_head : ∀ (n : Nat), n ≠ 0 → ∃ k r, apL n = k :: r ∧ 65 < k := by
  intro n
  induction n using Nat.strongRecOn with
  | ind n ih =>
    intro h0
    rw [apL_pos h0]
    by_cases h1 : n / 16 = 0
    · rw [h1, apL_zero]
      exact ⟨_, _, rfl, by omega⟩
    · obtain ⟨k, r, e, hk⟩ := ih (n / 16) (by omega) h1
      rw [e]
      exact ⟨k, _, rfl, hk⟩
theorem hist_ap (n : Nat) : hist (posL (apL n)) = ((apL n).reverse.map fun k => k - 65) := by
  by_cases h0 : n = 0
  · subst h0; rw [apL_zero]; rfl
  · obtain ⟨k, r, e, hk⟩ := apL_head n h0
    rw [e]
    exact hist_word (fun c hc => (apL_in n c (e ▸ hc)).1) hk
theorem bump_len' (cs : List Int) (r : Nat) : (bump cs r).length = max cs.length (r + 1) := by
  unfold bump
  by_cases h : cs.length ≤ r
  · rw [if_pos h, List.length_set, List.length_append, List.length_replicate, Nat.add_sub_of_le (Nat.le_succ_of_le h), Nat.max_eq_right (Nat.le_succ_of_le h)]
  · rw [if_neg h, List.length_set]; exact (Nat.max_eq_left (Nat.lt_of_not_le h)).symm
theorem hist_le (rows : List Nat) (m : Nat) : (hist rows).length ≤ m ↔ ∀ r ∈ rows, r < m := by
  unfold hist
  have all : ∀ (rows : List Nat) (cs : List Int), (rows.foldl bump cs).length ≤ m ↔ cs.length ≤ m ∧ ∀ r ∈ rows, r < m := by
    intro rows
    induction rows with
    | nil => intro cs; simp
    | cons r q ih =>
      intro cs
      rw [List.foldl_cons, ih, bump_len', List.forall_mem_cons]
      constructor
      · rintro ⟨h1, h2⟩; exact ⟨by omega, by omega, h2⟩
      · rintro ⟨h1, h2, h3⟩; exact ⟨by omega, h3⟩
  rw [all]
  exact ⟨fun h => h.2, fun h => ⟨Nat.zero_le _, h⟩⟩
noncomputable def ind (q : Nat) (r : Nat) : Int := if r = q then 1 else 0
theorem weigh_ind (q : Nat) : ∀ (cs : List Int) (i : Nat), weigh (ind q) i cs = if i ≤ q then cs.getD (q - i) 0 else 0
  | [], i => by simp [weigh]
  | c :: r, i => by
    rw [weigh, weigh_ind q r (i + 1)]
    unfold ind
    by_cases h : i = q
    · subst h
      rw [if_pos rfl, if_neg (Nat.not_succ_le_self i), if_pos (Nat.le_refl _), Nat.sub_self]
      simp
    · by_cases h2 : i ≤ q
      · rw [if_neg h, if_pos (show i + 1 ≤ q from Nat.lt_of_le_of_ne h2 h), if_pos h2, Int.zero_mul, Int.zero_add, show q - i = (q - (i + 1)) + 1 from (Nat.succ_pred_eq_of_pos (Nat.sub_pos_of_lt (Nat.lt_of_le_of_ne h2 h))).symm, List.getD_cons_succ]
      · rw [if_neg h, if_neg (fun hh => h2 (Nat.le_of_succ_le hh)), if_neg h2]; simp
theorem hist_getD (rows : List Nat) (q : Nat) : (hist rows).getD q 0 = rsum (ind q) rows := by
  have h1 := weigh_hist (ind q) rows
  rw [weigh_ind, if_pos (Nat.zero_le _), Nat.sub_zero] at h1
  exact h1
theorem rsum_ind_pos {q : Nat} : ∀ {rows : List Nat}, 0 ≤ rsum (ind q) rows ∧ (q ∈ rows ↔ 0 < rsum (ind q) rows)
  | [] => by simp [rsum]
  | r :: t => by
    obtain ⟨h1, h2⟩ := rsum_ind_pos (q := q) (rows := t)
    have e : rsum (ind q) (r :: t) = ind q r + rsum (ind q) t := rfl
    rw [e]
    have hi : ind q r = if r = q then 1 else 0 := rfl
    rw [hi]
    by_cases h : r = q
    · rw [if_pos h]
      exact ⟨by omega, ⟨fun _ => by omega, fun _ => h ▸ .head _⟩⟩
    · rw [if_neg h]
      refine ⟨by omega, ⟨fun hm => ?_, fun hp => .tail _ (h2.mpr (by omega))⟩⟩
      rcases List.mem_cons.mp hm with h' | h'
      · exact absurd h'.symm h
      · have := h2.mp h'; omega
theorem hist_ext {a b : List Nat} (h : ∀ f, rsum f a = rsum f b) : hist a = hist b := by
  have le : ∀ {a b : List Nat}, (∀ f, rsum f a = rsum f b) → (hist a).length ≤ (hist b).length := fun {a b} h => by
    rw [hist_le]
    intro r hr
    have h1 := (rsum_ind_pos (q := r)).2.mp hr
    rw [h] at h1
    exact (hist_le b _).mp (Nat.le_refl _) r ((rsum_ind_pos (q := r)).2.mpr h1)
  have hl : (hist a).length = (hist b).length := Nat.le_antisymm (le h) (le fun f => (h f).symm)
  apply List.ext_getElem hl
  intro i h1 h2
  have g1 := hist_getD a i
  have g2 := hist_getD b i
  rw [h, ← g2] at g1
  simpa [List.getD_eq_getElem?_getD, h1, h2] using g1
theorem rsum_turn (f : Nat → Int) (t : Nat) (a : List Nat) : rsum f (a.drop t ++ a.take t) = rsum f a := by
  rw [rsum_app, Int.add_comm, ← rsum_app, List.take_append_drop]
end Mine
end

section
open PySem PySem.W PyProof.Rows
namespace Mine
noncomputable def stR (rows : List Nat) (tr : Nat) : List Int × Int × Int × Int := wsRead (rowsCodes rows ++ List.replicate tr 32)
noncomputable def wk (k r : Nat) : Int := ((r / k : Nat) : Int) + 1
theorem stR_eq (rows : List Nat) (tr : Nat) : stR rows tr = (hist rows, (tr : Int), rsum (wk 1) rows + tr, (rows.length : Int)) := by
  unfold stR
  rw [read_lead]
  congr 3
  unfold rsum wk
  simp only [Nat.div_one]
theorem ilev_stR (rows : List Nat) (tr k : Nat) (hk : 1 ≤ k) : ilev (stR rows tr) (k : Int) = (tr : Int) + (k : Int) * rsum (wk k) rows := by
  rw [stR_eq]
  exact ilev_rows rows (tr : Int) _ k hk
theorem rsum_one (rows : List Nat) : rsum (fun _ => 1) rows = (rows.length : Int) := by
  induction rows with
  | nil => rfl
  | cons x r ih =>
    have e : rsum (fun _ => 1) (x :: r) = 1 + rsum (fun _ => 1) r := rfl
    rw [e, ih, List.length_cons]; omega
theorem sumL_rows : ∀ (ks : List Int), (∀ c ∈ ks, 65 ≤ c) → rsum (fun _ => 1) (posL ks) = sumL ks
  | [], _ => rfl
  | k :: r, h => by
    have hk := h k (.head _)
    have e : sumL (k :: r) = (k - 65) + sumL r := rfl
    rw [posL, rsum_app, rsum_rep, sumL_rows r fun c hc => h c (.tail _ hc), e]
    omega
theorem wk_small {k r : Nat} (h : r < k) : wk k r = 1 := by unfold wk; rw [Nat.div_eq_of_lt h]; rfl
theorem wk_add {k r : Nat} (h : 1 ≤ k) : wk k (r + k) = wk k r + 1 := by
  unfold wk
  rw [Nat.add_div_right _ h]
  push_cast; omega
theorem wk_cut {k : Nat} (hk : 1 ≤ k) (ks : List Int) (h : ∀ c ∈ ks, 65 ≤ c) : rsum (wk k) (posL ks) = sumL ks + rsum (wk k) (posL (ks.take (ks.length - k))) := by
  obtain ⟨a, ha⟩ : ∃ a, a = ks.take (ks.length - k) := ⟨_, rfl⟩
  obtain ⟨b, hb⟩ : ∃ b, b = ks.drop (ks.length - k) := ⟨_, rfl⟩
  have e : ks = a ++ b := by rw [ha, hb, List.take_append_drop]
  have hbl : b.length ≤ k := by rw [hb, List.length_drop]; omega
  have hb1 : rsum (wk k) (posL b) = rsum (fun _ => 1) (posL b) := rsum_congr fun r hr => wk_small (Nat.lt_of_lt_of_le (posL_lt b r hr) hbl)
  have ha1 : rsum (fun r => wk k (r + b.length)) (posL a) = rsum (wk k) (posL a) + rsum (fun _ => 1) (posL a) := by
    rw [← rsum_add]
    refine rsum_congr fun r hr => ?_
    by_cases hl : k ≤ ks.length
    · have : b.length = k := by rw [hb, List.length_drop]; exact Nat.sub_sub_self hl
      rw [this, wk_add hk]
    · have : a = [] := by rw [ha, show ks.length - k = 0 by omega]; rfl
      rw [this] at hr
      exact nomatch hr
  have hs : sumL ks = rsum (fun _ => 1) (posL a) + rsum (fun _ => 1) (posL b) := by
    rw [← sumL_rows ks h, e, posL_app, rsum_app, rsum_map]
  rw [← ha, hs]
  rw [e, posL_app, rsum_app, rsum_map, ha1, hb1]
  omega
theorem colW_rows {k : Nat} (hk : 1 ≤ k) : ∀ (n : Nat) (ks : List Int), ks.length ≤ n → (∀ c ∈ ks, 65 ≤ c) → colW k ks = (k : Int) * rsum (wk k) (posL ks)
  | 0, ks, hl, _ => by
    have : ks = [] := List.length_eq_zero_iff.mp (by omega)
    subst this; rw [colW_nil]; simp [posL, rsum]
  | n + 1, ks, hl, h => by
    by_cases h0 : ks = []
    · subst h0; rw [colW_nil]; simp [posL, rsum]
    · have hlen : 1 ≤ ks.length := Nat.pos_of_ne_zero fun e => h0 (List.length_eq_zero_iff.mp e)
      rw [colW_step h0 hk, wk_cut hk ks h, Int.mul_add, colW_rows hk n (ks.take (ks.length - k)) (by rw [List.length_take]; omega) fun c hc => h c (List.mem_of_mem_take hc)]
theorem take_eq {k : Nat} (hk : 1 ≤ k) (c0 c1 c2 c3 : Nat) : takeAcc (k : Int) [(c0 : Int), (c1 : Int), (c2 : Int), (c3 : Int)] 4 = (k : Int) * takenW (wk k) c0 c1 c2 c3 := by
  have one : ∀ (p : Nat) (t : Int), takeOne (k : Int) p t = (k : Int) * (t * (16 * wk k p - wk k (p + 1))) := by
    intro p t
    unfold takeOne wk
    have e1 : ((p : Nat) : Int).fdiv (k : Int) = ((p / k : Nat) : Int) := by rw [Int.fdiv_eq_ediv_of_nonneg _ (by omega), Int.natCast_ediv]
    have e2 : ((p : Int) + 1).fdiv (k : Int) = (((p + 1) / k : Nat) : Int) := by rw [Int.fdiv_eq_ediv_of_nonneg _ (by omega)]; norm_cast
    rw [e1, e2, Int.mul_comm t, Int.mul_assoc]
  have e : takeAcc (k : Int) [(c0 : Int), (c1 : Int), (c2 : Int), (c3 : Int)] 4 = 0 + takeOne (k : Int) 0 c0 + takeOne (k : Int) 1 c1 + takeOne (k : Int) 2 c2 + takeOne (k : Int) 3 c3 := rfl
  rw [e, one, one, one, one]
  simp only [show 0 + 1 = 1 from rfl, show 1 + 1 = 2 from rfl, show 2 + 1 = 3 from rfl, show 3 + 1 = 4 from rfl]
  unfold takenW
  rw [Int.mul_add, Int.mul_add, Int.mul_add]
  omega
theorem wk_gap {k p : Nat} (hk : 1 ≤ k) : 1 ≤ 16 * wk k p - wk k (p + 1) := by
  unfold wk
  have h : (p + 1) / k ≤ p / k + 1 := by
    have := Nat.div_le_div_right (c := k) (show p + 1 ≤ p + k by omega)
    rwa [Nat.add_div_right _ hk] at this
  generalize (p + 1) / k = x at *
  generalize p / k = y at *
  omega
theorem taken_nonneg {f : Nat → Int} (hf : ∀ p, 1 ≤ 16 * f p - f (p + 1)) (c0 c1 c2 c3 : Nat) : (c0 : Int) + c1 + c2 + c3 ≤ takenW f c0 c1 c2 c3 := by
  unfold takenW
  have g : ∀ (c : Nat) (x : Int), 1 ≤ x → (c : Int) ≤ (c : Int) * x := fun c x hx => by
    have := Int.mul_le_mul_of_nonneg_left hx (show (0 : Int) ≤ (c : Int) by omega)
    omega
  have g0 : (c0 : Int) ≤ (c0 : Int) * (16 * f 0 - f 1) := g c0 _ (hf 0)
  have g1 : (c1 : Int) ≤ (c1 : Int) * (16 * f 1 - f 2) := g c1 _ (hf 1)
  have g2 : (c2 : Int) ≤ (c2 : Int) * (16 * f 2 - f 3) := g c2 _ (hf 2)
  have g3 : (c3 : Int) ≤ (c3 : Int) * (16 * f 3 - f 4) := g c3 _ (hf 3)
  omega
theorem taken_zero (f : Nat → Int) : takenW f 0 0 0 0 = 0 := by unfold takenW; simp
end Mine
end

section
open PySem PySem.W PyProof.Rows
namespace Mine
section
variable {A B : List Nat} {o c0 c1 c2 c3 : Nat}
theorem pair_n (h : ∀ f, rsum f A = rsum f B + takenW f c0 c1 c2 c3) : (stR A o).2.2.1 = (stR B o).2.2.1 + takenW (wk 1) c0 c1 c2 c3 := by
  rw [stR_eq, stR_eq]
  show rsum (wk 1) A + (o : Int) = rsum (wk 1) B + o + _
  rw [h]; omega
theorem pair_col (h : ∀ f, rsum f A = rsum f B + takenW f c0 c1 c2 c3) {k : Nat} (hk : 1 ≤ k) : ilev (stR A o) (k : Int) = ilev (stR B o) (k : Int) + (k : Int) * takenW (wk k) c0 c1 c2 c3 := by
  rw [ilev_stR _ _ _ hk, ilev_stR _ _ _ hk, h, Int.mul_add]; omega
theorem taken_le {k : Nat} (hk : 1 ≤ k) : (c0 : Int) + c1 + c2 + c3 ≤ takenW (wk k) c0 c1 c2 c3 := taken_nonneg (f := wk k) (fun p => wk_gap hk) c0 c1 c2 c3
theorem pair_le (h : ∀ f, rsum f A = rsum f B + takenW f c0 c1 c2 c3) {k : Nat} (hk : 1 ≤ k) : ilev (stR B o) (k : Int) ≤ ilev (stR A o) (k : Int) := by
  rw [pair_col h hk]
  have := Int.mul_nonneg (show (0 : Int) ≤ (k : Int) by omega) (show 0 ≤ takenW (wk k) c0 c1 c2 c3 by have := taken_le (c0 := c0) (c1 := c1) (c2 := c2) (c3 := c3) hk; omega)
  omega
theorem pair_lt (h : ∀ f, rsum f A = rsum f B + takenW f c0 c1 c2 c3) (hc : 0 < c0 + c1 + c2 + c3) {k : Nat} (hk : 1 ≤ k) : ilev (stR B o) (k : Int) < ilev (stR A o) (k : Int) := by
  rw [pair_col h hk]
  have := Int.mul_pos (show (0 : Int) < (k : Int) by omega) (show 0 < takenW (wk k) c0 c1 c2 c3 by have := taken_le (c0 := c0) (c1 := c1) (c2 := c2) (c3 := c3) hk; omega)
  omega
theorem pair_same (h : ∀ f, rsum f A = rsum f B + takenW f c0 c1 c2 c3) (hc : ¬ 0 < c0 + c1 + c2 + c3) : ∀ f, rsum f A = rsum f B := by
  intro f
  rw [h, show c0 = 0 by omega, show c1 = 0 by omega, show c2 = 0 by omega, show c3 = 0 by omega, taken_zero, Int.add_zero]
theorem pair_more (h : ∀ f, rsum f A = rsum f B + takenW f c0 c1 c2 c3) : (A.length : Int) = (B.length : Int) + 15 * ((c0 : Int) + c1 + c2 + c3) := by
  rw [← rsum_one A, ← rsum_one B, h]
  have e : takenW (fun _ => 1) c0 c1 c2 c3 = 15 * ((c0 : Int) + c1 + c2 + c3) := by
    unfold takenW; dsimp only; omega
  rw [e]
theorem pair_less (h : ∀ f, rsum f A = rsum f B + takenW f c0 c1 c2 c3) : lessB (stR B o) (stR A o) = decide (0 < c0 + c1 + c2 + c3) := by
  have ht := taken_le (c0 := c0) (c1 := c1) (c2 := c2) (c3 := c3) (Nat.le_refl 1)
  have hn := pair_n (o := o) h
  by_cases hc : 0 < c0 + c1 + c2 + c3
  · rw [decide_eq_true hc]
    have hnn : ¬ (stR A o).2.2.1 ≤ (stR B o).2.2.1 := by omega
    by_cases hs : ((stR B o).1.length : Int) ≤ 1 ∧ ((stR A o).1.length : Int) ≤ 1
    · rw [lessB_simple hnn hs.1 hs.2]
      refine decide_eq_true ?_
      have e1 : (stR B o).2.2.2 = (B.length : Int) := by rw [stR_eq]
      have e2 : (stR A o).2.2.2 = (A.length : Int) := by rw [stR_eq]
      rw [e1, e2, pair_more h]; omega
    · refine lessB_all hnn hs fun j _ => ?_
      have e : (2 : Int) + (j : Int) = ((2 + j : Nat) : Int) := by push_cast; rfl
      rw [e]
      exact pair_lt h hc (by omega)
  · rw [decide_eq_false hc]
    have z : takenW (wk 1) c0 c1 c2 c3 = 0 := by rw [show c0 = 0 by omega, show c1 = 0 by omega, show c2 = 0 by omega, show c3 = 0 by omega, taken_zero]
    exact lessB_n (by omega)
theorem pair_not_less (h : ∀ f, rsum f A = rsum f B + takenW f c0 c1 c2 c3) : lessB (stR A o) (stR B o) = false := by
  have ht := taken_le (c0 := c0) (c1 := c1) (c2 := c2) (c3 := c3) (Nat.le_refl 1)
  have hn := pair_n (o := o) h
  exact lessB_n (by omega)
theorem pair_equal (h : ∀ f, rsum f A = rsum f B + takenW f c0 c1 c2 c3) : (decide ((stR B o).1 = (stR A o).1) && decide ((stR B o).2.1 = (stR A o).2.1)) = !decide (0 < c0 + c1 + c2 + c3) := by
  have e1 : (stR B o).1 = hist B := by rw [stR_eq]
  have e2 : (stR A o).1 = hist A := by rw [stR_eq]
  have e3 : (stR B o).2.1 = (stR A o).2.1 := by rw [stR_eq, stR_eq]
  rw [e1, e2, decide_eq_true e3, Bool.and_true]
  by_cases hc : 0 < c0 + c1 + c2 + c3
  · rw [decide_eq_true hc]
    refine decide_eq_false fun he => ?_
    have h1 := weigh_hist (fun _ => 1) A
    have h2 := weigh_hist (fun _ => 1) B
    rw [← he] at h1
    have h3 : rsum (fun _ => 1) A = rsum (fun _ => 1) B := h1.symm.trans h2
    rw [rsum_one, rsum_one, pair_more h] at h3
    omega
  · rw [decide_eq_false hc]
    exact decide_eq_true (hist_ext (pair_same h hc)).symm
noncomputable def tabR (B : List Nat) (o c0 c1 c2 c3 n : Nat) : List (Int × Int × Int) := (List.range n).map fun (j : Nat) => (1 + (j : Int), ilev (stR B o) (1 + (j : Int)) + (1 + (j : Int)) * takenW (wk (1 + j)) c0 c1 c2 c3, ilev (stR B o) (1 + (j : Int)))
theorem one_cast (j : Nat) : 1 + (j : Int) = ((1 + j : Nat) : Int) := by push_cast; rfl
theorem all_true (n : Nat) (p : Nat → Bool) (h : ∀ j, p j = true) : (List.range n).filter p = List.range n := List.filter_eq_self.mpr fun j _ => h j
theorem all_false (n : Nat) (p : Nat → Bool) (h : ∀ j, p j = false) : (List.range n).filter p = [] := List.filter_eq_nil_iff.mpr fun j _ => by rw [h j]; exact Bool.false_ne_true
theorem nl_heap (h : ∀ f, rsum f A = rsum f B + takenW f c0 c1 c2 c3) (n : Nat) : rnl (stR A o) (stR B o) n = tabR B o c0 c1 c2 c3 n := by
  unfold rnl tabR
  rw [all_true n (Pnl (stR A o) (stR B o)) fun j => decide_eq_true (by rw [one_cast]; exact pair_le h (by omega))]
  refine List.map_congr_left fun j _ => ?_
  rw [one_cast, pair_col h (by omega)]
theorem nl_whole (h : ∀ f, rsum f A = rsum f B + takenW f c0 c1 c2 c3) (n : Nat) : rnl (stR B o) (stR A o) n = if 0 < c0 + c1 + c2 + c3 then [] else tabR B o c0 c1 c2 c3 n := by
  by_cases hc : 0 < c0 + c1 + c2 + c3
  · rw [if_pos hc]
    unfold rnl
    rw [all_false n (Pnl (stR B o) (stR A o)) fun j => decide_eq_false (by rw [one_cast]; have := pair_lt (o := o) h hc (show 1 ≤ 1 + j by omega); omega)]
    rfl
  · rw [if_neg hc]
    have z : ∀ k, takenW (wk k) c0 c1 c2 c3 = 0 := fun k => by rw [show c0 = 0 by omega, show c1 = 0 by omega, show c2 = 0 by omega, show c3 = 0 by omega, taken_zero]
    have hcol : ∀ j : Nat, ilev (stR A o) (1 + (j : Int)) = ilev (stR B o) (1 + (j : Int)) := fun j => by
      rw [one_cast, pair_col h (by omega), z, Int.mul_zero, Int.add_zero]
    unfold rnl tabR
    rw [all_true n (Pnl (stR B o) (stR A o)) fun j => decide_eq_true (by rw [hcol]; exact Int.le_refl _)]
    refine List.map_congr_left fun j _ => ?_
    rw [hcol, z, Int.mul_zero, Int.add_zero]
theorem ne_whole (h : ∀ f, rsum f A = rsum f B + takenW f c0 c1 c2 c3) (n : Nat) : rne (stR B o) (stR A o) n = if 0 < c0 + c1 + c2 + c3 then (tabR B o c0 c1 c2 c3 n).map fun r => (r.1, r.2.2, r.2.1) else [] := by
  by_cases hc : 0 < c0 + c1 + c2 + c3
  · rw [if_pos hc]
    unfold rne tabR
    rw [all_true n (Pne (stR B o) (stR A o)) fun j => decide_eq_true (by rw [one_cast]; have := pair_lt (o := o) h hc (show 1 ≤ 1 + j by omega); omega), List.map_map]
    refine List.map_congr_left fun j _ => ?_
    show _ = (1 + (j : Int), ilev (stR B o) (1 + (j : Int)), ilev (stR B o) (1 + (j : Int)) + (1 + (j : Int)) * takenW (wk (1 + j)) c0 c1 c2 c3)
    rw [one_cast, pair_col h (by omega)]
  · rw [if_neg hc]
    have z : ∀ k, takenW (wk k) c0 c1 c2 c3 = 0 := fun k => by rw [show c0 = 0 by omega, show c1 = 0 by omega, show c2 = 0 by omega, show c3 = 0 by omega, taken_zero]
    unfold rne
    rw [all_false n (Pne (stR B o) (stR A o)) fun j => decide_eq_false (by rw [one_cast, pair_col h (by omega), z, Int.mul_zero, Int.add_zero]; exact fun hne => hne rfl)]
    rfl
end
end Mine
end

section
open PySem PySem.W PyProof.Rows
namespace Mine
theorem apL_lt : ∀ (n : Nat), n < 16 ^ (apL n).length := by
  intro n
  induction n using Nat.strongRecOn with
  | ind n ih =>
    by_cases h0 : n = 0
    · subst h0; exact Nat.pos_of_ne_zero (by simp)
    · have := ih (n / 16) (by omega)
      rw [apL_pos h0, List.length_append, List.length_singleton, Nat.pow_succ]
      omega
theorem apL_mono {a b : Nat} (h : a ≤ b) : (apL a).length ≤ (apL b).length := apL_len _ _ (Nat.lt_of_le_of_lt h (apL_lt b))
theorem hist_ap_len (n : Nat) : (hist (posL (apL n))).length = (apL n).length := by
  rw [hist_ap, List.length_map, List.length_reverse]
theorem long_R (rows : List Nat) (o : Nat) : longest (stR rows o) = max (((hist rows).length : Int) - 1) (o : Int) := by
  unfold longest
  rw [stR_eq]
theorem wide1 (y o : Nat) : (max ((y : Int) - 1) (o : Int)).toNat + 1 = max y (o + 1) := by
  rcases Int.le_total ((y : Int) - 1) (o : Int) with h | h
  · rw [Int.max_eq_right h, Int.toNat_natCast, Nat.max_eq_right (by omega)]
  · rw [Int.max_eq_left h, Nat.max_eq_left (by omega)]; omega
theorem wide2 {x y : Nat} (o : Nat) (h : x ≤ y) : max (max ((x : Int) - 1) (o : Int)) (max ((y : Int) - 1) (o : Int)) = max ((y : Int) - 1) (o : Int) :=
  Int.max_eq_right (Int.max_le.mpr ⟨Int.le_trans (by omega) (Int.le_max_left _ _), Int.le_max_right _ _⟩)
theorem width_pair {A : List Nat} {S o : Nat} (hA : ∀ r ∈ A, r < (apL S).length) : (max (longest (stR A o)) (longest (stR (posL (apL S)) o))).toNat + 1 = max (apL S).length (o + 1) := by
  rw [long_R, long_R, hist_ap_len]
  rw [wide2 o ((hist_le A (apL S).length).mpr hA), wide1]
theorem width_pair' {A : List Nat} {S o : Nat} (hA : ∀ r ∈ A, r < (apL S).length) : (max (longest (stR (posL (apL S)) o)) (longest (stR A o))).toNat + 1 = max (apL S).length (o + 1) := by
  rw [← width_pair (o := o) hA, Int.max_comm]
theorem rows_under {a b c : Nat} : ∀ r ∈ posL (apL a) ++ posL (apL b) ++ posL (apL c), r < (apL (a + b + c)).length := by
  intro r hr
  rcases List.mem_append.mp hr with h | h
  · rcases List.mem_append.mp h with h | h
    · exact Nat.lt_of_lt_of_le (posL_lt _ r h) (apL_mono (by omega))
    · exact Nat.lt_of_lt_of_le (posL_lt _ r h) (apL_mono (by omega))
  · exact Nat.lt_of_lt_of_le (posL_lt _ r h) (apL_mono (by omega))
theorem turned_under {t m : Nat} {A : List Nat} (h : ∀ r ∈ A, r < m) : ∀ r ∈ A.drop t ++ A.take t, r < m := fun r hr =>
  (List.mem_append.mp hr).elim (fun h' => h r (List.mem_of_mem_drop h')) (fun h' => h r (List.mem_of_mem_take h'))
noncomputable def tabW (w : List Int) (o : Nat) (cs : List Int) (n : Nat) : List (Int × Int × Int) := (List.range n).map fun (j : Nat) => (1 + (j : Int), (o : Int) + colW (1 + j) w + takeAcc (1 + (j : Int)) cs 4, (o : Int) + colW (1 + j) w)
theorem col_word (S o k : Nat) (hk : 1 ≤ k) : ilev (stR (posL (apL S)) o) (k : Int) = (o : Int) + colW k (apL S) := by
  rw [ilev_stR _ _ _ hk, colW_rows hk _ _ (Nat.le_refl _) fun c hc => (apL_in S c hc).1]
theorem tab_eq (S o c0 c1 c2 c3 n : Nat) : tabR (posL (apL S)) o c0 c1 c2 c3 n = tabW (apL S) o [(c0 : Int), (c1 : Int), (c2 : Int), (c3 : Int)] n := by
  unfold tabR tabW
  refine List.map_congr_left fun j _ => ?_
  rw [one_cast, col_word _ _ _ (by omega), take_eq (by omega)]
noncomputable def aloneR (w0 w1 : List Int) (n : Nat) : List (Int × Int × Int) := (List.range n).map fun (j : Nat) => (1 + (j : Int), colW (1 + j) w0, colW (1 + j) w1)
theorem alone_eq (a b : Nat) : rne (stR (posL (apL a)) 0) (stR (posL (apL b)) 0) ((max (longest (stR (posL (apL a)) 0)) (longest (stR (posL (apL b)) 0))).toNat + 1) = (aloneR (apL a) (apL b) (max (apL a).length (apL b).length)).filter fun r => decide (r.2.1 ≠ r.2.2) := by
  have hcol : ∀ (n j : Nat), ilev (stR (posL (apL n)) 0) (1 + (j : Int)) = colW (1 + j) (apL n) := fun n j => by
    rw [one_cast, col_word _ _ _ (by omega)]; omega
  have key : ∀ n, rne (stR (posL (apL a)) 0) (stR (posL (apL b)) 0) n = (aloneR (apL a) (apL b) n).filter fun r => decide (r.2.1 ≠ r.2.2) := by
    intro n
    unfold rne aloneR
    rw [List.filter_map]
    have hp : Pne (stR (posL (apL a)) 0) (stR (posL (apL b)) 0) = (fun r : Int × Int × Int => decide (r.2.1 ≠ r.2.2)) ∘ fun (j : Nat) => (1 + (j : Int), colW (1 + j) (apL a), colW (1 + j) (apL b)) := by
      funext j
      show decide (ilev _ (1 + (j : Int)) ≠ ilev _ (1 + (j : Int))) = decide (colW (1 + j) (apL a) ≠ colW (1 + j) (apL b))
      rw [hcol, hcol]
    rw [hp]
    exact List.map_congr_left fun j _ => by rw [hcol, hcol]
  have hw : (max (longest (stR (posL (apL a)) 0)) (longest (stR (posL (apL b)) 0))).toNat + 1 = max (max (apL a).length (apL b).length) 1 := by
    rw [long_R, long_R, hist_ap_len, hist_ap_len]
    rcases Nat.le_total (apL a).length (apL b).length with h | h
    · rw [wide2 0 h, wide1, Nat.max_eq_right h]
    · rw [Int.max_comm, wide2 0 h, wide1, Nat.max_eq_left h]
  rw [hw, key]
  by_cases h0 : max (apL a).length (apL b).length = 0
  · have ha : apL a = [] := List.length_eq_zero_iff.mp (Nat.le_zero.mp (h0 ▸ Nat.le_max_left ..))
    have hb : apL b = [] := List.length_eq_zero_iff.mp (Nat.le_zero.mp (h0 ▸ Nat.le_max_right ..))
    rw [h0, ha, hb]
    unfold aloneR
    simp [colW_nil]
  · rw [Nat.max_eq_left (Nat.one_le_iff_ne_zero.mpr h0)]
theorem rowS_codes (q : Nat) : (rowS (q : Int)).cps.toList = rowCodes q := by
  unfold rowS rowCodes
  rw [codes_append, codes_mul, codes_tab, Int.toNat_natCast]
theorem rowsOf_pos : ∀ (ks : List Int) (i : Nat), rowsOf (i + ks.length) i ks = (posL ks).map fun (q : Nat) => rowS (q : Int)
  | [], i => rfl
  | k :: r, i => by
    have e : i + (k :: r).length = i + 1 + r.length := by rw [List.length_cons]; omega
    rw [rowsOf, posL, List.map_append, List.map_replicate, e, rowsOf_pos r (i + 1)]
    rw [show ((i + 1 + r.length : Nat) : Int) - 1 - (i : Int) = (r.length : Int) by omega]
theorem rows_flat (P : List Nat) : (P.map fun (q : Nat) => rowS (q : Int)).flatMap (fun y => y.cps.toList) = rowsCodes P := by
  unfold rowsCodes
  rw [List.flatMap_map, List.flatMap_def]
  congr 1
  exact List.map_congr_left fun q _ => rowS_codes q
theorem codes_join (ys : List Str) : (Txt.join (Str.ofString "") ys).cps.toList = ys.flatMap fun y => y.cps.toList := by
  unfold Txt.join
  rw [StrLaws.glued_eq_join]
  have e0 : ∀ ys : List Str, (Str.join (Str.ofString "") ys).cps.toList = ys.flatMap fun y => y.cps.toList := by
    intro ys
    induction ys with
    | nil => rfl
    | cons y r ih =>
      cases r with
      | nil => simp [Str.join]
      | cons z r =>
        show (y ++ Str.ofString "" ++ Str.join (Str.ofString "") (z :: r)).cps.toList = _
        rw [codes_append, codes_append, codes_empty, ih, List.append_nil]
        rfl
  exact e0 ys
theorem text_rows (P : List Nat) (o : Nat) : wsRead (Txt.join (Str.ofString "") (P.map fun (q : Nat) => rowS (q : Int)) ++ Txt.mul (Str.ofString " ") (o : Int)).cps.toList = stR P o := by
  unfold stR
  rw [codes_append, codes_join, rows_flat, codes_mul, Int.toNat_natCast]
theorem text_rows0 (P : List Nat) : wsRead (Txt.join (Str.ofString "") (P.map fun (q : Nat) => rowS (q : Int))).cps.toList = stR P 0 := by
  unfold stR
  rw [codes_join, rows_flat, List.replicate_zero, List.append_nil]
end Mine
end

section
open PySem PySem.W PyProof.Rows
namespace Mine
theorem news_skip1 {h₀ h : Heap} {L : Addr} {a b : Addr × Obj} {r : List (Addr × Obj)} (N : News h₀ L h (a :: b :: r)) : News h₀ L h (a :: r) := fun p hp => N p (by
  rcases List.mem_cons.mp hp with h | h
  · exact h ▸ .head _
  · exact .tail _ (.tail _ h))
noncomputable def AllAt (Pv : Nat → Value → Prop) (i : Nat) (ys : List Value) : Prop := ys.length = i ∧ ∀ j y, ys[j]? = some y → Pv j y
theorem AllAt.nil {Pv : Nat → Value → Prop} : AllAt Pv 0 [] := ⟨rfl, fun j y h => by simp at h⟩
theorem AllAt.snoc {Pv Pv' : Nat → Value → Prop} {i : Nat} {ys : List Value} {y : Value} (h : AllAt Pv i ys) (hm : ∀ j y, Pv j y → Pv' j y) (hy : Pv' i y) : AllAt Pv' (i + 1) (ys ++ [y]) := by
  obtain ⟨hl, ha⟩ := h
  refine ⟨by rw [List.length_append, List.length_singleton, hl], fun j z hj => ?_⟩
  by_cases hlt : j < ys.length
  · rw [List.getElem?_append_left hlt] at hj; exact hm _ _ (ha j z hj)
  · rw [List.getElem?_append_right (by omega)] at hj
    have e : j = ys.length := by
      cases hq : j - ys.length with
      | zero => omega
      | succ q => rw [hq] at hj; simp at hj
    subst e
    simp at hj
    subst hj
    rw [hl]; exact hy
theorem news_hide {h₀ h : Heap} {L : Addr} {a b c : Addr × Obj} {r : List (Addr × Obj)} (N : News h₀ L h (a :: b :: c :: r)) : ∃ r', r' = r ∧ News h₀ L h (a :: b :: c :: r') := ⟨r, rfl, N⟩
theorem news_tail {h₀ h : Heap} {L : Addr} {A : Addr × Obj} {r : List (Addr × Obj)} (N : News h₀ L h (A :: r)) : News h₀ L h r := fun p hp => N p (.tail _ hp)
theorem AllGt.app {d : Addr} {a b : List (Addr × Obj)} (ha : AllGt d a) (hb : AllGt d b) : AllGt d (a ++ b) := fun p hp => (List.mem_append.mp hp).elim (ha p) (hb p)
theorem news_end {h₀ h : Heap} {L : Addr} {t a r : List (Addr × Obj)} (N : News h₀ L h (t ++ (a ++ r))) : News h₀ L h (a ++ (r ++ t)) := fun p hp => N p (by
  simp only [List.mem_append] at hp ⊢
  rcases hp with h | h | h
  · exact .inr (.inl h)
  · exact .inr (.inr h)
  · exact .inl h)
theorem news_drop {h₀ h : Heap} {L : Addr} {a : List (Addr × Obj)} {b : Addr × Obj} {r : List (Addr × Obj)} (N : News h₀ L h (a ++ b :: r)) : News h₀ L h (a ++ r) := fun p hp => N p (by
  rcases List.mem_append.mp hp with h | h
  · exact List.mem_append_left _ h
  · exact List.mem_append_right _ (List.mem_cons_of_mem _ h))
theorem pow16 (j : Nat) : ((16 : Int) ^ j) = ((16 ^ j : Nat) : Int) := by push_cast; rfl
theorem pow16_b {i : Nat} (h : i < 4) : 16 ≤ 16 ^ (i + 1) ∧ 16 ^ (i + 1) ≤ 65536 := by
  rcases i with _ | _ | _ | _ | i
  · decide
  · decide
  · decide
  · decide
  · omega
noncomputable def nrAt (d0 d1 d2 j : Nat) : Nat := [d0, d1, d2].getD j 0
theorem nrAt_lt {d0 d1 d2 : Nat} (j : Nat) (h0 : d0 < 65536) (h1 : d1 < 65536) (h2 : d2 < 65536) : nrAt d0 d1 d2 j < 65536 := by
  unfold nrAt
  rcases j with _ | _ | _ | j <;> simp <;> omega
theorem mod_cast' (n K : Nat) : (n : Int).fmod (K : Int) = ((n % K : Nat) : Int) := by
  rw [Int.fmod_eq_emod_of_nonneg _ (by omega), Int.natCast_emod]
theorem three_sum (d0 d1 d2 K : Nat) : (List.map (fun j => ((nrAt d0 d1 d2 j % K : Nat) : Int)) (List.range 3)).sum = ((d0 % K + d1 % K + d2 % K : Nat) : Int) := by
  have e : (List.map (fun j => ((nrAt d0 d1 d2 j % K : Nat) : Int)) (List.range 3)).sum = ((d0 % K : Nat) : Int) + (((d1 % K : Nat) : Int) + (((d2 % K : Nat) : Int) + 0)) := rfl
  rw [e]; push_cast; omega
theorem div_cast' (n K : Nat) : (n : Int).fdiv (K : Int) = ((n / K : Nat) : Int) := by
  rw [Int.fdiv_eq_ediv_of_nonneg _ (by omega), Int.natCast_ediv]
theorem rows_ap (n : Nat) : rowsOf (apL n).length 0 (apL n) = (posL (apL n)).map fun (q : Nat) => rowS (q : Int) := by
  have := rowsOf_pos (apL n) 0
  rwa [Nat.zero_add] at this
theorem strs_len {vs : List Value} {ys : List Str} (h : StrsAre vs ys) : vs.length = ys.length := by
  induction h with
  | nil => rfl
  | cons _ _ _ ih => rw [List.length_cons, List.length_cons, ih]
theorem posL_len : ∀ (ks : List Int), (∀ c ∈ ks, c ≤ 80) → (posL ks).length ≤ 15 * ks.length
  | [], _ => Nat.le_refl _
  | k :: r, h => by
    have hk := h k (.head _)
    have := posL_len r fun c hc => h c (.tail _ hc)
    rw [posL, List.length_append, List.length_replicate, List.length_cons]
    omega
theorem rows_len {vs : List Value} {n : Nat} (h : StrsAre vs ((posL (apL n)).map fun (q : Nat) => rowS (q : Int))) (m : Nat) (hn : n < 65536) : vs.length ≤ 60 := by
  have h1 := strs_len h
  rw [List.length_map] at h1
  have h2 := posL_len (apL n) fun c hc => (apL_in n c hc).2
  have h3 := apL_len 4 n (by omega)
  omega
theorem len_lst_my {prog : Program} {w : World} {A : Around} {E : Value → Shared → Prop} {s : Shared} {h₀ : Heap} {L l : Addr} {news : List (Addr × Obj)} {vs : List Value} {ep : Nat} {Q : Value → Shared → Prop} (N : News h₀ L s.heap news) (hm : (l, ({ cls := .type "list", data := .seq vs.toArray ep } : Obj)) ∈ news) (hz : vs.length ≤ 180) (h : Q (.int vs.length (s.toks + 1)) { s with toks := s.toks + 1 + 1 }) :
    wpAny (model prog w) A (call (.builtin "len") [.ref l]) Q E s := by
  refine len_list ⟨_, (N _ hm).1, rfl, _, rfl⟩ (by rw [List.size_toArray]; omega) ?_
  rw [List.size_toArray]; exact h
theorem pick_drop {vs : List Value} {t : Nat} (h : t ≤ vs.length) : kms_pick vs.toArray.toList (some (t : Int)) none = vs.drop t := by
  unfold kms_pick kms_lo kms_hi
  rw [List.toList_toArray]
  simp only [show ¬ ((t : Int) < 0) by omega, if_false, Int.toNat_natCast, Nat.min_eq_left h]
  rw [List.take_of_length_le (by rw [List.length_drop]; omega)]
theorem pick_take {vs : List Value} {t : Nat} (h : t ≤ vs.length) : kms_pick vs.toArray.toList none (some (t : Int)) = vs.take t := by
  unfold kms_pick kms_lo kms_hi
  rw [List.toList_toArray]
  simp only [show ¬ ((t : Int) < 0) by omega, if_false, Int.toNat_natCast, Nat.min_eq_left h]
  rw [List.drop_zero, Nat.sub_zero]
theorem strs_drop {vs : List Value} {ys : List Str} (h : StrsAre vs ys) : ∀ t, StrsAre (vs.drop t) (ys.drop t) := by
  induction h with
  | nil => intro t; rw [List.drop_nil, List.drop_nil]; exact .nil
  | cons x k r ih =>
    intro t
    cases t with
    | zero => exact .cons x k r
    | succ t => exact ih t
theorem strs_take {vs : List Value} {ys : List Str} (h : StrsAre vs ys) : ∀ t, StrsAre (vs.take t) (ys.take t) := by
  induction h with
  | nil => intro t; rw [List.take_nil, List.take_nil]; exact .nil
  | cons x k r ih =>
    intro t
    cases t with
    | zero => exact .nil
    | succ t => exact .cons x k (ih t)
theorem turn_nat (S : Int) (n : Nat) : ∃ t : Nat, S.fmod ((n : Int) + 1) = (t : Int) ∧ t ≤ n := by
  have h1 := Int.fmod_nonneg_of_pos S (show (0 : Int) < (n : Int) + 1 by omega)
  have h2 := Int.fmod_lt_of_pos S (show (0 : Int) < (n : Int) + 1 by omega)
  exact ⟨(S.fmod ((n : Int) + 1)).toNat, by omega, by omega⟩
theorem over_nat (S : Int) : ∃ o : Nat, (S.fdiv 5).fmod 4 = (o : Int) ∧ o ≤ 3 := by
  have h1 := Int.fmod_nonneg_of_pos (S.fdiv 5) (show (0 : Int) < 4 by omega)
  have h2 := Int.fmod_lt_of_pos (S.fdiv 5) (show (0 : Int) < 4 by omega)
  exact ⟨((S.fdiv 5).fmod 4).toNat, by omega, by omega⟩
theorem news_sel {h₀ h : Heap} {L : Addr} {a0 a1 a2 a3 a4 a5 a6 a7 a8 a9 : Addr × Obj} (N : News h₀ L h [a0, a1, a2, a3, a4, a5, a6, a7, a8, a9]) : News h₀ L h [a1, a2, a3, a6, a7] := fun p hp => N p (by
  simp only [List.mem_cons, List.not_mem_nil, or_false] at hp ⊢
  rcases hp with h | h | h | h | h <;> simp [h])
theorem row_len (q : Nat) : (rowS (q : Int)).length = q + 1 := by
  rw [← str_len, rowS_codes]
  unfold rowCodes
  rw [List.length_append, List.length_replicate, List.length_singleton]
theorem rows_light (P : List Nat) (h : ∀ r ∈ P, r < 5) : ((P.map fun (q : Nat) => rowS (q : Int)).map (·.length)).sum + (P.map fun (q : Nat) => rowS (q : Int)).length ≤ 6 * P.length := by
  induction P with
  | nil => exact Nat.le_refl _
  | cons r q ih =>
    have h1 := h r (.head _)
    have h2 := ih fun x hx => h x (.tail _ hx)
    have h3 := row_len r
    simp only [List.map_cons, List.sum_cons, List.length_cons] at h2 ⊢
    omega
theorem join_len (ys : List Str) : (Txt.join (Str.ofString "") ys).length = (ys.map (·.length)).sum := by
  rw [← str_len, codes_join, List.length_flatMap]
  exact congrArg List.sum (List.map_congr_left fun y _ => str_len y)
theorem rows_join (P : List Nat) (h : ∀ r ∈ P, r < 5) (hl : P.length ≤ 180) : (Txt.join (Str.ofString "") (P.map fun (q : Nat) => rowS (q : Int))).length ≤ 1080 := by
  rw [join_len]
  have := rows_light P h
  omega
theorem text_sz {x : Str} {n : Nat} (h : x.length ≤ n) (hn : n ≤ 65536) : x.cps.toList.length ≤ 65536 := by
  rw [str_len]; omega
theorem mul_len (o : Nat) (h : o ≤ 3) : (Txt.mul (Str.ofString " ") (o : Int)).length ≤ 3 := by
  rw [← str_len, codes_mul, List.length_replicate]; omega
theorem nat_of {n : Int} (h : 0 ≤ n ∧ n < 65536) : ∃ d : Nat, n = (d : Int) ∧ d < 65536 := ⟨n.toNat, by omega, by omega⟩
theorem lt_one {n D : Nat} (h : D = n + 1) : n < D := h ▸ Nat.lt_succ_self n
theorem lt_two {n D : Nat} (h : D = n + 2) : n < D := h ▸ Nat.lt_of_lt_of_le (Nat.lt_succ_self n) (Nat.le_succ _)
theorem idx1 (i : Nat) : (1 : Int) + (i : Int) * 1 = ((i + 1 : Nat) : Int) := by omega
theorem pw_le {i : Nat} (h : i < 4) : (0 : Int) ≤ ((i + 1 : Nat) : Int) ∧ ((i + 1 : Nat) : Int) ≤ 1000000 := by omega
theorem small64 {d : Nat} (h : d < 65536) : ((d : Nat) : Int).natAbs < 2 ^ 64 := by omega
theorem small64n {d : Nat} (h : d < 65536) : (-((d : Nat) : Int)).natAbs < 2 ^ 64 := by rw [Int.natAbs_neg]; exact small64 h
theorem abs3 (a b c : Nat) : (((a : Nat) : Int) + (((b : Nat) : Int) + (((c : Nat) : Int) + 0))).natAbs = a + b + c := by omega
theorem small3 {a b c : Nat} (ha : a < 65536) (hb : b < 65536) (hc : c < 65536) : (((a : Nat) : Int) + (((b : Nat) : Int) + (((c : Nat) : Int) + 0))).natAbs < 2 ^ 64 := by rw [abs3]; omega
theorem len_add {α : Type} {a b : List α} {x y : Nat} (ha : a.length ≤ x) (hb : b.length ≤ y) : (a ++ b).length ≤ x + y := by rw [List.length_append]; exact Nat.add_le_add ha hb
theorem sum_lt {a b c : Nat} (ha : a < 65536) (hb : b < 65536) (hc : c < 65536) : a + b + c < 16 ^ 5 := by omega
theorem size_180 {vs : List Value} (h : vs.length ≤ 180) : vs.toArray.size ≤ sizeLine := by rw [List.size_toArray, sizeLine_eq]; exact Nat.le_trans h (by decide)
theorem rows_weight (P : List Nat) (h : ∀ r ∈ P, r < 5) (hl : P.length ≤ 180) : ((P.map fun (q : Nat) => rowS (q : Int)).map (·.length)).sum + (P.map fun (q : Nat) => rowS (q : Int)).length ≤ 1048576 :=
  Nat.le_trans (rows_light P h) (Nat.le_trans (Nat.mul_le_mul_left 6 hl) (by decide))
theorem app_len {x y : Str} {a b : Nat} (h : x.length ≤ a) (h' : y.length ≤ b) : (x ++ y).length ≤ a + b := by
  rw [← str_len, codes_append, List.length_append, str_len, str_len]; exact Nat.add_le_add h h'
theorem posL_small {n : Nat} (h : (apL n).length ≤ 5) : (posL (apL n)).length ≤ 180 :=
  Nat.le_trans (posL_len (apL n) fun c hc => (apL_in _ c hc).2) (Nat.le_trans (Nat.mul_le_mul_left 15 h) (by decide))
section
variable {M : Model} {A : Around} {Q : Value → Shared → Prop} {E : Value → Shared → Prop} {s : Shared}
theorem pat_pow {a : Int} {t : Tok} {n : Nat} {u : Tok} (h : wpAny M A (binaryOp .Pow (.int a t) (.int (Nat.cast n) u)) Q E s) : wpAny M A (binaryOp .Pow (.int a t) (.int (Nat.cast n) u)) Q E s := h
theorem pat_step {x c : Expr} {p : Pos} {e : Option Expr} {d : Option Expr} {v w : Value} (h : wpAny M A (subscriptTail x (.Slice d e (some c) p) v w) Q E s) : wpAny M A (subscriptTail x (.Slice d e (some c) p) v w) Q E s := h
theorem pat_rows {c : Expr} {p : Pos} {v w : Value} (h : wpAny M A (subscriptTail (.Name (Str.ofString "rows") p) c v w) Q E s) : wpAny M A (subscriptTail (.Name (Str.ofString "rows") p) c v w) Q E s := h
theorem pat_comp {a : Addr} {c1 c2 c3 c4 c5 c6 c7 c8 c9 c10 c11 c12 c13} (h : wpAny M A (pyIter (.ref a)) (CompAt c1 c2 c3 c4 c5 c6 c7 c8 c9 c10 c11 c12 c13) E s) : wpAny M A (pyIter (.ref a)) (CompAt c1 c2 c3 c4 c5 c6 c7 c8 c9 c10 c11 c12 c13) E s := h
theorem pat_loop {a : Addr} {c1 c2 c3 c4 c5 c6 c7 c8 c9} (h : wpAny M A (pyIter (.ref a)) (fun it s₂ => LoopAtV c1 c2 c3 c4 c5 c6 c7 c8 c9 it s₂) E s) : wpAny M A (pyIter (.ref a)) (fun it s₂ => LoopAtV c1 c2 c3 c4 c5 c6 c7 c8 c9 it s₂) E s := h
theorem pat_cells {p q : Pos} {v : Expr} {env : Env} {Q : Flow → Shared → Prop} (h : wpAny M A (exec (.Assign [.Name (Str.ofString "cells") p] v q) env) Q E s) : wpAny M A (exec (.Assign [.Name (Str.ofString "cells") p] v q) env) Q E s := h
theorem pat_cell {e b : Expr} {p q : Pos} {c : List Expr} {d : Int} {f : Scope} {env : Env} (h : wpAny M A (eval (.ListComp e [⟨.Name (Str.ofString "cell") p, b, c, d⟩] f q) env) Q E s) : wpAny M A (eval (.ListComp e [⟨.Name (Str.ofString "cell") p, b, c, d⟩] f q) env) Q E s := h
theorem pat_tail {a b c : Expr} {p : Pos} {env : Env} {h₀ L m led s' J} (h : wpAny M A (eval (.IfExp a b c p) env) (TailBack h₀ L m led s' J) E s) : wpAny M A (eval (.IfExp a b c p) env) (TailBack h₀ L m led s' J) E s := h
end
theorem turned_strs {vD vT : List Value} {R : List Nat} {t : Nat} (h1 : StrsAre vD ((R.map fun (q : Nat) => rowS (q : Int)).drop t)) (h2 : StrsAre vT ((R.map fun (q : Nat) => rowS (q : Int)).take t)) : StrsAre (vD ++ vT) ((R.drop t ++ R.take t).map fun (q : Nat) => rowS (q : Int)) := by
  rw [List.map_append, List.map_drop, List.map_take]
  exact strs_app h1 h2
theorem hist_len5 {Q : List Nat} {o : Nat} (h : ∀ r ∈ Q, r < 5) : (stR Q o).1.length ≤ 5 := by
  rw [stR_eq]
  exact (hist_le Q 5).mpr h
theorem news_end0 {h₀ h : Heap} {L : Addr} {t a : List (Addr × Obj)} (N : News h₀ L h (t ++ a)) : News h₀ L h (a ++ t) := fun p hp => N p (by
  simp only [List.mem_append] at hp ⊢
  exact hp.symm)
theorem norm_word {h : Heap} {D D2 : Addr} {vs : List Value} {n o : Nat} {t : Tok} (hI : IntsAre vs ((apL n).map fun k => k - 65)) (h1 : h.get? D = some { cls := .type "tuple", data := .seq vs.reverse.toArray }) (h2 : h.get? D2 = some { cls := .type "tuple", data := .seq #[.ref D, .int (o : Int) t] }) :
    Reads h (.ref D2) (normData (stR (posL (apL n)) o)) [] := by
  rw [stR_eq, hist_ap]
  have e : ((apL n).reverse.map fun k => k - 65) = ((apL n).map fun k => k - 65).reverse := by rw [List.map_reverse]
  rw [e]
  exact reads_tuple_at h2 rfl rfl (.cons (reads_tuple_at h1 rfl rfl (reads_ints hI.reverse)) (.cons (.int _ _) .nil))
theorem norm_same (st : List Int × Int × Int × Int) : PyData.eqv (normData st) (normData st) = true := by rw [norm_eqv]; simp
theorem news_skip1b {h₀ h : Heap} {L : Addr} {a b : Addr × Obj} {r : List (Addr × Obj)} (N : News h₀ L h (a :: b :: r)) : News h₀ L h (a :: r) := news_skip1 N
theorem size_5 {w : Array UInt8} (h : (KBw.bInts w).length ≤ 5) : w.size ≤ sizeLine := by rw [sizeLine_eq, ← KBw.ints_length]; exact Nat.le_trans h (by decide)
structure TbC where
  vs : List Value
  ep : Nat
  tl : List (Addr × Obj)
theorem news_name1 {h₀ h : Heap} {L : Addr} {D : Addr} {o : Obj} {r : List (Addr × Obj)} (_N : News h₀ L h ((D, o) :: r)) : ∃ d, d = D := ⟨D, rfl⟩
theorem news_split {h₀ h : Heap} {L : Addr} {A B C D E : Addr × Obj} {r : List (Addr × Obj)} (N : News h₀ L h (A :: B :: C :: D :: E :: r)) : ∃ B' C' D' E', B' = B ∧ C' = C ∧ D' = D ∧ E' = E ∧ News h₀ L h (A :: B' :: C' :: D' :: E' :: r) := ⟨B, C, D, E, rfl, rfl, rfl, rfl, N⟩
theorem mem_tab {α : Type} {a i l b c d e : α} {t n : List α} : ∀ p ∈ l :: b :: c :: d :: e :: ((a :: t) ++ n), p ∈ a :: i :: l :: b :: c :: d :: e :: (t ++ n) := fun p hp => by
  simp only [List.mem_cons, List.mem_append, List.cons_append] at hp ⊢
  rcases hp with h | h | h | h | h | h | h | h <;> simp [h]
theorem tabW_snoc (w : List Int) (o : Nat) (cs : List Int) (i : Nat) : tabW w o cs (i + 1) = tabW w o cs i ++ [(((1 + i : Nat) : Int), (o : Int) + colW (1 + i) w + takeAcc ((1 + i : Nat) : Int) cs 4, (o : Int) + colW (1 + i) w)] := by
  unfold tabW
  rw [List.range_succ, List.map_append, List.map_cons, List.map_nil, one_cast]
theorem carry_in (d0 d1 d2 : Nat) : ∀ c ∈ [((carryN d0 d1 d2 0 : Nat) : Int), ((carryN d0 d1 d2 1 : Nat) : Int), ((carryN d0 d1 d2 2 : Nat) : Int), ((carryN d0 d1 d2 3 : Nat) : Int)], 0 ≤ c ∧ c ≤ 3 := by
  intro c hc
  have k := carry_le d0 d1 d2
  have k0 := k 0
  have k1 := k 1
  have k2 := k 2
  have k3 := k 3
  simp only [List.mem_cons, List.not_mem_nil, or_false] at hc
  rcases hc with rfl | rfl | rfl | rfl <;> omega
theorem AllGt.low {d e : Addr} {a : List (Addr × Obj)} (h : AllGt d a) (hd : @LT.lt Nat _ e d) : AllGt e a := fun p hp => Nat.lt_trans hd (h p hp)
theorem tr_in (Q : List Nat) (o : Nat) (h : o ≤ 3) : 0 ≤ (stR Q o).2.1 ∧ (stR Q o).2.1 ≤ 60000 := by
  rw [stR_eq]
  show 0 ≤ (o : Int) ∧ (o : Int) ≤ 60000
  omega
theorem rg_hs {o k : Nat} (h : k ≤ 5) (ho : o ≤ 3) : Builtin.Range.small 1 ((if (o : Int) + 1 > (k : Int) then (o : Int) + 1 else (k : Int)) + 1) 1 = true := range_small (by decide) (by split <;> omega)
theorem rg_hn {o k n : Nat} (h : k = n) : Builtin.Range.rangeSize 1 ((if (o : Int) + 1 > (k : Int) then (o : Int) + 1 else (k : Int)) + 1) 1 = ((max n (o + 1) : Nat) : Int) := by
  rw [range_size, h]
  congr 1
  split
  · rw [Nat.max_eq_right (by omega)]; omega
  · rw [Nat.max_eq_left (by omega)]; omega
theorem idx5 {i k o : Nat} (h : i < max k (o + 1)) (hk : k ≤ 5) (ho : o ≤ 3) : 1 + i ≤ 16 := by omega
theorem idx_in {i : Nat} (h : 1 + i ≤ 16) : (1 : Int) ≤ ((1 + i : Nat) : Int) ∧ ((1 + i : Nat) : Int) ≤ 16 := by omega
theorem tab_short {n k o : Nat} (h : n ≤ max k (o + 1)) (hk : k ≤ 5) (ho : o ≤ 3) : n ≤ 1000 := by omega
theorem small_of {Q : List Nat} {o : Nat} (h : ∀ r ∈ Q, r < 5) (ho : o ≤ 3) : (stR Q o).1.length ≤ 60000 ∧ (0 ≤ (stR Q o).2.1 ∧ (stR Q o).2.1 ≤ 60000) := ⟨Nat.le_trans (hist_len5 h) (by decide), tr_in Q o ho⟩
theorem mem_led5 {α : Type} {a b c d e : α} {t n : List α} : ∀ p ∈ b :: c :: d :: e :: ((a :: t) ++ n), p = a ∨ p ∈ b :: c :: d :: e :: (t ++ n) := fun p hp => by
  simp only [List.mem_cons, List.mem_append, List.cons_append] at hp ⊢
  rcases hp with h | h | h | h | h | h | h <;> simp [h]
theorem carry_sum (a b c d : Nat) : (0 : Int) < [((a : Nat) : Int), ((b : Nat) : Int), ((c : Nat) : Int), ((d : Nat) : Int)].sum ↔ 0 < a + b + c + d := by
  simp only [List.sum_cons, List.sum_nil]
  omega
theorem carry_dec (a b c d : Nat) : decide ((0 : Int) < [((a : Nat) : Int), ((b : Nat) : Int), ((c : Nat) : Int), ((d : Nat) : Int)].sum) = decide (0 < a + b + c + d) := decide_eq_decide.mpr (carry_sum a b c d)
theorem if_dec {α : Type} {P : Prop} [Decidable P] {b : Bool} (h : b = decide P) (x y : α) : (if P then x else y) = (if b = true then x else y) := by
  subst h
  by_cases hp : P <;> simp [hp]
noncomputable def swp (r : Int × Int × Int) : Int × Int × Int := (r.1, r.2.2, r.2.1)
theorem out_swp (b : Bool) (rows : List (Int × Int × Int)) : (rows.filter fun _ => b).map swp = (if b = true then rows.map (fun r => (r.1, r.2.2, r.2.1)) else []) := by
  cases b
  · simp
  · rw [List.filter_eq_self.mpr (fun _ _ => rfl), if_pos rfl]; rfl
theorem news_pack {h₀ h : Heap} {L : Addr} {a b c d e : Addr × Obj} {r : List (Addr × Obj)} (N : News h₀ L h (a :: b :: c :: d :: e :: r)) : ∃ r', a ∈ r' ∧ b ∈ r' ∧ d ∈ r' ∧ e ∈ r' ∧ (∀ p ∈ r, p ∈ r') ∧ News h₀ L h r' :=
  ⟨_, .head _, .tail _ (.head _), .tail _ (.tail _ (.tail _ (.head _))), .tail _ (.tail _ (.tail _ (.tail _ (.head _)))), fun _ hp => .tail _ (.tail _ (.tail _ (.tail _ (.tail _ hp)))), N⟩
theorem news_pack2 {h₀ h : Heap} {L : Addr} {t r : List (Addr × Obj)} (N : News h₀ L h (t ++ r)) : ∃ r', (∀ p ∈ t, p ∈ r') ∧ (∀ p ∈ r, p ∈ r') ∧ News h₀ L h r' := ⟨_, fun _ hp => List.mem_append_left _ hp, fun _ hp => List.mem_append_right _ hp, N⟩
theorem news_pack3 {h₀ h : Heap} {L : Addr} {a b : Addr × Obj} {t r : List (Addr × Obj)} (N : News h₀ L h (a :: (t ++ b :: r))) : ∃ r', (∀ p ∈ t, p ∈ r') ∧ (∀ p ∈ r, p ∈ r') ∧ News h₀ L h (a :: r') := ⟨_, fun _ hp => List.mem_append_left _ hp, fun _ hp => List.mem_append_right _ (.tail _ hp), N⟩
theorem news_pack4 {h₀ h : Heap} {L : Addr} {a : Addr × Obj} {t r : List (Addr × Obj)} (N : News h₀ L h (t ++ a :: r)) : ∃ r', (∀ p ∈ t, p ∈ r') ∧ (∀ p ∈ r, p ∈ r') ∧ News h₀ L h (a :: r') := ⟨t ++ r, fun _ hp => List.mem_append_left _ hp, fun _ hp => List.mem_append_right _ hp, fun p hp => N p (by
  rcases List.mem_cons.mp hp with h | h
  · exact List.mem_append_right _ (h ▸ .head _)
  · exact (List.mem_append.mp h).elim (List.mem_append_left _) (fun h => List.mem_append_right _ (.tail _ h)))⟩
theorem wp_tail {M : Model} {A : Around} {t : Sem Value} {E : Value → Shared → Prop} {s : Shared} {Q : Value → Shared → Prop} {h₀ : Heap} {L : Addr} {m : Str → Option Value} {led : List (Addr × Obj)} (_F : Fr h₀ L s.heap m) (_N : News h₀ L s.heap led) (J : Value → List (Addr × Obj) → Prop)
    (h : wpAny M A t (TailBack h₀ L m led s J) E s) (k : ∀ y h' tk' tl, Fr h₀ L h' m → News h₀ L h' (tl ++ led) → (∀ q ∈ led, ∀ p ∈ tl, q.1 < p.1) → J y tl → Q y { s with heap := h', toks := tk' }) : wpAny M A t Q E s :=
  wpAny_mono h (fun y s₃ hb => by
    obtain ⟨h', tk', tl, rfl, F', N', ho, hJ⟩ := hb
    exact k y h' tk' tl F' N' ho hJ) fun _ _ e => e
theorem tab_reads {h₀ h : Heap} {L l : Addr} {led : List (Addr × Obj)} {vs : List Value} {ep : Nat} {rows : List (Int × Int × Int)} (N : News h₀ L h led) (hm : (l, W.listOf vs.toArray ep) ∈ led) (hT : TabIn led vs rows) : Reads h (.ref l) (.list (rows.map rowData)) [l] :=
  reads_list_at (N _ hm).1 rfl rfl (hT.reads N)
theorem tab_shaped (rows : List (Int × Int × Int)) : SeqAt.shaped (.list (rows.map rowData)) = true := by
  have h1 := rows_lay rows
  have h2 := rows_depth rows
  have h3 : (PyData.list (rows.map rowData)).canLay0 = true := by simp [PyData.canLay0, h1]
  have h4 : (PyData.list (rows.map rowData)).depth ≤ 64 := by
    simp only [PyData.depth]
    omega
  unfold SeqAt.shaped
  rw [h3, decide_eq_true h4]
  rfl
theorem tab_eqv (rows rows' : List (Int × Int × Int)) : PyData.eqv (.list (rows.map rowData)) (.list (rows'.map rowData)) = decide (rows = rows') := by
  rw [← rows_eqv]
  simp [PyData.eqv]
theorem tab_same (rows : List (Int × Int × Int)) : PyData.eqv (.list (rows.map rowData)) (.list (rows.map rowData)) = true := by
  rw [tab_eqv]; exact decide_eq_true rfl
theorem bools_same (b : Bool) : PyData.eqv (.tuple [.bool b, .bool false, .bool (!b)]) (.tuple [.bool b, .bool false, .bool (!b)]) = true := by cases b <;> simp [PyData.eqv, PyData.eqvAll]
theorem bools_shaped (b : Bool) : SeqAt.shaped (.tuple [.bool b, .bool false, .bool (!b)]) = true := by cases b <;> decide +kernel
noncomputable def TabBack (led : List (Addr × Obj)) (rows : List (Int × Int × Int)) (y : Value) (tl : List (Addr × Obj)) : Prop := ∃ l vs ep, y = .ref l ∧ (l, W.listOf vs.toArray ep) ∈ tl ++ led ∧ TabIn (tl ++ led) vs rows
theorem wp_tab {M : Model} {A : Around} {t : Sem Value} {E : Value → Shared → Prop} {s : Shared} {Q : Value → Shared → Prop} {h₀ : Heap} {L : Addr} {m : Str → Option Value} {led : List (Addr × Obj)} (F : Fr h₀ L s.heap m) (N : News h₀ L s.heap led) (rows : List (Int × Int × Int))
    (h : wpAny M A t (TailBack h₀ L m led s (TabBack led rows)) E s) (k : ∀ y h' tk' tl, Fr h₀ L h' m → News h₀ L h' (tl ++ led) → (∀ q ∈ led, ∀ p ∈ tl, q.1 < p.1) → TabBack led rows y tl → Q y { s with heap := h', toks := tk' }) : wpAny M A t Q E s :=
  wp_tail F N (TabBack led rows) h k
theorem mem_of_app {α : Type} {p : α} {t r r' : List α} (h : p ∈ r) (e : r' = t ++ r) : p ∈ r' := e ▸ List.mem_append_right _ h
noncomputable def ptAt (d0 d1 j : Nat) : Nat := [d0, d1].getD j 0
theorem AllAt.two {Pv : Nat → Value → Prop} {ys : List Value} (h : AllAt Pv 2 ys) : ∃ a b, ys = [a, b] ∧ Pv 0 a ∧ Pv 1 b := by
  obtain ⟨hl, ha⟩ := h
  rcases ys with _ | ⟨a, _ | ⟨b, _ | _⟩⟩ <;> simp at hl
  exact ⟨a, b, rfl, ha 0 a rfl, ha 1 b rfl⟩
noncomputable abbrev rgObj (a b : Int) (t u v : Tok) : Obj := { cls := .type "range", dict := none, data := .fields #[.int a t, .int b u, .int 1 v], slots := #[] }
theorem range2_my {prog : Program} {w : World} {A : Around} {E : Value → Shared → Prop} {s : Shared} {h₀ : Heap} {L : Addr} {m : Str → Option Value} {Q : Value → Shared → Prop} {a b : Int} {t u : Tok} {news : List (Addr × Obj)} (F : Fr h₀ L s.heap m) (N : News h₀ L s.heap news)
    (h : ∀ D h' tk t₁ u₁ v₁, Fr h₀ L h' m → News h₀ L h' ((D, rgObj a b t₁ u₁ v₁) :: news) → (∀ p ∈ news, p.1 < D) → Q (.ref D) { s with heap := h', toks := tk }) : wpAny (model prog w) A (call (.type "range") [.int a t, .int b u]) Q E s := by
  refine range2_rows F N fun h' tk t₁ u₁ v₁ hr F' N' hk => h _ h' tk t₁ u₁ v₁ F' (fun p hp => ?_) fun p hp => Heap.lt_size (N p hp).1
  rcases List.mem_cons.mp hp with rfl | hp
  · exact ⟨hr, Nat.ne_of_gt F.ns.lt, next_is_new F⟩
  · exact N' p hp
theorem news_cons1 {h₀ h : Heap} {L : Addr} {a x : Addr × Obj} {r : List (Addr × Obj)} (m : x ∈ r) (N : News h₀ L h (a :: r)) : News h₀ L h (a :: x :: r) := fun p hp => N p (by
  rcases List.mem_cons.mp hp with h | h
  · exact h ▸ .head _
  · rcases List.mem_cons.mp h with h | h
    · exact h ▸ .tail _ m
    · exact .tail _ h)
theorem news_cons3 {h₀ h : Heap} {L : Addr} {a b c x : Addr × Obj} {r : List (Addr × Obj)} (m : x ∈ r) (N : News h₀ L h (a :: b :: c :: r)) : News h₀ L h (a :: b :: c :: x :: r) := fun p hp => N p (by
  rcases List.mem_cons.mp hp with h | hp
  · exact h ▸ .head _
  rcases List.mem_cons.mp hp with h | hp
  · exact h ▸ .tail _ (.head _)
  rcases List.mem_cons.mp hp with h | hp
  · exact h ▸ .tail _ (.tail _ (.head _))
  rcases List.mem_cons.mp hp with h | hp
  · exact h ▸ .tail _ (.tail _ (.tail _ m))
  · exact .tail _ (.tail _ (.tail _ hp)))
theorem news_few2 {h₀ h : Heap} {L : Addr} {a b : Addr × Obj} {r : List (Addr × Obj)} (N : News h₀ L h (a :: b :: r)) : News h₀ L h (a :: r) := news_skip1 N
theorem aloneR_snoc (w0 w1 : List Int) (i : Nat) : aloneR w0 w1 (i + 1) = aloneR w0 w1 i ++ [(((1 + i : Nat) : Int), colW (1 + i) w0, colW (1 + i) w1)] := by
  unfold aloneR
  rw [List.range_succ, List.map_append, List.map_cons, List.map_nil, one_cast]
theorem aloneR_len (w0 w1 : List Int) (n : Nat) : (aloneR w0 w1 n).length = n := by
  unfold aloneR
  rw [List.length_map, List.length_range]
theorem rg_hs2 {a b : Nat} (ha : a ≤ 4) (hb : b ≤ 4) : Builtin.Range.small 1 ((if (b : Int) > (a : Int) then (b : Int) else (a : Int)) + 1) 1 = true := range_small (by decide) (by split <;> omega)
theorem rg_hn2 {a b x y : Nat} (ha : a = x) (hb : b = y) : Builtin.Range.rangeSize 1 ((if (b : Int) > (a : Int) then (b : Int) else (a : Int)) + 1) 1 = ((max x y : Nat) : Int) := by
  rw [range_size, ha, hb]
  congr 1
  split
  · rw [Nat.max_eq_right (by omega)]; omega
  · rw [Nat.max_eq_left (by omega)]; omega
theorem rg_k {x y : Nat} (hx : x ≤ 4) (hy : y ≤ 4) : max x y ≤ 1000 := Nat.max_le.mpr ⟨Nat.le_trans hx (by decide), Nat.le_trans hy (by decide)⟩
theorem rg_sz {x y : Nat} (hx : x ≤ 4) (hy : y ≤ 4) : max x y ≤ sizeLine := by rw [sizeLine_eq]; exact Nat.le_trans (rg_k hx hy) (by decide)
theorem idx4 {i x y : Nat} (h : i < max x y) (hx : x ≤ 4) (hy : y ≤ 4) : 1 + i ≤ 16 := by omega
theorem leads_small (n : Nat) (h : n < 65536) : (stR (posL (apL n)) 0).1.length ≤ 60000 ∧ 0 ≤ (stR (posL (apL n)) 0).2.1 ∧ (stR (posL (apL n)) 0).2.1 ≤ 60000 := by
  have h5 : ∀ r ∈ posL (apL n), r < 5 := fun r hr => Nat.lt_of_lt_of_le (posL_lt _ r hr) (apL_len 5 n (by omega))
  exact ⟨Nat.le_trans (hist_len5 (o := 0) h5) (by decide), tr_in _ 0 (by decide)⟩
noncomputable def uneq (r : Int × Int × Int) : Bool := decide (r.2.1 ≠ r.2.2)
theorem getD_of {rows : List (Int × Int × Int)} {i : Nat} {r : Int × Int × Int} (h : rows[i]? = some r) : rows.getD i (0, 0, 0) = r := by
  rw [List.getD_eq_getElem?_getD, h]; rfl
local macro_rules | `(tactic| walk_at "dummy") => `(tactic| skip)
local macro_rules | `(tactic| walk_at $k:str) => if ["call builtin:sum", "call builtin:len", "call type:range", "call ref", "call type:enumerate", "compareOp NotEq ref ref", "compareOp Eq ref ref", "exec For Name Call cons nil", "exec For Name Call", "exec For"].contains k.getString then `(tactic| (k_here; refine Stop.intro ?_)) else if ["binaryOp Pow int int", "subscriptTail Name Slice ref ref", "pyIter ref"].contains k.getString then `(tactic| (k_here; (with_reducible first | refine pat_pow ?_ | refine pat_step ?_ | refine pat_rows ?_ | refine pat_comp ?_ | refine pat_loop ?_); refine Stop.intro ?_)) else if ["exec Assign cons ListComp", "eval ListComp", "eval IfExp"].contains k.getString then `(tactic| (k_here; (fail_if_success (with_reducible first | refine pat_cells ?_ | refine pat_cell ?_ | refine pat_tail ?_)); refine Stop.intro ?_)) else if k.getString == "MyEnd" then `(tactic| refine Stop.intro ?_) else if k.getString == "MyTurn" then `(tactic| dsimp only [MyTurn]) else Lean.Macro.throwUnsupported
set_option maxRecDepth 100000 in
set_option maxHeartbeats 8000000 in
theorem law_holds : PySem.Challenge.rw_pg0153_01.Holds := hd (by
  w_strict (k_go0; (all_goals try k_fold); k_steps)
  unfold Stop
  refine wpAny_Assign_Name ?_
  k_dflt (refine ListComp_my (by k_asm) (by decide) (by with_unfolding_all rfl) (by rfl) (by decide) ?_ (by intro _; rfl))
  k_steps
  unfold Stop
  k_dflt (refine' enum_at (by rfl) ?F ?N ?m ?sz (by decide) (by decide) rfl rfl rfl ?R)
  case F => k_asm
  case N => k_asm
  case m => k_mem
  case sz => exact Nat.le_of_ble_eq_true rfl
  case R =>
    intro D C e it h₁ h₂ hlt he hD hC
    refine crest_ints (fun _ z => 0 ≤ z ∧ z < 65536) (by k_mem) ?_ ?_
    · intro i ys own h tk E' hi hB hoc F N off
      obtain ⟨oe, oit, oC, m₂, v, tv, rfl, hoC, hv, hma, hmb, -, -⟩ := hB
      obtain ⟨zv, tz, rfl⟩ : ∃ z t, v = .int z t := by
        rcases i with _ | _ | _ | i <;> simp at hv <;> exact ⟨_, _, hv.symm⟩
      simp only [List.cons_append, List.nil_append] at N
      clear off hoc
      rename IntsAre _ (List.map _ _) => hI9
      k_steps
      unfold Stop
      obtain ⟨ms, hms⟩ := slice_ints (lo := some (i : Int)) (hi := none) (st := some 3) hI9
      k_dflt (refine' kmk_slice3_lit ?q1 ?q2 ?q3 ?q4 ?q5 ?q6 ?q7 ?q8 ?_ ?q9 ?q10 ?q11)
      case q1 => k_asm
      case q2 => k_asm
      case q3 => exact News.isList (by k_asm) (by k_mem)
      case q4 => constructor
      case q5 => constructor
      case q6 => constructor
      case q7 => decide
      case q8 => rfl
      case q9 => with_unfolding_all rfl
      case q10 => intro _; with_unfolding_all rfl
      case q11 => (rw [List.size_toArray, hI9.length, List.length_map, sizeLine_eq]; have := List.length_take_le 12 (by assumption : List Int); omega)
      intro D7 h7 F7 N7 l7
      k_steps
      unfold Stop
      k_dflt (refine' sumK ?k0 ?k1 ?k2 ?k3 ?k4 ?_; (case k0 => exact rfl); (case k1 => k_asm); (case k2 => k_asm); (case k3 => (refine' News.isList ?k5 ?k6; (case k5 => k_asm); (case k6 => k_mem))); (case k4 => assumption); k_whole)
      intro _ _ _ _ _
      k_steps
      rename Fr _ _ _ _ => F8
      rename News _ _ _ _ => N8
      exact IntBack.intro F8 N8 (fun p hp => List.mem_cons_of_mem _ hp) ⟨Int.fmod_nonneg_of_pos _ (by decide), Int.fmod_lt_of_pos _ (by decide)⟩
    · intro ys zs hI hl hz
      obtain ⟨n0, n1, n2, rfl⟩ : ∃ a b c, zs = [a, b, c] := by
        rcases zs with _ | ⟨a, _ | ⟨b, _ | ⟨c, _ | _⟩⟩⟩ <;> simp at hl
        exact ⟨a, b, c, rfl⟩
      have z0 := hz 0 n0 rfl
      have z1 := hz 1 n1 rfl
      have z2 := hz 2 n2 rfl
      clear hz hl
      obtain ⟨d0, rfl, y0⟩ := nat_of z0
      obtain ⟨d1, rfl, y1⟩ := nat_of z1
      obtain ⟨d2, rfl, y2⟩ := nat_of z2
      replace z0 : Hid (d0 < 65536) := y0
      replace z1 : Hid (d1 < 65536) := y1
      replace z2 : Hid (d2 < 65536) := y2
      clear y0 y1 y2
      cases hI with | cons _ t0 hI => ?_
      cases hI with | cons _ t1 hI => ?_
      cases hI with | cons _ t2 hI => ?_
      cases hI
      have hltA := allLt_of hlt
      simp only [AllLt] at hltA
      have hDn : @Eq Nat D (it + 2) := hD
      intro h9 tk9 F9 N9 off9
      try dsimp only
      try k_fold
      have N9 := news_drop (a := [_, _]) (news_skip1 N9)
      simp only [List.cons_append, List.nil_append] at N9
      obtain ⟨mB, -, F9⟩ := fr_gen F9
      rename IntsAre _ (List.map _ _) => hIc
      have gc := hltA.2.1
      have g5 := hltA.2.2.2.1
      have gD := Nat.lt_trans g5 (lt_two hDn)
      have gDc := Nat.lt_trans gc (lt_two hDn)
      clear off9 hlt he hD hC
      k_steps
      unfold Stop
      k_dflt (refine Assign_ListComp_my (by k_asm) (by decide) (by rfl) (by with_unfolding_all rfl) (by with_unfolding_all rfl) (by rfl) (by decide) (by rfl) (by rfl) ?_ (by intro _; rfl))
      k_steps
      unfold Stop
      rename Fr _ _ _ _ => FG
      rename News _ _ _ _ => NG
      with_unfolding_all refine range2_rows FG NG ?_
      intro _ _ _ _ _ _ _ _ _
      k_steps
      unfold Stop
      rename IsRange _ _ _ _ _ _ _ _ => hR1
      k_dflt (refine' range_cell (n := 4) ?p1 hR1 ?p2 ?p3 ?p4 ?p5 ?p6 ?p7 ?p8 ?p9 ?p10 ?_)
      case p1 => rfl
      case p2 => decide
      case p3 => decide
      case p4 => k_asm
      case p5 => k_asm
      case p6 => exact Nat.le_of_ble_eq_true rfl
      case p7 => rfl
      case p8 => intro k acc; rfl
      case p9 => intro h; rfl
      case p10 => rfl
      intro I1 D1 C1 h₁ h₂ hlt1 hD1 hC1
      have hD1n : @Eq Nat D1 (I1 + 1) := hD1
      have hlt1A := allLt_of hlt1
      simp only [AllLt] at hlt1A
      have gi := hlt1A.2.2.1
      have gD1 := Nat.lt_trans gi (lt_one hD1n)
      clear hlt1
      refine crest_exact (fun i => ((carryN d0 d1 d2 i : Nat) : Int)) (fun p hp => nomatch hp) ?_ ?_
      · intro i ys own h tk E' hi hB hoc F N off
        obtain ⟨oI, oC, m₂, v2, rfl, hoC, hPv, -⟩ := hB
        obtain ⟨u, rfl⟩ := hPv
        rw [idx1] at N ⊢
        obtain ⟨oX, hoX⟩ : ∃ o, o = cellObj (some (.int ((i + 1 : Nat) : Int) u)) := ⟨_, rfl⟩
        rw [← hoX] at N ⊢
        have hdX : oX.data = .cell (some (.int ((i + 1 : Nat) : Int) u)) := by rw [hoX]
        simp only [List.cons_append, List.nil_append] at N
        have hK := pow16_b hi
        clear hoc off
        k_steps
        unfold Stop
        k_dflt (refine ListComp_my (by k_asm) (by decide) (by with_unfolding_all rfl) (by rfl) (by decide) ?_ (by intro _; rfl))
        k_steps
        unfold Stop
        k_dflt (refine' list_name ?p1 ?p4 ?p5 ?p2 ?p6 ?p7 ?p8 ?p9 ?_)
        case p1 => rfl
        case p4 => k_asm
        case p5 => k_asm
        case p2 => k_mem
        case p6 => exact Nat.le_of_ble_eq_true rfl
        case p7 => rfl
        case p8 => decide
        case p9 => rfl
        intro I2 D2 C2 h₃ h₄ hlt2 hD2 hC2
        refine crest_exact (fun j => ((nrAt d0 d1 d2 j % 16 ^ (i + 1) : Nat) : Int)) (fun p hp => by rw [List.mem_singleton.mp hp]; k_mem) ?_ ?_
        · intro j ys2 own2 h5 tk5 E5 hj hB2 hoc2 F5 N5 off2
          obtain ⟨oI2, oC2, m₃, v3, rfl, hoC2, hPv2, hx3, -⟩ := hB2
          obtain ⟨u2, rfl⟩ : ∃ t, v3 = .int ((nrAt d0 d1 d2 j : Nat) : Int) t := by
            rcases j with _ | _ | _ | j <;> simp at hPv2 <;> exact ⟨_, hPv2.symm⟩
          have hdr := nrAt_lt j z0 z1 z2
          generalize nrAt d0 d1 d2 j = dd at *
          simp only [List.cons_append, List.nil_append] at N5
          clear hoc2 off2
          k_steps
          unfold Stop
          refine pow_int_small (pw_le hi).1 (pw_le hi).2 (by decide) ?_
          rw [Int.toNat_natCast, pow16]
          generalize 16 ^ (i + 1) = K at *
          k_steps
          rename Fr _ _ _ _ => F7
          rename News _ _ _ _ => N7
          refine IntBack.intro F7 N7 (fun p hp => hp) ?_
          exact mod_cast' dd K
        · intro ys2 hS2
          intro h9 tk9 F9 N9 off9
          clear off9
          try dsimp only
          try k_fold
          have hS3 := three_sum d0 d1 d2 (16 ^ (i + 1))
          generalize (List.map (fun j => ((nrAt d0 d1 d2 j % 16 ^ (i + 1) : Nat) : Int)) (List.range 3)) = mm at *
          k_steps
          unfold Stop
          k_dflt (refine' sumK ?k0 ?k1 ?k2 ?k3 ?k4 ?_; (case k0 => exact rfl); (case k1 => k_asm); (case k2 => k_asm); (case k3 => (refine' News.isList ?k5 ?k6; (case k5 => k_asm); (case k6 => k_mem))); (case k4 => assumption); k_whole)
          intro _ _ _ _ _
          k_steps
          unfold Stop
          refine pow_int_small (pw_le hi).1 (pw_le hi).2 (by decide) ?_
          rw [Int.toNat_natCast, pow16, hS3]
          have hcar : carryN d0 d1 d2 i = (d0 % 16 ^ (i + 1) + d1 % 16 ^ (i + 1) + d2 % 16 ^ (i + 1)) / 16 ^ (i + 1) := rfl
          have g0 := Nat.mod_lt d0 (Nat.lt_of_lt_of_le (by decide) hK.1)
          have g1 := Nat.mod_lt d1 (Nat.lt_of_lt_of_le (by decide) hK.1)
          have g2 := Nat.mod_lt d2 (Nat.lt_of_lt_of_le (by decide) hK.1)
          generalize 16 ^ (i + 1) = K at *
          k_steps
          rename Fr _ _ _ _ => F7
          rename News _ _ _ _ => N7
          refine IntBack.intro F7 N7 (fun p hp => List.mem_cons_of_mem _ hp) ?_
          rw [hcar]
          exact div_cast' _ K
      · intro ysC hSC
        clear hlt1A hD1 hC1 hD1n gi
        intro h9 tk9 F9 N9 off9
        clear off9
        try dsimp only
        try k_fold
        replace hSC : IntsAre ysC [((carryN d0 d1 d2 0 : Nat) : Int), ((carryN d0 d1 d2 1 : Nat) : Int), ((carryN d0 d1 d2 2 : Nat) : Int), ((carryN d0 d1 d2 3 : Nat) : Int)] := hSC
        k_steps
        unfold Stop
        change wpAny _ _ (call (Value.ref 87) [Value.int ((d0 : Nat) : Int) _]) _ _ _
        k_dflt (refine' Does.use (int2ap _ _ _ _ _ _ ((d0 : Nat) : Int) _ ?q0) ?q1 ?q2 ?q3 ?q4 ?q5 ?q6 ?q7 ?q8 ?_)
        case q0 => exact small64 z0
        case q1 => k_asm
        case q2 => k_asm
        case q3 => k_asm
        case q4 => k_asm
        case q5 => k_asm
        case q6 => exact rfl
        case q7 => ktr_room
        case q8 => ktr_units
        intro r71 h71 tk71 tl71 F71 N71 ho71 hP71
        obtain ⟨e71, w71, s71, e71', hw71⟩ := hP71
        subst e71 e71'
        rw [List.nil_append] at N71
        rw [Int.natAbs_natCast] at hw71
        try dsimp only
        try k_fold
        k_steps
        unfold Stop
        change wpAny _ _ (call (Value.ref 87) [Value.int (-((d1 : Nat) : Int)) _]) _ _ _
        k_dflt (refine' Does.use (int2ap _ _ _ _ _ _ (-((d1 : Nat) : Int)) _ ?q0) ?q1 ?q2 ?q3 ?q4 ?q5 ?q6 ?q7 ?q8 ?_)
        case q0 => exact small64n z1
        case q1 => k_asm
        case q2 => k_asm
        case q3 => k_asm
        case q4 => k_asm
        case q5 => k_asm
        case q6 => exact rfl
        case q7 => ktr_room
        case q8 => ktr_units
        intro r72 h72 tk72 tl72 F72 N72 ho72 hP72
        obtain ⟨e72, w72, s72, e72', hw72⟩ := hP72
        subst e72 e72'
        rw [List.nil_append] at N72
        rw [Int.natAbs_neg, Int.natAbs_natCast] at hw72
        try dsimp only
        try k_fold
        k_steps
        unfold Stop
        change wpAny _ _ (call (Value.ref 87) [Value.int ((d2 : Nat) : Int) _]) _ _ _
        k_dflt (refine' Does.use (int2ap _ _ _ _ _ _ ((d2 : Nat) : Int) _ ?q0) ?q1 ?q2 ?q3 ?q4 ?q5 ?q6 ?q7 ?q8 ?_)
        case q0 => exact small64 z2
        case q1 => k_asm
        case q2 => k_asm
        case q3 => k_asm
        case q4 => k_asm
        case q5 => k_asm
        case q6 => exact rfl
        case q7 => ktr_room
        case q8 => ktr_units
        intro r73 h73 tk73 tl73 F73 N73 ho73 hP73
        obtain ⟨e73, w73, s73, e73', hw73⟩ := hP73
        subst e73 e73'
        rw [List.nil_append] at N73
        rw [Int.natAbs_natCast] at hw73
        try dsimp only
        try k_fold
        k_steps
        unfold Stop
        rename (D1 < _ ∧ D < _ ∧ _) => hl1w
        have q1w := hl1w.1
        clear hl1w
        repeat (rename (_ < _ ∧ _) => hz; clear hz)
        repeat (rename (_ ≠ _ ∧ _) => hz; clear hz)
        clear hDn gc g5 gD gDc
        k_dflt (refine' Does.use (lawrows _ _ _ _ _ _ w71 _ ?qa ?qb) ?q1 ?q2 ?q3 ?q4 ?q5 ?q6 ?q7 ?q8 ?_)
        case qa => (rw [hw71]; exact Nat.le_trans (apL_len 4 d0 z0) (by decide))
        case qb => (rw [hw71]; exact apL_in d0)
        case q1 => k_asm
        case q2 => k_asm
        case q3 => k_asm
        case q4 => k_asm
        case q5 => k_asm
        case q6 => exact rfl
        case q7 => ktr_room
        case q8 => ktr_units
        intro r81 h81 tk81 tl81 F81 N81 ho81 hP81
        obtain ⟨l81, v81, ep81, e81, e81', hS81⟩ := hP81
        subst e81 e81'
        simp only [List.cons_append, List.nil_append] at N81
        rw [hw71, rows_ap] at hS81
        try dsimp only
        try k_fold
        k_steps
        unfold Stop
        k_dflt (refine' Does.use (lawrows _ _ _ _ _ _ w72 _ ?qa ?qb) ?q1 ?q2 ?q3 ?q4 ?q5 ?q6 ?q7 ?q8 ?_)
        case qa => (rw [hw72]; exact Nat.le_trans (apL_len 4 d1 z1) (by decide))
        case qb => (rw [hw72]; exact apL_in d1)
        case q1 => k_asm
        case q2 => k_asm
        case q3 => k_asm
        case q4 => k_asm
        case q5 => k_asm
        case q6 => exact rfl
        case q7 => ktr_room
        case q8 => ktr_units
        intro r82 h82 tk82 tl82 F82 N82 ho82 hP82
        obtain ⟨l82, v82, ep82, e82, e82', hS82⟩ := hP82
        subst e82 e82'
        simp only [List.cons_append, List.nil_append] at N82
        rw [hw72, rows_ap] at hS82
        try dsimp only
        try k_fold
        have b81 := rows_len hS81 d0 z0
        have b82 := rows_len hS82 d1 z1
        k_steps
        unfold Stop
        rename StrsAre v81 _ => hS81
        rename StrsAre v82 _ => hS82
        have hSA := strs_app hS81 hS82
        have bA : (v81 ++ v82).length ≤ 120 := len_add b81 b82
        rename News _ _ _ _ => N8
        have N8 := news_skip1 (news_skip1 N8)
        obtain ⟨vA, hvA⟩ : ∃ v, v = v81 ++ v82 := ⟨_, rfl⟩
        rw [List.toList_toArray, List.toList_toArray, ← hvA] at N8
        rw [← hvA] at hSA bA
        clear hS81 hS82 b81 b82 hvA ho71 ho72 ho73 ho81 ho82
        k_dflt (refine' Does.use (lawrows _ _ _ _ _ _ w73 _ ?qa ?qb) ?q1 ?q2 ?q3 ?q4 ?q5 ?q6 ?q7 ?q8 ?_)
        case qa => (rw [hw73]; exact Nat.le_trans (apL_len 4 d2 z2) (by decide))
        case qb => (rw [hw73]; exact apL_in d2)
        case q1 => k_asm
        case q2 => k_asm
        case q3 => k_asm
        case q4 => k_asm
        case q5 => k_asm
        case q6 => exact rfl
        case q7 => ktr_room
        case q8 => ktr_units
        intro r83 h83 tk83 tl83 F83 N83 ho83 hP83
        obtain ⟨l83, v83, ep83, e83, e83', hS83⟩ := hP83
        subst e83 e83'
        simp only [List.cons_append, List.nil_append] at N83
        rw [hw73, rows_ap] at hS83
        try dsimp only
        try k_fold
        have b83 := rows_len hS83 d2 z2
        k_steps
        rename News _ _ _ _ => N8
        have N8 := news_skip1 (news_skip1 N8)
        rename StrsAre vA _ => hSA
        rename StrsAre v83 _ => hS83
        have hSR := strs_app hSA hS83
        have bR : (vA ++ v83).length ≤ 180 := len_add bA b83
        obtain ⟨vR, hvR⟩ : ∃ v, v = vA ++ v83 := ⟨_, rfl⟩
        rw [List.toList_toArray, List.toList_toArray, ← hvR] at N8
        rw [← hvR] at hSR bR
        rw [← List.map_append, ← List.map_append] at hSR
        clear hSA hS83 bA b83 hvR ho83
        unfold Stop
        k_dflt (refine' sumK ?k0 ?k1 ?k2 ?k3 ?k4 ?_; (case k0 => exact rfl); (case k1 => k_asm); (case k2 => k_asm); (case k3 => (refine' News.isList ?k5 ?k6; (case k5 => k_asm); (case k6 => k_mem))); (case k4 => exact .cons _ _ (.cons _ _ (.cons _ _ .nil))); k_whole)
        intro _ _ _ _ _
        k_steps
        unfold Stop
        k_dflt (refine' Does.use (int2ap _ _ _ _ _ _ (((d0 : Nat) : Int) + (((d1 : Nat) : Int) + (((d2 : Nat) : Int) + 0))) _ ?q0) ?q1 ?q2 ?q3 ?q4 ?q5 ?q6 ?q7 ?q8 ?_)
        case q0 => exact small3 z0 z1 z2
        case q1 => k_asm
        case q2 => k_asm
        case q3 => k_asm
        case q4 => k_asm
        case q5 => k_asm
        case q6 => exact rfl
        case q7 => ktr_room
        case q8 => ktr_units
        intro r74 h74 tk74 tl74 F74 N74 ho74 hP74
        obtain ⟨e74, w74, s74, e74', hw74⟩ := hP74
        subst e74 e74'
        rw [List.nil_append] at N74
        rw [abs3] at hw74
        clear ho74
        try dsimp only
        try k_fold
        k_steps
        unfold Stop
        k_dflt (refine' sumK ?k0 ?k1 ?k2 ?k3 ?k4 ?_; (case k0 => exact rfl); (case k1 => k_asm); (case k2 => k_asm); (case k3 => (refine' News.isList ?k5 ?k6; (case k5 => k_asm); (case k6 => k_mem))); (case k4 => assumption); k_whole)
        intro _ _ _ _ _
        k_steps
        unfold Stop
        k_dflt (refine' len_lst_my ?k1 ?k2 ?k3 ?_; (case k1 => k_asm); (case k2 => k_mem); (case k3 => assumption); k_whole)
        k_steps
        unfold Stop
        k_dflt (refine' sumK ?k0 ?k1 ?k2 ?k3 ?k4 ?_; (case k0 => exact rfl); (case k1 => k_asm); (case k2 => k_asm); (case k3 => (refine' News.isList ?k5 ?k6; (case k5 => k_asm); (case k6 => k_mem))); (case k4 => assumption); k_whole)
        intro _ _ _ _ _
        k_steps
        unfold Stop
        generalize (List.map (fun k' : Int => k'.fmod (10 ^ Int.toNat 6)) (List.take 12 _)).sum = SC at *
        obtain ⟨tn, htn, htl⟩ := turn_nat SC vR.length
        obtain ⟨o, hov, hol⟩ := over_nat SC
        generalize SC.fmod ((vR.length : Int) + 1) = xt at *
        generalize (SC.fdiv 5).fmod 4 = xo at *
        subst htn hov
        repeat (rename (List.length _ = List.length _) => hz; clear hz)
        repeat (rename (_ < _ ∧ _) => hz; clear hz)
        rename (List.length _ = min 12 _) => hz; clear hz
        rename (List.length (List.take 12 _) ≤ _) => hz; clear hz
        rename (¬ ((63 : Nat) : Int) < _) => hz; clear hz
        have yS : Hid (d0 + d1 + d2 < 16 ^ 5) := sum_lt z0 z1 z2
        rename Fr _ _ _ _ => F8
        rename News _ _ _ _ => N8
        replace N8 := news_sel N8
        have hR5 : ∀ r ∈ posL (apL d0) ++ posL (apL d1) ++ posL (apL d2), r < 5 := fun r hr => Nat.lt_of_lt_of_le (rows_under r hr) (apL_len 5 (d0 + d1 + d2) yS)
        have hRl := strs_len hSR
        rw [List.length_map] at hRl
        k_dflt (refine' kms_slice_lit (lo := some (tn : Int)) (hi := none) ?q1 ?q2 ?q3 ?q4 ?q5 (pick_drop htl) ?_ ?q9 ?q10 ?q11)
        case q1 => k_asm
        case q2 => k_asm
        case q3 => exact News.isList (by k_asm) (by k_mem)
        case q4 => constructor
        case q5 => constructor
        case q9 => with_unfolding_all rfl
        case q10 => intro _; with_unfolding_all rfl
        case q11 => exact size_180 bR
        intro D7 h7 F7 N7 l7
        have hSD := strs_drop hSR tn
        have bD : (vR.drop tn).length = vR.length - tn := List.length_drop
        generalize vR.drop tn = vD at *
        try dsimp only
        try k_fold
        k_steps
        unfold Stop
        clear l7
        k_dflt (refine' kms_slice_lit (lo := none) (hi := some (tn : Int)) ?q1 ?q2 ?q3 ?q4 ?q5 (pick_take htl) ?_ ?q9 ?q10 ?q11)
        case q1 => k_asm
        case q2 => k_asm
        case q3 => exact News.isList (by k_asm) (by k_mem)
        case q4 => constructor
        case q5 => constructor
        case q9 => with_unfolding_all rfl
        case q10 => intro _; with_unfolding_all rfl
        case q11 => exact size_180 bR
        intro D8 h8 F8 N8 l8
        have hST := strs_take hSR tn
        have bT : (vR.take tn).length = tn := by rw [List.length_take]; exact Nat.min_eq_left htl
        generalize vR.take tn = vT at *
        have bD' : vD.length ≤ 180 := bD ▸ Nat.le_trans (Nat.sub_le _ _) bR
        have bT' : vT.length ≤ 180 := bT ▸ Nat.le_trans htl bR
        have hSQ := turned_strs hSD hST
        clear l8 hSD hST
        try dsimp only
        try k_fold
        k_steps
        show wpAny _ _ (call (.builtin "str.join") [.str _ _, .ref _]) _ _ _
        rename News _ _ _ _ => N9
        rename StrsAre (vD ++ vT) _ => hSQ
        have hQ5 := turned_under (t := tn) hR5
        obtain ⟨QR, hQR⟩ : ∃ q, q = (posL (apL d0) ++ posL (apL d1) ++ posL (apL d2)).drop tn ++ (posL (apL d0) ++ posL (apL d1) ++ posL (apL d2)).take tn := ⟨_, rfl⟩
        rw [← hQR] at hSQ hQ5
        obtain ⟨vQ, hvQ⟩ : ∃ v, v = vD ++ vT := ⟨_, rfl⟩
        rw [List.toList_toArray, List.toList_toArray, ← hvQ] at N9
        have bQ : vQ.length ≤ 180 := by rw [hvQ, List.length_append, bD, bT, Nat.sub_add_cancel htl]; exact bR
        rw [← hvQ] at hSQ
        have bQR : QR.length ≤ 180 := by
          have := strs_len hSQ
          rw [List.length_map] at this
          exact this ▸ bQ
        clear hvQ bD bT bD' bT'
        have N9 := news_skip1 (news_skip1 N9)
        refine join_listW (News.isList N9 (.head _)) (by simpa using hSQ) (by decide) (rows_weight QR hQ5 bQR) ?_
        intro tj kj
        have bJ := rows_join QR hQ5 bQR
        have hTx := text_rows QR o
        have bM := mul_len o hol
        generalize Txt.join (Str.ofString "") (QR.map fun (q : Nat) => rowS (q : Int)) = xj at *
        try dsimp only
        try k_fold
        k_steps
        unfold Stop
        repeat (rename (_ < _ ∧ _) => hz; clear hz)
        rename World => w0
        rename News _ _ _ _ => N9
        have N9 := news_tail (news_tail N9)
        clear hSQ bQ hSR hRl bR hR5 htl bQR
        k_dflt (refine' Does.use (wsnew _ _ _ _ _ _ _ _ (text_sz (n := 1083) ?qz (by decide))) ?q1 ?q2 ?q3 ?q4 ?q5 ?q6 ?q7 ?q8 ?_)
        case qz => exact app_len bJ bM
        case q1 => k_asm
        case q2 => k_asm
        case q3 => k_asm
        case q4 => exact N9
        case q5 => k_asm
        case q6 => exact rfl
        case q7 => ktr_room
        case q8 => ktr_units
        intro vH h5 tk5 tl5 F5 N5 ho5 hLH
        rw [hTx] at hLH
        have N5 := news_end0 N5
        simp only [List.cons_append, List.nil_append] at N5
        have hgt5 := ho5 _ (.head _)
        obtain ⟨rest1, hrest1⟩ : ∃ r, r = tl5 := ⟨_, rfl⟩
        rw [← hrest1] at N5 hLH hgt5
        replace hgt5 : AllGt _ rest1 := hgt5
        clear ho5 hrest1 hTx bJ
        rename ((o : Int) < 0 → _) => hz1
        rename (0 ≤ (o : Int) → _) => hz2
        rename (_ ≤ (_ ++ _ : Str).length ∧ _) => hz3
        clear hz1 hz2 hz3 bM
        try dsimp only
        try k_fold
        k_steps
        unfold Stop
        dsimp only at hgt5
        k_dflt (refine' Does.use (lawrows _ _ _ _ _ _ w74 _ ?qa ?qb) ?q1 ?q2 ?q3 ?q4 ?q5 ?q6 ?q7 ?q8 ?_)
        case qa => (rw [hw74]; exact apL_len 5 (d0 + d1 + d2) yS)
        case qb => (rw [hw74]; exact apL_in (d0 + d1 + d2))
        case q1 => k_asm
        case q2 => k_asm
        case q3 => k_asm
        case q4 => k_asm
        case q5 => k_asm
        case q6 => exact rfl
        case q7 => ktr_room
        case q8 => ktr_units
        intro r84 h84 tk84 tl84 F84 N84 ho84 hP84
        obtain ⟨l84, v84, ep84, e84, e84', hS84⟩ := hP84
        subst e84 e84'
        simp only [List.cons_append, List.nil_append] at N84
        rw [hw74, rows_ap] at hS84
        clear ho84
        try dsimp only
        try k_fold
        k_steps
        show wpAny _ _ (call (.builtin "str.join") [.str _ _, .ref _]) _ _ _
        rename News _ _ _ _ => N9
        rename StrsAre v84 _ => hS84
        have hW5 : ∀ r ∈ posL (apL (d0 + d1 + d2)), r < 5 := fun r hr => Nat.lt_of_lt_of_le (posL_lt _ r hr) (apL_len 5 (d0 + d1 + d2) yS)
        have bW : Hid ((posL (apL (d0 + d1 + d2))).length ≤ 180) := posL_small (apL_len 5 (d0 + d1 + d2) yS)
        refine join_listW (News.isList N9 (.head _)) (by simpa using hS84) (by decide) (rows_weight _ hW5 bW) ?_
        intro tj2 kj2
        have bJ := rows_join _ hW5 bW
        have hTx := text_rows (posL (apL (d0 + d1 + d2))) o
        have bM := mul_len o hol
        generalize Txt.join (Str.ofString "") ((posL (apL (d0 + d1 + d2))).map fun (q : Nat) => rowS (q : Int)) = xj2 at *
        try dsimp only
        try k_fold
        k_steps
        unfold Stop
        rename News _ _ _ _ => N9
        have N9 := news_tail N9
        k_dflt (refine' Does.use (wsnew _ _ _ _ _ _ _ _ (text_sz (n := 1083) ?qz (by decide))) ?q1 ?q2 ?q3 ?q4 ?q5 ?q6 ?q7 ?q8 ?_)
        case qz => exact app_len bJ bM
        case q1 => k_asm
        case q2 => k_asm
        case q3 => k_asm
        case q4 => exact N9
        case q5 => k_asm
        case q6 => exact rfl
        case q7 => ktr_room
        case q8 => ktr_units
        intro vW h5 tk5 tl5 F5 N5 ho5 hLW
        rw [hTx] at hLW
        have N5 := news_end (a := [_, _, _, _]) (r := rest1) N5
        simp only [List.cons_append, List.nil_append] at N5
        have hgtN := ho5 _ (.head _)
        obtain ⟨rest2, hrest2⟩ : ∃ r, r = rest1 ++ tl5 := ⟨_, rfl⟩
        have mA : ∀ p ∈ rest1, p ∈ rest2 := fun p hp => by rw [hrest2]; exact List.mem_append_left _ hp
        have mB : ∀ p ∈ tl5, p ∈ rest2 := fun p hp => by rw [hrest2]; exact List.mem_append_right _ hp
        have hgt6 := AllGt.app hgt5 hgtN
        rw [← hrest2] at N5 hgt6
        replace hLH := hLH.mono mA
        replace hLW := hLW.mono mB
        rename ((o : Int) < 0 → _) => hz1
        rename (0 ≤ (o : Int) → _) => hz2
        rename (_ ≤ (_ ++ _ : Str).length ∧ _) => hz3
        clear hz1 hz2 hz3 bM ho5 hrest2 hTx bJ mA mB hgt5 hgtN hS84
        try dsimp only
        try k_fold
        k_steps
        have hLW' := hLW
        obtain ⟨wx, wd, wT, wc, wv, wr, f00, f01, f02, f03, j00, j01, j02, j03, j04, wep, rfl, n00, n01, n02, n03, nI⟩ := hLW'
        k_steps
        unfold Stop
        k_dflt (refine ListComp_my (by k_asm) (by decide) (by with_unfolding_all rfl) (by rfl) (by decide) ?_ (by intro _; rfl))
        k_steps
        have hw5 : Hid ((KBw.bInts w74).length ≤ 5) := by show _ ≤ 5; rw [hw74]; exact apL_len 5 (d0 + d1 + d2) yS
        k_dflt (refine' bytes_name ?p1 ?p2 ?p3 ?p4 ?p5 ?p6 ?p7 ?_)
        case p1 => rfl
        case p2 => k_asm
        case p3 => k_asm
        case p4 => exact size_5 hw5
        case p5 => rfl
        case p6 => decide
        case p7 => rfl
        intro IL DL CL h₁ h₂ hltL hDL hCL
        refine crest_exact (fun i => (KBw.bInts w74).getD i 0 - 65) (fun p hp => nomatch hp) ?_ ?_
        · intro i ys own h tk E' hi hB hoc F N off
          obtain ⟨oI, oC, m₂, v, rfl, hoC, hPv, hx2, -⟩ := hB
          obtain ⟨c, u, hc, rfl⟩ := hPv
          simp only [List.cons_append, List.nil_append] at N
          have hbig : c.toNat < 256 := c.toBitVec.isLt
          have hn' : (KBw.bInts w74)[i]? = some (c.toNat : Int) := KBw.ints_get hc
          clear hoc off
          k_steps
          rename Fr _ _ _ _ => F7
          rename News _ _ _ _ => N7
          refine IntBack.intro F7 N7 (fun p hp => hp) ?_
          rw [List.getD_eq_getElem?_getD, hn']
          rfl
        · intro ysW hSW
          rw [sum_range _ _ (KBw.ints_length w74).symm, hw74] at hSW
          intro h9 tk9 F9 N9 off9
          clear off9
          try dsimp only
          try k_fold
          k_steps
          rename Fr _ _ _ _ => F8
          rename News _ _ _ _ => N8
          rename (_ ∧ _ ∧ _ ∧ _ ∧ _ ∧ AllLt _ rest2) => hl9
          refine tuple_rev_my (by rfl) F8 N8 (fun p hp => by refine Nat.ne_of_lt (ktn_ltOf ?_ p hp); exact hl9) (.head _) (by rfl) (by rfl) ?_ ?_
          · rw [hSW.length, List.length_map, ← hw74]
            exact Nat.le_trans hw5 (by decide)
          clear hl9
          intro D9 h9 tk9 F9 N9 hl9
          have hl9A := allLt_of hl9
          have N9 := news_skip1b N9
          clear hl9
          try dsimp only
          try k_fold
          k_steps
          unfold Stop
          rename News _ _ _ _ => N9
          have r1 : Reads _ (.ref wT) (normData (stR (posL (apL (d0 + d1 + d2))) o)) [] := reads_tuple_at (N9 _ (.tail _ (.tail _ (.tail _ (.tail _ (.tail _ (.tail _ n02))))))).1 rfl rfl (.cons (reads_tuple_at (N9 _ (.tail _ (.tail _ (.tail _ (.tail _ (.tail _ (.tail _ n03))))))).1 rfl rfl (reads_ints nI)) (.cons (.int _ _) .nil))
          have r2 := norm_word hSW (N9 _ (.tail _ (.head _))).1 (N9 _ (.head _)).1
          refine ne_dataH r1 r2 (norm_shaped _) (norm_shaped _) (by ktr_units) ?_
          rw [norm_same]
          have N9 := news_tail (news_tail N9)
          clear r1 r2 hl9A hSW hDL hCL hltL n00 n01 n02 n03 nI
          repeat (rename (_ < _ ∧ _) => hz; clear hz)
          k_steps
          unfold Stop
          rename Fr _ _ _ _ => F8
          (with_unfolding_all refine' For_invVF F8 ?k1 ?k2 ?_; (case k1 => exact rfl); (case k2 => exact rfl); k_whole)
          have hw5n : (KBw.bInts w74).length ≤ 5 := hw5
          k_steps
          unfold Stop
          refine' KBw.len_K (ks := KBw.bInts _) rfl ?z9 ?_
          case z9 => omega
          clear hw5n
          k_steps
          unfold Stop
          rename Fr _ _ _ _ => FG
          rename News _ _ _ _ => NG
          with_unfolding_all refine range2_rows FG NG ?_
          intro _ _ _ _ _ _ _ _ _
          k_steps
          unfold Stop
          rename Fr _ _ _ _ => F9
          rename News _ _ _ _ => N9
          rename IsRange _ _ _ _ _ _ _ _ => hRt
          obtain ⟨lt, elt⟩ := news_name1 N9
          subst elt
          rename (_ ∧ _ ∧ _ ∧ _ ∧ AllLt lt rest2) => hlt6
          obtain ⟨B', C', D', E', hB', hC', hD', hE', N9⟩ := news_split N9
          have hcs3 := carry_in d0 d1 d2
          have hlenW : (KBw.bInts w74).length = (apL (d0 + d1 + d2)).length := by rw [hw74]
          obtain ⟨m9, hm9, F9⟩ := fr_gen F9
          with_unfolding_all
           refine' for_range (σ := TbC) (n := max (apL (d0 + d1 + d2)).length (o + 1)) (fun c => (lt, W.listOf c.vs.toArray c.ep) :: B' :: C' :: D' :: E' :: (c.tl ++ rest2)) (fun _ => [(Str.ofString "table", .ref lt)]) [Str.ofString "column"] (fun i c => TabIn c.tl c.vs (tabW (apL (d0 + d1 + d2)) o [((carryN d0 d1 d2 0 : Nat) : Int), ((carryN d0 d1 d2 1 : Nat) : Int), ((carryN d0 d1 d2 2 : Nat) : Int), ((carryN d0 d1 d2 3 : Nat) : Int)] i) ∧ AllGt lt c.tl ∧ c.vs.length ≤ i) ⟨[], _, []⟩ (by rfl) hRt ?hs ?hn F9 N9 ?hk ?hp ?_ ?_
          case hs => exact rg_hs hw5 hol
          case hn => exact rg_hn hlenW
          case hk => exact List.forall_mem_cons.mpr ⟨by rw [hm9]; rfl, List.forall_mem_nil _⟩
          case hp => exact ⟨.nil, List.forall_mem_nil _, Nat.le_refl _⟩
          · subst hm9
            intro I c i ti u h9 tk9 oI hltI hi hP hoff F9 N9
            obtain ⟨cvs, cep, ctl⟩ := c
            obtain ⟨hT, hG, hci⟩ := hP
            dsimp only at hT hG F9 N9 hoff hci
            dsimp only [kstB] at F9
            rw [one_cast] at F9
            have hi5 : 1 + i ≤ 16 := idx5 hi (hlenW ▸ hw5) hol
            obtain ⟨rest, hrest⟩ : ∃ r, r = B' :: C' :: D' :: E' :: (ctl ++ rest2) := ⟨_, rfl⟩
            have hoI : @Ne Nat lt I := hoff _ (List.mem_cons_self)
            have hoR : ∀ p ∈ rest, p.1 ≠ I := fun p hp => hoff p (.tail _ (hrest ▸ hp))
            have hrl : ∀ p ∈ rest, p.1 ≠ lt := fun p hp => by
              rw [hrest, hB', hC', hD', hE'] at hp
              rcases List.mem_cons.mp hp with rfl | hp
              · exact Nat.ne_of_lt hlt6.1
              rcases List.mem_cons.mp hp with rfl | hp
              · exact Nat.ne_of_lt hlt6.2.1
              rcases List.mem_cons.mp hp with rfl | hp
              · exact Nat.ne_of_lt hlt6.2.2.1
              rcases List.mem_cons.mp hp with rfl | hp
              · exact Nat.ne_of_lt hlt6.2.2.2.1
              exact (List.mem_append.mp hp).elim (fun h => Nat.ne_of_gt (hG p h)) (fun h => Nat.ne_of_lt (ktn_ltOf hlt6.2.2.2.2 p h))
            have mD1 : (D1, LCg.lst ysC) ∈ rest := by rw [hrest, hC']; exact .tail _ (.head _)
            rw [← hrest] at N9
            clear hltI
            k_steps
            unfold Stop
            k_dflt (refine' Does.use (lawcol _ _ _ _ _ _ w74 _ (1 + i) _ hw5 ?qr (Nat.le_add_right 1 i) hi5) ?q1 ?q2 ?q3 ?q4 ?q5 ?q6 ?q7 ?q8 ?_)
            case qr => (rw [hw74]; exact fun c hc => apL_in _ c hc)
            case q1 => k_asm
            case q2 => k_asm
            case q3 => k_asm
            case q4 => k_asm
            case q5 => k_asm
            case q6 => exact rfl
            case q7 => ktr_room
            case q8 => ktr_units
            intro r7 h7 tk7 tl7 F7 N7 ho7 hP7
            obtain ⟨e5, t7, e6⟩ := hP7
            subst e5 e6
            rw [List.nil_append] at N7
            rw [hw74]
            clear ho7
            try dsimp only
            try k_fold
            k_steps
            unfold Stop
            k_dflt (refine' Does.use (lawtaken _ _ _ _ _ _ D1 ysC ysC.length _ ((1 + i : Nat) : Int) _ ?qm hSC rfl hcs3 (idx_in hi5).1 (idx_in hi5).2) ?q1 ?q2 ?q3 ?q4 ?q5 ?q6 ?q7 ?q8 ?_)
            case q1 => k_asm
            case q2 => k_asm
            case q3 => k_asm
            case q4 => k_asm
            case q5 => k_asm
            case q6 => exact rfl
            case q7 => ktr_room
            case q8 => ktr_units
            case qm => exact .tail _ (.tail _ mD1)
            intro r8 h8 tk8 tl8 F8 N8 ho8 hP8
            obtain ⟨e5, t8, e6⟩ := hP8
            subst e5 e6
            rw [List.nil_append] at N8
            clear ho8
            try dsimp only
            try k_fold
            k_steps
            unfold Stop
            rename Fr _ _ _ _ => F7
            rename News _ _ _ _ => N7
            obtain ⟨DT, eDT⟩ := news_name1 N7
            subst eDT
            try simp only [List.push_toArray] at N7
            rename ((I < DT) ∧ (lt < DT) ∧ _) => hord
            have hIn : @LT.lt Nat _ I DT := hord.1
            have hln : @LT.lt Nat _ lt DT := hord.2.1
            subst hrest
            refine MyEnd.intro ⟨cvs ++ [.ref DT], _, (DT, _) :: ctl⟩ F7 N7 (by kst_all) (by k_mem) mem_tab ?_ (by kst_same) ⟨?_, List.forall_mem_cons.mpr ⟨hln, hG⟩, ?_⟩
            · intro p hp
              rcases List.mem_cons.mp hp with rfl | hp
              · exact hoI
              rcases mem_led5 p hp with rfl | hp
              · exact Nat.ne_of_gt hIn
              · exact hoR p hp
            · rw [tabW_snoc]
              exact (hT.mono fun p hp => List.mem_cons_of_mem _ hp).snoc List.mem_cons_self
            · dsimp only
              rw [List.length_append, List.length_singleton]
              exact Nat.succ_le_succ hci
          · subst hm9 hB' hC' hD' hE'
            intro c u h9 tk9 hP F9 N9
            obtain ⟨cvs, cep, ctl⟩ := c
            obtain ⟨hT, hG, hci⟩ := hP
            dsimp only at hT hG F9 N9 hci
            dsimp only [kstB] at F9
            obtain ⟨rest, hrest⟩ : ∃ r, r = ctl ++ rest2 := ⟨_, rfl⟩
            have mA : ∀ p ∈ ctl, p ∈ rest := fun p hp => by rw [hrest]; exact List.mem_append_left _ hp
            have mB : ∀ p ∈ rest2, p ∈ rest := fun p hp => by rw [hrest]; exact List.mem_append_right _ hp
            have hlwt : @LT.lt Nat _ _ lt := hlt6.1
            have hgt7 := AllGt.app (AllGt.low hG hlwt) hgt6
            rw [← hrest] at N9 hgt7
            replace hT := hT.mono mA
            replace hLH := hLH.mono mB
            replace hLW := hLW.mono mB
            have hv1k : Hid (cvs.length ≤ 1000) := tab_short hci (hlenW ▸ hw5) hol
            clear hgt6 hG hrest mA mB hRt hcs3 hlt6 hci
            have hLH' := hLH
            have hLW' := hLW
            obtain ⟨hx, hd', hT', hc', hv', hr', g00, g01, g02, g03, k00, k01, k02, k03, k04, hep, rfl, m00, m01, -, -, -⟩ := hLH'
            obtain ⟨wx', wd', wT', wc', wv', wr', f00, f01, f02, f03, j00, j01, j02, j03, j04, wep', eW, n00, n01, -, -, -⟩ := hLW'
            obtain rfl : wx = wx' := by injection eW
            clear eW
            have hpair : ∀ f, rsum f QR = rsum f (posL (apL (d0 + d1 + d2))) + takenW f (carryN d0 d1 d2 0) (carryN d0 d1 d2 1) (carryN d0 d1 d2 2) (carryN d0 d1 d2 3) := fun f => by
              rw [hQR, rsum_turn, rsum_app, rsum_app, sum_rows f z0 z1 z2]
            have sH : Hid (_ ∧ _) := small_of (o := o) hQ5 hol
            have sW : Hid (_ ∧ _) := small_of (o := o) hW5 hol
            clear hol hw5 hlenW
            k_steps
            unfold Stop
            k_dflt (refine' sumK ?k0 ?k1 ?k2 ?k3 ?k4 ?_; (case k0 => exact rfl); (case k1 => k_asm); (case k2 => k_asm); (case k3 => (refine' News.isList ?k5 ?k6; (case k5 => k_asm); (case k6 => k_mem))); (case k4 => assumption); k_whole)
            intro _ _ _ _ _
            k_steps
            unfold Stop
            clear gD1 q1w hlwt
            repeat (rename (_ < _ ∧ _) => hz; clear hz)
            rename Obj.data _ = Data.cell (some (Value.bool _)) => hcell
            rw [carry_dec] at hcell
            have hQu : ∀ r ∈ QR, r < (apL (d0 + d1 + d2)).length := by rw [hQR]; exact turned_under rows_under
            obtain ⟨cb, hcb⟩ : ∃ b, b = decide (0 < carryN d0 d1 d2 0 + carryN d0 d1 d2 1 + carryN d0 d1 d2 2 + carryN d0 d1 d2 3) := ⟨_, rfl⟩
            rw [← hcb] at hcell
            obtain ⟨stH, hstH⟩ : ∃ s, s = stR QR o := ⟨_, rfl⟩
            obtain ⟨stW, hstW⟩ : ∃ s, s = stR (posL (apL (d0 + d1 + d2))) o := ⟨_, rfl⟩
            obtain ⟨Tw, hTw⟩ : ∃ t, t = tabW (apL (d0 + d1 + d2)) o [((carryN d0 d1 d2 0 : Nat) : Int), ((carryN d0 d1 d2 1 : Nat) : Int), ((carryN d0 d1 d2 2 : Nat) : Int), ((carryN d0 d1 d2 3 : Nat) : Int)] (max (apL (d0 + d1 + d2)).length (o + 1)) := ⟨_, rfl⟩
            have eL : lessB stW stH = cb := by rw [hstH, hstW, hcb]; exact pair_less hpair
            have eN : lessB stH stW = false := by rw [hstH, hstW]; exact pair_not_less hpair
            have eE : (decide (stW.1 = stH.1) && decide (stW.2.1 = stH.2.1)) = !cb := by rw [hstH, hstW, hcb]; exact pair_equal hpair
            have e1 : rnl stH stW ((max (longest stH) (longest stW)).toNat + 1) = Tw := by rw [hstH, hstW, nl_heap hpair, width_pair hQu, tab_eq, hTw]
            have e2 : rnl stW stH ((max (longest stW) (longest stH)).toNat + 1) = (if cb = true then [] else Tw) := by rw [hstH, hstW, nl_whole hpair, width_pair' hQu, tab_eq, if_dec hcb, hTw]
            have e3 : rne stW stH ((max (longest stW) (longest stH)).toNat + 1) = (Tw.filter fun _ => cb).map swp := by rw [hstH, hstW, ne_whole hpair, width_pair' hQu, tab_eq, if_dec hcb, ← out_swp, hTw]
            rw [← hstH] at hLH sH
            rw [← hstW] at hLW sW
            rw [← hTw] at hT
            clear hpair hQu hQR hQ5 hW5 hcb hstH hstW hTw hgt7 bW
            rename News _ _ _ _ => N9
            obtain ⟨r0, mlt, mlw, mc4, mc3, mr0, Nr0⟩ := news_pack N9
            clear N9
            replace hLH := hLH.mono mr0
            replace hLW := hLW.mono mr0
            replace hT := hT.mono mr0
            replace m00 := mr0 _ m00
            replace m01 := mr0 _ m01
            replace n00 := mr0 _ n00
            replace n01 := mr0 _ n01
            clear mr0
            k_dflt (refine' Does.use (lessc _ _ _ _ _ _ _ _ _ _ ?qL ?qM sW.1 sH.1 sW.2 sH.2) ?q1 ?q2 ?q3 ?q4 ?q5 ?q6 ?q7 ?q8 ?_)
            case q1 => k_asm
            case q2 => k_asm
            case q3 => k_asm
            case q4 => k_asm
            case q5 => k_asm
            case q6 => exact rfl
            case q7 => ktr_room
            case q8 => ktr_units
            case qL => exact hLW.mono fun _ hp => by (repeat (first | exact hp | apply List.mem_cons_of_mem))
            case qM => exact hLH.mono fun _ hp => by (repeat (first | exact hp | apply List.mem_cons_of_mem))
            intro r8 h8 tk8 tl8 F8 N8 ho8 hP8
            rw [eL] at hP8
            subst hP8
            have N8 := news_right N8
            clear ho8
            try dsimp only
            try k_fold
            k_steps
            unfold Stop
            k_dflt (refine' Does.use (lessc _ _ _ _ _ _ _ _ _ _ ?qL ?qM sH.1 sW.1 sH.2 sW.2) ?q1 ?q2 ?q3 ?q4 ?q5 ?q6 ?q7 ?q8 ?_)
            case q1 => k_asm
            case q2 => k_asm
            case q3 => k_asm
            case q4 => k_asm
            case q5 => k_asm
            case q6 => exact rfl
            case q7 => ktr_room
            case q8 => ktr_units
            case qL => exact hLH.mono fun _ hp => by (repeat (first | exact hp | apply List.mem_cons_of_mem))
            case qM => exact hLW.mono fun _ hp => by (repeat (first | exact hp | apply List.mem_cons_of_mem))
            intro r8 h8 tk8 tl8 F8 N8 ho8 hP8
            rw [eN] at hP8
            subst hP8
            have N8 := news_right N8
            clear ho8
            try dsimp only
            try k_fold
            k_steps
            unfold Stop
            k_dflt (refine' Does.use (equalc _ _ _ _ _ _ _ _ stW stH ?qL ?qM) ?q1 ?q2 ?q3 ?q4 ?q5 ?q6 ?q7 ?q8 ?_)
            case q1 => k_asm
            case q2 => k_asm
            case q3 => k_asm
            case q4 => k_asm
            case q5 => k_asm
            case q6 => exact rfl
            case q7 => ktr_room
            case q8 => ktr_units
            case qL => exact hLW.mono fun _ hp => by (repeat (first | exact hp | apply List.mem_cons_of_mem))
            case qM => exact hLH.mono fun _ hp => by (repeat (first | exact hp | apply List.mem_cons_of_mem))
            intro r8 h8 tk8 tl8 F8 N8 ho8 hP8
            obtain ⟨e8, e9⟩ := hP8
            rw [eE] at e9
            subst e8 e9
            rw [List.nil_append] at N8
            clear ho8 eL eN eE
            try dsimp only
            try k_fold
            k_steps
            unfold Stop
            rename News _ _ _ _ => N9
            have r1 := reads_tuple_at (N9 _ (.tail _ (.head _))).1 rfl rfl (.cons (.bool cb) (.cons (.bool false) (.cons (.bool (!cb)) .nil)))
            have r2 := reads_tuple_at (N9 _ (.head _)).1 rfl rfl (.cons (.bool cb) (.cons (.bool false) (.cons (.bool (!cb)) .nil)))
            refine ne_dataH r1 r2 (bools_shaped _) (bools_shaped _) (by ktr_units) ?_
            rw [bools_same]
            have N9 := news_tail (news_tail N9)
            clear r1 r2
            repeat (rename (_ < _ ∧ _) => hz; clear hz)
            k_steps
            unfold Stop
            k_dflt (refine' Does.use (wnl _ _ _ _ _ _ _ _ stH stW ?qL ?qM sH.1 sW.1 sH.2 sW.2) ?q1 ?q2 ?q3 ?q4 ?q5 ?q6 ?q7 ?q8 ?_)
            case q1 => k_asm
            case q2 => k_asm
            case q3 => k_asm
            case q4 => k_asm
            case q5 => k_asm
            case q6 => exact rfl
            case q7 => ktr_room
            case q8 => ktr_units
            case qL => exact hLH.mono fun _ hp => by (repeat (first | exact hp | apply List.mem_cons_of_mem))
            case qM => exact hLW.mono fun _ hp => by (repeat (first | exact hp | apply List.mem_cons_of_mem))
            intro r8 h8 tk8 tl8 F8 N8 ho8 hP8
            obtain ⟨lN, vN, epN, e8, -, hmN, hTN⟩ := hP8
            subst e8
            rw [e1] at hTN
            have r1 := tab_reads N8 (List.mem_append_left _ hmN) (hTN.mono fun p hp => List.mem_append_left _ hp)
            have r2 := tab_reads N8 (List.mem_append_right _ mlt) (hT.mono fun p hp => List.mem_append_right _ hp)
            have N8 := news_right N8
            clear ho8 hmN hTN e1
            try dsimp only
            try k_fold
            k_steps
            unfold Stop
            refine ne_dataH r1 r2 (tab_shaped _) (tab_shaped _) (by ktr_units) ?_
            rw [tab_same]
            clear r1 r2
            k_steps
            unfold Stop
            k_dflt (refine' Does.use (wnl _ _ _ _ _ _ _ _ stW stH ?qL ?qM sW.1 sH.1 sW.2 sH.2) ?q1 ?q2 ?q3 ?q4 ?q5 ?q6 ?q7 ?q8 ?_)
            case q1 => k_asm
            case q2 => k_asm
            case q3 => k_asm
            case q4 => k_asm
            case q5 => k_asm
            case q6 => exact rfl
            case q7 => ktr_room
            case q8 => ktr_units
            case qL => exact hLW.mono fun _ hp => by (repeat (first | exact hp | apply List.mem_cons_of_mem))
            case qM => exact hLH.mono fun _ hp => by (repeat (first | exact hp | apply List.mem_cons_of_mem))
            intro r8 h8 tk8 tl8 F8 N8 ho8 hP8
            obtain ⟨lN, vN, epN, e8, -, hmN, hTN⟩ := hP8
            subst e8
            rw [e2] at hTN
            obtain ⟨r2, mB, mA, N8⟩ := news_pack2 N8
            replace hmN := mB _ hmN
            replace hTN := hTN.mono mB
            have hT' := hT.mono mA
            have mlt' := mA _ mlt
            have mc4' := mA _ mc4
            clear ho8 mB e2
            try dsimp only
            try k_fold
            k_steps
            unfold Stop
            rename Fr _ _ _ _ => FI
            rename News _ _ _ _ => NI
            refine wp_tab FI NI (if cb = true then [] else Tw) ?_ ?_
            · rcases cb with _ | _
              · k_steps
                exact TailBack.intro [] FI NI (fun _ _ _ h => nomatch h) ⟨lt, cvs, cep, rfl, mlt', by first | (rw [if_neg Bool.false_ne_true]; exact hT') | (rw [if_neg not_false]; exact hT')⟩
              · k_steps
                rename Fr _ _ _ _ => F10
                rename News _ _ _ _ => N10
                obtain ⟨DE, eDE⟩ := news_name1 N10
                subst eDE
                rename (∀ p ∈ r2, _) => hlDE
                exact TailBack.intro [(DE, _)] F10 N10 (fun q hq p hp => by rw [List.mem_singleton.mp hp]; exact hlDE q hq) ⟨DE, [], 0, rfl, .head _, by first | (rw [if_pos rfl]; exact .nil) | (rw [if_pos trivial]; exact .nil)⟩
            · intro yI h10 tk10 tl10 F10 N10 ho10 hJ10
              obtain ⟨lB, vB, epB, eB, hmB, hTB⟩ := hJ10
              subst eB
              have r1 := tab_reads N10 (List.mem_append_right _ hmN) (hTN.mono fun p hp => List.mem_append_right _ hp)
              have r2' := tab_reads N10 hmB hTB
              have N10 := news_in (news_right N10) mA
              clear ho10 hTB hmB hmN hTN hT' mA mlt' mc4'
              try dsimp only
              try k_fold
              k_steps
              unfold Stop
              refine ne_dataH r1 r2' (tab_shaped _) (tab_shaped _) (by ktr_units) ?_
              rw [tab_same]
              clear r1 r2'
              repeat (rename (_ < _ ∧ _) => hz; clear hz)
              k_steps
              unfold Stop
              k_dflt (refine' Does.use (wne _ _ _ _ _ _ _ _ stW stH ?qL ?qM sW.1 sH.1 sW.2 sH.2) ?q1 ?q2 ?q3 ?q4 ?q5 ?q6 ?q7 ?q8 ?_)
              case q1 => k_asm
              case q2 => k_asm
              case q3 => k_asm
              case q4 => k_asm
              case q5 => k_asm
              case q6 => exact rfl
              case q7 => ktr_room
              case q8 => ktr_units
              case qL => exact hLW.mono fun _ hp => by (repeat (first | exact hp | apply List.mem_cons_of_mem))
              case qM => exact hLH.mono fun _ hp => by (repeat (first | exact hp | apply List.mem_cons_of_mem))
              intro r8 h8 tk8 tl8 F8 N8 ho8 hP8
              obtain ⟨lN, vN, epN, e8, -, hmN, hTN⟩ := hP8
              subst e8
              rw [e3] at hTN
              obtain ⟨r2, mB, mA, N8⟩ := news_pack2 N8
              replace hmN := mB _ hmN
              replace hTN := hTN.mono mB
              have hT' := hT.mono mA
              have mlt' := mA _ mlt
              have mc4' := mA _ mc4
              clear ho8 mB e3
              try dsimp only
              try k_fold
              k_steps
              unfold Stop
              k_dflt (refine ListComp_my (by k_asm) (by decide) (by with_unfolding_all rfl) (by rfl) (by decide) ?_ (by intro _; rfl))
              k_steps
              unfold Stop
              rename News _ _ _ _ => N5
              k_dflt (refine' tab_src ?p1 ?p4 N5 mlt' hT' ?p5 ?p6 ?p7 ?p8 ?p9 ?p10 ?p11 ?p12 ?p13 ?p14 ?_)
              case p1 => rfl
              case p4 => k_asm
              case p5 => exact fun p hp => hp
              case p6 => exact hv1k
              case p7 => rfl
              case p8 => decide
              case p9 => rfl
              case p10 => rfl
              case p11 => rfl
              case p12 => decide
              case p13 => decide
              case p14 => decide
              intro IL DL CL h₁ h₂ hltL hDL hCL
              refine crest_iftail (fun i ys tl => TabIn tl ys (outR (fun _ => cb) swp Tw i)) (fun _ => cb) ?s1 ?s2 .nil nmt_cov ?_ ?_ ?_ ?_
              case s1 => exact List.forall_mem_cons.mpr ⟨mlt', fun p hp => hp⟩
              case s2 => exact fun tl hS p hp => List.mem_append_right _ (hS p hp)
              · intro i ys tl own h tk E' hi hB hoc F N hord
                obtain ⟨oI, oC, m₂, x, y, z, rfl, hoC, hR, hxa, hxb, hxc, -⟩ := hB
                simp only [List.cons_append, List.nil_append] at N
                obtain ⟨restA, hrestA, N⟩ := news_hide N
                have mc4'' := mem_of_app mc4' hrestA
                clear hoc hord
                k_steps
                rename Fr _ _ _ _ => F7
                rename News _ _ _ _ => N7
                subst hrestA
                exact BoolBack.intro F7 N7 (fun p hp => hp) rfl
              · intro i ys tl hi hp hJ
                show TabIn tl ys (outR (fun _ => cb) swp Tw (i + 1))
                rw [outR_no (List.getElem?_eq_getElem hi) hp]
                exact hJ
              · intro i ys tl own h tk E' hi hp hJ hB hoc F N hord
                obtain ⟨oI, oC, m₂, x, y, z, rfl, hoC, hR, hxa, hxb, hxc, -⟩ := hB
                obtain ⟨r, tx, ty, tz, hr, rfl, rfl, rfl⟩ := hR
                simp only [List.cons_append, List.nil_append] at N
                obtain ⟨restA, hrestA, N⟩ := news_hide N
                have mc4'' := mem_of_app mc4' hrestA
                clear hoc hord
                k_steps
                rename Fr _ _ _ _ => F7
                rename News _ _ _ _ => N7
                obtain ⟨DT, eDT⟩ := news_name1 N7
                subst eDT
                rename ((IL < DT) ∧ _) => hord9
                subst hrestA
                refine TailBack.intro [(DT, _)] F7 N7 (fun q hq p hp => ?_) ?_
                · rw [List.mem_singleton.mp hp]
                  refine ktn_ltOf ?_ q hq
                  exact hord9
                · show TabIn ([(DT, _)] ++ tl) (ys ++ [.ref DT]) (outR (fun _ => cb) swp Tw (i + 1))
                  rw [outR_yes hr hp]
                  exact (hJ.mono fun p hp => .tail _ hp).snoc (.head _)
              · intro ysT tlT hJ hord
                intro h9 tk9 F9 N9 off9
                clear off9 hord
                replace hJ : TabIn tlT ysT (outR (fun _ => cb) swp Tw Tw.length) := hJ
                rw [outR_all] at hJ
                have r1 := tab_reads N9 (.tail _ (List.mem_append_right _ hmN)) (hTN.mono fun p hp => .tail _ (List.mem_append_right _ hp))
                have r2' := tab_reads (vs := ysT) (ep := ysT.length) N9 (.head _) (hJ.mono fun p hp => .tail _ (List.mem_append_left _ hp))
                have N9 := news_in (news_right (news_tail N9)) mA
                clear hltL hDL hCL hJ hmN hTN hT' mA mlt' mc4'
                try dsimp only
                try k_fold
                k_steps
                unfold Stop
                refine ne_dataH r1 r2' (tab_shaped _) (tab_shaped _) (by ktr_units) ?_
                rw [tab_same]
                clear r1 r2'
                repeat (rename (_ < _ ∧ _) => hz; clear hz)
                k_steps
                unfold Stop
                rename Fr _ _ _ _ => F9
                obtain ⟨mW, -, F9⟩ := fr_gen F9
                clear hT hLH hLW sH sW m00 m01 n00 n01 hcell hv1k mlt mc4
                refine Assign_Tuple ?_
                k_dflt (refine ListComp_my (by k_asm) (by decide) (by with_unfolding_all rfl) (by rfl) (by decide) ?_ (by intro _; rfl))
                k_steps
                unfold Stop
                rename News _ _ _ _ => N5
                k_dflt (refine' list_name ?p1 ?p4 N5 List.mem_cons_self ?p6 ?p7 ?p8 ?p9 ?_)
                case p1 => rfl
                case p4 => k_asm
                case p6 => exact Nat.le_of_ble_eq_true rfl
                case p7 => rfl
                case p8 => decide
                case p9 => rfl
                intro IP DP CP h₁ h₂ hltP hDP hCP
                refine crest_tail (fun i ys tl => AllAt (fun j y => LeadIn w0.params 76 tl y (stR (posL (apL (ptAt d0 d1 j))) 0)) i ys) (fun p hp => by rw [List.mem_singleton.mp hp]; exact List.mem_cons_self)
                  (fun tl hS p hp => List.mem_append_right _ (hS p hp)) AllAt.nil nml_cov ?_ ?_
                · intro i ys tl own h tk E' hi hJ hB hoc F N hord
                  obtain ⟨oI, oC, m₂, v2, rfl, hoC, hPv, hx2, -⟩ := hB
                  obtain ⟨wd, sd, rfl, hwd, hdn⟩ : ∃ b t, v2 = .bytes b t ∧ KBw.bInts b = apL (ptAt d0 d1 i) ∧ Hid (ptAt d0 d1 i < 65536) := by
                    rcases i with _ | _ | i
                    · simp at hPv; exact ⟨_, _, hPv.symm, hw71, z0⟩
                    · simp at hPv; exact ⟨_, _, hPv.symm, hw72, z1⟩
                    · exact absurd hi (by simp)
                  generalize hpn : ptAt d0 d1 i = pn at *
                  simp only [List.cons_append, List.nil_append] at N
                  obtain ⟨restP, hrestP, N⟩ := news_hide N
                  clear hoc hord
                  k_steps
                  unfold Stop
                  k_dflt (refine' Does.use (lawrows _ _ _ _ _ _ wd _ ?qa ?qb) ?q1 ?q2 ?q3 ?q4 ?q5 ?q6 ?q7 ?q8 ?_)
                  case qa => (rw [hwd]; exact Nat.le_trans (apL_len 4 pn hdn) (by decide))
                  case qb => (rw [hwd]; exact apL_in pn)
                  case q1 => k_asm
                  case q2 => k_asm
                  case q3 => k_asm
                  case q4 => k_asm
                  case q5 => k_asm
                  case q6 => exact rfl
                  case q7 => ktr_room
                  case q8 => ktr_units
                  intro r84 h84 tk84 tl84 F84 N84 ho84 hP84
                  obtain ⟨l84, v84, ep84, e84, e84', hS84⟩ := hP84
                  subst e84 e84'
                  simp only [List.cons_append, List.nil_append] at N84
                  rw [hwd, rows_ap] at hS84
                  clear ho84
                  try dsimp only
                  try k_fold
                  k_steps
                  show wpAny _ _ (call (.builtin "str.join") [.str _ _, .ref _]) _ _ _
                  rename News _ _ _ _ => N9
                  rename StrsAre v84 _ => hS84
                  have hP5 : ∀ r ∈ posL (apL pn), r < 5 := fun r hr => Nat.lt_of_lt_of_le (posL_lt _ r hr) (Nat.le_trans (apL_len 4 pn hdn) (by decide))
                  have bP : Hid ((posL (apL pn)).length ≤ 180) := posL_small (Nat.le_trans (apL_len 4 pn hdn) (by decide))
                  refine join_listW (News.isList N9 (.head _)) (by simpa using hS84) (by decide) (rows_weight _ hP5 bP) ?_
                  intro tj3 kj3
                  have bJ := rows_join _ hP5 bP
                  have hTx := text_rows0 (posL (apL pn))
                  generalize Txt.join (Str.ofString "") ((posL (apL pn)).map fun (q : Nat) => rowS (q : Int)) = xj3 at *
                  try dsimp only
                  try k_fold
                  k_steps
                  unfold Stop
                  have N9 := news_tail N9
                  k_dflt (refine' Does.use (wsnew _ _ _ _ _ _ _ _ (text_sz (n := 1080) ?qz (by decide))) ?q1 ?q2 ?q3 ?q4 ?q5 ?q6 ?q7 ?q8 ?_)
                  case qz => exact bJ
                  case q1 => k_asm
                  case q2 => k_asm
                  case q3 => k_asm
                  case q4 => exact N9
                  case q5 => k_asm
                  case q6 => exact rfl
                  case q7 => ktr_room
                  case q8 => ktr_units
                  intro vP h5 tk5 tl5 F5 N5 ho5 hLP
                  rw [hTx] at hLP
                  try dsimp only
                  try k_fold
                  subst hrestP
                  refine TailBack.intro tl5 F5 N5 ho5 ?_
                  refine hJ.snoc (fun j y h => h.mono fun p hp => List.mem_append_right _ hp) ?_
                  rw [hpn]
                  exact hLP.mono fun p hp => List.mem_append_left _ hp
                · intro ysP tlP hAP hord
                  intro h9 tk9 F9 N9 off9
                  clear off9 hord hltP hDP hCP
                  replace hAP : AllAt (fun j y => LeadIn w0.params 76 tlP y (stR (posL (apL (ptAt d0 d1 j))) 0)) 2 ysP := hAP
                  obtain ⟨v1, v2, rfl, hL1, hL2⟩ := hAP.two
                  clear hAP
                  replace hL1 : LeadIn w0.params 76 tlP v1 (stR (posL (apL d0)) 0) := hL1
                  replace hL2 : LeadIn w0.params 76 tlP v2 (stR (posL (apL d1)) 0) := hL2
                  obtain ⟨r3, mT, mR, N9⟩ := news_pack3 N9
                  replace hL1 := hL1.mono mT
                  replace hL2 := hL2.mono mT
                  replace mlw := mR _ mlw
                  replace mc3 := mR _ mc3
                  clear mT mR
                  have N9 := news_cons1 mlw N9
                  have hL1' := hL1
                  have hL2' := hL2
                  obtain ⟨ox, od, oT, oc, ov, orr, g00, g01, g02, g03, k00, k01, k02, k03, k04, oep, rfl, m00, m01, -, -, -⟩ := hL1'
                  obtain ⟨tx, td, tT, tc, tv, trr, f00, f01, f02, f03, j00, j01, j02, j03, j04, tep, rfl, n00, n01, -, -, -⟩ := hL2'
                  try dsimp only
                  try k_fold
                  have h71 : (KBw.bInts w71).length ≤ 4 := by rw [hw71]; exact apL_len 4 d0 z0
                  have h72 : (KBw.bInts w72).length ≤ 4 := by rw [hw72]; exact apL_len 4 d1 z1
                  k_steps
                  unfold Stop
                  refine' KBw.len_K (ks := KBw.bInts _) rfl ?z9 ?_
                  case z9 => omega
                  k_steps
                  unfold Stop
                  refine' KBw.len_K (ks := KBw.bInts _) rfl ?z9 ?_
                  case z9 => omega
                  k_steps
                  unfold Stop
                  repeat (rename (_ < _ ∧ _) => hz; clear hz)
                  rename Fr _ _ _ _ => F9
                  rename News _ _ _ _ => N9
                  refine range2_my F9 N9 ?_
                  intro DR hR9 tkR tR uR vR9 FR NR hltR
                  have NR := news_few2 (news_few2 NR)
                  have hltR := allLt_of hltR
                  try dsimp only
                  try k_fold
                  k_steps
                  unfold Stop
                  k_dflt (refine Assign_ListComp_my (by k_asm) (by decide) (by rfl) (by with_unfolding_all rfl) (by with_unfolding_all rfl) (by rfl) (by decide) (by rfl) (by rfl) ?_ (by intro _; rfl))
                  k_steps
                  unfold Stop
                  rename News _ _ _ _ => N5
                  have hlen1 : (KBw.bInts w71).length = (apL d0).length := by rw [hw71]
                  have hlen2 : (KBw.bInts w72).length = (apL d1).length := by rw [hw72]
                  k_dflt (refine' range_name (n := max (apL d0).length (apL d1).length) ?p1 (N5 _ (.head _)).1 ?p2 ?p3 ?p4 N5 ?p6 ?p7 ?p8 ?p9 ?_)
                  case p1 => rfl
                  case p2 => exact rg_hs2 h71 h72
                  case p3 => exact rg_hn2 hlen1 hlen2
                  case p4 => k_asm
                  case p6 => exact rg_sz (hlen1 ▸ h71) (hlen2 ▸ h72)
                  case p7 => rfl
                  case p8 => decide
                  case p9 => rfl
                  intro IA DA CA h₁ h₂ hltA9 hDA hCA
                  clear hltA9 hDA hCA
                  refine crest_tail (fun i ys tl => TabIn tl ys (aloneR (apL d0) (apL d1) i)) (fun p hp => nomatch hp) (fun tl hS p hp => List.mem_append_right _ (hS p hp)) .nil nml_cov ?_ ?_
                  · intro i ys tl own h tk E' hi hJ hB hoc F N hord
                    obtain ⟨oI, oC, m₂, v2, rfl, hoC, hPv, hx2, -⟩ := hB
                    obtain ⟨u2, rfl⟩ := hPv
                    rw [Int.mul_one, one_cast] at hx2
                    simp only [List.cons_append, List.nil_append] at N
                    obtain ⟨restA, hrestA, N⟩ := news_hide N
                    have mlw' := mem_of_app (.tail _ mlw) hrestA
                    have mc3' := mem_of_app (.tail _ mc3) hrestA
                    have N := news_cons3 mlw' N
                    clear hoc hord
                    k_steps
                    unfold Stop
                    k_dflt (refine' Does.use (lawcol _ _ _ _ _ _ w71 _ (1 + i) _ (Nat.le_trans h71 (by decide)) ?qr (Nat.le_add_right 1 i) (idx4 hi (hlen1 ▸ h71) (hlen2 ▸ h72))) ?q1 ?q2 ?q3 ?q4 ?q5 ?q6 ?q7 ?q8 ?_)
                    case qr => (rw [hw71]; exact fun c hc => apL_in _ c hc)
                    case q1 => k_asm
                    case q2 => k_asm
                    case q3 => k_asm
                    case q4 => k_asm
                    case q5 => k_asm
                    case q6 => exact rfl
                    case q7 => ktr_room
                    case q8 => ktr_units
                    intro r7 h7 tk7 tl7 F7 N7 ho7 hP7
                    obtain ⟨e5, t7, e6⟩ := hP7
                    subst e5 e6
                    rw [List.nil_append] at N7
                    rw [hw71]
                    clear ho7
                    try dsimp only
                    try k_fold
                    k_steps
                    unfold Stop
                    k_dflt (refine' Does.use (lawcol _ _ _ _ _ _ w72 _ (1 + i) _ (Nat.le_trans h72 (by decide)) ?qr (Nat.le_add_right 1 i) (idx4 hi (hlen1 ▸ h71) (hlen2 ▸ h72))) ?q1 ?q2 ?q3 ?q4 ?q5 ?q6 ?q7 ?q8 ?_)
                    case qr => (rw [hw72]; exact fun c hc => apL_in _ c hc)
                    case q1 => k_asm
                    case q2 => k_asm
                    case q3 => k_asm
                    case q4 => k_asm
                    case q5 => k_asm
                    case q6 => exact rfl
                    case q7 => ktr_room
                    case q8 => ktr_units
                    intro r8 h8 tk8 tl8 F8 N8 ho8 hP8
                    obtain ⟨e5, t8, e6⟩ := hP8
                    subst e5 e6
                    rw [List.nil_append] at N8
                    rw [hw72]
                    clear ho8
                    try dsimp only
                    try k_fold
                    k_steps
                    rename Fr _ _ _ _ => F7
                    rename News _ _ _ _ => N7
                    obtain ⟨DT, eDT⟩ := news_name1 N7
                    subst eDT
                    rename ((IA < DT) ∧ _) => hord9
                    subst hrestA
                    refine TailBack.intro [(DT, _)] F7 (news_drop (a := [_, _, _, _]) N7) (fun q hq p hp => ?_) ?_
                    · rw [List.mem_singleton.mp hp]
                      refine ktn_ltOf ?_ q hq
                      exact ⟨hord9.1, hord9.2.1, hord9.2.2.1, hord9.2.2.2.2⟩
                    · show TabIn ([(DT, _)] ++ tl) (ys ++ [.ref DT]) (aloneR (apL d0) (apL d1) (i + 1))
                      rw [aloneR_snoc]
                      exact (hJ.mono fun p hp => .tail _ hp).snoc (.head _)
                  · intro ysA tlA hJA hord
                    intro h9 tk9 F9 N9 off9
                    clear off9 hord hltR
                    replace hJA : TabIn tlA ysA (aloneR (apL d0) (apL d1) (max (apL d0).length (apL d1).length)) := hJA
                    obtain ⟨r4, mA, mB, N9⟩ := news_pack3 N9
                    replace hJA := hJA.mono mA
                    replace hL1 := hL1.mono mB
                    replace hL2 := hL2.mono mB
                    replace m00 := mB _ m00
                    replace m01 := mB _ m01
                    replace n00 := mB _ n00
                    replace n01 := mB _ n01
                    clear mA mB
                    try dsimp only
                    try k_fold
                    k_steps
                    unfold Stop
                    k_dflt (refine' Does.use (wne _ _ _ _ _ _ _ _ (stR (posL (apL d0)) 0) (stR (posL (apL d1)) 0) ?qL ?qM (leads_small d0 z0).1 (leads_small d1 z1).1 (leads_small d0 z0).2 (leads_small d1 z1).2) ?q1 ?q2 ?q3 ?q4 ?q5 ?q6 ?q7 ?q8 ?_)
                    case q1 => k_asm
                    case q2 => k_asm
                    case q3 => k_asm
                    case q4 => k_asm
                    case q5 => k_asm
                    case q6 => exact rfl
                    case q7 => ktr_room
                    case q8 => ktr_units
                    case qL => exact hL1.mono fun _ hp => by (repeat (first | exact hp | apply List.mem_cons_of_mem))
                    case qM => exact hL2.mono fun _ hp => by (repeat (first | exact hp | apply List.mem_cons_of_mem))
                    intro r8 h8 tk8 tl8 F8 N8 ho8 hP8
                    obtain ⟨lN, vN, epN, e8, -, hmN, hTN⟩ := hP8
                    subst e8
                    rw [alone_eq] at hTN
                    obtain ⟨r5, mB, mA, N8⟩ := news_pack4 N8
                    replace hmN := mB _ hmN
                    replace hTN := hTN.mono mB
                    replace hJA := hJA.mono mA
                    clear ho8 mA mB hL1 hL2 m00 m01 n00 n01 mlw mc3
                    generalize hAw : aloneR (apL d0) (apL d1) (max (apL d0).length (apL d1).length) = Aw at *
                    have hAl : Hid (Aw.length ≤ 1000) := by show _ ≤ 1000; rw [← hAw, aloneR_len]; exact rg_k (hlen1 ▸ h71) (hlen2 ▸ h72)
                    clear h71 h72 hlen1 hlen2
                    try dsimp only
                    try k_fold
                    k_steps
                    unfold Stop
                    k_dflt (refine ListComp_my (by k_asm) (by decide) (by with_unfolding_all rfl) (by rfl) (by decide) ?_ (by intro _; rfl))
                    k_steps
                    unfold Stop
                    rename News _ _ _ _ => N5
                    k_dflt (refine' tab_src ?p1 ?p4 N5 (.head _) hJA ?p5 ?p6 ?p7 ?p8 ?p9 ?p10 ?p11 ?p12 ?p13 ?p14 ?_)
                    case p1 => rfl
                    case p4 => k_asm
                    case p5 => exact fun p hp => .tail _ hp
                    case p6 => rw [hJA.length]; exact hAl
                    case p7 => rfl
                    case p8 => decide
                    case p9 => rfl
                    case p10 => rfl
                    case p11 => rfl
                    case p12 => decide
                    case p13 => decide
                    case p14 => decide
                    intro IL DL CL h₁ h₂ hltL hDL hCL
                    refine crest_iftail (fun i ys tl => TabIn tl ys (outR uneq id Aw i)) (fun i => uneq (Aw.getD i (0, 0, 0))) ?s1 ?s2 .nil nmt_cov ?_ ?_ ?_ ?_
                    case s1 => exact List.forall_mem_cons.mpr ⟨.head _, fun p hp => .tail _ hp⟩
                    case s2 => exact fun tl hS p hp => List.mem_append_right _ (hS p hp)
                    · intro i ys tl own h tk E' hi hB hoc F N hord
                      obtain ⟨oI, oC, m₂, x, y, z, rfl, hoC, hR, hxa, hxb, hxc, -⟩ := hB
                      obtain ⟨r, tx9, ty9, tz9, hr, rfl, rfl, rfl⟩ := hR
                      simp only [List.cons_append, List.nil_append] at N
                      obtain ⟨restA, hrestA, N⟩ := news_hide N
                      clear hoc hord
                      k_steps
                      rename Fr _ _ _ _ => F7
                      rename News _ _ _ _ => N7
                      subst hrestA
                      refine BoolBack.intro F7 N7 (fun p hp => hp) ?_
                      rw [getD_of hr]
                      unfold uneq
                      by_cases hq : r.2.1 = r.2.2 <;> simp [hq]
                    · intro i ys tl hi hp hJ
                      show TabIn tl ys (outR uneq id Aw (i + 1))
                      have hr := List.getElem?_eq_getElem hi
                      rw [outR_no hr (by rw [← getD_of hr]; exact hp)]
                      exact hJ
                    · intro i ys tl own h tk E' hi hp hJ hB hoc F N hord
                      obtain ⟨oI, oC, m₂, x, y, z, rfl, hoC, hR, hxa, hxb, hxc, -⟩ := hB
                      obtain ⟨r, tx9, ty9, tz9, hr, rfl, rfl, rfl⟩ := hR
                      simp only [List.cons_append, List.nil_append] at N
                      obtain ⟨restA, hrestA, N⟩ := news_hide N
                      clear hoc hord
                      k_steps
                      rename Fr _ _ _ _ => F7
                      rename News _ _ _ _ => N7
                      obtain ⟨DT, eDT⟩ := news_name1 N7
                      subst eDT
                      rename ((IL < DT) ∧ _) => hord9
                      subst hrestA
                      refine TailBack.intro [(DT, _)] F7 N7 (fun q hq p hp => ?_) ?_
                      · rw [List.mem_singleton.mp hp]
                        refine ktn_ltOf ?_ q hq
                        exact hord9
                      · show TabIn ([(DT, _)] ++ tl) (ys ++ [.ref DT]) (outR uneq id Aw (i + 1))
                        rw [outR_yes hr (by rw [← getD_of hr]; exact hp)]
                        exact (hJ.mono fun p hp => .tail _ hp).snoc (.head _)
                    · intro ysT tlT hJ hord
                      intro h9 tk9 F9 N9 off9
                      clear off9 hord
                      replace hJ : TabIn tlT ysT (outR uneq id Aw Aw.length) := hJ
                      rw [outR_all, List.map_id] at hJ
                      replace hTN : TabIn r5 vN (Aw.filter uneq) := hTN
                      have r1 := tab_reads N9 (.tail _ (List.mem_append_right _ (.tail _ hmN))) (hTN.mono fun p hp => .tail _ (List.mem_append_right _ (.tail _ hp)))
                      have r2 := tab_reads (vs := ysT) (ep := ysT.length) N9 (.head _) (hJ.mono fun p hp => .tail _ (List.mem_append_left _ hp))
                      clear hltL hDL hCL hJ hmN hTN
                      try dsimp only
                      try k_fold
                      k_steps
                      unfold Stop
                      refine eq_dataH r1 r2 (tab_shaped _) (tab_shaped _) (by ktr_units) ?_
                      rw [tab_same]
                      clear r1 r2
                      k_steps)
end Mine
end

end

open PySem PySem.W PyProof.Rows
set_option maxRecDepth 100000 in
set_option maxHeartbeats 8000000 in
theorem PySem.Challenge.cw_pg0153_01_holds : PySem.Challenge.rw_pg0153_01.Holds := by
  exact Mine.law_holds
