import PyProof.Rows.All
import Wide.All
import OpenK.AllK
import Wide.FinOn
import Lean
import PySem.Challenge.RW_pg0153_02
set_option Elab.async false
set_option rowWalk.seconds 0

section
open PySem PySem.W PyProof.Rows
namespace Mine

/-- a call that ends: what it needs of room, what it hands back; the ledger only grows -/
def Does (prog : Program) (w : World) (K : Frag) (p : Program) (loose : List Str) (mean : ExcName → Option Value) (mg mb : Str → Option Value)
    (f : Value) (vs : List Value) (dN uN : Nat) (news : List (Addr × Obj)) (Post : List (Addr × Obj) → Value → Prop) : Prop :=
  ∀ (dp un : Nat) (gd : Option (List Code)) (cn : Str) (cs : Scope) (a : Addr) (ccd : Value) (cl : List (Str × Addr)) (outer : List Env) (A₀ : Around) (base h₀ : Heap) (L : Addr) (m : Str → Option Value) (s : Shared) (Q E : Value → Shared → Prop),
    Below A₀ base outer h₀ → Fr h₀ L s.heap m → K.In h₀ → News h₀ L s.heap news → Top p loose mean mg mb h₀ → cs.kind = .function →
    dp + dN < recursionLimit → un + uN < cLine →
    (∀ r h' tk' tl, Fr h₀ L h' m → News h₀ L h' (tl ++ news) → (∀ q ∈ news, ∀ p ∈ tl, q.1 < p.1) → Post tl r → Q r { s with heap := h', toks := tk' }) →
    wpAny (model prog w) (ktrTop dp un gd cn cs L a ccd cl outer) (call f vs) Q E s

end Mine
namespace Mine
theorem Does.use {prog : Program} {w : World} {K : Frag} {p : Program} {loose : List Str} {mean : ExcName → Option Value} {mg mb : Str → Option Value} {f : Value} {vs : List Value} {dN uN : Nat} {news : List (Addr × Obj)} {Post : List (Addr × Obj) → Value → Prop}
    (C : Does prog w K p loose mean mg mb f vs dN uN news Post)
    {dp un : Nat} {gd : Option (List Code)} {cn : Str} {cs : Scope} {a : Addr} {ccd : Value} {cl : List (Str × Addr)} {outer : List Env} {A₀ : Around} {base h₀ : Heap} {L : Addr} {m : Str → Option Value} {s : Shared} {Q E : Value → Shared → Prop}
    (B : Below A₀ base outer h₀) (F : Fr h₀ L s.heap m) (X : K.In h₀) (N : News h₀ L s.heap news) (T : Top p loose mean mg mb h₀) (hk : cs.kind = .function) (hd : dp + dN < recursionLimit) (hu : un + uN < cLine)
    (h : ∀ r h' tk' tl, Fr h₀ L h' m → News h₀ L h' (tl ++ news) → (∀ q ∈ news, ∀ p ∈ tl, q.1 < p.1) → Post tl r → Q r { s with heap := h', toks := tk' }) :
    wpAny (model prog w) (ktrTop dp un gd cn cs L a ccd cl outer) (call f vs) Q E s := C dp un gd cn cs a ccd cl outer A₀ base h₀ L m s Q E B F X N T hk hd hu h
end Mine
end

section
namespace Mine
def Stop (P : Prop) : Prop := P
theorem Stop.intro {P : Prop} (h : Stop P) : P := h
end Mine
end

section
open PySem PySem.W PyProof.Rows
namespace Mine
/-- the letters of a number, sixteen to a letter, as codes -/
def apL (n : Nat) : List Int := if n = 0 then [] else apL (n / 16) ++ [65 + ((n % 16 : Nat) : Int)]
termination_by n
decreasing_by omega
theorem apL_zero : apL 0 = [] := by rw [apL]; simp
theorem apL_pos {n : Nat} (h : n ≠ 0) : apL n = apL (n / 16) ++ [65 + ((n % 16 : Nat) : Int)] := by rw [apL]; simp [h]
theorem apL_len : ∀ (k n : Nat), n < 16 ^ k → (apL n).length ≤ k
  | 0, n, h => by
    have : n = 0 := by simpa using h
    subst this; simp [apL_zero]
  | k + 1, n, h => by
    by_cases h0 : n = 0
    · subst h0; simp [apL_zero]
    · rw [apL_pos h0, List.length_append, List.length_singleton]
      have := apL_len k (n / 16) (by rw [Nat.pow_succ] at h; omega)
      omega
def apCodes : List Int := [65, 66, 67, 68, 69, 70, 71, 72, 73, 74, 75, 76, 77, 78, 79, 80]
theorem apCodes_cut {j : Nat} (h : j < 16) : (apCodes.drop j).take 1 = [65 + (j : Int)] := by
  have : ∀ j : Fin 16, (apCodes.drop j.1).take 1 = [65 + (j.1 : Int)] := by decide
  exact this ⟨j, h⟩
/-- one turn of Int2AP's while -/
theorem ap_turn {num : Int} {n : Nat} {ks : List Int} (h0 : 0 ≤ num) (hne : num ≠ 0) (h : apL num.toNat ++ ks = apL n) :
    apL (num.fdiv 16).toNat ++ ([65 + num.fmod 16] ++ ks) = apL n := by
  obtain ⟨k, rfl⟩ : ∃ k : Nat, num = (k : Int) := ⟨num.toNat, by omega⟩
  have hk : k ≠ 0 := by omega
  rw [← h, Int.toNat_natCast, apL_pos hk]
  have e1 : ((k : Int).fdiv 16).toNat = k / 16 := by
    rw [Int.fdiv_eq_ediv_of_nonneg _ (by omega)]; omega
  have e2 : (k : Int).fmod 16 = ((k % 16 : Nat) : Int) := by
    rw [Int.fmod_eq_emod_of_nonneg _ (by omega)]; omega
  rw [e1, e2, List.append_assoc]
end Mine
end

section
open PySem PySem.W PyProof.Rows PySem.Spec PySem.Calls PyProof.V
namespace Mine

section
variable {prog : Program} {w : World} {A : Around} {E : Value → Shared → Prop} {s : Shared} {env : Env} {h₀ : Heap} {x : Str} {body : List Stmt} {Q : Flow → Shared → Prop}

/-- what a turn leaves behind: a new letter, its ledger and its names; the iterator as it was -/
def MyEnd {σ : Type} (h₀ : Heap) (L I : Addr) (oI : Obj) (Led : σ → List (Addr × Obj)) (ps : σ → List (Str × Value)) (x : Str) (stored : List Str) (m₀ : Str → Option Value) (P : σ → Prop) (s₁ s₂ : Shared) : Prop :=
  ∃ c h' tk m' news', s₂ = { s₁ with heap := h', toks := tk } ∧ Fr h₀ L h' m' ∧ News h₀ L h' news' ∧ (I, oI) ∈ news' ∧ (∀ p ∈ Led c, p ∈ news') ∧ (∀ p ∈ Led c, p.1 ≠ I) ∧
    (∀ p ∈ ps c, m' p.1 = some p.2) ∧ (∀ z, z ≠ x → (∀ p ∈ ps c, z ≠ p.1) → stored.contains z = false → m' z = m₀ z) ∧ P c
def MyTurn {σ : Type} (h₀ : Heap) (L I : Addr) (oI : Obj) (Led : σ → List (Addr × Obj)) (ps : σ → List (Str × Value)) (x : Str) (stored : List Str) (m₀ : Str → Option Value) (P : σ → Prop) (s₁ : Shared) (Q : Flow → Shared → Prop) (f : Flow) (s₂ : Shared) : Prop :=
  match f with
  | .ret v => Q (.ret v) s₂
  | .brk => Q .next s₂
  | _ => MyEnd h₀ L I oI Led ps x stored m₀ P s₁ s₂
theorem MyEnd.intro {σ : Type} {L I : Addr} {oI : Obj} {Led : σ → List (Addr × Obj)} {ps : σ → List (Str × Value)} {stored : List Str} {m₀ m' : Str → Option Value} {P : σ → Prop} {s₁ : Shared} {h' : Heap} {tk : Nat} {news' : List (Addr × Obj)} (c : σ)
    (F : Fr h₀ L h' m') (N : News h₀ L h' news') (hk : ∀ p ∈ ps c, m' p.1 = some p.2) (hI : (I, oI) ∈ news') (hl : ∀ p ∈ Led c, p ∈ news') (ho : ∀ p ∈ Led c, p.1 ≠ I)
    (hr : ∀ z, z ≠ x → (∀ p ∈ ps c, z ≠ p.1) → stored.contains z = false → m' z = m₀ z) (hp : P c) : MyEnd h₀ L I oI Led ps x stored m₀ P s₁ { s₁ with heap := h', toks := tk } :=
  ⟨c, h', tk, m', news', rfl, F, N, hI, hl, ho, hk, hr, hp⟩

theorem loop_my {σ : Type} {I : Addr} {n : Nat} {Pv : Nat → Value → Prop} {St : Nat → Heap → Prop} {m₀ : Str → Option Value} (Led : σ → List (Addr × Obj)) (ps : σ → List (Str × Value)) (stored : List Str) (P : Nat → σ → Prop) (c₀ : σ)
    (W : Walks prog w A I [I] [I] n Pv St) (hLI : env.locals ≠ I) (hI0 : h₀.get? I = none) (hlive : ∀ i h, St i h → ∃ o, h.get? I = some o) (hst : St 0 s.heap)
    (F : Fr h₀ env.locals s.heap m₀) (N : News h₀ env.locals s.heap (Led c₀)) (hoff : ∀ p ∈ Led c₀, p.1 ≠ I) (hk : ∀ p ∈ ps c₀, m₀ p.1 = some p.2) (hp : P 0 c₀)
    (turn : ∀ i c v (u : Str → Option Value) h tk oI, i < n → Pv i v → P i c → (∀ p ∈ Led c, p.1 ≠ I) →
      Fr h₀ env.locals h (fun y => if y = x then some v else kstB (fun z => if stored.contains z then u z else m₀ z) (ps c) y) → News h₀ env.locals h ((I, oI) :: Led c) →
      wpAny (model prog w) A (execs body env) (MyTurn h₀ env.locals I oI Led ps x stored m₀ (P (i + 1)) { s with heap := h, toks := tk } Q) E { s with heap := h, toks := tk })
    (done : ∀ c (u : Str → Option Value) h tk, P n c → Fr h₀ env.locals h (fun y => if y = x then u y else kstB (fun z => if stored.contains z then u z else m₀ z) (ps c) y) → News h₀ env.locals h (Led c) → Q .next { s with heap := h, toks := tk }) :
    LoopAtV prog w A h₀ env x body Q E (.ref I) s := by
  let J : Nat → (Str → Option Value) → List (Addr × Obj) → Prop := fun i m nx => ∃ c, nx = Led c ∧ (∀ p ∈ ps c, m p.1 = some p.2) ∧ (∀ z, z ≠ x → (∀ p ∈ ps c, z ≠ p.1) → stored.contains z = false → m z = m₀ z) ∧ P i c
  refine ⟨I, [I], [I], n, Pv, St, m₀, Led c₀, J, rfl, W, ?_, ?_, ?_, hst, F, N, ⟨c₀, rfl, hk, fun _ _ _ _ => rfl, hp⟩, ?_, ?_⟩
  · intro hm; exact hLI (List.mem_singleton.mp hm)
  · intro b hb; rw [List.mem_singleton.mp hb]; exact hI0
  · intro p hp hm; exact hoff p hp (List.mem_singleton.mp hm)
  · rintro i v m₁ news₁ s₁ own ⟨hh', tk', rfl⟩ hin hP ⟨c, rfl, h1, h2, hPc⟩ hnw hown hget hall hst₁ F₁ N₁
    obtain ⟨oI, hoI⟩ := hlive _ _ hst₁
    have hmem : (I, oI) ∈ own := hall I (List.mem_singleton.mpr rfl) hI0 oI hoI
    have hsub : ∀ p ∈ own, p = (I, oI) := fun p hp => by
      have e : p.1 = I := List.mem_singleton.mp (hown p hp)
      have g := hget p hp
      rw [e] at g
      have g' : hh'.get? I = some p.2 := g
      have g'' : hh'.get? I = some oI := hoI
      rw [g''] at g'
      exact Prod.ext e (Option.some.inj g').symm
    have N₂ : News h₀ env.locals hh' ((I, oI) :: Led c) := fun p hp => by
      rcases List.mem_cons.mp hp with rfl | hp
      · exact N₁ _ (List.mem_append_left _ hmem)
      · exact N₁ p (List.mem_append_right _ hp)
    refine wpAny_mono (turn i c v m₁ hh' tk' oI hin hP hPc (fun p hp e => hnw p hp (List.mem_singleton.mpr e)) (kst_fr h1 h2 F₁) N₂) (fun f s₂ p => ?_) fun _ _ e => e
    have fin : MyEnd h₀ env.locals I oI Led ps x stored m₀ (P (i + 1)) { s with heap := hh', toks := tk' } s₂ → LoopStepU h₀ env.locals [I] own (J (i + 1)) { s with heap := hh', toks := tk' } .next s₂ := by
      rintro ⟨c', h', tk, m', news', e, F', N', hI, hl, ho, hk', hr', hp'⟩
      refine ⟨rfl, h', tk, m', Led c', e, F', fun p hp => ?_, fun p hp hm => ho p hp (List.mem_singleton.mp hm), c', rfl, hk', hr', hp'⟩
      rcases List.mem_append.mp hp with hp | hp
      · rw [hsub p hp]; exact N' _ hI
      · exact N' p (hl p hp)
    cases f with
    | ret v => exact .ret p
    | brk => exact .brk p
    | next => exact .next (fin p)
    | cont => exact .cont (fin p)
  · rintro h' tk m' news' F' N' _ ⟨c, rfl, h1, h2, hPc⟩
    exact done c m' h' tk hPc (kst_frOut h1 h2 F') N'

theorem news_lt {h : Heap} {L : Addr} {news : List (Addr × Obj)} (N : News h₀ L h news) : ∀ p ∈ news, p.1 < h.objs.size := fun p hp => Heap.lt_size (N p hp).1

/-- a loop over a text -/
theorem for_text {σ : Type} {xt : Str} {tx : Tok} {m₀ : Str → Option Value} (Led : σ → List (Addr × Obj)) (ps : σ → List (Str × Value)) (stored : List Str) (P : List Nat → σ → Prop) (c₀ : σ)
    (hh : A.handled = none) (F : Fr h₀ env.locals s.heap m₀) (N : News h₀ env.locals s.heap (Led c₀)) (hk : ∀ p ∈ ps c₀, m₀ p.1 = some p.2) (hp : P [] c₀)
    (turn : ∀ (I : Addr) c (pre post : List Nat) (n : Nat) t (u : Str → Option Value) h tk oI, (∀ p ∈ Led c₀, p.1 < I) → xt.cps.toList = pre ++ n :: post → P pre c → (∀ p ∈ Led c, p.1 ≠ I) →
      Fr h₀ env.locals h (fun y => if y = x then some (.str ⟨#[n]⟩ t) else kstB (fun z => if stored.contains z then u z else m₀ z) (ps c) y) → News h₀ env.locals h ((I, oI) :: Led c) →
      wpAny (model prog w) A (execs body env) (MyTurn h₀ env.locals I oI Led ps x stored m₀ (P (pre ++ [n])) { s with heap := h, toks := tk } Q) E { s with heap := h, toks := tk })
    (done : ∀ c (u : Str → Option Value) h tk, P xt.cps.toList c → Fr h₀ env.locals h (fun y => if y = x then u y else kstB (fun z => if stored.contains z then u z else m₀ z) (ps c) y) → News h₀ env.locals h (Led c) → Q .next { s with heap := h, toks := tk }) :
    wpAny (model prog w) A (pyIter (.str xt tx)) (fun it s₂ => LoopAtV prog w A h₀ env x body Q E it s₂) E s := by
  have main : ∀ (o : Obj) (St : Nat → Heap → Prop), o.isFreed = false → Walks prog w A s.heap.objs.size [s.heap.objs.size] [s.heap.objs.size] xt.cps.size (SignAt xt) St → (∀ i h, St i h → ∃ o, h.get? s.heap.objs.size = some o) → St 0 (s.heap.push o) →
      LoopAtV prog w A h₀ env x body Q E (.ref s.heap.objs.size) { s with heap := s.heap.push o } := by
    intro o St hfree W hlive hst
    refine loop_my (s := { s with heap := s.heap.push o }) Led ps stored (fun i c => P (xt.cps.toList.take i) c) c₀ W (Nat.ne_of_lt F.ns.lt) (next_is_new F) hlive hst (F.push _)
      (fun p hp => ⟨Heap.get?_push_of_some _ (N p hp).1, (N p hp).2⟩) (fun p hp => Nat.ne_of_lt (news_lt N p hp)) hk (by simpa using hp) ?_ ?_
    · rintro i c v u h tk oI hi ⟨n, t, hn, rfl⟩ hP hoff F₁ N₁
      have hn' : xt.cps.toList[i]? = some n := by simpa using hn
      have hs : xt.cps.toList.take (i + 1) = xt.cps.toList.take i ++ [n] := by simp [List.take_add_one, hn']
      have e : xt.cps.toList = xt.cps.toList.take i ++ n :: xt.cps.toList.drop (i + 1) := by
        have ht := List.take_append_drop (i + 1) xt.cps.toList
        rw [hs, List.append_assoc] at ht
        exact ht.symm
      have := turn s.heap.objs.size c _ _ n t u h tk oI (news_lt N) e hP hoff F₁ N₁
      rw [← hs] at this
      exact this
    · rintro c u h tk hP F₁ N₁
      have hl : xt.cps.size = xt.cps.toList.length := by simp
      rw [hl, List.take_length] at hP
      exact done c u h tk hP F₁ N₁
  cases ha : xt.cps.all (· < 128)
  · refine wpAny_pyIter_wide ha (main _ _ rfl (Walks.strWide hh _ xt tx) (fun i h st => ?_) ⟨_, Heap.get?_push_size _ rfl, rfl, rfl⟩)
    obtain ⟨o, e, _⟩ := st; exact ⟨o, e⟩
  · refine wpAny_pyIter_ascii ha (main _ _ rfl (Walks.strAscii hh _ xt tx) (fun i h st => ?_) ⟨_, Heap.get?_push_size _ rfl, rfl, rfl⟩)
    obtain ⟨o, e, _⟩ := st; exact ⟨o, e⟩

/-- a loop over bytes -/
theorem for_bytes {σ : Type} {b : Array UInt8} {tb : Tok} {m₀ : Str → Option Value} (Led : σ → List (Addr × Obj)) (ps : σ → List (Str × Value)) (stored : List Str) (P : List Int → σ → Prop) (c₀ : σ)
    (hh : A.handled = none) (F : Fr h₀ env.locals s.heap m₀) (N : News h₀ env.locals s.heap (Led c₀)) (hk : ∀ p ∈ ps c₀, m₀ p.1 = some p.2) (hp : P [] c₀)
    (turn : ∀ (I : Addr) c (pre post : List Int) (n : Int) t (u : Str → Option Value) h tk oI, (∀ p ∈ Led c₀, p.1 < I) → KBw.bInts b = pre ++ n :: post → P pre c → (∀ p ∈ Led c, p.1 ≠ I) →
      Fr h₀ env.locals h (fun y => if y = x then some (.int n t) else kstB (fun z => if stored.contains z then u z else m₀ z) (ps c) y) → News h₀ env.locals h ((I, oI) :: Led c) →
      wpAny (model prog w) A (execs body env) (MyTurn h₀ env.locals I oI Led ps x stored m₀ (P (pre ++ [n])) { s with heap := h, toks := tk } Q) E { s with heap := h, toks := tk })
    (done : ∀ c (u : Str → Option Value) h tk, P (KBw.bInts b) c → Fr h₀ env.locals h (fun y => if y = x then u y else kstB (fun z => if stored.contains z then u z else m₀ z) (ps c) y) → News h₀ env.locals h (Led c) → Q .next { s with heap := h, toks := tk }) :
    wpAny (model prog w) A (pyIter (.bytes b tb)) (fun it s₂ => LoopAtV prog w A h₀ env x body Q E it s₂) E s := by
  refine KBw.pyIter_bytes ?_
  refine loop_my (s := { s with heap := s.heap.push _ }) Led ps stored (fun i c => P ((KBw.bInts b).take i) c) c₀ (KBw.walks (prog := prog) (w := w) hh s.heap.objs.size b tb) (Nat.ne_of_lt F.ns.lt) (next_is_new F) (fun i h st => ?_) ⟨_, Heap.get?_push_size _ rfl, rfl, rfl⟩ (F.push _)
      (fun p hp => ⟨Heap.get?_push_of_some _ (N p hp).1, (N p hp).2⟩) (fun p hp => Nat.ne_of_lt (news_lt N p hp)) hk (by simpa using hp) ?_ ?_
  · obtain ⟨o, e, _⟩ := st; exact ⟨o, e⟩
  · rintro i c v u h tk oI hi ⟨n, t, hn, rfl⟩ hP hoff F₁ N₁
    have hn' : (KBw.bInts b)[i]? = some (n.toNat : Int) := KBw.ints_get hn
    have hs : (KBw.bInts b).take (i + 1) = (KBw.bInts b).take i ++ [(n.toNat : Int)] := by simp [List.take_add_one, hn']
    have e : KBw.bInts b = (KBw.bInts b).take i ++ (n.toNat : Int) :: (KBw.bInts b).drop (i + 1) := by
      have ht := List.take_append_drop (i + 1) (KBw.bInts b)
      rw [hs, List.append_assoc] at ht
      exact ht.symm
    have := turn s.heap.objs.size c _ _ _ t u h tk oI (news_lt N) e hP hoff F₁ N₁
    rw [← hs] at this
    exact this
  · rintro c u h tk hP F₁ N₁
    rw [← KBw.ints_length b, List.take_length] at hP
    exact done c u h tk hP F₁ N₁

/-- a loop over a range by ones -/
theorem for_range {σ : Type} {r : Addr} {a₀ b₀ : Int} {t₀ u₀ v₀ : Tok} {n : Nat} {m₀ : Str → Option Value} (Led : σ → List (Addr × Obj)) (ps : σ → List (Str × Value)) (stored : List Str) (P : Nat → σ → Prop) (c₀ : σ)
    (hh : A.handled = none) (hr : IsRange s.heap r a₀ b₀ 1 t₀ u₀ v₀) (hsmall : Builtin.Range.small a₀ b₀ 1 = true) (hn : Builtin.Range.rangeSize a₀ b₀ 1 = (n : Int))
    (F : Fr h₀ env.locals s.heap m₀) (N : News h₀ env.locals s.heap (Led c₀)) (hk : ∀ p ∈ ps c₀, m₀ p.1 = some p.2) (hp : P 0 c₀)
    (turn : ∀ (I : Addr) c (i : Nat) t (u : Str → Option Value) h tk oI, (∀ p ∈ Led c₀, p.1 < I) → i < n → P i c → (∀ p ∈ Led c, p.1 ≠ I) →
      Fr h₀ env.locals h (fun y => if y = x then some (.int (a₀ + (i : Int)) t) else kstB (fun z => if stored.contains z then u z else m₀ z) (ps c) y) → News h₀ env.locals h ((I, oI) :: Led c) →
      wpAny (model prog w) A (execs body env) (MyTurn h₀ env.locals I oI Led ps x stored m₀ (P (i + 1)) { s with heap := h, toks := tk } Q) E { s with heap := h, toks := tk })
    (done : ∀ c (u : Str → Option Value) h tk, P n c → Fr h₀ env.locals h (fun y => if y = x then u y else kstB (fun z => if stored.contains z then u z else m₀ z) (ps c) y) → News h₀ env.locals h (Led c) → Q .next { s with heap := h, toks := tk }) :
    wpAny (model prog w) A (pyIter (.ref r)) (fun it s₂ => LoopAtV prog w A h₀ env x body Q E it s₂) E s := by
  refine wpAny_pyIter_range hr hsmall ?_
  have W : Walks prog w A s.heap.objs.size [s.heap.objs.size] [s.heap.objs.size] n (fun i v => i < n ∧ ∃ t, v = .int (a₀ + i * 1) t)
      (fun i h => IsRangeIter h s.heap.objs.size (a₀ + (i : Nat) * 1) ((n : Int) - (i : Nat)) 1) := (Walks.range hh _ a₀ 1 n).bound
  refine loop_my (s := { s with heap := s.heap.push _ }) Led ps stored P c₀ W (Nat.ne_of_lt F.ns.lt) (next_is_new F) (fun i h st => ⟨_, st⟩) (by show IsRangeIter _ _ _ _ _; rw [hn]; simpa using Heap.get?_push_size _ rfl) (F.push _)
      (fun p hp => ⟨Heap.get?_push_of_some _ (N p hp).1, (N p hp).2⟩) (fun p hp => Nat.ne_of_lt (news_lt N p hp)) hk hp ?_ done
  rintro i c v u h tk oI hi ⟨_, t, rfl⟩ hP hoff F₁ N₁
  rw [Int.mul_one] at F₁
  exact turn s.heap.objs.size c i t u h tk oI (news_lt N) hi hP hoff F₁ N₁
end

section
variable {prog : Program} {w : World} {A : Around} {E : Value → Shared → Prop} {s : Shared} {h₀ : Heap} {L l : Addr} {m : Str → Option Value} {news : List (Addr × Obj)} {vs : List Value} {Q : Value → Shared → Prop}
theorem tuple_of_my (F : Fr h₀ L s.heap m) (N : News h₀ L s.heap news) (hl : s.heap.IsList l vs.toArray) (hz : vs.length ≤ sizeLine)
    (h : ∀ D h', Fr h₀ L h' m → News h₀ L h' ((D, ({ cls := .type "tuple", data := .seq vs.toArray } : Obj)) :: news) → (∀ p ∈ news, p.1 < D) → Q (.ref D) { s with heap := h' }) : wpAny (model prog w) A (call (.type "tuple") [.ref l]) Q E s := by
  refine call_tuple_list hl (fun h' hk => ?_) (by rw [List.size_toArray]; exact hz)
  have F' : Fr h₀ L h' m := F.keeps hk
  have N' : News h₀ L h' news := fun p hp => ⟨hk _ _ (N p hp).1, (N p hp).2⟩
  exact h _ _ (F'.push _) (N'.push F' _) fun p hp => Heap.lt_size (N' p hp).1
end
theorem allNe_of {d d' : Addr} {news : List (Addr × Obj)} (h : AllLt d news) (hd : @LE.le Nat _ d d') : ∀ p ∈ news, p.1 ≠ d' := fun p hp => Nat.ne_of_lt (Nat.lt_of_lt_of_le (ktn_ltOf h p hp) hd)
end Mine
namespace Mine
section
variable {prog : Program} {w : World} {A : Around} {E : Value → Shared → Prop} {s : Shared} {h₀ : Heap} {L l : Addr} {news : List (Addr × Obj)} {vs : List Value} {ns : List Int} {Q : Value → Shared → Prop} {k : Int} {u : Tok}
theorem len_tup_my (N : News h₀ L s.heap news) (hm : (l, ({ cls := .type "tuple", data := .seq vs.toArray } : Obj)) ∈ news) (hI : IntsAre vs ns) (hz : ns.length ≤ 1048576) (h : Q (.int ns.length (s.toks + 1)) { s with toks := s.toks + 1 + 1 }) :
    wpAny (model prog w) A (call (.builtin "len") [.ref l]) Q E s := by
  have e : vs.toArray.size = ns.length := by rw [List.size_toArray]; exact hI.length
  refine len_tuple (News.isTup N hm) (by rw [e]; omega) ?_
  rw [e]; exact h
theorem item_tup_my {value slice : Expr} (N : News h₀ L s.heap news) (hm : (l, ({ cls := .type "tuple", data := .seq vs.toArray } : Obj)) ∈ news) (hI : IntsAre vs ns) (h0 : 0 ≤ k) (h1 : k < ns.length) (hz : ns.length ≤ 1048576) (h : ∀ t, Q (.int (ns.getD k.toNat 0) t) s)
    (hs : subscripted slice false (.ref l) (.int k u) = operate [.ref l, .int k u] (getItem (.ref l) (.int k u)) := by with_unfolding_all rfl) (hg : ∀ r, letTemporaryGo value (.ref l) r = pure () := by intro _; with_unfolding_all rfl) :
    wpAny (model prog w) A (subscriptTail value slice (.ref l) (.int k u)) Q E s := by
  have hl := hI.length
  have hlt : k.toNat < ns.length := by omega
  obtain ⟨t, hx⟩ := hI.get k.toNat ns[k.toNat] (by simp [hlt])
  have e : ns.getD k.toNat 0 = ns[k.toNat] := by simp [List.getD_eq_getElem?_getD, hlt]
  rw [e] at h
  exact item_tupleL (News.isTup N hm) (by omega) (by omega) (seqIndex_of h0 (by omega)) hx (h t) hs hg
end
theorem fr_gen {h₀ h : Heap} {L : Addr} {m : Str → Option Value} (F : Fr h₀ L h m) : ∃ m', m' = m ∧ Fr h₀ L h m' := ⟨m, rfl, F⟩
end Mine
end

section
open PySem PySem.W PyProof.Rows
namespace Mine
/-- one sign of a lead: the counts, the spaces behind, the signs, the tabs -/
def wsStep (st : List Int × Int × Int × Int) (c : Nat) : List Int × Int × Int × Int :=
  if c = 32 then (st.1, st.2.1 + 1, st.2.2.1 + 1, st.2.2.2)
  else
    let g := if (st.1.length : Int) ≤ st.2.1 then st.1 ++ (List.replicate (st.2.1 - (st.1.length : Int) + 1).toNat [(0 : Int)]).flatten else st.1
    (g.set st.2.1.toNat (g.getD st.2.1.toNat 0 + 1), 0, st.2.2.1 + 1, st.2.2.2 + 1)
def wsRun (pre : List Nat) : List Int × Int × Int × Int := pre.foldl wsStep ([], 0, 0, 0)
def blank (c : Nat) : Prop := c = 32 ∨ c = 9
theorem wsRun_snoc (pre : List Nat) (c : Nat) : wsRun (pre ++ [c]) = wsStep (wsRun pre) c := by simp [wsRun]
theorem flat_zero (k : Nat) : ((List.replicate k [(0 : Int)]).flatten).length = k := by
  induction k with
  | zero => rfl
  | succ k ih => rw [List.replicate_succ, List.flatten_cons, List.length_append, ih]; simp; omega
theorem wsStep_bound {st : List Int × Int × Int × Int} {k : Nat} (c : Nat) (h : st.1.length ≤ k ∧ 0 ≤ st.2.1 ∧ st.2.1 ≤ k ∧ 0 ≤ st.2.2.1 ∧ st.2.2.1 ≤ k ∧ 0 ≤ st.2.2.2 ∧ st.2.2.2 ≤ k) :
    (wsStep st c).1.length ≤ k + 1 ∧ 0 ≤ (wsStep st c).2.1 ∧ (wsStep st c).2.1 ≤ ((k + 1 : Nat) : Int) ∧ 0 ≤ (wsStep st c).2.2.1 ∧ (wsStep st c).2.2.1 ≤ ((k + 1 : Nat) : Int) ∧ 0 ≤ (wsStep st c).2.2.2 ∧ (wsStep st c).2.2.2 ≤ ((k + 1 : Nat) : Int) := by
  obtain ⟨h1, h2, h3, h4, h5, h6, h7⟩ := h
  unfold wsStep
  split
  · refine ⟨by show st.1.length ≤ k + 1; omega, by show 0 ≤ st.2.1 + 1; omega, by show st.2.1 + 1 ≤ _; omega, by show 0 ≤ st.2.2.1 + 1; omega, by show st.2.2.1 + 1 ≤ _; omega, h6, by show st.2.2.2 ≤ _; omega⟩
  · refine ⟨?_, Int.le_refl _, by show (0 : Int) ≤ _; omega, by show 0 ≤ st.2.2.1 + 1; omega, by show st.2.2.1 + 1 ≤ _; omega, by show 0 ≤ st.2.2.2 + 1; omega, by show st.2.2.2 + 1 ≤ _; omega⟩
    show (List.set _ _ _).length ≤ k + 1
    rw [List.length_set]
    split
    · rw [List.length_append, flat_zero]; omega
    · omega
theorem wsRun_bound (pre : List Nat) : (wsRun pre).1.length ≤ pre.length ∧ 0 ≤ (wsRun pre).2.1 ∧ (wsRun pre).2.1 ≤ pre.length ∧ 0 ≤ (wsRun pre).2.2.1 ∧ (wsRun pre).2.2.1 ≤ pre.length ∧ 0 ≤ (wsRun pre).2.2.2 ∧ (wsRun pre).2.2.2 ≤ pre.length := by
  have all : ∀ l : List Nat, ∀ st : List Int × Int × Int × Int, ∀ k : Nat, (st.1.length ≤ k ∧ 0 ≤ st.2.1 ∧ st.2.1 ≤ k ∧ 0 ≤ st.2.2.1 ∧ st.2.2.1 ≤ k ∧ 0 ≤ st.2.2.2 ∧ st.2.2.2 ≤ k) →
      ((l.foldl wsStep st).1.length ≤ k + l.length ∧ 0 ≤ (l.foldl wsStep st).2.1 ∧ (l.foldl wsStep st).2.1 ≤ ((k + l.length : Nat) : Int) ∧ 0 ≤ (l.foldl wsStep st).2.2.1 ∧ (l.foldl wsStep st).2.2.1 ≤ ((k + l.length : Nat) : Int) ∧ 0 ≤ (l.foldl wsStep st).2.2.2 ∧ (l.foldl wsStep st).2.2.2 ≤ ((k + l.length : Nat) : Int)) := by
    intro l
    induction l with
    | nil => intro st k h; simpa using h
    | cons c r ih =>
      intro st k h
      have := ih (wsStep st c) (k + 1) (wsStep_bound c h)
      rw [List.length_cons, show k + (r.length + 1) = k + 1 + r.length by omega]
      exact this
  have := all pre ([], 0, 0, 0) 0 (by simp)
  simpa [wsRun] using this
/-- what a lead's text is read as: up to the first sign that is neither space nor tab -/
def wsRead (cs : List Nat) : List Int × Int × Int × Int := wsRun (cs.takeWhile fun c => c = 32 || c = 9)
theorem takeWhile_all {cs : List Nat} (h : ∀ c ∈ cs, blank c) : (cs.takeWhile fun c => c = 32 || c = 9) = cs := by
  induction cs with
  | nil => rfl
  | cons c r ih =>
    have hc := h c (.head _)
    rw [List.takeWhile_cons_of_pos (by simpa [blank] using hc), ih fun d hd => h d (.tail _ hd)]
theorem takeWhile_stop {pre post : List Nat} {c : Nat} (h : ∀ c ∈ pre, blank c) (hc : ¬ blank c) : ((pre ++ c :: post).takeWhile fun c => c = 32 || c = 9) = pre := by
  induction pre with
  | nil => rw [List.nil_append, List.takeWhile_cons_of_neg]; simpa [blank] using hc
  | cons d r ih =>
    have hd := h d (.head _)
    rw [List.cons_append, List.takeWhile_cons_of_pos (by simpa [blank] using hd), ih fun e he => h e (.tail _ he)]
end Mine
namespace Mine
/-- a lead stands in the ledger: what its text was read as -/
def LeadIn (P : Params) (C : Addr) (news : List (Addr × Obj)) (v : Value) (st : List Int × Int × Int × Int) : Prop :=
  ∃ (x d T Tc : Addr) (vs : List Value) (raw : Str) (t0 t1 t2 t3 k0 k1 k2 k3 k4 : Tok) (ep : Nat), v = .ref x ∧ (x, instObj C d) ∈ news ∧
    (d, dictOf [⟨PyData.keyHash P (Str.ofString "raw"), .str (Str.ofString "raw") k0, .str raw t0⟩, ⟨PyData.keyHash P (Str.ofString "n"), .str (Str.ofString "n") k1, .int st.2.2.1 t1⟩, ⟨PyData.keyHash P (Str.ofString "nt"), .str (Str.ofString "nt") k2, .int st.2.2.2 t2⟩,
      ⟨PyData.keyHash P (Str.ofString "norm"), .str (Str.ofString "norm") k3, .ref T⟩, ⟨PyData.keyHash P (Str.ofString "is_simple"), .str (Str.ofString "is_simple") k4, .bool (decide ((st.1.length : Int) ≤ 1))⟩] ep) ∈ news ∧
    (T, ({ cls := .type "tuple", data := .seq #[.ref Tc, .int st.2.1 t3] } : Obj)) ∈ news ∧ (Tc, ({ cls := .type "tuple", data := .seq vs.toArray } : Obj)) ∈ news ∧ IntsAre vs st.1
theorem LeadIn.mono {P : Params} {C : Addr} {news news' : List (Addr × Obj)} {v : Value} {st : List Int × Int × Int × Int} (h : LeadIn P C news v st) (hs : ∀ p ∈ news, p ∈ news') : LeadIn P C news' v st := by
  obtain ⟨x, d, T, Tc, vs, raw, t0, t1, t2, t3, k0, k1, k2, k3, k4, ep, e, h1, h2, h3, h4, h5⟩ := h
  exact ⟨x, d, T, Tc, vs, raw, t0, t1, t2, t3, k0, k1, k2, k3, k4, ep, e, hs _ h1, hs _ h2, hs _ h3, hs _ h4, h5⟩
end Mine
namespace Mine
theorem mul_ok_left {a b : Int} (h : a.natAbs < 18446744073709551616) : IntMulOk a b := IntMulOk.of_left (intBits_le_iff.mpr (by omega))
theorem fdiv_ok {a k b : Int} (h0 : 0 ≤ a) (ha : a < 4611686018427387904) (hk : 1 ≤ k) : IntMulOk (a.fdiv k) b := by
  refine mul_ok_left ?_
  rw [Int.fdiv_eq_ediv_of_nonneg _ (by omega)]
  have h1 : 0 ≤ a / k := Int.ediv_nonneg h0 (by omega)
  have h2 : a / k ≤ a := Int.ediv_le_self _ h0
  omega
/-- the sum that indent_level gathers in its first turns -/
def ilAcc (cs : List Int) (k : Int) : Nat → Int
  | 0 => 0
  | i + 1 => ilAcc cs k i + (k + (i : Int)).fdiv k * cs.getD (k + (i : Int)).toNat 0
def ilev (st : List Int × Int × Int × Int) (k : Int) : Int := st.2.1 + k * (ilAcc st.1 k ((st.1.length : Int) - k).toNat + st.2.2.2)
end Mine
namespace Mine
theorem wsRead_len (cs : List Nat) : (wsRead cs).1.length ≤ cs.length := by
  unfold wsRead
  refine Nat.le_trans (wsRun_bound _).1 ?_
  induction cs with
  | nil => exact Nat.le_refl _
  | cons c r ih =>
    rw [List.takeWhile_cons]
    split
    · simpa using ih
    · simp
theorem str_len (x : Str) : x.cps.toList.length = x.length := by simp [Str.length]
theorem news_right {h₀ h : Heap} {L : Addr} {a b : List (Addr × Obj)} (N : News h₀ L h (a ++ b)) : News h₀ L h b := fun p hp => N p (List.mem_append_right _ hp)
end Mine
namespace Mine
theorem lead_left {P : Params} {C : Addr} {a b : List (Addr × Obj)} {v : Value} {st : List Int × Int × Int × Int} {h₀ h : Heap} {L : Addr} (_N : News h₀ L h (a ++ b)) (x : LeadIn P C a v st) : LeadIn P C (a ++ b) v st := x.mono fun _ hp => List.mem_append_left _ hp
end Mine
end

section
open PySem PySem.W PyProof.Rows
namespace Mine
/-- a row of n spaces and its tab; rows; spaces behind -/
def rowCodes (r : Nat) : List Nat := List.replicate r 32 ++ [9]
def rowsCodes (rows : List Nat) : List Nat := (rows.map rowCodes).flatten
/-- one row more among the counts -/
def bump (cs : List Int) (r : Nat) : List Int :=
  (if cs.length ≤ r then cs ++ List.replicate (r + 1 - cs.length) 0 else cs).set r ((if cs.length ≤ r then cs ++ List.replicate (r + 1 - cs.length) 0 else cs).getD r 0 + 1)
def hist (rows : List Nat) : List Int := rows.foldl bump []
theorem flat_zeros (k : Nat) : (List.replicate k [(0 : Int)]).flatten = List.replicate k 0 := by
  induction k with
  | zero => rfl
  | succ k ih => rw [List.replicate_succ, List.flatten_cons, ih, List.replicate_succ]; rfl
theorem spaces_step (k : Nat) : ∀ (st : List Int × Int × Int × Int), (List.replicate k 32).foldl wsStep st = (st.1, st.2.1 + k, st.2.2.1 + k, st.2.2.2) := by
  induction k with
  | zero => intro st; simp
  | succ k ih =>
    intro st
    rw [List.replicate_succ, List.foldl_cons, ih]
    simp only [wsStep, if_pos]
    have e1 : st.2.1 + 1 + (k : Int) = st.2.1 + ((k + 1 : Nat) : Int) := by omega
    have e2 : st.2.2.1 + 1 + (k : Int) = st.2.2.1 + ((k + 1 : Nat) : Int) := by omega
    rw [e1, e2]
theorem row_step (cs : List Int) (n nt : Int) (r : Nat) : (rowCodes r).foldl wsStep (cs, 0, n, nt) = (bump cs r, 0, n + r + 1, nt + 1) := by
  unfold rowCodes
  rw [List.foldl_append, spaces_step, List.foldl_cons, List.foldl_nil]
  simp only [wsStep, if_neg (show ¬ (9 : Nat) = 32 by decide), flat_zeros]
  unfold bump
  have e : (0 + (r : Int)).toNat = r := by omega
  rw [e]
  by_cases h : cs.length ≤ r
  · rw [if_pos (show (cs.length : Int) ≤ 0 + (r : Int) by omega), if_pos h]
    have e2 : (0 + (r : Int) - (cs.length : Int) + 1).toNat = r + 1 - cs.length := by omega
    rw [e2]
  · rw [if_neg (show ¬ (cs.length : Int) ≤ 0 + (r : Int) by omega), if_neg h]
theorem rows_step (rows : List Nat) : ∀ (cs : List Int) (n nt : Int), (rowsCodes rows).foldl wsStep (cs, 0, n, nt) = (rows.foldl bump cs, 0, n + (rows.map fun (r : Nat) => (r : Int) + 1).sum, nt + rows.length) := by
  induction rows with
  | nil => intro cs n nt; simp [rowsCodes]
  | cons r rest ih =>
    intro cs n nt
    have e : rowsCodes (r :: rest) = rowCodes r ++ rowsCodes rest := rfl
    rw [e, List.foldl_append, row_step, ih, List.foldl_cons, List.map_cons, List.sum_cons, List.length_cons]
    have e1 : n + (r : Int) + 1 + (rest.map fun (r : Nat) => (r : Int) + 1).sum = n + ((r : Int) + 1 + (rest.map fun (r : Nat) => (r : Int) + 1).sum) := by omega
    have e2 : nt + 1 + (rest.length : Int) = nt + ((rest.length + 1 : Nat) : Int) := by omega
    rw [e1, e2]
theorem read_rows (rows : List Nat) (tr : Nat) : wsRun (rowsCodes rows ++ List.replicate tr 32) = (hist rows, (tr : Int), (rows.map fun (r : Nat) => (r : Int) + 1).sum + tr, (rows.length : Int)) := by
  unfold wsRun hist
  rw [List.foldl_append, rows_step, spaces_step]
  simp
theorem rows_blank (rows : List Nat) (tr : Nat) : ∀ c ∈ rowsCodes rows ++ List.replicate tr 32, blank c := by
  intro c hc
  rcases List.mem_append.mp hc with h | h
  · unfold rowsCodes at h
    obtain ⟨l, hl, hcl⟩ := List.mem_flatten.mp h
    obtain ⟨r, _, rfl⟩ := List.mem_map.mp hl
    unfold rowCodes at hcl
    rcases List.mem_append.mp hcl with h | h
    · exact .inl (List.eq_of_mem_replicate h)
    · exact .inr (List.mem_singleton.mp h)
  · exact .inl (List.eq_of_mem_replicate h)
theorem read_lead (rows : List Nat) (tr : Nat) : wsRead (rowsCodes rows ++ List.replicate tr 32) = (hist rows, (tr : Int), (rows.map fun (r : Nat) => (r : Int) + 1).sum + tr, (rows.length : Int)) := by
  unfold wsRead
  rw [takeWhile_all (rows_blank rows tr), read_rows]
theorem read_lead_stop (rows : List Nat) (tr : Nat) (c : Nat) (post : List Nat) (hc : ¬ blank c) : wsRead (rowsCodes rows ++ List.replicate tr 32 ++ c :: post) = (hist rows, (tr : Int), (rows.map fun (r : Nat) => (r : Int) + 1).sum + tr, (rows.length : Int)) := by
  unfold wsRead
  rw [takeWhile_stop (rows_blank rows tr) hc, read_rows]
/-- the counts, weighed -/
def weigh (f : Nat → Int) : Nat → List Int → Int
  | _, [] => 0
  | i, c :: r => f i * c + weigh f (i + 1) r
theorem weigh_append (f : Nat → Int) (a b : List Int) : ∀ i, weigh f i (a ++ b) = weigh f i a + weigh f (i + a.length) b := by
  induction a with
  | nil => intro i; simp [weigh]
  | cons c r ih =>
    intro i
    rw [List.cons_append, weigh, weigh, ih, List.length_cons]
    have e : i + 1 + r.length = i + (r.length + 1) := by omega
    rw [e]; omega
theorem weigh_zeros (f : Nat → Int) (k : Nat) : ∀ i, weigh f i (List.replicate k 0) = 0 := by
  induction k with
  | zero => intro i; rfl
  | succ k ih => intro i; rw [List.replicate_succ, weigh, ih]; simp
theorem weigh_set (f : Nat → Int) (cs : List Int) : ∀ (i j : Nat), j < cs.length → weigh f i (cs.set j (cs.getD j 0 + 1)) = weigh f i cs + f (i + j) := by
  induction cs with
  | nil => intro i j h; exact absurd h (Nat.not_lt_zero _)
  | cons c r ih =>
    intro i j h
    cases j with
    | zero =>
      simp only [List.set_cons_zero, List.getD_cons_zero, weigh, Nat.add_zero]
      rw [Int.mul_add, Int.mul_one]; omega
    | succ j =>
      simp only [List.set_cons_succ, List.getD_cons_succ, weigh]
      rw [ih (i + 1) j (by simpa using h)]
      have e : i + 1 + j = i + (j + 1) := by omega
      rw [e]; omega
theorem weigh_bump (f : Nat → Int) (cs : List Int) (r : Nat) : weigh f 0 (bump cs r) = weigh f 0 cs + f r := by
  unfold bump
  by_cases h : cs.length ≤ r
  · rw [if_pos h, weigh_set _ _ _ _ (by rw [List.length_append, List.length_replicate]; omega), weigh_append, weigh_zeros]
    simp
  · rw [if_neg h, weigh_set _ _ _ _ (by omega)]
    simp
theorem weigh_hist (f : Nat → Int) (rows : List Nat) : weigh f 0 (hist rows) = (rows.map f).sum := by
  have all : ∀ (l : List Nat) (cs : List Int), weigh f 0 (l.foldl bump cs) = weigh f 0 cs + (l.map f).sum := by
    intro l
    induction l with
    | nil => intro cs; simp
    | cons r rest ih => intro cs; rw [List.foldl_cons, ih, weigh_bump, List.map_cons, List.sum_cons]; omega
  have := all rows []
  simpa [weigh, hist] using this
theorem weigh_drop (f : Nat → Int) (cs : List Int) (k : Nat) (hf : ∀ i, i < k → f i = 0) (hk : k ≤ cs.length) : weigh f 0 cs = weigh f k (cs.drop k) := by
  have e : cs = cs.take k ++ cs.drop k := (List.take_append_drop k cs).symm
  have z : ∀ (l : List Int) (i : Nat), i + l.length ≤ k → weigh f i l = 0 := by
    intro l
    induction l with
    | nil => intro i _; rfl
    | cons c r ih =>
      intro i h
      rw [List.length_cons] at h
      rw [weigh, hf i (by omega), ih (i + 1) (by omega)]; simp
  conv => lhs; rw [e]
  rw [weigh_append, z _ _ (by simp; omega), List.length_take, Nat.min_eq_left hk]
  simp
theorem weigh_acc (f : Nat → Int) (cs : List Int) (k : Nat) : ∀ n, k + n ≤ cs.length → ∀ g : Nat → Int, (∀ i, g (i + 1) = g i + f (k + i) * cs.getD (k + i) 0) → g 0 = 0 → g n = weigh f k ((cs.drop k).take n) := by
  intro n
  induction n with
  | zero => intro _ g _ h0; simpa [weigh] using h0
  | succ n ih =>
    intro hn g hg h0
    have hlt : k + n < cs.length := by omega
    have e : (cs.drop k).take (n + 1) = (cs.drop k).take n ++ [cs.getD (k + n) 0] := by
      rw [List.take_add_one]
      congr 1
      simp [List.getElem?_drop, List.getD_eq_getElem?_getD, hlt]
    rw [e, weigh_append, hg, ih (by omega) g hg h0]
    have l : ((cs.drop k).take n).length = n := by simp; omega
    rw [l]
    simp [weigh]
/-- indent_level: a row of n spaces and its tab counts its whole sizes and one -/
theorem ilAcc_weigh (cs : List Int) (k : Nat) (hk : 1 ≤ k) : ilAcc cs (k : Int) ((cs.length : Int) - (k : Int)).toNat = weigh (fun (i : Nat) => ((i / k : Nat) : Int)) 0 cs := by
  by_cases h : k ≤ cs.length
  · rw [weigh_drop (fun (i : Nat) => ((i / k : Nat) : Int)) cs k (fun i hi => by simp [Nat.div_eq_of_lt hi]) h]
    have e : ((cs.length : Int) - (k : Int)).toNat = cs.length - k := by omega
    rw [e]
    have := weigh_acc (fun (i : Nat) => ((i / k : Nat) : Int)) cs k (cs.length - k) (by omega) (ilAcc cs (k : Int)) (fun i => ?_) rfl
    · rw [this, List.take_of_length_le (by simp)]
    · show ilAcc cs (k : Int) i + ((k : Int) + (i : Int)).fdiv (k : Int) * cs.getD ((k : Int) + (i : Int)).toNat 0 = _
      have e1 : ((k : Int) + (i : Int)).toNat = k + i := by omega
      have e2 : ((k : Int) + (i : Int)).fdiv (k : Int) = (((k + i) / k : Nat) : Int) := by
        rw [Int.fdiv_eq_ediv_of_nonneg _ (by omega), ← Int.natCast_add, Int.natCast_ediv]
      rw [e1, e2]
  · have e : ((cs.length : Int) - (k : Int)).toNat = 0 := by omega
    rw [e]
    have z : ∀ (l : List Int) (i : Nat), i + l.length ≤ k → weigh (fun (i : Nat) => ((i / k : Nat) : Int)) i l = 0 := by
      intro l
      induction l with
      | nil => intro i _; rfl
      | cons c r ih =>
        intro i h
        rw [List.length_cons] at h
        have hd : i / k = 0 := Nat.div_eq_of_lt (by omega)
        rw [weigh, ih (i + 1) (by omega)]
        simp [hd]
    rw [z cs 0 (by omega)]
    rfl
theorem ilev_rows (rows : List Nat) (tr : Int) (n : Int) (k : Nat) (hk : 1 ≤ k) : ilev (hist rows, tr, n, (rows.length : Int)) (k : Int) = tr + (k : Int) * ((rows.map fun (r : Nat) => ((r / k : Nat) : Int) + 1).sum) := by
  unfold ilev
  show tr + (k : Int) * (ilAcc (hist rows) (k : Int) (((hist rows).length : Int) - (k : Int)).toNat + (rows.length : Int)) = _
  rw [ilAcc_weigh _ _ hk, weigh_hist]
  congr 2
  induction rows with
  | nil => rfl
  | cons r rest ih => rw [List.map_cons, List.map_cons, List.sum_cons, List.sum_cons, List.length_cons, ← ih]; omega
end Mine
end

section
open PySem PySem.W PyProof.Rows
namespace Mine
theorem codes_append (a b : Str) : (a ++ b : Str).cps.toList = a.cps.toList ++ b.cps.toList := by rw [Str.cps_append, Array.toList_append]
theorem codes_empty : (Str.ofString "").cps.toList = [] := by decide +kernel
theorem codes_tab : (Str.ofString "\t").cps.toList = [9] := by decide +kernel
theorem codes_space : (Str.ofString " ").cps.toList = [32] := by decide +kernel
theorem fold_rep (a : Array Nat) (n : Nat) : ∀ acc : Array Nat, (List.foldl (fun x1 x2 => x1 ++ x2) acc (List.replicate n a)).toList = acc.toList ++ (List.replicate n a.toList).flatten := by
  induction n with
  | zero => intro acc; simp
  | succ n ih => intro acc; rw [List.replicate_succ, List.foldl_cons, ih, List.replicate_succ, List.flatten_cons, Array.toList_append, List.append_assoc]
theorem flat_one (c : Nat) (n : Nat) : (List.replicate n [c]).flatten = List.replicate n c := by
  induction n with
  | zero => rfl
  | succ k ih => rw [List.replicate_succ, List.flatten_cons, ih, List.replicate_succ]; rfl
theorem codes_mul_one {x : Str} {c : Nat} (hx : x.cps.toList = [c]) (n : Int) : (Txt.mul x n).cps.toList = List.replicate n.toNat c := by
  unfold Txt.mul
  by_cases h : n < 1
  · rw [if_pos h, show n.toNat = 0 by omega]
    rfl
  · rw [if_neg h]
    by_cases h1 : (n == 1 || x.length == 0) = true
    · rw [if_pos h1]
      have hl : x.length = 1 := by rw [← str_len, hx]; rfl
      have : n = 1 := by simpa [hl] using h1
      rw [hx, this]
      rfl
    · rw [if_neg h1]
      show (List.foldl (fun x1 x2 => x1 ++ x2) #[] (List.replicate n.toNat x.cps)).toList = _
      rw [fold_rep, hx, flat_one]
      rfl
theorem codes_mul (n : Int) : (Txt.mul (Str.ofString " ") n).cps.toList = List.replicate n.toNat 32 := codes_mul_one codes_space n
theorem codes_mul_tab (n : Int) : (Txt.mul (Str.ofString "\t") n).cps.toList = List.replicate n.toNat 9 := codes_mul_one codes_tab n

/-- one letter divided: the new letters, what is left, the rows -/
def dvStep (k : Nat) (st : List Int × Nat × List Nat) (c : Int) : List Int × Nat × List Nat :=
  (st.1 ++ [65 + (((16 * st.2.1 + (c - 65).toNat) / k : Nat) : Int)], (16 * st.2.1 + (c - 65).toNat) % k, st.2.2 ++ [16 * st.2.1 + (c - 65).toNat])
def dvRun (k : Nat) (pre : List Int) : List Int × Nat × List Nat := pre.foldl (dvStep k) ([], 0, [])
theorem dvRun_snoc (k : Nat) (pre : List Int) (c : Int) : dvRun k (pre ++ [c]) = dvStep k (dvRun k pre) c := by simp [dvRun]
def colOf (k : Nat) (rows : List Nat) : Int := (k : Int) * ((rows.map fun (r : Nat) => ((r / k : Nat) : Int) + 1).sum)
theorem colOf_snoc (k : Nat) (rows : List Nat) (r : Nat) : colOf k (rows ++ [r]) = colOf k rows + (k : Int) * (((r / k : Nat) : Int) + 1) := by
  unfold colOf
  rw [List.map_append, List.sum_append, Int.mul_add]
  simp
theorem rowsCodes_snoc (rows : List Nat) (r : Nat) : rowsCodes (rows ++ [r]) = rowsCodes rows ++ (List.replicate r 32 ++ [9]) := by simp [rowsCodes, rowCodes]
theorem rowsCodes_len (rows : List Nat) (n : Nat) (h : ∀ r ∈ rows, r ≤ n) : (rowsCodes rows).length ≤ rows.length * (n + 1) := by
  induction rows with
  | nil => simp [rowsCodes]
  | cons r rest ih =>
    have e : rowsCodes (r :: rest) = (List.replicate r 32 ++ [9]) ++ rowsCodes rest := rfl
    have h1 := h r (.head _)
    have h2 := ih fun x hx => h x (.tail _ hx)
    rw [e, List.length_append, List.length_append, List.length_replicate, List.length_singleton, List.length_cons, Nat.succ_mul]
    omega
theorem dv_bound {k : Nat} (hk : 2 ≤ k) (hk' : k ≤ 6) (pre : List Int) (hp : ∀ c ∈ pre, 65 ≤ c ∧ c ≤ 80) :
    (dvRun k pre).2.1 < k ∧ (dvRun k pre).1.length = pre.length ∧ (dvRun k pre).2.2.length = pre.length ∧ (∀ r ∈ (dvRun k pre).2.2, r ≤ 95) ∧ ∀ c ∈ (dvRun k pre).1, 65 ≤ c ∧ c ≤ 80 := by
  have all : ∀ (l : List Int) (st : List Int × Nat × List Nat) (n : Nat), (∀ c ∈ l, 65 ≤ c ∧ c ≤ 80) → (st.2.1 < k ∧ st.1.length = n ∧ st.2.2.length = n ∧ (∀ r ∈ st.2.2, r ≤ 95) ∧ ∀ c ∈ st.1, 65 ≤ c ∧ c ≤ 80) →
      ((l.foldl (dvStep k) st).2.1 < k ∧ (l.foldl (dvStep k) st).1.length = n + l.length ∧ (l.foldl (dvStep k) st).2.2.length = n + l.length ∧ (∀ r ∈ (l.foldl (dvStep k) st).2.2, r ≤ 95) ∧ ∀ c ∈ (l.foldl (dvStep k) st).1, 65 ≤ c ∧ c ≤ 80) := by
    intro l
    induction l with
    | nil => intro st n _ h; simpa using h
    | cons c r ih =>
      intro st n hl h
      obtain ⟨h1, h2, h3, h4, h5⟩ := h
      have hc := hl c (.head _)
      have hrun : 16 * st.2.1 + (c - 65).toNat < 16 * k := by omega
      have hq : (16 * st.2.1 + (c - 65).toNat) / k ≤ 15 := by
        have : (16 * st.2.1 + (c - 65).toNat) / k < 16 := (Nat.div_lt_iff_lt_mul (by omega)).mpr (by omega)
        omega
      have := ih (dvStep k st c) (n + 1) (fun x hx => hl x (.tail _ hx)) ⟨Nat.mod_lt _ (by omega), by simp [dvStep, h2], by simp [dvStep, h3], ?_, ?_⟩
      · rw [List.foldl_cons, List.length_cons, show n + (r.length + 1) = n + 1 + r.length by omega]
        exact this
      · intro x hx
        rcases List.mem_append.mp hx with h | h
        · exact h4 x h
        · rw [List.mem_singleton.mp h]; omega
      · intro x hx
        rcases List.mem_append.mp hx with h | h
        · exact h5 x h
        · rw [List.mem_singleton.mp h]
          generalize (16 * st.2.1 + (c - 65).toNat) / k = q at hq
          omega
  have := all pre ([], 0, []) 0 hp ⟨by (show 0 < k; omega), rfl, rfl, fun _ h => (nomatch h), fun _ h => (nomatch h)⟩
  simpa [dvRun] using this
/-- the column of one row -/
theorem col_is {run : Nat} {c : Int} {k : Nat} (hk : 1 ≤ k) (hc : 65 ≤ c) {n : Int} (hn : n = (run : Int)) :
    ilev (wsRead (Txt.mul (Str.ofString " ") n ++ Str.ofString "\t" ++ ({ cps := #[c.toNat] } : Str) ++ Str.ofString "\t").cps.toList) (k : Int) = (k : Int) * (((run / k : Nat) : Int) + 1) := by
  have e : (Txt.mul (Str.ofString " ") n ++ Str.ofString "\t" ++ ({ cps := #[c.toNat] } : Str) ++ Str.ofString "\t").cps.toList = rowsCodes [run] ++ List.replicate 0 32 ++ c.toNat :: [9] := by
    rw [codes_append, codes_append, codes_append, codes_mul, codes_tab, hn, Int.toNat_natCast]
    simp [rowsCodes, rowCodes]
  rw [e, read_lead_stop [run] 0 c.toNat [9] (fun h => by rcases h with h | h <;> omega)]
  have := ilev_rows [run] ((0 : Nat) : Int) (([run].map fun (r : Nat) => (r : Int) + 1).sum + ((0 : Nat) : Int)) k hk
  rw [this]
  simp
theorem col_facts {run : Nat} {k : Nat} (hk : 1 ≤ k) {col : Int} (h : col = (k : Int) * (((run / k : Nat) : Int) + 1)) :
    col.fmod (k : Int) = 0 ∧ (run : Int) < col ∧ col ≤ (run : Int) + k ∧ col.fdiv (k : Int) = ((run / k : Nat) : Int) + 1 ∧ (run : Int) + k - col = ((run % k : Nat) : Int) := by
  have e : col = ((k * (run / k + 1) : Nat) : Int) := by rw [h]; push_cast; rfl
  have d := Nat.div_add_mod run k
  have ml := Nat.mod_lt run hk
  have d2 : k * (run / k + 1) = k * (run / k) + k := by rw [Nat.mul_add, Nat.mul_one]
  refine ⟨?_, by omega, by omega, ?_, by omega⟩
  · rw [h, Int.mul_fmod_right]
  · rw [h, Int.mul_fdiv_cancel_left _ (by omega)]
theorem col_all {rows : List Nat} {left : Nat} {k : Nat} (hk : 1 ≤ k) {x : Str} (hx : x.cps.toList = rowsCodes rows ++ List.replicate left 32) : ilev (wsRead x.cps.toList) (k : Int) = colOf k rows + left := by
  rw [hx, read_lead, ilev_rows _ _ _ _ hk]
  unfold colOf
  omega
end Mine
end

section
open PySem PySem.W PyProof.Rows PySem.Spec PySem.Calls PyProof.V PyProof.Rows.LCg
namespace Mine
section
variable {prog : Program} {w : World} {A : Around} {h₀ : Heap} {L : Addr} {m : Str → Option Value}

def tests (prog : Program) (w : World) (A : Around) (ifs : List Expr) (env : Env) (K : Bool → Shared → Prop) (E : Value → Shared → Prop) (s : Shared) : Prop :=
  match ifs with
  | [] => K true s
  | c :: _ => wpAny (model prog w) A (isTrue c env (eval c env)) K E s
def CEnd (h₀ : Heap) (L : Addr) (m : Str → Option Value) (ca : List Addr) (own : List (Addr × Obj)) (D : Addr) (oD : Obj) (S : List (Addr × Obj) → Prop) (rest : List (Addr × Obj) → Prop) (s₁ s₂ : Shared) : Prop :=
  ∃ h' tk nw, s₂ = { s₁ with heap := h', toks := tk } ∧ Fr h₀ L h' m ∧ News h₀ L h' (own ++ (D, oD) :: nw) ∧ (∀ p ∈ nw, p.1 ∉ ca ∧ p.1 ≠ D) ∧ S nw ∧ rest nw
def CRest (prog : Program) (w : World) (A : Around) (h₀ : Heap) (L : Addr) (m : Str → Option Value) (env : Env) (elt : Expr) (ifs : List Expr) (ca : List Addr) (D : Addr) (s : Shared) (S : List (Addr × Obj) → Prop) (B : Nat → List (Addr × Obj) → Prop)
    (Fin : List Value → List (Addr × Obj) → Prop) : Nat → Nat → List Value → List (Addr × Obj) → Prop
  | 0, _, ys, nw => Fin ys nw
  | k + 1, i, ys, nw => ∀ own h tk (E' : Value → Shared → Prop), B i own → (∀ p ∈ own, p.1 ∈ ca) → Fr h₀ L h m → News h₀ L h (own ++ (D, lst ys) :: nw) → (∀ p ∈ nw, p.1 ∉ ca ∧ p.1 ≠ D) →
      tests prog w A ifs env (fun ok s₃ => if ok = true then wpAny (model prog w) A (eval elt env) (fun y s₄ => CEnd h₀ L m ca own D (lst ys) S (fun nw' => CRest prog w A h₀ L m env elt ifs ca D s S B Fin k (i + 1) (ys ++ [y]) nw') s s₄) E' s₃
        else CEnd h₀ L m ca own D (lst ys) S (fun nw' => CRest prog w A h₀ L m env elt ifs ca D s S B Fin k (i + 1) ys nw') s s₃) E' { s with heap := h, toks := tk }

/-- where a comprehension draws from: its own memory between two turns (Idle), within one (B) -/
structure CSrc (prog : Program) (w : World) (A : Around) (h₀ : Heap) (L : Addr) (target : Expr) (env : Env) (I D C : Addr) (ca : List Addr) (n : Nat) (S : List (Addr × Obj) → Prop) (Idle : Nat → Heap → Prop) (B : Nat → List (Addr × Obj) → Prop) : Prop where
  next : ∀ i (s : Shared) (P : Option Value → Shared → Prop) (Q : Shared → Prop) (E : Value → Shared → Prop), i < n → Idle i s.heap →
    (∀ v s₁, wpAny (model prog w) A (letOwnedTupleGo target (.ref I) v) (fun _ s₀ => wpAny (model prog w) A (assign target env v) (fun _ s₂ => Q s₂) E s₀) E s₁ → P (some v) s₁) →
    (∀ own h' tk, B i own → (∀ p ∈ own, p.1 ∈ ca) → (∀ p ∈ own, h'.get? p.1 = some p.2) → (∀ b o, b ∉ ca → s.heap.get? b = some o → h'.get? b = some o) → Q { s with heap := h', toks := tk }) →
    wpAny (model prog w) A (pyNext (.ref I)) P E s
  back : ∀ i own h nw, B i own → (∀ p ∈ own, h.get? p.1 = some p.2) → (∀ b o, h₀.get? b = some o → h.get? b = some o) → News h₀ L h nw → S nw → Idle (i + 1) h
  keep : ∀ i h h', Idle i h → (∀ b o, b ≠ D → h.get? b = some o → h'.get? b = some o) → Idle i h'
  done : ∀ (s : Shared) (P : Option Value → Shared → Prop) (E : Value → Shared → Prop), Idle n s.heap →
    (∀ h' tk, (∀ b o, b ∉ ca → s.heap.get? b = some o → h'.get? b = some o) → (∃ m', h'.Ns C m') → P none { s with heap := h', toks := tk }) →
    wpAny (model prog w) A (pyNext (.ref I)) P E s
  self : ∀ (s : Shared) (Q : Value → Shared → Prop) (E : Value → Shared → Prop), Idle 0 s.heap → Q (.ref I) s → wpAny (model prog w) A (pyIter (.ref I)) Q E s

theorem my_loop {elt target iter : Expr} {ifs : List Expr} (hifs : ifs.length ≤ 1) {scope : Scope} {pos : Pos} {it acc : Value} {env : Env} {R : Result → Shared → Prop} (I : Nat → Shared → Prop)
    (turn : ∀ n s, I n s → wpAny (model prog w) A (pyNext it) (fun r s₁ => match r with
      | none => R (.ok .next) s₁
      | some v => wpAny (model prog w) A (letOwnedTupleGo target it v) (fun _ s₀ => wpAny (model prog w) A (assign target env v) (fun _ s₂ =>
          tests prog w A ifs env (fun ok s₃ => if ok = true then wpAny (model prog w) A (eval elt env) (fun x s₄ =>
            wpAny (model prog w) A (call (.builtin "list.append") [acc, x]) (fun _ s₅ => ∃ m, m < n ∧ I m s₅) (notedBy (model prog w) A env fun e s' => R (.error e) s') s₄) (notedBy (model prog w) A env fun e s' => R (.error e) s') s₃
            else ∃ m, m < n ∧ I m s₃) (notedBy (model prog w) A env fun e s' => R (.error e) s') s₂)
          (notedBy (model prog w) A env fun e s' => R (.error e) s') s₀) (notedBy (model prog w) A env fun e s' => R (.error e) s') s₁) (notedBy (model prog w) A env fun e s' => R (.error e) s') s)
    (n : Nat) (h : I n s) : codeAny (model prog w) A (.compLoop (.ListComp elt [⟨target, iter, ifs, 0⟩] scope pos) 0 it acc env) R s := by
  match ifs, hifs with
  | [], _ =>
    refine kcp_loop I (fun n s hI => wpAny_mono (turn n s hI) (fun r s₁ h₁ => ?_) fun _ _ e => e) n h
    cases r with
    | none => exact h₁
    | some v => exact wpAny_mono h₁ (fun _ s₀ h₀ => wpAny_mono h₀ (fun _ s₂ h₂ => by simpa [tests] using h₂) fun _ _ e => e) fun _ _ e => e
  | [c], _ => exact kct_loop I turn n h
  | _ :: _ :: _, h => exact absurd h (by simp)

theorem block_my {elt target iter : Expr} {ifs : List Expr} (hifs : ifs.length ≤ 1) {scope : Scope} {pos : Pos} {env : Env} {RR : Result → Shared → Prop} {I D C : Addr} {ca : List Addr} {n : Nat} {S : List (Addr × Obj) → Prop} {Idle : Nat → Heap → Prop} {B : Nat → List (Addr × Obj) → Prop}
    {Fin : List Value → List (Addr × Obj) → Prop} {nw₀ : List (Addr × Obj)} {s : Shared}
    (W : CSrc prog w A h₀ L target env I D C ca n S Idle B) (hsz : n ≤ sizeLine) (hDca : D ∉ ca) (hD0 : h₀.get? D = none) (hDL : D ≠ L) (hLca : L ∉ ca) (hca0 : ∀ b ∈ ca, h₀.get? b = none)
    (hidle : Idle 0 s.heap) (hacc : s.heap.get? D = some (lst [])) (F : Fr h₀ L s.heap m) (N : News h₀ L s.heap nw₀) (off : ∀ p ∈ nw₀, p.1 ∉ ca ∧ p.1 ≠ D) (hS : S nw₀)
    (R : CRest prog w A h₀ L m env elt ifs ca D s S B Fin n 0 [] nw₀)
    (hR : ∀ h tk ys nw, (∃ m', h.Ns C m') → Fr h₀ L h m → News h₀ L h ((D, lst ys) :: nw) → (∀ p ∈ nw, p.1 ∉ ca ∧ p.1 ≠ D) → Fin ys nw → RR (.ok .next) { s with heap := h, toks := tk }) :
    codeAny (model prog w) A (.compLoop (.ListComp elt [⟨target, iter, ifs, 0⟩] scope pos) 0 (.ref I) (.ref D) env) RR s := by
  have frTo : ∀ {h h' : Heap}, Fr h₀ L h m → (∀ b o, b ∉ ca → h.get? b = some o → h'.get? b = some o) → Fr h₀ L h' m := fun F' k =>
    ⟨F'.ns.at' fun o e => k _ o hLca e, fun b o e => k b o (fun hb => by rw [hca0 b hb] at e; cases e) (F'.keep b o e), F'.above⟩
  refine my_loop hifs
    (fun k s' => ∃ h' tk i ys nw, s' = { s with heap := h', toks := tk } ∧ i ≤ n ∧ k = n + 1 - i ∧ ys.length ≤ i ∧ Idle i h' ∧ Fr h₀ L h' m ∧ News h₀ L h' ((D, lst ys) :: nw) ∧ (∀ p ∈ nw, p.1 ∉ ca ∧ p.1 ≠ D) ∧ S nw ∧
      CRest prog w A h₀ L m env elt ifs ca D s S B Fin (n - i) i ys nw) ?_ (n + 1)
    ⟨s.heap, s.toks, 0, [], nw₀, rfl, Nat.zero_le _, rfl, Nat.le_refl _, hidle, F, fun p hp => ?_, off, hS, R⟩
  · rintro k s' ⟨h', tk, i, ys, nw, rfl, hi, rfl, hyl, hid, F', N', off', hS', R'⟩
    by_cases hlt : i < n
    · obtain ⟨j, hj⟩ : ∃ j, n - i = j + 1 := ⟨n - i - 1, by omega⟩
      rw [hj] at R'
      refine W.next i _ _ _ _ hlt hid (fun v s₁ h₁ => h₁) fun own h₂ tk₂ hB hoc hog hk₂ => ?_
      have F₂ : Fr h₀ L h₂ m := frTo F' hk₂
      have N₂ : News h₀ L h₂ (own ++ (D, lst ys) :: nw) := fun p hp => by
        rcases List.mem_append.mp hp with hp | hp
        · exact ⟨hog p hp, fun e => hLca (e ▸ hoc p hp), hca0 _ (hoc p hp)⟩
        · refine ⟨hk₂ _ _ ?_ (N' p hp).1, (N' p hp).2⟩
          rcases List.mem_cons.mp hp with rfl | hp
          · exact hDca
          · exact (off' p hp).1
      have T := R' own h₂ tk₂ (notedBy (model prog w) A env fun e s' => RR (.error e) s') hB hoc F₂ N₂ off'
      have skip : ∀ (ys' : List Value) (s₃ : Shared), ys'.length ≤ i + 1 → CEnd h₀ L m ca own D (lst ys') S (fun nw' => CRest prog w A h₀ L m env elt ifs ca D s S B Fin j (i + 1) ys' nw') s s₃ →
          ∃ m₁, m₁ < n + 1 - i ∧ ∃ h' tk i' ys nw, s₃ = { s with heap := h', toks := tk } ∧ i' ≤ n ∧ m₁ = n + 1 - i' ∧ ys.length ≤ i' ∧ Idle i' h' ∧ Fr h₀ L h' m ∧ News h₀ L h' ((D, lst ys) :: nw) ∧ (∀ p ∈ nw, p.1 ∉ ca ∧ p.1 ≠ D) ∧ S nw ∧
            CRest prog w A h₀ L m env elt ifs ca D s S B Fin (n - i') i' ys nw := by
        rintro ys' s₃ hl ⟨h₃, tk₃, nw₃, rfl, F₃, N₃, off₃, hS₃, R₃⟩
        have N₃' : News h₀ L h₃ ((D, lst ys') :: nw₃) := fun p hp => N₃ p (List.mem_append_right _ hp)
        refine ⟨n + 1 - (i + 1), by omega, h₃, tk₃, i + 1, ys', nw₃, rfl, hlt, rfl, hl, ?_, F₃, N₃', off₃, hS₃, ?_⟩
        · exact W.back i own h₃ nw₃ hB (fun p hp => (N₃ p (List.mem_append_left _ hp)).1) F₃.keep (fun p hp => N₃' p (List.mem_cons_of_mem _ hp)) hS₃
        · have : n - (i + 1) = j := by omega
          rw [this]; exact R₃
      have after : ∀ (ok : Bool) (s₃ : Shared), (if ok = true then wpAny (model prog w) A (eval elt env) (fun y s₄ => CEnd h₀ L m ca own D (lst ys) S (fun nw' => CRest prog w A h₀ L m env elt ifs ca D s S B Fin j (i + 1) (ys ++ [y]) nw') s s₄) (notedBy (model prog w) A env fun e s' => RR (.error e) s') s₃
          else CEnd h₀ L m ca own D (lst ys) S (fun nw' => CRest prog w A h₀ L m env elt ifs ca D s S B Fin j (i + 1) ys nw') s s₃) →
          (if ok = true then wpAny (model prog w) A (eval elt env) (fun x s₄ =>
            wpAny (model prog w) A (call (.builtin "list.append") [.ref D, x]) (fun _ s₅ => ∃ m₁, m₁ < n + 1 - i ∧ ∃ h' tk i' ys nw, s₅ = { s with heap := h', toks := tk } ∧ i' ≤ n ∧ m₁ = n + 1 - i' ∧ ys.length ≤ i' ∧ Idle i' h' ∧ Fr h₀ L h' m ∧ News h₀ L h' ((D, lst ys) :: nw) ∧ (∀ p ∈ nw, p.1 ∉ ca ∧ p.1 ≠ D) ∧ S nw ∧
              CRest prog w A h₀ L m env elt ifs ca D s S B Fin (n - i') i' ys nw) (notedBy (model prog w) A env fun e s' => RR (.error e) s') s₄) (notedBy (model prog w) A env fun e s' => RR (.error e) s') s₃
            else ∃ m₁, m₁ < n + 1 - i ∧ ∃ h' tk i' ys nw, s₃ = { s with heap := h', toks := tk } ∧ i' ≤ n ∧ m₁ = n + 1 - i' ∧ ys.length ≤ i' ∧ Idle i' h' ∧ Fr h₀ L h' m ∧ News h₀ L h' ((D, lst ys) :: nw) ∧ (∀ p ∈ nw, p.1 ∉ ca ∧ p.1 ≠ D) ∧ S nw ∧
              CRest prog w A h₀ L m env elt ifs ca D s S B Fin (n - i') i' ys nw) := by
        intro ok s₃ hok
        cases ok with
        | false =>
          simp only [Bool.false_eq_true, if_false] at hok ⊢
          exact skip ys s₃ (by omega) hok
        | true =>
          simp only [if_true] at hok ⊢
          refine wpAny_mono hok (fun y s₄ h₄ => ?_) fun _ _ e => e
          obtain ⟨h₃, tk₃, nw₃, rfl, F₃, N₃, off₃, hS₃, R₃⟩ := h₄
          have zD := (N₃ (D, lst ys) (List.mem_append_right _ List.mem_cons_self)).1
          refine append_at (hsz := by show ys.toArray.size ≤ sizeLine; rw [List.size_toArray]; omega) zD fun h₅ hs₅ hD₅ => ?_
          have N₃' : News h₀ L h₃ nw₃ := fun p hp => N₃ p (List.mem_append_right _ (List.mem_cons_of_mem _ hp))
          refine ⟨n + 1 - (i + 1), by omega, h₅, tk₃, i + 1, ys ++ [y], nw₃, rfl, hlt, rfl, by rw [List.length_append, List.length_singleton]; omega, ?_, F₃.change hs₅ hDL hD0, fun p hp => ?_, off₃, hS₃, ?_⟩
          · exact W.keep (i + 1) h₃ h₅ (W.back i own h₃ nw₃ hB (fun p hp => (N₃ p (List.mem_append_left _ hp)).1) F₃.keep N₃' hS₃) fun b o hb e => hs₅.extBut b o hb e
          · rcases List.mem_cons.mp hp with rfl | hp
            · exact ⟨hD₅.trans (congrArg some (lst_snoc ys y)), hDL, hD0⟩
            · exact ⟨hs₅.extBut _ _ (off₃ p hp).2 (N₃' p hp).1, (N₃' p hp).2⟩
          · have : n - (i + 1) = j := by omega
            rw [this]; exact R₃
      match ifs, hifs, T, after with
      | [], _, T, after => exact after true _ T
      | [c], _, T, after => exact wpAny_mono T after fun _ _ e => e
      | _ :: _ :: _, h, _, _ => exact absurd h (by simp)
    · have hin : i = n := Nat.le_antisymm hi (Nat.not_lt.mp hlt)
      subst hin
      rw [Nat.sub_self] at R'
      refine W.done _ _ _ hid fun h₂ tk₂ hk₂ hC₂ => ?_
      refine hR h₂ tk₂ ys nw hC₂ (frTo F' hk₂) (fun p hp => ⟨hk₂ _ _ ?_ (N' p hp).1, (N' p hp).2⟩) off' R'
      rcases List.mem_cons.mp hp with rfl | hp
      · exact hDca
      · exact (off' p hp).1
  · rcases List.mem_cons.mp hp with rfl | hp
    · exact ⟨hacc, hDL, hD0⟩
    · exact N p hp
end
end Mine
end

section
open PySem PySem.W PyProof.Rows PySem.Spec PySem.Calls PyProof.V PyProof.Rows.LCg
namespace Mine
section
variable {prog : Program} {w : World} {A : Around} {h₀ : Heap} {L : Addr} {m : Str → Option Value} {E : Value → Shared → Prop} {s : Shared} {env : Env}

theorem newEnv_around {scope : Scope} {globals : Addr} {cl : List (Str × Addr)} {qual : Str} {outer : Env} {Q : Env → Shared → Prop}
    (hQ : Q (newEnv scope s.heap.objs.size globals (cellsFrom (s.heap.objs.size + 1) scope.names cl) qual none .none (some outer) builtinsNs) { s with heap := pushCells (s.heap.push { cls := .type "dict", data := .dict #[] }) scope.names }) :
    wpAny (model prog w) A (newFunctionEnv scope globals cl [] qual none .none (some outer)) Q E s := by
  simp only [newFunctionEnv, Option.isSome_some, if_true]
  refine wpAny_bind (wpAny_alloc ?_)
  refine wpAny_bind (wpAny_layCells _ (fun name kind cells => by cases hkc : kind == NameKind.cell <;> simp [hkc]) _ _ _ _ ?_)
  rw [show ({ s with heap := s.heap.push { cls := .type "dict", data := .dict #[] } } : Shared).heap.objs.size = s.heap.objs.size + 1 from Heap.size_push ..]
  refine wpAny_bind ?_
  rw [List.forIn_nil]
  exact wpAny_pure (wpAny_pure hQ)

/-- the loop of a comprehension stands ready: behind pyIter -/
def CompAt (prog : Program) (w : World) (A : Around) (h₀ : Heap) (L : Addr) (m : Str → Option Value) (env : Env) (target elt : Expr) (ifs : List Expr) (scope : Scope) (cl : List (Str × Addr)) (Fin : Addr → Shared → List Value → List (Addr × Obj) → Prop) (it : Value) (s₂ : Shared) : Prop :=
  ∃ I n nw₀, it = .ref I ∧ n ≤ sizeLine ∧ Fr h₀ L s₂.heap m ∧ News h₀ L s₂.heap nw₀ ∧
      ∀ D C h₃, D = s₂.heap.objs.size → C = D + 1 → h₃ = pushCells ((s₂.heap.push (lst [])).push { cls := .type "dict", data := .dict #[] }) scope.names →
        ∃ ca S Idle B, CSrc prog w A h₀ L target (compEnvC scope (cellsFrom (C + 1) scope.names cl) C env) I D C ca n S Idle B ∧ (∀ b ∈ ca, h₀.get? b = none ∧ b ≠ L ∧ b ≠ D) ∧ C ∈ ca ∧ Idle 0 h₃ ∧ (∀ p ∈ nw₀, p.1 ∉ ca) ∧ S nw₀ ∧
          CRest prog w A h₀ L m (compEnvC scope (cellsFrom (C + 1) scope.names cl) C env) elt ifs ca D { s₂ with heap := h₃ } S B (Fin D s₂) n 0 [] nw₀
def FinEx (h₀ : Heap) (L : Addr) (m : Str → Option Value) (Q : Value → Shared → Prop) (D : Addr) (s₂ : Shared) (ys : List Value) (nw : List (Addr × Obj)) : Prop :=
  ∀ h tk, Fr h₀ L h m → News h₀ L h ((D, lst ys) :: nw) → (∀ p ∈ nw, p.1 ≠ D) → Q (.ref D) { s₂ with heap := h, toks := tk }
def FinAs (h₀ : Heap) (L : Addr) (m : Str → Option Value) (y : Str) (Q : Flow → Shared → Prop) (D : Addr) (s₂ : Shared) (ys : List Value) (nw : List (Addr × Obj)) : Prop :=
  ∀ h tk, Fr h₀ L h (fun z => if z = y then some (.ref D) else m z) → News h₀ L h ((D, lst ys) :: nw) → (∀ p ∈ nw, p.1 ≠ D) → Q .next { s₂ with heap := h, toks := tk }

theorem comp_at_code {elt iter target : Expr} {ifs : List Expr} {scope : Scope} {cl : List (Str × Addr)} {pos : Pos} (hifs : ifs.length ≤ 1) {it : Value} {s₂ : Shared} {Fin : Addr → Shared → List Value → List (Addr × Obj) → Prop} {RR : Value → Addr → Result → Shared → Prop}
    (h : CompAt prog w A h₀ L m env target elt ifs scope cl Fin it s₂)
    (hR : ∀ D C h tk m' ys nw, C ≠ L → h₀.get? C = none → C ≠ D → (∀ p ∈ nw, p.1 ≠ C ∧ p.1 ≠ D) → h.Ns C m' → Fr h₀ L h m → News h₀ L h ((D, lst ys) :: nw) → Fin D s₂ ys nw → RR (.ref D) C (.ok .next) { s₂ with heap := h, toks := tk }) :
    wpAny (model prog w) A (newList []) (fun acc s₃ => wpAny (model prog w) A (newFunctionEnv scope env.globals cl [] env.qual none .none (some env)) (fun cenv s₄ =>
      codeAny (model prog w) A (.compStart (.ListComp elt [⟨target, iter, ifs, 0⟩] scope pos) 0 it acc { cenv with scope := relabel scope env }) (RR acc cenv.locals) s₄) E s₃) E s₂ := by
  obtain ⟨I, n, nw₀, rfl, hsz, F, N, h₂⟩ := h
  have e0 : s₂.heap.push { cls := .type "list", dict := none, data := .seq ([] : List Value).toArray } = s₂.heap.push (lst []) := rfl
  refine wpAny_newObj_type ?_
  rw [e0]
  try dsimp only
  refine newEnv_around ?_
  have hC : (s₂.heap.push (lst [])).objs.size = s₂.heap.objs.size + 1 := Heap.size_push ..
  try dsimp only
  rw [hC]
  obtain ⟨ca, S, Idle, B, W, hca, hCca, hid, hoff, hS, R⟩ := h₂ s₂.heap.objs.size (s₂.heap.objs.size + 1) _ rfl rfl rfl
  have old : ∀ b o, s₂.heap.get? b = some o → (pushCells ((s₂.heap.push (lst [])).push { cls := .type "dict", data := .dict #[] }) scope.names).get? b = some o := fun b o e => pushCells_keeps _ _ _ _ (Heap.get?_push_of_some _ (Heap.get?_push_of_some _ e))
  have hD0 : h₀.get? s₂.heap.objs.size = none := next_is_new F
  have hDL : s₂.heap.objs.size ≠ L := Nat.ne_of_gt F.ns.lt
  have hacc : (pushCells ((s₂.heap.push (lst [])).push { cls := .type "dict", data := .dict #[] }) scope.names).get? s₂.heap.objs.size = some (lst []) := pushCells_keeps _ _ _ _ (Heap.get?_push_of_some _ (Heap.get?_push_size _ rfl))
  have loop := block_my (s := { s₂ with heap := pushCells ((s₂.heap.push (lst [])).push { cls := .type "dict", data := .dict #[] }) scope.names }) (elt := elt) (iter := iter) (target := target) hifs (scope := scope) (pos := pos)
    (RR := RR (.ref s₂.heap.objs.size) (s₂.heap.objs.size + 1)) W hsz (fun hm => (hca _ hm).2.2 rfl) hD0 hDL (fun hm => (hca _ hm).2.1 rfl) (fun b hb => (hca b hb).1) hid hacc (F.keeps old) (N.grown old)
    (fun p hp => ⟨hoff p hp, Nat.ne_of_lt (Heap.lt_size (N p hp).1)⟩) hS R ?_
  · exact codeAny_compStart_list loop (W.self _ _ _ hid loop)
  · intro h tk ys nw hC' F' N' off' fin
    obtain ⟨m', hn⟩ := hC'
    exact hR _ _ h tk m' ys nw (hca _ hCca).2.1 (hca _ hCca).1 (Nat.ne_of_gt (Nat.lt_succ_self _)) (fun p hp => ⟨fun e => (off' p hp).1 (e ▸ hCca), (off' p hp).2⟩) hn F' N' fin

/-- a comprehension, whatever it draws from -/
theorem ListComp_my {elt iter target : Expr} {ifs : List Expr} {scope : Scope} {cl : List (Str × Addr)} {pos : Pos} {Q : Value → Shared → Prop} (_F₀ : Fr h₀ L s.heap m) (hifs : ifs.length ≤ 1)
    (hclos : closureFor scope env = pure cl) (hkind : scope.kind = .function) (hnames : ∀ y ∈ scope.names, y.2 = .local → scope.names.lookup y.1 = some .local)
    (h : wpAny (model prog w) A (eval iter env) (fun xv s₁ => wpAny (model prog w) A (pyIter xv) (CompAt prog w A h₀ L m env target elt ifs scope cl (FinEx h₀ L m Q)) E s₁) E s)
    (hs : ∀ x, foldedSetIterable iter env x = pure x := by intro _; rfl) :
    wpAny (model prog w) A (eval (.ListComp elt [⟨target, iter, ifs, 0⟩] scope pos) env) Q E s := by
  rw [eval_ListComp]
  refine wpAny_comprehension_free (use := none) rfl hs hclos hkind hnames (wpAny_mono h (fun xv s₁ h₁ => wpAny_mono h₁ (fun it s₂ h₂ => ?_) fun _ _ e => e) fun _ _ e => e)
  refine comp_at_code hifs h₂ ?_
  intro D C h tk m' ys nw hCL hC₀ hCD off' hn F' N' fin
  refine ⟨m', hn, fun h'' hs'' => ?_⟩
  refine fin h'' tk (F'.change hs'' hCL hC₀) (fun p hp => ⟨hs''.extBut _ _ ?_ (N' p hp).1, (N' p hp).2⟩) fun p hp => (off' p hp).2
  rcases List.mem_cons.mp hp with rfl | hp
  · exact Ne.symm hCD
  · exact (off' p hp).1

/-- the same, its list stored under a name of the frame's -/
theorem Assign_ListComp_my {elt iter target : Expr} {ifs : List Expr} {y : Str} {py : Pos} {scope : Scope} {cl : List (Str × Addr)} {pos spos : Pos} {Q : Flow → Shared → Prop} (_F₀ : Fr h₀ L s.heap m) (hifs : ifs.length ≤ 1) (hLe : env.locals = L)
    (hsw : swapsWith (.ListComp elt [⟨target, iter, ifs, 0⟩] scope pos) (some (.Name y py)) spos.line env = pure true)
    (hclos : closureFor scope env = pure cl) (hkind : scope.kind = .function) (hnames : ∀ y ∈ scope.names, y.2 = .local → scope.names.lookup y.1 = some .local)
    (hy : env.kindOf y = some .local) (hp : (env.scope.kind == .class || (env.scope.kind == .module && env.locals != env.globals)) = false)
    (h : wpAny (model prog w) A (eval iter env) (fun xv s₁ => wpAny (model prog w) A (pyIter xv) (CompAt prog w A h₀ L m env target elt ifs scope cl (FinAs h₀ L m y Q)) E s₁) E s)
    (hs : ∀ x, foldedSetIterable iter env x = pure x := by intro _; rfl) :
    wpAny (model prog w) A (exec (.Assign [.Name y py] (.ListComp elt [⟨target, iter, ifs, 0⟩] scope pos) spos) env) Q E s := by
  subst hLe
  rw [exec_Assign_Name_used _ _ _ _ hsw]
  refine wpAny_bind (wpAny_standAt (wpAny_bind ?_))
  show wpAny _ A (do let _ ← comprehension (.ListComp elt [⟨target, iter, ifs, 0⟩] scope pos) scope env _ (newList []) false (eval iter env) (some (assign (.Name y py) env))) _ _ s
  refine wpAny_bind (wpAny_mono (wpAny_comprehension_free (use := some (assign (.Name y py) env)) (Q := fun _ s' => Q .next s') rfl hs hclos hkind hnames
    (wpAny_mono h (fun xv s₁ h₁ => wpAny_mono h₁ (fun it s₂ h₂ => ?_) fun _ _ e => e) fun _ _ e => e)) (fun _ s' hq => wpAny_pure (wpAny_pure hq)) fun _ _ e => e)
  refine comp_at_code hifs h₂ ?_
  intro D C h' tk m' ys nw hCL hC₀ hCD off' hn F' N' fin
  show wpAny _ A (assign (.Name y py) env (.ref D)) _ _ _
  refine wpAny_assign_Name (wpAny_storeName_local hy F'.ns (fun h₂ hn₂ hs₂ => ?_) hp)
  have hL₀ : h₀.get? env.locals = none := Heap.get?_none_of_le F'.above
  have F₂ : Fr h₀ env.locals h₂ (fun z => if z = y then some (.ref D) else m z) := ⟨hn₂, fun b o e => hs₂.extBut b o (fun q => by rw [q, hL₀] at e; cases e) (F'.keep b o e), F'.above⟩
  refine ⟨m', hn.sameBut hs₂ hCL, fun h'' hs'' => fin h'' _ (F₂.change hs'' hCL hC₀) (fun p hp => ?_) fun p hp => (off' p hp).2⟩
  have z : h₂.get? p.1 = some p.2 := hs₂.extBut _ _ (N' p hp).2.1 (N' p hp).1
  refine ⟨hs''.extBut _ _ ?_ z, (N' p hp).2⟩
  rcases List.mem_cons.mp hp with rfl | hp
  · exact Ne.symm hCD
  · exact (off' p hp).1
end
end Mine
end

section
open PySem PySem.W PyProof.Rows PySem.Spec PySem.Calls PyProof.V PyProof.Rows.LCg
namespace Mine
theorem cells_none {names : List (Str × NameKind)} : ∀ (n : Nat) (cl : List (Str × Addr)), (∀ y ∈ names, y.2 ≠ .cell) → cellsFrom n names cl = cl := by
  induction names with
  | nil => intro n cl _; rfl
  | cons y r ih =>
    intro n cl h
    obtain ⟨x, k⟩ := y
    have hk : (k == NameKind.cell) = false := by simpa using h _ (.head _)
    unfold cellsFrom
    rw [hk]
    exact ih n cl fun z hz => h z (.tail _ hz)
theorem push_none {names : List (Str × NameKind)} : ∀ (g : Heap), (∀ y ∈ names, y.2 ≠ .cell) → pushCells g names = g := by
  induction names with
  | nil => intro g _; rfl
  | cons y r ih =>
    intro g h
    obtain ⟨x, k⟩ := y
    have hk : (k == NameKind.cell) = false := by simpa using h _ (.head _)
    unfold pushCells
    rw [hk]
    exact ih g fun z hz => h z (.tail _ hz)
section
variable {prog : Program} {w : World} {A : Around} {h₀ : Heap} {L : Addr} {m : Str → Option Value} {E : Value → Shared → Prop} {s : Shared} {env : Env}

def EnumB (e it l C : Addr) (items : Array Value) (a b : Str) (i : Nat) (own : List (Addr × Obj)) : Prop :=
  ∃ (oe oit oC : Obj) (m₂ : Str → Option Value) (v : Value) (t : Tok), own = [(e, oe), (it, oit), (C, oC)] ∧ NsObj oC m₂ ∧ items[i]? = some v ∧ m₂ a = some (.int i t) ∧ m₂ b = some v ∧
    (∀ h : Heap, h.get? e = some oe → ∃ old, IsEnum h e it ((i + 1 : Nat) : Int) old) ∧ (∀ h : Heap, h.get? it = some oit → h.IsListIter it l (i + 1))
def EnumI (e it l C : Addr) (items : Array Value) (i : Nat) (h : Heap) : Prop := (∃ old, IsEnum h e it (i : Int) old) ∧ h.IsListIter it l i ∧ h.IsList l items ∧ ∃ m', h.Ns C m'

theorem CSrc.enum (hh : A.handled = none) {e it l C D : Addr} (hei : e ≠ it) (hle : l ≠ e) (hli : l ≠ it) (hCe : C ≠ e) (hCi : C ≠ it) (hCl : C ≠ l) (hDe : D ≠ e) (hDi : D ≠ it) (hDl : D ≠ l) (hDC : D ≠ C)
    {items : Array Value} {n : Nat} {a b : Str} {pa pb tp : Pos} {kk : Nat} (hab : ¬ a = b) (hC : env.locals = C) (ha : env.kindOf a = some .local) (hb : env.kindOf b = some .local)
    (hp : (env.scope.kind == .class || (env.scope.kind == .module && env.locals != env.globals)) = false) :
    CSrc prog w A h₀ L (.Tuple [.Name a pa, .Name b pb] kk tp) env e D C [e, it, C] items.size (fun nw => (l, ({ cls := .type "list", data := .seq items n } : Obj)) ∈ nw) (EnumI e it l C items) (EnumB e it l C items a b) where
  next := by
    intro i s P Q E hi hid hP hQ
    obtain ⟨he, hit, hl, m', hn⟩ := hid
    have W := WalksT.enumerate (prog := prog) (w := w) hh e it l hei hle hli items
    refine W.item i s P E hi ⟨he, hit, hl⟩ fun T vals h' tk hPv _ hT hMid hk => hP _ _ ?_
    refine W.go _ _ _ i T _ _ _ hMid fun h₂ hSt hk₂ => ?_
    obtain ⟨t, x, hx, rfl⟩ := hPv
    have hap := W.apart i T h' hMid
    have hT₂ : h₂.IsTuple T #[.int i t, x] := by obtain ⟨o, ho, r⟩ := hT; exact ⟨o, hk₂ T o hap ho, r⟩
    have nm : ∀ c, c ≠ e → c ≠ it → c ∉ [e, it] := fun c h1 h2 hm => by
      rcases List.mem_cons.mp hm with q | q
      · exact h1 q
      · exact h2 (List.mem_singleton.mp q)
    have up : ∀ c o, c ≠ e → c ≠ it → s.heap.get? c = some o → h₂.get? c = some o := fun c o h1 h2 q => hk₂ c o (nm c h1 h2) (hk c o (nm c h1 h2) q)
    refine kcp_assign hh hT₂ ha hb hp (m := m') (by rw [hC]; exact hn.at' fun o q => up C o hCe hCi q) fun h₃ tk₃ hn₃ hk₃ => ?_
    rw [hC] at hn₃ hk₃
    obtain ⟨⟨old, he₂⟩, hit₂, hl₂⟩ := hSt
    obtain ⟨oC, heC, hoC⟩ := ns_obj hn₃
    obtain ⟨oit, hoit, r1, r2⟩ := hit₂
    refine hQ [(e, _), (it, oit), (C, oC)] h₃ tk₃ ⟨_, _, _, _, x, t, rfl, hoC, hx, ?_, by simp, fun h q => ⟨old, q⟩, fun h q => ⟨oit, q, r1, r2⟩⟩ ?_ ?_ ?_
    · simp [hab]
    · intro p hp
      rcases List.mem_cons.mp hp with rfl | hp
      · exact List.mem_cons_self
      · rcases List.mem_cons.mp hp with rfl | hp
        · exact List.mem_cons_of_mem _ List.mem_cons_self
        · rw [List.mem_singleton.mp hp]; exact List.mem_cons_of_mem _ (List.mem_cons_of_mem _ List.mem_cons_self)
    · intro p hp
      rcases List.mem_cons.mp hp with rfl | hp
      · exact hk₃ _ _ (Ne.symm hCe) (by simpa using he₂)
      · rcases List.mem_cons.mp hp with rfl | hp
        · exact hk₃ _ _ (Ne.symm hCi) hoit
        · rw [List.mem_singleton.mp hp]; exact heC
    · intro c o hc q
      have h1 : c ≠ e := fun z => hc (by rw [z]; exact List.mem_cons_self)
      have h2 : c ≠ it := fun z => hc (by rw [z]; exact List.mem_cons_of_mem _ List.mem_cons_self)
      have h3 : c ≠ C := fun z => hc (by rw [z]; exact List.mem_cons_of_mem _ (List.mem_cons_of_mem _ List.mem_cons_self))
      exact hk₃ c o h3 (up c o h1 h2 q)
  back := by
    intro i own h nw hB hog _ N hS
    obtain ⟨oe, oit, oC, m₂, v, t, rfl, hoC, _, _, _, f1, f2⟩ := hB
    exact ⟨f1 h (hog (e, oe) List.mem_cons_self), f2 h (hog (it, oit) (List.mem_cons_of_mem _ List.mem_cons_self)), ⟨_, (N _ hS).1, rfl, _, rfl⟩, m₂, hoC.ns (hog (C, oC) (List.mem_cons_of_mem _ (List.mem_cons_of_mem _ List.mem_cons_self)))⟩
  keep := by
    intro i h h' hid k
    obtain ⟨⟨old, he⟩, hit, hl, m', hn⟩ := hid
    exact ⟨⟨old, k _ _ (Ne.symm hDe) he⟩, hit.at fun o q => k _ o (Ne.symm hDi) q, hl.at fun o q => k _ o (Ne.symm hDl) q, m', hn.at' fun o q => k _ o (Ne.symm hDC) q⟩
  done := by
    intro s P E hid hP
    obtain ⟨he, hit, hl, m', hn⟩ := hid
    have W := WalksT.enumerate (prog := prog) (w := w) hh e it l hei hle hli items
    have nm : ∀ c, c ∉ [e, it, C] → c ∉ [e, it] := fun c h hm => h (by
      rcases List.mem_cons.mp hm with q | q
      · exact q ▸ List.mem_cons_self
      · exact List.mem_singleton.mp q ▸ List.mem_cons_of_mem _ List.mem_cons_self)
    refine W.done s P E ⟨he, hit, hl⟩ fun h' tk hk => hP h' tk (fun c o hc q => hk c o (nm c hc) q) ⟨m', hn.at' fun o q => hk C o ?_ q⟩
    intro hm
    rcases List.mem_cons.mp hm with q | q
    · exact hCe q
    · exact hCi (List.mem_singleton.mp q)
  self := by
    intro s Q E hid hQ
    obtain ⟨⟨old, he⟩, _⟩ := hid
    exact wpAny_pyIter_enum he hQ

/-- enumerate over a list of the ledger, two names -/
theorem enum_at {elt : Expr} {ifs : List Expr} {scope : Scope} {cl : List (Str × Addr)} {l : Addr} {items : Array Value} {n : Nat} {a b : Str} {pa pb tp : Pos} {kk : Nat} {nw₀ : List (Addr × Obj)} {Fin : Addr → Shared → List Value → List (Addr × Obj) → Prop}
    (hh : A.handled = none) (F : Fr h₀ L s.heap m) (N : News h₀ L s.heap nw₀) (hm : (l, ({ cls := .type "list", data := .seq items n } : Obj)) ∈ nw₀) (hsz : items.size ≤ sizeLine) (hab : ¬ a = b)
    (hcell : ∀ y ∈ scope.names, y.2 ≠ .cell) (hkind : scope.kind = .function) (hxa : scope.names.lookup a = some .local) (hxb : scope.names.lookup b = some .local)
    (R : ∀ D C e it h₁ h₂, (∀ p ∈ nw₀, p.1 < it) → e = it + 1 → D = it + 2 → C = it + 3 → CRest prog w A h₀ L m (compEnvC scope cl C env) elt ifs [e, it, C] D { s with heap := h₁ } (fun nw => (l, ({ cls := .type "list", data := .seq items n } : Obj)) ∈ nw) (EnumB e it l C items a b)
      (Fin D { s with heap := h₂ }) items.size 0 [] nw₀) :
    wpAny (model prog w) A (call (.type "enumerate") [.ref l]) (fun xv s₁ => wpAny (model prog w) A (pyIter xv) (CompAt prog w A h₀ L m env (.Tuple [.Name a pa, .Name b pb] kk tp) elt ifs scope cl Fin) E s₁) E s := by
  have hl : s.heap.IsList l items := ⟨_, (N _ hm).1, rfl, _, rfl⟩
  have hlt : l < s.heap.objs.size := Heap.lt_size (N _ hm).1
  refine call_enumerate_list hl fun h' he hit hsz' hk => ?_
  refine wpAny_pyIter_enum he ?_
  refine ⟨s.heap.objs.size + 1, items.size, nw₀, rfl, hsz, F.keeps hk, N.grown hk, ?_⟩
  intro D C h₃ hD hC hh3
  have hD' : D = s.heap.objs.size + 2 := by rw [hD]; exact hsz'
  have hDn : @Eq Nat D (s.heap.objs.size + 2) := hD'
  have hCn : @Eq Nat C (s.heap.objs.size + 3) := by rw [hC, hD']
  have hltn : @LT.lt Nat _ l s.heap.objs.size := hlt
  rw [cells_none _ _ hcell]
  rw [push_none _ hcell] at hh3
  have hNlt : ∀ p ∈ nw₀, p.1 < s.heap.objs.size := fun p hp => Heap.lt_size (N p hp).1
  have fresh : ∀ c, s.heap.objs.size ≤ c → h₀.get? c = none := fun c hc => by
    cases q : h₀.get? c with
    | none => rfl
    | some o => exact absurd (Nat.lt_of_lt_of_le (Heap.lt_size (F.keep c o q)) hc) (Nat.lt_irrefl _)
  have hLlt : L < s.heap.objs.size := F.ns.lt
  have up : ∀ c o, h'.get? c = some o → h₃.get? c = some o := fun c o q => by rw [hh3]; exact Heap.get?_push_of_some _ (Heap.get?_push_of_some _ q)
  have hnsC : h₃.Ns C (fun _ => none) := by
    have e1 : ((h'.push (lst [])) : Heap).objs.size = C := by rw [Heap.size_push, hC, hD]
    rw [hh3, ← e1]
    exact Heap.Ns.new _ (.type "dict")
  refine ⟨[s.heap.objs.size + 1, s.heap.objs.size, C], _, _, _, CSrc.enum (n := n) hh (it := s.heap.objs.size) (l := l) (items := items) ?_ ?_ ?_ ?_ ?_ ?_ ?_ ?_ ?_ ?_ hab rfl (lookup_relabel_local hxa) (lookup_relabel_local hxb) (by simp [compEnvC, relabel, hkind]), ?_, ?_, ?_, ?_, hm, R D C _ _ h₃ _ hNlt rfl hD' hCn⟩
  case refine_1 => exact Nat.ne_of_gt (Nat.lt_succ_self _)
  case refine_2 => exact Nat.ne_of_lt (Nat.lt_succ_of_lt hlt)
  case refine_3 => exact Nat.ne_of_lt hlt
  case refine_4 => exact Nat.ne_of_gt (by omega)
  case refine_5 => exact Nat.ne_of_gt (by omega)
  case refine_6 => exact Nat.ne_of_gt (by omega)
  case refine_7 => exact Nat.ne_of_gt (by omega)
  case refine_8 => exact Nat.ne_of_gt (by omega)
  case refine_9 => exact Nat.ne_of_gt (by omega)
  case refine_10 => exact Nat.ne_of_lt (by omega)
  case refine_11 =>
    intro c hc
    have hb : s.heap.objs.size ≤ c ∧ c ≠ D := by
      rcases List.mem_cons.mp hc with rfl | hc
      · exact ⟨Nat.le_succ _, Nat.ne_of_lt (by omega)⟩
      · rcases List.mem_cons.mp hc with rfl | hc
        · exact ⟨Nat.le_refl _, Nat.ne_of_lt (by omega)⟩
        · rw [List.mem_singleton.mp hc]; exact ⟨(show @LE.le Nat _ _ _ by omega), Nat.ne_of_gt (by omega)⟩
    exact ⟨fresh c hb.1, Nat.ne_of_gt (Nat.lt_of_lt_of_le hLlt hb.1), hb.2⟩
  case refine_12 => exact List.mem_cons_of_mem _ (List.mem_cons_of_mem _ List.mem_cons_self)
  case refine_13 => exact ⟨⟨_, up _ _ he⟩, hit.at fun o q => up _ o q, hl.at fun o q => up _ o (hk _ o q), _, hnsC⟩
  case refine_14 =>
    intro p hp hc
    have h1 : @LT.lt Nat _ p.1 s.heap.objs.size := hNlt p hp
    rcases List.mem_cons.mp hc with q | hc
    · have q' : @Eq Nat p.1 (s.heap.objs.size + 1) := q
      omega
    · rcases List.mem_cons.mp hc with q | hc
      · have q' : @Eq Nat p.1 s.heap.objs.size := q
        omega
      · have q' : @Eq Nat p.1 C := List.mem_singleton.mp hc
        omega
end
end Mine
end

section
open PySem PySem.W PyProof.Rows PySem.Spec PySem.Calls PyProof.V PyProof.Rows.LCg
namespace Mine
section
variable {prog : Program} {w : World} {A : Around} {h₀ : Heap} {L : Addr} {m : Str → Option Value} {env : Env}
/-- a turn hands back an int and changes nothing that stands -/
def IntBack (h₀ : Heap) (L : Addr) (m : Str → Option Value) (led : List (Addr × Obj)) (s : Shared) (P : Int → Prop) (y : Value) (s₄ : Shared) : Prop :=
  ∃ z t h' tk', y = .int z t ∧ P z ∧ s₄ = { s with heap := h', toks := tk' } ∧ Fr h₀ L h' m ∧ News h₀ L h' led
theorem IntBack.intro {led led' : List (Addr × Obj)} {s : Shared} {P : Int → Prop} {z : Int} {t : Tok} {h' : Heap} {tk' : Nat} (F : Fr h₀ L h' m) (N : News h₀ L h' led') (hs : ∀ p ∈ led, p ∈ led') (hP : P z) :
    IntBack h₀ L m led s P (.int z t) { s with heap := h', toks := tk' } := ⟨z, t, h', tk', rfl, hP, rfl, F, fun p hp => N p (hs p hp)⟩
theorem crest_ints {elt : Expr} {ca : List Addr} {D : Addr} {s : Shared} {S : List (Addr × Obj) → Prop} {B : Nat → List (Addr × Obj) → Prop} {Fin : List Value → List (Addr × Obj) → Prop} {nw₀ : List (Addr × Obj)} {n : Nat} (Pz : Nat → Int → Prop) (hS : S nw₀)
    (turn : ∀ i ys own h tk (E' : Value → Shared → Prop), i < n → B i own → (∀ p ∈ own, p.1 ∈ ca) → Fr h₀ L h m → News h₀ L h (own ++ (D, lst ys) :: nw₀) → (∀ p ∈ nw₀, p.1 ∉ ca ∧ p.1 ≠ D) →
      wpAny (model prog w) A (eval elt env) (IntBack h₀ L m (own ++ (D, lst ys) :: nw₀) s (Pz i)) E' { s with heap := h, toks := tk })
    (fin : ∀ ys zs, IntsAre ys zs → zs.length = n → (∀ i z, zs[i]? = some z → Pz i z) → Fin ys nw₀) : CRest prog w A h₀ L m env elt [] ca D s S B Fin n 0 [] nw₀ := by
  have key : ∀ (k i : Nat) (ys : List Value) (zs : List Int), i + k = n → IntsAre ys zs → zs.length = i → (∀ j z, zs[j]? = some z → Pz j z) → CRest prog w A h₀ L m env elt [] ca D s S B Fin k i ys nw₀ := by
    intro k
    induction k with
    | zero => intro i ys zs hi hI hl hP; exact fin ys zs hI (by omega) hP
    | succ k ih =>
      intro i ys zs hi hI hl hP own h tk E' hB hoc F N off
      show tests prog w A [] env _ _ _
      unfold tests
      refine wpAny_mono (turn i ys own h tk E' (by omega) hB hoc F N off) (fun y s₄ h₄ => ?_) fun _ _ e => e
      obtain ⟨z, t, h', tk', rfl, hz, rfl, F', N'⟩ := h₄
      refine ⟨h', tk', nw₀, rfl, F', N', off, hS, ih (i + 1) _ (zs ++ [z]) (by omega) (hI.append (.cons z t .nil)) (by simp [hl]) ?_⟩
      intro j z' hj
      by_cases hlt : j < zs.length
      · rw [List.getElem?_append_left hlt] at hj; exact hP j z' hj
      · rw [List.getElem?_append_right (by omega)] at hj
        have : j = zs.length := by
          cases hq : j - zs.length with
          | zero => omega
          | succ q => rw [hq] at hj; simp at hj
        subst this
        simp at hj
        subst hj
        rw [hl]; exact hz
  exact key n 0 [] [] (by omega) .nil rfl (fun j z hj => by simp at hj)
end
end Mine
namespace Mine
theorem ints_ex : ∀ {l : List Value}, (∀ v ∈ l, ∃ i t, v = .int i t) → ∃ ns, IntsAre l ns
  | [], _ => ⟨[], .nil⟩
  | v :: r, h => by
    obtain ⟨i, t, rfl⟩ := h v (.head _)
    obtain ⟨ns, hn⟩ := ints_ex fun x hx => h x (.tail _ hx)
    exact ⟨i :: ns, .cons i t hn⟩
theorem ints_all {vs : List Value} {ns : List Int} (h : IntsAre vs ns) : ∀ v ∈ vs, ∃ i t, v = .int i t := by
  induction h with
  | nil => intro v hv; exact nomatch hv
  | cons i t _ ih =>
    intro v hv
    rcases List.mem_cons.mp hv with rfl | hv
    · exact ⟨i, t, rfl⟩
    · exact ih v hv
theorem slice_ints {vs : List Value} {ns : List Int} {lo hi st : Option Int} (h : IntsAre vs ns) : ∃ ms, IntsAre (slicePick vs.toArray lo hi st).toList ms := by
  refine ints_ex fun v hv => ?_
  unfold slicePick at hv
  simp only [List.mem_filterMap] at hv
  obtain ⟨j, _, hj⟩ := hv
  exact ints_all h v (by simpa using List.mem_of_getElem? (by simpa using hj))
end Mine
end

section
open PySem PySem.W PyProof.Rows PySem.Spec PySem.Calls PyProof.V
namespace Mine
section
variable {prog : Program} {w : World} {A : Around} {E : Value → Shared → Prop} {s : Shared} {env : Env} {h₀ : Heap} {x : Str} {body : List Stmt} {Q : Flow → Shared → Prop}
theorem loop_my2 {σ : Type} {I l : Addr} {lo : Obj} {n : Nat} {Pv : Nat → Value → Prop} {St : Nat → Heap → Prop} {m₀ : Str → Option Value} (Led : σ → List (Addr × Obj)) (ps : σ → List (Str × Value)) (stored : List Str) (P : Nat → σ → Prop) (c₀ : σ)
    (W : Walks prog w A I [I, l] [I] n Pv St) (hLI : env.locals ≠ I) (hLl : env.locals ≠ l) (hI0 : h₀.get? I = none) (hlive : ∀ i h, St i h → ∃ o, h.get? I = some o) (hst : St 0 s.heap) (hlm : ∀ c, (l, lo) ∈ Led c)
    (F : Fr h₀ env.locals s.heap m₀) (N : News h₀ env.locals s.heap (Led c₀)) (hoff : ∀ p ∈ Led c₀, p.1 ≠ I) (hk : ∀ p ∈ ps c₀, m₀ p.1 = some p.2) (hp : P 0 c₀)
    (turn : ∀ i c v (u : Str → Option Value) h tk oI, i < n → Pv i v → P i c → (∀ p ∈ Led c, p.1 ≠ I) →
      Fr h₀ env.locals h (fun y => if y = x then some v else kstB (fun z => if stored.contains z then u z else m₀ z) (ps c) y) → News h₀ env.locals h ((I, oI) :: Led c) →
      wpAny (model prog w) A (execs body env) (MyTurn h₀ env.locals I oI Led ps x stored m₀ (P (i + 1)) { s with heap := h, toks := tk } Q) E { s with heap := h, toks := tk })
    (done : ∀ c (u : Str → Option Value) h tk, P n c → Fr h₀ env.locals h (fun y => if y = x then u y else kstB (fun z => if stored.contains z then u z else m₀ z) (ps c) y) → News h₀ env.locals h (Led c) → Q .next { s with heap := h, toks := tk }) :
    LoopAtV prog w A h₀ env x body Q E (.ref I) s := by
  let J : Nat → (Str → Option Value) → List (Addr × Obj) → Prop := fun i m nx => ∃ c, nx = Led c ∧ (∀ p ∈ ps c, m p.1 = some p.2) ∧ (∀ z, z ≠ x → (∀ p ∈ ps c, z ≠ p.1) → stored.contains z = false → m z = m₀ z) ∧ P i c
  refine ⟨I, [I, l], [I], n, Pv, St, m₀, Led c₀, J, rfl, W, ?_, ?_, ?_, hst, F, N, ⟨c₀, rfl, hk, fun _ _ _ _ => rfl, hp⟩, ?_, ?_⟩
  · intro hm
    rcases List.mem_cons.mp hm with e | e
    · exact hLI e
    · exact hLl (List.mem_singleton.mp e)
  · intro b hb; rw [List.mem_singleton.mp hb]; exact hI0
  · intro p hp hm; exact hoff p hp (List.mem_singleton.mp hm)
  · rintro i v m₁ news₁ s₁ own ⟨hh', tk', rfl⟩ hin hP ⟨c, rfl, h1, h2, hPc⟩ hnw hown hget hall hst₁ F₁ N₁
    obtain ⟨oI, hoI⟩ := hlive _ _ hst₁
    have hmem : (I, oI) ∈ own := hall I List.mem_cons_self hI0 oI hoI
    have hlg : hh'.get? l = some lo := (N₁ (l, lo) (List.mem_append_right _ (hlm c))).1
    have hsub : ∀ p ∈ own, p = (I, oI) ∨ p = (l, lo) := fun p hp => by
      have g : hh'.get? p.1 = some p.2 := hget p hp
      rcases List.mem_cons.mp (hown p hp) with e | e
      · rw [e] at g
        have g'' : hh'.get? I = some oI := hoI
        rw [g''] at g
        exact .inl (Prod.ext e (Option.some.inj g).symm)
      · have e := List.mem_singleton.mp e
        rw [e, hlg] at g
        exact .inr (Prod.ext e (Option.some.inj g).symm)
    have N₂ : News h₀ env.locals hh' ((I, oI) :: Led c) := fun p hp => by
      rcases List.mem_cons.mp hp with rfl | hp
      · exact N₁ _ (List.mem_append_left _ hmem)
      · exact N₁ p (List.mem_append_right _ hp)
    refine wpAny_mono (turn i c v m₁ hh' tk' oI hin hP hPc (fun p hp e => hnw p hp (List.mem_singleton.mpr e)) (kst_fr h1 h2 F₁) N₂) (fun f s₂ p => ?_) fun _ _ e => e
    have fin : MyEnd h₀ env.locals I oI Led ps x stored m₀ (P (i + 1)) { s with heap := hh', toks := tk' } s₂ → LoopStepU h₀ env.locals [I] own (J (i + 1)) { s with heap := hh', toks := tk' } .next s₂ := by
      rintro ⟨c', h', tk, m', news', e, F', N', hI, hl, ho, hk', hr', hp'⟩
      refine ⟨rfl, h', tk, m', Led c', e, F', fun p hp => ?_, fun p hp hm => ho p hp (List.mem_singleton.mp hm), c', rfl, hk', hr', hp'⟩
      rcases List.mem_append.mp hp with hp | hp
      · rcases hsub p hp with q | q
        · rw [q]; exact N' _ hI
        · rw [q]; exact N' _ (hl _ (hlm c'))
      · exact N' p (hl p hp)
    cases f with
    | ret v => exact .ret p
    | brk => exact .brk p
    | next => exact .next (fin p)
    | cont => exact .cont (fin p)
  · rintro h' tk m' news' F' N' _ ⟨c, rfl, h1, h2, hPc⟩
    exact done c m' h' tk hPc (kst_frOut h1 h2 F') N'

/-- a loop over a list of the ledger -/
theorem for_list {σ : Type} {l : Addr} {its : Array Value} {ep : Nat} {m₀ : Str → Option Value} (Led : σ → List (Addr × Obj)) (ps : σ → List (Str × Value)) (stored : List Str) (P : Nat → σ → Prop) (c₀ : σ)
    (hh : A.handled = none) (hlm : ∀ c, (l, W.listOf its ep) ∈ Led c) (F : Fr h₀ env.locals s.heap m₀) (N : News h₀ env.locals s.heap (Led c₀)) (hk : ∀ p ∈ ps c₀, m₀ p.1 = some p.2) (hp : P 0 c₀)
    (turn : ∀ (I : Addr) c i v (u : Str → Option Value) h tk oI, (∀ p ∈ Led c₀, p.1 < I) → i < its.size → its[i]? = some v → P i c → (∀ p ∈ Led c, p.1 ≠ I) →
      Fr h₀ env.locals h (fun y => if y = x then some v else kstB (fun z => if stored.contains z then u z else m₀ z) (ps c) y) → News h₀ env.locals h ((I, oI) :: Led c) →
      wpAny (model prog w) A (execs body env) (MyTurn h₀ env.locals I oI Led ps x stored m₀ (P (i + 1)) { s with heap := h, toks := tk } Q) E { s with heap := h, toks := tk })
    (done : ∀ c (u : Str → Option Value) h tk, P its.size c → Fr h₀ env.locals h (fun y => if y = x then u y else kstB (fun z => if stored.contains z then u z else m₀ z) (ps c) y) → News h₀ env.locals h (Led c) → Q .next { s with heap := h, toks := tk }) :
    wpAny (model prog w) A (pyIter (.ref l)) (fun it s₂ => LoopAtV prog w A h₀ env x body Q E it s₂) E s := by
  have hls : s.heap.IsList l its := News.isList N (hlm c₀)
  have hlt : l < s.heap.objs.size := Heap.lt_size (N _ (hlm c₀)).1
  refine wpAny_pyIter_list hls ?_
  refine loop_my2 (s := { s with heap := s.heap.push _ }) Led ps stored P c₀ (Walks.list hh s.heap.objs.size l (Nat.ne_of_lt hlt) its) (Nat.ne_of_lt F.ns.lt) (Ne.symm (N _ (hlm c₀)).2.1) (next_is_new F) (fun i h st => ?_)
    ⟨⟨_, Heap.get?_push_size _ rfl, rfl, rfl⟩, hls.at fun o e => Heap.get?_push_of_some _ e⟩ hlm (F.push _) (fun p hp => ⟨Heap.get?_push_of_some _ (N p hp).1, (N p hp).2⟩) (fun p hp => Nat.ne_of_lt (news_lt N p hp)) hk hp ?_ done
  · obtain ⟨o, e, _⟩ := st.1; exact ⟨o, e⟩
  · intro i c v u h tk oI hi hv hP hoff F₁ N₁
    exact turn s.heap.objs.size c i v u h tk oI (news_lt N) hi hv hP hoff F₁ N₁
end
end Mine
end

section
open PySem PySem.W PyProof.Rows
namespace Mine
/-- n letters of a number, A's ahead -/
def digs : Nat → Nat → List Int
  | 0, _ => []
  | n + 1, q => digs n (q / 16) ++ [65 + ((q % 16 : Nat) : Int)]
theorem digs_len (n : Nat) : ∀ q, (digs n q).length = n := by
  induction n with
  | zero => intro q; rfl
  | succ n ih => intro q; simp [digs, ih]
theorem digs_in (n : Nat) : ∀ q, ∀ c ∈ digs n q, 65 ≤ c ∧ c ≤ 80 := by
  induction n with
  | zero => intro q c hc; exact nomatch hc
  | succ n ih =>
    intro q c hc
    rcases List.mem_append.mp hc with h | h
    · exact ih _ c h
    · rw [List.mem_singleton.mp h]; omega
theorem apL_digs (n : Nat) : ∀ q, q < 16 ^ n → List.replicate (n - (apL q).length) 65 ++ apL q = digs n q := by
  induction n with
  | zero =>
    intro q h
    have : q = 0 := by simpa using h
    subst this; simp [apL_zero, digs]
  | succ n ih =>
    intro q h
    by_cases h0 : q = 0
    · subst h0
      have := ih 0 (Nat.pos_of_ne_zero (by simp))
      rw [apL_zero] at this ⊢
      simp only [List.length_nil, Nat.sub_zero, List.append_nil] at this ⊢
      rw [digs, Nat.zero_div, ← this, List.replicate_succ']
      rfl
    · have hq : q / 16 < 16 ^ n := by rw [Nat.pow_succ] at h; omega
      rw [apL_pos h0, digs, ← ih (q / 16) hq, List.length_append, List.length_singleton, List.append_assoc]
      congr 2
      omega
theorem apL_ge (k : Nat) : ∀ q, 16 ^ k ≤ q → k + 1 ≤ (apL q).length := by
  induction k with
  | zero =>
    intro q h
    rw [apL_pos (by omega), List.length_append, List.length_singleton]
    omega
  | succ k ih =>
    intro q h
    have h1 : 16 ^ k ≤ q / 16 := by rw [Nat.pow_succ] at h; omega
    have h0 : q ≠ 0 := by
      have : 0 < 16 ^ (k + 1) := Nat.pos_of_ne_zero (by simp)
      omega
    rw [apL_pos h0, List.length_append, List.length_singleton]
    have := ih _ h1
    omega
theorem apL_full {n q : Nat} (h1 : 16 ^ n ≤ q) (h2 : q < 16 ^ (n + 1)) : apL q = digs (n + 1) q := by
  rw [← apL_digs (n + 1) q h2]
  have a := apL_ge n q h1
  have b := apL_len (n + 1) q h2
  have : n + 1 - (apL q).length = 0 := by omega
  rw [this]; rfl
theorem dv_digs {k : Nat} (hk : 1 ≤ k) (n : Nat) : ∀ q, q < 16 ^ n → (dvRun k (digs n q)).1 = digs n (q / k) ∧ (dvRun k (digs n q)).2.1 = q % k := by
  induction n with
  | zero =>
    intro q h
    have : q = 0 := by simpa using h
    subst this; simp [digs, dvRun]
  | succ n ih =>
    intro q h
    have hq : q / 16 < 16 ^ n := by rw [Nat.pow_succ] at h; omega
    obtain ⟨i1, i2⟩ := ih (q / 16) hq
    rw [digs, dvRun_snoc]
    unfold dvStep
    rw [i1, i2]
    have e65 : (65 + ((q % 16 : Nat) : Int) - 65).toNat = q % 16 := by omega
    rw [e65]
    have d1 := Nat.div_add_mod (q / 16) k
    have d2 := Nat.div_add_mod q 16
    have m1 := Nat.mod_lt (q / 16) hk
    have m2 := Nat.mod_lt q (show 0 < 16 by decide)
    generalize ha : q / 16 / k = a at *
    generalize hr : q / 16 % k = r at *
    generalize hc : q % 16 = c at *
    have hsplit : q = k * (16 * a) + (16 * r + c) := by
      have : k * (16 * a) = 16 * (k * a) := by rw [Nat.mul_left_comm]
      omega
    have hdiv : q / k = 16 * a + (16 * r + c) / k := by
      rw [hsplit, Nat.mul_add_div hk]
    have hmod : q % k = (16 * r + c) % k := by rw [hsplit, Nat.mul_add_mod]
    have hlt : (16 * r + c) / k < 16 := (Nat.div_lt_iff_lt_mul hk).mpr (by omega)
    refine ⟨?_, hmod.symm⟩
    show digs n a ++ [65 + (((16 * r + c) / k : Nat) : Int)] = digs (n + 1) (q / k)
    clear i1 i2
    rw [digs, hdiv]
    generalize (16 * r + c) / k = b at *
    have e1 : (16 * a + b) / 16 = a := by omega
    have e2 : (16 * a + b) % 16 = b := by omega
    rw [e1, e2]
theorem bInts_inj {a b : Array UInt8} (h : KBw.bInts a = KBw.bInts b) : a = b := by
  have h' : a.toList.map (fun c => (c.toNat : Int)) = b.toList.map (fun c => (c.toNat : Int)) := h
  have inj : ∀ (l l' : List UInt8), l.map (fun c => (c.toNat : Int)) = l'.map (fun c => (c.toNat : Int)) → l = l' := by
    intro l
    induction l with
    | nil => intro l' h; cases l' with | nil => rfl | cons => simp at h
    | cons c r ih =>
      intro l' h
      cases l' with
      | nil => simp at h
      | cons d r' =>
        simp only [List.map_cons, List.cons.injEq] at h
        have : c = d := UInt8.toNat_inj.mp (by omega)
        rw [this, ih r' h.2]
  exact Array.toList_inj.mp (inj _ _ h')
end Mine
namespace Mine
theorem mem_led {h₀ h : Heap} {L : Addr} {a b : List (Addr × Obj)} (_N : News h₀ L h (a ++ b)) {p : Addr × Obj} (x : p ∈ a) : p ∈ a ++ b := List.mem_append_left _ x
end Mine
namespace Mine
theorem flat_bytes (n : Nat) : KBw.bInts ((List.replicate n [(65 : UInt8)]).flatten.toArray) = List.replicate n 65 := by
  rw [KBw.ints_list]
  induction n with
  | zero => rfl
  | succ n ih => rw [List.replicate_succ, List.flatten_cons, List.map_append, ih, List.replicate_succ]; rfl
theorem pad_eq {b7 b8 : Array UInt8} {q : Nat} (h7 : KBw.bInts b7 = digs 5 q) (h : List.replicate (5 - (KBw.bInts b8).length) 65 ++ KBw.bInts b8 = digs 5 q) :
    b7 = (List.replicate (5 - ((KBw.bInts b8).length : Int)).toNat [(65 : UInt8)]).flatten.toArray ++ b8 := by
  apply bInts_inj
  have e : (5 - ((KBw.bInts b8).length : Int)).toNat = 5 - (KBw.bInts b8).length := by omega
  rw [KBw.ints_app (flat_bytes _) rfl, h7, e, h]
end Mine
end

section
open PySem PySem.W PyProof.Rows
namespace Mine
set_option maxRecDepth 100000 in
set_option maxHeartbeats 8000000 in
open_top hd for PySem.Challenge.rw_pg0153_02
end Mine
end

section
open PySem PySem.W PyProof.Rows
namespace Mine
local macro_rules | `(tactic| walk_at "exec While Name") => `(tactic| (k_here; refine Stop.intro ?_))
local macro_rules | `(tactic| walk_at "exec While Name cons nil") => `(tactic| (k_here; refine Stop.intro ?_))
local macro_rules | `(tactic| walk_at "subscriptTail Name Slice bytes ref") => `(tactic| (k_here; refine Stop.intro ?_))

local macro_rules | `(tactic| walk_at "binaryOp Add bytes bytes") => `(tactic| (k_here; refine Stop.intro ?_))

theorem ap_start {i x : Int} (hx : x = if i < 0 then -i else i) : 0 ≤ x ∧ apL x.toNat ++ KBw.bInts #[] = apL i.natAbs := by
  have e : x.toNat = i.natAbs := by subst hx; split <;> omega
  refine ⟨by subst hx; split <;> omega, ?_⟩
  rw [e]; exact List.append_nil _
theorem ap_next {num : Int} {n : Nat} {v w : Array UInt8} (h0 : 0 ≤ num) (h : apL num.toNat ++ KBw.bInts v = apL n) (hne : num ≠ 0) (hc : KBw.bInts w = [65 + num.fmod 16]) :
    0 ≤ num.fdiv 16 ∧ apL (num.fdiv 16).toNat ++ KBw.bInts (w ++ v) = apL n := by
  refine ⟨Int.fdiv_nonneg h0 (by omega), ?_⟩
  rw [KBw.ints_app hc rfl]
  exact ap_turn h0 hne h
theorem ap_meas {num : Int} (h0 : 0 ≤ num) (hne : num ≠ 0) : (num.fdiv 16).toNat < num.toNat := by
  rw [Int.fdiv_eq_ediv_of_nonneg _ (by omega)]; omega
theorem ap_short {n : Nat} {ks l : List Int} (h : apL n ++ ks = l) (hl : l.length ≤ 16) : ks.length ≤ 16 := by
  have := congrArg List.length h
  rw [List.length_append] at this
  omega
theorem ap_cut {j : Int} (h0 : 0 ≤ j) (h1 : j < 16) :
    List.take ((some (j + 1)).elim apCodes.length (clipAt apCodes.length) - (some j).elim 0 (clipAt apCodes.length)) (List.drop ((some j).elim 0 (clipAt apCodes.length)) apCodes) = [65 + j] := by
  have all : ∀ k : Fin 16, List.take ((some ((k.1 : Int) + 1)).elim apCodes.length (clipAt apCodes.length) - (some (k.1 : Int)).elim 0 (clipAt apCodes.length)) (List.drop ((some (k.1 : Int)).elim 0 (clipAt apCodes.length)) apCodes) = [65 + (k.1 : Int)] := by decide
  obtain ⟨k, rfl⟩ : ∃ k : Nat, j = (k : Int) := ⟨j.toNat, by omega⟩
  exact all ⟨k, by omega⟩
set_option maxRecDepth 100000 in
set_option maxHeartbeats 8000000 in
theorem int2ap (w : World) (loose : List Str) (mean : ExcName → Option Value) (mg mb : Str → Option Value) (news : List (Addr × Obj)) (i : Int) (t : Tok) (hi : i.natAbs < 2 ^ 64) :
    Does PySem.Challenge.rw_pg0153_02.row.prog w (hd.heap_39 w.params) hd.view_39 loose mean mg mb (.ref 94) [.int i t] 3 20 news
      (fun tl r => tl = [] ∧ ∃ b t', r = .bytes b t' ∧ KBw.bInts b = apL i.natAbs) := by
  k_fill
  intro dp un gd cn cs a ccd cl outer A₀ base h₀ L m s Q E B F X N T hk hdp hun hret
  have hlen : (apL i.natAbs).length ≤ 16 := apL_len 16 _ (by omega)
  refine wpAny_call ?_
  k_dflt cell_enter
  k_steps
  unfold Stop
  (k_with "state" => first | exact ap_start rfl | exact ap_next (by assumption) (by assumption) (by assumption) (by assumption))
  (k_with "measure" => exact ap_meas (by assumption) (by assumption))
  k_while (fun (_ : List Int) (num : Int) (val : Array UInt8) => 0 ≤ num ∧ apL num.toNat ++ KBw.bInts val = apL i.natAbs) (fun (_ : List Int) (num : Int) (_ : Array UInt8) => num.toNat) "num" "val"
  k_steps
  · unfold Stop
    rename Fr _ _ _ _ => F9
    rename News _ _ _ _ => N9
    refine KBc.slice_K (s := ⟨_, _, _, _, _⟩) F9 N9 (ks := apCodes) (by rfl) (by constructor) (by constructor) (by decide) ?_
    intro h9 t9 k9 F9 N9 hc
    rw [ap_cut (Int.fmod_nonneg_of_pos _ (by omega)) (Int.fmod_lt_of_pos _ (by omega))] at hc
    rename (apL _ ++ _ = _) => hw
    have hv := ap_short hw hlen
    k_steps
    unfold Stop
    refine KBa.add_K hc rfl ?hs ?_
    case hs => (rw [List.length_singleton]; clear_value qk ek; clear hret; omega)
    intro t8 k8 hs8
    k_steps
  · rename _ = (0 : Int) => hz
    rename Fr h₀ _ _ _ => kF
    rename News h₀ _ _ _ => kN
    rename (apL _ ++ _ = _) => hw
    refine hret _ _ _ [] kF kN (fun _ _ _ h => nomatch h) ⟨rfl, _, _, rfl, ?_⟩
    subst hz
    rw [← hw]
    simp [apL_zero]
end Mine
end

section
open PySem PySem.W PyProof.Rows
namespace Mine
local macro_rules | `(tactic| walk_at "exec For Name Attribute cons nil") => `(tactic| (k_here; refine Stop.intro ?_))
local macro_rules | `(tactic| walk_at "pyIter str") => `(tactic| (k_here; refine Stop.intro ?_))
local macro_rules | `(tactic| walk_at "MyTurn") => `(tactic| (dsimp only [MyTurn]))
local macro_rules | `(tactic| walk_at "MyEnd") => `(tactic| (refine Stop.intro ?_))
local macro_rules | `(tactic| k_all) => `(tactic| (refine' allNe_of ?a9 ?b9; (case a9 => assumption); (case b9 => omega)))

theorem sign_eq {ch : Nat} {k : Nat} (h : (({ cps := #[ch] } : Str) == { cps := #[k] }) = true) : ch = k := by
  have h := eq_of_beq h
  injection h with h
  simpa using h
theorem sign_ne {ch : Nat} {k : Nat} (h : (({ cps := #[ch] } : Str) == { cps := #[k] }) = false) : ch ≠ k := fun e => by
  subst e
  simp at h
theorem ofString_space : Str.ofString " " = { cps := #[32] } := by decide +kernel
theorem ofString_tab : Str.ofString "\t" = { cps := #[9] } := by decide +kernel
theorem blank_snoc {pre : List Nat} {ch : Nat} (h : ∀ c ∈ pre, blank c) (hc : blank ch) : ∀ c ∈ pre ++ [ch], blank c := fun c hm => by
  rcases List.mem_append.mp hm with h1 | h1
  · exact h c h1
  · rw [List.mem_singleton.mp h1]; exact hc
theorem ws_space {pre : List Nat} {ch : Nat} {ns : List Int} {b n nt : Int} (h : wsRun pre = (ns, b, n, nt)) (hc : (({ cps := #[ch] } : Str) == Str.ofString " ") = true) : wsRun (pre ++ [ch]) = (ns, b + 1, n + 1, nt) := by
  rw [ofString_space] at hc
  rw [wsRun_snoc, h, sign_eq hc]
  rfl
theorem ws_grow {pre : List Nat} {ch : Nat} {ns : List Int} {b n nt : Int} (h : wsRun pre = (ns, b, n, nt)) (hc : (({ cps := #[ch] } : Str) == Str.ofString "\t") = true) (hb : (ns.length : Int) ≤ b) :
    wsRun (pre ++ [ch]) = ((ns ++ (List.replicate (b - (ns.length : Int) + 1).toNat [(0 : Int)]).flatten).set b.toNat ((ns ++ (List.replicate (b - (ns.length : Int) + 1).toNat [(0 : Int)]).flatten).getD b.toNat 0 + 1), 0, n + 1, nt + 1) := by
  rw [ofString_tab] at hc
  rw [wsRun_snoc, h, sign_eq hc]
  simp only [wsStep]
  rw [if_neg (by decide), if_pos hb]
theorem ws_keep {pre : List Nat} {ch : Nat} {ns : List Int} {b n nt : Int} (h : wsRun pre = (ns, b, n, nt)) (hc : (({ cps := #[ch] } : Str) == Str.ofString "\t") = true) (hb : ¬ (ns.length : Int) ≤ b) :
    wsRun (pre ++ [ch]) = (ns.set b.toNat (ns.getD b.toNat 0 + 1), 0, n + 1, nt + 1) := by
  rw [ofString_tab] at hc
  rw [wsRun_snoc, h, sign_eq hc]
  simp only [wsStep]
  rw [if_neg (by decide), if_neg hb]
theorem ws_stop {cs pre post : List Nat} {ch : Nat} {st : List Int × Int × Int × Int} (h : wsRun pre = st) (e : cs = pre ++ ch :: post) (hbl : ∀ c ∈ pre, blank c) (h1 : (({ cps := #[ch] } : Str) == Str.ofString " ") = false) (h2 : (({ cps := #[ch] } : Str) == Str.ofString "\t") = false) : wsRead cs = st := by
  rw [ofString_space] at h1
  rw [ofString_tab] at h2
  unfold wsRead
  rw [e, takeWhile_stop hbl (fun hb => hb.elim (sign_ne h1) (sign_ne h2)), h]
theorem ws_done {cs : List Nat} {st : List Int × Int × Int × Int} (h : wsRun cs = st) (hbl : ∀ c ∈ cs, blank c) : wsRead cs = st := by
  unfold wsRead
  rw [takeWhile_all hbl, h]
theorem lead_news {h₀ h : Heap} {L : Addr} {A B X D : Addr × Obj} {rest news : List (Addr × Obj)} (N : News h₀ L h (A :: B :: rest)) (hx : X ∈ rest) (hd : D ∈ rest) (hs : ∀ p ∈ news, p ∈ rest) : News h₀ L h ([A, B, X, D] ++ news) := fun p hp => N p (by
  rcases List.mem_append.mp hp with h | h
  · rcases List.mem_cons.mp h with h | h
    · exact h ▸ .head _
    · rcases List.mem_cons.mp h with h | h
      · exact h ▸ .tail _ (.head _)
      · rcases List.mem_cons.mp h with h | h
        · exact h ▸ .tail _ (.tail _ hx)
        · exact List.mem_singleton.mp h ▸ .tail _ (.tail _ hd)
  · exact .tail _ (.tail _ (hs p h)))
theorem lead_order {d : Addr} {news tl : List (Addr × Obj)} (hA : AllLt d news) (h : ∀ p ∈ tl, @LE.le Nat _ d p.1) : ∀ q ∈ news, ∀ p ∈ tl, q.1 < p.1 := fun q hq p hp => Nat.lt_of_lt_of_le (ktn_ltOf hA q hq) (h p hp)
theorem init_gen {h₀ h : Heap} {L l D x d : Addr} {lo oD ox od : Obj} {news : List (Addr × Obj)} (N : News h₀ L h ((l, lo) :: (D, oD) :: (x, ox) :: (d, od) :: news)) :
    ∃ od', od' = od ∧ News h₀ L h ((l, lo) :: (x, ox) :: (d, od') :: news) :=
  ⟨od, rfl, fun p hp => N p (by
    rcases List.mem_cons.mp hp with h | h
    · exact List.mem_cons.mpr (.inl h)
    · exact List.mem_cons_of_mem _ (List.mem_cons_of_mem _ h))⟩
local macro_rules | `(tactic| walk_at "call type:tuple") => `(tactic| (k_here; (with_reducible show wpAny _ _ (call (Value.type _) [Value.ref _]) _ _ _); k_dflt (refine' tuple_of_my ?k1 ?k2 ?k3 ?k4 ?_; (case k1 => k_asm); (case k2 => k_asm); (case k3 => exact News.isList (by k_asm) (by k_mem)); (case k4 => (rw [sizeLine_eq]; omega)); k_whole); intro D' h' F' N' l1; (try k_lt l1); (try k_sweep)))
structure WsC where
  l : Addr
  vs : List Value
  ns : List Int
  ep : Nat
  b : Int
  n : Int
  nt : Int
  tb : Tok
  tn : Tok
  tnt : Tok

set_option maxRecDepth 100000 in
set_option maxHeartbeats 8000000 in
theorem wsnew (w : World) (loose : List Str) (mean : ExcName → Option Value) (mg mb : Str → Option Value) (news : List (Addr × Obj)) (x : Str) (t : Tok) (hx : x.cps.toList.length ≤ 65536) :
    Does PySem.Challenge.rw_pg0153_02.row.prog w (hd.heap_39 w.params) hd.view_39 loose mean mg mb (.ref 83) [.str x t] 3 20 news
      (fun tl r => LeadIn w.params 83 tl r (wsRead x.cps.toList)) := by
  k_fill
  intro dp un gd cn cs a ccd cl outer A₀ base h₀ L m s Q E B F X N T hk hdp hun hret
  k_dflt (refine' call_cls ?k1 ?k2 ?k3 ?k4 ?k5 ?k6 ?_; (case k1 => k_asm); (case k2 => k_asm); (case k3 => k_asm); (case k4 => k_is); (case k5 => k_is); (case k6 => k_is); k_whole; intro x' d' h' F' N' l1 l2; (try k_lt l1); (try k_lt2 l2))
  have hA : AllLt d' news := allLt_of l1
  clear l1
  k_dflt cell_enter
  k_steps
  unfold Stop
  rename Fr _ _ _ _ => F8
  (with_unfolding_all refine' For_invVF F8 ?k1 ?k2 ?_; (case k1 => exact rfl); (case k2 => exact rfl); k_whole)
  k_steps
  unfold Stop
  rename Fr _ _ _ _ => F9
  rename News _ _ _ _ => N9
  obtain ⟨od, hod, N9⟩ := init_gen N9
  obtain ⟨m9, hm9, F9⟩ := fr_gen F9
  obtain ⟨tb, hb⟩ : ∃ t, m9 (Str.ofString "b") = some (.int 0 t) := ⟨_, by rw [hm9]; rfl⟩
  obtain ⟨tn, hn⟩ : ∃ t, m9 (Str.ofString "n") = some (.int 0 t) := ⟨_, by rw [hm9]; rfl⟩
  obtain ⟨tnt, hnt⟩ : ∃ t, m9 (Str.ofString "nt") = some (.int 0 t) := ⟨_, by rw [hm9]; rfl⟩
  with_unfolding_all
   refine' for_text (σ := WsC) (fun c => (c.l, W.listOf c.vs.toArray c.ep) :: (x', instObj 83 d') :: (d', od) :: news)
     (fun c => [(Str.ofString "count", .ref c.l), (Str.ofString "b", .int c.b c.tb), (Str.ofString "n", .int c.n c.tn), (Str.ofString "nt", .int c.nt c.tnt)])
     [] (fun pre c => IntsAre c.vs c.ns ∧ @LT.lt Nat _ x' c.l ∧ wsRun pre = (c.ns, c.b, c.n, c.nt) ∧ ∀ ch ∈ pre, blank ch) ⟨_, [], [], 0, 0, 0, 0, tb, tn, tnt⟩ (by rfl) F9 N9 ?hk ?hp ?_ ?_
  case hk => exact List.forall_mem_cons.mpr ⟨by rw [hm9]; rfl, List.forall_mem_cons.mpr ⟨hb, List.forall_mem_cons.mpr ⟨hn, List.forall_mem_cons.mpr ⟨hnt, List.forall_mem_nil _⟩⟩⟩⟩
  case hp => exact ⟨.nil, by (dsimp only; omega), rfl, List.forall_mem_nil _⟩
  · subst hm9
    intro I c pre post ch tc u h9 tk9 oI hlt hsplit hP hoff F9 N9
    obtain ⟨vl, vvs, vns, vep, vb, vn, vnt, vtb, vtn, vtnt⟩ := c
    obtain ⟨hI, hxl, hrun, hbl⟩ := hP
    have hpre : pre.length ≤ 65535 := by
      have := congrArg List.length hsplit
      rw [List.length_append, List.length_cons] at this
      omega
    have hbd := wsRun_bound pre
    rw [hrun] at hbd
    dsimp only at hbd hI hxl F9 N9 hoff
    obtain ⟨hb1, hb2, hb3, hb4, hb5, hb6, hb7⟩ := hbd
    dsimp only [kstB] at F9
    have hvl := hI.length
    have hoI : @Ne Nat vl I := hoff _ (.head _)
    have hltI := allLt_of hlt
    simp only [AllLt] at hltI
    subst hod
    clear hb hn hnt hlt hoff
    k_steps
    · unfold Stop
      rename Fr _ _ _ _ => F7
      rename News _ _ _ _ => N7
      refine MyEnd.intro ⟨_, _, vns, _, _, _, _, _, _, _⟩ F7 N7 (by kst_all) (by k_mem) (by kst_in) (List.forall_mem_cons.mpr ⟨by k_ne, List.forall_mem_cons.mpr ⟨by k_ne, List.forall_mem_cons.mpr ⟨by k_ne, allNe_of hA (by omega)⟩⟩⟩) (by kst_same) ⟨hI, hxl, ?_, ?_⟩
      · exact ws_space hrun (by assumption)
      · exact blank_snoc hbl (.inl (sign_eq (ofString_space ▸ (by assumption))))
    · unfold Stop
      rename Fr _ _ _ _ => F7
      rename News _ _ _ _ => N7
      refine MyEnd.intro ⟨_, _, _, _, _, _, _, _, _, _⟩ F7 N7 (by kst_all) (by k_mem) (by kst_in) (List.forall_mem_cons.mpr ⟨by k_ne, List.forall_mem_cons.mpr ⟨by k_ne, List.forall_mem_cons.mpr ⟨by k_ne, allNe_of hA (by omega)⟩⟩⟩) (by kst_same) ⟨by assumption, by (dsimp only; omega), ?_, ?_⟩
      · first | exact ws_grow hrun (by assumption) (by assumption) | exact ws_keep hrun (by assumption) (by omega)
      · exact blank_snoc hbl (.inr (sign_eq (ofString_tab ▸ (by assumption))))
    · unfold Stop
      rename Fr _ _ _ _ => F7
      rename News _ _ _ _ => N7
      refine MyEnd.intro ⟨_, _, _, _, _, _, _, _, _, _⟩ F7 N7 (by kst_all) (by k_mem) (by kst_in) (List.forall_mem_cons.mpr ⟨by k_ne, List.forall_mem_cons.mpr ⟨by k_ne, List.forall_mem_cons.mpr ⟨by k_ne, allNe_of hA (by omega)⟩⟩⟩) (by kst_same) ⟨by assumption, by (dsimp only; omega), ?_, ?_⟩
      · first | exact ws_grow hrun (by assumption) (by assumption) | exact ws_keep hrun (by assumption) (by omega)
      · exact blank_snoc hbl (.inr (sign_eq (ofString_tab ▸ (by assumption))))
    · rename Fr h₀ _ _ _ => F7
      rename News h₀ _ _ _ => N7
      have hrd := ws_stop hrun hsplit hbl (by assumption) (by assumption)
      refine hret _ _ _ _ F7 (lead_news N7 (X := (x', _)) (D := (d', _)) (by k_mem) (by k_mem) (fun p hp => by repeat (first | exact hp | apply List.mem_cons_of_mem))) ?_ ?_
      · exact lead_order hA (List.forall_mem_cons.mpr ⟨by (dsimp only; omega), List.forall_mem_cons.mpr ⟨by (dsimp only; omega), List.forall_mem_cons.mpr ⟨by (dsimp only; omega), List.forall_mem_cons.mpr ⟨by (dsimp only; omega), List.forall_mem_nil _⟩⟩⟩⟩)
      · rw [hrd]
        exact ⟨_, _, _, _, _, _, _, _, _, _, _, _, _, _, _, _, rfl, .tail _ (.tail _ (.head _)), .tail _ (.tail _ (.tail _ (.head _))), .head _, .tail _ (.head _), hI⟩
  · subst hm9
    intro c u h9 tk9 hP F9 N9
    obtain ⟨vl, vvs, vns, vep, vb, vn, vnt, vtb, vtn, vtnt⟩ := c
    obtain ⟨hI, hxl, hrun, hbl⟩ := hP
    have hbd := wsRun_bound x.cps.toList
    rw [hrun] at hbd
    dsimp only at hbd hI hxl F9 N9
    obtain ⟨hb1, hb2, hb3, hb4, hb5, hb6, hb7⟩ := hbd
    dsimp only [kstB] at F9
    have hvl := hI.length
    subst hod
    clear hb hn hnt
    k_steps
    rename Fr h₀ _ _ _ => F7
    rename News h₀ _ _ _ => N7
    have hrd := ws_done hrun hbl
    refine hret _ _ _ _ F7 (lead_news N7 (X := (x', _)) (D := (d', _)) (by k_mem) (by k_mem) (fun p hp => by repeat (first | exact hp | apply List.mem_cons_of_mem))) ?_ ?_
    · exact lead_order hA (List.forall_mem_cons.mpr ⟨by (dsimp only; omega), List.forall_mem_cons.mpr ⟨by (dsimp only; omega), List.forall_mem_cons.mpr ⟨by (dsimp only; omega), List.forall_mem_cons.mpr ⟨by (dsimp only; omega), List.forall_mem_nil _⟩⟩⟩⟩)
    · rw [hrd]
      exact ⟨_, _, _, _, _, _, _, _, _, _, _, _, _, _, _, _, rfl, .tail _ (.tail _ (.head _)), .tail _ (.tail _ (.tail _ (.head _))), .head _, .tail _ (.head _), hI⟩
end Mine
end

section
open PySem PySem.W PyProof.Rows
namespace Mine
local macro_rules | `(tactic| walk_at "exec For") => `(tactic| (k_here; refine Stop.intro ?_))
local macro_rules | `(tactic| walk_at "exec For Name Call") => `(tactic| (k_here; refine Stop.intro ?_))
local macro_rules | `(tactic| walk_at "exec For Name Call cons nil") => `(tactic| (k_here; refine Stop.intro ?_))
local macro_rules | `(tactic| walk_at "pyIter ref") => `(tactic| (k_here; refine Stop.intro ?_))
local macro_rules | `(tactic| walk_at "MyTurn") => `(tactic| (dsimp only [MyTurn]))
local macro_rules | `(tactic| walk_at "MyEnd") => `(tactic| (refine Stop.intro ?_))

local macro_rules | `(tactic| walk_at "call builtin:len") => `(tactic| (k_here; (with_reducible show wpAny _ _ (call (Value.builtin "len") [Value.ref _]) _ _ _); k_dflt (refine' len_tup_my ?k1 ?k2 ?k3 ?k4 ?_; (case k1 => k_asm); (case k2 => k_mem); (case k3 => assumption); (case k4 => omega); k_whole)))
local macro_rules | `(tactic| walk_at "subscriptTail Name Name ref int") => `(tactic| (k_here; k_dflt (refine' item_tup_my ?k1 ?k2 ?k3 ?k4 ?k5 ?k6 ?_; (case k1 => k_asm); (case k2 => k_mem); (case k3 => assumption); (case k4 => omega); (case k5 => omega); (case k6 => omega); k_whole); intro tI))
local macro_rules | `(tactic| walk_at "binaryOp Mult int int") => `(tactic| (k_here; refine Stop.intro ?_))
theorem range_size (a b : Int) : Builtin.Range.rangeSize a b 1 = (((b - a).toNat : Nat) : Int) := by
  unfold Builtin.Range.rangeSize
  rw [if_pos (by decide), Int.ediv_one]
  split <;> omega
theorem range_small {a b : Int} (h : 0 ≤ a ∧ a ≤ 65536) (h' : 0 ≤ b ∧ b ≤ 65536) : Builtin.Range.small a b 1 = true := by
  unfold Builtin.Range.small
  have e := range_size a b
  rw [e]
  have f : ∀ i : Int, -65536 ≤ i → i ≤ 65536 → Builtin.Range.rangeFitsLong i = true := fun i h1 h2 => by
    unfold Builtin.Range.rangeFitsLong
    simp only [Bool.and_eq_true, decide_eq_true_eq]
    omega
  rw [f a (by omega) (by omega), f b (by omega) (by omega), f 1 (by omega) (by omega), f _ (by omega) (by omega), if_pos (by decide), f (b + (1 - 1)) (by omega) (by omega)]
  simp
theorem AllNe.of {I : Addr} {news : List (Addr × Obj)} (h : ∀ p ∈ news, p.1 ≠ I) : ∀ p ∈ news, p.1 ≠ I := h
local macro_rules | `(tactic| k_mem) => `(tactic| ((with_reducible repeat (first | assumption | apply List.mem_cons_of_mem)); done))
structure IlC where
  il : Int
  t : Tok
set_option maxRecDepth 100000 in
set_option maxHeartbeats 8000000 in
theorem ilevel (w : World) (loose : List Str) (mean : ExcName → Option Value) (mg mb : Str → Option Value) (news : List (Addr × Obj)) (v : Value) (st : List Int × Int × Int × Int) (k : Int) (t : Tok)
    (hv : LeadIn w.params 83 news v st) (hlen : st.1.length ≤ 65536) (hk1 : 1 ≤ k) (hk2 : k ≤ 65536) :
    Does PySem.Challenge.rw_pg0153_02.row.prog w (hd.heap_39 w.params) hd.view_39 loose mean mg mb (.ref 52) [v, .int k t] 3 20 news
      (fun tl r => tl = [] ∧ ∃ t', r = .int (ilev st k) t') := by
  k_fill
  intro dp un gd cn cs a ccd cl outer A₀ base h₀ L m s Q E B F X N T hk hdp hun hret
  obtain ⟨x, d, Ta, Tc, vs, raw, t0, t1, t2, t3, k0, k1, k2, k3, k4, ep, e, m1, m2, m3, m4, hI⟩ := hv
  subst e
  refine wpAny_call ?_
  k_dflt cell_enter
  k_steps
  unfold Stop
  rename Fr _ _ _ _ => F8
  (with_unfolding_all refine' For_invVF F8 ?k1 ?k2 ?_; (case k1 => exact rfl); (case k2 => exact rfl); k_whole)
  k_steps
  unfold Stop
  rename Fr _ _ _ _ => F9
  rename News _ _ _ _ => N9
  rename IsRange _ _ _ _ _ _ _ _ => hR
  obtain ⟨m9, hm9, F9⟩ := fr_gen F9
  obtain ⟨tb, hb⟩ : ∃ t, m9 (Str.ofString "il") = some (.int 0 t) := ⟨_, by rw [hm9]; rfl⟩
  with_unfolding_all
   refine' for_range (σ := IlC) (n := ((st.1.length : Int) - k).toNat) (fun _ => news) (fun c => [(Str.ofString "il", .int c.il c.t)]) [] (fun i c => c.il = ilAcc st.1 k i) ⟨0, tb⟩ (by rfl) hR ?hs ?hn F9 N9 ?hk rfl ?_ ?_
  case hs => exact range_small (by omega) (by omega)
  case hn => exact range_size k _
  case hk => exact List.forall_mem_cons.mpr ⟨hb, List.forall_mem_nil _⟩
  · subst hm9
    intro I c i ti u h9 tk9 oI hlt hi hP hoff F9 N9
    obtain ⟨il, til⟩ := c
    dsimp only at hP F9 N9 hoff
    dsimp only [kstB] at F9
    have hoA := AllNe.of hoff
    have hi2 : k + (i : Int) < st.1.length := by omega
    clear hlt hoff
    k_steps
    · unfold Stop
      refine mul_int ?_ (fdiv_ok (by omega) (by omega) (by omega))
      k_steps
      unfold Stop
      rename Fr _ _ _ _ => F7
      rename News _ _ _ _ => N7
      refine MyEnd.intro ⟨_, _⟩ F7 N7 (by kst_all) (by k_mem) (by kst_in) hoA (by kst_same) ?_
      dsimp only
      rw [hP]
      rfl
  · subst hm9
    intro c u h9 tk9 hP F9 N9
    obtain ⟨il, til⟩ := c
    dsimp only at hP F9 N9
    dsimp only [kstB] at F9
    k_steps
    unfold Stop
    refine mul_int ?_ (mul_ok_left (by omega))
    k_steps
    rename Fr h₀ _ _ _ => F7
    rename News h₀ _ _ _ => N7
    subst hP
    exact hret _ _ _ [] F7 N7 (fun _ _ _ h => nomatch h) ⟨rfl, _, rfl⟩
end Mine
end

section
open PySem PySem.W PyProof.Rows
namespace Mine
local macro_rules | `(tactic| walk_at "exec For Name Name cons nil") => `(tactic| (k_here; refine Stop.intro ?_))
local macro_rules | `(tactic| walk_at "pyIter bytes") => `(tactic| (k_here; refine Stop.intro ?_))
local macro_rules | `(tactic| walk_at "call ref") => `(tactic| (k_here; refine Stop.intro ?_))
local macro_rules | `(tactic| walk_at "MyTurn") => `(tactic| (dsimp only [MyTurn]))
local macro_rules | `(tactic| walk_at "MyEnd") => `(tactic| (refine Stop.intro ?_))
local macro_rules | `(tactic| k_all) => `(tactic| (refine' allNe_of ?a9 ?b9; (case a9 => assumption); (case b9 => omega)))

theorem fr_gen' {h₀ h : Heap} {L : Addr} {m : Str → Option Value} (F : Fr h₀ L h m) : ∃ m', m' = m ∧ Fr h₀ L h m' := ⟨m, rfl, F⟩
theorem news_tail {h₀ h : Heap} {L : Addr} {A : Addr × Obj} {r : List (Addr × Obj)} (N : News h₀ L h (A :: r)) : News h₀ L h r := fun p hp => N p (.tail _ hp)
local macro_rules | `(tactic| walk_at "call builtin:list.append") => `(tactic| (k_here; (first | (with_reducible show wpAny _ _ (call (Value.builtin _) [Value.ref _, _]) _ _ _) | (show wpAny _ _ (call (Value.builtin _) [Value.ref _, _]) _ _ _; (try dsimp only))); k_dflt (refine' append_K ?k1 ?k2 ?k3 ?_ ?z; (case k1 => k_asm); (case k2 => k_asm); (case k3 => k_upd); (case z => ((try simp only [List.size_toArray, sizeLine_eq]); omega)); k_whole); intro h' F' N'; (try k_sweep)))
theorem news_one {h₀ h : Heap} {L : Addr} {A B : Addr × Obj} {news : List (Addr × Obj)} (N : News h₀ L h (A :: B :: news)) : News h₀ L h ([A] ++ news) := fun p hp => N p (by
  rcases List.mem_append.mp hp with h | h
  · exact List.mem_singleton.mp h ▸ .head _
  · exact .tail _ (.tail _ h))
theorem one_order {d e : Addr} {o : Obj} {news : List (Addr × Obj)} (h : @LT.lt Nat _ e d ∧ AllLt d news) : ∀ q ∈ news, ∀ p ∈ [(d, o)], q.1 < p.1 := fun q hq p hp => by
  rw [List.mem_singleton.mp hp]; exact ktn_ltOf h.2 q hq
structure DvC where
  l : Addr
  lvs : List Value
  lns : List Int
  ep : Nat
  left : Int
  tleft : Tok
  lead : Str
  tlead : Tok
  col : Int
  tcol : Tok
set_option maxRecDepth 100000 in
set_option maxHeartbeats 8000000 in
theorem divided (w : World) (loose : List Str) (mean : ExcName → Option Value) (mg mb : Str → Option Value) (news : List (Addr × Obj)) (b : Array UInt8) (tb : Tok) (k : Nat) (t : Tok)
    (hb : (KBw.bInts b).length ≤ 5) (hr : ∀ c ∈ KBw.bInts b, 65 ≤ c ∧ c ≤ 80) (hk1 : 2 ≤ k) (hk2 : k ≤ 6) :
    Does PySem.Challenge.rw_pg0153_02.row.prog w (hd.heap_39 w.params) hd.view_39 loose mean mg mb (.ref 101) [.bytes b tb, .int (k : Int) t] 6 50 news
      (fun tl r => ∃ T b' tb' tl', r = .ref T ∧ (T, ({ cls := .type "tuple", data := .seq #[.bytes b' tb', .int ((dvRun k (KBw.bInts b)).2.1 : Int) tl'] } : Obj)) ∈ tl ∧ KBw.bInts b' = (dvRun k (KBw.bInts b)).1) := by
  k_fill
  intro dp un gd cn cs a ccd cl outer A₀ base h₀ L m s Q E B F X N T hk hdp hun hret
  refine wpAny_call ?_
  k_dflt cell_enter
  k_steps
  unfold Stop
  rename Fr _ _ _ _ => F8
  (with_unfolding_all refine' For_invVF F8 ?k1 ?k2 ?_; (case k1 => exact rfl); (case k2 => exact rfl); k_whole)
  k_steps
  unfold Stop
  have hA : AllLt _ news := allLt_of (by assumption)
  rename Fr _ _ _ _ => F9
  rename News _ _ _ _ => N9
  obtain ⟨m9, hm9, F9⟩ := fr_gen F9
  obtain ⟨tl, hl⟩ : ∃ t, m9 (Str.ofString "left") = some (.int 0 t) := ⟨_, by rw [hm9]; rfl⟩
  obtain ⟨td, hd⟩ : ∃ t, m9 (Str.ofString "lead") = some (.str (Str.ofString "") t) := ⟨_, by rw [hm9]; rfl⟩
  obtain ⟨tc, hc⟩ : ∃ t, m9 (Str.ofString "columns") = some (.int 0 t) := ⟨_, by rw [hm9]; rfl⟩
  have N9 := news_tail N9
  with_unfolding_all
   refine' for_bytes (σ := DvC) (fun c => (c.l, W.listOf c.lvs.toArray c.ep) :: news)
     (fun c => [(Str.ofString "letters", .ref c.l), (Str.ofString "left", .int c.left c.tleft), (Str.ofString "lead", .str c.lead c.tlead), (Str.ofString "columns", .int c.col c.tcol)])
     [Str.ofString "run", Str.ofString "row", Str.ofString "column"]
     (fun pre c => IntsAre c.lvs c.lns ∧ AllLt c.l news ∧ c.lns = (dvRun k pre).1 ∧ c.left = ((dvRun k pre).2.1 : Int) ∧ c.lead.cps.toList = rowsCodes (dvRun k pre).2.2 ∧ c.col = colOf k (dvRun k pre).2.2)
     ⟨_, [], [], 0, 0, tl, Str.ofString "", td, 0, tc⟩ (by rfl) F9 N9 ?hk ?hp ?_ ?_
  case hk => exact List.forall_mem_cons.mpr ⟨by rw [hm9]; rfl, List.forall_mem_cons.mpr ⟨hl, List.forall_mem_cons.mpr ⟨hd, List.forall_mem_cons.mpr ⟨hc, List.forall_mem_nil _⟩⟩⟩⟩
  case hp => exact ⟨.nil, hA, rfl, rfl, codes_empty, by simp [dvRun, colOf]⟩
  · subst hm9
    clear hl hd hc hA
    intro I c pre post ch tch u h9 tk9 oI hlt hsplit hP hoff F9 N9
    obtain ⟨vl, vvs, vns, vep, vleft, vtl, vlead, vtlead, vcol, vtcol⟩ := c
    obtain ⟨hI, hAl, hln, hle, hld, hco⟩ := hP
    have hpre : pre.length ≤ 4 := by
      have := congrArg List.length hsplit
      rw [List.length_append, List.length_cons] at this
      omega
    have hch : 65 ≤ ch ∧ ch ≤ 80 := hr ch (hsplit ▸ List.mem_append_right _ (.head _))
    have hbd := dv_bound hk1 hk2 pre (fun c hc => hr c (hsplit ▸ List.mem_append_left _ hc))
    have hnx := dvRun_snoc k pre ch
    generalize dvRun k pre = st at *
    obtain ⟨sl, sleft, srows⟩ := st
    dsimp only at hI hAl hln hle hld hco F9 N9 hoff hbd
    obtain ⟨hb1, hb2, hb3, hb4, hb5⟩ := hbd
    subst hln hle hco
    have hldl : vlead.length ≤ 4 * 96 := by
      rw [← str_len, hld]
      refine Nat.le_trans (rowsCodes_len srows 95 hb4) ?_
      omega
    dsimp only [kstB] at F9
    have hvl := hI.length
    have hoI : @Ne Nat vl I := hoff _ (.head _)
    have hoff' : ∀ p ∈ news, p.1 ≠ I := fun p hp => hoff p (.tail _ hp)
    clear hlt hoff
    obtain ⟨run, hrun⟩ : ∃ run : Nat, run = 16 * sleft + (ch - 65).toNat := ⟨_, rfl⟩
    have hri : 16 * (sleft : Int) + ch - 65 = (run : Int) := by omega
    k_steps
    unfold Stop
    have hsz : (Txt.mul (Str.ofString " ") (16 * (sleft : Int) + ch - 65) ++ Str.ofString "\t" ++ ({ cps := #[ch.toNat] } : Str) ++ Str.ofString "\t").cps.toList.length ≤ 65536 := by
      rw [codes_append, codes_append, codes_append, codes_mul, codes_tab]
      simp only [List.length_append, List.length_replicate, List.length_cons, List.length_nil]
      omega
    k_dflt (refine' Does.use (wsnew w _ _ _ _ _ _ _ hsz) ?k1 ?k2 ?k3 ?k4 ?k5 ?k6 ?k7 ?k8 ?_)
    case k1 => k_asm
    case k2 => k_asm
    case k3 => k_asm
    case k4 => k_asm
    case k5 => k_asm
    case k6 => exact rfl
    case k7 => ktr_room
    case k8 => ktr_units
    intro r5 h5 tk5 tl5 F5 N5 ho5 hL5
    replace hL5 := lead_left N5 hL5
    have hL6 := hL5
    obtain ⟨x5, d5, T5, Tc5, vs5, raw5, z0, z1, z2, z3, y0, y1, y2, y3, y4, ep5, e5, m1, m2, m3, m4, hI5⟩ := hL5
    subst e5
    try dsimp only
    try k_fold
    k_steps
    unfold Stop
    k_dflt (refine' Does.use (ilevel w _ _ _ _ _ _ _ (k : Int) _ hL6 (Nat.le_trans (wsRead_len _) hsz) (by omega) (by omega)) ?k1 ?k2 ?k3 ?k4 ?k5 ?k6 ?k7 ?k8 ?_)
    case k1 => k_asm
    case k2 => k_asm
    case k3 => k_asm
    case k4 => k_asm
    case k5 => k_asm
    case k6 => exact rfl
    case k7 => ktr_room
    case k8 => ktr_units
    intro r6 h6 tk6 tl6 F6 N6 ho6 hL7
    obtain ⟨e6, t6, e7⟩ := hL7
    subst e6 e7
    have hcol := col_is (run := run) (c := ch) (k := k) (by omega) hch.1 hri
    obtain ⟨hc0, hc1, hc2, hc3, hc4⟩ := col_facts (by omega) hcol
    clear hL6 m1 m2 m3 m4
    generalize ilev _ (k : Int) = col at *
    have N6 := news_right N6
    have N6 := news_right N6
    try dsimp only
    try k_fold
    k_steps
    · exact absurd hc0 (by assumption)
    unfold Stop
    rename Fr _ _ _ _ => F7
    rename News _ _ _ _ => N7
    try simp only [List.push_toArray] at N7
    refine MyEnd.intro ⟨_, _, vns ++ [64 + col.fdiv (k : Int)], _, _, _, _, _, _, _⟩ F7 N7 (by kst_all) (by k_mem) (by kst_in) (List.forall_mem_cons.mpr ⟨by k_ne, fun p hp => (hoff' p hp)⟩) (by kst_same) ?_
    have hrun' : (dvStep k (vns, sleft, srows) ch) = (vns ++ [65 + ((run / k : Nat) : Int)], run % k, srows ++ [run]) := by rw [hrun]; rfl
    rw [hnx, hrun']
    refine ⟨hI.append (.cons _ _ .nil), hAl, ?_, ?_, ?_, ?_⟩
    · show vns ++ [64 + col.fdiv (k : Int)] = vns ++ [65 + ((run / k : Nat) : Int)]
      rw [hc3]; congr 2; omega
    · show 16 * (sleft : Int) + ch - 65 + (k : Int) - col = ((run % k : Nat) : Int)
      rw [hri]; exact hc4
    · show (vlead ++ (Txt.mul (Str.ofString " ") (16 * (sleft : Int) + ch - 65) ++ Str.ofString "\t")).cps.toList = rowsCodes (srows ++ [run])
      rw [codes_append, codes_append, codes_mul, codes_tab, hri, Int.toNat_natCast, hld, rowsCodes_snoc]
    · show colOf k srows + col = colOf k (srows ++ [run])
      rw [colOf_snoc, hcol]
  · subst hm9
    clear hl hd hc
    intro c u h9 tk9 hP F9 N9
    obtain ⟨vl, vvs, vns, vep, vleft, vtl, vlead, vtlead, vcol, vtcol⟩ := c
    obtain ⟨hI, hAl, hln, hle, hld, hco⟩ := hP
    have hbd := dv_bound hk1 hk2 _ hr
    generalize dvRun k _ = st at *
    obtain ⟨sl, sleft, srows⟩ := st
    dsimp only at hI hAl hln hle hld hco F9 N9 hbd
    obtain ⟨hb1, hb2, hb3, hb4, hb5⟩ := hbd
    subst hln hle hco
    have hldl : vlead.length ≤ 5 * 96 := by
      rw [← str_len, hld]
      refine Nat.le_trans (rowsCodes_len srows 95 hb4) ?_
      omega
    dsimp only [kstB] at F9
    have hvl := hI.length
    k_steps
    unfold Stop
    have htx : (vlead ++ Txt.mul (Str.ofString " ") (sleft : Int)).cps.toList = rowsCodes srows ++ List.replicate sleft 32 := by
      rw [codes_append, codes_mul, hld, Int.toNat_natCast]
    have hsz : (vlead ++ Txt.mul (Str.ofString " ") (sleft : Int)).cps.toList.length ≤ 65536 := by
      rw [codes_append, codes_mul, List.length_append, List.length_replicate, str_len]
      omega
    k_dflt (refine' Does.use (wsnew w _ _ _ _ _ _ _ hsz) ?k1 ?k2 ?k3 ?k4 ?k5 ?k6 ?k7 ?k8 ?_)
    case k1 => k_asm
    case k2 => k_asm
    case k3 => k_asm
    case k4 => k_asm
    case k5 => k_asm
    case k6 => exact rfl
    case k7 => ktr_room
    case k8 => ktr_units
    intro r5 h5 tk5 tl5 F5 N5 ho5 hL5
    replace hL5 := lead_left N5 hL5
    have hL6 := hL5
    obtain ⟨x5, d5, T5, Tc5, vs5, raw5, z0, z1, z2, z3, y0, y1, y2, y3, y4, ep5, e5, m1, m2, m3, m4, hI5⟩ := hL5
    subst e5
    try dsimp only
    try k_fold
    k_steps
    unfold Stop
    k_dflt (refine' Does.use (ilevel w _ _ _ _ _ _ _ (k : Int) _ hL6 (Nat.le_trans (wsRead_len _) hsz) (by omega) (by omega)) ?k1 ?k2 ?k3 ?k4 ?k5 ?k6 ?k7 ?k8 ?_)
    case k1 => k_asm
    case k2 => k_asm
    case k3 => k_asm
    case k4 => k_asm
    case k5 => k_asm
    case k6 => exact rfl
    case k7 => ktr_room
    case k8 => ktr_units
    intro r6 h6 tk6 tl6 F6 N6 ho6 hL7
    obtain ⟨e6, t6, e7⟩ := hL7
    subst e6 e7
    rw [col_all (by omega) htx]
    clear hL6 m1 m2 m3 m4
    have N6 := news_right N6
    have N6 := news_right N6
    try dsimp only
    try k_fold
    k_steps
    · exact absurd rfl (by assumption)
    have hin : KBa.In vns := fun c hc => by have := hb5 c hc; omega
    rename Fr _ _ _ _ => F7
    rename News _ _ _ _ => N7
    refine KBa.make_K F7 N7 rfl (News.isList N7 (.head _)) hI hin (by omega) ?_
    intro h8 t8 k8 F8 N8 _
    clear hin
    have hbi := KBa.ints_make (ns := vns) (fun c hc => by have := hb5 c hc; omega)
    generalize PySem.byteArr vns = bb at *
    k_steps
    rename Fr h₀ _ _ _ => F7
    rename News h₀ _ _ _ => N7
    exact hret _ _ _ _ F7 (news_one N7) (one_order (by assumption)) ⟨_, bb, _, _, rfl, .head _, hbi⟩
end Mine
end

section
open PySem PySem.W PyProof.Rows
namespace Mine
local macro_rules | `(tactic| walk_at "exec Assign cons ListComp") => `(tactic| (k_here; (with_reducible show wpAny _ _ (exec (Stmt.Assign [Expr.Name (Str.ofString "drawn") _] _ _) _) _ _ _); refine Stop.intro ?_))
local macro_rules | `(tactic| walk_at "call ref") => `(tactic| (k_here; refine Stop.intro ?_))
local macro_rules | `(tactic| walk_at "call type:enumerate") => `(tactic| (k_here; refine Stop.intro ?_))
local macro_rules | `(tactic| walk_at "subscriptTail Name Slice ref ref") => `(tactic| (k_here; (with_reducible show wpAny _ _ (subscriptTail _ (Expr.Slice _ _ (some _) _) _ _) _ _ _); refine Stop.intro ?_))
local macro_rules | `(tactic| walk_at "call builtin:sum") => `(tactic| (k_here; (with_reducible show wpAny _ _ (call (Value.builtin "sum") [Value.ref _]) _ _ _); k_dflt (refine' sumK ?k0 ?k1 ?k2 ?k3 ?k4 ?_; (case k0 => exact rfl); (case k1 => k_asm); (case k2 => k_asm); (case k3 => (refine' News.isList ?k5 ?k6; (case k5 => k_asm); (case k6 => k_mem))); (case k4 => assumption); k_whole); intro h' tk' t' F' N'))
local macro_rules | `(tactic| walk_at "exec For Name Subscript cons nil") => `(tactic| (k_here; refine Stop.intro ?_))
local macro_rules | `(tactic| walk_at "pyIter ref") => `(tactic| (k_here; (with_reducible show wpAny _ _ (pyIter (Value.ref _)) (fun it s₂ => LoopAtV _ _ _ _ _ _ _ _ _ it s₂) _ _); refine Stop.intro ?_))
local macro_rules | `(tactic| walk_at "MyTurn") => `(tactic| (dsimp only [MyTurn]))
local macro_rules | `(tactic| walk_at "MyEnd") => `(tactic| (refine Stop.intro ?_))
local macro_rules | `(tactic| walk_at "binaryOp Mult int int") => `(tactic| (k_here; refine Stop.intro ?_))
local macro_rules | `(tactic| walk_at "call builtin:len") => `(tactic| (k_here; (with_reducible show wpAny _ _ (call (Value.builtin "len") [Value.bytes _ _]) _ _ _); (refine' KBw.len_K (ks := KBw.bInts _) rfl ?z9 ?_; (case z9 => omega))))
structure L2C where
  b : Array UInt8
  tb : Tok
  pr : Nat
  tp : Tok
  rs : Int
  tr : Tok
set_option maxRecDepth 100000 in
set_option maxHeartbeats 8000000 in
theorem law_holds : PySem.Challenge.rw_pg0153_02.Holds := hd (by
  w_strict (k_go0; (all_goals try k_fold); k_steps)
  unfold Stop
  k_dflt (refine Assign_ListComp_my (by k_asm) (by decide) (by rfl) (by with_unfolding_all rfl) (by with_unfolding_all rfl) (by rfl) (by decide) (by rfl) (by rfl) ?_)
  k_steps
  unfold Stop
  k_dflt (refine' enum_at (by rfl) ?F ?N ?m ?sz (by decide) (by decide) rfl rfl rfl ?R)
  case F => k_asm
  case N => k_asm
  case m => k_mem
  case sz => exact Nat.le_of_ble_eq_true rfl
  case R =>
    intro D C e it h₁ h₂ hlt he hD hC
    refine crest_ints (fun _ _ => True) (by k_mem) ?_ ?_
    · intro i ys own h tk E' hi hB hoc F N off
      obtain ⟨oe, oit, oC, m₂, v, tv, rfl, hoC, hv, hma, hmb, -, -⟩ := hB
      obtain ⟨zv, tz, rfl⟩ : ∃ z t, v = .int z t := by
        rcases i with _ | _ | _ | _ | i <;> simp at hv <;> exact ⟨_, _, hv.symm⟩
      simp only [List.cons_append, List.nil_append] at N
      clear off hoc
      rename IntsAre _ (List.map _ _) => hI9
      iterate 16 (first | walk1 | skip)
      unfold Stop
      obtain ⟨ms, hms⟩ := slice_ints (lo := some (i : Int)) (hi := none) (st := some 4) hI9
      k_dflt (refine' kmk_slice3_lit ?q1 ?q2 ?q3 ?q4 ?q5 ?q6 ?q7 ?q8 ?_ ?q9 ?q10 ?q11)
      case q1 => k_asm
      case q2 => k_asm
      case q3 => exact News.isList (by k_asm) (by k_mem)
      case q4 => constructor
      case q5 => constructor
      case q6 => constructor
      case q7 => decide
      case q8 => rfl
      case q9 => with_unfolding_all rfl
      case q10 => intro _; with_unfolding_all rfl
      case q11 => (rw [List.size_toArray, hI9.length, List.length_map, sizeLine_eq]; have := List.length_take_le 12 (by assumption : List Int); omega)
      intro D7 h7 F7 N7 l7
      k_steps
      rename Fr _ _ _ _ => F8
      rename News _ _ _ _ => N8
      exact IntBack.intro F8 N8 (fun p hp => List.mem_cons_of_mem _ hp) trivial
    · intro ys zs hI hl _
      obtain ⟨n0, n1, n2, n3, rfl⟩ : ∃ a b c d, zs = [a, b, c, d] := by
        rcases zs with _ | ⟨a, _ | ⟨b, _ | ⟨c, _ | ⟨d, _ | _⟩⟩⟩⟩ <;> simp at hl
        exact ⟨a, b, c, d, rfl⟩
      cases hI with | cons _ t0 hI => ?_
      cases hI with | cons _ t1 hI => ?_
      cases hI with | cons _ t2 hI => ?_
      cases hI with | cons _ t3 hI => ?_
      cases hI
      intro h9 tk9 F9 N9 off9
      try dsimp only
      try k_fold
      k_steps
      unfold Stop
      have hm0 : 0 ≤ ([n0, n1, n2, n3].getD (Int.toNat 0) 0).fmod 983040 ∧ ([n0, n1, n2, n3].getD (Int.toNat 0) 0).fmod 983040 < 983040 := ⟨Int.fmod_nonneg_of_pos _ (by decide), Int.fmod_lt_of_pos _ (by decide)⟩
      generalize ([n0, n1, n2, n3].getD (Int.toNat 0) 0).fmod 983040 = u0 at *
      obtain ⟨Nn, hN⟩ : ∃ Nn : Nat, 65536 + u0 = (Nn : Int) := ⟨(65536 + u0).toNat, by omega⟩
      have hN1 : 65536 ≤ Nn := by omega
      have hN2 : Nn < 1048576 := by omega
      generalize 65536 + u0 = U at *
      subst hN
      k_dflt (refine' Does.use (int2ap _ _ _ _ _ _ _ _ ?q0) ?q1 ?q2 ?q3 ?q4 ?q5 ?q6 ?q7 ?q8 ?_)
      case q0 => omega
      case q1 => k_asm
      case q2 => k_asm
      case q3 => k_asm
      case q4 => k_asm
      case q5 => k_asm
      case q6 => exact rfl
      case q7 => ktr_room
      case q8 => ktr_units
      intro r5 h5 tk5 tl5 F5 N5 ho5 hP5
      obtain ⟨e5, b5, t5, e6, hb5⟩ := hP5
      subst e5 e6
      rw [List.nil_append] at N5
      have hw5 : KBw.bInts b5 = digs 5 (Nn / 1) := by
        rw [hb5, Nat.div_one, show (-(Nn : Int)).natAbs = Nn by omega]
        exact apL_full (by omega) (by omega)
      try dsimp only
      try k_fold
      k_steps
      unfold Stop
      rename Fr _ _ _ _ => F8
      (with_unfolding_all refine' For_invVF F8 ?k1 ?k2 ?_; (case k1 => exact rfl); (case k2 => exact rfl); k_whole)
      k_steps
      unfold Stop
      rename Fr _ _ _ _ => F8
      rename News _ _ _ _ => N8
      obtain ⟨m9, hm9, F8⟩ := fr_gen' F8
      obtain ⟨tpr, hpr⟩ : ∃ t, m9 (Str.ofString "product") = some (.int 1 t) := ⟨_, by rw [hm9]; rfl⟩
      obtain ⟨trs, hrs⟩ : ∃ t, m9 (Str.ofString "rest") = some (.int 0 t) := ⟨_, by rw [hm9]; rfl⟩
      with_unfolding_all
       refine' for_list (σ := L2C) (fun _ => _) (fun c => [(Str.ofString "word", .bytes c.b c.tb), (Str.ofString "product", .int (c.pr : Int) c.tp), (Str.ofString "rest", .int c.rs c.tr)])
        [Str.ofString "size", Str.ofString "left", Str.ofString "told"]
        (fun i c => KBw.bInts c.b = digs 5 (Nn / c.pr) ∧ 1 ≤ c.pr ∧ c.pr ≤ 6 ^ i ∧ c.rs = ((Nn % c.pr : Nat) : Int)) ⟨b5, t5, 1, tpr, 0, trs⟩ (by rfl) ?hlm F8 N8 ?hkk ?hpp ?_ ?_
      case hlm => exact fun _ => List.mem_cons_self
      case hkk => exact List.forall_mem_cons.mpr ⟨by rw [hm9]; rfl, List.forall_mem_cons.mpr ⟨hpr, List.forall_mem_cons.mpr ⟨hrs, List.forall_mem_nil _⟩⟩⟩
      case hpp => exact ⟨hw5, Nat.le_refl _, Nat.le_refl _, by simp [Nat.mod_one]⟩
      · subst hm9
        clear hpr hrs
        intro I c i v u hh9 tk10 oI hlt hi hv hP hoff F9 N9
        obtain ⟨b6, tb6, pr, tp6, rs, tr6⟩ := c
        obtain ⟨p1, p2, p3, p4⟩ := hP
        dsimp only at p1 p2 p3 p4 F9 N9 hoff
        dsimp only [kstB] at F9
        subst p4
        obtain ⟨z, tz, rfl⟩ : ∃ z t, v = .int z t := by
          rcases i with _ | _ | _ | i <;> simp at hv <;> exact ⟨_, _, hv.symm⟩
        have hi3 : i < 3 := hi
        have p5 : pr ≤ 36 := Nat.le_trans p3 (by
          rcases i with _ | _ | _ | i
          · decide
          · decide
          · decide
          · omega)
        clear hlt
        k_steps
        unfold Stop
        have hz0 : 0 ≤ z.fmod 5 ∧ z.fmod 5 < 5 := ⟨Int.fmod_nonneg_of_pos _ (by decide), Int.fmod_lt_of_pos _ (by decide)⟩
        generalize z.fmod 5 = y at *
        obtain ⟨k, hk⟩ : ∃ k : Nat, 2 + y = (k : Int) := ⟨(2 + y).toNat, by omega⟩
        have hk1 : 2 ≤ k := by omega
        have hk2 : k ≤ 6 := by omega
        generalize 2 + y = Y at *
        subst hk
        k_dflt (refine' Does.use (divided _ _ _ _ _ _ _ _ k _ ?q00 ?q0 hk1 hk2) ?q1 ?q2 ?q3 ?q4 ?q5 ?q6 ?q7 ?q8 ?_)
        case q00 => (rw [p1, digs_len]; exact Nat.le_refl _)
        case q0 => (rw [p1]; exact digs_in 5 _)
        case q1 => k_asm
        case q2 => k_asm
        case q3 => k_asm
        case q4 => k_asm
        case q5 => k_asm
        case q6 => exact rfl
        case q7 => ktr_room
        case q8 => ktr_units
        intro r6 h6 tk6 tl6 F6 N6 ho6 hP6
        obtain ⟨T6, b7, tb7, tl7, e6, m6, hb7⟩ := hP6
        subst e6
        have hdv := dv_digs (k := k) (by omega) 5 (Nn / pr) (by have := Nat.div_le_self Nn pr; omega)
        rw [p1] at hb7 m6
        rw [hdv.1] at hb7
        rw [hdv.2] at m6
        replace m6 := mem_led N6 m6
        try dsimp only
        try k_fold
        k_steps
        unfold Stop
        rename News _ _ _ _ => N7
        replace N7 := news_right N7
        refine mul_int ?_ (mul_ok_left (by omega))
        k_steps
        unfold Stop
        refine mul_int ?_ (mul_ok_left (by omega))
        obtain ⟨pk, hpk⟩ : ∃ pk : Nat, pk = pr * k := ⟨_, rfl⟩
        have hpk' : (pr : Int) * (k : Int) = (pk : Int) := by rw [hpk, Int.natCast_mul]
        have hR : ((Nn % pr : Nat) : Int) + (pr : Int) * ((Nn / pr % k : Nat) : Int) = ((Nn % pk : Nat) : Int) := by
          rw [hpk, Nat.mod_mul, Int.natCast_add, Int.natCast_mul]
        have hpk1 : 1 ≤ pk := by rw [hpk]; exact Nat.mul_pos (by omega) (by omega)
        have hpk2 : pk ≤ 6 ^ (i + 1) := by rw [hpk, Nat.pow_succ]; exact Nat.mul_le_mul p3 hk2
        have hpk3 : pk ≤ 216 := by rw [hpk]; exact Nat.mul_le_mul p5 hk2
        rw [Nat.div_div_eq_div_mul, ← hpk] at hb7
        generalize (pr : Int) * (k : Int) = PK at *
        subst hpk'
        generalize ((Nn % pr : Nat) : Int) + (pr : Int) * ((Nn / pr % k : Nat) : Int) = RR at *
        subst hR
        k_steps
        unfold Stop
        have hq : (Nn : Int).fdiv (pk : Int) = ((Nn / pk : Nat) : Int) := by
          rw [Int.fdiv_eq_ediv_of_nonneg _ (by omega), Int.natCast_ediv]
        have hqb : Nn / pk < 1048576 := by have := Nat.div_le_self Nn pk; omega
        k_dflt (refine' Does.use (int2ap _ _ _ _ _ _ _ _ ?q0) ?q1 ?q2 ?q3 ?q4 ?q5 ?q6 ?q7 ?q8 ?_)
        case q0 => (rw [hq, Int.natAbs_natCast]; exact Nat.lt_of_lt_of_le hqb (by decide))
        case q1 => k_asm
        case q2 => k_asm
        case q3 => k_asm
        case q4 => k_asm
        case q5 => k_asm
        case q6 => exact rfl
        case q7 => ktr_room
        case q8 => ktr_units
        intro r8 h8 tk8 tl8 F8 N8 ho8 hP8
        obtain ⟨e8, b8, t8, e9, hb8⟩ := hP8
        subst e8 e9
        rw [List.nil_append] at N8
        rw [hq, Int.natAbs_natCast] at hb8
        have hdg := apL_digs 5 (Nn / pk) hqb
        have hl8 := apL_len 5 (Nn / pk) hqb
        rw [← hb8] at hdg hl8
        try dsimp only
        try k_fold
        k_steps
        have hpad := pad_eq hb7 hdg
        have hmod : (Nn : Int).fmod (pk : Int) = ((Nn % pk : Nat) : Int) := by
          rw [Int.fmod_eq_emod_of_nonneg _ (by omega), Int.natCast_emod]
        refine KBa.add_K (flat_bytes _) rfl ?q9 ?_
        case q9 => (rw [List.length_replicate]; omega)
        intro t10 k10 hs10
        rw [← hpad]
        clear hs10
        k_steps
        unfold Stop
        rename Fr _ _ _ _ => F11
        rename News _ _ _ _ => N11
        exact MyEnd.intro ⟨b7, _, pk, _, _, _⟩ F11 N11 (by kst_all) (by k_mem) (by kst_in) hoff (by kst_same) ⟨hb7, hpk1, hpk2, rfl⟩
      · subst hm9
        clear hpr hrs
        intro c u hh9 tk10 hP F9 N9
        obtain ⟨b6, tb6, pr, tp6, rs, tr6⟩ := c
        dsimp only at F9 N9
        dsimp only [kstB] at F9
        k_steps)
end Mine
end

open PySem PySem.W PyProof.Rows
set_option maxRecDepth 100000 in
set_option maxHeartbeats 8000000 in
theorem PySem.Challenge.cw_pg0153_02_holds : PySem.Challenge.rw_pg0153_02.Holds := by
  exact Mine.law_holds
