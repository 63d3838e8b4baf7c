import PyProof.Rows.All
import Wide.All
import OpenK.AllK
import Wide.FinOn
import PySem.Builtin.Re_Pattern.W2All
import PyProof.Walk
import PyProof.WalkLemmas
import KE.KxSplit
import KE.KLcPair
import KE.KTurns
import KE.KSetAt
import KE.KEqDat
import PySem.Challenge.RW_we0007_01
set_option Elab.async false
set_option compiler.extract_closed false
section
open PySem PySem.W PyProof.Rows PySem.Calls PySem.Spec
set_option maxRecDepth 100000
namespace Mine
noncomputable abbrev LO : List Str := [Str.ofString "COMPILER_FLAG_NAMES", Str.ofString "_twin_re_1", Str.ofString "_twin_re_2", Str.ofString "_sre"]

/-- a wrapping at which the walk stands still -/
structure Halt (P : Prop) : Prop where
  out : P

section
variable {prog : Program} {w : World} {A : Around} {s : Shared} {env : Env} {h₀ : Heap}

/-- a for loop with an else block: the loop's end hands over to the block -/
theorem forLoop_else {R : Result → Shared → Prop} {x : Str} {px : Pos} {body orelse : List Stmt} {I : Addr} {fp wr : List Addr} {n : Nat} {P : Nat → Value → Prop} {St : Nat → Heap → Prop} {m : Str → Option Value}
    {news : List (Addr × Obj)} (W : Walks prog w A I fp wr n P St) (hx : env.kindOf x = some .local)
    (hp : (env.scope.kind == .class || (env.scope.kind == .module && env.locals != env.globals)) = false)
    (hLf : env.locals ∉ fp) (hwr : ∀ b ∈ wr, h₀.get? b = none) (hnw : ∀ p ∈ news, p.1 ∉ wr)
    (hst : St 0 s.heap) (F : Fr h₀ env.locals s.heap m) (N : News h₀ env.locals s.heap news)
    (J : Nat → (Str → Option Value) → List (Addr × Obj) → Prop) (h0 : J 0 m news)
    (step : ∀ i v m₁ news₁ s₁ own, (∃ h tk, s₁ = { s with heap := h, toks := tk }) → i < n → P i v → J i m₁ news₁ → (∀ p ∈ news₁, p.1 ∉ wr) → (∀ p ∈ own, p.1 ∈ fp) → (∀ p ∈ own, s₁.heap.get? p.1 = some p.2) → (∀ b ∈ fp, h₀.get? b = none → ∀ o, s₁.heap.get? b = some o → (b, o) ∈ own) → St (i + 1) s₁.heap →
      Fr h₀ env.locals s₁.heap (fun y => if y = x then some v else m₁ y) → News h₀ env.locals s₁.heap (own ++ news₁) →
      wpAny (model prog w) A (execs body env) (LoopStepV h₀ env.locals wr own (J (i + 1)) s₁ (fun v s' => R (.ok (.ret v)) s') fun s' => R (.ok .next) s') (notedBy (model prog w) A env fun e s' => R (.error e) s') s₁)
    (hR : ∀ h' tk m' news', Fr h₀ env.locals h' m' → News h₀ env.locals h' news' → (∀ p ∈ news', p.1 ∉ wr) → J n m' news' →
      wpAny (model prog w) A (execs orelse env) (fun f s' => R (.ok f) s') (notedBy (model prog w) A env fun e s' => R (.error e) s') { s with heap := h', toks := tk }) :
    codeAny (model prog w) A (.forLoop (.Name x px) (.ref I) body orelse env) R s := by
  have hLw : env.locals ∉ wr := fun h => hLf (W.sub _ h)
  have old : ∀ b o, h₀.get? b = some o → b ∉ wr := fun b o e hb => by rw [hwr b hb] at e; cases e
  refine codeAny_forLoop
    (fun k s' => ∃ h' tk m' news' i, s' = { s with heap := h', toks := tk } ∧ St i h' ∧ Fr h₀ env.locals h' m' ∧ News h₀ env.locals h' news' ∧ (∀ p ∈ news', p.1 ∉ wr) ∧ J i m' news' ∧ i ≤ n ∧ k = n + 1 - i) ?_ (n + 1)
    ⟨s.heap, s.toks, m, news, 0, rfl, hst, F, N, hnw, h0, Nat.zero_le _, rfl⟩
  rintro k s' ⟨h', tk, m', news', i, rfl, hst', F', N', hnw', hJ, hi, rfl⟩
  have next : ∀ h₁ : Heap, (∀ b o, b ∉ wr → h'.get? b = some o → h₁.get? b = some o) → Fr h₀ env.locals h₁ m' ∧ News h₀ env.locals h₁ news' := fun h₁ hk₁ =>
    ⟨⟨F'.ns.at' fun o e => hk₁ _ o hLw e, fun b o e => hk₁ b o (old b o e) (F'.keep b o e), F'.above⟩, fun p hp => ⟨hk₁ _ _ (hnw' p hp) (N' p hp).1, (N' p hp).2⟩⟩
  by_cases hlt : i < n
  · refine W.item i _ _ _ hlt hst' fun v h₁ tk₁ hP hst₁ hk₁ => ?_
    obtain ⟨F₁, N₁⟩ := next h₁ hk₁
    refine wpAny_assign_Name (wpAny_storeName_local hx F₁.ns (fun h₂ hn₂ hs₂ => ?_) hp)
    have F₂ := F₁.set hn₂ hs₂
    have Nown : News h₀ env.locals h₂ (ownOf h₀ fp h₂) := news_ownOf hLf
    have hst₂ : St (i + 1) h₂ := W.frame _ _ _ hst₁ fun b hb o e => (hs₂.2 b fun q => hLf (q ▸ hb)).trans e
    refine wpAny_mono (step i v m' news' _ (ownOf h₀ fp h₂) ⟨_, _, rfl⟩ hlt hP hJ hnw' ownOf_sub (fun p hp => (Nown p hp).1) (fun b hb hn o e => mem_ownOf hb hn e) hst₂ F₂ (Nown.append (N₁.set hs₂))) (fun f s₃ h₃ => ?_) fun _ _ e => e
    have go : LoopStepU h₀ env.locals wr (ownOf h₀ fp h₂) (J (i + 1)) { s with heap := h₂, toks := tk₁ + 1 } .next s₃ → ∃ m, m < n + 1 - i ∧ ∃ h' tk m' news' i, s₃ = { s with heap := h', toks := tk } ∧ St i h' ∧ Fr h₀ env.locals h' m' ∧ News h₀ env.locals h' news' ∧ (∀ p ∈ news', p.1 ∉ wr) ∧ J i m' news' ∧ i ≤ n ∧ m = n + 1 - i := by
      rintro ⟨_, h₃', tk₃, m₂, news₂, rfl, F₃, N₃, ha₃, hJ₃⟩
      refine ⟨n + 1 - (i + 1), by omega, h₃', tk₃, m₂, news₂, i + 1, rfl, ?_, F₃, N₃.right, ha₃, hJ₃, hlt, rfl⟩
      refine W.frame _ _ _ hst₁ fun b hb o e => ?_
      have e₂ : h₂.get? b = some o := (hs₂.2 b fun q => hLf (q ▸ hb)).trans e
      cases hn : h₀.get? b with
      | some o₀ =>
        have : o₀ = o := by have := F₂.keep b o₀ hn; rw [e₂] at this; exact (Option.some.inj this).symm
        exact this ▸ F₃.keep b o₀ hn
      | none => exact (N₃ _ (List.mem_append_left _ (mem_ownOf hb hn e₂))).1
    cases f with
    | ret v => exact h₃
    | brk => exact h₃
    | cont => exact go h₃
    | next => exact go h₃
  · have hin : i = n := by omega
    subst hin
    refine W.done _ _ _ hst' fun h₁ tk₁ hk₁ => ?_
    obtain ⟨F₁, N₁⟩ := next h₁ hk₁
    exact hR h₁ tk₁ m' news' F₁ N₁ hnw' hJ

/-- for x in range(n) .. else: by an invariant over the frame's map and the ledger -/
theorem For_range_else {E : Value → Shared → Prop} {Q : Flow → Shared → Prop} {x : Str} {px pos : Pos} {iter : Expr} {body orelse : List Stmt} {m₀ : Str → Option Value} {news : List (Addr × Obj)}
    (_F : Fr h₀ env.locals s.heap m₀) (_N : News h₀ env.locals s.heap news) (n : Nat) (J : Nat → (Str → Option Value) → List (Addr × Obj) → Prop)
    (hh : A.handled = none) (hx : env.kindOf x = some .local)
    (hp : (env.scope.kind == .class || (env.scope.kind == .module && env.locals != env.globals)) = false)
    (h : wpAny (model prog w) A (eval iter env) (fun xv s₁ => Halt (∃ r t₀ u₀ v₀, xv = .ref r ∧ IsRange s₁.heap r 0 n 1 t₀ u₀ v₀ ∧ n < 2 ^ 60 ∧ Fr h₀ env.locals s₁.heap m₀ ∧ News h₀ env.locals s₁.heap news ∧ J 0 m₀ news ∧
      (∀ i t m₁ news₁ h tk own, i < n → news₁.map (·.1) = news.map (·.1) → OwnOff own (news.map (·.1)) → J i m₁ news₁ → Fr h₀ env.locals h (fun y => if y = x then some (.int (i : Nat) t) else m₁ y) → News h₀ env.locals h (news₁ ++ own) →
        wpAny (model prog w) A (execs body env) (InvPostN h₀ env.locals (J (i + 1)) own (news.map (·.1)) { s₁ with heap := h, toks := tk } Q) E { s₁ with heap := h, toks := tk }) ∧
      (∀ m₁ news₁ h tk, J n m₁ news₁ → Fr h₀ env.locals h m₁ → News h₀ env.locals h news₁ → wpAny (model prog w) A (execs orelse env) Q E { s₁ with heap := h, toks := tk }))) E s)
    (hs : ∀ x, foldedSetIterable iter env x = pure x := by intro _; rfl)
    (hE : PassesOwn (model prog w) A env E := by passes_own) :
    wpAny (model prog w) A (exec (.For (.Name x px) iter body orelse pos) env) Q E s := by
  refine wpAny_For (wpAny_mono h (fun xv s₁ h₁ => ?_) fun _ _ e => e) hs
  obtain ⟨⟨r, t₀, u₀, v₀, rfl, hr, hn, F, N, hj, turn, done⟩⟩ := h₁
  have hsm : Builtin.Range.small 0 (n : Int) 1 = true := by
    have : (n : Int) < 2 ^ 60 := by exact_mod_cast hn
    exact small_one (by omega) (by omega) (by omega) (by omega)
  have hsz : Builtin.Range.rangeSize 0 (n : Int) 1 = (n : Int) := by
    rw [rangeSize_nat]; omega
  refine wpAny_pyIter_range hr hsm ?_
  have W : Walks prog w A s₁.heap.objs.size [s₁.heap.objs.size] [s₁.heap.objs.size] n (fun i v => i < n ∧ ∃ t, v = .int (0 + i * 1) t)
      (fun i h => IsRangeIter h s₁.heap.objs.size (0 + (i : Nat) * 1) ((n : Int) - (i : Nat)) 1) := (Walks.range hh _ 0 1 n).bound
  have hnew : ∀ p ∈ news, p.1 ≠ s₁.heap.objs.size := fun p hp => Nat.ne_of_lt (Heap.lt_size (N p hp).1)
  let J' : Nat → (Str → Option Value) → List (Addr × Obj) → Prop := fun i m₁ news₁ => news₁.map (·.1) = news.map (·.1) ∧ J i m₁ news₁
  refine forLoop_else (R := fun r s' => match r with | .ok f => Q f s' | .error e => cameBackBy (model prog w) A env E e s') W hx hp ?_ ?_ ?_
    (by show IsRangeIter _ _ _ _ _; rw [hsz]; simpa using Heap.get?_push_size _ rfl) (F.push _) (fun p hp => ⟨Heap.get?_push_of_some _ (N p hp).1, (N p hp).2⟩) J' ⟨rfl, hj⟩ ?_ ?_
  · intro hm
    exact absurd F.ns.lt ((List.mem_singleton.mp hm) ▸ Nat.lt_irrefl _)
  · intro b hb
    rw [List.mem_singleton.mp hb]
    exact next_is_new F
  · intro p hp hI
    exact hnew p hp (List.mem_singleton.mp hI)
  · rintro i v m₁ news₁ s₂ own ⟨hh', tk', rfl⟩ hin ⟨_, t, rfl⟩ ⟨hadr, hJ⟩ hoff hown _ _ _ F₁ N₁
    have e1 : (0 + (i : Int) * 1) = ((i : Nat) : Int) := by omega
    rw [e1] at F₁
    have hsep : OwnOff own (news.map (·.1)) := by
      intro p hp b hb e
      obtain ⟨q, hq, rfl⟩ := List.mem_map.mp hb
      exact hnew q hq (e ▸ List.mem_singleton.mp (hown p hp))
    have N₂ : News h₀ env.locals hh' (news₁ ++ own) := fun p hp => N₁ p ((List.mem_append.mp hp).elim (fun h => List.mem_append.mpr (.inr h)) fun h => List.mem_append.mpr (.inl h))
    refine wpAny_mono (turn i t m₁ news₁ hh' tk' own hin hadr hsep hJ F₁ N₂) (fun f s₂ p => ?_) (fun e s' he => hE e s' he)
    have fin : InvEndN h₀ env.locals (J (i + 1)) own (news.map (·.1)) { s₁ with heap := hh', toks := tk' } s₂ → LoopStepU h₀ env.locals [s₁.heap.objs.size] own (J' (i + 1)) { s₁ with heap := hh', toks := tk' } .next s₂ := by
      rintro ⟨h', tk, m', news', nx, e, F', N', hn, ho, ha, hm⟩
      refine ⟨rfl, h', tk, m', nx, e, F', fun p hp => N' p ((List.mem_append.mp hp).elim (ho p) (hn p)), fun p hp hq => ?_, ha, hm⟩
      have h1 : p.1 ∈ nx.map (·.1) := List.mem_map.mpr ⟨p, hp, rfl⟩
      rw [ha] at h1
      obtain ⟨q, hq1, hq2⟩ := List.mem_map.mp h1
      exact hnew q hq1 (by rw [hq2]; exact List.mem_singleton.mp hq)
    cases f with
    | ret v => exact .ret p
    | brk => exact .brk p
    | next => exact .next (fin p)
    | cont => exact .cont (fin p)
  · rintro h' tk m' news' F' N' _ ⟨_, hJ⟩
    exact wpAny_passesOwn hE (done m' news' h' tk hJ F' N')
end

/-- a contract as CbClaim, with room for a call within the call -/
noncomputable abbrev Claim2 (prog : Program) (w : World) (K : Frag) (p : Program) (loose : List Str) (mean : ExcName → Option Value) (mg mb : Str → Option Value) (f : Addr) (news : List (Addr × Obj)) (vs : List Value) (R : Tok → Value) : Prop :=
  ∀ (dp un : Nat) (gd : Option (List Code)) (cn : Str) (cs : Scope) (a : Addr) (ccd : Value) (cl : List (Str × Addr)) (outer : List Env) (A₀ : Around) (base h₀ : Heap) (L : Addr) (m : Str → Option Value) (s : Shared) (Q E : Value → Shared → Prop),
    Below A₀ base outer h₀ → Fr h₀ L s.heap m → K.In h₀ → News h₀ L s.heap news → Top p loose mean mg mb h₀ → cs.kind = .function →
    dp + 2 < recursionLimit → un + 16 < cLine → CbRet h₀ L m news s Q R →
      wpAny (model prog w) (ktrTop dp un gd cn cs L a ccd cl outer) (call (.ref f) vs) Q E s
end Mine
end

section
open PySem PySem.W PyProof.Rows
namespace Mine

/-- the name that pretty_flags gives to the bit j -/
noncomputable def flagName (j : Nat) : Str :=
  match j with
  | 0 => Str.ofString "OPTIMIZED" | 1 => Str.ofString "NEWLOCALS" | 2 => Str.ofString "VARARGS" | 3 => Str.ofString "VARKEYWORDS" | 4 => Str.ofString "NESTED"
  | 5 => Str.ofString "GENERATOR" | 6 => Str.ofString "NOFREE" | 7 => Str.ofString "COROUTINE" | 8 => Str.ofString "ITERABLE_COROUTINE" | 9 => Str.ofString "ASYNC_GENERATOR"
  | j => baseText "0x" 16 (1 * 2 ^ ((j : Nat) : Int).toNat)
noncomputable def bitOf (x : Int) (j : Nat) : Bool := x / 2 ^ j % 2 == 1
noncomputable def pfNames (x : Int) (i : Nat) : List Str := ((List.range i).filter (bitOf x)).map flagName
noncomputable def pfRest (x : Int) (i : Nat) : Int := x / 2 ^ i * 2 ^ i
/-- the words of pretty_flags -/
noncomputable def pfAll (x : Int) : List Str := if 0 < x ∧ x < 2 ^ 32 then pfNames x 32 else pfNames x 32 ++ [baseText "0x" 16 (pfRest x 32)]

theorem emod2 (x : Int) : x % 2 = 0 ∨ x % 2 = 1 := by omega
theorem and_pow (n i : Nat) : n &&& 2 ^ i = n / 2 ^ i % 2 * 2 ^ i := by
  apply Nat.eq_of_testBit_eq
  intro j
  rw [Nat.testBit_and, Nat.testBit_two_pow]
  rcases Nat.mod_two_eq_zero_or_one (n / 2 ^ i) with h | h
  · rw [h, Nat.zero_mul, Nat.zero_testBit]
    by_cases hij : i = j
    · subst hij
      rw [Nat.testBit_eq_decide_div_mod_eq, h]; rfl
    · simp [hij]
  · rw [h, Nat.one_mul, Nat.testBit_two_pow]
    by_cases hij : i = j
    · subst hij
      rw [Nat.testBit_eq_decide_div_mod_eq, h]; rfl
    · simp [hij]
theorem two_pow_pos' (i : Nat) : (0 : Int) < 2 ^ i := Int.pow_pos (by decide)
theorem bitAnd_pow (x : Int) (i : Nat) : Builtin.bitAnd x (2 ^ i) = x / 2 ^ i % 2 * 2 ^ i := by
  have hp := two_pow_pos' i
  have hn : ((2 : Int) ^ i) = ((2 ^ i : Nat) : Int) := by simp
  have hT : ((2 : Int) ^ i).toNat = 2 ^ i := by rw [hn]; exact Int.toNat_natCast _
  have key : ∀ n : Nat, ((n &&& 2 ^ i : Nat) : Int) = (n : Int) / 2 ^ i % 2 * 2 ^ i := by
    intro n
    rw [and_pow]
    simp
  unfold Builtin.bitAnd
  by_cases hx : 0 ≤ x
  · simp only [hx, decide_true, Int.le_of_lt hp]
    rw [hT, key, Int.toNat_of_nonneg hx]
  · simp only [hx, decide_false, Int.le_of_lt hp, decide_true]
    rw [hT, Nat.and_comm, key]
    have hb : ((Builtin.bitNot x).toNat : Int) = -x - 1 := by
      unfold Builtin.bitNot
      omega
    rw [hb]
    have e2 : (-x - 1) / 2 ^ i = -(x / 2 ^ i) - 1 := by
      generalize hP : (2 : Int) ^ i = P at hp
      have h1 := Int.mul_ediv_add_emod x P
      have h2 := Int.emod_nonneg x (Int.ne_of_gt hp)
      have h3 := Int.emod_lt_of_pos x hp
      have : -x - 1 = P * (-(x / P) - 1) + (P - 1 - x % P) := by
        rw [Int.mul_sub, Int.mul_neg]; omega
      rw [this, Int.add_comm, Int.add_mul_ediv_left _ _ (Int.ne_of_gt hp), Int.ediv_eq_zero_of_lt (by omega) (by omega)]; omega
    rw [e2]
    generalize x / 2 ^ i = q
    have : (-q - 1) % 2 = 1 - q % 2 := by omega
    rw [this, Int.sub_mul]; omega

theorem one_mul_shl (i : Nat) : (1 * 2 ^ ((i : Nat) : Int).toNat : Int) = 2 ^ i := by simp
theorem pfRest_zero (x : Int) : pfRest x 0 = x := by simp [pfRest]
theorem pfRest_div (x : Int) (i : Nat) : pfRest x i / 2 ^ i = x / 2 ^ i := by
  unfold pfRest
  exact Int.mul_ediv_cancel _ (Int.ne_of_gt (two_pow_pos' i))
theorem div_succ (x : Int) (i : Nat) : x / 2 ^ (i + 1) = x / 2 ^ i / 2 := by
  rw [Int.pow_succ, ← Int.ediv_ediv_of_nonneg (Int.le_of_lt (two_pow_pos' i))]
theorem pfRest_bit (x : Int) (i : Nat) : Builtin.bitAnd (pfRest x i) (1 * 2 ^ ((i : Nat) : Int).toNat) = if bitOf x i then 2 ^ i else 0 := by
  rw [one_mul_shl, bitAnd_pow, pfRest_div]
  unfold bitOf
  have := emod2 (x / 2 ^ i)
  rcases this with h | h <;> rw [h] <;> simp
theorem bit_set {x : Int} {i : Nat} (h : Builtin.bitAnd (pfRest x i) (1 * 2 ^ ((i : Nat) : Int).toNat) ≠ 0) : bitOf x i = true := by
  rw [pfRest_bit] at h
  cases hb : bitOf x i with
  | true => rfl
  | false => rw [hb] at h; exact absurd rfl h
theorem bit_clear {x : Int} {i : Nat} (h : Builtin.bitAnd (pfRest x i) (1 * 2 ^ ((i : Nat) : Int).toNat) = 0) : bitOf x i = false := by
  rw [pfRest_bit] at h
  cases hb : bitOf x i with
  | false => rfl
  | true => rw [hb] at h; exact absurd h (Int.ne_of_gt (two_pow_pos' i))
theorem pfRest_clear {x : Int} {i : Nat} (h : bitOf x i = false) : pfRest x (i + 1) = pfRest x i := by
  unfold pfRest
  rw [div_succ, Int.pow_succ]
  have h0 : x / 2 ^ i % 2 = 0 := by
    have := emod2 (x / 2 ^ i)
    rcases this with h' | h'
    · exact h'
    · unfold bitOf at h; rw [h'] at h; cases h
  generalize x / 2 ^ i = q at h0
  have : q / 2 * (2 ^ i * 2) = (q / 2 * 2) * 2 ^ i := by rw [Int.mul_comm (2 ^ i) 2, ← Int.mul_assoc]
  rw [this, show q / 2 * 2 = q by omega]
theorem pfRest_set {x : Int} {i : Nat} (h : bitOf x i = true) : Builtin.bitXor (pfRest x i) (1 * 2 ^ ((i : Nat) : Int).toNat) = pfRest x (i + 1) := by
  rw [bitXor_and, pfRest_bit, if_pos h, one_mul_shl]
  unfold pfRest
  rw [div_succ, Int.pow_succ]
  have h0 : x / 2 ^ i % 2 = 1 := by unfold bitOf at h; simpa using h
  generalize x / 2 ^ i = q at h0
  have : q / 2 * (2 ^ i * 2) = (q / 2 * 2) * 2 ^ i := by rw [Int.mul_comm (2 ^ i) 2, ← Int.mul_assoc]
  rw [this, show q / 2 * 2 = q - 1 by omega, Int.sub_mul]; omega
theorem pfNames_clear {x : Int} {i : Nat} (h : bitOf x i = false) : pfNames x (i + 1) = pfNames x i := by
  simp [pfNames, List.range_succ, h]
theorem pfNames_set {x : Int} {i : Nat} (h : bitOf x i = true) : pfNames x (i + 1) = pfNames x i ++ [flagName i] := by
  simp [pfNames, List.range_succ, h]
theorem pfRest_bounds {x : Int} (h : -(2 ^ 40) < x ∧ x < 2 ^ 40) (i : Nat) (hi : i ≤ 32) : -(4611686018427387904 : Int) < pfRest x i ∧ pfRest x i < 4611686018427387904 := by
  unfold pfRest
  have hp := two_pow_pos' i
  have h1 := Int.mul_ediv_add_emod x (2 ^ i)
  have h2 := Int.emod_nonneg x (Int.ne_of_gt hp)
  have h3 := Int.emod_lt_of_pos x hp
  have h4 : (2 : Nat) ^ i ≤ 2 ^ 32 := Nat.pow_le_pow_right (by decide) hi
  have h5 : ((2 : Int) ^ i) = ((2 ^ i : Nat) : Int) := by simp
  have h6 : ((2 : Int) ^ i) ≤ 2 ^ 32 := by rw [h5]; exact_mod_cast h4
  rw [Int.mul_comm] at h1
  omega
/-- the loop is left at i: nothing lies above -/
theorem pfAll_left {x : Int} {i : Nat} (hi : i < 32) (hb : bitOf x i = true) (h0 : pfRest x (i + 1) = 0) : pfAll x = pfNames x (i + 1) := by
  have hp := two_pow_pos' (i + 1)
  have hq : x / 2 ^ (i + 1) = 0 := by
    unfold pfRest at h0
    rcases Int.mul_eq_zero.mp h0 with h | h
    · exact h
    · omega
  have hlo : 0 ≤ x := by
    have h1 := Int.mul_ediv_add_emod x (2 ^ (i + 1))
    rw [hq] at h1
    have := Int.emod_nonneg x (Int.ne_of_gt hp)
    omega
  have hhi : x < 2 ^ (i + 1) := by
    have h1 := Int.mul_ediv_add_emod x (2 ^ (i + 1))
    rw [hq] at h1
    have := Int.emod_lt_of_pos x hp
    omega
  have h5 : ∀ k : Nat, ((2 : Int) ^ k) = ((2 ^ k : Nat) : Int) := fun k => by simp
  have h32 : x < 2 ^ 32 := by
    have : (2 : Nat) ^ (i + 1) ≤ 2 ^ 32 := Nat.pow_le_pow_right (by decide) hi
    rw [h5] at hhi
    have h6 : ((2 ^ (i + 1) : Nat) : Int) ≤ ((2 ^ 32 : Nat) : Int) := by exact_mod_cast this
    have h7 : ((2 ^ 32 : Nat) : Int) = 2 ^ 32 := by simp
    omega
  have hpos : 0 < x := by
    rcases Int.lt_or_eq_of_le hlo with h | h
    · exact h
    · subst h; unfold bitOf at hb; simp at hb
  have hz : ∀ j, i + 1 ≤ j → bitOf x j = false := by
    intro j hj
    unfold bitOf
    have : x / 2 ^ j = 0 := by
      refine Int.ediv_eq_zero_of_lt hlo (Int.lt_of_lt_of_le hhi ?_)
      rw [h5, h5]
      exact_mod_cast Nat.pow_le_pow_right (by decide) hj
    rw [this]; rfl
  have up : ∀ k, pfNames x (i + 1 + k) = pfNames x (i + 1) := by
    intro k
    induction k with
    | zero => rfl
    | succ k ih => rw [show i + 1 + (k + 1) = (i + 1 + k) + 1 by omega, pfNames_clear (hz _ (by omega)), ih]
  unfold pfAll
  rw [if_pos ⟨hpos, h32⟩]
  have := up (32 - (i + 1))
  rwa [show i + 1 + (32 - (i + 1)) = 32 by omega] at this
/-- the loop comes to its end -/
theorem pfAll_end {x : Int} (h : pfRest x 32 = 0 → x = 0) : pfAll x = pfNames x 32 ++ [baseText "0x" 16 (pfRest x 32)] := by
  unfold pfAll
  refine if_neg fun ⟨h1, h2⟩ => ?_
  have : pfRest x 32 = 0 := by
    unfold pfRest
    rw [Int.ediv_eq_zero_of_lt (Int.le_of_lt h1) h2]; simp
  have := h this
  omega
end Mine
namespace Mine
theorem lookup1 {α : Type} (z a : Str) (v : α) : List.lookup z [(a, v)] = if z = a then some v else none := by
  rw [List.lookup_cons]
  by_cases h : z = a
  · subst h; simp
  · have : (z == a) = false := by simpa using h
    rw [this, if_neg h]; rfl
theorem hex_len64 {v : Int} (h : -(4611686018427387904 : Int) < v ∧ v < 4611686018427387904) : (baseText "0x" 16 v).length ≤ 67 := by
  have e : (2 : Nat) ^ 64 = 18446744073709551616 := by decide
  have h64 : v.natAbs < 16 ^ 64 := Nat.lt_of_lt_of_le (by omega) (Nat.pow_le_pow_left (by decide : 2 ≤ 16) 64)
  have h1 := toDigits_len_pow (by decide : 2 ≤ 16) (by decide : 1 ≤ 64) h64
  unfold baseText
  rw [Str.length_append, Str.length_append]
  have h2 : (Str.ofString (String.ofList (Nat.toDigits 16 v.natAbs))).length = (Nat.toDigits 16 v.natAbs).length := PySem.ofString_ofList_length _
  have h3 : (Str.ofString (if v < 0 then "-" else "")).length ≤ 1 := by
    split <;> (rw [PyProof.Rows.ofString_len]; decide)
  have h4 : (Str.ofString "0x").length = 2 := by rw [PyProof.Rows.ofString_len]; rfl
  omega
theorem pow_fits {j : Nat} (hj : j < 32) : -(4611686018427387904 : Int) < 1 * 2 ^ ((j : Nat) : Int).toNat ∧ (1 * 2 ^ ((j : Nat) : Int).toNat : Int) < 4611686018427387904 := by
  have h1 : (2 : Nat) ^ j ≤ 2 ^ 31 := Nat.pow_le_pow_right (by decide) (by omega)
  have h2 : ((2 : Int) ^ ((j : Int)).toNat) = ((2 ^ j : Nat) : Int) := by simp
  have h4 : (1 : Int) ≤ ((2 ^ j : Nat) : Int) := by exact_mod_cast Nat.one_le_two_pow
  rw [h2]
  have h3 : ((2 ^ j : Nat) : Int) ≤ 2 ^ 31 := by exact_mod_cast h1
  omega
theorem flagName_len {j : Nat} (hj : j < 32) : (flagName j).length ≤ 67 := by
  unfold flagName
  split
  all_goals first | (rw [PyProof.Rows.ofString_len]; decide) | exact hex_len64 (pow_fits hj)
theorem sum_le (c : Nat) : ∀ l : List Str, (∀ y ∈ l, y.length ≤ c) → (l.map (·.length)).sum ≤ l.length * c
  | [], _ => by simp
  | y :: l, h => by
    have := sum_le c l fun z hz => h z (.tail _ hz)
    have := h y (.head _)
    simp only [List.map_cons, List.sum_cons, List.length_cons, Nat.add_mul]
    omega
theorem pfAll_short {x : Int} (hx : -(2 ^ 40) < x ∧ x < 2 ^ 40) : (∀ y ∈ pfAll x, y.length ≤ 67) ∧ (pfAll x).length ≤ 33 := by
  have h1 : ∀ y ∈ pfNames x 32, y.length ≤ 67 := by
    intro y hy
    obtain ⟨j, hj, rfl⟩ := List.mem_map.mp hy
    have := (List.mem_filter.mp hj).1
    exact flagName_len (by simpa using this)
  have h2 : (pfNames x 32).length ≤ 32 := by
    rw [pfNames, List.length_map]; exact Nat.le_trans (List.length_filter_le _ _) (by simp)
  unfold pfAll
  split
  · exact ⟨h1, by omega⟩
  · refine ⟨fun y hy => ?_, by rw [List.length_append]; simp only [List.length_singleton]; omega⟩
    rcases List.mem_append.mp hy with hy | hy
    · exact h1 y hy
    · rw [List.mem_singleton.mp hy]; exact hex_len64 (pfRest_bounds hx 32 (Nat.le_refl _))
theorem pfAll_join_fits {x : Int} (hx : -(2 ^ 40) < x ∧ x < 2 ^ 40) {sep : Str} (hs : sep.length ≤ 64) : ((pfAll x).map (·.length)).sum + (pfAll x).length * sep.length ≤ 16777216 := by
  obtain ⟨h1, h2⟩ := pfAll_short hx
  have h3 := sum_le 67 _ h1
  have h4 : (pfAll x).length * sep.length ≤ 33 * 64 := Nat.mul_le_mul h2 hs
  have h5 : (pfAll x).length * 67 ≤ 33 * 67 := Nat.mul_le_mul_right _ h2
  omega
/-- pretty_flags' answer -/
noncomputable def pfText (x : Int) : Str := Txt.join (Str.ofString ", ") (pfAll x)
end Mine
end

section
open PySem PySem.W PyProof.Rows
namespace Mine
set_option maxRecDepth 100000
set_option maxHeartbeats 8000000
open_top hd for PySem.Challenge.rw_we0007_01
/-- the walk's mode, as a new file finds it -/
theorem walk_reset : True := by
  w_top off
  trivial
end Mine
end

section
open PySem PySem.W PyProof.Rows PySem.Calls PySem.Spec
set_option maxRecDepth 100000
set_option maxHeartbeats 8000000
namespace Mine

noncomputable def PfJ (l : Addr) (news : List (Addr × Obj)) (x : Int) (i : Nat) (m : Str → Option Value) (nx : List (Addr × Obj)) : Prop :=
  ∃ (u : Str → Option Value) (t : Tok) (vs : List Value) (k : Nat),
    m = (fun z => if z = Str.ofString "names" then some (.ref l) else if z = Str.ofString "flags" then some (.int (pfRest x i) t) else u z) ∧
    nx = (l, W.listOf vs.toArray k) :: news ∧ StrsAre vs (pfNames x i) ∧ (pfRest x i = 0 → x = 0)
/-- behind the loop -/
noncomputable def PfOut (g : Heap) (L l : Addr) (news : List (Addr × Obj)) (x : Int) (s : Shared) (f : Flow) (s' : Shared) : Prop :=
  f = .next ∧ ∃ (h : Heap) (tk : Nat) (u : Str → Option Value) (vs : List Value) (k : Nat), s' = { s with heap := h, toks := tk } ∧
    Fr g L h (fun z => if z = Str.ofString "names" then some (.ref l) else u z) ∧ News g L h ((l, W.listOf vs.toArray k) :: news) ∧ StrsAre vs (pfAll x)

theorem hexFits {v : Int} (h : -(4611686018427387904 : Int) < v ∧ v < 4611686018427387904) : (baseText "0x" 16 v).length ≤ sizeLine :=
  baseText_under (by decide +kernel) (by decide) (by omega)
theorem shl_fits {i : Nat} (hi : i < 32) : -(4611686018427387904 : Int) < 1 * 2 ^ ((i : Int)).toNat ∧ (1 * 2 ^ ((i : Int)).toNat : Int) < 4611686018427387904 := by
  have h1 : (2 : Nat) ^ i ≤ 2 ^ 31 := Nat.pow_le_pow_right (by decide) (by omega)
  have h2 : ((2 : Int) ^ ((i : Int)).toNat) = ((2 ^ i : Nat) : Int) := by simp
  have h4 : (1 : Int) ≤ ((2 ^ i : Nat) : Int) := by exact_mod_cast Nat.one_le_two_pow
  rw [h2]
  have h3 : ((2 ^ i : Nat) : Int) ≤ 2 ^ 31 := by exact_mod_cast h1
  omega
theorem names_len {x : Int} {i : Nat} {vs : List Value} (hvs : StrsAre vs (pfNames x i)) : vs.length ≤ i := by
  rw [hvs.length]
  exact Nat.le_trans (by rw [pfNames, List.length_map]; exact List.length_filter_le _ _) (by simp)
theorem strs_snoc {vs : List Value} {ys : List Str} (h : StrsAre vs ys) (y : Str) (t : Tok) : StrsAre (vs ++ [Value.str y t]) (ys ++ [y]) := by
  induction h with
  | nil => exact .cons _ _ .nil
  | cons _ _ _ ih => exact .cons _ _ ih
noncomputable abbrev pfQ {g : Heap} {L : Addr} {h : Heap} {m : Str → Option Value} (_ : Fr g L h m) (l : Addr) (news : List (Addr × Obj)) (x : Int) (s : Shared) (f : Flow) (s' : Shared) : Prop := Halt (PfOut g L l news x s f s')
/-- a turn that appends -/
theorem pf_next_set {g : Heap} {L l : Addr} {news own : List (Addr × Obj)} {x : Int} {i : Nat} {m' : Str → Option Value} {s₁ : Shared} {h' : Heap} {tk : Nat} {vs : List Value} {k : Nat} {y : Str} {t t' : Tok} {adr : List Addr}
    (F : Fr g L h' m') (N : News g L h' ((l, W.listOf (vs.toArray.push (.str y t)) k) :: (news ++ own))) (ha : adr = l :: news.map (·.1))
    (hn : m' (Str.ofString "names") = some (.ref l)) (hf : m' (Str.ofString "flags") = some (.int (Builtin.bitXor (pfRest x i) (1 * 2 ^ ((i : Nat) : Int).toNat)) t'))
    (hvs : StrsAre vs (pfNames x i)) (hb : Builtin.bitAnd (pfRest x i) (1 * 2 ^ ((i : Nat) : Int).toNat) ≠ 0) (hy : y = flagName i) (h0 : Builtin.bitXor (pfRest x i) (1 * 2 ^ ((i : Nat) : Int).toNat) ≠ 0) :
    InvEndN g L (PfJ l news x (i + 1)) own adr s₁ { s₁ with heap := h', toks := tk } := by
  subst ha hy
  have hb' := bit_set hb
  rw [pfRest_set hb'] at hf h0
  refine InvEndN.intro (nx := (l, W.listOf (vs ++ [Value.str (flagName i) t]).toArray k) :: news) F N ⟨m', t', _, k, ?_, rfl, ?_, ?_⟩ rfl ?_ ?_
  · funext z
    by_cases h1 : z = Str.ofString "names"
    · rw [if_pos h1, h1, hn]
    · rw [if_neg h1]
      by_cases h2 : z = Str.ofString "flags"
      · rw [if_pos h2, h2, hf]
      · rw [if_neg h2]
  · rw [pfNames_set hb']; exact strs_snoc hvs _ _
  · intro h; exact absurd h h0
  · intro p hp
    rcases List.mem_cons.mp hp with rfl | hp
    · rw [← List.push_toArray]; exact .head _
    · exact .tail _ (List.mem_append_left _ hp)
  · intro p hp; exact .tail _ (List.mem_append_right _ hp)
/-- a turn that leaves the loop -/
theorem pf_left {g : Heap} {L l : Addr} {news own : List (Addr × Obj)} {x : Int} {i : Nat} {m' : Str → Option Value} {s₁ : Shared} {h' : Heap} {tk : Nat} {vs : List Value} {k : Nat} {y : Str} {t : Tok}
    (hi : i < 32) (F : Fr g L h' m') (N : News g L h' ((l, W.listOf (vs.toArray.push (.str y t)) k) :: (news ++ own)))
    (hn : m' (Str.ofString "names") = some (.ref l))
    (hvs : StrsAre vs (pfNames x i)) (hb : Builtin.bitAnd (pfRest x i) (1 * 2 ^ ((i : Nat) : Int).toNat) ≠ 0) (hy : y = flagName i) (h0 : Builtin.bitXor (pfRest x i) (1 * 2 ^ ((i : Nat) : Int).toNat) = 0) :
    Halt (PfOut g L l news x s₁ .next { s₁ with heap := h', toks := tk }) := by
  subst hy
  have hb' := bit_set hb
  rw [pfRest_set hb'] at h0
  refine ⟨rfl, h', tk, m', vs ++ [Value.str (flagName i) t], k, rfl, ?_, ?_, ?_⟩
  · have e : (fun z => if z = Str.ofString "names" then some (Value.ref l) else m' z) = m' := by
      funext z
      by_cases h1 : z = Str.ofString "names"
      · rw [if_pos h1, h1, hn]
      · rw [if_neg h1]
    rw [e]; exact F
  · intro p hp
    refine N p ?_
    rcases List.mem_cons.mp hp with rfl | hp
    · rw [← List.push_toArray]; exact .head _
    · exact .tail _ (List.mem_append_left _ hp)
  · rw [pfAll_left hi hb' h0, pfNames_set hb']; exact strs_snoc hvs _ _
/-- a turn that appends nothing -/
theorem pf_next_clear {g : Heap} {L l : Addr} {news own : List (Addr × Obj)} {x : Int} {i : Nat} {m' : Str → Option Value} {s₁ : Shared} {h' : Heap} {tk : Nat} {vs : List Value} {k : Nat} {t' : Tok} {adr : List Addr}
    (F : Fr g L h' m') (N : News g L h' ((l, W.listOf vs.toArray k) :: (news ++ own))) (ha : adr = l :: news.map (·.1))
    (hn : m' (Str.ofString "names") = some (.ref l)) (hf : m' (Str.ofString "flags") = some (.int (pfRest x i) t'))
    (hvs : StrsAre vs (pfNames x i)) (hb : Builtin.bitAnd (pfRest x i) (1 * 2 ^ ((i : Nat) : Int).toNat) = 0) (h0 : pfRest x i = 0 → x = 0) :
    InvEndN g L (PfJ l news x (i + 1)) own adr s₁ { s₁ with heap := h', toks := tk } := by
  subst ha
  have hb' := bit_clear hb
  refine InvEndN.intro (nx := (l, W.listOf vs.toArray k) :: news) F N ⟨m', t', _, k, ?_, rfl, ?_, ?_⟩ rfl ?_ ?_
  · funext z
    by_cases h1 : z = Str.ofString "names"
    · rw [if_pos h1, h1, hn]
    · rw [if_neg h1]
      by_cases h2 : z = Str.ofString "flags"
      · rw [if_pos h2, h2, hf, pfRest_clear hb']
      · rw [if_neg h2]
  · rw [pfNames_clear hb']; exact hvs
  · rw [pfRest_clear hb']; exact h0
  · intro p hp
    rcases List.mem_cons.mp hp with rfl | hp
    · exact .head _
    · exact .tail _ (List.mem_append_left _ hp)
  · intro p hp; exact .tail _ (List.mem_append_right _ hp)
theorem fn_small {i : Nat} (hi : i < 32) {c : Int} {y : Str} (h : (1 * 2 ^ ((i : Nat) : Int).toNat : Int) = c) (hy : (List.range 32).all (fun j => !((2 ^ j : Int) == c) || y == flagName j) = true) : y = flagName i := by
  rw [one_mul_shl] at h
  have := List.all_eq_true.mp hy i (by simpa using hi)
  rw [h] at this
  simpa using this
theorem fn_large {i : Nat} (h0 : ¬ (1 * 2 ^ ((i : Nat) : Int).toNat : Int) = 1) (h1 : ¬ (1 * 2 ^ ((i : Nat) : Int).toNat : Int) = 2) (h2 : ¬ (1 * 2 ^ ((i : Nat) : Int).toNat : Int) = 4) (h3 : ¬ (1 * 2 ^ ((i : Nat) : Int).toNat : Int) = 8)
    (h4 : ¬ (1 * 2 ^ ((i : Nat) : Int).toNat : Int) = 16) (h5 : ¬ (1 * 2 ^ ((i : Nat) : Int).toNat : Int) = 32) (h6 : ¬ (1 * 2 ^ ((i : Nat) : Int).toNat : Int) = 64) (h7 : ¬ (1 * 2 ^ ((i : Nat) : Int).toNat : Int) = 128)
    (h8 : ¬ (1 * 2 ^ ((i : Nat) : Int).toNat : Int) = 256) (h9 : ¬ (1 * 2 ^ ((i : Nat) : Int).toNat : Int) = 512) : baseText "0x" 16 (1 * 2 ^ ((i : Nat) : Int).toNat) = flagName i := by
  unfold flagName
  split
  · exact absurd rfl h0
  · exact absurd rfl h1
  · exact absurd rfl h2
  · exact absurd rfl h3
  · exact absurd rfl h4
  · exact absurd rfl h5
  · exact absurd rfl h6
  · exact absurd rfl h7
  · exact absurd rfl h8
  · exact absurd rfl h9
  · rfl

theorem pf_done {g : Heap} {L l : Addr} {news : List (Addr × Obj)} {x : Int} {m' : Str → Option Value} {s₁ : Shared} {h' : Heap} {tk : Nat} {vs : List Value} {k : Nat} {t : Tok}
    (F : Fr g L h' m') (N : News g L h' ((l, W.listOf (vs.toArray.push (.str (baseText "0x" 16 (pfRest x 32)) t)) k) :: news))
    (hn : m' (Str.ofString "names") = some (.ref l)) (hvs : StrsAre vs (pfNames x 32)) (h0 : pfRest x 32 = 0 → x = 0) :
    Halt (PfOut g L l news x s₁ .next { s₁ with heap := h', toks := tk }) := by
  refine ⟨rfl, h', tk, m', vs ++ [.str (baseText "0x" 16 (pfRest x 32)) t], k, rfl, ?_, ?_, ?_⟩
  · have e : (fun z => if z = Str.ofString "names" then some (Value.ref l) else m' z) = m' := by
      funext z
      by_cases h1 : z = Str.ofString "names"
      · rw [if_pos h1, h1, hn]
      · rw [if_neg h1]
    rw [e]; exact F
  · rw [← List.push_toArray]; exact N
  · rw [pfAll_end h0]; exact strs_snoc hvs _ _
set_option hygiene false in
local macro_rules | `(tactic| walk_at "call builtin:hex") => `(tactic| (with_reducible refine P.hex_of_int ?_ (hexFits (by assumption))))
set_option hygiene false in
local macro_rules | `(tactic| walk_at "call builtin:list.append") => `(tactic| (k_here; (with_reducible show wpAny _ _ (call (Value.builtin _) [Value.ref _, _]) _ _ _); k_dflt (refine' append_K ?k1 ?k2 ?k3 ?_ ?z; (case k1 => k_asm); (case k2 => k_asm); (case k3 => exact Upd.head (by assumption)); (case z => (simp only [List.size_toArray, sizeLine_eq]; omega)); k_whole); intro h' F' N'; (try k_sweep)))
set_option hygiene false in
local macro_rules | `(tactic| walk_at "call builtin:dict.get") => `(tactic| ((with_reducible show wpAny _ _ (call _ (_ ++ _)) _ _ _); dsimp only [List.cons_append, List.nil_append]))
set_option hygiene false in
local macro_rules | `(tactic| walk_at "call builtin:list.append") => `(tactic| ((with_reducible show wpAny _ _ (call _ (_ ++ _)) _ _ _); dsimp only [List.cons_append, List.nil_append]))
theorem pf_claim (w : World) (mean : ExcName → Option Value) (mg mb : Str → Option Value) (news : List (Addr × Obj)) (x : Int) (tkx : Tok) (hx : -(2 ^ 40) < x ∧ x < 2 ^ 40) :
    CbClaim PySem.Challenge.rw_we0007_01.row.prog w (hd.heap_39 w.params) hd.view_39 LO mean mg mb 39 news [] True [.int x tkx] (fun t => .str (pfText x) t) := by
  k_fill
  dsimp only [CbClaim, CbLists, CbRet]
  intro dp un gd cn cs a ccd cl outer A₀ base h₀ L m s Q E B F X N T hk _ hdp hun hret
  refine wpAny_call ?_
  k_dflt cell_enter
  k_steps
  rename Fr _ _ _ _ => F1
  rename News _ _ _ _ => N1
  rename_i l1 _ hl1 _
  refine wpAny_mono (Q := pfQ F1 l1 news x s) ?_ ?_ (fun _ _ e => e)
  · refine' For_range_else F1 N1 32 (PfJ l1 news x) rfl rfl rfl ?_ (by intro _; rfl) (by passes_own)
    try k_fold
    k_steps
    refine ⟨_, _, _, _, rfl, by assumption, by decide, by assumption, by assumption, ?_, ?_, ?_⟩
    · refine ⟨fun _ => none, tkx, [], 0, ?_, rfl, .nil, ?_⟩
      · funext z
        rw [pfRest_zero, ← lookup1]
        rfl
      · rw [pfRest_zero]; exact id
    · rintro i t m₁ nx h tk own hi hadr hoff ⟨u, t', vs, k, rfl, rfl, hvs, h0⟩ F1 N1
      dsimp only at F1
      simp only [List.cons_append] at N1
      have hfit := shl_fits hi
      have hlen : vs.length ≤ 32 := Nat.le_trans (names_len hvs) (Nat.le_of_lt hi)
      have hap : ∀ p ∈ news ++ own, p.1 ≠ l1 := by
        intro p hp
        rcases List.mem_append.mp hp with hp | hp
        · exact Nat.ne_of_lt (hl1 p hp)
        · exact hoff p hp _ (List.mem_cons_self ..)
      try k_fold
      k_steps
      all_goals first
        | exact pf_next_clear (by assumption) (by assumption) rfl rfl rfl (by assumption) (by assumption) (by assumption)
        | exact pf_next_set (by assumption) (by assumption) rfl rfl rfl (by assumption) (by assumption) (fn_small hi (by assumption) (by decide +kernel)) (by assumption)
        | exact pf_left hi (by assumption) (by assumption) rfl (by assumption) (by assumption) (fn_small hi (by assumption) (by decide +kernel)) (by assumption)
        | exact pf_next_set (by assumption) (by assumption) rfl rfl rfl (by assumption) (by assumption) (fn_large (by assumption) (by assumption) (by assumption) (by assumption) (by assumption) (by assumption) (by assumption) (by assumption) (by assumption) (by assumption)) (by assumption)
        | exact pf_left hi (by assumption) (by assumption) rfl (by assumption) (by assumption) (fn_large (by assumption) (by assumption) (by assumption) (by assumption) (by assumption) (by assumption) (by assumption) (by assumption) (by assumption) (by assumption)) (by assumption)
    · rintro m₁ nx h tk ⟨u, t', vs, k, rfl, rfl, hvs, h0⟩ F1 N1
      have hfit := pfRest_bounds hx 32 (Nat.le_refl _)
      have hlen : vs.length ≤ 32 := names_len hvs
      have hap : ∀ p ∈ news, p.1 ≠ l1 := fun p hp => Nat.ne_of_lt (hl1 p hp)
      try k_fold
      k_steps
      exact pf_done (by assumption) (by assumption) rfl hvs h0
  · rintro f s' ⟨rfl, h, tk, u, vs, k, rfl, F1, N1, hvs⟩
    try k_fold
    k_steps
    refine join_list (ys := pfAll x) ⟨_, (N1 _ (.head _)).1, rfl, _, rfl⟩ hvs (pfAll_join_fits hx (by decide +kernel)) ?_
    intro t' k'
    try dsimp only
    k_steps
    rename Fr _ _ _ _ => F9
    rename News _ _ _ _ => N9
    exact hret _ _ _ F9 (fun p hp => N9 p (.tail _ hp))
end Mine
end

section
open PySem PySem.Sre
set_option maxRecDepth 10000
namespace Mine.Re
noncomputable abbrev cL : Array Nat := #[14,9,4,1,2,16,10,16,13,0, 7,7,16,13,16,10,15,18, 5,16,10,15,13, 11,16,13,5,5,0,16,10,1,15,2, 0, 1]
noncomputable abbrev cD : Array Nat := #[14,4,0,1,1,6,1,16,46,1]

theorem runFor_step {n : Nat} {m : M} (h : m.outcome = none) : M.runFor (n + 1) m = M.runFor n m.step := by
  show (if m.outcome.isSome = true then m else M.runFor n m.step) = _
  rw [h]; rfl
theorem runFor_done {n : Nat} {m : M} (h : m.outcome.isSome = true) : M.runFor n m = m := by
  cases n with
  | zero => rfl
  | succ n => show (if m.outcome.isSome = true then m else M.runFor n m.step) = _; rw [if_pos h]
theorem runFor_add (a b : Nat) (m : M) : M.runFor (a + b) m = M.runFor b (M.runFor a m) := by
  induction a generalizing m with
  | zero => rw [Nat.zero_add]; rfl
  | succ a ih =>
    by_cases h : m.outcome.isSome = true
    · rw [runFor_done h, runFor_done h, runFor_done h]
    · have h' : m.outcome = none := by simpa using h
      rw [show a + 1 + b = (a + b) + 1 by omega, runFor_step h', runFor_step h', ih]

/-- the machine comes to o, within N steps; o: where the match begins and ends -/
noncomputable def Ends (N : Nat) (m : M) (o : Option (Nat × Nat)) : Prop :=
  ∃ n m', n ≤ N ∧ M.runFor n m = m' ∧ match o with
    | some (b, e) => m'.outcome = some .matched ∧ m'.start = b ∧ m'.handed = e
    | none => m'.outcome = some .failed
theorem Ends.after {N : Nat} {m : M} {o : Option (Nat × Nat)} (k : Nat) {m₁ : M} (h : M.runFor k m = m₁) (e : Ends N m₁ o) : Ends (k + N) m o := by
  obtain ⟨n, m', hn, hr, ho⟩ := e
  exact ⟨k + n, m', by omega, by rw [runFor_add, h, hr], ho⟩
theorem Ends.mono {N N' : Nat} {m : M} {o : Option (Nat × Nat)} (e : Ends N m o) (h : N ≤ N') : Ends N' m o := by
  obtain ⟨n, m', hn, r⟩ := e
  exact ⟨n, m', by omega, r⟩
theorem one {m m₁ : M} (hO : m.outcome = none) (h : m.step = m₁) : M.runFor 1 m = m₁ := by
  rw [runFor_step hO, h]; rfl
theorem Ends.step {N : Nat} {m m₁ : M} {o : Option (Nat × Nat)} (hO : m.outcome = none) (h : m.step = m₁) (e : Ends N m₁ o) : Ends (N + 1) m o := by
  rw [Nat.add_comm]
  exact e.after 1 (one hO h)

section dots
/-- the machine of the dots' pattern -/
noncomputable def dS (text : Array Nat) (lim s : Nat) (out : Bool) (hd pc pos : Nat) (fr : List Sre.Frame) (wt : Nat) (ans : Option Bool) (seen : Seen) : M :=
  { code := cD, text, lim, start := s, lastStart := lim, pc, pos, handed := hd, outermost := out, marks := #[], frames := fr, weight := wt, answer := ans, seen := seen }
noncomputable abbrev dF (s : Nat) (out : Bool) : Sre.Frame := { wait := .nextStart, pc := 5, pos := s, outermost := out }
variable (text : Array Nat) (lim s : Nat) (out : Bool) (hd : Nat) (seen : Seen)
noncomputable def atLine : Bool := s == 0 || text.getD (s - 1) 0 == 10
theorem d_at : (dS text lim s out hd 5 s [dF s out] 1 none seen).step = if atLine text s then dS text lim s out hd 7 s [dF s out] 1 none ((seen.add 6).add 44) else dS text lim s out hd 5 s [dF s out] 1 (some false) ((seen.add 6).add 44) := rfl
theorem d_lit : (dS text lim s out hd 7 s [dF s out] 1 none seen).step = if s ≥ lim then dS text lim s out hd 7 s [dF s out] 1 (some false) (seen.add 16) else
    if (text.getD s 0 == 46) = true then dS text lim s out hd 9 (s + 1) [dF s out] 1 none (seen.add 16) else dS text lim s out hd 7 s [dF s out] 1 (some false) (seen.add 16) := by
  show (if s ≥ lim then _ else _) = _
  by_cases h : s ≥ lim
  · rw [if_pos h, if_pos h]; rfl
  · rw [if_neg h, if_neg h]
    cases hb : (text.getD s 0 == 46) with
    | true =>
      show (match (Except.ok (text.getD s 0 == 46, _) : Except String (Bool × Seen)) with | .error _ => _ | .ok (false, _) => _ | .ok (true, _) => _) = _
      rw [hb]; rfl
    | false =>
      show (match (Except.ok (text.getD s 0 == 46, _) : Except String (Bool × Seen)) with | .error _ => _ | .ok (false, _) => _ | .ok (true, _) => _) = _
      rw [hb]; rfl
theorem d_ok : (dS text lim s out hd 9 (s + 1) [dF s out] 1 none seen).step = dS text lim s out (s + 1) 9 (s + 1) [dF s out] 1 (some true) (seen.add 1) := by
  cases out <;> rfl
theorem d_yes (pc pos : Nat) : (dS text lim s out hd pc pos [dF s out] 1 (some true) seen).step = dS text lim s out hd 5 s [] 0 (some true) seen := rfl
theorem d_end (pc pos : Nat) (b : Bool) : (dS text lim s out hd pc pos [] 0 (some b) seen).step = { dS text lim s out hd pc pos [] 0 (some b) seen with outcome := some (if b then .matched else .failed) } := rfl
theorem d_no (pc pos : Nat) : (dS text lim s out hd pc pos [dF s out] 1 (some false) seen).step = if s < lim then dS text lim (s + 1) false (s + 1) 5 (s + 1) [dF (s + 1) false] 1 none seen else dS text lim s out hd 5 s [] 0 (some false) seen := rfl

noncomputable def hit : Bool := atLine text s && text.getD s 0 == 46
theorem d_hit (hl : s < lim) (h : hit text s = true) : Ends 5 (dS text lim s out hd 5 s [dF s out] 1 none seen) (some (s, s + 1)) := by
  obtain ⟨h1, h2⟩ := Bool.and_eq_true_iff.mp h
  refine .step rfl ((d_at ..).trans (if_pos h1)) ?_
  refine .step rfl ((d_lit ..).trans ((if_neg (by omega)).trans (if_pos h2))) ?_
  refine .step rfl (d_ok ..) (.step rfl (d_yes ..) (.step (N := 0) rfl (d_end ..) ⟨0, _, Nat.le_refl _, rfl, rfl, rfl, rfl⟩))
/-- the place s fails -/
theorem d_miss (h : ¬ (s < lim ∧ hit text s = true)) : ∃ k pc pos seen', k ≤ 2 ∧ M.runFor k (dS text lim s out hd 5 s [dF s out] 1 none seen) = dS text lim s out hd pc pos [dF s out] 1 (some false) seen' := by
  cases h1 : atLine text s with
  | false => exact ⟨1, _, _, _, by decide, one rfl ((d_at ..).trans (if_neg (by rw [h1]; exact Bool.false_ne_true)))⟩
  | true =>
    have e1 := one rfl ((d_at text lim s out hd seen).trans (if_pos h1))
    by_cases hl : s ≥ lim
    · exact ⟨1 + 1, _, _, _, by decide, by rw [runFor_add, e1]; exact one rfl ((d_lit ..).trans (if_pos hl))⟩
    · have h2 : ¬ (text.getD s 0 == 46) = true := fun h2 => h ⟨by omega, by unfold hit; rw [h1, h2]; rfl⟩
      exact ⟨1 + 1, _, _, _, by decide, by rw [runFor_add, e1]; exact one rfl ((d_lit ..).trans ((if_neg hl).trans (if_neg h2)))⟩
theorem d_find : ∀ (k s : Nat) (out : Bool) (hd : Nat) (seen : Seen) (t : Nat), t = s + k → t < lim → hit text t = true → (∀ j, s ≤ j → j < t → hit text j = false) →
    Ends (3 * k + 5) (dS text lim s out hd 5 s [dF s out] 1 none seen) (some (t, t + 1))
  | 0, s, out, hd, seen, t, ht, hl, hh, _ => by
    have : t = s := by omega
    subst this
    exact d_hit _ _ _ _ _ _ hl hh
  | k + 1, s, out, hd, seen, t, ht, hl, hh, hn => by
    obtain ⟨j, pc, pos, seen', hj, hr⟩ := d_miss text lim s out hd seen fun hx => by rw [hn s (Nat.le_refl _) (by omega)] at hx; exact Bool.false_ne_true hx.2
    have ih := d_find k (s + 1) false (s + 1) seen' t (by omega) hl hh fun j h1 h2 => hn j (by omega) h2
    exact Ends.mono (Ends.after j hr (.step rfl ((d_no ..).trans (if_pos (by omega))) ih)) (by omega)
theorem d_none : ∀ (k s : Nat) (out : Bool) (hd : Nat) (seen : Seen), lim = s + k → (∀ j, s ≤ j → j < lim → hit text j = false) →
    Ends (3 * k + 5) (dS text lim s out hd 5 s [dF s out] 1 none seen) none
  | 0, s, out, hd, seen, ht, hn => by
    obtain ⟨j, pc, pos, seen', hj, hr⟩ := d_miss text lim s out hd seen fun hx => by omega
    exact Ends.mono (Ends.after j hr (.step rfl ((d_no ..).trans (if_neg (by omega))) (.step (N := 0) rfl (d_end ..) ⟨0, _, Nat.le_refl _, rfl, rfl⟩))) (by omega)
  | k + 1, s, out, hd, seen, ht, hn => by
    obtain ⟨j, pc, pos, seen', hj, hr⟩ := d_miss text lim s out hd seen fun hx => by rw [hn s (Nat.le_refl _) (by omega)] at hx; exact Bool.false_ne_true hx.2
    have ih := d_none k (s + 1) false (s + 1) seen' (by omega) fun j h1 h2 => hn j (by omega) h2
    exact Ends.mono (Ends.after j hr (.step rfl ((d_no ..).trans (if_pos (by omega))) ih)) (by omega)
theorem d_search (hs : s < lim) : forSearch cD text 0 s lim false = dS text lim s true s 5 s [dF s true] 1 none (({} : Seen).add 14) := by
  show (if (decide (s > lim) || decide (lim - s < 1)) = true then _ else _) = _
  rw [if_neg (by simp; omega)]
  rfl
theorem d_search_end (hs : lim ≤ s) : Ends 1 (forSearch cD text 0 s lim false) none := by
  have e : forSearch cD text 0 s lim false = { dS text lim s true s 5 s [] 0 (some false) (({} : Seen).add 14) with lastStart := 0 } := by
    show (if (decide (s > lim) || decide (lim - s < 1)) = true then _ else _) = _
    rw [if_pos (by simp; omega)]
    rfl
  rw [e]
  exact .step (N := 0) rfl rfl ⟨0, _, Nat.le_refl _, rfl, rfl⟩
end dots

section ends
/-- the machine of the line ends' pattern -/
noncomputable def lS (text : Array Nat) (lim s : Nat) (out : Bool) (hd pc pos : Nat) (fr : List Sre.Frame) (wt : Nat) (ans : Option Bool) (seen : Seen) : M :=
  { code := cL, text, lim, start := s, lastStart := lim, pc, pos, handed := hd, outermost := out, marks := #[], frames := fr, weight := wt, answer := ans, seen := seen }
noncomputable abbrev lF (s : Nat) (out : Bool) : Sre.Frame := { wait := .nextStart, pc := 10, pos := s, outermost := out }
/-- the branch's frame; alt: the alternative that is tried -/
noncomputable abbrev lB (s : Nat) (out : Bool) (alt : Nat) : Sre.Frame := { wait := .nextBranch, pc := alt, pos := s, outermost := out }
noncomputable abbrev lN (s : Nat) (out : Bool) : Sre.Frame := { wait := .lookNot, pc := 26, pos := s + 1, outermost := out }
variable (text : Array Nat) (lim s : Nat) (out : Bool) (hd : Nat) (seen : Seen)
theorem l_branch : (lS text lim s out hd 10 s [lF s out] 1 none seen).step = lS text lim s out s 12 s [lB s out 11, lF s out] 2 none (seen.add 7) := rfl
theorem l_next (pc pos : Nat) : (lS text lim s out hd pc pos [lB s out 11, lF s out] 2 (some false) seen).step = lS text lim s out s 19 s [lB s out 18, lF s out] 2 none seen := rfl
theorem l_next2 (pc pos : Nat) : (lS text lim s out hd pc pos [lB s out 18, lF s out] 2 (some false) seen).step = lS text lim s out s 24 s [lB s out 23, lF s out] 2 none seen := rfl
/-- one sign read, at one of five places in the code -/
theorem l_lit {pc c : Nat} (hpc : (pc = 12 ∧ c = 13) ∨ (pc = 14 ∧ c = 10) ∨ (pc = 19 ∧ c = 10) ∨ (pc = 24 ∧ c = 13) ∨ (pc = 29 ∧ c = 10)) (pos : Nat) (fr : List Sre.Frame) (wt : Nat) :
    (lS text lim s out hd pc pos fr wt none seen).step = if pos ≥ lim then lS text lim s out hd pc pos fr wt (some false) (seen.add 16) else
    if (text.getD pos 0 == c) = true then lS text lim s out hd (pc + 2) (pos + 1) fr wt none (seen.add 16) else lS text lim s out hd pc pos fr wt (some false) (seen.add 16) := by
  rcases hpc with ⟨rfl, rfl⟩ | ⟨rfl, rfl⟩ | ⟨rfl, rfl⟩ | ⟨rfl, rfl⟩ | ⟨rfl, rfl⟩
  all_goals
    show (if pos ≥ lim then _ else _) = _
    by_cases h : pos ≥ lim
    · rw [if_pos h, if_pos h]; rfl
    · rw [if_neg h, if_neg h]
      first
      | (show (match (Except.ok (text.getD pos 0 == 13, _) : Except String (Bool × Seen)) with | .error _ => _ | .ok (false, _) => _ | .ok (true, _) => _) = if (text.getD pos 0 == 13) = true then _ else _
         cases hb : (text.getD pos 0 == 13) <;> rfl)
      | (show (match (Except.ok (text.getD pos 0 == 10, _) : Except String (Bool × Seen)) with | .error _ => _ | .ok (false, _) => _ | .ok (true, _) => _) = if (text.getD pos 0 == 10) = true then _ else _
         cases hb : (text.getD pos 0 == 10) <;> rfl)
theorem l_jump {pc : Nat} (hpc : pc = 16 ∨ pc = 21 ∨ pc = 32) (pos : Nat) (fr : List Sre.Frame) (wt : Nat) : (lS text lim s out hd pc pos fr wt none seen).step = lS text lim s out hd 35 pos fr wt none (seen.add 15) := by
  rcases hpc with rfl | rfl | rfl <;> rfl
theorem l_ok (pos : Nat) (fr : List Sre.Frame) (wt : Nat) : (lS text lim s out hd 35 pos fr wt none seen).step = lS text lim s out pos 35 pos fr wt (some true) (seen.add 1) := by
  cases out <;> rfl
theorem l_yes (pc pos alt : Nat) : (lS text lim s out hd pc pos [lB s out alt, lF s out] 2 (some true) seen).step = lS text lim s out hd alt s [lF s out] 1 (some true) seen := rfl
theorem l_yes2 (pc pos : Nat) : (lS text lim s out hd pc pos [lF s out] 1 (some true) seen).step = lS text lim s out hd 10 s [] 0 (some true) seen := rfl
theorem l_end (pc pos : Nat) (b : Bool) : (lS text lim s out hd pc pos [] 0 (some b) seen).step = { lS text lim s out hd pc pos [] 0 (some b) seen with outcome := some (if b then .matched else .failed) } := rfl
theorem l_look : (lS text lim s out hd 26 (s + 1) [lB s out 23, lF s out] 2 none seen).step = lS text lim s false (s + 1) 29 (s + 1) [lN s out, lB s out 23, lF s out] 3 none (seen.add 5) := rfl
theorem l_lookNo (pc pos : Nat) (o : Bool) : (lS text lim s o hd pc pos [lN s out, lB s out 23, lF s out] 3 (some false) seen).step = lS text lim s out hd 32 (s + 1) [lB s out 23, lF s out] 2 none seen := rfl

/-- the match is made, at e -/
theorem l_close (alt e : Nat) : Ends 4 (lS text lim s out hd 35 e [lB s out alt, lF s out] 2 none seen) (some (s, e)) :=
  .step rfl (l_ok ..) (.step rfl (l_yes ..) (.step rfl (l_yes2 ..) (.step (N := 0) rfl (l_end ..) ⟨0, _, Nat.le_refl _, rfl, rfl, rfl, rfl⟩)))
theorem l_two (h1 : text.getD s 0 = 13) (hl : s + 1 < lim) (h2 : text.getD (s + 1) 0 = 10) : Ends 20 (lS text lim s out hd 10 s [lF s out] 1 none seen) (some (s, s + 2)) := by
  refine Ends.mono (N := 8) ?_ (by decide)
  refine .step rfl (l_branch ..) ?_
  refine .step rfl ((l_lit _ _ _ _ _ _ (.inl ⟨rfl, rfl⟩) ..).trans ((if_neg (by omega)).trans (if_pos (by rw [h1]; rfl)))) ?_
  refine .step rfl ((l_lit _ _ _ _ _ _ (.inr (.inl ⟨rfl, rfl⟩)) ..).trans ((if_neg (by omega)).trans (if_pos (by rw [h2]; rfl)))) ?_
  exact .step rfl (l_jump _ _ _ _ _ _ (.inl rfl) ..) (l_close ..)
theorem l_feed (hl : s < lim) (h1 : text.getD s 0 = 10) : Ends 20 (lS text lim s out hd 10 s [lF s out] 1 none seen) (some (s, s + 1)) := by
  refine Ends.mono (N := 9) ?_ (by decide)
  refine .step rfl (l_branch ..) ?_
  refine .step rfl ((l_lit _ _ _ _ _ _ (.inl ⟨rfl, rfl⟩) ..).trans ((if_neg (by omega)).trans (if_neg (by rw [h1]; decide)))) ?_
  refine .step rfl (l_next ..) ?_
  refine .step rfl ((l_lit _ _ _ _ _ _ (.inr (.inr (.inl ⟨rfl, rfl⟩))) ..).trans ((if_neg (by omega)).trans (if_pos (by rw [h1]; rfl)))) ?_
  exact .step rfl (l_jump _ _ _ _ _ _ (.inr (.inl rfl)) ..) (l_close ..)
theorem l_return (hl : s < lim) (h1 : text.getD s 0 = 13) (h2 : ¬ (s + 1 < lim ∧ text.getD (s + 1) 0 = 10)) : Ends 20 (lS text lim s out hd 10 s [lF s out] 1 none seen) (some (s, s + 1)) := by
  refine Ends.mono (N := 15) ?_ (by decide)
  refine .step rfl (l_branch ..) ?_
  refine .step rfl ((l_lit _ _ _ _ _ _ (.inl ⟨rfl, rfl⟩) ..).trans ((if_neg (by omega)).trans (if_pos (by rw [h1]; rfl)))) ?_
  have miss : ∀ (pc pos' : Nat) (fr : List Sre.Frame) (wt : Nat) (o : Bool) (sn : Seen) (hd : Nat), (pc = 14 ∧ (10 : Nat) = 10) ∨ (pc = 29 ∧ (10 : Nat) = 10) → (lS text lim s o hd pc (s + 1) fr wt none sn).step = lS text lim s o hd pc (s + 1) fr wt (some false) (sn.add 16) := by
    intro pc _ fr wt o sn hd hpc
    have hpc' : (pc = 12 ∧ (10 : Nat) = 13) ∨ (pc = 14 ∧ (10 : Nat) = 10) ∨ (pc = 19 ∧ (10 : Nat) = 10) ∨ (pc = 24 ∧ (10 : Nat) = 13) ∨ (pc = 29 ∧ (10 : Nat) = 10) := by
      rcases hpc with h | h
      · exact .inr (.inl h)
      · exact .inr (.inr (.inr (.inr h)))
    refine (l_lit _ _ _ _ _ _ hpc' ..).trans ?_
    by_cases hl2 : s + 1 ≥ lim
    · exact if_pos hl2
    · exact (if_neg hl2).trans (if_neg (fun h => h2 ⟨by omega, by simpa using h⟩))
  refine .step rfl (miss 14 0 _ _ _ _ _ (.inl ⟨rfl, rfl⟩)) ?_
  refine .step rfl (l_next ..) ?_
  refine .step rfl ((l_lit _ _ _ _ _ _ (.inr (.inr (.inl ⟨rfl, rfl⟩))) ..).trans ((if_neg (by omega)).trans (if_neg (by rw [h1]; decide)))) ?_
  refine .step rfl (l_next2 ..) ?_
  refine .step rfl ((l_lit _ _ _ _ _ _ (.inr (.inr (.inr (.inl ⟨rfl, rfl⟩)))) ..).trans ((if_neg (by omega)).trans (if_pos (by rw [h1]; rfl)))) ?_
  refine .step rfl (l_look ..) ?_
  refine .step rfl (miss 29 0 _ _ _ _ _ (.inr ⟨rfl, rfl⟩)) ?_
  refine .step rfl (l_lookNo ..) ?_
  exact .step rfl (l_jump _ _ _ _ _ _ (.inr (.inr rfl)) ..) (l_close ..)

noncomputable def isEnd (c : Nat) : Bool := c == 10 || c == 13
theorem l_inSet (c : Nat) (seen : Seen) : ∃ seen', inSet cL c cL.size 5 true seen = .ok (isEnd c, seen') := by
  have e : inSet cL c cL.size 5 true seen = if (c == 10) = true then .ok (true, seen.add 16) else if (c == 13) = true then .ok (true, (seen.add 16).add 16) else .ok (false, ((seen.add 16).add 16).add 0) := rfl
  rw [e]
  unfold isEnd
  cases h1 : c == 10
  · cases h2 : c == 13
    · exact ⟨_, rfl⟩
    · exact ⟨_, rfl⟩
  · exact ⟨_, rfl⟩
theorem l_adm (m : M) (hc : m.code = cL) : ∀ (k fuel s : Nat) (seen : Seen) (t : Nat), t = s + k → t < m.lim → k < fuel → isEnd (m.text.getD t 0) = true → (∀ j, s ≤ j → j < t → isEnd (m.text.getD j 0) = false) →
    ∃ seen', M.admitted m fuel s seen = .ok (some t, seen')
  | 0, fuel + 1, s, seen, t, ht, hl, _, hh, _ => by
    have : t = s := by omega
    subst this
    obtain ⟨seen', e⟩ := l_inSet (m.text.getD t 0) seen
    refine ⟨seen', ?_⟩
    show (if t ≥ m.lim then _ else match inSet m.code (m.text.getD t 0) m.code.size 5 true seen with | .ok (true, seen) => _ | .ok (false, seen) => _ | .error why => _) = _
    rw [if_neg (by omega), hc, e, hh]
  | k + 1, fuel + 1, s, seen, t, ht, hl, hk, hh, hn => by
    obtain ⟨seen', e⟩ := l_inSet (m.text.getD s 0) seen
    have ih := l_adm m hc k fuel (s + 1) seen' t (by omega) hl (by omega) hh fun j h1 h2 => hn j (by omega) h2
    obtain ⟨seen'', e2⟩ := ih
    refine ⟨seen'', ?_⟩
    show (if s ≥ m.lim then _ else match inSet m.code (m.text.getD s 0) m.code.size 5 true seen with | .ok (true, seen) => _ | .ok (false, seen) => _ | .error why => _) = _
    rw [if_neg (by omega), hc, e, hn s (Nat.le_refl _) (by omega)]
    exact e2
theorem l_admNone (m : M) (hc : m.code = cL) : ∀ (k fuel s : Nat) (seen : Seen), m.lim = s + k → k < fuel → (∀ j, s ≤ j → j < m.lim → isEnd (m.text.getD j 0) = false) →
    ∃ seen', M.admitted m fuel s seen = .ok (none, seen')
  | 0, fuel + 1, s, seen, ht, _, _ => by
    refine ⟨seen, ?_⟩
    show (if s ≥ m.lim then _ else _) = _
    rw [if_pos (by omega)]
  | k + 1, fuel + 1, s, seen, ht, hk, hn => by
    obtain ⟨seen', e⟩ := l_inSet (m.text.getD s 0) seen
    have ih := l_admNone m hc k fuel (s + 1) seen' (by omega) (by omega) fun j h1 h2 => hn j (by omega) h2
    obtain ⟨seen'', e2⟩ := ih
    refine ⟨seen'', ?_⟩
    show (if s ≥ m.lim then _ else match inSet m.code (m.text.getD s 0) m.code.size 5 true seen with | .ok (true, seen) => _ | .ok (false, seen) => _ | .error why => _) = _
    rw [if_neg (by omega), hc, e, hn s (Nat.le_refl _) (by omega)]
    exact e2
theorem l_start (hs : s < lim) : forSearch cL text 0 s lim false = (lS text lim s true s 10 s [] 0 none (({} : Seen).add 14)).attemptFrom s true := by
  show (if (decide (s > lim) || decide (lim - s < 1)) = true then _ else _) = _
  rw [if_neg (by simp; omega)]
  rfl
theorem l_from {t : Nat} {seen' : Seen} (h : M.admitted (lS text lim s true s 10 s [] 0 none seen) (lim + 1 - s) s seen = .ok (some t, seen')) :
    (lS text lim s true s 10 s [] 0 none seen).attemptFrom s true = lS text lim t true t 10 t [lF t true] 1 none seen' := by
  show (match M.admitted (lS text lim s true s 10 s [] 0 none seen) (lim + 1 - s) s seen with | .ok (some s, seen) => _ | .ok (none, seen) => _ | .error why => _) = _
  rw [h]; rfl
theorem l_fromNone {seen' : Seen} (h : M.admitted (lS text lim s true s 10 s [] 0 none seen) (lim + 1 - s) s seen = .ok (none, seen')) :
    (lS text lim s true s 10 s [] 0 none seen).attemptFrom s true = lS text lim s true s 10 s [] 0 (some false) seen' := by
  show (match M.admitted (lS text lim s true s 10 s [] 0 none seen) (lim + 1 - s) s seen with | .ok (some s, seen) => _ | .ok (none, seen) => _ | .error why => _) = _
  rw [h]; rfl
/-- where a line end that begins at t is over -/
noncomputable def endAt (t : Nat) : Nat := if text.getD t 0 = 13 ∧ t + 1 < lim ∧ text.getD (t + 1) 0 = 10 then t + 2 else t + 1
theorem l_search {t : Nat} (hs : s ≤ t) (ht : t < lim) (hh : isEnd (text.getD t 0) = true) (hn : ∀ j, s ≤ j → j < t → isEnd (text.getD j 0) = false) :
    Ends 20 (forSearch cL text 0 s lim false) (some (t, endAt text lim t)) := by
  rw [l_start _ _ _ (by omega)]
  obtain ⟨seen', e⟩ := l_adm (lS text lim s true s 10 s [] 0 none (({} : Seen).add 14)) rfl (t - s) (lim + 1 - s) s (({} : Seen).add 14) t (by omega) ht (by omega) hh hn
  rw [l_from _ _ _ _ e]
  unfold endAt
  by_cases h13 : text.getD t 0 = 13
  · by_cases h2 : t + 1 < lim ∧ text.getD (t + 1) 0 = 10
    · rw [if_pos ⟨h13, h2⟩]; exact l_two _ _ _ _ _ _ h13 h2.1 h2.2
    · rw [if_neg fun x => h2 x.2]; exact l_return _ _ _ _ _ _ ht h13 h2
  · rw [if_neg fun x => h13 x.1]
    refine l_feed _ _ _ _ _ _ ht ?_
    unfold isEnd at hh
    rcases (Bool.or_eq_true _ _).mp hh with h | h
    · exact eq_of_beq h
    · exact absurd (eq_of_beq h) h13
theorem l_none (hn : ∀ j, s ≤ j → j < lim → isEnd (text.getD j 0) = false) : Ends 20 (forSearch cL text 0 s lim false) none := by
  by_cases hs : s < lim
  · rw [l_start _ _ _ hs]
    obtain ⟨seen', e⟩ := l_admNone (lS text lim s true s 10 s [] 0 none (({} : Seen).add 14)) rfl (lim - s) (lim + 1 - s) s (({} : Seen).add 14) (by show lim = _; omega) (by omega) hn
    rw [l_fromNone _ _ _ _ e]
    exact Ends.mono (.step (N := 0) rfl (l_end ..) ⟨0, _, Nat.le_refl _, rfl, rfl⟩) (by decide)
  · have e : forSearch cL text 0 s lim false = { lS text lim s true s 10 s [] 0 (some false) (({} : Seen).add 14) with lastStart := 0 } := by
      show (if (decide (s > lim) || decide (lim - s < 1)) = true then _ else _) = _
      rw [if_pos (by simp; omega)]
      rfl
    rw [e]
    exact Ends.mono (.step (N := 0) rfl rfl ⟨0, _, Nat.le_refl _, rfl, rfl⟩) (by decide)
end ends
end Mine.Re
end

section
open PySem PySem.Sre PySem.W PyProof.Rows PySem.Builtin PySem.Builtin.Re
set_option maxRecDepth 10000
namespace Mine.Re
section
variable {M₀ : Model} {A : Around} {E : Value → Shared → Prop} {s : Shared}
theorem drive_succ (t : Nat) (m : M) : reDrive (t + 1) m = if (M.runFor reTurnSteps m).outcome.isSome = true then pure (M.runFor reTurnSteps m) else (do rule "sre.turn"; reDrive t (M.runFor reTurnSteps m)) := rfl
theorem drive_ends (t : Nat) : ∀ (n : Nat) (m m' : M) (Q : M → Shared → Prop), n ≤ 4 * t → M.runFor n m = m' → m'.outcome.isSome = true → Q m' s → 0 < t → wpAny M₀ A (reDrive t m) Q E s := by
  induction t with
  | zero => intro n m m' Q _ _ _ _ h; exact absurd h (Nat.lt_irrefl _)
  | succ t ih =>
    intro n m m' Q hn hr ho hQ _
    rw [drive_succ]
    have h4 : reTurnSteps = 4 := rfl
    rw [h4]
    by_cases h : (M.runFor 4 m).outcome.isSome = true
    · rw [if_pos h]
      have e : M.runFor 4 m = m' := by
        by_cases hc : n ≤ 4
        · have h5 : M.runFor (n + (4 - n)) m = M.runFor (4 - n) (M.runFor n m) := runFor_add _ _ _
          rw [hr, runFor_done ho, show n + (4 - n) = 4 by omega] at h5
          exact h5
        · have h5 : M.runFor (4 + (n - 4)) m = M.runFor (n - 4) (M.runFor 4 m) := runFor_add _ _ _
          rw [runFor_done h, show 4 + (n - 4) = n by omega, hr] at h5
          exact h5.symm
      exact wpAny_pure (e ▸ hQ)
    · rw [if_neg h]
      have hc : 4 < n := by
        apply Nat.lt_of_not_le
        intro hc
        have h5 : M.runFor (n + (4 - n)) m = M.runFor (4 - n) (M.runFor n m) := runFor_add _ _ _
        rw [hr, runFor_done ho, show n + (4 - n) = 4 by omega] at h5
        rw [h5] at h
        exact h ho
      refine wpAny_bind (wpAny_rule ?_)
      have h5 : M.runFor (4 + (n - 4)) m = M.runFor (n - 4) (M.runFor 4 m) := runFor_add _ _ _
      rw [show 4 + (n - 4) = n by omega] at h5
      exact ih (n - 4) (M.runFor 4 m) m' Q (by omega) (by rw [← h5, hr]) ho hQ (by omega)

theorem rules_pass (l : List Nat) (c : Nat → Prop) [∀ i, Decidable (c i)] (f : Nat → String) {Q : PUnit → Shared → Prop} (h : Q PUnit.unit s) :
    wpAny M₀ A (forIn l PUnit.unit fun i (_ : PUnit) => if c i then (do rule (f i); pure (ForInStep.yield PUnit.unit)) else pure (ForInStep.yield PUnit.unit)) Q E s := by
  induction l with
  | nil => exact wpAny_pure h
  | cons i l ih =>
    rw [List.forIn_cons]
    refine wpAny_bind ?_
    by_cases hc : c i
    · rw [if_pos hc]
      exact wpAny_bind (wpAny_rule (wpAny_pure ih))
    · rw [if_neg hc]
      exact wpAny_pure ih
theorem toEnd_ends {m : M} {o : Option (Nat × Nat)} {N : Nat} {Q : Option M → Shared → Prop} (h : Ends N m o) (hN : N ≤ 2 ^ 62)
    (hQ : match o with | some (b, e) => ∀ m' : M, m'.start = b → m'.handed = e → Q (some m') s | none => Q none s) : wpAny M₀ A (reRunToEnd m) Q E s := by
  obtain ⟨n, m', hn, hr, ho⟩ := h
  have hs : m'.outcome.isSome = true := by
    cases o with
    | none => rw [ho]; rfl
    | some x => rw [ho.1]; rfl
  unfold reRunToEnd
  refine wpAny_bind (drive_ends (2 ^ 64) n m m' _ (by omega) hr hs ?_ (by decide))
  refine wpAny_bind (rules_pass _ (fun i => m'.seen.has i = true) (fun i => names.getD i "") ?_)
  cases o with
  | none => rw [ho]; exact wpAny_pure hQ
  | some x => rw [ho.1]; exact wpAny_pure (hQ m' ho.2.1 ho.2.2)
end
end Mine.Re
end

section
open PySem PySem.Sre PySem.W PyProof.Rows PySem.Builtin PySem.Builtin.Re
set_option maxRecDepth 10000
namespace Mine.Re
/-- the pattern's object and its code's tuple -/
structure IsPat (h : Heap) (pa c : Addr) (p0 : Str) (t0 : Tok) (p1 : Int) (t1 : Tok) (n : Nat) (code : Array Nat) : Prop where
  pat : h.get? pa = some { cls := .type "re.Pattern", data := .fields #[.str p0 t0, .int p1 t1, .int 0 0, .none, .none, .ref c, .int 0 0] }
  tup : h.get? c = some { cls := .type "tuple", data := .seq (code.map fun (k : Nat) => Value.int (k : Int) 0) n }
section
variable {prog : Program} {w : World} {A : Around} {E : Value → Shared → Prop} {s : Shared} {pa c : Addr} {p0 : Str} {t0 : Tok} {p1 : Int} {t1 : Tok} {n : Nat} {code : Array Nat}
theorem whole {x : Str} {t : Tok} {Q : ReTarget → Shared → Prop} (P : IsPat s.heap pa c p0 t0 p1 t1 n code)
    (hQ : Q { pattern := .ref pa, string := .str x t, code := code, text := x.cps, kind := 0, groups := 0, pos := 0, lim := x.cps.size } s) :
    wpAny (model prog w) A (reWholeTarget (.ref pa) (.str x t)) Q E s := by
  have ho := P.pat
  have ho2 := P.tup
  obtain ⟨h, g, d, tk, os⟩ := s
  unfold reWholeTarget
  wp_walk
  simp only [Option.getD_some, Array.map_map]
  have e : Array.map ((fun x => x.toNat) ∘ reRawOf ∘ fun (k : Nat) => Value.int (k : Int) 0) code = code := by
    conv => rhs; rw [← Array.map_id code]
    rfl
  rw [e]
  exact hQ

/-- what the substitution makes of the text from p on: it is told by the searches -/
structure SubOk (code : Array Nat) (x : Str) (repl : Str) (F : Nat → List Nat) : Prop where
  go : ∀ p, p ≤ x.cps.size →
    (∃ N b e, N ≤ 2 ^ 62 ∧ Ends N (forSearch code x.cps 0 p x.cps.size false) (some (b, e)) ∧ p ≤ b ∧ b < e ∧ e ≤ x.cps.size ∧ F p = (x.cps.extract p b).toList ++ repl.cps.toList ++ F e) ∨
    (∃ N, N ≤ 2 ^ 62 ∧ Ends N (forSearch code x.cps 0 p x.cps.size false) none ∧ F p = (x.cps.extract p x.cps.size).toList)

noncomputable def flat (ps : List Str) : List Nat := ps.flatMap fun y => y.cps.toList
theorem flat_snoc (ps : List Str) (y : Str) : flat (ps ++ [y]) = flat ps ++ y.cps.toList := by simp [flat]
theorem flat_len (ps : List Str) : (flat ps).length = (ps.map (·.length)).sum := by
  induction ps with
  | nil => rfl
  | cons y r ih =>
    show (y.cps.toList ++ flat r).length = y.length + (r.map (·.length)).sum
    rw [List.length_append, ih]
    simp [Str.length]
theorem join_flat {e : Str} (he : e.cps = #[]) (ps : List Str) : (Txt.join e ps).cps.toList = flat ps := by
  unfold Txt.join
  rw [StrLaws.glued_eq_join]
  induction ps with
  | nil => rfl
  | cons y r ih =>
    cases r with
    | nil => simp [flat, Str.join]
    | cons z r =>
      show ((y ++ e ++ Str.join e (z :: r)).cps).toList = _
      rw [Str.cps_append, Str.cps_append, he]
      simp only [Array.append_empty, Array.toList_append, ih]
      simp [flat]

theorem strs_snoc' {vs : List Value} {ys : List Str} (h : StrsAre vs ys) (y : Str) (t : Tok) : StrsAre (vs ++ [Value.str y t]) (ys ++ [y]) := by
  induction h with
  | nil => exact .cons _ _ .nil
  | cons _ _ _ ih => exact .cons _ _ ih
theorem plain_loop : plainId "re.Pattern.sub.loop" = true := by decide +kernel
theorem entry_loop : entryFor table "re.Pattern.sub.loop" = some Builtin.«re.Pattern.sub.loop» := entryFor_of_fast (by kernel_rfl)
theorem loop_turn {x repl : Str} {t tr : Tok} {k done : Nat} {l : Addr} {items : Array Value} {ep : Nat} {R : Result → Shared → Prop} {N b e : Nat}
    (P : IsPat s.heap pa c p0 t0 p1 t1 n code) (hl : s.heap.get? l = some { cls := .type "list", data := .seq items ep })
    (hN : N ≤ 2 ^ 62) (hE : Ends N (forSearch code x.cps 0 done x.cps.size false) (some (b, e))) (hb : done ≤ b) (hbe : b < e) (hsz : items.size + 2 ≤ sizeLine) (hx : x.cps.size ≤ sizeLine)
    (hgo : ∀ h' tk its ep', Heap.SameBut l s.heap h' → h'.get? l = some { cls := .type "list", data := .seq its ep' } →
      (its = (items.push (.str ⟨x.cps.extract done b⟩ s.toks)).push (.str repl tr) ∨ (b = done ∧ its = items.push (.str repl tr))) →
      codeAny (model prog w) A (.builtin "re.Pattern.sub.loop" ⟨[.ref pa, .str x t, .str repl tr, rawInt 0, rawInt 0, rawInt ((k + 1 : Nat) : Int), rawInt (e : Nat), rawInt (e : Nat), .bool false, .ref l, .bool false], []⟩) R { s with heap := h', toks := tk }) :
    wpAny (model prog w) A.in1 (Builtin.«re.Pattern.sub.loop» ⟨[.ref pa, .str x t, .str repl tr, rawInt 0, rawInt 0, rawInt (k : Nat), rawInt (done : Nat), rawInt (done : Nat), .bool false, .ref l, .bool false], []⟩)
      (fun fin s' => match fin with | .done f => R (.ok f) s' | .again c' => c'.quiet = true ∧ codeAny (model prog w) A c' R s') (fun e s' => R (.error e) s') s := by
  unfold Builtin.«re.Pattern.sub.loop»
  refine wpAny_bind (whole P ?_)
  obtain ⟨h, g, d, tk, os⟩ := s
  simp only [rawInt, Int.toNat_natCast]
  wp_walk using toEnd_ends hE hN
  intro m' hm1 hm2
  subst hm1 hm2
  wp_walk
  have hmust : (m'.handed == m'.start) = false := by simpa using (by omega : ¬ m'.handed = m'.start)
  have hk : ((k : Int) + 1) = ((k + 1 : Nat) : Int) := by push_cast; rfl
  by_cases hlt : done < m'.start
  · rw [if_pos hlt]
    refine wpAny_bind (m := reSlice x.cps 0 done m'.start) ?_
    show wpAny _ _ (mkStr ⟨x.cps.extract done m'.start⟩) _ _ _
    refine wpAny_mkStr ?_ (by show (x.cps.extract done m'.start).size ≤ sizeLine; rw [Array.size_extract]; omega)
    refine wpAny_bind (wpAny_updateSeq (o := { cls := .type "list", data := .seq items ep }) hl rfl ?_ (by omega) (by simp only [Array.size_push]; omega))
    have hl2 : (h.update l (Obj.mapSeq fun xs => xs.push (.str ⟨x.cps.extract done m'.start⟩ tk))).get? l = some { cls := .type "list", data := .seq (items.push (.str ⟨x.cps.extract done m'.start⟩ tk)) (ep + 1) } := by
      have h3 : h.get? l = some { cls := .type "list", data := .seq items ep } := hl
      rw [Heap.get?_update_self _ h3 (by rw [mapSeq_push]; rfl), mapSeq_push]
    show wpAny _ _ (updateSeq l (fun xs => xs.push (Value.str repl tr)) >>= fun _ => _) _ _ _
    refine wpAny_bind (wpAny_updateSeq (o := { cls := .type "list", data := .seq (items.push (.str ⟨x.cps.extract done m'.start⟩ tk)) (ep + 1) }) hl2 rfl ?_ (by simp only [Array.size_push]; omega) (by simp only [Array.size_push]; omega))
    rw [hmust, hk]
    refine wpAny_pure ⟨plainId_quiet plain_loop _, hgo _ _ _ (ep + 1 + 1) ?_ ?_ (.inl rfl)⟩
    · have s1 : Heap.SameBut l h (h.update l (Obj.mapSeq fun xs => xs.push (.str ⟨x.cps.extract done m'.start⟩ tk))) := Heap.SameBut.update ..
      have s2 := Heap.SameBut.update (h.update l (Obj.mapSeq fun xs => xs.push (.str ⟨x.cps.extract done m'.start⟩ tk))) l (Obj.mapSeq fun xs => xs.push (Value.str repl tr))
      exact ⟨s2.1.trans s1.1, fun b hb => (s2.2 b hb).trans (s1.2 b hb)⟩
    · rw [Heap.get?_update_self _ hl2 (by rw [mapSeq_push]; rfl), mapSeq_push]
  · rw [if_neg hlt]
    show wpAny _ _ (updateSeq l (fun xs => xs.push (Value.str repl tr)) >>= fun _ => _) _ _ _
    refine wpAny_bind (wpAny_updateSeq (o := { cls := .type "list", data := .seq items ep }) hl rfl ?_ (by omega) (by simp only [Array.size_push]; omega))
    rw [hmust, hk]
    refine wpAny_pure ⟨plainId_quiet plain_loop _, hgo _ _ _ (ep + 1) ?_ ?_ (.inr ⟨by omega, rfl⟩)⟩
    · exact Heap.SameBut.update ..
    · have h3 : h.get? l = some { cls := .type "list", data := .seq items ep } := hl
      rw [Heap.get?_update_self _ h3 (by rw [mapSeq_push]; rfl), mapSeq_push]

theorem tail_join {x : Str} {l : Addr} {items : Array Value} {ps : List Str} {ep : Nat} {JP : Value → Sem PySem.Fin} {J2 : Value → Sem PySem.Fin} {Q : PySem.Fin → Shared → Prop} {id : String} (hid : id = "str.join")
    (hl : s.heap.get? l = some { cls := .type "list", data := .seq items ep }) (hps : StrsAre items.toList ps) (hfit : (flat ps).length ≤ 16777216)
    (hJ : ∀ v, JP v = ret v) (hJ2 : ∀ v, J2 v = ret v) (hgo : ∀ tk t', Q (.done (.ret (.str ⟨(flat ps).toArray⟩ t'))) { s with toks := tk }) :
    wpAny (model prog w) A (do
      let joiner ← reSlice x.cps 0 0 0
      let v ← seqItems? (.ref l)
      if (v.getD #[]).isEmpty = true then (do
        let text ← pure joiner
        JP text) else (do
        let text ← call (.builtin id) [joiner, .ref l]
        J2 text)) Q E s := by
  subst hid
  refine wpAny_bind (m := reSlice x.cps 0 0 0) ?_
  show wpAny _ _ (mkStr ⟨x.cps.extract 0 0⟩) _ _ _
  have e0 : x.cps.extract 0 0 = #[] := by simp
  rw [e0]
  refine wpAny_mkStr ?_ (by show (0 : Nat) ≤ sizeLine; exact Nat.zero_le _)
  refine wpAny_bind (m := seqItems? (.ref l)) ?_
  unfold seqItems?
  refine wpAny_bind (wpAny_load (o := { cls := .type "list", data := .seq items ep }) hl (wpAny_pure ?_))
  rw [Option.getD_some]
  by_cases he : items.isEmpty = true
  · rw [if_pos he]
    have : items = #[] := by simpa using he
    subst this
    cases hps
    refine wpAny_bind (wpAny_pure ?_)
    rw [hJ]
    exact wpAny_pure (hgo _ _)
  · rw [if_neg he]
    refine wpAny_bind (join_list (ys := ps) ⟨_, hl, rfl, _, rfl⟩ hps ?_ fun t' k' => ?_)
    · rw [← flat_len]
      show (flat ps).length + ps.length * 0 ≤ _
      omega
    · rw [hJ2]
      have e1 : Txt.join ⟨#[]⟩ ps = ⟨(flat ps).toArray⟩ := by
        have := join_flat (e := ⟨#[]⟩) rfl ps
        rw [← this]
      rw [e1]
      exact wpAny_pure (hgo _ _)
theorem loop_last {x repl : Str} {t tr : Tok} {k done : Nat} {l : Addr} {items : Array Value} {ps : List Str} {ep : Nat} {R : Result → Shared → Prop} {N : Nat}
    (P : IsPat s.heap pa c p0 t0 p1 t1 n code) (hl : s.heap.get? l = some { cls := .type "list", data := .seq items ep }) (hps : StrsAre items.toList ps)
    (hN : N ≤ 2 ^ 62) (hE : Ends N (forSearch code x.cps 0 done x.cps.size false) none) (hsz : items.size + 2 ≤ sizeLine) (hx : x.cps.size ≤ sizeLine)
    (hfit : (flat ps).length + x.cps.size ≤ 16777216)
    (hgo : ∀ h' tk t', Heap.SameBut l s.heap h' → R (.ok (.ret (.str ⟨(flat ps ++ (x.cps.extract done x.cps.size).toList).toArray⟩ t'))) { s with heap := h', toks := tk }) :
    wpAny (model prog w) A.in1 (Builtin.«re.Pattern.sub.loop» ⟨[.ref pa, .str x t, .str repl tr, rawInt 0, rawInt 0, rawInt (k : Nat), rawInt (done : Nat), rawInt (done : Nat), .bool false, .ref l, .bool false], []⟩)
      (fun fin s' => match fin with | .done f => R (.ok f) s' | .again c' => c'.quiet = true ∧ codeAny (model prog w) A c' R s') (fun e s' => R (.error e) s') s := by
  unfold Builtin.«re.Pattern.sub.loop»
  refine wpAny_bind (whole P ?_)
  obtain ⟨h, g, d, tk, os⟩ := s
  simp only [rawInt, Int.toNat_natCast]
  wp_walk using toEnd_ends hE hN
  by_cases hlt : done < x.cps.size
  · rw [if_pos hlt]
    refine wpAny_bind (m := reSlice x.cps 0 done x.cps.size) ?_
    show wpAny _ _ (mkStr ⟨x.cps.extract done x.cps.size⟩) _ _ _
    refine wpAny_mkStr ?_ (by show (x.cps.extract done x.cps.size).size ≤ sizeLine; rw [Array.size_extract]; omega)
    refine wpAny_bind (wpAny_updateSeq (o := { cls := .type "list", data := .seq items ep }) hl rfl ?_ (by omega) (by simp only [Array.size_push]; omega))
    have h3 : h.get? l = some { cls := .type "list", data := .seq items ep } := hl
    have hl2 : (h.update l (Obj.mapSeq fun xs => xs.push (.str ⟨x.cps.extract done x.cps.size⟩ tk))).get? l = some { cls := .type "list", data := .seq (items.push (.str ⟨x.cps.extract done x.cps.size⟩ tk)) (ep + 1) } := by
      rw [Heap.get?_update_self _ h3 (by rw [mapSeq_push]; rfl), mapSeq_push]
    refine tail_join (ps := ps ++ [⟨x.cps.extract done x.cps.size⟩]) rfl hl2 ?_ ?_ (fun _ => rfl) (fun _ => rfl) ?_
    · rw [Array.toList_push]; exact strs_snoc' hps _ _
    · rw [flat_snoc, List.length_append]
      have : (x.cps.extract done x.cps.size).toList.length ≤ x.cps.size := by rw [Array.length_toList, Array.size_extract]; omega
      show (flat ps).length + (x.cps.extract done x.cps.size).toList.length ≤ _
      omega
    · intro tk' t'
      rw [flat_snoc]
      exact hgo _ _ _ (Heap.SameBut.update ..)
  · rw [if_neg hlt]
    refine tail_join (ps := ps) rfl hl hps (by omega) (fun _ => rfl) (fun _ => rfl) ?_
    intro tk' t'
    have e : (x.cps.extract done x.cps.size).toList = [] := by
      have : (x.cps.extract done x.cps.size).size = 0 := by rw [Array.size_extract]; omega
      have := Array.eq_empty_of_size_eq_zero this
      rw [this]
    have := hgo h tk' t' ⟨rfl, fun _ _ => rfl⟩
    rw [e, List.append_nil] at this
    exact this

theorem IsPat.apart {h : Heap} {l : Addr} {its : Array Value} {ep : Nat} (P : IsPat h pa c p0 t0 p1 t1 n code) (hl : h.get? l = some { cls := .type "list", data := .seq its ep }) : pa ≠ l ∧ c ≠ l := by
  refine ⟨fun e => ?_, fun e => ?_⟩
  · subst e
    have := P.pat.symm.trans hl
    simp at this
  · subst e
    have := P.tup.symm.trans hl
    simp at this
theorem IsPat.same {h h' : Heap} {l : Addr} (P : IsPat h pa c p0 t0 p1 t1 n code) (hs : Heap.SameBut l h h') (ha : pa ≠ l ∧ c ≠ l) : IsPat h' pa c p0 t0 p1 t1 n code :=
  ⟨(hs.2 _ ha.1).trans P.pat, (hs.2 _ ha.2).trans P.tup⟩

theorem loop_all {x repl : Str} {t tr : Tok} {F : Nat → List Nat} (H : SubOk code x repl F) (hx : x.cps.size ≤ 4000000) (r : Nat) :
    ∀ (A : Around) (p k : Nat) (s : Shared) (l : Addr) (items : Array Value) (ps : List Str) (ep : Nat) (R : Result → Shared → Prop), x.cps.size - p ≤ r → p ≤ x.cps.size →
    IsPat s.heap pa c p0 t0 p1 t1 n code → s.heap.get? l = some { cls := .type "list", data := .seq items ep } → StrsAre items.toList ps → items.size ≤ 2 * p →
    (flat ps ++ F p).length + x.cps.size ≤ 16777216 →
    (∀ h' tk t', Heap.SameBut l s.heap h' → R (.ok (.ret (.str ⟨(flat ps ++ F p).toArray⟩ t'))) { s with heap := h', toks := tk }) →
    codeAny (model prog w) A (.builtin "re.Pattern.sub.loop" ⟨[.ref pa, .str x t, .str repl tr, rawInt 0, rawInt 0, rawInt (k : Nat), rawInt (p : Nat), rawInt (p : Nat), .bool false, .ref l, .bool false], []⟩) R s := by
  have hsl : sizeLine = 16777216 := sizeLine_eq
  induction r with
  | zero =>
    intro A p k s l items ps ep R hr hp P hl hps hit hfit hgo
    rcases H.go p hp with ⟨N, b, e, hN, hE, hb, hbe, hes, hF⟩ | ⟨N, hN, hE, hF⟩
    · omega
    · refine codeAny_builtin entry_loop ?_
      rw [Around.under_plainId plain_loop]
      refine loop_last P hl hps hN hE (by omega) (by omega) ?_ ?_
      · rw [List.length_append] at hfit; omega
      · intro h' tk t' hs
        rw [← hF]
        exact hgo h' tk t' hs
  | succ r ih =>
    intro A p k s l items ps ep R hr hp P hl hps hit hfit hgo
    rcases H.go p hp with ⟨N, b, e, hN, hE, hb, hbe, hes, hF⟩ | ⟨N, hN, hE, hF⟩
    · refine codeAny_builtin entry_loop ?_
      rw [Around.under_plainId plain_loop]
      have ha := P.apart hl
      refine loop_turn P hl hN hE hb hbe (by omega) (by omega) ?_
      intro h' tk its ep' hs hl' hi
      have key : ∃ ps', StrsAre its.toList ps' ∧ flat ps' ++ F e = flat ps ++ F p ∧ its.size ≤ 2 * e := by
        rcases hi with rfl | ⟨rfl, rfl⟩
        · refine ⟨ps ++ [⟨x.cps.extract p b⟩] ++ [repl], ?_, ?_, ?_⟩
          · rw [Array.toList_push, Array.toList_push]; exact strs_snoc' (strs_snoc' hps _ _) _ _
          · rw [flat_snoc, flat_snoc, hF]; simp only [List.append_assoc]
          · simp only [Array.size_push]; omega
        · refine ⟨ps ++ [repl], ?_, ?_, ?_⟩
          · rw [Array.toList_push]; exact strs_snoc' hps _ _
          · rw [flat_snoc, hF]
            have : (x.cps.extract b b).toList = [] := by
              have h0 : (x.cps.extract b b).size = 0 := by rw [Array.size_extract]; omega
              rw [Array.eq_empty_of_size_eq_zero h0]
            rw [this]; simp only [List.nil_append, List.append_assoc]
          · simp only [Array.size_push]; omega
      obtain ⟨ps', hps', hF', hit'⟩ := key
      refine ih _ e (k + 1) _ l its ps' ep' R (by omega) hes (P.same hs ha) hl' hps' hit' (by rw [hF']; exact hfit) ?_
      intro h'' tk' t' hs'
      rw [hF']
      exact hgo h'' tk' t' ⟨hs'.1.trans hs.1, fun b hb => (hs'.2 b hb).trans (hs.2 b hb)⟩
    · refine codeAny_builtin entry_loop ?_
      rw [Around.under_plainId plain_loop]
      refine loop_last P hl hps hN hE (by omega) (by omega) ?_ ?_
      · rw [List.length_append] at hfit; omega
      · intro h' tk t' hs
        rw [← hF]
        exact hgo h' tk t' hs
end
end Mine.Re
end

section
open PySem PySem.Sre PySem.W PyProof.Rows PySem.Builtin PySem.Builtin.Re
set_option maxRecDepth 100000
namespace Mine.Re
theorem slot_sub : Slot "re.Pattern" "sub" "re.Pattern.sub" :=
  .of (owner := "re.Pattern") (n := "sub") (by rw [typeLookup_type, builtinLookup_eq_fast]; kernel_rfl) (by decide +kernel) (by decide +kernel) (by decide +kernel)
    (by first | exact .inl (by decide +kernel) | exact .inr (by decide +kernel)) (by rw [isSubtype_type]; kernel_rfl)
theorem type_sub : typeOf (.builtin "re.Pattern.sub") = pure (.type "method_descriptor") := by show builtinType _ = _; rw [builtinType_eq_fast]; kernel_rfl
theorem entry_sub : entryFor table "re.Pattern.sub" = some Builtin.«re.Pattern.sub» := entryFor_of_tree (by kernel_rfl)
theorem args_sub (a b c : Value) : argsOk "re.Pattern.sub" ⟨[a, b, c], []⟩ := by
  unfold argsOk; kernel_rfl
theorem str_no_call : typeLookup (.type "str") (Str.ofString "__call__") = pure none := by rw [typeLookup_type, builtinLookup_eq_fast]; kernel_rfl
theorem named_sub (a b : Value) : reNamed "re.Pattern.sub" "sub" ["repl", "string", "count"] 2 [a, b] [] = pure [some a, some b, none] := by kernel_rfl
section
variable {prog : Program} {w : World} {A : Around} {E : Value → Shared → Prop} {s : Shared} {pa c : Addr} {p0 : Str} {t0 : Tok} {p1 : Int} {t1 : Tok} {n : Nat} {code : Array Nat}
theorem sub_rule {x repl : Str} {t tr : Tok} {F : Nat → List Nat} {Q : Value → Shared → Prop} (H : SubOk code x repl F) (hx : x.cps.size ≤ 4000000) (hfit : (F 0).length + x.cps.size ≤ 16777216) (hrepl : repl.cps.contains 92 = false)
    (P : IsPat s.heap pa c p0 t0 p1 t1 n code)
    (hQ : ∀ h' tk t', (∀ b o, s.heap.get? b = some o → h'.get? b = some o) → Q (.str ⟨(F 0).toArray⟩ t') { s with heap := h', toks := tk }) :
    wpAny (model prog w) A (call (.builtin "re.Pattern.sub") [.ref pa, .str repl tr, .str x t]) Q E s := by
  refine wpAny_call (codeAny_call_builtin slot_sub.plain entry_sub (slot_sub.check _ _ _ _ _ _ _ _ ⟨_, P.pat, rfl⟩ (args_sub _ _ _) ?_))
  show wpAny _ _ (reSubstitute "re.Pattern.sub" "sub" false ⟨[.ref pa, .str repl tr, .str x t], []⟩) _ _ s
  unfold reSubstitute
  have hT : s.TypeIs (.str repl tr) "str" := typeIs_str _ _ _
  have hn := str_no_call
  refine wpAny_bind (wpAny_of_eq (named_sub _ _) ?_)
  refine wpAny_bind (wpAny_pure ?_)
  refine wpAny_bind (wpAny_specialOf_val rfl hn ?_)
  refine wpAny_bind (m := asStr? (.str repl tr)) (wpAny_pure ?_)
  refine wpAny_bind (wpAny_pure ?_)
  dsimp only
  rw [hrepl]
  refine wpAny_bind (wpAny_pure ?_)
  refine wpAny_bind (wpAny_holding (whole P ?_))
  refine wpAny_bind (wpAny_newList ?_)
  have P' : IsPat (s.heap.push { cls := .type "list", data := .seq ([] : List Value).toArray }) pa c p0 t0 p1 t1 n code := ⟨Heap.get?_push_of_some _ P.pat, Heap.get?_push_of_some _ P.tup⟩
  refine wpAny_pure ⟨plainId_quiet plain_loop _, ?_⟩
  refine loop_all H hx x.cps.size A 0 0 _ s.heap.objs.size _ [] 0 _ (by omega) (Nat.zero_le _) P' (Heap.get?_push_size _ rfl) .nil (Nat.zero_le _) (by simpa [flat] using hfit) ?_
  intro h' tk t' hs
  have e : flat [] ++ F 0 = F 0 := rfl
  rw [e]
  exact hQ h' tk t' fun b o hb => (hs.2 b (Nat.ne_of_lt (Heap.lt_size hb))).trans (Heap.get?_push_of_some _ hb)
end
end Mine.Re
end

section
open PySem PySem.Sre PySem.W PyProof.Rows PySem.Builtin PySem.Builtin.Re
set_option maxRecDepth 100000
namespace Mine.Re

theorem first_or_none (P : Nat → Bool) (k : Nat) : ∀ a b : Nat, b = a + k → (∃ t, a ≤ t ∧ t < b ∧ P t = true ∧ ∀ j, a ≤ j → j < t → P j = false) ∨ (∀ j, a ≤ j → j < b → P j = false) := by
  induction k with
  | zero => intro a b h; exact .inr fun j h1 h2 => by omega
  | succ k ih =>
    intro a b h
    cases hp : P a with
    | true => exact .inl ⟨a, Nat.le_refl _, by omega, hp, fun j h1 h2 => by omega⟩
    | false =>
      rcases ih (a + 1) b (by omega) with ⟨t, h1, h2, h3, h4⟩ | h4
      · refine .inl ⟨t, by omega, h2, h3, fun j h5 h6 => ?_⟩
        by_cases e : j = a
        · rw [e]; exact hp
        · exact h4 j (by omega) h6
      · refine .inr fun j h5 h6 => ?_
        by_cases e : j = a
        · rw [e]; exact hp
        · exact h4 j (by omega) h6

theorem getD_list (a : Array Nat) (i : Nat) : a.getD i 0 = a.toList.getD i 0 := by simp
theorem ext_list (a : Array Nat) (p t : Nat) : (a.extract p t).toList = (a.toList.drop p).take (t - p) := by simp
theorem drop_cons {l : List Nat} {i : Nat} (h : i < l.length) : l.drop i = l.getD i 0 :: l.drop (i + 1) := by
  rw [List.drop_eq_getElem_cons h]
  congr 1
  rw [List.getD_eq_getElem?_getD, List.getElem?_eq_getElem h]; rfl

/-- every line end written as a return and a feed -/
noncomputable def crlfL : List Nat → List Nat
  | [] => []
  | c :: r => if c = 13 ∧ r.head? = some 10 then 13 :: 10 :: crlfL (r.drop 1) else if isEnd c = true then 13 :: 10 :: crlfL r else c :: crlfL r
termination_by l => l.length
decreasing_by all_goals simp <;> omega
theorem crlf_cons (c : Nat) (r : List Nat) : crlfL (c :: r) = if c = 13 ∧ r.head? = some 10 then 13 :: 10 :: crlfL (r.drop 1) else if isEnd c = true then 13 :: 10 :: crlfL r else c :: crlfL r := by
  rw [crlfL]
theorem crlf_free (l : List Nat) : ∀ (k p : Nat), (∀ j, p ≤ j → j < p + k → isEnd (l.getD j 0) = false) → p + k ≤ l.length → crlfL (l.drop p) = (l.drop p).take k ++ crlfL (l.drop (p + k))
  | 0, p, _, _ => by simp
  | k + 1, p, hn, hk => by
    have hc := hn p (Nat.le_refl _) (by omega)
    have h13 : ¬ l.getD p 0 = 13 := fun e => by rw [e] at hc; cases hc
    rw [drop_cons (by omega), crlf_cons, if_neg (fun x => h13 x.1), if_neg (by rw [hc]; exact Bool.false_ne_true), List.take_succ_cons, List.cons_append]
    have ih := crlf_free l k (p + 1) (fun j h1 h2 => hn j (by omega) (by omega)) (by omega)
    rw [ih, show p + 1 + k = p + (k + 1) by omega]
theorem endAt_in (text : Array Nat) {lim t : Nat} (h : t < lim) : t < endAt text lim t ∧ endAt text lim t ≤ lim := by
  unfold endAt
  by_cases hc : text.getD t 0 = 13 ∧ t + 1 < lim ∧ text.getD (t + 1) 0 = 10
  · rw [if_pos hc]; omega
  · rw [if_neg hc]; omega
theorem sub_crlf (x : Str) : SubOk cL x ⟨#[13, 10]⟩ (fun p => crlfL (x.cps.toList.drop p)) := by
  refine ⟨fun p hp => ?_⟩
  rcases first_or_none (fun j => isEnd (x.cps.getD j 0)) (x.cps.size - p) p x.cps.size (by omega) with ⟨t, h1, h2, h3, h4⟩ | h4
  · refine .inl ⟨20, t, endAt x.cps x.cps.size t, by decide, l_search _ _ _ h1 h2 h3 h4, h1, ?_, ?_, ?_⟩
    · exact (endAt_in _ h2).1
    · exact (endAt_in _ h2).2
    · have hfree := crlf_free x.cps.toList (t - p) p (fun j a b => by rw [← getD_list]; exact h4 j a (by omega)) (by simp; omega)
      rw [show p + (t - p) = t by omega] at hfree
      show crlfL (x.cps.toList.drop p) = _ ++ [13, 10] ++ crlfL _
      rw [hfree, ext_list, List.append_assoc]
      congr 1
      have hlt : t < x.cps.toList.length := by simpa using h2
      rw [drop_cons hlt, crlf_cons]
      unfold endAt
      rw [getD_list, getD_list]
      have hend : isEnd (x.cps.toList.getD t 0) = true := by rw [← getD_list]; exact h3
      by_cases hc : x.cps.toList.getD t 0 = 13 ∧ t + 1 < x.cps.size ∧ x.cps.toList.getD (t + 1) 0 = 10
      · have hlt2 : t + 1 < x.cps.toList.length := by simpa using hc.2.1
        have hh : (x.cps.toList.drop (t + 1)).head? = some 10 := by rw [drop_cons hlt2, hc.2.2]; rfl
        rw [if_pos ⟨hc.1, hh⟩, if_pos hc, List.drop_drop]
        rfl
      · rw [if_neg hc, if_neg, if_pos hend]
        · rfl
        · rintro ⟨a, b⟩
          by_cases hlt2 : t + 1 < x.cps.toList.length
          · rw [drop_cons hlt2] at b
            exact hc ⟨a, by simpa using hlt2, by simpa using b⟩
          · rw [List.drop_eq_nil_of_le (by omega)] at b; cases b
  · refine .inr ⟨20, by decide, l_none _ _ _ h4, ?_⟩
    have hfree := crlf_free x.cps.toList (x.cps.size - p) p (fun j a b => by rw [← getD_list]; exact h4 j a (by omega)) (by simp; omega)
    have h0 : x.cps.toList.drop x.cps.size = [] := List.drop_eq_nil_of_le (by simp)
    rw [show p + (x.cps.size - p) = x.cps.size by omega, h0] at hfree
    show crlfL (x.cps.toList.drop p) = _
    rw [hfree, ext_list, crlfL, List.append_nil]

/-- a dot at the front of a line doubled; b: a line begins here -/
noncomputable def dotsL : Bool → List Nat → List Nat
  | _, [] => []
  | b, c :: r => if (b && c == 46) = true then 46 :: 46 :: dotsL false r else c :: dotsL (c == 10) r
theorem atLine_succ (x : Array Nat) (p : Nat) : atLine x (p + 1) = (x.getD p 0 == 10) := by
  show ((p + 1 == 0) || (x.getD (p + 1 - 1) 0 == 10)) = _
  have : (p + 1 == 0) = false := by simp
  rw [this, Bool.false_or]; rfl
theorem dots_free (x : Array Nat) : ∀ (k p : Nat), (∀ j, p ≤ j → j < p + k → hit x j = false) → p + k ≤ x.size →
    dotsL (atLine x p) (x.toList.drop p) = (x.toList.drop p).take k ++ dotsL (atLine x (p + k)) (x.toList.drop (p + k))
  | 0, p, _, _ => by simp
  | k + 1, p, hn, hk => by
    have hc := hn p (Nat.le_refl _) (by omega)
    have hlt : p < x.toList.length := by simp; omega
    have hc' : ¬ (atLine x p && x.toList.getD p 0 == 46) = true := by
      unfold hit at hc
      rw [getD_list] at hc
      rw [hc]; exact Bool.false_ne_true
    rw [drop_cons hlt]
    show (if (atLine x p && x.toList.getD p 0 == 46) = true then _ else _) = _
    rw [if_neg hc', List.take_succ_cons, List.cons_append]
    have ih := dots_free x k (p + 1) (fun j h1 h2 => hn j (by omega) (by omega)) (by omega)
    rw [atLine_succ, getD_list] at ih
    rw [ih, show p + 1 + k = p + (k + 1) by omega]
theorem sub_dots (x : Str) (hx : x.cps.size ≤ 4000000) : SubOk cD x ⟨#[46, 46]⟩ (fun p => dotsL (atLine x.cps p) (x.cps.toList.drop p)) := by
  refine ⟨fun p hp => ?_⟩
  by_cases hps : p < x.cps.size
  · rcases first_or_none (fun j => hit x.cps j) (x.cps.size - p) p x.cps.size (by omega) with ⟨t, h1, h2, h3, h4⟩ | h4
    · refine .inl ⟨3 * (t - p) + 5, t, t + 1, by omega, ?_, h1, by omega, by omega, ?_⟩
      · rw [d_search _ _ _ hps]
        exact d_find _ _ (t - p) p true p _ t (by omega) h2 h3 h4
      · have hfree := dots_free x.cps (t - p) p (fun j a b => h4 j a (by omega)) (by omega)
        rw [show p + (t - p) = t by omega] at hfree
        show dotsL (atLine x.cps p) (x.cps.toList.drop p) = _ ++ [46, 46] ++ dotsL _ _
        rw [hfree, ext_list, List.append_assoc]
        congr 1
        have hlt : t < x.cps.toList.length := by simpa using h2
        rw [drop_cons hlt]
        have h3' : (atLine x.cps t && x.cps.toList.getD t 0 == 46) = true := by
          have h3 : hit x.cps t = true := h3
          unfold hit at h3
          rw [getD_list] at h3
          exact h3
        show (if (atLine x.cps t && x.cps.toList.getD t 0 == 46) = true then _ else _) = _
        have h46 : x.cps.toList.getD t 0 = 46 := by
          have := (Bool.and_eq_true_iff.mp h3').2
          exact eq_of_beq this
        rw [if_pos h3', atLine_succ, getD_list, h46]
        rfl
    · refine .inr ⟨3 * (x.cps.size - p) + 5, by omega, ?_, ?_⟩
      · rw [d_search _ _ _ hps]
        exact d_none _ _ (x.cps.size - p) p true p _ (by omega) h4
      · have hfree := dots_free x.cps (x.cps.size - p) p (fun j a b => h4 j a (by omega)) (by omega)
        have h0 : x.cps.toList.drop x.cps.size = [] := List.drop_eq_nil_of_le (by simp)
        rw [show p + (x.cps.size - p) = x.cps.size by omega, h0] at hfree
        show dotsL (atLine x.cps p) (x.cps.toList.drop p) = _
        rw [hfree, ext_list]
        show _ ++ [] = _
        rw [List.append_nil]
  · refine .inr ⟨1, by decide, d_search_end _ _ _ (by omega), ?_⟩
    have h0 : x.cps.toList.drop p = [] := List.drop_eq_nil_of_le (by simp; omega)
    show dotsL (atLine x.cps p) (x.cps.toList.drop p) = _
    rw [h0, ext_list, h0]
    simp [dotsL]

/-- what quotedata makes of a text -/
noncomputable def quoteL (l : List Nat) : List Nat := dotsL true (crlfL l)
noncomputable def quoteS (x : Str) : Str := ⟨(quoteL x.cps.toList).toArray⟩
theorem crlfL_len (n : Nat) : ∀ l : List Nat, l.length ≤ n → (crlfL l).length ≤ 2 * l.length := by
  induction n with
  | zero => intro l h; have : l = [] := by simpa using h
            subst this; rw [crlfL]; simp
  | succ n ih =>
    intro l h
    cases l with
    | nil => rw [crlfL]; simp
    | cons c r =>
      rw [crlf_cons]
      simp only [List.length_cons] at h
      split
      · rename_i hc
        cases r with
        | nil => simp at hc
        | cons d r =>
          have := ih r (by simp at h; omega)
          simp only [List.drop_one, List.tail_cons, List.length_cons]; omega
      · have := ih r (by omega)
        split <;> simp only [List.length_cons] <;> omega
theorem dotsL_len : ∀ (l : List Nat) (b : Bool), (dotsL b l).length ≤ 2 * l.length
  | [], _ => by simp [dotsL]
  | c :: r, b => by
    show (if (b && c == 46) = true then 46 :: 46 :: dotsL false r else c :: dotsL (c == 10) r).length ≤ _
    have h1 := dotsL_len r false
    have h2 := dotsL_len r (c == 10)
    split <;> simp only [List.length_cons] <;> omega
end Mine.Re
end

section
open PySem PySem.W PyProof.Rows PySem.Calls PySem.Spec
set_option maxRecDepth 100000
set_option maxHeartbeats 8000000
namespace Mine
theorem plainAttrs_pat : PlainAttrs "re.Pattern" :=
  ⟨⟨"object.__getattribute__", by rw [typeLookup_type, builtinLookup_eq_fast]; kernel_rfl, by decide +kernel⟩, by rw [typeLookup_type, builtinLookup_eq_fast]; kernel_rfl⟩
section
variable {prog : Program} {w : World} {A : Around} {E : Value → Shared → Prop} {s : Shared} {h₀ : Heap} {L : Addr} {m : Str → Option Value} {news : List (Addr × Obj)} {K : Frag}
noncomputable abbrev patObj (p : String) (t : Tok) (f : Int) (u : Tok) (c : Addr) : Obj := { cls := .type "re.Pattern", data := .fields #[.str (Str.ofString p) t, .int f u, .int 0 0, .none, .none, .ref c, .int 0 0] }
noncomputable abbrev tupObj (code : Array Nat) (n : Nat) : Obj := { cls := .type "tuple", data := .seq (code.toList.map fun (k : Nat) => Value.int (k : Int) 0).toArray n }
theorem get_sub {M : Model} {pa : Addr} {o : Obj} {pl : Sem Bool} {Q : Value × List Value → Shared → Prop} (F : Fr h₀ L s.heap m) (X : K.In h₀) (e : K.lookup pa = some o) (hc : o.cls = .type "re.Pattern") (hd : o.dict = none)
    (h : Q (.builtin "re.Pattern.sub", [.ref pa]) s) : wpAny M A (getMethod (.ref pa) (Str.ofString "sub") pl) Q E s :=
  getMethod_builtin ⟨o, F.keep _ _ (X _ _ e), hc⟩ plainAttrs_pat Re.slot_sub Re.type_sub (fun a q => by cases q; exact ⟨o, F.keep _ _ (X _ _ e), hd⟩) h
theorem sub_K {pa c : Addr} {x repl : Str} {t tr : Tok} {G : Nat → List Nat} {Q : Value → Shared → Prop} {p : String} {t0 : Tok} {p1 : Int} {t1 : Tok} {n : Nat} {code : Array Nat} (F : Fr h₀ L s.heap m) (X : K.In h₀) (N : News h₀ L s.heap news)
    (e1 : K.lookup pa = some (patObj p t0 p1 t1 c)) (e2 : K.lookup c = some (tupObj code n))
    (H : Re.SubOk code x repl G) (hx : x.cps.size ≤ 4000000) (hfit : (G 0).length + x.cps.size ≤ 16777216) (hrepl : repl.cps.contains 92 = false)
    (hQ : ∀ h' tk t', Fr h₀ L h' m → News h₀ L h' news → Q (.str ⟨(G 0).toArray⟩ t') { s with heap := h', toks := tk }) :
    wpAny (model prog w) A (call (.builtin "re.Pattern.sub") [.ref pa, .str repl tr, .str x t]) Q E s :=
  Re.sub_rule H hx hfit hrepl ⟨F.keep _ _ (X _ _ e1), (F.keep _ _ (X _ _ e2)).trans (congrArg (fun z => some ({ cls := .type "tuple", data := .seq z n } : Obj)) (by apply Array.ext'; simp))⟩ fun h' tk t' hk => hQ h' tk t' (F.grownK hk) (N.grown hk)
theorem crlf_K {x repl : Str} {t tr : Tok} {Q : Value → Shared → Prop} {p : String} {t0 : Tok} {p1 : Int} {t1 : Tok} {n : Nat} (F : Fr h₀ L s.heap m) (X : K.In h₀) (N : News h₀ L s.heap news)
    (e1 : K.lookup 56 = some (patObj p t0 p1 t1 55)) (e2 : K.lookup 55 = some (tupObj Re.cL n)) (hr : repl = ⟨#[13, 10]⟩) (hx : x.length ≤ 200000)
    (hQ : ∀ h' tk t', Fr h₀ L h' m → News h₀ L h' news → Q (.str ⟨(Re.crlfL x.cps.toList).toArray⟩ t') { s with heap := h', toks := tk }) :
    wpAny (model prog w) A (call (.builtin "re.Pattern.sub") [.ref 56, .str repl tr, .str x t]) Q E s := by
  subst hr
  have hx' : x.cps.size ≤ 200000 := hx
  refine sub_K (code := Re.cL) (n := n) F X N e1 e2 (Re.sub_crlf x) (by omega) ?_ (by decide +kernel) ?_
  · have := Re.crlfL_len _ x.cps.toList (Nat.le_refl _)
    rw [List.drop_zero]
    simp only [Array.length_toList] at this
    omega
  · intro h' tk t' F' N'
    rw [List.drop_zero]
    exact hQ h' tk t' F' N'
theorem dots_K {x repl : Str} {t tr : Tok} {Q : Value → Shared → Prop} {p : String} {t0 : Tok} {p1 : Int} {t1 : Tok} {n : Nat} (F : Fr h₀ L s.heap m) (X : K.In h₀) (N : News h₀ L s.heap news)
    (e1 : K.lookup 51 = some (patObj p t0 p1 t1 50)) (e2 : K.lookup 50 = some (tupObj Re.cD n)) (hr : repl = ⟨#[46, 46]⟩) (hx : x.cps.size ≤ 400000)
    (hQ : ∀ h' tk t', Fr h₀ L h' m → News h₀ L h' news → Q (.str ⟨(Re.dotsL true x.cps.toList).toArray⟩ t') { s with heap := h', toks := tk }) :
    wpAny (model prog w) A (call (.builtin "re.Pattern.sub") [.ref 51, .str repl tr, .str x t]) Q E s := by
  subst hr
  refine sub_K (code := Re.cD) (n := n) F X N e1 e2 (Re.sub_dots x (by omega)) (by omega) ?_ (by decide +kernel) ?_
  · have := Re.dotsL_len x.cps.toList true
    rw [List.drop_zero]
    simp only [Array.length_toList] at this
    show (Re.dotsL true x.cps.toList).length + _ ≤ _
    omega
  · intro h' tk t' F' N'
    rw [List.drop_zero]
    exact hQ h' tk t' F' N'
theorem crlf_fits {x : Str} (hx : x.length ≤ 200000) : (⟨(Re.crlfL x.cps.toList).toArray⟩ : Str).cps.size ≤ 400000 := by
  have := Re.crlfL_len _ x.cps.toList (Nat.le_refl _)
  have hx' : x.cps.size ≤ 200000 := hx
  simp only [Array.length_toList] at this
  show (Re.crlfL x.cps.toList).toArray.size ≤ 400000
  rw [List.size_toArray]; omega
end
set_option hygiene false in
local macro_rules | `(tactic| walk_at "getMethod ref") => `(tactic| (k_here; (with_reducible show wpAny _ _ (getMethod (Value.ref _) (Str.ofString "sub") _) _ _ _); k_dflt (refine' get_sub ?k1 ?k2 ?k3 ?k4 ?k5 ?_; (case k1 => k_asm); (case k2 => k_asm); (case k3 => k_is); (case k4 => rfl); (case k5 => rfl))))
set_option hygiene false in
local macro_rules | `(tactic| walk_at "call builtin:re.Pattern.sub") => `(tactic| (k_here; k_dflt (first
  | (refine' crlf_K ?k1 ?k2 ?k3 ?k4 ?k5 ?k6 ?k7 ?_; (case k1 => k_asm); (case k2 => k_asm); (case k3 => k_asm); (case k4 => k_is); (case k5 => k_is); (case k6 => decide +kernel); (case k7 => assumption))
  | (refine' dots_K ?k1 ?k2 ?k3 ?k4 ?k5 ?k6 ?k7 ?_; (case k1 => k_asm); (case k2 => k_asm); (case k3 => k_asm); (case k4 => k_is); (case k5 => k_is); (case k6 => decide +kernel); (case k7 => assumption))); intro h' tk' t' F' N'; (try dsimp only)))
theorem qd_claim (w : World) (mean : ExcName → Option Value) (mg mb : Str → Option Value) (news : List (Addr × Obj)) (x : Str) (tkx : Tok) (hx : x.length ≤ 200000) :
    CbClaim PySem.Challenge.rw_we0007_01.row.prog w (hd.heap_39 w.params) hd.view_39 LO mean mg mb 63 news [] True [.str x tkx] (fun t => .str (Re.quoteS x) t) := by
  k_fill
  dsimp only [CbClaim, CbLists, CbRet]
  intro dp un gd cn cs a ccd cl outer A₀ base h₀ L m s Q E B F X N T hk _ hdp hun hret
  have hx2 := crlf_fits hx
  refine wpAny_call ?_
  k_dflt cell_enter
  k_steps
  rename Fr _ _ _ _ => F9
  rename News _ _ _ _ => N9
  exact hret _ _ _ F9 N9
end Mine
end

section
open PySem PySem.W PyProof.Rows
namespace Mine
theorem gen_toks1 {α : Type} {M : Model} {A : Around} {t : Sem α} {Q : α → Shared → Prop} {E : Value → Shared → Prop} {h : Heap} {g : Array GenState} {d : Drawn} {tk : Nat} {os : OsState}
    (k : ∀ tk', 1 ≤ tk' → wpAny M A t Q E ⟨h, g, d, tk', os⟩) : wpAny M A t Q E ⟨h, g, d, tk + 1, os⟩ := k _ (Nat.le_add_left ..)
section
variable {prog : Program} {w : World} {A : Around} {E : Value → Shared → Prop} {s : Shared} {x y z : Str} {t u v : Tok} {Q : Value → Shared → Prop}
theorem replace_T (hs : 1 ≤ s.toks) (hu : u ≠ 0) (hv : v ≠ 0) (huv : u ≠ v) (hyz : (y == z) = false) (hb : x.length + (x.length + 1) * z.length ≤ 16777216)
    (hq : ∀ t' k, 1 ≤ k → Q (.str (Txt.replace x y z) t') { s with toks := k }) : wpAny (model prog w) A (call (.builtin "str.replace") [.str x t, .str y u, .str z v]) Q E s := by
  refine wpAny_with_toks (n := 1) hs ?_
  exact wpAny_mono (SC.replace (E := fun e s' => E e s') hu hv huv hyz hb fun t' k hk => hq t' k hk) (fun _ _ h => h) fun _ _ h _ => h
theorem replace_len (x y z : Str) : (Txt.replace x y z).length ≤ x.length + (x.length + 1) * z.length := by
  unfold Txt.replace
  split
  · exact Nat.le_add_right _ _
  · have h1 := StrLaws.occ_length_le x y 0 x.length (x.length + 1)
    have hy : (Builtin.Str.glued y (Builtin.Str.partsBetween x (Builtin.Str.occurrences x y 0 x.length (x.length + 1)) y.length)).length = x.length := by rw [StrLaws.glued_between_self]
    rw [size_glued, length_partsBetween, Nat.add_sub_cancel] at hy
    rw [size_glued, length_partsBetween, Nat.add_sub_cancel]
    have h2 : (Builtin.Str.occurrences x y 0 x.length (x.length + 1)).length * z.length ≤ (x.length + 1) * z.length := Nat.mul_le_mul_right _ h1
    omega
theorem replace_L {L : Nat} (hs : 1 ≤ s.toks) (hu : (0 : Nat) < u) (hv : (0 : Nat) < v) (huv : Nat.lt u v) (hyz : (y == z) = false) (hx : x.length ≤ L) (hz : z.length ≤ 6) (hL : L ≤ 20000)
    (hq : ∀ t' k, 1 ≤ k → (Txt.replace x y z).length ≤ 7 * L + 6 → Q (.str (Txt.replace x y z) t') { s with toks := k }) : wpAny (model prog w) A (call (.builtin "str.replace") [.str x t, .str y u, .str z v]) Q E s := by
  have h1 : (x.length + 1) * z.length ≤ (L + 1) * 6 := Nat.mul_le_mul (by omega) hz
  refine replace_T hs (Nat.ne_of_gt hu) (Nat.ne_of_gt hv) (Nat.ne_of_lt huv) hyz (by omega) fun t' k hk => hq t' k hk ?_
  have := replace_len x y z
  omega
/-- one step of an escape: where the sign is met it is written out -/
noncomputable def esc1 (c z : String) (x : Str) : Str := if (Builtin.Str.occurrences x (Str.ofString c) 0 x.length 1).isEmpty = true then x else Txt.replace x (Str.ofString c) (Str.ofString z)
theorem esc1_not {c z : String} {x : Str} (h : (Builtin.Str.occurrences x (Str.ofString c) 0 x.length 1).isEmpty = true) : esc1 c z x = x := if_pos h
theorem esc1_met {c z : String} {x : Str} (h : (Builtin.Str.occurrences x (Str.ofString c) 0 x.length 1).isEmpty = false) : esc1 c z x = Txt.replace x (Str.ofString c) (Str.ofString z) := if_neg (by rw [h]; exact Bool.false_ne_true)
end
noncomputable def escA (x : Str) : Str := esc1 ">" "&gt;" (esc1 "<" "&lt;" (esc1 "&" "&amp;" x))
noncomputable def escB (x : Str) : Str := esc1 "\"" "&quot;" (esc1 ">" "&gt;" (esc1 "&" "&amp;" x))
noncomputable def escC (x : Str) : Str := esc1 "\r" "&#xD;" (esc1 ">" "&gt;" (esc1 "<" "&lt;" (esc1 "&" "&amp;" x)))
end Mine
namespace Mine
theorem esc1_len {c z : String} {x : Str} {L : Nat} (hx : x.length ≤ L) (hz : (Str.ofString z).length ≤ 6) : (esc1 c z x).length ≤ 7 * L + 6 := by
  unfold esc1
  split
  · omega
  · have := replace_len x (Str.ofString c) (Str.ofString z)
    have h1 : (x.length + 1) * (Str.ofString z).length ≤ (L + 1) * 6 := Nat.mul_le_mul (by omega) hz
    omega
theorem escA_len {x : Str} (hx : x.length ≤ 40) : (escA x).length ≤ 200000 :=
  Nat.le_trans (esc1_len (esc1_len (esc1_len hx (by decide +kernel)) (by decide +kernel)) (by decide +kernel)) (by decide)
theorem escB_len {x : Str} (hx : x.length ≤ 40) : (escB x).length ≤ 200000 :=
  Nat.le_trans (esc1_len (esc1_len (esc1_len hx (by decide +kernel)) (by decide +kernel)) (by decide +kernel)) (by decide)
theorem escC_len {x : Str} (hx : x.length ≤ 40) : (escC x).length ≤ 200000 :=
  Nat.le_trans (esc1_len (esc1_len (esc1_len (esc1_len hx (by decide +kernel)) (by decide +kernel)) (by decide +kernel)) (by decide +kernel)) (by decide)
end Mine
end

section
open PySem PySem.W PyProof.Rows PySem.Calls PySem.Spec
set_option maxRecDepth 100000
set_option maxHeartbeats 8000000
namespace Mine
set_option hygiene false in
local macro_rules | `(tactic| walk_at "execs cons") => `(tactic| (k_here; with_reducible refine gen_toks1 ?_; intro tkN htkN))
set_option hygiene false in
local macro_rules | `(tactic| walk_at "execs nil") => `(tactic| (k_here; with_reducible refine gen_toks1 ?_; intro tkN htkN))
set_option hygiene false in
local macro_rules | `(tactic| walk_at "call builtin:str.replace") => `(tactic| (k_here; k_dflt (refine' replace_L ?a ?b ?c ?d ?e ?f ?g ?h ?_; (case a => (show 1 ≤ _ + 1; omega)); (case b => omega); (case c => omega); (case d => exact Nat.lt_succ_self _); (case e => decide +kernel); (case f => assumption); (case g => decide +kernel); (case h => decide)); intro tR kR hR hlR))
theorem esA_claim (w : World) (mean : ExcName → Option Value) (mg mb : Str → Option Value) (news : List (Addr × Obj)) (x : Str) (tkx : Tok) (hx : x.length ≤ 40) :
    CbClaim PySem.Challenge.rw_we0007_01.row.prog w (hd.heap_39 w.params) hd.view_39 LO mean mg mb 77 news [] True [.str x tkx] (fun t => .str (escA x) t) := by
  k_fill
  dsimp only [CbClaim, CbLists, CbRet]
  intro dp un gd cn cs a ccd cl outer A₀ base h₀ L m s Q E B F X N T hk _ hdp hun hret
  refine wpAny_call ?_
  k_dflt cell_enter
  k_steps
  all_goals (
    rename Fr _ _ _ _ => F9
    rename News _ _ _ _ => N9
    refine cb_retS (x := escA x) hret ?_ F9 N9
    unfold escA
    first | rw [esc1_not (c := "&") (z := "&amp;") (by assumption)] | rw [esc1_met (c := "&") (z := "&amp;") (by assumption)]
    first | rw [esc1_not (c := "<") (z := "&lt;") (by assumption)] | rw [esc1_met (c := "<") (z := "&lt;") (by assumption)]
    first | rw [esc1_not (c := ">") (z := "&gt;") (by assumption)] | rw [esc1_met (c := ">") (z := "&gt;") (by assumption)])
theorem esB_claim (w : World) (mean : ExcName → Option Value) (mg mb : Str → Option Value) (news : List (Addr × Obj)) (x : Str) (tkx : Tok) (hx : x.length ≤ 40) :
    CbClaim PySem.Challenge.rw_we0007_01.row.prog w (hd.heap_39 w.params) hd.view_39 LO mean mg mb 84 news [] True [.str x tkx] (fun t => .str (escB x) t) := by
  k_fill
  dsimp only [CbClaim, CbLists, CbRet]
  intro dp un gd cn cs a ccd cl outer A₀ base h₀ L m s Q E B F X N T hk _ hdp hun hret
  refine wpAny_call ?_
  k_dflt cell_enter
  k_steps
  all_goals (
    rename Fr _ _ _ _ => F9
    rename News _ _ _ _ => N9
    refine cb_retS (x := escB x) hret ?_ F9 N9
    unfold escB
    first | rw [esc1_not (c := "&") (z := "&amp;") (by assumption)] | rw [esc1_met (c := "&") (z := "&amp;") (by assumption)]
    first | rw [esc1_not (c := ">") (z := "&gt;") (by assumption)] | rw [esc1_met (c := ">") (z := "&gt;") (by assumption)]
    first | rw [esc1_not (c := "\"") (z := "&quot;") (by assumption)] | rw [esc1_met (c := "\"") (z := "&quot;") (by assumption)])
theorem esC_claim (w : World) (mean : ExcName → Option Value) (mg mb : Str → Option Value) (news : List (Addr × Obj)) (x : Str) (tkx : Tok) (hx : x.length ≤ 40) :
    CbClaim PySem.Challenge.rw_we0007_01.row.prog w (hd.heap_39 w.params) hd.view_39 LO mean mg mb 91 news [] True [.str x tkx] (fun t => .str (escC x) t) := by
  k_fill
  dsimp only [CbClaim, CbLists, CbRet]
  intro dp un gd cn cs a ccd cl outer A₀ base h₀ L m s Q E B F X N T hk _ hdp hun hret
  refine wpAny_call ?_
  k_dflt cell_enter
  k_steps
  all_goals (
    rename Fr _ _ _ _ => F9
    rename News _ _ _ _ => N9
    refine cb_retS (x := escC x) hret ?_ F9 N9
    unfold escC
    first | rw [esc1_not (c := "&") (z := "&amp;") (by assumption)] | rw [esc1_met (c := "&") (z := "&amp;") (by assumption)]
    first | rw [esc1_not (c := "<") (z := "&lt;") (by assumption)] | rw [esc1_met (c := "<") (z := "&lt;") (by assumption)]
    first | rw [esc1_not (c := ">") (z := "&gt;") (by assumption)] | rw [esc1_met (c := ">") (z := "&gt;") (by assumption)]
    first | rw [esc1_not (c := "\r") (z := "&#xD;") (by assumption)] | rw [esc1_met (c := "\r") (z := "&#xD;") (by assumption)])
end Mine
end

section
open PySem PySem.W PyProof.Rows PySem.Calls PySem.Spec
set_option maxRecDepth 100000
set_option maxHeartbeats 8000000
namespace Mine
set_option hygiene false in
local macro_rules | `(tactic| walk_at "call ref") => `(tactic| (k_here; (first
  | (k_dflt (refine' qd_claim _ _ _ _ _ _ _ ?hx _ _ _ _ _ _ _ _ _ _ _ _ _ _ _ _ _ ?k1 ?k2 ?k3 ?k4 ?k5 ?kK ?kp ?kd ?ku ?_); (case hx => (first | exact escA_len (by assumption) | exact escB_len (by assumption) | exact escC_len (by assumption) | assumption)))
  | (k_dflt (refine' esA_claim _ _ _ _ _ _ _ ?hx _ _ _ _ _ _ _ _ _ _ _ _ _ _ _ _ _ ?k1 ?k2 ?k3 ?k4 ?k5 ?kK ?kp ?kd ?ku ?_); (case hx => assumption))
  | (k_dflt (refine' esB_claim _ _ _ _ _ _ _ ?hx _ _ _ _ _ _ _ _ _ _ _ _ _ _ _ _ _ ?k1 ?k2 ?k3 ?k4 ?k5 ?kK ?kp ?kd ?ku ?_); (case hx => assumption))
  | (k_dflt (refine' esC_claim _ _ _ _ _ _ _ ?hx _ _ _ _ _ _ _ _ _ _ _ _ _ _ _ _ _ ?k1 ?k2 ?k3 ?k4 ?k5 ?kK ?kp ?kd ?ku ?_); (case hx => assumption))); (case k1 => k_asm); (case k2 => k_asm); (case k3 => k_asm); (case k4 => k_asm); (case k5 => k_asm); (case kK => first | exact rfl | assumption); (case kp => trivial); (case kd => ktr_room); (case ku => ktr_units); intro t9 h9 tk9 F9 N9; (try dsimp only); (try k_fold)))
theorem se0_claim (w : World) (mean : ExcName → Option Value) (mg mb : Str → Option Value) (news : List (Addr × Obj)) (x : Str) (tkx tkh : Tok) (hx : x.length ≤ 40) :
    Claim2 PySem.Challenge.rw_we0007_01.row.prog w (hd.heap_39 w.params) hd.view_39 LO mean mg mb 98 news [.int 0 tkh, .str x tkx] (fun t => .str (Re.quoteS (escA x)) t) := by
  k_fill
  dsimp only [Claim2, CbLists, CbRet]
  intro dp un gd cn cs a ccd cl outer A₀ base h₀ L m s Q E B F X N T hk hdp hun hret
  refine wpAny_call ?_
  k_dflt cell_enter
  k_steps
  rename Fr _ _ _ _ => F9
  rename News _ _ _ _ => N9
  exact hret _ _ _ F9 N9
theorem se1_claim (w : World) (mean : ExcName → Option Value) (mg mb : Str → Option Value) (news : List (Addr × Obj)) (x : Str) (tkx tkh : Tok) (hx : x.length ≤ 40) :
    Claim2 PySem.Challenge.rw_we0007_01.row.prog w (hd.heap_39 w.params) hd.view_39 LO mean mg mb 98 news [.int 1 tkh, .str x tkx] (fun t => .str (Re.quoteS (escB x)) t) := by
  k_fill
  dsimp only [Claim2, CbLists, CbRet]
  intro dp un gd cn cs a ccd cl outer A₀ base h₀ L m s Q E B F X N T hk hdp hun hret
  refine wpAny_call ?_
  k_dflt cell_enter
  k_steps
  rename Fr _ _ _ _ => F9
  rename News _ _ _ _ => N9
  exact hret _ _ _ F9 N9
theorem se2_claim (w : World) (mean : ExcName → Option Value) (mg mb : Str → Option Value) (news : List (Addr × Obj)) (x : Str) (tkx tkh : Tok) (hx : x.length ≤ 40) :
    Claim2 PySem.Challenge.rw_we0007_01.row.prog w (hd.heap_39 w.params) hd.view_39 LO mean mg mb 98 news [.int 2 tkh, .str x tkx] (fun t => .str (Re.quoteS (escC x)) t) := by
  k_fill
  dsimp only [Claim2, CbLists, CbRet]
  intro dp un gd cn cs a ccd cl outer A₀ base h₀ L m s Q E B F X N T hk hdp hun hret
  refine wpAny_call ?_
  k_dflt cell_enter
  k_steps
  rename Fr _ _ _ _ => F9
  rename News _ _ _ _ => N9
  exact hret _ _ _ F9 N9
end Mine
end

section
open PySem PySem.W PyProof.Rows
namespace Mine
theorem kc_nine {cm : Str → Option Value} {n₁ n₂ n₃ n₄ n₅ n₆ n₇ n₈ n₉ : Str} {c₁ c₂ c₃ c₄ c₅ c₆ c₇ c₈ c₉ : Addr} {cells : List (Addr × Obj)} (x : CellsAre cm [(n₁, c₁), (n₂, c₂), (n₃, c₃), (n₄, c₄), (n₅, c₅), (n₆, c₆), (n₇, c₇), (n₈, c₈), (n₉, c₉)] cells) :
    ∃ o₁ o₂ o₃ o₄ o₅ o₆ o₇ o₈ o₉, cells = [(c₁, o₁), (c₂, o₂), (c₃, o₃), (c₄, o₄), (c₅, o₅), (c₆, o₆), (c₇, o₇), (c₈, o₈), (c₉, o₉)] ∧ o₁.data = .cell (cm n₁) ∧ o₂.data = .cell (cm n₂) ∧ o₃.data = .cell (cm n₃) ∧ o₄.data = .cell (cm n₄) ∧ o₅.data = .cell (cm n₅) ∧ o₆.data = .cell (cm n₆) ∧ o₇.data = .cell (cm n₇) ∧ o₈.data = .cell (cm n₈) ∧ o₉.data = .cell (cm n₉) := by
  cases x with | cons h r => obtain ⟨o₂, o₃, o₄, o₅, o₆, o₇, o₈, o₉, rfl, h₂, h₃, h₄, h₅, h₆, h₇, h₈, h₉⟩ := kc_eight r; exact ⟨_, o₂, o₃, o₄, o₅, o₆, o₇, o₈, o₉, rfl, h, h₂, h₃, h₄, h₅, h₆, h₇, h₈, h₉⟩
theorem kc_ten {cm : Str → Option Value} {n₁ n₂ n₃ n₄ n₅ n₆ n₇ n₈ n₉ n₀ : Str} {c₁ c₂ c₃ c₄ c₅ c₆ c₇ c₈ c₉ c₀ : Addr} {cells : List (Addr × Obj)} (x : CellsAre cm [(n₁, c₁), (n₂, c₂), (n₃, c₃), (n₄, c₄), (n₅, c₅), (n₆, c₆), (n₇, c₇), (n₈, c₈), (n₉, c₉), (n₀, c₀)] cells) :
    ∃ o₁ o₂ o₃ o₄ o₅ o₆ o₇ o₈ o₉ o₀, cells = [(c₁, o₁), (c₂, o₂), (c₃, o₃), (c₄, o₄), (c₅, o₅), (c₆, o₆), (c₇, o₇), (c₈, o₈), (c₉, o₉), (c₀, o₀)] ∧ o₁.data = .cell (cm n₁) ∧ o₂.data = .cell (cm n₂) ∧ o₃.data = .cell (cm n₃) ∧ o₄.data = .cell (cm n₄) ∧ o₅.data = .cell (cm n₅) ∧ o₆.data = .cell (cm n₆) ∧ o₇.data = .cell (cm n₇) ∧ o₈.data = .cell (cm n₈) ∧ o₉.data = .cell (cm n₉) ∧ o₀.data = .cell (cm n₀) := by
  cases x with | cons h r => obtain ⟨o₂, o₃, o₄, o₅, o₆, o₇, o₈, o₉, o₀, rfl, h₂, h₃, h₄, h₅, h₆, h₇, h₈, h₉, h₀⟩ := kc_nine r; exact ⟨_, o₂, o₃, o₄, o₅, o₆, o₇, o₈, o₉, o₀, rfl, h, h₂, h₃, h₄, h₅, h₆, h₇, h₈, h₉, h₀⟩
end Mine
end

section
open PySem PySem.W PyProof.Rows PySem.Calls PySem.Spec
set_option maxRecDepth 100000
namespace Mine
/-- a wrapping that no line of the walk opens -/
structure Stop (P : Prop) : Prop where
  out : P
section
variable {prog : Program} {w : World} {A : Around} {h₀ : Heap} {L : Addr} {m : Str → Option Value} {env : Env} {ct elt : Expr} {x : Str} {scope : Scope} {cl : List (Str × Addr)} {s : Shared} {S : List (Addr × Obj) → Prop} {P : Nat → Value → Prop} {Fin : List Value → List (Addr × Obj) → Prop}

/-- a comprehension without a test, by an invariant over its list and the ledger -/
theorem rest_inv {n : Nat} {news : List (Addr × Obj)} (J : Nat → List Value → List (Addr × Obj) → Prop) (h0 : J 0 [] news)
    (turn : ∀ i v I oI C oC D m₂ ys nw h tk (E' : Value → Shared → Prop), i < n → P i v → J i ys nw → LCg.NsObj oC m₂ → m₂ x = some v → Fr h₀ L h m → News h₀ L h ((I, oI) :: (C, oC) :: (D, LCg.lst ys) :: nw) → LCg.Off3 I C D nw → ((@Ne Nat I C) ∧ (@Ne Nat I D) ∧ (@Ne Nat C D)) →
      wpAny (model prog w) A (eval elt (compEnvC scope cl C env)) (fun y s₂ => Halt (LCg.CompEnd h₀ L m { s with heap := h, toks := tk } I oI C oC D (LCg.lst ys) S (fun y news' => J (i + 1) (ys ++ [y]) news') y s₂)) E' { s with heap := h, toks := tk })
    (fin : ∀ ys nw, J n ys nw → Fin ys nw) : LCg.CompRest prog w A h₀ L m env elt x scope cl s S P Fin n 0 [] news := by
  have key : ∀ (j i : Nat) (ys : List Value) (nw : List (Addr × Obj)), i + j = n → J i ys nw → LCg.CompRest prog w A h₀ L m env elt x scope cl s S P Fin j i ys nw := by
    intro j
    induction j with
    | zero =>
      intro i ys nw hi hy
      have e : i = n := by omega
      subst e
      exact LCg.CompRest.zero (fin ys nw hy)
    | succ j ih =>
      intro i ys nw hi hy
      refine LCg.CompRest.succ ?_
      intro v I oI C oC D m₂ h tk E' hv hC hx F N off ne
      refine wpAny_mono (turn i v I oI C oC D m₂ ys nw h tk E' (by omega) hv hy hC hx F N off ne) (fun y s₂ hq => ?_) fun _ _ e => e
      obtain ⟨⟨h', tk', nw', e, F', N', off', hS, hj⟩⟩ := hq
      exact ⟨h', tk', nw', e, F', N', off', hS, ih (i + 1) _ _ (by omega) hj⟩
  exact key n 0 [] news (by omega) h0

/-- a comprehension with one test, by an invariant over its list and the ledger -/
theorem restT_inv {n : Nat} {news : List (Addr × Obj)} (J : Nat → List Value → List (Addr × Obj) → Prop) (h0 : J 0 [] news)
    (turn : ∀ i v I oI C oC D m₂ ys nw h tk (E' : Value → Shared → Prop), i < n → P i v → J i ys nw → LCg.NsObj oC m₂ → m₂ x = some v → Fr h₀ L h m → News h₀ L h ((I, oI) :: (C, oC) :: (D, LCg.lst ys) :: nw) → LCg.Off3 I C D nw → ((@Ne Nat I C) ∧ (@Ne Nat I D) ∧ (@Ne Nat C D)) →
      wpAny (model prog w) A (isTrue ct (compEnvC scope cl C env) (eval ct (compEnvC scope cl C env))) (fun ok s' => if ok = true then
        wpAny (model prog w) A (eval elt (compEnvC scope cl C env)) (fun y s₂ => Halt (LCg.CompEnd h₀ L m { s with heap := h, toks := tk } I oI C oC D (LCg.lst ys) S (fun y news' => J (i + 1) (ys ++ [y]) news') y s₂)) E' s'
        else Halt (LCg.CompEnd h₀ L m { s with heap := h, toks := tk } I oI C oC D (LCg.lst ys) S (fun _ news' => J (i + 1) ys news') Value.none s')) E' { s with heap := h, toks := tk })
    (fin : ∀ ys nw, J n ys nw → Fin ys nw) : LCt.CompRestT prog w A h₀ L m env ct elt x scope cl s S P Fin n 0 [] news := by
  have key : ∀ (j i : Nat) (ys : List Value) (nw : List (Addr × Obj)), i + j = n → J i ys nw → LCt.CompRestT prog w A h₀ L m env ct elt x scope cl s S P Fin j i ys nw := by
    intro j
    induction j with
    | zero =>
      intro i ys nw hi hy
      have e : i = n := by omega
      subst e
      exact LCt.CompRestT.zero (fin ys nw hy)
    | succ j ih =>
      intro i ys nw hi hy
      refine LCt.CompRestT.succ ?_
      intro v I oI C oC D m₂ h tk E' hv hC hx F N off ne
      refine wpAny_mono (turn i v I oI C oC D m₂ ys nw h tk E' (by omega) hv hy hC hx F N off ne) (fun ok s' hq => ?_) fun _ _ e => e
      by_cases hok : ok = true
      · rw [if_pos hok] at hq ⊢
        refine wpAny_mono hq (fun y s₂ hq => ?_) fun _ _ e => e
        obtain ⟨⟨h', tk', nw', e, F', N', off', hS, hj⟩⟩ := hq
        exact ⟨h', tk', nw', e, F', N', off', hS, ih (i + 1) _ _ (by omega) hj⟩
      · rw [if_neg hok] at hq ⊢
        obtain ⟨⟨h', tk', nw', e, F', N', off', hS, hj⟩⟩ := hq
        exact ⟨h', tk', nw', e, F', N', off', hS, ih (i + 1) _ _ (by omega) hj⟩
  exact key n 0 [] news (by omega) h0

/-- the ledger stays, each element by a relation -/
theorem rest_each {n : Nat} {news : List (Addr × Obj)} (R : Nat → Value → Prop)
    (turn : ∀ i v I oI C oC D m₂ ys h tk (E' : Value → Shared → Prop), i < n → P i v → LCg.NsObj oC m₂ → m₂ x = some v → Fr h₀ L h m → News h₀ L h ((I, oI) :: (C, oC) :: (D, LCg.lst ys) :: news) → LCg.Off3 I C D news → ((@Ne Nat I C) ∧ (@Ne Nat I D) ∧ (@Ne Nat C D)) →
      wpAny (model prog w) A (eval elt (compEnvC scope cl C env)) (fun y s₂ => Halt (LCg.CompEnd h₀ L m { s with heap := h, toks := tk } I oI C oC D (LCg.lst ys) S (fun y news' => news' = news ∧ Stop (R i y)) y s₂)) E' { s with heap := h, toks := tk })
    (fin : ∀ ys, ys.length = n → (∀ i v, ys[i]? = some v → R i v) → Fin ys news) : LCg.CompRest prog w A h₀ L m env elt x scope cl s S P Fin n 0 [] news := by
  refine rest_inv (fun i ys nw => nw = news ∧ ys.length = i ∧ ∀ j v, ys[j]? = some v → R j v) ⟨rfl, rfl, by intro j v h; simp at h⟩ ?_ ?_
  · rintro i v I oI C oC D m₂ ys nw h tk E' hi hv ⟨rfl, hl, hR⟩ hC hx F N off ne
    refine wpAny_mono (turn i v I oI C oC D m₂ ys h tk E' hi hv hC hx F N off ne) (fun y s₂ hq => ?_) fun _ _ e => e
    obtain ⟨⟨h', tk', nw', e, F', N', off', hS, rfl, ⟨hr⟩⟩⟩ := hq
    refine ⟨⟨h', tk', _, e, F', N', off', hS, rfl, by simp [hl], ?_⟩⟩
    intro j v' hj
    by_cases hlt : j < ys.length
    · rw [List.getElem?_append_left hlt] at hj; exact hR j v' hj
    · rw [List.getElem?_append_right (by omega)] at hj
      have : j = ys.length := by
        by_cases h0 : j - ys.length = 0
        · omega
        · rw [List.getElem?_eq_none (by simp; omega)] at hj; cases hj
      subst this
      simp at hj
      subst hj
      rw [hl]; exact hr
  · rintro ys nw ⟨rfl, hl, hR⟩
    exact fin ys hl hR
theorem strs_of {ys : List Value} {n : Nat} {g : Nat → Str} (hl : ys.length = n) (h : ∀ i v, ys[i]? = some v → ∃ t, v = Value.str (g i) t) : StrsAre ys ((List.range n).map g) := by
  induction ys generalizing n g with
  | nil => subst hl; exact .nil
  | cons y ys ih =>
    subst hl
    obtain ⟨t, rfl⟩ := h 0 y (by simp)
    rw [List.length_cons, List.range_succ_eq_map, List.map_cons, List.map_map]
    exact .cons _ _ (ih rfl fun i v hi => h (i + 1) v (by simpa using hi))
theorem ints_of {ys : List Value} {n : Nat} {g : Nat → Int} (hl : ys.length = n) (h : ∀ i v, ys[i]? = some v → ∃ t, v = Value.int (g i) t) : IntsAre ys ((List.range n).map g) := by
  induction ys generalizing n g with
  | nil => subst hl; exact .nil
  | cons y ys ih =>
    subst hl
    obtain ⟨t, rfl⟩ := h 0 y (by simp)
    rw [List.length_cons, List.range_succ_eq_map, List.map_cons, List.map_map]
    exact .cons _ _ (ih rfl fun i v hi => h (i + 1) v (by simpa using hi))
theorem src_halt {Fn : Shared → List Value → List (Addr × Obj) → Prop} {xv : Value} {s₁ : Shared} (h : Halt (LCg.CompSrc prog w A h₀ L m env elt x scope cl Fn xv s₁)) : LCg.CompSrc prog w A h₀ L m env elt x scope cl Fn xv s₁ := h.out
theorem srcT_halt {Fn : Shared → List Value → List (Addr × Obj) → Prop} {xv : Value} {s₁ : Shared} (h : Halt (LCt.CompSrcT prog w A h₀ L m env ct elt x scope cl Fn xv s₁)) : LCt.CompSrcT prog w A h₀ L m env ct elt x scope cl Fn xv s₁ := h.out
end
/-- a contract that returns a fresh list -/
noncomputable abbrev ClaimL (prog : Program) (w : World) (K : Frag) (p : Program) (loose : List Str) (mean : ExcName → Option Value) (mg mb : Str → Option Value) (f : Addr) (news : List (Addr × Obj)) (args : List Value) (R : List Value → Prop) : Prop :=
  ∀ (dp un : Nat) (gd : Option (List Code)) (cn : Str) (cs : Scope) (a : Addr) (ccd : Value) (cl : List (Str × Addr)) (outer : List Env) (A₀ : Around) (base h₀ : Heap) (L : Addr) (m : Str → Option Value) (s : Shared) (Q E : Value → Shared → Prop),
    Below A₀ base outer h₀ → Fr h₀ L s.heap m → K.In h₀ → News h₀ L s.heap news → Top p loose mean mg mb h₀ → cs.kind = .function →
    dp + 2 < recursionLimit → un + 16 < cLine →
    (∀ l vs k h' tk', R vs → (∀ p ∈ news, p.1 < l) → Fr h₀ L h' m → News h₀ L h' ((l, W.listOf vs.toArray k) :: news) → Q (.ref l) { s with heap := h', toks := tk' }) →
      wpAny (model prog w) (ktrTop dp un gd cn cs L a ccd cl outer) (call (.ref f) args) Q E s
theorem news_keep {h₀ h : Heap} {L l : Addr} {o : Obj} {rest news : List (Addr × Obj)} (N : News h₀ L h ((l, o) :: rest)) (hs : ∀ p ∈ news, p ∈ rest) : News h₀ L h ((l, o) :: news) :=
  fun p hp => N p ((List.mem_cons.mp hp).elim (fun e => e ▸ List.mem_cons_self) fun h => List.mem_cons_of_mem _ (hs p h))
theorem strs_eq {vs : List Value} {xs ys : List Str} (h : StrsAre vs xs) (e : xs = ys) : StrsAre vs ys := e ▸ h
end Mine
end

namespace Mine
open PySem PySem.W PyProof.Rows PySem.Calls PySem.Spec in
local macro_rules | `(tactic| walk_at "Halt") => `(tactic| (refine ⟨LCg.CompEnd.intro (by assumption) (by assumption) _ ?sub ?off ?src ⟨rfl, ?_⟩⟩; (case sub => kcf_all); (case off => (first | assumption | (simp only [LCg.Off3, and_true]; assumption))); (case src => lcg_src)))
open PySem PySem.W PyProof.Rows PySem.Calls PySem.Spec in
local macro_rules | `(tactic| walk_at "eval ListComp") => `(tactic| (k_here; (with_reducible show wpAny _ _ (eval (Expr.ListComp _ [⟨_, _, [_], _⟩] _ _) _) _ _ _); k_dflt (refine LCt.ListComp_T (F₀ := by k_asm) (by with_unfolding_all rfl) (by decide) (by rfl) (by decide) (by rfl) ?_)))
open PySem PySem.W PyProof.Rows PySem.Calls PySem.Spec in
local macro_rules | `(tactic| walk_at "binaryOp LShift int int") => `(tactic| (k_here; (with_reducible refine lshift_int_small ?kb1 ?kb2 ?kb3 ?_); (case kb1 => omega); (case kb2 => omega); (case kb3 => assumption)))
open PySem PySem.W PyProof.Rows PySem.Calls PySem.Spec in
local macro_rules | `(tactic| walk_at "exec For Tuple Call cons nil") => `(tactic| (k_here; (refine For_turns (by k_asm) ?_); k_whole))

section
open PySem PySem.W PyProof.Rows PySem.Calls PySem.Spec
set_option maxRecDepth 100000
set_option maxHeartbeats 8000000

local macro_rules | `(tactic| walk_at "CompSrc") => `(tactic| (refine src_halt ?_))
local macro_rules | `(tactic| walk_at "eval ListComp") => `(tactic| (k_here; k_dflt (refine LCg.ListComp_U (F₀ := by k_asm) (by with_unfolding_all rfl) (by decide) (by rfl) (by decide) (by rfl) ?_)))
theorem hexPow_fits {i : Nat} (hi : i < 22) : (baseText "0x" 16 (2 ^ (10 + (i : Int)).toNat)).length ≤ sizeLine := by
  have h1 : (2 : Nat) ^ (10 + i) ≤ 2 ^ 31 := Nat.pow_le_pow_right (by decide) (by omega)
  have e : (10 + (i : Int)).toNat = 10 + i := by omega
  have h2 : ((2 : Int) ^ (10 + i)) = ((2 ^ (10 + i) : Nat) : Int) := by simp
  rw [e, h2]
  have h3 : ((2 ^ (10 + i) : Nat) : Int) ≤ 2 ^ 31 := by exact_mod_cast h1
  have h4 : (0 : Int) ≤ ((2 ^ (10 + i) : Nat) : Int) := Int.natCast_nonneg _
  generalize ((2 ^ (10 + i) : Nat) : Int) = v at h3 h4
  exact baseText_under (by decide +kernel) (by decide) (by omega)
theorem flag_hi {i : Nat} (hi : i < 22) : baseText "0x" 16 (2 ^ (10 + (i : Int)).toNat) = flagName (10 + i) := by
  have e : (10 + (i : Int)).toNat = 10 + i := by omega
  rw [e]
  have h : ∀ i, i < 22 → baseText "0x" 16 (2 ^ (10 + i)) = flagName (10 + i) := by decide +kernel
  exact h i hi
local macro_rules | `(tactic| walk_at "call builtin:hex") => `(tactic| (with_reducible refine P.hex_of_int ?_ (hexPow_fits (by assumption))))
theorem tb_claim (w : World) (mean : ExcName → Option Value) (mg mb : Str → Option Value) (news : List (Addr × Obj)) :
    ClaimL PySem.Challenge.rw_we0007_01.row.prog w (hd.heap_39 w.params) hd.view_39 LO mean mg mb 108 news [] (fun vs => StrsAre vs ((List.range 32).map flagName)) := by
  k_fill
  dsimp only [ClaimL]
  intro dp un gd cn cs a ccd cl outer A₀ base h₀ L m s Q E B F X N T hk hdp hun hret
  refine wpAny_call ?_
  k_dflt cell_enter
  k_steps
  refine ⟨LCg.CompSrc.range rfl (by k_asm) (by k_asm) (by assumption) (by decide) (by rfl) (by exact Nat.le_of_ble_eq_true rfl) ?_⟩
  intro g
  refine rest_each (fun i v => ∃ t, v = .str (flagName (10 + i)) t) ?_ ?_
  · rintro i v I oI C oC D m₂ ys h tk E' hi ⟨t, rfl⟩ hC hx F1 N1 off ne
    try k_fold
    k_steps
    exact ⟨⟨_, congrArg (Value.str · _) (flag_hi hi)⟩⟩
  · intro ys hl hR
    unfold LCg.FinE
    intro D h1 tk1 F1 N1 o1
    try dsimp only
    try k_fold
    k_steps
    rename Fr _ _ _ _ => F9
    rename News _ _ _ _ => N9
    refine hret _ _ _ _ _ ?_ (fun p hp => Heap.lt_size (N1 p ?_).1) F9 (news_keep N9 (by kcf_all))
    · refine strs_eq (StrsAre.append' (ss := (List.range 10).map flagName) (ts := (List.range 22).map (fun i => flagName (10 + i))) ?_ (strs_of hl hR)) (by decide +kernel)
      refine strs_eq (.cons _ _ (.cons _ _ (.cons _ _ (.cons _ _ (.cons _ _ (.cons _ _ (.cons _ _ (.cons _ _ (.cons _ _ (.cons _ _ .nil)))))))))) (by decide +kernel)
    · kcf_m
end

section
open PySem PySem.W PyProof.Rows PySem.Calls PySem.Spec
set_option maxRecDepth 100000

noncomputable abbrev liObj (ax : Addr) (i : Nat) : Obj := { cls := .type "list_iterator", data := .fields #[.ref ax, .int i 0] }
section
variable {prog : Program} {w : World} {A : Around} {E : Value → Shared → Prop} {s : Shared} {h₀ : Heap} {L ax it : Addr} {m : Str → Option Value} {news rest : List (Addr × Obj)} {its : Array Value} {k i : Nat} {x : Value} {Q : Value → Shared → Prop}
theorem li_iter (F : Fr h₀ L s.heap m) (N : News h₀ L s.heap news) (hm : (ax, ({ cls := .type "list", data := .seq its k } : Obj)) ∈ news)
    (h : ∀ (I : Addr) h', Fr h₀ L h' m → News h₀ L h' ((I, liObj ax 0) :: news) → (∀ p ∈ news, p.1 < I) → Q (.ref I) { s with heap := h' }) :
    wpAny (model prog w) A (call (.builtin "iter") [.ref ax]) Q E s := by
  have hl : s.heap.IsList ax its := ⟨_, (N _ hm).1, rfl, _, rfl⟩
  refine call_function_entry (by decide +kernel) (by decide +kernel) kdk_entry_iter (kdk_args_iter _) ?_
  unfold Builtin.«iter»
  refine wpAny_bind (m := someArgs "iter" 1 2 _) (wpAny_of_eq (a := [Value.ref ax]) (by first | rfl | kernel_rfl!) ?_)
  show wpAny _ _ (pyIter (.ref ax) >>= _) _ _ _
  refine wpAny_bind (wpAny_pyIter_list hl ?_)
  exact wpAny_pure ⟨_, rfl, h _ _ (F.push _) (News.push F N _ rfl) (fun q hq => Heap.lt_size (N q hq).1)⟩
theorem li_special {Q : Option Value → Shared → Prop} (hit : s.heap.IsListIter it ax i) (hl : s.heap.IsList ax its) (hx : its[i]? = some x)
    (hQ : ∀ h', h'.get? it = some (liObj ax (i + 1)) → Heap.SameBut it s.heap h' → Q (some x) { s with heap := h' }) (ho : s.heap.get? it = some (liObj ax i)) :
    wpAny (model prog w) A (callSpecial? (.ref it) (Str.ofString "__next__")) Q E s := by
  obtain ⟨ol, hol, _, nl, hdl⟩ := hl
  refine wpAny_callSpecial?_slot (name := Str.ofString "__next__") hit.typeIs slot_listiter_next (wpAny_call_entry slot_listiter_next hit.typeIs entry_listiter_next ?_ (args_listiter_next _))
  show wpAny _ _ (field (.ref it) 0 >>= _) _ _ s
  refine wpAny_bind (wpAny_field ho rfl (x := .ref ax) rfl ?_)
  show wpAny _ _ (if (Value.ref ax == Value.none) = true then _ else _) _ _ s
  rw [if_neg (show ¬ ((Value.ref ax == Value.none) = true) from Bool.false_ne_true)]
  show wpAny _ _ (field (.ref it) 1 >>= _) _ _ s
  refine wpAny_bind (wpAny_field ho rfl (x := .int i 0) rfl ?_)
  show wpAny _ _ (seqItems? (.ref ax) >>= _) _ _ s
  refine wpAny_bind (wpAny_seqItems hol hdl ?_)
  simp only [Int.toNat_natCast, hx]
  refine wpAny_bind (wpAny_setField ho rfl (by simp) (wpAny_pure ⟨x, rfl, hQ _ ?_ (Heap.SameBut.update ..)⟩))
  rw [Heap.get?_update_self _ ho rfl]
  simp [Obj.mapFields, liObj, rawInt]
theorem li_next (F : Fr h₀ L s.heap m) (N : News h₀ L s.heap ((it, liObj ax i) :: rest)) (hr : ∀ p ∈ rest, p.1 ≠ it) (hm : (ax, ({ cls := .type "list", data := .seq its k } : Obj)) ∈ rest) (hx : its[i]? = some x)
    (h : ∀ h', Fr h₀ L h' m → News h₀ L h' ((it, liObj ax (i + 1)) :: rest) → Q x { s with heap := h' }) :
    wpAny (model prog w) A (call (.builtin "next") [.ref it]) Q E s := by
  have hN := N _ List.mem_cons_self
  have hit : s.heap.IsListIter it ax i := ⟨_, hN.1, rfl, rfl⟩
  have hl : s.heap.IsList ax its := ⟨_, (N _ (List.mem_cons_of_mem _ hm)).1, rfl, _, rfl⟩
  refine call_function_entry (by decide +kernel) (by decide +kernel) kdk_entry_next (kdk_args_next _) ?_
  unfold Builtin.«next»
  refine wpAny_bind (m := someArgs "next" 1 2 _) (wpAny_of_eq (a := [Value.ref it]) (by first | rfl | kernel_rfl!) ?_)
  dsimp only
  refine wpAny_bind (wpAny_specialOf (name := Str.ofString "__next__") hit.typeIs slot_listiter_next.lookup ?_)
  refine wpAny_ite_split (fun hab => absurd hab (by decide)) (fun _ => ?_)
  refine wpAny_bind (li_special hit hl hx (fun h' ho' hs => ?_) hN.1)
  refine wpAny_pure ⟨_, rfl, h h' (F.change hs hN.2.1 hN.2.2) fun p hp => ?_⟩
  rcases List.mem_cons.mp hp with rfl | hp
  · exact ⟨ho', hN.2⟩
  · have z := N p (List.mem_cons_of_mem _ hp)
    exact ⟨hs.extBut _ _ (hr p hp) z.1, z.2⟩
end
end

section
open PySem PySem.W PyProof.Rows PySem.Calls PySem.Spec
set_option maxRecDepth 100000
set_option maxHeartbeats 8000000

noncomputable def vstep (v c : Int) : Int := Builtin.bitOr (v * 2 ^ ((6 : Int)).toNat) (Builtin.bitAnd c 63)
noncomputable def vGo (v c : Int) : List Int → Bool
  | [] => Builtin.bitAnd c 64 == 0
  | d :: r => !(Builtin.bitAnd c 64 == 0) && decide (0 ≤ v ∧ v < 1099511627776) && vGo (vstep v d) d r
theorem ints_at {vs : List Value} {ns : List Int} (h : IntsAre vs ns) {j : Nat} {d : Int} {r : List Int} (hd : ns.drop j = d :: r) : ∃ t, vs.toArray[j]? = some (.int d t) := by
  have h1 : ns[j]? = some d := by
    have := List.getElem?_drop (xs := ns) (i := j) (j := 0)
    rw [hd] at this
    simpa using this.symm
  have hl : j < vs.length := by
    rw [h.length]
    exact (List.getElem?_eq_some_iff.mp h1).1
  obtain ⟨n, t, e, hn⟩ := IntsAre.at h j _ (List.getElem?_eq_getElem hl)
  rw [h1] at hn
  cases hn
  exact ⟨t, by rw [List.getElem?_toArray, List.getElem?_eq_getElem hl, e]⟩
theorem drop_next {ns : List Int} {j : Nat} {d : Int} {r : List Int} (hd : ns.drop j = d :: r) : ns.drop (j + 1) = r := by
  have := congrArg (List.drop 1) hd
  simpa [List.drop_drop, Nat.add_comm] using this
set_option hygiene false in
local macro_rules | `(tactic| walk_at "call builtin:next") => `(tactic| (k_here; k_dflt (refine' li_next ?F ?N ?hr ?hm ?hx ?_; (case F => k_asm); (case N => k_asm); (case hr => assumption); (case hm => assumption); (case hx => assumption)); intro h' F' N'; (try dsimp only)))
theorem wp_halt {M : Model} {A : Around} {α : Type} {t : Sem α} {Q : α → Shared → Prop} {E : Value → Shared → Prop} {s : Shared} (h : Halt (wpAny M A t Q E s)) : wpAny M A t Q E s := h.out
noncomputable def ViJ (I ax : Addr) (ns : List Int) (suf : List Int) (V : Int) (fin : Nat) (rest : List (Addr × Obj)) (n : Nat) (m : Str → Option Value) (nx : List (Addr × Obj)) : Prop :=
  ∃ (v c : Int) (r : List Int) (j : Nat) (t t' : Tok), n = r.length ∧ vGo v c r = true ∧ r.foldl vstep v = V ∧ ns.drop j = r ++ suf ∧ j + r.length = fin ∧ nx = (I, liObj ax j) :: rest ∧
    m = (fun z => if z = Str.ofString "val" then some (.int v t) else if z = Str.ofString "b" then some (.int c t') else if z = Str.ofString "iterator" then some (.ref I) else none)
set_option hygiene false in
local macro_rules | `(tactic| walk_at $wk:str) => if ["exec While BinOp", "exec While"].contains wk.getString then `(tactic| (refine wp_halt ?_)) else Lean.Macro.throwUnsupported
theorem vi_claim (w : World) (mean : ExcName → Option Value) (mg mb : Str → Option Value) (rest : List (Addr × Obj)) (I ax : Addr) (k p : Nat) (vs : List Value) (ns : List Int) (c : Int) (r suf : List Int) (hi : IntsAre vs ns)
    (hdr : ns.drop p = c :: (r ++ suf)) (hg : vGo (Builtin.bitAnd c 63) c r = true) (V : Int) (hVV : r.foldl vstep (Builtin.bitAnd c 63) = V) (hr : ∀ q ∈ rest, q.1 ≠ I) (hm : (ax, W.listOf vs.toArray k) ∈ rest) :
  ∀ (dp un : Nat) (gd : Option (List Code)) (cn : Str) (cs : Scope) (a : Addr) (ccd : Value) (cl : List (Str × Addr)) (outer : List Env) (A₀ : Around) (base h₀ : Heap) (L : Addr) (m : Str → Option Value) (s : Shared) (Q E : Value → Shared → Prop),
    Below A₀ base outer h₀ → Fr h₀ L s.heap m → (hd.heap_39 w.params).In h₀ → News h₀ L s.heap ((I, liObj ax p) :: rest) → Top hd.view_39 LO mean mg mb h₀ → cs.kind = .function →
    dp + 1 < recursionLimit → un + 8 < cLine →
    (∀ t h' tk', Fr h₀ L h' m → News h₀ L h' ((I, liObj ax (p + 1 + r.length)) :: rest) → Q (.int V t) { s with heap := h', toks := tk' }) →
      wpAny (model PySem.Challenge.rw_we0007_01.row.prog w) (ktrTop dp un gd cn cs L a ccd cl outer) (call (.ref 46) [.ref I]) Q E s := by
  k_fill
  intro dp un gd cn cs a ccd cl outer A₀ base h₀ L m s Q E B F X N T hk hdp hun hret
  subst hVV
  obtain ⟨tc, hc⟩ := ints_at hi hdr
  refine wpAny_call ?_
  k_dflt cell_enter
  k_steps
  rename Fr _ _ _ _ => F1
  rename News _ _ _ _ => N1
  refine ⟨?_⟩
  refine' While_inv (ViJ I ax ns suf (r.foldl vstep (Builtin.bitAnd c 63)) (p + 1 + r.length) rest) F1 N1 (n₀ := r.length) ?j0 ?_ (by passes_own)
  case j0 =>
    refine' ⟨_, c, r, p + 1, _, _, rfl, hg, rfl, drop_next hdr, rfl, rfl, ?m⟩
    case m =>
      funext z
      rw [← lookup1]
      rfl
  · rintro n m₁ nx h₁ tk₁ F1 N1 ⟨v, c, r', j, t, t', rfl, hg', hV, hdj, hj, rfl, rfl⟩
    cases r' with
    | nil =>
      have hz : Builtin.bitAnd c 64 = 0 := by simpa [vGo] using hg'
      try k_fold
      k_steps
      · exact absurd hz (by assumption)
      · rename Fr h₀ L _ _ => F9
        rename News h₀ L _ _ => N9
        simp only [List.length_nil, Nat.add_zero] at hj
        subst hj
        simp only [List.foldl_nil] at hV
        subst hV
        exact hret _ _ _ F9 N9
    | cons d r'' =>
      obtain ⟨⟨hz, hb0, hb1⟩, hg2⟩ : (Builtin.bitAnd c 64 ≠ 0 ∧ 0 ≤ v ∧ v < 1099511627776) ∧ vGo (vstep v d) d r'' = true := by
        simpa [vGo] using hg'
      obtain ⟨td, hd2⟩ := ints_at hi hdj
      have hb2 : v * 2 ^ ((6 : Int)).toNat < 4611686018427387904 := by
        have : ((6 : Int)).toNat = 6 := rfl
        rw [this]; omega
      have hb3 : -4611686018427387904 < v * 2 ^ ((6 : Int)).toNat := by
        have : ((6 : Int)).toNat = 6 := rfl
        rw [this]; omega
      try k_fold
      k_steps
      · refine' WhileStep.intro (n' := r''.length) (by assumption) (by assumption) ?n ?j
        case n => exact Nat.lt_succ_self _
        case j =>
          refine' ⟨_, d, r'', j + 1, _, _, rfl, hg2, ?hv, drop_next hdj, ?hj, rfl, ?m⟩
          case hv => exact hV
          case hj =>
            rw [← hj, List.length_cons]
            omega
          case m =>
            funext z
            by_cases h1 : z = Str.ofString "val"
            · rw [if_pos h1, if_pos h1]
              rfl
            · simp only [if_neg h1]
              by_cases h2 : z = Str.ofString "b"
              · rw [if_pos h2, if_pos h2]
              · simp only [if_neg h2]
      · exact absurd (by assumption) hz
end

section
open PySem PySem.W PyProof.Rows PySem.Calls PySem.Spec
set_option maxRecDepth 100000

section
variable {prog : Program} {w : World} {A : Around} {s : Shared} {env : Env} {h₀ : Heap} {L : Addr}
theorem str_st {I : Addr} {ty : String} {y : Str} {t : Tok} : ∀ i (h h' : Heap) (o : Obj) (nw : List (Addr × Obj)), h.IsStrIter I ty y t i → h.get? I = some o → h'.get? I = some o → (∀ b o, h₀.get? b = some o → h'.get? b = some o) → News h₀ L h' nw → True → h'.IsStrIter I ty y t i :=
  fun i h h' o nw st e e' _ _ _ => by
    obtain ⟨o', q, r⟩ := st
    rw [e] at q; cases q
    exact ⟨o, e', r⟩
/-- a comprehension over the signs of a text -/
theorem ListComp_str {E : Value → Shared → Prop} {m : Str → Option Value} {elt iter : Expr} {x : Str} {px : Pos} {scope : Scope} {cl : List (Str × Addr)} {pos : Pos} {Q : Value → Shared → Prop} (F₀ : Fr h₀ L s.heap m)
    (hclos : closureFor scope env = pure cl) (hcell : ∀ y ∈ scope.names, y.2 ≠ .cell) (hkind : scope.kind = .function)
    (hnames : ∀ y ∈ scope.names, y.2 = .local → scope.names.lookup y.1 = some .local) (hx : scope.names.lookup x = some .local)
    (h : wpAny (model prog w) A (eval iter env) (fun xv s₁ => Halt (∃ y t news, xv = .str y t ∧ A.handled = none ∧ Fr h₀ L s₁.heap m ∧ News h₀ L s₁.heap news ∧ y.cps.size ≤ sizeLine ∧
      ∀ g, LCg.CompRest prog w A h₀ L m env elt x scope cl { s₁ with heap := g } (fun _ => True) (SignAt y) (LCg.FinE h₀ L m { s₁ with heap := g } Q) y.cps.size 0 [] news)) E s)
    (hs : ∀ x, foldedSetIterable iter env x = pure x := by intro _; rfl) :
    wpAny (model prog w) A (eval (.ListComp elt [⟨.Name x px, iter, [], 0⟩] scope pos) env) Q E s := by
  rw [eval_ListComp]
  refine wpAny_comprehension_free (use := none) rfl hs hclos hkind hnames (wpAny_mono h (fun xv s₁ h₁ => ?_) fun _ _ e => e)
  obtain ⟨⟨y, t, news, rfl, hh, F, N, hsz, R⟩⟩ := h₁
  have fin : ∀ (D C : Addr) (h' : Heap) (tk : Nat) (m' : Str → Option Value) (ys : List Value) (news' : List (Addr × Obj)), Fr h₀ L h' m → News h₀ L h' ((D, LCg.lst ys) :: news') → LCg.Off1 D news' → h'.Ns C m' → h₀.get? C = none → h₀.get? D = none → C ≠ L → D ≠ L → C ≠ D → (∀ p ∈ news', p.1 ≠ C) → LCg.FinE h₀ L m { s₁ with heap := h' } Q ys news' → ∃ m'', h'.Ns C m'' ∧ ∀ h'', Heap.SameBut C h' h'' → Q (.ref D) { s₁ with heap := h'', toks := tk } := by
    intro D C h' tk m' ys news' F' N' o1 hn hC₀ hD₀ hCL hDL hCD offC fn
    refine ⟨m', hn, fun h'' hs'' => fn D h'' tk (F'.change hs'' hCL hC₀) (fun p hp => ?_) o1⟩
    refine ⟨hs''.extBut _ _ ?_ (N' p hp).1, (N' p hp).2⟩
    rcases List.mem_cons.mp hp with rfl | hp
    · exact Ne.symm hCD
    · exact offC p hp
  have hlt : ∀ {T : String} {b : Addr}, b ∈ [s₁.heap.objs.size] → b < (s₁.heap.push { cls := .type T, data := .fields #[.str y t, .int 0 0] }).objs.size := fun {T} {b} hb => by
    rw [List.mem_singleton.mp hb]
    show s₁.heap.objs.size < (s₁.heap.push _).objs.size
    rw [Heap.size_push]; exact Nat.lt_succ_self _
  cases ha : y.cps.all (· < 128)
  · refine wpAny_pyIter_wide ha ?_
    refine LCg.block_U (Walks.strWide hh s₁.heap.objs.size y t) hsz (fun i h st => ⟨_, st.choose_spec.1⟩) str_st hcell hkind hx ⟨_, Heap.get?_push_size _ rfl, rfl, rfl⟩ (fun b hb => hlt hb)
      (F.keeps fun _ _ e => Heap.get?_push_of_some _ e) (N.grown fun _ _ e => Heap.get?_push_of_some _ e) (Nat.ne_of_lt F.ns.lt) (next_is_new F) (fun p hp => Nat.ne_of_lt (Heap.lt_size (N p hp).1)) trivial (R _) ?_
    intro D C h' tk m' ys news' F' N' o1 hn hC₀ hD₀ hCL hDL hCD offC fn
    exact fin D C h' tk m' ys news' F' N' o1 hn hC₀ hD₀ hCL hDL hCD offC fn
  · refine wpAny_pyIter_ascii ha ?_
    refine LCg.block_U (Walks.strAscii hh s₁.heap.objs.size y t) hsz (fun i h st => ⟨_, st.choose_spec.1⟩) str_st hcell hkind hx ⟨_, Heap.get?_push_size _ rfl, rfl, rfl⟩ (fun b hb => hlt hb)
      (F.keeps fun _ _ e => Heap.get?_push_of_some _ e) (N.grown fun _ _ e => Heap.get?_push_of_some _ e) (Nat.ne_of_lt F.ns.lt) (next_is_new F) (fun p hp => Nat.ne_of_lt (Heap.lt_size (N p hp).1)) trivial (R _) ?_
    intro D C h' tk m' ys news' F' N' o1 hn hC₀ hD₀ hCL hDL hCD offC fn
    exact fin D C h' tk m' ys news' F' N' o1 hn hC₀ hD₀ hCL hDL hCD offC fn

/-- for x in a text: by an invariant over the frame's map and the ledger -/
theorem For_str {E : Value → Shared → Prop} {Q : Flow → Shared → Prop} {x : Str} {px pos : Pos} {iter : Expr} {body : List Stmt} {m₀ : Str → Option Value} {news : List (Addr × Obj)}
    (_F : Fr h₀ env.locals s.heap m₀) (_N : News h₀ env.locals s.heap news) (y : Str) (J : Nat → (Str → Option Value) → List (Addr × Obj) → Prop)
    (hh : A.handled = none) (hx : env.kindOf x = some .local)
    (hp : (env.scope.kind == .class || (env.scope.kind == .module && env.locals != env.globals)) = false)
    (h : wpAny (model prog w) A (eval iter env) (fun xv s₁ => Halt (∃ ty, xv = .str y ty ∧ Fr h₀ env.locals s₁.heap m₀ ∧ News h₀ env.locals s₁.heap news ∧ J 0 m₀ news ∧
      (∀ i c t m₁ news₁ h tk own, y.cps[i]? = some c → news₁.map (·.1) = news.map (·.1) → OwnOff own (news.map (·.1)) → J i m₁ news₁ → Fr h₀ env.locals h (fun y => if y = x then some (.str ⟨#[c]⟩ t) else m₁ y) → News h₀ env.locals h (news₁ ++ own) →
        wpAny (model prog w) A (execs body env) (InvPostN h₀ env.locals (J (i + 1)) own (news.map (·.1)) { s₁ with heap := h, toks := tk } Q) E { s₁ with heap := h, toks := tk }) ∧
      (∀ m₁ news₁ h tk, J y.cps.size m₁ news₁ → Fr h₀ env.locals h m₁ → News h₀ env.locals h news₁ → Q .next { s₁ with heap := h, toks := tk }))) E s)
    (hs : ∀ x, foldedSetIterable iter env x = pure x := by intro _; rfl)
    (hE : PassesOwn (model prog w) A env E := by passes_own) :
    wpAny (model prog w) A (exec (.For (.Name x px) iter body [] pos) env) Q E s := by
  refine wpAny_For (wpAny_mono h (fun xv s₁ h₁ => ?_) fun _ _ e => e) hs
  obtain ⟨⟨ty, rfl, F, N, hj, turn, done⟩⟩ := h₁
  refine wpAny_pyIter_str fun o St W' hst => ?_
  have W := W' A hh
  have hnew : ∀ p ∈ news, p.1 ≠ s₁.heap.objs.size := fun p hp => Nat.ne_of_lt (Heap.lt_size (N p hp).1)
  let J' : Nat → (Str → Option Value) → List (Addr × Obj) → Prop := fun i m₁ news₁ => news₁.map (·.1) = news.map (·.1) ∧ J i m₁ news₁
  refine forLoop_else (R := fun r s' => match r with | .ok f => Q f s' | .error e => cameBackBy (model prog w) A env E e s') W hx hp ?_ ?_ ?_ hst (F.push _) (fun p hp => ⟨Heap.get?_push_of_some _ (N p hp).1, (N p hp).2⟩) J' ⟨rfl, hj⟩ ?_ ?_
  · intro hm
    exact absurd F.ns.lt ((List.mem_singleton.mp hm) ▸ Nat.lt_irrefl _)
  · intro b hb
    rw [List.mem_singleton.mp hb]
    exact next_is_new F
  · intro p hp hI
    exact hnew p hp (List.mem_singleton.mp hI)
  · rintro i v m₁ news₁ s₂ own ⟨hh', tk', rfl⟩ hin ⟨c, t, hc, rfl⟩ ⟨hadr, hJ⟩ hoff hown _ _ _ F₁ N₁
    have hsep : OwnOff own (news.map (·.1)) := by
      intro p hp b hb e
      obtain ⟨q, hq, rfl⟩ := List.mem_map.mp hb
      exact hnew q hq (e ▸ List.mem_singleton.mp (hown p hp))
    have N₂ : News h₀ env.locals hh' (news₁ ++ own) := fun p hp => N₁ p ((List.mem_append.mp hp).elim (fun h => List.mem_append.mpr (.inr h)) fun h => List.mem_append.mpr (.inl h))
    refine wpAny_mono (turn i c t m₁ news₁ hh' tk' own hc hadr hsep hJ F₁ N₂) (fun f s₂ p => ?_) (fun e s' he => hE e s' he)
    have fin : InvEndN h₀ env.locals (J (i + 1)) own (news.map (·.1)) { s₁ with heap := hh', toks := tk' } s₂ → LoopStepU h₀ env.locals [s₁.heap.objs.size] own (J' (i + 1)) { s₁ with heap := hh', toks := tk' } .next s₂ := by
      rintro ⟨h', tk, m', news', nx, e, F', N', hn, ho, ha, hm⟩
      refine ⟨rfl, h', tk, m', nx, e, F', fun p hp => N' p ((List.mem_append.mp hp).elim (ho p) (hn p)), fun p hp hq => ?_, ha, hm⟩
      have h1 : p.1 ∈ nx.map (·.1) := List.mem_map.mpr ⟨p, hp, rfl⟩
      rw [ha] at h1
      obtain ⟨q, hq1, hq2⟩ := List.mem_map.mp h1
      exact hnew q hq1 (by rw [hq2]; exact List.mem_singleton.mp hq)
    cases f with
    | ret v => exact .ret p
    | brk => exact .brk p
    | next => exact .next (fin p)
    | cont => exact .cont (fin p)
  · rintro h' tk m' news' F' N' _ ⟨_, hJ⟩
    exact wpAny_execs_nil (done m' news' h' tk hJ F' N')
end
end

section
open PySem PySem.W PyProof.Rows PySem.Calls PySem.Spec
set_option maxRecDepth 100000
set_option maxHeartbeats 8000000

noncomputable def rdMean (n : Int) : Int := if n = 13 then 0 else if n = 10 then 1 else if n = 38 then 1 else if n = 8838203 then 0 else if n = 183611 then 0 else if n = 163131 then 0 else if n = 836173115 then 0 else if n = 229691 then 0 else 2
noncomputable def rdVal : List Int → Int
  | [] => 0
  | c :: r => r.foldl vstep (Builtin.bitAnd c 63)
noncomputable def rdOk : List Int → Bool
  | [] => false
  | c :: r => vGo (Builtin.bitAnd c 63) c r
noncomputable def rdStep (st : List Int × Int × List Int) (c : Int) : List Int × Int × List Int :=
  if c < 64 then
    if rdVal (st.1 ++ [c]) = 46 then ([], 1 - st.2.1, st.2.2) else if rdVal (st.1 ++ [c]) = 35 then ([], st.2.1, st.2.2) else ([], st.2.1, st.2.2 ++ [Builtin.bitXor (rdMean (rdVal (st.1 ++ [c]))) st.2.1])
  else (st.1 ++ [c], st.2.1, st.2.2)
noncomputable def rdGood (st : List Int × Int × List Int) (c : Int) : Bool := !(decide (c < 64)) || rdOk (st.1 ++ [c])
noncomputable def rdAll (st : List Int × Int × List Int) : List Int → Bool
  | [] => true
  | c :: r => rdGood st c && decide (0 ≤ st.2.1 ∧ st.2.1 ≤ 1) && rdAll (rdStep st c) r
noncomputable def codes (x : Str) : List Int := x.cps.toList.map Int.ofNat

noncomputable def RdJ (T I D M : Addr) (oM : Obj) (ys : List Value) (x : Str) (tkx : Tok) (news : List (Addr × Obj)) (i : Nat) (m : Str → Option Value) (nx : List (Addr × Obj)) : Prop :=
  ∃ (st : List Int × Int × List Int) (us : List Value) (k j : Nat) (t : Tok) (u : Str → Option Value), ((codes x).take i).foldl rdStep ([], 0, []) = st ∧ rdAll st ((codes x).drop i) = true ∧
    (codes x).drop j = st.1 ++ (codes x).drop i ∧ IntsAre us st.2.2 ∧ us.length ≤ i ∧ nx = (T, W.listOf us.toArray k) :: (I, liObj D j) :: (D, LCg.lst ys) :: (M, oM) :: news ∧
    m = (fun z => if z = Str.ofString "turned" then some (.int st.2.1 t) else if z = Str.ofString "told" then some (.ref T) else if z = Str.ofString "octets" then some (.ref I) else if z = Str.ofString "means" then some (.ref M) else if z = Str.ofString "sent" then some (.str x tkx) else u z)
noncomputable abbrev rdJN {h₀ h : Heap} {L T I D M : Addr} {oT oI oD oM : Obj} {news : List (Addr × Obj)} (_ : News h₀ L h ((T, oT) :: (I, oI) :: (D, oD) :: (M, oM) :: news)) (ys : List Value) (x : Str) (tkx : Tok) := RdJ T I D M oM ys x tkx news
theorem news_tail {h₀ h : Heap} {L : Addr} {a : Addr × Obj} {r : List (Addr × Obj)} (N : News h₀ L h (a :: r)) : News h₀ L h r := fun p hp => N p (List.mem_cons_of_mem _ hp)
theorem mem_third {h₀ h : Heap} {L : Addr} {a b c : Addr × Obj} {r : List (Addr × Obj)} (_ : News h₀ L h (a :: b :: c :: r)) : c ∈ a :: c :: r := .tail _ (.head _)
theorem allLt_mem {T : Nat} : ∀ {l : List (Addr × Obj)}, AllLt T l → ∀ p ∈ l, @LT.lt Nat _ p.1 T := by
  intro l
  induction l with
  | nil => intro _ p hp; cases hp
  | cons q r ih =>
    intro h p hp
    rcases List.mem_cons.mp hp with rfl | hp
    · exact h.1
    · exact ih h.2 p hp
theorem off3 {T I D M : Addr} {oI oD oM : Obj} {news own : List (Addr × Obj)} (h1 : @LT.lt Nat _ I T) (h2 : @LT.lt Nat _ D T) (h3 : @LT.lt Nat _ M T) (h4 : AllLt T news) (h5 : ∀ p ∈ own, p.1 ≠ T) : ∀ p ∈ (I, oI) :: (D, oD) :: (M, oM) :: (news ++ own), p.1 ≠ T := by
  have mem : ∀ {l : List (Addr × Obj)}, AllLt T l → ∀ p ∈ l, @LT.lt Nat _ p.1 T := by
    intro l
    induction l with
    | nil => intro _ p hp; cases hp
    | cons q r ih =>
      intro h p hp
      rcases List.mem_cons.mp hp with rfl | hp
      · exact h.1
      · exact ih h.2 p hp
  intro p hp
  rcases List.mem_cons.mp hp with rfl | hp
  · exact Nat.ne_of_lt h1
  rcases List.mem_cons.mp hp with rfl | hp
  · exact Nat.ne_of_lt h2
  rcases List.mem_cons.mp hp with rfl | hp
  · exact Nat.ne_of_lt h3
  rcases List.mem_append.mp hp with hp | hp
  · exact Nat.ne_of_lt (mem h4 p hp)
  · exact h5 p hp
theorem off3' {T I D M : Addr} {oT oD oM : Obj} {news own : List (Addr × Obj)} (h1 : @LT.lt Nat _ I T) (h2 : @LT.lt Nat _ D I) (h3 : @LT.lt Nat _ M I) (h4 : AllLt I news) (h5 : ∀ p ∈ own, p.1 ≠ I) : ∀ p ∈ (T, oT) :: (D, oD) :: (M, oM) :: (news ++ own), p.1 ≠ I := by
  intro p hp
  rcases List.mem_cons.mp hp with rfl | hp
  · exact Ne.symm (Nat.ne_of_lt h1)
  exact off3 (oI := oD) (oD := oD) (oM := oM) h2 h2 h3 h4 h5 p (List.mem_cons_of_mem _ hp)
theorem news_swap {h₀ h : Heap} {L : Addr} {a b : Addr × Obj} {r : List (Addr × Obj)} (N : News h₀ L h (a :: b :: r)) : News h₀ L h (b :: a :: r) := fun p hp => N p (by
  rcases List.mem_cons.mp hp with rfl | hp
  · exact .tail _ (.head _)
  rcases List.mem_cons.mp hp with rfl | hp
  · exact .head _
  · exact .tail _ (.tail _ hp))
theorem take_snoc {ns : List Int} {i : Nat} {c : Int} {r : List Int} (h : ns.drop i = c :: r) : ns.take (i + 1) = ns.take i ++ [c] := by
  have h1 : ns[i]? = some c := by
    have := List.getElem?_drop (xs := ns) (i := i) (j := 0)
    rw [h] at this
    simpa using this.symm
  rw [List.take_add_one, h1]; rfl
theorem codes_drop {x : Str} {i c : Nat} (h : x.cps[i]? = some c) : (codes x).drop i = Int.ofNat c :: (codes x).drop (i + 1) := by
  have hl : i < (codes x).length := by
    obtain ⟨h1, _⟩ := Array.getElem?_eq_some_iff.mp h
    simpa [codes] using h1
  rw [List.drop_eq_getElem_cons hl]
  congr 1
  obtain ⟨h1, h2⟩ := Array.getElem?_eq_some_iff.mp h
  simp [codes, h2]
theorem codes_ints {ys : List Value} {x : Str} (hl : ys.length = x.cps.size) (hR : ∀ (i : Nat) (v : Value), ys[i]? = some v → ∃ c t, x.cps[i]? = some c ∧ v = Value.int (Int.ofNat c) t) : IntsAre ys (codes x) := by
  have h : IntsAre ys ((List.range x.cps.size).map (fun i => (codes x).getD i 0)) := ints_of hl (by
    intro i v hi
    obtain ⟨c, t, hc, rfl⟩ := hR i v hi
    refine ⟨t, congrArg (Value.int · t) ?_⟩
    simp [codes, hc])
  have e : (List.range x.cps.size).map (fun i => (codes x).getD i 0) = codes x := by
    apply List.ext_getElem?
    intro i
    by_cases hi : i < x.cps.size
    · simp [codes, hi]
    · simp [codes, hi]
  rwa [e] at h
local macro_rules | `(tactic| walk_at "eval ListComp") => `(tactic| (k_here; k_dflt (refine ListComp_str (F₀ := by k_asm) (by with_unfolding_all rfl) (by decide) (by rfl) (by decide) (by rfl) ?_)))
local macro_rules | `(tactic| walk_at "call builtin:iter") => `(tactic| (k_here; k_dflt (refine' li_iter ?F ?N ?hm ?_; (case F => k_asm); (case N => k_asm); (case hm => kcf_m)); intro I' h' F' N' l1'; (try k_lt l1'); (try dsimp only)))
local macro_rules | `(tactic| walk_at "call ref") => `(tactic| (k_here; (k_dflt (refine' vi_claim _ _ _ _ _ _ _ _ _ _ _ _ _ _ ?hi ?hd ?hg _ ?hV ?hr ?hm _ _ _ _ _ _ _ _ _ _ _ _ _ _ _ _ _ ?k1 ?k2 ?k3 ?k4 ?k5 ?kK ?kd ?ku ?_)); (case hi => assumption); (case hd => assumption); (case hg => assumption); (case hV => assumption); (case hr => assumption); (case hm => assumption); (case k1 => k_asm); (case k2 => k_asm); (case k3 => k_asm); (case k4 => exact news_swap (by k_asm)); (case k5 => k_asm); (case kK => first | exact rfl | assumption); (case kd => ktr_room); (case ku => ktr_units); intro t9 h9 tk9 F9 N9'; have N9 := news_swap N9'; clear N9'; (try dsimp only); (try k_fold)))
local macro_rules | `(tactic| walk_at "call builtin:list.append") => `(tactic| (k_here; (with_reducible show wpAny _ _ (call (Value.builtin _) [Value.ref _, _]) _ _ _); k_dflt (refine' append_K ?k1 ?k2 ?k3 ?_ ?z; (case k1 => k_asm); (case k2 => k_asm); (case k3 => exact Upd.head (by assumption)); (case z => (simp only [List.size_toArray, sizeLine_eq]; omega)); k_whole); intro h' F' N'; (try k_sweep)))
theorem rdget {V : Int} {v : Value} {t0 t1 t2 t3 t4 t5 t6 t7 t8 t9 t10 t11 t12 t13 t14 t15 : Tok}
    (h : PyProof.V.Flat v ((PySem.Spec.lookup (PyData.int V) (intData [(Value.int 13 t0, Value.int 0 t1), (Value.int 10 t2, Value.int 1 t3), (Value.int 38 t4, Value.int 1 t5), (Value.int 8838203 t6, Value.int 0 t7), (Value.int 183611 t8, Value.int 0 t9), (Value.int 163131 t10, Value.int 0 t11), (Value.int 836173115 t12, Value.int 0 t13), (Value.int 229691 t14, Value.int 0 t15)])).getD (PyData.int 2))) :
    ∃ t, v = .int (rdMean V) t := by
  have e : (PySem.Spec.lookup (PyData.int V) (intData [(Value.int 13 t0, Value.int 0 t1), (Value.int 10 t2, Value.int 1 t3), (Value.int 38 t4, Value.int 1 t5), (Value.int 8838203 t6, Value.int 0 t7), (Value.int 183611 t8, Value.int 0 t9), (Value.int 163131 t10, Value.int 0 t11), (Value.int 836173115 t12, Value.int 0 t13), (Value.int 229691 t14, Value.int 0 t15)])).getD (PyData.int 2) = PyData.int (rdMean V) := by
    simp only [intData, PySem.Spec.lookup, PySem.Spec.same, rdMean, datumOf, Option.getD_some, beq_iff_eq, eq_comm (b := V)]
    repeat' (split <;> try rfl)
  rw [e] at h
  exact h.int_inv
theorem rd_end {h₀ h' : Heap} {L T I D M : Addr} {oM : Obj} {ys : List Value} {x : Str} {tkx t : Tok} {news own : List (Addr × Obj)} {i j' k' : Nat} {m' : Str → Option Value} {st st' : List Int × Int × List Int} {us' : List Value} {arr : Array Value} {c : Int} {adr : List Addr} {s₁ : Shared} {tk : Nat}
    (F : Fr h₀ L h' m') (N : News h₀ L h' ((T, W.listOf arr k') :: (I, liObj D j') :: (D, LCg.lst ys) :: (M, oM) :: (news ++ own))) (harr : arr = us'.toArray)
    (hadr : adr = T :: I :: D :: M :: news.map (·.1))
    (h1 : m' (Str.ofString "turned") = some (.int st'.2.1 t)) (h2 : m' (Str.ofString "told") = some (.ref T)) (h3 : m' (Str.ofString "octets") = some (.ref I)) (h4 : m' (Str.ofString "means") = some (.ref M)) (h5 : m' (Str.ofString "sent") = some (.str x tkx))
    (hst : ((codes x).take i).foldl rdStep ([], 0, []) = st) (hga : rdAll st (c :: (codes x).drop (i + 1)) = true) (hdi : (codes x).drop i = c :: (codes x).drop (i + 1)) (hst' : rdStep st c = st')
    (hdj' : (codes x).drop j' = st'.1 ++ (codes x).drop (i + 1)) (hus : IntsAre us' st'.2.2) (hul : us'.length ≤ i + 1) :
    Halt (InvEndN h₀ L (RdJ T I D M oM ys x tkx news (i + 1)) own adr s₁ { s₁ with heap := h', toks := tk }) := by
  subst harr hadr hst'
  refine ⟨InvEndN.intro (nx := (T, W.listOf us'.toArray k') :: (I, liObj D j') :: (D, LCg.lst ys) :: (M, oM) :: news) F N ⟨_, us', k', j', t, m', ?_, ?_, hdj', hus, hul, rfl, ?_⟩ rfl ?_ ?_⟩
  · rw [take_snoc hdi, List.foldl_append, hst]; rfl
  · simp only [rdAll, Bool.and_eq_true] at hga
    exact hga.2
  · funext z
    by_cases z1 : z = Str.ofString "turned"
    · rw [if_pos z1, z1, h1]
    rw [if_neg z1]
    by_cases z2 : z = Str.ofString "told"
    · rw [if_pos z2, z2, h2]
    rw [if_neg z2]
    by_cases z3 : z = Str.ofString "octets"
    · rw [if_pos z3, z3, h3]
    rw [if_neg z3]
    by_cases z4 : z = Str.ofString "means"
    · rw [if_pos z4, z4, h4]
    rw [if_neg z4]
    by_cases z5 : z = Str.ofString "sent"
    · rw [if_pos z5, z5, h5]
    rw [if_neg z5]
  · intro p hp
    rcases List.mem_cons.mp hp with rfl | hp
    · exact .head _
    rcases List.mem_cons.mp hp with rfl | hp
    · exact .tail _ (.head _)
    rcases List.mem_cons.mp hp with rfl | hp
    · exact .tail _ (.tail _ (.head _))
    rcases List.mem_cons.mp hp with rfl | hp
    · exact .tail _ (.tail _ (.tail _ (.head _)))
    · exact .tail _ (.tail _ (.tail _ (.tail _ (List.mem_append_left _ hp))))
  · intro p hp
    exact .tail _ (.tail _ (.tail _ (.tail _ (List.mem_append_right _ hp))))
theorem drop_seg {ns : List Int} {j : Nat} {d : Int} {r suf : List Int} (h : ns.drop j = d :: (r ++ suf)) : ns.drop (j + 1 + r.length) = suf := by
  have := congrArg (List.drop (1 + r.length)) h
  rw [List.drop_drop] at this
  rw [Nat.add_assoc, this, Nat.add_comm 1, List.drop_succ_cons, List.drop_left]
theorem step_46 {st : List Int × Int × List Int} {c d V : Int} {r : List Int} (hc : c < 64) (h : st.1 ++ [c] = d :: r) (hV : r.foldl vstep (Builtin.bitAnd d 63) = V) (e : V = 46) : rdStep st c = ([], 1 - st.2.1, st.2.2) := by
  unfold rdStep
  rw [if_pos hc, h, if_pos (show rdVal (d :: r) = 46 from hV.trans e)]
theorem step_35 {st : List Int × Int × List Int} {c d V : Int} {r : List Int} (hc : c < 64) (h : st.1 ++ [c] = d :: r) (hV : r.foldl vstep (Builtin.bitAnd d 63) = V) (e : V = 35) : rdStep st c = ([], st.2.1, st.2.2) := by
  unfold rdStep
  rw [if_pos hc, h, show rdVal (d :: r) = V from hV, e]
  rfl
theorem step_get {st : List Int × Int × List Int} {c d V : Int} {r : List Int} (hc : c < 64) (h : st.1 ++ [c] = d :: r) (hV : r.foldl vstep (Builtin.bitAnd d 63) = V) (e : V ≠ 46) (e' : V ≠ 35) : rdStep st c = ([], st.2.1, st.2.2 ++ [Builtin.bitXor (rdMean V) st.2.1]) := by
  unfold rdStep
  rw [if_pos hc, h, show rdVal (d :: r) = V from hV, if_neg e, if_neg e']
theorem step_big {st : List Int × Int × List Int} {c : Int} (hc : ¬ c < 64) : rdStep st c = (st.1 ++ [c], st.2.1, st.2.2) := by
  unfold rdStep
  rw [if_neg hc]
theorem ints_snoc {vs : List Value} {ys : List Int} (h : IntsAre vs ys) (y : Int) (t : Tok) : IntsAre (vs ++ [Value.int y t]) (ys ++ [y]) := IntsAre.append h (.cons y t .nil)
theorem inv_halt {h₀ : Heap} {L : Addr} {J : (Str → Option Value) → List (Addr × Obj) → Prop} {own : List (Addr × Obj)} {adr : List Addr} {s₁ s₂ : Shared} (h : Halt (InvEndN h₀ L J own adr s₁ s₂)) : InvEndN h₀ L J own adr s₁ s₂ := h.out
local macro_rules | `(tactic| walk_at $wk:str) => if ["exec For Name Name", "exec For Name Name cons nil", "InvEndN"].contains wk.getString then `(tactic| (first | refine inv_halt ?_ | refine wp_halt ?_)) else Lean.Macro.throwUnsupported
theorem rd_claim (w : World) (mean : ExcName → Option Value) (mg mb : Str → Option Value) (news : List (Addr × Obj)) (x : Str) (tkx : Tok) (hx : x.length ≤ 200) (hg : rdAll ([], 0, []) (codes x) = true) :
    ClaimL PySem.Challenge.rw_we0007_01.row.prog w (hd.heap_39 w.params) hd.view_39 LO mean mg mb 103 news [.str x tkx] (fun vs => IntsAre vs ((codes x).foldl rdStep ([], 0, [])).2.2) := by
  k_fill
  dsimp only [ClaimL]
  intro dp un gd cn cs a ccd cl outer A₀ base h₀ L m s Q E B F X N T hk hdp hun hret
  refine wpAny_call ?_
  k_dflt cell_enter
  k_steps
  refine ⟨_, _, _, rfl, rfl, by k_asm, by k_asm, ?_, ?_⟩
  · exact Nat.le_trans hx (by decide +kernel)
  intro g
  refine rest_each (fun i v => ∃ c t, x.cps[i]? = some c ∧ v = .int (Int.ofNat c) t) ?_ ?_
  · rintro i v I oI C oC D m₂ ys h tk E' hi ⟨c, u, hc, rfl⟩ hC hx F1 N1 off ne
    try k_fold
    k_steps
    exact ⟨⟨c, _, hc, rfl⟩⟩
  · intro ys hl hR
    unfold LCg.FinE
    intro D h1 tk1 F1 N1 o1
    try dsimp only
    try k_fold
    k_steps
    rename Fr _ _ _ _ => F2
    rename News _ _ _ _ => N2
    rename (_ ∧ _ ∧ _ ∧ _ ∧ AllLt _ _) => hlT0
    rename (_ ∧ _ ∧ _ ∧ AllLt _ _) => hlT
    rename (_ ∧ _ ∧ AllLt _ _) => hlI
    have N3 := news_tail N2
    rename Obj => oM
    refine ⟨?_⟩
    refine' For_str F2 N3 x (rdJN N3 ys x tkx) rfl rfl rfl ?_ (by intro _; rfl) (by passes_own)
    try k_fold
    k_steps
    refine ⟨_, rfl, by assumption, N3, ?_, ?_, ?_⟩
    · refine' ⟨_, [], 0, 0, _, fun _ => none, rfl, hg, rfl, .nil, Nat.zero_le _, rfl, ?m⟩
      case m =>
        funext z
        rw [← lookup1]
        rfl
    · rintro i c t m₁ nx h tk own hc hadr hoff ⟨st, us, k, j, t', u, hst, hga, hdj, hus, hul, rfl, rfl⟩ F1 N1
      simp only [List.cons_append] at N1
      have hdi := codes_drop hc
      rw [hdi] at hdj hga
      have hio := off3' (oT := W.listOf us.toArray k) (oD := LCg.lst ys) (oM := oM) hlT.1 hlI.1 hlI.2.1 hlI.2.2 (fun p hp => hoff p hp _ (.tail _ (.head _)))
      by_cases hc64 : (Int.ofNat c) < 64
      · obtain ⟨d, r, hdr⟩ : ∃ d r, st.1 ++ [Int.ofNat c] = d :: r := by
          cases h : st.1 with
          | nil => exact ⟨_, _, rfl⟩
          | cons a l => exact ⟨_, _, rfl⟩
        have hdj' : (codes x).drop j = d :: (r ++ (codes x).drop (i + 1)) := by
          rw [hdj, ← List.cons_append, ← hdr, List.append_assoc]; rfl
        have hvg : vGo (Builtin.bitAnd d 63) d r = true := by
          have h1 : rdGood st (Int.ofNat c) = true := by
            simp only [rdAll, Bool.and_eq_true] at hga
            exact hga.1.1
          simp only [rdGood, hc64, hdr] at h1
          simpa [rdOk] using h1
        have hap := off3 (oI := liObj D (j + 1 + r.length)) (oD := LCg.lst ys) (oM := oM) hlT.1 hlT.2.1 hlT.2.2.1 hlT.2.2.2 (fun p hp => hoff p hp _ (.head _))
        have hmem := mem_third N1
        have hyi := codes_ints hl hR
        obtain ⟨V, hV⟩ : ∃ V, r.foldl vstep (Builtin.bitAnd d 63) = V := ⟨_, rfl⟩
        have hul2 : us.length ≤ 200 := by
          have h1 : i < x.cps.size := (Array.getElem?_eq_some_iff.mp hc).1
          have h2 : x.cps.size ≤ 200 := hx
          omega
        try k_fold
        k_steps
        · exact rd_end (by assumption) (by assumption) rfl rfl rfl rfl rfl rfl rfl hst hga hdi (step_46 hc64 hdr hV (by assumption)) (drop_seg hdj') hus (by omega)
        · obtain ⟨tv, rfl⟩ := rdget (by assumption)
          k_steps
          exact rd_end (us' := us ++ [Value.int _ _]) (by assumption) (by assumption) (List.push_toArray _ _) rfl rfl rfl rfl rfl rfl hst hga hdi (step_get hc64 hdr hV (by assumption) (by assumption)) (drop_seg hdj') (ints_snoc hus _ _) (by rw [List.length_append, List.length_singleton]; omega)
        · exact rd_end (by assumption) (by assumption) rfl rfl rfl rfl rfl rfl rfl hst hga hdi (step_35 hc64 hdr hV (by assumption)) (drop_seg hdj') hus (by omega)
      · try k_fold
        k_steps
        exact rd_end (by assumption) (by assumption) rfl rfl rfl rfl rfl rfl rfl hst hga hdi (step_big hc64) (by rw [hdj, List.append_assoc]; rfl) hus (by omega)
    · rintro m₁ nx h tk ⟨st, us, k, j, t', u, hst, hga, hdj, hus, hul, rfl, rfl⟩ F1 N1
      have hlTn := hlT.2.2.2
      have hfin : IntsAre us ((codes x).foldl rdStep ([], 0, [])).2.2 := by
        rw [List.take_of_length_le (by simp [codes])] at hst
        rw [hst]; exact hus
      try k_fold
      k_steps
      rename Fr _ _ _ _ => F9
      rename News _ _ _ _ => N9
      refine hret _ us _ _ _ hfin (fun p hp => allLt_mem hlTn p hp) F9 (news_keep N9 (by kcf_all))
end

section
open PySem PySem.W PyProof.Rows PySem.Calls PySem.Spec
set_option maxRecDepth 100000

section
variable {prog : Program} {w : World} {A : Around} {E : Value → Shared → Prop} {s : Shared} {env : Env} {h₀ : Heap} {target : Expr} {body : List Stmt} {Q : Flow → Shared → Prop}
theorem allObj_mono {k k' : List (Addr × Obj) → Prop} (hk : ∀ its, k its → k' its) : ∀ {ws : List (Addr × String)}, AllObj ws k → AllObj ws k'
  | [], h => hk _ h
  | _ :: ws, h => fun o ho => allObj_mono (ws := ws) (fun its hi => hk _ hi) (h o ho)
/-- a for loop over items: by an invariant; the ledger may grow -/
theorem items_inv {ws : List (Addr × String)} {keep : List (Addr × Obj)} {xs : List Itm} {m : Str → Option Value} {news : List (Addr × Obj)} (J : Nat → (Str → Option Value) → List (Addr × Obj) → Prop) (h0 : J 0 m news)
    (turn : ∀ i a m₁ n₁ v h tk, xs[i]? = some a → J i m₁ n₁ → a.Is v h → Fr h₀ env.locals h m₁ → AllObj ws (fun its => News h₀ env.locals h (its ++ n₁) →
      wpAny (model prog w) A (assign target env v) (fun _ s₂ => wpAny (model prog w) A (execs body env) (UnrPostW h₀ env.locals { s with heap := h, toks := tk } its (fun m' n' => SubL keep n' ∧ J (i + 1) m' n') Q) E s₂) E { s with heap := h, toks := tk }))
    (fin : ∀ m₁ n₁ h tk, J xs.length m₁ n₁ → Fr h₀ env.locals h m₁ → News h₀ env.locals h n₁ → Q .next { s with heap := h, toks := tk }) :
    ItemsRest prog w A E h₀ env target body Q s ws keep xs m news := by
  have key : ∀ (r : List Itm) (i : Nat) (m₁ : Str → Option Value) (n₁ : List (Addr × Obj)), xs.drop i = r → i ≤ xs.length → J i m₁ n₁ → ItemsRest prog w A E h₀ env target body Q s ws keep r m₁ n₁ := by
    intro r
    induction r with
    | nil =>
      intro i m₁ n₁ hd hi hJ h tk F N
      have e : i = xs.length := by
        have := congrArg List.length hd
        simp at this
        omega
      subst e
      exact fin m₁ n₁ h tk hJ F N
    | cons a r ih =>
      intro i m₁ n₁ hd hi hJ v h tk hv F
      have ha : xs[i]? = some a := by
        have := List.getElem?_drop (xs := xs) (i := i) (j := 0)
        rw [hd] at this
        simpa using this.symm
      have hlt : i < xs.length := (List.getElem?_eq_some_iff.mp ha).1
      have hd' : xs.drop (i + 1) = r := by
        have := congrArg (List.drop 1) hd
        simpa [List.drop_drop, Nat.add_comm] using this
      refine allObj_mono (fun its h1 N => ?_) (turn i a m₁ n₁ v h tk ha hJ hv F)
      refine wpAny_mono (h1 N) (fun _ s₂ h2 => wpAny_mono h2 (fun f s₃ h3 => ?_) fun _ _ e => e) fun _ _ e => e
      have go : UnrEndW h₀ env.locals { s with heap := h, toks := tk } its (fun m' n' => SubL keep n' ∧ J (i + 1) m' n') s₃ → UnrEndW h₀ env.locals { s with heap := h, toks := tk } its (fun m' n' => SubL keep n' ∧ ItemsRest prog w A E h₀ env target body Q s ws keep r m' n') s₃ := by
        rintro ⟨h', tk', m', n', e, F', N', off, hk, hJ'⟩
        exact ⟨h', tk', m', n', e, F', N', off, hk, ih (i + 1) m' n' hd' hlt hJ'⟩
      cases f with
      | ret v => exact h3
      | brk => exact h3
      | next => exact go h3
      | cont => exact go h3
  exact key xs 0 m news rfl (Nat.zero_le _) h0
noncomputable def GrowEnd (h₀ : Heap) (L : Addr) (J : (Str → Option Value) → List (Addr × Obj) → Prop) (I : Addr) (oI : Obj) (s₁ s₂ : Shared) : Prop :=
  ∃ h' tk m' nx, s₂ = { s₁ with heap := h', toks := tk } ∧ Fr h₀ L h' m' ∧ News h₀ L h' ((I, oI) :: nx) ∧ (∀ p ∈ nx, p.1 ≠ I) ∧ J m' nx
noncomputable def GrowPost (h₀ : Heap) (L : Addr) (J : (Str → Option Value) → List (Addr × Obj) → Prop) (I : Addr) (oI : Obj) (s₁ : Shared) (Q : Flow → Shared → Prop) (f : Flow) (s₂ : Shared) : Prop :=
  match f with
  | .ret v => Q (.ret v) s₂
  | .brk => Q .next s₂
  | _ => Halt (GrowEnd h₀ L J I oI s₁ s₂)
/-- for x in a range: by an invariant; the ledger may grow -/
theorem For_range_grow {x : Str} {px pos : Pos} {iter : Expr} {m₀ : Str → Option Value} {news : List (Addr × Obj)}
    (_F : Fr h₀ env.locals s.heap m₀) (_N : News h₀ env.locals s.heap news) (a : Int) (n : Nat) (J : Nat → (Str → Option Value) → List (Addr × Obj) → Prop)
    (hh : A.handled = none) (hx : env.kindOf x = some .local)
    (hp : (env.scope.kind == .class || (env.scope.kind == .module && env.locals != env.globals)) = false)
    (h : wpAny (model prog w) A (eval iter env) (fun xv s₁ => Halt (∃ r b t₀ u₀ v₀, xv = .ref r ∧ IsRange s₁.heap r a b 1 t₀ u₀ v₀ ∧ Builtin.Range.small a b 1 = true ∧ Builtin.Range.rangeSize a b 1 = (n : Int) ∧ Fr h₀ env.locals s₁.heap m₀ ∧ News h₀ env.locals s₁.heap news ∧ J 0 m₀ news ∧
      (∀ i t m₁ news₁ h tk I oI, i < n → (∀ p ∈ news, p.1 < I) → (∀ p ∈ news₁, p.1 ≠ I) → J i m₁ news₁ → Fr h₀ env.locals h (fun y => if y = x then some (.int (a + (i : Int)) t) else m₁ y) → News h₀ env.locals h ((I, oI) :: news₁) →
        wpAny (model prog w) A (execs body env) (GrowPost h₀ env.locals (J (i + 1)) I oI { s₁ with heap := h, toks := tk } Q) E { s₁ with heap := h, toks := tk }) ∧
      (∀ m₁ news₁ h tk, J n m₁ news₁ → Fr h₀ env.locals h m₁ → News h₀ env.locals h news₁ → Q .next { s₁ with heap := h, toks := tk }))) E s)
    (hs : ∀ x, foldedSetIterable iter env x = pure x := by intro _; rfl)
    (hE : PassesOwn (model prog w) A env E := by passes_own) :
    wpAny (model prog w) A (exec (.For (.Name x px) iter body [] pos) env) Q E s := by
  refine wpAny_For (wpAny_mono h (fun xv s₁ h₁ => ?_) fun _ _ e => e) hs
  obtain ⟨⟨r, b, t₀, u₀, v₀, rfl, hr, hsm, hsz, F, N, hj, turn, done⟩⟩ := h₁
  refine wpAny_pyIter_range hr hsm ?_
  have W : Walks prog w A s₁.heap.objs.size [s₁.heap.objs.size] [s₁.heap.objs.size] n (fun i v => i < n ∧ ∃ t, v = .int (a + i * 1) t)
      (fun i h => IsRangeIter h s₁.heap.objs.size (a + (i : Nat) * 1) ((n : Int) - (i : Nat)) 1) := (Walks.range hh _ a 1 n).bound
  have hlt : ∀ p ∈ news, p.1 < s₁.heap.objs.size := fun p hp => Heap.lt_size (N p hp).1
  refine forLoop_else (R := fun r s' => match r with | .ok f => Q f s' | .error e => cameBackBy (model prog w) A env E e s') W hx hp ?_ ?_ ?_
    (by show IsRangeIter _ _ _ _ _; rw [hsz]; simpa using Heap.get?_push_size _ rfl) (F.push _) (fun p hp => ⟨Heap.get?_push_of_some _ (N p hp).1, (N p hp).2⟩) J hj ?_ ?_
  · intro hm
    exact absurd F.ns.lt ((List.mem_singleton.mp hm) ▸ Nat.lt_irrefl _)
  · intro b hb
    rw [List.mem_singleton.mp hb]
    exact next_is_new F
  · intro p hp hI
    exact Nat.ne_of_lt (hlt p hp) (List.mem_singleton.mp hI)
  · rintro i v m₁ news₁ s₂ own ⟨hh', tk', rfl⟩ hin ⟨_, t, rfl⟩ hJ hoff hown hget hall hst F₁ N₁
    have e1 : (a + (i : Int) * 1) = a + (i : Int) := by omega
    rw [e1] at F₁
    have hI₀ : h₀.get? s₁.heap.objs.size = none := next_is_new F
    obtain ⟨oI, hst'⟩ : ∃ oI, hh'.get? s₁.heap.objs.size = some oI := ⟨_, hst⟩
    have hmem := hall _ (List.mem_singleton.mpr rfl) hI₀ _ hst'
    have N₂ : News h₀ env.locals hh' ((s₁.heap.objs.size, oI) :: news₁) := fun p hp => by
      rcases List.mem_cons.mp hp with rfl | hp
      · exact N₁ _ (List.mem_append_left _ hmem)
      · exact N₁ _ (List.mem_append_right _ hp)
    refine wpAny_mono (turn i t m₁ news₁ hh' tk' _ oI hin hlt (fun p hp e => hoff p hp (List.mem_singleton.mpr e)) hJ F₁ N₂) (fun f s₂ p => ?_) (fun e s' he => hE e s' he)
    have fin : Halt (GrowEnd h₀ env.locals (J (i + 1)) s₁.heap.objs.size oI { s₁ with heap := hh', toks := tk' } s₂) → LoopStepU h₀ env.locals [s₁.heap.objs.size] own (J (i + 1)) { s₁ with heap := hh', toks := tk' } .next s₂ := by
      rintro ⟨⟨h', tk, m', nx, e, F', N', hn, hm⟩⟩
      refine ⟨rfl, h', tk, m', nx, e, F', fun p hp => ?_, fun p hp hq => hn p hp (List.mem_singleton.mp hq), hm⟩
      rcases List.mem_append.mp hp with hp | hp
      · have h1 := hown p hp
        have h2 := hget p hp
        rw [List.mem_singleton.mp h1, hst'] at h2
        have h3 : p = (s₁.heap.objs.size, oI) := Prod.ext (List.mem_singleton.mp h1) (Option.some.inj h2).symm
        rw [h3]
        exact N' _ (.head _)
      · exact N' _ (.tail _ hp)
    cases f with
    | ret v => exact .ret p
    | brk => exact .brk p
    | next => exact .next (fin p)
    | cont => exact .cont (fin p)
  · rintro h' tk m' news' F' N' _ hJ
    exact wpAny_execs_nil (done m' news' h' tk hJ F' N')
end
end

section
open PySem PySem.W PyProof.Rows PySem.Calls PySem.Spec
set_option maxRecDepth 100000

section
variable {prog : Program} {w : World} {A : Around} {h₀ : Heap} {L : Addr} {m : Str → Option Value} {env : Env} {ct elt : Expr} {x : Str} {scope : Scope} {cl : List (Str × Addr)} {s : Shared} {S : List (Addr × Obj) → Prop} {P : Nat → Value → Prop} {Fin : List Value → List (Addr × Obj) → Prop}
/-- a comprehension with a test: the ledger stays; the picked indices by c, the elements by R -/
theorem restT_pick {n : Nat} {news : List (Addr × Obj)} {α : Type} (c : Nat → Bool) (g : Nat → α) (V : α → Tok → Value) (Are : List Value → List α → Prop) (h0 : Are [] []) (hs : ∀ ys as a t, Are ys as → Are (ys ++ [V a t]) (as ++ [a]))
    (turn : ∀ i v I oI C oC D m₂ ys h tk (E' : Value → Shared → Prop), i < n → P i v → LCg.NsObj oC m₂ → m₂ x = some v → Fr h₀ L h m → News h₀ L h ((I, oI) :: (C, oC) :: (D, LCg.lst ys) :: news) → LCg.Off3 I C D news → ((@Ne Nat I C) ∧ (@Ne Nat I D) ∧ (@Ne Nat C D)) →
      wpAny (model prog w) A (isTrue ct (compEnvC scope cl C env) (eval ct (compEnvC scope cl C env))) (fun ok s' => if ok = true then
        wpAny (model prog w) A (eval elt (compEnvC scope cl C env)) (fun y s₂ => Halt (LCg.CompEnd h₀ L m { s with heap := h, toks := tk } I oI C oC D (LCg.lst ys) S (fun y news' => news' = news ∧ Stop (c i = true ∧ ∃ t, y = V (g i) t)) y s₂)) E' s'
        else Halt (LCg.CompEnd h₀ L m { s with heap := h, toks := tk } I oI C oC D (LCg.lst ys) S (fun _ news' => news' = news ∧ Stop (c i = false)) Value.none s')) E' { s with heap := h, toks := tk })
    (fin : ∀ ys, Are ys (((List.range n).filter c).map g) → Fin ys news) : LCt.CompRestT prog w A h₀ L m env ct elt x scope cl s S P Fin n 0 [] news := by
  refine restT_inv (fun i ys nw => nw = news ∧ Are ys (((List.range i).filter c).map g)) ⟨rfl, h0⟩ ?_ ?_
  · rintro i v I oI C oC D m₂ ys nw h tk E' hi hv ⟨rfl, hA⟩ hC hx F N off ne
    refine wpAny_mono (turn i v I oI C oC D m₂ ys h tk E' hi hv hC hx F N off ne) (fun ok s' hq => ?_) fun _ _ e => e
    by_cases hok : ok = true
    · rw [if_pos hok] at hq ⊢
      refine wpAny_mono hq (fun y s₂ hq => ?_) fun _ _ e => e
      obtain ⟨⟨h', tk', nw', e, F', N', off', hS, rfl, ⟨hc, t, rfl⟩⟩⟩ := hq
      refine ⟨⟨h', tk', _, e, F', N', off', hS, rfl, ?_⟩⟩
      rw [List.range_succ, List.filter_append, List.map_append]
      simp only [List.filter_cons, hc, if_true, List.filter_nil, List.map_cons, List.map_nil]
      exact hs _ _ _ _ hA
    · rw [if_neg hok] at hq ⊢
      obtain ⟨⟨h', tk', nw', e, F', N', off', hS, rfl, ⟨hc⟩⟩⟩ := hq
      refine ⟨⟨h', tk', _, e, F', N', off', hS, rfl, ?_⟩⟩
      rw [List.range_succ, List.filter_append, List.map_append]
      simp only [List.filter_cons, hc, List.filter_nil, List.map_nil, List.append_nil, Bool.false_eq_true, if_false]
      exact hA
  · rintro ys nw ⟨rfl, hA⟩
    exact fin ys hA
end
end

section
open PySem PySem.W PyProof.Rows

open PySem.Builtin.Str PySem.StrLaws
theorem at_list {x y : Str} {i : Nat} : At x y x.length i ↔ (x.cps.toList.drop i).take y.length = y.cps.toList ∧ i + y.length ≤ x.length := by
  unfold At
  rw [subAt_eq]
  constructor
  · rintro ⟨h1, h2⟩
    exact ⟨eq_of_beq h2, h1⟩
  · rintro ⟨h1, h2⟩
    exact ⟨h2, by rw [h1]; exact beq_self_eq_true _⟩
noncomputable def joinL (sep : List Nat) : List (List Nat) → List Nat
  | [] => []
  | [p] => p
  | p :: r => p ++ sep ++ joinL sep r
theorem join_list (sep : Str) : ∀ ws : List Str, (Str.join sep ws).cps.toList = joinL sep.cps.toList (ws.map (·.cps.toList))
  | [] => rfl
  | [p] => rfl
  | p :: q :: r => by
    have ih := join_list sep (q :: r)
    show (p ++ sep ++ Str.join sep (q :: r)).cps.toList = p.cps.toList ++ sep.cps.toList ++ joinL sep.cps.toList ((q :: r).map (·.cps.toList))
    rw [← ih]
    simp only [Str.cps_append, Array.toList_append]
theorem str_list {x y : Str} (h : x.cps.toList = y.cps.toList) : x = y := Str.ext' (Array.toList_inj.mp h)
theorem parts_of (x y : Str) (c0 : Nat) (cr : List Nat) (hy : y.cps.toList = c0 :: cr) : ∀ (ws : List Str) (a : Nat) (cuts : List Nat) (f : Nat), ws ≠ [] → (∀ p ∈ ws, c0 ∉ p.cps.toList) → a ≤ x.length → x.cps.toList.drop a = joinL y.cps.toList (ws.map (·.cps.toList)) →
    ChainG x y x.length a cuts f → (∀ k, f ≤ k → ¬ At x y x.length k) → partsFrom x y.length a cuts = ws
  | [], _, _, _, h, _, _, _, _, _ => absurd rfl h
  | [p], a, cuts, f, _, hp, ha, hd, hG, hn => by
    have hd' : x.cps.toList.drop a = p.cps.toList := hd
    have hx : x.cps.toList.length = x.length := by simp [Str.length]
    cases cuts with
    | nil =>
      show [strSub x a x.length] = [p]
      refine congrArg (fun z => [z]) (str_list ?_)
      rw [strSub_toList, hd']
      refine List.take_of_length_le ?_
      rw [← hd', List.length_drop, hx]; omega
    | cons c r =>
      exfalso
      obtain ⟨h1, h2, _⟩ := hG
      have h3 := (at_list.mp h2).1
      have h4 : x.cps.toList.drop c = p.cps.toList.drop (c - a) := by rw [← hd', List.drop_drop]; congr 1; omega
      rw [h4, hy] at h3
      have hmem : c0 ∈ p.cps.toList := by
        have : c0 ∈ (p.cps.toList.drop (c - a)).take y.length := by rw [h3]; exact .head _
        exact List.mem_of_mem_drop (List.mem_of_mem_take this)
      exact hp p (.head _) hmem
  | p :: q :: ws, a, cuts, f, _, hp, ha, hd, hG, hn => by
    have hx : x.cps.toList.length = x.length := by simp [Str.length]
    have hyl : y.cps.toList.length = y.length := by simp [Str.length]
    have hd' : x.cps.toList.drop a = p.cps.toList ++ (y.cps.toList ++ joinL y.cps.toList ((q :: ws).map (·.cps.toList))) := by
      rw [hd]
      show p.cps.toList ++ y.cps.toList ++ joinL y.cps.toList ((q :: ws).map (·.cps.toList)) = _
      rw [List.append_assoc]
    have hlen : p.cps.toList.length + y.length ≤ x.length - a := by
      have := congrArg List.length hd'
      simp only [List.length_drop, List.length_append, hx, hyl] at this
      omega
    have hat : At x y x.length (a + p.cps.toList.length) := by
      refine at_list.mpr ⟨?_, by omega⟩
      rw [← List.drop_drop, hd', List.drop_left, List.take_append_of_le_length (by omega)]
      exact List.take_of_length_le (by omega)
    have hnot : ∀ k, a ≤ k → k < a + p.cps.toList.length → ¬ At x y x.length k := by
      intro k h1 h2 hA
      have h3 := (at_list.mp hA).1
      have h4 : x.cps.toList.drop k = (p.cps.toList ++ (y.cps.toList ++ joinL y.cps.toList ((q :: ws).map (·.cps.toList)))).drop (k - a) := by rw [← hd', List.drop_drop]; congr 1; omega
      rw [h4, List.drop_append_of_le_length (by omega), hy] at h3
      cases hq : p.cps.toList.drop (k - a) with
      | nil =>
        have := congrArg List.length hq
        simp only [List.length_drop, List.length_nil] at this
        omega
      | cons c9 r9 =>
        rw [hq] at h3
        have hy1 : y.length = cr.length + 1 := by rw [← hyl, hy]; rfl
        rw [hy1, List.cons_append, List.take_succ_cons] at h3
        have e9 := (List.cons.inj h3).1
        refine hp p (.head _) ?_
        rw [← e9]
        refine List.mem_of_mem_drop (i := k - a) ?_
        rw [hq]; exact .head _
    cases cuts with
    | nil =>
      have e : f = a := hG
      subst e
      exact absurd hat (hn _ (Nat.le_add_right _ _))
    | cons c r =>
      obtain ⟨h1, h2, h3, h4⟩ := hG
      have hc : c = a + p.cps.toList.length := by
        rcases Nat.lt_trichotomy c (a + p.cps.toList.length) with h | h | h
        · exact absurd h2 (hnot c h1 h)
        · exact h
        · exact absurd hat (h3 _ (Nat.le_add_right _ _) h)
      subst hc
      have ih := parts_of x y c0 cr hy (q :: ws) (a + p.cps.toList.length + y.length) r f (by simp) (fun p' hp' => hp p' (.tail _ hp')) (by omega) (by
        rw [Nat.add_assoc, ← List.drop_drop, hd', ← List.append_assoc, ← hyl, ← List.length_append, List.drop_left]) h4 hn
      show strSub x a (a + p.cps.toList.length) :: partsFrom x y.length (a + p.cps.toList.length + y.length) r = _
      rw [ih]
      refine congrArg (· :: _) (str_list ?_)
      rw [strSub_toList, hd', Nat.add_sub_cancel_left]
      exact List.take_left
theorem kind_pos (x : Str) : 1 ≤ PySem.Builtin.Str.strKind x := by
  unfold PySem.Builtin.Str.strKind
  split <;> (try split) <;> omega
theorem split_join (y : Str) (c0 : Nat) (cr : List Nat) (hy : y.cps.toList = c0 :: cr) (hk : PySem.Builtin.Str.strKind y = 1) (ws : List Str) (h0 : ws ≠ []) (hw : ∀ p ∈ ws, c0 ∉ p.cps.toList) : Txt.split (Str.join y ws) y = ws := by
  have hyl : y.cps.toList.length = y.length := by simp [Str.length]
  have hy1 : 1 ≤ y.length := by rw [← hyl, hy]; exact Nat.succ_le_succ (Nat.zero_le _)
  generalize hX : Str.join y ws = x
  have hd : x.cps.toList.drop 0 = joinL y.cps.toList (ws.map (·.cps.toList)) := by rw [← hX, join_list]; rfl
  obtain ⟨f, hG, hn⟩ := occ_tight x y hy1
  have key := parts_of x y c0 cr hy ws 0 _ f h0 hw (Nat.zero_le _) hd hG hn
  unfold Txt.split
  split
  · rename_i hc
    rw [Bool.or_eq_true, decide_eq_true_eq, decide_eq_true_eq, hk] at hc
    have hl : x.length < y.length := by
      rcases hc with h | h
      · exact h
      · have := kind_pos x; omega
    have e : occurrences x y 0 x.length (x.length + 1) = [] := by
      generalize occurrences x y 0 x.length (x.length + 1) = cuts at hG
      cases cuts with
      | nil => rfl
      | cons c r => have := (at_list.mp hG.2.1).2; omega
    rw [e] at key
    rw [← key]
    exact congrArg (fun z => [z]) (sub_whole x).symm
  · split
    · rename_i he
      rw [List.isEmpty_iff.mp he] at key
      rw [← key]
      exact congrArg (fun z => [z]) (sub_whole x).symm
    · rw [partsBetween_eq]
      exact key
end

section
open PySem PySem.W PyProof.Rows PySem.Calls PySem.Spec
set_option maxRecDepth 100000

/-! pretty_flags' words of a number below 2^32, split and looked up again -/
noncomputable def zeroWord : Str := Str.ofString "0x0"
theorem flag_comma : ∀ j, j < 32 → 44 ∉ (flagName j).cps.toList := by decide +kernel
theorem flag_nz : ∀ j, j < 32 → flagName j ≠ zeroWord := by decide +kernel
theorem flag_idx : ∀ j, j < 32 → ((List.range 32).map flagName).idxOf (flagName j) = j := by decide +kernel
theorem rest_zero {x : Int} (h0 : 0 ≤ x) (h1 : x < 2 ^ 32) : pfRest x 32 = 0 := by
  unfold pfRest
  rw [Int.ediv_eq_zero_of_lt h0 h1]; rfl
theorem names_zero : pfNames 0 32 = [] := by decide +kernel
theorem pfAll_small {x : Int} (h0 : 0 ≤ x) (h1 : x < 2 ^ 32) : pfAll x = if x = 0 then [zeroWord] else pfNames x 32 := by
  unfold pfAll
  by_cases h : x = 0
  · subst h
    rw [if_neg (by omega), if_pos rfl, names_zero]
    decide +kernel
  · rw [if_pos ⟨by omega, h1⟩, if_neg h]
theorem pfNames_mem {x : Int} {y : Str} (h : y ∈ pfNames x 32) : ∃ j, j < 32 ∧ bitOf x j = true ∧ y = flagName j := by
  obtain ⟨j, hj, rfl⟩ := List.mem_map.mp h
  have := List.mem_filter.mp hj
  exact ⟨j, by simpa using this.1, this.2, rfl⟩
theorem pfAll_mem {x : Int} (h0 : 0 ≤ x) (h1 : x < 2 ^ 32) {y : Str} (h : y ∈ pfAll x) : y = zeroWord ∨ ∃ j, j < 32 ∧ y = flagName j := by
  rw [pfAll_small h0 h1] at h
  split at h
  · exact .inl (List.mem_singleton.mp h)
  · obtain ⟨j, hj, _, e⟩ := pfNames_mem h
    exact .inr ⟨j, hj, e⟩
theorem pfAll_idx {x : Int} (h0 : 0 ≤ x) (h1 : x < 2 ^ 32) {y : Str} (h : y ∈ pfAll x) (hn : y ≠ zeroWord) : y ∈ (List.range 32).map flagName := by
  rcases pfAll_mem h0 h1 h with rfl | ⟨j, hj, rfl⟩
  · exact absurd rfl hn
  · exact List.mem_map.mpr ⟨j, by simpa using hj, rfl⟩
theorem pfAll_idxs {x : Int} (h0 : 0 ≤ x) (h1 : x < 2 ^ 32) : ((pfAll x).filter (fun y => y != zeroWord)).map (((List.range 32).map flagName).idxOf ·) = (List.range 32).filter (bitOf x) := by
  rw [pfAll_small h0 h1]
  by_cases h : x = 0
  · subst h
    rw [if_pos rfl]
    decide +kernel
  · rw [if_neg h]
    have e : (pfNames x 32).filter (fun y => y != zeroWord) = pfNames x 32 := by
      refine List.filter_eq_self.mpr fun y hy => ?_
      obtain ⟨j, hj, _, rfl⟩ := pfNames_mem hy
      exact bne_iff_ne.mpr (flag_nz j hj)
    rw [e, pfNames, List.map_map]
    have : ∀ l : List Nat, (∀ j ∈ l, j < 32) → l.map ((((List.range 32).map flagName).idxOf ·) ∘ flagName) = l := by
      intro l hl
      induction l with
      | nil => rfl
      | cons j l ih =>
        rw [List.map_cons, ih fun k hk => hl k (.tail _ hk)]
        exact congrArg (· :: l) (flag_idx j (hl j (.head _)))
    exact this _ fun j hj => by simpa using (List.mem_filter.mp hj).1
theorem pfAll_ne (x : Int) (h0 : 0 ≤ x) (h1 : x < 2 ^ 32) : pfAll x ≠ [] := by
  rw [pfAll_small h0 h1]
  by_cases h : x = 0
  · rw [if_pos h]; simp
  · rw [if_neg h]
    intro e
    have hz : ∀ j, j < 32 → x / 2 ^ j % 2 = 0 := by
      intro j hj
      cases hb : bitOf x j with
      | true =>
        have : flagName j ∈ pfNames x 32 := List.mem_map.mpr ⟨j, List.mem_filter.mpr ⟨by simpa using hj, hb⟩, rfl⟩
        rw [e] at this; cases this
      | false =>
        unfold bitOf at hb
        have := emod2 (x / 2 ^ j)
        rcases this with h' | h'
        · exact h'
        · rw [h'] at hb; cases hb
    have up : ∀ k, k ≤ 32 → x = x / 2 ^ k * 2 ^ k := by
      intro k
      induction k with
      | zero => intro _; simp
      | succ k ih =>
        intro hk
        have h2 := ih (by omega)
        have h3 := hz k (by omega)
        rw [div_succ, Int.pow_succ]
        generalize x / 2 ^ k = q at h2 h3
        have : q / 2 * (2 ^ k * 2) = (q / 2 * 2) * 2 ^ k := by rw [Int.mul_comm (2 ^ k) 2, ← Int.mul_assoc]
        rw [this, show q / 2 * 2 = q by omega]
        exact h2
    have h3 := up 32 (Nat.le_refl _)
    rw [Int.ediv_eq_zero_of_lt h0 h1] at h3
    omega
theorem pf_split {x : Int} (h0 : 0 ≤ x) (h1 : x < 2 ^ 32) : Txt.split (pfText x) (Str.ofString ", ") = pfAll x := by
  unfold pfText
  show Txt.split (Builtin.Str.glued _ _) _ = _
  rw [StrLaws.glued_eq_join]
  refine split_join _ 44 [32] (by decide +kernel) (by decide +kernel) _ (pfAll_ne x h0 h1) fun p hp => ?_
  rcases pfAll_mem h0 h1 hp with rfl | ⟨j, hj, rfl⟩
  · decide +kernel
  · exact flag_comma j hj
theorem pfText_len {x : Int} (h0 : 0 ≤ x) (h1 : x < 2 ^ 32) : (pfText x).length + 2 ≤ sizeLine := by
  unfold pfText
  show (Builtin.Str.glued _ _).length + 2 ≤ _
  rw [StrLaws.glued_eq_join]
  have h2 := StrLaws.join_length_le (Str.ofString ", ") (pfAll x)
  obtain ⟨h3, h4⟩ := pfAll_short (x := x) ⟨by omega, by omega⟩
  have h5 := sum_le 67 _ h3
  have h6 : (Str.ofString ", ").length = 2 := by decide +kernel
  rw [h6] at h2
  rw [sizeLine_eq]
  omega
theorem idx_ne {k : Str} : ∀ {ns : List Str} {j : Nat}, j < ns.idxOf k → ∀ (h2 : j < ns.length), (ns[j] == k) = false
  | n :: r, 0, h, _ => by
    by_cases e : n = k
    · subst e; simp at h
    · exact beq_false_of_ne e
  | n :: r, j + 1, h, h2 => by
    by_cases e : n = k
    · subst e; simp at h
    · have h' : j < r.idxOf k := by
        rw [List.idxOf_cons, beq_false_of_ne e] at h
        exact Nat.lt_of_succ_lt_succ h
      exact idx_ne h' (Nat.lt_of_succ_lt_succ h2)
section
variable {prog : Program} {w : World} {A : Around} {E : Value → Shared → Prop} {s : Shared} {h₀ : Heap} {L : Addr} {m : Str → Option Value} {news : List (Addr × Obj)} {Q : Value → Shared → Prop}
theorem split_pf {x : Int} {t u : Tok} (hx : 0 ≤ x ∧ x < 2 ^ 32) (hF : Fr h₀ L s.heap m) (hN : News h₀ L s.heap news)
    (h : ∀ D wv W' h' k, W' = pfAll x → StrsAre wv W' → Fr h₀ L h' m → News h₀ L h' ((D, W.listOf wv.toArray 0) :: news) → (∀ p ∈ news, p.1 < D) → Q (.ref D) { s with heap := h', toks := k }) :
    wpAny (model prog w) A (call (.builtin "str.split") [.str (pfText x) t, .str (Str.ofString ", ") u]) Q E s :=
  KSpl.split1 hF hN (by decide +kernel) (fun D l h' k e a F N o => h D _ _ h' k rfl (by rw [e, pf_split hx.1 hx.2] at a; exact a) F N o) (pfText_len hx.1 hx.2)
/-- table.index(word) -/
theorem index_strs {l : Addr} {vs : List Value} {xs : List Str} {k : Str} {t : Tok} {n : Nat} (hN : News h₀ L s.heap news) (hm : (l, W.listOf vs.toArray n) ∈ news) (hi : StrsAre vs xs) (hk : k ∈ xs) (hb : xs.length ≤ 1000)
    (h : Q (.int (xs.idxOf k : Nat) s.toks) { s with toks := s.toks + 1 }) :
    wpAny (model prog w) A (call (.builtin "list.index") [.ref l, .str k t]) Q E s := by
  have hlen := hi.length
  have hj : xs.idxOf k < xs.length := List.idxOf_lt_length_iff.mpr hk
  have get : ∀ (j : Nat) (h1 : j < vs.length) (h2 : j < xs.length), isStrOf k vs[j] = (xs[j] == k) := by
    intro j h1 h2
    obtain ⟨t', ht'⟩ := hi.get j xs[j] (List.getElem?_eq_getElem h2)
    have e : vs[j] = .str xs[j] t' := by
      have := List.getElem?_eq_getElem h1
      rw [ht'] at this
      exact (Option.some.inj this).symm
    rw [e]
    rfl
  refine call_meets PySem.F.slot_list_index ⟨_, (hN _ hm).1, rfl⟩ PySem.F.entry_list_index (PySem.F.args_list_index_2 _ _)
    (MeetsSeq.list_index l vs.toArray n (.str k t) (isStrOf k) (fun y hy => eq_isStrOf k t hi y (by simpa using hy)) (xs.idxOf k) (by simpa [hlen] using hj) (by omega) ?_ ?_) ⟨(hN _ hm).1, h⟩
  · show isStrOf k vs[xs.idxOf k] = true
    rw [get _ (by omega) hj]
    simp
  · intro j hjs hlt
    show isStrOf k vs[j] = false
    rw [get j (by simpa using hjs) (by omega)]
    exact idx_ne hlt _
end
end

section
open PySem PySem.W PyProof.Rows PySem.Calls PySem.Spec
set_option maxRecDepth 100000
set_option maxHeartbeats 8000000

theorem pow_idx (i : Nat) : (2 : Int) ^ (0 + (i : Int)).toNat = 2 ^ i := by
  have e : (0 + (i : Int)).toNat = i := by omega
  rw [e]
theorem getD_idx (ns : List Int) (i : Nat) : ns.getD (0 + (i : Int)).toNat 0 = ns.getD i 0 := by
  have e : (0 + (i : Int)).toNat = i := by omega
  rw [e]
theorem pick_yes {ns : List Int} {i : Nat} {t : Tok} (h : ns.getD (0 + (i : Int)).toNat 0 = 1) : Stop ((ns.getD i 0 == 1) = true ∧ ∃ t', Value.int ((2 : Int) ^ (0 + (i : Int)).toNat) t = Value.int (2 ^ i) t') :=
  ⟨by rw [← getD_idx, h]; rfl, t, congrArg (Value.int · t) (pow_idx i)⟩
theorem pick_no {ns : List Int} {i : Nat} (h : ns.getD (0 + (i : Int)).toNat 0 ≠ 1) : Stop ((ns.getD i 0 == 1) = false) :=
  ⟨by rw [← getD_idx]; exact beq_false_of_ne h⟩
noncomputable def numP (ns : List Int) : Int := (((List.range ns.length).filter (fun i => ns.getD i 0 == 1)).map (fun i => (2 : Int) ^ i)).sum
noncomputable abbrev unP (ns : List Int) (i : Nat) : Int := (Builtin.bitXor (numP ns) ((numP ns).fdiv (2 ^ (1 + (i : Int)).toNat))).fmod (2 ^ ((ns.length : Int) - (1 + (i : Int))).toNat)
theorem pow_le24 {k : Nat} (h : k ≤ 24) : (0 : Int) < 2 ^ k ∧ (2 : Int) ^ k ≤ 16777216 := by
  have h1 : (2 : Nat) ^ k ≤ 2 ^ 24 := Nat.pow_le_pow_right (by decide) h
  have h2 : ((2 : Int) ^ k) = ((2 ^ k : Nat) : Int) := by simp
  have h3 : 0 < (2 : Nat) ^ k := Nat.two_pow_pos k
  rw [h2]
  omega
theorem unP_bounds {ns : List Int} (hn : ns.length ≤ 24) (i : Nat) : 0 ≤ unP ns i ∧ unP ns i < 16777216 := by
  have hk : ((ns.length : Int) - (1 + (i : Int))).toNat ≤ 24 := by omega
  obtain ⟨h1, h2⟩ := pow_le24 hk
  exact ⟨Int.fmod_nonneg_of_pos _ h1, Int.lt_of_lt_of_le (Int.fmod_lt_of_pos _ h1) h2⟩
theorem unP_lift {ns : List Int} (hn : ns.length ≤ 24) (i : Nat) {lift : Nat} (hl : lift ≤ 8) : -(2 ^ 40) < unP ns i * 2 ^ ((lift : Int)).toNat ∧ unP ns i * 2 ^ ((lift : Int)).toNat < 2 ^ 40 := by
  obtain ⟨h1, h2⟩ := unP_bounds hn i
  have h3 : (2 : Nat) ^ lift ≤ 2 ^ 8 := Nat.pow_le_pow_right (by decide) hl
  have h4 : ((2 : Int) ^ ((lift : Int)).toNat) = ((2 ^ lift : Nat) : Int) := by simp
  have h5 : 0 < (2 : Nat) ^ lift := Nat.two_pow_pos lift
  rw [h4]
  generalize unP ns i = U at h1 h2
  generalize (2 : Nat) ^ lift = p at h3 h5
  have h6 : U * (p : Int) ≤ U * 256 := Int.mul_le_mul_of_nonneg_left (by omega) h1
  have h7 : 0 ≤ U * (p : Int) := Int.mul_nonneg h1 (by omega)
  omega
noncomputable abbrev tripD (p : Int × Int × Int) : Dat := .tuple [.int p.1, .int p.2.1, .int p.2.2]
noncomputable def LlJ (T : Addr) (news : List (Addr × Obj)) (base : List (Addr × Obj)) (ns : List Int) (tr : List (Int × Int × Int)) (m : Str → Option Value) (nx : List (Addr × Obj)) : Prop :=
  ∃ (tv : List Value) (tups : List (Addr × Obj)) (k : Nat) (t : Tok) (u : Str → Option Value), nx = (T, W.listOf tv.toArray k) :: (base ++ (news ++ tups)) ∧ DatAll tups tv (tr.map tripD) ∧ (∀ p ∈ tups, p.1 ≠ T) ∧
    m = (fun z => if z = Str.ofString "told" then some (.ref T) else if z = Str.ofString "number" then some (.int (numP ns) t) else u z)
noncomputable abbrev llJN {h₀ h : Heap} {L T : Addr} {oT : Obj} {c1 c2 c3 c4 c5 c6 : Addr × Obj} {news : List (Addr × Obj)} (_ : News h₀ L h ((T, oT) :: c1 :: c2 :: c3 :: c4 :: c5 :: c6 :: news)) (ns : List Int) (f : Nat → List (Int × Int × Int)) (i : Nat) := LlJ T news [c1, c2, c3, c4, c5, c6] ns ((List.range i).flatMap f)
noncomputable def LlI (T I I' : Addr) (news : List (Addr × Obj)) (base : List (Addr × Obj)) (ns : List Int) (sv : Int) (st : Tok) (tr : List (Int × Int × Int)) (m : Str → Option Value) (nx : List (Addr × Obj)) : Prop :=
  ∃ (tv : List Value) (tups : List (Addr × Obj)) (k : Nat) (t : Tok) (u : Str → Option Value), nx = (T, W.listOf tv.toArray k) :: (base ++ (news ++ tups)) ∧ DatAll tups tv (tr.map tripD) ∧ (∀ p ∈ tups, p.1 ≠ T ∧ p.1 ≠ I ∧ (p.1 < I' ∨ I' + 4 < p.1)) ∧
    m = (fun z => if z = Str.ofString "told" then some (.ref T) else if z = Str.ofString "number" then some (.int (numP ns) t) else if z = Str.ofString "step" then some (.int sv st) else u z)
noncomputable abbrev llIN {h₀ h : Heap} {L I T : Addr} {oT oI : Obj} {d1 d2 c1 c2 c3 c4 c5 c6 : Addr × Obj} {news tups : List (Addr × Obj)} (_ : News h₀ L h ((T, oT) :: d1 :: d2 :: (I, oI) :: c1 :: c2 :: c3 :: c4 :: c5 :: c6 :: (news ++ tups))) (I' : Addr) (ns : List Int) (sv : Int) (st : Tok) (tr : Nat → List (Int × Int × Int)) (j : Nat) := LlI T I I' news [d1, d2, (I, oI), c1, c2, c3, c4, c5, c6] ns sv st (tr j)
/-- the stretches that one step tells, from the marks -/
noncomputable def tell1 (s lo hi : Int) : List (Int × Int × Int) := if s + 1 < hi - lo then [(lo + 1, hi + s, s)] else []
noncomputable def tellP (s : Int) (mk : List Int) : List (Int × Int × Int) := (List.range (mk.length - 1)).flatMap (fun j => tell1 s (mk.getD j 0) (mk.getD (j + 1) 0))
noncomputable abbrev wIdx (one : Str) (lift : Nat) : Int := ((((List.range 32).map flagName).idxOf one : Nat) : Int) - (lift : Int)
theorem wpick_yes {W : List Str} {i lift : Nat} {one : Str} {t : Tok} (hone : W.getD i zeroWord = one) (h : (one != Str.ofString "0x0") = true) : Stop ((W.getD i zeroWord != zeroWord) = true ∧ ∃ t', Value.int (wIdx one lift) t = Value.int (wIdx (W.getD i zeroWord) lift) t') :=
  ⟨by rw [hone]; exact h, t, by rw [hone]⟩
theorem wpick_no {W : List Str} {i : Nat} {one : Str} (hone : W.getD i zeroWord = one) (h : (one != Str.ofString "0x0") = false) : Stop ((W.getD i zeroWord != zeroWord) = false) :=
  ⟨by rw [hone]; exact h⟩
theorem word_at {wv : List Value} {W : List Str} (h : StrsAre wv W) {i : Nat} {v : Value} (hv : wv.toArray[i]? = some v) : i < W.length ∧ ∃ t, v = .str (W.getD i zeroWord) t := by
  obtain ⟨y, t, rfl, hy⟩ := h.item i v (by simpa using hv)
  refine ⟨(List.getElem?_eq_some_iff.mp hy).1, t, ?_⟩
  rw [List.getD_eq_getElem?_getD, hy]; rfl
set_option hygiene false in
local macro_rules | `(tactic| walk_at "binaryOp Add ref ref") => `(tactic| (k_here; k_dflt (refine' kmk_add_ints ?F ?N ?a ?b ?i ?j ?_ ?z; (case F => k_asm); (case N => k_asm); (case a => kmk_list); (case b => kmk_list); (case i => (first | assumption | exact .cons _ _ .nil)); (case j => (first | assumption | exact .cons _ _ .nil)); (case z => ((simp only [List.length_append, List.length_cons, List.length_nil, sizeLine_eq]); omega))); intro D' ws' h' F' N' l1 hI'; (try k_lt l1); (try k_sweep)))
theorem items_halt {prog : Program} {w : World} {A : Around} {E : Value → Shared → Prop} {s : Shared} {env : Env} {h₀ : Heap} {target : Expr} {body : List Stmt} {Q : Flow → Shared → Prop} {ws : List (Addr × String)} {keep : List (Addr × Obj)} {xs : List Itm} {m : Str → Option Value} {news : List (Addr × Obj)} (h : Halt (ItemsRest prog w A E h₀ env target body Q s ws keep xs m news)) : ItemsRest prog w A E h₀ env target body Q s ws keep xs m news := h.out
theorem allLt_mem2 {T : Nat} : ∀ {l : List (Addr × Obj)}, AllLt T l → ∀ p ∈ l, @LT.lt Nat _ p.1 T
  | [], _, _, hp => nomatch hp
  | q :: r, h, p, hp => by
    rcases List.mem_cons.mp hp with rfl | hp
    · exact h.1
    · exact allLt_mem2 h.2 p hp
theorem ne_news {T : Addr} {l : List (Addr × Obj)} (h : AllLt T l) : ∀ p ∈ l, p.1 ≠ T := fun p hp => Nat.ne_of_lt (allLt_mem2 h p hp)
theorem ne_app {T : Addr} {a b : List (Addr × Obj)} (h1 : ∀ p ∈ a, p.1 ≠ T) (h2 : ∀ p ∈ b, p.1 ≠ T) : ∀ p ∈ a ++ b, p.1 ≠ T :=
  fun p hp => (List.mem_append.mp hp).elim (h1 p) (h2 p)
theorem ll_out {h₀ h : Heap} {L : Addr} {l d c1 c2 c3 ra ta : Addr × Obj} {news : List (Addr × Obj)} (N : News h₀ L h (l :: d :: c1 :: c2 :: c3 :: ra :: ta :: news)) : News h₀ L h (l :: ra :: ta :: news) := by
  intro p hp
  refine N p ?_
  simp only [List.mem_cons] at hp ⊢
  rcases hp with h | h | h | h <;> simp [h]
theorem ll_perm {h₀ h : Heap} {L : Addr} {m1 m0 l' d' z l'' w9 i t d c1 c2 c3 ra ta : Addr × Obj} {news : List (Addr × Obj)} (N : News h₀ L h (m1 :: m0 :: l' :: d' :: z :: l'' :: w9 :: i :: t :: d :: c1 :: c2 :: c3 :: ra :: ta :: news)) :
    News h₀ L h (t :: m1 :: m0 :: i :: d :: c1 :: c2 :: c3 :: ra :: ta :: news) := by
  intro p hp
  refine N p ?_
  simp only [List.mem_cons] at hp ⊢
  rcases hp with rfl | rfl | rfl | rfl | rfl | rfl | rfl | rfl | rfl | rfl | hp <;> simp [*]
theorem zip_at {a b : List Value} {mk : List Int} (ha : IntsAre a mk) (hb : IntsAre b (mk.drop 1)) {j : Nat} {x : Itm} (h : (zipItems a b)[j]? = some x) : j < mk.length - 1 ∧ ∃ t u, x = .pair (fun _ => .int (mk.getD j 0) t) (.int (mk.getD (j + 1) 0) u) := by
  have hl : j < min a.length b.length := by
    rw [← zipItems_length]; exact (List.getElem?_eq_some_iff.mp h).1
  have hb' := hb.length
  rw [List.length_drop] at hb'
  have hj : j < mk.length - 1 := by omega
  have h1 : mk[j]? = some (mk.getD j 0) := by rw [List.getD_eq_getElem?_getD, List.getElem?_eq_getElem (by omega)]; rfl
  have h2 : (mk.drop 1)[j]? = some (mk.getD (j + 1) 0) := by rw [List.getElem?_drop, List.getD_eq_getElem?_getD, Nat.add_comm 1 j, List.getElem?_eq_getElem (by omega)]; rfl
  obtain ⟨t, ht⟩ := ha.get _ _ h1
  obtain ⟨u, hu⟩ := hb.get _ _ h2
  have := zipItems_get a b j ht hu
  rw [h] at this
  exact ⟨hj, t, u, Option.some.inj this⟩
theorem unr_halt {h₀ : Heap} {L : Addr} {s₁ s₂ : Shared} {its : List (Addr × Obj)} {rest : (Str → Option Value) → List (Addr × Obj) → Prop} (h : Halt (UnrEndW h₀ L s₁ its rest s₂)) : UnrEndW h₀ L s₁ its rest s₂ := h.out

theorem map3 {m : Str → Option Value} {a b c : Str} {x y z : Value} (ha : m a = some x) (hb : m b = some y) (hc : m c = some z) : m = fun q => if q = a then some x else if q = b then some y else if q = c then some z else m q := by
  funext q
  by_cases h1 : q = a
  · rw [if_pos h1, h1, ha]
  by_cases h2 : q = b
  · rw [if_neg h1, if_pos h2, h2, hb]
  by_cases h3 : q = c
  · rw [if_neg h1, if_neg h2, if_pos h3, h3, hc]
  · rw [if_neg h1, if_neg h2, if_neg h3]
theorem map2 {m : Str → Option Value} {a b : Str} {x y : Value} (ha : m a = some x) (hb : m b = some y) : m = fun q => if q = a then some x else if q = b then some y else m q := by
  funext q
  by_cases h1 : q = a
  · rw [if_pos h1, h1, ha]
  by_cases h2 : q = b
  · rw [if_neg h1, if_pos h2, h2, hb]
  · rw [if_neg h1, if_neg h2]
/-- a turn of the inner loop comes to its end -/
theorem ll_turn {h₀ h : Heap} {L T I i' : Addr} {oI : Obj} {e1 e2 e3 e4 e5 m1 m0 c1 c2 c3 c4 c5 c6 : Addr × Obj} {tv : List Value} {k tk : Nat} {news tups own : List (Addr × Obj)} {m : Str → Option Value} {s : Shared} {ns : List Int} {sv : Int} {st t : Tok} {tr : List (Int × Int × Int)}
    (F : Fr h₀ L h m) (N : News h₀ L h (own ++ (e1 :: e2 :: e3 :: e4 :: e5 :: (T, W.listOf tv.toArray k) :: m1 :: m0 :: (I, oI) :: c1 :: c2 :: c3 :: c4 :: c5 :: c6 :: (news ++ tups))))
    (he : e1.1 = i' + 4 ∧ e2.1 = i' + 2 ∧ e3.1 = i' + 3 ∧ e4.1 = i' ∧ e5.1 = i' + 1)
    (hl : @LT.lt Nat _ T i' ∧ @LT.lt Nat _ m1.1 i' ∧ @LT.lt Nat _ m0.1 i' ∧ @LT.lt Nat _ I i' ∧ @LT.lt Nat _ c1.1 i' ∧ @LT.lt Nat _ c2.1 i' ∧ @LT.lt Nat _ c3.1 i' ∧ @LT.lt Nat _ c4.1 i' ∧ @LT.lt Nat _ c5.1 i' ∧ @LT.lt Nat _ c6.1 i')
    (hln : ∀ p ∈ news, @LT.lt Nat _ p.1 i') (hAv : ∀ p ∈ tups ++ own, p.1 ≠ T ∧ p.1 ≠ I ∧ (@LT.lt Nat _ p.1 i' ∨ @LT.lt Nat _ (i' + 4) p.1))
    (hd : DatAll (tups ++ own) tv (tr.map tripD))
    (ha : m (Str.ofString "told") = some (.ref T)) (hb : m (Str.ofString "number") = some (.int (numP ns) t)) (hc : m (Str.ofString "step") = some (.int sv st)) :
    Halt (UnrEndW h₀ L s [e1, e2, e3, e4, e5] (fun m' n' => SubL [m0, m1] n' ∧ LlI T I i' news [m1, m0, (I, oI), c1, c2, c3, c4, c5, c6] ns sv st tr m' n') { s with heap := h, toks := tk }) := by
  refine ⟨⟨h, tk, m, (T, W.listOf tv.toArray k) :: ([m1, m0, (I, oI), c1, c2, c3, c4, c5, c6] ++ (news ++ (tups ++ own))), rfl, F, ?_, ?_, ?_, ?_⟩⟩
  · intro p hp
    refine N p ?_
    simp only [List.mem_append, List.mem_cons, List.not_mem_nil, or_false] at hp ⊢
    rcases hp with (h | h | h | h | h) | h | (h | h | h | h | h | h | h | h | h) | h | h | h <;> simp [h]
  · obtain ⟨h1, h2, h3, h4, h5⟩ := he
    obtain ⟨l0, l1, l2, l3, l4, l5, l6, l7, l8, l9⟩ := hl
    have key : ∀ p : Addr × Obj, (@LT.lt Nat _ p.1 i' ∨ @LT.lt Nat _ (i' + 4) p.1) → ∀ q ∈ [e1, e2, e3, e4, e5], p.1 ≠ q.1 := by
      intro p hp q hq e
      have hq' : ∃ j : Nat, j ≤ 4 ∧ q.1 = i' + j := by
        simp only [List.mem_cons, List.not_mem_nil, or_false] at hq
        rcases hq with rfl | rfl | rfl | rfl | rfl
        · exact ⟨4, by omega, h1⟩
        · exact ⟨2, by omega, h2⟩
        · exact ⟨3, by omega, h3⟩
        · exact ⟨0, by omega, h4⟩
        · exact ⟨1, by omega, h5⟩
      obtain ⟨j, hj, e2⟩ := hq'
      rw [e2] at e
      generalize p.1 = x at hp e
      have e' : @Eq Nat x (i' + j) := e
      rcases hp with hp | hp <;> omega
    intro p hp
    refine key p ?_
    simp only [List.mem_append, List.mem_cons, List.not_mem_nil, or_false] at hp
    rcases hp with rfl | (rfl | rfl | rfl | rfl | rfl | rfl | rfl | rfl | rfl) | hp | hp
    · exact .inl l0
    · exact .inl l1
    · exact .inl l2
    · exact .inl l3
    · exact .inl l4
    · exact .inl l5
    · exact .inl l6
    · exact .inl l7
    · exact .inl l8
    · exact .inl l9
    · exact .inl (hln p hp)
    · exact (hAv p (List.mem_append.mpr hp)).2.2
  · exact ⟨by simp, by simp, trivial⟩
  · exact ⟨tv, tups ++ own, k, t, m, rfl, hd, hAv, map3 ha hb hc⟩
/-- a turn of the outer loop comes to its end -/
theorem ll_next {h₀ h : Heap} {L T I : Addr} {oI : Obj} {m1 m0 c1 c2 c3 c4 c5 c6 : Addr × Obj} {tv : List Value} {k tk : Nat} {news tups : List (Addr × Obj)} {m : Str → Option Value} {s : Shared} {ns : List Int} {t : Tok} {tr : List (Int × Int × Int)}
    (F : Fr h₀ L h m) (N : News h₀ L h ((T, W.listOf tv.toArray k) :: m1 :: m0 :: (I, oI) :: c1 :: c2 :: c3 :: c4 :: c5 :: c6 :: (news ++ tups)))
    (hl : @LT.lt Nat _ T I ∧ @LT.lt Nat _ c1.1 I ∧ @LT.lt Nat _ c2.1 I ∧ @LT.lt Nat _ c3.1 I ∧ @LT.lt Nat _ c4.1 I ∧ @LT.lt Nat _ c5.1 I ∧ @LT.lt Nat _ c6.1 I)
    (hln : ∀ p ∈ news, @LT.lt Nat _ p.1 I) (hAv : ∀ p ∈ tups, p.1 ≠ T ∧ p.1 ≠ I) (hd : DatAll tups tv (tr.map tripD))
    (ha : m (Str.ofString "told") = some (.ref T)) (hb : m (Str.ofString "number") = some (.int (numP ns) t)) :
    Halt (GrowEnd h₀ L (LlJ T news [c1, c2, c3, c4, c5, c6] ns tr) I oI s { s with heap := h, toks := tk }) := by
  refine ⟨⟨h, tk, m, (T, W.listOf tv.toArray k) :: ([c1, c2, c3, c4, c5, c6] ++ (news ++ tups)), rfl, F, ?_, ?_, ?_⟩⟩
  · intro p hp
    refine N p ?_
    simp only [List.mem_append, List.mem_cons, List.not_mem_nil, or_false] at hp ⊢
    rcases hp with h | h | (h | h | h | h | h | h) | h | h <;> simp [h]
  · obtain ⟨l0, l4, l5, l6, l7, l8, l9⟩ := hl
    intro p hp
    simp only [List.mem_append, List.mem_cons, List.not_mem_nil, or_false] at hp
    rcases hp with rfl | (rfl | rfl | rfl | rfl | rfl | rfl) | hp | hp
    · exact Nat.ne_of_lt l0
    · exact Nat.ne_of_lt l4
    · exact Nat.ne_of_lt l5
    · exact Nat.ne_of_lt l6
    · exact Nat.ne_of_lt l7
    · exact Nat.ne_of_lt l8
    · exact Nat.ne_of_lt l9
    · exact Nat.ne_of_lt (hln p hp)
    · exact (hAv p hp).2
  · exact ⟨tv, tups, k, t, m, rfl, hd, fun p hp => (hAv p hp).1, map2 ha hb⟩
theorem unP_lift32 {ns : List Int} (hn : ns.length ≤ 24) (i : Nat) {lift : Nat} (hl : lift ≤ 8) : 0 ≤ unP ns i * 2 ^ ((lift : Int)).toNat ∧ unP ns i * 2 ^ ((lift : Int)).toNat < 2 ^ 32 := by
  obtain ⟨h1, h2⟩ := unP_bounds hn i
  have h3 : (2 : Nat) ^ lift ≤ 2 ^ 8 := Nat.pow_le_pow_right (by decide) hl
  have h4 : ((2 : Int) ^ ((lift : Int)).toNat) = ((2 ^ lift : Nat) : Int) := by simp
  have h5 : 0 < (2 : Nat) ^ lift := Nat.two_pow_pos lift
  rw [h4]
  generalize unP ns i = U at h1 h2
  generalize (2 : Nat) ^ lift = p at h3 h5
  have h6 : U * (p : Int) ≤ U * 256 := Int.mul_le_mul_of_nonneg_left (by omega) h1
  have h7 : 0 ≤ U * (p : Int) := Int.mul_nonneg h1 (by omega)
  omega
/-- the places that pretty_flags tells for one step, moved back -/
noncomputable def llZ (ns : List Int) (lift i : Nat) : List Int := ((List.range 32).filter (bitOf (unP ns i * 2 ^ ((lift : Int)).toNat))).map (fun j : Nat => (j : Int) - (lift : Int))
noncomputable def llMk (ns : List Int) (lift i : Nat) : List Int := [-1] ++ llZ ns lift i ++ [(ns.length : Int) - (1 + (i : Int))]
/-- what one step tells -/
noncomputable def llF (ns : List Int) (lift i : Nat) : List (Int × Int × Int) := tellP (1 + (i : Int)) (llMk ns lift i)
/-- what _law_long tells -/
noncomputable def llP (ns : List Int) (lift : Nat) : List (Int × Int × Int) := (List.range ((ns.length + 1) / 2 - 1)).flatMap (llF ns lift)
theorem range_pick {α β : Type} (d : α) (c : α → Bool) (g : α → β) : ∀ W : List α, ((List.range W.length).filter (fun i => c (W.getD i d))).map (fun i => g (W.getD i d)) = (W.filter c).map g
  | [] => rfl
  | x :: W => by
    have ih := range_pick d c g W
    have e : ((List.range W.length).map Nat.succ).filter (fun i => c ((x :: W).getD i d)) = ((List.range W.length).filter (fun i => c (W.getD i d))).map Nat.succ := by
      rw [List.filter_map]; rfl
    rw [List.length_cons, List.range_succ_eq_map, List.filter_cons, e]
    have e2 : (((List.range W.length).filter (fun i => c (W.getD i d))).map Nat.succ).map (fun i => g ((x :: W).getD i d)) = (W.filter c).map g := by
      rw [List.map_map]; exact ih
    show (List.map _ (if c x = true then _ else _)) = _
    cases hc : c x with
    | true => rw [if_pos rfl, List.map_cons, e2, List.filter_cons, hc]; rfl
    | false => rw [if_neg (by decide), e2, List.filter_cons, hc]; rfl
theorem z_eq {ns : List Int} {lift i n : Nat} {W : List Str} (hn : ns.length ≤ 24) (hl : lift ≤ 8) (hW : W = pfAll (unP ns i * 2 ^ ((lift : Int)).toNat)) (hs : n = W.length) :
    ((List.range n).filter (fun i => W.getD i zeroWord != zeroWord)).map (fun i => wIdx (W.getD i zeroWord) lift) = llZ ns lift i := by
  obtain ⟨h0, h1⟩ := unP_lift32 hn i hl
  rw [hs, range_pick zeroWord (fun y => y != zeroWord) (fun y => wIdx y lift)]
  unfold llZ
  rw [← pfAll_idxs h0 h1, hW, List.map_map]
  rfl
theorem llZ_len (ns : List Int) (lift i : Nat) : (llZ ns lift i).length ≤ 32 := by
  unfold llZ
  rw [List.length_map]
  exact Nat.le_trans (List.length_filter_le _ _) (by simp)
theorem flatMap_len {α : Type} {g : Nat → List α} {c : Nat} (h : ∀ k, (g k).length ≤ c) : ∀ n, ((List.range n).flatMap g).length ≤ n * c
  | 0 => by simp
  | n + 1 => by
    have ih := flatMap_len h n
    have := h n
    rw [List.range_succ, List.flatMap_append, List.length_append, List.flatMap_cons, List.flatMap_nil, List.append_nil, Nat.add_mul]
    omega
theorem tell1_len (s lo hi : Int) : (tell1 s lo hi).length ≤ 1 := by
  unfold tell1; split <;> simp
theorem llF_len (ns : List Int) (lift i : Nat) : (llF ns lift i).length ≤ 33 := by
  unfold llF tellP
  have h1 := llZ_len ns lift i
  have h2 := flatMap_len (fun k => tell1_len (1 + (i : Int)) ((llMk ns lift i).getD k 0) ((llMk ns lift i).getD (k + 1) 0)) ((llMk ns lift i).length - 1)
  have h3 : (llMk ns lift i).length = (llZ ns lift i).length + 2 := by
    unfold llMk
    rw [List.length_append, List.length_append, List.length_singleton, List.length_singleton]; omega
  omega
theorem tr_step {α : Type} (A : List α) (g : Nat → List α) (j : Nat) : A ++ (List.range (j + 1)).flatMap g = (A ++ (List.range j).flatMap g) ++ g j := by
  rw [List.range_succ, List.flatMap_append, List.append_assoc, List.flatMap_cons, List.flatMap_nil, List.append_nil]
theorem tv_len {tups : List (Addr × Obj)} {tv : List Value} {ns mk : List Int} {lift i j : Nat} {s : Int} (hn : ns.length ≤ 24) (hi : i < (ns.length + 1) / 2 - 1) (hm : mk.length ≤ 34) (hj : j < mk.length - 1)
    (h : DatAll tups tv (((List.range i).flatMap (llF ns lift) ++ (List.range j).flatMap (fun j => tell1 s (mk.getD j 0) (mk.getD (j + 1) 0))).map tripD)) : tv.length < 1000 := by
  have h1 := h.length
  rw [List.length_map, List.length_append] at h1
  have h2 := flatMap_len (llF_len ns lift) i
  have h3 := flatMap_len (fun k => tell1_len s (mk.getD k 0) (mk.getD (k + 1) 0)) j
  omega
theorem tups_snoc {tups : List (Addr × Obj)} {tv : List Value} {A : List (Int × Int × Int)} {g : Nat → List (Int × Int × Int)} {j : Nat} {a b c : Int} {t u w : Tok} {D : Addr} (h : DatAll tups tv ((A ++ (List.range j).flatMap g).map tripD)) (hg : g j = [(a, b, c)]) :
    DatAll (tups ++ [(D, { cls := .type "tuple", data := .seq #[.int a t, .int b u, .int c w] })]) (tv ++ [.ref D]) ((A ++ (List.range (j + 1)).flatMap g).map tripD) := by
  rw [tr_step, hg, List.map_append]
  exact (h.mono fun p hp => List.mem_append_left _ hp).append (.one (.tuple (n := 0) (vs := [.int a t, .int b u, .int c w]) (by simp) (.cons (.int _ _) (.cons (.int _ _) (.cons (.int _ _) .nil)))))
theorem tups_same {tups : List (Addr × Obj)} {tv : List Value} {A : List (Int × Int × Int)} {g : Nat → List (Int × Int × Int)} {j : Nat} (h : DatAll tups tv ((A ++ (List.range j).flatMap g).map tripD)) (hg : g j = []) :
    DatAll (tups ++ []) tv ((A ++ (List.range (j + 1)).flatMap g).map tripD) := by
  rw [tr_step, hg, List.append_nil, List.append_nil]; exact h
end

section
open PySem PySem.W PyProof.Rows PySem.Calls PySem.Spec
set_option maxRecDepth 100000
set_option maxHeartbeats 8000000

theorem wp_halt' {M : Model} {A : Around} {α : Type} {t : Sem α} {Q : α → Shared → Prop} {E : Value → Shared → Prop} {s : Shared} (h : Halt (wpAny M A t Q E s)) : wpAny M A t Q E s := h.out
set_option hygiene false in
local macro_rules | `(tactic| walk_at "call ref") => `(tactic| (k_here; (k_dflt (refine' pf_claim _ _ _ _ _ _ _ ?hx _ _ _ _ _ _ _ _ _ _ _ _ _ _ _ _ _ ?k1 ?k2 ?k3 ?k4 ?k5 ?kK ?kp ?kd ?ku ?_)); (case hx => assumption); (case k1 => k_asm); (case k2 => k_asm); (case k3 => k_asm); (case k4 => k_asm); (case k5 => k_asm); (case kK => first | exact rfl | assumption); (case kp => trivial); (case kd => ktr_room); (case ku => ktr_units); intro t9 h9 tk9 F9 N9; (try dsimp only); (try k_fold)))
set_option hygiene false in
local macro_rules | `(tactic| walk_at "call builtin:str.split") => `(tactic| (k_here; (refine' split_pf ?hx ?hF ?hN ?_); (case hx => assumption); (case hF => k_asm); (case hN => k_asm); intro D9 wv W9 h9 k9 w9 a9 F9 N9 l9; (try k_lt l9); (try dsimp only); (try k_fold)))
set_option hygiene false in
local macro_rules | `(tactic| walk_at "call builtin:list.index") => `(tactic| (k_here; (refine' index_strs ?hN ?hm ?hi ?hk ?hb ?_); (case hN => k_asm); (case hm => k_memK); (case hi => assumption); (case hk => solve_by_elim); (case hb => (rw [List.length_map, List.length_range]; decide)); k_whole))
set_option hygiene false in
local macro_rules | `(tactic| k_all) => `(tactic| assumption)
set_option hygiene false in
local macro_rules | `(tactic| walk_at $wk:str) => if ["CompSrc", "CompSrcT", "exec For Name Call cons nil", "call type:zip", "UnrEndW"].contains wk.getString then `(tactic| (first | refine wp_halt' ?_ | refine src_halt ?_ | refine srcT_halt ?_ | refine unr_halt ?_)) else Lean.Macro.throwUnsupported
theorem ll_claim (w : World) (mean : ExcName → Option Value) (mg mb : Str → Option Value) (news : List (Addr × Obj)) (ra ta : Addr) (vs ts : List Value) (ns : List Int) (kr kt lift : Nat) (tkl : Tok)
  (hv : IntsAre vs ns) (ht : StrsAre ts ((List.range 32).map flagName)) (hn : ns.length ≤ 24) (hl : lift ≤ 8) :
  ∀ (dp un : Nat) (gd : Option (List Code)) (cn : Str) (cs : Scope) (a : Addr) (ccd : Value) (cl : List (Str × Addr)) (outer : List Env) (A₀ : Around) (base h₀ : Heap) (L : Addr) (m : Str → Option Value) (s : Shared) (Q E : Value → Shared → Prop),
    Below A₀ base outer h₀ → Fr h₀ L s.heap m → (hd.heap_39 w.params).In h₀ → News h₀ L s.heap ((ra, W.listOf vs.toArray kr) :: (ta, W.listOf ts.toArray kt) :: news) → Top hd.view_39 LO mean mg mb h₀ → cs.kind = .function →
    dp + 2 < recursionLimit → un + 16 < cLine →
    (∀ (l : Addr) (tv : List Value) (tups : List (Addr × Obj)) (k : Nat) (h' : Heap) (tk' : Nat), DatAll tups tv ((llP ns lift).map tripD) → (@LT.lt Nat _ ra l ∧ @LT.lt Nat _ ta l ∧ AllLt l news) → (∀ p ∈ tups, p.1 ≠ l) → Fr h₀ L h' m → News h₀ L h' ((l, W.listOf tv.toArray k) :: (ra, W.listOf vs.toArray kr) :: (ta, W.listOf ts.toArray kt) :: (news ++ tups)) → Q (.ref l) { s with heap := h', toks := tk' }) →
      wpAny (model PySem.Challenge.rw_we0007_01.row.prog w) (ktrTop dp un gd cn cs L a ccd cl outer) (call (.ref 113) [.ref ra, .int (lift : Int) tkl, .ref ta]) Q E s := by
  k_fill
  intro dp un gd cn cs a ccd cl outer A₀ base h₀ L m s Q E B F X N T hk hdp hun hret
  refine wpAny_call ?_
  refine' code_defC ?k1 ?k2 ?k3 ?k4 ?k5 ?kA ?kF ?kK ?k6 ?k7 ?k8 ?k9 ?kB ?kD ?_ ?c2 ?c3 ?c4
  case kA => exact rfl
  case kF => exact rfl
  case kK => assumption
  case k1 => k_asm
  case k2 => k_asm
  case k3 => k_asm
  case k4 => k_asm
  case k5 => k_asm
  case k6 => k_is
  case k7 => k_is
  case k8 => ktr_room
  case k9 => exact BindsTo.of_eq rfl
  case kB => exact rfl
  case kD => decide +kernel
  case c2 => exact rfl
  case c3 => exact rfl
  case c4 => exact rfl
  k_whole
  intro g' L' h' tk' cells' FG' F' N' Y' B' X' T' l1
  try k_lt l1
  k_cells Y'
  try simp only [List.cons_append, List.nil_append] at N'
  try dsimp only
  try k_lift B'
  try k_fold
  k_steps
  refine ⟨LCt.CompSrcT.range (n := ns.length) rfl (by k_asm) (by k_asm) (by assumption) ?_ ?_ ?_ ?_⟩
  · exact small_one (by omega) (by omega) (by omega) (by omega)
  · exact (rangeSize_nat _ _).trans (by omega)
  · rw [sizeLine_eq]; omega
  intro g
  refine restT_pick (fun i => ns.getD i 0 == 1) (fun i => (2 : Int) ^ i) Value.int IntsAre .nil (fun _ _ _ _ h => IntsAre.append h (.cons _ _ .nil)) ?_ ?_
  · rintro i v I oI C oC D m₂ ys h tk E' hi ⟨t, rfl⟩ hC hx F1 N1 off ne
    try k_fold
    k_steps
    · exact pick_yes (by assumption)
    · exact pick_no (by assumption)
  · intro ys hys
    unfold LCg.FinE
    intro D h1 tk1 F1 N1 o1
    try dsimp only
    try k_fold
    k_steps
    rename Fr _ _ _ _ => F2
    rename News _ _ _ _ => N2
    rename (_ ∧ _ ∧ _ ∧ _ ∧ _ ∧ _ ∧ AllLt _ news) => hTl
    have hTn := ne_news hTl.2.2.2.2.2.2
    refine ⟨?_⟩
    refine' For_range_grow F2 N2 1 ((ns.length + 1) / 2 - 1) (llJN N2 ns (llF ns lift)) rfl rfl rfl ?_ (by intro _; rfl) (by passes_own)
    try k_fold
    k_steps
    refine ⟨_, _, _, _, _, rfl, by assumption, ?_, ?_, by assumption, by assumption, ?_, ?_, ?_⟩
    · exact small_one (by omega) (by omega) (by rw [Int.fdiv_eq_ediv_of_nonneg _ (by omega)]; omega) (by rw [Int.fdiv_eq_ediv_of_nonneg _ (by omega)]; omega)
    · refine (rangeSize_nat _ _).trans ?_
      rw [Int.fdiv_eq_ediv_of_nonneg _ (by omega)]
      omega
    · dsimp only [llJN, LlJ]
      refine ⟨[], [], 0, _, _, ?_, ?_, ?_, map2 rfl rfl⟩
      · rw [List.append_nil]; rfl
      · rw [List.range_zero, List.flatMap_nil]
        exact .nil
      · intro p hp; cases hp
    · rintro i t m₁ nx h tk I oI hi0 hI hnI ⟨tv, tups, k, t', u, rfl, htv, htu, rfl⟩ F3 N3
      simp only [List.cons_append, List.nil_append] at N3
      k_lt hI
      have hU := unP_bounds hn i
      have hUn : (unP ns i).natAbs < 2 ^ 64 := by omega
      have hUl := unP_lift hn i hl
      have hU2 := unP_lift32 hn i hl
      have hUI := @pfAll_idx _ hU2.1 hU2.2
      dsimp only [unP] at hUn hUl hU2
      try k_fold
      k_steps
      rename StrsAre _ _ => hW
      rename List Value => wv
      rename (_ = pfAll _) => hWe
      rename List Str => W
      have hWl : W.length ≤ 33 := by rw [hWe]; exact (pfAll_short (unP_lift hn i hl)).2
      have hZe := @z_eq ns lift i wv.toArray.size W hn hl hWe (by rw [List.size_toArray, hW.length])
      refine ⟨LCt.CompSrcT.ledger rfl (by k_asm) (by k_asm) (by k_memK) ?_ ?_⟩
      · rw [List.size_toArray, hW.length]; size_fits
      intro g9
      refine restT_pick (fun i => W.getD i zeroWord != zeroWord) (fun i => wIdx (W.getD i zeroWord) lift) Value.int IntsAre .nil (fun _ _ _ _ h => IntsAre.append h (.cons _ _ .nil)) ?_ ?_
      · rintro j v I oI C oC D m₂ ys h tk E' hj hv hC hx F1 N1 off ne
        obtain ⟨hjl, t9, rfl⟩ := word_at hW hv
        have hidx : (W.getD j zeroWord != Str.ofString "0x0") = true → W.getD j zeroWord ∈ (List.range 32).map flagName := fun h => hUI (by rw [← hWe, List.getD_eq_getElem?_getD, List.getElem?_eq_getElem hjl]; exact List.getElem_mem _) (bne_iff_ne.mp h)
        obtain ⟨one, hone⟩ : ∃ one, W.getD j zeroWord = one := ⟨_, rfl⟩
        rw [hone] at hidx hx
        try k_fold
        k_steps
        · exact wpick_yes (by assumption) (by assumption)
        · exact wpick_no (by assumption) (by assumption)
      · intro zs hzs
        have hZl : ((List.map (fun i => wIdx (W.getD i zeroWord) lift) (List.filter (fun i => W.getD i zeroWord != zeroWord) (List.range wv.toArray.size)))).length ≤ 33 := by
          rw [List.length_map]
          refine Nat.le_trans (List.length_filter_le _ _) ?_
          rw [List.length_range, List.size_toArray, hW.length]
          exact hWl
        obtain ⟨Z, hZ⟩ : ∃ Z, Z = (List.map (fun i => wIdx (W.getD i zeroWord) lift) (List.filter (fun i => W.getD i zeroWord != zeroWord) (List.range wv.toArray.size))) := ⟨_, rfl⟩
        rw [← hZ] at hzs hZl
        unfold LCg.FinE
        intro D h1 tk1 F1 N1 o1
        try dsimp only
        try k_fold
        k_steps
        refine ⟨?_⟩
        rename Fr _ _ _ _ => F4
        rename News _ _ _ _ => N4
        rename IntsAre _ ([-1] ++ Z ++ [(ns.length : Int) - (1 + (i : Int))]) => hM0
        rename IntsAre _ (List.drop 1 ([-1] ++ Z ++ [(ns.length : Int) - (1 + (i : Int))])) => hM1
        have N5 := ll_perm N4
        refine' ktu_zip ?hh ?F ?N ?m1 ?c1 ?d1 ?m2 ?c2 ?d2 ?_
        case hh => exact rfl
        case F => k_asm
        case N => exact N5
        case m1 => k_memK
        case c1 => exact rfl
        case d1 => exact rfl
        case m2 => k_memK
        case c2 => exact rfl
        case d2 => exact rfl
        intro i' l1
        k_lt l1
        have hMl := llZ_len ns lift i
        obtain ⟨MK, hMK⟩ : ∃ MK, MK = [-1] ++ Z ++ [(ns.length : Int) - (1 + (i : Int))] := ⟨_, rfl⟩
        rw [← hMK] at hM0 hM1
        rw [hZe] at hZ
        rw [hZ] at hMK
        have hMK : MK = llMk ns lift i := hMK
        have hMl : MK.length ≤ 34 := by
          rw [hMK]; unfold llMk
          rw [List.length_append, List.length_append, List.length_singleton, List.length_singleton]; omega
        have hln : ∀ p ∈ news, @LT.lt Nat _ p.1 i' := fun p hp => allLt_mem2 l1.2.2.2.2.2.2.2.2.2.2 p (List.mem_append_left _ hp)
        have hlt : ∀ p ∈ tups, @LT.lt Nat _ p.1 i' := fun p hp => allLt_mem2 l1.2.2.2.2.2.2.2.2.2.2 p (List.mem_append_right _ hp)
        refine items_inv (llIN (news := news) (tups := tups) N5 i' ns (1 + (i : Int)) t (fun j => (List.range i).flatMap (llF ns lift) ++ (List.range j).flatMap (fun j => tell1 (1 + (i : Int)) (MK.getD j 0) (MK.getD (j + 1) 0)))) ?_ ?_ ?_
        · refine ⟨tv, tups, k, t', _, rfl, ?_, fun p hp => ⟨htu p hp, ?_, .inl (hlt p hp)⟩, map3 rfl rfl rfl⟩
          · show DatAll tups tv (List.map tripD ((List.range i).flatMap (llF ns lift) ++ (List.range 0).flatMap _))
            rw [List.range_zero, List.flatMap_nil, List.append_nil]; exact htv
          · exact hnI p (by simp [hp])
        · rintro j a m₁ n₁ v h tk ha ⟨tv, tups', k, t', u, rfl, htv, hAv, rfl⟩ hv F5
          obtain ⟨hj, t5, u5, rfl⟩ := zip_at hM0 hM1 ha
          obtain ⟨lo, hlo⟩ : ∃ lo, MK.getD j 0 = lo := ⟨_, rfl⟩
          obtain ⟨hi, hhi⟩ : ∃ hi, MK.getD (j + 1) 0 = hi := ⟨_, rfl⟩
          rw [hlo, hhi] at hv
          obtain ⟨T5, t6, rfl, hT5⟩ := hv
          dsimp only at hT5
          ktu_objs
          simp only [List.cons_append, List.nil_append] at *
          have htl := tv_len hn hi0 hMl hj htv
          have hTt := ne_app hTn fun p hp => (hAv p hp).1
          try k_fold
          k_steps
          · rename Fr _ _ _ _ => F8
            rename News _ _ _ _ => N8
            rename (@LT.lt Nat _ (i' + 4) _ ∧ _) => hD
            rename (1 + (i : Int) + 1 < hi - lo) => hc
            try simp only [List.push_toArray] at N8
            refine ll_turn (own := [_]) F8 N8 ⟨rfl, rfl, rfl, rfl, rfl⟩ ⟨l1.1, l1.2.1, l1.2.2.1, l1.2.2.2.1, l1.2.2.2.2.1, l1.2.2.2.2.2.1, l1.2.2.2.2.2.2.1, l1.2.2.2.2.2.2.2.1, l1.2.2.2.2.2.2.2.2.1, l1.2.2.2.2.2.2.2.2.2.1⟩ hln ?_ ?_ rfl rfl rfl
            · intro p hp
              rcases List.mem_append.mp hp with hp | hp
              · exact hAv p hp
              · rw [List.mem_singleton.mp hp]
                exact ⟨Nat.ne_of_gt hD.2.2.2.2.2.1, Nat.ne_of_gt hD.2.2.2.2.2.2.2.2.1, .inr hD.1⟩
            · exact tups_snoc htv (by rw [hlo, hhi]; exact if_pos hc)
          · rename Fr _ _ _ _ => F8
            rename News _ _ _ _ => N8
            rename (¬ 1 + (i : Int) + 1 < hi - lo) => hc
            refine ll_turn (own := []) F8 N8 ⟨rfl, rfl, rfl, rfl, rfl⟩ ⟨l1.1, l1.2.1, l1.2.2.1, l1.2.2.2.1, l1.2.2.2.2.1, l1.2.2.2.2.2.1, l1.2.2.2.2.2.2.1, l1.2.2.2.2.2.2.2.1, l1.2.2.2.2.2.2.2.2.1, l1.2.2.2.2.2.2.2.2.2.1⟩ hln ?_ ?_ rfl rfl rfl
            · intro p hp
              rw [List.append_nil] at hp
              exact hAv p hp
            · exact tups_same htv (by rw [hlo, hhi]; exact if_neg hc)
        · rintro m₁ n₁ h tk ⟨tv, tups', k, t', u, rfl, htv, hAv, rfl⟩ F9 N9
          simp only [List.cons_append, List.nil_append] at N9
          try dsimp only
          try k_fold
          k_steps
          dsimp only [GrowPost]
          refine ll_next (tups := tups') F9 N9 ⟨hI.1, hI.2.1, hI.2.2.1, hI.2.2.2.1, hI.2.2.2.2.1, hI.2.2.2.2.2.1, hI.2.2.2.2.2.2.1⟩ (allLt_mem2 hI.2.2.2.2.2.2.2) (fun p hp => ⟨(hAv p hp).1, (hAv p hp).2.1⟩) ?_ rfl rfl
          rw [List.range_succ, List.flatMap_append, List.flatMap_cons, List.flatMap_nil, List.append_nil]
          unfold llF tellP
          rw [← hMK]
          dsimp only at htv
          rw [zipItems_length, hM0.length, hM1.length, List.length_drop, Nat.min_eq_right (Nat.sub_le _ _)] at htv
          exact htv
    · rintro m₁ n₁ h tk ⟨tv, tups, k, t', u, rfl, htv, hAv, rfl⟩ F9 N9
      simp only [List.cons_append, List.nil_append] at N9
      try dsimp only
      try k_fold
      k_steps
      rename Fr _ _ _ _ => F8
      rename News _ _ _ _ => N8
      refine hret _ _ _ _ _ _ htv ⟨hTl.2.2.2.2.1, hTl.2.2.2.2.2.1, hTl.2.2.2.2.2.2⟩ hAv F8 (ll_out N8)
end

section
open PySem PySem.W PyProof.Rows PySem.Calls PySem.Spec
set_option maxRecDepth 100000

open PyProof.Rows.LCg
section
variable {prog : Program} {w : World} {A : Around} {E : Value → Shared → Prop} {s : Shared} {h₀ : Heap} {L : Addr} {m : Str → Option Value} {env : Env}
/-- the addresses of a comprehension in flight: its iterator, its names, its list -/
structure Fx (h₀ : Heap) (L I C D : Addr) : Prop where
  il : L ≠ I
  i0 : h₀.get? I = none
  cl : C ≠ L
  c0 : h₀.get? C = none
  dl : D ≠ L
  d0 : h₀.get? D = none
  ic : I ≠ C
  id : I ≠ D
  dc : D ≠ C
/-- its state -/
structure CSt (h₀ : Heap) (L : Addr) (m : Str → Option Value) (I C D : Addr) (ys : List Value) (nw : List (Addr × Obj)) (m' : Str → Option Value) (h : Heap) : Prop where
  F : Fr h₀ L h m
  n : h.Ns C m'
  N : News h₀ L h ((D, lst ys) :: nw)
  off : Off3 I C D nw
section
variable {I C D : Addr} {ys : List Value} {nw : List (Addr × Obj)} {m' : Str → Option Value} {h h' : Heap}
theorem CSt.off1 (X : Fx h₀ L I C D) (c : CSt h₀ L m I C D ys nw m' h) : ∀ p ∈ (D, lst ys) :: nw, p.1 ≠ I ∧ p.1 ≠ C := fun p hp =>
  (List.mem_cons.mp hp).elim (fun e => e ▸ ⟨Ne.symm X.id, X.dc⟩) fun hp => ⟨(c.off.mem p hp).1, (c.off.mem p hp).2.1⟩
theorem CSt.next (X : Fx h₀ L I C D) (c : CSt h₀ L m I C D ys nw m' h) (k : ∀ b o, b ∉ [I] → h.get? b = some o → h'.get? b = some o) : CSt h₀ L m I C D ys nw m' h' :=
  ⟨fr_but c.F k X.il X.i0, c.n.at' fun o e => k _ o (by simpa using Ne.symm X.ic) e, news_but c.N k fun p hp => (c.off1 X p hp).1, c.off⟩
theorem CSt.grow (c : CSt h₀ L m I C D ys nw m' h) (k : ∀ b o, h.get? b = some o → h'.get? b = some o) : CSt h₀ L m I C D ys nw m' h' :=
  ⟨c.F.keeps k, c.n.at' fun o e => k _ o e, c.N.grown k, c.off⟩
theorem CSt.store {m₂ : Str → Option Value} (X : Fx h₀ L I C D) (c : CSt h₀ L m I C D ys nw m' h) (n : h'.Ns C m₂) (k : Heap.SameBut C h h') : CSt h₀ L m I C D ys nw m₂ h' :=
  ⟨c.F.change k X.cl X.c0, n, fun p hp => ⟨k.extBut _ _ (c.off1 X p hp).2 (c.N p hp).1, (c.N p hp).2⟩, c.off⟩
theorem CSt.open (X : Fx h₀ L I C D) (c : CSt h₀ L m I C D ys nw m' h) {oI : Obj} (e : h.get? I = some oI) : ∃ oC, NsObj oC m' ∧ News h₀ L h ((I, oI) :: (C, oC) :: (D, lst ys) :: nw) := by
  obtain ⟨oC, eC, hC⟩ := ns_obj c.n
  refine ⟨oC, hC, fun p hp => ?_⟩
  rcases List.mem_cons.mp hp with rfl | hp
  · exact ⟨e, Ne.symm X.il, X.i0⟩
  rcases List.mem_cons.mp hp with rfl | hp
  · exact ⟨eC, X.cl, X.c0⟩
  · exact c.N p hp
theorem CSt.close {oI oC : Obj} (F : Fr h₀ L h m) (N : News h₀ L h ((I, oI) :: (C, oC) :: (D, lst ys) :: nw)) (hC : NsObj oC m') (off : Off3 I C D nw) : CSt h₀ L m I C D ys nw m' h :=
  ⟨F, hC.ns (N (C, oC) (.tail _ (.head _))).1, fun p hp => N p (.tail _ (.tail _ hp)), off⟩
theorem CSt.append {y : Value} (X : Fx h₀ L I C D) (c : CSt h₀ L m I C D ys nw m' h) (k : Heap.SameBut D h h') (e : h'.get? D = some { cls := .type "list", data := .seq (ys.toArray.push y) (ys.length + 1) }) : CSt h₀ L m I C D (ys ++ [y]) nw m' h' := by
  refine ⟨c.F.change k X.dl X.d0, c.n.sameBut k (Ne.symm X.dc), fun p hp => ?_, c.off⟩
  rcases List.mem_cons.mp hp with rfl | hp
  · exact ⟨e.trans (congrArg some (lst_snoc ys y)), X.dl, X.d0⟩
  · exact ⟨k.extBut _ _ (c.off.mem p hp).2.2 (c.N p (.tail _ hp)).1, (c.N p (.tail _ hp)).2⟩
end
theorem comp_init {scope : Scope} {cl : List (Str × Addr)} {s₂ : Shared} {I : Addr} {news : List (Addr × Obj)} {K : Value → Env → Addr → Shared → Prop}
    (hcell : ∀ y ∈ scope.names, y.2 ≠ .cell) (hkind : scope.kind = .function) (hI : I < s₂.heap.objs.size)
    (F : Fr h₀ L s₂.heap m) (N : News h₀ L s₂.heap news) (hIL : L ≠ I) (hI₀ : h₀.get? I = none) (off : ∀ p ∈ news, p.1 ≠ I)
    (h : ∀ C D h tk m', Fx h₀ L I C D → CSt h₀ L m I C D [] news m' h → (∀ b o, s₂.heap.get? b = some o → h.get? b = some o) → K (.ref D) (compEnvC scope cl C env) C { s₂ with heap := h, toks := tk }) :
    wpAny (model prog w) A (newList []) (fun acc s₃ => wpAny (model prog w) A (newFunctionEnv scope env.globals cl [] env.qual none .none (some env)) (fun cenv s₄ => K acc { cenv with scope := relabel scope env } cenv.locals s₄) E s₃) E s₂ := by
  refine wpAny_newObj_type (wpAny_newFunctionEnv hcell (by intro y hy; simp at hy) (fun h₁ n₁ k₁ => ?_) hkind)
  dsimp only at n₁ k₁ ⊢
  have none_of : ∀ a, s₂.heap.objs.size ≤ a → h₀.get? a = none := fun a ha => by
    cases e : h₀.get? a with
    | none => rfl
    | some o => exact absurd (Heap.lt_size (F.keep a o e)) (Nat.not_lt.mpr ha)
  have sz : ∀ o, (s₂.heap.push o).objs.size = s₂.heap.objs.size + 1 := fun o => by rw [Heap.size_push]
  have X : Fx h₀ L I (s₂.heap.objs.size + 1) s₂.heap.objs.size :=
    ⟨hIL, hI₀, Ne.symm (Nat.ne_of_lt (Nat.lt_succ_of_lt F.ns.lt)), none_of _ (Nat.le_succ _), Ne.symm (Nat.ne_of_lt F.ns.lt), none_of _ (Nat.le_refl _), Nat.ne_of_lt (Nat.lt_succ_of_lt hI), Nat.ne_of_lt hI, Nat.ne_of_lt (Nat.lt_succ_self _)⟩
  rw [sz] at n₁ k₁ ⊢
  have old : ∀ b o, s₂.heap.get? b = some o → h₁.get? b = some o := fun b o e =>
    k₁.extBut b o (Nat.ne_of_lt (Nat.lt_succ_of_lt (Heap.lt_size e))) (Heap.get?_push_of_some _ (Heap.get?_push_of_some _ e))
  refine h _ _ h₁ _ _ X ⟨F.keeps old, n₁, fun p hp => ?_, Off3.of fun p hp => ⟨off p hp, Nat.ne_of_lt (Nat.lt_succ_of_lt (Heap.lt_size (N p hp).1)), Nat.ne_of_lt (Heap.lt_size (N p hp).1)⟩⟩ old
  rcases List.mem_cons.mp hp with rfl | hp
  · exact ⟨k₁.extBut _ _ X.dc (Heap.get?_push_of_some _ (Heap.get?_push_size _ rfl)), X.dl, X.d0⟩
  · exact ⟨old _ _ (N p hp).1, (N p hp).2⟩
/-- what is asked of a comprehension's source: a list of the ledger, and its loop -/
noncomputable def CompG (prog : Program) (w : World) (A : Around) (h₀ : Heap) (L : Addr) (m : Str → Option Value) (e : Expr) (cenv : Addr → Env) (Q : Value → Shared → Prop) (xv : Value) (s₁ : Shared) : Prop :=
  ∃ (ax : Addr) (its : Array Value) (k : Nat) (news : List (Addr × Obj)), xv = .ref ax ∧ Fr h₀ L s₁.heap m ∧ News h₀ L s₁.heap news ∧ (ax, ({ cls := .type "list", data := .seq its k } : Obj)) ∈ news ∧
    ∀ I C D h tk m', Fx h₀ L I C D → CSt h₀ L m I C D [] news m' h → h.IsListIter I ax 0 →
      codeAny (model prog w) A (.compLoop e 0 (.ref I) (.ref D) (cenv C)) (fun r s' => r = .ok .next ∧ ∃ h' tk' ys nw m'', s' = { s₁ with heap := h', toks := tk' } ∧ CSt h₀ L m I C D ys nw m'' h' ∧ FinE h₀ L m s₁ Q ys nw) { s₁ with heap := h, toks := tk }
theorem ListComp_G {elt target iter : Expr} {rest : List Comprehension} {scope : Scope} {cl : List (Str × Addr)} {pos : Pos} {Q : Value → Shared → Prop} (_F₀ : Fr h₀ L s.heap m)
    (hclos : closureFor scope env = pure cl) (hcell : ∀ y ∈ scope.names, y.2 ≠ .cell) (hkind : scope.kind = .function)
    (hnames : ∀ y ∈ scope.names, y.2 = .local → scope.names.lookup y.1 = some .local)
    (h : wpAny (model prog w) A (eval iter env) (CompG prog w A h₀ L m (.ListComp elt (⟨target, iter, [], 0⟩ :: rest) scope pos) (fun C => compEnvC scope cl C env) Q) E s)
    (hs : ∀ x, foldedSetIterable iter env x = pure x := by intro _; rfl) :
    wpAny (model prog w) A (eval (.ListComp elt (⟨target, iter, [], 0⟩ :: rest) scope pos) env) Q E s := by
  rw [eval_ListComp]
  refine wpAny_comprehension_free (use := none) rfl hs hclos hkind hnames (wpAny_mono h (fun xv s₁ h₁ => ?_) fun _ _ e => e)
  obtain ⟨ax, its, k, news, rfl, F, N, hm, loop⟩ := h₁
  have hl : s₁.heap.IsList ax its := ⟨_, (N _ hm).1, rfl, k, rfl⟩
  refine wpAny_pyIter_list hl ?_
  have up : ∀ b o, s₁.heap.get? b = some o → (s₁.heap.push { cls := .type "list_iterator", data := .fields #[.ref ax, .int 0 0] }).get? b = some o := fun b o e => Heap.get?_push_of_some _ e
  refine comp_init (K := fun acc cenv C s₄ => codeAny (model prog w) A (.compStart (.ListComp elt (⟨target, iter, [], 0⟩ :: rest) scope pos) 0 (.ref s₁.heap.objs.size) acc cenv) (compPost (model prog w) A E none Q acc C) s₄) hcell hkind (by
    show s₁.heap.objs.size < (s₁.heap.push _).objs.size
    rw [Heap.size_push]; exact Nat.lt_succ_self _) (F.keeps up) (N.grown up) (Nat.ne_of_lt F.ns.lt) (next_is_new F) (fun p hp => Nat.ne_of_lt (Heap.lt_size (N p hp).1)) ?_
  intro C D h tk m' X c old
  have hi : h.IsListIter s₁.heap.objs.size ax 0 := ⟨_, old _ _ (Heap.get?_push_size _ rfl), rfl, rfl⟩
  have main : codeAny (model prog w) A (.compLoop (.ListComp elt (⟨target, iter, [], 0⟩ :: rest) scope pos) 0 (.ref s₁.heap.objs.size) (.ref D) (compEnvC scope cl C env)) (compPost (model prog w) A E none Q (.ref D) C) { s₁ with heap := h, toks := tk } := by
    refine codeAny_mono (loop _ C D h tk m' X c hi) fun r s' hr => ?_
    obtain ⟨rfl, h', tk', ys, nw, m'', rfl, c', fin⟩ := hr
    refine ⟨m'', c'.n, fun h'' k'' => fin D h'' tk' (c'.F.change k'' X.cl X.c0) (fun p hp => ⟨k''.extBut _ _ (c'.off1 X p hp).2 (c'.N p hp).1, (c'.N p hp).2⟩) c'.off.one⟩
  exact codeAny_compStart_list main (wpAny_pyIter_listiter hi main)
end
end

section
open PySem PySem.W PyProof.Rows PySem.Calls PySem.Spec
set_option maxRecDepth 100000

open PyProof.Rows.LCg
section
variable {prog : Program} {w : World} {A : Around} {E : Value → Shared → Prop} {s : Shared} {h₀ : Heap} {L : Addr} {m : Str → Option Value} {env : Env} {R : Result → Shared → Prop}
/-- the loop of `[e for a, b, c in list]`: by an invariant over the list made and the ledger -/
theorem loop3 {elt iter : Expr} {a b c : Str} {pa pb pc tp pos : Pos} {tk : Nat} {scope : Scope} {cl : List (Str × Addr)} {I C D ax : Addr} {its : Array Value} {k : Nat} {Fin : List Value → List (Addr × Obj) → Prop} {h : Heap} {tk₀ : Nat} {m' : Str → Option Value} {nw₀ : List (Addr × Obj)}
    (hh : A.handled = none) (hkind : scope.kind = .function) (ha : scope.names.lookup a = some .local) (hb : scope.names.lookup b = some .local) (hc : scope.names.lookup c = some .local) (hab : a ≠ b) (hac : a ≠ c) (hbc : b ≠ c) (hsz : its.size ≤ sizeLine)
    (J : Nat → List Value → List (Addr × Obj) → Prop) (src : ∀ i ys nw, J i ys nw → (ax, ({ cls := .type "list", data := .seq its k } : Obj)) ∈ nw ∧ ys.length = i)
    (turn : ∀ i v ys nw, its[i]? = some v → J i ys nw → ∃ (t : Addr) (ot : Obj) (v₁ v₂ v₃ : Value) (nt : Nat), v = .ref t ∧ (t, ot) ∈ nw ∧ ot.cls = .type "tuple" ∧ ot.data = .seq #[v₁, v₂, v₃] nt ∧
      ∀ oI oC m₂ h tk (E' : Value → Shared → Prop), NsObj oC m₂ → m₂ a = some v₁ → m₂ b = some v₂ → m₂ c = some v₃ → Fr h₀ L h m → News h₀ L h ((I, oI) :: (C, oC) :: (D, lst ys) :: nw) → Off3 I C D nw → ((@Ne Nat I C) ∧ (@Ne Nat I D) ∧ (@Ne Nat C D)) →
        wpAny (model prog w) A (eval elt (compEnvC scope cl C env)) (fun y s₂ => Halt (CompEnd h₀ L m { s with heap := h, toks := tk } I oI C oC D (lst ys) (fun _ => True) (fun y news' => J (i + 1) (ys ++ [y]) news') y s₂)) E' { s with heap := h, toks := tk })
    (X : Fx h₀ L I C D) (c₀ : CSt h₀ L m I C D [] nw₀ m' h) (hi : h.IsListIter I ax 0) (h0 : J 0 [] nw₀) (fin : ∀ ys nw, J its.size ys nw → Fin ys nw) :
    codeAny (model prog w) A (.compLoop (.ListComp elt [⟨.Tuple [.Name a pa, .Name b pb, .Name c pc] tk tp, iter, [], 0⟩] scope pos) 0 (.ref I) (.ref D) (compEnvC scope cl C env))
      (fun r s' => r = .ok .next ∧ ∃ h' tk' ys nw m'', s' = { s with heap := h', toks := tk' } ∧ CSt h₀ L m I C D ys nw m'' h' ∧ Fin ys nw) { s with heap := h, toks := tk₀ } := by
  refine LCp.codeAny_compLoop_pair (fun n s' => ∃ h' tk' i ys nw m'', s' = { s with heap := h', toks := tk' } ∧ i ≤ its.size ∧ n = its.size - i ∧ CSt h₀ L m I C D ys nw m'' h' ∧ h'.IsListIter I ax i ∧ J i ys nw) ?_ its.size
    ⟨h, tk₀, 0, [], nw₀, m', rfl, Nat.zero_le _, rfl, c₀, hi, h0⟩
  rintro n s' ⟨h', tk', i, ys, nw, m'', rfl, hin, rfl, c', hi', hJ⟩
  have hm := (src i ys nw hJ).1
  have hax : ax ≠ I := (c'.off.mem _ hm).1
  have hl : h'.IsList ax its := ⟨_, (c'.N _ (.tail _ hm)).1, rfl, k, rfl⟩
  by_cases hlt : i < its.size
  · refine (Walks.list hh I ax hax its).item i _ _ _ hlt ⟨hi', hl⟩ fun v h₂ tk₂ hP st₂ k₂ => ?_
    obtain ⟨t, ot, v₁, v₂, v₃, nt, rfl, hmt, hct, hdt, go⟩ := turn i v ys nw hP hJ
    have c₂ := c'.next X k₂
    refine wpAny_letOwnedTupleGo_listiter st₂.1 ?_
    refine assign_Tuple_tuple hh ⟨ot, (c₂.N _ (.tail _ hmt)).1, hct, nt, hdt⟩ rfl rfl fun h₃ k₃ => ?_
    have k₃' : ∀ b o, h₂.get? b = some o → h₃.get? b = some o := fun b o e => k₃ b o (Nat.ne_of_lt (Heap.lt_size e)) e
    have c₃ := c₂.grow k₃'
    refine assignInOrder_cons (wpAny_assign_Name (wpAny_storeName_local (lookup_relabel_local ha) c₃.n (fun h₄ n₄ k₄ => ?_) (by simp [compEnvC, relabel, hkind])))
    have c₄ := c₃.store X n₄ k₄
    refine assignInOrder_cons (wpAny_assign_Name (wpAny_storeName_local (lookup_relabel_local hb) c₄.n (fun h₅ n₅ k₅ => ?_) (by simp [compEnvC, relabel, hkind])))
    have c₅ := c₄.store X n₅ k₅
    refine assignInOrder_cons (wpAny_assign_Name (wpAny_storeName_local (lookup_relabel_local hc) c₅.n (fun h₆ n₆ k₆ => ?_) (by simp [compEnvC, relabel, hkind])))
    have c₆ := c₅.store X n₆ k₆
    refine assignInOrder_nil ?_
    have i₆ : h₆.IsListIter I ax (i + 1) := (((st₂.1.at fun o e => k₃' _ o e).at fun o e => k₄.extBut _ o X.ic e).at fun o e => k₅.extBut _ o X.ic e).at fun o e => k₆.extBut _ o X.ic e
    obtain ⟨oI, eI, rI⟩ := id i₆
    obtain ⟨oC, hC, N₆⟩ := c₆.open X eI
    refine wpAny_mono (go oI oC _ h₆ _ _ hC (by simp [hab, hac]) (by simp [hbc]) (by simp) c₆.F N₆ c₆.off ⟨X.ic, X.id, Ne.symm X.dc⟩) (fun y s₇ h₇ => ?_) fun _ _ e => e
    obtain ⟨⟨h₇, tk₇, nw₇, rfl, F₇, N₇, off₇, _, hJ₇⟩⟩ := h₇
    have c₇ := CSt.close F₇ N₇ hC off₇
    have i₇ : h₇.IsListIter I ax (i + 1) := ⟨oI, (N₇ _ (.head _)).1, rI⟩
    refine append_at (hsz := by show ys.toArray.size ≤ sizeLine; rw [List.size_toArray, (src i ys nw hJ).2]; exact Nat.le_trans hin hsz) (c₇.N _ (.head _)).1 fun h₈ k₈ e₈ => ?_
    exact ⟨its.size - (i + 1), by omega, h₈, _, i + 1, ys ++ [y], nw₇, _, rfl, hlt, rfl, c₇.append X k₈ e₈, i₇.at fun o e => k₈.extBut _ o X.id e, hJ₇⟩
  · obtain rfl : i = its.size := Nat.le_antisymm hin (Nat.not_lt.mp hlt)
    refine (Walks.list hh I ax hax its).done _ _ _ ⟨hi', hl⟩ fun h₂ tk₂ k₂ => ?_
    exact ⟨rfl, h₂, tk₂, ys, nw, m'', rfl, c'.next X k₂, fin ys nw hJ⟩
theorem compTurn_two (elt t1 it1 t2 it2 : Expr) (scope : Scope) (pos : Pos) (it acc : Value) (env : Env) :
    compTurn (.ListComp elt [⟨t1, it1, [], 0⟩, ⟨t2, it2, [], 0⟩] scope pos) 0 it acc env = (standAt it1.pos >>= fun _ => pyNext it >>= fun r => match r with
      | none => pure (.done .next)
      | some v => letOwnedTupleGo t1 it v >>= fun _ => assign t1 env v >>= fun _ =>
        eval it2 env >>= fun x => standAt it2.pos >>= fun _ => foldedSetIterable it2 env x >>= fun x => holding [x] (pyIter x) >>= fun i2 => runOwn (.compStart (.ListComp elt [⟨t1, it1, [], 0⟩, ⟨t2, it2, [], 0⟩] scope pos) 1 i2 acc env) env >>= fun _ =>
          again (.compLoop (.ListComp elt [⟨t1, it1, [], 0⟩, ⟨t2, it2, [], 0⟩] scope pos) 0 it acc env)) := by rfl
theorem compTurn_in (elt t1 it1 t2 it2 : Expr) (scope : Scope) (pos : Pos) (it acc : Value) (env : Env) :
    compTurn (.ListComp elt [⟨t1, it1, [], 0⟩, ⟨t2, it2, [], 0⟩] scope pos) 1 it acc env = (standAt it2.pos >>= fun _ => pyNext it >>= fun r => match r with
      | none => pure (.done .next)
      | some v => letOwnedTupleGo t2 it v >>= fun _ => assign t2 env v >>= fun _ =>
        (eval elt env >>= fun x => call (.builtin "list.append") [acc, x] >>= fun _ => pure ()) >>= fun _ =>
          again (.compLoop (.ListComp elt [⟨t1, it1, [], 0⟩, ⟨t2, it2, [], 0⟩] scope pos) 1 it acc env)) := by rfl
theorem start_in {elt t1 it1 t2 it2 : Expr} {scope : Scope} {pos : Pos} {it acc : Value}
    (h0 : codeAny (model prog w) A (.compLoop (.ListComp elt [⟨t1, it1, [], 0⟩, ⟨t2, it2, [], 0⟩] scope pos) 1 it acc env) R s)
    (h : wpAny (model prog w) A (pyIter it) (fun it' s' => codeAny (model prog w) A (.compLoop (.ListComp elt [⟨t1, it1, [], 0⟩, ⟨t2, it2, [], 0⟩] scope pos) 1 it' acc env) R s')
      (notedBy (model prog w) A env fun x s' => R (.error x) s') s) :
    codeAny (model prog w) A (.compStart (.ListComp elt [⟨t1, it1, [], 0⟩, ⟨t2, it2, [], 0⟩] scope pos) 1 it acc env) R s := by
  refine codeAny_of_tree ?_
  show wpAny _ _ ((compStart (.ListComp elt [⟨t1, it1, [], 0⟩, ⟨t2, it2, [], 0⟩] scope pos) 1 it acc env).onRaise (fun x => do noteFrame x env; standAt theWindowsPlace)) _ _ s
  refine wpAny_notedAt ?_
  unfold compStart
  show wpAny _ _ (ask >>= _) _ _ s
  refine wpAny_bind (wpAny_askSetting (wpAny_ite ?_))
  split
  · first
      | exact wpAny_bind (wpAny_pure (wpAny_pure (And.intro rfl h0)))
      | exact wpAny_pure (And.intro rfl h0)
  · first
      | exact wpAny_bind (wpAny_rule (wpAny_bind (wpAny_standAt (wpAny_bind (wpAny_mono h (fun it' s' h' => wpAny_pure (And.intro rfl h')) fun _ _ x => x)))))
      | (refine wpAny_bind (wpAny_rule ?_); show wpAny _ _ (standAt it2.pos >>= _) _ _ s; exact wpAny_bind (wpAny_standAt (wpAny_bind (wpAny_mono h (fun it' s' h' => wpAny_pure (And.intro rfl h')) fun _ _ x => x))))
section
variable {I C D : Addr} {ys : List Value} {nw : List (Addr × Obj)} {m' : Str → Option Value} {h h' : Heap}
theorem CSt.push {oI o : Obj} (X : Fx h₀ L I C D) (c : CSt h₀ L m I C D ys nw m' h) (e : h.get? I = some oI) : Fx h₀ L h.objs.size C D ∧ CSt h₀ L m h.objs.size C D ys ((I, oI) :: nw) m' (h.push o) := by
  have hC : C < h.objs.size := c.n.lt
  have hD : D < h.objs.size := Heap.lt_size (c.N _ (.head _)).1
  have up : ∀ b o', h.get? b = some o' → (h.push o).get? b = some o' := fun b o' e => Heap.get?_push_of_some _ e
  refine ⟨⟨Nat.ne_of_lt c.F.ns.lt, next_is_new c.F, X.cl, X.c0, X.dl, X.d0, Ne.symm (Nat.ne_of_lt hC), Ne.symm (Nat.ne_of_lt hD), X.dc⟩, ⟨c.F.keeps up, c.n.at' fun o' e => up _ o' e, fun p hp => ?_, Off3.of fun p hp => ?_⟩⟩
  · rcases List.mem_cons.mp hp with rfl | hp
    · exact ⟨up _ _ (c.N _ (.head _)).1, (c.N _ (.head _)).2⟩
    rcases List.mem_cons.mp hp with rfl | hp
    · exact ⟨up _ _ e, Ne.symm X.il, X.i0⟩
    · exact ⟨up _ _ (c.N _ (.tail _ hp)).1, (c.N _ (.tail _ hp)).2⟩
  · rcases List.mem_cons.mp hp with rfl | hp
    · exact ⟨Nat.ne_of_lt (Heap.lt_size e), X.ic, X.id⟩
    · exact ⟨Nat.ne_of_lt (Heap.lt_size (c.N _ (.tail _ hp)).1), (c.off.mem p hp).2⟩
theorem CSt.pop {oI : Obj} {J : Addr} (c : CSt h₀ L m J C D ys ((I, oI) :: nw) m' h) (off : Off3 I C D nw) : CSt h₀ L m I C D ys nw m' h :=
  ⟨c.F, c.n, fun p hp => c.N p ((List.mem_cons.mp hp).elim (fun e => e ▸ .head _) fun hp => .tail _ (.tail _ hp)), off⟩
end
/-- the inner loop of `[x for y in list for x in (v₁, v₂)]` -/
theorem inner2 {t1 it1 it2 : Expr} {x : Str} {pe px pos : Pos} {scope : Scope} {cl : List (Str × Addr)} {J C D T : Addr} {ot : Obj} {v₁ v₂ : Value} {nt : Nat} {ys : List Value} {nw : List (Addr × Obj)} {m' : Str → Option Value} {h : Heap} {tk₀ : Nat}
    (hh : A.handled = none) (hkind : scope.kind = .function) (hx : scope.names.lookup x = some .local) (hxd : (x == ("__debug__" : Str)) = false) (X : Fx h₀ L J C D) (hT : (T, ot) ∈ nw) (hct : ot.cls = .type "tuple") (hdt : ot.data = .seq #[v₁, v₂] nt)
    (c₀ : CSt h₀ L m J C D ys nw m' h) (hi : h.IsTupleIter J T 0) (hsz : ys.length + 2 ≤ sizeLine) :
    codeAny (model prog w) A (.compLoop (.ListComp (.Name x pe) [⟨t1, it1, [], 0⟩, ⟨.Name x px, it2, [], 0⟩] scope pos) 1 (.ref J) (.ref D) (compEnvC scope cl C env))
      (fun r s' => r = .ok .next ∧ ∃ h' tk' m'', s' = { s with heap := h', toks := tk' } ∧ CSt h₀ L m J C D (ys ++ [v₁, v₂]) nw m'' h') { s with heap := h, toks := tk₀ } := by
  have hTJ : T ≠ J := (c₀.off.mem _ hT).1
  refine codeAny_loop rfl (fun n s' => ∃ h' tk' j m'', s' = { s with heap := h', toks := tk' } ∧ j ≤ 2 ∧ n = 2 - j ∧ CSt h₀ L m J C D (ys ++ [v₁, v₂].take j) nw m'' h' ∧ h'.IsTupleIter J T j) ?_ 2
    ⟨h, tk₀, 0, m', rfl, by omega, rfl, by rw [List.take_zero, List.append_nil]; exact c₀, hi⟩
  rintro n s' ⟨h', tk', j, m'', rfl, hj, rfl, c', hi'⟩
  show wpAny _ A ((compTurn (.ListComp (.Name x pe) [⟨t1, it1, [], 0⟩, ⟨.Name x px, it2, [], 0⟩] scope pos) 1 (.ref J) (.ref D) (compEnvC scope cl C env)).onRaise (fun x => do noteFrame x (compEnvC scope cl C env); theTreesLotGoes x)) _ _ _
  refine wpAny_noted ?_
  rw [compTurn_in]
  refine wpAny_bind (wpAny_standAt (wpAny_bind ?_))
  have ht : h'.IsTuple T #[v₁, v₂] := ⟨ot, (c'.N _ (.tail _ hT)).1, hct, nt, hdt⟩
  by_cases hlt : j < 2
  · refine (Walks.tuple hh J T hTJ #[v₁, v₂]).item j _ _ _ hlt ⟨hi', ht⟩ fun v h₂ tk₂ hP st₂ k₂ => ?_
    have c₂ := c'.next X k₂
    refine wpAny_bind (wpAny_of_eq rfl ?_)
    refine wpAny_bind (wpAny_assign_Name (wpAny_storeName_local (lookup_relabel_local hx) c₂.n (fun h₃ n₃ k₃ => ?_) (by simp [compEnvC, relabel, hkind])))
    have c₃ := c₂.store X n₃ k₃
    refine wpAny_bind (wpAny_bind (wpAny_Name (wpAny_loadName_local (by simp [compEnvC, relabel, hkind]) (lookup_relabel_local hx) c₃.n (by simp; rfl) ?_) hxd))
    refine wpAny_bind (append_at (hsz := ?hz) (c₃.N _ (.head _)).1 fun h₄ k₄ e₄ => ?_)
    case hz =>
      show (ys ++ [v₁, v₂].take j).toArray.size ≤ sizeLine
      rw [List.size_toArray, List.length_append, List.length_take]
      have : min j [v₁, v₂].length ≤ 2 := by rw [show [v₁, v₂].length = 2 from rfl]; omega
      omega
    · have c₄ := c₃.append X k₄ e₄
      have e : ys ++ List.take j [v₁, v₂] ++ [v] = ys ++ List.take (j + 1) [v₁, v₂] := by
        have hP' : [v₁, v₂][j]? = some v := by simpa using hP
        rw [List.append_assoc, List.take_add_one, hP']
        rfl
      rw [e] at c₄
      exact wpAny_pure (wpAny_pure ⟨rfl, 2 - (j + 1), by omega, h₄, _, j + 1, _, rfl, hlt, rfl, c₄, ((st₂.1.at fun o e => k₃.extBut _ o X.ic e)).at fun o e => k₄.extBut _ o X.id e⟩)
  · obtain rfl : j = 2 := by omega
    refine (Walks.tuple hh J T hTJ #[v₁, v₂]).done _ _ _ ⟨hi', ht⟩ fun h₂ tk₂ k₂ => ?_
    exact wpAny_pure ⟨rfl, h₂, tk₂, m'', rfl, c'.next X k₂⟩
/-- the loop of `[x for y in list for x in (v₁, v₂)]`: by an invariant over the list made and the ledger -/
theorem loop2 {it1 it2 : Expr} {y x : Str} {py pe px pos : Pos} {scope : Scope} {cl : List (Str × Addr)} {I C D ax : Addr} {its : Array Value} {k : Nat} {Fin : List Value → List (Addr × Obj) → Prop} {h : Heap} {tk₀ : Nat} {m' : Str → Option Value} {nw₀ : List (Addr × Obj)}
    (hh : A.handled = none) (hkind : scope.kind = .function) (hy : scope.names.lookup y = some .local) (hx : scope.names.lookup x = some .local) (hxd : (x == ("__debug__" : Str)) = false) (hsz : 2 * its.size ≤ sizeLine)
    (hfold : ∀ v, foldedSetIterable it2 (compEnvC scope cl C env) v = pure v)
    (J : Nat → List Value → List (Addr × Obj) → Prop) (src : ∀ i ys nw, J i ys nw → (ax, ({ cls := .type "list", data := .seq its k } : Obj)) ∈ nw ∧ ys.length = 2 * i)
    (turn : ∀ i v ys nw, its[i]? = some v → J i ys nw →
      ∀ oI oC m₂ h tk (E' : Value → Shared → Prop), NsObj oC m₂ → m₂ y = some v → Fr h₀ L h m → News h₀ L h ((I, oI) :: (C, oC) :: (D, lst ys) :: nw) → Off3 I C D nw → ((@Ne Nat I C) ∧ (@Ne Nat I D) ∧ (@Ne Nat C D)) →
        wpAny (model prog w) A (eval it2 (compEnvC scope cl C env)) (fun r s₂ => Halt (CompEnd h₀ L m { s with heap := h, toks := tk } I oI C oC D (lst ys) (fun _ => True)
          (fun r news' => ∃ (t : Addr) (ot : Obj) (v₁ v₂ : Value) (nt : Nat), r = .ref t ∧ (t, ot) ∈ news' ∧ ot.cls = .type "tuple" ∧ ot.data = .seq #[v₁, v₂] nt ∧ J (i + 1) (ys ++ [v₁, v₂]) news') r s₂)) E' { s with heap := h, toks := tk })
    (X : Fx h₀ L I C D) (c₀ : CSt h₀ L m I C D [] nw₀ m' h) (hi : h.IsListIter I ax 0) (h0 : J 0 [] nw₀) (fin : ∀ ys nw, J its.size ys nw → Fin ys nw) :
    codeAny (model prog w) A (.compLoop (.ListComp (.Name x pe) [⟨.Name y py, it1, [], 0⟩, ⟨.Name x px, it2, [], 0⟩] scope pos) 0 (.ref I) (.ref D) (compEnvC scope cl C env))
      (fun r s' => r = .ok .next ∧ ∃ h' tk' ys nw m'', s' = { s with heap := h', toks := tk' } ∧ CSt h₀ L m I C D ys nw m'' h' ∧ Fin ys nw) { s with heap := h, toks := tk₀ } := by
  refine codeAny_loop rfl (fun n s' => ∃ h' tk' i ys nw m'', s' = { s with heap := h', toks := tk' } ∧ i ≤ its.size ∧ n = its.size - i ∧ CSt h₀ L m I C D ys nw m'' h' ∧ h'.IsListIter I ax i ∧ J i ys nw) ?_ its.size
    ⟨h, tk₀, 0, [], nw₀, m', rfl, Nat.zero_le _, rfl, c₀, hi, h0⟩
  rintro n s' ⟨h', tk', i, ys, nw, m'', rfl, hin, rfl, c', hi', hJ⟩
  show wpAny _ A ((compTurn (.ListComp (.Name x pe) [⟨.Name y py, it1, [], 0⟩, ⟨.Name x px, it2, [], 0⟩] scope pos) 0 (.ref I) (.ref D) (compEnvC scope cl C env)).onRaise (fun x => do noteFrame x (compEnvC scope cl C env); theTreesLotGoes x)) _ _ _
  refine wpAny_noted ?_
  rw [compTurn_two]
  refine wpAny_bind (wpAny_standAt (wpAny_bind ?_))
  have hm := (src i ys nw hJ).1
  have hax : ax ≠ I := (c'.off.mem _ hm).1
  have hl : h'.IsList ax its := ⟨_, (c'.N _ (.tail _ hm)).1, rfl, k, rfl⟩
  by_cases hlt : i < its.size
  · refine (Walks.list hh I ax hax its).item i _ _ _ hlt ⟨hi', hl⟩ fun v h₂ tk₂ hP st₂ k₂ => ?_
    have c₂ := c'.next X k₂
    refine wpAny_bind (wpAny_of_eq rfl ?_)
    refine wpAny_bind (wpAny_assign_Name (wpAny_storeName_local (lookup_relabel_local hy) c₂.n (fun h₃ n₃ k₃ => ?_) (by simp [compEnvC, relabel, hkind])))
    have c₃ := c₂.store X n₃ k₃
    have i₃ : h₃.IsListIter I ax (i + 1) := st₂.1.at fun o e => k₃.extBut _ o X.ic e
    obtain ⟨oI, eI, rI⟩ := id i₃
    obtain ⟨oC, hC, N₃⟩ := c₃.open X eI
    refine wpAny_bind (wpAny_mono (turn i v ys nw hP hJ oI oC _ h₃ _ _ hC (by simp) c₃.F N₃ c₃.off ⟨X.ic, X.id, Ne.symm X.dc⟩) (fun r s₇ h₇ => ?_) fun _ _ e => e)
    obtain ⟨⟨h₇, tk₇, nw₇, rfl, F₇, N₇, off₇, _, t, ot, v₁, v₂, nt, rfl, hmt, hct, hdt, hJ₇⟩⟩ := h₇
    have c₇ := CSt.close F₇ N₇ hC off₇
    have e₇ := (N₇ _ (.head _)).1
    refine wpAny_bind (wpAny_standAt (wpAny_bind (wpAny_of_eq (hfold _) (wpAny_bind (wpAny_holding (wpAny_pyIter_tuple ⟨ot, (c₇.N _ (.tail _ hmt)).1, hct, nt, hdt⟩ ?_))))))
    obtain ⟨X₈, c₈⟩ := c₇.push (o := { cls := .type "tuple_iterator", data := .fields #[.ref t, .int 0 0] }) X e₇
    have i₈ : (h₇.push { cls := .type "tuple_iterator", data := .fields #[.ref t, .int 0 0] }).IsTupleIter h₇.objs.size t 0 := ⟨_, Heap.get?_push_size _ rfl, rfl, rfl⟩
    have hys : ys.length + 2 ≤ sizeLine := by rw [(src i ys nw hJ).2]; omega
    have go := fun tk => inner2 (prog := prog) (w := w) (A := A) (s := s) (env := env) (cl := cl) (t1 := .Name y py) (it1 := it1) (it2 := it2) (x := x) (pe := pe) (px := px) (pos := pos) (tk₀ := tk) hh hkind hx hxd X₈ (.tail _ hmt) hct hdt c₈ i₈ hys
    refine wpAny_bind (wpAny_runOwn (start_in ?_ (wpAny_pyIter_tupleiter i₈ ?_)))
    all_goals
      refine codeAny_mono (go tk₇) fun r s₉ h₉ => ?_
      obtain ⟨rfl, h₉, tk₉, m₉, rfl, c₉⟩ := h₉
      exact wpAny_pure ⟨rfl, its.size - (i + 1), by omega, h₉, tk₉, i + 1, ys ++ [v₁, v₂], nw₇, m₉, rfl, hlt, rfl, c₉.pop off₇, ⟨oI, (c₉.N _ (.tail _ (.head _))).1, rI⟩, hJ₇⟩
  · obtain rfl : i = its.size := Nat.le_antisymm hin (Nat.not_lt.mp hlt)
    refine (Walks.list hh I ax hax its).done _ _ _ ⟨hi', hl⟩ fun h₂ tk₂ k₂ => ?_
    exact wpAny_pure ⟨rfl, h₂, tk₂, ys, nw, m'', rfl, c'.next X k₂, fin ys nw hJ⟩
end
end

section
open PySem PySem.W PyProof.Rows PySem.Calls PySem.Spec
set_option maxRecDepth 100000

section
variable {prog : Program} {w : World} {A : Around} {E : Value → Shared → Prop} {s : Shared} {env : Env} {h₀ : Heap} {body : List Stmt} {Q : Flow → Shared → Prop}
/-- for i, x in enumerate(a list of the base): by an invariant -/
theorem enum_base {elts : List Expr} {k : Nat} {pos : Pos} {l : Addr} {vs : List Value} {m₀ : Str → Option Value} {news : List (Addr × Obj)}
    (hh : A.handled = none) (F : Fr h₀ env.locals s.heap m₀) (N : News h₀ env.locals s.heap news) (hl₀ : h₀.IsList l vs.toArray)
    (J : Nat → (Str → Option Value) → List (Addr × Obj) → Prop) (h0 : J 0 m₀ news)
    (turn : ∀ (I : Addr) i x m₁ n₁ T t h tk oE oI, (∀ p ∈ news, p.1 < I) → vs[i]? = some x → J i m₁ n₁ → (∀ p ∈ n₁, p.1 ≠ I + 1 ∧ p.1 ≠ I) → IsTup h T #[.int (i : Int) t, x] → Fr h₀ env.locals h m₁ → News h₀ env.locals h ((I + 1, oE) :: (I, oI) :: n₁) →
      wpAny (model prog w) A (assign (.Tuple elts k pos) env (.ref T)) (fun _ s₂ => wpAny (model prog w) A (execs body env) (UnrPostW h₀ env.locals { s with heap := h, toks := tk } [(I + 1, oE), (I, oI)] (fun m' n' => J (i + 1) m' n') Q) E s₂) E { s with heap := h, toks := tk })
    (fin : ∀ m₁ n₁ h tk, J vs.length m₁ n₁ → Fr h₀ env.locals h m₁ → News h₀ env.locals h n₁ → Q .next { s with heap := h, toks := tk }) :
    wpAny (model prog w) A (call (.type "enumerate") [.ref l]) (fun xv s₁ => wpAny (model prog w) A (pyIter xv) (fun it s₂ => TurnsAt prog w A h₀ env (.Tuple elts k pos) body Q E it s₂) E s₁) E s := by
  obtain ⟨ol, el, rl⟩ := id hl₀
  have hl : s.heap.IsList l vs.toArray := ⟨ol, F.keep _ _ el, rl⟩
  have hlt : l < s.heap.objs.size := Heap.lt_size (F.keep _ _ el)
  have hLs : env.locals < s.heap.objs.size := F.ns.lt
  have hL₀ : h₀.get? env.locals = none := Heap.get?_none_of_le F.above
  refine call_enumerate_list hl fun h' hE hI hsz hk => ?_
  refine wpAny_pyIter_enum hE ?_
  refine ⟨_, _, _, _, _, _, _, m₀, news, J, rfl, KTurns.ofWalksU (WalksT.enumerate hh (s.heap.objs.size + 1) s.heap.objs.size l (Nat.succ_ne_self _) (ktu_ne 1 hlt) (Nat.ne_of_lt hlt) vs.toArray).toU, ?_, ?_, ?_, ⟨⟨.none, hE⟩, hI, hl.at fun o e => hk l o e⟩, F.keeps hk, N.grown hk, h0, ?_, ?_⟩
  · intro hI'
    have hb' : env.locals = s.heap.objs.size + 1 ∨ env.locals = s.heap.objs.size ∨ env.locals = l := by simpa using hI'
    rcases hb' with e | e | e
    · exact ktu_ne 1 hLs e
    · exact Nat.ne_of_lt hLs e
    · rw [e, el] at hL₀; cases hL₀
  · intro b hb
    have hb' : b = s.heap.objs.size + 1 ∨ b = s.heap.objs.size := by simpa using hb
    rcases hb' with rfl | rfl
    · exact ktu_new F (Nat.le_add_right _ _)
    · exact ktu_new F (Nat.le_refl _)
  · intro p hp hI'
    have hb' : p.1 = s.heap.objs.size + 1 ∨ p.1 = s.heap.objs.size := by simpa using hI'
    have hlp := Heap.lt_size (N p hp).1
    rcases hb' with e | e
    · exact ktu_ne 1 hlp e
    · exact Nat.ne_of_lt hlp e
  · rintro i v m₁ n₁ h₁ tk₁ own hin ⟨T, vals, rfl, ⟨t, x, hx, rfl⟩, hT⟩ hJ hoff hown hget hall ⟨⟨old, he⟩, ⟨oi, hoi, hic, hid⟩, _⟩ F₁ N₁
    have he' : ∃ oe : Obj, h₁.get? (s.heap.objs.size + 1) = some oe := ⟨_, he⟩
    obtain ⟨oe, hoe⟩ := he'
    have m1 := hall (s.heap.objs.size + 1) (by simp) (ktu_new F (Nat.le_add_right _ _)) oe hoe
    have m2 := hall s.heap.objs.size (by simp) (ktu_new F (Nat.le_refl _)) oi hoi
    have N₂ : News h₀ env.locals h₁ ((s.heap.objs.size + 1, oe) :: (s.heap.objs.size, oi) :: n₁) := fun p hp => by
      rcases List.mem_cons.mp hp with rfl | hp
      · exact N₁ _ (List.mem_append_left _ m1)
      rcases List.mem_cons.mp hp with rfl | hp
      · exact N₁ _ (List.mem_append_left _ m2)
      · exact N₁ _ (List.mem_append_right _ hp)
    have off₁ : ∀ p ∈ n₁, p.1 ≠ s.heap.objs.size + 1 ∧ p.1 ≠ s.heap.objs.size := fun p hp => ⟨fun e => hoff p hp (by simp [e]), fun e => hoff p hp (by simp [e])⟩
    refine wpAny_mono (turn s.heap.objs.size i x m₁ n₁ T t h₁ tk₁ oe oi (fun p hp => Heap.lt_size (N p hp).1) (by simpa using hx) hJ off₁ hT F₁ N₂) (fun _ s₂ h₂ => wpAny_mono h₂ (fun f s₃ p => ?_) fun _ _ e => e) fun _ _ e => e
    have fin' : UnrEndW h₀ env.locals { s with heap := h₁, toks := tk₁ } [(s.heap.objs.size + 1, oe), (s.heap.objs.size, oi)] (fun m' n' => J (i + 1) m' n') s₃ →
        LoopStepU h₀ env.locals [s.heap.objs.size + 1, s.heap.objs.size] own (J (i + 1)) { s with heap := h₁, toks := tk₁ } .next s₃ := by
      rintro ⟨h', tk, m', news', e, F', N', ho, hJ'⟩
      refine ⟨rfl, h', tk, m', news', e, F', ?_, ?_, hJ'⟩
      · rintro ⟨pa, po⟩ hp
        rcases List.mem_append.mp hp with hp | hp
        · have h2 : h₁.get? pa = some po := hget _ hp
          have h3 : pa = s.heap.objs.size + 1 ∨ pa = s.heap.objs.size ∨ pa = l := by simpa using hown _ hp
          rcases h3 with rfl | rfl | rfl
          · have h6 : oe = po := Option.some.inj (hoe.symm.trans h2)
            subst h6
            exact N' _ (.head _)
          · have h6 : oi = po := Option.some.inj (hoi.symm.trans h2)
            subst h6
            exact N' _ (.tail _ (.head _))
          · have h4 := (N₁ _ (List.mem_append_left _ hp)).2.2
            rw [el] at h4; cases h4
        · exact N' _ (List.mem_append_right _ hp)
      · intro p hp hI
        have hb' : p.1 = s.heap.objs.size + 1 ∨ p.1 = s.heap.objs.size := by simpa using hI
        rcases hb' with e | e
        · exact ho p hp _ (.head _) e
        · exact ho p hp _ (.tail _ (.head _)) e
    cases f with
    | ret v => exact .ret p
    | brk => exact .brk p
    | next => exact .next (fin' p)
    | cont => exact .cont (fin' p)
  · intro h₂ tk m' news' F' N' _ hJ
    rw [List.size_toArray] at hJ
    exact fin m' news' h₂ tk hJ F' N'
end
end

section
open PySem PySem.W PyProof.Rows PySem.Calls PySem.Spec
set_option maxRecDepth 100000

noncomputable def pk3 (A B C : Str) (k : Int) : Str := if k = 0 then A else if k = 1 then B else C
noncomputable def rowOf (a : Int) (i : Nat) : Int := if bitOf a i then 1 else 0
noncomputable def sgs (k : Int) : Str := pk3 (Str.ofString "&<>") (Str.ofString "&>\"") (Str.ofString "&<>\r") k
noncomputable def endOf (tot : Int) (i : Nat) : Str := if tot.fmod 3 < 2 then pk3 (Str.ofString "\n.") (Str.ofString "\r.") (Str.ofString "\r\n.") (((i : Int) + tot).fmod 3) else Str.ofString "\n."
noncomputable def escH (hand : Int) (x : Str) : Str := if hand = 0 then escA x else if hand = 1 then escB x else escC x
theorem sgs_len {k : Int} {x : Str} (h : x = pk3 (Str.ofString "&<>") (Str.ofString "&>\"") (Str.ofString "&<>\r") k) : 3 ≤ x.length ∧ x.length ≤ 4 := by
  subst h
  unfold pk3
  split
  · decide +kernel
  split
  · decide +kernel
  · decide +kernel
section
variable {prog : Program} {w : World} {A : Around} {E : Value → Shared → Prop} {s : Shared} {h₀ : Heap} {L : Addr} {m : Str → Option Value} {news : List (Addr × Obj)} {Q : Value → Shared → Prop}
theorem pick3 {value slice : Expr} {l : Addr} {vs : List Value} {n : Nat} {A' B C : Str} {k : Int} {u : Tok} (N : News h₀ L s.heap news) (hm : (l, W.listOf vs.toArray n) ∈ news) (h3 : StrsAre vs [A', B, C]) (h0 : 0 ≤ k) (h1 : k < 3)
    (h : ∀ x t, x = pk3 A' B C k → Q (.str x t) s) (hs : subscripted slice false (.ref l) (.int k u) = operate [.ref l, .int k u] (getItem (.ref l) (.int k u)) := by with_unfolding_all rfl) :
    wpAny (model prog w) A (subscriptTail value slice (.ref l) (.int k u)) Q E s := by
  have hl : s.heap.IsList l vs.toArray := ⟨_, (N _ hm).1, rfl, n, rfl⟩
  have hk : k = 0 ∨ k = 1 ∨ k = 2 := by omega
  have hx : ∃ t, vs[k.toNat]? = some (.str (pk3 A' B C k) t) := by
    rcases hk with rfl | rfl | rfl
    · exact h3.get 0 A' rfl
    · exact h3.get 1 B rfl
    · exact h3.get 2 C rfl
  obtain ⟨t, ht⟩ := hx
  exact tail_any hl.typeIs slot_list_getitem.lookup (wpAny_getItem_list hl h0 (by omega) (by simpa using ht) (h _ _ rfl)) hs
theorem add_as {a b : Int} {t u : Tok} (h : ∀ v t', v = a + b → Q (.int v t') { s with toks := s.toks + 1 }) : wpAny (model prog w) A (binaryOp .Add (.int a t) (.int b u)) Q E s := PyProof.Rows.add_int (h _ _ rfl)
theorem item_as {value slice : Expr} {x : Str} {a b : Int} {t u : Tok} (hb0 : 0 < b) (hb : b ≤ (x.length : Int)) (hx : (x.length : Int) < 9223372036854775808)
    (h : ∀ y t', y = Txt.item x (a.fmod b) → y.length = 1 → Q (.str y t') { s with toks := s.toks + 1 })
    (hs : subscripted slice false (.str x t) (.int (a.fmod b) u) = operate [.str x t, .int (a.fmod b) u] (getItem (.str x t) (.int (a.fmod b) u)) := by with_unfolding_all rfl)
    (ht : ∀ r, letTemporaryGo value (.str x t) r = pure () := by intro _; with_unfolding_all rfl) :
    wpAny (model prog w) A (subscriptTail value slice (.str x t) (.int (a.fmod b) u)) Q E s := item_str_fmod hb0 hb hx (fun hl => h _ _ rfl (by omega)) hs ht
end
theorem se_claim (w : World) (mean : ExcName → Option Value) (mg mb : Str → Option Value) (news : List (Addr × Obj)) (x : Str) (hand : Int) (tkx tkh : Tok) (hx : x.length ≤ 40) (h0 : 0 ≤ hand) (h3 : hand < 3) :
    Claim2 PySem.Challenge.rw_we0007_01.row.prog w (hd.heap_39 w.params) hd.view_39 LO mean mg mb 98 news [.int hand tkh, .str x tkx] (fun t => .str (Re.quoteS (escH hand x)) t) := by
  have hk : hand = 0 ∨ hand = 1 ∨ hand = 2 := by omega
  rcases hk with rfl | rfl | rfl
  · exact se0_claim w mean mg mb news x tkx tkh hx
  · exact se1_claim w mean mg mb news x tkx tkh hx
  · exact se2_claim w mean mg mb news x tkx tkh hx
/-- texts that may be joined -/
structure JFit (ys : List Str) : Prop where
  out : ∀ sep : Str, sep.length ≤ 64 → (ys.map (·.length)).sum + ys.length * sep.length ≤ 16400
theorem jfit {ys : List Str} (h : ∀ y ∈ ys, y.length ≤ 100) (hl : ys.length ≤ 100) : JFit ys := by
  refine ⟨fun sep hs => ?_⟩
  have h1 := sum_le 100 _ h
  have h2 : ys.length * sep.length ≤ 100 * 64 := Nat.mul_le_mul hl hs
  have h3 : ys.length * 100 ≤ 100 * 100 := Nat.mul_le_mul_right _ hl
  omega
theorem join_len (x : Str) (ys : List Str) : (Txt.join x ys).length ≤ (ys.map (·.length)).sum + ys.length * x.length := by
  show (Builtin.Str.glued _ _).length ≤ _
  rw [StrLaws.glued_eq_join]
  exact StrLaws.join_length_le x ys
theorem join_as {prog : Program} {w : World} {A : Around} {E : Value → Shared → Prop} {s : Shared} {h₀ : Heap} {L D : Addr} {news : List (Addr × Obj)} {Q : Value → Shared → Prop} {vs : List Value} {ys : List Str} {n : Nat} {x : Str} {t : Tok}
    (N : News h₀ L s.heap news) (hm : (D, W.listOf vs.toArray n) ∈ news) (hi : StrsAre vs ys) (hf : JFit ys) (hx : x.length ≤ 64)
    (h : ∀ z t' k, z = Txt.join x ys → z.length ≤ 16400 → Q (.str z t') { s with toks := k }) : wpAny (model prog w) A (call (.builtin "str.join") [.str x t, .ref D]) Q E s :=
  PyProof.Rows.join_list ⟨_, (N _ hm).1, rfl, n, rfl⟩ hi (Nat.le_trans (hf.out x hx) (by decide)) fun t' k => h _ t' k rfl (Nat.le_trans (join_len x ys) (hf.out x hx))
theorem end_len (tot : Int) (i : Nat) : (endOf tot i).length ≤ 3 := by
  unfold endOf pk3
  split
  · split
    · decide +kernel
    split
    · decide +kernel
    · decide +kernel
  · decide +kernel
noncomputable def pieces (a tot : Int) (sg : Str) : List Str := (List.range 12).map (fun i => if rowOf a i = 0 then endOf tot i else sg)
theorem pieces_len {a tot : Int} {sg : Str} (h : sg.length = 1) : (∀ y ∈ pieces a tot sg, y.length ≤ 3) ∧ (pieces a tot sg).length = 12 := by
  refine ⟨fun y hy => ?_, by simp [pieces]⟩
  obtain ⟨i, _, rfl⟩ := List.mem_map.mp hy
  split
  · exact end_len tot i
  · omega
theorem lo_is : looseW hd.view_39 [Str.ofString "COMPILER_FLAG_NAMES", Str.ofString "_twin_re_1", Str.ofString "_twin_re_2"] = LO := by with_unfolding_all rfl
theorem lo_top {mean : ExcName → Option Value} {mg mb : Str → Option Value} {h : Heap} (T : Top hd.view_39 (looseW hd.view_39 [Str.ofString "COMPILER_FLAG_NAMES", Str.ofString "_twin_re_1", Str.ofString "_twin_re_2"]) mean mg mb h) : Top hd.view_39 LO mean mg mb h := by
  rw [lo_is] at T; exact T
end

section
open PySem PySem.W PyProof.Rows PySem.Calls PySem.Spec
set_option maxRecDepth 100000

open PyProof.Rows.LCg
section
variable {w : World} {mean : ExcName → Option Value} {mg mb : Str → Option Value} {dp un : Nat} {gd : Option (List Code)} {cn : Str} {cs : Scope} {a : Addr} {ccd : Value} {cl : List (Str × Addr)} {outer : List Env} {A₀ : Around} {base h₀ : Heap} {L : Addr} {m : Str → Option Value} {s : Shared} {Q E : Value → Shared → Prop}
theorem rd_as {news : List (Addr × Obj)} {x : Str} {tkx : Tok} {P : List Int} (hx : x.length ≤ 200) (hg : rdAll ([], 0, []) (codes x) = true) (hP : ((codes x).foldl rdStep ([], 0, [])).2.2 = P)
    (k1 : Below A₀ base outer h₀) (k2 : Fr h₀ L s.heap m) (k3 : (hd.heap_39 w.params).In h₀) (k4 : News h₀ L s.heap news) (k5 : Top hd.view_39 LO mean mg mb h₀) (kK : cs.kind = .function) (kd : dp + 2 < recursionLimit) (ku : un + 16 < cLine)
    (h : ∀ l vs k h' tk', IntsAre vs P → (∀ p ∈ news, p.1 < l) → Fr h₀ L h' m → News h₀ L h' ((l, W.listOf vs.toArray k) :: news) → Q (.ref l) { s with heap := h', toks := tk' }) :
      wpAny (model PySem.Challenge.rw_we0007_01.row.prog w) (ktrTop dp un gd cn cs L a ccd cl outer) (call (.ref 103) [.str x tkx]) Q E s :=
  rd_claim w mean mg mb news x tkx hx hg dp un gd cn cs a ccd cl outer A₀ base h₀ L m s Q E k1 k2 k3 k4 k5 kK kd ku fun l vs k h' tk' R => h l vs k h' tk' (hP ▸ R)
theorem ll_as {all : List (Addr × Obj)} {ra ta : Addr} {vs ts : List Value} {ns : List Int} {kr kt : Nat} {z : Int} {tkl : Tok} (hv : IntsAre vs ns) (ht : StrsAre ts ((List.range 32).map flagName)) (hn : ns.length ≤ 24) (hz0 : 0 ≤ z) (hz8 : z ≤ 8)
    (m1 : (ra, W.listOf vs.toArray kr) ∈ all) (m2 : (ta, W.listOf ts.toArray kt) ∈ all)
    (k1 : Below A₀ base outer h₀) (k2 : Fr h₀ L s.heap m) (k3 : (hd.heap_39 w.params).In h₀) (k4 : News h₀ L s.heap all) (k5 : Top hd.view_39 LO mean mg mb h₀) (kK : cs.kind = .function) (kd : dp + 2 < recursionLimit) (ku : un + 16 < cLine)
    (h : ∀ l tv tups k h' tk', DatAll tups tv ((llP ns z.toNat).map tripD) → (∀ p ∈ all, p.1 < l) → (∀ p ∈ tups, p.1 ≠ l) → Fr h₀ L h' m → News h₀ L h' ((l, W.listOf tv.toArray k) :: (all ++ tups)) → Q (.ref l) { s with heap := h', toks := tk' }) :
      wpAny (model PySem.Challenge.rw_we0007_01.row.prog w) (ktrTop dp un gd cn cs L a ccd cl outer) (call (.ref 113) [.ref ra, .int z tkl, .ref ta]) Q E s := by
  obtain ⟨lift, rfl⟩ : ∃ n : Nat, z = (n : Int) := ⟨z.toNat, by omega⟩
  refine ll_claim w mean mg mb all ra ta vs ts ns kr kt lift tkl hv ht hn (by omega) dp un gd cn cs a ccd cl outer A₀ base h₀ L m s Q E k1 k2 k3 (fun p hp => ?_) k5 kK kd ku fun l tv tups k h' tk' hd hl ht' F N => h l tv tups k h' tk' hd (fun p hp => allLt_mem2 hl.2.2 p hp) ht' F fun p hp => N p ?_
  · rcases List.mem_cons.mp hp with rfl | hp
    · exact k4 _ m1
    rcases List.mem_cons.mp hp with rfl | hp
    · exact k4 _ m2
    · exact k4 p hp
  · rcases List.mem_cons.mp hp with rfl | hp
    · exact .head _
    · exact .tail _ (.tail _ (.tail _ hp))
end
/-! the list of triples, doubled -/
noncomputable def dbl3 (p : Int × Int × Int) : Int × Int × Int := (2 * p.1, 2 * p.2.1, 2 * p.2.2)
theorem dint_inv {news : List (Addr × Obj)} {v : Value} {d : Dat} {i : Int} (h : DatIn news v d) (e : d = .int i) : ∃ t, v = .int i t := by
  cases h with
  | int j t => exact ⟨t, by cases e; rfl⟩
  | _ => cases e
theorem dtup_inv {news : List (Addr × Obj)} {v : Value} {d : Dat} {ds : List Dat} (h : DatIn news v d) (e : d = .tuple ds) : ∃ a vs n, v = .ref a ∧ (a, ({ cls := .type "tuple", data := .seq (List.toArray vs) n } : Obj)) ∈ news ∧ DatAll news vs ds := by
  cases h with
  | tuple hm hA => cases e; exact ⟨_, _, _, rfl, hm, hA⟩
  | _ => cases e
theorem dcons_inv {news : List (Addr × Obj)} {vs : List Value} {es ds : List Dat} {d : Dat} (h : DatAll news vs es) (e : es = d :: ds) : ∃ v ws, vs = v :: ws ∧ DatIn news v d ∧ DatAll news ws ds := by
  cases h with
  | nil => cases e
  | cons hd ht => cases e; exact ⟨_, _, rfl, hd, ht⟩
theorem dnil_inv {news : List (Addr × Obj)} {vs : List Value} {es : List Dat} (h : DatAll news vs es) (e : es = []) : vs = [] := by
  cases h with
  | nil => rfl
  | cons hd ht => cases e
theorem dtrip_inv {news : List (Addr × Obj)} {v : Value} {p : Int × Int × Int} (h : DatIn news v (tripD p)) : ∃ t n ta tb tc, v = .ref t ∧ (t, ({ cls := .type "tuple", data := .seq #[.int p.1 ta, .int p.2.1 tb, .int p.2.2 tc] n } : Obj)) ∈ news := by
  have ⟨a, vs, n, e, hm, hA⟩ := dtup_inv h rfl
  have ⟨v1, w1, e1, h1, hA1⟩ := dcons_inv hA rfl
  have ⟨v2, w2, e2, h2, hA2⟩ := dcons_inv hA1 rfl
  have ⟨v3, w3, e3, h3, hA3⟩ := dcons_inv hA2 rfl
  have e4 := dnil_inv hA3 rfl
  have ⟨ta, f1⟩ := dint_inv h1 rfl
  have ⟨tb, f2⟩ := dint_inv h2 rfl
  have ⟨tc, f3⟩ := dint_inv h3 rfl
  subst e4 e3 e2 e1 f1 f2 f3
  exact ⟨a, n, ta, tb, tc, e, hm⟩
theorem trip_at {tups : List (Addr × Obj)} {tv : List Value} {tr : List (Int × Int × Int)} (h : DatAll tups tv (tr.map tripD)) {i : Nat} {v : Value} (hv : tv[i]? = some v) :
    ∃ p t n ta tb tc, tr[i]? = some p ∧ v = .ref t ∧ (t, ({ cls := .type "tuple", data := .seq #[.int p.1 ta, .int p.2.1 tb, .int p.2.2 tc] n } : Obj)) ∈ tups := by
  have hl := h.length
  rw [List.length_map] at hl
  have hi : i < tv.length := (List.getElem?_eq_some_iff.mp hv).1
  obtain ⟨v', hv', hd⟩ := h.get (k := i) (by rw [List.length_map]; omega)
  rw [hv] at hv'
  obtain rfl := Option.some.inj hv'
  have hp : tr[i]? = some (tr[i]'(by omega)) := List.getElem?_eq_getElem (by omega)
  rw [List.getElem_map] at hd
  generalize tr[i]'(by omega) = p at hd hp
  have ⟨t, n, ta, tb, tc, e, hm⟩ := dtrip_inv hd
  exact ⟨p, t, n, ta, tb, tc, hp, e, hm⟩
noncomputable def LpJ (base : List (Addr × Obj)) (tr : List (Int × Int × Int)) (i : Nat) (ys : List Value) (nw : List (Addr × Obj)) : Prop :=
  ∃ own, nw = base ++ own ∧ ys.length = i ∧ DatAll own ys (((tr.take i).map dbl3).map tripD)
theorem lp_end {h₀ h : Heap} {L I C D T : Addr} {oI oC : Obj} {ys : List Value} {base own : List (Addr × Obj)} {tr : List (Int × Int × Int)} {p : Int × Int × Int} {ta tb tc : Tok} {m : Str → Option Value} {s : Shared} {tk i : Nat}
    (F : Fr h₀ L h m) (N : News h₀ L h ((T, ({ cls := .type "tuple", data := .seq #[.int (2 * p.1) ta, .int (2 * p.2.1) tb, .int (2 * p.2.2) tc] } : Obj)) :: (I, oI) :: (C, oC) :: (D, lst ys) :: (base ++ own)))
    (off : Off3 I C D (base ++ own)) (h1 : @LT.lt Nat _ I T) (h2 : @LT.lt Nat _ C T) (h3 : @LT.lt Nat _ D T) (hp : tr[i]? = some p) (hl : ys.length = i) (hd : DatAll own ys (((tr.take i).map dbl3).map tripD)) :
    Halt (CompEnd h₀ L m s I oI C oC D (lst ys) (fun _ => True) (fun y news' => LpJ base tr (i + 1) (ys ++ [y]) news') (.ref T) { s with heap := h, toks := tk }) := by
  refine ⟨⟨h, tk, base ++ (own ++ [(T, { cls := .type "tuple", data := .seq #[.int (2 * p.1) ta, .int (2 * p.2.1) tb, .int (2 * p.2.2) tc] })]), rfl, F, fun q hq => N q ?_, Off3.of fun q hq => ?_, trivial, _, rfl, by simp [hl], ?_⟩⟩
  · simp only [List.mem_cons, List.mem_append, List.not_mem_nil, or_false] at hq ⊢
    rcases hq with h | h | h | h | h | h <;> simp [h]
  · rw [← List.append_assoc] at hq
    rcases List.mem_append.mp hq with hq | hq
    · exact off.mem q hq
    · rw [List.mem_singleton.mp hq]
      exact ⟨Nat.ne_of_gt h1, Nat.ne_of_gt h2, Nat.ne_of_gt h3⟩
  · rw [List.take_add_one, hp]
    simp only [Option.toList_some, List.map_append, List.map_cons, List.map_nil]
    exact (hd.mono fun q hq => List.mem_append_left _ hq).append (.one (.tuple (n := 0) (vs := [.int (2 * p.1) ta, .int (2 * p.2.1) tb, .int (2 * p.2.2) tc]) (by simp) (.cons (.int _ _) (.cons (.int _ _) (.cons (.int _ _) .nil)))))
noncomputable def DbJ (base : List (Addr × Obj)) (ns : List Int) (i : Nat) (ys : List Value) (nw : List (Addr × Obj)) : Prop :=
  ∃ own, nw = base ++ own ∧ ys.length = 2 * i ∧ IntsAre ys ((ns.take i).flatMap (fun l => [l, 1 - l]))
theorem db_end {h₀ h : Heap} {L I C D T : Addr} {oI oC : Obj} {ys : List Value} {base own : List (Addr × Obj)} {ns : List Int} {l : Int} {ta tb : Tok} {m : Str → Option Value} {s : Shared} {tk i : Nat}
    (F : Fr h₀ L h m) (N : News h₀ L h ((T, ({ cls := .type "tuple", data := .seq #[.int l ta, .int (1 - l) tb] } : Obj)) :: (I, oI) :: (C, oC) :: (D, lst ys) :: (base ++ own)))
    (off : Off3 I C D (base ++ own)) (h1 : @LT.lt Nat _ I T) (h2 : @LT.lt Nat _ C T) (h3 : @LT.lt Nat _ D T) (hp : ns[i]? = some l) (hl : ys.length = 2 * i) (hd : IntsAre ys ((ns.take i).flatMap (fun l => [l, 1 - l]))) :
    Halt (CompEnd h₀ L m s I oI C oC D (lst ys) (fun _ => True) (fun r news' => ∃ (t : Addr) (ot : Obj) (v₁ v₂ : Value) (nt : Nat), r = .ref t ∧ (t, ot) ∈ news' ∧ ot.cls = .type "tuple" ∧ ot.data = .seq #[v₁, v₂] nt ∧ DbJ base ns (i + 1) (ys ++ [v₁, v₂]) news') (.ref T) { s with heap := h, toks := tk }) := by
  refine ⟨⟨h, tk, base ++ (own ++ [(T, { cls := .type "tuple", data := .seq #[.int l ta, .int (1 - l) tb] })]), rfl, F, fun q hq => N q ?_, Off3.of fun q hq => ?_, trivial, T, { cls := .type "tuple", data := .seq #[.int l ta, .int (1 - l) tb] }, _, _, 0, rfl, by simp, rfl, rfl, _, rfl, by simp [hl]; omega, ?_⟩⟩
  · simp only [List.mem_cons, List.mem_append, List.not_mem_nil, or_false] at hq ⊢
    rcases hq with h | h | h | h | h | h <;> simp [h]
  · rw [← List.append_assoc] at hq
    rcases List.mem_append.mp hq with hq | hq
    · exact off.mem q hq
    · rw [List.mem_singleton.mp hq]
      exact ⟨Nat.ne_of_gt h1, Nat.ne_of_gt h2, Nat.ne_of_gt h3⟩
  · rw [List.take_add_one, hp]
    simp only [Option.toList_some, List.flatMap_append, List.flatMap_cons, List.flatMap_nil, List.append_nil]
    exact hd.append (.cons _ _ (.cons _ _ .nil))
noncomputable abbrev lpJN {h₀ h : Heap} {L I C D : Addr} {m m' : Str → Option Value} {news : List (Addr × Obj)} (_ : CSt h₀ L m I C D [] news m' h) (tr : List (Int × Int × Int)) := LpJ news tr
noncomputable abbrev dbJN {h₀ h : Heap} {L I C D : Addr} {m m' : Str → Option Value} {news : List (Addr × Obj)} (_ : CSt h₀ L m I C D [] news m' h) (ns : List Int) := DbJ news ns
theorem llP_len (ns : List Int) (lift : Nat) (h : ns.length ≤ 24) : (llP ns lift).length ≤ 792 := by
  have := flatMap_len (llF_len ns lift) ((ns.length + 1) / 2 - 1)
  unfold llP
  omega
theorem dat_len {tups : List (Addr × Obj)} {tv : List Value} {ns : List Int} {lift : Nat} (h : DatAll tups tv ((llP ns lift).map tripD)) (hn : ns.length ≤ 24) : tv.toArray.size ≤ sizeLine := by
  rw [List.size_toArray, h.length, List.length_map, sizeLine_eq]
  exact Nat.le_trans (llP_len ns lift hn) (by decide)
theorem trip_ok {tr : List (Int × Int × Int)} : ∀ d ∈ tr.map tripD, kqdOk 8 d = true := by
  intro d hd
  obtain ⟨p, _, rfl⟩ := List.mem_map.mp hd
  rfl
theorem ints_dat {n : List (Addr × Obj)} : ∀ {vs : List Value} {ns : List Int}, IntsAre vs ns → DatAll n vs (ns.map Dat.int)
  | _, _, .nil => .nil
  | _, _, .cons i t h => .cons (.int i t) (ints_dat h)
theorem ints_ok {ns : List Int} : ∀ d ∈ ns.map Dat.int, kqdOk 8 d = true := by
  intro d hd
  obtain ⟨p, _, rfl⟩ := List.mem_map.mp hd
  rfl
section
variable {prog : Program} {w : World} {A : Around} {s : Shared} {h₀ : Heap} {L : Addr} {news : List (Addr × Obj)} {Q E : Value → Shared → Prop}
theorem dats_ne {a b : Addr} {xs ys : List Value} {ka kb : Nat} {n₁ n₂ : List (Addr × Obj)} {ds es : List Dat} (N : News h₀ L s.heap news) (ma : (a, W.listOf xs.toArray ka) ∈ news) (Da : DatAll n₁ xs ds) (sa : ∀ p ∈ n₁, p ∈ news)
    (mb : (b, W.listOf ys.toArray kb) ∈ news) (Db : DatAll n₂ ys es) (sb : ∀ p ∈ n₂, p ∈ news) (ha : ∀ d ∈ ds, kqdOk 8 d = true) (hb : ∀ d ∈ es, kqdOk 8 d = true) (he : ds = es) (hu : A.units + 64 < cLine) (h : Q (.bool false) s) :
    wpAny (model prog w) A (compareOp .NotEq (.ref a) (.ref b)) Q E s :=
  kqd_ne N ma rfl rfl Da sa mb rfl rfl Db sb ha hb hu (by rw [he]; simpa using h)
end
theorem keep_news {h₀ h : Heap} {L : Addr} {d5 e2 e1 pg jv tb en sg rw hp c1 c2 c3 c4 c5 c6 c7 c8 c9 c0 : Addr × Obj} {tail : List (Addr × Obj)} (N : News h₀ L h (d5 :: e2 :: e1 :: pg :: jv :: tb :: en :: sg :: rw :: hp :: c1 :: c2 :: c3 :: c4 :: c5 :: c6 :: c7 :: c8 :: c9 :: c0 :: tail)) :
    News h₀ L h [pg, tb, en, rw, hp, c1, c2, c3, c4, c5, c6, c7, c8, c9, c0] :=
  fun p hp => N p (List.Sublist.subset (.cons _ (.cons _ (.cons _ (.cons_cons _ (.cons _ (.cons_cons _ (.cons_cons _ (.cons _ (.cons_cons _ (.cons_cons _ (.cons_cons _ (.cons_cons _ (.cons_cons _ (.cons_cons _ (.cons_cons _ (.cons_cons _ (.cons_cons _ (.cons_cons _ (.cons_cons _ (.cons_cons _ (List.nil_sublist _))))))))))))))))))))) hp)
theorem sub_tail {p : Addr × Obj} {l : List (Addr × Obj)} (a : Addr × Obj) (h : p ∈ l) : p ∈ a :: l := .tail _ h
section
variable {prog : Program} {w : World} {A : Around} {s : Shared} {h₀ : Heap} {L : Addr} {m : Str → Option Value} {news : List (Addr × Obj)} {E : Value → Shared → Prop}
noncomputable def mores : List Int := [-2, -1, 0, 1, 3]
theorem pick5 {value slice : Expr} {l : Addr} {vs : List Value} {n : Nat} {k : Int} {u : Tok} {Q : Value → Shared → Prop} (N : News h₀ L s.heap news) (hm : (l, W.listOf vs.toArray n) ∈ news) (hi : IntsAre vs mores) (h0 : 0 ≤ k) (h1 : k < 5)
    (h : ∀ x t, -2 ≤ x → x ≤ 3 → Q (.int x t) s) (hs : subscripted slice false (.ref l) (.int k u) = operate [.ref l, .int k u] (getItem (.ref l) (.int k u)) := by with_unfolding_all rfl) :
    wpAny (model prog w) A (subscriptTail value slice (.ref l) (.int k u)) Q E s := by
  refine ksa_sub N hm hi h0 h1 (by omega) (fun t => ?_) hs
  have key : ∀ j, j < 5 → -2 ≤ mores.getD j 0 ∧ mores.getD j 0 ≤ 3 := by decide
  have := key k.toNat (by omega)
  exact h _ t this.1 this.2
theorem add_strs {a b : Addr} {vs ws : List Value} {ns ms : List Str} {n1 n2 : Nat} {Q : Value → Shared → Prop} (F : Fr h₀ L s.heap m) (N : News h₀ L s.heap news) (ma : (a, W.listOf vs.toArray n1) ∈ news) (mb : (b, W.listOf ws.toArray n2) ∈ news)
    (hi : StrsAre vs ns) (hj : StrsAre ws ms) (hz : ns.length + ms.length ≤ 1000) (h : ∀ D us h', StrsAre us (ns ++ ms) → Fr h₀ L h' m → News h₀ L h' ((D, W.listOf (List.toArray us) 0) :: news) → (∀ p ∈ news, p.1 < D) → Q (.ref D) { s with heap := h' }) :
    wpAny (model prog w) A (binaryOp .Add (.ref a) (.ref b)) Q E s := by
  refine add_lists F N ⟨_, (N _ ma).1, rfl, n1, rfl⟩ ⟨_, (N _ mb).1, rfl, n2, rfl⟩ (fun h' F' N' => h _ _ h' (hi.append' hj) F' N' fun p hp => Heap.lt_size (N p hp).1) ?_
  rw [hi.length, hj.length, sizeLine_eq]
  omega
theorem str_ne_same {x y : Str} {t u : Tok} {Q : Value → Shared → Prop} (e : x = y) (h : Q (.bool false) s) : wpAny (model prog w) A (compareOp .NotEq (.str x t) (.str y u)) Q E s :=
  PyProof.Rows.ne_str (by rw [e, bne_self_eq_false]; exact h)
theorem str_eq_same {x y : Str} {t u : Tok} {Q : Value → Shared → Prop} (e : x = y) (h : Q (.bool true) s) : wpAny (model prog w) A (compareOp .Eq (.str x t) (.str y u)) Q E s :=
  PyProof.Rows.eq_str (by rw [e, beq_self_eq_true]; exact h)
end
section
variable {w : World} {mean : ExcName → Option Value} {mg mb : Str → Option Value} {dp un : Nat} {gd : Option (List Code)} {cn : Str} {cs : Scope} {a : Addr} {ccd : Value} {cl : List (Str × Addr)} {outer : List Env} {A₀ : Around} {base h₀ : Heap} {L : Addr} {m : Str → Option Value} {s : Shared} {Q E : Value → Shared → Prop}
theorem pf_as {news : List (Addr × Obj)} {x : Int} {tkx : Tok} (hx : -(2 ^ 40) < x ∧ x < 2 ^ 40)
    (k1 : Below A₀ base outer h₀) (k2 : Fr h₀ L s.heap m) (k3 : (hd.heap_39 w.params).In h₀) (k4 : News h₀ L s.heap news) (k5 : Top hd.view_39 LO mean mg mb h₀) (kK : cs.kind = .function) (kd : dp + 2 < recursionLimit) (ku : un + 16 < cLine)
    (h : ∀ t h' tk', Fr h₀ L h' m → News h₀ L h' news → Q (.str (pfText x) t) { s with heap := h', toks := tk' }) :
      wpAny (model PySem.Challenge.rw_we0007_01.row.prog w) (ktrTop dp un gd cn cs L a ccd cl outer) (call (.ref 39) [.int x tkx]) Q E s :=
  pf_claim w mean mg mb news x tkx hx dp un gd cn cs a ccd cl outer A₀ base h₀ L m s Q E k1 k2 k3 k4 k5 kK trivial (by omega) (by omega) h
theorem qd_as {news : List (Addr × Obj)} {x : Str} {tkx : Tok} (hx : x.length ≤ 200000)
    (k1 : Below A₀ base outer h₀) (k2 : Fr h₀ L s.heap m) (k3 : (hd.heap_39 w.params).In h₀) (k4 : News h₀ L s.heap news) (k5 : Top hd.view_39 LO mean mg mb h₀) (kK : cs.kind = .function) (kd : dp + 2 < recursionLimit) (ku : un + 16 < cLine)
    (h : ∀ t h' tk', Fr h₀ L h' m → News h₀ L h' news → Q (.str (Re.quoteS x) t) { s with heap := h', toks := tk' }) :
      wpAny (model PySem.Challenge.rw_we0007_01.row.prog w) (ktrTop dp un gd cn cs L a ccd cl outer) (call (.ref 63) [.str x tkx]) Q E s :=
  qd_claim w mean mg mb news x tkx hx dp un gd cn cs a ccd cl outer A₀ base h₀ L m s Q E k1 k2 k3 k4 k5 kK trivial (by omega) (by omega) h
end
/-- what a list display leaves behind -/
structure MadeList (h₀ : Heap) (L : Addr) (m : Str → Option Value) (news : List (Addr × Obj)) (s : Shared) (xs : List Str) (v : Value) (s' : Shared) : Prop where
  out : ∃ D vs k h' tk', v = .ref D ∧ s' = { s with heap := h', toks := tk' } ∧ StrsAre vs xs ∧ Fr h₀ L h' m ∧ News h₀ L h' ((D, W.listOf (List.toArray vs) k) :: news) ∧ ∀ p ∈ news, p.1 < D
structure MadeStr (h₀ : Heap) (L : Addr) (m : Str → Option Value) (news : List (Addr × Obj)) (s : Shared) (x : Str) (v : Value) (s' : Shared) : Prop where
  out : ∃ t h' tk', v = .str x t ∧ s' = { s with heap := h', toks := tk' } ∧ Fr h₀ L h' m ∧ News h₀ L h' news
section
variable {M : Model} {A : Around} {α : Type} {t : Sem Value} {s : Shared} {h₀ : Heap} {L : Addr} {m : Str → Option Value} {news : List (Addr × Obj)} {E Q : Value → Shared → Prop}
theorem if_made {xs : List Str} (_F : Fr h₀ L s.heap m) (_N : News h₀ L s.heap news) (h1 : wpAny M A t (fun v s' => Halt (MadeList h₀ L m news s xs v s')) E s) (h2 : ∀ v s', MadeList h₀ L m news s xs v s' → Q v s') : wpAny M A t Q E s :=
  wpAny_mono h1 (fun v s' h => h2 v s' h.out) fun _ _ e => e
theorem str_made {x : Str} (_F : Fr h₀ L s.heap m) (_N : News h₀ L s.heap news) (h1 : wpAny M A t (fun v s' => Halt (MadeStr h₀ L m news s x v s')) E s) (h2 : ∀ v s', MadeStr h₀ L m news s x v s' → Q v s') : wpAny M A t Q E s :=
  wpAny_mono h1 (fun v s' h => h2 v s' h.out) fun _ _ e => e
theorem made_list {xs : List Str} {D : Addr} {vs : List Value} {k : Nat} {h' : Heap} {tk' : Nat} (hV : StrsAre vs xs) (F : Fr h₀ L h' m) (N : News h₀ L h' ((D, W.listOf vs.toArray k) :: news)) (hl : AllLt D news) : Halt (MadeList h₀ L m news s xs (.ref D) { s with heap := h', toks := tk' }) :=
  ⟨⟨D, vs, k, h', tk', rfl, rfl, hV, F, N, fun p hp => allLt_mem2 hl p hp⟩⟩
theorem made_str {x y : Str} {h' : Heap} {tk' : Nat} {u : Tok} {all : List (Addr × Obj)} (hx : y = x) (F : Fr h₀ L h' m) (N : News h₀ L h' all) (hs : ∀ p ∈ news, p ∈ all) : Halt (MadeStr h₀ L m news s x (.str y u) { s with heap := h', toks := tk' }) :=
  ⟨⟨u, h', tk', by rw [hx], rfl, F, fun p hp => N p (hs p hp)⟩⟩
end
theorem keep_two {h₀ h : Heap} {L : Addr} {e1 e2 e3 e4 e5 e6 pg tb en rw hp c1 c2 c3 c4 c5 c6 c7 c8 c9 c0 : Addr × Obj} {tail : List (Addr × Obj)} (N : News h₀ L h (e1 :: e2 :: e3 :: e4 :: e5 :: e6 :: pg :: tb :: en :: rw :: hp :: c1 :: c2 :: c3 :: c4 :: c5 :: c6 :: c7 :: c8 :: c9 :: c0 :: tail)) :
    News h₀ L h [en, rw, c1, c2, c3, c4, c5, c6, c7, c8, c9, c0] :=
  fun p hp => N p (List.Sublist.subset (.cons _ (.cons _ (.cons _ (.cons _ (.cons _ (.cons _ (.cons _ (.cons _ (.cons_cons _ (.cons_cons _ (.cons _ (.cons_cons _ (.cons_cons _ (.cons_cons _ (.cons_cons _ (.cons_cons _ (.cons_cons _ (.cons_cons _ (.cons_cons _ (.cons_cons _ (.cons_cons _ (List.nil_sublist _)))))))))))))))))))))) hp)
/-- an item of a dict display that is let go at once -/
theorem item_dict {prog : Program} {w : World} {A : Around} {E : Value → Shared → Prop} {s : Shared} {d : Addr} {D : List (PyData × PyData)} {value slice : Expr} {x : Str} {t : Tok} {dv : PyData} {Q : Value → Shared → Prop} (T : StrTab prog w s.heap d D) (hl : PySem.Spec.lookup (.str x) D = some dv)
    (h : ∀ v, PyProof.V.Flat v dv → Q v { s with toks := s.toks + 1 }) (hs : subscripted slice false (.ref d) (.str x t) = operate [.ref d, .str x t] (getItem (.ref d) (.str x t)) := by with_unfolding_all rfl) :
    wpAny (model prog w) A (subscriptTail value slice (.ref d) (.str x t)) Q E s := by
  obtain ⟨lo, kvs, hd, hf⟩ := T
  obtain ⟨v, hv, hfl⟩ := hf.of_lookup PyProof.V.same_str hl
  exact tail_any hd.typeIs slot_dict_getitem.lookup (wpAny_getItem_of (strKind_is prog w x t) hd.mapOf hv (h v hfl)) hs
end

section
open PySem PySem.W PyProof.Rows

/-- a newer object stands apart from each of the ledger's -/
theorem klt_all {D : Nat} : ∀ {l : List (Addr × Obj)}, AllLt D l → ∀ p ∈ l, @LT.lt Nat _ p.1 D
  | [], _, _, hp => nomatch hp
  | _ :: _, h, _, hp => (List.mem_cons.mp hp).elim (fun e => e ▸ h.1) (fun m => klt_all h.2 _ m)
theorem klt_lt {D a : Nat} {o : Obj} {l : List (Addr × Obj)} (h : AllLt D l) (m : List.Mem ((a, o) : Addr × Obj) l) : a < D := klt_all h (a, o) m
theorem klt_ne {a D : Nat} {o : Obj} {l : List (Addr × Obj)} (h : AllLt D l) (m : List.Mem ((a, o) : Addr × Obj) l) : a ≠ D := Nat.ne_of_lt (klt_lt h m)
theorem klt_ne' {a D : Nat} {o : Obj} {l : List (Addr × Obj)} (h : AllLt D l) (m : List.Mem ((a, o) : Addr × Obj) l) : D ≠ a := Nat.ne_of_gt (klt_lt h m)
/-- what a comprehension's list stands apart from, kept from the arithmetic's eyes -/
structure OffW (D : Nat) (l : List (Addr × Obj)) : Prop where
  out : LCg.Off1 D l
theorem off1_all {D : Nat} : ∀ {l : List (Addr × Obj)}, LCg.Off1 D l → ∀ p ∈ l, @Ne Nat p.1 D
  | [], _, _, hp => nomatch hp
  | _ :: _, h, _, hp => (List.mem_cons.mp hp).elim (fun e => e ▸ h.1) (fun m => off1_all h.2 _ m)
theorem off1_ne {D a : Nat} {o : Obj} {l : List (Addr × Obj)} (h : LCg.Off1 D l) (m : List.Mem ((a, o) : Addr × Obj) l) : a ≠ D := off1_all h (a, o) m
theorem off_ne {a D : Nat} {o : Obj} {l : List (Addr × Obj)} (h : OffW D l) (m : List.Mem ((a, o) : Addr × Obj) l) : a ≠ D := off1_ne h.out m
theorem off_ne' {a D : Nat} {o : Obj} {l : List (Addr × Obj)} (h : OffW D l) (m : List.Mem ((a, o) : Addr × Obj) l) : D ≠ a := (off1_ne h.out m).symm
end

section
open PySem PySem.W PyProof.Rows PySem.Calls PySem.Spec
set_option maxRecDepth 100000

open PySem.Builtin.Str PySem.StrLaws Re
/-! what is sent and what is read of it -/
noncomputable def crlfA : Bool → List Nat → List Nat
  | _, [] => []
  | b, c :: r => if (b && c == 10) = true then crlfA false r else if isEnd c = true then 13 :: 10 :: crlfA (c == 13) r else c :: crlfA false r
theorem crlfA_not {r : List Nat} (h : r.head? ≠ some 10) (b : Bool) : crlfA b r = crlfA false r := by
  cases r with
  | nil => rfl
  | cons c r =>
    have hc : (c == 10) = false := by
      cases he : (c == 10) with
      | false => rfl
      | true => exact absurd (by rw [eq_of_beq he]; rfl) h
    unfold crlfA
    rw [hc, Bool.and_false, Bool.and_false]
theorem crlf_eq (n : Nat) : ∀ l : List Nat, l.length ≤ n → crlfL l = crlfA false l := by
  induction n with
  | zero =>
    intro l h
    have : l = [] := by simpa using h
    subst this
    rw [crlfL]; rfl
  | succ n ih =>
    intro l h
    cases l with
    | nil => rw [crlfL]; rfl
    | cons c r =>
      rw [crlf_cons]
      have hr : r.length ≤ n := by simpa using h
      by_cases h1 : c = 13 ∧ r.head? = some 10
      · rw [if_pos h1]
        obtain ⟨rfl, h2⟩ := h1
        cases r with
        | nil => cases h2
        | cons d r =>
          have hd : d = 10 := Option.some.inj h2
          subst hd
          have ih' := ih r (by simp at hr; omega)
          show 13 :: 10 :: crlfL r = _
          rw [ih']
          rfl
      · rw [if_neg h1]
        show _ = (if (false && c == 10) = true then crlfA false r else if isEnd c = true then 13 :: 10 :: crlfA (c == 13) r else c :: crlfA false r)
        rw [Bool.false_and, if_neg Bool.false_ne_true]
        by_cases h2 : isEnd c = true
        · rw [if_pos h2, if_pos h2, ih r hr]
          by_cases h3 : c = 13
          · rw [crlfA_not (fun h4 => h1 ⟨h3, h4⟩) (c == 13)]
          · rw [beq_false_of_ne h3]
        · rw [if_neg h2, if_neg h2, ih r hr]
noncomputable def quoteA (l : List Nat) : List Nat := dotsL true (crlfA false l)
theorem quote_eq (l : List Nat) : quoteL l = quoteA l := congrArg (dotsL true) (crlf_eq _ l (Nat.le_refl _))
/-- one piece of the text: what it becomes, whatever comes after -/
structure Pc (x y : List Nat) : Prop where
  out : ∀ (b : Bool) (r : List Nat), dotsL b (crlfA false (x ++ r)) = y ++ dotsL false (crlfA false r)
theorem pc_all : ∀ (xs ys : List (List Nat)) (b : Bool), xs.length = ys.length → (∀ p ∈ xs.zip ys, Pc p.1 p.2) → dotsL b (crlfA false xs.flatten) = ys.flatten
  | [], [], b, _, _ => by cases b <;> rfl
  | [], _ :: _, _, h, _ => by cases h
  | _ :: _, [], _, h, _ => by cases h
  | x :: xs, y :: ys, b, h, hp => by
    rw [List.flatten_cons, List.flatten_cons, (hp (x, y) (.head _)).out b, pc_all xs ys false (Nat.succ.inj h) fun p hq => hp p (.tail _ hq)]
noncomputable def endY : List Nat := [13, 10, 46, 46]
theorem pc_1 : Pc [10, 46] endY := ⟨fun b r => by cases b <;> rfl⟩
theorem pc_2 : Pc [13, 46] endY := ⟨fun b r => by cases b <;> rfl⟩
theorem pc_3 : Pc [13, 10, 46] endY := ⟨fun b r => by cases b <;> rfl⟩
theorem pc_amp : Pc [38, 97, 109, 112, 59] [38, 97, 109, 112, 59] := ⟨fun b r => by cases b <;> rfl⟩
theorem pc_lt : Pc [38, 108, 116, 59] [38, 108, 116, 59] := ⟨fun b r => by cases b <;> rfl⟩
theorem pc_gt : Pc [38, 103, 116, 59] [38, 103, 116, 59] := ⟨fun b r => by cases b <;> rfl⟩
theorem pc_quot : Pc [38, 113, 117, 111, 116, 59] [38, 113, 117, 111, 116, 59] := ⟨fun b r => by cases b <;> rfl⟩
theorem pc_cr : Pc [38, 35, 120, 68, 59] [38, 35, 120, 68, 59] := ⟨fun b r => by cases b <;> rfl⟩
/-! the escapes as list functions -/
noncomputable def sub1 (c : Nat) (z : List Nat) (k : Nat) : List Nat := if k = c then z else [k]
theorem flat_free {c : Nat} {z : List Nat} : ∀ {l : List Nat}, c ∉ l → l.flatMap (sub1 c z) = l
  | [], _ => rfl
  | k :: r, h => by
    have h1 : ¬ k = c := fun e => h (e ▸ .head _)
    rw [List.flatMap_cons, flat_free (fun m => h (.tail _ m))]
    unfold sub1
    rw [if_neg h1]; rfl
theorem flat_join {c : Nat} {z : List Nat} : ∀ ps : List (List Nat), (∀ p ∈ ps, c ∉ p) → (joinL [c] ps).flatMap (sub1 c z) = joinL z ps
  | [], _ => rfl
  | [p], h => flat_free (h p (.head _))
  | p :: q :: r, h => by
    have ih := flat_join (z := z) (q :: r) fun p' hp => h p' (.tail _ hp)
    show (p ++ [c] ++ joinL [c] (q :: r)).flatMap (sub1 c z) = p ++ z ++ joinL z (q :: r)
    rw [List.flatMap_append, List.flatMap_append, ih, flat_free (h p (.head _))]
    congr 2
    show sub1 c z c ++ [] = z
    unfold sub1
    rw [if_pos rfl, List.append_nil]
theorem replace_flat (x z : Str) (c : Nat) : (Txt.replace x ⟨#[c]⟩ z).cps.toList = x.cps.toList.flatMap (sub1 c z.cps.toList) := by
  rw [replace_one]
  have h1 := join_split x ⟨#[c]⟩
  have h2 := split_free x c
  generalize Txt.split x ⟨#[c]⟩ = ps at h1 h2
  rw [← h1, Mine.join_list, Mine.join_list]
  rw [flat_join _ (fun p hp => by obtain ⟨q, hq, rfl⟩ := List.mem_map.mp hp; exact h2 q hq)]
theorem esc1_flat {cs zs : String} {c : Nat} (hc : Str.ofString cs = ⟨#[c]⟩) (x : Str) : (esc1 cs zs x).cps.toList = x.cps.toList.flatMap (sub1 c (Str.ofString zs).cps.toList) := by
  unfold esc1
  rw [hc]
  have hf := found_one x c
  split
  · rename_i h
    rw [h] at hf
    have hn : c ∉ x.cps.toList := fun hm => by simp [hm] at hf
    exact (flat_free hn).symm
  · exact replace_flat x _ c
noncomputable def ampL : List Nat := [38, 97, 109, 112, 59]
noncomputable def ltL : List Nat := [38, 108, 116, 59]
noncomputable def gtL : List Nat := [38, 103, 116, 59]
noncomputable def quotL : List Nat := [38, 113, 117, 111, 116, 59]
noncomputable def crL : List Nat := [38, 35, 120, 68, 59]
noncomputable def escAL (l : List Nat) : List Nat := ((l.flatMap (sub1 38 ampL)).flatMap (sub1 60 ltL)).flatMap (sub1 62 gtL)
noncomputable def escBL (l : List Nat) : List Nat := ((l.flatMap (sub1 38 ampL)).flatMap (sub1 62 gtL)).flatMap (sub1 34 quotL)
noncomputable def escCL (l : List Nat) : List Nat := (((l.flatMap (sub1 38 ampL)).flatMap (sub1 60 ltL)).flatMap (sub1 62 gtL)).flatMap (sub1 13 crL)
noncomputable def escL (hand : Int) (l : List Nat) : List Nat := if hand = 0 then escAL l else if hand = 1 then escBL l else escCL l
theorem s_amp : (Str.ofString "&amp;").cps.toList = ampL := by decide +kernel
theorem s_lt : (Str.ofString "&lt;").cps.toList = ltL := by decide +kernel
theorem s_gt : (Str.ofString "&gt;").cps.toList = gtL := by decide +kernel
theorem s_quot : (Str.ofString "&quot;").cps.toList = quotL := by decide +kernel
theorem s_cr : (Str.ofString "&#xD;").cps.toList = crL := by decide +kernel
theorem c_amp : Str.ofString "&" = ⟨#[38]⟩ := by decide +kernel
theorem c_lt : Str.ofString "<" = ⟨#[60]⟩ := by decide +kernel
theorem c_gt : Str.ofString ">" = ⟨#[62]⟩ := by decide +kernel
theorem c_quot : Str.ofString "\"" = ⟨#[34]⟩ := by decide +kernel
theorem c_cr : Str.ofString "\r" = ⟨#[13]⟩ := by decide +kernel
theorem escH_list (hand : Int) (x : Str) : (escH hand x).cps.toList = escL hand x.cps.toList := by
  unfold escH escL
  split
  · unfold escA escAL
    rw [esc1_flat c_gt, esc1_flat c_lt, esc1_flat c_amp, s_amp, s_lt, s_gt]
  split
  · unfold escB escBL
    rw [esc1_flat c_quot, esc1_flat c_gt, esc1_flat c_amp, s_amp, s_gt, s_quot]
  · unfold escC escCL
    rw [esc1_flat c_cr, esc1_flat c_gt, esc1_flat c_lt, esc1_flat c_amp, s_amp, s_lt, s_gt, s_cr]
theorem flat_flat (c : Nat) (z : List Nat) : ∀ ps : List (List Nat), ps.flatten.flatMap (sub1 c z) = (ps.map (fun p => p.flatMap (sub1 c z))).flatten
  | [] => rfl
  | p :: r => by rw [List.flatten_cons, List.flatMap_append, List.map_cons, List.flatten_cons, flat_flat c z r]
theorem escL_flat (hand : Int) (ps : List (List Nat)) : escL hand ps.flatten = (ps.map (escL hand)).flatten := by
  unfold escL
  split
  · unfold escAL; rw [flat_flat, flat_flat, flat_flat]; simp only [List.map_map]; rfl
  split
  · unfold escBL; rw [flat_flat, flat_flat, flat_flat]; simp only [List.map_map]; rfl
  · unfold escCL; rw [flat_flat, flat_flat, flat_flat, flat_flat]; simp only [List.map_map]; rfl
theorem joinL_nil : ∀ ps : List (List Nat), joinL [] ps = ps.flatten
  | [] => rfl
  | [p] => by simp [joinL]
  | p :: q :: r => by
    show p ++ [] ++ joinL [] (q :: r) = _
    rw [joinL_nil (q :: r), List.append_nil]
    rfl
theorem join_flat (ys : List Str) : (Txt.join (Str.ofString "") ys).cps.toList = (ys.map (·.cps.toList)).flatten := by
  show (Builtin.Str.glued _ _).cps.toList = _
  rw [glued_eq_join, Mine.join_list, show (Str.ofString "").cps.toList = [] by decide +kernel, joinL_nil]
/-! the signs -/
/-- a sign and its name -/
noncomputable def signName (sg : Str) : Str := if sg = Str.ofString "&" then Str.ofString "&amp;" else if sg = Str.ofString "<" then Str.ofString "&lt;" else if sg = Str.ofString ">" then Str.ofString "&gt;" else if sg = Str.ofString "\"" then Str.ofString "&quot;" else Str.ofString "&#xD;"
/-- a sign that may stand in a row of this hand -/
structure SignOk (hand : Int) (sg : Str) : Prop where
  isL : sg = Str.ofString "&" ∨ sg = Str.ofString "<" ∨ sg = Str.ofString ">" ∨ sg = Str.ofString "\"" ∨ sg = Str.ofString "\r"
  esc : escL hand sg.cps.toList = (signName sg).cps.toList
  len : sg.length = 1
theorem sign_all : ∀ h, h < 3 → ∀ j, j < (sgs ((h : Nat) : Int)).length → (Txt.item (sgs (h : Int)) (j : Nat) = Str.ofString "&" ∨ Txt.item (sgs (h : Int)) (j : Nat) = Str.ofString "<" ∨ Txt.item (sgs (h : Int)) (j : Nat) = Str.ofString ">" ∨ Txt.item (sgs (h : Int)) (j : Nat) = Str.ofString "\"" ∨ Txt.item (sgs (h : Int)) (j : Nat) = Str.ofString "\r") ∧
    escL (h : Int) (Txt.item (sgs (h : Int)) (j : Nat)).cps.toList = (signName (Txt.item (sgs (h : Int)) (j : Nat))).cps.toList := by decide +kernel
theorem sign_ok {hand k : Int} {x sg : Str} (h0 : 0 ≤ hand) (h3 : hand < 3) (hx : x = pk3 (Str.ofString "&<>") (Str.ofString "&>\"") (Str.ofString "&<>\r") hand) (hs : sg = Txt.item x (k.fmod (x.length : Int))) (hl : sg.length = 1) : SignOk hand sg := by
  have hxl := sgs_len hx
  have b0 : 0 ≤ k.fmod (x.length : Int) := Int.fmod_nonneg_of_pos _ (by omega)
  have b1 : k.fmod (x.length : Int) < (x.length : Int) := Int.fmod_lt_of_pos _ (by omega)
  generalize k.fmod (x.length : Int) = j at hs b0 b1
  have hx' : x = sgs hand := hx
  subst hx'
  have key := sign_all hand.toNat (by omega) j.toNat (by rw [Int.toNat_of_nonneg h0]; omega)
  rw [Int.toNat_of_nonneg h0, Int.toNat_of_nonneg b0, ← hs] at key
  exact ⟨key.1, key.2, hl⟩
theorem pc_sign {hand : Int} {sg : Str} (h : SignOk hand sg) : Pc (escL hand sg.cps.toList) (signName sg).cps.toList := by
  rw [h.esc]
  rcases h.isL with rfl | rfl | rfl | rfl | rfl
  · rw [show (signName (Str.ofString "&")).cps.toList = ampL by decide +kernel]; exact pc_amp
  · rw [show (signName (Str.ofString "<")).cps.toList = ltL by decide +kernel]; exact pc_lt
  · rw [show (signName (Str.ofString ">")).cps.toList = gtL by decide +kernel]; exact pc_gt
  · rw [show (signName (Str.ofString "\"")).cps.toList = quotL by decide +kernel]; exact pc_quot
  · rw [show (signName (Str.ofString "\r")).cps.toList = crL by decide +kernel]; exact pc_cr
theorem end_free : ∀ h, h < 3 → escL ((h : Nat) : Int) [10, 46] = [10, 46] ∧ (h < 2 → escL (h : Int) [13, 46] = [13, 46] ∧ escL (h : Int) [13, 10, 46] = [13, 10, 46]) := by decide +kernel
theorem pc_end {tot : Int} (i : Nat) : Pc (escL (tot.fmod 3) (endOf tot i).cps.toList) endY := by
  have h0 : 0 ≤ tot.fmod 3 := Int.fmod_nonneg_of_pos _ (by decide)
  have h3 : tot.fmod 3 < 3 := Int.fmod_lt_of_pos _ (by decide)
  have key := end_free (tot.fmod 3).toNat (by omega)
  rw [Int.toNat_of_nonneg h0] at key
  unfold endOf
  by_cases h2 : tot.fmod 3 < 2
  · rw [if_pos h2]
    have k2 := key.2 (by omega)
    unfold pk3
    split
    · rw [show (Str.ofString "\n.").cps.toList = [10, 46] by decide +kernel, key.1]; exact pc_1
    split
    · rw [show (Str.ofString "\r.").cps.toList = [13, 46] by decide +kernel, k2.1]; exact pc_2
    · rw [show (Str.ofString "\r\n.").cps.toList = [13, 10, 46] by decide +kernel, k2.2]; exact pc_3
  · rw [if_neg h2, show (Str.ofString "\n.").cps.toList = [10, 46] by decide +kernel, key.1]; exact pc_1
/-- the pieces of what is sent -/
noncomputable def sentP (a : Int) (sg : Str) : List (List Nat) := (List.range 12).map (fun i => if rowOf a i = 0 then endY else (signName sg).cps.toList)
theorem sent_list {a tot : Int} {sg : Str} (h : SignOk (tot.fmod 3) sg) : (quoteS (escH (tot.fmod 3) (Txt.join (Str.ofString "") (pieces a tot sg)))).cps.toList = (sentP a sg).flatten := by
  show quoteL (escH (tot.fmod 3) (Txt.join (Str.ofString "") (pieces a tot sg))).cps.toList = _
  rw [quote_eq, escH_list, join_flat, escL_flat]
  refine pc_all _ _ true (by simp [pieces, sentP]) ?_
  unfold pieces sentP
  rw [List.map_map, List.map_map]
  intro p hp
  rw [List.zip_map'] at hp
  obtain ⟨i, _, rfl⟩ := List.mem_map.mp hp
  show Pc (escL (tot.fmod 3) (if rowOf a i = 0 then endOf tot i else sg).cps.toList) (if rowOf a i = 0 then endY else (signName sg).cps.toList)
  split
  · exact pc_end i
  · exact pc_sign h
end

section
open PySem PySem.W PyProof.Rows PySem.Calls PySem.Spec
set_option maxRecDepth 100000

/-! what is read of what is sent -/
theorem step_pre (l : List Int) (t : Int) (T U : List Int) (c : Int) : rdStep (l, t, T ++ U) c = ((rdStep (l, t, U) c).1, (rdStep (l, t, U) c).2.1, T ++ (rdStep (l, t, U) c).2.2) := by
  unfold rdStep
  dsimp only
  split
  · split
    · rfl
    split
    · rfl
    · simp only [List.append_assoc]
  · rfl
theorem fold_pre : ∀ (cs : List Int) (l : List Int) (t : Int) (T U : List Int), cs.foldl rdStep (l, t, T ++ U) = ((cs.foldl rdStep (l, t, U)).1, (cs.foldl rdStep (l, t, U)).2.1, T ++ (cs.foldl rdStep (l, t, U)).2.2)
  | [], _, _, _, _ => rfl
  | c :: cs, l, t, T, U => by
    rw [List.foldl_cons, step_pre, fold_pre cs, List.foldl_cons]
theorem step_any (l : List Int) (t : Int) (T U : List Int) (c : Int) : (rdStep (l, t, T) c).1 = (rdStep (l, t, U) c).1 ∧ (rdStep (l, t, T) c).2.1 = (rdStep (l, t, U) c).2.1 := by
  unfold rdStep
  dsimp only
  split
  · split
    · exact ⟨rfl, rfl⟩
    split
    · exact ⟨rfl, rfl⟩
    · exact ⟨rfl, rfl⟩
  · exact ⟨rfl, rfl⟩
theorem all_any : ∀ (cs : List Int) (l : List Int) (t : Int) (T U : List Int), rdAll (l, t, T) cs = rdAll (l, t, U) cs
  | [], _, _, _, _ => rfl
  | c :: cs, l, t, T, U => by
    obtain ⟨h1, h2⟩ := step_any l t T U c
    show (rdGood (l, t, T) c && decide (0 ≤ t ∧ t ≤ 1) && rdAll (rdStep (l, t, T) c) cs) = (rdGood (l, t, U) c && decide (0 ≤ t ∧ t ≤ 1) && rdAll (rdStep (l, t, U) c) cs)
    have h3 : rdGood (l, t, T) c = rdGood (l, t, U) c := rfl
    rw [h3]
    congr 1
    have e1 : rdStep (l, t, T) c = ((rdStep (l, t, U) c).1, (rdStep (l, t, U) c).2.1, (rdStep (l, t, T) c).2.2) := by rw [← h1, ← h2]
    rw [e1]
    exact all_any cs _ _ _ (rdStep (l, t, U) c).2.2
theorem all_app : ∀ (xs ys : List Int) (st : List Int × Int × List Int), rdAll st (xs ++ ys) = (rdAll st xs && rdAll (xs.foldl rdStep st) ys)
  | [], _, _ => by simp [rdAll]
  | c :: xs, ys, st => by
    show (rdGood st c && decide (0 ≤ st.2.1 ∧ st.2.1 ≤ 1) && rdAll (rdStep st c) (xs ++ ys)) = (rdGood st c && decide (0 ≤ st.2.1 ∧ st.2.1 ≤ 1) && rdAll (rdStep st c) xs && rdAll (xs.foldl rdStep (rdStep st c)) ys)
    rw [all_app xs ys, Bool.and_assoc]
    simp only [Bool.and_assoc]
/-- a piece, read -/
noncomputable def Rd (y : List Nat) (o : List Int) : Prop := rdAll ([], 0, []) (y.map Int.ofNat) = true ∧ (y.map Int.ofNat).foldl rdStep ([], 0, []) = ([], 0, o)
theorem pr_end : Rd endY [0, 1] := by unfold Rd; decide +kernel
theorem pr_amp : Rd ampL [1, 0] := by unfold Rd; decide +kernel
theorem pr_lt : Rd ltL [1, 0] := by unfold Rd; decide +kernel
theorem pr_gt : Rd gtL [1, 0] := by unfold Rd; decide +kernel
theorem pr_quot : Rd quotL [1, 0] := by unfold Rd; decide +kernel
theorem pr_cr : Rd crL [1, 0] := by unfold Rd; decide +kernel
theorem name_is {hand : Int} {sg : Str} (h : SignOk hand sg) : (signName sg).cps.toList = ampL ∨ (signName sg).cps.toList = ltL ∨ (signName sg).cps.toList = gtL ∨ (signName sg).cps.toList = quotL ∨ (signName sg).cps.toList = crL := by
  rcases h.isL with rfl | rfl | rfl | rfl | rfl
  · exact .inl (by decide +kernel)
  · exact .inr (.inl (by decide +kernel))
  · exact .inr (.inr (.inl (by decide +kernel)))
  · exact .inr (.inr (.inr (.inl (by decide +kernel))))
  · exact .inr (.inr (.inr (.inr (by decide +kernel))))
theorem pr_name {hand : Int} {sg : Str} (h : SignOk hand sg) : Rd (signName sg).cps.toList [1, 0] := by
  rcases name_is h with e | e | e | e | e <;> rw [e]
  · exact pr_amp
  · exact pr_lt
  · exact pr_gt
  · exact pr_quot
  · exact pr_cr
theorem pr_flat (f : Nat → List Nat) (g : Nat → List Int) (h : ∀ i, Rd (f i) (g i)) : ∀ (is : List Nat) (T : List Int),
    rdAll ([], 0, T) (((is.map f).flatten).map Int.ofNat) = true ∧ (((is.map f).flatten).map Int.ofNat).foldl rdStep ([], 0, T) = ([], 0, T ++ (is.map g).flatten)
  | [], T => ⟨rfl, by simp⟩
  | i :: is, T => by
    obtain ⟨h1, h2⟩ := h i
    have e : ((f i).map Int.ofNat).foldl rdStep ([], 0, T) = ([], 0, T ++ g i) := by
      have := fold_pre ((f i).map Int.ofNat) [] 0 T []
      rw [List.append_nil, h2] at this
      exact this
    obtain ⟨h3, h4⟩ := pr_flat f g h is (T ++ g i)
    rw [List.map_cons, List.flatten_cons, List.map_append, all_app, List.foldl_append, e, h3, h4, all_any _ _ _ T [], h1]
    exact ⟨rfl, by rw [List.map_cons, List.flatten_cons, List.append_assoc]⟩
noncomputable def pageOf (a : Int) : List Int := ((List.range 12).map (rowOf a)).flatMap (fun l => [l, 1 - l])
theorem sent_read {a tot : Int} {sg snt : Str} (h : SignOk (tot.fmod 3) sg) (hs : snt = Re.quoteS (escH (tot.fmod 3) (Txt.join (Str.ofString "") (pieces a tot sg)))) :
    snt.length ≤ 200 ∧ rdAll ([], 0, []) (codes snt) = true ∧ ((codes snt).foldl rdStep ([], 0, [])).2.2 = pageOf a ∧ snt.cps.toList = (sentP a sg).flatten := by
  have hl : snt.cps.toList = (sentP a sg).flatten := by rw [hs]; exact sent_list h
  have key := pr_flat (fun i => if rowOf a i = 0 then endY else (signName sg).cps.toList) (fun i => [rowOf a i, 1 - rowOf a i]) (fun i => by
    split
    · rename_i h0; rw [h0]; exact pr_end
    · rename_i h0
      have h1 : rowOf a i = 1 := by
        unfold rowOf at h0 ⊢
        split
        · rfl
        · rename_i hb; rw [if_neg hb] at h0; exact absurd rfl h0
      rw [h1]; exact pr_name h) (List.range 12) []
  have hc : codes snt = ((((List.range 12).map (fun i => if rowOf a i = 0 then endY else (signName sg).cps.toList)).flatten).map Int.ofNat) := by
    show snt.cps.toList.map Int.ofNat = _
    rw [hl]; rfl
  refine ⟨?_, ?_, ?_, hl⟩
  · have e : snt.length = snt.cps.toList.length := by simp [Str.length]
    rw [e, hl, List.length_flatten]
    have hb : ∀ x ∈ (sentP a sg).map List.length, x ≤ 6 := by
      intro x hx
      obtain ⟨y, hy, rfl⟩ := List.mem_map.mp hx
      obtain ⟨i, _, rfl⟩ := List.mem_map.mp hy
      split
      · decide
      · rcases name_is h with e | e | e | e | e <;> rw [e] <;> decide
    have hs' : ∀ l : List Nat, (∀ x ∈ l, x ≤ 6) → l.sum ≤ l.length * 6 := by
      intro l
      induction l with
      | nil => intro _; simp
      | cons x l ih =>
        intro h
        have h1 := ih fun y hy => h y (.tail _ hy)
        have h2 := h x (.head _)
        simp only [List.sum_cons, List.length_cons, Nat.add_mul]
        omega
    have := hs' _ hb
    have e2 : ((sentP a sg).map List.length).length = 12 := by simp [sentP]
    rw [e2] at this
    omega
  · rw [hc]; exact key.1
  · rw [hc, key.2]
    show [] ++ _ = pageOf a
    rw [List.nil_append]
    unfold pageOf
    rw [List.flatMap_map]
    exact (List.flatMap_def).symm
end

section
open PySem PySem.W PyProof.Rows PySem.Calls PySem.Spec
set_option maxRecDepth 100000

/-! what repeats, doubled: the stretches of a doubled row -/
/-- the stretches from a mark on -/
noncomputable def tellL (s lo : Int) : List Int → List (Int × Int × Int)
  | [] => []
  | hi :: r => tell1 s lo hi ++ tellL s hi r
theorem tellP_eq (s : Int) : ∀ (r : List Int) (lo : Int), tellP s (lo :: r) = tellL s lo r
  | [], _ => rfl
  | hi :: r, lo => by
    have ih := tellP_eq s r hi
    unfold tellP at ih ⊢
    show (List.range (r.length + 1)).flatMap _ = _
    rw [List.range_succ_eq_map, List.flatMap_cons]
    show tell1 s lo hi ++ _ = tell1 s lo hi ++ tellL s hi r
    rw [← ih, List.flatMap_map]
    rfl
/-- the places at which a row isn't like itself a step on -/
noncomputable def places (B : Nat → Bool) (n s : Nat) : List Nat := (List.range (n - s)).filter (fun p => B p != B (p + s))
noncomputable def stepL (B : Nat → Bool) (n s : Nat) : List (Int × Int × Int) := tellL (s : Int) (-1) ((places B n s).map Int.ofNat ++ [((n - s : Nat) : Int)])
theorem double_marks (P R : Nat → Bool) (hP : ∀ p, P (2 * p) = R p ∧ P (2 * p + 1) = !R p) (s : Nat) : ∀ m, (List.range (2 * m)).filter (fun p => P p != P (p + 2 * s)) = ((List.range m).filter (fun p => R p != R (p + s))).flatMap (fun p => [2 * p, 2 * p + 1])
  | 0 => rfl
  | m + 1 => by
    have ih := double_marks P R hP s m
    rw [show 2 * (m + 1) = 2 * m + 1 + 1 by omega, List.range_succ, List.range_succ, List.range_succ, List.filter_append, List.filter_append, List.filter_append, List.flatMap_append, ih, List.append_assoc]
    congr 1
    have h1 := hP m
    have h2 := hP (m + s)
    have e1 : P (2 * m + 2 * s) = R (m + s) := by rw [← h2.1]; congr 1; omega
    have e2 : P (2 * m + 1 + 2 * s) = !R (m + s) := by rw [← h2.2]; congr 1; omega
    simp only [List.filter_cons, List.filter_nil, h1.1, h1.2, e1, e2]
    cases R m <;> cases R (m + s) <;> rfl
theorem double_tell (s : Nat) (e : Int) : ∀ (ps : List Nat) (lo : Int),
    tellL ((2 * s : Nat) : Int) (2 * lo + 1) ((ps.flatMap (fun p => [2 * p, 2 * p + 1])).map Int.ofNat ++ [2 * e]) = (tellL (s : Int) lo (ps.map Int.ofNat ++ [e])).map dbl3
  | [], lo => by
    show tell1 ((2 * s : Nat) : Int) (2 * lo + 1) (2 * e) ++ [] = (tell1 (s : Int) lo e ++ []).map dbl3
    rw [List.append_nil, List.append_nil]
    unfold tell1
    by_cases h : (s : Int) + 1 < e - lo
    · rw [if_pos h, if_pos (by push_cast; omega)]
      simp only [List.map_cons, List.map_nil, dbl3]
      congr 1
      refine Prod.ext ?_ (Prod.ext ?_ ?_)
      · show 2 * lo + 1 + 1 = 2 * (lo + 1); omega
      · show 2 * e + ((2 * s : Nat) : Int) = 2 * (e + s); push_cast; omega
      · show ((2 * s : Nat) : Int) = 2 * (s : Int); push_cast; rfl
    · rw [if_neg h, if_neg (by push_cast; omega)]; rfl
  | p :: ps, lo => by
    have ih := double_tell s e ps (p : Int)
    have e2 : (2 * (p : Int) + 1) = Int.ofNat (2 * p + 1) := by show _ = ((2 * p + 1 : Nat) : Int); push_cast; rfl
    rw [e2] at ih
    show tell1 ((2 * s : Nat) : Int) (2 * lo + 1) (Int.ofNat (2 * p)) ++ (tell1 ((2 * s : Nat) : Int) (Int.ofNat (2 * p)) (Int.ofNat (2 * p + 1)) ++ tellL ((2 * s : Nat) : Int) (Int.ofNat (2 * p + 1)) ((ps.flatMap (fun p => [2 * p, 2 * p + 1])).map Int.ofNat ++ [2 * e])) = (tell1 (s : Int) lo (Int.ofNat p) ++ tellL (s : Int) (Int.ofNat p) (ps.map Int.ofNat ++ [e])).map dbl3
    rw [ih, List.map_append]
    have hz : tell1 ((2 * s : Nat) : Int) (Int.ofNat (2 * p)) (Int.ofNat (2 * p + 1)) = [] := by
      unfold tell1
      refine if_neg ?_
      show ¬ ((2 * s : Nat) : Int) + 1 < ((2 * p + 1 : Nat) : Int) - ((2 * p : Nat) : Int)
      push_cast; omega
    rw [hz, List.nil_append]
    congr 1
    unfold tell1
    by_cases h : (s : Int) + 1 < (p : Int) - lo
    · rw [if_pos (show (s : Int) + 1 < Int.ofNat p - lo from h), if_pos (show ((2 * s : Nat) : Int) + 1 < Int.ofNat (2 * p) - (2 * lo + 1) from by show ((2 * s : Nat) : Int) + 1 < ((2 * p : Nat) : Int) - (2 * lo + 1); push_cast; omega)]
      simp only [List.map_cons, List.map_nil, dbl3]
      congr 1
      refine Prod.ext ?_ (Prod.ext ?_ ?_)
      · show 2 * lo + 1 + 1 = 2 * (lo + 1); omega
      · show ((2 * p : Nat) : Int) + ((2 * s : Nat) : Int) = 2 * ((p : Int) + s); push_cast; omega
      · show ((2 * s : Nat) : Int) = 2 * (s : Int); push_cast; rfl
    · rw [if_neg (show ¬ (s : Int) + 1 < Int.ofNat p - lo from h), if_neg (show ¬ ((2 * s : Nat) : Int) + 1 < Int.ofNat (2 * p) - (2 * lo + 1) from by show ¬ ((2 * s : Nat) : Int) + 1 < ((2 * p : Nat) : Int) - (2 * lo + 1); push_cast; omega)]; rfl
theorem even_step (P R : Nat → Bool) (hP : ∀ p, P (2 * p) = R p ∧ P (2 * p + 1) = !R p) (n s : Nat) (hs : s ≤ n) : stepL P (2 * n) (2 * s) = (stepL R n s).map dbl3 := by
  unfold stepL places
  rw [show 2 * n - 2 * s = 2 * (n - s) by omega, double_marks P R hP s (n - s)]
  have := double_tell s ((n - s : Nat) : Int) ((List.range (n - s)).filter (fun p => R p != R (p + s))) (-1)
  rw [show (2 * (-1 : Int) + 1) = -1 by decide] at this
  rw [← this]
  congr 2
/-- no long stretch at an odd step -/
theorem odd_window (P : Nat → Bool) (N s q : Nat) (hP : ∀ p, 2 * p + 1 < N → P (2 * p + 1) = !P (2 * p)) (hs : s % 2 = 1) (hq : q + s + s < N) (h : ∀ j, j ≤ s → P (q + j) = P (q + j + s)) : False := by
  have alt : ∀ j, j < s → P (q + j + 1) = !P (q + j) := by
    intro j hj
    by_cases he : (q + j) % 2 = 0
    · have := hP ((q + j) / 2) (by omega)
      rw [show 2 * ((q + j) / 2) = q + j by omega] at this
      exact this
    · have h1 := h j (by omega)
      have h2 := h (j + 1) (by omega)
      have h3 := hP ((q + j + s) / 2) (by omega)
      rw [show 2 * ((q + j + s) / 2) = q + j + s by omega] at h3
      rw [show q + (j + 1) = q + j + 1 by omega, show q + j + 1 + s = q + j + s + 1 by omega] at h2
      rw [h2, h3, h1]
  have run : ∀ j, j ≤ s → P (q + j) = (P q != (j % 2 == 1)) := by
    intro j
    induction j with
    | zero => intro _; simp
    | succ j ih =>
      intro hj
      have h1 := alt j (by omega)
      rw [show q + (j + 1) = q + j + 1 by omega, h1, ih (by omega)]
      rcases Nat.mod_two_eq_zero_or_one j with h2 | h2
      · rw [h2, show (j + 1) % 2 = 1 by omega]; cases P q <;> rfl
      · rw [h2, show (j + 1) % 2 = 0 by omega]; cases P q <;> rfl
  have h1 := run s (Nat.le_refl _)
  have h2 := h 0 (Nat.zero_le _)
  rw [Nat.add_zero] at h2
  rw [hs, ← h2] at h1
  cases hq : P q <;> rw [hq] at h1 <;> cases h1
theorem odd_tell (P : Nat → Bool) (N s : Nat) (hP : ∀ p, 2 * p + 1 < N → P (2 * p + 1) = !P (2 * p)) (hs : s % 2 = 1) (hN : s < N) : ∀ (k p : Nat) (lo : Int), p + k = N - s → lo < (p : Int) → (p : Int) - lo ≤ (s : Int) + 1 → -1 ≤ lo →
    (∀ q : Nat, lo < (q : Int) → q < p → P q = P (q + s)) → tellL (s : Int) lo (((List.range' p k).filter (fun p => P p != P (p + s))).map Int.ofNat ++ [((N - s : Nat) : Int)]) = []
  | 0, p, lo, hk, hlo, hle, _, _ => by
    show tell1 (s : Int) lo ((N - s : Nat) : Int) ++ [] = []
    rw [List.append_nil]
    unfold tell1
    refine if_neg ?_
    omega
  | k + 1, p, lo, hk, hlo, hle, hm, hl => by
    rw [List.range'_succ, List.filter_cons]
    by_cases hu : (P p != P (p + s)) = true
    · rw [if_pos hu]
      have ih := odd_tell P N s hP hs hN k (p + 1) (p : Int) (by omega) (by omega) (by omega) (by omega) (fun q h1 h2 => by omega)
      rw [List.map_cons, List.cons_append]
      show tell1 (s : Int) lo (Int.ofNat p) ++ tellL (s : Int) (Int.ofNat p) (List.map Int.ofNat ((List.range' (p + 1) k).filter (fun p => P p != P (p + s))) ++ [((N - s : Nat) : Int)]) = []
      rw [show (Int.ofNat p) = (p : Int) from rfl, ih, List.append_nil]
      unfold tell1
      refine if_neg ?_
      omega
    · rw [if_neg hu]
      have hpe : P p = P (p + s) := by
        cases h1 : P p <;> cases h2 : P (p + s) <;> first | rfl | (rw [h1, h2] at hu; exact absurd rfl hu)
      have hl' : ∀ q : Nat, lo < (q : Int) → q < p + 1 → P q = P (q + s) := by
        intro q h1 h2
        by_cases e : q = p
        · rw [e]; exact hpe
        · exact hl q h1 (by omega)
      refine odd_tell P N s hP hs hN k (p + 1) lo (by omega) (by omega) ?_ hm hl'
      by_cases hc : ((p + 1 : Nat) : Int) - lo ≤ (s : Int) + 1
      · exact hc
      · exfalso
        have hq : ∃ q : Nat, (q : Int) = lo + 1 := ⟨(lo + 1).toNat, by omega⟩
        obtain ⟨q, hq⟩ := hq
        exact odd_window P N s q hP hs (by omega) fun j hj => hl' (q + j) (by push_cast; omega) (by omega)
theorem odd_step (P : Nat → Bool) (N s : Nat) (hP : ∀ p, 2 * p + 1 < N → P (2 * p + 1) = !P (2 * p)) (hs : s % 2 = 1) (hN : s < N) : stepL P N s = [] := by
  unfold stepL places
  rw [List.range_eq_range']
  exact odd_tell P N s hP hs hN (N - s) 0 (-1) (by omega) (by decide) (by omega) (by decide) fun q h1 h2 => by omega
end

section
open PySem PySem.W PyProof.Rows PySem.Calls PySem.Spec
set_option maxRecDepth 100000

/-! the numbers of the rows -/
noncomputable def numN (B : Nat → Bool) (n : Nat) : Nat := (((List.range n).filter B).map (fun p => 2 ^ p)).sum
theorem numN_succ (B : Nat → Bool) (n : Nat) : numN B (n + 1) = 2 ^ n * (if B n then 1 else 0) + numN B n := by
  unfold numN
  rw [List.range_succ, List.filter_append, List.map_append, List.sum_append]
  cases h : B n <;> simp [h, Nat.add_comm]
theorem numN_lt (B : Nat → Bool) : ∀ n, numN B n < 2 ^ n
  | 0 => by simp [numN]
  | n + 1 => by
    have ih := numN_lt B n
    rw [numN_succ, Nat.pow_succ]
    split <;> omega
theorem numN_bit (B : Nat → Bool) : ∀ n p, (numN B n).testBit p = (decide (p < n) && B p)
  | 0, p => by simp [numN]
  | n + 1, p => by
    rw [numN_succ, Nat.testBit_two_pow_mul_add _ (numN_lt B n), numN_bit B n]
    by_cases h : p < n
    · rw [if_pos h]; simp [h, Nat.lt_succ_of_lt h]
    · rw [if_neg h]
      by_cases e : p = n
      · subst e
        cases B p <;> simp
      · have h2 : ¬ p < n + 1 := by omega
        obtain ⟨k, hk⟩ : ∃ k, p - n = k + 1 := ⟨p - n - 1, by omega⟩
        rw [hk]
        cases B n <;> simp [h2, Nat.testBit_succ]
theorem sum_cast : ∀ l : List Nat, (l.map (fun p : Nat => (2 : Int) ^ p)).sum = (((l.map (fun p => 2 ^ p)).sum : Nat) : Int)
  | [] => rfl
  | p :: l => by
    rw [List.map_cons, List.sum_cons, sum_cast l, List.map_cons, List.sum_cons]
    push_cast; rfl
noncomputable def bitB (ns : List Int) (p : Nat) : Bool := ns.getD p 0 == 1
theorem numP_nat (ns : List Int) : numP ns = ((numN (bitB ns) ns.length : Nat) : Int) := sum_cast _
theorem fdiv_pow (a s : Nat) : ((a : Nat) : Int).fdiv (2 ^ s) = ((a / 2 ^ s : Nat) : Int) := by
  rw [Int.fdiv_eq_ediv_of_nonneg _ (Int.le_of_lt (two_pow_pos' s))]
  push_cast; rfl
theorem fmod_pow (a s : Nat) : ((a : Nat) : Int).fmod (2 ^ s) = ((a % 2 ^ s : Nat) : Int) := by
  rw [Int.fmod_eq_emod_of_nonneg _ (Int.le_of_lt (two_pow_pos' s))]
  push_cast; rfl
theorem or_xor (n : Nat) : ∀ a b : Nat, a ≤ n → (a ^^^ b) + (a &&& b) = a ||| b := by
  induction n using Nat.strongRecOn with
  | ind n ih =>
    intro a b ha
    by_cases h0 : a = 0
    · subst h0; simp
    have h := ih (a / 2) (by omega) (a / 2) (b / 2) (Nat.le_refl _)
    have hx : (a ^^^ b) / 2 = a / 2 ^^^ b / 2 := Nat.xor_div_two
    have hn : (a &&& b) / 2 = a / 2 &&& b / 2 := Nat.and_div_two
    have ho : (a ||| b) / 2 = a / 2 ||| b / 2 := Nat.or_div_two
    have mx : (a ^^^ b) % 2 = (a % 2) ^^^ (b % 2) := Nat.xor_mod_two_pow (n := 1)
    have mn : (a &&& b) % 2 = (a % 2) &&& (b % 2) := Nat.and_mod_two_pow (n := 1)
    have mo : (a ||| b) % 2 = (a % 2) ||| (b % 2) := Nat.or_mod_two_pow (n := 1)
    have key : ((a % 2) ^^^ (b % 2)) + ((a % 2) &&& (b % 2)) = (a % 2) ||| (b % 2) := by
      rcases Nat.mod_two_eq_zero_or_one a with h1 | h1 <;> rcases Nat.mod_two_eq_zero_or_one b with h2 | h2 <;> rw [h1, h2] <;> rfl
    rw [← mx, ← mn, ← mo] at key
    rw [← hx, ← hn, ← ho] at h
    omega
theorem not_not (x : Int) : Builtin.bitNot (Builtin.bitNot x) = x := by unfold Builtin.bitNot; omega
theorem or_nat (a b : Nat) : Builtin.bitOr (a : Int) (b : Int) = ((a ||| b : Nat) : Int) := by
  have h1 : decide ((0 : Int) ≤ Builtin.bitNot (a : Int)) = false := decide_eq_false (by unfold Builtin.bitNot; omega)
  have h2 : decide ((0 : Int) ≤ Builtin.bitNot (b : Int)) = false := decide_eq_false (by unfold Builtin.bitNot; omega)
  unfold Builtin.bitOr Builtin.bitAnd
  rw [h1, h2]
  show Builtin.bitNot (Builtin.bitNot _) = _
  rw [not_not, not_not, not_not, Int.toNat_natCast, Int.toNat_natCast]
theorem and_nat (a b : Nat) : Builtin.bitAnd (a : Int) (b : Int) = ((a &&& b : Nat) : Int) := by
  have h1 : decide ((0 : Int) ≤ (a : Int)) = true := decide_eq_true (Int.natCast_nonneg _)
  have h2 : decide ((0 : Int) ≤ (b : Int)) = true := decide_eq_true (Int.natCast_nonneg _)
  unfold Builtin.bitAnd
  rw [h1, h2]
  show ((Int.toNat (a : Int) &&& Int.toNat (b : Int) : Nat) : Int) = _
  rw [Int.toNat_natCast, Int.toNat_natCast]
theorem xor_nat (a b : Nat) : Builtin.bitXor (a : Int) (b : Int) = ((a ^^^ b : Nat) : Int) := by
  unfold Builtin.bitXor
  rw [or_nat, and_nat]
  have := or_xor a a b (Nat.le_refl _)
  omega
noncomputable def unN (ns : List Int) (i : Nat) : Nat := (numN (bitB ns) ns.length ^^^ (numN (bitB ns) ns.length / 2 ^ (i + 1))) % 2 ^ (ns.length - (i + 1))
theorem unP_nat (ns : List Int) (i : Nat) : unP ns i = ((unN ns i : Nat) : Int) := by
  unfold unP unN
  rw [show (1 + (i : Int)).toNat = i + 1 by omega, show ((ns.length : Int) - (1 + (i : Int))).toNat = ns.length - (i + 1) by omega, numP_nat, fdiv_pow, xor_nat, fmod_pow]
theorem unN_bit (ns : List Int) (i p : Nat) : (unN ns i).testBit p = (decide (p < ns.length - (i + 1)) && (bitB ns p != bitB ns (p + (i + 1)))) := by
  unfold unN
  rw [Nat.testBit_mod_two_pow, Nat.testBit_xor, Nat.testBit_div_two_pow, numN_bit, numN_bit]
  by_cases h : p < ns.length - (i + 1)
  · have h1 : p < ns.length := by omega
    have h2 : p + (i + 1) < ns.length := by omega
    simp [h, h1, h2]
  · simp [h]
theorem bitOf_nat (y j : Nat) : bitOf ((y : Nat) : Int) j = y.testBit j := by
  unfold bitOf
  rw [Nat.testBit_eq_decide_div_mod_eq]
  have e : ((y : Nat) : Int) / 2 ^ j % 2 = ((y / 2 ^ j % 2 : Nat) : Int) := by push_cast; rfl
  rw [e]
  rcases Nat.mod_two_eq_zero_or_one (y / 2 ^ j) with h | h <;> rw [h] <;> rfl
theorem shift_bit (u lift j : Nat) : bitOf (((u : Nat) : Int) * 2 ^ ((lift : Int)).toNat) j = (decide (lift ≤ j) && u.testBit (j - lift)) := by
  have e : ((u : Nat) : Int) * 2 ^ ((lift : Int)).toNat = ((u <<< lift : Nat) : Int) := by
    rw [Nat.shiftLeft_eq, Int.toNat_natCast]; push_cast; rfl
  rw [e, bitOf_nat, Nat.testBit_shiftLeft]
/-- the places told, moved up -/
theorem filter_shift (c : Nat → Bool) (lift m k : Nat) (hk : lift + m ≤ k) (hc : ∀ q, m ≤ q → c q = false) : (List.range k).filter (fun j => decide (lift ≤ j) && c (j - lift)) = ((List.range m).filter c).map (· + lift) := by
  obtain ⟨r, rfl⟩ : ∃ r, k = lift + (m + r) := ⟨k - lift - m, by omega⟩
  rw [List.range_add, List.filter_append]
  have h1 : (List.range lift).filter (fun j => decide (lift ≤ j) && c (j - lift)) = [] := by
    refine List.filter_eq_nil_iff.mpr fun j hj => ?_
    have : ¬ lift ≤ j := by have := List.mem_range.mp hj; omega
    simp [this]
  rw [h1, List.nil_append, List.filter_map, List.range_add, List.filter_append, List.map_append]
  have h2 : ((List.range r).map (m + ·)).filter ((fun j => decide (lift ≤ j) && c (j - lift)) ∘ (lift + ·)) = [] := by
    refine List.filter_eq_nil_iff.mpr fun j hj => ?_
    obtain ⟨q, _, rfl⟩ := List.mem_map.mp hj
    have : c (m + q) = false := hc _ (by omega)
    simp [this]
  rw [h2, List.map_nil, List.append_nil]
  have h3 : (List.range m).filter ((fun j => decide (lift ≤ j) && c (j - lift)) ∘ (lift + ·)) = (List.range m).filter c := by
    refine List.filter_congr fun j _ => ?_
    simp
  rw [h3]
  exact List.map_congr_left fun j _ => Nat.add_comm _ _
theorem llZ_places {ns : List Int} {lift i : Nat} (hn : ns.length ≤ 24) (hl : lift ≤ 8) : llZ ns lift i = (places (bitB ns) ns.length (i + 1)).map Int.ofNat := by
  unfold llZ
  rw [unP_nat]
  have e : (List.range 32).filter (bitOf (((unN ns i : Nat) : Int) * 2 ^ ((lift : Int)).toNat)) = (List.range 32).filter (fun j => decide (lift ≤ j) && (unN ns i).testBit (j - lift)) :=
    List.filter_congr fun j _ => shift_bit _ _ _
  rw [e, filter_shift (unN ns i).testBit lift (ns.length - (i + 1)) 32 (by omega) (fun q hq => by rw [unN_bit]; simp; intro h; omega), List.map_map]
  have e2 : (List.range (ns.length - (i + 1))).filter (unN ns i).testBit = places (bitB ns) ns.length (i + 1) := by
    refine List.filter_congr fun q hq => ?_
    rw [unN_bit]
    simp [List.mem_range.mp hq]
  rw [e2]
  refine List.map_congr_left fun q _ => ?_
  show ((q + lift : Nat) : Int) - (lift : Int) = (q : Int)
  push_cast; omega
theorem llF_step {ns : List Int} {lift i : Nat} (hn : ns.length ≤ 24) (hl : lift ≤ 8) (hi : i + 1 ≤ ns.length) : llF ns lift i = stepL (bitB ns) ns.length (i + 1) := by
  unfold llF llMk stepL
  rw [llZ_places hn hl, List.append_assoc]
  show tellP _ (-1 :: _) = _
  rw [tellP_eq, show (1 + (i : Int)) = ((i + 1 : Nat) : Int) by push_cast; omega, show (ns.length : Int) - ((i + 1 : Nat) : Int) = ((ns.length - (i + 1) : Nat) : Int) by omega]
  rfl
theorem stepL_congr {B C : Nat → Bool} {n s : Nat} (h : ∀ p, p < n → B p = C p) : stepL B n s = stepL C n s := by
  unfold stepL
  have : places B n s = places C n s := by
    refine List.filter_congr fun p hp => ?_
    have := List.mem_range.mp hp
    rw [h p (by omega), h (p + s) (by omega)]
  rw [this]
noncomputable def rowL (a : Int) : List Int := (List.range 12).map (rowOf a)
theorem rowL_len (a : Int) : (rowL a).length = 12 := by simp [rowL]
theorem pageOf_len (a : Int) : (pageOf a).length = 24 := by
  unfold pageOf
  simp only [List.length_flatMap, List.map_map]
  rfl
theorem rowL_bit (a : Int) (p : Nat) (hp : p < 12) : bitB (rowL a) p = bitOf a p := by
  unfold bitB rowL
  rw [List.getD_eq_getElem?_getD, List.getElem?_map, List.getElem?_range hp]
  show (rowOf a p == 1) = _
  unfold rowOf
  cases bitOf a p <;> rfl
noncomputable def twice (R : Nat → Bool) (q : Nat) : Bool := if q % 2 = 0 then R (q / 2) else !R (q / 2)
theorem twice_is (R : Nat → Bool) (p : Nat) : twice R (2 * p) = R p ∧ twice R (2 * p + 1) = !R p := by
  unfold twice
  constructor
  · rw [if_pos (by omega), show 2 * p / 2 = p by omega]
  · rw [if_neg (by omega), show (2 * p + 1) / 2 = p by omega]
theorem page_get (a : Int) : ∀ (l : List Nat) (p : Nat), (h : p < l.length) → ((l.map (rowOf a)).flatMap (fun x => [x, 1 - x]))[2 * p]? = some (rowOf a l[p]) ∧ ((l.map (rowOf a)).flatMap (fun x => [x, 1 - x]))[2 * p + 1]? = some (1 - rowOf a l[p])
  | [], p, h => absurd h (Nat.not_lt_zero _)
  | x :: l, 0, _ => by simp
  | x :: l, p + 1, h => by
    have ih := page_get a l p (by simpa using h)
    rw [show 2 * (p + 1) = 2 * p + 2 by omega]
    simpa using ih
theorem page_bit (a : Int) (q : Nat) (hq : q < 24) : bitB (pageOf a) q = twice (bitOf a) q := by
  have key := page_get a (List.range 12) (q / 2) (by simp; omega)
  rw [List.getElem_range] at key
  have hr : (rowOf a (q / 2) == 1) = bitOf a (q / 2) ∧ (1 - rowOf a (q / 2) == 1) = !bitOf a (q / 2) := by
    unfold rowOf
    cases bitOf a (q / 2) <;> exact ⟨rfl, rfl⟩
  unfold bitB twice pageOf
  rw [List.getD_eq_getElem?_getD]
  by_cases h : q % 2 = 0
  · rw [if_pos h]
    have e : q = 2 * (q / 2) := by omega
    rw [← e] at key
    rw [key.1]; exact hr.1
  · rw [if_neg h]
    have e : q = 2 * (q / 2) + 1 := by omega
    rw [← e] at key
    rw [key.2]; exact hr.2
/-- what repeats more than twice is doubled just so -/
theorem long_double (a : Int) {lift : Nat} (hl : lift ≤ 8) : llP (pageOf a) lift = (llP (rowL a) lift).map dbl3 := by
  unfold llP
  rw [pageOf_len, rowL_len]
  have hp : ∀ i, i + 1 ≤ 24 → llF (pageOf a) lift i = stepL (twice (bitOf a)) 24 (i + 1) := fun i hi => by
    rw [llF_step (by rw [pageOf_len]; omega) hl (by rw [pageOf_len]; exact hi), pageOf_len]
    exact stepL_congr fun p h => page_bit a p h
  have hr : ∀ i, i + 1 ≤ 12 → llF (rowL a) lift i = stepL (bitOf a) 12 (i + 1) := fun i hi => by
    rw [llF_step (by rw [rowL_len]; omega) hl (by rw [rowL_len]; exact hi), rowL_len]
    exact stepL_congr fun p h => rowL_bit a p h
  have ho : ∀ s, s % 2 = 1 → s < 24 → stepL (twice (bitOf a)) 24 s = [] := fun s h1 h2 =>
    odd_step _ 24 s (fun p _ => by rw [(twice_is _ p).1, (twice_is _ p).2]) h1 h2
  have he : ∀ s, s ≤ 12 → stepL (twice (bitOf a)) 24 (2 * s) = (stepL (bitOf a) 12 s).map dbl3 := fun s h => even_step _ _ (twice_is _) 12 s h
  show (List.range 11).flatMap _ = ((List.range 5).flatMap _).map dbl3
  rw [show List.range 11 = [0, 1, 2, 3, 4, 5, 6, 7, 8, 9, 10] by decide, show List.range 5 = [0, 1, 2, 3, 4] by decide]
  simp only [List.flatMap_cons, List.flatMap_nil, List.map_append, List.append_nil, List.map_nil]
  rw [hp 0 (by omega), hp 1 (by omega), hp 2 (by omega), hp 3 (by omega), hp 4 (by omega), hp 5 (by omega), hp 6 (by omega), hp 7 (by omega), hp 8 (by omega), hp 9 (by omega), hp 10 (by omega),
    hr 0 (by omega), hr 1 (by omega), hr 2 (by omega), hr 3 (by omega), hr 4 (by omega)]
  rw [ho 1 rfl (by omega), ho 3 rfl (by omega), ho 5 rfl (by omega), ho 7 rfl (by omega), ho 9 rfl (by omega), ho 11 rfl (by omega)]
  rw [he 1 (by omega), he 2 (by omega), he 3 (by omega), he 4 (by omega), he 5 (by omega)]
  simp only [List.nil_append, List.append_nil]
end

section
open PySem PySem.W PyProof.Rows PySem.Calls PySem.Spec
set_option maxRecDepth 100000

/-! the page's own number, its words, and the last two questions -/
theorem bit_low {y m : Int} {j : Nat} (hj : j < 32) : bitOf (y + m * 2 ^ 32) j = bitOf y j := by
  unfold bitOf
  have e : m * 2 ^ 32 = (m * 2 ^ (31 - j) * 2) * 2 ^ j := by
    rw [Int.mul_assoc, Int.mul_assoc]
    congr 1
    rw [← Int.pow_succ', ← Int.pow_add]
    congr 1; omega
  rw [e, Int.add_mul_ediv_right _ _ (Int.ne_of_gt (two_pow_pos' j))]
  generalize y / 2 ^ j = q
  generalize m * 2 ^ (31 - j) = r
  have : (q + r * 2) % 2 = q % 2 := by omega
  rw [this]
theorem words_of {N lift : Nat} {c : Nat → Bool} {m : Int} (hN0 : 0 < N) (hN : N < 2 ^ 24) (hl : lift ≤ 8) (hc : ∀ p, N.testBit p = (decide (p < 24) && c p)) :
    pfAll (((N : Nat) : Int) * 2 ^ ((lift : Int)).toNat + m * 2 ^ 32) = ((List.range 24).filter c).map (fun p => flagName (p + lift)) ++ (if m = 0 then [] else [baseText "0x" 16 (m * 2 ^ 32)]) := by
  have hp : (2 : Nat) ^ lift ≤ 2 ^ 8 := Nat.pow_le_pow_right (by decide) hl
  have hp0 : 0 < (2 : Nat) ^ lift := Nat.two_pow_pos lift
  have hy : ((N : Nat) : Int) * 2 ^ ((lift : Int)).toNat = ((N * 2 ^ lift : Nat) : Int) := by rw [Int.toNat_natCast]; push_cast; rfl
  have hyN : N * 2 ^ lift < 2 ^ 32 := by
    have : N * 2 ^ lift ≤ N * 2 ^ 8 := Nat.mul_le_mul_left _ hp
    omega
  have hy0 : 0 < N * 2 ^ lift := Nat.mul_pos hN0 hp0
  have names : pfNames (((N : Nat) : Int) * 2 ^ ((lift : Int)).toNat + m * 2 ^ 32) 32 = ((List.range 24).filter c).map (fun p => flagName (p + lift)) := by
    unfold pfNames
    have e : (List.range 32).filter (bitOf (((N : Nat) : Int) * 2 ^ ((lift : Int)).toNat + m * 2 ^ 32)) = (List.range 32).filter (fun j => decide (lift ≤ j) && N.testBit (j - lift)) :=
      List.filter_congr fun j hj => by rw [bit_low (List.mem_range.mp hj), shift_bit]
    rw [e, filter_shift N.testBit lift 24 32 (by omega) (fun q hq => by rw [hc]; simp; intro h; omega), List.map_map]
    have e2 : (List.range 24).filter N.testBit = (List.range 24).filter c := List.filter_congr fun q hq => by rw [hc]; simp [List.mem_range.mp hq]
    rw [e2]
    rfl
  have rest : pfRest (((N : Nat) : Int) * 2 ^ ((lift : Int)).toNat + m * 2 ^ 32) 32 = m * 2 ^ 32 := by
    unfold pfRest
    have h32 : ((2 : Int) ^ 32) = ((2 ^ 32 : Nat) : Int) := by decide
    have hlt : ((N * 2 ^ lift : Nat) : Int) < 2 ^ 32 := by rw [h32]; exact_mod_cast hyN
    rw [hy, Int.add_mul_ediv_right _ _ (by decide), Int.ediv_eq_zero_of_lt (Int.natCast_nonneg _) hlt, Int.zero_add]
  unfold pfAll
  rw [names, rest]
  by_cases hm : m = 0
  · subst hm
    rw [if_pos, if_pos rfl, List.append_nil]
    rw [hy]
    omega
  · rw [if_neg, if_neg hm]
    rw [hy]
    rintro ⟨h1, h2⟩
    omega
/-- the page's number -/
noncomputable def numPg (ns : List Int) : Int := (((List.range 24).filter (fun i => ns.getD i 0 != 0)).map (fun i => (2 : Int) ^ i)).sum
theorem row_01 (a : Int) (i : Nat) : rowOf a i = 0 ∨ rowOf a i = 1 := by
  unfold rowOf; split <;> simp
theorem page_01 (a : Int) : ∀ x ∈ pageOf a, x = 0 ∨ x = 1 := by
  intro x hx
  unfold pageOf at hx
  obtain ⟨l, hl, hx⟩ := List.mem_flatMap.mp hx
  obtain ⟨i, _, rfl⟩ := List.mem_map.mp hl
  have := row_01 a i
  simp only [List.mem_cons, List.not_mem_nil, or_false] at hx
  omega
theorem page_ne (a : Int) (i : Nat) : ((pageOf a).getD i 0 != 0) = bitB (pageOf a) i := by
  unfold bitB
  rw [List.getD_eq_getElem?_getD]
  cases h : (pageOf a)[i]? with
  | none => rfl
  | some x =>
    rcases page_01 a x (List.mem_of_getElem? h) with rfl | rfl <;> rfl
theorem numPg_nat (a : Int) : numPg (pageOf a) = ((numN (bitB (pageOf a)) 24 : Nat) : Int) := by
  unfold numPg numN
  rw [sum_cast]
  congr 3
  exact List.filter_congr fun i _ => page_ne a i
theorem num_pos (a : Int) : 0 < numN (bitB (pageOf a)) 24 := by
  refine Nat.pos_of_ne_zero fun h => ?_
  have h0 := numN_bit (bitB (pageOf a)) 24 0
  have h1 := numN_bit (bitB (pageOf a)) 24 1
  rw [h, page_bit a 0 (by omega)] at h0
  rw [h, page_bit a 1 (by omega)] at h1
  have t0 := (twice_is (bitOf a) 0).1
  have t1 := (twice_is (bitOf a) 0).2
  simp only [Nat.mul_zero, Nat.zero_add] at t0 t1
  rw [t0] at h0
  rw [t1] at h1
  cases hb : bitOf a 0 <;> rw [hb] at h0 h1 <;> simp at h0 h1
theorem page_words (a : Int) {lift : Nat} {m : Int} (hl : lift ≤ 8) : pfAll (numPg (pageOf a) * 2 ^ ((lift : Int)).toNat + m * 2 ^ 32) =
    ((List.range 24).filter (fun i => (pageOf a).getD i 0 != 0)).map (fun p => flagName (p + lift)) ++ (if m = 0 then [] else [baseText "0x" 16 (m * 2 ^ 32)]) := by
  rw [numPg_nat]
  refine words_of (num_pos a) (numN_lt _ 24) hl fun p => ?_
  rw [numN_bit, page_ne]
theorem num_bounds (a : Int) {lift : Nat} {m : Int} (hl : lift ≤ 8) (hm0 : -2 ≤ m) (hm1 : m ≤ 3) : -(2 ^ 40) < numPg (pageOf a) * 2 ^ ((lift : Int)).toNat + m * 2 ^ 32 ∧ numPg (pageOf a) * 2 ^ ((lift : Int)).toNat + m * 2 ^ 32 < 2 ^ 40 := by
  rw [numPg_nat]
  have hN := numN_lt (bitB (pageOf a)) 24
  generalize numN (bitB (pageOf a)) 24 = N at hN
  have hp : (2 : Nat) ^ lift ≤ 2 ^ 8 := Nat.pow_le_pow_right (by decide) hl
  have hy : ((N : Nat) : Int) * 2 ^ ((lift : Int)).toNat = ((N * 2 ^ lift : Nat) : Int) := by rw [Int.toNat_natCast]; push_cast; rfl
  have hyN : N * 2 ^ lift < 2 ^ 32 := by
    have : N * 2 ^ lift ≤ N * 2 ^ 8 := Nat.mul_le_mul_left _ hp
    omega
  rw [hy]
  omega
/-! the last question -/
theorem end_mod (tot : Int) (i : Nat) : endOf tot i = endOf (tot.fmod 3) i := by
  unfold endOf
  have e1 : (tot.fmod 3).fmod 3 = tot.fmod 3 := by
    rw [Int.fmod_eq_emod_of_nonneg _ (by decide), Int.fmod_eq_emod_of_nonneg _ (by decide)]; omega
  have e2 : ((i : Int) + tot.fmod 3).fmod 3 = ((i : Int) + tot).fmod 3 := by
    rw [Int.fmod_eq_emod_of_nonneg _ (by decide), Int.fmod_eq_emod_of_nonneg _ (by decide), Int.fmod_eq_emod_of_nonneg _ (by decide)]; omega
  rw [e1, e2]
noncomputable def lastIn (tot : Int) : Str := Str.ofString "." ++ Txt.join (Str.ofString "\n!.\n") ((List.range 12).map (endOf tot)) ++ Str.ofString "\r"
noncomputable def lastOut : Str := Str.ofString ".." ++ Txt.join (Str.ofString "\r\n!.\r\n") (List.replicate 12 (Str.ofString "\r\n..")) ++ Str.ofString "\r\n"
theorem last_all : ∀ h, h < 3 → quoteA (lastIn ((h : Nat) : Int)).cps.toList = lastOut.cps.toList := by decide +kernel
theorem last_is (tot : Int) : Re.quoteS (lastIn tot) = lastOut := by
  have h0 : 0 ≤ tot.fmod 3 := Int.fmod_nonneg_of_pos _ (by decide)
  have h3 : tot.fmod 3 < 3 := Int.fmod_lt_of_pos _ (by decide)
  have e : lastIn tot = lastIn (tot.fmod 3) := by
    unfold lastIn
    congr 3
    exact List.map_congr_left fun i _ => end_mod tot i
  refine str_list ?_
  show Re.quoteL (lastIn tot).cps.toList = _
  rw [e, quote_eq]
  have key := last_all (tot.fmod 3).toNat (by omega)
  rw [Int.toNat_of_nonneg h0] at key
  exact key
/-- what is sent, by its names -/
theorem sent_names {a : Int} {sg snt : Str} (h : snt.cps.toList = (sentP a sg).flatten) : snt = Txt.join (Str.ofString "") ((List.range 12).map (fun i => if rowOf a i = 0 then Str.ofString "\r\n.." else signName sg)) := by
  refine str_list ?_
  rw [h, join_flat, List.map_map]
  congr 1
  refine List.map_congr_left fun i _ => ?_
  show (if rowOf a i = 0 then endY else (signName sg).cps.toList) = (if rowOf a i = 0 then Str.ofString "\r\n.." else signName sg).cps.toList
  split
  · decide +kernel
  · rfl
end

section
open PySem PySem.W PyProof.Rows PySem.Calls PySem.Spec
set_option maxRecDepth 100000
set_option maxHeartbeats 8000000

set_option hygiene false in
local macro_rules | `(tactic| k_qdec) => `(tactic| decide +kernel)
set_option hygiene false in
local macro_rules | `(tactic| k_ne) => `(tactic| (refine neN ?_; (try dsimp only); with_reducible (first
  | (refine' klt_ne ?kh ?km; (case kh => assumption); (case km => k_mem))
  | (refine' klt_ne' ?kh ?km; (case kh => assumption); (case km => k_mem))
  | (refine' off_ne ?kh ?km; (case kh => assumption); (case km => k_mem))
  | (refine' off_ne' ?kh ?km; (case kh => assumption); (case km => k_mem))
  | (refine Nat.ne_of_lt ?_; (repeat (first | exact Nat.lt_succ_self _ | refine Nat.lt_succ_of_lt ?_)); done)
  | (refine Nat.ne_of_gt ?_; (repeat (first | exact Nat.lt_succ_self _ | refine Nat.lt_succ_of_lt ?_)); done))))
set_option hygiene false in
local macro_rules | `(tactic| k_lt $h:ident) => `(tactic| (have kltF := allLt_of $h; replace $h := kltF; dsimp only [AllLt] at $h:ident))
set_option hygiene false in
local macro_rules | `(tactic| cells_open $x:ident) => `(tactic| (obtain ⟨_,_,_,_,_,_,_,_,_,_, he, _,_,_,_,_,_,_,_,_,_⟩ := Mine.kc_ten $x; subst he))
noncomputable def EnJ (H : Addr) (cells : List (Addr × Obj)) (i : Nat) (_ : Str → Option Value) (nx : List (Addr × Obj)) : Prop :=
  ∃ (us : List Value) (ns : List Int) (k : Nat), nx = (H, W.listOf us.toArray k) :: cells ∧ IntsAre us ns ∧ ns.length = 2 ∧ ∀ j, 0 ≤ ns.getD j 0 ∧ ns.getD j 0 ≤ 1133 + 1000000 * (i : Int)
noncomputable abbrev enJN {h₀ h : Heap} {L H : Addr} {oH : Obj} {cells : List (Addr × Obj)} (_ : News h₀ L h ((H, oH) :: cells)) := EnJ H cells
set_option hygiene false in
local macro_rules | `(tactic| walk_at "eval ListComp") => `(tactic| (k_here; (with_reducible show wpAny _ _ (eval (Expr.ListComp _ [⟨Expr.Name _ _, _, [], _⟩] _ _) _) _ _ _); k_dflt (refine LCg.ListComp_U (F₀ := by k_asm) (by with_unfolding_all rfl) (by decide) (by rfl) (by decide) (by rfl) ?_)))
set_option hygiene false in
local macro_rules | `(tactic| walk_at "subscriptTail") => `(tactic| (k_here; k_dflt (refine' pick3 ?N ?hm ?h3 ?h0 ?h1 ?_ ?hs; (case N => k_asm); (case hm => k_memK); (case h3 => exact .cons _ _ (.cons _ _ (.cons _ _ .nil))); (case h0 => (first | exact Int.fmod_nonneg_of_pos _ (by decide) | exact Int.fmod_lt_of_pos _ (by decide))); (case h1 => (first | exact Int.fmod_nonneg_of_pos _ (by decide) | exact Int.fmod_lt_of_pos _ (by decide))); (case hs => with_unfolding_all rfl); k_whole); intro pkx pkt hpk; (try (have hpkl := sgs_len hpk))))
set_option hygiene false in
local macro_rules | `(tactic| walk_at "binaryOp Add int int") => `(tactic| ((with_reducible show wpAny _ _ (binaryOp _ (Value.int (Int.fdiv _ 4096) _) (Value.int _ _)) _ _ _); refine add_as ?_; intro tot tt htot))
set_option hygiene false in
local macro_rules | `(tactic| walk_at "subscriptTail Name BinOp str int") => `(tactic| (refine item_as (by omega) (by omega) (by omega) ?_; intro sg st hsg hsl))
theorem se_as {w : World} {mean : ExcName → Option Value} {mg mb : Str → Option Value} {news : List (Addr × Obj)} {x : Str} {hand : Int} {tkx tkh : Tok} (hx : x.length ≤ 40) (h0 : 0 ≤ hand) (h3 : hand < 3)
    {dp un : Nat} {gd : Option (List Code)} {cn : Str} {cs : Scope} {a : Addr} {ccd : Value} {cl : List (Str × Addr)} {outer : List Env} {A₀ : Around} {base h₀ : Heap} {L : Addr} {m : Str → Option Value} {s : Shared} {Q E : Value → Shared → Prop}
    (k1 : Below A₀ base outer h₀) (k2 : Fr h₀ L s.heap m) (k3 : (hd.heap_39 w.params).In h₀) (k4 : News h₀ L s.heap news) (k5 : Top hd.view_39 LO mean mg mb h₀) (kK : cs.kind = .function) (kd : dp + 2 < recursionLimit) (ku : un + 16 < cLine)
    (h : ∀ z t h' tk', z = Re.quoteS (escH hand x) → Fr h₀ L h' m → News h₀ L h' news → Q (.str z t) { s with heap := h', toks := tk' }) :
      wpAny (model PySem.Challenge.rw_we0007_01.row.prog w) (ktrTop dp un gd cn cs L a ccd cl outer) (call (.ref 98) [.int hand tkh, .str x tkx]) Q E s :=
  se_claim w mean mg mb news x hand tkx tkh hx h0 h3 dp un gd cn cs a ccd cl outer A₀ base h₀ L m s Q E k1 k2 k3 k4 k5 kK kd ku fun t h' tk' F' N' => h _ t h' tk' rfl F' N'
set_option hygiene false in
local macro_rules | `(tactic| walk_at "call ref") => `(tactic| (k_here; (first
  | ((k_dflt (refine' tb_claim _ _ _ _ _ _ _ _ _ _ _ _ _ _ _ _ _ _ _ _ _ _ ?k1 ?k2 ?k3 ?k4 ?k5 ?kK ?kd ?ku ?_)); (case k2 => k_asm); (case k3 => k_asm); (case k4 => k_asm); (case k1 => exact below_caller _); (case k5 => exact lo_top (by assumption)); (case kK => first | exact rfl | assumption); (case kd => ktr_room); (case ku => ktr_units); intro tl tv tkk th ttk hT hTl FT NT; k_lt hTl; (try dsimp only); (try k_fold))
  | (refine wp_halt' ?_))))
set_option hygiene false in
local macro_rules | `(tactic| walk_at "call builtin:str.join") => `(tactic| (k_here; k_dflt (refine' join_as ?N ?hm ?hi ?hf ?hx ?_; (case N => k_asm); (case hm => k_memK); (case hi => assumption); (case hf => assumption); (case hx => decide +kernel)); intro jz jt jk hjz hjl; (try dsimp only)))
set_option hygiene false in
local macro_rules | `(tactic| walk_at $wk:str) => if ["call type:enumerate", "UnrEndW", "CompSrc", "CompSrcT", "compareOp NotEq ref ref", "compareOp NotEq str str", "compareOp Eq str str"].contains wk.getString then `(tactic| (first | refine srcT_halt ?_ | refine src_halt ?_ | refine unr_halt ?_ | refine wp_halt' ?_)) else Lean.Macro.throwUnsupported
set_option hygiene false in
local macro_rules | `(tactic| walk_at "eval ListComp") => `(tactic| (k_here; (with_reducible show wpAny _ _ (eval (Expr.ListComp _ [⟨Expr.Tuple _ _ _, _, [], _⟩] _ _) _) _ _ _); k_dflt (refine Mine.ListComp_G (by k_asm) (by with_unfolding_all rfl) (by decide) (by rfl) (by decide) ?_ (by intro _; rfl))))
set_option hygiene false in
local macro_rules | `(tactic| walk_at "eval ListComp") => `(tactic| (k_here; (with_reducible show wpAny _ _ (eval (Expr.ListComp _ [⟨_, _, [], _⟩, _] _ _) _) _ _ _); k_dflt (refine Mine.ListComp_G (by k_asm) (by with_unfolding_all rfl) (by decide) (by rfl) (by decide) ?_ (by intro _; rfl))))
set_option hygiene false in
local macro_rules | `(tactic| walk_at "subscriptTail") => `(tactic| (k_here; k_dflt (refine' pick5 ?N ?hm ?hi ?h0 ?h1 ?_ ?hs; (case N => k_asm); (case hm => k_memK); (case hi => exact .cons _ _ (.cons _ _ (.cons _ _ (.cons _ _ (.cons _ _ .nil))))); (case h0 => (first | exact Int.fmod_nonneg_of_pos _ (by decide) | exact Int.fmod_lt_of_pos _ (by decide))); (case h1 => (first | exact Int.fmod_nonneg_of_pos _ (by decide) | exact Int.fmod_lt_of_pos _ (by decide))); (case hs => with_unfolding_all rfl); k_whole); intro mor mot hm0 hm1))
set_option hygiene false in
local macro_rules | `(tactic| walk_at "binaryOp Add ref ref") => `(tactic| (k_here; k_dflt (refine' add_strs ?F ?N ?ma ?mb ?hi ?hj ?hz ?_; (case F => k_asm); (case N => k_asm); (case ma => k_memK); (case mb => k_memK); (case hi => assumption); (case hj => assumption); (case hz => assumption)); intro wD wvs wh hwW wF wN wlt; k_lt wlt))
set_option hygiene false in
local macro_rules | `(tactic| walk_at "eval IfExp") => `(tactic| ((with_reducible show wpAny _ _ (eval (Expr.IfExp _ (Expr.List _ _) (Expr.List _ _) _) _) _ _ _); (refine wp_halt' ?_)))
set_option hygiene false in
local macro_rules | `(tactic| walk_at "eval Subscript") => `(tactic| ((with_reducible show wpAny _ _ (eval (Expr.Subscript (Expr.Dict _ _ _) _ _) _) _ _ _); (refine wp_halt' ?_)))
set_option hygiene false in
local macro_rules | `(tactic| walk_at "call builtin:hex") => `(tactic| (with_reducible refine P.hex_of_int ?_ (by assumption)))
set_option hygiene false in
local macro_rules | `(tactic| walk_at "eval Dict") => `(tactic| (k_here; k_dflt (refine' kdn_str ?q ?F ?N ?b ?a ?l ?e ?n ?_; (case q => rfl); (case F => k_asm); (case N => k_asm); (case b => exact Top.nolimit (by k_asm)); (case a => rfl); (case l => rfl); (case e => exact List.cons_ne_nil _ _); (case n => exact Nat.le_of_ble_eq_true rfl)); intro d' h' o' F' N' l1 lo' hd'; (try k_lt l1)))
theorem sign_look {hand : Int} {sg : Str} (h : SignOk hand sg) : PySem.Spec.lookup (.str sg) [(.str (Str.ofString "&"), .str (Str.ofString "&amp;")), (.str (Str.ofString "<"), .str (Str.ofString "&lt;")), (.str (Str.ofString ">"), .str (Str.ofString "&gt;")), (.str (Str.ofString "\""), .str (Str.ofString "&quot;")), (.str (Str.ofString "\r"), .str (Str.ofString "&#xD;"))] = some (.str (signName sg)) := by
  rcases h.isL with rfl | rfl | rfl | rfl | rfl <;> rfl
set_option hygiene false in
local macro_rules | `(tactic| walk_at "subscriptTail") => `(tactic| (k_here; (with_reducible show wpAny _ _ (subscriptTail _ _ (Value.ref _) (Value.str _ _)) _ _ _); k_dflt (refine' item_dict ?T ?hl ?_ ?hs; (case T => k_tabat); (case hl => exact sign_look (by assumption)); (case hs => with_unfolding_all rfl); k_whole); intro sv hsv))
theorem en_step {ns : List Int} {i : Nat} {j d : Int} (hl : ns.length = 2) (hb : ∀ j, 0 ≤ ns.getD j 0 ∧ ns.getD j 0 ≤ 1133 + 1000000 * (i : Int)) (h0 : 0 ≤ j) (h1 : j < 2) :
    ∀ q, 0 ≤ (ns.set j.toNat (ns.getD j.toNat 0 + d.fmod (10 ^ Int.toNat 6))).getD q 0 ∧ (ns.set j.toNat (ns.getD j.toNat 0 + d.fmod (10 ^ Int.toNat 6))).getD q 0 ≤ 1133 + 1000000 * ((i + 1 : Nat) : Int) := by
  have e : (10 : Int) ^ Int.toNat 6 = 1000000 := by decide
  rw [e]
  have hd0 : 0 ≤ d.fmod 1000000 := Int.fmod_nonneg_of_pos _ (by decide)
  have hd1 : d.fmod 1000000 < 1000000 := Int.fmod_lt_of_pos _ (by decide)
  match ns, hl with
  | [a, b], _ =>
    have ha := hb 0
    have hbb := hb 1
    simp only [List.getD_cons_zero, List.getD_cons_succ] at ha hbb
    have hj : j = 0 ∨ j = 1 := by omega
    rcases hj with rfl | rfl
    · intro q
      match q with
      | 0 => show 0 ≤ a + d.fmod 1000000 ∧ a + d.fmod 1000000 ≤ _; omega
      | 1 => show 0 ≤ b ∧ b ≤ _; omega
      | q + 2 => show (0 : Int) ≤ 0 ∧ (0 : Int) ≤ _; omega
    · intro q
      match q with
      | 0 => show 0 ≤ a ∧ a ≤ _; omega
      | 1 => show 0 ≤ b + d.fmod 1000000 ∧ b + d.fmod 1000000 ≤ _; omega
      | q + 2 => show (0 : Int) ≤ 0 ∧ (0 : Int) ≤ _; omega
theorem en_end {h₀ h : Heap} {L H I : Addr} {oE oI oH : Obj} {cells : List (Addr × Obj)} {us : List Value} {ns : List Int} {k i tk : Nat} {m : Str → Option Value} {s : Shared}
    (hI : ∀ p ∈ (H, oH) :: cells, p.1 < I) (F : Fr h₀ L h m) (N : News h₀ L h ((I + 1, oE) :: (I, oI) :: (H, W.listOf us.toArray k) :: cells)) (hu : IntsAre us ns) (hl : ns.length = 2)
    (hb : ∀ j, 0 ≤ ns.getD j 0 ∧ ns.getD j 0 ≤ 1133 + 1000000 * ((i + 1 : Nat) : Int)) :
    Halt (UnrEndW h₀ L s [(I + 1, oE), (I, oI)] (fun m' n' => EnJ H cells (i + 1) m' n') { s with heap := h, toks := tk }) := by
  refine ⟨⟨h, tk, m, (H, W.listOf us.toArray k) :: cells, rfl, F, N, ?_, ⟨us, ns, k, rfl, hu, hl, hb⟩⟩⟩
  intro p hp q hq
  have hp' : @LT.lt Nat _ p.1 I := by
    rcases List.mem_cons.mp hp with rfl | hp
    · exact hI (H, oH) (.head _)
    · exact hI p (.tail _ hp)
  simp only [List.mem_cons, List.not_mem_nil, or_false] at hq
  rcases hq with rfl | rfl
  · exact Nat.ne_of_lt (Nat.lt_succ_of_lt hp')
  · exact Nat.ne_of_lt hp'
theorem en_start : ∀ j, 0 ≤ [1133, (0 : Int)].getD j 0 ∧ [1133, (0 : Int)].getD j 0 ≤ 1133 + 1000000 * ((0 : Nat) : Int) := by
  intro j
  match j with
  | 0 => decide
  | 1 => decide
  | j + 2 => exact ⟨Int.le_refl _, by show (0 : Int) ≤ _; decide⟩
theorem row_el {a : Int} {i : Nat} {t : Tok} (ha : 0 ≤ a) : Stop (∃ t', Value.int ((([a, b].getD (Int.toNat 0) 0).fdiv (2 ^ (0 + (i : Int)).toNat)).fmod 2) t = Value.int (rowOf a i) t') := by
  refine ⟨⟨t, congrArg (Value.int · t) ?_⟩⟩
  have e : (0 + (i : Int)).toNat = i := by omega
  show ((a.fdiv (2 ^ (0 + (i : Int)).toNat)).fmod 2) = _
  rw [e, Int.fdiv_eq_ediv_of_nonneg _ (Int.le_of_lt (two_pow_pos' i)), Int.fmod_eq_emod_of_nonneg _ (by decide)]
  unfold rowOf bitOf
  have := emod2 (a / 2 ^ i)
  rcases this with h | h <;> rw [h] <;> rfl
theorem end_yes {x : Str} {t : Tok} {tot : Int} {i : Nat} (h : x = pk3 (Str.ofString "\n.") (Str.ofString "\r.") (Str.ofString "\r\n.") ((0 + (i : Int) + tot).fmod 3)) (h2 : tot.fmod 3 < 2) : Stop (∃ t', Value.str x t = Value.str (endOf tot i) t') := by
  refine ⟨⟨t, congrArg (Value.str · t) ?_⟩⟩
  rw [h, Int.zero_add]
  exact (if_pos h2).symm
theorem end_no {t : Tok} {tot : Int} {i : Nat} (h2 : ¬ tot.fmod 3 < 2) : Stop (∃ t', Value.str (Str.ofString "\n.") t = Value.str (endOf tot i) t') :=
  ⟨⟨t, congrArg (Value.str · t) (if_neg h2).symm⟩⟩
theorem row_getD {a : Int} {i : Nat} (hi : i < 12) : (List.map (rowOf a) (List.range 12)).getD (0 + (i : Int)).toNat 0 = rowOf a i := by
  have e : (0 + (i : Int)).toNat = i := by omega
  rw [e, List.getD_eq_getElem?_getD, List.getElem?_map, List.getElem?_range hi]; rfl
theorem end_getD {tot : Int} {i : Nat} (hi : i < 12) : (List.map (endOf tot) (List.range 12)).getD (0 + (i : Int)).toNat Str.empty = endOf tot i := by
  have e : (0 + (i : Int)).toNat = i := by omega
  rw [e, List.getD_eq_getElem?_getD, List.getElem?_map, List.getElem?_range hi]; rfl
theorem piece_yes {a tot : Int} {i : Nat} {sg : Str} {t : Tok} (hi : i < 12) (h : (List.map (rowOf a) (List.range 12)).getD (0 + (i : Int)).toNat 0 ≠ 0) : Stop (∃ t', Value.str sg t = Value.str (if rowOf a i = 0 then endOf tot i else sg) t') := by
  rw [row_getD hi] at h
  exact ⟨⟨t, congrArg (Value.str · t) (if_neg h).symm⟩⟩
theorem piece_no {a tot : Int} {i : Nat} {sg : Str} {t : Tok} (hi : i < 12) (h : (List.map (rowOf a) (List.range 12)).getD (0 + (i : Int)).toNat 0 = 0) : Stop (∃ t', Value.str ((List.map (endOf tot) (List.range 12)).getD (0 + (i : Int)).toNat Str.empty) t = Value.str (if rowOf a i = 0 then endOf tot i else sg) t') := by
  rw [end_getD hi]
  rw [row_getD hi] at h
  exact ⟨⟨t, congrArg (Value.str · t) (if_pos h).symm⟩⟩
theorem page_len (a : Int) : (pageOf a).length ≤ 24 := by
  unfold pageOf
  rw [List.flatMap_map, List.length_flatMap]
  simp
  decide
theorem lift_le (x : Int) : x.fmod 9 ≤ 8 := Int.le_of_lt_add_one (Int.fmod_lt_of_pos _ (by decide))
theorem idx0 (i : Nat) : (0 + (i : Int)).toNat = i := by omega
theorem pgn_yes {a : Int} {i : Nat} {t : Tok} (h : (pageOf a).getD (0 + (i : Int)).toNat 0 ≠ 0) : Stop (((pageOf a).getD i 0 != 0) = true ∧ ∃ t', Value.int ((2 : Int) ^ (0 + (i : Int)).toNat) t = Value.int (2 ^ i) t') := by
  rw [idx0] at h ⊢
  exact ⟨bne_iff_ne.mpr h, t, rfl⟩
theorem pgn_no {a : Int} {i : Nat} (h : (pageOf a).getD (0 + (i : Int)).toNat 0 = 0) : Stop (((pageOf a).getD i 0 != 0) = false) := by
  rw [idx0] at h
  exact ⟨by rw [h]; rfl⟩
theorem num_abs (a : Int) {Z : List Int} (h : Z.sum = numPg (pageOf a)) : Z.sum.natAbs < 2 ^ 64 := by
  rw [h, numPg_nat]
  have := numN_lt (bitB (pageOf a)) 24
  omega
theorem wd_get {i : Nat} {z : Int} (hi : i < 24) (h0 : 0 ≤ z) (h8 : z ≤ 8) : (List.map flagName (List.range 32)).getD (0 + (i : Int) + z).toNat Str.empty = flagName (i + z.toNat) := by
  have e : (0 + (i : Int) + z).toNat = i + z.toNat := by omega
  rw [e, List.getD_eq_getElem?_getD, List.getElem?_map, List.getElem?_range (by omega)]; rfl
theorem wd_yes {a z : Int} {i : Nat} {t : Tok} (hi : i < 24) (h0 : 0 ≤ z) (h8 : z ≤ 8) (h : (pageOf a).getD (0 + (i : Int)).toNat 0 ≠ 0) : Stop (((pageOf a).getD i 0 != 0) = true ∧ ∃ t', Value.str ((List.map flagName (List.range 32)).getD (0 + (i : Int) + z).toNat Str.empty) t = Value.str (flagName (i + z.toNat)) t') := by
  rw [idx0] at h
  exact ⟨bne_iff_ne.mpr h, t, by rw [wd_get hi h0 h8]⟩
theorem num_b {a z mor : Int} {Z : List Int} (hZ : Z.sum = numPg (pageOf a)) (h0 : 0 ≤ z) (h8 : z ≤ 8) (m0 : -2 ≤ mor) (m1 : mor ≤ 3) : -(2 ^ 40) < Z.sum * 2 ^ z.toNat + mor * 2 ^ Int.toNat 32 ∧ Z.sum * 2 ^ z.toNat + mor * 2 ^ Int.toNat 32 < 2 ^ 40 := by
  have := num_bounds a (lift := z.toNat) (m := mor) (by omega) m0 m1
  rw [hZ]
  exact this
theorem num_w {a z mor : Int} {Z : List Int} {W1 V : List Str} (hZ : Z.sum = numPg (pageOf a)) (h0 : 0 ≤ z) (h8 : z ≤ 8) (h1 : W1 = ((List.range 24).filter (fun i => (pageOf a).getD i 0 != 0)).map (fun i => flagName (i + z.toNat))) (h2 : V = if mor = 0 then [] else [baseText "0x" 16 (mor * 2 ^ Int.toNat 32)]) :
    pfAll (Z.sum * 2 ^ z.toNat + mor * 2 ^ Int.toNat 32) = W1 ++ V := by
  have := page_words a (lift := z.toNat) (m := mor) (by omega)
  rw [hZ, h1, h2]
  exact this
theorem w1_len {a z : Int} {W1 : List Str} (h8 : z ≤ 8) (h1 : W1 = ((List.range 24).filter (fun i => (pageOf a).getD i 0 != 0)).map (fun i => flagName (i + z.toNat))) : W1.length ≤ 24 ∧ ∀ y ∈ W1, y.length ≤ 67 := by
  subst h1
  refine ⟨?_, fun y hy => ?_⟩
  · rw [List.length_map]; exact Nat.le_trans (List.length_filter_le _ _) (by simp)
  · obtain ⟨i, hi, rfl⟩ := List.mem_map.mp hy
    have := List.mem_range.mp (List.mem_filter.mp hi).1
    exact flagName_len (by omega)
theorem v_len {mor : Int} {V : List Str} (m0 : -2 ≤ mor) (m1 : mor ≤ 3) (h2 : V = if mor = 0 then [] else [baseText "0x" 16 (mor * 2 ^ Int.toNat 32)]) : V.length ≤ 1 ∧ ∀ y ∈ V, y.length ≤ 67 := by
  subst h2
  split
  · exact ⟨by simp, fun y hy => nomatch hy⟩
  · refine ⟨by simp, fun y hy => ?_⟩
    rw [List.mem_singleton.mp hy]
    have e : (2 : Int) ^ Int.toNat 32 = 4294967296 := by decide
    rw [e]
    exact hex_len64 ⟨by omega, by omega⟩
theorem row_at {a : Int} {rv : List Value} (h : IntsAre rv (rowL a)) {i : Nat} {v : Value} (hv : rv.toArray[i]? = some v) : ∃ t, v = .int (rowOf a i) t := by
  obtain ⟨n, t, rfl, hn⟩ := h.at i v (by simpa using hv)
  refine ⟨t, ?_⟩
  have hi : i < 12 := by
    have := (List.getElem?_eq_some_iff.mp hn).1
    rwa [rowL_len] at this
  unfold rowL at hn
  rw [List.getElem?_map, List.getElem?_range hi] at hn
  rw [← Option.some.inj hn]
theorem nm_len {a : Int} {hand : Int} {sg : Str} (h : SignOk hand sg) : JFit ((List.range 12).map (fun i => if rowOf a i = 0 then Str.ofString "\r\n.." else signName sg)) := by
  refine jfit (fun y hy => ?_) (by simp)
  obtain ⟨i, _, rfl⟩ := List.mem_map.mp hy
  split
  · decide +kernel
  · have e : (signName sg).length = (signName sg).cps.toList.length := by simp [Str.length]
    rw [e]
    rcases name_is h with e | e | e | e | e <;> rw [e] <;> decide
theorem ends_fit (tot : Int) : JFit ((List.range 12).map (endOf tot)) := by
  refine jfit (fun y hy => ?_) (by simp)
  obtain ⟨i, _, rfl⟩ := List.mem_map.mp hy
  exact Nat.le_trans (end_len tot i) (by decide)
theorem in_len {z : Str} (h : z.length ≤ 16400) : (Str.ofString "." ++ z ++ Str.ofString "\r").length ≤ 200000 := by
  rw [Str.length_append, Str.length_append]
  have h1 : (Str.ofString ".").length = 1 := by decide +kernel
  have h2 : (Str.ofString "\r").length = 1 := by decide +kernel
  omega
theorem hex_fits {mor : Int} (m0 : -2 ≤ mor) (m1 : mor ≤ 3) : (baseText "0x" 16 (mor * 2 ^ Int.toNat 32)).length ≤ sizeLine := by
  have e : (2 : Int) ^ Int.toNat 32 = 4294967296 := by decide
  rw [e]
  have := hex_len64 (v := mor * 4294967296) ⟨by omega, by omega⟩
  rw [sizeLine_eq]; omega
theorem nm_yes {a : Int} {i : Nat} {x y : Str} {u : Tok} (h : rowOf a i ≠ 0) : Stop (∃ t, Value.str x u = Value.str (if rowOf a i = 0 then y else x) t) := ⟨⟨u, congrArg (Value.str · u) (if_neg h).symm⟩⟩
theorem nm_no {a : Int} {i : Nat} {x y : Str} {u : Tok} (h : rowOf a i = 0) : Stop (∃ t, Value.str y u = Value.str (if rowOf a i = 0 then y else x) t) := ⟨⟨u, congrArg (Value.str · u) (if_pos h).symm⟩⟩
theorem rw_try : PySem.Challenge.rw_we0007_01.Holds := by
  exact hd (by
    k_go0
    all_goals try k_fold
    k_steps
    rename IntsAre _ _ => hI
    rename Heap.IsList _ _ _ => hLl
    rename Fr _ _ _ _ => F2
    rename News _ _ _ _ => N2
    refine ⟨?_⟩
    k_here
    refine' enum_base ?hh ?F ?N ?hl (enJN N2) ?h0 ?turn ?fin
    case hh => exact rfl
    case F => exact F2
    case N => exact N2
    case hl => exact hLl
    case h0 => exact ⟨_, [1133, 0], 0, rfl, .cons _ _ (.cons _ _ .nil), rfl, en_start⟩
    case turn =>
      rintro I i x m₁ n₁ T t h tk oE oI hIlt hx ⟨us, ns, k, rfl, hus, hnl, hnb⟩ hoff hT F3 N3
      obtain ⟨d, td, rfl, hd⟩ := hI.at i x hx
      have hIlt0 := hIlt
      k_lt hIlt
      have hp0 : 0 ≤ (i : Int).fmod 2 := Int.fmod_nonneg_of_pos _ (by decide)
      have hp1 : (i : Int).fmod 2 < 2 := Int.fmod_lt_of_pos _ (by decide)
      try k_fold
      k_steps
      rename Fr _ _ _ _ => F8
      rename News _ _ _ _ => N8
      rename IntsAre (List.set _ _ _) _ => hu8
      refine en_end hIlt0 F8 N8 hu8 ?_ (en_step hnl hnb hp0 hp1)
      rw [List.length_set]; exact hnl
    case fin =>
      rintro m₁ n₁ h tk ⟨us, ns, k, rfl, hus, hnl, hnb⟩ F3 N3
      obtain ⟨a, b, rfl⟩ : ∃ a b, ns = [a, b] := by
        match ns, hnl with
        | [a, b], _ => exact ⟨a, b, rfl⟩
      have ha := hnb 0
      have hb := hnb 1
      rw [hI.length] at ha hb
      simp only [List.getD_cons_zero, List.getD_cons_succ] at ha hb
      clear hnb
      have ha0 : 0 ≤ a := ha.1
      have ha1 : a < 2 ^ 27 := by omega
      have hb0 : 0 ≤ b := hb.1
      have hb1 : b < 2 ^ 27 := by omega
      clear ha hb
      try dsimp only
      try k_fold
      k_steps
      refine ⟨LCg.CompSrc.range (n := 12) rfl (by k_asm) (by k_asm) (by assumption) (by decide) (by rfl) (by exact Nat.le_of_ble_eq_true rfl) ?_⟩
      intro g
      refine rest_each (fun i v => ∃ t, v = .int (rowOf a i) t) ?_ ?_
      · rintro i v I oI C oC D m₂ ys h tk E' hi ⟨t, rfl⟩ hC hx F1 N1 off ne
        try k_fold
        k_steps
        exact row_el ha0
      · intro rv hrl hrR
        have hrv := ints_of hrl hrR
        unfold LCg.FinE
        intro D h1 tk1 F1 N1 o1
        try dsimp only
        try k_fold
        replace o1 := OffW.mk o1
        k_steps
        refine ⟨LCg.CompSrc.range (n := 12) rfl (by k_asm) (by k_asm) (by assumption) (by decide) (by rfl) (by exact Nat.le_of_ble_eq_true rfl) ?_⟩
        intro g
        refine rest_each (fun i v => ∃ t, v = .str (endOf tot i) t) ?_ ?_
        · rintro i v I oI C oC D m₂ ys h tk E' hi ⟨t, rfl⟩ hC hx F1 N1 off ne
          try k_fold
          k_steps
          · exact end_yes hpk (by assumption)
          · exact end_no (by assumption)
        · intro ev hel heR
          have hev := strs_of hel heR
          unfold LCg.FinE
          intro D h1 tk1 F1 N1 o1
          try dsimp only
          try k_fold
          replace o1 := OffW.mk o1
          k_steps
          refine ⟨LCg.CompSrc.range (n := 12) rfl (by k_asm) (by k_asm) (by assumption) (by decide) (by rfl) (by exact Nat.le_of_ble_eq_true rfl) ?_⟩
          intro g
          refine rest_each (fun i v => ∃ t, v = .str (if rowOf a i = 0 then endOf tot i else sg) t) ?_ ?_
          · rintro i v I oI C oC D m₂ ys h tk E' hi ⟨t, rfl⟩ hC hx F1 N1 off ne
            try k_fold
            k_steps
            · exact piece_yes hi (by assumption)
            · exact piece_no hi (by assumption)
          · intro pv hpl hpR
            have hpv := strs_of hpl hpR
            unfold LCg.FinE
            intro D h1 tk1 F1 N1 o1
            try dsimp only
            try k_fold
            replace o1 := OffW.mk o1
            k_steps
            have hjf : JFit (pieces a tot sg) := jfit (fun y hy => Nat.le_trans ((pieces_len hsl).1 y hy) (by decide)) (by rw [(pieces_len hsl).2]; decide)
            change StrsAre pv (pieces a tot sg) at hpv
            k_steps
            have hz40 : jz.length ≤ 40 := by
              have h1 := join_len (Str.ofString "") (pieces a tot sg)
              have h2 := sum_le 3 _ (pieces_len (a := a) (tot := tot) hsl).1
              rw [(pieces_len hsl).2] at h1 h2
              rw [hjz]
              have h3 : (Str.ofString "").length = 0 := by decide +kernel
              omega
            refine ⟨?_⟩
            k_here
            refine' se_as hz40 ?h0 ?h3 ?k1 ?k2 ?k3 ?k4 ?k5 ?kK ?kd ?ku ?_
            case h0 => (first | exact Int.fmod_nonneg_of_pos _ (by decide) | exact Int.fmod_lt_of_pos _ (by decide))
            case h3 => (first | exact Int.fmod_nonneg_of_pos _ (by decide) | exact Int.fmod_lt_of_pos _ (by decide))
            case k2 => k_asm
            case k3 => k_asm
            case k4 => k_asm
            case k1 => exact below_caller _
            case k5 => exact lo_top (by assumption)
            case kK => first | exact rfl | assumption
            case kd => ktr_room
            case ku => ktr_units
            intro snt snk sh stk hsnt FS NS
            have hok : SignOk (tot.fmod 3) sg := sign_ok (Int.fmod_nonneg_of_pos _ (by decide)) (Int.fmod_lt_of_pos _ (by decide)) hpk hsg hsl
            obtain ⟨hs200, hsrd, hspg, hslist⟩ := sent_read (a := a) (snt := snt) hok (by rw [hsnt, hjz])
            try dsimp only
            try k_fold
            k_steps
            refine ⟨?_⟩
            k_here
            refine' rd_as hs200 hsrd hspg ?k1 ?k2 ?k3 ?k4 ?k5 ?kK ?kd ?ku ?_
            case k2 => k_asm
            case k3 => k_asm
            case k4 => k_asm
            case k1 => exact below_caller _
            case k5 => exact lo_top (by assumption)
            case kK => first | exact rfl | assumption
            case kd => ktr_room
            case ku => ktr_units
            intro pl pgv pgk pgh pgtk hP hpl FP NP
            k_lt hpl
            try dsimp only
            try k_fold
            k_steps
            refine ⟨?_⟩
            k_here
            refine' ll_as hP hT (page_len a) ?z0 ?z8 ?m1 ?m2 ?k1 ?k2 ?k3 ?k4 ?k5 ?kK ?kd ?ku ?_
            case k2 => k_asm
            case k3 => k_asm
            case k4 => k_asm
            case k1 => exact below_caller _
            case k5 => exact lo_top (by assumption)
            case kK => first | exact rfl | assumption
            case kd => ktr_room
            case ku => ktr_units
            case m1 => k_memK
            case m2 => k_memK
            case z0 => exact Int.fmod_nonneg_of_pos _ (by decide)
            case z8 => exact lift_le _
            intro l1 lv1 lt1 lk1 lh1 ltk1 hd1 hl1 hn1 F1 N1
            simp only [List.cons_append, List.nil_append] at N1
            k_lt hl1
            try dsimp only
            try k_fold
            k_steps
            change IntsAre rv (rowL a) at hrv
            refine ⟨?_⟩
            k_here
            refine' ll_as hrv hT (by rw [rowL_len]; decide) ?z0 ?z8 ?m1 ?m2 ?k1 ?k2 ?k3 ?k4 ?k5 ?kK ?kd ?ku ?_
            case k2 => k_asm
            case k3 => k_asm
            case k4 => k_asm
            case k1 => exact below_caller _
            case k5 => exact lo_top (by assumption)
            case kK => first | exact rfl | assumption
            case kd => ktr_room
            case ku => ktr_units
            case m1 => k_memK
            case m2 => k_memK
            case z0 => exact Int.fmod_nonneg_of_pos _ (by decide)
            case z8 => exact lift_le _
            intro l2 lv2 lt2 lk2 lh2 ltk2 hd2 hl2 hn2 F4 N4
            simp only [List.cons_append, List.nil_append] at N4
            k_lt hl2
            refine ⟨l2, lv2.toArray, lk2, _, rfl, F4, N4, .head _, ?_⟩
            intro I C D h tk m' X c hi
            refine loop3 (ax := l2) (its := lv2.toArray) (k := lk2) rfl (by rfl) (by rfl) (by rfl) (by rfl) (by decide) (by decide) (by decide) (dat_len hd2 (by rw [rowL_len]; decide)) (lpJN c (llP (rowL a) ((tot.fdiv 9).fmod 9).toNat)) ?_ ?_ X c hi ⟨[], by rw [List.append_nil], rfl, .nil⟩ ?_
            · rintro i ys nw ⟨own, rfl, hyl, _⟩
              exact ⟨List.mem_append_left _ (.head _), hyl⟩
            · rintro i v ys nw hv ⟨own, rfl, hyl, hdo⟩
              obtain ⟨p, t, n, ta, tb, tc, hp, rfl, hm⟩ := trip_at hd2 (i := i) (by simpa using hv)
              refine ⟨t, { cls := .type "tuple", data := .seq #[.int p.1 ta, .int p.2.1 tb, .int p.2.2 tc] n }, _, _, _, n, rfl, ?_, rfl, rfl, ?_⟩
              · simp only [List.mem_append, List.mem_cons]
                simp only [hm, or_true, true_or]
              intro oI oC m₂ h tk E' hC ha' hb' hc' F N off ne
              simp only [List.cons_append] at N off
              try k_fold
              k_steps
              rename Fr _ _ _ _ => F8
              rename News _ _ _ _ => N8
              rename (@LT.lt Nat _ I _ ∧ @LT.lt Nat _ C _ ∧ @LT.lt Nat _ D _ ∧ _) => hTT
              exact lp_end F8 N8 off hTT.1 hTT.2.1 hTT.2.2.1 hp hyl hdo
            · rintro ys nw ⟨own, rfl, hyl, hdo⟩
              rw [List.size_toArray, hd2.length, List.length_map, List.take_length] at hdo
              unfold LCg.FinE
              intro D5 h5 tk5 F5 N5 o5
              simp only [List.cons_append] at N5 o5
              try dsimp only
              try k_fold
              replace o5 := OffW.mk o5
              k_steps
              refine ⟨?_⟩
              k_here
              refine dats_ne N5 (.tail _ (.tail _ (.head _))) hd1 (fun q hq => by simp only [List.mem_cons, List.mem_append]; simp only [hq, true_or, or_true]) (.head _) hdo (fun q hq => by simp only [List.mem_cons, List.mem_append]; simp only [hq, or_true]) trip_ok trip_ok (congrArg _ (long_double a (by have := lift_le (tot.fdiv 9); omega))) (by ke_room) ?_
              have N6 := keep_news N5
              try clear N5
              try clear N4
              try clear N1
              try clear NP
              try clear NS
              try clear NT
              try clear F1
              try clear FS
              try clear FP
              try clear F4
              try clear FT
              try clear hd1
              try clear hd2
              try clear hdo
              try clear o5
              try clear hi
              try clear c
              try clear hl1
              try clear hl2
              try clear F3
              try clear N3
              try dsimp only
              try k_fold
              k_steps
              refine ⟨_, rv.toArray, _, _, rfl, F5, N6, .tail _ (.tail _ (.tail _ (.head _))), ?_⟩
              intro I C D h tk m' X c hi
              refine loop2 (its := rv.toArray) (k := rv.length) rfl (by rfl) (by rfl) (by rfl) (by decide) (by rw [List.size_toArray, hrv.length, rowL_len, sizeLine_eq]; decide) (by intro _; rfl) (dbJN c (rowL a)) ?_ ?_ X c hi ⟨[], by rw [List.append_nil], rfl, .nil⟩ ?_
              · rintro i ys nw ⟨own, rfl, hyl, _⟩
                exact ⟨List.mem_append_left _ (.tail _ (.tail _ (.tail _ (.head _)))), hyl⟩
              · rintro i v ys nw hv ⟨own, rfl, hyl, hdo⟩ oI oC m₂ h tk E' hC hy' F N off ne
                obtain ⟨el, et, rfl, hel⟩ := hrv.at i v (by simpa using hv)
                simp only [List.cons_append, List.nil_append] at N off
                try k_fold
                k_steps
                rename Fr _ _ _ _ => F8
                rename News _ _ _ _ => N8
                rename (@LT.lt Nat _ I _ ∧ @LT.lt Nat _ C _ ∧ @LT.lt Nat _ D _ ∧ _) => hTT
                exact db_end F8 N8 off hTT.1 hTT.2.1 hTT.2.2.1 hel hyl hdo
              · rintro ys nw ⟨own, rfl, hyl, hdo⟩
                rw [List.size_toArray, hrv.length, List.take_length] at hdo
                change IntsAre ys (pageOf a) at hdo
                unfold LCg.FinE
                intro D7 h7 tk7 F7 N7 o7
                simp only [List.cons_append, List.nil_append] at N7 o7
                try dsimp only
                try k_fold
                replace o7 := OffW.mk o7
                k_steps
                refine ⟨?_⟩
                k_here
                refine dats_ne N7 (.tail _ (.head _)) (ints_dat (n := []) hP) (fun q hq => nomatch hq) (.head _) (ints_dat (n := []) hdo) (fun q hq => nomatch hq) ints_ok ints_ok rfl (by ke_room) ?_
                try dsimp only
                try k_fold
                k_steps
                have hz0 : 0 ≤ (tot.fdiv 9).fmod 9 := Int.fmod_nonneg_of_pos _ (by decide)
                have hz8 := lift_le (tot.fdiv 9)
                have hpl24 := pageOf_len a
                refine ⟨LCt.CompSrcT.range (n := 24) rfl (by k_asm) (by k_asm) (by assumption) (by decide) (by rfl) (by exact Nat.le_of_ble_eq_true rfl) ?_⟩
                intro g
                refine restT_pick (fun i => (pageOf a).getD i 0 != 0) (fun i => (2 : Int) ^ i) Value.int IntsAre .nil (fun _ _ _ _ h => IntsAre.append h (.cons _ _ .nil)) ?_ ?_
                · rintro i v I oI C oC D m₂ ys h tk E' hi ⟨t, rfl⟩ hC hx F1 N1 off ne
                  try k_fold
                  k_steps
                  · exact pgn_yes (by assumption)
                  · exact pgn_no (by assumption)
                · intro zs hzs
                  unfold LCg.FinE
                  intro D8 h8 tk8 F8 N8 o8
                  have hzn : zs.length ≤ 24 := by
                    rw [hzs.length, List.length_map]
                    exact Nat.le_trans (List.length_filter_le _ _) (by simp)
                  obtain ⟨Z, hZ⟩ : ∃ Z, Z = (((List.range 24).filter (fun i => (pageOf a).getD i 0 != 0)).map (fun i => (2 : Int) ^ i)) := ⟨_, rfl⟩
                  rw [← hZ] at hzs
                  have hZs : Z.sum = numPg (pageOf a) := by rw [hZ]; rfl
                  have hnb := num_abs a hZs
                  replace o8 := OffW.mk o8
                  try dsimp only
                  try k_fold
                  k_steps
                  refine ⟨LCt.CompSrcT.range (n := 24) rfl (by k_asm) (by k_asm) (by assumption) (by decide) (by rfl) (by exact Nat.le_of_ble_eq_true rfl) ?_⟩
                  intro g
                  refine restT_pick (fun i => (pageOf a).getD i 0 != 0) (fun i => flagName (i + ((tot.fdiv 9).fmod 9).toNat)) Value.str StrsAre .nil (fun _ _ _ _ h => StrsAre.append' h (.cons _ _ .nil)) ?_ ?_
                  · rintro i v I oI C oC D m₂ ys h tk E' hi ⟨t, rfl⟩ hC hx F1 N1 off ne
                    try k_fold
                    k_steps
                    · exact wd_yes hi hz0 hz8 (by assumption)
                    · exact pgn_no (by assumption)
                  · intro ws hws
                    unfold LCg.FinE
                    intro D9 h9 tk9 F9 N9 o9
                    obtain ⟨W1, hW1⟩ : ∃ W1, W1 = (((List.range 24).filter (fun i => (pageOf a).getD i 0 != 0)).map (fun i => flagName (i + ((tot.fdiv 9).fmod 9).toNat))) := ⟨_, rfl⟩
                    rw [← hW1] at hws
                    obtain ⟨V, hV0⟩ : ∃ V, V = if mor = 0 then [] else [baseText "0x" 16 (mor * 2 ^ Int.toNat 32)] := ⟨_, rfl⟩
                    have hW1l := w1_len hz8 hW1
                    have hVl := v_len hm0 hm1 hV0
                    have hz9 : W1.length + V.length ≤ 1000 := by omega
                    have hjf2 : JFit (W1 ++ V) := jfit (fun y hy => by
                      rcases List.mem_append.mp hy with hy | hy
                      · exact Nat.le_trans (hW1l.2 y hy) (by decide)
                      · exact Nat.le_trans (hVl.2 y hy) (by decide)) (by rw [List.length_append]; omega)
                    replace o9 := OffW.mk o9
                    try dsimp only
                    try k_fold
                    k_steps
                    refine ⟨?_⟩
                    refine if_made (xs := V) (by k_asm) (by k_asm) ?_ ?_
                    · have hhex := hex_fits hm0 hm1
                      with_reducible refine IfExp_ ?_
                      k_steps
                      · rename Fr _ _ _ _ => FI
                        rename News _ _ _ _ => NI
                        rename (_ ∧ _ ∧ _ ∧ _ ∧ _ ∧ _ ∧ _ ∧ _ ∧ _) => hlI
                        refine made_list (by rw [hV0, if_neg (by assumption)]; exact .cons _ _ .nil) FI NI hlI
                      · rename Fr _ _ _ _ => FI
                        rename News _ _ _ _ => NI
                        rename (_ ∧ _ ∧ _ ∧ _ ∧ _ ∧ _ ∧ _ ∧ _ ∧ _) => hlI
                        refine made_list (by rw [hV0, if_pos (by assumption)]; exact .nil) FI NI hlI
                    · rintro v s' ⟨DV, vv, kV, hV', tkV, rfl, rfl, hV, FV, NV, hlV⟩
                      k_lt hlV
                      try dsimp only
                      try k_fold
                      k_steps
                      refine ⟨?_⟩
                      k_here
                      refine' pf_as (num_b hZs hz0 hz8 hm0 hm1) ?k1 ?k2 ?k3 ?k4 ?k5 ?kK ?kd ?ku ?_
                      case k2 => k_asm
                      case k3 => k_asm
                      case k4 => k_asm
                      case k1 => exact below_caller _
                      case k5 => exact lo_top (by assumption)
                      case kK => first | exact rfl | assumption
                      case kd => ktr_room
                      case ku => ktr_units
                      intro pft pfh pftk FQ NQ
                      try dsimp only
                      try k_fold
                      k_steps
                      refine ⟨?_⟩
                      refine str_ne_same (by unfold pfText; rw [hjz, num_w hZs hz0 hz8 hW1 hV0]) ?_
                      try clear hjz
                      try clear hjl
                      try clear hjf2
                      try clear hz9
                      try clear hVl
                      try clear hW1l
                      try clear hV0
                      try clear hW1
                      try clear hws
                      try clear hV
                      try clear hwW
                      try clear hnb
                      try clear hZs
                      try clear hzs
                      try clear hZ
                      try clear hlV
                      try clear wlt
                      try clear NV
                      try clear FV
                      try clear hm0
                      try clear hm1
                      try clear hP
                      try clear NQ0
                      try dsimp only
                      try k_fold
                      iterate 2 (all_goals (try (first | (k_unfold; (try dsimp only)) | walk1 | (dsimp only; walk1))))
                      rw [if_neg Bool.false_ne_true]
                      k_steps
                      refine ⟨?_⟩
                      have NZ := keep_two NQ
                      refine str_made (x := signName sg) FQ NZ ?_ ?_
                      · clear NQ
                        with_reducible refine Subscript_ ?_
                        k_steps
                        have hsv0 := hsv.str_inv
                        cases hsv0 with
                        | intro sn hsv1 =>
                          subst hsv1
                          rename Fr _ _ _ _ => FI
                          rename News _ _ _ _ => NI
                          refine made_str rfl FI NI ?_
                          kcf_all
                      · rintro v s' ⟨nu, nh', ntk', hv0, hs0, FM, NM⟩
                        subst hv0
                        subst hs0
                        clear NZ NQ FQ
                        try clear o7
                        try clear o8
                        try clear o9
                        try clear F9 N9
                        try clear F8 N8
                        try clear F7 N7
                        try clear F5
                        try clear N6
                        have hjf3 := nm_len (a := a) hok
                        have hjf4 := ends_fit tot
                        try dsimp only
                        try k_fold
                        k_steps
                        refine ⟨LCg.CompSrc.ledger rfl (by k_asm) (by k_asm) (by k_memK) (by rw [List.size_toArray, hrv.length, rowL_len, sizeLine_eq]; decide) ?_⟩
                        intro g
                        refine rest_each (fun i v => ∃ t, v = .str (if rowOf a i = 0 then Str.ofString "\r\n.." else signName sg) t) ?_ ?_
                        · rintro i v I oI C oC D m₂ ys h tk E' hi hv hC hx F1 N1 off ne
                          have hva := row_at hrv hv
                          cases hva with
                          | intro et hve =>
                            subst hve
                            try k_fold
                            k_steps
                            · exact nm_yes (by assumption)
                            · exact nm_no (by assumption)
                        · intro nv hnl hnR
                          have hnv := strs_of hnl hnR
                          rw [List.size_toArray, hrv.length, rowL_len] at hnv
                          unfold LCg.FinE
                          intro D6 h6 tk6 F6 N6' o6
                          replace o6 := OffW.mk o6
                          try dsimp only
                          try k_fold
                          k_steps
                          refine ⟨?_⟩
                          refine str_ne_same (by rw [hjz]; exact sent_names hslist) ?_
                          try clear hjz hjl
                          try clear hjf3
                          try clear hnv hnR hnl
                          try dsimp only
                          try k_fold
                          iterate 2 (all_goals (try (first | (k_unfold; (try dsimp only)) | walk1 | (dsimp only; walk1))))
                          rw [if_neg Bool.false_ne_true]
                          k_steps
                          refine ⟨?_⟩
                          k_here
                          refine' qd_as (in_len hjl) ?k1 ?k2 ?k3 ?k4 ?k5 ?kK ?kd ?ku ?_
                          case k2 => k_asm
                          case k3 => k_asm
                          case k4 => k_asm
                          case k1 => exact below_caller _
                          case k5 => exact lo_top (by assumption)
                          case kK => first | exact rfl | assumption
                          case kd => ktr_room
                          case ku => ktr_units
                          intro qt qh qtk FR NR
                          try dsimp only
                          try k_fold
                          k_steps
                          refine ⟨?_⟩
                          refine str_eq_same (Eq.trans (congrArg Re.quoteS (congrArg (Str.ofString "." ++ · ++ Str.ofString "\r") hjz)) (last_is tot)) ?_
                          try dsimp only
                          try k_fold
                          k_steps
                          )
end
end Mine
theorem PySem.Challenge.cw_we0007_01_holds : PySem.Challenge.rw_we0007_01.Holds :=
  Mine.rw_try
