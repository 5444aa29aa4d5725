/-
  PLAIN MATHEMATICS OF A GLOB PATTERN: no Go in sight. The star is the byte 42; every other byte stands for itself.
-/
namespace Go.Proofs.Qxb6601488a.Glob

/-- 'f' holds of some suffix of the list. -/
def anySuf (f : List UInt8 → Bool) : List UInt8 → Bool
  | [] => f []
  | c :: n => f (c :: n) || anySuf f n

/-- the pattern covers the whole name -/
def glob : List UInt8 → List UInt8 → Bool
  | [], n => n.isEmpty
  | c :: p, n => if c = 42 then anySuf (glob p) n else
      match n with
      | [] => false
      | d :: m => c == d && glob p m

theorem anySuf_iff (f : List UInt8 → Bool) (n : List UInt8) : anySuf f n = true ↔ ∃ a b, n = a ++ b ∧ f b = true := by
  induction n with
  | nil =>
    simp only [anySuf]
    constructor
    · intro h; exact ⟨[], [], rfl, h⟩
    · rintro ⟨a, b, h, hb⟩
      have : b = [] := by
        cases a <;> simp_all
      rw [this] at hb; exact hb
  | cons c n ih =>
    simp only [anySuf, Bool.or_eq_true, ih]
    constructor
    · rintro (h | ⟨a, b, rfl, hb⟩)
      · exact ⟨[], c :: n, rfl, h⟩
      · exact ⟨c :: a, b, rfl, hb⟩
    · rintro ⟨a, b, h, hb⟩
      cases a with
      | nil => left; simp at h; rw [h]; exact hb
      | cons x a =>
        right
        simp at h
        exact ⟨a, b, h.2, hb⟩

theorem glob_nil (n : List UInt8) : glob [] n = n.isEmpty := rfl

theorem glob_star (p n : List UInt8) : glob (42 :: p) n = anySuf (glob p) n := by
  simp [glob]

theorem glob_lit_nil (c : UInt8) (p : List UInt8) (h : c ≠ 42) : glob (c :: p) [] = false := by
  simp [glob, h]

theorem glob_lit_cons (c d : UInt8) (p n : List UInt8) (h : c ≠ 42) : glob (c :: p) (d :: n) = (c == d && glob p n) := by
  simp [glob, h]

theorem glob_star_cons (p n : List UInt8) (c : UInt8) : glob (42 :: p) (c :: n) = (glob p (c :: n) || glob (42 :: p) n) := by
  rw [glob_star, glob_star]; rfl

theorem glob_star_nil (p : List UInt8) : glob (42 :: p) [] = glob p [] := by
  rw [glob_star]; rfl

theorem glob_star_iff (p n : List UInt8) : glob (42 :: p) n = true ↔ ∃ a b, n = a ++ b ∧ glob p b = true := by
  rw [glob_star, anySuf_iff]

theorem glob_lit_iff (c : UInt8) (p n : List UInt8) (h : c ≠ 42) : glob (c :: p) n = true ↔ ∃ m, n = c :: m ∧ glob p m = true := by
  cases n with
  | nil => simp [glob_lit_nil c p h]
  | cons d n =>
    rw [glob_lit_cons c d p n h]
    constructor
    · intro e
      simp at e
      exact ⟨n, by rw [e.1], e.2⟩
    · rintro ⟨m, e, hm⟩
      simp at e
      simp [e.1, e.2, hm]

/-- a pattern in two parts covers a name in two parts -/
theorem glob_append (p q n : List UInt8) : glob (p ++ q) n = true ↔ ∃ a b, n = a ++ b ∧ glob p a = true ∧ glob q b = true := by
  induction p generalizing n with
  | nil =>
    constructor
    · intro h; exact ⟨[], n, rfl, rfl, h⟩
    · rintro ⟨a, b, rfl, ha, hb⟩
      rw [glob_nil] at ha
      have : a = [] := by simpa using ha
      rw [this]; exact hb
  | cons c p ih =>
    by_cases hc : c = 42
    · subst hc
      rw [List.cons_append, glob_star_iff]
      constructor
      · rintro ⟨a, b, rfl, hb⟩
        obtain ⟨x, y, rfl, hx, hy⟩ := (ih b).1 hb
        exact ⟨a ++ x, y, by simp, (glob_star_iff _ _).2 ⟨a, x, rfl, hx⟩, hy⟩
      · rintro ⟨a, b, rfl, ha, hb⟩
        obtain ⟨x, y, rfl, hy⟩ := (glob_star_iff _ _).1 ha
        exact ⟨x, y ++ b, by simp, (ih _).2 ⟨y, b, rfl, hy, hb⟩⟩
    · rw [List.cons_append, glob_lit_iff _ _ _ hc]
      constructor
      · rintro ⟨m, rfl, hm⟩
        obtain ⟨x, y, rfl, hx, hy⟩ := (ih m).1 hm
        exact ⟨c :: x, y, rfl, (glob_lit_iff _ _ _ hc).2 ⟨x, rfl, hx⟩, hy⟩
      · rintro ⟨a, b, rfl, ha, hb⟩
        obtain ⟨m, rfl, hm⟩ := (glob_lit_iff _ _ _ hc).1 ha
        exact ⟨m ++ b, rfl, (ih _).2 ⟨m, b, rfl, hm, hb⟩⟩

/-- bytes of a kind that is not the star: a name that is covered has at least as many -/
theorem glob_count (f : UInt8 → Bool) (hf : f 42 = false) (p n : List UInt8) (h : glob p n = true) : p.countP f ≤ n.countP f := by
  induction p generalizing n with
  | nil => simp
  | cons c p ih =>
    by_cases hc : c = 42
    · subst hc
      obtain ⟨a, b, rfl, hb⟩ := (glob_star_iff _ _).1 h
      have := ih b hb
      rw [List.countP_cons, hf, List.countP_append]
      simp; omega
    · obtain ⟨m, rfl, hm⟩ := (glob_lit_iff _ _ _ hc).1 h
      have := ih m hm
      rw [List.countP_cons, List.countP_cons]
      omega

/-- an equal beginning without a star is struck from both -/
theorem glob_same (l p n : List UInt8) (h : ∀ c ∈ l, c ≠ 42) : glob (l ++ p) (l ++ n) = glob p n := by
  induction l with
  | nil => rfl
  | cons c l ih =>
    rw [List.cons_append, List.cons_append, glob_lit_cons _ _ _ _ (h c (by simp))]
    simp
    exact ih (fun d hd => h d (by simp [hd]))

/-- a text as a pattern covers itself, stars and all -/
theorem glob_self (l : List UInt8) : glob l l = true := by
  induction l with
  | nil => rfl
  | cons c l ih =>
    by_cases hc : c = 42
    · subst hc
      exact (glob_star_iff _ _).2 ⟨[42], l, rfl, ih⟩
    · exact (glob_lit_iff _ _ _ hc).2 ⟨l, rfl, ih⟩

theorem glob_onlystar (n : List UInt8) : glob [42] n = true :=
  (glob_star_iff _ _).2 ⟨n, [], by simp, rfl⟩

/-! ### the table's four equations -/
theorem glob_lit_one (c : UInt8) (n : List UInt8) (h : c ≠ 42) : glob [c] n = true ↔ n = [c] := by
  rw [glob_lit_iff _ _ _ h]
  constructor
  · rintro ⟨m, rfl, hm⟩
    rw [glob_nil] at hm
    simp at hm; rw [hm]
  · rintro rfl; exact ⟨[], rfl, rfl⟩

theorem tab_star_nil (p : List UInt8) : glob (p ++ [42]) [] = glob p [] := by
  rw [Bool.eq_iff_iff, glob_append]
  constructor
  · rintro ⟨a, b, h, ha, _⟩
    have : a = [] := (List.append_eq_nil_iff.1 h.symm).1
    rw [this] at ha; exact ha
  · intro h; exact ⟨[], [], rfl, h, rfl⟩

theorem tab_lit_nil (p : List UInt8) (c : UInt8) (h : c ≠ 42) : glob (p ++ [c]) [] = false := by
  rw [Bool.eq_false_iff, Ne, glob_append]
  rintro ⟨a, b, e, _, hb⟩
  rw [glob_lit_one _ _ h] at hb
  subst hb
  simp at e

theorem tab_star (p n : List UInt8) (d : UInt8) : glob (p ++ [42]) (n ++ [d]) = (glob p (n ++ [d]) || glob (p ++ [42]) n) := by
  rw [Bool.eq_iff_iff, Bool.or_eq_true, glob_append, glob_append]
  constructor
  · rintro ⟨a, b, e, ha, _⟩
    rcases List.eq_nil_or_concat b with rfl | ⟨b', x, rfl⟩
    · left; simp at e; rw [e]; exact ha
    · right
      rw [List.concat_eq_append, ← List.append_assoc] at e
      have := List.append_inj_left' e rfl
      exact ⟨a, b', this, ha, glob_onlystar _⟩
  · rintro (h | ⟨a, b, rfl, ha, _⟩)
    · exact ⟨n ++ [d], [], by simp, h, rfl⟩
    · exact ⟨a, b ++ [d], by simp, ha, glob_onlystar _⟩

theorem tab_lit (p n : List UInt8) (c d : UInt8) (h : c ≠ 42) : glob (p ++ [c]) (n ++ [d]) = (c == d && glob p n) := by
  rw [Bool.eq_iff_iff, glob_append, Bool.and_eq_true, beq_iff_eq]
  constructor
  · rintro ⟨a, b, e, ha, hb⟩
    rw [glob_lit_one _ _ h] at hb
    subst hb
    have e1 := List.append_inj_left' e rfl
    have e2 := List.append_inj_right' e rfl
    simp at e2
    exact ⟨e2.symm, by rw [e1]; exact ha⟩
  · rintro ⟨rfl, hn⟩
    exact ⟨n, [c], rfl, hn, (glob_lit_one _ _ h).2 rfl⟩

theorem tab_zero_cons (n : List UInt8) (d : UInt8) : glob [] (n ++ [d]) = false := by
  rw [glob_nil]; simp

/-! ### the matcher that goes back to the last star -/

/-- nothing is left of the name: the rest of the pattern must be stars -/
theorem glob_empty (p : List UInt8) : glob p [] = p.all (· == 42) := by
  induction p with
  | nil => rfl
  | cons c p ih =>
    by_cases hc : c = 42
    · subst hc; rw [glob_star_nil, ih]; simp
    · rw [glob_lit_nil c p hc]; simp [hc]

/-- bytes other than the star -/
def lits (p : List UInt8) : Nat := p.countP (fun c => c != 42)

theorem lits_le (p n : List UInt8) (h : glob p n = true) : lits p ≤ n.length := by
  have h1 := glob_count (fun c => c != 42) (by decide) p n h
  have h2 : n.countP (fun c => c != 42) ≤ n.length := List.countP_le_length
  unfold lits; omega

theorem lits_append (p q : List UInt8) : lits (p ++ q) = lits p + lits q := by
  unfold lits; rw [List.countP_append]

theorem lits_free (l : List UInt8) (h : ∀ c ∈ l, c ≠ 42) : lits l = l.length := by
  unfold lits
  rw [List.countP_eq_length]
  intro c hc
  simpa using h c hc

theorem lits_pos (p : List UInt8) (h : glob p [] = false) : 1 ≤ lits p := by
  rw [glob_empty] at h
  unfold lits
  apply List.countP_pos_iff.2
  rw [Bool.eq_false_iff, Ne, List.all_eq_true] at h
  simp only [beq_iff_eq] at h
  have := Classical.not_forall.1 h
  obtain ⟨c, hc⟩ := this
  have ⟨h1, h2⟩ := Classical.not_imp.1 hc
  exact ⟨c, h1, by simpa using h2⟩

/-- A star ahead takes more. -/
theorem glob_star_more (p a n : List UInt8) (h : glob (42 :: p) n = true) : glob (42 :: p) (a ++ n) = true := by
  obtain ⟨x, y, rfl, hy⟩ := (glob_star_iff _ _).1 h
  exact (glob_star_iff _ _).2 ⟨a ++ x, y, by simp, hy⟩

/-- A second star is met: the first one never needs to take more. -/
theorem jump (l p n : List UInt8) (h : ∀ c ∈ l, c ≠ 42) : glob (42 :: (l ++ 42 :: p)) (l ++ n) = glob (42 :: p) n := by
  rw [Bool.eq_iff_iff]
  constructor
  · intro g
    obtain ⟨a, b, e, hb⟩ := (glob_star_iff _ _).1 g
    obtain ⟨x, y, rfl, hx, hy⟩ := (glob_append _ _ _).1 hb
    have hx1 : x = l ∧ True := by
      refine ⟨?_, trivial⟩
      clear hy hb g e
      induction l generalizing x with
      | nil => rw [glob_nil] at hx; simpa using hx
      | cons c l ih =>
        obtain ⟨m, rfl, hm⟩ := (glob_lit_iff _ _ _ (h c (by simp))).1 hx
        rw [ih (fun d hd => h d (by simp [hd])) m hm]
    obtain ⟨rfl, _⟩ := hx1
    -- x ++ n = a ++ (x ++ y): y is a suffix of n
    have hl : y.length ≤ n.length := by
      have := congrArg List.length e
      simp at this; omega
    have hs : n = (n.take (n.length - y.length)) ++ y := by
      have h1 : y = (x ++ n).drop (a.length + x.length) := by
        rw [e, ← List.append_assoc, List.drop_left' (by simp)]
      have hlen := congrArg List.length e
      simp at hlen
      have h2 : (x ++ n).drop (a.length + x.length) = n.drop a.length := by
        rw [Nat.add_comm, ← List.drop_drop, List.drop_left]
      rw [h2] at h1
      have h3 : n.length - y.length = a.length := by omega
      rw [h3]
      conv => lhs; rw [← List.take_append_drop a.length n]
      rw [← h1]
    rw [hs]
    exact glob_star_more _ _ _ hy
  · intro g
    refine (glob_star_iff _ _).2 ⟨[], l ++ n, rfl, ?_⟩
    rw [glob_same _ _ _ h]; exact g

/-- The star takes one byte more, once the rest does not fit here. -/
theorem back (p n : List UInt8) (c : UInt8) (h : glob p (c :: n) = false) : glob (42 :: p) (c :: n) = glob (42 :: p) n := by
  rw [glob_star_cons, h]; rfl

/-- The name is at its end, and bytes of the pattern are left that are no stars. -/
theorem ended (l p : List UInt8) (h : ∀ c ∈ l, c ≠ 42) (hp : glob p [] = false) : glob (42 :: (l ++ p)) l = false := by
  rw [Bool.eq_false_iff]
  intro g
  have h1 := lits_le _ _ g
  have h2 := lits_pos p hp
  have h3 := lits_free l h
  have h4 : lits (42 :: (l ++ p)) = lits (l ++ p) := by unfold lits; rw [List.countP_cons]; simp
  rw [h4, lits_append] at h1
  omega

theorem ended_yes (l p : List UInt8) (h : ∀ c ∈ l, c ≠ 42) (hp : glob p [] = true) : glob (42 :: (l ++ p)) l = true := by
  refine (glob_star_iff _ _).2 ⟨[], l, rfl, ?_⟩
  have := glob_same l p [] h
  rw [List.append_nil] at this
  rw [this]; exact hp

/-! ### the law on a type's own wildcard -/
theorem wild_named (t n : List UInt8) : glob (t ++ [58, 42]) (t ++ (58 :: n)) = true := by
  refine (glob_append _ _ _).2 ⟨t, 58 :: n, rfl, glob_self t, ?_⟩
  exact (glob_lit_iff _ _ _ (by decide)).2 ⟨n, rfl, glob_onlystar n⟩

theorem wild_bare (t : List UInt8) : glob (t ++ [58, 42]) t = false := by
  rw [Bool.eq_false_iff]
  intro g
  have := glob_count (fun c => c == 58) (by decide) _ _ g
  rw [List.countP_append] at this
  simp at this
  omega

/-! ### the matcher's state: places in the pattern and in the name, the last star and where it stands for the name -/
def FInv (P N : List UInt8) (p n : Nat) (star : Int) (sn : Nat) : Prop :=
  p ≤ P.length ∧ n ≤ N.length ∧ sn ≤ n ∧
  ((star = -1 ∧ glob P N = glob (P.drop p) (N.drop n)) ∨
   ∃ s : Nat, star = s ∧ ∃ L, P.drop s = 42 :: (L ++ P.drop p) ∧ N.drop sn = L ++ N.drop n ∧ (∀ c ∈ L, c ≠ 42) ∧ glob P N = glob (P.drop s) (N.drop sn))

theorem FInv.start (P N : List UInt8) : FInv P N 0 0 (-1) 0 :=
  ⟨Nat.zero_le _, Nat.zero_le _, Nat.le_refl _, .inl ⟨rfl, rfl⟩⟩

theorem drop_at (P : List UInt8) (p : Nat) (h : p < P.length) : P.drop p = P[p] :: P.drop (p + 1) := List.drop_eq_getElem_cons h

theorem FInv.star {P N : List UInt8} {p n : Nat} {star : Int} {sn : Nat} (h : FInv P N p n star sn) (hp : p < P.length) (hc : P[p] = 42) : FInv P N (p + 1) n (p : Int) n := by
  obtain ⟨h1, h2, h3, h4⟩ := h
  have hd := drop_at P p hp
  rw [hc] at hd
  refine ⟨hp, h2, Nat.le_refl _, .inr ⟨p, rfl, [], by rw [hd]; rfl, rfl, by simp, ?_⟩⟩
  rcases h4 with ⟨_, h4⟩ | ⟨s, _, L, e1, e2, e3, e4⟩
  · exact h4
  · rw [e4, e1, e2, hd]
    exact jump L _ _ e3

theorem FInv.lit {P N : List UInt8} {p n : Nat} {star : Int} {sn : Nat} (h : FInv P N p n star sn) (hp : p < P.length) (hn : n < N.length) (hc : P[p] ≠ 42) (he : P[p] = N[n]) : FInv P N (p + 1) (n + 1) star sn := by
  obtain ⟨h1, h2, h3, h4⟩ := h
  have hd := drop_at P p hp
  have hm := drop_at N n hn
  refine ⟨hp, hn, by omega, ?_⟩
  rcases h4 with ⟨h0, h4⟩ | ⟨s, h0, L, e1, e2, e3, e4⟩
  · refine .inl ⟨h0, ?_⟩
    rw [h4, hd, hm, glob_lit_cons _ _ _ _ hc, he]
    simp
  · refine .inr ⟨s, h0, L ++ [P[p]], ?_, ?_, ?_, e4⟩
    · rw [e1, hd]; simp
    · rw [e2, hm, he]; simp
    · intro c h
      rcases List.mem_append.1 h with h | h
      · exact e3 c h
      · simp at h; rw [h]; exact hc

/-- here the rest of the pattern does not cover the rest of the name -/
def Mis (P N : List UInt8) (p n : Nat) : Prop := glob (P.drop p) (N.drop n) = false

theorem mis_end (P N : List UInt8) (p n : Nat) (hp : P.length ≤ p) (hn : n < N.length) : Mis P N p n := by
  unfold Mis
  rw [List.drop_eq_nil_of_le hp, drop_at N n hn]; rfl

theorem mis_ne (P N : List UInt8) (p n : Nat) (hp : p < P.length) (hn : n < N.length) (hc : P[p] ≠ 42) (he : P[p] ≠ N[n]) : Mis P N p n := by
  unfold Mis
  rw [drop_at P p hp, drop_at N n hn, glob_lit_cons _ _ _ _ hc]
  simp [he]

theorem FInv.back {P N : List UInt8} {p n s sn : Nat} (h : FInv P N p n (s : Int) sn) (hn : n < N.length) (hm : Mis P N p n) : FInv P N (s + 1) (sn + 1) (s : Int) (sn + 1) := by
  obtain ⟨h1, h2, h3, h4⟩ := h
  rcases h4 with ⟨h0, h4⟩ | ⟨s', h0, L, e1, e2, e3, e4⟩
  · omega
  · obtain rfl : s = s' := by omega
    have hs : s < P.length := by
      have := congrArg List.length e1
      simp at this; omega
    have hd := drop_at P s hs
    have hc : P[s] = 42 := by rw [hd] at e1; injection e1
    have hr : P.drop (s + 1) = L ++ P.drop p := by rw [hd] at e1; injection e1
    have hsn := drop_at N sn (by omega)
    refine ⟨hs, by omega, Nat.le_refl _, .inr ⟨s, rfl, [], ?_, rfl, by simp, ?_⟩⟩
    · rw [hd, hc]; rfl
    · rw [e4, hd, hc, hsn]
      refine Glob.back _ _ _ ?_
      rw [← hsn, hr, e2, glob_same _ _ _ e3]
      exact hm

theorem FInv.none {P N : List UInt8} {p n sn : Nat} (h : FInv P N p n (-1) sn) (hm : Mis P N p n) : glob P N = false := by
  obtain ⟨_, _, _, h4⟩ := h
  rcases h4 with ⟨_, h4⟩ | ⟨s', h0, _⟩
  · rw [h4]; exact hm
  · omega

theorem FInv.ended {P N : List UInt8} {p n sn : Nat} {star : Int} (h : FInv P N p n star sn) (hn : N.length ≤ n) : glob P N = glob (P.drop p) [] := by
  obtain ⟨_, _, _, h4⟩ := h
  have e0 : N.drop n = [] := List.drop_eq_nil_of_le hn
  rcases h4 with ⟨_, h4⟩ | ⟨s', h0, L, e1, e2, e3, e4⟩
  · rw [h4, e0]
  · rw [e4, e1, e2, e0, List.append_nil]
    cases hg : glob (P.drop p) [] with
    | true => exact ended_yes L _ e3 hg
    | false => exact Glob.ended L _ e3 hg

theorem FInv.star_cases {P N : List UInt8} {p n sn : Nat} {star : Int} (h : FInv P N p n star sn) : star = -1 ∨ ∃ s : Nat, star = s ∧ s < P.length := by
  obtain ⟨_, _, _, h4⟩ := h
  rcases h4 with ⟨h0, _⟩ | ⟨s, h0, L, e1, _⟩
  · exact .inl h0
  · refine .inr ⟨s, h0, ?_⟩
    have := congrArg List.length e1
    simp at this; omega

theorem rest_star (P : List UInt8) (k : Nat) (hk : k < P.length) (hc : P[k] = 42) : glob (P.drop k) [] = glob (P.drop (k + 1)) [] := by
  rw [drop_at P k hk, hc, glob_star_nil]

theorem rest_lit (P : List UInt8) (k : Nat) (hk : k < P.length) (hc : P[k] ≠ 42) : glob (P.drop k) [] = false := by
  rw [drop_at P k hk, glob_lit_nil _ _ hc]

theorem rest_end (P : List UInt8) (k : Nat) (hk : P.length ≤ k) : glob (P.drop k) [] = true := by
  rw [List.drop_eq_nil_of_le hk]; rfl

/-- what every round lowers -/
def mu (P N p sn : Nat) : Nat := (N + 1 - sn) * (P + 2) + (P + 1 - p)

theorem mu_on (P N p sn sn' : Nat) (h : p < P) (hs : sn ≤ sn') : mu P N (p + 1) sn' < mu P N p sn := by
  unfold mu
  have : (N + 1 - sn') * (P + 2) ≤ (N + 1 - sn) * (P + 2) := Nat.mul_le_mul_right _ (by omega)
  omega

theorem mu_back (P N p s sn : Nat) (h : sn < N) : mu P N (s + 1) (sn + 1) < mu P N p sn := by
  unfold mu
  have e : N + 1 - sn = (N + 1 - (sn + 1)) + 1 := by omega
  rw [e, Nat.add_mul]
  omega

end Go.Proofs.Qxb6601488a.Glob
