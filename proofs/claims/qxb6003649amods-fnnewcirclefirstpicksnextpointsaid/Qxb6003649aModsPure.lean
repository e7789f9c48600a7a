/- The plain law of the sorts: no Go in sight. -/
namespace Go.Proofs.Qxb6003649aMods
set_option linter.unusedVariables false

/-! ### Counting -/
def cnt : Nat → (Nat → Bool) → Nat
  | 0, _ => 0
  | n + 1, p => cnt n p + (if p n then 1 else 0)

theorem cnt_le (n : Nat) (p : Nat → Bool) : cnt n p ≤ n := by
  induction n with
  | zero => simp [cnt]
  | succ n ih => simp only [cnt]; split <;> omega

theorem cnt_mono {n : Nat} {p q : Nat → Bool} (h : ∀ i, i < n → p i = true → q i = true) : cnt n p ≤ cnt n q := by
  induction n with
  | zero => simp [cnt]
  | succ n ih =>
    have := ih (fun i hi => h i (by omega))
    have hn := h n (by omega)
    simp only [cnt]
    by_cases e : p n = true
    · rw [if_pos e, if_pos (hn e)]; omega
    · rw [if_neg e]; split <;> omega

theorem cnt_lt {n : Nat} {p q : Nat → Bool} (h : ∀ i, i < n → p i = true → q i = true) {j : Nat} (hj : j < n) (hp : p j = false) (hq : q j = true) : cnt n p < cnt n q := by
  induction n with
  | zero => omega
  | succ n ih =>
    simp only [cnt]
    by_cases e : j = n
    · subst e
      have := cnt_mono (fun i hi => h i (Nat.lt_succ_of_lt hi))
      rw [if_pos hq, if_neg (by simp [hp])]; omega
    · have := ih (fun i hi => h i (by omega)) (by omega)
      have hn := h n (by omega)
      by_cases e : p n = true
      · rw [if_pos e, if_pos (hn e)]; omega
      · rw [if_neg e]; split <;> omega

theorem cnt_congr {n : Nat} {p q : Nat → Bool} (h : ∀ i, i < n → p i = q i) : cnt n p = cnt n q := by
  have h1 := cnt_mono (n := n) (p := p) (q := q) (fun i hi e => by rw [← h i hi]; exact e)
  have h2 := cnt_mono (n := n) (p := q) (q := p) (fun i hi e => by rw [h i hi]; exact e)
  omega

theorem cnt_add {n : Nat} {p q r : Nat → Bool} (h : ∀ i, i < n → (r i = (p i || q i)) ∧ ¬ (p i = true ∧ q i = true)) : cnt n r = cnt n p + cnt n q := by
  induction n with
  | zero => simp [cnt]
  | succ n ih =>
    simp only [cnt]
    rw [ih (fun i hi => h i (by omega))]
    obtain ⟨h1, h2⟩ := h n (by omega)
    rw [h1]
    cases hp : p n <;> cases hq : q n <;> simp_all <;> omega

theorem cnt_zero {n : Nat} {p : Nat → Bool} (h : ∀ i, i < n → p i = false) : cnt n p = 0 := by
  induction n with
  | zero => rfl
  | succ n ih => simp only [cnt]; rw [ih (fun i hi => h i (by omega)), if_neg (by simp [h n (by omega)])]

theorem cnt_below {n j : Nat} (hj : j ≤ n) (p : Nat → Bool) : cnt n (fun i => decide (i < j) && p i) = cnt j p := by
  induction n with
  | zero => obtain rfl : j = 0 := by omega
            rfl
  | succ n ih =>
    by_cases e : j = n + 1
    · subst e
      refine cnt_congr (fun i hi => ?_)
      simp [hi]
    · simp only [cnt]
      rw [ih (by omega), if_neg]
      · rfl
      · simp; omega

/-! ### Pigeons -/
theorem inj_surj (n : Nat) : ∀ (f : Nat → Nat), (∀ i, i < n → f i < n) → (∀ i j, i < n → j < n → f i = f j → i = j) → ∀ k, k < n → ∃ i, i < n ∧ f i = k := by
  induction n with
  | zero => intro f _ _ k hk; omega
  | succ n ih =>
    intro f hf hi k hk
    have hg1 : ∀ i, i < n → (if f i = n then f n else f i) < n := by
      intro i hin
      have h1 := hf i (by omega)
      have h2 := hf n (by omega)
      by_cases e : f i = n
      · rw [if_pos e]
        have : f n ≠ n := fun e2 => by have := hi i n (by omega) (by omega) (e.trans e2.symm); omega
        omega
      · rw [if_neg e]; omega
    have hg2 : ∀ i j, i < n → j < n → (if f i = n then f n else f i) = (if f j = n then f n else f j) → i = j := by
      intro i j hin hjn he
      by_cases e1 : f i = n
      · by_cases e2 : f j = n
        · exact hi i j (by omega) (by omega) (e1.trans e2.symm)
        · rw [if_pos e1, if_neg e2] at he
          have := hi n j (by omega) (by omega) he
          omega
      · by_cases e2 : f j = n
        · rw [if_neg e1, if_pos e2] at he
          have := hi i n (by omega) (by omega) he
          omega
        · rw [if_neg e1, if_neg e2] at he
          exact hi i j (by omega) (by omega) he
    have hs := ih _ hg1 hg2
    by_cases ekn : k = f n
    · exact ⟨n, by omega, ekn.symm⟩
    · by_cases e : k = n
      · subst e
        have h2 := hf k (by omega)
        obtain ⟨i, hin, he⟩ := hs (f k) (by omega)
        by_cases e1 : f i = k
        · exact ⟨i, by omega, e1⟩
        · rw [if_neg e1] at he
          have := hi i k (by omega) (by omega) he
          omega
      · obtain ⟨i, hin, he⟩ := hs k (by omega)
        by_cases e1 : f i = n
        · rw [if_pos e1] at he; omega
        · rw [if_neg e1] at he; exact ⟨i, by omega, he⟩

theorem no_inj {k : Nat} {f : Nat → Nat} (h : ∀ i, i < k + 1 → f i < k) (hi : ∀ i j, i < k + 1 → j < k + 1 → f i = f j → i = j) : False := by
  obtain ⟨i, h1, h2⟩ := inj_surj (k + 1) f (fun i hi => by have := h i hi; omega) hi k (by omega)
  have := h i h1
  omega

/-! ### The order of a stable sort -/
/-- x comes before y, by key and then by place. -/
def Lx (κ : Nat → Nat) (x y : Nat) : Prop := κ x < κ y ∨ (κ x = κ y ∧ x < y)

theorem Lx.trans {κ : Nat → Nat} {x y z : Nat} (h : Lx κ x y) (k : Lx κ y z) : Lx κ x z := by unfold Lx at *; omega
theorem Lx.irrefl {κ : Nat → Nat} {x : Nat} (h : Lx κ x x) : False := by unfold Lx at *; omega
theorem Lx.total {κ : Nat → Nat} {x y : Nat} (h : x ≠ y) : Lx κ x y ∨ Lx κ y x := by unfold Lx; omega

instance (κ : Nat → Nat) (x y : Nat) : Decidable (Lx κ x y) := by unfold Lx; infer_instance

structure Stable (n : Nat) (κ o : Nat → Nat) : Prop where
  lt : ∀ k, k < n → o k < n
  up : ∀ k m, k < m → m < n → Lx κ (o k) (o m)

theorem Stable.inj {n : Nat} {κ o : Nat → Nat} (h : Stable n κ o) : ∀ i j, i < n → j < n → o i = o j → i = j := by
  intro i j hi hj e
  by_cases h1 : i < j
  · have := h.up i j h1 hj; rw [e] at this; exact this.irrefl.elim
  · by_cases h2 : j < i
    · have := h.up j i h2 hi; rw [e] at this; exact this.irrefl.elim
    · omega

def rank (n : Nat) (κ : Nat → Nat) (j : Nat) : Nat := cnt n (fun x => decide (Lx κ x j))

theorem rank_lt {n : Nat} {κ : Nat → Nat} {i j : Nat} (hi : i < n) (h : Lx κ i j) : rank n κ i < rank n κ j := by
  refine cnt_lt (j := i) (fun x hx e => ?_) hi ?_ ?_
  · simp only [decide_eq_true_eq] at *; exact e.trans h
  · simp only [decide_eq_false_iff_not]; exact fun e => e.irrefl
  · simpa using h

theorem rank_bd {n : Nat} {κ : Nat → Nat} {j : Nat} (hj : j < n) : rank n κ j < n := by
  have : cnt n (fun x => decide (Lx κ x j)) < cnt n (fun _ => true) :=
    cnt_lt (j := j) (fun x hx e => rfl) hj (by simp only [decide_eq_false_iff_not]; exact fun e => e.irrefl) rfl
  have := cnt_le n (fun _ => true)
  unfold rank
  omega

theorem rank_inj {n : Nat} {κ : Nat → Nat} {i j : Nat} (hi : i < n) (hj : j < n) (h : rank n κ i = rank n κ j) : i = j := by
  by_cases e : i = j
  · exact e
  · rcases Lx.total (κ := κ) e with h1 | h1
    · have := rank_lt hi h1; omega
    · have := rank_lt hj h1; omega

/-- What climbs from [0, n) into [0, n) stands still. -/
theorem climb {n : Nat} {f : Nat → Nat} (h1 : ∀ k, k < n → f k < n) (h2 : ∀ k m, k < m → m < n → f k < f m) : ∀ k, k < n → f k = k := by
  have lo : ∀ k, k < n → k ≤ f k := by
    intro k
    induction k with
    | zero => intro _; omega
    | succ k ih => intro hk; have := ih (by omega); have := h2 k (k + 1) (by omega) hk; omega
  have hi : ∀ d k, k + d + 1 = n → f k ≤ k := by
    intro d
    induction d with
    | zero => intro k hk; have := h1 k (by omega); omega
    | succ d ih => intro k hk; have := ih (k + 1) (by omega); have := h2 k (k + 1) (by omega) (by omega); omega
  intro k hk
  have := lo k hk
  have := hi (n - k - 1) k (by omega)
  omega

theorem Stable.rank {n : Nat} {κ o : Nat → Nat} (h : Stable n κ o) {k : Nat} (hk : k < n) : rank n κ (o k) = k :=
  climb (f := fun k => Go.Proofs.Qxb6003649aMods.rank n κ (o k)) (fun k hk => rank_bd (h.lt k hk)) (fun k m hkm hm => rank_lt (h.lt k (by omega)) (h.up k m hkm hm)) k hk

theorem Stable.eq {n : Nat} {κ o o' : Nat → Nat} (h : Stable n κ o) (h' : Stable n κ o') {k : Nat} (hk : k < n) : o k = o' k :=
  rank_inj (h.lt k hk) (h'.lt k hk) ((h.rank hk).trans (h'.rank hk).symm)

/-- The order that the ranks deal. -/
theorem stable_of_rank (n : Nat) (κ : Nat → Nat) : ∃ o, Stable n κ o ∧ ∀ k, k < n → Go.Proofs.Qxb6003649aMods.rank n κ (o k) = k := by
  have hs := inj_surj n (Go.Proofs.Qxb6003649aMods.rank n κ) (fun i hi => rank_bd hi) (fun i j hi hj e => rank_inj hi hj e)
  refine ⟨fun k => if h : k < n then (hs k h).choose else 0, ?_, ?_⟩
  · refine ⟨fun k hk => ?_, fun k m hkm hm => ?_⟩
    · simp only [dif_pos hk]; exact (hs k hk).choose_spec.1
    · simp only [dif_pos hm, dif_pos (Nat.lt_trans hkm hm)]
      have a1 := (hs k (Nat.lt_trans hkm hm)).choose_spec
      have a2 := (hs m hm).choose_spec
      generalize (hs k (Nat.lt_trans hkm hm)).choose = x at a1 ⊢
      generalize (hs m hm).choose = y at a2 ⊢
      by_cases e : x = y
      · subst e; omega
      · rcases Lx.total (κ := κ) e with h1 | h1
        · exact h1
        · have := rank_lt a2.1 h1; omega
  · intro k hk
    simp only [dif_pos hk]
    exact (hs k hk).choose_spec.2

/-- One deal, told by what is in hand while it goes: the points with a lower digit, and those of the same digit ahead of this one. -/
theorem rank_split {n : Nat} {κ : Nat → Nat} {j : Nat} (hj : j ≤ n) : Go.Proofs.Qxb6003649aMods.rank n κ j = cnt n (fun x => decide (κ x < κ j)) + cnt j (fun x => decide (κ x = κ j)) := by
  rw [← cnt_below hj, Go.Proofs.Qxb6003649aMods.rank]
  refine cnt_add (fun i hi => ⟨?_, ?_⟩)
  · unfold Lx
    by_cases h1 : κ i < κ j <;> by_cases h2 : κ i = κ j <;> by_cases h3 : i < j <;> simp [h1, h2, h3]
  · simp only [Bool.and_eq_true, decide_eq_true_eq]; omega

/-- Three deals, from the least digit on, are one stable sort. -/
theorem deals {n : Nat} {κ d0 d1 d2 s1 s2 s3 : Nat → Nat} (hκ : ∀ x, x < n → κ x = d2 x * 4194304 + d1 x * 2048 + d0 x) (h0 : ∀ x, x < n → d0 x < 2048) (h1 : ∀ x, x < n → d1 x < 2048)
    (a1 : Stable n d0 s1) (a2 : Stable n (fun x => d1 (s1 x)) s2) (a3 : Stable n (fun x => d2 (s1 (s2 x))) s3) : Stable n κ (fun k => s1 (s2 (s3 k))) := by
  refine ⟨fun k hk => a1.lt _ (a2.lt _ (a3.lt k hk)), fun k m hkm hm => ?_⟩
  have bk := a3.lt k (by omega)
  have bm := a3.lt m hm
  have ck := a2.lt _ bk
  have cm := a2.lt _ bm
  have dk := a1.lt _ ck
  have dm := a1.lt _ cm
  have u3 := a3.up k m hkm hm
  have u2 := a2.up (s3 k) (s3 m)
  have u1 := a1.up (s2 (s3 k)) (s2 (s3 m))
  unfold Lx at *
  have e1 := hκ _ dk
  have e2 := hκ _ dm
  have b1 := h0 _ dk
  have b2 := h0 _ dm
  have b3 := h1 _ dk
  have b4 := h1 _ dm
  simp only at u2 u3
  generalize s1 (s2 (s3 k)) = x at *
  generalize s1 (s2 (s3 m)) = y at *
  rcases u3 with h | ⟨h, hh⟩
  · left; omega
  · rcases u2 hh bm with g | ⟨g, gg⟩
    · left; omega
    · rcases u1 gg cm with f | ⟨f, ff⟩
      · left; omega
      · right; omega

/-! ### Two sorted readings of the same numbers -/
theorem sorted_le {n : Nat} {v α β : Nat → Nat} (ha : ∀ i, i < n → α i < n) (hb : ∀ i, i < n → β i < n) (ia : ∀ i j, i < n → j < n → α i = α j → i = j) (ib : ∀ i j, i < n → j < n → β i = β j → i = j)
    (ua : ∀ i j, i ≤ j → j < n → v (α i) ≤ v (α j)) (ub : ∀ i j, i ≤ j → j < n → v (β i) ≤ v (β j)) {k : Nat} (hk : k < n) : v (β k) ≤ v (α k) := by
  by_cases h : v (α k) < v (β k)
  · exfalso
    have hs : ∀ m, m < n → ∃ i, i < n ∧ β i = α m := fun m hm => inj_surj n β hb ib (α m) (ha m hm)
    refine no_inj (k := k) (f := fun m => if h : m < n then (hs m h).choose else 0) (fun m hm => ?_) (fun i j hi hj e => ?_)
    · have hmn : m < n := by omega
      simp only [dif_pos hmn]
      obtain ⟨b1, b2⟩ := (hs m hmn).choose_spec
      generalize (hs m hmn).choose = x at b1 b2 ⊢
      have := ua m k (by omega) hk
      by_cases hx : x < k
      · exact hx
      · have := ub k x (by omega) b1
        rw [b2] at this
        omega
    · have hin : i < n := by omega
      have hjn : j < n := by omega
      simp only [dif_pos hin, dif_pos hjn] at e
      have b := (hs i hin).choose_spec.2
      have c := (hs j hjn).choose_spec.2
      rw [e, c] at b
      exact ia i j hin hjn b.symm
  · omega

theorem sorted_eq {n : Nat} {v oa ob τ : Nat → Nat} (ht : ∀ i, i < n → τ i < n) (it : ∀ i j, i < n → j < n → τ i = τ j → i = j) (sa : Stable n v oa) (sb : Stable n (fun i => v (τ i)) ob) {k : Nat} (hk : k < n) :
    v (oa k) = v (τ (ob k)) := by
  have ua : ∀ i j, i ≤ j → j < n → v (oa i) ≤ v (oa j) := by
    intro i j hij hj
    by_cases e : i = j
    · subst e; omega
    · have := sa.up i j (by omega) hj; unfold Lx at this; omega
  have ub : ∀ i j, i ≤ j → j < n → v (τ (ob i)) ≤ v (τ (ob j)) := by
    intro i j hij hj
    by_cases e : i = j
    · subst e; omega
    · have := sb.up i j (by omega) hj; unfold Lx at this; simp only at this; omega
  have hb : ∀ i, i < n → τ (ob i) < n := fun i hi => ht _ (sb.lt i hi)
  have ib : ∀ i j, i < n → j < n → τ (ob i) = τ (ob j) → i = j := fun i j hi hj e => sb.inj i j hi hj (it _ _ (sb.lt i hi) (sb.lt j hj) e)
  have h1 := sorted_le (β := fun i => τ (ob i)) sa.lt hb sa.inj ib ua ub hk
  have h2 := sorted_le (α := fun i => τ (ob i)) hb sa.lt ib sa.inj ub ua hk
  omega

/-! ### Merging -/
/-- a is sorted in [lo, hi), its numbers lying there too. -/
def Run (κ a : Nat → Nat) (lo hi : Nat) : Prop := (∀ x, lo ≤ x → x < hi → lo ≤ a x ∧ a x < hi) ∧ ∀ x y, lo ≤ x → x < y → y < hi → Lx κ (a x) (a y)

/-- a is sorted in runs of width W, up to m. -/
def Runs (n : Nat) (κ a : Nat → Nat) (W m : Nat) : Prop := ∀ q, q * W < m → Run κ a (q * W) (min (q * W + W) n)

theorem Run.congr {κ a b : Nat → Nat} {lo hi : Nat} (h : Run κ a lo hi) (e : ∀ x, lo ≤ x → x < hi → a x = b x) : Run κ b lo hi := by
  refine ⟨fun x h1 h2 => ?_, fun x y h1 h2 h3 => ?_⟩
  · rw [← e x h1 h2]; exact h.1 x h1 h2
  · rw [← e x h1 (by omega), ← e y (by omega) h3]; exact h.2 x y h1 h2 h3

theorem runs_one (n : Nat) (κ : Nat → Nat) : Runs n κ (fun i => i) 1 n := by
  intro q hq
  refine ⟨fun x h1 h2 => ⟨h1, h2⟩, fun x y h1 h2 h3 => ?_⟩
  omega

theorem runs_stable {n : Nat} {κ a : Nat → Nat} {W : Nat} (h : Runs n κ a W n) (hW : n ≤ W) : Stable n κ a := by
  by_cases h0 : n = 0
  · subst h0
    exact ⟨fun k hk => by omega, fun k m _ hm => by omega⟩
  · have := h 0 (by omega)
    rw [show min (0 * W + W) n = n by omega, Nat.zero_mul] at this
    exact ⟨fun k hk => (this.1 k (by omega) hk).2, fun k m hkm hm => this.2 k m (by omega) hkm hm⟩

/-- While a merge goes: b holds in [lo, k) what was taken. -/
structure Mrg (κ a b : Nat → Nat) (lo mid hi i j k : Nat) : Prop where
  hk : k + mid = i + j
  hi1 : lo ≤ i
  hi2 : i ≤ mid
  hj1 : mid ≤ j
  hj2 : j ≤ hi
  inn : ∀ x, lo ≤ x → x < k → lo ≤ b x ∧ b x < hi
  up : ∀ x y, lo ≤ x → x < y → y < k → Lx κ (b x) (b y)
  left : ∀ x, lo ≤ x → x < k → i < mid → Lx κ (b x) (a i)
  right : ∀ x, lo ≤ x → x < k → j < hi → Lx κ (b x) (a j)

theorem Mrg.start {κ a b : Nat → Nat} {lo mid hi : Nat} (h1 : lo ≤ mid) (h2 : mid ≤ hi) : Mrg κ a b lo mid hi lo mid lo :=
  ⟨by omega, by omega, by omega, by omega, by omega, fun x _ _ => by omega, fun x y _ _ _ => by omega, fun x _ _ => by omega, fun x _ _ => by omega⟩

theorem Mrg.takeR {κ a b b' : Nat → Nat} {lo mid hi i j k : Nat} (h : Mrg κ a b lo mid hi i j k) (ra : Run κ a lo mid) (rb : Run κ a mid hi) (hj : j < hi) (hlt : i < mid → κ (a j) < κ (a i))
    (hb : ∀ x, b' x = if x = k then a j else b x) : Mrg κ a b' lo mid hi i (j + 1) (k + 1) := by
  obtain ⟨p1, p2, p3, p4, p5, p6, p7, p8, p9⟩ := h
  refine ⟨by omega, p2, p3, by omega, by omega, fun x h1 h2 => ?_, fun x y h1 h2 h3 => ?_, fun x h1 h2 h3 => ?_, fun x h1 h2 h3 => ?_⟩
  · rw [hb]
    by_cases e : x = k
    · rw [if_pos e]; have := rb.1 j (by omega) hj; omega
    · rw [if_neg e]; exact p6 x h1 (by omega)
  · rw [hb x, hb y, if_neg (by omega : x ≠ k)]
    by_cases e : y = k
    · rw [if_pos e]; exact p9 x h1 (by omega) hj
    · rw [if_neg e]; exact p7 x y h1 h2 (by omega)
  · rw [hb]
    by_cases e : x = k
    · rw [if_pos e]; exact .inl (hlt h3)
    · rw [if_neg e]; exact p8 x h1 (by omega) h3
  · rw [hb]
    have := rb.2 j (j + 1) (by omega) (by omega) h3
    by_cases e : x = k
    · rw [if_pos e]; exact this
    · rw [if_neg e]; exact (p9 x h1 (by omega) hj).trans this

theorem Mrg.takeL {κ a b b' : Nat → Nat} {lo mid hi i j k : Nat} (h : Mrg κ a b lo mid hi i j k) (ra : Run κ a lo mid) (rb : Run κ a mid hi) (hi' : i < mid) (hlt : j < hi → κ (a i) ≤ κ (a j))
    (hb : ∀ x, b' x = if x = k then a i else b x) : Mrg κ a b' lo mid hi (i + 1) j (k + 1) := by
  obtain ⟨p1, p2, p3, p4, p5, p6, p7, p8, p9⟩ := h
  have hai := ra.1 i p2 hi'
  refine ⟨by omega, by omega, by omega, by omega, by omega, fun x h1 h2 => ?_, fun x y h1 h2 h3 => ?_, fun x h1 h2 h3 => ?_, fun x h1 h2 h3 => ?_⟩
  · rw [hb]
    by_cases e : x = k
    · rw [if_pos e]; omega
    · rw [if_neg e]; exact p6 x h1 (by omega)
  · rw [hb x, hb y, if_neg (by omega : x ≠ k)]
    by_cases e : y = k
    · rw [if_pos e]; exact p8 x h1 (by omega) hi'
    · rw [if_neg e]; exact p7 x y h1 h2 (by omega)
  · rw [hb]
    have := ra.2 i (i + 1) (by omega) (by omega) h3
    by_cases e : x = k
    · rw [if_pos e]; exact this
    · rw [if_neg e]; exact (p8 x h1 (by omega) hi').trans this
  · rw [hb]
    by_cases e : x = k
    · rw [if_pos e]
      have h4 := hlt h3
      have h5 := rb.1 j p4 h3
      unfold Lx
      omega
    · rw [if_neg e]; exact p9 x h1 (by omega) h3

theorem Mrg.run_end {κ a b : Nat → Nat} {lo mid hi k : Nat} (h : Mrg κ a b lo mid hi mid hi k) : Run κ b lo hi := by
  have e : k = hi := by have := h.hk; omega
  subst e
  exact ⟨h.inn, h.up⟩

/-- One more pair of runs is merged. -/
theorem Runs.more {n : Nat} {κ b b' : Nat → Nat} {W p : Nat} (h : Runs n κ b W (p * W)) (hr : Run κ b' (p * W) (min (p * W + W) n)) (e : ∀ x, x < p * W → b' x = b x) : Runs n κ b' W ((p + 1) * W) := by
  intro q hq
  by_cases c : q = p
  · subst c; exact hr
  · have hqp : q < p := by
      have : q < p + 1 := Nat.lt_of_mul_lt_mul_right hq
      omega
    have h1 : q * W + W ≤ p * W := by rw [← Nat.succ_mul]; exact Nat.mul_le_mul_right _ hqp
    by_cases hw : W = 0
    · subst hw; simp at hq
    · exact (h q (by omega)).congr (fun x h2 h3 => (e x (by omega)).symm)

theorem Runs.pair {n : Nat} {κ a : Nat → Nat} {W p : Nat} (h : Runs n κ a W n) (hp : p * (2 * W) < n) : Run κ a (p * (2 * W)) (min (p * (2 * W) + W) n) ∧ Run κ a (min (p * (2 * W) + W) n) (min (p * (2 * W) + 2 * W) n) := by
  have e1 : p * (2 * W) = (2 * p) * W := by rw [Nat.mul_left_comm, Nat.mul_assoc]
  have e2 : p * (2 * W) + W = (2 * p + 1) * W := by rw [Nat.add_mul, e1, Nat.one_mul]
  refine ⟨by rw [e1]; exact h (2 * p) (by omega), ?_⟩
  by_cases c : p * (2 * W) + W < n
  · have := h (2 * p + 1) (by omega)
    rw [← e2] at this
    rw [show min (p * (2 * W) + W) n = p * (2 * W) + W by omega, show p * (2 * W) + 2 * W = p * (2 * W) + W + W by omega]
    exact this
  · refine ⟨fun x h1 h2 => by omega, fun x y h1 h2 h3 => by omega⟩

end Go.Proofs.Qxb6003649aMods
