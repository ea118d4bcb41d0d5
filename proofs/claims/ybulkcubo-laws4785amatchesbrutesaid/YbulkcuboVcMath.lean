/-
  The plain law behind vclog.LawS4785AMatchesBrute: counting concurrent pairs of true vector clocks. No Go in sight.
-/
import Derived.Test.YbulkcuboRows
namespace Go.Proofs.Ybulkcubo

/-- A clock: its entry for host o. -/
abbrev Vc := Nat → Nat

/-- Componentwise at most, over nh hosts. -/
def leV (nh : Nat) (u v : Vc) : Prop := ∀ o, o < nh → u o ≤ v o

/-- How many of the first n events are host o's. -/
def cntO (own : Nat → Nat) (o : Nat) : Nat → Nat
  | 0 => 0
  | n + 1 => cntO own o n + (if own n = o then 1 else 0)

theorem cntO_mono (own : Nat → Nat) (o : Nat) {m n : Nat} (h : m ≤ n) : cntO own o m ≤ cntO own o n := by
  induction n with
  | zero => rw [Nat.le_zero.1 h]; exact Nat.le_refl _
  | succ n ih =>
    by_cases e : m = n + 1
    · subst e; exact Nat.le_refl _
    · have := ih (by omega)
      simp only [cntO]
      omega

theorem cntO_le (own : Nat → Nat) (o : Nat) (n : Nat) : cntO own o n ≤ n := by
  induction n with
  | zero => exact Nat.le_refl _
  | succ n ih => simp only [cntO]; split <;> omega

/-- The number of an event among its host's: from 1. -/
def ownNo (own : Nat → Nat) (i : Nat) : Nat := cntO own (own i) (i + 1)

theorem ownNo_pos (own : Nat → Nat) (i : Nat) : 1 ≤ ownNo own i := by unfold ownNo; simp [cntO]

/-- Sum over the hosts. -/
def sumH (f : Nat → Nat) : Nat → Nat
  | 0 => 0
  | n + 1 => sumH f n + f n

theorem sumH_congr {f g : Nat → Nat} : ∀ n, (∀ o, o < n → f o = g o) → sumH f n = sumH g n
  | 0, _ => rfl
  | n + 1, h => by simp only [sumH]; rw [sumH_congr n (fun o ho => h o (by omega)), h n (by omega)]

theorem sumH_add (f g : Nat → Nat) : ∀ n, sumH (fun o => f o + g o) n = sumH f n + sumH g n
  | 0 => rfl
  | n + 1 => by simp only [sumH]; rw [sumH_add f g n]; omega

theorem sumH_single (a : Nat) : ∀ n, a < n → sumH (fun o => if a = o then 1 else 0) n = 1
  | 0, h => by omega
  | n + 1, h => by
    simp only [sumH]
    by_cases e : a = n
    · subst e
      rw [sumH_congr (g := fun _ => 0) a (fun o ho => by rw [if_neg (by omega)])]
      have : ∀ m, sumH (fun _ => 0) m = 0 := fun m => by induction m with
        | zero => rfl
        | succ m ih => simp only [sumH]; rw [ih]
      rw [this]; simp
    · rw [sumH_single a n (by omega), if_neg e]

theorem sumH_zero : ∀ n, sumH (fun _ => 0) n = 0
  | 0 => rfl
  | n + 1 => by simp only [sumH]; rw [sumH_zero n]

/-- How many of the first n fit. -/
def cntP (p : Nat → Bool) : Nat → Nat
  | 0 => 0
  | n + 1 => cntP p n + (if p n then 1 else 0)

theorem cntP_congr {p q : Nat → Bool} : ∀ n, (∀ i, i < n → p i = q i) → cntP p n = cntP q n
  | 0, _ => rfl
  | n + 1, h => by simp only [cntP]; rw [cntP_congr n (fun o ho => h o (by omega)), h n (by omega)]

theorem cntP_le (p : Nat → Bool) : ∀ n, cntP p n ≤ n
  | 0 => Nat.le_refl _
  | n + 1 => by have := cntP_le p n; simp only [cntP]; split <;> omega

theorem cntP_none : ∀ n, cntP (fun _ => false) n = 0
  | 0 => rfl
  | n + 1 => by simp only [cntP]; rw [cntP_none n]; rfl

/-- .. of one host: as many as the smaller of u's entry and how many there are. -/
theorem cnt_host (own : Nat → Nat) (u : Vc) (o : Nat) : ∀ n, cntP (fun i => decide (own i = o) && decide (ownNo own i ≤ u o)) n = min (u o) (cntO own o n)
  | 0 => by simp [cntP, cntO]
  | n + 1 => by
    simp only [cntP, cntO]
    rw [cnt_host own u o n]
    by_cases e : own n = o
    · have h1 : ownNo own n = cntO own o n + 1 := by unfold ownNo; rw [e]; simp [cntO, e]
      by_cases h2 : ownNo own n ≤ u o
      · simp [e, h2]; omega
      · simp [e, h2]; omega
    · simp [e]

theorem cnt_split (own : Nat → Nat) (nh : Nat) (p : Nat → Bool) : ∀ n, (∀ i, i < n → own i < nh) → cntP p n = sumH (fun o => cntP (fun i => decide (own i = o) && p i) n) nh
  | 0, _ => by simp only [cntP]; rw [sumH_zero]
  | n + 1, h => by
    simp only [cntP]
    rw [cnt_split own nh p n (fun i hi => h i (by omega)), sumH_add]
    congr 1
    by_cases hp : p n = true
    · rw [sumH_congr (g := fun o => if own n = o then 1 else 0) nh (fun o _ => by simp [hp])]
      rw [sumH_single (own n) nh (h n (by omega))]; simp [hp]
    · rw [sumH_congr (g := fun _ => 0) nh (fun o _ => by simp [hp])]
      rw [sumH_zero]; simp [hp]

/-- A clock that is consistent with the first n events. -/
def Cons (nh : Nat) (own : Nat → Nat) (vc : Nat → Vc) (n : Nat) (u : Vc) : Prop :=
  (∀ i, i < n → ownNo own i ≤ u (own i) → leV nh (vc i) u) ∧ ∀ o, o < nh → u o ≤ cntO own o n

/-- The whole log so far. -/
structure Log (nh : Nat) (own : Nat → Nat) (vc : Nat → Vc) (n : Nat) : Prop where
  host : ∀ i, i < n → own i < nh
  self : ∀ i, i < n → vc i (own i) = ownNo own i
  cons : ∀ i, i < n → Cons nh own vc n (vc i)
  early : ∀ i, i < n → ∀ o, o < nh → vc i o ≤ cntO own o (i + 1)

theorem le_iff {nh : Nat} {own : Nat → Nat} {vc : Nat → Vc} {n : Nat} (L : Log nh own vc n) {u : Vc} (hu : Cons nh own vc n u) {i : Nat} (hi : i < n) : leV nh (vc i) u ↔ ownNo own i ≤ u (own i) := by
  constructor
  · intro h
    rw [← L.self i hi]
    exact h _ (L.host i hi)
  · exact hu.1 i hi

/-- Of a consistent clock: how many of the first n events are at most it. -/
theorem cnt_le_sum {nh : Nat} {own : Nat → Nat} {vc : Nat → Vc} {n : Nat} (L : Log nh own vc n) {u : Vc} (hu : Cons nh own vc n u) (p : Nat → Bool) (hp : ∀ i, i < n → (p i = true ↔ leV nh (vc i) u)) :
    cntP p n = sumH u nh := by
  rw [cnt_split own nh p n L.host]
  refine sumH_congr nh fun o ho => ?_
  rw [cntP_congr (q := fun i => decide (own i = o) && decide (ownNo own i ≤ u o)) n ?_]
  · rw [cnt_host]
    exact Nat.min_eq_left (hu.2 o ho)
  · intro i hi
    by_cases e : own i = o
    · simp only [e, decide_true, Bool.true_and]
      rw [Bool.eq_iff_iff, hp i hi, le_iff L hu hi, e]
      simp
    · simp [e]

theorem cons_max {nh : Nat} {own : Nat → Nat} {vc : Nat → Vc} {n : Nat} {u v : Vc} (hu : Cons nh own vc n u) (hv : Cons nh own vc n v) : Cons nh own vc n (fun o => max (u o) (v o)) := by
  refine ⟨fun i hi h => ?_, fun o ho => ?_⟩
  · have h' : ownNo own i ≤ max (u (own i)) (v (own i)) := h
    by_cases h1 : ownNo own i ≤ u (own i)
    · intro o ho
      exact Nat.le_trans (hu.1 i hi h1 o ho) (Nat.le_max_left _ _)
    · intro o ho
      exact Nat.le_trans (hv.1 i hi (by omega) o ho) (Nat.le_max_right _ _)
  · exact Nat.max_le.2 ⟨hu.2 o ho, hv.2 o ho⟩

/-- The next event's clock: u with its own entry raised. -/
def bump (u : Vc) (a : Nat) : Vc := fun o => if o = a then u o + 1 else u o
/-- A function with one value more. -/
def snoc {α : Type} (f : Nat → α) (n : Nat) (x : α) : Nat → α := fun i => if i = n then x else f i

theorem snoc_lt {α : Type} (f : Nat → α) {n i : Nat} (x : α) (h : i < n) : snoc f n x i = f i := by unfold snoc; rw [if_neg (by omega)]
theorem snoc_at {α : Type} (f : Nat → α) (n : Nat) (x : α) : snoc f n x n = x := by unfold snoc; rw [if_pos rfl]

theorem cntO_snoc (own : Nat → Nat) (n a o : Nat) : ∀ m, m ≤ n → cntO (snoc own n a) o m = cntO own o m
  | 0, _ => rfl
  | m + 1, h => by simp only [cntO]; rw [cntO_snoc own n a o m (by omega), snoc_lt own a (by omega)]

theorem cntO_snoc_succ (own : Nat → Nat) (n a o : Nat) : cntO (snoc own n a) o (n + 1) = cntO own o n + (if a = o then 1 else 0) := by
  simp only [cntO]; rw [cntO_snoc own n a o n (Nat.le_refl _), snoc_at]

theorem ownNo_snoc (own : Nat → Nat) {n i : Nat} (a : Nat) (h : i < n) : ownNo (snoc own n a) i = ownNo own i := by
  unfold ownNo; rw [snoc_lt own a h, cntO_snoc own n a _ (i + 1) (by omega)]

theorem ownNo_last (own : Nat → Nat) (n a : Nat) : ownNo (snoc own n a) n = cntO own a n + 1 := by
  unfold ownNo; rw [snoc_at, cntO_snoc_succ]; simp

theorem cons_old {nh : Nat} {own : Nat → Nat} {vc : Nat → Vc} {n : Nat} {w : Vc} (hw : Cons nh own vc n w) (a : Nat) (ha : a < nh) (v : Vc) : Cons nh (snoc own n a) (snoc vc n v) (n + 1) w := by
  refine ⟨fun i hi h => ?_, fun o ho => ?_⟩
  · by_cases e : i = n
    · subst e
      rw [ownNo_last, snoc_at] at h
      have := hw.2 a ha
      omega
    · rw [ownNo_snoc own a (by omega), snoc_lt own a (by omega)] at h
      rw [snoc_lt vc v (by omega)]
      exact hw.1 i (by omega) h
  · rw [cntO_snoc_succ]
    have := hw.2 o ho
    omega

theorem cons_new {nh : Nat} {own : Nat → Nat} {vc : Nat → Vc} {n : Nat} {u : Vc} (hu : Cons nh own vc n u) (a : Nat) (hown : u a = cntO own a n) : Cons nh (snoc own n a) (snoc vc n (bump u a)) (n + 1) (bump u a) := by
  refine ⟨fun i hi h => ?_, fun o ho => ?_⟩
  · by_cases e : i = n
    · subst e
      rw [snoc_at]
      exact fun o _ => Nat.le_refl _
    · have hi' : i < n := by omega
      rw [ownNo_snoc own a hi', snoc_lt own a hi'] at h
      rw [snoc_lt vc _ hi']
      have h2 : ownNo own i ≤ u (own i) := by
        unfold bump at h
        by_cases e2 : own i = a
        · rw [e2, hown]
          unfold ownNo
          rw [e2]
          exact cntO_mono own a (by omega)
        · rw [if_neg e2] at h; exact h
      intro o ho
      refine Nat.le_trans (hu.1 i hi' h2 o ho) ?_
      unfold bump
      split <;> omega
  · rw [cntO_snoc_succ]
    have := hu.2 o ho
    unfold bump
    by_cases e : o = a
    · subst e; simp; omega
    · rw [if_neg e, if_neg (fun h => e h.symm)]; omega

theorem log_snoc {nh : Nat} {own : Nat → Nat} {vc : Nat → Vc} {n : Nat} (L : Log nh own vc n) {u : Vc} (hu : Cons nh own vc n u) (a : Nat) (ha : a < nh) (hown : u a = cntO own a n) : Log nh (snoc own n a) (snoc vc n (bump u a)) (n + 1) := by
  refine ⟨fun i hi => ?_, fun i hi => ?_, fun i hi => ?_, fun i hi o ho => ?_⟩
  · by_cases e : i = n
    · subst e; rw [snoc_at]; exact ha
    · rw [snoc_lt own a (by omega)]; exact L.host i (by omega)
  · by_cases e : i = n
    · subst e
      rw [snoc_at, snoc_at, ownNo_last]
      unfold bump
      rw [if_pos rfl, hown]
    · rw [snoc_lt vc _ (by omega), snoc_lt own a (by omega), ownNo_snoc own a (by omega)]
      exact L.self i (by omega)
  · by_cases e : i = n
    · subst e
      rw [snoc_at]
      exact cons_new hu a hown
    · rw [snoc_lt vc _ (by omega)]
      exact cons_old (L.cons i (by omega)) a ha _
  · by_cases e : i = n
    · subst e
      rw [snoc_at]
      exact (cons_new hu a hown).2 o ho
    · rw [snoc_lt vc _ (by omega), cntO_snoc own n a o (i + 1) (by omega)]
      exact L.early i (by omega) o ho

/-- A later event's clock is at most no earlier one's. -/
theorem not_le_later {nh : Nat} {own : Nat → Nat} {vc : Nat → Vc} {n : Nat} (L : Log nh own vc n) {i j : Nat} (hij : i < j) (hj : j < n) : ¬ leV nh (vc j) (vc i) := by
  intro h
  have h1 := h (own j) (L.host j hj)
  rw [L.self j hj] at h1
  have h2 := L.early i (by omega) (own j) (L.host j hj)
  have h3 : ownNo own j = cntO own (own j) j + 1 := by unfold ownNo; simp [cntO]
  have h4 := cntO_mono own (own j) (show i + 1 ≤ j by omega)
  omega

theorem cntP_upto (p : Nat → Bool) (j : Nat) : ∀ n, j < n → p j = true → (∀ i, j < i → i < n → p i = false) → cntP p n = cntP p j + 1
  | 0, h, _, _ => by omega
  | n + 1, h, h1, h2 => by
    simp only [cntP]
    by_cases e : j = n
    · subst e; rw [h1]; simp
    · rw [cntP_upto p j n (by omega) h1 (fun i a b => h2 i a (by omega)), h2 n (by omega) (by omega)]
      simp

theorem cntP_not (p : Nat → Bool) : ∀ n, cntP (fun i => !p i) n + cntP p n = n
  | 0 => rfl
  | n + 1 => by
    have := cntP_not p n
    simp only [cntP]
    by_cases h : p n = true <;> simp [h] <;> omega

/-- How many earlier events are concurrent with event j. -/
theorem conc_at {nh : Nat} {own : Nat → Nat} {vc : Nat → Vc} {n : Nat} (L : Log nh own vc n) (le : Nat → Nat → Bool) (hle : ∀ i j, i < n → j < n → (le i j = true ↔ leV nh (vc i) (vc j))) {j : Nat} (hj : j < n) :
    cntP (fun i => !le i j && !le j i) j + sumH (vc j) nh = j + 1 := by
  have h1 := cnt_le_sum L (L.cons j hj) (fun i => le i j) (fun i hi => hle i j hi hj)
  have h2 := cntP_upto (fun i => le i j) j n hj ((hle j j hj hj).2 (fun o _ => Nat.le_refl _)) (fun i a b => by
    have := not_le_later L a b
    cases h : le i j
    · rfl
    · exact absurd ((hle i j b hj).1 h) this)
  have h3 : cntP (fun i => !le i j && !le j i) j = cntP (fun i => !le i j) j := cntP_congr j fun i hi => by
    have := not_le_later L hi hj
    have h5 : le j i = false := by
      cases h : le j i
      · rfl
      · exact absurd ((hle j i hj (by omega)).1 h) this
    rw [h5]; simp
  have h4 := cntP_not (fun i => le i j) j
  omega

/-! ### sums of integers -/
def sumI (f : Nat → Int) : Nat → Int
  | 0 => 0
  | n + 1 => sumI f n + f n

theorem sumI_congr {f g : Nat → Int} : ∀ n, (∀ o, o < n → f o = g o) → sumI f n = sumI g n
  | 0, _ => rfl
  | n + 1, h => by simp only [sumI]; rw [sumI_congr n (fun o ho => h o (by omega)), h n (by omega)]
theorem sumI_add (f g : Nat → Int) : ∀ n, sumI (fun o => f o + g o) n = sumI f n + sumI g n
  | 0 => rfl
  | n + 1 => by simp only [sumI]; rw [sumI_add f g n]; omega
theorem sumI_zero : ∀ n, sumI (fun _ => 0) n = 0
  | 0 => rfl
  | n + 1 => by simp only [sumI]; rw [sumI_zero n]; rfl

/-- k * (k - 1) / 2, as Go reckons it. -/
def tri (k : Nat) : Int := (k : Int) * ((k : Int) - 1) / 2

theorem tri_succ (k : Nat) : tri (k + 1) = tri k + k := by
  unfold tri
  have e : ((k + 1 : Nat) : Int) * (((k + 1 : Nat) : Int) - 1) = (k : Int) * ((k : Int) - 1) + (k : Int) * 2 := by
    have e1 : (((k + 1 : Nat) : Int) - 1) = (k : Int) := by omega
    rw [e1]
    have e2 : ((k + 1 : Nat) : Int) = (k : Int) + 1 := by omega
    rw [e2, Int.add_mul, Int.mul_sub, Int.one_mul, Int.mul_one]
    omega
  rw [e, Int.add_mul_ediv_right _ _ (by decide)]

theorem tri_sum : ∀ n, tri n = sumI (fun j => (j : Int)) n
  | 0 => rfl
  | n + 1 => by rw [tri_succ, tri_sum n]; rfl

/-- The pairs of one host, host by host; and event by event. -/
theorem tri_hosts (own : Nat → Nat) (nh : Nat) : ∀ n, (∀ i, i < n → own i < nh) → sumI (fun o => tri (cntO own o n)) nh = sumI (fun j => (ownNo own j : Int) - 1) n
  | 0, _ => by
    exact (sumI_congr (g := fun _ => 0) nh (fun o _ => rfl)).trans (sumI_zero nh)
  | n + 1, h => by
    have e : ∀ o, o < nh → tri (cntO own o (n + 1)) = tri (cntO own o n) + (if own n = o then (cntO own o n : Int) else 0) := by
      intro o _
      simp only [cntO]
      by_cases e : own n = o
      · simp only [e, if_true]; exact tri_succ _
      · simp [e]
    rw [sumI_congr nh e, sumI_add, tri_hosts own nh n (fun i hi => h i (by omega))]
    simp only [sumI]
    congr 1
    have : ∀ m, own n < m → sumI (fun o => if own n = o then (cntO own o n : Int) else 0) m = cntO own (own n) n := by
      intro m
      induction m with
      | zero => intro h; omega
      | succ m ih =>
        intro hm
        simp only [sumI]
        by_cases e : own n = m
        · rw [sumI_congr (g := fun _ => 0) m (fun o ho => by rw [if_neg (by omega)]), sumI_zero, if_pos e, e]; omega
        · rw [ih (by omega), if_neg e]; omega
    rw [this nh (h n (by omega))]
    have h3 : ownNo own n = cntO own (own n) n + 1 := by unfold ownNo; simp [cntO]
    omega

/-- The entries for hosts other than the event's own. -/
def others (nh : Nat) (own : Nat → Nat) (vc : Nat → Vc) (i : Nat) : Nat := sumH (fun o => if o = own i then 0 else vc i o) nh

theorem sumH_others (f : Vc) (a : Nat) : ∀ nh, a < nh → sumH (fun o => if o = a then 0 else f o) nh + f a = sumH f nh
  | 0, h => by omega
  | n + 1, h => by
    simp only [sumH]
    by_cases e : a = n
    · subst e
      rw [if_pos rfl, sumH_congr (g := f) a (fun o ho => by rw [if_neg (by omega)])]
      omega
    · have := sumH_others f a n (by omega)
      rw [if_neg (fun h => e h.symm)]
      omega

/-- THE LAW: what NumConcurrentPairs reckons is how many pairs are concurrent. -/
theorem pairs_law {nh : Nat} {own : Nat → Nat} {vc : Nat → Vc} {n : Nat} (L : Log nh own vc n) (le : Nat → Nat → Bool) (hle : ∀ i j, i < n → j < n → (le i j = true ↔ leV nh (vc i) (vc j))) :
    tri n - sumI (fun o => tri (cntO own o n)) nh - sumI (fun i => (others nh own vc i : Int)) n = sumI (fun j => (cntP (fun i => !le i j && !le j i) j : Int)) n := by
  rw [tri_sum, tri_hosts own nh n L.host]
  have e : sumI (fun j => (j : Int)) n = sumI (fun j => (cntP (fun i => !le i j && !le j i) j : Int)) n + sumI (fun j => ((ownNo own j : Int) - 1)) n + sumI (fun i => (others nh own vc i : Int)) n := by
    rw [← sumI_add, ← sumI_add]
    refine sumI_congr n fun j hj => ?_
    have h1 := conc_at L le hle hj
    have h2 := sumH_others (vc j) (own j) nh (L.host j hj)
    have h3 := L.self j hj
    have h4 : others nh own vc j = sumH (fun o => if o = own j then 0 else vc j o) nh := rfl
    omega
  rw [e]
  omega

/-- The pairs counted by their first event. -/
theorem sum_swap (f : Nat → Nat → Bool) : ∀ n, sumI (fun j => (cntP (fun i => f i j) j : Int)) n = sumI (fun i => (cntP (fun d => f i (i + 1 + d)) (n - (i + 1)) : Int)) n
  | 0 => rfl
  | n + 1 => by
    have e : ∀ i, i < n → (cntP (fun d => f i (i + 1 + d)) (n + 1 - (i + 1)) : Int) = (cntP (fun d => f i (i + 1 + d)) (n - (i + 1)) : Int) + (if f i n then 1 else 0) := by
      intro i hi
      rw [show n + 1 - (i + 1) = (n - (i + 1)) + 1 from by omega]
      have e2 : i + 1 + (n - (i + 1)) = n := by omega
      simp only [cntP, e2]
      split <;> omega
    simp only [sumI]
    rw [sumI_congr n e, sumI_add, sum_swap f n]
    have h0 : (cntP (fun d => f n (n + 1 + d)) (n + 1 - (n + 1)) : Int) = 0 := by rw [Nat.sub_self]; rfl
    rw [h0]
    have h1 : ∀ m, (cntP (fun i => f i n) m : Int) = sumI (fun i => if f i n then 1 else 0) m := by
      intro m
      induction m with
      | zero => rfl
      | succ m ih => simp only [cntP, sumI]; rw [← ih]; split <;> omega
    rw [h1]
    omega

end Go.Proofs.Ybulkcubo
