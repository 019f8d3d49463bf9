import PyProof.Rows.All
import Wide.All
import OpenK.AllK
import Wide.FinOn
import PySem.Challenge.RW_pg0008_01
set_option Elab.async false
set_option rowWalk.seconds 0

section
namespace Mine

/-- Python's `<` of two lists of numbers -/
def lx : List Nat → List Nat → Bool
  | [], [] => false
  | [], _ :: _ => true
  | _ :: _, [] => false
  | a :: r, b :: q => if a = b then lx r q else decide (a < b)

/-- the words behind the last cut: its tail `m`, the word so far `cur`, what is left -/
def wk (m cur : List Nat) : List Nat → List (List Nat)
  | [] => [cur]
  | a :: r => if lx (a :: r) m then cur :: wk (a :: r) [a] r else wk m (cur ++ [a]) r

def words : List Nat → List (List Nat)
  | [] => []
  | a :: r => wk (a :: r) [a] r

def told (t : Nat) : List Nat → List Nat
  | [] => []
  | a :: r => a :: ((if a = 10 ∧ r.head? = some 46 then List.replicate t 46 else []) ++ told t r)

def quoteB (bol : Bool) : List Nat → List Nat
  | [] => []
  | a :: r => if bol = true ∧ a = 46 then 46 :: 46 :: quoteB false r else a :: quoteB (a == 10) r

theorem told_head (t : Nat) (s : List Nat) : (told t s).head? = s.head? := by
  cases s <;> simp [told]

theorem told_zero (s : List Nat) : told 0 s = s := by
  induction s with
  | nil => rfl
  | cons a r ih => simp [told, ih]

theorem lx_self (x : List Nat) : lx x x = false := by
  induction x with
  | nil => rfl
  | cons a r ih => simp [lx, ih]

theorem lx_app (p x y : List Nat) : lx (p ++ x) (p ++ y) = lx x y := by
  induction p with
  | nil => rfl
  | cons a r ih => simp [lx, ih]

theorem lx_told (t : Nat) : ∀ x y : List Nat, lx (told t x) (told t y) = lx x y := by
  intro x
  induction x with
  | nil => intro y; cases y <;> simp [told, lx]
  | cons a r ih =>
    intro y
    cases y with
    | nil => simp [told, lx]
    | cons b q =>
      simp only [told, lx]
      by_cases hab : a = b
      · subst hab
        simp only [if_true]
        by_cases ha : a = 10
        · subst ha
          by_cases h1 : r.head? = some 46 <;> by_cases h2 : q.head? = some 46
          · simp only [h1, h2, and_self, if_true]; rw [lx_app, ih]
          · simp only [h1, h2, and_self, and_false, if_true, if_false, List.nil_append]
            cases t with
            | zero => simp [ih]
            | succ t =>
              cases r with
              | nil => simp at h1
              | cons c r =>
                simp at h1; subst h1
                cases q with
                | nil => simp [told, List.replicate_succ, lx]
                | cons d q =>
                  simp at h2
                  have : ¬ 46 = d := fun e => h2 e.symm
                  simp [told, List.replicate_succ, lx, this]
          · simp only [h1, h2, and_self, and_false, if_true, if_false, List.nil_append]
            cases t with
            | zero => simp [ih]
            | succ t =>
              cases q with
              | nil => simp at h2
              | cons c q =>
                simp at h2; subst h2
                cases r with
                | nil => simp [told, List.replicate_succ, lx]
                | cons d r =>
                  simp at h1
                  simp [told, List.replicate_succ, lx, h1]
          · simp only [h1, h2, and_false, if_false, List.nil_append]; exact ih q
        · simp [ha, ih]
      · simp [hab]

/-- dots behind a cut that begins with a feed are no cuts -/
theorem wk_dots (m r : List Nat) (t : Nat) : ∀ cur, wk (10 :: m) cur (List.replicate t 46 ++ r) = wk (10 :: m) (cur ++ List.replicate t 46) r := by
  induction t with
  | zero => intro cur; simp
  | succ t ih =>
    intro cur
    rw [List.replicate_succ, List.cons_append, wk]
    have : lx (46 :: (List.replicate t 46 ++ r)) (10 :: m) = false := by simp [lx]
    rw [this]; simp only [Bool.false_eq_true, if_false]
    rw [ih]; simp

/-- what `told` puts between a word and what is behind it -/
def gap (t : Nat) (cur r : List Nat) : List Nat := if cur.getLast? = some 10 ∧ r.head? = some 46 then List.replicate t 46 else []

theorem gap_cons2 (t a b : Nat) (c r : List Nat) : gap t (a :: b :: c) r = gap t (b :: c) r := by simp [gap, List.getLast?_cons_cons]
theorem gap_snoc (t a : Nat) (cur r : List Nat) : gap t (cur ++ [a]) r = gap t [a] r := by simp [gap]
theorem gap_head (t a : Nat) (cur r : List Nat) : gap t cur (a :: r) = gap t cur [a] := by simp [gap]
theorem gap_nil (t : Nat) (cur : List Nat) : gap t cur [] = [] := by simp [gap]
theorem told_cons (t a : Nat) (r : List Nat) : told t (a :: r) = a :: (gap t [a] r ++ told t r) := by simp [told, gap]

theorem told_app (t : Nat) (r : List Nat) : ∀ cur, told t (cur ++ r) = told t cur ++ gap t cur r ++ told t r := by
  intro cur
  induction cur with
  | nil => simp [told, gap]
  | cons a c ih =>
    cases c with
    | nil => simp [told, gap]
    | cons b c =>
      rw [gap_cons2, List.cons_append, told_cons, ih, told_cons t a (b :: c)]
      simp [gap_head t b [a]]

theorem told_snoc (t : Nat) (cur : List Nat) (a : Nat) : told t (cur ++ [a]) = told t cur ++ gap t cur [a] ++ [a] := by
  rw [told_app]; simp [told]

theorem wk_gap (t : Nat) (m r cur c x : List Nat) : wk (10 :: m) cur (gap t c x ++ r) = wk (10 :: m) (cur ++ gap t c x) r := by
  unfold gap
  split
  · exact wk_dots m r t cur
  · simp

theorem wk_told (t : Nat) : ∀ (s m cur : List Nat), (∀ x ∈ s, 10 ≤ x) → wk (told t (10 :: m)) (told t cur) (gap t cur s ++ told t s) = (wk (10 :: m) cur s).map (told t) := by
  intro s
  induction s with
  | nil => intro m cur _; simp [gap_nil, told, wk]
  | cons a r ih =>
    intro m cur hs
    have hr : ∀ x ∈ r, 10 ≤ x := fun x hx => hs x (List.mem_cons_of_mem _ hx)
    have ha : 10 ≤ a := hs a (by simp)
    rw [told_cons t 10 m, wk_gap, ← told_cons t 10 m, told_cons t a r, wk, ← told_cons t a r, lx_told, wk]
    by_cases hl : lx (a :: r) (10 :: m) = true
    · simp only [hl, if_true, List.map_cons]
      have h10 : a = 10 := by
        simp only [lx] at hl
        split at hl
        · assumption
        · have := of_decide_eq_true hl; omega
      subst h10
      have hg : gap t cur (10 :: r) = [] := by simp [gap]
      have := ih r [10] hr
      have h1 : told t [10] = [10] := by simp [told]
      rw [h1] at this
      rw [this, hg]; simp
    · simp only [hl]
      have := ih m (cur ++ [a]) hr
      rw [told_snoc, gap_snoc, ← gap_head t a cur r] at this
      simpa using this

theorem words_told (t : Nat) (r : List Nat) (hr : ∀ x ∈ r, 10 ≤ x) : words (told t (10 :: r)) = (words (10 :: r)).map (told t) := by
  have := wk_told t r r [10] hr
  have h1 : told t [10] = [10] := by simp [told]
  rw [h1] at this
  rw [told_cons]
  simp only [words]
  rw [← told_cons]
  exact this

theorem quoteB_head (b : Bool) (s : List Nat) (h : s.head? ≠ some 46) : quoteB b s = quoteB false s := by
  cases s with
  | nil => rfl
  | cons a r =>
    have : ¬ a = 46 := by simpa using h
    simp [quoteB, this]
theorem quoteB_dots (n : Nat) (r : List Nat) : quoteB false (List.replicate n 46 ++ r) = List.replicate n 46 ++ quoteB false r := by
  induction n with
  | zero => simp
  | succ n ih => simp [List.replicate_succ, quoteB, ih]

theorem quote_told (t : Nat) : ∀ s, quoteB false (told t s) = told (t + 1) s := by
  intro s
  induction s with
  | nil => rfl
  | cons a r ih =>
    rw [told_cons, told_cons, quoteB]
    simp only [Bool.false_eq_true, false_and, if_false]
    congr 1
    unfold gap
    by_cases hc : ([a] : List Nat).getLast? = some 10 ∧ r.head? = some 46
    · simp only [hc, if_true, and_self]
      have ha : a = 10 := by simpa using hc.1
      subst ha
      cases t with
      | zero =>
        cases r with
        | nil => simp at hc
        | cons b r =>
          have : b = 46 := by simpa using hc.2
          subst this
          rw [told_cons] at ih ⊢
          simp only [List.replicate_zero, List.nil_append]
          rw [told_cons] at ih ⊢
          simp only [quoteB, Bool.false_eq_true, false_and, if_false] at ih
          simp [quoteB] at ih ⊢
          exact ih
      | succ t =>
        rw [List.replicate_succ, List.cons_append, quoteB]
        simp only [BEq.rfl, and_self, if_true]
        rw [quoteB_dots, ih]
        simp [List.replicate_succ]
    · simp only [hc, if_false, List.nil_append]
      rw [← ih]
      by_cases ha : a = 10
      · subst ha
        refine quoteB_head _ _ ?_
        rw [told_head]
        intro e; exact hc ⟨by simp, e⟩
      · have : (a == 10) = false := by simp [ha]
        rw [this]

theorem quote_told10 (t : Nat) (r : List Nat) : quoteB true (told t (10 :: r)) = told (t + 1) (10 :: r) := by
  rw [quoteB_head _ _ (by rw [told_head]; simp), quote_told]

theorem quote_word (t : Nat) (r : List Nat) : (told t (10 :: r)).take 1 ++ quoteB true ((told t (10 :: r)).drop 1) = told (t + 1) (10 :: r) := by
  rw [← quote_told10, told_cons]
  simp [quoteB]

theorem wk_heads : ∀ (s m cur : List Nat), (∀ x ∈ s, 10 ≤ x) → cur.head? = some 10 → ∀ u ∈ wk (10 :: m) cur s, u.head? = some 10 := by
  intro s
  induction s with
  | nil => intro m cur _ hc u hu; simp [wk] at hu; subst hu; exact hc
  | cons a r ih =>
    intro m cur hs hc u hu
    have hr : ∀ x ∈ r, 10 ≤ x := fun x hx => hs x (List.mem_cons_of_mem _ hx)
    have ha : 10 ≤ a := hs a (by simp)
    rw [wk] at hu
    by_cases hl : lx (a :: r) (10 :: m) = true
    · simp only [hl, if_true, List.mem_cons] at hu
      have h10 : a = 10 := by
        simp only [lx] at hl
        split at hl
        · assumption
        · have := of_decide_eq_true hl; omega
      subst h10
      rcases hu with rfl | hu
      · exact hc
      · exact ih r [10] hr rfl u hu
    · simp only [hl] at hu
      refine ih m (cur ++ [a]) hr ?_ u hu
      cases cur with
      | nil => simp at hc
      | cons c cs => simpa using hc

theorem words_heads (r : List Nat) (hr : ∀ x ∈ r, 10 ≤ x) : ∀ u ∈ words (10 :: r), ∃ v, u = 10 :: v := by
  intro u hu
  have := wk_heads r r [10] hr rfl u hu
  cases u with
  | nil => simp at this
  | cons a v => exact ⟨v, by simp at this; rw [this]⟩

end Mine

end

section
namespace Mine

abbrev at_ (s : List Nat) (i : Nat) : Nat := s.getD i 0

theorem drop_at (s : List Nat) (a : Nat) (h : a < s.length) : s.drop a = at_ s a :: s.drop (a + 1) := by
  rw [List.drop_eq_getElem_cons h]
  simp [at_, h]

theorem lx_drop (s : List Nat) : ∀ (e a b : Nat), (∀ x, x < e → at_ s (a + x) = at_ s (b + x)) → a + e < s.length → b + e < s.length → at_ s (a + e) < at_ s (b + e) →
    lx (s.drop a) (s.drop b) = true ∧ lx (s.drop b) (s.drop a) = false := by
  intro e
  induction e with
  | zero =>
    intro a b _ ha hb hlt
    simp only [Nat.add_zero] at ha hb hlt
    rw [drop_at s a ha, drop_at s b hb]
    have h1 : ¬ at_ s a = at_ s b := by omega
    have h2 : ¬ at_ s b = at_ s a := by omega
    have h3 : ¬ at_ s b < at_ s a := by omega
    simp only [lx, if_neg h1, if_neg h2]
    exact ⟨decide_eq_true hlt, decide_eq_false h3⟩
  | succ e ih =>
    intro a b heq ha hb hlt
    have h0 := heq 0 (by omega)
    simp only [Nat.add_zero] at h0
    rw [drop_at s a (by omega), drop_at s b (by omega)]
    simp only [lx, if_pos h0, if_pos h0.symm]
    refine ih (a + 1) (b + 1) (fun x hx => ?_) (by omega) (by omega) ?_
    · have := heq (x + 1) (by omega)
      rwa [show a + 1 + x = a + (x + 1) by omega, show b + 1 + x = b + (x + 1) by omega]
    · rwa [show a + 1 + e = a + (e + 1) by omega, show b + 1 + e = b + (e + 1) by omega]

theorem lx_drop_end (s : List Nat) : ∀ (k a b : Nat), k = s.length - a → a ≤ s.length → b < a → (∀ x, a + x < s.length → at_ s (a + x) = at_ s (b + x)) →
    lx (s.drop a) (s.drop b) = true := by
  intro k
  induction k with
  | zero =>
    intro a b hk ha hb _
    have : a = s.length := by omega
    rw [this, List.drop_length, drop_at s b (by omega)]
    rfl
  | succ k ih =>
    intro a b hk ha hb heq
    have h0 := heq 0 (by omega)
    simp only [Nat.add_zero] at h0
    rw [drop_at s a (by omega), drop_at s b (by omega)]
    simp only [lx, if_pos h0]
    refine ih (a + 1) (b + 1) (by omega) (by omega) (by omega) fun x hx => ?_
    have := heq (x + 1) (by omega)
    rwa [show a + 1 + x = a + (x + 1) by omega, show b + 1 + x = b + (x + 1) by omega]

theorem wk_step (z : List Nat) (p : Nat) (hp : p ≤ z.length) (h1 : ∀ d, 0 < d → d < p → lx (z.drop d) z = false) (h2 : lx (z.drop p) z = true) :
    ∀ k q, k = p - q → 0 < q → q ≤ p → wk z (z.take q) (z.drop q) = z.take p :: words (z.drop p) := by
  intro k
  induction k with
  | zero =>
    intro q hk hq hqp
    have : q = p := by omega
    subst this
    cases hd : z.drop q with
    | nil => simp [wk, words]
    | cons a r =>
      rw [hd] at h2
      simp [wk, words, h2]
  | succ k ih =>
    intro q hk hq hqp
    have hlt : q < z.length := by omega
    have hd := drop_at z q hlt
    have hl := h1 q hq (by omega)
    rw [hd, wk, ← hd, hl]
    simp only [Bool.false_eq_true, if_false]
    have ht : z.take q ++ [at_ z q] = z.take (q + 1) := by
      rw [List.take_add_one]; simp [at_, hlt]
    rw [ht]
    exact ih (q + 1) (by omega) (by omega) (by omega)

theorem words_step (z : List Nat) (p : Nat) (h0 : 0 < p) (hp : p ≤ z.length) (h1 : ∀ d, 0 < d → d < p → lx (z.drop d) z = false) (h2 : lx (z.drop p) z = true) :
    words z = z.take p :: words (z.drop p) := by
  rw [← wk_step z p hp h1 h2 (p - 1) 1 (by omega) (by omega) (by omega)]
  cases z with
  | nil => simp at hp; omega
  | cons a r => simp [words]

/-- what holds between the turns of Duval's inner loop -/
structure Inner (s : List Nat) (i k j : Nat) : Prop where
  ik : i ≤ k
  kj : k < j
  jn : j ≤ s.length
  per : ∀ r, i + r < j → at_ s (i + r) = at_ s (i + r % (j - k))
  lyn : ∀ d, 0 < d → d < j - k → ∃ e, d + e < j - k ∧ at_ s (i + e) < at_ s (i + d + e) ∧ ∀ x, x < e → at_ s (i + x) = at_ s (i + d + x)

theorem inner_init (s : List Nat) (i : Nat) (h : i < s.length) : Inner s i i (i + 1) := by
  refine ⟨Nat.le_refl _, by omega, by omega, fun r hr => ?_, fun d h0 h1 => by omega⟩
  have : r = 0 := by omega
  subst this
  simp

theorem inner_eq {s : List Nat} {i k j : Nat} (I : Inner s i k j) (hj : j < s.length) (he : at_ s k = at_ s j) : Inner s i (k + 1) (j + 1) := by
  have hik := I.ik
  have hkj := I.kj
  have hp : j + 1 - (k + 1) = j - k := by omega
  refine ⟨by omega, by omega, by omega, fun r hr => ?_, ?_⟩
  · rw [hp]
    by_cases h : i + r < j
    · exact I.per r h
    · have hr' : i + r = j := by omega
      have h1 := I.per (r - (j - k)) (by omega)
      rw [show i + (r - (j - k)) = k by omega] at h1
      have h2 : (r - (j - k)) % (j - k) = r % (j - k) := by
        have : r = (r - (j - k)) + (j - k) := by omega
        conv => rhs; rw [this]
        rw [Nat.add_mod_right]
      rw [h2] at h1
      rw [hr', ← he, h1]
  · rw [hp]; exact I.lyn

theorem inner_lt {s : List Nat} {i k j : Nat} (I : Inner s i k j) (hj : j < s.length) (hl : at_ s k < at_ s j) : Inner s i i (j + 1) := by
  have hik := I.ik
  have hkj := I.kj
  refine ⟨Nat.le_refl _, by omega, by omega, fun r hr => ?_, fun d h0 h1 => ?_⟩
  · rw [Nat.mod_eq_of_lt (by omega)]
  · -- p the old period; d = m p + t
    have hp0 : 0 < j - k := by omega
    have hdm := Nat.div_add_mod d (j - k)
    have htl := Nat.mod_lt d hp0
    -- `at (i + d + x)` below `j`
    have hper : ∀ x, i + (d + x) < j → at_ s (i + d + x) = at_ s (i + (d % (j - k) + x) % (j - k)) := by
      intro x hx
      rw [Nat.add_assoc, I.per (d + x) hx]
      simp [Nat.add_mod]
    have hk : at_ s k = at_ s (i + (j - i) % (j - k)) := by
      have h1 := I.per (k - i) (by omega)
      rw [show i + (k - i) = k by omega] at h1
      rw [h1]
      congr 2
      have : j - i = (k - i) + (j - k) := by omega
      rw [this, Nat.add_mod_right]
    by_cases ht : d % (j - k) = 0
    · refine ⟨j - i - d, by omega, ?_, fun x hx => ?_⟩
      · rw [show i + d + (j - i - d) = j by omega]
        have h1 := I.per (j - i - d) (by omega)
        rw [h1]
        have : (j - i - d) % (j - k) = (j - i) % (j - k) := by
          have h2 : j - i = (j - i - d) + d := by omega
          conv => rhs; rw [h2]
          rw [Nat.add_mod, ht, Nat.add_zero, Nat.mod_mod]
        rw [this, ← hk]; exact hl
      · rw [hper x (by omega), ht, Nat.zero_add, ← I.per x (by omega)]
    · obtain ⟨e, he1, he2, he3⟩ := I.lyn (d % (j - k)) (by omega) htl
      by_cases hc : i + (d + e) < j
      · refine ⟨e, by omega, ?_, fun x hx => ?_⟩
        · rw [hper e hc, Nat.mod_eq_of_lt he1, ← Nat.add_assoc]; exact he2
        · rw [hper x (by omega), Nat.mod_eq_of_lt (by omega), ← Nat.add_assoc]; exact he3 x hx
      · have hdj : i + d ≤ j := by omega
        have hle : j - i - d ≤ e := by omega
        have h5 : (j - i) % (j - k) = d % (j - k) + (j - i - d) := by
          have h6 : j - i = d + (j - i - d) := by omega
          conv => lhs; rw [h6]
          rw [Nat.add_mod, Nat.mod_eq_of_lt (show j - i - d < j - k by omega), Nat.mod_eq_of_lt (by omega)]
        refine ⟨j - i - d, by omega, ?_, fun x hx => ?_⟩
        · rw [show i + d + (j - i - d) = j by omega]
          refine Nat.lt_of_le_of_lt ?_ hl
          rw [hk, h5, ← Nat.add_assoc]
          rcases Nat.lt_or_eq_of_le hle with h7 | h7
          · exact Nat.le_of_eq (he3 _ h7)
          · rw [h7]; exact Nat.le_of_lt he2
        · rw [hper x (by omega), Nat.mod_eq_of_lt (by omega), ← Nat.add_assoc]; exact he3 x (by omega)

/-- a word is cut off -/
theorem cut_off {s : List Nat} {i k j m : Nat} (I : Inner s i k j) (hstop : j = s.length ∨ at_ s j < at_ s k) {start : Nat} (hs : start = i + m * (j - k)) (hk : start ≤ k) :
    words (s.drop start) = (s.drop start).take (j - k) :: words (s.drop (start + (j - k))) := by
  have hik := I.ik
  have hkj := I.kj
  have hjn := I.jn
  have hat : ∀ x, start + x < j → at_ s (start + x) = at_ s (i + x % (j - k)) := by
    intro x hx
    have h := I.per (m * (j - k) + x) (by omega)
    rw [show i + (m * (j - k) + x) = start + x by omega] at h
    rw [h]
    congr 2
    rw [Nat.add_comm, Nat.add_mul_mod_self_right]
  have hat2 : ∀ x, start + (j - k) + x < j → at_ s (start + (j - k) + x) = at_ s (start + x) := by
    intro x hx
    rw [Nat.add_assoc, hat _ (by omega), hat _ (by omega), Nat.add_mod_left]
  have hz : (s.drop start).drop (j - k) = s.drop (start + (j - k)) := by rw [List.drop_drop]
  rw [← hz]
  refine words_step _ _ (by omega) (by rw [List.length_drop]; omega) (fun d h0 h1 => ?_) ?_
  · rw [List.drop_drop]
    obtain ⟨e, he1, he2, he3⟩ := I.lyn d h0 h1
    refine (lx_drop s e start (start + d) (fun x hx => ?_) (by omega) (by omega) ?_).2
    · rw [hat x (by omega), Nat.add_assoc, hat (d + x) (by omega), Nat.mod_eq_of_lt (by omega), Nat.mod_eq_of_lt (by omega), ← Nat.add_assoc]
      exact he3 x hx
    · rw [hat e (by omega), Nat.add_assoc, hat (d + e) (by omega), Nat.mod_eq_of_lt (by omega), Nat.mod_eq_of_lt (by omega), ← Nat.add_assoc]
      exact he2
  · rw [hz]
    by_cases hjl : j = s.length
    · refine lx_drop_end s _ (start + (j - k)) start rfl (by omega) (by omega) fun x hx => ?_
      exact hat2 x (by omega)
    · have hst : at_ s j < at_ s k := hstop.resolve_left hjl
      refine (lx_drop s (j - (start + (j - k))) (start + (j - k)) start (fun x hx => ?_) (by omega) (by omega) ?_).1
      · exact hat2 x (by omega)
      · rw [show start + (j - k) + (j - (start + (j - k))) = j by omega, show start + (j - (start + (j - k))) = k by omega]
        exact hst

end Mine

end

section
namespace Mine

def pieces (s : List Nat) : List Nat → List (List Nat)
  | a :: b :: r => (s.take b).drop a :: pieces s (b :: r)
  | _ => []

theorem pieces_snoc (s : List Nat) (c x : Nat) : ∀ pre, pieces s (pre ++ [c] ++ [x]) = pieces s (pre ++ [c]) ++ [(s.take x).drop c] := by
  intro pre
  induction pre with
  | nil => simp [pieces]
  | cons a r ih =>
    cases r with
    | nil => simp [pieces]
    | cons b r =>
      simp only [List.cons_append, pieces] at ih ⊢
      rw [ih]

/-- what holds between the turns of the loop of `_law_cuts` -/
structure Cut (s : List Nat) (x : Nat) (cs : List Nat) : Prop where
  eq : ∃ pre c, cs = pre ++ [c] ∧ c < x ∧ words s = pieces s cs ++ wk (s.drop c) ((s.take x).drop c) (s.drop x)
  le : x ≤ s.length
  all : ∀ c ∈ cs, c ≤ s.length
  len : cs.length ≤ x

theorem cut_init (s : List Nat) (h : 0 < s.length) : Cut s 1 [0] := by
  refine ⟨⟨[], 0, rfl, by omega, ?_⟩, by omega, by simp, by simp⟩
  cases s with
  | nil => simp at h
  | cons a r => simp [pieces, words]

theorem take_drop_snoc (s : List Nat) (c x : Nat) (hc : c ≤ x) (h : x < s.length) : (s.take (x + 1)).drop c = (s.take x).drop c ++ [at_ s x] := by
  rw [List.take_add_one, List.drop_append]
  have : c - (s.take x).length = 0 := by rw [List.length_take]; omega
  rw [this]
  simp [at_, h]

theorem cut_yes {s : List Nat} {x c : Nat} {pre : List Nat} (I : Cut s x (pre ++ [c])) (h : x < s.length) (hl : lx (s.drop x) (s.drop c) = true) : Cut s (x + 1) (pre ++ [c] ++ [x]) := by
  obtain ⟨⟨pre', c', he, hc, hw⟩, _, hall, hlen⟩ := I
  obtain ⟨rfl, rfl⟩ : pre = pre' ∧ c = c' := by
    have := List.append_inj' he rfl
    exact ⟨this.1, by simpa using this.2⟩
  refine ⟨⟨pre ++ [c], x, rfl, by omega, ?_⟩, h, ?_, ?_⟩
  · rw [pieces_snoc, hw, drop_at s x h, wk, ← drop_at s x h, hl, if_pos rfl, List.append_assoc, List.singleton_append]
    congr 2
    rw [take_drop_snoc s x x (Nat.le_refl _) h]
    simp
  · intro y hy
    rcases List.mem_append.mp hy with hy | hy
    · exact hall y hy
    · simp at hy; omega
  · rw [List.length_append]; simp; simp at hlen; omega

theorem cut_no {s : List Nat} {x c : Nat} {pre : List Nat} (I : Cut s x (pre ++ [c])) (h : x < s.length) (hl : lx (s.drop x) (s.drop c) = false) : Cut s (x + 1) (pre ++ [c]) := by
  obtain ⟨⟨pre', c', he, hc, hw⟩, _, hall, hlen⟩ := I
  obtain ⟨rfl, rfl⟩ : pre = pre' ∧ c = c' := by
    have := List.append_inj' he rfl
    exact ⟨this.1, by simpa using this.2⟩
  refine ⟨⟨pre, c, rfl, by omega, ?_⟩, h, hall, by omega⟩
  rw [hw, drop_at s x h, wk, ← drop_at s x h, hl, take_drop_snoc s c x (by omega) h]
  simp

theorem cut_end {s : List Nat} {cs : List Nat} (I : Cut s s.length cs) : words s = pieces s (cs ++ [s.length]) := by
  obtain ⟨⟨pre, c, rfl, hc, hw⟩, _, hall, hlen⟩ := I
  rw [hw, pieces_snoc, List.drop_length]
  simp [wk]

end Mine

end

section
namespace Mine
theorem told_length (t : Nat) (l : List Nat) : (told t l).length ≤ (t + 1) * l.length := by
  induction l with
  | nil => simp [told]
  | cons a r ih =>
    rw [told_cons]
    have h1 : (gap t [a] r).length ≤ t := by unfold gap; split <;> simp
    simp only [List.length_cons, List.length_append]
    rw [Nat.mul_add, Nat.mul_one]
    omega
theorem told_take (t : Nat) (l : List Nat) (i : Nat) (hi : i < l.length) : told t (l.take (i + 1)) = told t (l.take i) ++ gap t (l.take i) [at_ l i] ++ [at_ l i] := by
  have : l.take (i + 1) = l.take i ++ [at_ l i] := by rw [List.take_add_one]; simp [at_, hi]
  rw [this, told_snoc]
theorem take_last (l : List Nat) (i : Nat) (hi : i < l.length) (h0 : 0 < i) : (l.take i).getLast? = some (at_ l (i - 1)) := by
  have h1 : i - 1 < l.length := by omega
  rw [List.getLast?_eq_getElem?, List.length_take, Nat.min_eq_left (Nat.le_of_lt hi), List.getElem?_take_of_lt (by omega)]
  simp [at_, h1]
theorem gap_yes (t : Nat) (l : List Nat) (i : Nat) (hi : i < l.length) (h0 : 0 < i) (h1 : at_ l i = 46) (h2 : at_ l (i - 1) = 10) : gap t (l.take i) [at_ l i] = List.replicate t 46 := by
  unfold gap
  rw [take_last l i hi h0, h1, h2]; simp
theorem gap_no (t : Nat) (l : List Nat) (i : Nat) (hi : i < l.length) (h : ¬ (0 < i ∧ at_ l i = 46 ∧ at_ l (i - 1) = 10)) : gap t (l.take i) [at_ l i] = [] := by
  unfold gap
  by_cases h0 : 0 < i
  · rw [take_last l i hi h0]
    split
    · rename_i hc
      exact absurd ⟨h0, by simpa using hc.2, by simpa using hc.1⟩ h
    · rfl
  · have : i = 0 := by omega
    subst this
    simp
theorem told_mem (t : Nat) (l : List Nat) : ∀ x ∈ told t l, x = 46 ∨ x ∈ l := by
  induction l with
  | nil => simp [told]
  | cons a r ih =>
    intro x hx
    rw [told_cons] at hx
    rcases List.mem_cons.mp hx with rfl | hx
    · exact .inr (by simp)
    · rcases List.mem_append.mp hx with hx | hx
      · unfold gap at hx
        split at hx
        · exact .inl (List.eq_of_mem_replicate hx)
        · simp at hx
      · rcases ih x hx with h | h
        · exact .inl h
        · exact .inr (List.mem_cons_of_mem _ h)
end Mine

end

section
open PySem PySem.W PyProof.Rows
set_option maxRecDepth 100000
set_option maxHeartbeats 8000000
namespace Mine
open_top hd for PySem.Challenge.rw_pg0008_01
end Mine

end

section
open PySem PySem.W PyProof.Rows PySem.Calls
set_option maxRecDepth 100000
set_option maxHeartbeats 8000000
namespace Mine

abbrev zi (l : List Nat) : List Int := l.map fun (n : Nat) => (n : Int)

/-- a list's values are these bytes -/
inductive BytesAre : List Value → List (List Nat) → Prop
  | nil : BytesAre [] []
  | cons {b : Array UInt8} {t : Tok} {l : List Nat} {vs : List Value} {ls : List (List Nat)} : KBw.bInts b = zi l → BytesAre vs ls → BytesAre (.bytes b t :: vs) (l :: ls)
theorem BytesAre.snoc {vs : List Value} {ls : List (List Nat)} (h : BytesAre vs ls) {b : Array UInt8} {t : Tok} {l : List Nat} (hb : KBw.bInts b = zi l) : BytesAre (vs ++ [.bytes b t]) (ls ++ [l]) := by
  induction h with
  | nil => exact .cons hb .nil
  | cons h1 _ ih => exact .cons h1 ih
theorem BytesAre.length {vs : List Value} {ls : List (List Nat)} (h : BytesAre vs ls) : vs.length = ls.length := by
  induction h with
  | nil => rfl
  | cons _ _ ih => simp [ih]

section
variable {prog : Program} {w : World} {A : Around} {E : Value → Shared → Prop} {Q : Flow → Shared → Prop} {s : Shared} {env : Env} {h₀ : Heap} {L : Addr}

def MEnd {σ : Type} (h₀ : Heap) (L : Addr) (s : Shared) (Led : σ → List (Addr × Obj)) (ps : σ → List (Str × Value)) (P : σ → Prop) (μ : σ → Nat) (k : Nat) (s₂ : Shared) : Prop :=
  ∃ (c : σ) (h' : Heap) (tk : Nat) (m' : Str → Option Value), s₂ = { s with heap := h', toks := tk } ∧ Fr h₀ L h' m' ∧ News h₀ L h' (Led c) ∧ (∀ p ∈ ps c, m' p.1 = some p.2) ∧ P c ∧ μ c < k
def MPost {σ : Type} (h₀ : Heap) (L : Addr) (s : Shared) (Led : σ → List (Addr × Obj)) (ps : σ → List (Str × Value)) (P : σ → Prop) (μ : σ → Nat) (Q : Flow → Shared → Prop) (k : Nat) (f : Flow) (s₂ : Shared) : Prop :=
  match f with
  | .ret v => Q (.ret v) s₂
  | .brk => Q .next s₂
  | _ => MEnd h₀ L s Led ps P μ k s₂
theorem mpost_next {σ : Type} {Led : σ → List (Addr × Obj)} {ps : σ → List (Str × Value)} {P : σ → Prop} {μ : σ → Nat} {k : Nat} {h' : Heap} {tk : Nat} {m' : Str → Option Value} (c : σ)
    (F : Fr h₀ L h' m') (N : News h₀ L h' (Led c)) (hk : ∀ p ∈ ps c, m' p.1 = some p.2) (hp : P c) (hm : μ c < k) : MPost h₀ L s Led ps P μ Q k .next { s with heap := h', toks := tk } :=
  ⟨c, h', tk, m', rfl, F, N, hk, hp, hm⟩
theorem mfr {h : Heap} {ps : List (Str × Value)} {m : Str → Option Value} (hk : ∀ p ∈ ps, m p.1 = some p.2) (F : Fr h₀ L h m) : Fr h₀ L h (kstB m ps) := by
  have : kstB m ps = m := by
    funext y
    exact kstB_eq hk fun _ => rfl
  rw [this]; exact F

theorem mwhile {σ : Type} {test : Expr} {body : List Stmt} {pos : Pos} {m₀ : Str → Option Value} (Led : σ → List (Addr × Obj)) (ps : σ → List (Str × Value)) (P : σ → Prop) (μ : σ → Nat) (c₀ : σ)
    (F : Fr h₀ L s.heap m₀) (N : News h₀ L s.heap (Led c₀)) (hk : ∀ p ∈ ps c₀, m₀ p.1 = some p.2) (hp : P c₀)
    (turn : ∀ (c : σ) (u : Str → Option Value) h tk, P c → Fr h₀ L h (kstB u (ps c)) → News h₀ L h (Led c) →
      wpAny (model prog w) A (isTrue test env (eval test env)) (fun b s₂ =>
        if b = true then wpAny (model prog w) A (execs body env) (MPost h₀ L s Led ps P μ Q (μ c)) E s₂ else Q .next s₂) E { s with heap := h, toks := tk })
    (hE : PassesOwn (model prog w) A env E := by passes_own) :
    wpAny (model prog w) A (exec (.While test body [] pos) env) Q E s := by
  refine While_inv2 (fun n m nx => ∃ c : σ, nx = Led c ∧ μ c = n ∧ (∀ p ∈ ps c, m p.1 = some p.2) ∧ P c) F N ⟨c₀, rfl, rfl, hk, hp⟩ ?_ hE
  rintro n m₁ nx h tk F₁ N₁ ⟨c, rfl, rfl, h1, hp'⟩
  refine wpAny_mono (turn c m₁ h tk hp' (mfr h1 F₁) N₁) (fun b s₂ p => ?_) fun _ _ x => x
  cases b with
  | false => simpa using p
  | true =>
    simp only [if_true] at p ⊢
    refine wpAny_mono p (fun f s₃ q => ?_) fun _ _ x => x
    cases f with
    | ret v => exact q
    | brk => exact q
    | next =>
      obtain ⟨c', h', tk', m', rfl, F', N', hk9, hp9, hm9⟩ := q
      exact ⟨h', tk', m', Led c', μ c', rfl, F', N', hm9, c', rfl, rfl, hk9, hp9⟩
    | cont =>
      obtain ⟨c', h', tk', m', rfl, F', N', hk9, hp9, hm9⟩ := q
      exact ⟨h', tk', m', Led c', μ c', rfl, F', N', hm9, c', rfl, rfl, hk9, hp9⟩
end
end Mine

end

section
open PySem PySem.W PyProof.Rows PySem.Calls
set_option maxRecDepth 100000
set_option maxHeartbeats 8000000
namespace Mine
example : (fun (_ : OpenLaw) (_ : Params → Frag) => True) PySem.Challenge.rw_pg0008_01 hd.heap_39 := by
  w_on; k_fill; trivial

local macro_rules | `(tactic| tb_start) => `(tactic| repeat' (first | ((fail_if_success (with_reducible show wpAny _ _ (exec (Stmt.While _ _ _ _) _) _ _ _)); (fail_if_success (with_reducible show wpAny _ _ (exec (Stmt.For _ _ _ _ _) _) _ _ _)); (fail_if_success (with_reducible show wpAny _ _ (eval (Expr.ListComp _ _ _ _) _) _ _ _)); first | (k_unfold; (try dsimp only)) | (k_end; wrow_close) | walk1 | (dsimp only; walk1) | (leave1; walk_say "STEP leave1"; try dsimp only)) | fail "no step"))
local macro_rules | `(tactic| k_all) => `(tactic| exact fun p hp => Nat.ne_of_lt ((show ∀ p ∈ _, p.1 < _ by assumption) p hp))


theorem getD_zi (l : List Nat) (k : Nat) : (zi l).getD ((k : Int).toNat) 0 = ((at_ l k : Nat) : Int) := by
  simp only [Int.toNat_natCast, zi, at_, List.getD_eq_getElem?_getD, List.getElem?_map]
  cases l[k]? <;> simp

section
variable {prog : Program} {w : World} {p : Program} {loose : List Str} {mean : ExcName → Option Value} {mg mb : Str → Option Value}
  {dp un : Nat} {gd : Option (List Code)} {cn : Str} {cs : Scope} {a : Addr} {ccd : Value} {cl : List (Str × Addr)} {outer : List Env} {A₀ : Around} {base h₀ : Heap} {L : Addr} {m : Str → Option Value} {news : List (Addr × Obj)} {s : Shared} {Q E : Value → Shared → Prop}

theorem getitem_ok {b : Array UInt8} {t tk : Tok} {l : List Nat} {k : Nat} (B : Below A₀ base outer h₀) (F : Fr h₀ L s.heap m) (X : (hd.heap_39 w.params).In h₀) (N : News h₀ L s.heap news) (T : Top p loose mean mg mb h₀) (hk : cs.kind = .function)
    (hd : dp + 2 < recursionLimit) (hu : un + 10 < cLine) (hb : KBw.bInts b = zi l) (hl : l.length < 1000) (hi : k < l.length)
    (ret : ∀ t' h' tk', Fr h₀ L h' m → News h₀ L h' news → Q (.int (at_ l k : Nat) t') { s with heap := h', toks := tk' }) :
    wpAny (model prog w) (ktrTop dp un gd cn cs L a ccd cl outer) (call (.ref 64) [.bytes b t, .int (k : Nat) tk]) Q E s := by
  refine wpAny_call ?_
  k_dflt cell_enter
  tb_start
  rw [getD_zi]
  exact ret _ _ _ (by assumption) (by assumption)

theorem le_ok {x y : Int} {t tk : Tok} (B : Below A₀ base outer h₀) (F : Fr h₀ L s.heap m) (X : (hd.heap_39 w.params).In h₀) (N : News h₀ L s.heap news) (T : Top p loose mean mg mb h₀) (hk : cs.kind = .function)
    (hd : dp + 2 < recursionLimit) (hu : un + 10 < cLine)
    (ret : ∀ h' tk', Fr h₀ L h' m → News h₀ L h' news → Q (.bool (decide (x ≤ y))) { s with heap := h', toks := tk' }) :
    wpAny (model prog w) (ktrTop dp un gd cn cs L a ccd cl outer) (call (.ref 57) [.int x t, .int y tk]) Q E s := by
  refine wpAny_call ?_
  k_dflt cell_enter
  tb_start
  exact ret _ _ (by assumption) (by assumption)

theorem lt_ok {x y : Int} {t tk : Tok} (B : Below A₀ base outer h₀) (F : Fr h₀ L s.heap m) (X : (hd.heap_39 w.params).In h₀) (N : News h₀ L s.heap news) (T : Top p loose mean mg mb h₀) (hk : cs.kind = .function)
    (hd : dp + 2 < recursionLimit) (hu : un + 10 < cLine)
    (ret : ∀ h' tk', Fr h₀ L h' m → News h₀ L h' news → Q (.bool (decide (x < y))) { s with heap := h', toks := tk' }) :
    wpAny (model prog w) (ktrTop dp un gd cn cs L a ccd cl outer) (call (.ref 50) [.int x t, .int y tk]) Q E s := by
  refine wpAny_call ?_
  k_dflt cell_enter
  tb_start
  exact ret _ _ (by assumption) (by assumption)
end
end Mine

end

section
open PySem PySem.W PyProof.Rows PySem.Calls
set_option maxRecDepth 100000
set_option maxHeartbeats 8000000
namespace Mine
example : (fun (_ : OpenLaw) (_ : Params → Frag) => True) PySem.Challenge.rw_pg0008_01 hd.heap_39 := by
  w_on; k_fill; trivial

local macro_rules | `(tactic| tb_start) => `(tactic| repeat' (first | ((fail_if_success (with_reducible show wpAny _ _ (exec (Stmt.While _ _ _ _) _) _ _ _)); (fail_if_success (with_reducible show wpAny _ _ (exec (Stmt.For _ _ _ _ _) _) _ _ _)); (fail_if_success (with_reducible show wpAny _ _ (eval (Expr.ListComp _ _ _ _) _) _ _ _)); first | (k_unfold; (try dsimp only)) | (k_end; wrow_close) | walk1 | (dsimp only; walk1) | (leave1; walk_say "STEP leave1"; try dsimp only)) | fail "no step"))
local macro_rules | `(tactic| k_all) => `(tactic| exact fun p hp => Nat.ne_of_lt ((show ∀ p ∈ _, p.1 < _ by assumption) p hp))

local macro_rules | `(tactic| walk_at "call ref") => `(tactic| (k_here; (with_reducible show wpAny _ _ (call (Value.ref 64) [Value.bytes _ _, Value.int _ _]) _ _ _); k_dflt (refine' getitem_ok ?k1 ?k2 ?k3 ?k4 ?k5 ?kK ?kd ?ku ?kb ?kl ?ki ?_; (case k1 => k_asm); (case k2 => k_asm); (case k3 => k_asm); (case k4 => k_asm); (case k5 => k_asm); (case kK => first | exact rfl | assumption); (case kd => ktr_room); (case ku => ktr_units); (case kb => assumption); (case kl => assumption); (case ki => omega); k_whole); intro t9 h9 tk9 F9 N9; (try dsimp only); (try k_sweep)))
local macro_rules | `(tactic| walk_at "call ref") => `(tactic| (k_here; (with_reducible show wpAny _ _ (call (Value.ref 57) [Value.int _ _, Value.int _ _]) _ _ _); k_dflt (refine' le_ok ?k1 ?k2 ?k3 ?k4 ?k5 ?kK ?kd ?ku ?_; (case k1 => k_asm); (case k2 => k_asm); (case k3 => k_asm); (case k4 => k_asm); (case k5 => k_asm); (case kK => first | exact rfl | assumption); (case kd => ktr_room); (case ku => ktr_units); k_whole); intro h9 tk9 F9 N9; (try dsimp only); (try k_sweep)))
local macro_rules | `(tactic| walk_at "call ref") => `(tactic| (k_here; (with_reducible show wpAny _ _ (call (Value.ref 50) [Value.int _ _, Value.int _ _]) _ _ _); k_dflt (refine' lt_ok ?k1 ?k2 ?k3 ?k4 ?k5 ?kK ?kd ?ku ?_; (case k1 => k_asm); (case k2 => k_asm); (case k3 => k_asm); (case k4 => k_asm); (case k5 => k_asm); (case kK => first | exact rfl | assumption); (case kd => ktr_room); (case ku => ktr_units); k_whole); intro h9 tk9 F9 N9; (try dsimp only); (try k_sweep)))
def WalkTells (prog : Program) (w : World) (p : Program) (loose : List Str) (mean : ExcName → Option Value) (mg mb : Str → Option Value) : Prop :=
  ∀ (dp un : Nat) (gd : Option (List Code)) (cn : Str) (cs : Scope) (a : Addr) (ccd : Value) (cl : List (Str × Addr)) (outer : List Env) (A₀ : Around) (base h₀ : Heap) (L : Addr) (m : Str → Option Value) (news : List (Addr × Obj)) (s : Shared) (b : Array UInt8) (t : Tok) (l : List Nat)
    (Q E : Value → Shared → Prop),
    Below A₀ base outer h₀ → Fr h₀ L s.heap m → (hd.heap_39 w.params).In h₀ → News h₀ L s.heap news → Top p loose mean mg mb h₀ → cs.kind = .function → KBw.bInts b = zi l → l.length < 1000 → dp + 5 < recursionLimit → un + 20 < cLine →
    (∀ x its n h' tk', BytesAre its (words l) → Fr h₀ L h' m → News h₀ L h' ((x, listOf its.toArray n) :: news) → (∀ p ∈ news, p.1 < x) → Q (.ref x) { s with heap := h', toks := tk' }) →
    wpAny (model prog w) (ktrTop dp un gd cn cs L a ccd cl outer) (call (.ref 78) [.bytes b t]) Q E s

structure WO where
  start : Int
  t0 : Tok
  its : List Value
  n : Nat

structure WI where
  near : Nat
  tn : Tok
  far : Nat
  tf : Tok

theorem walk_tells {prog w p loose mean mg mb} : WalkTells prog w p loose mean mg mb := by
  unfold WalkTells
  intro dp un gd cn cs a ccd cl outer A₀ base h₀ L m news s b t l Q E B F X N T hk hb hl hd hu hret
  have hlen : (zi l).length = l.length := by simp
  refine wpAny_call ?_
  k_dflt cell_enter
  tb_start
  rename_i lw hw l1 h1 hh F' N'
  refine mwhile (σ := WO) (fun c => (lw, listOf c.its.toArray c.n) :: news)
    (fun c => [(Str.ofString "start", .int c.start c.t0), (Str.ofString "words", .ref lw), (Str.ofString "mail", .bytes b t)])
    (fun c => ∃ (i : Nat) (ws : List (List Nat)), c.start = i ∧ BytesAre c.its ws ∧ ws ++ words (l.drop i) = words l ∧ i ≤ l.length ∧ ws.length ≤ i) (fun c => l.length - c.start.toNat) ⟨0, tk + 1, [], 0⟩ F' N' ?mk ?mp ?mt
  case mk => kst_all
  case mp => exact ⟨0, [], rfl, .nil, by simp, by simp, by simp⟩
  case mt =>
    rintro ⟨z, t0, its, n⟩ u h tk ⟨i, ws, hz, hws, hwd, hi, hwl⟩ F1 N1
    dsimp only at hz hws hwd hi hwl F1 N1
    subst hz
    clear F' N'
    tb_start
    · rename_i hin h1' h2' F2 N2
      have hin' : i < l.length := by omega
      refine mwhile (σ := WI) (fun c => (lw, listOf its.toArray n) :: news)
        (fun c => [(Str.ofString "near", .int c.near c.tn), (Str.ofString "far", .int c.far c.tf), (Str.ofString "start", .int i t0), (Str.ofString "words", .ref lw), (Str.ofString "mail", .bytes b t)])
        (fun c => Inner l i c.near c.far) (fun c => l.length - c.far) ⟨i, t0, i + 1, tk + 1 + 1⟩ F2 N2 ?nk ?np ?nt
      case nk => kst_all
      case np => exact inner_init l i hin'
      case nt =>
        rintro ⟨k, tn, j, tf⟩ u h tk I F3 N3
        dsimp only at I F3 N3
        clear F2 N2
        have hik := I.ik
        have hkj := I.kj
        have hjn := I.jn
        tb_start
        · exact mpost_next ⟨i, _, j + 1, _⟩ (by assumption) (by assumption) (by kst_all) (inner_lt I (by omega) (by omega)) (by dsimp only; omega)
        · exact mpost_next ⟨k + 1, _, j + 1, _⟩ (by assumption) (by assumption) (by kst_all) (inner_eq I (by omega) (by omega)) (by dsimp only; omega)
        all_goals
          have hstop : j = l.length ∨ at_ l j < at_ l k := by omega
          rename Fr _ _ _ _ => F4
          rename News _ _ _ _ => N4
          refine mwhile (σ := WO) (fun c => (lw, listOf c.its.toArray c.n) :: news)
            (fun c => [(Str.ofString "start", .int c.start c.t0), (Str.ofString "near", .int k tn), (Str.ofString "far", .int j tf), (Str.ofString "words", .ref lw), (Str.ofString "mail", .bytes b t)])
            (fun c => ∃ (i' : Nat) (ws : List (List Nat)), c.start = i' ∧ BytesAre c.its ws ∧ ws ++ words (l.drop i') = words l ∧ (∃ m, i' = i + m * (j - k)) ∧ i' ≤ j ∧ ws.length ≤ i') (fun c => j + 1 - c.start.toNat) ⟨i, t0, its, n⟩ F4 N4 ?ok ?op ?ot
          case ok => kst_all
          case op => exact ⟨i, ws, rfl, hws, hwd, ⟨0, by simp⟩, by omega, hwl⟩
          case ot =>
            clear F4 N4 hwd hws hwl
            rintro ⟨z, t1, its, n⟩ u h tk ⟨i', ws, hz, hws, hwd, ⟨mm, hmm⟩, hij, hwl⟩ F5 N5
            dsimp only at hz hws hwd hwl F5 N5
            subst hz
            tb_start
            · rename_i hle h5 t5 tk5 F6 N6 kbK
              have hsz : its.toArray.size ≤ sizeLine := by rw [List.size_toArray, hws.length, sizeLine_eq]; omega
              have hpi : KBw.bInts (KBy.picked b (some (i' : Int)) (some ((i' : Int) + j - k))) = zi ((l.drop i').take (j - k)) := by
                rw [kbK, show ((i' : Int) + j - k) = ((i' + (j - k) : Nat) : Int) by omega, clipAt_nat, hlen, Nat.min_eq_left (show i' ≤ l.length by omega), Nat.min_eq_left (show i' + (j - k) ≤ l.length by omega), show i' + (j - k) - i' = j - k by omega]
                simp [zi, List.map_take, List.map_drop]
              refine append_K (D := lw) (its := its.toArray) (n := n) F6 N6 (Upd.head fun p hp => Nat.ne_of_lt (l1 p hp)) ?_ hsz
              intro h6 F7 N7
              rw [List.push_toArray] at N7
              clear F6 N6
              dsimp only
              tb_start
              have hc := cut_off I hstop hmm (by omega)
              refine mpost_next ⟨_, _, its ++ [_], n + 1⟩ (by assumption) (by assumption) (by kst_all) ?_ ?_
              · refine ⟨i' + (j - k), ws ++ [(l.drop i').take (j - k)], by dsimp only; omega, hws.snoc hpi, ?_, ⟨mm + 1, ?_⟩, by omega, ?_⟩
                · rw [← hwd, hc]; simp
                · rw [hmm, Nat.add_mul, Nat.one_mul]; omega
                · rw [List.length_append]; simp; omega
              · dsimp only; omega
            · refine mpost_next ⟨_, _, its, n⟩ (by assumption) (by assumption) (by kst_all) ⟨i', ws, rfl, hws, hwd, by omega, hwl⟩ ?_
              rename_i hgt
              trace_state
              show l.length - (i' : Int).toNat < l.length - (i : Int).toNat
              omega
    · refine hret lw its n h _ ?_ (by assumption) (by assumption) l1
      rw [List.drop_eq_nil_of_le (show l.length ≤ i by omega)] at hwd
      rw [show words [] = [] from rfl, List.append_nil] at hwd
      rw [← hwd]; exact hws
end Mine

end

section
open PySem PySem.W PyProof.Rows PySem.Calls
set_option maxRecDepth 100000
set_option maxHeartbeats 8000000
namespace Mine
section
variable {prog : Program} {w : World} {A : Around} {E : Value → Shared → Prop} {Q : Flow → Shared → Prop} {s : Shared} {env : Env} {h₀ : Heap} {x : Str} {body : List Stmt}

def RPost {σ : Type} (h₀ : Heap) (L : Addr) (s : Shared) (lt : Addr) (D : σ → Obj) (rest : List (Addr × Obj)) (ps : σ → List (Str × Value)) (P : σ → Prop) (Q : Flow → Shared → Prop) (f : Flow) (s₂ : Shared) : Prop :=
  match f with
  | .ret v => Q (.ret v) s₂
  | .brk => Q .next s₂
  | _ => ∃ (c : σ) (h' : Heap) (tk : Nat) (m' : Str → Option Value), s₂ = { s with heap := h', toks := tk } ∧ Fr h₀ L h' m' ∧ News h₀ L h' ((lt, D c) :: rest) ∧ (∀ p ∈ ps c, m' p.1 = some p.2) ∧ P c
theorem rpost_next {L : Addr} {σ : Type} {lt : Addr} {D : σ → Obj} {rest : List (Addr × Obj)} {ps : σ → List (Str × Value)} {P : σ → Prop} {h' : Heap} {tk : Nat} {m' : Str → Option Value} (c : σ)
    (F : Fr h₀ L h' m') (N : News h₀ L h' ((lt, D c) :: rest)) (hk : ∀ p ∈ ps c, m' p.1 = some p.2) (hp : P c) : RPost h₀ L s lt D rest ps P Q .next { s with heap := h', toks := tk } :=
  ⟨c, h', tk, m', rfl, F, N, hk, hp⟩
theorem newsSub {L : Addr} {h : Heap} {l l' : List (Addr × Obj)} (N : News h₀ L h l) (hs : ∀ p ∈ l', p ∈ l) : News h₀ L h l' := fun p hp => N p (hs p hp)

theorem mrange {σ : Type} {r : Addr} {a₀ b₀ : Int} {t₀ u₀ v₀ : Tok} {n : Nat} {m₀ : Str → Option Value} (lt : Addr) (D : σ → Obj) (news : List (Addr × Obj)) (ps : σ → List (Str × Value)) (P : Nat → σ → Prop) (c₀ : σ)
    (hh : A.handled = none) (hr : IsRange s.heap r a₀ b₀ 1 t₀ u₀ v₀) (hsmall : Builtin.Range.small a₀ b₀ 1 = true) (hn : Builtin.Range.rangeSize a₀ b₀ 1 = (n : Int))
    (F : Fr h₀ env.locals s.heap m₀) (N : News h₀ env.locals s.heap ((lt, D c₀) :: news)) (hlt : ∀ p ∈ news, p.1 ≠ lt) (hk : ∀ p ∈ ps c₀, m₀ p.1 = some p.2) (hp : P 0 c₀)
    (turn : ∀ (c : σ) (i : Nat) t (u : Str → Option Value) h tk rest, i < n → (∀ p ∈ news, p ∈ rest) → (∀ p ∈ rest, p.1 ≠ lt) → P i c →
      Fr h₀ env.locals h (fun y => if y = x then some (.int (a₀ + (i : Int)) t) else kstB u (ps c) y) → News h₀ env.locals h ((lt, D c) :: rest) →
      wpAny (model prog w) A (execs body env) (RPost h₀ env.locals { s with heap := h, toks := tk } lt D rest ps (P (i + 1)) Q) E { s with heap := h, toks := tk })
    (done : ∀ (c : σ) (u : Str → Option Value) h tk, P n c → Fr h₀ env.locals h (kstB u (ps c)) → News h₀ env.locals h ((lt, D c) :: news) → Q .next { s with heap := h, toks := tk }) :
    wpAny (model prog w) A (pyIter (.ref r)) (fun it s₂ => LoopAtV prog w A h₀ env x body Q E it s₂) E s := by
  refine wpAny_pyIter_range hr hsmall ?_
  have W : Walks prog w A s.heap.objs.size [s.heap.objs.size] [s.heap.objs.size] n (fun i v => i < n ∧ ∃ t, v = .int (a₀ + i * 1) t)
      (fun i h => IsRangeIter h s.heap.objs.size (a₀ + (i : Nat) * 1) ((n : Int) - (i : Nat)) 1) := (Walks.range hh _ a₀ 1 n).bound
  refine loop_invN (fun i m nx => ∃ c, nx = (lt, D c) :: news ∧ (∀ p ∈ ps c, m p.1 = some p.2) ∧ P i c) W ?_ ?_ ?_ ?_ (by show IsRangeIter _ _ _ _ _; rw [hn]; simpa using Heap.get?_push_size _ rfl) (F.push _) (fun p hp => ⟨Heap.get?_push_of_some _ (N p hp).1, (N p hp).2⟩) ⟨c₀, rfl, hk, hp⟩ ?_ ?_
  · intro hm
    exact absurd F.ns.lt ((List.mem_singleton.mp hm) ▸ Nat.lt_irrefl _)
  · intro b hb
    rw [List.mem_singleton.mp hb]
    exact next_is_new F
  · intro p hp hI
    exact absurd (Heap.lt_size (N p hp).1) ((List.mem_singleton.mp hI) ▸ Nat.lt_irrefl _)
  · intro p hp hI
    exact absurd (Heap.lt_size (N p hp).1) ((List.mem_singleton.mp hI) ▸ Nat.lt_irrefl _)
  · rintro i v m₁ nx h tk own hi ⟨_, t, rfl⟩ _ hoff ⟨c, rfl, h1, hp'⟩ F₁ N₁
    have e1 : a₀ + (i : Int) * 1 = a₀ + (i : Int) := by omega
    rw [e1] at F₁
    have em : (fun y => if y = x then some (Value.int (a₀ + (i : Int)) t) else m₁ y) = fun y => if y = x then some (Value.int (a₀ + (i : Int)) t) else kstB m₁ (ps c) y := by
      funext y
      by_cases hy : y = x
      · rw [if_pos hy, if_pos hy]
      · rw [if_neg hy, if_neg hy]
        exact (kstB_eq h1 fun _ => rfl).symm
    rw [em] at F₁
    refine wpAny_mono (turn c i t m₁ h tk (news ++ own) hi (fun p hp => List.mem_append.mpr (.inl hp)) (fun p hp => ?_) hp' F₁ N₁) (fun f s₂ q => ?_) fun _ _ e => e
    · rcases List.mem_append.mp hp with hp | hp
      · exact hlt p hp
      · exact hoff p hp lt (by simp)
    · have fin : (∃ (c : σ) (h' : Heap) (tk' : Nat) (m' : Str → Option Value), s₂ = { s with heap := h', toks := tk' } ∧ Fr h₀ env.locals h' m' ∧ News h₀ env.locals h' ((lt, D c) :: (news ++ own)) ∧ (∀ p ∈ ps c, m' p.1 = some p.2) ∧ P (i + 1) c) →
          InvEndN h₀ env.locals (fun m nx => ∃ c, nx = (lt, D c) :: news ∧ (∀ p ∈ ps c, m p.1 = some p.2) ∧ P (i + 1) c) own (List.map (·.1) ((lt, D c₀) :: news)) { s with heap := h, toks := tk } s₂ := by
        rintro ⟨c', h', tk', m', e, F', N', hk', hP⟩
        refine ⟨h', tk', m', _, (lt, D c') :: news, e, F', N', fun p hp => ?_, fun p hp => ?_, rfl, c', rfl, hk', hP⟩
        · rcases List.mem_cons.mp hp with rfl | hp
          · exact .head _
          · exact .tail _ (List.mem_append.mpr (.inl hp))
        · exact .tail _ (List.mem_append.mpr (.inr hp))
      cases f with
      | ret v => exact q
      | brk => exact q
      | next => exact fin q
      | cont => exact fin q
  · rintro m₁ nx h tk ⟨c, rfl, h1, hp'⟩ F₁ N₁
    exact done c m₁ h tk hp' (mfr h1 F₁) N₁
end
end Mine

end

section
open PySem PySem.W PyProof.Rows PySem.Calls
set_option maxRecDepth 100000
set_option maxHeartbeats 8000000
namespace Mine
section
variable {prog : Program} {w : World} {A : Around} {E : Value → Shared → Prop} {s : Shared} {h₀ : Heap} {L D b : Addr} {m : Str → Option Value} {rest : List (Addr × Obj)}

theorem iadd_lists {Q : Value → Shared → Prop} {a b : Value} (ha : s.TypeIs a "list") (hb : s.TypeIs b "list") (hc : wpAny (model prog w) A (call (.builtin "list.__iadd__") [a, b]) Q E s) : wpAny (model prog w) A (inplaceOp .Add a b) Q E s := by
  unfold inplaceOp
  refine wpAny_holding ?_
  have hl := PySem.F.slot_list_iadd.lookup
  have hs : isSeqSlot (some (.builtin "list.__iadd__")) = true := by decide +kernel
  have hfi : fillsInplaceSlot (.type "list") "add" (Operator.Add == .Add) = pure false := by
    unfold fillsInplaceSlot
    show (typeLookup (.type "list") (dunderI "add") >>= fun fi => pure (fi.isSome && !isSeqSlot fi)) = pure false
    rw [hl, pure_bind, hs]; rfl
  refine wpAny_bind (wpAny_typeOf ha (wpAny_bind (wpAny_of_eq hfi ?_)))
  show wpAny _ A (if false = true then _ else _) Q E s
  rw [if_neg Bool.false_ne_true]
  refine wpAny_bind (wpAny_binaryOp1_none (nm := "add") ha hb noFill_list_add ?_)
  refine wpAny_bind (wpAny_of_eq (PySem.seqSlot_of hl hs) ?_)
  exact wpAny_bind (wpAny_rule hc)

theorem iadd_K {its its2 : List Value} {n n2 : Nat} {Q : Value → Shared → Prop} (F : Fr h₀ L s.heap m) (N : News h₀ L s.heap ((D, listOf its.toArray n) :: rest)) (hne : ∀ p ∈ rest, p.1 ≠ D) (hb : (b, listOf its2.toArray n2) ∈ rest)
    (hz : its.length + its2.length ≤ sizeLine) (h : ∀ h' n', Fr h₀ L h' m → News h₀ L h' ((D, listOf (its ++ its2).toArray n') :: rest) → Q (.ref D) { s with heap := h' }) :
    wpAny (model prog w) A (inplaceOp .Add (.ref D) (.ref b)) Q E s := by
  have z := N _ (.head _)
  have zb := N _ (.tail _ hb)
  have hz' : its.toArray.size + its2.toArray.size ≤ sizeLine := by simpa using hz
  refine iadd_lists ⟨_, z.1, rfl⟩ ⟨_, zb.1, rfl⟩ (call_meets PySem.F.slot_list_iadd ⟨_, z.1, rfl⟩ PySem.F.entry_list_iadd (PySem.F.args_list_iadd_2 _ _)
    (PySem.AutoSeq1.list___iadd___list_list_0 D its.toArray n b its2.toArray n2 (extend_door hz') (Nat.le_trans (Nat.le_add_right _ _) hz') (Nat.le_succ_of_le hz')) ⟨z.1, zb.1, ?_⟩)
  have q := PySem.IsL.update z.1 (fun x => x ++ its2.toArray)
  have e : its.toArray ++ its2.toArray = (its ++ its2).toArray := by simp
  rw [e] at q
  exact h _ _ (F.change (Heap.SameBut.update ..) z.2.1 z.2.2) (news_set (pre := []) N (fun _ h => nomatch h) hne (Heap.SameBut.update ..) q)

theorem iadd_R {all : List (Addr × Obj)} {its its2 : List Value} {n n2 : Nat} {Q : Value → Shared → Prop} (F : Fr h₀ L s.heap m) (N : News h₀ L s.heap all) (hD : (D, listOf its.toArray n) ∈ all) (hb : (b, listOf its2.toArray n2) ∈ all) (hbD : b ≠ D)
    (hsub : ∀ p ∈ rest, p ∈ all) (hne : ∀ p ∈ rest, p.1 ≠ D)
    (hz : its.length + its2.length ≤ sizeLine) (h : ∀ h' n', Fr h₀ L h' m → News h₀ L h' ((D, listOf (its ++ its2).toArray n') :: rest) → Q (.ref D) { s with heap := h' }) :
    wpAny (model prog w) A (inplaceOp .Add (.ref D) (.ref b)) Q E s := by
  refine iadd_K (its := its) (n := n) (rest := (b, listOf its2.toArray n2) :: rest) F (newsSub N ?_) ?_ (.head _) hz fun h' n' F' N' => h h' n' F' (newsSub N' ?_)
  · intro p hp
    rcases List.mem_cons.mp hp with rfl | hp
    · exact hD
    · rcases List.mem_cons.mp hp with rfl | hp
      · exact hb
      · exact hsub p hp
  · intro p hp
    rcases List.mem_cons.mp hp with rfl | hp
    · exact hbD
    · exact hne p hp
  · intro p hp
    rcases List.mem_cons.mp hp with rfl | hp
    · exact .head _
    · exact .tail _ (.tail _ hp)

theorem zi_replicate (k : Nat) : (List.replicate k 46).map (fun (n : Nat) => (n : Int)) = (List.replicate (k : Int).toNat [(46 : Int)]).flatten := by
  rw [Int.toNat_natCast]
  induction k with
  | zero => rfl
  | succ k ih => rw [List.replicate_succ, List.replicate_succ, List.map_cons, List.flatten_cons, ih]; rfl

theorem append_R {its : List Value} {n : Nat} {x : Value} {Q : Value → Shared → Prop} (F : Fr h₀ L s.heap m) (N : News h₀ L s.heap ((D, listOf its.toArray n) :: rest)) (hne : ∀ p ∈ rest, p.1 ≠ D) (hz : its.length ≤ sizeLine)
    (h : ∀ h', Fr h₀ L h' m → News h₀ L h' ((D, listOf (its ++ [x]).toArray (n + 1)) :: rest) → Q .none { s with heap := h' }) : wpAny (model prog w) A (call (.builtin "list.append") [.ref D, x]) Q E s := by
  refine append_K (its := its.toArray) F N (Upd.head hne) (fun h' F' N' => h h' F' ?_) (by simpa using hz)
  rwa [List.push_toArray] at N'

theorem append_S {all : List (Addr × Obj)} {its : List Value} {n : Nat} {x : Value} {Q : Value → Shared → Prop} (F : Fr h₀ L s.heap m) (N : News h₀ L s.heap all) (hD : (D, listOf its.toArray n) ∈ all) (hsub : ∀ p ∈ rest, p ∈ all) (hne : ∀ p ∈ rest, p.1 ≠ D) (hz : its.length ≤ sizeLine)
    (h : ∀ h', Fr h₀ L h' m → News h₀ L h' ((D, listOf (its ++ [x]).toArray (n + 1)) :: rest) → Q .none { s with heap := h' }) : wpAny (model prog w) A (call (.builtin "list.append") [.ref D, x]) Q E s := by
  refine append_R (its := its) (n := n) F (newsSub N ?_) hne hz h
  intro p hp
  rcases List.mem_cons.mp hp with rfl | hp
  · exact hD
  · exact hsub p hp
end
end Mine

end

section
open PySem PySem.W PyProof.Rows PySem.Calls
set_option maxRecDepth 100000
set_option maxHeartbeats 8000000
namespace Mine
example : (fun (_ : OpenLaw) (_ : Params → Frag) => True) PySem.Challenge.rw_pg0008_01 hd.heap_39 := by
  w_on; k_fill; trivial

local macro_rules | `(tactic| tb_start) => `(tactic| repeat' (first | ((fail_if_success (with_reducible show wpAny _ _ (exec (Stmt.While _ _ _ _) _) _ _ _)); (fail_if_success (with_reducible show wpAny _ _ (exec (Stmt.For _ _ _ _ _) _) _ _ _)); (fail_if_success (with_reducible show wpAny _ _ (pyIter _) _ _ _));  (fail_if_success (with_reducible show wpAny _ _ (eval (Expr.ListComp _ _ _ _) _) _ _ _)); first | (k_unfold; (try dsimp only)) | (k_end; wrow_close) | walk1 | (dsimp only; walk1) | (leave1; walk_say "STEP leave1"; try dsimp only)) | fail "no step"))
local macro_rules | `(tactic| k_all) => `(tactic| exact fun p hp => Nat.ne_of_lt ((show ∀ p ∈ _, p.1 < _ by assumption) p hp))

section
variable {prog : Program} {w : World} {p : Program} {loose : List Str} {mean : ExcName → Option Value} {mg mb : Str → Option Value}
  {dp un : Nat} {gd : Option (List Code)} {cn : Str} {cs : Scope} {a : Addr} {ccd : Value} {cl : List (Str × Addr)} {outer : List Env} {A₀ : Around} {base h₀ : Heap} {L : Addr} {m : Str → Option Value} {news : List (Addr × Obj)} {s : Shared} {Q E : Value → Shared → Prop}

structure TS where
  its : List Value
  n : Nat

theorem told_ok {lw : Addr} {its : List Value} {n : Nat} {l : List Nat} {times : Nat} {tt : Tok} (B : Below A₀ base outer h₀) (F : Fr h₀ L s.heap m) (X : (hd.heap_39 w.params).In h₀) (N : News h₀ L s.heap ((lw, listOf its.toArray n) :: news)) (T : Top p loose mean mg mb h₀) (hk : cs.kind = .function)
    (hd : dp + 2 < recursionLimit) (hu : un + 10 < cLine) (hi : IntsAre its (zi l)) (hl : l.length < 1000) (ht : times < 10) (h256 : ∀ x ∈ l, x < 256)
    (ret : ∀ b t' h' tk', KBw.bInts b = zi (told times l) → Fr h₀ L h' m → News h₀ L h' ((lw, listOf its.toArray n) :: news) → Q (.bytes b t') { s with heap := h', toks := tk' }) :
    wpAny (model prog w) (ktrTop dp un gd cn cs L a ccd cl outer) (call (.ref 92) [.ref lw, .int (times : Nat) tt]) Q E s := by
  have hlen : (zi l).length = l.length := by simp
  refine wpAny_call ?_
  k_dflt cell_enter
  tb_start
  rename Fr _ _ _ _ => lF'
  k_dflt (refine' For_invVF lF' ?q1 ?q2 ?_)
  case q1 => exact rfl
  case q2 => exact rfl
  tb_start
  rename IsRange _ _ _ _ _ _ _ _ => R'
  rename Fr _ _ _ _ => F'
  rename News _ _ _ _ => N'
  rename (_ : Nat) < _ ∧ AllLt _ _ => l1
  rename_i lt h2 h1 Fo No h3 tk0 t1 u1 v1 keep
  clear Fo No keep
  obtain ⟨l1, l2⟩ := l1
  have l2' := kst_ltOf l2
  have hlt : ∀ p ∈ ((lw, listOf its.toArray n) :: news), p.1 ≠ lt := by
    intro p hp
    rcases List.mem_cons.mp hp with rfl | hp
    · exact Nat.ne_of_lt l1
    · exact Nat.ne_of_lt (l2' p hp)
  k_dflt (refine mrange (n := l.length) (σ := TS) lt (fun c => listOf c.its.toArray c.n) ((lw, listOf its.toArray n) :: news) (fun c => [(Str.ofString "told", .ref lt), (Str.ofString "word", .ref lw), (Str.ofString "times", .int (times : Nat) tt)]) (fun i c => IntsAre c.its (zi (told times (l.take i)))) ⟨[], 0⟩ rfl R' ?a1 ?a2 F' N' hlt ?a3 ?a4 ?a5 ?a6)
  case a1 => exact small_one (by decide) (by decide) (by omega) (by omega)
  case a2 => rw [rangeSize_nat]; simp
  case a3 => kst_all
  case a4 => exact .nil
  case a5 =>
    clear F' N' R'
    rintro ⟨ti, tn⟩ i t u h tk rest hi' hsub hne hP F1 N1
    dsimp only at hP F1 N1
    simp only [Int.zero_add] at F1
    have hwr := hsub _ (.head _)
    have hne2 : ∀ p ∈ ((lw, listOf its.toArray n) :: rest), p.1 ≠ lt := by
      intro p hp
      rcases List.mem_cons.mp hp with rfl | hp
      · exact hne _ hwr
      · exact hne p hp
    replace N1 := newsSub (l' := (lt, listOf ti.toArray tn) :: (lw, listOf its.toArray n) :: rest) N1 (by
      intro p hp
      rcases List.mem_cons.mp hp with rfl | hp
      · exact .head _
      · rcases List.mem_cons.mp hp with rfl | hp
        · exact .tail _ hwr
        · exact .tail _ hp)
    have hzA := getD_zi l i
    have hzB : 0 < i → (zi l).getD ((i : Int) - 1).toNat 0 = ((at_ l (i - 1) : Nat) : Int) := by
      intro h0
      rw [show ((i : Int) - 1) = ((i - 1 : Nat) : Int) by omega, getD_zi]
    have hbd := told_length times (l.take i)
    have hbd2 : (times + 1) * (l.take i).length ≤ 10 * 1000 := Nat.mul_le_mul (by omega) (by rw [List.length_take]; omega)
    have hti : ti.length = (told times (l.take i)).length := by rw [hP.length]; simp
    tb_start
    · rename_i h0 _ h46 _ h10 l' hA FA NA lA D' hB FB NB iB nB sB eB e2 e3 lB
      rw [getD_zi] at h46
      rw [show ((i : Int) - 1) = ((i - 1 : Nat) : Int) by omega, getD_zi] at h10
      refine iadd_R (its := ti) (n := tn) (rest := rest) FB NB (.tail _ (.tail _ (.head _))) (.head _) (Nat.ne_of_gt lB.2.1) (fun p hp => .tail _ (.tail _ (.tail _ (.tail _ hp)))) hne ?_ ?_
      · rw [sizeLine_eq, hti]; simp; omega
      · intro h' n' F2 N2
        clear FA NA FB NB
        replace N2 := newsSub (l' := (lt, listOf _ n') :: (lw, listOf its.toArray n) :: rest) N2 (by
          intro p hp
          rcases List.mem_cons.mp hp with rfl | hp
          · exact .head _
          · rcases List.mem_cons.mp hp with rfl | hp
            · exact .tail _ hwr
            · exact .tail _ hp)
        dsimp only
        tb_start
        rename Fr _ _ _ _ => F3
        rename News _ _ _ _ => N3
        refine append_S F3 N3 (.head _) (fun p hp => .tail _ (.tail _ hp)) hne ?_ ?_
        · rw [List.length_append, hti, sizeLine_eq]; simp; omega
        · intro h4 F4 N4
          clear F3 N3
          dsimp only
          tb_start
          refine rpost_next ⟨_, _⟩ F4 N4 (by kst_all) ?_
          have hg := gap_yes times l i hi' (by omega) (by omega) (by omega)
          rw [told_take times l i hi', hg]
          simp only [zi, List.map_append]
          refine IntsAre.append (IntsAre.append hP ?_) ?_
          · rw [zi_replicate]; exact iB
          · rw [getD_zi]; exact .cons _ _ .nil
    all_goals
      have hg : gap times (l.take i) [at_ l i] = [] := by
        refine gap_no times l i hi' ?_
        rintro ⟨h0, h1, h2⟩
        have h3 := hzB h0
        omega
      rename Fr _ _ _ _ => F3
      rename News _ _ _ _ => N3
      refine append_S F3 N3 (.head _) (fun p hp => .tail _ (.tail _ hp)) hne ?_ ?_
      · rw [hti, sizeLine_eq]; omega
      · intro h4 F4 N4
        clear F3 N3
        dsimp only
        tb_start
        refine rpost_next ⟨_, _⟩ F4 N4 (by kst_all) ?_
        rw [told_take times l i hi', hg]
        simp only [zi, List.map_append, List.append_nil]
        refine IntsAre.append hP ?_
        rw [getD_zi]; exact .cons _ _ .nil
  case a6 =>
    clear F' N' R'
    rintro ⟨ti, tn⟩ u h tk hP F1 N1
    dsimp only at hP F1 N1
    tb_start
    have hin : KBa.In (zi (told times (l.take l.length))) := by
      intro x hx
      simp only [zi, List.mem_map] at hx
      obtain ⟨y, hy, rfl⟩ := hx
      rcases told_mem _ _ y hy with h | h
      · omega
      · have := h256 y (List.mem_of_mem_take h); omega
    have hbd := told_length times (l.take l.length)
    have hbd2 : (times + 1) * (l.take l.length).length ≤ 10 * 1000 := Nat.mul_le_mul (by omega) (by rw [List.length_take]; omega)
    refine KBa.make_K F1 N1 rfl (News.isList N1 (.head _)) hP hin (by simp only [zi, List.length_map]; omega) ?_
    intro h4 t4 k4 F4 N4 _
    clear F1 N1
    dsimp only
    tb_start
    refine ret _ _ _ _ ?_ (by assumption) (newsSub (by assumption) fun p hp => .tail _ hp)
    rw [KBa.ints_make hin, List.take_length]
end
end Mine

end

section
set_option maxRecDepth 100000
set_option maxHeartbeats 8000000
namespace Mine
open PySem PySem.W PyProof.Rows PySem.Calls
open AutoSeq1 (wpAny_loadPart')
open MeetsSeq MeetsSeq2 MeetsSeq3

theorem ints_at {vs : List Value} {l : List Nat} (h : IntsAre vs (zi l)) {i : Nat} (hi : i < l.length) : ∃ t, vs[i]? = some (.int ((at_ l i : Nat) : Int) t) := by
  refine h.get i _ ?_
  simp [zi, at_, hi]
theorem ints_end {vs : List Value} {l : List Nat} (h : IntsAre vs (zi l)) {i : Nat} (hi : ¬ i < l.length) : vs[i]? = none := by
  have := h.length
  simp only [zi, List.length_map] at this
  simp; omega

theorem lt_loop (l b : Addr) (vs us : List Value) (x y : List Nat) (n n2 : Nat) (hx : IntsAre vs (zi x)) (hy : IntsAre us (zi y)) (k : Nat) :
    ∀ i : Nat, x.length - i = k → i ≤ x.length → i ≤ y.length → Meets (Builtin.«list.__eq__.loop» ⟨[.ref l, .ref b, rawInt i, rawInt 0], []⟩)
      (fun _ R s => s.heap.get? l = some { cls := .type "list", dict := none, data := .seq vs.toArray n, slots := #[] } ∧ s.heap.get? b = some { cls := .type "list", dict := none, data := .seq us.toArray n2, slots := #[] } ∧
        R (.ok (.ret (.bool (lx (x.drop i) (y.drop i))))) s) := by
  have lx1 := hx.length
  have ly1 := hy.length
  simp only [zi, List.length_map] at lx1 ly1
  induction k with
  | zero =>
    intro i hk hix hiy prog w A R s h
    obtain ⟨hp, g, d, tk, os⟩ := s; obtain ⟨hl, hb, h⟩ := h
    wp_walk using wpAny_loadPart' hl, wpAny_loadPart' hb
    have hi1 : vs.toArray[((i : Nat) : Int).toNat]? = none := by simp; omega
    rw [hi1]
    wp_walk using wpAny_loadPart' hl, wpAny_loadPart' hb
    show R (.ok (.ret (.bool (decide (vs.toArray.size < us.toArray.size))))) _
    have e1 : x.drop i = [] := by simp; omega
    rw [e1] at h
    have e2 : decide (vs.toArray.size < us.toArray.size) = lx [] (y.drop i) := by
      by_cases hiy2 : i < y.length
      · rw [drop_at y i hiy2]
        simp only [lx, List.size_toArray]
        exact decide_eq_true (by omega)
      · rw [List.drop_eq_nil_of_le (by omega)]
        simp only [lx, List.size_toArray]
        exact decide_eq_false (by omega)
    rw [e2]; exact h
  | succ k ih =>
    intro i hk hix hiy prog w A R s h
    obtain ⟨hp, g, d, tk, os⟩ := s; obtain ⟨hl, hb, h⟩ := h
    wp_walk using wpAny_loadPart' hl, wpAny_loadPart' hb
    have hlt : i < x.length := by omega
    obtain ⟨t1, ht1⟩ := ints_at hx hlt
    have hi1 : vs.toArray[((i : Nat) : Int).toNat]? = some (.int ((at_ x i : Nat) : Int) t1) := by simpa using ht1
    by_cases hlt2 : i < y.length
    · obtain ⟨t2, ht2⟩ := ints_at hy hlt2
      have hi2 : us.toArray[((i : Nat) : Int).toNat]? = some (.int ((at_ y i : Nat) : Int) t2) := by simpa using ht2
      have hc : ((i : Int) + 1) = ((i + 1 : Nat) : Int) := by push_cast; rfl
      rw [hi1, hi2]
      refine wpAny_bind (EqGives.int _ _ t1 t2 prog w _ _ _ _ ?_)
      rw [drop_at x i hlt, drop_at y i hlt2] at h
      simp only [lx] at h
      by_cases he : at_ x i = at_ y i
      · rw [if_pos he] at h
        have hb' : (((at_ x i : Nat) : Int) == ((at_ y i : Nat) : Int)) = true := by rw [he]; simp
        rw [hb']
        wp_walk
        rw [hc]
        exact ⟨plainId_quiet plain_eq_loop _, codeAny_builtin entry_eq_loop (by
          rw [Around.under_plainId plain_eq_loop _]
          exact ih (i + 1) (by omega) (by omega) (by omega) prog w A R _ ⟨hl, hb, h⟩)⟩
      · rw [if_neg he] at h
        have hb' : (((at_ x i : Nat) : Int) == ((at_ y i : Nat) : Int)) = false := by
          rw [beq_eq_false_iff_ne]; omega
        rw [hb']
        wp_walk using wpAny_loadPart' hl, wpAny_loadPart' hb
        rw [hi1, hi2]
        refine wpAny_bind ?_
        show wpAny _ _ (compareOp .Lt _ _) _ _ _
        refine PyProof.Rows.lt_int ?_
        refine wpAny_pure ?_
        have e2 : decide (((at_ x i : Nat) : Int) < ((at_ y i : Nat) : Int)) = decide (at_ x i < at_ y i) := by
          by_cases q : at_ x i < at_ y i
          · rw [decide_eq_true q]; exact decide_eq_true (by omega)
          · rw [decide_eq_false q]; exact decide_eq_false (by omega)
        rw [e2]; exact h
    · have hi2 : us.toArray[((i : Nat) : Int).toNat]? = none := by simp; omega
      rw [hi1, hi2]
      wp_walk using wpAny_loadPart' hl, wpAny_loadPart' hb
      show R (.ok (.ret (.bool (decide (vs.toArray.size < us.toArray.size))))) _
      rw [drop_at x i hlt, List.drop_eq_nil_of_le (show y.length ≤ i by omega)] at h
      have e2 : decide (vs.toArray.size < us.toArray.size) = false := decide_eq_false (by simp only [List.size_toArray]; omega)
      rw [e2]; exact h

theorem list_lt (l b : Addr) (vs us : List Value) (x y : List Nat) (n n2 : Nat) (hx : IntsAre vs (zi x)) (hy : IntsAre us (zi y)) :
    Meets (Builtin.«list.__lt__» ⟨[.ref l, .ref b], []⟩)
      (fun _ R s => s.heap.get? l = some { cls := .type "list", dict := none, data := .seq vs.toArray n, slots := #[] } ∧ s.heap.get? b = some { cls := .type "list", dict := none, data := .seq us.toArray n2, slots := #[] } ∧
        R (.ok (.ret (.bool (lx x y)))) s) := by
  intro prog w A R s h
  obtain ⟨hp, g, d, tk, os⟩ := s; obtain ⟨hl, hb, h⟩ := h
  have f3 := AutoSeq1.sub_list_list
  wp_walk using wpAny_loadPart' hl, wpAny_loadPart' hb
  exact ⟨plainId_quiet plain_eq_loop _, codeAny_builtin entry_eq_loop (by
    rw [Around.under_plainId plain_eq_loop _]
    exact lt_loop l b vs us x y n n2 hx hy _ 0 rfl (by omega) (by omega) prog w A R _ ⟨hl, hb, h⟩)⟩

section
variable {prog : Program} {w : World} {A : Around} {E : Value → Shared → Prop} {s : Shared}
theorem lt_lists {a b : Addr} {vs us : List Value} {x y : List Nat} {n n2 : Nat} {Q : Value → Shared → Prop} (ha : s.heap.get? a = some (listOf vs.toArray n)) (hb : s.heap.get? b = some (listOf us.toArray n2)) (hx : IntsAre vs (zi x)) (hy : IntsAre us (zi y))
    (hu : A.units < cLine) (h : Q (.bool (lx x y)) s) : wpAny (model prog w) A (compareOp .Lt (.ref a) (.ref b)) Q E s := by
  show wpAny _ _ (richCompare .Lt _ _) _ _ _
  exact wpAny_richCompare_same_room ⟨_, ha, rfl⟩ ⟨_, hb, rfl⟩ PySem.F.slot_list_lt (call_meets PySem.F.slot_list_lt ⟨_, ha, rfl⟩ PySem.F.entry_list_lt (PySem.F.args_list_lt_2 _ _) (list_lt a b vs us x y n n2 hx hy) ⟨ha, hb, show _ ∧ _ from ⟨(by intro e; cases e), h⟩⟩) hu
end
end Mine

end

section
open PySem PySem.W PyProof.Rows PySem.Calls
set_option maxRecDepth 100000
set_option maxHeartbeats 8000000
namespace Mine
example : (fun (_ : OpenLaw) (_ : Params → Frag) => True) PySem.Challenge.rw_pg0008_01 hd.heap_39 := by
  w_on; k_fill; trivial

local macro_rules | `(tactic| tb_start) => `(tactic| repeat' (first | ((fail_if_success (with_reducible show wpAny _ _ (exec (Stmt.While _ _ _ _) _) _ _ _)); (fail_if_success (with_reducible show wpAny _ _ (exec (Stmt.For _ _ _ _ _) _) _ _ _)); (fail_if_success (with_reducible show wpAny _ _ (pyIter _) _ _ _)); (fail_if_success (with_reducible show wpAny _ _ (subscriptTail _ (Expr.Slice _ _ _ _) (Value.ref _) (Value.ref _)) _ _ _)); (fail_if_success (with_reducible show wpAny _ _ (compareOp CmpOp.Lt (Value.ref _) (Value.ref _)) _ _ _)); (fail_if_success (with_reducible show wpAny _ _ (binaryOp Operator.Add (Value.ref _) (Value.ref _)) _ _ _));   (fail_if_success (with_reducible show wpAny _ _ (eval (Expr.ListComp _ _ _ _) _) _ _ _)); first | (k_unfold; (try dsimp only)) | (k_end; wrow_close) | walk1 | (dsimp only; walk1) | (leave1; walk_say "STEP leave1"; try dsimp only)) | fail "no step"))
local macro_rules | `(tactic| k_all) => `(tactic| exact fun p hp => Nat.ne_of_lt ((show ∀ p ∈ _, p.1 < _ by assumption) p hp))

section
variable {prog : Program} {w : World} {p : Program} {loose : List Str} {mean : ExcName → Option Value} {mg mb : Str → Option Value}
  {dp un : Nat} {gd : Option (List Code)} {cn : Str} {cs : Scope} {a : Addr} {ccd : Value} {cl : List (Str × Addr)} {outer : List Env} {A₀ : Around} {base h₀ : Heap} {L : Addr} {m : Str → Option Value} {news : List (Addr × Obj)} {s : Shared} {Q E : Value → Shared → Prop}

theorem slice_from {A : Around} {l : Addr} {value slice : PySem.Expr} {all : List (Addr × Obj)} {vs : List Value} {n : Nat} {x : List Nat} {z : Int} {t : Tok} (k : Nat) (F : Fr h₀ L s.heap m) (N : News h₀ L s.heap all) (hD : (l, listOf vs.toArray n) ∈ all) (hi : IntsAre vs (zi x)) (hz : z = (k : Int)) (hl : x.length < 1000)
    (h : ∀ D ws h', Fr h₀ L h' m → News h₀ L h' ((D, listOf (List.toArray ws) 0) :: all) → (∀ p ∈ all, p.1 < D) → IntsAre ws (zi (x.drop k)) → Q (.ref D) { s with heap := h' })
    (hs : subscripted slice false (.ref l) (.ref s.heap.objs.size) = operate [.ref s.heap.objs.size, .ref l] (getItem (.ref l) (.ref s.heap.objs.size))) (ht : ∀ r, letTemporaryGo value (.ref l) r = pure ()) :
    wpAny (model prog w) A (subscriptTail value slice (.ref l) (.ref s.heap.objs.size)) Q E { s with heap := s.heap.push { cls := .type "slice", data := .fields #[.int z t, .none, .none] } } := by
  subst hz
  have hk := kmk_from (x := (k : Int)) hi (by omega)
  refine kmk_slice_ints F N (News.isList N hD) (IsPart.int _ _) IsPart.none hi hk rfl (fun D ws h' F' N' l1 hI _ _ => h D ws h' F' N' l1 ?_) hs ht ?_
  · simpa [zi, List.map_drop] using hI
  · rw [List.size_toArray, hi.length, sizeLine_eq]; simp [zi]; omega

theorem last_zi (pre : List Nat) (c : Nat) : (zi (pre ++ [c])).getD (-1 + ((zi (pre ++ [c])).length : Int)).toNat 0 = (c : Int) := by
  have : (-1 + ((zi (pre ++ [c])).length : Int)).toNat = pre.length := by simp [zi]; omega
  rw [this]
  simp [zi]

theorem cuts_ok {lw : Addr} {its : List Value} {n : Nat} {l : List Nat} (B : Below A₀ base outer h₀) (F : Fr h₀ L s.heap m) (X : (hd.heap_39 w.params).In h₀) (N : News h₀ L s.heap ((lw, listOf its.toArray n) :: news)) (T : Top p loose mean mg mb h₀) (hk : cs.kind = .function)
    (hd : dp + 2 < recursionLimit) (hu : un + 100 < cLine) (hi : IntsAre its (zi l)) (hl : l.length < 1000) (h0 : 0 < l.length)
    (ret : ∀ x rits rn rs h' tk', IntsAre rits (zi rs) → (∀ c ∈ rs, c ≤ l.length) → rs.length ≤ l.length + 1 → pieces l rs = words l → Fr h₀ L h' m → News h₀ L h' ((x, listOf rits.toArray rn) :: (lw, listOf its.toArray n) :: news) → (∀ p ∈ ((lw, listOf its.toArray n) :: news), p.1 < x) → Q (.ref x) { s with heap := h', toks := tk' }) :
    wpAny (model prog w) (ktrTop dp un gd cn cs L a ccd cl outer) (call (.ref 85) [.ref lw]) Q E s := by
  have hlen : (zi l).length = l.length := by simp
  refine wpAny_call ?_
  k_dflt cell_enter
  tb_start
  rename Fr _ _ _ _ => lF'
  k_dflt (refine' For_invVF lF' ?q1 ?q2 ?_)
  case q1 => exact rfl
  case q2 => exact rfl
  tb_start
  rename IsRange _ _ _ _ _ _ _ _ => R'
  rename Fr _ _ _ _ => F'
  rename News _ _ _ _ => N'
  rename (_ : Nat) < _ ∧ AllLt _ _ => l1
  rename_i lt h2 h1 Fo No h3 tk0 t1 u1 v1 keep
  clear Fo No keep
  obtain ⟨l1, l2⟩ := l1
  have l2' := kst_ltOf l2
  have hlt : ∀ p ∈ ((lw, listOf its.toArray n) :: news), p.1 ≠ lt := by
    intro p hp
    rcases List.mem_cons.mp hp with rfl | hp
    · exact Nat.ne_of_lt l1
    · exact Nat.ne_of_lt (l2' p hp)
  k_dflt (refine mrange (n := l.length - 1) (σ := TS) lt (fun c => listOf c.its.toArray c.n) ((lw, listOf its.toArray n) :: news) (fun c => [(Str.ofString "cuts", .ref lt), (Str.ofString "octets", .ref lw)]) (fun i c => ∃ cs, IntsAre c.its (zi cs) ∧ Cut l (1 + i) cs) ⟨[.int 0 _], 0⟩ rfl R' ?a1 ?a2 F' N' hlt ?a3 ?a4 ?a5 ?a6)
  case a1 => exact small_one (by decide) (by decide) (by omega) (by omega)
  case a2 => rw [rangeSize_nat]; omega
  case a3 => kst_all
  case a4 => exact ⟨[0], .cons _ _ .nil, cut_init l h0⟩
  case a5 =>
    clear F' N' R'
    rintro ⟨ti, tn⟩ i t u h tk rest hi' hsub hne ⟨cs', hP, hC⟩ F1 N1
    dsimp only at hP hC F1 N1
    obtain ⟨⟨pre, c, rfl, hc, hw⟩, hle, hall, hcl⟩ := id hC
    have hwr := hsub _ (.head _)
    have htl := hP.length
    simp only [zi, List.length_map, List.length_append, List.length_cons, List.length_nil] at htl
    replace N1 := newsSub (l' := (lt, listOf ti.toArray tn) :: (lw, listOf its.toArray n) :: rest) N1 (by
      intro p hp
      rcases List.mem_cons.mp hp with rfl | hp
      · exact .head _
      · rcases List.mem_cons.mp hp with rfl | hp
        · exact .tail _ hwr
        · exact .tail _ hp)
    clear hw hall
    have hcl' : pre.length + 1 ≤ 1 + i := by simpa using hcl
    tb_start
    k_dflt (refine' slice_from (1 + i) F1 N1 (.tail _ (.head _)) hi (by omega) hl ?_ ?s1 ?s2)
    case s1 => with_unfolding_all rfl
    case s2 => kmk_pure
    intro D1 w1 h1' F2 N2 lD1 I1
    clear F1 N1
    dsimp only
    tb_start
    have hlast := last_zi pre c
    k_dflt (refine' slice_from c F2 N2 (.tail _ (.tail _ (.head _))) hi hlast hl ?_ ?s1 ?s2)
    case s1 => with_unfolding_all rfl
    case s2 => kmk_pure
    · intro D2 w2 h2' F3 N3 lD2 I2
      clear F2 N2
      refine lt_lists (N3 _ (.tail _ (.head _))).1 (N3 _ (.head _)).1 I1 I2 (by ktr_units) ?_
      replace N3 := newsSub (l' := (lt, listOf ti.toArray tn) :: rest) N3 (by
        intro p hp
        rcases List.mem_cons.mp hp with rfl | hp
        · exact .tail _ (.tail _ (.head _))
        · exact .tail _ (.tail _ (.tail _ (.tail _ hp))))
      tb_start
      · rename lx _ _ = true => hyes
        rename Fr _ _ _ _ => F5
        rename News _ _ _ _ => N5
        refine append_S F5 N5 (.head _) (fun p hp => .tail _ hp) hne ?_ ?_
        · rw [htl, sizeLine_eq]; omega
        · intro h6 F6 N6
          clear F5 N5
          dsimp only
          tb_start
          refine rpost_next ⟨_, _⟩ F6 N6 (by kst_all) ⟨pre ++ [c] ++ [1 + i], ?_, ?_⟩
          · rw [show zi (pre ++ [c] ++ [1 + i]) = zi (pre ++ [c]) ++ [1 + (i : Int)] by simp [zi]]
            exact IntsAre.append hP (.cons _ _ .nil)
          · have := cut_yes (x := 1 + i) hC (by omega) hyes
            rw [show 1 + (i + 1) = 1 + i + 1 by omega]; exact this
      · rename_i hno
        refine rpost_next ⟨_, _⟩ (by assumption) (by assumption) (by kst_all) ⟨pre ++ [c], hP, ?_⟩
        have := cut_no (x := 1 + i) hC (by omega) (by simpa using hno)
        rw [show 1 + (i + 1) = 1 + i + 1 by omega]; exact this
  case a6 =>
    clear F' N' R'
    rintro ⟨ti, tn⟩ u h tk ⟨cs', hP, hC⟩ F1 N1
    dsimp only at hP hC F1 N1
    tb_start
    rename_i l' h4 F4 N4 l4
    have htl := hP.length
    have hcl := hC.len
    simp only [zi, List.length_map] at htl
    refine kmk_add_ints (ws := [Value.int _ _]) F4 N4 (News.isList N4 (.tail _ (.head _))) (News.isList N4 (.head _)) hP (.cons _ _ .nil) ?_ ?_
    · intro D us h5 F5 N5 l5 I5
      clear F4 N4
      dsimp only
      tb_start
      rw [show 1 + (l.length - 1) = l.length by omega] at hC
      refine ret D us 0 (cs' ++ [l.length]) h5 _ ?_ ?_ ?_ (cut_end hC).symm (by assumption) (newsSub (by assumption) ?_) ?_
      · rw [hlen] at I5
        simpa [zi] using I5
      · intro c hc
        rcases List.mem_append.mp hc with hc | hc
        · exact hC.all c hc
        · simp at hc; omega
      · simp; omega
      · intro p hp
        rcases List.mem_cons.mp hp with rfl | hp
        · exact .head _
        · exact .tail _ (.tail _ (.tail _ hp))
      · intro p hp
        exact l5 p (.tail _ (.tail _ hp))
    · rw [sizeLine_eq]; simp; omega
end
end Mine

end

section
set_option maxRecDepth 100000
set_option maxHeartbeats 8000000
namespace Mine
open PySem PySem.W PyProof.Rows PySem.Calls

theorem look_bytes_buffer : typeLookup (.type "bytes") "__buffer__" = pure (some (.builtin "bytes.__buffer__")) := by rw [typeLookup_type, builtinLookup_eq_fast]; kernel_rfl
theorem look_bytes_release : typeLookup (.type "bytes") "__release_buffer__" = pure none := by rw [typeLookup_type, builtinLookup_eq_fast]; kernel_rfl
theorem look_bytes_call : typeLookup (.type "bytes") "__call__" = pure none := by rw [typeLookup_type, builtinLookup_eq_fast]; kernel_rfl
theorem slot_sub : Slot "re.Pattern" "sub" "re.Pattern.sub" :=
  .of (owner := "re.Pattern") (n := "sub") (by rw [typeLookup_type, builtinLookup_eq_fast]; kernel_rfl) (by decide +kernel) (by decide +kernel) (by decide +kernel)
    (by first | exact .inl (by decide +kernel) | exact .inr (by decide +kernel)) (by rw [isSubtype_type]; kernel_rfl)
theorem attrs_pattern : PlainAttrs "re.Pattern" := ⟨by first | exact ⟨"re.Pattern.__getattribute__", by rw [typeLookup_type, builtinLookup_eq_fast]; kernel_rfl, by decide +kernel⟩ | exact ⟨"object.__getattribute__", by rw [typeLookup_type, builtinLookup_eq_fast]; kernel_rfl, by decide +kernel⟩, by rw [typeLookup_type, builtinLookup_eq_fast]; kernel_rfl⟩
theorem type_sub : typeOf (.builtin "re.Pattern.sub") = pure (.type "method_descriptor") := by kernel_rfl
theorem entry_sub : entryFor table "re.Pattern.sub" = some Builtin.«re.Pattern.sub» := entryFor_of_tree (by kernel_rfl)
theorem entry_sub_loop : entryFor table "re.Pattern.sub.loop" = some Builtin.«re.Pattern.sub.loop» := entryFor_of_tree (by kernel_rfl)
theorem plain_sub_loop : plainId "re.Pattern.sub.loop" = true := by decide +kernel
theorem args_sub (a b c : Value) : argsOk "re.Pattern.sub" ⟨[a, b, c], []⟩ := by unfold argsOk; kernel_rfl
theorem slot_join : Slot "bytes" "join" "bytes.join" :=
  .of (owner := "bytes") (n := "join") (by rw [typeLookup_type, builtinLookup_eq_fast]; kernel_rfl) (by decide +kernel) (by decide +kernel) (by decide +kernel)
    (by first | exact .inl (by decide +kernel) | exact .inr (by decide +kernel)) (by rw [isSubtype_type]; kernel_rfl)
theorem entry_join : entryFor table "bytes.join" = some Builtin.«bytes.join» := entryFor_of_tree (by kernel_rfl)
theorem args_join (a b : Value) : argsOk "bytes.join" ⟨[a, b], []⟩ := by unfold argsOk; kernel_rfl

section
variable {M : Model} {A : Around} {E : Value → Shared → Prop} {s : Shared}
theorem wp_slotIsOwn {b : Array UInt8} {t : Tok} {Q : Bool → Shared → Prop} (h : Q true s) : wpAny M A (Builtin.Bytes.slotIsOwn (.bytes b t) "__buffer__") Q E s := by
  unfold Builtin.Bytes.slotIsOwn
  refine wpAny_bind (wpAny_specialOf (typeIs_bytes s b t) look_bytes_buffer ?_)
  show wpAny M A (if (!("bytes.__buffer__" : String).endsWith ("." ++ "__buffer__")) = true then _ else _) Q E s
  rw [if_neg (by decide +kernel)]
  show wpAny M A (isInstance (.bytes b t) (.type (("bytes.__buffer__" : String).dropRight (("__buffer__" : String).length + 1)))) Q E s
  rw [show (("bytes.__buffer__" : String).dropRight (("__buffer__" : String).length + 1)) = "bytes" by decide +kernel]
  exact wpAny_isInstance (typeIs_bytes s b t) F.sub_bytes_bytes h
theorem wp_ownRelease {b : Array UInt8} {t : Tok} {Q : Bool → Shared → Prop} (h : Q false s) : wpAny M A (Builtin.Bytes.ownRelease (.bytes b t)) Q E s := by
  unfold Builtin.Bytes.ownRelease Builtin.Bytes.slotIsOwn
  refine wpAny_bind (wpAny_bind (wpAny_specialOf (typeIs_bytes s b t) look_bytes_release ?_))
  exact wpAny_pure (wpAny_pure h)
theorem wp_buffer {id : String} {full : Bool} {b : Array UInt8} {t : Tok} {Q : Option (Array UInt8) → Shared → Prop} (h : Q (some b) s) : wpAny M A (Builtin.Bytes.buffer? id (.bytes b t) full) Q E s := by
  unfold Builtin.Bytes.buffer?
  refine wpAny_bind (wpAny_specialOf (typeIs_bytes s b t) look_bytes_buffer ?_)
  refine wpAny_bind (wp_slotIsOwn ?_)
  rw [if_neg (by decide)]
  refine wpAny_bind (wpAny_specialOf (typeIs_bytes s b t) look_bytes_buffer ?_)
  refine wpAny_bind (wp_ownRelease ?_)
  rw [if_neg (by decide)]
  exact wpAny_pure h
theorem wp_bufferQuiet {id : String} {b : Array UInt8} {t : Tok} {Q : Option (Array UInt8) → Shared → Prop} (h : Q (some b) s) : wpAny M A (Builtin.Bytes.bufferQuiet? id (.bytes b t)) Q E s := by
  unfold Builtin.Bytes.bufferQuiet?
  exact wpAny_bind (wpAny_attempt (wp_buffer (wpAny_pure h)))
theorem wp_takeBufferQuiet {id : String} {flags : Int} {b : Array UInt8} {t : Tok} {Q : Option (Array UInt8 × Option Value) → Shared → Prop} (h : Q (some (b, none)) s) : wpAny M A (Builtin.Bytes.takeBufferQuiet? id (.bytes b t) flags) Q E s := by
  unfold Builtin.Bytes.takeBufferQuiet? Builtin.Bytes.takeBuffer?
  refine wpAny_bind (wpAny_attempt ?_)
  refine wpAny_bind (wpAny_specialOf (typeIs_bytes s b t) look_bytes_buffer ?_)
  refine wpAny_bind (wp_slotIsOwn ?_)
  rw [if_neg (by decide)]
  refine wpAny_bind (wpAny_specialOf (typeIs_bytes s b t) look_bytes_buffer ?_)
  exact wpAny_bind (wp_buffer (wpAny_pure (wpAny_pure h)))
end
end Mine

end

section
set_option maxRecDepth 100000
set_option maxHeartbeats 8000000
namespace Mine
open PySem PySem.Sre PySem.Sre.M

abbrev dotCode : Array Nat := #[14, 4, 0, 1, 1, 6, 1, 16, 46, 1]

/-- the machine about to try at `s` -/
def dotM (l : List Nat) (s : Nat) (first : Bool) (seen : Sre.Seen) (pc pos handed : Nat) (frames : List Sre.Frame) (weight : Nat) (answer : Option Bool) (outcome : Option Sre.Outcome) : M :=
  { code := dotCode, text := l.toArray, lim := l.length, start := s, lastStart := l.length, wholeText := false, mustAdvance := false, pc := pc, pos := pos, handed := handed, outermost := first, marks := #[],
    lastmark := -1, lastindex := -1, loops := #[], inner := none, frames := frames, weight := weight, answer := answer, seen := seen, outcome := outcome }

abbrev dotF (s : Nat) (first : Bool) : Sre.Frame := { wait := .nextStart, pc := 5, pos := s, outermost := first }

abbrev tryAt (l : List Nat) (s : Nat) (first : Bool) (seen : Sre.Seen) : M := dotM l s first seen 5 s s [dotF s first] 1 none none

/-- a line begins here -/
def bol (l : List Nat) (s : Nat) : Bool := s == 0 || at_ l (s - 1) == 10

theorem getD_at (l : List Nat) (i : Nat) : l.toArray.getD i 0 = at_ l i := by
  simp [at_, Array.getD_eq_getD_getElem?]

theorem step_at (l : List Nat) (s : Nat) (first : Bool) (seen : Sre.Seen) : ∃ seen', M.step (tryAt l s first seen) = if bol l s = true then dotM l s first seen' 7 s s [dotF s first] 1 none none else dotM l s first seen' 5 s s [dotF s first] 1 (some false) none := by
  refine ⟨(seen.add 6).add 44, ?_⟩
  have h : (s == 0 || l.toArray.getD (s - 1) 0 == 10) = bol l s := by rw [getD_at]; rfl
  rw [← h]
  show (if (s == 0 || l.toArray.getD (s - 1) 0 == 10) = true then _ else _) = _
  split <;> rfl

theorem step_lit (l : List Nat) (s : Nat) (first : Bool) (seen : Sre.Seen) : ∃ seen', M.step (dotM l s first seen 7 s s [dotF s first] 1 none none) =
    if s < l.length ∧ at_ l s = 46 then dotM l s first seen' 9 (s + 1) s [dotF s first] 1 none none else dotM l s first seen' 7 s s [dotF s first] 1 (some false) none := by
  refine ⟨seen.add 16, ?_⟩
  have e : M.step (dotM l s first seen 7 s s [dotF s first] 1 none none) =
      if s ≥ l.length then dotM l s first (seen.add 16) 7 s s [dotF s first] 1 (some false) none else
        (match (Except.ok (l.toArray.getD s 0 == 46, seen.add 16) : Except String (Bool × Sre.Seen)) with
        | .error why => (dotM l s first (seen.add 16) 7 s s [dotF s first] 1 none none).stick why
        | .ok (false, seen) => dotM l s first seen 7 s s [dotF s first] 1 (some false) none
        | .ok (true, seen) => dotM l s first seen 9 (s + 1) s [dotF s first] 1 none none) := rfl
  rw [e, getD_at]
  by_cases h1 : s ≥ l.length
  · rw [if_pos h1, if_neg (by omega)]
  · rw [if_neg h1]
    by_cases h2 : at_ l s = 46
    · have h3 : (at_ l s == 46) = true := beq_iff_eq.mpr h2
      rw [h3, if_pos ⟨by omega, h2⟩]
    · have h3 : (at_ l s == 46) = false := beq_eq_false_iff_ne.mpr h2
      rw [h3, if_neg (fun h => h2 h.2)]

theorem step_yes (l : List Nat) (s : Nat) (first : Bool) (seen : Sre.Seen) : ∃ seen', M.step (dotM l s first seen 9 (s + 1) s [dotF s first] 1 none none) = dotM l s first seen' 9 (s + 1) (s + 1) [dotF s first] 1 (some true) none := by
  refine ⟨seen.add 1, ?_⟩
  cases first <;> rfl

theorem step_back (l : List Nat) (s : Nat) (first : Bool) (seen : Sre.Seen) : M.step (dotM l s first seen 9 (s + 1) (s + 1) [dotF s first] 1 (some true) none) = dotM l s first seen 5 s (s + 1) [] 0 (some true) none := rfl
theorem step_done (l : List Nat) (s h : Nat) (first : Bool) (seen : Sre.Seen) : M.step (dotM l s first seen 5 s h [] 0 (some true) none) = dotM l s first seen 5 s h [] 0 (some true) (some .matched) := rfl
theorem step_fail (l : List Nat) (s : Nat) (first : Bool) (seen : Sre.Seen) (pc : Nat) : M.step (dotM l s first seen pc s s [dotF s first] 1 (some false) none) =
    if s < l.length then tryAt l (s + 1) false seen else dotM l s first seen 5 s s [] 0 (some false) none := rfl
theorem step_failed (l : List Nat) (s : Nat) (first : Bool) (seen : Sre.Seen) : M.step (dotM l s first seen 5 s s [] 0 (some false) none) = dotM l s first seen 5 s s [] 0 (some false) (some .failed) := rfl

def Goes (n : Nat) (m m' : M) : Prop := ∀ k, M.runFor (n + k) m = M.runFor k m'
theorem Goes.one {m : M} (h : m.outcome = none) : Goes 1 m m.step := by
  intro k
  rw [Nat.add_comm 1 k]
  show (if m.outcome.isSome = true then m else M.runFor k m.step) = _
  rw [h]; rfl
theorem Goes.trans {a b : Nat} {m m' m'' : M} (h : Goes a m m') (h' : Goes b m' m'') : Goes (a + b) m m'' := by
  intro k
  rw [Nat.add_assoc, h, h']
theorem Goes.step {a : Nat} {m m' m'' : M} (h : m.outcome = none) (e : m.step = m') (h' : Goes a m' m'') : Goes (1 + a) m m'' := (e ▸ Goes.one h).trans h'
theorem Goes.refl (m : M) : Goes 0 m m := fun k => by rw [Nat.zero_add]

/-- the first place from `s` on where a line begins with a dot -/
def findDot (l : List Nat) : (fuel s : Nat) → Option Nat
  | 0, _ => none
  | f + 1, s => if bol l s = true ∧ at_ l s = 46 then some s else findDot l f (s + 1)

theorem run_dot (l : List Nat) : ∀ (k s : Nat) (first : Bool) (seen : Sre.Seen), l.length - s = k → s ≤ l.length → ∃ n m', n ≤ 4 * k + 10 ∧ Goes n (tryAt l s first seen) m' ∧
    match findDot l k s with
    | some p => m'.outcome = some .matched ∧ m'.start = p ∧ m'.handed = p + 1
    | none => m'.outcome = some .failed := by
  intro k
  induction k with
  | zero =>
    intro s first seen hk hs
    obtain ⟨seen1, e1⟩ := step_at l s first seen
    have hsl : s = l.length := by omega
    by_cases hb : bol l s = true
    · rw [if_pos hb] at e1
      obtain ⟨seen2, e2⟩ := step_lit l s first seen1
      rw [if_neg (by omega)] at e2
      have e3 := step_fail l s first seen2 7
      rw [if_neg (by omega)] at e3
      exact ⟨_, _, by omega, Goes.step rfl e1 (Goes.step rfl e2 (Goes.step rfl e3 (Goes.step rfl (step_failed l s first seen2) (Goes.refl _)))), rfl⟩
    · rw [if_neg hb] at e1
      have e3 := step_fail l s first seen1 5
      rw [if_neg (by omega)] at e3
      exact ⟨_, _, by omega, Goes.step rfl e1 (Goes.step rfl e3 (Goes.step rfl (step_failed l s first seen1) (Goes.refl _))), rfl⟩
  | succ k ih =>
    intro s first seen hk hs
    obtain ⟨seen1, e1⟩ := step_at l s first seen
    have hsl : s < l.length := by omega
    by_cases hb : bol l s = true
    · rw [if_pos hb] at e1
      obtain ⟨seen2, e2⟩ := step_lit l s first seen1
      by_cases hd : at_ l s = 46
      · rw [if_pos ⟨hsl, hd⟩] at e2
        obtain ⟨seen3, e3⟩ := step_yes l s first seen2
        refine ⟨_, _, ?_, Goes.step rfl e1 (Goes.step rfl e2 (Goes.step rfl e3 (Goes.step rfl (step_back l s first seen3) (Goes.step rfl (step_done l s (s + 1) first seen3) (Goes.refl _))))), ?_⟩
        · omega
        · rw [findDot, if_pos ⟨hb, hd⟩]
          exact ⟨rfl, rfl, rfl⟩
      · rw [if_neg (fun h => hd h.2)] at e2
        have e3 := step_fail l s first seen2 7
        rw [if_pos hsl] at e3
        obtain ⟨n, m', hn, hg, hm⟩ := ih (s + 1) false seen2 (by omega) (by omega)
        refine ⟨_, m', ?_, Goes.step rfl e1 (Goes.step rfl e2 (Goes.step rfl e3 hg)), ?_⟩
        · omega
        · rw [findDot, if_neg (fun h => hd h.2)]; exact hm
    · rw [if_neg hb] at e1
      have e3 := step_fail l s first seen1 5
      rw [if_pos hsl] at e3
      obtain ⟨n, m', hn, hg, hm⟩ := ih (s + 1) false seen1 (by omega) (by omega)
      refine ⟨_, m', ?_, Goes.step rfl e1 (Goes.step rfl e3 hg), ?_⟩
      · omega
      · rw [findDot, if_neg (fun h => hb h.1)]; exact hm

theorem search_some (l : List Nat) (s : Nat) (h : s < l.length) : Sre.forSearch dotCode l.toArray 0 s l.length false = tryAt l s true (({} : Sre.Seen).add 14) := by
  show (if (decide (s > l.length) || decide (l.length - s < 1)) = true then _ else _) = _
  rw [if_neg (by simp; omega)]
  rfl
theorem search_none (l : List Nat) (s : Nat) (h : l.length ≤ s) : ∃ m', Goes 1 (Sre.forSearch dotCode l.toArray 0 s l.length false) m' ∧ m'.outcome = some .failed := by
  refine ⟨(Sre.forSearch dotCode l.toArray 0 s l.length false).step, Goes.one ?_, ?_⟩
  · show M.outcome (if (decide (s > l.length) || decide (l.length - s < 1)) = true then _ else _) = _
    rw [if_pos (by simp; omega)]
    rfl
  · show M.outcome (M.step (if (decide (s > l.length) || decide (l.length - s < 1)) = true then _ else _)) = _
    rw [if_pos (by simp; omega)]
    rfl

/-- what the search finds -/
theorem search_dot (l : List Nat) (s : Nat) : ∃ n m', n ≤ 4 * l.length + 10 ∧ Goes n (Sre.forSearch dotCode l.toArray 0 s l.length false) m' ∧
    match findDot l (l.length - s) s with
    | some p => m'.outcome = some .matched ∧ m'.start = p ∧ m'.handed = p + 1
    | none => m'.outcome = some .failed := by
  by_cases h : s < l.length
  · rw [search_some l s h]
    obtain ⟨n, m', hn, hg, hm⟩ := run_dot l (l.length - s) s true (({} : Sre.Seen).add 14) rfl (by omega)
    exact ⟨n, m', by omega, hg, hm⟩
  · obtain ⟨m', hg, hm⟩ := search_none l s (by omega)
    refine ⟨1, m', by omega, hg, ?_⟩
    rw [show l.length - s = 0 by omega]
    exact hm

theorem findDot_spec (l : List Nat) : ∀ (k s : Nat), k = l.length - s → s ≤ l.length →
    match findDot l k s with
    | some p => s ≤ p ∧ p < l.length ∧ quoteB (bol l s) (l.drop s) = (l.take p).drop s ++ [46, 46] ++ quoteB (bol l (p + 1)) (l.drop (p + 1))
    | none => quoteB (bol l s) (l.drop s) = l.drop s := by
  intro k
  induction k with
  | zero =>
    intro s hk hs
    have : l.drop s = [] := List.drop_eq_nil_of_le (by omega)
    simp [findDot, this, quoteB]
  | succ k ih =>
    intro s hk hs
    have hlt : s < l.length := by omega
    have hbn : bol l (s + 1) = (at_ l s == 10) := by
      unfold bol
      simp
    rw [findDot]
    by_cases hc : bol l s = true ∧ at_ l s = 46
    · rw [if_pos hc]
      refine ⟨by omega, hlt, ?_⟩
      rw [drop_at l s hlt, quoteB, if_pos hc, hbn, hc.2]
      have : (l.take s).drop s = [] := List.drop_eq_nil_of_le (by rw [List.length_take]; omega)
      rw [this]
      rfl
    · rw [if_neg hc]
      have := ih (s + 1) (by omega) (by omega)
      cases hf : findDot l k (s + 1) with
      | none =>
        rw [hf] at this
        show quoteB (bol l s) (l.drop s) = l.drop s
        rw [drop_at l s hlt, quoteB, if_neg hc, ← hbn, this]
      | some p =>
        rw [hf] at this
        obtain ⟨h1, h2, h3⟩ := this
        refine ⟨by omega, h2, ?_⟩
        rw [drop_at l s hlt, quoteB, if_neg hc, ← hbn, h3]
        have : (l.take p).drop s = at_ l s :: (l.take p).drop (s + 1) := by
          rw [drop_at (l.take p) s (by rw [List.length_take]; omega)]
          congr 1
          simp [at_, show s < p by omega]
        rw [this]
        simp

end Mine

end

section
set_option maxRecDepth 100000
set_option maxHeartbeats 8000000
namespace Mine
open PySem PySem.W PyProof.Rows PySem.Calls PySem.Builtin.Re

theorem runFor_done {m : Sre.M} (h : m.outcome.isSome = true) : ∀ k, Sre.M.runFor k m = m
  | 0 => rfl
  | k + 1 => by
    show (if m.outcome.isSome = true then m else Sre.M.runFor k m.step) = m
    rw [if_pos h]
theorem runFor_add : ∀ (a b : Nat) (m : Sre.M), Sre.M.runFor (a + b) m = Sre.M.runFor b (Sre.M.runFor a m)
  | 0, b, m => by rw [Nat.zero_add]; rfl
  | a + 1, b, m => by
    rw [show a + 1 + b = (a + b) + 1 by omega]
    show (if m.outcome.isSome = true then m else Sre.M.runFor (a + b) m.step) = Sre.M.runFor b (if m.outcome.isSome = true then m else Sre.M.runFor a m.step)
    by_cases h : m.outcome.isSome = true
    · rw [if_pos h, if_pos h, runFor_done h]
    · rw [if_neg h, if_neg h, runFor_add]

section
variable {M : Model} {A : Around} {E : Value → Shared → Prop} {s : Shared}

theorem wp_drive {Q : Sre.M → Shared → Prop} {m' : Sre.M} (ho : m'.outcome.isSome = true) (h : Q m' s) : ∀ (turns n : Nat) (m : Sre.M), Goes n m m' → n < 4 * turns → wpAny M A (reDrive turns m) Q E s := by
  intro turns
  induction turns with
  | zero => intro n m _ hn; omega
  | succ turns ih =>
    intro n m hg hn
    show wpAny M A (if (Sre.M.runFor 4 m).outcome.isSome = true then pure (Sre.M.runFor 4 m) else do rule "sre.turn"; reDrive turns (Sre.M.runFor 4 m)) Q E s
    by_cases hc : (Sre.M.runFor 4 m).outcome.isSome = true
    · rw [if_pos hc]
      have e1 : Sre.M.runFor (4 + n) m = Sre.M.runFor 4 m := by rw [runFor_add, runFor_done hc]
      have e2 : Sre.M.runFor (4 + n) m = m' := by rw [Nat.add_comm, hg, runFor_done ho]
      rw [← e1, e2]
      exact wpAny_pure h
    · rw [if_neg hc]
      refine wpAny_bind (wpAny_rule ?_)
      have h4 : 4 < n := by
        rcases Nat.lt_or_ge 4 n with h4 | h4
        · exact h4
        · exfalso
          apply hc
          have : Sre.M.runFor 4 m = m' := by
            have := hg (4 - n)
            rw [show n + (4 - n) = 4 by omega] at this
            rw [this, runFor_done ho]
          rw [this]; exact ho
      refine ih (n - 4) _ ?_ (by omega)
      intro k
      rw [← runFor_add, show 4 + (n - 4 + k) = n + k by omega]
      exact hg k

theorem wp_runToEnd {Q : Option Sre.M → Shared → Prop} {m m' : Sre.M} {n : Nat} (hg : Goes n m m') (hn : n < 2 ^ 60) (r : Option Sre.M)
    (ho : (m'.outcome = some .matched ∧ r = some m') ∨ (m'.outcome = some .failed ∧ r = none)) (h : Q r s) : wpAny M A (reRunToEnd m) Q E s := by
  unfold reRunToEnd
  have hs : m'.outcome.isSome = true := by rcases ho with h | h <;> rw [h.1] <;> rfl
  refine wpAny_bind (wp_drive hs ?_ (2 ^ 64) n m hg (by omega))
  refine wpAny_bind (wpAny_mono (wpAny_forIn_list _ (fun _ _ s' => s' = s) (fun _ s' => s' = s) ?turn (fun _ _ h => h) _ _ rfl) (fun _ s' e => ?post) fun _ _ e => e)
  case turn =>
    rintro x rest b s' rfl
    split
    · exact wpAny_bind (wpAny_rule (wpAny_pure rfl))
    · exact wpAny_pure rfl
  case post =>
    subst e
    rcases ho with ⟨h1, rfl⟩ | ⟨h1, rfl⟩
    · rw [h1]; exact wpAny_pure h
    · rw [h1]; exact wpAny_pure h

/-- the pattern object of the program -/
abbrev patObj (t1 t2 : Tok) (c : Addr) : Obj := { cls := .type "re.Pattern", data := .fields #[.bytes #[40, 63, 109, 41, 94, 92, 46] t1, .int 8 t2, .int 0 0, .none, .none, .ref c, .int 1 0] }
abbrev codeObj : Obj := { cls := .type "tuple", data := .seq #[.int 14 0, .int 4 0, .int 0 0, .int 1 0, .int 1 0, .int 6 0, .int 1 0, .int 16 0, .int 46 0, .int 1 0] }

theorem wp_textOf {b : Array UInt8} {t : Tok} {Q : Array Nat × Nat → Shared → Prop} (h : Q (b.map (·.toNat), 1) s) : wpAny M A (reTextOf (.bytes b t)) Q E s := by
  unfold reTextOf
  refine wpAny_bind (m := asStr? (.bytes b t)) (wpAny_of_eq (a := none) (by rfl) ?_)
  exact wpAny_bind (wp_bufferQuiet (wpAny_pure h))

theorem wp_target {P C : Addr} {t1 t2 : Tok} {b : Array UInt8} {t : Tok} {Q : ReTarget → Shared → Prop} (hP : s.heap.get? P = some (patObj t1 t2 C)) (hC : s.heap.get? C = some codeObj)
    (h : Q { pattern := .ref P, string := .bytes b t, code := dotCode, text := b.map (·.toNat), kind := 1, groups := 0, pos := 0, lim := (b.map (·.toNat)).size } s) : wpAny M A (reWholeTarget (.ref P) (.bytes b t)) Q E s := by
  unfold reWholeTarget
  refine wpAny_bind (wpAny_fieldsOf hP rfl ?_)
  refine wpAny_bind (wp_textOf ?_)
  refine wpAny_bind (m := reNoCollectionInside (.bytes b t) 1) ?_
  · unfold reNoCollectionInside
    refine wpAny_bind (wpAny_isInstance (typeIs_bytes s b t) F.sub_bytes_bytes ?_)
    refine wpAny_pure ?_
    refine wpAny_bind (m := reRawItems (.ref C)) ?_
    unfold reRawItems
    refine wpAny_bind (wpAny_seqItems hC rfl ?_)
    refine wpAny_pure (wpAny_pure ?_)
    have e : Array.map (fun (x : Int) => x.toNat) (Array.map reRawOf #[.int 14 0, .int 4 0, .int 0 0, .int 1 0, .int 1 0, .int 6 0, .int 1 0, .int 16 0, .int 46 0, .int 1 0]) = dotCode := by decide +kernel
    show Q { pattern := .ref P, string := .bytes b t, code := Array.map (fun (x : Int) => x.toNat) (Array.map reRawOf #[.int 14 0, .int 4 0, .int 0 0, .int 1 0, .int 1 0, .int 6 0, .int 1 0, .int 16 0, .int 46 0, .int 1 0]), text := b.map (·.toNat), kind := 1, groups := 0, pos := 0, lim := (b.map (·.toNat)).size } s
    rw [e]
    exact h
end
end Mine

end

section
set_option maxRecDepth 100000
set_option maxHeartbeats 8000000
namespace Mine
open PySem PySem.W PyProof.Rows PySem.Calls PySem.Builtin.Re PySem.Builtin

section
variable {M : Model} {A : Around} {E : Value → Shared → Prop} {s : Shared}
theorem wp_joinLetGo {keep : List Value} {Q : Unit → Shared → Prop} (h : Q () s) : ∀ taken : List (Value × Option Value), (∀ p ∈ taken, p.2 = none) → wpAny M A (Bytes.joinLetGo taken keep) Q E s
  | [], _ => wpAny_pure h
  | (x, w) :: rest, ht => by
    have hw : w = none := ht _ (.head _)
    subst hw
    unfold Bytes.joinLetGo
    exact wpAny_bind (wpAny_letGo (wp_joinLetGo h rest fun p hp => ht p (.tail _ hp)))
end

theorem BytesAre.at {vs : List Value} {ls : List (List Nat)} (h : BytesAre vs ls) : ∀ i, i < vs.length → ∃ b t l, vs[i]? = some (.bytes b t) ∧ ls[i]? = some l ∧ KBw.bInts b = zi l := by
  induction h with
  | nil => intro i hi; simp at hi
  | cons hb _ ih =>
    intro i hi
    cases i with
    | zero => exact ⟨_, _, _, rfl, rfl, hb⟩
    | succ i => simpa using ih i (by simpa using hi)

theorem lit_not {α : Type} {f : Value → α} {g : α} (its : List Value) (h : its.length ≠ 1) : (match its.toArray with | #[x] => f x | _ => g) = g := by
  match its, h with
  | [], _ => rfl
  | [x], h => exact absurd rfl h
  | x :: y :: r, _ => rfl

theorem joined_nil (ls : List (Array UInt8)) : KBw.bInts (Bytes.joined #[] ls) = (ls.map KBw.bInts).flatten := by
  have key : ∀ (ls : List (Array UInt8)) (n : Nat) (acc : Array UInt8), KBw.bInts ((ls.zipIdx n).foldl (fun out (p : Array UInt8 × Nat) => (if p.2 > 0 then out ++ #[] else out) ++ p.1) acc) = KBw.bInts acc ++ (ls.map KBw.bInts).flatten := by
    intro ls
    induction ls with
    | nil => intro n acc; simp
    | cons a r ih =>
      intro n acc
      rw [List.zipIdx_cons, List.foldl_cons, ih]
      have e : (if n > 0 then acc ++ #[] else acc) ++ a = acc ++ a := by split <;> simp
      rw [e, KBw.ints_app rfl rfl]
      simp
  have := key ls 0 #[]
  rw [show KBw.bInts #[] = [] from rfl, List.nil_append] at this
  exact this
theorem sum_sizes (f : Nat) (parts : Array (Array UInt8)) : Array.foldl (fun (x1 : Nat) (x2 : Array UInt8) => x1 + x2.size) f parts = f + (parts.toList.map KBw.bInts).flatten.length := by
  rw [← Array.foldl_toList]
  generalize parts.toList = ls
  induction ls generalizing f with
  | nil => simp
  | cons a r ih => rw [List.foldl_cons, ih]; simp [KBw.ints_length]; omega

theorem join_meets (D : Addr) (ni : Nat) (its : List Value) (ps : List (List Nat)) (t : Tok) (hps : BytesAre its ps) (hlen : ps.flatten.length ≤ 100000) :
    Meets («bytes.join» ⟨[.bytes #[] t, .ref D], []⟩) (fun _ R s => s.heap.get? D = some (listOf its.toArray ni) ∧ ∀ b' t' k', KBw.bInts b' = zi ps.flatten → R (.ok (.ret (.bytes b' t'))) { s with toks := k' }) := by
  refine .of_wp fun prog w A R s h => ?_
  obtain ⟨hD, h⟩ := h
  show wpAny _ _ (Bytes.joinM .bytes ⟨[.bytes #[] t, .ref D], []⟩) _ _ s
  unfold Bytes.joinM
  refine wpAny_bind (m := selfAndOne _ _) (wpAny_of_eq (a := (.bytes #[] t, .ref D)) rfl ?_)
  have hTD : s.TypeIs (.ref D) "list" := ⟨_, hD, rfl⟩
  refine wpAny_bind (m := Bytes.joinItems (.ref D)) ?_
  unfold Bytes.joinItems
  refine wpAny_bind (wpAny_typeOf hTD ?_)
  refine wpAny_pure ?_
  refine wpAny_bind (wpAny_seqItems hD rfl ?_)
  dsimp only
  rw [if_pos (by rfl)]
  have hcase : (∃ x, its = [x]) ∨ its.length ≠ 1 := by
    match its with
    | [] => exact .inr (by simp)
    | [x] => exact .inl ⟨x, rfl⟩
    | x :: y :: r => exact .inr (by simp)
  rcases hcase with ⟨x, rfl⟩ | hne
  · cases hps with
    | cons hb hr =>
      cases hr
      refine wpAny_bind (m := typeOf _) (wpAny_typeOf (typeIs_bytes _ _ _) ?_)
      rw [if_pos (by rfl)]
      refine wpAny_bind (wpAny_rule ?_)
      refine wpAny_pure ⟨_, rfl, ?_⟩
      exact h _ _ s.toks (by simpa using hb)
  · refine Eq.mpr (congrArg (fun t => wpAny (model prog w) A.in1 t _ _ s) (lit_not its hne)) ?_
    rw [Std.Legacy.Range.forIn_eq_forIn_range']
    have er : List.range' ([:its.toArray.size] : Std.Legacy.Range).start ([:its.toArray.size] : Std.Legacy.Range).size ([:its.toArray.size] : Std.Legacy.Range).step = List.range' 0 its.length := by
      simp [Std.Legacy.Range.size]
    rw [er]
    refine wpAny_bind (wpAny_mono (wpAny_forIn_list _
      (fun rest (b : Array (Array UInt8) × List (Value × Option Value)) s' => s' = s ∧ ∃ i, i ≤ its.length ∧ rest = List.range' i (its.length - i) ∧ b.1.toList.map KBw.bInts = (ps.take i).map zi ∧ ∀ p ∈ b.2, p.2 = none ∧ p.1.onHeap = false)
      (fun b s' => s' = s ∧ b.1.toList.map KBw.bInts = ps.map zi ∧ ∀ p ∈ b.2, p.2 = none ∧ p.1.onHeap = false) ?turn ?fin _ _ ⟨rfl, 0, by omega, by simp, by simp, by simp⟩) (fun b s' e => ?post) fun _ _ e => e)
    case turn =>
      rintro x rest ⟨parts, taken⟩ s' ⟨rfl, i, hi, hr, hp, ht⟩
      have hlt : i < its.length := by
        rcases Nat.lt_or_ge i its.length with h' | h'
        · exact h'
        · rw [show its.length - i = 0 by omega] at hr; simp at hr
      rw [show its.length - i = (its.length - (i + 1)) + 1 by omega, List.range'_succ] at hr
      injection hr with hx hrest
      subst hx
      obtain ⟨bi, ti, li, h1, h2, h3⟩ := hps.at x hlt
      dsimp only at hp ht ⊢
      refine wpAny_bind (wpAny_seqItems hD rfl ?_)
      dsimp only
      have hany : (taken.any fun x => x.1.onHeap) = false := by
        rw [List.any_eq_false]
        intro p hp'
        rw [(ht p hp').2]; simp
      rw [hany]
      rw [if_neg (by decide)]
      have hx1 : its.toArray.getD x Value.none = .bytes bi ti := by
        rw [Array.getD_eq_getD_getElem?]
        simp [h1]
      rw [hx1]
      refine wpAny_bind (wpAny_holding (wp_takeBufferQuiet ?_))
      dsimp only
      refine wpAny_bind (wpAny_seqItems hD rfl ?_)
      dsimp only
      rw [if_neg (by simp)]
      refine wpAny_pure ⟨rfl, x + 1, by omega, hrest, ?_, ?_⟩
      · simp only [Array.toList_push, List.map_append, hp]
        rw [List.take_add_one, h2]
        simp [h3]
      · intro p hp'
        rcases List.mem_append.mp hp' with hp' | hp'
        · exact ht p hp'
        · rw [List.mem_singleton.mp hp']; exact ⟨rfl, rfl⟩
    case fin =>
      rintro ⟨parts, taken⟩ s' ⟨rfl, i, hi, hr, hp, ht⟩
      have : i = its.length := by
        rcases Nat.lt_or_ge i its.length with h' | h'
        · rw [show its.length - i = (its.length - (i + 1)) + 1 by omega, List.range'_succ] at hr
          cases hr
        · omega
      subst this
      rw [hps.length, List.take_length] at hp
      exact ⟨rfl, hp, ht⟩
    case post =>
      obtain ⟨parts, taken⟩ := b
      obtain ⟨rfl, hp, ht⟩ := e
      dsimp only at hp ht ⊢
      have hfl : (parts.toList.map KBw.bInts).flatten = zi ps.flatten := by rw [hp, zi, List.map_flatten]
      have hln : (parts.toList.map KBw.bInts).flatten.length = ps.flatten.length := by rw [hfl]; exact List.length_map ..
      refine wpAny_bind (m := Bytes.payload _) (wpAny_of_eq (a := #[]) rfl ?_)
      rw [sum_sizes, hln]
      have hnt : Bytes.tooLong ((#[] : Array UInt8).size * (parts.size - 1) + ps.flatten.length) = false := by
        unfold Bytes.tooLong
        rw [show (#[] : Array UInt8).size = 0 from rfl, Nat.zero_mul, Nat.zero_add, sizeLine_eq]
        exact decide_eq_false (by omega)
      rw [hnt, if_neg (by decide)]
      have hsz : (Bytes.joined #[] parts.toList).size ≤ sizeLine := by
        rw [← KBw.ints_length, joined_nil, hln, sizeLine_eq]; omega
      refine wpAny_bind (m := mkBytes _) (wpAny_mkBytes ?_ hsz)
      refine wpAny_bind (wpAny_holding (wpAny_point ?_))
      refine wpAny_bind (wp_joinLetGo ?_ taken fun p hp => (ht p hp).1)
      refine wpAny_pure ⟨_, rfl, ?_⟩
      exact h _ _ _ (by rw [joined_nil, hfl])
end Mine

end

section
set_option maxRecDepth 100000
set_option maxHeartbeats 8000000
namespace Mine
open PySem PySem.W PyProof.Rows PySem.Calls PySem.Builtin.Re PySem.Builtin

theorem ints_extract {l : List Nat} (h256 : ∀ x ∈ l, x < 256) (d p : Nat) : KBw.bInts ((l.toArray.extract d p).map (·.toUInt8)) = zi ((l.take p).drop d) := by
  have e : ((l.toArray.extract d p).map (·.toUInt8)).toList = ((l.take p).drop d).map (·.toUInt8) := by simp [List.drop_take]
  unfold KBw.bInts
  rw [e, zi, List.map_map]
  refine List.map_congr_left fun x hx => ?_
  have := h256 x (List.mem_of_mem_take (List.mem_of_mem_drop hx))
  show ((x.toUInt8.toNat : Nat) : Int) = x
  have : x.toUInt8.toNat = x := by
    show (UInt8.ofNat x).toNat = x
    rw [UInt8.toNat_ofNat']; omega
  rw [this]

section
variable {M : Model} {A : Around} {E : Value → Shared → Prop} {s : Shared}
theorem wp_slice {l : List Nat} {d p : Nat} {Q : Value → Shared → Prop} (h256 : ∀ x ∈ l, x < 256) (hl : l.length < 100000) (h : ∀ b' t', KBw.bInts b' = zi ((l.take p).drop d) → Q (.bytes b' t') { s with toks := s.toks + 1 }) :
    wpAny M A (reSlice l.toArray 1 d p) Q E s := by
  show wpAny M A (mkBytes ((l.toArray.extract d p).map (·.toUInt8))) Q E s
  refine wpAny_mkBytes (h _ _ (ints_extract h256 d p)) ?_
  rw [Array.size_map, Array.size_extract, sizeLine_eq]
  simp only [List.size_toArray]
  omega
theorem wp_slice00 {l : List Nat} {Q : Value → Shared → Prop} (h : Q (.bytes #[] s.toks) { s with toks := s.toks + 1 }) : wpAny M A (reSlice l.toArray 1 0 0) Q E s := by
  show wpAny M A (mkBytes ((l.toArray.extract 0 0).map (·.toUInt8))) Q E s
  have e : (l.toArray.extract 0 0).map (·.toUInt8) = #[] := by simp
  rw [e]
  exact wpAny_mkBytes h (by rw [sizeLine_eq]; simp)
theorem wp_literal {rb : Array UInt8} {rt : Tok} {Q : Unit → Shared → Prop} (h : Q () s) : wpAny M A (reLiteralCannotBeTurned (.bytes rb rt)) Q E s := by
  unfold reLiteralCannotBeTurned
  refine wpAny_bind (m := asStr? _) (wpAny_of_eq (a := none) rfl ?_)
  refine wpAny_bind (m := isInstance _ _) (wpAny_isInstance (typeIs_bytes s rb rt) F.sub_bytes_bytes ?_)
  exact wpAny_pure h
theorem wp_push {D : Addr} {its : List Value} {ni : Nat} {x : Value} {Q : Unit → Shared → Prop} (hD : s.heap.get? D = some (listOf its.toArray ni)) (hz : its.length ≤ 100000)
    (h : ∀ h', Heap.SameBut D s.heap h' → h'.get? D = some (listOf (its ++ [x]).toArray (ni + 1)) → Q () { s with heap := h' }) : wpAny M A (updateSeq D (·.push x)) Q E s := by
  refine wpAny_updateSeq hD rfl (h _ (Heap.SameBut.update ..) ?_) (by rw [List.size_toArray, sizeLine_eq]; omega) (by rw [Array.size_push, List.size_toArray, sizeLine_eq]; omega)
  have q := PySem.IsL.update hD (·.push x)
  have e : its.toArray.push x = (its ++ [x]).toArray := by simp
  have e2 : ((its.toArray.push x).size == its.toArray.size) = false := by simp
  rw [e2] at q
  rw [e] at q
  exact q
end

theorem sub_loop {P C D : Addr} {t1 t2 : Tok} {b rb : Array UInt8} {t rt : Tok} {l out : List Nat} (hPD : P ≠ D) (hCD : C ≠ D) (hb : b.map (·.toNat) = l.toArray) (hrb : KBw.bInts rb = zi [46, 46]) (hl : l.length < 10000) (h256 : ∀ x ∈ l, x < 256) (ho : out.length ≤ 100000) :
    ∀ (k d : Nat) (n : Int) (its : List Value) (ni : Nat) (ps : List (List Nat)), l.length - d = k → d ≤ l.length → BytesAre its ps → its.length ≤ 2 * d → ps.flatten ++ quoteB (bol l d) (l.drop d) = out →
      Meets («re.Pattern.sub.loop» ⟨[.ref P, .bytes b t, .bytes rb rt, rawInt 0, rawInt 0, rawInt n, rawInt d, rawInt d, .bool false, .ref D, .bool false], []⟩)
        (fun _ R s => s.heap.get? P = some (patObj t1 t2 C) ∧ s.heap.get? C = some codeObj ∧ s.heap.get? D = some (listOf its.toArray ni) ∧
          ∀ h' b' t' k', Heap.SameBut D s.heap h' → KBw.bInts b' = zi out → R (.ok (.ret (.bytes b' t'))) { s with heap := h', toks := k' }) := by
  intro k
  induction k using Nat.strongRecOn with
  | _ k ih =>
  intro d n its ni ps hk hd hits hil hout prog w A R s h
  obtain ⟨hP, hC, hD, hR⟩ := h
  unfold «re.Pattern.sub.loop»
  refine wpAny_bind (m := reWholeTarget _ _) (wp_target hP hC ?_)
  rw [hb]
  dsimp only
  refine wpAny_bind (m := reLiteralCannotBeTurned _) (wp_literal ?_)
  obtain ⟨nn, m', hnn, hg, hm⟩ := search_dot l d
  have hsp := findDot_spec l (l.length - d) d rfl hd
  refine wpAny_bind (m := reNextFound _ _ _) ?_
  show wpAny _ _ (reRunToEnd (Sre.forSearch dotCode l.toArray 0 d l.length false)) _ _ s
  cases hf : findDot l (l.length - d) d with
  | some p =>
    rw [hf] at hm hsp
    obtain ⟨ho1, ho2, ho3⟩ := hm
    obtain ⟨hdp, hpl, hq⟩ := hsp
    refine wp_runToEnd hg (by omega) (some m') (.inl ⟨ho1, rfl⟩) ?_
    dsimp only
    rw [ho2, ho3]
    have hpp : (p + 1 == p) = false := by simp
    rw [hpp]
    have go : ∀ (h₂ : Heap) (tk₂ : Nat) (its₂ : List Value) (ni₂ : Nat) (ps₂ : List (List Nat)), Heap.SameBut D s.heap h₂ → h₂.get? D = some (listOf its₂.toArray ni₂) → BytesAre its₂ ps₂ → its₂.length ≤ 2 * d + 1 →
        ps₂.flatten ++ [46, 46] ++ quoteB (bol l (p + 1)) (l.drop (p + 1)) = out →
        wpAny (model prog w) A.in1 (do
          updateSeq D fun x => x.push (.bytes rb rt)
          again (Code.builtin "re.Pattern.sub.loop" ⟨[.ref P, .bytes b t, .bytes rb rt, rawInt 0, rawInt 0, rawInt (n + 1), rawInt ((p + 1 : Nat) : Int), rawInt ((p + 1 : Nat) : Int), .bool false, .ref D, .bool false], []⟩))
          (fun fin s' => match fin with | .done f => R (.ok f) s' | .again c' => c'.quiet = true ∧ codeAny (model prog w) A c' R s') (fun e s' => R (.error e) s') { s with heap := h₂, toks := tk₂ } := by
      intro h₂ tk₂ its₂ ni₂ ps₂ hs₂ hD₂ hi₂ hl₂ ho₂
      refine wpAny_bind (wp_push (s := { s with heap := h₂, toks := tk₂ }) hD₂ (by omega) ?_)
      intro h₃ hs₃ hD₃
      refine wpAny_pure ⟨plainId_quiet plain_sub_loop _, codeAny_builtin entry_sub_loop ?_⟩
      rw [Around.under_plainId plain_sub_loop _]
      refine ih (l.length - (p + 1)) (by omega) (p + 1) (n + 1) (its₂ ++ [.bytes rb rt]) (ni₂ + 1) (ps₂ ++ [[46, 46]]) rfl (by omega) (hi₂.snoc hrb) ?_ ?_ prog w A R _ ⟨?_, ?_, hD₃, ?_⟩
      · rw [List.length_append]; simp; omega
      · rw [← ho₂]; simp
      · exact ((hs₃.2 P hPD).trans (hs₂.2 P hPD)).trans hP
      · exact ((hs₃.2 C hCD).trans (hs₂.2 C hCD)).trans hC
      · intro h' b' t' k' hs' hb'
        exact hR h' b' t' k' (hs₂.trans (hs₃.trans hs')) hb'
    have hout2 : ps.flatten ++ ((l.take p).drop d ++ [46, 46] ++ quoteB (bol l (p + 1)) (l.drop (p + 1))) = out := by rw [← hq]; exact hout
    by_cases hlt : d < p
    · rw [if_pos (show ((d : Int)).toNat < p from hlt)]
      refine wpAny_bind (wp_slice h256 (by omega) ?_)
      intro b' t' hb'
      refine wpAny_bind (wp_push (s := { s with toks := s.toks + 1 }) hD (by omega) ?_)
      intro h₂ hs₂ hD₂
      exact go h₂ _ _ _ _ hs₂ hD₂ (hits.snoc hb') (by rw [List.length_append]; simp; omega) (by rw [← hout2]; simp)
    · rw [if_neg (show ¬ ((d : Int)).toNat < p from hlt)]
      have hdp2 : d = p := by omega
      refine go s.heap s.toks its ni ps (.refl ..) hD hits (by omega) ?_
      have : (l.take p).drop d = [] := List.drop_eq_nil_of_le (by rw [List.length_take]; omega)
      rw [← hout2, this]; simp
  | none =>
    rw [hf] at hm hsp
    refine wp_runToEnd hg (by omega) none (.inr ⟨hm, rfl⟩) ?_
    dsimp only
    have go : ∀ (h₂ : Heap) (tk₂ : Nat) (its₂ : List Value) (ni₂ : Nat) (ps₂ : List (List Nat)), Heap.SameBut D s.heap h₂ → h₂.get? D = some (listOf its₂.toArray ni₂) → BytesAre its₂ ps₂ → ps₂.flatten = out →
        wpAny (model prog w) A.in1 (do
          let joiner ← reSlice l.toArray 1 0 0
          let __do_lift ← seqItems? (Value.ref D)
          if (__do_lift.getD #[]).isEmpty = true then do
              let text ← pure joiner
              ret text
            else do
              let text ← call (Value.builtin "bytes.join") [joiner, Value.ref D]
              ret text)
          (fun fin s' => match fin with | .done f => R (.ok f) s' | .again c' => c'.quiet = true ∧ codeAny (model prog w) A c' R s') (fun e s' => R (.error e) s') { s with heap := h₂, toks := tk₂ } := by
      intro h₂ tk₂ its₂ ni₂ ps₂ hs₂ hD₂ hi₂ ho₂
      refine wpAny_bind (wp_slice00 ?_)
      refine wpAny_bind (wpAny_seqItems hD₂ rfl ?_)
      by_cases he : its₂ = []
      · subst he
        cases hi₂
        rw [if_pos (by rfl)]
        refine wpAny_pure ?_
        refine hR h₂ _ _ _ hs₂ ?_
        rw [← ho₂]; rfl
      · rw [if_neg (by simpa using he)]
        refine wpAny_bind (call_meets slot_join (typeIs_bytes _ _ _) entry_join (args_join _ _) (join_meets D ni₂ its₂ ps₂ _ hi₂ (by rw [ho₂]; exact ho)) ⟨hD₂, ?_⟩)
        intro b' t' k' hb'
        refine wpAny_pure ?_
        exact hR h₂ _ _ _ hs₂ (by rw [hb', ho₂])
    by_cases hlt : d < l.length
    · rw [if_pos (show ((d : Int)).toNat < l.toArray.size by simpa using hlt)]
      refine wpAny_bind (wp_slice h256 (by omega) ?_)
      intro b' t' hb'
      refine wpAny_bind (wp_push (s := { s with toks := s.toks + 1 }) hD (by omega) ?_)
      intro h₂ hs₂ hD₂
      refine go h₂ _ _ _ _ hs₂ hD₂ (hits.snoc hb') ?_
      rw [← hout, hsp]; simp
    · rw [if_neg (show ¬ ((d : Int)).toNat < l.toArray.size by simpa using hlt)]
      refine go s.heap s.toks its ni ps (.refl ..) hD hits ?_
      rw [← hout, hsp, List.drop_eq_nil_of_le (by omega)]; simp
end Mine

end

section
set_option maxRecDepth 100000
set_option maxHeartbeats 8000000
namespace Mine
open PySem PySem.W PyProof.Rows PySem.Calls PySem.Builtin.Re PySem.Builtin

theorem quoteB_len (b : Bool) (l : List Nat) : (quoteB b l).length ≤ 2 * l.length := by
  induction l generalizing b with
  | nil => simp [quoteB]
  | cons a r ih =>
    rw [quoteB]
    split
    · have := ih false; simp; omega
    · have := ih (a == 10); simp; omega

theorem sub_meets {P C : Addr} {t1 t2 : Tok} {b : Array UInt8} {t rt : Tok} {l : List Nat} (hb : b.map (·.toNat) = l.toArray) (hl : l.length < 10000) (h256 : ∀ x ∈ l, x < 256) :
    Meets («re.Pattern.sub» ⟨[.ref P, .bytes #[46, 46] rt, .bytes b t], []⟩)
      (fun _ R s => s.heap.get? P = some (patObj t1 t2 C) ∧ s.heap.get? C = some codeObj ∧
        ∀ h' b' t' k', (∀ a o, s.heap.get? a = some o → h'.get? a = some o) → KBw.bInts b' = zi (quoteB true l) → R (.ok (.ret (.bytes b' t'))) { s with heap := h', toks := k' }) := by
  intro prog w A R s h
  obtain ⟨hP, hC, hR⟩ := h
  show wpAny _ _ (reSubstitute "re.Pattern.sub" "sub" false ⟨[.ref P, .bytes #[46, 46] rt, .bytes b t], []⟩) _ _ s
  unfold reSubstitute
  refine wpAny_bind (m := reNamed _ _ _ _ _ _) (wpAny_of_eq (a := [some (.bytes #[46, 46] rt), some (.bytes b t), none]) (by rfl) ?_)
  dsimp only
  refine wpAny_bind (m := pure 0) (wpAny_pure ?_)
  refine wpAny_bind (m := specialOf _ _) (wpAny_specialOf (typeIs_bytes s _ rt) look_bytes_call ?_)
  rw [if_neg (by decide)]
  refine wpAny_bind (m := asStr? _) (wpAny_of_eq (a := none) rfl ?_)
  dsimp only
  refine wpAny_bind (wp_bufferQuiet ?_)
  dsimp only
  refine wpAny_bind (wpAny_pure ?_)
  rw [if_neg (by decide), if_pos (by decide +kernel)]
  refine wpAny_bind (wpAny_pure ?_)
  dsimp only
  refine wpAny_bind (wpAny_holding (wp_target hP hC ?_))
  rw [if_neg (by decide)]
  refine wpAny_bind (m := newList []) (wpAny_newObj_type ?_ (by size_fits))
  refine wpAny_pure ⟨plainId_quiet plain_sub_loop _, codeAny_builtin entry_sub_loop ?_⟩
  rw [Around.under_plainId plain_sub_loop _]
  have hq := quoteB_len true l
  have hpl := Heap.lt_size hP
  have hcl := Heap.lt_size hC
  refine sub_loop (P := P) (C := C) (D := s.heap.objs.size) (t1 := t1) (t2 := t2) (out := quoteB true l) (Nat.ne_of_lt hpl) (Nat.ne_of_lt hcl) hb rfl hl h256 (by omega) l.length 0 0 [] 0 [] (by omega) (by omega) .nil (by simp) (by simp [bol]) prog w A R _ ⟨?_, ?_, ?_, ?_⟩
  · exact Heap.get?_push_of_some _ hP
  · exact Heap.get?_push_of_some _ hC
  · exact Heap.get?_push_size _ rfl
  · intro h' b' t' k' hs hb'
    refine hR h' b' t' k' (fun a o ha => ?_) hb'
    rw [hs.2 a (Nat.ne_of_lt (Heap.lt_size ha))]
    exact Heap.get?_push_of_some _ ha

section
variable {prog : Program} {w : World} {A : Around} {E : Value → Shared → Prop} {s : Shared} {h₀ : Heap} {L : Addr} {m : Str → Option Value} {news : List (Addr × Obj)}
theorem map_toNat {b : Array UInt8} {l : List Nat} (hb : KBw.bInts b = zi l) : b.map (·.toNat) = l.toArray ∧ ∀ x ∈ l, x < 256 := by
  have e : b.toList.map (fun c => ((c.toNat : Nat) : Int)) = l.map (fun (n : Nat) => (n : Int)) := hb
  have e2 : b.toList.map (·.toNat) = l := by
    have := congrArg (List.map Int.toNat) e
    rw [List.map_map, List.map_map] at this
    have i1 : (Int.toNat ∘ fun (c : UInt8) => ((c.toNat : Nat) : Int)) = fun c => c.toNat := by funext c; simp
    have i2 : (Int.toNat ∘ fun (n : Nat) => (n : Int)) = _root_.id := by funext c; simp
    rw [i1, i2, List.map_id] at this
    exact this
  constructor
  · apply Array.toList_inj.mp
    simpa using e2
  · intro x hx
    rw [← e2] at hx
    obtain ⟨c, _, rfl⟩ := List.mem_map.mp hx
    exact c.toNat_lt
theorem sub_call {P C : Addr} {t1 t2 : Tok} {b : Array UInt8} {t rt : Tok} {l : List Nat} {Q : Value → Shared → Prop} (F : Fr h₀ L s.heap m) (N : News h₀ L s.heap news) (hP : s.heap.get? P = some (patObj t1 t2 C)) (hC : s.heap.get? C = some codeObj) (hb : KBw.bInts b = zi l) (hl : l.length < 10000)
    (h : ∀ h' b' t' k', Fr h₀ L h' m → News h₀ L h' news → KBw.bInts b' = zi (quoteB true l) → Q (.bytes b' t') { s with heap := h', toks := k' }) :
    wpAny (model prog w) A (call (.builtin "re.Pattern.sub") [.ref P, .bytes #[46, 46] rt, .bytes b t]) Q E s :=
  call_meets slot_sub ⟨_, hP, rfl⟩ entry_sub (args_sub _ _ _) (sub_meets (map_toNat hb).1 hl (map_toNat hb).2) ⟨hP, hC, fun h' b' t' k' hk hb' => h h' b' t' k' (F.keptAll hk) (N.grown hk) hb'⟩
theorem sub_method {P C : Addr} {t1 t2 : Tok} {pl : Sem Bool} {M : Model} {Q : Value × List Value → Shared → Prop} (hP : s.heap.get? P = some (patObj t1 t2 C)) (h : Q (.builtin "re.Pattern.sub", [.ref P]) s) : wpAny M A (getMethod (.ref P) "sub" pl) Q E s :=
  getMethod_builtin ⟨_, hP, rfl⟩ attrs_pattern slot_sub type_sub (fun a e => by cases e; exact ⟨_, hP, rfl⟩) h
end
end Mine

end

section
open PySem PySem.W PyProof.Rows PySem.Calls
set_option maxRecDepth 100000
set_option maxHeartbeats 8000000
namespace Mine
example : (fun (_ : OpenLaw) (_ : Params → Frag) => True) PySem.Challenge.rw_pg0008_01 hd.heap_39 := by
  w_on; k_fill; trivial

local macro_rules | `(tactic| tb_start) => `(tactic| repeat' (first | ((fail_if_success (with_reducible show wpAny _ _ (exec (Stmt.While _ _ _ _) _) _ _ _)); (fail_if_success (with_reducible show wpAny _ _ (exec (Stmt.For _ _ _ _ _) _) _ _ _)); (fail_if_success (with_reducible show wpAny _ _ (pyIter _) _ _ _)); (fail_if_success (with_reducible show wpAny _ _ (getMethod (Value.ref 36) _ _) _ _ _)); (fail_if_success (show wpAny _ _ (call (Value.builtin "re.Pattern.sub") _) _ _ _)); (fail_if_success (with_reducible show wpAny _ _ (subscriptTail _ (Expr.Slice _ _ _ _) (Value.ref _) (Value.ref _)) _ _ _)); (fail_if_success (with_reducible show wpAny _ _ (compareOp CmpOp.Lt (Value.ref _) (Value.ref _)) _ _ _)); (fail_if_success (with_reducible show wpAny _ _ (binaryOp Operator.Add (Value.ref _) (Value.ref _)) _ _ _));   (fail_if_success (with_reducible show wpAny _ _ (eval (Expr.ListComp _ _ _ _) _) _ _ _)); first | (k_unfold; (try dsimp only)) | (k_end; wrow_close) | walk1 | (dsimp only; walk1) | (leave1; walk_say "STEP leave1"; try dsimp only)) | fail "no step"))
local macro_rules | `(tactic| k_all) => `(tactic| exact fun p hp => Nat.ne_of_lt ((show ∀ p ∈ _, p.1 < _ by assumption) p hp))

section
variable {prog : Program} {w : World} {p : Program} {loose : List Str} {mean : ExcName → Option Value} {mg mb : Str → Option Value}
  {dp un : Nat} {gd : Option (List Code)} {cn : Str} {cs : Scope} {a : Addr} {ccd : Value} {cl : List (Str × Addr)} {outer : List Env} {A₀ : Around} {base h₀ : Heap} {L : Addr} {m : Str → Option Value} {news : List (Addr × Obj)} {s : Shared} {Q E : Value → Shared → Prop}

theorem quote_ok {b : Array UInt8} {t : Tok} {l : List Nat} (B : Below A₀ base outer h₀) (F : Fr h₀ L s.heap m) (X : (hd.heap_39 w.params).In h₀) (N : News h₀ L s.heap news) (T : Top p loose mean mg mb h₀) (hk : cs.kind = .function)
    (hd : dp + 2 < recursionLimit) (hu : un + 100 < cLine) (hb : KBw.bInts b = zi l) (hl : l.length < 1000)
    (ret : ∀ b' t' h' tk', KBw.bInts b' = zi (quoteB true l) → Fr h₀ L h' m → News h₀ L h' news → Q (.bytes b' t') { s with heap := h', toks := tk' }) :
    wpAny (model prog w) (ktrTop dp un gd cn cs L a ccd cl outer) (call (.ref 43) [.bytes b t]) Q E s := by
  have hlen : (zi l).length = l.length := by simp
  refine wpAny_call ?_
  k_dflt cell_enter
  tb_start
  rename Fr _ _ _ _ => F1
  rename News _ _ _ _ => N1
  rename Frag.In _ _ => X1
  have hP0 := X1 36 (patObj 285 298 35) (by k_is)
  have hC0 := X1 35 codeObj (by k_is)
  refine sub_method (F1.keep 36 _ hP0) ?_
  tb_start
  rename Fr _ _ _ _ => F2
  rename News _ _ _ _ => N2
  refine sub_call F2 N2 (F2.keep 36 _ hP0) (F2.keep 35 _ hC0) hb (by omega) ?_
  intro h' b' t' k' F3 N3 hq
  clear F2 N2
  dsimp only
  tb_start
  exact ret _ _ _ _ hq (by assumption) (by assumption)
end
end Mine

end

section
set_option maxRecDepth 100000
set_option maxHeartbeats 8000000
namespace Mine
open PySem PySem.W PyProof.Rows PySem.Calls PyProof.Rows.LCg

section
variable {prog : Program} {w : World} {A : Around} {E : Value → Shared → Prop} {s : Shared} {h₀ : Heap} {L : Addr} {m : Str → Option Value} {env : Env}

/-- a comprehension's turns by what holds between them -/
theorem rest_all {elt : Expr} {x : Str} {scope : Scope} {cl : List (Str × Addr)} {S : List (Addr × Obj) → Prop} {P : Nat → Value → Prop} {Fin : List Value → List (Addr × Obj) → Prop} {n : Nat} {news₀ : List (Addr × Obj)}
    (Inv : Nat → List Value → List (Addr × Obj) → Prop)
    (turn : ∀ i ys news v I oI C oC D m₂ h tk (E' : Value → Shared → Prop), i < n → Inv i ys news → P i v → NsObj oC m₂ → m₂ x = some v → Fr h₀ L h m → News h₀ L h ((I, oI) :: (C, oC) :: (D, lst ys) :: news) → Off3 I C D news → ((@Ne Nat I C) ∧ (@Ne Nat I D) ∧ (@Ne Nat C D)) →
      wpAny (model prog w) A (eval elt (compEnvC scope cl C env)) (CompEnd h₀ L m { s with heap := h, toks := tk } I oI C oC D (lst ys) S (fun y news' => Inv (i + 1) (ys ++ [y]) news')) E' { s with heap := h, toks := tk })
    (fin : ∀ ys news, Inv n ys news → Fin ys news) (h0 : Inv 0 [] news₀) : CompRest prog w A h₀ L m env elt x scope cl s S P Fin n 0 [] news₀ := by
  have key : ∀ k i ys news, i + k = n → Inv i ys news → CompRest prog w A h₀ L m env elt x scope cl s S P Fin k i ys news := by
    intro k
    induction k with
    | zero =>
      intro i ys news hk hI
      have : i = n := by omega
      subst this
      exact fin ys news hI
    | succ k ih =>
      intro i ys news hk hI
      refine CompRest.succ fun v I oI C oC D m₂ h tk E' hP hN hx F N off ne => ?_
      refine wpAny_mono (turn i ys news v I oI C oC D m₂ h tk E' (by omega) hI hP hN hx F N off ne) (fun y s₂ q => ?_) fun _ _ e => e
      obtain ⟨h', tk', news', e, F', N', o', S', I'⟩ := q
      exact ⟨h', tk', news', e, F', N', o', S', ih (i + 1) (ys ++ [y]) news' (by omega) I'⟩
  exact key n 0 [] news₀ (by omega) h0
end

/-- a list's values are these lists of the ledger -/
inductive ListsAre (nw : List (Addr × Obj)) : List Value → List (List Nat) → Prop
  | nil : ListsAre nw [] []
  | cons {a : Addr} {k : Nat} {vs : List Value} {l : List Nat} {ys : List Value} {ls : List (List Nat)} : (a, listOf vs.toArray k) ∈ nw → IntsAre vs (zi l) → ListsAre nw ys ls → ListsAre nw (.ref a :: ys) (l :: ls)
theorem ListsAre.mono {nw nw' : List (Addr × Obj)} {ys : List Value} {ls : List (List Nat)} (h : ListsAre nw ys ls) (hs : ∀ p ∈ nw, p ∈ nw') : ListsAre nw' ys ls := by
  induction h with
  | nil => exact .nil
  | cons h1 h2 _ ih => exact .cons (hs _ h1) h2 ih
theorem ListsAre.snoc {nw : List (Addr × Obj)} {ys : List Value} {ls : List (List Nat)} (h : ListsAre nw ys ls) {a : Addr} {k : Nat} {vs : List Value} {l : List Nat} (hm : (a, listOf vs.toArray k) ∈ nw) (hi : IntsAre vs (zi l)) : ListsAre nw (ys ++ [.ref a]) (ls ++ [l]) := by
  induction h with
  | nil => exact .cons hm hi .nil
  | cons h1 h2 _ ih => exact .cons h1 h2 ih
theorem ListsAre.length {nw : List (Addr × Obj)} {ys : List Value} {ls : List (List Nat)} (h : ListsAre nw ys ls) : ys.length = ls.length := by
  induction h with
  | nil => rfl
  | cons _ _ _ ih => simp [ih]
theorem ListsAre.at {nw : List (Addr × Obj)} {ys : List Value} {ls : List (List Nat)} (h : ListsAre nw ys ls) : ∀ (i : Nat) (v : Value), ys[i]? = some v → ∃ a k vs l, v = .ref a ∧ (a, listOf vs.toArray k) ∈ nw ∧ IntsAre vs (zi l) ∧ ls[i]? = some l := by
  induction h with
  | nil => intro i v hv; simp at hv
  | cons h1 h2 _ ih =>
    intro i v hv
    cases i with
    | zero => simp at hv; exact ⟨_, _, _, _, hv.symm, h1, h2, rfl⟩
    | succ i => simpa using ih i v (by simpa using hv)
theorem BytesAre.at' {vs : List Value} {ls : List (List Nat)} (h : BytesAre vs ls) : ∀ (i : Nat) (v : Value), vs[i]? = some v → ∃ b t l, v = .bytes b t ∧ KBw.bInts b = zi l ∧ ls[i]? = some l := by
  induction h with
  | nil => intro i v hv; simp at hv
  | cons hb _ ih =>
    intro i v hv
    cases i with
    | zero => simp at hv; exact ⟨_, _, _, hv.symm, hb, rfl⟩
    | succ i => simpa using ih i v (by simpa using hv)

section
variable {prog : Program} {w : World} {A : Around} {E : Value → Shared → Prop} {s : Shared}
theorem bInts_inj {b c : Array UInt8} (h : KBw.bInts b = KBw.bInts c) : b.toList = c.toList := by
  have e : b.toList.map (fun c => ((c.toNat : Nat) : Int)) = c.toList.map (fun c => ((c.toNat : Nat) : Int)) := h
  refine List.map_inj_right (fun x y hxy => ?_) |>.mp e
  exact UInt8.toNat_inj.mp (by omega)
theorem EqAt_bytes {A : Around} {s : Shared} {b c : Array UInt8} {t u : Tok} (h : KBw.bInts b = KBw.bInts c) : SeqAt.EqAt A s (.bytes b t) (.bytes c u) true := by
  intro prog w E Q hq
  have he := bInts_inj h
  unfold eqBool
  refine wpAny_holding ?_
  by_cases hc : (Value.bytes b t == Value.bytes c u) = true
  · rw [if_pos hc]
    exact wpAny_bind (wpAny_rule (wpAny_pure hq))
  · rw [if_neg hc]
    refine wpAny_bind (m := richCompare .Eq _ _) ?_
    show wpAny _ _ (compareOp .Eq _ _) _ _ _
    refine eq_bytes ?_
    have e2 : (b.toList == c.toList) = true := by rw [he]; simp
    rw [e2]
    show wpAny _ _ (truthy (.bool true)) _ _ _
    exact wpAny_of_eq (a := true) rfl hq

theorem ne_bytesLists {a b : Addr} {vs us : List Value} {ls : List (List Nat)} {n n2 : Nat} {Q : Value → Shared → Prop} (ha : s.heap.get? a = some (listOf vs.toArray n)) (hb : s.heap.get? b = some (listOf us.toArray n2)) (hx : BytesAre vs ls) (hy : BytesAre us ls)
    (hu : A.units < cLine) (h : Q (.bool false) s) : wpAny (model prog w) A (compareOp .NotEq (.ref a) (.ref b)) Q E s := by
  show wpAny _ _ (richCompare .NotEq _ _) _ _ _
  have hsz : vs.toArray.size = us.toArray.size := by simp [hx.length, hy.length]
  refine wpAny_richCompare_same_room ⟨_, ha, rfl⟩ ⟨_, hb, rfl⟩ PySem.F.slot_list_ne (call_meets PySem.F.slot_list_ne ⟨_, ha, rfl⟩ PySem.F.entry_list_ne (PySem.F.args_list_ne_2 _ _) (SeqAt.list_neAt a b vs.toArray us.toArray n n2 none none #[] #[] hsz (fun _ => true)) ⟨ha, hb, ?_, show _ ∧ _ from ⟨(by intro e; cases e), ?_⟩⟩) hu
  · intro j h1 h2
    obtain ⟨b1, t1, l1, e1, i1, g1⟩ := hx.at' j vs.toArray[j] (by simp at h1 ⊢)
    obtain ⟨b2, t2, l2, e2, i2, g2⟩ := hy.at' j us.toArray[j] (by simp at h2 ⊢)
    rw [e1, e2]
    refine EqAt_bytes ?_
    rw [g1] at g2
    cases g2
    rw [i1, i2]
  · have : (List.range vs.toArray.size).all (fun _ => true) = true := by simp
    rw [this]
    exact h
end
end Mine

end

section
set_option maxRecDepth 100000
set_option maxHeartbeats 8000000
namespace Mine
open PySem PySem.W PyProof.Rows PySem.Calls PyProof.Rows.LCg PyProof.Rows.LCp

section
variable {prog : Program} {w : World} {A : Around} {E : Value → Shared → Prop} {s : Shared} {h₀ : Heap} {L : Addr} {m : Str → Option Value} {env : Env}

theorem fr_off {h h' : Heap} {wr : List Addr} (F : Fr h₀ L h m) (hk : ∀ b o, b ∉ wr → h.get? b = some o → h'.get? b = some o) (hw : ∀ a ∈ wr, a ≠ L ∧ h₀.get? a = none) : Fr h₀ L h' m :=
  ⟨F.ns.at' fun o e => hk L o (fun hm => (hw L hm).1 rfl) e, fun b o e => hk b o (fun hm => by rw [(hw b hm).2] at e; cases e) (F.keep b o e), F.above⟩
theorem news_off {h h' : Heap} {wr : List Addr} {nw : List (Addr × Obj)} (N : News h₀ L h nw) (hk : ∀ b o, b ∉ wr → h.get? b = some o → h'.get? b = some o) (hoff : ∀ p ∈ nw, p.1 ∉ wr) : News h₀ L h' nw :=
  fun p hp => ⟨hk _ _ (hoff p hp) (N p hp).1, (N p hp).2⟩

abbrev ZipSt (z TI TO i1 i2 l1 l2 : Addr) (xs us : List Value) (i : Nat) (h : Heap) : Prop :=
  IsZip h z TI TO .none ∧ IsPair h TI (.ref i1) (.ref i2) ∧ (∃ a b, IsPair h TO a b) ∧ h.IsListIter i1 l1 i ∧ h.IsListIter i2 l2 i ∧ h.IsList l1 xs.toArray ∧ h.IsList l2 us.toArray

theorem zip_loop {elt iter : Expr} {x x₂ : Str} {px px₂ tp : Pos} {tk} {scope : Scope} {cl : List (Str × Addr)} {pos : Pos} {z TI TO i1 i2 l1 l2 C D : Addr} {xs us : List Value} {n1 n2 : Nat} {R : Result → Shared → Prop} {m₀ : Str → Option Value} {nw₀ : List (Addr × Obj)}
    (hh : A.handled = none) (Da : ZipApart z TI TO i1 i2 l1 l2) (hkind : scope.kind = .function) (hx : scope.names.lookup x = some .local) (hx₂ : scope.names.lookup x₂ = some .local) (hxx : x ≠ x₂)
    (hC : C ∉ [z, TI, TO, i1, i2, l1, l2]) (hD : D ∉ [z, TI, TO, i1, i2, l1, l2]) (hCD : C ≠ D) (hL : ∀ a ∈ [z, TI, TO, i1, i2, C, D], a ≠ L ∧ h₀.get? a = none)
    (Inv : Nat → List Value → List (Addr × Obj) → Prop)
    (hoff : ∀ i ys nw, Inv i ys nw → (l1, listOf xs.toArray n1) ∈ nw ∧ (l2, listOf us.toArray n2) ∈ nw ∧ ∀ p ∈ nw, p.1 ∉ [z, TI, TO, i1, i2, C, D])
    (turn : ∀ i ys nw v₁ v₂ oC m₂ fx h tk (E' : Value → Shared → Prop), xs[i]? = some v₁ → us[i]? = some v₂ → Inv i ys nw → (C, oC) ∈ fx → fx.map (·.1) = [z, TI, TO, i1, i2, C, D] → NsObj oC m₂ → m₂ x = some v₁ → m₂ x₂ = some v₂ → Fr h₀ L h m → News h₀ L h (fx ++ nw) →
      wpAny (model prog w) A (eval elt (compEnvC scope cl C env)) (fun y s₂ => ∃ h' tk' nw', s₂ = { s with heap := h', toks := tk' } ∧ Fr h₀ L h' m ∧ News h₀ L h' (fx ++ nw') ∧ Inv (i + 1) (ys ++ [y]) nw') E' { s with heap := h, toks := tk })
    (done : ∀ h tk m' ys nw, Inv (min xs.length us.length) ys nw → Fr h₀ L h m → News h₀ L h ((D, lst ys) :: nw) → h.Ns C m' → R (.ok .next) { s with heap := h, toks := tk })
    (hst : ZipSt z TI TO i1 i2 l1 l2 xs us 0 s.heap) (F : Fr h₀ L s.heap m) (hn : s.heap.Ns C m₀) (N : News h₀ L s.heap ((D, lst []) :: nw₀)) (h0 : Inv 0 [] nw₀) (hsz : xs.length ≤ sizeLine) :
    codeAny (model prog w) A (.compLoop (.ListComp elt [⟨.Tuple [.Name x px, .Name x₂ px₂] tk tp, iter, [], 0⟩] scope pos) 0 (.ref z) (.ref D) (compEnvC scope cl C env)) R s := by
  have W := WalksT.zip2 (prog := prog) (w := w) hh z TI TO i1 i2 l1 l2 Da xs.toArray us.toArray
  have hmin : min xs.toArray.size us.toArray.size = min xs.length us.length := by simp
  rw [hmin] at W
  simp only [List.mem_cons, List.not_mem_nil, or_false, not_or] at hC hD
  obtain ⟨cz, cTI, cTO, ci1, ci2, cl1, cl2⟩ := hC
  obtain ⟨dz, dTI, dTO, di1, di2, dl1, dl2⟩ := hD
  have hwr : ∀ a ∈ [z, TO, i1, i2], a ≠ L ∧ h₀.get? a = none := by
    intro a ha
    refine hL a ?_
    simp only [List.mem_cons, List.not_mem_nil, or_false] at ha ⊢
    rcases ha with h | h | h | h <;> simp [h]
  have hDw : D ∉ [z, TO, i1, i2] := by simp [dz, dTO, di1, di2]
  have hCw : C ∉ [z, TO, i1, i2] := by simp [cz, cTO, ci1, ci2]
  have hCL := hL C (by simp)
  have hDL := hL D (by simp)
  refine codeAny_compLoop_pair
    (fun k s' => ∃ h' tk i ys m' nw, s' = { s with heap := h', toks := tk } ∧ i ≤ min xs.length us.length ∧ k = min xs.length us.length + 1 - i ∧ ys.length = i ∧ ZipSt z TI TO i1 i2 l1 l2 xs us i h' ∧ Fr h₀ L h' m ∧ h'.Ns C m' ∧ News h₀ L h' ((D, lst ys) :: nw) ∧ Inv i ys nw)
    ?_ (min xs.length us.length + 1) ⟨s.heap, s.toks, 0, [], m₀, nw₀, rfl, Nat.zero_le _, by omega, rfl, hst, F, hn, N, h0⟩
  rintro k s' ⟨h', tk, i, ys, m', nw, rfl, hi, rfl, hyl, hst', F', hn', N', hI⟩
  obtain ⟨hl1, hl2, hnoff⟩ := hoff i ys nw hI
  have hnw : ∀ p ∈ ((D, lst ys) :: nw), p.1 ∉ [z, TO, i1, i2] := by
    intro p hp
    rcases List.mem_cons.mp hp with rfl | hp
    · exact hDw
    · have := hnoff p hp
      simp only [List.mem_cons, List.not_mem_nil, or_false, not_or] at this ⊢
      exact ⟨this.1, this.2.2.1, this.2.2.2.1, this.2.2.2.2.1⟩
  by_cases hlt : i < min xs.length us.length
  · refine W.item i _ _ _ hlt hst' fun T vals h₂ tk₂ hPt hTs hT hmid hk₂ => ?_
    obtain ⟨v₁, v₂, hv1, hv2, rfl⟩ := hPt
    have hTw := W.apart i T h₂ hmid
    refine W.go _ _ _ i T _ _ _ hmid fun h₃ hst₃ hk₃ => ?_
    have hk23 : ∀ b o, b ∉ [z, TO, i1, i2] → h'.get? b = some o → h₃.get? b = some o := fun b o hb e => hk₃ b o hb (hk₂ b o hb e)
    have hT3 : IsTup h₃ T #[v₁, v₂] := by
      obtain ⟨o, ho, r⟩ := hT
      exact ⟨o, hk₃ T o hTw ho, r⟩
    refine assign_Tuple_tuple hh hT3 rfl rfl fun h₄ he => ?_
    have he' : ∀ b o, h₃.get? b = some o → h₄.get? b = some o := fun b o e => he b o (Nat.ne_of_lt (Heap.lt_size e)) e
    have hn4 : h₄.Ns C m' := (hn'.at' fun o e => hk23 _ o hCw e).at' fun o e => he' _ o e
    refine assignInOrder_cons (wpAny_assign_Name (wpAny_storeName_local (lookup_relabel_local hx) hn4 (fun h₅ hn₅ hs₅ => ?_) (by simp [compEnvC, relabel, hkind])))
    refine assignInOrder_cons (wpAny_assign_Name (wpAny_storeName_local (lookup_relabel_local hx₂) hn₅ (fun h₆ hn₆ hs₆ => ?_) (by simp [compEnvC, relabel, hkind])))
    refine assignInOrder_nil ?_
    have old : ∀ b o, b ≠ C → h₃.get? b = some o → h₆.get? b = some o := fun b o hb e => hs₆.extBut b o hb (hs₅.extBut b o hb (he' b o e))
    have old2 : ∀ b o, b ∉ [z, TO, i1, i2] → b ≠ C → h'.get? b = some o → h₆.get? b = some o := fun b o hb hc e => old b o hc (hk23 b o hb e)
    have F₆ : Fr h₀ L h₆ m := (((fr_off F' hk23 hwr).keeps he').change hs₅ hCL.1 hCL.2).change hs₆ hCL.1 hCL.2
    obtain ⟨oC, heC, hoC⟩ := ns_obj hn₆
    obtain ⟨a1, a2, ⟨p1, p2, a3⟩, ⟨o1, a4, r4⟩, ⟨o2, a5, r5⟩, a6, a7⟩ := hst₃
    have b1 := old z _ (Ne.symm cz) a1
    have b2 := old TI _ (Ne.symm cTI) a2
    have b3 := old TO _ (Ne.symm cTO) a3
    have b4 := old i1 _ (Ne.symm ci1) a4
    have b5 := old i2 _ (Ne.symm ci2) a5
    have bD : h₆.get? D = some (lst ys) := old2 D _ hDw (Ne.symm hCD) (N' _ (.head _)).1
    have N₆ : News h₀ L h₆ ([(z, { cls := .type "zip", dict := none, data := .fields #[.none, .bool false, .bool false, .ref TI, .ref TO], slots := #[] }), (TI, { cls := .type "tuple", data := .seq #[.ref i1, .ref i2] }), (TO, { cls := .type "tuple", data := .seq #[p1, p2] }), (i1, o1), (i2, o2), (C, oC), (D, lst ys)] ++ nw) := by
      intro p hp
      rcases List.mem_append.mp hp with hp | hp
      · simp only [List.mem_cons, List.not_mem_nil, or_false] at hp
        rcases hp with rfl | rfl | rfl | rfl | rfl | rfl | rfl
        · exact ⟨b1, hL _ (by simp)⟩
        · exact ⟨b2, hL _ (by simp)⟩
        · exact ⟨b3, hL _ (by simp)⟩
        · exact ⟨b4, hL _ (by simp)⟩
        · exact ⟨b5, hL _ (by simp)⟩
        · exact ⟨heC, hL _ (by simp)⟩
        · exact ⟨bD, hL _ (by simp)⟩
      · have := hnoff p hp
        simp only [List.mem_cons, List.not_mem_nil, or_false, not_or] at this
        exact ⟨old2 _ _ (by simp [this]) this.2.2.2.2.2.1 (N' p (.tail _ hp)).1, (N' p (.tail _ hp)).2⟩
    refine wpAny_mono (turn i ys nw v₁ v₂ oC _ _ h₆ _ _ (by simpa using hv1) (by simpa using hv2) hI (by simp) rfl hoC (by simp [hxx]) (by simp) F₆ N₆) (fun y s₄ h₄ => ?_) fun _ _ e => e
    obtain ⟨h₇, tk₇, nw', rfl, F₇, N₇, hI'⟩ := h₄
    obtain ⟨hl1', hl2', hnoff'⟩ := hoff (i + 1) (ys ++ [y]) nw' hI'
    have c1 := (N₇ _ (List.mem_append_left _ (.head _))).1
    have c2 := (N₇ _ (List.mem_append_left _ (.tail _ (.head _)))).1
    have c3 := (N₇ _ (List.mem_append_left _ (.tail _ (.tail _ (.head _))))).1
    have c4 := (N₇ _ (List.mem_append_left _ (.tail _ (.tail _ (.tail _ (.head _)))))).1
    have c5 := (N₇ _ (List.mem_append_left _ (.tail _ (.tail _ (.tail _ (.tail _ (.head _))))))).1
    have cC := (N₇ _ (List.mem_append_left _ (.tail _ (.tail _ (.tail _ (.tail _ (.tail _ (.head _)))))))).1
    have cD := (N₇ _ (List.mem_append_left _ (.tail _ (.tail _ (.tail _ (.tail _ (.tail _ (.tail _ (.head _))))))))).1
    have d1 := (N₇ _ (List.mem_append_right _ hl1')).1
    have d2 := (N₇ _ (List.mem_append_right _ hl2')).1
    refine append_at (hsz := by rw [List.size_toArray, hyl]; exact Nat.le_trans hi (Nat.le_trans (Nat.min_le_left ..) hsz)) cD fun h₈ hs₈ hD₈ => ?_
    have up : ∀ b o, b ≠ D → h₇.get? b = some o → h₈.get? b = some o := fun b o hb e => hs₈.extBut b o hb e
    have hnC := (hoC.ns cC).sameBut hs₈ hCD
    refine ⟨min xs.length us.length + 1 - (i + 1), by omega, h₈, tk₇, i + 1, ys ++ [y], _, nw', rfl, hlt, rfl, by rw [List.length_append, List.length_singleton, hyl], ⟨?_, ?_, ⟨p1, p2, ?_⟩, ⟨o1, ?_, r4⟩, ⟨o2, ?_, r5⟩, ?_, ?_⟩, F₇.change hs₈ hDL.1 hDL.2, hnC, ?_, hI'⟩
    · exact up z _ (Ne.symm dz) c1
    · exact up TI _ (Ne.symm dTI) c2
    · exact up TO _ (Ne.symm dTO) c3
    · exact up i1 _ (Ne.symm di1) c4
    · exact up i2 _ (Ne.symm di2) c5
    · exact ⟨_, up l1 _ (Ne.symm dl1) d1, rfl, _, rfl⟩
    · exact ⟨_, up l2 _ (Ne.symm dl2) d2, rfl, _, rfl⟩
    · intro p hp
      rcases List.mem_cons.mp hp with rfl | hp
      · exact ⟨hD₈.trans (congrArg some (lst_snoc ys y)), hDL⟩
      · have := hnoff' p hp
        simp only [List.mem_cons, List.not_mem_nil, or_false, not_or] at this
        exact ⟨up _ _ this.2.2.2.2.2.2 (N₇ p (List.mem_append_right _ hp)).1, (N₇ p (List.mem_append_right _ hp)).2⟩
  · have hin : i = min xs.length us.length := by omega
    subst hin
    refine W.done _ _ _ hst' fun h₂ tk₂ hk₂ => ?_
    exact done h₂ tk₂ m' ys nw hI (fr_off F' hk₂ hwr) (news_off N' hk₂ hnw) (hn'.at' fun o e => hk₂ _ o hCw e)

structure ZipSrc (prog : Program) (w : World) (A : Around) (h₀ : Heap) (L : Addr) (m : Str → Option Value) (env : Env) (elt : Expr) (x x₂ y : Str) (scope : Scope) (cl : List (Str × Addr)) (Q : Flow → Shared → Prop) (s₁ : Shared)
    (z TI TO i1 i2 l1 l2 : Addr) (xs us : List Value) (n1 n2 : Nat) (nw : List (Addr × Obj)) (Inv : Nat → List Value → List (Addr × Obj) → Prop) : Prop where
  hh : A.handled = none
  F : Fr h₀ L s₁.heap m
  N : News h₀ L s₁.heap nw
  ap : ZipApart z TI TO i1 i2 l1 l2
  st : ZipSt z TI TO i1 i2 l1 l2 xs us 0 s₁.heap
  hz : ∀ a ∈ [z, TI, TO, i1, i2], a ≠ L ∧ h₀.get? a = none
  hlt : ∀ a ∈ [z, TI, TO, i1, i2, l1, l2], a < s₁.heap.objs.size
  sz : xs.length ≤ sizeLine
  h0 : Inv 0 [] nw
  off : ∀ i ys nw, Inv i ys nw → (l1, listOf xs.toArray n1) ∈ nw ∧ (l2, listOf us.toArray n2) ∈ nw ∧ ∀ p ∈ nw, p.1 ∉ [z, TI, TO, i1, i2, s₁.heap.objs.size + 1, s₁.heap.objs.size]
  turn : ∀ i ys nw v₁ v₂ oC m₂ fx h tk (E' : Value → Shared → Prop), xs[i]? = some v₁ → us[i]? = some v₂ → Inv i ys nw → (s₁.heap.objs.size + 1, oC) ∈ fx → fx.map (·.1) = [z, TI, TO, i1, i2, s₁.heap.objs.size + 1, s₁.heap.objs.size] → NsObj oC m₂ → m₂ x = some v₁ → m₂ x₂ = some v₂ → Fr h₀ L h m → News h₀ L h (fx ++ nw) →
      wpAny (model prog w) A (eval elt (compEnvC scope cl (s₁.heap.objs.size + 1) env)) (fun y s₂ => ∃ h' tk' nw', s₂ = { s₁ with heap := h', toks := tk' } ∧ Fr h₀ L h' m ∧ News h₀ L h' (fx ++ nw') ∧ Inv (i + 1) (ys ++ [y]) nw') E' { s₁ with heap := h, toks := tk }
  fin : ∀ h tk ys nw, Inv (min xs.length us.length) ys nw → Fr h₀ L h (fun q => if q = y then some (.ref s₁.heap.objs.size) else m q) → News h₀ L h ((s₁.heap.objs.size, lst ys) :: nw) → Q .next { s₁ with heap := h, toks := tk }

theorem zip_assign {elt iter : Expr} {x x₂ y : Str} {px px₂ tp py : Pos} {tk} {scope : Scope} {cl : List (Str × Addr)} {pos spos : Pos} {Q : Flow → Shared → Prop} (hLe : env.locals = L)
    (hsw : swapsWith (.ListComp elt [⟨.Tuple [.Name x px, .Name x₂ px₂] tk tp, iter, [], 0⟩] scope pos) (some (.Name y py)) spos.line env = pure true)
    (hclos : closureFor scope env = pure cl) (hcell : ∀ z ∈ scope.names, z.2 ≠ .cell) (hkind : scope.kind = .function)
    (hnames : ∀ z ∈ scope.names, z.2 = .local → scope.names.lookup z.1 = some .local) (hx : scope.names.lookup x = some .local) (hx₂ : scope.names.lookup x₂ = some .local) (hxx : x ≠ x₂)
    (hy : env.kindOf y = some .local) (hp : (env.scope.kind == .class || (env.scope.kind == .module && env.locals != env.globals)) = false)
    (h : wpAny (model prog w) A (eval iter env) (fun xv s₁ => ∃ z TI TO i1 i2 l1 l2 xs us n1 n2 nw Inv, xv = .ref z ∧ ZipSrc prog w A h₀ L m env elt x x₂ y scope cl Q s₁ z TI TO i1 i2 l1 l2 xs us n1 n2 nw Inv) E s)
    (hs : ∀ x, foldedSetIterable iter env x = pure x := by intro _; rfl) :
    wpAny (model prog w) A (exec (.Assign [.Name y py] (.ListComp elt [⟨.Tuple [.Name x px, .Name x₂ px₂] tk tp, iter, [], 0⟩] scope pos) spos) env) Q E s := by
  subst hLe
  rw [exec_Assign_Name_used _ _ _ _ hsw]
  refine wpAny_bind (wpAny_standAt (wpAny_bind ?_))
  show wpAny _ A (do let _ ← comprehension (.ListComp elt [⟨.Tuple [.Name x px, .Name x₂ px₂] tk tp, iter, [], 0⟩] scope pos) scope env _ (newList []) false (eval iter env) (some (assign (.Name y py) env))) _ _ s
  refine wpAny_bind (wpAny_mono (wpAny_comprehension_free (use := some (assign (.Name y py) env)) (Q := fun _ s' => Q .next s') rfl hs hclos hkind hnames
    (wpAny_mono h (fun xv s₁ h₁ => ?_) fun _ _ e => e)) (fun _ s' hq => wpAny_pure (wpAny_pure hq)) fun _ _ e => e)
  obtain ⟨z, TI, TO, i1, i2, l1, l2, xs, us, n1, n2, nw, Inv, rfl, S⟩ := h₁
  have F := S.F
  refine wpAny_pyIter_zip S.st.1 ?_
  refine wpAny_newObj_type (wpAny_newFunctionEnv hcell (by intro y hy; simp at hy) (fun h₁ hns₁ hsb₁ => ?_) hkind)
  dsimp only at hns₁ hsb₁ ⊢
  have hsz2 : (s₁.heap.push { cls := .type "list", dict := none, data := .seq ([] : List Value).toArray }).objs.size = s₁.heap.objs.size + 1 := Heap.size_push ..
  rw [hsz2] at hns₁ hsb₁ ⊢
  have old : ∀ b o, s₁.heap.get? b = some o → h₁.get? b = some o := fun b o e => hsb₁.extBut b o (Nat.ne_of_lt (Nat.lt_succ_of_lt (Heap.lt_size e))) (Heap.get?_push_of_some _ (Heap.get?_push_of_some _ e))
  have hacc : h₁.get? s₁.heap.objs.size = some (lst []) := hsb₁.extBut _ _ (Nat.ne_of_lt (Nat.lt_succ_self _)) (Heap.get?_push_of_some _ (Heap.get?_push_size _ rfl))
  have fresh₀ : ∀ a, s₁.heap.objs.size ≤ a → h₀.get? a = none := fun a ha => by
    cases e : h₀.get? a with
    | none => rfl
    | some o' => exact absurd (Heap.lt_size (F.keep a o' e)) (Nat.not_lt.mpr ha)
  have hLlt : env.locals < s₁.heap.objs.size := F.ns.lt
  have hL : ∀ a ∈ [z, TI, TO, i1, i2, s₁.heap.objs.size + 1, s₁.heap.objs.size], a ≠ env.locals ∧ h₀.get? a = none := by
    intro a ha
    by_cases ha' : a ∈ [z, TI, TO, i1, i2]
    · exact S.hz a ha'
    · have : a = s₁.heap.objs.size + 1 ∨ a = s₁.heap.objs.size := by
        simp only [List.mem_cons, List.not_mem_nil, or_false] at ha ha'
        rcases ha with h | h | h | h | h | h | h
        · exact absurd (.inl h) ha'
        · exact absurd (.inr (.inl h)) ha'
        · exact absurd (.inr (.inr (.inl h))) ha'
        · exact absurd (.inr (.inr (.inr (.inl h)))) ha'
        · exact absurd (.inr (.inr (.inr (.inr h)))) ha'
        · exact .inl h
        · exact .inr h
      rcases this with rfl | rfl
      · exact ⟨Nat.ne_of_gt (Nat.lt_succ_of_lt hLlt), fresh₀ _ (Nat.le_succ _)⟩
      · exact ⟨Nat.ne_of_gt hLlt, fresh₀ _ (Nat.le_refl _)⟩
  have hst₁ : ZipSt z TI TO i1 i2 l1 l2 xs us 0 h₁ := by
    obtain ⟨a1, a2, ⟨p1, p2, a3⟩, a4, a5, a6, a7⟩ := S.st
    exact ⟨old _ _ a1, old _ _ a2, ⟨p1, p2, old _ _ a3⟩, a4.at fun o e => old _ o e, a5.at fun o e => old _ o e, a6.at fun o e => old _ o e, a7.at fun o e => old _ o e⟩
  have loop : codeAny (model prog w) A (.compLoop (.ListComp elt [⟨.Tuple [.Name x px, .Name x₂ px₂] tk tp, iter, [], 0⟩] scope pos) 0 (.ref z) (.ref s₁.heap.objs.size) (compEnvC scope cl (s₁.heap.objs.size + 1) env))
      (compPost (model prog w) A E (some (assign (.Name y py) env)) (fun _ s' => Q .next s') (.ref s₁.heap.objs.size) (s₁.heap.objs.size + 1)) { s₁ with heap := h₁, toks := s₁.toks + ([] : List (Str × Value)).length } := by
    refine zip_loop S.hh S.ap hkind hx hx₂ hxx (fun hm => ?_) (fun hm => ?_) (Nat.ne_of_gt (Nat.lt_succ_self _)) hL Inv S.off S.turn ?_ hst₁ (F.keeps old) hns₁ (fun p hp => ?_) S.h0 S.sz
    · exact Nat.lt_irrefl _ (Nat.lt_of_succ_lt (S.hlt _ hm))
    · exact Nat.lt_irrefl _ (S.hlt _ hm)
    · intro h' tk' m' ys nw' hI F' N' hn'
      show wpAny _ A (assign (.Name y py) env (.ref s₁.heap.objs.size)) _ _ _
      refine wpAny_assign_Name (wpAny_storeName_local hy F'.ns (fun h₂ hn₂ hs₂ => ?_) hp)
      have hL₀ : h₀.get? env.locals = none := Heap.get?_none_of_le F'.above
      have F₂ : Fr h₀ env.locals h₂ (fun q => if q = y then some (.ref s₁.heap.objs.size) else m q) := ⟨hn₂, fun b o e => hs₂.extBut b o (fun q => by rw [q, hL₀] at e; cases e) (F'.keep b o e), F'.above⟩
      have hCL := hL (s₁.heap.objs.size + 1) (by simp)
      refine ⟨m', hn'.sameBut hs₂ hCL.1, fun h'' hs'' => S.fin h'' _ ys nw' hI (F₂.change hs'' hCL.1 hCL.2) (fun p hp => ?_)⟩
      have zz : h₂.get? p.1 = some p.2 := hs₂.extBut _ _ (N' p hp).2.1 (N' p hp).1
      refine ⟨hs''.extBut _ _ ?_ zz, (N' p hp).2⟩
      rcases List.mem_cons.mp hp with rfl | hp
      · exact Nat.ne_of_lt (Nat.lt_succ_self _)
      · intro e
        exact (S.off _ _ _ hI).2.2 p hp (by rw [e]; simp)
    · rcases List.mem_cons.mp hp with rfl | hp
      · exact ⟨hacc, hL _ (by simp)⟩
      · exact ⟨old _ _ (S.N p hp).1, (S.N p hp).2⟩
  exact codeAny_compStart_list loop (wpAny_pyIter_zip hst₁.1 loop)
end
end Mine

end

section
open PySem PySem.W PyProof.Rows PySem.Calls
set_option maxRecDepth 100000
set_option maxHeartbeats 8000000
namespace Mine
example : (fun (_ : OpenLaw) (_ : Params → Frag) => True) PySem.Challenge.rw_pg0008_01 hd.heap_39 := by
  w_on; k_fill; trivial

local macro_rules | `(tactic| tb_start) => `(tactic| repeat' (first | ((fail_if_success (with_reducible show wpAny _ _ (exec (Stmt.While _ _ _ _) _) _ _ _)); (fail_if_success (with_reducible show wpAny _ _ (exec (Stmt.For _ _ _ _ _) _) _ _ _)); (fail_if_success (with_reducible show wpAny _ _ (pyIter _) _ _ _)); (fail_if_success (with_reducible show wpAny _ _ (getMethod (Value.ref 36) _ _) _ _ _)); (fail_if_success (show wpAny _ _ (call (Value.builtin "re.Pattern.sub") _) _ _ _)); (fail_if_success (with_reducible show wpAny _ _ (subscriptTail _ (Expr.Slice _ _ _ _) (Value.ref _) (Value.ref _)) _ _ _)); (fail_if_success (with_reducible show wpAny _ _ (compareOp CmpOp.Lt (Value.ref _) (Value.ref _)) _ _ _)); (fail_if_success (with_reducible show wpAny _ _ (binaryOp Operator.Add (Value.ref _) (Value.ref _)) _ _ _));   (fail_if_success (with_reducible show wpAny _ _ (eval (Expr.ListComp _ _ _ _) _) _ _ _)); first | (k_unfold; (try dsimp only)) | (k_end; wrow_close) | walk1 | (dsimp only; walk1) | (leave1; walk_say "STEP leave1"; try dsimp only)) | fail "no step"))
local macro_rules | `(tactic| k_all) => `(tactic| exact fun p hp => Nat.ne_of_lt ((show ∀ p ∈ _, p.1 < _ by assumption) p hp))

theorem pick4 (k : Nat) (h : k < 4) : ∃ o : Nat, 10 ≤ o ∧ o < 256 ∧ ([10, 46, 10, 46] : List Int).getD k 0 = ((o : Nat) : Int) := by
  match k, h with
  | 0, _ => exact ⟨10, by omega, by omega, rfl⟩
  | 1, _ => exact ⟨46, by omega, by omega, rfl⟩
  | 2, _ => exact ⟨10, by omega, by omega, rfl⟩
  | 3, _ => exact ⟨46, by omega, by omega, rfl⟩

section
variable {prog : Program} {w : World} {p : Program} {loose : List Str} {mean : ExcName → Option Value} {mg mb : Str → Option Value}
  {dp un : Nat} {gd : Option (List Code)} {cn : Str} {cs : Scope} {a : Addr} {ccd : Value} {cl : List (Str × Addr)} {outer : List Env} {A₀ : Around} {base h₀ : Heap} {L : Addr} {m : Str → Option Value} {news : List (Addr × Obj)} {s : Shared} {Q E : Value → Shared → Prop}

theorem octet_ok {x : Int} {t : Tok} (B : Below A₀ base outer h₀) (F : Fr h₀ L s.heap m) (X : (hd.heap_39 w.params).In h₀) (N : News h₀ L s.heap news) (T : Top p loose mean mg mb h₀) (hk : cs.kind = .function)
    (hd : dp + 2 < recursionLimit) (hu : un + 100 < cLine) (h0 : 0 ≤ x) (h1 : x < 1000000)
    (ret : ∀ (o : Nat) t' h' tk', 10 ≤ o → o < 256 → Fr h₀ L h' m → News h₀ L h' news → Q (.int (o : Nat) t') { s with heap := h', toks := tk' }) :
    wpAny (model prog w) (ktrTop dp un gd cn cs L a ccd cl outer) (call (.ref 71) [.int x t]) Q E s := by
  refine wpAny_call ?_
  k_dflt cell_enter
  have hf0 := Int.fmod_nonneg_of_pos x (show (0 : Int) < 6 by decide)
  have hg0 := Int.fmod_nonneg_of_pos (x.fdiv 6) (show (0 : Int) < 245 by decide)
  have hg1 := Int.fmod_lt_of_pos (x.fdiv 6) (show (0 : Int) < 245 by decide)
  tb_start
  · rename x.fmod 6 < 4 => h4
    obtain ⟨o, ho1, ho2, ho3⟩ := pick4 (x.fmod 6).toNat (by omega)
    rw [ho3]
    exact ret o _ _ _ ho1 ho2 (by assumption) (newsSub (by assumption) fun p hp => .tail _ hp)
  · have e : (11 + (x.fdiv 6).fmod 245 : Int) = ((11 + ((x.fdiv 6).fmod 245).toNat : Nat) : Int) := by omega
    rw [e]
    exact ret _ _ _ _ (by omega) (by omega) (by assumption) (by assumption)
end
end Mine

end

section
open PySem PySem.W PyProof.Rows PySem.Calls PyProof.Rows.LCg
set_option maxRecDepth 100000
set_option maxHeartbeats 8000000
namespace Mine

theorem pieces_length (s : List Nat) : ∀ rs : List Nat, (pieces s rs).length = rs.length - 1
  | [] => rfl
  | [_] => rfl
  | a :: b :: r => by
    have := pieces_length s (b :: r)
    simp only [pieces, List.length_cons] at this ⊢
    omega
theorem pieces_at (s : List Nat) : ∀ (rs : List Nat) (i a b : Nat), rs[i]? = some a → (rs.drop 1)[i]? = some b → (pieces s rs)[i]? = some ((s.take b).drop a)
  | [], i, a, b, h, _ => by simp at h
  | [_], i, a, b, _, h => by simp at h
  | c :: d :: r, 0, a, b, h, h2 => by simp at h h2; simp [pieces, h, h2]
  | c :: d :: r, i + 1, a, b, h, h2 => by
    have := pieces_at s (d :: r) i a b (by simpa using h) (by simpa using h2)
    simpa [pieces] using this
theorem take_snoc {α : Type} {l : List α} {i : Nat} {v : α} (h : l[i]? = some v) : l.take (i + 1) = l.take i ++ [v] := by
  rw [List.take_add_one, h]; rfl
theorem sub_nil {α : Type} {l : List α} : ∀ p ∈ ([] : List α), p ∈ l := fun _ h => nomatch h
theorem sub_cons {α : Type} {a : α} {r l : List α} (h : a ∈ l) (t : ∀ p ∈ r, p ∈ l) : ∀ p ∈ a :: r, p ∈ l := fun p hp => by
  rcases List.mem_cons.mp hp with rfl | hp
  · exact h
  · exact t p hp

section
variable {prog : Program} {w : World} {A : Around} {h₀ : Heap} {L : Addr} {m : Str → Option Value} {s : Shared} {Q E : Value → Shared → Prop}
theorem slice_run {l : Addr} {value slice : PySem.Expr} {all : List (Addr × Obj)} {vs : List Value} {n : Nat} {x : List Nat} {t t2 : Tok} (k k2 : Nat) (F : Fr h₀ L s.heap m) (N : News h₀ L s.heap all) (hD : (l, listOf vs.toArray n) ∈ all) (hi : IntsAre vs (zi x)) (hl : x.length < 1000)
    (h : ∀ D ws h', Fr h₀ L h' m → News h₀ L h' ((D, listOf (List.toArray ws) 0) :: all) → (∀ p ∈ all, p.1 < D) → IntsAre ws (zi ((x.take k2).drop k)) → Q (.ref D) { s with heap := h' })
    (hs : subscripted slice false (.ref l) (.ref s.heap.objs.size) = operate [.ref s.heap.objs.size, .ref l] (getItem (.ref l) (.ref s.heap.objs.size))) (ht : ∀ r, letTemporaryGo value (.ref l) r = pure ()) :
    wpAny (model prog w) A (subscriptTail value slice (.ref l) (.ref s.heap.objs.size)) Q E { s with heap := s.heap.push { cls := .type "slice", data := .fields #[.int (k : Nat) t, .int (k2 : Nat) t2, .none] } } := by
  have hk := kmk_run (x := (k : Int)) (y := (k2 : Int)) hi (by omega) (by omega)
  refine kmk_slice_ints F N (News.isList N hD) (IsPart.int _ _) (IsPart.int _ _) hi hk rfl (fun D ws h' F' N' l1 hI _ _ => h D ws h' F' N' l1 ?_) hs ht ?_
  · have e : ((zi x).drop (k : Int).toNat).take (min (k2 : Int).toNat (zi x).length - (k : Int).toNat) = zi ((x.take k2).drop k) := by
      simp only [zi, Int.toNat_natCast, List.length_map, ← List.map_drop, ← List.map_take, List.drop_take]
      congr 1
      by_cases hh : k2 ≤ x.length
      · rw [Nat.min_eq_left hh]
      · rw [Nat.min_eq_right (by omega), List.take_of_length_le (by simp), List.take_of_length_le (by simp; omega)]
    rw [e] at hI
    exact hI
  · rw [List.size_toArray, hi.length, sizeLine_eq]; simp [zi]; omega
end

section
variable {prog : Program} {w : World} {A : Around} {E : Value → Shared → Prop} {s : Shared} {h₀ : Heap} {L : Addr} {m : Str → Option Value} {env : Env}
theorem zip_call {elt : Expr} {x x₂ y : Str} {scope : Scope} {cl : List (Str × Addr)} {Q : Flow → Shared → Prop} {l1 l2 : Addr} {xs us : List Value} {n1 n2 : Nat} {nw : List (Addr × Obj)} (Inv : Nat → List Value → List (Addr × Obj) → Prop)
    (hh : A.handled = none) (F : Fr h₀ L s.heap m) (N : News h₀ L s.heap nw) (h1 : (l1, listOf xs.toArray n1) ∈ nw) (h2 : (l2, listOf us.toArray n2) ∈ nw) (h12 : l1 ≠ l2) (sz : xs.length ≤ sizeLine) (h0 : Inv 0 [] nw)
    (off : ∀ i ys nw', Inv i ys nw' → (l1, listOf xs.toArray n1) ∈ nw' ∧ (l2, listOf us.toArray n2) ∈ nw' ∧ ∀ p ∈ nw', p.1 < s.heap.objs.size ∨ s.heap.objs.size + 6 < p.1)
    (turn : ∀ i ys nw v₁ v₂ oC m₂ fx h tk (E' : Value → Shared → Prop), xs[i]? = some v₁ → us[i]? = some v₂ → Inv i ys nw → (s.heap.objs.size + 6, oC) ∈ fx → NsObj oC m₂ → m₂ x = some v₁ → m₂ x₂ = some v₂ → Fr h₀ L h m → News h₀ L h (fx ++ nw) →
      wpAny (model prog w) A (eval elt (compEnvC scope cl (s.heap.objs.size + 6) env)) (fun y s₂ => ∃ h' tk' nw', s₂ = { s with heap := h', toks := tk' } ∧ Fr h₀ L h' m ∧ News h₀ L h' (fx ++ nw') ∧ Inv (i + 1) (ys ++ [y]) nw') E' { s with heap := h, toks := tk })
    (fin : ∀ D h tk ys nw, Inv (min xs.length us.length) ys nw → Fr h₀ L h (fun q => if q = y then some (.ref D) else m q) → News h₀ L h ((D, lst ys) :: nw) → D = s.heap.objs.size + 5 → Q .next { s with heap := h, toks := tk }) :
    wpAny (model prog w) A (call (.type "zip") [.ref l1, .ref l2]) (fun xv s₁ => ∃ z TI TO i1 i2 l1 l2 xs us n1 n2 nw Inv, xv = .ref z ∧ ZipSrc prog w A h₀ L m env elt x x₂ y scope cl Q s₁ z TI TO i1 i2 l1 l2 xs us n1 n2 nw Inv) E s := by
  refine call_zip_2 (News.isList N h1) (News.isList N h2) fun h' hz hp hp2 hi1 hi2 hsz hk => ?_
  have lt1 : l1 < s.heap.objs.size := Heap.lt_size (N _ h1).1
  have lt2 : l2 < s.heap.objs.size := Heap.lt_size (N _ h2).1
  have hL : L < s.heap.objs.size := F.ns.lt
  have e6 : s.heap.objs.size + 5 + 1 = s.heap.objs.size + 6 := rfl
  have old0 : ∀ a, s.heap.objs.size ≤ a → a ≠ L ∧ h₀.get? a = none := fun a ha => by
    refine ⟨Nat.ne_of_gt (Nat.lt_of_lt_of_le hL ha), ?_⟩
    cases q : h₀.get? a with
    | none => rfl
    | some o => exact absurd (Heap.lt_size (F.keep a o q)) (Nat.not_lt.mpr ha)
  refine ⟨s.heap.objs.size + 4, s.heap.objs.size + 2, s.heap.objs.size + 3, s.heap.objs.size, s.heap.objs.size + 1, l1, l2, xs, us, n1, n2, nw, Inv, rfl, ?_⟩
  refine { hh := hh, F := F.keeps hk, N := N.grown hk, ap := ?_, st := ⟨hz, hp, ⟨_, _, hp2⟩, hi1, hi2, (N.grown hk).isList h1, (N.grown hk).isList h2⟩, hz := ?_, hlt := ?_, sz := sz, h0 := h0, off := ?_, turn := ?_, fin := ?_ }
  · exact ktu_apart _ _ _ lt1 lt2
  · intro a ha
    refine old0 a ?_
    simp only [List.mem_cons, List.not_mem_nil, or_false] at ha
    rcases ha with rfl | rfl | rfl | rfl | rfl <;> omega
  · intro a ha
    show a < h'.objs.size
    rw [hsz]
    simp only [List.mem_cons, List.not_mem_nil, or_false] at ha
    have q' : ∀ (u v x1 x2 : Nat), x1 < v → x2 < v → (u = v + 4 ∨ u = v + 2 ∨ u = v + 3 ∨ u = v ∨ u = v + 1 ∨ u = x1 ∨ u = x2) → u < v + 5 := by intro u v x1 x2; omega
    exact q' a _ l1 l2 lt1 lt2 ha
  · intro i ys nw' hI
    obtain ⟨a, b, c⟩ := off i ys nw' hI
    refine ⟨a, b, fun p hp => ?_⟩
    show p.1 ∉ [_, _, _, _, _, h'.objs.size + 1, h'.objs.size]
    rw [hsz]
    intro q
    simp only [List.mem_cons, List.not_mem_nil, or_false] at q
    have := c p hp
    generalize p.1 = pa at this q
    have q' : ∀ (u v : Nat), (u < v ∨ v + 6 < u) → (u = v + 4 ∨ u = v + 2 ∨ u = v + 3 ∨ u = v ∨ u = v + 1 ∨ u = v + 5 + 1 ∨ u = v + 5) → False := by intro u v; omega
    exact q' pa _ this q
  · intro i ys nw' v₁ v₂ oC m₂ fx h tk E' hx1 hx2 hI hC _ hN hm1 hm2 F' N'
    dsimp only at hC ⊢
    rw [hsz, e6] at hC ⊢
    exact turn i ys nw' v₁ v₂ oC m₂ fx h tk E' hx1 hx2 hI hC hN hm1 hm2 F' N'
  · intro h tk ys nw' hI F' N'
    dsimp only at F' N' ⊢
    exact fin _ h tk ys nw' hI F' N' hsz
theorem zip_assign_F {elt iter : Expr} {x x₂ y : Str} {px px₂ tp py : Pos} {tk} {scope : Scope} {cl : List (Str × Addr)} {pos spos : Pos} {Q : Flow → Shared → Prop} (_ : Fr h₀ L s.heap m) (hLe : env.locals = L)
    (hsw : swapsWith (.ListComp elt [⟨.Tuple [.Name x px, .Name x₂ px₂] tk tp, iter, [], 0⟩] scope pos) (some (.Name y py)) spos.line env = pure true)
    (hclos : closureFor scope env = pure cl) (hcell : ∀ z ∈ scope.names, z.2 ≠ .cell) (hkind : scope.kind = .function)
    (hnames : ∀ z ∈ scope.names, z.2 = .local → scope.names.lookup z.1 = some .local) (hx : scope.names.lookup x = some .local) (hx₂ : scope.names.lookup x₂ = some .local) (hxx : x ≠ x₂)
    (hy : env.kindOf y = some .local) (hp : (env.scope.kind == .class || (env.scope.kind == .module && env.locals != env.globals)) = false)
    (h : wpAny (model prog w) A (eval iter env) (fun xv s₁ => ∃ z TI TO i1 i2 l1 l2 xs us n1 n2 nw Inv, xv = .ref z ∧ ZipSrc prog w A h₀ L m env elt x x₂ y scope cl Q s₁ z TI TO i1 i2 l1 l2 xs us n1 n2 nw Inv) E s)
    (hs : ∀ x, foldedSetIterable iter env x = pure x := by intro _; rfl) :
    wpAny (model prog w) A (exec (.Assign [.Name y py] (.ListComp elt [⟨.Tuple [.Name x px, .Name x₂ px₂] tk tp, iter, [], 0⟩] scope pos) spos) env) Q E s :=
  zip_assign hLe hsw hclos hcell hkind hnames hx hx₂ hxx hy hp h hs
end

theorem zi_at : ∀ {l : List Nat} {vs : List Value} (_ : IntsAre vs (zi l)) (i : Nat) (v : Value), vs[i]? = some v → ∃ (a : Nat) (t : Tok), v = .int (a : Nat) t ∧ l[i]? = some a
  | [], _, .nil, i, v, h => by simp at h
  | c :: l, _, .cons _ t r, 0, v, h => by simp at h; exact ⟨c, t, h.symm, rfl⟩
  | c :: l, _, .cons _ t r, i + 1, v, h => by simpa using zi_at (l := l) r i v (by simpa using h)
end Mine

end

section
open PySem PySem.W PyProof.Rows PySem.Calls PyProof.Rows.LCg
set_option maxRecDepth 100000
set_option maxHeartbeats 8000000
namespace Mine

theorem pieces_in (s : List Nat) : ∀ (rs : List Nat) (u : List Nat), u ∈ pieces s rs → u.length ≤ s.length ∧ ∀ x ∈ u, x ∈ s
  | [], u, h => by simp [pieces] at h
  | [_], u, h => by simp [pieces] at h
  | a :: b :: r, u, h => by
    simp only [pieces] at h
    rcases List.mem_cons.mp h with rfl | h
    · exact ⟨by simp; omega, fun x hx => List.mem_of_mem_take (List.mem_of_mem_drop hx)⟩
    · exact pieces_in s (b :: r) u h

section
variable {prog : Program} {w : World} {A : Around} {E : Value → Shared → Prop} {s : Shared} {h₀ : Heap} {L : Addr} {m : Str → Option Value} {env : Env}
theorem bytes_ok {news : List (Addr × Obj)} {D : Addr} {vs : List Value} {n : Nat} {l : List Nat} {Q : Value → Shared → Prop} (F : Fr h₀ L s.heap m) (N : News h₀ L s.heap news) (hh : A.handled = none) (hm : (D, listOf vs.toArray n) ∈ news) (hi : IntsAre vs (zi l)) (hl : l.length < 1000) (h256 : ∀ x ∈ l, x < 256)
    (h : ∀ b t' h' k, KBw.bInts b = zi l → Fr h₀ L h' m → News h₀ L h' news → Q (.bytes b t') { s with heap := h', toks := k }) : wpAny (model prog w) A (call (.type "bytes") [.ref D]) Q E s := by
  have hin : KBa.In (zi l) := by
    intro x hx
    simp only [zi, List.mem_map] at hx
    obtain ⟨y, hy, rfl⟩ := hx
    have := h256 y hy
    omega
  refine KBa.make_K F N hh (News.isList N hm) hi hin (by simp only [zi, List.length_map]; omega) ?_
  intro h4 t4 k4 F4 N4 _
  exact h _ _ _ _ (KBa.ints_make hin) F4 N4

theorem range_turns {px : Pos} {x : Str} {body : List Stmt} {Q : Flow → Shared → Prop} {r : Addr} {b₀ : Int} {t₀ u₀ v₀ : Tok} {n : Nat} {news : List (Addr × Obj)} (J : Nat → (Str → Option Value) → List (Addr × Obj) → Prop)
    (hh : A.handled = none) (hr : IsRange s.heap r 0 b₀ 1 t₀ u₀ v₀) (hsmall : Builtin.Range.small 0 b₀ 1 = true) (hn : Builtin.Range.rangeSize 0 b₀ 1 = (n : Int))
    (F : Fr h₀ env.locals s.heap m) (N : News h₀ env.locals s.heap news) (h0 : J 0 m news)
    (step : ∀ i t m₁ news₁ h₁ tk₁ own, i < n → J i m₁ news₁ → (∀ p ∈ news₁, p.1 ≠ s.heap.objs.size) → (∀ p ∈ own, p.1 = s.heap.objs.size) → (∃ o, (s.heap.objs.size, o) ∈ own) →
      Fr h₀ env.locals h₁ m₁ → News h₀ env.locals h₁ (own ++ news₁) →
      wpAny (model prog w) A (assign (.Name x px) env (.int ((i : Nat) : Int) t)) (fun _ s₃ => wpAny (model prog w) A (execs body env)
        (LoopStepV h₀ env.locals [s.heap.objs.size] own (J (i + 1)) { s with heap := h₁, toks := tk₁ } (fun v s' => Q (.ret v) s') fun s' => Q .next s') E s₃) E { s with heap := h₁, toks := tk₁ })
    (done : ∀ h' tk m' news', Fr h₀ env.locals h' m' → News h₀ env.locals h' news' → J n m' news' → Q .next { s with heap := h', toks := tk }) :
    wpAny (model prog w) A (pyIter (.ref r)) (fun it s₂ => TurnsAt prog w A h₀ env (.Name x px) body Q E it s₂) E s := by
  refine wpAny_pyIter_range hr hsmall ?_
  have W : Walks prog w A s.heap.objs.size [s.heap.objs.size] [s.heap.objs.size] n (fun i v => i < n ∧ ∃ t, v = .int (0 + i * 1) t)
      (fun i h => IsRangeIter h s.heap.objs.size (0 + (i : Nat) * 1) ((n : Int) - (i : Nat)) 1) := (Walks.range hh _ 0 1 n).bound
  refine ⟨s.heap.objs.size, _, _, n, _, _, _, m, news, J, rfl, KTurns.ofWalks W ?_, ?_, ?_, ?_, (by show IsRangeIter _ _ _ _ _; rw [hn]; simpa using Heap.get?_push_size _ rfl), F.push _, (fun p hp => ⟨Heap.get?_push_of_some _ (N p hp).1, (N p hp).2⟩), h0, ?_, ?_⟩
  · intro i v s' Q' E' _ hQ
    exact wpAny_pure hQ
  · intro hm
    exact absurd F.ns.lt ((List.mem_singleton.mp hm) ▸ Nat.lt_irrefl _)
  · intro b hb
    rw [List.mem_singleton.mp hb]
    exact next_is_new F
  · intro p hp hI
    exact absurd (Heap.lt_size (N p hp).1) ((List.mem_singleton.mp hI) ▸ Nat.lt_irrefl _)
  · intro i v m₁ news₁ h₁ tk₁ own hi hP hJ hnw hown _ hin st F₁ N₁
    obtain ⟨_, t, rfl⟩ := hP
    have e1 : (0 : Int) + (i : Int) * 1 = ((i : Nat) : Int) := by omega
    rw [e1]
    have st' : h₁.get? s.heap.objs.size = some _ := st
    exact step i t m₁ news₁ h₁ tk₁ own hi hJ (fun p hp e => hnw p hp (by rw [e]; exact .head _)) (fun p hp => List.mem_singleton.mp (hown p hp)) ⟨_, hin _ (.head _) (next_is_new F) _ st'⟩ F₁ N₁
  · intro h' tk m' news' F' N' _ hJ
    exact done h' tk m' news' F' N' hJ
end
end Mine

end

section
open PySem PySem.W PyProof.Rows PySem.Calls PyProof.Rows.LCg
set_option maxRecDepth 100000
set_option maxHeartbeats 8000000
namespace Mine
theorem clip1 (n : Nat) : clipAt n 1 = min 1 n := clipAt_nat n 1
theorem clip_take (q : List Nat) : (zi q).take (clipAt (zi q).length 1) = zi (q.take 1) := by
  rw [clip1]
  cases q with
  | nil => rfl
  | cons a r => rw [Nat.min_eq_left (by simp [zi])]; rfl
theorem clip_drop (q : List Nat) : ((zi q).drop (clipAt (zi q).length 1)).take ((zi q).length - clipAt (zi q).length 1) = zi (q.drop 1) := by
  rw [clip1]
  cases q with
  | nil => rfl
  | cons a r =>
    rw [Nat.min_eq_left (by simp [zi]), List.take_of_length_le (by simp)]
    rfl
theorem off1_ne {D : Addr} : ∀ {l : List (Addr × Obj)}, Off1 D l → ∀ p ∈ l, p.1 ≠ D
  | [], _, _, hp => nomatch hp
  | _ :: _, h, p, hp => by
    rcases List.mem_cons.mp hp with rfl | hp
    · exact h.1
    · exact off1_ne h.2 p hp
end Mine

end

section
open PySem PySem.W PyProof.Rows PySem.Calls
set_option maxRecDepth 100000
set_option maxHeartbeats 8000000
namespace Mine
open PyProof.Rows.LCg
example : (fun (_ : OpenLaw) (_ : Params → Frag) => True) PySem.Challenge.rw_pg0008_01 hd.heap_39 := by
  w_on; k_fill; trivial

local macro_rules | `(tactic| tb_start) => `(tactic| repeat' (first | ((fail_if_success (with_reducible show wpAny _ _ (exec (Stmt.While _ _ _ _) _) _ _ _)); (fail_if_success (with_reducible show wpAny _ _ (exec (Stmt.For _ _ _ _ _) _) _ _ _)); (fail_if_success (with_reducible show wpAny _ _ (pyIter _) _ _ _)); (fail_if_success (with_reducible show wpAny _ _ (call (Value.ref _) _) _ _ _)); (fail_if_success (with_reducible show wpAny _ _ (call (Value.type "zip") _) _ _ _)); (fail_if_success (with_reducible show wpAny _ _ (exec (Stmt.Assign _ (Expr.ListComp _ _ _ _) _) _) _ _ _)); (fail_if_success (with_reducible show wpAny _ _ (compareOp CmpOp.NotEq (Value.ref _) (Value.ref _)) _ _ _)); (fail_if_success (with_reducible show wpAny _ _ (getMethod (Value.ref 36) _ _) _ _ _)); (fail_if_success (show wpAny _ _ (call (Value.builtin "re.Pattern.sub") _) _ _ _)); (fail_if_success (with_reducible show wpAny _ _ (subscriptTail _ (Expr.Slice _ _ _ _) (Value.ref _) (Value.ref _)) _ _ _)); (fail_if_success (with_reducible show wpAny _ _ (compareOp CmpOp.Lt (Value.ref _) (Value.ref _)) _ _ _)); (fail_if_success (with_reducible show wpAny _ _ (binaryOp Operator.Add (Value.ref _) (Value.ref _)) _ _ _));   (fail_if_success (with_reducible show wpAny _ _ (eval (Expr.ListComp _ _ _ _) _) _ _ _)); first | (k_unfold; (try dsimp only)) | (k_end; wrow_close) | walk1 | (dsimp only; walk1) | (leave1; walk_say "STEP leave1"; try dsimp only)) | fail "no step"))
local macro_rules | `(tactic| k_all) => `(tactic| exact fun p hp => Nat.ne_of_lt ((show ∀ p ∈ _, p.1 < _ by assumption) p hp))


section
variable {prog : Program} {w : World} {p : Program} {loose : List Str} {mean : ExcName → Option Value} {mg mb : Str → Option Value}
  {dp un : Nat} {gd : Option (List Code)} {cn : Str} {cs : Scope} {a : Addr} {ccd : Value} {cl : List (Str × Addr)} {outer : List Env} {A₀ : Around} {base h₀ : Heap} {L : Addr} {m : Str → Option Value} {news : List (Addr × Obj)} {s : Shared} {Q E : Value → Shared → Prop}
theorem walk_ok {b : Array UInt8} {t : Tok} {l : List Nat} (B : Below A₀ base outer h₀) (F : Fr h₀ L s.heap m) (X : (hd.heap_39 w.params).In h₀) (N : News h₀ L s.heap news) (T : Top p loose mean mg mb h₀) (hk : cs.kind = .function)
    (hd : dp + 5 < recursionLimit) (hu : un + 20 < cLine) (hb : KBw.bInts b = zi l) (hl : l.length < 1000)
    (ret : ∀ x its n h' tk', BytesAre its (words l) → Fr h₀ L h' m → News h₀ L h' ((x, listOf its.toArray n) :: news) → (∀ p ∈ news, p.1 < x) → Q (.ref x) { s with heap := h', toks := tk' }) :
    wpAny (model prog w) (ktrTop dp un gd cn cs L a ccd cl outer) (call (.ref 78) [.bytes b t]) Q E s :=
  walk_tells dp un gd cn cs a ccd cl outer A₀ base h₀ L m news s b t l Q E B F X N T hk hb hl hd hu ret
end

theorem law_walk : PySem.Challenge.rw_pg0008_01.Holds := hd (by
  k_go0
  (all_goals try k_fold)
  rename Dflts _ _ _ _ _ _ => hDf
  rename Heap.CodeRec _ _ _ => hCr
  rename Glob _ _ _ _ _ _ _ _ => hGl
  clear hDf hCr hGl
  rename Shared => s1
  rename Below _ _ _ _ => K0
  rename Frag.In _ _ => KX
  rename Top _ _ _ _ _ _ => T0
  rename IntsAre _ _ => iL
  rename Obj.data _ = _ => c1'
  revert c1'
  rename Obj.data _ = _ => c0'
  intro c1'
  have c0 : _ = Data.cell none := c0'
  have c1 : _ = Data.cell none := c1'
  clear c0' c1'
  rename Heap.IsList _ _ _ => hLs
  rename Fr _ _ _ _ => F0
  obtain ⟨u0, F1⟩ : ∃ u, Fr _ _ _ (kstB u [(Str.ofString "script", Value.ref _)]) := ⟨_, mfr (by kst_all) F0⟩
  clear F0
  tb_start
  rename_i l' h' F' N' l1
  k_dflt (refine' ListComp_U (cl := []) F' ?c1 ?c2 ?c3 ?c4 ?c5 ?_)
  case c1 => rfl
  case c2 => decide
  case c3 => rfl
  case c4 => decide
  case c5 => rfl
  tb_start
  walk1
  rename_i D2 w2 h2 F2 N2 I2 J2 K2 l2
  have hw2 : w2.length ≤ 8 := by rw [I2.length]; omega
  k_dflt (refine CompSrc.ledger (by rfl) F2 N2 (.head _) (by rw [List.size_toArray, sizeLine_eq]; omega) ?_)
  intro g
  refine rest_all (fun i ys nw => nw = _ ∧ ∃ os : List Nat, IntsAre ys (zi os) ∧ os.length = i ∧ ∀ o ∈ os, 10 ≤ o ∧ o < 256) ?turn ?fin ⟨rfl, [], .nil, rfl, by simp⟩
  case turn =>
    rintro i ys _ v I oI C oC D m₂ h tk E' hi ⟨rfl, os, hys, hol, hob⟩ hP hC hx F3 N3 off ne
    obtain ⟨nn, tn, rfl, hn⟩ := I2.at i v (by simpa using hP)
    clear F2 N2
    tb_start
    have e6 : (10 ^ Int.toNat 6 : Int) = 1000000 := by decide
    rw [e6]
    k_dflt (refine' octet_ok K0 F3 KX N3 T0 ?ck ?cd ?cu ?c0 ?c1 ?_)
    case ck => rfl
    case cd => ktr_room
    case cu => ktr_units
    case c0 => exact Int.fmod_nonneg_of_pos _ (by decide)
    case c1 => exact Int.fmod_lt_of_pos _ (by decide)
    intro o t' h' tk' ho1 ho2 F4 N4
    refine ⟨h', tk', _, rfl, F4, N4, off, .inr ⟨_, .head _, rfl, _, rfl⟩, rfl, os ++ [o], ?_, by simp [hol], ?_⟩
    · rw [show zi (os ++ [o]) = zi os ++ [(o : Int)] by simp [zi]]
      exact hys.append (.cons _ _ .nil)
    · intro x hx
      rcases List.mem_append.mp hx with hx | hx
      · exact hob x hx
      · cases List.mem_singleton.mp hx; exact ⟨ho1, ho2⟩
  case fin =>
    rintro ys _ ⟨rfl, os, hys, hol, hob⟩
    intro D h tk F3 N3 off
    clear F2 N2
    dsimp only
    tb_start
    walk1
    dsimp only
    tb_start
    walk1
    dsimp only
    tb_start
    rename_i D5 w5 h5 F5 N5 I5 l5
    obtain ⟨-, -, -, -, -, q2, q1⟩ := l5
    obtain ⟨r, hr, hrl, hrb⟩ : ∃ r : List Nat, [10] ++ zi os ++ [46, 10, 46, 46, 10, 46] = zi (10 :: r) ∧ r.length ≤ 14 ∧ ∀ o ∈ r, 10 ≤ o ∧ o < 256 := by
      refine ⟨os ++ [46, 10, 46, 46, 10, 46], by simp [zi], by simp at hol ⊢; omega, fun o ho => ?_⟩
      rcases List.mem_append.mp ho with ho | ho
      · exact hob o ho
      · exact (by decide : ∀ o ∈ [46, 10, 46, 46, 10, 46], 10 ≤ o ∧ o < 256) o ho
    rw [hr] at I5
    have N6 := newsSub N5 (sub_cons (.head _) (sub_cons (.tail _ (.tail _ (.tail _ (.tail _ (.tail _ (.tail _ (.head _))))))) (sub_cons (.tail _ (.tail _ (.tail _ (.tail _ (.tail _ (.tail _ (.tail _ (.head _)))))))) sub_nil)))
    clear N5 hys hol hob off l1 l2 I2 J2 K2 hw2
    k_dflt (refine' storeX_C F5 N6 ?st1 ?st2 ?st3 ?_)
    case st1 => rfl
    case st2 => exact .tail (Nat.ne_of_gt q1) (.tail (Nat.ne_of_gt (Nat.lt_succ_self _)) (.head (fun _ h => nomatch h)))
    case st3 => exact c1
    intro h6 o6 F6 N6' cO
    clear F5 N6 c1
    dsimp only
    tb_start
    k_dflt (refine' cuts_ok K0 F6 KX N6' T0 ?ck ?cd ?cu I5 ?cl ?c0 ?_)
    case ck => rfl
    case cd => ktr_room
    case cu => ktr_units
    case cl => simp; omega
    case c0 => simp
    intro x7 w7 n7 rs h7 tk7 I7 hrs hrsl hpc F8 N8 lt8
    clear F6 N6'
    dsimp only
    tb_start
    rename_i h8 F9 N9
    have hx5 := lt8 _ (.head _)
    have hx2 := lt8 _ (.tail _ (.head _))
    have hx1 := lt8 _ (.tail _ (.tail _ (.head _)))
    clear lt8
    dsimp only at hx5 hx2 hx1
    k_dflt (refine' zip_assign_F F9 ?za ?zb ?zc ?zd ?ze ?zf ?zg ?zh ?zi ?zj ?zk ?_)
    case za => rfl
    case zb => with_unfolding_all rfl
    case zc => with_unfolding_all rfl
    case zd => decide
    case ze => rfl
    case zf => decide
    case zg => rfl
    case zh => rfl
    case zi => decide
    case zj => rfl
    case zk => rfl
    tb_start
    have hsl : (10 :: r).length ≤ 15 := by simp; omega
    k_dflt (refine' slice_from 1 F9 N9 (.head _) I7 rfl (by omega) ?_ ?s1 ?s2)
    case s1 => with_unfolding_all rfl
    case s2 => kmk_pure
    intro D9 w9 h9 F10 N10 lt9 I9
    have hy7 := lt9 _ (.head _)
    have hy5 := lt9 _ (.tail _ (.head _))
    have hy2 := lt9 _ (.tail _ (.tail _ (.head _)))
    have hy1 := lt9 _ (.tail _ (.tail _ (.tail _ (.head _))))
    clear lt9 F9 N9
    dsimp only at hy7 hy5 hy2 hy1 ⊢
    tb_start
    k_dflt (refine zip_call (fun i ys nw => ∃ own : List (Addr × Obj), nw = own ++ [(D9, listOf w9.toArray 0), (x7, listOf w7.toArray n7), (D5, listOf w5.toArray 0), (_, _), (_, _)] ∧ (∀ p ∈ own, h9.objs.size + 6 < p.1) ∧ ListsAre own ys ((pieces (10 :: r) rs).take i)) rfl F10 N10 (.tail _ (.head _)) (.head _) (Nat.ne_of_lt hy7) ?zl ⟨[], rfl, (fun _ h => nomatch h), .nil⟩ ?zo ?zt ?zf)
    case zl => rw [sizeLine_eq, I7.length]; simp; omega
    case zo =>
      rintro i ys _ ⟨own, rfl, ho, -⟩
      refine ⟨List.mem_append_right _ (.tail _ (.head _)), List.mem_append_right _ (.head _), fun p hp => ?_⟩
      rcases List.mem_append.mp hp with hp | hp
      · exact .inr (ho p hp)
      · exact .inl (Heap.lt_size (N10 p hp).1)
    case zt =>
      rintro i ys _ v₁ v₂ oC m₂ fx h tk E' hv1 hv2 ⟨own, rfl, ho, hL⟩ hC hN hm1 hm2 F11 N11
      obtain ⟨a, ta, rfl, ha⟩ := zi_at I7 i _ hv1
      obtain ⟨b, tb, rfl, hb⟩ := zi_at I9 i _ hv2
      have N12 := newsSub N11 (sub_cons (List.mem_append_left _ hC) (sub_cons (List.mem_append_right _ (List.mem_append_right _ (.tail _ (.tail _ (.head _))))) (sub_cons (List.mem_append_right _ (List.mem_append_right _ (.tail _ (.tail _ (.tail _ (.tail _ (.head _))))))) (fun p hp => hp))))
      clear N11 F10 N10
      tb_start
      k_dflt (refine' slice_run a b F11 N12 (.tail _ (.head _)) I5 (by omega) ?_ ?s1 ?s2)
      case s1 => with_unfolding_all rfl
      case s2 => kmk_pure
      intro D' w' h' F12 N13 lt I'
      refine ⟨h', _, (D', listOf w'.toArray 0) :: (own ++ _), rfl, F12, newsSub N13 ?_, (D', listOf w'.toArray 0) :: own, rfl, ?_, ?_⟩
      · intro p hp
        rcases List.mem_append.mp hp with hp | hp
        · exact .tail _ (.tail _ (.tail _ (.tail _ (List.mem_append_left _ hp))))
        · rcases List.mem_cons.mp hp with rfl | hp
          · exact .head _
          · exact .tail _ (.tail _ (.tail _ (.tail _ (List.mem_append_right _ hp))))
      · intro p hp
        rcases List.mem_cons.mp hp with rfl | hp
        · exact lt _ (.head _)
        · exact ho p hp
      · rw [take_snoc (pieces_at _ _ _ _ _ ha hb)]
        exact (hL.mono fun p hp => .tail _ hp).snoc (.head _) I'
    case zf =>
      rintro D13 h13 tk13 ys13 _ ⟨own, rfl, ho, hL⟩ F13 N13 hD13
      have hmin : min w7.length w9.length = (pieces (10 :: r) rs).length := by
        rw [I7.length, I9.length, pieces_length]; simp
      rw [hmin, List.take_length, hpc] at hL
      have N14 := newsSub N13 (l' := (D13, lst ys13) :: (D5, listOf w5.toArray 0) :: (_, _) :: (_, o6) :: own) (sub_cons (.head _) (sub_cons (.tail _ (List.mem_append_right _ (.tail _ (.tail _ (.head _))))) (sub_cons (.tail _ (List.mem_append_right _ (.tail _ (.tail _ (.tail _ (.head _)))))) (sub_cons (.tail _ (List.mem_append_right _ (.tail _ (.tail _ (.tail _ (.tail _ (.head _))))))) (fun p hp => .tail _ (List.mem_append_left _ hp))))))
      have hD9 : D9 < h9.objs.size := Heap.lt_size (N10 _ (.head _)).1
      clear N13 F10 N10
      dsimp only
      tb_start
      have hs256 : ∀ x ∈ 10 :: r, x < 256 := by
        intro x hx
        rcases List.mem_cons.mp hx with rfl | hx
        · omega
        · exact (hrb x hx).2
      have hwl : ∀ u ∈ words (10 :: r), u.length ≤ 15 ∧ ∀ x ∈ u, x < 256 := by
        intro u hu
        rw [← hpc] at hu
        obtain ⟨h1, h2⟩ := pieces_in _ _ u hu
        exact ⟨by omega, fun x hx => hs256 x (h2 x hx)⟩
      k_dflt (refine' bytes_ok F13 N14 rfl (.tail _ (.head _)) I5 (by omega) hs256 ?_)
      intro b15 t15 h15 k15 hb15 F15 N15
      clear F13 N14
      dsimp only
      tb_start
      rename_i h16 F16 N16
      k_dflt (refine' Assign_ListComp_U (cl := []) F16 ?aa ?ab ?ac ?ad ?ae ?af ?ag ?ah ?ai ?_)
      case aa => rfl
      case ab => with_unfolding_all rfl
      case ac => rfl
      case ad => decide
      case ae => rfl
      case af => decide
      case ag => rfl
      case ah => rfl
      case ai => rfl
      tb_start
      have hysl : ys13.length ≤ 16 := by
        rw [hL.length, ← hpc, pieces_length]; omega
      k_dflt (refine CompSrc.ledger (by rfl) F16 N16 (.head _) (by rw [List.size_toArray, sizeLine_eq]; omega) ?_)
      intro g17
      refine rest_all (fun i ys nw => nw = _ ∧ BytesAre ys ((words (10 :: r)).take i)) ?turn ?fin ⟨rfl, .nil⟩
      case turn =>
        rintro i ys _ v I oI C oC D m₂ h tk E' hi ⟨rfl, hys⟩ hP hC hx F17 N17 off ne
        obtain ⟨wa, wk', wv, wl, rfl, wm, wi, wt⟩ := hL.at i v (by simpa using hP)
        clear F16 N16
        tb_start
        obtain ⟨u1, u2⟩ := hwl wl (List.mem_of_getElem? wt)
        k_dflt (refine' bytes_ok F17 N17 rfl ?bm wi (by omega) u2 ?_)
        case bm => exact .tail _ (.tail _ (.tail _ (.tail _ (.tail _ (.tail _ (.tail _ wm))))))
        intro b18 t18 h18 k18 hb18 F18 N18
        refine ⟨h18, k18, _, rfl, F18, N18, off, .inr ⟨_, .head _, rfl, _, rfl⟩, rfl, ?_⟩
        rw [take_snoc wt]
        exact hys.snoc hb18
      case fin =>
        rintro av _ ⟨rfl, hav⟩
        intro D18 h18 tk18 F18 N18 off18
        rw [List.size_toArray, hL.length, List.take_length] at hav
        clear F16 N16
        dsimp only
        tb_start
        have hT13 : D13 ≠ s1.heap.objs.size + 1 + 1 := Nat.ne_of_gt (hD13 ▸ Nat.lt_of_lt_of_le (Nat.lt_trans hy2 hD9) (Nat.le_add_right _ _))
        have hTown : ∀ p ∈ own, p.1 ≠ s1.heap.objs.size + 1 + 1 := fun p hp => Nat.ne_of_gt (Nat.lt_trans (Nat.lt_trans hy2 hD9) (Nat.lt_of_le_of_lt (Nat.le_add_right _ _) (ho p hp)))
        have hT18 : D18 ≠ s1.heap.objs.size + 1 + 1 := Ne.symm off18.2.2.1
        k_dflt (refine' For_turns F18 ?_)
        tb_start
        rename_i Fo No h19 tk19 t19 u19 v19 R19 F19 N19 K19
        have N20 := newsSub N19 (l' := (s1.heap.objs.size + 1 + 1, _) :: (D18, lst av) :: (D13, lst ys13) :: own) (sub_cons (.tail _ (.tail _ (.tail _ (.head _)))) (sub_cons (.head _) (sub_cons (.tail _ (.head _)) (fun p hp => .tail _ (.tail _ (.tail _ (.tail _ (.tail _ hp))))))))
        clear N19 K19 Fo No
        have e0 : (words (10 :: r)).map (told 0) = words (10 :: r) := by rw [show told 0 = id from funext told_zero, List.map_id]
        dsimp only at R19
        refine range_turns (fun i m nw => ∃ (b : Array UInt8) (tb : Tok) (al : Addr) (av : List Value) (oT : Obj) (vT : Option Value), nw = (s1.heap.objs.size + 1 + 1, oT) :: (al, lst av) :: (D13, lst ys13) :: own ∧ oT.data = .cell vT ∧ KBw.bInts b = zi (told i (10 :: r)) ∧ BytesAre av ((words (10 :: r)).map (told i)) ∧ (∀ p ∈ [(Str.ofString "sent", Value.bytes b tb), (Str.ofString "alone", Value.ref al), (Str.ofString "words", Value.ref D13)], m p.1 = some p.2) ∧ al ≠ s1.heap.objs.size + 1 + 1) (n := 3) ?hh R19 ?sm ?rz F19 N20 ?j0 ?st ?dn
        case hh => rfl
        case sm => decide
        case rz => decide
        case j0 => exact ⟨b15, t15, D18, av, _, _, rfl, c0, by rw [told_zero]; exact hb15, by rw [e0]; exact hav, by kst_all, hT18⟩
        case st =>
          clear F19 N20 R19
          rintro i t m₁ _ h₁ tk₁ ow hi ⟨b, tb, al, av, oT, vT, rfl, hT, hb, hav, hm, hal⟩ hnI hown ⟨oI, hoI⟩ F1 N1
          obtain ⟨u, F2⟩ : ∃ u, Fr _ _ _ (kstB u [(Str.ofString "sent", Value.bytes b tb), (Str.ofString "alone", Value.ref al), (Str.ofString "words", Value.ref D13)]) := ⟨_, mfr hm F1⟩
          obtain ⟨R, hRo, hRw, hRne, N2⟩ : ∃ R : List (Addr × Obj), (∀ p ∈ ow, p ∈ R) ∧ (∀ p ∈ own, p ∈ R) ∧ (∀ p ∈ R, p.1 ≠ s1.heap.objs.size + 1 + 1) ∧ News _ _ _ ((s1.heap.objs.size + 1 + 1, oT) :: (al, lst av) :: (D13, lst ys13) :: R) := by
            refine ⟨ow ++ own, fun p hp => List.mem_append_left _ hp, fun p hp => List.mem_append_right _ hp, fun p hp => ?_, newsSub N1 (sub_cons (List.mem_append_right _ (.head _)) (sub_cons (List.mem_append_right _ (.tail _ (.head _))) (sub_cons (List.mem_append_right _ (.tail _ (.tail _ (.head _)))) fun p hp => ?_)))⟩
            · rcases List.mem_append.mp hp with hp | hp
              · intro e
                exact hnI _ (.head _) (e.symm.trans (hown p hp))
              · exact hTown p hp
            · rcases List.mem_append.mp hp with hp | hp
              · exact List.mem_append_left _ hp
              · exact List.mem_append_right _ (.tail _ (.tail _ (.tail _ hp)))
          clear F1 N1
          refine wpAny_assign_Name ?_
          k_dflt (refine' storeX_C F2 N2 ?st1 ?st2 hT ?_)
          case st1 => rfl
          case st2 =>
            refine .head fun p hp => ?_
            rcases List.mem_cons.mp hp with rfl | hp
            · exact hal
            · rcases List.mem_cons.mp hp with rfl | hp
              · exact hT13
              · exact hRne p hp
          intro h3 o3 F3 N3 c3
          clear F2 N2
          dsimp only
          tb_start
          k_dflt (refine' ListComp_U F3 ?b1 ?b2 ?b3 ?b4 ?b5 ?_)
          case b1 => with_unfolding_all rfl
          case b2 => decide
          case b3 => rfl
          case b4 => decide
          case b5 => rfl
          tb_start
          k_dflt (refine CompSrc.ledger (by rfl) F3 N3 (.tail _ (.tail _ (.head _))) (by rw [List.size_toArray, sizeLine_eq]; omega) ?_)
          intro g4
          refine rest_all (fun j ys nw => nw = _ ∧ BytesAre ys (((words (10 :: r)).map (told i)).take j)) ?turn ?fin ⟨rfl, .nil⟩
          case turn =>
            rintro j ys _ v I oI' C oC D m₂ h tk E' hj ⟨rfl, hys⟩ hP hC hx F5 N5 off ne
            obtain ⟨wa, wk', wv, wl, rfl, wm, wi, wt⟩ := hL.at j v (by simpa using hP)
            clear F3 N3
            tb_start
            obtain ⟨u1, u2⟩ := hwl wl (List.mem_of_getElem? wt)
            have N6 := newsSub N5 (sub_cons (.tail _ (.tail _ (.tail _ (.tail _ (.tail _ (.tail _ (hRw _ wm))))))) (fun p hp => hp))
            k_dflt (refine' told_ok K0 F5 KX N6 T0 ?ck ?cd ?cu wi (by omega) (by omega) u2 ?_)
            case ck => rfl
            case cd => ktr_room
            case cu => ktr_units
            intro b7 t7 h7 tk7 hb7 F7 N7
            refine ⟨h7, tk7, _, rfl, F7, newsSub N7 (fun p hp => .tail _ hp), off, .inr ⟨_, .tail _ (.tail _ (.head _)), rfl, _, rfl⟩, rfl, ?_⟩
            rw [take_snoc (v := told i wl) (by simp [wt])]
            exact hys.snoc hb7
          case fin =>
            rintro av2 _ ⟨rfl, hav2⟩
            intro D8 h8 tk8 F8 N8 off8
            rw [List.size_toArray, hL.length, List.take_of_length_le (by simp)] at hav2
            clear F3 N3
            dsimp only
            refine ne_bytesLists (N8 _ (.tail _ (.tail _ (.head _)))).1 (N8 _ (.head _)).1 hav hav2 (by ktr_units) ?_
            tb_start
            have htl : (told i (10 :: r)).length < 1000 := by
              have h1 := told_length i (10 :: r)
              have h2 : (i + 1) * (10 :: r).length ≤ 3 * 15 := Nat.mul_le_mul (by omega) hsl
              omega
            k_dflt (refine' walk_ok K0 F8 KX N8 T0 ?ck ?cd ?cu hb htl ?_)
            case ck => rfl
            case cd => ktr_room
            case cu => ktr_units
            intro x9 its9 n9 h9 tk9 hb9 F9 N9 lt9
            rw [words_told i r (fun x hx => (hrb x hx).1)] at hb9
            clear F8 N8
            dsimp only
            tb_start
            refine ne_bytesLists (N9 _ (.head _)).1 (N9 _ (.tail _ (.tail _ (.tail _ (.head _))))).1 hb9 hav (by ktr_units) ?_
            tb_start
            k_dflt (refine' quote_ok K0 F9 KX N9 T0 ?ck ?cd ?cu hb htl ?_)
            case ck => rfl
            case cd => ktr_room
            case cu => ktr_units
            intro b10 t10 h10 tk10 hb10 F10 N10
            rw [quote_told10] at hb10
            clear F9 N9
            dsimp only
            tb_start
            rename_i h11 F11 N11
            k_dflt (refine' Assign_ListComp_U (cl := []) F11 ?aa ?ab ?ac ?ad ?ae ?af ?ag ?ah ?ai ?_)
            case aa => rfl
            case ab => with_unfolding_all rfl
            case ac => rfl
            case ad => decide
            case ae => rfl
            case af => decide
            case ag => rfl
            case ah => rfl
            case ai => rfl
            tb_start
            have havl : av.length = ys13.length := by rw [hav.length, List.length_map, hL.length]
            k_dflt (refine CompSrc.ledger (by rfl) F11 N11 (.tail _ (.tail _ (.tail _ (.head _)))) (by rw [List.size_toArray, sizeLine_eq]; omega) ?_)
            intro g12
            refine rest_all (fun j ys nw => nw = _ ∧ BytesAre ys (((words (10 :: r)).map (told (i + 1))).take j)) ?turn ?fin ⟨rfl, .nil⟩
            case turn =>
              rintro j ys _ v I oI' C oC D m₂ h tk E' hj ⟨rfl, hys⟩ hP hC hx F12 N12 off ne
              obtain ⟨bw, tw, lw, rfl, hbw, hlw⟩ := hav.at' j v (by simpa using hP)
              rw [List.getElem?_map] at hlw
              obtain ⟨wl, wt, rfl⟩ := Option.map_eq_some_iff.mp hlw
              obtain ⟨u1, u2⟩ := hwl wl (List.mem_of_getElem? wt)
              obtain ⟨v', rfl⟩ := words_heads r (fun x hx => (hrb x hx).1) wl (List.mem_of_getElem? wt)
              have htw : (told i (10 :: v')).length ≤ 45 := by
                have h1 := told_length i (10 :: v')
                have h2 : (i + 1) * (10 :: v').length ≤ 3 * 15 := Nat.mul_le_mul (by omega) u1
                omega
              clear F11 N11
              obtain ⟨q, hq⟩ : ∃ q, q = told i (10 :: v') := ⟨_, rfl⟩
              rw [← hq] at hbw htw
              have hql : (zi q).length ≤ 45 := by simpa [zi] using htw
              tb_start
              rename_i hA tA kA FA NA k1 cE h14 t14 k14 F14 N14 k2
              clear FA NA
              have k1' : KBw.bInts (KBy.picked bw none (some 1)) = zi (q.take 1) := k1.trans (clip_take q)
              have k2' : KBw.bInts (KBy.picked bw (some 1) none) = zi (q.drop 1) := k2.trans (clip_drop q)
              have hqw : q.take 1 ++ quoteB true (q.drop 1) = told (i + 1) (10 :: v') := by rw [hq]; exact quote_word i v'
              k_dflt (refine' quote_ok K0 F14 KX N14 T0 ?ck ?cd ?cu k2' (by rw [List.length_drop]; omega) ?_)
              case ck => rfl
              case cd => ktr_room
              case cu => ktr_units
              intro b15 t15 h15 k15 hb15 F15 N15
              refine KBa.add_K k1' hb15 ?sz ?_
              case sz =>
                have h1 := told_length (i + 1) (10 :: v')
                have h2 : (i + 1 + 1) * (10 :: v').length ≤ 4 * 15 := Nat.mul_le_mul (by omega) u1
                have h3 := congrArg List.length hqw
                rw [List.length_append] at h3
                simp only [zi, List.length_map]
                omega
              intro t16 k16 hb16
              refine ⟨h15, k16, _, rfl, F15, N15, off, .inr ⟨_, .tail _ (.tail _ (.tail _ (.head _))), rfl, _, rfl⟩, rfl, ?_⟩
              rw [take_snoc (v := told (i + 1) (10 :: v')) (by simp [wt])]
              refine hys.snoc (hb16.trans ?_)
              rw [← hqw]
              simp [zi]
            case fin =>
              rintro av3 _ ⟨rfl, hav3⟩
              intro D13' h13' tk13' F14 N14 off14
              rw [List.size_toArray, havl, hL.length, List.take_of_length_le (by simp)] at hav3
              clear F11 N11
              dsimp only
              refine wpAny_execs_nil ?_
              refine ⟨rfl, h13', tk13', _, (s1.heap.objs.size + 1 + 1, o3) :: (D13', lst av3) :: (D13, lst ys13) :: own, rfl, F14, newsSub N14 ?_, ?_, b10, t10, D13', av3, o3, _, rfl, c3, hb10, hav3, by kst_all, Ne.symm off14.2.2.1⟩
              · intro p hp
                rcases List.mem_append.mp hp with hp | hp
                · exact .tail _ (.tail _ (.tail _ (.tail _ (.tail _ (.tail _ (hRo p hp))))))
                · exact sub_cons (.tail _ (.tail _ (.tail _ (.head _)))) (sub_cons (.head _) (sub_cons (.tail _ (.tail _ (.tail _ (.tail _ (.tail _ (.head _)))))) (fun p hp => .tail _ (.tail _ (.tail _ (.tail _ (.tail _ (.tail _ (hRw p hp))))))))) p hp
              · intro p hp
                have hin := off1_ne off14 _ (.tail _ (.tail _ (.tail _ (.tail _ (.tail _ (hRo _ hoI))))))
                intro hI
                have hI' := List.mem_singleton.mp hI
                rcases List.mem_cons.mp hp with rfl | hp
                · exact hnI _ (.head _) hI'
                · rcases List.mem_cons.mp hp with rfl | hp
                  · exact hin hI'.symm
                  · exact hnI p (.tail _ (.tail _ hp)) hI'
        case dn =>
          clear F19 N20 R19
          rintro h21 tk21 m21 _ F21 N21 -
          dsimp only
          tb_start)
end Mine

end

theorem PySem.Challenge.cw_pg0008_01_holds : PySem.Challenge.rw_pg0008_01.Holds :=
  Mine.law_walk
