import PyProof.Rows.All
import Wide.All
import OpenK.AllK
import Wide.FinOn
import PySem.Challenge.RW_sn0063_01
set_option Elab.async false
namespace Mine

def fb : Nat → Int
  | 0 => 0
  | 1 => 1
  | n + 2 => fb (n + 1) + fb n

theorem fb_rec (n : Nat) : fb (n + 2) = fb (n + 1) + fb n := rfl
theorem fb_nonneg : ∀ n, 0 ≤ fb n ∧ 0 ≤ fb (n + 1)
  | 0 => by decide
  | n + 1 => by have := fb_nonneg n; have : fb (n + 1 + 1) = fb (n + 1) + fb n := rfl; omega
theorem fb_mono1 (n : Nat) : fb (n + 1) ≤ fb (n + 2) := by have := fb_nonneg n; have := fb_rec n; omega
theorem fb_pos : ∀ n, 0 < fb (n + 1)
  | 0 => by decide
  | n + 1 => by have := fb_pos n; have := fb_nonneg n; have : fb (n + 1 + 1) = fb (n + 1) + fb n := rfl; omega
theorem fb_mono {a b : Nat} (h : a ≤ b) : fb (a + 1) ≤ fb (b + 1) := by
  induction b with
  | zero => obtain rfl : a = 0 := by omega
            exact Int.le_refl _
  | succ b ih =>
    by_cases e : a = b + 1
    · subst e; exact Int.le_refl _
    · exact Int.le_trans (ih (by omega)) (fb_mono1 b)
theorem fb_lt (n : Nat) : fb (n + 2) < fb (n + 3) := by have := fb_pos n; have : fb (n + 3) = fb (n + 2) + fb (n + 1) := rfl; omega
theorem fb39 : fb 39 = 63245986 := by decide +kernel
theorem fb40 : fb 40 = 102334155 := by decide +kernel
theorem fb41 : fb 41 = 165580141 := by decide +kernel
theorem fb42 : fb 42 = 267914296 := by decide +kernel

/-- the greedy places below k, the greatest first -/
def zk : Nat → Int → List Nat
  | 0, _ => []
  | k + 1, n => if fb (k + 2) ≤ n then k :: zk k (n - fb (k + 2)) else zk k n

def s0 : List Nat → Int
  | [] => 0
  | p :: r => fb (p + 2) + s0 r
def s1 : List Nat → Int
  | [] => 0
  | p :: r => fb p + s1 r

theorem zk_take {k : Nat} {n : Int} (h : fb (k + 2) ≤ n) : zk (k + 1) n = k :: zk k (n - fb (k + 2)) := by rw [zk, if_pos h]
theorem zk_skip {k : Nat} {n : Int} (h : n < fb (k + 2)) : zk (k + 1) n = zk k n := by rw [zk, if_neg (by omega)]
theorem zk_down {j : Nat} {n : Int} (h : n < fb (j + 2)) : ∀ {k : Nat}, j ≤ k → zk k n = zk j n := by
  intro k hk
  induction k with
  | zero => obtain rfl : j = 0 := by omega
            rfl
  | succ k ih =>
    by_cases e : j = k + 1
    · subst e; rfl
    · have : fb (j + 2) ≤ fb (k + 2) := fb_mono (a := j + 1) (b := k + 1) (by omega)
      rw [zk_skip (by omega)]
      exact ih (by omega)
theorem zk_lt : ∀ {k : Nat} {n : Int}, ∀ p ∈ zk k n, p < k
  | 0, _, p, h => nomatch h
  | k + 1, n, p, h => by
    unfold zk at h
    split at h
    · rcases List.mem_cons.mp h with rfl | h
      · omega
      · have := zk_lt p h; omega
    · have := zk_lt p h; omega
theorem zk_sum : ∀ {k : Nat} {n : Int}, 0 ≤ n → n < fb (k + 2) → s0 (zk k n) = n
  | 0, n, h0, h => by have : fb (0 + 2) = 1 := by decide
                      obtain rfl : n = 0 := by omega
                      rfl
  | k + 1, n, h0, h => by
    by_cases e : fb (k + 2) ≤ n
    · rw [zk_take e, s0, zk_sum (by omega) (by have : fb (k + 1 + 2) = fb (k + 2) + fb (k + 1) := rfl; have := fb_mono1 k; omega)]; omega
    · rw [zk_skip (by omega)]; exact zk_sum h0 (by omega)

/-- places that fall by two at least, all below k -/
def Apart : Nat → List Nat → Prop
  | _, [] => True
  | k, p :: r => p < k ∧ Apart (p - 1) r
theorem apart_up {j k : Nat} (h : j ≤ k) : ∀ {l : List Nat}, Apart j l → Apart k l
  | [], _ => trivial
  | _ :: _, ⟨a, b⟩ => ⟨by omega, b⟩
theorem zk_apart : ∀ {k : Nat} {n : Int}, 0 ≤ n → n < fb (k + 2) → Apart k (zk k n)
  | 0, _, _, _ => trivial
  | k + 1, n, h0, h => by
    by_cases e : fb (k + 2) ≤ n
    · rw [zk_take e]
      refine ⟨by omega, ?_⟩
      have h1 : fb (k + 1 + 2) = fb (k + 2) + fb (k + 1) := rfl
      have h3 : n - fb (k + 2) < fb (k + 1) := by omega
      cases k with
      | zero => exact zk_apart (k := 0) (by omega) (by have : fb (0 + 1) = 1 := rfl
                                                       have : fb (0 + 2) = 1 := by decide
                                                       omega)
      | succ k => rw [zk_skip h3]; exact zk_apart (k := k) (by omega) h3
    · rw [zk_skip (by omega)]; exact apart_up (by omega) (zk_apart h0 (by omega))

/-- a place's share of n * F(39) less n' * F(41) -/
def tz (p : Nat) : Int := fb (p + 2) * 63245986 - fb p * 165580141
def dz (l : List Nat) : Int := s0 l * 63245986 - s1 l * 165580141
theorem dz_nil : dz [] = 0 := rfl
theorem dz_cons (p : Nat) (r : List Nat) : dz (p :: r) = tz p + dz r := by
  unfold dz tz; rw [s0, s1, Int.add_mul, Int.add_mul]; omega
def hiZ : Nat → Int
  | 0 => 0
  | 1 => max 0 (tz 0)
  | k + 2 => max (hiZ (k + 1)) (tz (k + 1) + hiZ k)
def loZ : Nat → Int
  | 0 => 0
  | 1 => min 0 (tz 0)
  | k + 2 => min (loZ (k + 1)) (tz (k + 1) + loZ k)
theorem dz_bounds : ∀ {k : Nat} {l : List Nat}, Apart k l → loZ k ≤ dz l ∧ dz l ≤ hiZ k
  | 0, [], _ => by decide
  | 1, [], _ => by decide
  | k + 2, [], _ => by
    have := dz_bounds (k := k + 1) (l := []) trivial
    simp only [loZ, hiZ]; omega
  | 0, p :: r, h => absurd h.1 (by omega)
  | 1, p :: r, h => by
    obtain ⟨h1, h2⟩ := h
    obtain rfl : p = 0 := by omega
    have : r = [] := by
      cases r with
      | nil => rfl
      | cons q r => exact absurd h2.1 (by omega)
    subst this
    rw [dz_cons, dz_nil]; simp only [loZ, hiZ]; omega
  | k + 2, p :: r, h => by
    obtain ⟨h1, h2⟩ := h
    by_cases e : p = k + 1
    · subst e
      have := dz_bounds (k := k) (l := r) h2
      rw [dz_cons]; simp only [loZ, hiZ]; omega
    · have := dz_bounds (k := k + 1) (l := p :: r) ⟨by omega, h2⟩
      simp only [loZ, hiZ]; omega

theorem zk38 {n : Int} (h : n < 102334155) : zk 40 n = zk 38 n := by
  rw [← fb40] at h; exact zk_down (j := 38) h (by omega)

/-- a number's part, as the program reckons it -/
def part (n : Int) : Int := Int.fdiv ((n + 1) * 63245986) 165580141
theorem fdiv_is {a b q : Int} (hb : 0 < b) (h1 : q * b ≤ a) (h2 : a < q * b + b) : Int.fdiv a b = q := by
  rw [Int.fdiv_eq_ediv_of_nonneg _ (by omega)]
  exact ((Int.ediv_emod_unique (r := a - q * b) hb).mpr ⟨by rw [Int.mul_comm b q]; omega, by omega, by omega⟩).1
theorem part_is {n m : Int} (h1 : -63245986 ≤ n * 63245986 - m * 165580141) (h2 : n * 63245986 - m * 165580141 < 102334155) : part n = m := by
  unfold part
  refine fdiv_is (by omega) ?_ ?_ <;> omega
theorem part_zk {n : Int} (h0 : 0 ≤ n) (h : n < 102334155) : part n = s1 (zk 40 n) := by
  rw [zk38 h]
  have h' : n < fb (38 + 2) := by rw [fb40]; exact h
  have hs := zk_sum h0 h'
  have hb := dz_bounds (zk_apart h0 h')
  have e1 : hiZ 38 < 102334155 := by decide +kernel
  have e2 : -63245986 ≤ loZ 38 := by decide +kernel
  unfold dz at hb
  rw [hs] at hb
  exact part_is (by omega) (by omega)
theorem part_q {n : Int} (h0 : 0 ≤ n) (h : n < 102334155) : -63245986 ≤ n * 63245986 - part n * 165580141 ∧ n * 63245986 - part n * 165580141 < 102334155 := by
  rw [part_zk h0 h, zk38 h]
  have h' : n < fb (38 + 2) := by rw [fb40]; exact h
  have hs := zk_sum h0 h'
  have hb := dz_bounds (zk_apart h0 h')
  have e1 : hiZ 38 < 102334155 := by decide +kernel
  have e2 : -63245986 ≤ loZ 38 := by decide +kernel
  unfold dz at hb
  rw [hs] at hb
  omega

theorem zk_zero : ∀ k, zk k 0 = []
  | 0 => rfl
  | k + 1 => by rw [zk_skip (fb_pos (k + 1))]; exact zk_zero k
theorem made_absurd {left e : Int} (h : left ≠ 0) (h0 : 0 ≤ left) (hl : left < fb (e.toNat + 2)) (he : 0 ≤ e) (hn : ¬ 0 < e) : False := by
  obtain rfl : e = 0 := by omega
  have : fb ((0 : Int).toNat + 2) = 1 := by decide
  omega
theorem made_done {n left e : Int} {pl : List Int} (hz : pl ++ (zk e.toNat left).map Int.ofNat = (zk 40 n).map Int.ofNat) (h : left = 0) : pl = (zk 40 n).map Int.ofNat := by
  rw [h, zk_zero] at hz
  simpa using hz
theorem apart_get : ∀ {k : Nat} {l : List Nat}, Apart k l → ∀ j p q, l[j]? = some p → l[j + 1]? = some q → q + 2 ≤ p
  | _, a :: b :: r, ⟨_, h2, h3⟩, 0, p, q, e1, e2 => by
    simp at e1 e2
    omega
  | _, a :: r, ⟨_, h2⟩, j + 1, p, q, e1, e2 => apart_get h2 j p q (by simpa using e1) (by simpa using e2)
theorem apart_bd : ∀ {k : Nat} {l : List Nat}, Apart k l → ∀ p ∈ l, p < k
  | _, a :: r, ⟨h1, h2⟩, p, hp => by
    rcases List.mem_cons.mp hp with rfl | hp
    · exact h1
    · have := apart_bd h2 p hp; omega
theorem zk40_apart {n : Int} (h0 : 1 ≤ n) (h1 : n < 102334155) : Apart 40 (zk 40 n) := by
  refine zk_apart (by omega) ?_
  have : fb (40 + 2) = 267914296 := by decide +kernel
  omega
theorem zk40_ne {n : Int} (h0 : 1 ≤ n) (h1 : n < 102334155) : zk 40 n ≠ [] := by
  intro e
  have := zk_sum (k := 40) (n := n) (by omega) (by have : fb (40 + 2) = 267914296 := by decide +kernel
                                                   omega)
  rw [e] at this
  have h2 : s0 [] = 0 := rfl
  omega
theorem map_at {l : List Nat} {j : Nat} {q : Int} (h : (l.map Int.ofNat)[j]? = some q) : ∃ p : Nat, q = (p : Int) ∧ l[j]? = some p := by
  rw [List.getElem?_map] at h
  cases e : l[j]? with
  | none => rw [e] at h; cases h
  | some p => rw [e] at h; exact ⟨p, (Option.some.inj h).symm, rfl⟩
theorem bis_pos {r e left : Int} (e3 : r = 0 ∨ fb (r.toNat + 1) ≤ left) (e4 : r = e ∨ left < fb (r.toNat + 2)) (e0 : 0 ≤ r) (h : 0 < e) (hl : 1 ≤ left) : 1 ≤ r := by
  rcases Int.lt_or_le r 1 with hr | hr
  · obtain rfl : r = 0 := by omega
    rcases e4 with e4 | e4
    · omega
    · have : fb ((0 : Int).toNat + 2) = 1 := by decide
      omega
  · exact hr
theorem made_start {n k : Int} (hk : k = 40) (h0 : 1 ≤ n) (h1 : n < 102334155) :
    0 ≤ n ∧ n < fb (k.toNat + 2) ∧ 0 ≤ k ∧ k ≤ 40 ∧ ((([] : List Int).length : Nat) : Int) + k ≤ 40 ∧ [] ++ (zk k.toNat n).map Int.ofNat = (zk 40 n).map Int.ofNat := by
  subst hk
  have : fb ((40 : Int).toNat + 2) = 267914296 := by decide +kernel
  exact ⟨by omega, by omega, by omega, by omega, by decide, rfl⟩
theorem made_turn {n left e r : Int} {pl : List Int} (e4 : r = e ∨ left < fb (r.toNat + 2)) (e3 : r = 0 ∨ fb (r.toNat + 1) ≤ left) (h1 : 1 ≤ r) (hre : r ≤ e) (he : e ≤ 40) (hlt : left < fb (e.toNat + 2)) (hl : (pl.length : Int) + e ≤ 40)
    (hz : pl ++ (zk e.toNat left).map Int.ofNat = (zk 40 n).map Int.ofNat) :
    0 ≤ left - fb ((r - 1).toNat + 2) ∧ left - fb ((r - 1).toNat + 2) < fb ((r - 1).toNat + 2) ∧ 0 ≤ r - 1 ∧ r - 1 ≤ 40 ∧ ((pl ++ [r - 1]).length : Int) + (r - 1) ≤ 40 ∧
      pl ++ [r - 1] ++ (zk (r - 1).toNat (left - fb ((r - 1).toNat + 2))).map Int.ofNat = (zk 40 n).map Int.ofNat := by
  obtain ⟨q, rfl⟩ : ∃ q : Nat, r = (q : Int) + 1 := ⟨(r - 1).toNat, by omega⟩
  have a1 : ((q : Int) + 1 - 1).toNat = q := by omega
  have a2 : ((q : Int) + 1).toNat = q + 1 := by omega
  have a3 : (q : Int) + 1 - 1 = (q : Int) := by omega
  rw [a2] at e3 e4
  rw [a1, a3]
  have h3 : fb (q + 2) ≤ left := by
    rcases e3 with e3 | e3
    · omega
    · exact e3
  have h4 : left < fb (q + 1 + 2) := by
    rcases e4 with e4 | e4
    · have : e.toNat = q + 1 := by omega
      rw [← this]; exact hlt
    · exact e4
  have h5 : fb (q + 1 + 2) = fb (q + 2) + fb (q + 1) := rfl
  have h6 := fb_mono1 q
  refine ⟨by omega, by omega, by omega, by omega, by rw [List.length_append, List.length_singleton]; omega, ?_⟩
  rw [← hz, zk_down (j := q + 1) h4 (by omega), zk_take h3, List.append_assoc]
  rfl
end Mine
namespace Mine
theorem fb_add : ∀ p q : Nat, fb (p + q + 4) = 3 * fb (p + 2) * fb (q + 2) - fb (p + 2) * fb q - fb p * fb (q + 2)
  | 0, q => by
    have e1 : fb (0 + q + 4) = fb (q + 3) + fb (q + 2) := by rw [show 0 + q + 4 = (q + 2) + 2 by omega]; rfl
    have e2 : fb (q + 3) = fb (q + 2) + fb (q + 1) := rfl
    have e3 := fb_rec q
    have e4 : fb (0 + 2) = 1 := by decide
    have e5 : fb 0 = 0 := rfl
    rw [e4, e5, e1]; omega
  | 1, q => by
    have e0 : fb (1 + q + 4) = fb (q + 4) + fb (q + 3) := by rw [show 1 + q + 4 = (q + 3) + 2 by omega]; rfl
    have e1 : fb (q + 4) = fb (q + 3) + fb (q + 2) := rfl
    have e2 : fb (q + 3) = fb (q + 2) + fb (q + 1) := rfl
    have e3 := fb_rec q
    have e4 : fb (1 + 2) = 2 := by decide
    have e5 : fb 1 = 1 := rfl
    rw [e4, e5, e0]; omega
  | p + 2, q => by
    have h1 := fb_add p q
    have h2 := fb_add (p + 1) q
    have e0 : fb (p + 2 + q + 4) = fb (p + 1 + q + 4) + fb (p + q + 4) := by
      rw [show p + 2 + q + 4 = (p + q + 4) + 2 by omega, show p + 1 + q + 4 = (p + q + 4) + 1 by omega]; rfl
    have e1 : fb (p + 2 + 2) = fb (p + 1 + 2) + fb (p + 2) := rfl
    have e2 : fb (p + 2) = fb (p + 1) + fb p := rfl
    rw [e0, h1, h2, e1]
    generalize fb (p + 1 + 2) = x at *
    generalize fb (p + 2) = y at *
    generalize fb (p + 1) = z at *
    generalize fb p = t at *
    generalize fb (q + 2) = u at *
    generalize fb q = v at *
    subst e2
    grind

/-- the product, place by place -/
def inn (p : Nat) : List Nat → Int
  | [] => 0
  | q :: r => fb (p + q + 4) + inn p r
def conv : List Nat → List Nat → Int
  | [], _ => 0
  | p :: r, l => inn p l + conv r l
theorem inn_is (p : Nat) : ∀ l, inn p l = 3 * fb (p + 2) * s0 l - fb (p + 2) * s1 l - fb p * s0 l
  | [] => by simp [inn, s0, s1]
  | q :: r => by rw [inn, inn_is p r, fb_add, s0, s1]; grind
theorem conv_is : ∀ k l, conv k l = 3 * s0 k * s0 l - s0 k * s1 l - s1 k * s0 l
  | [], l => by simp [conv, s0, s1]
  | p :: r, l => by rw [conv, conv_is r l, inn_is, s0, s1]; grind
theorem inn_snoc (p q : Nat) : ∀ l, inn p (l ++ [q]) = inn p l + fb (p + q + 4)
  | [] => by simp [inn]
  | a :: r => by rw [List.cons_append, inn, inn_snoc p q r, inn]; omega
theorem conv_snoc (p : Nat) (l : List Nat) : ∀ k, conv (k ++ [p]) l = conv k l + inn p l
  | [] => by simp [conv]
  | a :: r => by rw [List.cons_append, conv, conv_snoc p l r, conv]; omega

/-- the Fibonacci product of two numbers, by their parts -/
def circ (a b : Int) : Int := 3 * a * b - a * part b - part a * b
theorem s0_zk {n : Int} (h0 : 1 ≤ n) (h1 : n < 102334155) : s0 (zk 40 n) = n := by
  refine zk_sum (by omega) ?_
  have : fb (40 + 2) = 267914296 := by decide +kernel
  omega
theorem conv_zk {a b : Int} (ha : 1 ≤ a) (ha' : a < 102334155) (hb : 1 ≤ b) (hb' : b < 102334155) : conv (zk 40 a) (zk 40 b) = circ a b := by
  rw [conv_is, s0_zk ha ha', s0_zk hb hb', ← part_zk (by omega) ha', ← part_zk (by omega) hb']; rfl

theorem sq_bound {x y : Int} (hx : -102334155 ≤ x) (hx' : x ≤ 102334155) (hy : -102334155 ≤ y) (hy' : y ≤ 102334155) : -(102334155 * 102334155) ≤ x * y ∧ x * y ≤ 102334155 * 102334155 := by
  have h1 := Int.mul_nonneg (show 0 ≤ 102334155 - x by omega) (show 0 ≤ 102334155 + y by omega)
  have h2 := Int.mul_nonneg (show 0 ≤ 102334155 + x by omega) (show 0 ≤ 102334155 - y by omega)
  have h3 := Int.mul_nonneg (show 0 ≤ 102334155 - x by omega) (show 0 ≤ 102334155 - y by omega)
  have h4 := Int.mul_nonneg (show 0 ≤ 102334155 + x by omega) (show 0 ≤ 102334155 + y by omega)
  constructor <;> grind
theorem q_mul (a b a' b' : Int) : (a * 63245986 - a' * 165580141) * (b * 63245986 - b' * 165580141) = ((3 * a * b - a * b' - a' * b) * 63245986 - (a * b - a' * b') * 165580141) * 165580141 - a * b := by grind
/-- the product's part -/
theorem part_circ {a b : Int} (ha : 1 ≤ a) (ha' : a < 102334155) (hb : 1 ≤ b) (hb' : b < 102334155) (hab : a * b ≤ 43400000) : part (circ a b) = a * b - part a * part b := by
  have qa := part_q (show 0 ≤ a by omega) ha'
  have qb := part_q (show 0 ≤ b by omega) hb'
  have h := q_mul a b (part a) (part b)
  have hs := sq_bound (x := a * 63245986 - part a * 165580141) (y := b * 63245986 - part b * 165580141) (by omega) (by omega) (by omega) (by omega)
  have h0 : 0 ≤ a * b := Int.mul_nonneg (by omega) (by omega)
  rw [h] at hs
  unfold circ
  refine part_is ?_ ?_ <;> omega
theorem circ_q (a b : Int) : circ a b * 165580141 = a * b * 370248451 + a * (b * 63245986 - part b * 165580141) + b * (a * 63245986 - part a * 165580141) := by
  unfold circ; grind
theorem circ_bd {a b A B P : Int} (ha : 1 ≤ a) (ha' : a < 102334155) (hb : 1 ≤ b) (hb' : b < 102334155) (hA : a ≤ A) (hB : b ≤ B) (hP : a * b ≤ P) :
    1 ≤ circ a b ∧ circ a b * 165580141 ≤ P * 370248451 + (A + B) * 102334155 := by
  have qa := part_q (show 0 ≤ a by omega) ha'
  have qb := part_q (show 0 ≤ b by omega) hb'
  have h := circ_q a b
  have h1 : a * (b * 63245986 - part b * 165580141) ≤ a * 102334155 := Int.mul_le_mul_of_nonneg_left (by omega) (by omega)
  have h2 : b * (a * 63245986 - part a * 165580141) ≤ b * 102334155 := Int.mul_le_mul_of_nonneg_left (by omega) (by omega)
  have h3 : a * (-63245986) ≤ a * (b * 63245986 - part b * 165580141) := Int.mul_le_mul_of_nonneg_left (by omega) (by omega)
  have h4 : b * (-63245986) ≤ b * (a * 63245986 - part a * 165580141) := Int.mul_le_mul_of_nonneg_left (by omega) (by omega)
  have h5 : a * 1 ≤ a * b := Int.mul_le_mul_of_nonneg_left hb (by omega)
  have h6 : b * 1 ≤ b * a := Int.mul_le_mul_of_nonneg_left ha (by omega)
  rw [Int.mul_comm b a] at h6
  constructor <;> omega

/-- what a product asks of its two numbers -/
def Fit (a b : Int) : Prop := 1 ≤ a ∧ a < 102334155 ∧ 1 ≤ b ∧ b < 102334155 ∧ a * b ≤ 43400000 ∧ 1 ≤ circ a b ∧ circ a b < 102334155
theorem mul_bd {a b A B : Int} (ha : 1 ≤ a) (hA : a ≤ A) (hb : 1 ≤ b) (hB : b ≤ B) : a * b ≤ A * B := Int.mul_le_mul hA hB (by omega) (by omega)
theorem fit1 {a b : Int} (ha : 1 ≤ a) (hA : a ≤ 54) (hb : 1 ≤ b) (hB : b ≤ 54) : Fit a b ∧ circ a b ≤ 6587 := by
  have h := mul_bd ha hA hb hB
  have h2 := circ_bd ha (by omega) hb (by omega) hA hB h
  refine ⟨⟨ha, by omega, hb, by omega, by omega, h2.1, ?_⟩, ?_⟩ <;> omega
theorem fit2 {a b : Int} (ha : 1 ≤ a) (hA : a ≤ 54) (hb : 1 ≤ b) (hB : b ≤ 6587) : Fit a b ∧ circ a b ≤ 799470 := by
  have h := mul_bd ha hA hb hB
  have h2 := circ_bd ha (by omega) hb (by omega) hA hB h
  refine ⟨⟨ha, by omega, hb, by omega, by omega, h2.1, ?_⟩, ?_⟩ <;> omega
theorem fit2' {a b : Int} (ha : 1 ≤ a) (hA : a ≤ 6587) (hb : 1 ≤ b) (hB : b ≤ 54) : Fit a b ∧ circ a b ≤ 799470 := by
  have h := mul_bd ha hA hb hB
  have h2 := circ_bd ha (by omega) hb (by omega) hA hB h
  refine ⟨⟨ha, by omega, hb, by omega, by omega, h2.1, ?_⟩, ?_⟩ <;> omega
theorem fit3 {a b : Int} (ha : 1 ≤ a) (hA : a ≤ 54) (hb : 1 ≤ b) (hB : b ≤ 799470) : Fit a b := by
  have h := mul_bd ha hA hb hB
  have h2 := circ_bd ha (by omega) hb (by omega) hA hB h
  refine ⟨ha, by omega, hb, by omega, by omega, h2.1, ?_⟩; omega
theorem fit3' {a b : Int} (ha : 1 ≤ a) (hA : a ≤ 799470) (hb : 1 ≤ b) (hB : b ≤ 54) : Fit a b := by
  have h := mul_bd ha hA hb hB
  have h2 := circ_bd ha (by omega) hb (by omega) hA hB h
  refine ⟨ha, by omega, hb, by omega, by omega, h2.1, ?_⟩; omega
theorem fit22 {a b : Int} (ha : 1 ≤ a) (hA : a ≤ 6587) (hb : 1 ≤ b) (hB : b ≤ 6587) : Fit a b := by
  have h := mul_bd ha hA hb hB
  have h2 := circ_bd ha (by omega) hb (by omega) hA hB h
  refine ⟨ha, by omega, hb, by omega, by omega, h2.1, ?_⟩; omega

/-- a pair of a number and its part; the product of pairs -/
def pm (x y : Int × Int) : Int × Int := (3 * x.1 * y.1 - x.1 * y.2 - x.2 * y.1, x.1 * y.1 - x.2 * y.2)
theorem pm_assoc (x y z : Int × Int) : pm (pm x y) z = pm x (pm y z) := by
  unfold pm
  simp only [Prod.mk.injEq]
  constructor <;> grind
def pr (a : Int) : Int × Int := (a, part a)
theorem pr_circ {a b : Int} (h : Fit a b) : pr (circ a b) = pm (pr a) (pr b) := by
  obtain ⟨h1, h2, h3, h4, h5, _⟩ := h
  unfold pr pm
  rw [part_circ h1 h2 h3 h4 h5]; rfl

/-- the sum over all choices of a place of each number, as the law reckons it -/
def grow (sums : List Int) (l : List Nat) : List Int := sums.flatMap fun s => l.map fun (p : Nat) => s + p + 2
/-- F(e) and F(e - 2) of a place s with e = s + 2, s being -2 or more -/
def pv (s : Int) : Int × Int := (fb (s + 2).toNat, 2 * fb (s + 2).toNat - fb ((s + 2).toNat + 1))
def psum : List Int → Int × Int
  | [] => (0, 0)
  | s :: r => ((pv s).1 + (psum r).1, (pv s).2 + (psum r).2)
theorem psum_append : ∀ l k, psum (l ++ k) = ((psum l).1 + (psum k).1, (psum l).2 + (psum k).2)
  | [], k => by simp [psum]
  | s :: r, k => by rw [List.cons_append, psum, psum_append r k, psum]; simp only [Prod.mk.injEq]; constructor <;> omega
theorem pv_place (p : Nat) : pv p = (fb (p + 2), fb p) := by
  unfold pv
  have e : ((p : Int) + 2).toNat = p + 2 := by omega
  rw [e]
  have e1 : fb (p + 2 + 1) = fb (p + 2) + fb (p + 1) := rfl
  have e2 := fb_rec p
  simp only [Prod.mk.injEq]
  exact ⟨trivial, by omega⟩
theorem fb_sum (e : Nat) : ∀ k : Nat, fb (e + k + 1) = fb (e + 1) * fb (k + 1) + fb e * fb k
  | 0 => by
    have e1 : fb (0 + 1) = 1 := rfl
    have e2 : fb 0 = 0 := rfl
    rw [e1, e2]; simp
  | 1 => by
    have e1 : fb (1 + 1) = 1 := by decide
    have e2 : fb 1 = 1 := rfl
    have e3 : fb (e + 1 + 1) = fb (e + 1) + fb e := rfl
    rw [e1, e2, e3]; omega
  | k + 2 => by
    have h1 := fb_sum e k
    have h2 := fb_sum e (k + 1)
    have e0 : fb (e + (k + 2) + 1) = fb (e + (k + 1) + 1) + fb (e + k + 1) := rfl
    have e1 : fb (k + 2 + 1) = fb (k + 1 + 1) + fb (k + 1) := rfl
    have e2 : fb (k + 2) = fb (k + 1) + fb k := rfl
    have e3 : fb (k + 1 + 1) = fb (k + 1) + fb k := rfl
    rw [e0, h1, h2, e1, e2]; (try rw [e3]); grind
theorem pv_add {s : Int} (hs : -2 ≤ s) (p : Nat) : pv (s + p + 2) = pm (pv s) (pv p) := by
  rw [pv_place]
  obtain ⟨e, rfl⟩ : ∃ e : Nat, s = (e : Int) - 2 := ⟨(s + 2).toNat, by omega⟩
  unfold pv pm
  have e1 : ((e : Int) - 2 + p + 2 + 2).toNat = e + (p + 1) + 1 := by omega
  have e2 : ((e : Int) - 2 + 2).toNat = e := by omega
  have h1 := fb_sum e (p + 1)
  have h2 : fb (e + (p + 1) + 1 + 1) = fb (e + 1) * fb (p + 2 + 1) + fb e * fb (p + 2) := fb_sum e (p + 2)
  have e3 : fb (p + 2 + 1) = fb (p + 2) + fb (p + 1) := rfl
  have e4 : fb (p + 2) = fb (p + 1) + fb p := rfl
  have e5 : fb (p + 1 + 1) = fb (p + 1) + fb p := rfl
  rw [e1, e2, h2, h1, e3]
  (try rw [e5])
  (try rw [e4])
  simp only [Prod.mk.injEq]
  constructor <;> grind
theorem psum_row {s : Int} (hs : -2 ≤ s) : ∀ l : List Nat, psum (l.map fun (p : Nat) => s + p + 2) = pm (pv s) (s0 l, s1 l)
  | [] => by simp [psum, pm, s0, s1]
  | p :: r => by
    rw [List.map_cons, psum, psum_row hs r, pv_add hs, pv_place, s0, s1]
    unfold pm
    simp only [Prod.mk.injEq]
    constructor <;> grind
theorem psum_grow (l : List Nat) : ∀ sums : List Int, (∀ s ∈ sums, -2 ≤ s) → psum (grow sums l) = pm (psum sums) (s0 l, s1 l)
  | [], _ => by simp [grow, psum, pm]
  | s :: r, h => by
    have e : grow (s :: r) l = (l.map fun (p : Nat) => s + p + 2) ++ grow r l := by simp [grow]
    rw [e, psum_append, psum_row (h s (.head _)), psum_grow l r (fun x hx => h x (.tail _ hx)), psum]
    unfold pm
    simp only [Prod.mk.injEq]
    constructor <;> grind
theorem grow_lo {sums : List Int} {l : List Nat} (h : ∀ s ∈ sums, -2 ≤ s) : ∀ s ∈ grow sums l, 0 ≤ s := by
  intro s hs
  unfold grow at hs
  obtain ⟨x, hx, hs⟩ := List.mem_flatMap.mp hs
  obtain ⟨p, _, rfl⟩ := List.mem_map.mp hs
  have := h x hx; omega
theorem pm_one (x : Int × Int) : pm (psum [-2]) x = x := by
  have e : psum [-2] = (0, -1) := by decide
  rw [e]; unfold pm; simp
theorem pr_zk {n : Int} (h0 : 1 ≤ n) (h1 : n < 102334155) : (s0 (zk 40 n), s1 (zk 40 n)) = pr n := by
  rw [s0_zk h0 h1, ← part_zk (by omega) h1]; rfl
theorem psum_grow_zk {n : Int} (h0 : 1 ≤ n) (h1 : n < 102334155) {sums : List Int} (h : ∀ s ∈ sums, -2 ≤ s) : psum (grow sums (zk 40 n)) = pm (psum sums) (pr n) := by
  rw [psum_grow _ _ h, pr_zk h0 h1]
theorem psum_term : ∀ (l : List Int), (∀ s ∈ l, 0 ≤ s) → 0 ≤ (psum l).1 ∧ ∀ s ∈ l, fb (s + 2).toNat ≤ (psum l).1
  | [], _ => ⟨Int.le_refl _, fun _ h => nomatch h⟩
  | s :: r, h => by
    have ih := psum_term r fun x hx => h x (.tail _ hx)
    have hp : 0 ≤ fb (s + 2).toNat := by
      obtain ⟨k, hk⟩ : ∃ k, (s + 2).toNat = k + 1 := ⟨(s + 1).toNat, by have := h s (.head _); omega⟩
      rw [hk]; exact Int.le_of_lt (fb_pos k)
    have e : (psum (s :: r)).1 = fb (s + 2).toNat + (psum r).1 := rfl
    refine ⟨by omega, fun x hx => ?_⟩
    rcases List.mem_cons.mp hx with rfl | hx
    · omega
    · have := ih.2 x hx; omega
theorem psum_index {l : List Int} (h : ∀ s ∈ l, 0 ≤ s) (hb : (psum l).1 < 102334155) : ∀ s ∈ l, 0 ≤ s ∧ s < 40 := by
  intro s hs
  have h1 := (psum_term l h).2 s hs
  have h0 := h s hs
  refine ⟨h0, ?_⟩
  rcases Int.lt_or_le s 40 with h2 | h2
  · exact h2
  · obtain ⟨k, hk⟩ : ∃ k, (s + 2).toNat = k + 1 := ⟨(s + 1).toNat, by omega⟩
    have := fb_mono (a := 39) (b := k) (by omega)
    rw [hk] at h1
    have e : fb (39 + 1) = 102334155 := fb40
    omega
/-- places of two numbers with a small product -/
theorem idx_bd {a b : Int} {p q : Nat} (ha : 1 ≤ a) (ha' : a < 102334155) (hb : 1 ≤ b) (hb' : b < 102334155) (hab : a * b ≤ 43400000) (hp : p ∈ zk 40 a) (hq : q ∈ zk 40 b) : p + q + 2 < 40 := by
  have term : ∀ (l : List Nat), 0 ≤ s0 l ∧ ∀ p ∈ l, fb (p + 2) ≤ s0 l := by
    intro l
    induction l with
    | nil => exact ⟨Int.le_refl _, fun _ h => nomatch h⟩
    | cons a r ih =>
      have : 0 < fb (a + 2) := fb_pos (a + 1)
      rw [s0]
      refine ⟨by omega, fun x hx => ?_⟩
      rcases List.mem_cons.mp hx with rfl | hx
      · omega
      · have := ih.2 x hx; omega
  have h1 : fb (p + 2) ≤ a := by have := (term _).2 p hp; rwa [s0_zk ha ha'] at this
  have h2 : fb (q + 2) ≤ b := by have := (term _).2 q hq; rwa [s0_zk hb hb'] at this
  have hp0 : 0 < fb (p + 2) := fb_pos (p + 1)
  have hq0 : 0 < fb (q + 2) := fb_pos (q + 1)
  have h3 : fb (p + 2) * fb (q + 2) ≤ a * b := Int.mul_le_mul h1 h2 (by omega) (by omega)
  have h4 := fb_add p q
  have h5 : 0 ≤ fb (p + 2) * fb q := Int.mul_nonneg (by omega) (fb_nonneg q).1
  have h6 : 0 ≤ fb p * fb (q + 2) := Int.mul_nonneg (fb_nonneg p).1 (by omega)
  have h7 : fb (p + q + 4) ≤ 3 * (a * b) := by
    have e : 3 * fb (p + 2) * fb (q + 2) = 3 * (fb (p + 2) * fb (q + 2)) := Int.mul_assoc ..
    omega
  rcases Nat.lt_or_ge (p + q + 2) 40 with h | h
  · exact h
  · have := fb_mono (a := 41) (b := p + q + 3) (by omega)
    have e : fb (41 + 1) = 267914296 := fb42
    have e2 : p + q + 3 + 1 = p + q + 4 := rfl
    rw [e2] at this
    omega
end Mine
namespace Mine
/-- spaces behind the last tab, and tabs -/
def wsf (l : List Nat) : Int × Int := l.foldl (fun p c => if c = 32 then (p.1 + 1, p.2) else (0, p.2 + 1)) (0, 0)
theorem wsf_snoc (l : List Nat) (c : Nat) : wsf (l ++ [c]) = if c = 32 then ((wsf l).1 + 1, (wsf l).2) else (0, (wsf l).2 + 1) := by
  unfold wsf; rw [List.foldl_append]; rfl
/-- each sign is a space, or a tab behind a space -/
def WsOk (l : List Nat) : Prop := ∀ i c, l[i]? = some c → c = 32 ∨ (c = 9 ∧ 1 ≤ (wsf (l.take i)).1)
theorem wsf_bounds (l : List Nat) : 0 ≤ (wsf l).1 ∧ (wsf l).1 ≤ l.length ∧ 0 ≤ (wsf l).2 := by
  have key : ∀ n (l : List Nat), l.length = n → 0 ≤ (wsf l).1 ∧ (wsf l).1 ≤ l.length ∧ 0 ≤ (wsf l).2 := by
    intro n
    induction n with
    | zero => intro l h; obtain rfl := List.eq_nil_of_length_eq_zero h; decide
    | succ n ih =>
      intro l h
      rcases List.eq_nil_or_concat l with rfl | ⟨l', c, rfl⟩
      · cases h
      · have := ih l' (by simpa using h)
        rw [List.concat_eq_append, wsf_snoc, List.length_append, List.length_singleton]
        split <;> simp only <;> omega
  exact key _ l rfl
theorem wsf_take {l : List Nat} {i c : Nat} (h : l[i]? = some c) : wsf (l.take (i + 1)) = if c = 32 then ((wsf (l.take i)).1 + 1, (wsf (l.take i)).2) else (0, (wsf (l.take i)).2 + 1) := by
  have : l.take (i + 1) = l.take i ++ [c] := by simp [List.take_add_one, h]
  rw [this, wsf_snoc]
theorem ws_space {cps : List Nat} {i : Nat} {b nt : Int} (hc : cps[i]? = some 32) (hb : b = (wsf (cps.take i)).1) (hnt : nt = (wsf (cps.take i)).2) :
    b + 1 = (wsf (cps.take (i + 1))).1 ∧ nt = (wsf (cps.take (i + 1))).2 := by
  rw [wsf_take hc, if_pos rfl]; exact ⟨by rw [hb], hnt⟩
theorem ws_tab {cps : List Nat} {i : Nat} {nt : Int} (hc : cps[i]? = some 9) (hnt : nt = (wsf (cps.take i)).2) :
    (0 : Int) = (wsf (cps.take (i + 1))).1 ∧ nt + 1 = (wsf (cps.take (i + 1))).2 := by
  rw [wsf_take hc, if_neg (by decide)]; exact ⟨rfl, by rw [hnt]⟩
theorem set_head {l : List Int} {b : Nat} {v : Int} (h : 1 ≤ b) : (l.set b v).head? = l.head? := by
  cases l with
  | nil => rfl
  | cons a r => cases b with
    | zero => omega
    | succ b => rfl
theorem ws_head {ns : List Int} {nt : Int} {k : Int} (hz : (ns = [] ∧ nt = 0) ∨ ns.head? = some 0) (hk : 1 ≤ k) : (ns ++ (List.replicate k.toNat [(0 : Int)]).flatten).head? = some 0 := by
  rcases hz with ⟨rfl, _⟩ | h
  · have : k.toNat = (k.toNat - 1) + 1 := by omega
    rw [this, List.replicate_succ]; rfl
  · cases ns with
    | nil => cases h
    | cons a r => exact h
theorem ws_grow {ns : List Int} {i : Nat} {b : Int} {v : Int} {k : Nat} (h0 : (ns.length : Int) ≤ b) (hb : b ≤ i) (e : (List.replicate (b - ns.length + 1).toNat [(0 : Int)]).flatten.length = k) (e3 : 0 ≤ b - ns.length + 1 → (k : Int) = ((0 + 1 : Nat) : Int) * (b - ns.length + 1)) :
    ((ns ++ (List.replicate (b - ns.length + 1).toNat [(0 : Int)]).flatten).set b.toNat v).length ≤ i + 1 + 1 := by
  have := e3 (by omega)
  rw [List.length_set, List.length_append, e]; omega
theorem ws_first {ns : List Int} {nt n' : Int} (hz : (ns = [] ∧ nt = 0) ∨ ns.head? = some 0) (e : nt = n') (h : 1 ≤ n') : ∃ r, ns = 0 :: r := by
  rcases hz with ⟨_, h0⟩ | h
  · omega
  · cases ns with
    | nil => cases h
    | cons a r => exact ⟨r, by simpa using h⟩

theorem wsf_spaces (c : List Nat) : ∀ j, wsf (c ++ List.replicate j 32) = ((wsf c).1 + j, (wsf c).2)
  | 0 => by simp
  | j + 1 => by
    rw [List.replicate_succ', ← List.append_assoc, wsf_snoc, if_pos rfl, wsf_spaces c j]
    simp only [Prod.mk.injEq]; exact ⟨by omega, trivial⟩
/-- a lead of k tabs, none at its start and no two together -/
def LeadOk (c : List Nat) (k : Nat) : Prop := WsOk c ∧ wsf c = (0, (k : Int))
theorem leadOk_nil : LeadOk [] 0 := ⟨fun i c h => by simp at h, rfl⟩
theorem wsOk_snoc {c : List Nat} {d : Nat} (h : WsOk c) (hd : d = 32 ∨ (d = 9 ∧ 1 ≤ (wsf c).1)) : WsOk (c ++ [d]) := by
  intro i e hi
  rcases Nat.lt_trichotomy i c.length with hl | hl | hl
  · rw [List.getElem?_append_left hl] at hi
    have := h i e hi
    rwa [List.take_append_of_le_length (by omega)]
  · subst hl
    rw [List.getElem?_append_right (Nat.le_refl _)] at hi
    simp at hi
    subst hi
    rwa [List.take_append_of_le_length (by omega), List.take_length]
  · rw [List.getElem?_eq_none (by simp; omega)] at hi; cases hi
theorem wsOk_spaces {c : List Nat} (h : WsOk c) : ∀ j, WsOk (c ++ List.replicate j 32)
  | 0 => by simpa using h
  | j + 1 => by
    rw [List.replicate_succ', ← List.append_assoc]
    exact wsOk_snoc (wsOk_spaces h j) (.inl rfl)
theorem leadOk_step {c : List Nat} {k j : Nat} (h : LeadOk c k) (hj : 1 ≤ j) : LeadOk (c ++ List.replicate j 32 ++ [9]) (k + 1) := by
  have e := wsf_spaces c j
  rw [h.2] at e
  refine ⟨wsOk_snoc (wsOk_spaces h.1 j) (.inr ⟨rfl, by rw [e]; simp only; omega⟩), ?_⟩
  rw [wsf_snoc, if_neg (by decide), e]
  simp
end Mine
open PySem PySem.W PySem.Calls PyProof.Rows
set_option maxRecDepth 100000
set_option maxHeartbeats 8000000
namespace Mine
section
local macro_rules | `(tactic| o_head $_) => `(tactic| assumption)
theorem top0 (h : OpenRow.Holds PySem.Challenge.rw_sn0063_01.row) : OpenRow.Holds PySem.Challenge.rw_sn0063_01.row := by
  k_head
end
def addrs : List Addr := [2, 3, 15, 17, 18, 20, 21, 22, 24, 25, 27, 28, 29, 31, 32, 34, 35, 36, 37, 38, 40, 41, 43, 44, 55, 57, 58, 60, 61, 62, 64, 65, 67, 68, 69, 71, 72, 74, 75, 76, 78, 79, 81, 82, 83, 85, 86, 88, 89, 90, 92, 93, 95, 96, 97, 99, 100, 102, 103, 104, 105, 106, 107, 108, 111, 114, 116, 117, 119, 120, 121, 123, 124, 126, 127, 128, 130, 131, 133, 134, 135, 138, 139, 140, 143, 144, 145, 147, 148, 150, 151, 152, 154, 155, 157, 158, 159, 162, 163, 164, 167, 168, 169, 172, 173]
theorem addrs_are : ∀ P, addrs = (top0.heap_1 P).map (·.1) := fun _ => by kernel_rfl
def keep (l : List Stmt) : List Stmt := l.take 1 ++ (l.drop 2).take 3 ++ (l.drop 8).take 1 ++ (l.drop 10).eraseIdx 53
noncomputable def view : Program := { PySem.Challenge.pw_sn0063_01 with main := { PySem.Challenge.pw_sn0063_01.main with body := keep PySem.Challenge.pw_sn0063_01.main.body } }
def loose : List Str := [Str.ofString "bisect_right", Str.ofString "Whitespace", Str.ofString "EXACT_TOKEN_TYPES"]
noncomputable def lawD : DefRec := by
  refine (?f : (s : DefRec) → (k : List (Str × PySem.Expr)) → defOf view (Str.ofString "law") = some (s, k) → DefRec) ?s ?k ?h
  case h => rfl
  case f => exact fun s _ _ => s
noncomputable def lawK : List (Str × PySem.Expr) := by
  refine (?f : (s : DefRec) → (k : List (Str × PySem.Expr)) → defOf view (Str.ofString "law") = some (s, k) → List (Str × PySem.Expr)) ?s ?k ?h
  case h => rfl
  case f => exact fun _ k _ => k
abbrev Walk : Prop := WalkO view loose (XL view []) (kHook top0.heap_1 addrs addrs_are).says PySem.Challenge.rw_sn0063_01.row.toRowW lawD lawK fun f vs => PySem.call f vs
end Mine
namespace Mine
theorem fill_all : (∀ (w : World) (h : Heap), (top0.heap_1 w.params).In h → True) ∧ (PySem.Challenge.rw_sn0063_01.Holds → True) := by
  k_fill
  exact ⟨fun _ _ _ => trivial, fun _ => trivial⟩
end Mine
namespace Mine
/-- a list of ints that is the forty numbers -/
def Rab (ns : List Int) : Prop := ns.length = 40 ∧ ∀ i, i < 40 → ns[i]? = some (fb (i + 2))
theorem Rab.at {vs : List Value} {ns : List Int} (hI : IntsAre vs ns) (hR : Rab ns) {k : Int} (h0 : 0 ≤ k) (h1 : k < 40) : ∃ t, vs[k.toNat]? = some (.int (fb (k.toNat + 2)) t) :=
  IntsAre.get hI _ _ (hR.2 _ (by omega))
theorem Rab.getD {ns : List Int} (hR : Rab ns) {k : Nat} (h : k < 40) : ns.getD k 0 = fb (k + 2) := by
  rw [List.getD_eq_getElem?_getD, hR.2 k h]; rfl
theorem made_turnR {ns : List Int} (hR : Rab ns) {n left e r : Int} {pl : List Int} (e4 : r = e ∨ left < fb (r.toNat + 2)) (e3 : r = 0 ∨ fb (r.toNat + 1) ≤ left) (h1 : 1 ≤ r) (hre : r ≤ e) (he : e ≤ 40) (hlt : left < fb (e.toNat + 2)) (hl : (pl.length : Int) + e ≤ 40)
    (hz : pl ++ (zk e.toNat left).map Int.ofNat = (zk 40 n).map Int.ofNat) :
    0 ≤ left - ns.getD (r - 1).toNat 0 ∧ left - ns.getD (r - 1).toNat 0 < fb ((r - 1).toNat + 2) ∧ 0 ≤ r - 1 ∧ r - 1 ≤ 40 ∧ ((pl ++ [r - 1]).length : Int) + (r - 1) ≤ 40 ∧
      pl ++ [r - 1] ++ (zk (r - 1).toNat (left - ns.getD (r - 1).toNat 0)).map Int.ofNat = (zk 40 n).map Int.ofNat := by
  rw [Rab.getD hR (by omega)]
  exact made_turn e4 e3 h1 hre he hlt hl hz
theorem fdiv2 (a : Int) : Int.fdiv a 2 = a / 2 := Int.fdiv_eq_ediv_of_nonneg _ (by decide)

section
variable {prog : Program} {w : World} {A : Around} {E : Value → Shared → Prop} {s : Shared} {h₀ : Heap} {L : Addr} {news : List (Addr × Obj)} {Q : Value → Shared → Prop}
theorem rab_item {value slice : PySem.Expr} {rab nv : Nat} {vs : List Value} {ns : List Int} {k : Int} {u : Tok} (N : News h₀ L s.heap news) (hm : (rab, listOf vs.toArray nv) ∈ news) (hI : IntsAre vs ns) (hR : Rab ns)
    (h0 : 0 ≤ k) (h1 : k < 40) (h : ∀ t, Q (.int (fb (k.toNat + 2)) t) s)
    (hs : subscripted slice false (.ref rab) (.int k u) = operate [.ref rab, .int k u] (getItem (.ref rab) (.int k u)) := by with_unfolding_all rfl) :
    wpAny (model prog w) A (subscriptTail value slice (.ref rab) (.int k u)) Q E s :=
  have hl := News.isList N hm
  let ⟨t, ht⟩ := Rab.at hI hR h0 h1
  tail_any hl.typeIs slot_list_getitem.lookup (wpAny_getItem_list hl h0 (by omega) (by simpa using ht) (h t)) hs
theorem rab_item_neg {value slice : PySem.Expr} {rab nv : Nat} {vs : List Value} {ns : List Int} {k : Int} {u : Tok} (N : News h₀ L s.heap news) (hm : (rab, listOf vs.toArray nv) ∈ news) (hI : IntsAre vs ns) (hR : Rab ns)
    (h0 : k < 0) (h1 : -40 ≤ k) (h : ∀ t, Q (.int (fb ((k + 40).toNat + 2)) t) s)
    (hs : subscripted slice false (.ref rab) (.int k u) = operate [.ref rab, .int k u] (getItem (.ref rab) (.int k u)) := by with_unfolding_all rfl) :
    wpAny (model prog w) A (subscriptTail value slice (.ref rab) (.int k u)) Q E s :=
  have hl := News.isList N hm
  let ⟨t, ht⟩ := Rab.at hI hR (k := k + 40) (by omega) (by omega)
  have hsz : (vs.toArray.size : Int) = 40 := by rw [List.size_toArray, hI.length, hR.1]; rfl
  tail_any hl.typeIs slot_list_getitem.lookup (wpAny_getItem_list_neg hl h0 (by omega) (by omega) (by rw [hsz]; simpa using ht) (h t)) hs
theorem tup0 {value slice : PySem.Expr} {t : Addr} {r : List Value} {v : Value} {u : Tok} (N : News h₀ L s.heap news) (hm : (t, ({ cls := .type "tuple", data := .seq (v :: r).toArray } : Obj)) ∈ news) (h : Q v s)
    (hs : subscripted slice false (.ref t) (.int 0 u) = operate [.ref t, .int 0 u] (getItem (.ref t) (.int 0 u)) := by with_unfolding_all rfl) :
    wpAny (model prog w) A (subscriptTail value slice (.ref t) (.int 0 u)) Q E s :=
  item_tupleT (News.isTup N hm) (by decide) (by decide) (j := 0) (by unfold seqIndex?; simp) rfl h hs
end
theorem Rab.m1 {ns : List Int} (hR : Rab ns) : ns.getD (-1 + (ns.length : Int)).toNat 0 = 165580141 := by
  rw [hR.1, Rab.getD hR (by decide)]; exact fb41
theorem Rab.m3 {ns : List Int} (hR : Rab ns) : ns.getD (-3 + (ns.length : Int)).toNat 0 = 63245986 := by
  rw [hR.1, Rab.getD hR (by decide)]; exact fb39
theorem bits28 {b : Int} (h : b = 165580141) : (Builtin.Int.intBits b : Int) = 28 := by subst h; decide +kernel
theorem fill : (∀ (w : World) (h : Heap), (top0.heap_1 w.params).In h → True) ∧ (PySem.Challenge.rw_sn0063_01.Holds → True) := by
  k_fill
  exact ⟨fun _ _ _ => trivial, fun _ => trivial⟩
end Mine
namespace Mine
/-- a goal put by -/
def Hold (P : Prop) : Prop := P
theorem hold {P : Prop} (h : Hold P) : P := h
theorem os_eq (a b : String) : (Str.ofString a = Str.ofString b) = (a = b) := propext ⟨fun e => by
  rw [Str.ofString_eq_toList, Str.ofString_eq_toList] at e
  have e1 : a.toList.map Char.toNat = b.toList.map Char.toNat := by
    have := congrArg Str.cps e
    simpa using this
  have e2 : a.toList = b.toList := by
    refine List.map_inj_right (f := Char.toNat) (fun x y h => ?_) |>.mp e1
    exact Char.ext (UInt32.toNat_inj.mp h)
  exact String.toList_inj.mp e2, fun e => by rw [e]⟩
theorem foldl_cat (a : Array Nat) : ∀ (m : Nat) (b : Array Nat), ((List.replicate m a).foldl (· ++ ·) b).toList = b.toList ++ (List.replicate m a.toList).flatten
  | 0, b => by simp
  | m + 1, b => by
    rw [List.replicate_succ, List.foldl_cons, foldl_cat a m, List.replicate_succ, List.flatten_cons, Array.toList_append, List.append_assoc]
theorem flat_one : ∀ m, (List.replicate m [32]).flatten = List.replicate m 32
  | 0 => rfl
  | m + 1 => by rw [List.replicate_succ, List.flatten_cons, flat_one m]; rfl
theorem mul_space {k : Int} (h : 1 ≤ k) : (Txt.mul (Str.ofString " ") k).cps.toList = List.replicate k.toNat 32 := by
  have e : (Str.ofString " ").cps = #[32] := by decide +kernel
  have el : (Str.ofString " ").length = 1 := by decide +kernel
  unfold Txt.mul
  rw [if_neg (by omega)]
  by_cases h1 : k = 1
  · subst h1; rw [if_pos (by rfl), e]; rfl
  · rw [if_neg (by simp [h1, el])]
    rw [e]
    refine (foldl_cat #[32] k.toNat #[]).trans ?_
    simpa using flat_one k.toNat
theorem lead_new {lx : Str} {p : Nat} (h : lx.length ≤ p) : (lx ++ Txt.mul (Str.ofString " ") ((p : Int) + 1 - (lx.length : Int)) ++ Str.ofString "\t").cps.toList = lx.cps.toList ++ List.replicate (p + 1 - lx.length) 32 ++ [9] := by
  have e : (Str.ofString "\t").cps = #[9] := by decide +kernel
  have e2 : ((p : Int) + 1 - (lx.length : Int)).toNat = p + 1 - lx.length := by omega
  rw [Str.cps_append, Str.cps_append, Array.toList_append, Array.toList_append, mul_space (by omega), e, e2]
theorem lead_new_len {lx : Str} {p : Nat} (h : lx.length ≤ p) : (lx ++ Txt.mul (Str.ofString " ") ((p : Int) + 1 - (lx.length : Int)) ++ Str.ofString "\t").length = p + 2 := by
  have e := congrArg List.length (lead_new h)
  simp only [List.length_append, List.length_replicate, List.length_singleton] at e
  have e3 : lx.cps.toList.length = lx.length := by simp [Str.length]
  rw [e3] at e
  show Array.size _ = _
  rw [← Array.length_toList, e]; omega
section
variable {prog : Program} {w : World} {A : Around} {E : Value → Shared → Prop} {s : Shared} {env : Env} {h₀ : Heap} {x : Str} {body : List Stmt} {Q : Flow → Shared → Prop}

/-- the end of a turn: a new state c, its ledger apart from the iterator -/
def MEnd {σ : Type} (h₀ : Heap) (L I : Addr) (Led : σ → List (Addr × Obj)) (ps : σ → List (Str × Value)) (x : Str) (stored : List Str) (m₀ : Str → Option Value) (P : σ → Prop) (io : Obj) (s₁ s₂ : Shared) : Prop :=
  ∃ (c : σ) (h' : Heap) (tk : Nat) (m' : Str → Option Value) (news' : List (Addr × Obj)), s₂ = { s₁ with heap := h', toks := tk } ∧ Fr h₀ L h' m' ∧ News h₀ L h' news' ∧ (∀ p ∈ Led c, p ∈ news') ∧ (I, io) ∈ news' ∧ (∀ p ∈ Led c, p.1 ≠ I) ∧
    (∀ p ∈ ps c, m' p.1 = some p.2) ∧ (∀ z, z ≠ x → (∀ p ∈ ps c, z ≠ p.1) → stored.contains z = false → m' z = m₀ z) ∧ P c
def MPost {σ : Type} (h₀ : Heap) (L I : Addr) (Led : σ → List (Addr × Obj)) (ps : σ → List (Str × Value)) (x : Str) (stored : List Str) (m₀ : Str → Option Value) (P : σ → Prop) (io : Obj) (s₁ : Shared) (Q : Flow → Shared → Prop) (f : Flow) (s₂ : Shared) : Prop :=
  match f with
  | .ret v => Q (.ret v) s₂
  | .brk => Q .next s₂
  | _ => MEnd h₀ L I Led ps x stored m₀ P io s₁ s₂
theorem MEnd.intro {σ : Type} {L I : Addr} {Led : σ → List (Addr × Obj)} {ps : σ → List (Str × Value)} {stored : List Str} {m₀ m' : Str → Option Value} {P : σ → Prop} {io : Obj} {s₁ : Shared} {h' : Heap} {tk : Nat} {news' : List (Addr × Obj)} (c : σ)
    (F : Fr h₀ L h' m') (N : News h₀ L h' news') (hn : ∀ p ∈ Led c, p ∈ news') (ho : (I, io) ∈ news') (ha : ∀ p ∈ Led c, p.1 ≠ I) (hk : ∀ p ∈ ps c, m' p.1 = some p.2)
    (hr : ∀ z, z ≠ x → (∀ p ∈ ps c, z ≠ p.1) → stored.contains z = false → m' z = m₀ z) (hp : P c) : MEnd h₀ L I Led ps x stored m₀ P io s₁ { s₁ with heap := h', toks := tk } :=
  ⟨c, h', tk, m', news', rfl, F, N, hn, ho, ha, hk, hr, hp⟩

theorem my_loop {σ : Type} {I : Addr} {fp : List Addr} {n : Nat} {Pv : Nat → Value → Prop} {St : Nat → Heap → Prop} {m₀ : Str → Option Value}
    (Led : σ → List (Addr × Obj)) (ps : σ → List (Str × Value)) (stored : List Str) (P : Nat → σ → Prop) (c₀ : σ)
    (W : Walks prog w A I fp [I] n Pv St) (hLf : env.locals ∉ fp) (hI : h₀.get? I = none) (hnI : ∀ p ∈ Led c₀, p.1 ≠ I)
    (hfp : ∀ b ∈ fp, b = I ∨ (h₀.get? b).isSome = true ∨ ∃ o, ∀ c, (b, o) ∈ Led c) (hst : St 0 s.heap) (hSt : ∀ i h, St i h → ∃ io, h.get? I = some io)
    (F : Fr h₀ env.locals s.heap m₀) (N : News h₀ env.locals s.heap (Led c₀)) (hk : ∀ p ∈ ps c₀, m₀ p.1 = some p.2) (hp : P 0 c₀)
    (turn : ∀ (c : σ) (i : Nat) (v : Value) (u : Str → Option Value) h tk io, i < n → Pv i v → P i c → (∀ p ∈ Led c, p.1 ≠ I) →
      Fr h₀ env.locals h (fun y => if y = x then some v else kstB (fun z => if stored.contains z then u z else m₀ z) (ps c) y) → News h₀ env.locals h ((I, io) :: Led c) →
      wpAny (model prog w) A (execs body env) (MPost h₀ env.locals I Led ps x stored m₀ (P (i + 1)) io { s with heap := h, toks := tk } Q) E { s with heap := h, toks := tk })
    (done : ∀ (c : σ) (u : Str → Option Value) h tk, P n c → Fr h₀ env.locals h (fun y => if y = x then u y else kstB (fun z => if stored.contains z then u z else m₀ z) (ps c) y) → News h₀ env.locals h (Led c) → Q .next { s with heap := h, toks := tk }) :
    LoopAtV prog w A h₀ env x body Q E (.ref I) s := by
  let J : Nat → (Str → Option Value) → List (Addr × Obj) → Prop := fun i m nx => ∃ c : σ, nx = Led c ∧ (∀ p ∈ ps c, m p.1 = some p.2) ∧ (∀ z, z ≠ x → (∀ p ∈ ps c, z ≠ p.1) → stored.contains z = false → m z = m₀ z) ∧ P i c
  refine ⟨I, fp, [I], n, Pv, St, m₀, Led c₀, J, rfl, W, hLf, fun b hb => (List.mem_singleton.mp hb) ▸ hI, fun p hp hq => hnI p hp (List.mem_singleton.mp hq), hst, F, N, ⟨c₀, rfl, hk, fun _ _ _ _ => rfl, hp⟩, ?_, ?_⟩
  · rintro i v m₁ nx s₁ own ⟨hh', tk', rfl⟩ hin hP ⟨c, rfl, h1, h2, hPc⟩ hoff hown hget hall hst' F₁ N₁
    have hoff' : ∀ p ∈ Led c, p.1 ≠ I := fun p hp e => hoff p hp (List.mem_singleton.mpr e)
    have hIfp : I ∈ fp := W.sub I (List.mem_singleton.mpr rfl)
    -- the iterator has an object
    obtain ⟨io, hio⟩ := hSt _ _ hst'
    have hmem : (I, io) ∈ own := hall I hIfp hI io hio
    have N₂ : News h₀ env.locals hh' ((I, io) :: Led c) := fun p hp => by
      rcases List.mem_cons.mp hp with rfl | hp
      · exact N₁ _ (List.mem_append_left _ hmem)
      · exact N₁ _ (List.mem_append_right _ hp)
    refine wpAny_mono (turn c i v m₁ hh' tk' io hin hP hPc hoff' (kst_fr h1 h2 F₁) N₂) (fun f s₂ p => ?_) fun _ _ e => e
    have fin : MEnd h₀ env.locals I Led ps x stored m₀ (P (i + 1)) io { s with heap := hh', toks := tk' } s₂ → LoopStepU h₀ env.locals [I] own (J (i + 1)) { s with heap := hh', toks := tk' } .next s₂ := by
      rintro ⟨c', h', tk, m', news', rfl, F', N', hn, ho, ha, hk', hr, hp'⟩
      refine ⟨rfl, h', tk, m', Led c', rfl, F', fun p hp => ?_, fun p hp hq => ha p hp (List.mem_singleton.mp hq), c', rfl, hk', hr, hp'⟩
      rcases List.mem_append.mp hp with hp | hp
      · rcases hfp p.1 (hown p hp) with e | e | ⟨o, e⟩
        · have q := hget p hp
          rw [e] at q
          have q2 : some io = some p.2 := hio.symm.trans q
          have : p = (I, io) := Prod.ext e (Option.some.inj q2).symm
          rw [this]; exact N' _ ho
        · have q := (N₁ p (List.mem_append_left _ hp)).2.2
          rw [q] at e; cases e
        · have q := hget p hp
          have q2 := (N₁ _ (List.mem_append_right _ (e c))).1
          have q3 : some o = some p.2 := q2.symm.trans q
          have : p = (p.1, o) := Prod.ext rfl (Option.some.inj q3).symm
          rw [this]; exact N' _ (hn _ (e c'))
      · exact N' p (hn p hp)
    cases f with
    | ret v => exact .ret p
    | brk => exact .brk p
    | next => exact .next (fin p)
    | cont => exact .cont (fin p)
  · rintro h' tk m' news' F' N' _ ⟨c, rfl, h1, h2, hp'⟩
    exact done c m' h' tk hp' (kst_frOut h1 h2 F') N'
theorem my_text {σ : Type} {xt : Str} {tx : Tok} {m₀ : Str → Option Value} (Led : σ → List (Addr × Obj)) (ps : σ → List (Str × Value)) (stored : List Str) (P : Nat → σ → Prop) (c₀ : σ)
    (hh : A.handled = none) (F : Fr h₀ env.locals s.heap m₀) (N : News h₀ env.locals s.heap (Led c₀)) (hk : ∀ p ∈ ps c₀, m₀ p.1 = some p.2) (hp : P 0 c₀)
    (turn : ∀ (c : σ) (i : Nat) (n : Nat) t (u : Str → Option Value) h tk I io, xt.cps[i]? = some n → P i c → (∀ p ∈ Led c, p.1 ≠ I) →
      Fr h₀ env.locals h (fun y => if y = x then some (.str ⟨#[n]⟩ t) else kstB (fun z => if stored.contains z then u z else m₀ z) (ps c) y) → News h₀ env.locals h ((I, io) :: Led c) →
      wpAny (model prog w) A (execs body env) (MPost h₀ env.locals I Led ps x stored m₀ (P (i + 1)) io { s with heap := h, toks := tk } Q) E { s with heap := h, toks := tk })
    (done : ∀ (c : σ) (u : Str → Option Value) h tk, P xt.cps.size c → Fr h₀ env.locals h (fun y => if y = x then u y else kstB (fun z => if stored.contains z then u z else m₀ z) (ps c) y) → News h₀ env.locals h (Led c) → Q .next { s with heap := h, toks := tk }) :
    wpAny (model prog w) A (pyIter (.str xt tx)) (fun it s₂ => LoopAtV prog w A h₀ env x body Q E it s₂) E s := by
  have main : ∀ (o : Obj) (St : Nat → Heap → Prop), Walks prog w A s.heap.objs.size [s.heap.objs.size] [s.heap.objs.size] xt.cps.size (SignAt xt) St → St 0 (s.heap.push o) →
      (∀ i h, St i h → ∃ io, h.get? s.heap.objs.size = some io) → LoopAtV prog w A h₀ env x body Q E (.ref s.heap.objs.size) { s with heap := s.heap.push o } := fun o St W st hSt => by
    refine my_loop Led ps stored P c₀ W ?_ ?_ ?_ ?_ st hSt (F.push _) (fun p hp => ⟨Heap.get?_push_of_some _ (N p hp).1, (N p hp).2⟩) hk hp ?_ ?_
    · intro hm
      exact absurd F.ns.lt ((List.mem_singleton.mp hm) ▸ Nat.lt_irrefl _)
    · exact next_is_new F
    · intro p hp e
      exact absurd (Heap.lt_size (N p hp).1) (e ▸ Nat.lt_irrefl _)
    · intro b hb
      exact .inl (List.mem_singleton.mp hb)
    · rintro c i v u h tk io hi ⟨n, t, hn, rfl⟩ hP hI F₁ N₁
      exact turn c i n t u h tk _ io hn hP hI F₁ N₁
    · exact fun c u h tk hP F₁ N₁ => done c u h tk hP F₁ N₁
  cases ha : xt.cps.all (· < 128)
  · exact wpAny_pyIter_wide ha (main _ _ (Walks.strWide hh _ xt tx) ⟨_, Heap.get?_push_size _ rfl, rfl, rfl⟩ fun i h st => let ⟨o, ho, _⟩ := st; ⟨o, ho⟩)
  · exact wpAny_pyIter_ascii ha (main _ _ (Walks.strAscii hh _ xt tx) ⟨_, Heap.get?_push_size _ rfl, rfl, rfl⟩ fun i h st => let ⟨o, ho, _⟩ := st; ⟨o, ho⟩)

theorem my_list {σ : Type} {l : Addr} {vs : List Value} {nn : Nat} {m₀ : Str → Option Value} (Led : σ → List (Addr × Obj)) (ps : σ → List (Str × Value)) (stored : List Str) (P : Nat → σ → Prop) (c₀ : σ)
    (hh : A.handled = none) (F : Fr h₀ env.locals s.heap m₀) (N : News h₀ env.locals s.heap (Led c₀)) (hl : ∀ c, (l, listOf vs.toArray nn) ∈ Led c) (hk : ∀ p ∈ ps c₀, m₀ p.1 = some p.2) (hp : P 0 c₀)
    (turn : ∀ (c : σ) (i : Nat) (v : Value) (u : Str → Option Value) h tk I io, vs[i]? = some v → P i c → (∀ p ∈ Led c, p.1 ≠ I) →
      Fr h₀ env.locals h (fun y => if y = x then some v else kstB (fun z => if stored.contains z then u z else m₀ z) (ps c) y) → News h₀ env.locals h ((I, io) :: Led c) →
      wpAny (model prog w) A (execs body env) (MPost h₀ env.locals I Led ps x stored m₀ (P (i + 1)) io { s with heap := h, toks := tk } Q) E { s with heap := h, toks := tk })
    (done : ∀ (c : σ) (u : Str → Option Value) h tk, P vs.length c → Fr h₀ env.locals h (fun y => if y = x then u y else kstB (fun z => if stored.contains z then u z else m₀ z) (ps c) y) → News h₀ env.locals h (Led c) → Q .next { s with heap := h, toks := tk }) :
    wpAny (model prog w) A (pyIter (.ref l)) (fun it s₂ => LoopAtV prog w A h₀ env x body Q E it s₂) E s := by
  have hls : s.heap.IsList l vs.toArray := News.isList N (hl c₀)
  have hll : l < s.heap.objs.size := Heap.lt_size (N _ (hl c₀)).1
  have hne : l ≠ s.heap.objs.size := Nat.ne_of_lt hll
  refine wpAny_pyIter_list hls ?_
  have W := Walks.list (prog := prog) (w := w) hh s.heap.objs.size l hne vs.toArray
  refine my_loop Led ps stored P c₀ W ?_ ?_ ?_ ?_ ⟨⟨_, Heap.get?_push_size _ rfl, rfl, rfl⟩, hls.at fun o e => Heap.get?_push_of_some _ e⟩ (fun i h st => let ⟨o, ho, _⟩ := st.1; ⟨o, ho⟩) (F.push _) (fun p hp => ⟨Heap.get?_push_of_some _ (N p hp).1, (N p hp).2⟩) hk hp ?_ ?_
  · intro hm
    rcases List.mem_cons.mp hm with e | hm
    · exact absurd F.ns.lt (e ▸ Nat.lt_irrefl _)
    · exact (N _ (hl c₀)).2.1 (List.mem_singleton.mp hm).symm
  · exact next_is_new F
  · intro p hp e
    exact absurd (Heap.lt_size (N p hp).1) (e ▸ Nat.lt_irrefl _)
  · intro b hb
    rcases List.mem_cons.mp hb with e | hb
    · exact .inl e
    · exact .inr (.inr ⟨_, fun c => (List.mem_singleton.mp hb) ▸ hl c⟩)
  · exact fun c i v u h tk io hi hv hP hI F₁ N₁ => turn c i v u h tk _ io (by simpa using hv) hP hI F₁ N₁
  · exact fun c u h tk hP F₁ N₁ => done c u h tk (by simpa using hP) F₁ N₁

theorem my_rev {σ : Type} {l D : Addr} {vs : List Value} {nn : Nat} {m₀ : Str → Option Value} (Led : σ → List (Addr × Obj)) (ps : σ → List (Str × Value)) (stored : List Str) (P : Nat → σ → Prop) (c₀ : σ)
    (hh : A.handled = none) (F : Fr h₀ env.locals s.heap m₀) (N : News h₀ env.locals s.heap ((D, revObj l ((vs.length : Int) - 1)) :: Led c₀)) (hD : ∀ p ∈ Led c₀, p.1 ≠ D) (hl : ∀ c, (l, listOf vs.toArray nn) ∈ Led c) (hk : ∀ p ∈ ps c₀, m₀ p.1 = some p.2) (hp : P 0 c₀)
    (turn : ∀ (c : σ) (i : Nat) (v : Value) (u : Str → Option Value) h tk io, i < vs.length → vs[vs.length - 1 - i]? = some v → P i c → (∀ p ∈ Led c, p.1 ≠ D) →
      Fr h₀ env.locals h (fun y => if y = x then some v else kstB (fun z => if stored.contains z then u z else m₀ z) (ps c) y) → News h₀ env.locals h ((D, io) :: Led c) →
      wpAny (model prog w) A (execs body env) (MPost h₀ env.locals D Led ps x stored m₀ (P (i + 1)) io { s with heap := h, toks := tk } Q) E { s with heap := h, toks := tk })
    (done : ∀ (c : σ) (u : Str → Option Value) h tk, P vs.length c → Fr h₀ env.locals h (fun y => if y = x then u y else kstB (fun z => if stored.contains z then u z else m₀ z) (ps c) y) → News h₀ env.locals h (Led c) → Q .next { s with heap := h, toks := tk }) :
    wpAny (model prog w) A (pyIter (.ref D)) (fun it s₂ => LoopAtV prog w A h₀ env x body Q E it s₂) E s := by
  have hD0 := N _ (List.mem_cons_self ..)
  have hl0 := N _ (List.mem_cons_of_mem _ (hl c₀))
  have hls : s.heap.IsList l vs.toArray := ⟨_, hl0.1, rfl, _, rfl⟩
  have hne : l ≠ D := hD _ (hl c₀)
  have hit : s.heap.IsRevIter D l ((vs.length : Int) - 1) := ⟨_, hD0.1, rfl, rfl⟩
  refine wpAny_pyIter_revIter hit ?_
  have W := Walks.listRev (prog := prog) (w := w) hh D l hne vs.toArray
  refine my_loop Led ps stored P c₀ W ?_ hD0.2.2 hD ?_ ⟨Nat.zero_le _, by simpa using hit, hls⟩ (fun i h st => let ⟨o, ho, _⟩ := st.2.1; ⟨o, ho⟩) F (fun p hp => N p (List.mem_cons_of_mem _ hp)) hk hp ?_ ?_
  · intro hm
    rcases List.mem_cons.mp hm with e | hm
    · exact hD0.2.1 e.symm
    · exact hl0.2.1 (List.mem_singleton.mp hm).symm
  · intro b hb
    rcases List.mem_cons.mp hb with e | hb
    · exact .inl e
    · exact .inr (.inr ⟨_, fun c => (List.mem_singleton.mp hb) ▸ hl c⟩)
  · exact fun c i v u h tk io hi hv hP hI F₁ N₁ => turn c i v u h tk io (by simpa using hi) (by simpa using hv) hP hI F₁ N₁
  · exact fun c u h tk hP F₁ N₁ => done c u h tk (by simpa using hP) F₁ N₁
theorem allne_0 {d : Addr} {l : List (Addr × Obj)} (e : ∀ p ∈ l, p.1 < d) : ∀ p ∈ l, p.1 ≠ d := fun p hp => Nat.ne_of_lt (e p hp)
theorem allne_1 {d : Addr} {l : List (Addr × Obj)} (e : AllLt d l) : ∀ p ∈ l, p.1 ≠ d := by
  induction l with
  | nil => exact fun _ h => nomatch h
  | cons q r ih =>
    intro p hp
    rcases List.mem_cons.mp hp with rfl | hp
    · exact Nat.ne_of_lt e.1
    · exact ih e.2 p hp
def AllNe (d : Nat) : List (Addr × Obj) → Prop
  | [] => True
  | p :: r => @Ne Nat p.1 d ∧ AllNe d r
theorem AllNe.of {d : Addr} {l : List (Addr × Obj)} (h : ∀ p ∈ l, p.1 ≠ d) : AllNe d l := by
  induction l with
  | nil => exact trivial
  | cons q r ih => exact ⟨h q (.head _), ih fun p hp => h p (.tail _ hp)⟩
theorem AllNe.all {d : Addr} {l : List (Addr × Obj)} (h : AllNe d l) : ∀ p ∈ l, p.1 ≠ d := by
  induction l with
  | nil => exact fun _ h => nomatch h
  | cons q r ih =>
    intro p hp
    rcases List.mem_cons.mp hp with rfl | hp
    · exact h.1
    · exact ih h.2 p hp
theorem AllNe.ofLt {d : Addr} {l : List (Addr × Obj)} (h : AllLt d l) : AllNe d l := .of (allne_1 h)
theorem news_tail {L : Addr} {h : Heap} {q : Addr × Obj} {r : List (Addr × Obj)} (N : News h₀ L h (q :: r)) : ∃ rest, rest = r ∧ News h₀ L h (q :: rest) := ⟨r, rfl, N⟩
theorem news_ne {L : Addr} {h : Heap} {l : List (Addr × Obj)} {a b : Addr} {o o' : Obj} (N : News h₀ L h l) (ha : (a, o) ∈ l) (hb : (b, o') ∈ l) (hc : o.cls ≠ o'.cls) : a ≠ b := fun e => by
  subst e
  have h1 := (N _ ha).1
  have h2 := (N _ hb).1
  rw [h1] at h2
  exact hc (congrArg Obj.cls (Option.some.inj h2))
theorem fr_gen {L : Addr} {h : Heap} {m : Str → Option Value} (F : Fr h₀ L h m) : ∃ m', m' = m ∧ Fr h₀ L h m' := ⟨m, rfl, F⟩
theorem fr_val {m : Str → Option Value} {y : Str} {v : Value} (e : m y = some v) : ∃ sv, sv = v ∧ m y = some sv := ⟨v, rfl, e⟩
theorem fr_int {m : Str → Option Value} {y : Str} {i : Int} {t : Tok} (e : m y = some (.int i t)) : ∃ t', m y = some (.int i t') := ⟨t, e⟩
theorem news_ws {L : Addr} {h : Heap} {a b c d e f : Addr × Obj} {g : List (Addr × Obj)} (N : News h₀ L h (a :: b :: c :: d :: e :: f :: g)) : News h₀ L h (a :: b :: e :: f :: g) := fun p hp => N p (by
  rcases List.mem_cons.mp hp with rfl | hp
  · exact .head _
  rcases List.mem_cons.mp hp with rfl | hp
  · exact .tail _ (.head _)
  · exact .tail _ (.tail _ (.tail _ (.tail _ hp))))
theorem news_made {L : Addr} {h : Heap} {a b c d e f g : Addr × Obj} {r : List (Addr × Obj)} (N : News h₀ L h (a :: b :: c :: d :: e :: f :: g :: r)) : News h₀ L h (a :: g :: r) := fun p hp => N p (by
  rcases List.mem_cons.mp hp with rfl | hp
  · exact .head _
  · exact .tail _ (.tail _ (.tail _ (.tail _ (.tail _ (.tail _ hp))))))
theorem allne_le {d d' : Nat} {l : List (Addr × Obj)} (e : ∀ p ∈ l, p.1 < d) (h : d ≤ d') : ∀ p ∈ l, p.1 ≠ d' := fun p hp q => by
  have h1 : @LT.lt Nat _ p.1 d := e p hp
  have h2 : @Eq Nat p.1 d' := q
  omega
theorem news_two {L : Addr} {h : Heap} {q : Addr × Obj} {a : Addr} {o : Obj} {r : List (Addr × Obj)} (N : News h₀ L h (q :: (a, o) :: r)) : ∃ q' a' r', q' = q ∧ a' = a ∧ r' = r ∧ News h₀ L h (q' :: (a', o) :: r') := ⟨_, _, _, rfl, rfl, rfl, N⟩
theorem allne1_le {d d' : Nat} {l : List (Addr × Obj)} (e : AllLt d l) (h : d ≤ d') : ∀ p ∈ l, p.1 ≠ d' := by
  induction l with
  | nil => exact fun _ h => nomatch h
  | cons q r ih =>
    intro p hp
    rcases List.mem_cons.mp hp with rfl | hp
    · intro e2
      have h1 : @LT.lt Nat _ p.1 d := e.1
      have h2 : @Eq Nat p.1 d' := e2
      omega
    · exact ih e.2 p hp
theorem fr_tok {L : Addr} {h : Heap} {m : Str → Option Value} (_F : Fr h₀ L h m) {y : Str} {i : Int} (e : ∃ t, m y = some (.int i t)) : ∃ t, m y = some (.int i t) := e
theorem fr_stok {L : Addr} {h : Heap} {m : Str → Option Value} (_F : Fr h₀ L h m) {y : Str} {i : Str} (e : ∃ t, m y = some (.str i t)) : ∃ t, m y = some (.str i t) := e
end
end Mine
namespace Mine
theorem off_allLt {I : Nat} {oe oi : Obj} {l : List (Addr × Obj)} (h : AllLt I l) : ∀ p ∈ l, ∀ q ∈ [((I + 1 : Nat), oe), (I, oi)], p.1 ≠ q.1 := by
  have main : ∀ (l : List (Addr × Obj)), AllLt I l → ∀ p ∈ l, @LT.lt Nat _ p.1 I := by
    intro l
    induction l with
    | nil => exact fun _ _ h => nomatch h
    | cons a r ih =>
      intro h p hp
      rcases List.mem_cons.mp hp with rfl | hp
      · exact h.1
      · exact ih h.2 p hp
  intro p hp q hq e
  have h1 := main l h p hp
  rcases List.mem_cons.mp hq with rfl | hq
  · have h2 : @Eq Nat p.1 (I + 1) := e
    omega
  · rcases List.mem_cons.mp hq with rfl | hq
    · have h2 : @Eq Nat p.1 I := e
      omega
    · cases hq
section
variable {prog : Program} {w : World} {A : Around} {E : Value → Shared → Prop} {s : Shared} {env : Env} {h₀ : Heap} {target : PySem.Expr} {body : List Stmt} {Q : Flow → Shared → Prop}
/-- a state's names stand, all else as in m₀ but what is stored -/
def Names {σ : Type} (ps : σ → List (Str × Value)) (stored : List Str) (m₀ : Str → Option Value) (c : σ) (m : Str → Option Value) : Prop :=
  (∀ p ∈ ps c, m p.1 = some p.2) ∧ ∀ z, (∀ p ∈ ps c, z ≠ p.1) → stored.contains z = false → m z = m₀ z
theorem Names.fr {σ : Type} {ps : σ → List (Str × Value)} {stored : List Str} {m₀ m : Str → Option Value} {c : σ} {L : Addr} {h : Heap} (n : Names ps stored m₀ c m) (F : Fr h₀ L h m) :
    Fr h₀ L h (kstB (fun z => if stored.contains z then m z else m₀ z) (ps c)) := ksw_fr n.1 n.2 F
theorem my_items {σ : Type} {I : Addr} {m₀ : Str → Option Value} {keep : List (Addr × Obj)} (Led : σ → List (Addr × Obj)) (ps : σ → List (Str × Value)) (stored : List Str) (P : Nat → σ → Prop) (L : Addr) (hL : env.locals = L)
    (hkeep : ∀ c, SubL keep (Led c)) (vs : List Value) (a : Nat)
    (turn : ∀ (c : σ) (i : Nat) (v : Value) (u : Str → Option Value) T t h tk oe oi, vs[i]? = some v → P i c → IsTup h T #[.int ((a + i : Nat) : Int) t, v] → Fr h₀ L h (kstB (fun z => if stored.contains z then u z else m₀ z) (ps c)) →
      News h₀ L h ((I + 1, oe) :: (I, oi) :: Led c) →
      wpAny (model prog w) A (assign target env (.ref T)) (fun _ s₂ => wpAny (model prog w) A (execs body env) (UnrPostW h₀ L { s with heap := h, toks := tk } [(I + 1, oe), (I, oi)] (fun m' n' => ∃ c', n' = Led c' ∧ Names ps stored m₀ c' m' ∧ P (i + 1) c') Q) E s₂) E { s with heap := h, toks := tk })
    (done : ∀ (c : σ) (u : Str → Option Value) h tk, P vs.length c → Fr h₀ L h (kstB (fun z => if stored.contains z then u z else m₀ z) (ps c)) → News h₀ L h (Led c) → Q .next { s with heap := h, toks := tk }) :
    ∀ (us : List Value) (i : Nat) (m : Str → Option Value) (c : σ), i ≤ vs.length → vs.drop i = us → Names ps stored m₀ c m → P i c →
      ItemsRest prog w A E h₀ env target body Q s [(I + 1, "enumerate"), (I, "list_iterator")] keep (enumItems (a + i) us) m (Led c) := by
  subst hL
  intro us
  induction us with
  | nil =>
    intro i m c hi hd hn hP h tk F N
    refine done c m h tk ?_ (hn.fr F) N
    have hle : vs.length ≤ i := List.drop_eq_nil_iff.mp hd
    rw [Nat.le_antisymm hle hi]
    exact hP
  | cons v r ih =>
    intro i m c hi hd hn hP
    have hv : vs[i]? = some v := by rw [← List.head?_drop, hd]; rfl
    have hr : vs.drop (i + 1) = r := by rw [← List.tail_drop, hd]; rfl
    refine ItemsRest.pair fun T t h tk hT F oe _ oi _ N => ?_
    refine wpAny_mono (turn c i v m T t h tk oe oi hv hP hT (hn.fr F) N) (fun _ s₂ p => wpAny_mono p (fun f s₃ q => ?_) fun _ _ x => x) fun _ _ x => x
    have fin : UnrEndW h₀ env.locals { s with heap := h, toks := tk } [(I + 1, oe), (I, oi)] (fun m' n' => ∃ c', n' = Led c' ∧ Names ps stored m₀ c' m' ∧ P (i + 1) c') s₃ →
        UnrEndW h₀ env.locals { s with heap := h, toks := tk } [(I + 1, oe), (I, oi)] (fun m' n' => SubL keep n' ∧ ItemsRest prog w A E h₀ env target body Q s [(I + 1, "enumerate"), (I, "list_iterator")] keep (enumItems (a + i + 1) r) m' n') s₃ := by
      rintro ⟨h', tk', m', news', e, F', N', off, c', rfl, hn', hP'⟩
      exact ⟨h', tk', m', _, e, F', N', off, hkeep c', ih (i + 1) m' c' (by
        rcases Nat.lt_or_ge i vs.length with h1 | h1
        · exact h1
        · rw [List.getElem?_eq_none h1] at hv; cases hv) hr hn' hP'⟩
    cases f with
    | ret v => exact q
    | brk => exact q
    | next => exact fin q
    | cont => exact fin q
theorem my_enum {σ : Type} {I : Addr} {m₀ : Str → Option Value} {keep : List (Addr × Obj)} (Led : σ → List (Addr × Obj)) (ps : σ → List (Str × Value)) (stored : List Str) (P : Nat → σ → Prop) (L : Addr) (hL : env.locals = L) (c₀ : σ)
    (hkeep : ∀ c, SubL keep (Led c)) (vs : List Value) (a : Nat) (hn : ∀ p ∈ ps c₀, m₀ p.1 = some p.2) (hP : P 0 c₀)
    (turn : ∀ (c : σ) (i : Nat) (v : Value) (u : Str → Option Value) T t h tk oe oi, vs[i]? = some v → P i c → IsTup h T #[.int ((a + i : Nat) : Int) t, v] → Fr h₀ L h (kstB (fun z => if stored.contains z then u z else m₀ z) (ps c)) →
      News h₀ L h ((I + 1, oe) :: (I, oi) :: Led c) →
      wpAny (model prog w) A (assign target env (.ref T)) (fun _ s₂ => wpAny (model prog w) A (execs body env) (UnrPostW h₀ L { s with heap := h, toks := tk } [(I + 1, oe), (I, oi)] (fun m' n' => ∃ c', n' = Led c' ∧ Names ps stored m₀ c' m' ∧ P (i + 1) c') Q) E s₂) E { s with heap := h, toks := tk })
    (done : ∀ (c : σ) (u : Str → Option Value) h tk, P vs.length c → Fr h₀ L h (kstB (fun z => if stored.contains z then u z else m₀ z) (ps c)) → News h₀ L h (Led c) → Q .next { s with heap := h, toks := tk }) :
    ItemsRest prog w A E h₀ env target body Q s [(I + 1, "enumerate"), (I, "list_iterator")] keep (enumItems a vs) m₀ (Led c₀) :=
  my_items Led ps stored P L hL hkeep vs a turn done vs 0 m₀ c₀ (Nat.zero_le _) rfl ⟨hn, fun _ _ _ => rfl⟩ hP
end
end Mine
namespace Mine
/-- a number's tuple and its list of places stand in the ledger -/
def Made (l : List (Addr × Obj)) (n : Int) (tp : Addr) : Prop :=
  ∃ (pl : Addr) (ta sa : Tok) (ps : List Value) (np : Nat), (tp, ({ cls := .type "tuple", data := .seq #[.int n ta, .ref pl, .int (part n) sa] } : Obj)) ∈ l ∧ (pl, listOf ps.toArray np) ∈ l ∧ IntsAre ps ((zk 40 n).map Int.ofNat)
theorem Made.sub {l l' : List (Addr × Obj)} {n : Int} {tp : Addr} (h : Made l n tp) (hs : ∀ p ∈ l, p ∈ l') : Made l' n tp := by
  obtain ⟨pl, ta, sa, ps, np, h1, h2, h3⟩ := h
  exact ⟨pl, ta, sa, ps, np, hs _ h1, hs _ h2, h3⟩
def Known (prog : Program) (w : World) (ko : Obj) (l : List (Addr × Obj)) (ns : List Int) : Prop :=
  ∃ kvs, ko.IsDictOf (intKind prog w) kvs ∧ ∀ f ∈ ns, ∃ tp, valueAt kvs f = some (.ref tp) ∧ Made l f tp
theorem Known.sub {prog : Program} {w : World} {ko : Obj} {l l' : List (Addr × Obj)} {ns : List Int} (h : Known prog w ko l ns) (hs : ∀ p ∈ l, p ∈ l') : Known prog w ko l' ns := by
  obtain ⟨kvs, h1, h2⟩ := h
  exact ⟨kvs, h1, fun f hf => let ⟨tp, a, b⟩ := h2 f hf; ⟨tp, a, b.sub hs⟩⟩

/-- l is a, put somewhere into r -/
inductive Pick (a : Addr × Obj) : List (Addr × Obj) → List (Addr × Obj) → Prop
  | head {r} : Pick a (a :: r) r
  | tail {q r r'} : Pick a r r' → Pick a (q :: r) (q :: r')
theorem Pick.mem {a : Addr × Obj} {l r : List (Addr × Obj)} (h : Pick a l r) : a ∈ l ∧ ∀ p ∈ r, p ∈ l := by
  induction h with
  | head => exact ⟨.head _, fun p hp => .tail _ hp⟩
  | tail _ ih => exact ⟨.tail _ ih.1, fun p hp => by
      rcases List.mem_cons.mp hp with rfl | hp
      · exact .head _
      · exact .tail _ (ih.2 p hp)⟩
theorem news_pick {h₀ h : Heap} {L : Addr} {a b : Addr × Obj} {l l1 l2 : List (Addr × Obj)} (p1 : Pick a l l1) (p2 : Pick b l1 l2) (N : News h₀ L h l) : News h₀ L h (a :: b :: l2) := fun p hp => N p (by
  rcases List.mem_cons.mp hp with rfl | hp
  · exact p1.mem.1
  rcases List.mem_cons.mp hp with rfl | hp
  · exact p1.mem.2 _ p2.mem.1
  · exact p1.mem.2 _ (p2.mem.2 p hp))
theorem known_get {prog : Program} {w : World} {A : Around} {E : Value → Shared → Prop} {s : Shared} {h₀ : Heap} {L : Addr} {news l : List (Addr × Obj)} {Q : Value → Shared → Prop} {value slice : PySem.Expr} {kd : Addr} {ko : Obj} {ns : List Int} {f : Int} {t : Tok}
    (N : News h₀ L s.heap news) (hm : (kd, ko) ∈ news) (K : Known prog w ko l ns) (hf : f ∈ ns) (h : ∀ tp, Made l f tp → Q (.ref tp) { s with toks := s.toks + 1 })
    (hs : subscripted slice false (.ref kd) (.int f t) = operate [.ref kd, .int f t] (getItem (.ref kd) (.int f t)) := by with_unfolding_all rfl) :
    wpAny (model prog w) A (subscriptTail value slice (.ref kd) (.int f t)) Q E s := by
  obtain ⟨kvs, h1, h2⟩ := K
  obtain ⟨tp, h3, h4⟩ := h2 f hf
  exact kdt_tail N hm h1 (kdt_getItem N hm h1 (intKind_is prog w f t) h3 (h tp h4)) hs
end Mine
namespace Mine
section
variable {prog : Program} {w : World} {A : Around} {E : Value → Shared → Prop} {s : Shared} {h₀ : Heap} {L : Addr} {m : Str → Option Value} {env : Env}
def SrcT (prog : Program) (w : World) (A : Around) (h₀ : Heap) (L : Addr) (m : Str → Option Value) (env : Env) (elt : PySem.Expr) (x : Str) (scope : Scope) (cl : List (Str × Addr)) (Fin : Shared → List Value → List (Addr × Obj) → Prop) (xv : Value) (s₁ : Shared) : Prop :=
  ∃ xt tx news P, xv = .str xt tx ∧ A.handled = none ∧ Fr h₀ L s₁.heap m ∧ News h₀ L s₁.heap news ∧ xt.cps.size ≤ sizeLine ∧ (∀ i v, SignAt xt i v → P i v) ∧
    ∀ s₂ : Shared, (∃ h, s₂ = { s₁ with heap := h }) → LCg.CompRest prog w A h₀ L m env elt x scope cl s₂ (fun _ => True) P (Fin s₂) xt.cps.size 0 [] news
theorem SrcT.mk {elt : PySem.Expr} {x : Str} {scope : Scope} {cl : List (Str × Addr)} {Fin : Shared → List Value → List (Addr × Obj) → Prop} {xt : Str} {tx : Tok} {news : List (Addr × Obj)} {s₁ : Shared} (cs : List Nat) (its : Tok → List Value) (n : Nat)
    (hc : xt.cps = cs.toArray) (hi : ∀ t, its t = cs.map fun c => .str ⟨#[c]⟩ t) (hn : cs.length = n)
    (hh : A.handled = none) (F : Fr h₀ L s₁.heap m) (N : News h₀ L s₁.heap news) (hsz : n ≤ sizeLine)
    (h : ∀ g, LCg.CompRest prog w A h₀ L m env elt x scope cl { s₁ with heap := g } (fun _ => True) (fun i v => ∃ t, (its t).toArray[i]? = some v) (Fin { s₁ with heap := g }) n 0 [] news) :
    SrcT prog w A h₀ L m env elt x scope cl Fin (.str xt tx) s₁ := by
  have hs : xt.cps.size = n := by rw [hc, List.size_toArray, hn]
  subst hs
  refine ⟨xt, tx, news, _, rfl, hh, F, N, hsz, ?_, fun _ ⟨g, e⟩ => e ▸ h g⟩
  rintro i v ⟨c, t, hc', rfl⟩
  refine ⟨t, ?_⟩
  rw [hc] at hc'
  rw [hi t]
  simp at hc' ⊢
  exact hc'
theorem walks_weak {I : Addr} {fp Is : List Addr} {n : Nat} {P P' : Nat → Value → Prop} {St : Nat → Heap → Prop} (W : Walks prog w A I fp Is n P St) (h : ∀ i v, P i v → P' i v) : Walks prog w A I fp Is n P' St :=
  { sub := W.sub, frame := W.frame, done := W.done, self := W.self,
    item := fun i s Q E hi st hQ => W.item i s Q E hi st fun v h' tk hP => hQ v h' tk (h i v hP) }
theorem Assign_ListComp_T {elt iter : PySem.Expr} {x y : Str} {px py : Pos} {scope : Scope} {cl : List (Str × Addr)} {pos spos : Pos} {Q : Flow → Shared → Prop} (F₀ : Fr h₀ L s.heap m) (hLe : env.locals = L)
    (hsw : swapsWith (.ListComp elt [⟨.Name x px, iter, [], 0⟩] scope pos) (some (.Name y py)) spos.line env = pure true)
    (hclos : closureFor scope env = pure cl) (hcell : ∀ z ∈ scope.names, z.2 ≠ .cell) (hkind : scope.kind = .function)
    (hnames : ∀ z ∈ scope.names, z.2 = .local → scope.names.lookup z.1 = some .local) (hx : scope.names.lookup x = some .local)
    (hy : env.kindOf y = some .local) (hp : (env.scope.kind == .class || (env.scope.kind == .module && env.locals != env.globals)) = false)
    (h : wpAny (model prog w) A (eval iter env) (SrcT prog w A h₀ L m env elt x scope cl (fun s₂ => LCg.FinA h₀ L m s₂ y Q)) E s)
    (hs : ∀ x, foldedSetIterable iter env x = pure x := by intro _; rfl) :
    wpAny (model prog w) A (exec (.Assign [.Name y py] (.ListComp elt [⟨.Name x px, iter, [], 0⟩] scope pos) spos) env) Q E s := by
  subst hLe
  rw [exec_Assign_Name_used _ _ _ _ hsw]
  refine wpAny_bind (wpAny_standAt (wpAny_bind ?_))
  show wpAny _ A (do let _ ← comprehension (.ListComp elt [⟨.Name x px, iter, [], 0⟩] scope pos) scope env _ (newList []) false (eval iter env) (some (assign (.Name y py) env))) _ _ s
  refine wpAny_bind (wpAny_mono (wpAny_comprehension_free (use := some (assign (.Name y py) env)) (Q := fun _ s' => Q .next s') rfl hs hclos hkind hnames
    (wpAny_mono h (fun xv s₁ h₁ => ?_) fun _ _ e => e)) (fun _ s' hq => wpAny_pure (wpAny_pure hq)) fun _ _ e => e)
  obtain ⟨xt, tx, news, P, rfl, hh, F, N, hsz, hPP, R⟩ := h₁
  cases ha : xt.cps.all (· < 128)
  · refine wpAny_pyIter_wide ha ?_
    refine LCg.block_U (walks_weak (Walks.strWide hh s₁.heap.objs.size xt tx) hPP) hsz (fun i h st => let ⟨o, ho, _⟩ := st; ⟨o, ho⟩) (fun i h h' o nw st e e' _ _ _ => by obtain ⟨o', q, r⟩ := st; rw [e] at q; cases q; exact ⟨o, e', r⟩) hcell hkind hx ⟨_, Heap.get?_push_size _ rfl, rfl, rfl⟩ (fun b hb => ?_)
      (F.keeps fun _ _ e => Heap.get?_push_of_some _ e) (N.grown fun _ _ e => Heap.get?_push_of_some _ e) (Nat.ne_of_lt F.ns.lt) (next_is_new F) (fun p hp => Nat.ne_of_lt (Heap.lt_size (N p hp).1)) trivial (R _ ⟨_, rfl⟩) ?_
    · rw [List.mem_singleton.mp hb]
      show s₁.heap.objs.size < (s₁.heap.push _).objs.size
      rw [Heap.size_push]; exact Nat.lt_succ_self _
    · intro D C h' tk m' ys news' F' N' o1 hn hC₀ hD₀ hCL hDL hCD offC fin
      show wpAny _ A (assign (.Name y py) env (.ref D)) _ _ _
      refine wpAny_assign_Name (wpAny_storeName_local hy F'.ns (fun h₂ hn₂ hs₂ => ?_) hp)
      have hL₀ : h₀.get? env.locals = none := Heap.get?_none_of_le F'.above
      have F₂ : Fr h₀ env.locals h₂ (fun z => if z = y then some (.ref D) else m z) := ⟨hn₂, fun b o e => hs₂.extBut b o (fun q => by rw [q, hL₀] at e; cases e) (F'.keep b o e), F'.above⟩
      refine ⟨m', hn.sameBut hs₂ hCL, fun h'' hs'' => fin D h'' _ (F₂.change hs'' hCL hC₀) (fun p hp => ?_) o1⟩
      have z : h₂.get? p.1 = some p.2 := hs₂.extBut _ _ (N' p hp).2.1 (N' p hp).1
      refine ⟨hs''.extBut _ _ ?_ z, (N' p hp).2⟩
      rcases List.mem_cons.mp hp with rfl | hp
      · exact Ne.symm hCD
      · exact offC p hp
  · refine wpAny_pyIter_ascii ha ?_
    refine LCg.block_U (walks_weak (Walks.strAscii hh s₁.heap.objs.size xt tx) hPP) hsz (fun i h st => let ⟨o, ho, _⟩ := st; ⟨o, ho⟩) (fun i h h' o nw st e e' _ _ _ => by obtain ⟨o', q, r⟩ := st; rw [e] at q; cases q; exact ⟨o, e', r⟩) hcell hkind hx ⟨_, Heap.get?_push_size _ rfl, rfl, rfl⟩ (fun b hb => ?_)
      (F.keeps fun _ _ e => Heap.get?_push_of_some _ e) (N.grown fun _ _ e => Heap.get?_push_of_some _ e) (Nat.ne_of_lt F.ns.lt) (next_is_new F) (fun p hp => Nat.ne_of_lt (Heap.lt_size (N p hp).1)) trivial (R _ ⟨_, rfl⟩) ?_
    · rw [List.mem_singleton.mp hb]
      show s₁.heap.objs.size < (s₁.heap.push _).objs.size
      rw [Heap.size_push]; exact Nat.lt_succ_self _
    · intro D C h' tk m' ys news' F' N' o1 hn hC₀ hD₀ hCL hDL hCD offC fin
      show wpAny _ A (assign (.Name y py) env (.ref D)) _ _ _
      refine wpAny_assign_Name (wpAny_storeName_local hy F'.ns (fun h₂ hn₂ hs₂ => ?_) hp)
      have hL₀ : h₀.get? env.locals = none := Heap.get?_none_of_le F'.above
      have F₂ : Fr h₀ env.locals h₂ (fun z => if z = y then some (.ref D) else m z) := ⟨hn₂, fun b o e => hs₂.extBut b o (fun q => by rw [q, hL₀] at e; cases e) (F'.keep b o e), F'.above⟩
      refine ⟨m', hn.sameBut hs₂ hCL, fun h'' hs'' => fin D h'' _ (F₂.change hs'' hCL hC₀) (fun p hp => ?_) o1⟩
      have z : h₂.get? p.1 = some p.2 := hs₂.extBut _ _ (N' p hp).2.1 (N' p hp).1
      refine ⟨hs''.extBut _ _ ?_ z, (N' p hp).2⟩
      rcases List.mem_cons.mp hp with rfl | hp
      · exact Ne.symm hCD
      · exact offC p hp
end

theorem offI_all {I : Addr} {it : Obj} : ∀ {l : List (Addr × Obj)}, (∀ p ∈ l, p.1 ≠ I) → OffI I it l
  | [], _ => trivial
  | _ :: _, h => ⟨.inl (h _ List.mem_cons_self), offI_all fun p hp => h p (List.mem_cons_of_mem _ hp)⟩
end Mine
namespace Mine
inductive Sym : List Nat → List Int → List Int → Prop
  | nil {ns} : Sym [] ns []
  | par {r ns ss} : Sym r ns ss → Sym (40 :: r) ns (256 :: ss)
  | dot {r n ns ss} : Sym r ns ss → Sym (46 :: r) (n :: ns) (n :: ss)
inductive Runs (ns : List Int) (v : Int) : List Int → List Int → Prop
  | nil : Runs ns v [] [v]
  | prod {a b r st} : Fit a b → Runs ns v r (circ a b :: st) → Runs ns v (256 :: r) (a :: b :: st)
  | fac {f r st} : f ∈ ns → 7 ≤ f → f ≤ 54 → Runs ns v r (f :: st) → Runs ns v (f :: r) st
/-- a shape's text, set over the numbers ns, is worth v -/
def Shaped (x : Str) (ns : List Int) (v : Int) : Prop := ∃ cs ss, x.cps = cs.toArray ∧ cs.length ≤ 7 ∧ Sym cs ns ss ∧ Runs ns v ss.reverse []
theorem pr_one (a : Int) : (pr a).1 = a := rfl
section
variable {f0 f1 f2 f3 : Int} (b0 : 7 ≤ f0 ∧ f0 ≤ 54) (b1 : 7 ≤ f1 ∧ f1 ≤ 54) (b2 : 7 ≤ f2 ∧ f2 ≤ 54)
include b0 b1 b2
theorem sh3a : Shaped (Str.ofString "((...") [f0, f1, f2] (pm (pm (pr f0) (pr f1)) (pr f2)).1 := by
  have h1 := fit1 (a := f0) (b := f1) (by omega) b0.2 (by omega) b1.2
  have h2 := fit2' (a := circ f0 f1) (b := f2) h1.1.2.2.2.2.2.1 h1.2 (by omega) b2.2
  have e : (pm (pm (pr f0) (pr f1)) (pr f2)).1 = circ (circ f0 f1) f2 := by rw [← pr_circ h1.1, ← pr_circ h2.1]; rfl
  rw [e]
  refine ⟨[40,40,46,46,46], [256,256,f0,f1,f2], by decide +kernel, by decide, .par (.par (.dot (.dot (.dot .nil)))), ?_⟩
  show Runs _ _ [f2,f1,f0,256,256] []
  exact .fac (by simp) b2.1 b2.2 (.fac (by simp) b1.1 b1.2 (.fac (by simp) b0.1 b0.2 (.prod h1.1 (.prod h2.1 .nil))))
theorem sh3b : Shaped (Str.ofString "(.(..") [f0, f1, f2] (pm (pm (pr f0) (pr f1)) (pr f2)).1 := by
  have h1 := fit1 (a := f1) (b := f2) (by omega) b1.2 (by omega) b2.2
  have h2 := fit2 (a := f0) (b := circ f1 f2) (by omega) b0.2 h1.1.2.2.2.2.2.1 h1.2
  have e : (pm (pm (pr f0) (pr f1)) (pr f2)).1 = circ f0 (circ f1 f2) := by rw [pm_assoc, ← pr_circ h1.1, ← pr_circ h2.1]; rfl
  rw [e]
  refine ⟨[40,46,40,46,46], [256,f0,256,f1,f2], by decide +kernel, by decide, .par (.dot (.par (.dot (.dot .nil)))), ?_⟩
  show Runs _ _ [f2,f1,256,f0,256] []
  exact .fac (by simp) b2.1 b2.2 (.fac (by simp) b1.1 b1.2 (.prod h1.1 (.fac (by simp) b0.1 b0.2 (.prod h2.1 .nil))))
variable (b3 : 7 ≤ f3 ∧ f3 ≤ 54)
include b3
theorem sh4 {x : Str} (hx : x ∈ [Str.ofString "(((....", Str.ofString "((.(...", Str.ofString "((..(..", Str.ofString "(.((...", Str.ofString "(.(.(.."]) : Shaped x [f0, f1, f2, f3] (pm (pm (pm (pr f0) (pr f1)) (pr f2)) (pr f3)).1 := by
  have h01 := fit1 (a := f0) (b := f1) (by omega) b0.2 (by omega) b1.2
  have h12 := fit1 (a := f1) (b := f2) (by omega) b1.2 (by omega) b2.2
  have h23 := fit1 (a := f2) (b := f3) (by omega) b2.2 (by omega) b3.2
  have m0 : f0 ∈ [f0,f1,f2,f3] := by simp
  have m1 : f1 ∈ [f0,f1,f2,f3] := by simp
  have m2 : f2 ∈ [f0,f1,f2,f3] := by simp
  have m3 : f3 ∈ [f0,f1,f2,f3] := by simp
  simp only [List.mem_cons, List.not_mem_nil, or_false] at hx
  rcases hx with rfl | rfl | rfl | rfl | rfl
  · have h2 := fit2' (a := circ f0 f1) (b := f2) h01.1.2.2.2.2.2.1 h01.2 (by omega) b2.2
    have h3 := fit3' (a := circ (circ f0 f1) f2) (b := f3) h2.1.2.2.2.2.2.1 h2.2 (by omega) b3.2
    have e : (pm (pm (pm (pr f0) (pr f1)) (pr f2)) (pr f3)).1 = circ (circ (circ f0 f1) f2) f3 := by rw [← pr_circ h01.1, ← pr_circ h2.1, ← pr_circ h3]; rfl
    rw [e]
    refine ⟨[40,40,40,46,46,46,46], [256,256,256,f0,f1,f2,f3], by decide +kernel, by decide, .par (.par (.par (.dot (.dot (.dot (.dot .nil)))))), ?_⟩
    show Runs _ _ [f3,f2,f1,f0,256,256,256] []
    exact .fac m3 b3.1 b3.2 (.fac m2 b2.1 b2.2 (.fac m1 b1.1 b1.2 (.fac m0 b0.1 b0.2 (.prod h01.1 (.prod h2.1 (.prod h3 .nil))))))
  · have h2 := fit2 (a := f0) (b := circ f1 f2) (by omega) b0.2 h12.1.2.2.2.2.2.1 h12.2
    have h3 := fit3' (a := circ f0 (circ f1 f2)) (b := f3) h2.1.2.2.2.2.2.1 h2.2 (by omega) b3.2
    have e : (pm (pm (pm (pr f0) (pr f1)) (pr f2)) (pr f3)).1 = circ (circ f0 (circ f1 f2)) f3 := by rw [pm_assoc (pr f0), ← pr_circ h12.1, ← pr_circ h2.1, ← pr_circ h3]; rfl
    rw [e]
    refine ⟨[40,40,46,40,46,46,46], [256,256,f0,256,f1,f2,f3], by decide +kernel, by decide, .par (.par (.dot (.par (.dot (.dot (.dot .nil)))))), ?_⟩
    show Runs _ _ [f3,f2,f1,256,f0,256,256] []
    exact .fac m3 b3.1 b3.2 (.fac m2 b2.1 b2.2 (.fac m1 b1.1 b1.2 (.prod h12.1 (.fac m0 b0.1 b0.2 (.prod h2.1 (.prod h3 .nil))))))
  · have h3 := fit22 (a := circ f0 f1) (b := circ f2 f3) h01.1.2.2.2.2.2.1 h01.2 h23.1.2.2.2.2.2.1 h23.2
    have e : (pm (pm (pm (pr f0) (pr f1)) (pr f2)) (pr f3)).1 = circ (circ f0 f1) (circ f2 f3) := by rw [pm_assoc _ (pr f2), ← pr_circ h01.1, ← pr_circ h23.1, ← pr_circ h3]; rfl
    rw [e]
    refine ⟨[40,40,46,46,40,46,46], [256,256,f0,f1,256,f2,f3], by decide +kernel, by decide, .par (.par (.dot (.dot (.par (.dot (.dot .nil)))))), ?_⟩
    show Runs _ _ [f3,f2,256,f1,f0,256,256] []
    exact .fac m3 b3.1 b3.2 (.fac m2 b2.1 b2.2 (.prod h23.1 (.fac m1 b1.1 b1.2 (.fac m0 b0.1 b0.2 (.prod h01.1 (.prod h3 .nil))))))
  · have h2 := fit2' (a := circ f1 f2) (b := f3) h12.1.2.2.2.2.2.1 h12.2 (by omega) b3.2
    have h3 := fit3 (a := f0) (b := circ (circ f1 f2) f3) (by omega) b0.2 h2.1.2.2.2.2.2.1 h2.2
    have e : (pm (pm (pm (pr f0) (pr f1)) (pr f2)) (pr f3)).1 = circ f0 (circ (circ f1 f2) f3) := by rw [pm_assoc (pr f0), pm_assoc (pr f0), ← pr_circ h12.1, ← pr_circ h2.1, ← pr_circ h3]; rfl
    rw [e]
    refine ⟨[40,46,40,40,46,46,46], [256,f0,256,256,f1,f2,f3], by decide +kernel, by decide, .par (.dot (.par (.par (.dot (.dot (.dot .nil)))))), ?_⟩
    show Runs _ _ [f3,f2,f1,256,256,f0,256] []
    exact .fac m3 b3.1 b3.2 (.fac m2 b2.1 b2.2 (.fac m1 b1.1 b1.2 (.prod h12.1 (.prod h2.1 (.fac m0 b0.1 b0.2 (.prod h3 .nil))))))
  · have h2 := fit2 (a := f1) (b := circ f2 f3) (by omega) b1.2 h23.1.2.2.2.2.2.1 h23.2
    have h3 := fit3 (a := f0) (b := circ f1 (circ f2 f3)) (by omega) b0.2 h2.1.2.2.2.2.2.1 h2.2
    have e : (pm (pm (pm (pr f0) (pr f1)) (pr f2)) (pr f3)).1 = circ f0 (circ f1 (circ f2 f3)) := by rw [pm_assoc (pr f0), pm_assoc (pr f0), pm_assoc (pr f1), ← pr_circ h23.1, ← pr_circ h2.1, ← pr_circ h3]; rfl
    rw [e]
    refine ⟨[40,46,40,46,40,46,46], [256,f0,256,f1,256,f2,f3], by decide +kernel, by decide, .par (.dot (.par (.dot (.par (.dot (.dot .nil)))))), ?_⟩
    show Runs _ _ [f3,f2,256,f1,256,f0,256] []
    exact .fac m3 b3.1 b3.2 (.fac m2 b2.1 b2.2 (.prod h23.1 (.fac m1 b1.1 b1.2 (.prod h2.1 (.fac m0 b0.1 b0.2 (.prod h3 .nil))))))
end
/-- the sums of places, number by number -/
def dueL (ns : List Int) : List Int := ns.foldl (fun l n => grow l (zk 40 n)) [-2]
theorem due_go : ∀ (ns : List Int) (l : List Int), (∀ n ∈ ns, 7 ≤ n ∧ n ≤ 54) → (∀ s ∈ l, -2 ≤ s) → psum (ns.foldl (fun l n => grow l (zk 40 n)) l) = ns.foldl (fun x n => pm x (pr n)) (psum l) ∧ ∀ s ∈ ns.foldl (fun l n => grow l (zk 40 n)) l, -2 ≤ s
  | [], l, _, h => ⟨rfl, h⟩
  | n :: ns, l, hn, h => by
    have b := hn n (.head _)
    have q := due_go ns (grow l (zk 40 n)) (fun m hm => hn m (.tail _ hm)) (fun s hs => by have := grow_lo h s hs; omega)
    rw [psum_grow_zk (by omega) (by omega) h] at q
    exact q
theorem due_pos {ns : List Int} {n : Int} (h : ∀ m ∈ ns ++ [n], 7 ≤ m ∧ m ≤ 54) : ∀ s ∈ dueL (ns ++ [n]), 0 ≤ s := by
  unfold dueL
  rw [List.foldl_append]
  exact grow_lo (due_go ns [-2] (fun m hm => h m (List.mem_append_left _ hm)) (by simp)).2
theorem psum_sum : ∀ l : List Int, (∀ s ∈ l, 0 ≤ s) → (l.map fun k => fb (k.toNat + 2)).sum = (psum l).1
  | [], _ => rfl
  | s :: r, h => by
    have h0 := h s (.head _)
    have ih := psum_sum r fun x hx => h x (.tail _ hx)
    have e : (psum (s :: r)).1 = fb (s + 2).toNat + (psum r).1 := rfl
    rw [List.map_cons, List.sum_cons, ih, e, show (s + 2).toNat = s.toNat + 2 by omega]
end Mine
namespace Mine
theorem due3 {f0 f1 f2 : Int} (b0 : 7 ≤ f0 ∧ f0 ≤ 54) (b1 : 7 ≤ f1 ∧ f1 ≤ 54) (b2 : 7 ≤ f2 ∧ f2 ≤ 54) : (psum (dueL [f0, f1, f2])).1 = (pm (pm (pr f0) (pr f1)) (pr f2)).1 ∧ ∀ s ∈ dueL [f0, f1, f2], 0 ≤ s ∧ s < 40 := by
  have hb : ∀ n ∈ [f0, f1, f2], 7 ≤ n ∧ n ≤ 54 := by
    intro n hn
    simp only [List.mem_cons, List.not_mem_nil, or_false] at hn
    rcases hn with rfl | rfl | rfl <;> assumption
  have h := (due_go [f0, f1, f2] [-2] hb (by simp)).1
  have e : psum (dueL [f0, f1, f2]) = pm (pm (pr f0) (pr f1)) (pr f2) := by
    refine h.trans ?_
    show pm (pm (pm (psum [-2]) (pr f0)) (pr f1)) (pr f2) = _
    rw [pm_one]
  refine ⟨by rw [e], psum_index (due_pos (ns := [f0, f1]) hb) ?_⟩
  show (psum (dueL [f0, f1, f2])).1 < _
  rw [e]
  have h1 := fit1 (a := f0) (b := f1) (by omega) b0.2 (by omega) b1.2
  have h2 := fit2' (a := circ f0 f1) (b := f2) h1.1.2.2.2.2.2.1 h1.2 (by omega) b2.2
  have e : (pm (pm (pr f0) (pr f1)) (pr f2)).1 = circ (circ f0 f1) f2 := by rw [← pr_circ h1.1, ← pr_circ h2.1]; rfl
  rw [e]; exact h2.1.2.2.2.2.2.2
theorem due4 {f0 f1 f2 f3 : Int} (b0 : 7 ≤ f0 ∧ f0 ≤ 54) (b1 : 7 ≤ f1 ∧ f1 ≤ 54) (b2 : 7 ≤ f2 ∧ f2 ≤ 54) (b3 : 7 ≤ f3 ∧ f3 ≤ 54) : (psum (dueL [f0, f1, f2, f3])).1 = (pm (pm (pm (pr f0) (pr f1)) (pr f2)) (pr f3)).1 ∧ ∀ s ∈ dueL [f0, f1, f2, f3], 0 ≤ s ∧ s < 40 := by
  have hb : ∀ n ∈ [f0, f1, f2, f3], 7 ≤ n ∧ n ≤ 54 := by
    intro n hn
    simp only [List.mem_cons, List.not_mem_nil, or_false] at hn
    rcases hn with rfl | rfl | rfl | rfl <;> assumption
  have h := (due_go [f0, f1, f2, f3] [-2] hb (by simp)).1
  have e : psum (dueL [f0, f1, f2, f3]) = pm (pm (pm (pr f0) (pr f1)) (pr f2)) (pr f3) := by
    refine h.trans ?_
    show pm (pm (pm (pm (psum [-2]) (pr f0)) (pr f1)) (pr f2)) (pr f3) = _
    rw [pm_one]
  refine ⟨by rw [e], psum_index (due_pos (ns := [f0, f1, f2]) hb) ?_⟩
  show (psum (dueL [f0, f1, f2, f3])).1 < _
  rw [e]
  have h1 := fit1 (a := f0) (b := f1) (by omega) b0.2 (by omega) b1.2
  have h2 := fit2' (a := circ f0 f1) (b := f2) h1.1.2.2.2.2.2.1 h1.2 (by omega) b2.2
  have h3 := fit3' (a := circ (circ f0 f1) f2) (b := f3) h2.1.2.2.2.2.2.1 h2.2 (by omega) b3.2
  have e : (pm (pm (pm (pr f0) (pr f1)) (pr f2)) (pr f3)).1 = circ (circ (circ f0 f1) f2) f3 := by rw [← pr_circ h1.1, ← pr_circ h2.1, ← pr_circ h3]; rfl
  rw [e]; exact h3.2.2.2.2.2.2
/-- what the law asks, in plain words: both shapes are worth the due, and the due's places stand in the list -/
theorem law_plain {fns : List Int} {b : Prop} {x y : Str} (hb : ∀ f ∈ fns, 7 ≤ f ∧ f ≤ 54) (hl : (b ∧ fns.length = 4) ∨ (¬ b ∧ fns.length = 3))
    (hs : (b ∧ x ∈ [Str.ofString "(((....", Str.ofString "((.(...", Str.ofString "((..(..", Str.ofString "(.((...", Str.ofString "(.(.(.."] ∧ y ∈ [Str.ofString "(((....", Str.ofString "((.(...", Str.ofString "((..(..", Str.ofString "(.((...", Str.ofString "(.(.(.."]) ∨ (¬ b ∧ x = Str.ofString "((..." ∧ y = Str.ofString "(.(..")) :
    Shaped x fns (psum (dueL fns)).1 ∧ Shaped y fns (psum (dueL fns)).1 ∧ ∀ s ∈ dueL fns, 0 ≤ s ∧ s < 40 := by
  rcases hl with ⟨h1, h2⟩ | ⟨h1, h2⟩
  · rcases hs with ⟨_, hx, hy⟩ | ⟨h, _⟩
    · match fns, h2 with
      | [f0, f1, f2, f3], _ =>
        have b0 := hb f0 (by simp)
        have b1 := hb f1 (by simp)
        have b2 := hb f2 (by simp)
        have b3 := hb f3 (by simp)
        have h := due4 b0 b1 b2 b3
        rw [h.1]
        exact ⟨sh4 b0 b1 b2 b3 hx, sh4 b0 b1 b2 b3 hy, h.2⟩
    · exact absurd h1 h
  · rcases hs with ⟨h, _⟩ | ⟨_, rfl, rfl⟩
    · exact absurd h h1
    · match fns, h2 with
      | [f0, f1, f2], _ =>
        have b0 := hb f0 (by simp)
        have b1 := hb f1 (by simp)
        have b2 := hb f2 (by simp)
        have h := due3 b0 b1 b2
        rw [h.1]
        exact ⟨sh3a b0 b1 b2, sh3b b0 b1 b2, h.2⟩
end Mine
namespace Mine
section
variable {prog : Program} {w : World} {A : Around} {E : Value → Shared → Prop} {s : Shared} {env : Env} {h₀ : Heap} {x : Str} {body : List Stmt} {Q : Flow → Shared → Prop}
theorem my_loop2 {σ : Type} {I : Addr} {fp : List Addr} {n : Nat} {Pv : Nat → Value → Prop} {St : Nat → Heap → Prop} {m₀ : Str → Option Value}
    (Led : σ → List (Addr × Obj)) (ps : σ → List (Str × Value)) (stored : List Str) (P : Nat → σ → Prop) (c₀ : σ)
    (Io : Obj → Prop) (W : Walks prog w A I fp [I] n Pv St) (hLf : env.locals ∉ fp) (hI : h₀.get? I = none) (hnI : ∀ p ∈ Led c₀, p.1 ≠ I)
    (hfp : ∀ b ∈ fp, b = I ∨ (h₀.get? b).isSome = true ∨ ∃ o, ∀ c, (b, o) ∈ Led c) (hst : St 0 s.heap) (hSt : ∀ i h, St i h → ∃ io, h.get? I = some io ∧ Io io)
    (F : Fr h₀ env.locals s.heap m₀) (N : News h₀ env.locals s.heap (Led c₀)) (hk : ∀ p ∈ ps c₀, m₀ p.1 = some p.2) (hp : P 0 c₀)
    (turn : ∀ (c : σ) (i : Nat) (v : Value) (u : Str → Option Value) h tk io, i < n → Io io → Pv i v → P i c → (∀ p ∈ Led c, p.1 ≠ I) →
      Fr h₀ env.locals h (fun y => if y = x then some v else kstB (fun z => if stored.contains z then u z else m₀ z) (ps c) y) → News h₀ env.locals h ((I, io) :: Led c) →
      wpAny (model prog w) A (execs body env) (MPost h₀ env.locals I Led ps x stored m₀ (P (i + 1)) io { s with heap := h, toks := tk } Q) E { s with heap := h, toks := tk })
    (done : ∀ (c : σ) (u : Str → Option Value) h tk, P n c → Fr h₀ env.locals h (fun y => if y = x then u y else kstB (fun z => if stored.contains z then u z else m₀ z) (ps c) y) → News h₀ env.locals h (Led c) → Q .next { s with heap := h, toks := tk }) :
    LoopAtV prog w A h₀ env x body Q E (.ref I) s := by
  let J : Nat → (Str → Option Value) → List (Addr × Obj) → Prop := fun i m nx => ∃ c : σ, nx = Led c ∧ (∀ p ∈ ps c, m p.1 = some p.2) ∧ (∀ z, z ≠ x → (∀ p ∈ ps c, z ≠ p.1) → stored.contains z = false → m z = m₀ z) ∧ P i c
  refine ⟨I, fp, [I], n, Pv, St, m₀, Led c₀, J, rfl, W, hLf, fun b hb => (List.mem_singleton.mp hb) ▸ hI, fun p hp hq => hnI p hp (List.mem_singleton.mp hq), hst, F, N, ⟨c₀, rfl, hk, fun _ _ _ _ => rfl, hp⟩, ?_, ?_⟩
  · rintro i v m₁ nx s₁ own ⟨hh', tk', rfl⟩ hin hP ⟨c, rfl, h1, h2, hPc⟩ hoff hown hget hall hst' F₁ N₁
    have hoff' : ∀ p ∈ Led c, p.1 ≠ I := fun p hp e => hoff p hp (List.mem_singleton.mpr e)
    have hIfp : I ∈ fp := W.sub I (List.mem_singleton.mpr rfl)
    -- the iterator has an object
    obtain ⟨io, hio, hIo⟩ := hSt _ _ hst'
    have hmem : (I, io) ∈ own := hall I hIfp hI io hio
    have N₂ : News h₀ env.locals hh' ((I, io) :: Led c) := fun p hp => by
      rcases List.mem_cons.mp hp with rfl | hp
      · exact N₁ _ (List.mem_append_left _ hmem)
      · exact N₁ _ (List.mem_append_right _ hp)
    refine wpAny_mono (turn c i v m₁ hh' tk' io hin hIo hP hPc hoff' (kst_fr h1 h2 F₁) N₂) (fun f s₂ p => ?_) fun _ _ e => e
    have fin : MEnd h₀ env.locals I Led ps x stored m₀ (P (i + 1)) io { s with heap := hh', toks := tk' } s₂ → LoopStepU h₀ env.locals [I] own (J (i + 1)) { s with heap := hh', toks := tk' } .next s₂ := by
      rintro ⟨c', h', tk, m', news', rfl, F', N', hn, ho, ha, hk', hr, hp'⟩
      refine ⟨rfl, h', tk, m', Led c', rfl, F', fun p hp => ?_, fun p hp hq => ha p hp (List.mem_singleton.mp hq), c', rfl, hk', hr, hp'⟩
      rcases List.mem_append.mp hp with hp | hp
      · rcases hfp p.1 (hown p hp) with e | e | ⟨o, e⟩
        · have q := hget p hp
          rw [e] at q
          have q2 : some io = some p.2 := hio.symm.trans q
          have : p = (I, io) := Prod.ext e (Option.some.inj q2).symm
          rw [this]; exact N' _ ho
        · have q := (N₁ p (List.mem_append_left _ hp)).2.2
          rw [q] at e; cases e
        · have q := hget p hp
          have q2 := (N₁ _ (List.mem_append_right _ (e c))).1
          have q3 : some o = some p.2 := q2.symm.trans q
          have : p = (p.1, o) := Prod.ext rfl (Option.some.inj q3).symm
          rw [this]; exact N' _ (hn _ (e c'))
      · exact N' p (hn p hp)
    cases f with
    | ret v => exact .ret p
    | brk => exact .brk p
    | next => exact .next (fin p)
    | cont => exact .cont (fin p)
  · rintro h' tk m' news' F' N' _ ⟨c, rfl, h1, h2, hp'⟩
    exact done c m' h' tk hp' (kst_frOut h1 h2 F') N'
theorem my_rev2 {σ : Type} {l D : Addr} {vs : List Value} {nn : Nat} {m₀ : Str → Option Value} (Led : σ → List (Addr × Obj)) (ps : σ → List (Str × Value)) (stored : List Str) (P : Nat → σ → Prop) (c₀ : σ)
    (hh : A.handled = none) (F : Fr h₀ env.locals s.heap m₀) (N : News h₀ env.locals s.heap ((D, revObj l ((vs.length : Int) - 1)) :: Led c₀)) (hD : ∀ p ∈ Led c₀, p.1 ≠ D) (hl : ∀ c, (l, listOf vs.toArray nn) ∈ Led c) (hk : ∀ p ∈ ps c₀, m₀ p.1 = some p.2) (hp : P 0 c₀)
    (turn : ∀ (c : σ) (i : Nat) (v : Value) (u : Str → Option Value) h tk io, i < vs.length → io.cls = .type "list_reverseiterator" → vs[vs.length - 1 - i]? = some v → P i c → (∀ p ∈ Led c, p.1 ≠ D) →
      Fr h₀ env.locals h (fun y => if y = x then some v else kstB (fun z => if stored.contains z then u z else m₀ z) (ps c) y) → News h₀ env.locals h ((D, io) :: Led c) →
      wpAny (model prog w) A (execs body env) (MPost h₀ env.locals D Led ps x stored m₀ (P (i + 1)) io { s with heap := h, toks := tk } Q) E { s with heap := h, toks := tk })
    (done : ∀ (c : σ) (u : Str → Option Value) h tk, P vs.length c → Fr h₀ env.locals h (fun y => if y = x then u y else kstB (fun z => if stored.contains z then u z else m₀ z) (ps c) y) → News h₀ env.locals h (Led c) → Q .next { s with heap := h, toks := tk }) :
    wpAny (model prog w) A (pyIter (.ref D)) (fun it s₂ => LoopAtV prog w A h₀ env x body Q E it s₂) E s := by
  have hD0 := N _ (List.mem_cons_self ..)
  have hl0 := N _ (List.mem_cons_of_mem _ (hl c₀))
  have hls : s.heap.IsList l vs.toArray := ⟨_, hl0.1, rfl, _, rfl⟩
  have hne : l ≠ D := hD _ (hl c₀)
  have hit : s.heap.IsRevIter D l ((vs.length : Int) - 1) := ⟨_, hD0.1, rfl, rfl⟩
  refine wpAny_pyIter_revIter hit ?_
  have W := Walks.listRev (prog := prog) (w := w) hh D l hne vs.toArray
  refine my_loop2 Led ps stored P c₀ (fun o => o.cls = .type "list_reverseiterator") W ?_ hD0.2.2 hD ?_ ⟨Nat.zero_le _, by simpa using hit, hls⟩ (fun i h st => let ⟨o, ho, hc, _⟩ := st.2.1; ⟨o, ho, hc⟩) F (fun p hp => N p (List.mem_cons_of_mem _ hp)) hk hp ?_ ?_
  · intro hm
    rcases List.mem_cons.mp hm with e | hm
    · exact hD0.2.1 e.symm
    · exact hl0.2.1 (List.mem_singleton.mp hm).symm
  · intro b hb
    rcases List.mem_cons.mp hb with e | hb
    · exact .inl e
    · exact .inr (.inr ⟨_, fun c => (List.mem_singleton.mp hb) ▸ hl c⟩)
  · exact fun c i v u h tk io hi ho hv hP hI F₁ N₁ => turn c i v u h tk io (by simpa using hi) ho (by simpa using hv) hP hI F₁ N₁
  · exact fun c u h tk hP F₁ N₁ => done c u h tk (by simpa using hP) F₁ N₁
end
section
variable {prog : Program} {w : World} {A : Around} {E : Value → Shared → Prop} {s : Shared} {h₀ : Heap} {L : Addr} {m : Str → Option Value} {env : Env} {news : List (Addr × Obj)}
/-- a comprehension's turns by an invariant -/
theorem comp_ind {elt : PySem.Expr} {x : Str} {scope : Scope} {cl : List (Str × Addr)} {S : List (Addr × Obj) → Prop} {P : Nat → Value → Prop} {Fin : List Value → List (Addr × Obj) → Prop} {n : Nat} (Inv : Nat → List Value → List (Addr × Obj) → Prop) (h0 : Inv 0 [] news)
    (turn : ∀ i ys nw, i < n → Inv i ys nw → ∀ v I oI C oC D m₂ h tk (E' : Value → Shared → Prop), P i v → LCg.NsObj oC m₂ → m₂ x = some v → Fr h₀ L h m → News h₀ L h ((I, oI) :: (C, oC) :: (D, LCg.lst ys) :: nw) → LCg.Off3 I C D nw → ((@Ne Nat I C) ∧ (@Ne Nat I D) ∧ (@Ne Nat C D)) →
      wpAny (model prog w) A (eval elt (compEnvC scope cl C env)) (LCg.CompEnd h₀ L m { s with heap := h, toks := tk } I oI C oC D (LCg.lst ys) S (fun y news' => Inv (i + 1) (ys ++ [y]) news')) E' { s with heap := h, toks := tk })
    (fin : ∀ ys nw, Inv n ys nw → Fin ys nw) : LCg.CompRest prog w A h₀ L m env elt x scope cl s S P Fin n 0 [] news := by
  have key : ∀ (j i : Nat) (ys : List Value) (nw : List (Addr × Obj)), i + j = n → Inv i ys nw → LCg.CompRest prog w A h₀ L m env elt x scope cl s S P Fin j i ys nw := by
    intro j
    induction j with
    | zero =>
      intro i ys nw hi hy
      have e : i = n := by omega
      subst e
      exact LCg.CompRest.zero (fin _ _ hy)
    | succ j ih =>
      intro i ys nw hi hy
      refine LCg.CompRest.succ ?_
      intro v I oI C oC D m₂ h tk E' hv hC hx F N off ne
      refine wpAny_mono (turn i ys nw (by omega) hy v I oI C oC D m₂ h tk E' hv hC hx F N off ne) (fun y s₂ hq => ?_) fun _ _ e => e
      obtain ⟨h', tk', nw', e, F', N', off', hS, hn⟩ := hq
      exact ⟨h', tk', nw', e, F', N', off', hS, ih (i + 1) _ _ (by omega) hn⟩
  exact key n 0 [] news (by omega) h0
theorem pop0 {D : Addr} {v : Value} {r : List Value} {n : Nat} {t : Tok} {news' : List (Addr × Obj)} {Q : Value → Shared → Prop} (F : Fr h₀ L s.heap m) (N : News h₀ L s.heap news) (U : Upd D (listOf (v :: r).toArray n) (listOf r.toArray (n + 1)) news news')
    (hz : r.length < sizeLine) (h : ∀ h', Fr h₀ L h' m → News h₀ L h' news' → Q v { s with heap := h' }) : wpAny (model prog w) A (call (.builtin "list.pop") [.ref D, .int 0 t]) Q E s := by
  refine kl_popAt F N (p := []) (q := r) (y := v) (k := 0) (by decide) ?_ (by simp [kl_cut]) U (by simp only [List.length_append, List.length_cons, List.length_nil]; omega) h
  simp [seqIndex?]
theorem popL {D : Addr} {v : Value} {r : List Value} {n : Nat} {news' : List (Addr × Obj)} {Q : Value → Shared → Prop} (F : Fr h₀ L s.heap m) (N : News h₀ L s.heap news) (U : Upd D (listOf (r ++ [v]).toArray n) (listOf r.toArray (n + 1)) news news')
    (hz : r.length < sizeLine) (h : ∀ h', Fr h₀ L h' m → News h₀ L h' news' → Q v { s with heap := h' }) : wpAny (model prog w) A (call (.builtin "list.pop") [.ref D]) Q E s :=
  kl_pop F N (p := r) (y := v) (kpa_last v r) U (by simp only [List.length_append, List.length_cons, List.length_nil]; omega) h
end
def SymInv (cks : List Nat) (ss : List Int) (wt : Addr) (r0 : List (Addr × Obj)) (i : Nat) (ys : List Value) (nw : List (Addr × Obj)) : Prop :=
  ∃ (fl : List Value) (gl s1 s2 : List Int) (n' : Nat), nw = (wt, listOf fl.toArray n') :: r0 ∧ IntsAre fl gl ∧ gl.length ≤ 4 ∧ Sym (cks.drop i) gl s2 ∧ IntsAre ys s1 ∧ ss = s1 ++ s2
theorem drop_at {α : Type} {l : List α} {i : Nat} {a : α} (h : l[i]? = some a) : l.drop i = a :: l.drop (i + 1) := by
  obtain ⟨hi, e⟩ := List.getElem?_eq_some_iff.mp h
  rw [← e, List.drop_eq_getElem_cons hi]
theorem sign40 : (⟨#[40]⟩ : Str) = Str.ofString "(" := by decide +kernel
theorem sign46 : (⟨#[46]⟩ : Str) = Str.ofString "." := by decide +kernel
theorem comp_sym {prog : Program} {w : World} {A : Around} {s : Shared} {h₀ : Heap} {L : Addr} {m : Str → Option Value} {env : Env} {elt : PySem.Expr} {x : Str} {scope : Scope} {cl : List (Str × Addr)} {S : List (Addr × Obj) → Prop} {P : Nat → Value → Prop} {Fin : List Value → List (Addr × Obj) → Prop}
    {cks : List Nat} {ss fns : List Int} {fvs : List Value} {wt : Addr} {n0 : Nat} {r0 : List (Addr × Obj)} (hIf : IntsAre fvs fns) (hfz : fns.length ≤ 4) (hSy : Sym cks fns ss)
    (turn : ∀ i ys nw, i < cks.length → SymInv cks ss wt r0 i ys nw → ∀ v I oI C oC D m₂ h tk (E' : Value → Shared → Prop), P i v → LCg.NsObj oC m₂ → m₂ x = some v → Fr h₀ L h m → News h₀ L h ((I, oI) :: (C, oC) :: (D, LCg.lst ys) :: nw) → LCg.Off3 I C D nw → ((@Ne Nat I C) ∧ (@Ne Nat I D) ∧ (@Ne Nat C D)) →
      wpAny (model prog w) A (eval elt (compEnvC scope cl C env)) (LCg.CompEnd h₀ L m { s with heap := h, toks := tk } I oI C oC D (LCg.lst ys) S (fun y news' => SymInv cks ss wt r0 (i + 1) (ys ++ [y]) news')) E' { s with heap := h, toks := tk })
    (fin : ∀ ys nw, SymInv cks ss wt r0 cks.length ys nw → Fin ys nw) : LCg.CompRest prog w A h₀ L m env elt x scope cl s S P Fin cks.length 0 [] ((wt, listOf fvs.toArray n0) :: r0) :=
  comp_ind (SymInv cks ss wt r0) ⟨fvs, fns, [], ss, _, rfl, hIf, hfz, hSy, .nil, rfl⟩ turn fin
theorem ints_push {k : Int} {t : Tok} : ∀ {vs : List Value} {l : List Int}, IntsAre vs l → IntsAre (vs ++ [.int k t]) (l ++ [k])
  | _, _, .nil => .cons k t .nil
  | _, _, .cons a u r => .cons a u (ints_push r)
structure WS where
  st : List (Int × Addr)
  np : Nat
  fs : List Value
  nf : Nat
  R : List (Addr × Obj)
def pileV (st : List (Int × Addr)) : List Value := (st.map fun x => Value.ref x.2).reverse
theorem pileV_cons (x : Int × Addr) (st : List (Int × Addr)) : pileV (x :: st) = pileV st ++ [.ref x.2] := by simp [pileV]
def WLed (pile sy fin rab nv : Nat) (sys vs : List Value) (c : WS) : List (Addr × Obj) :=
  (pile, listOf (pileV c.st).toArray c.np) :: (sy, LCg.lst sys) :: (fin, listOf c.fs.toArray c.nf) :: (rab, listOf vs.toArray nv) :: c.R
theorem news_worth {h₀ h : Heap} {L : Addr} {a b c d e f g : Addr × Obj} {r : List (Addr × Obj)} (N : News h₀ L h (a :: b :: c :: d :: e :: f :: g :: r)) : News h₀ L h (a :: b :: c :: f :: g :: r) := fun p hp => N p (by
  rcases List.mem_cons.mp hp with rfl | hp
  · exact .head _
  rcases List.mem_cons.mp hp with rfl | hp
  · exact .tail _ (.head _)
  rcases List.mem_cons.mp hp with rfl | hp
  · exact .tail _ (.tail _ (.head _))
  · exact .tail _ (.tail _ (.tail _ (.tail _ (.tail _ hp)))))
def WP (rest : List (Addr × Obj)) (fns : List Int) (v : Int) (ss : List Int) (fs : List Value) (fin pile : Nat) (i : Nat) (c : WS) : Prop :=
  Runs fns v (ss.reverse.drop i) (c.st.map Prod.fst) ∧ (∀ x ∈ c.st, Made c.R x.1 x.2) ∧ (∀ p ∈ rest, p ∈ c.R) ∧ AllNe fin c.R ∧ AllNe pile c.R ∧ c.fs.length ≤ fs.length + 2 * i ∧ (∀ x ∈ c.fs, x = Value.bool true) ∧ c.st.length ≤ i
theorem Sym.len {c : List Nat} {n s : List Int} (h : Sym c n s) : s.length = c.length := by
  induction h with
  | nil => rfl
  | par _ ih => exact congrArg (· + 1) ih
  | dot _ ih => exact congrArg (· + 1) ih
theorem news_rot {h₀ h : Heap} {L : Addr} {a b c d e : Addr × Obj} {r : List (Addr × Obj)} (N : News h₀ L h (a :: b :: c :: d :: e :: r)) : News h₀ L h (d :: e :: a :: b :: c :: r) := fun p hp => N p (by
  rcases List.mem_cons.mp hp with rfl | hp
  · exact .tail _ (.tail _ (.tail _ (.head _)))
  rcases List.mem_cons.mp hp with rfl | hp
  · exact .tail _ (.tail _ (.tail _ (.tail _ (.head _))))
  rcases List.mem_cons.mp hp with rfl | hp
  · exact .head _
  rcases List.mem_cons.mp hp with rfl | hp
  · exact .tail _ (.head _)
  rcases List.mem_cons.mp hp with rfl | hp
  · exact .tail _ (.tail _ (.head _))
  · exact .tail _ (.tail _ (.tail _ (.tail _ (.tail _ hp)))))
theorem made_name {l : List (Addr × Obj)} {n : Int} {tp : Addr} (h : Made l n tp) : ∃ tq, tq = tp ∧ Made l n tq := ⟨tp, rfl, h⟩
theorem off1_all {D : Addr} : ∀ {l : List (Addr × Obj)}, LCg.Off1 D l → ∀ p ∈ l, p.1 ≠ D
  | [], _ => fun _ h => nomatch h
  | _ :: _, h => List.forall_mem_cons.mpr ⟨h.1, off1_all h.2⟩
end Mine
namespace Mine
theorem compTurn_two0 (elt t0 i0 t1 i1 : PySem.Expr) (scope : Scope) (pos : Pos) (it acc : Value) (env : Env) :
    compTurn (.ListComp elt [⟨t0, i0, [], 0⟩, ⟨t1, i1, [], 0⟩] scope pos) 0 it acc env = (standAt i0.pos >>= fun _ => pyNext it >>= fun r => match r with
      | none => pure (.done .next)
      | some v => letOwnedTupleGo t0 it v >>= fun _ => assign t0 env v >>= fun _ => eval i1 env >>= fun x => standAt i1.pos >>= fun _ => foldedSetIterable i1 env x >>= fun x =>
          holding [x] (pyIter x) >>= fun it2 => runOwn (.compStart (.ListComp elt [⟨t0, i0, [], 0⟩, ⟨t1, i1, [], 0⟩] scope pos) 1 it2 acc env) env >>= fun _ =>
          again (.compLoop (.ListComp elt [⟨t0, i0, [], 0⟩, ⟨t1, i1, [], 0⟩] scope pos) 0 it acc env)) := by rfl
theorem compTurn_two1 (elt t0 i0 t1 i1 : PySem.Expr) (scope : Scope) (pos : Pos) (it acc : Value) (env : Env) :
    compTurn (.ListComp elt [⟨t0, i0, [], 0⟩, ⟨t1, i1, [], 0⟩] scope pos) 1 it acc env = (standAt i1.pos >>= fun _ => pyNext it >>= fun r => match r with
      | none => pure (.done .next)
      | some v => letOwnedTupleGo t1 it v >>= fun _ => assign t1 env v >>= fun _ =>
        (eval elt env >>= fun x => call (.builtin "list.append") [acc, x] >>= fun _ => pure ()) >>= fun _ =>
          again (.compLoop (.ListComp elt [⟨t0, i0, [], 0⟩, ⟨t1, i1, [], 0⟩] scope pos) 1 it acc env)) := by rfl
section
variable {prog : Program} {w : World} {A : Around} {R : Result → Shared → Prop} {s : Shared}
theorem codeAny_two0 {elt t0 i0 t1 i1 : PySem.Expr} {scope : Scope} {pos : Pos} {it acc : Value} {env : Env} (I : Nat → Shared → Prop)
    (turn : ∀ n s, I n s → wpAny (model prog w) A (pyNext it) (fun r s₁ => match r with
      | none => R (.ok .next) s₁
      | some v => wpAny (model prog w) A (assign t0 env v) (fun _ s₂ => wpAny (model prog w) A (eval i1 env) (fun x s₃ => wpAny (model prog w) A (pyIter x) (fun it2 s₄ =>
          codeAny (model prog w) A (.compStart (.ListComp elt [⟨t0, i0, [], 0⟩, ⟨t1, i1, [], 0⟩] scope pos) 1 it2 acc env) (fun r s' => match r with | .ok _ => ∃ m, m < n ∧ I m s' | .error _ => False) s₄)
          (notedBy (model prog w) A env fun e s' => R (.error e) s') s₃)
          (notedBy (model prog w) A env fun e s' => R (.error e) s') s₂) (notedBy (model prog w) A env fun e s' => R (.error e) s') s₁) (notedBy (model prog w) A env fun e s' => R (.error e) s') s)
    (n : Nat) (h : I n s) (ht : ∀ v, letOwnedTupleGo t0 it v = pure () := by intro _; rfl) (hs : ∀ x, foldedSetIterable i1 env x = pure x := by intro _; rfl) :
    codeAny (model prog w) A (.compLoop (.ListComp elt [⟨t0, i0, [], 0⟩, ⟨t1, i1, [], 0⟩] scope pos) 0 it acc env) R s := by
  refine codeAny_loop rfl I (fun n s hI => ?_) n h
  show wpAny _ _ ((compTurn (.ListComp elt [⟨t0, i0, [], 0⟩, ⟨t1, i1, [], 0⟩] scope pos) 0 it acc env).onRaise (fun x => do noteFrame x env; theTreesLotGoes x)) _ _ s
  refine wpAny_noted ?_
  rw [compTurn_two0]
  refine wpAny_bind (wpAny_standAt (wpAny_bind (wpAny_mono (turn n s hI) (fun r s₁ h₁ => ?_) fun _ _ h' => h')))
  cases r with
  | none => exact wpAny_pure h₁
  | some v =>
    refine wpAny_bind (wpAny_of_eq (ht v) ?_)
    refine wpAny_bind (wpAny_mono h₁ (fun _ s₂ h₂ => wpAny_bind (wpAny_mono h₂ (fun x s₃ h₃ => wpAny_bind (wpAny_standAt (wpAny_bind (wpAny_of_eq (hs x) (wpAny_bind (wpAny_holding (wpAny_mono h₃ (fun it2 s₄ h₄ => ?_) fun _ _ h' => h'))))))) fun _ _ h' => h')) fun _ _ h' => h')
    refine wpAny_bind (wpAny_runOwn (codeAny_mono h₄ fun r s' hr => ?_))
    cases r with
    | ok f => exact wpAny_pure ⟨rfl, hr⟩
    | error e => exact hr.elim
theorem codeAny_two1 {elt t0 i0 t1 i1 : PySem.Expr} {scope : Scope} {pos : Pos} {it acc : Value} {env : Env} (I : Nat → Shared → Prop)
    (turn : ∀ n s, I n s → wpAny (model prog w) A (pyNext it) (fun r s₁ => match r with
      | none => R (.ok .next) s₁
      | some v => wpAny (model prog w) A (assign t1 env v) (fun _ s₂ => wpAny (model prog w) A (eval elt env) (fun x s₃ =>
          wpAny (model prog w) A (call (.builtin "list.append") [acc, x]) (fun _ s₄ => ∃ m, m < n ∧ I m s₄) (notedBy (model prog w) A env fun e s' => R (.error e) s') s₃)
          (notedBy (model prog w) A env fun e s' => R (.error e) s') s₂) (notedBy (model prog w) A env fun e s' => R (.error e) s') s₁) (notedBy (model prog w) A env fun e s' => R (.error e) s') s)
    (n : Nat) (h : I n s) (ht : ∀ v, letOwnedTupleGo t1 it v = pure () := by intro _; rfl) :
    codeAny (model prog w) A (.compLoop (.ListComp elt [⟨t0, i0, [], 0⟩, ⟨t1, i1, [], 0⟩] scope pos) 1 it acc env) R s := by
  refine codeAny_loop rfl I (fun n s hI => ?_) n h
  show wpAny _ _ ((compTurn (.ListComp elt [⟨t0, i0, [], 0⟩, ⟨t1, i1, [], 0⟩] scope pos) 1 it acc env).onRaise (fun x => do noteFrame x env; theTreesLotGoes x)) _ _ s
  refine wpAny_noted ?_
  rw [compTurn_two1]
  refine wpAny_bind (wpAny_standAt (wpAny_bind (wpAny_mono (turn n s hI) (fun r s₁ h₁ => ?_) fun _ _ h' => h')))
  cases r with
  | none => exact wpAny_pure h₁
  | some v =>
    refine wpAny_bind (wpAny_of_eq (ht v) ?_)
    exact wpAny_bind (wpAny_mono h₁ (fun _ s₂ h₂ => wpAny_bind (wpAny_bind (wpAny_mono h₂ (fun x s₃ h₃ => wpAny_bind (wpAny_mono h₃
      (fun _ s₄ h₄ => wpAny_pure (wpAny_pure ⟨rfl, h₄⟩)) fun _ _ h' => h')) fun _ _ h' => h'))) fun _ _ h' => h')
theorem codeAny_twoStart {elt t0 i0 t1 i1 : PySem.Expr} {scope : Scope} {pos : Pos} {it acc : Value} {env : Env}
    (h0 : codeAny (model prog w) A (.compLoop (.ListComp elt [⟨t0, i0, [], 0⟩, ⟨t1, i1, [], 0⟩] scope pos) 1 it acc env) R s)
    (h : wpAny (model prog w) A (pyIter it) (fun it' s' => codeAny (model prog w) A (.compLoop (.ListComp elt [⟨t0, i0, [], 0⟩, ⟨t1, i1, [], 0⟩] scope pos) 1 it' acc env) R s')
      (notedBy (model prog w) A env fun x s' => R (.error x) s') s) :
    codeAny (model prog w) A (.compStart (.ListComp elt [⟨t0, i0, [], 0⟩, ⟨t1, i1, [], 0⟩] scope pos) 1 it acc env) R s := by
  refine codeAny_of_tree ?_
  show wpAny _ _ ((compStart (.ListComp elt [⟨t0, i0, [], 0⟩, ⟨t1, i1, [], 0⟩] scope pos) 1 it acc env).onRaise (fun x => do noteFrame x env; standAt theWindowsPlace)) _ _ s
  refine wpAny_notedAt ?_
  unfold compStart
  show wpAny _ _ (ask >>= _) _ _ s
  refine wpAny_bind (wpAny_askSetting (wpAny_ite ?_))
  split
  · first
      | exact wpAny_bind (wpAny_pure (wpAny_pure (And.intro rfl h0)))
      | exact wpAny_pure (And.intro rfl h0)
  · refine wpAny_bind (wpAny_rule ?_); show wpAny _ _ (standAt i1.pos >>= _) _ _ s; exact wpAny_bind (wpAny_standAt (wpAny_bind (wpAny_mono h (fun it' s' h' => wpAny_pure (And.intro rfl h')) fun _ _ x => x)))
end
end Mine
namespace Mine
section
variable {prog : Program} {w : World} {A : Around} {E : Value → Shared → Prop} {s : Shared} {h₀ : Heap} {L : Addr} {m : Str → Option Value} {env : Env}
/-- the inner turns of a comprehension with two clauses, over a list of ints -/
theorem two_in {elt t0 i0 i1 : PySem.Expr} {x z : Str} {pz : Pos} {scope : Scope} {pos : Pos} {cl : List (Str × Addr)} {C D pl : Addr} {np : Nat} {ps ys : List Value} {pn l0 : List Int} {a : Int} {ta : Tok} {m₂ : Str → Option Value} {nw : List (Addr × Obj)} {R : Result → Shared → Prop}
    (hh : A.handled = none) (hz : scope.names.lookup z = some .local) (hkind : scope.kind = .function) (hzx : x ≠ z) (hpl : (pl, listOf ps.toArray np) ∈ nw) (hP : IntsAre ps pn)
    (F : Fr h₀ L s.heap m) (N : News h₀ L s.heap ((D, LCg.lst ys) :: nw)) (hC : s.heap.Ns C m₂) (hx2 : m₂ x = some (.int a ta)) (hCL : C ≠ L) (hC₀ : h₀.get? C = none) (hCD : C ≠ D) (off : ∀ p ∈ nw, p.1 ≠ C ∧ p.1 ≠ D) (hys : IntsAre ys l0) (hsz : ys.length + ps.length ≤ sizeLine)
    (h3 : ∀ b tb oC m₃ ys' h tk (Q E' : Value → Shared → Prop), LCg.NsObj oC m₃ → m₃ x = some (.int a ta) → m₃ z = some (.int b tb) → Fr h₀ L h m → News h₀ L h ((C, oC) :: (D, LCg.lst ys') :: nw) → (∀ t tk', Q (.int (a + b + 2) t) { s with heap := h, toks := tk' }) →
      wpAny (model prog w) A (eval elt (compEnvC scope cl C env)) Q E' { s with heap := h, toks := tk })
    (done : ∀ h tk ys' m₃, Fr h₀ L h m → News h₀ L h ((D, LCg.lst ys') :: nw) → h.Ns C m₃ → IntsAre ys' (l0 ++ pn.map fun b => a + b + 2) → R (.ok .next) { s with heap := h, toks := tk }) :
    wpAny (model prog w) A (pyIter (.ref pl)) (fun it s' => codeAny (model prog w) A (.compStart (.ListComp elt [⟨t0, i0, [], 0⟩, ⟨.Name z pz, i1, [], 0⟩] scope pos) 1 it (.ref D) (compEnvC scope cl C env)) R s') E s := by
  have hpl0 := N _ (List.mem_cons_of_mem _ hpl)
  have hls : s.heap.IsList pl ps.toArray := ⟨_, hpl0.1, rfl, _, rfl⟩
  have hll : pl < s.heap.objs.size := Heap.lt_size hpl0.1
  have hne : pl ≠ s.heap.objs.size := Nat.ne_of_lt hll
  have hlen := hP.length
  refine wpAny_pyIter_list hls ?_
  obtain ⟨oC0, hoC0, _⟩ := LCg.ns_obj hC
  have hCI : C ≠ s.heap.objs.size := Nat.ne_of_lt (Heap.lt_size hoC0)
  have hDI : D ≠ s.heap.objs.size := Nat.ne_of_lt (Heap.lt_size (N _ List.mem_cons_self).1)
  have hD0 := N _ List.mem_cons_self
  have hI₀ : h₀.get? s.heap.objs.size = none := next_is_new F
  have hIL : L ≠ s.heap.objs.size := Nat.ne_of_lt F.ns.lt
  have W := Walks.list (prog := prog) (w := w) hh s.heap.objs.size pl hne ps.toArray
  have up : ∀ b o, s.heap.get? b = some o → (s.heap.push { cls := .type "list_iterator", data := .fields #[.ref pl, .int 0 0] }).get? b = some o := fun b o e => Heap.get?_push_of_some _ e
  have offI : ∀ p ∈ nw, p.1 ≠ s.heap.objs.size := fun p hp => Nat.ne_of_lt (Heap.lt_size (N _ (List.mem_cons_of_mem _ hp)).1)
  have hplC := off _ hpl
  have loop : codeAny (model prog w) A (.compLoop (.ListComp elt [⟨t0, i0, [], 0⟩, ⟨.Name z pz, i1, [], 0⟩] scope pos) 1 (.ref s.heap.objs.size) (.ref D) (compEnvC scope cl C env)) R
      { s with heap := s.heap.push { cls := .type "list_iterator", data := .fields #[.ref pl, .int 0 0] } } := by
    refine codeAny_two1 (fun k s' => ∃ h' tk i ys' m₃, s' = { s with heap := h', toks := tk } ∧ i ≤ ps.length ∧ k = ps.length + 1 - i ∧ (h'.IsListIter s.heap.objs.size pl i ∧ h'.IsList pl ps.toArray) ∧ Fr h₀ L h' m ∧ News h₀ L h' ((D, LCg.lst ys') :: nw) ∧ h'.Ns C m₃ ∧ m₃ x = some (.int a ta) ∧
      IntsAre ys' (l0 ++ (pn.take i).map fun b => a + b + 2)) ?_ (ps.length + 1)
      ⟨_, _, 0, ys, m₂, rfl, Nat.zero_le _, rfl, ⟨⟨_, Heap.get?_push_size _ rfl, rfl, rfl⟩, hls.at fun o e => up _ o e⟩, F.keeps up, N.grown up, hC.at' fun o e => up _ o e, hx2, by simpa using hys⟩
    rintro k s' ⟨h', tk, i, ys', m₃, rfl, hi, rfl, hst', F', N', hC', hx', hys'⟩
    by_cases hlt : i < ps.length
    · refine W.item i _ _ _ (by simpa using hlt) hst' fun v h₂ tk₂ hPv hst₂ hk₂ => ?_
      have hPv' : ps[i]? = some v := by simpa using hPv
      obtain ⟨b, tb, rfl, hb⟩ := IntsAre.at hP i v hPv'
      refine wpAny_assign_Name (wpAny_storeName_local (lookup_relabel_local hz) (hC'.at' fun o e => hk₂ _ o (by simpa using hCI) e) (fun h₃ hn₃ hs₃ => ?_) (by simp [compEnvC, relabel, hkind]))
      have F₃ : Fr h₀ L h₃ m := (LCg.fr_but F' hk₂ hIL hI₀).change hs₃ hCL hC₀
      have N₂ : News h₀ L h₂ ((D, LCg.lst ys') :: nw) := LCg.news_but N' hk₂ fun p hp => by
        rcases List.mem_cons.mp hp with rfl | hp
        · exact hDI
        · exact offI p hp
      obtain ⟨oC, heC, hoC⟩ := LCg.ns_obj hn₃
      have N₃ : News h₀ L h₃ ((C, oC) :: (D, LCg.lst ys') :: nw) := fun p hp => by
        rcases List.mem_cons.mp hp with rfl | hp
        · exact ⟨heC, hCL, hC₀⟩
        · have q := N₂ p hp
          refine ⟨hs₃.extBut _ _ ?_ q.1, q.2⟩
          rcases List.mem_cons.mp hp with rfl | hp
          · exact Ne.symm hCD
          · exact (off p hp).1
      have hst₃ : h₃.IsListIter s.heap.objs.size pl (i + 1) ∧ h₃.IsList pl ps.toArray := W.frame _ _ _ hst₂ fun b hb o e => hs₃.extBut b o (fun q => by
        have q' : b = C := q
        rcases List.mem_cons.mp hb with hb | hb
        · exact hCI (q'.symm.trans hb)
        · exact hplC.1 ((List.mem_singleton.mp hb).symm.trans q')) e
      refine h3 b tb oC _ ys' h₃ _ _ _ hoC (by simpa [hzx] using hx') (by simp) F₃ N₃ fun t tk' => ?_
      have zD := (N₃ (D, LCg.lst ys') (List.mem_cons_of_mem _ List.mem_cons_self)).1
      have hyl := hys'.length
      rw [List.length_append, List.length_map, List.length_take, ← hys.length] at hyl
      refine append_at (hsz := by show ys'.toArray.size ≤ sizeLine; rw [List.size_toArray]; omega) zD fun h₅ hs₅ hD₅ => ?_
      refine ⟨ps.length + 1 - (i + 1), by omega, h₅, tk', i + 1, ys' ++ [.int (a + b + 2) t], _, rfl, hlt, rfl, ?_, F₃.change hs₅ hD0.2.1 hD0.2.2, ?_, (hoC.ns heC).sameBut hs₅ hCD, by simpa [hzx] using hx', ?_⟩
      · exact W.frame _ _ _ hst₃ fun b hb o e => hs₅.extBut b o (fun q => by
          have q' : b = D := q
          rcases List.mem_cons.mp hb with hb | hb
          · exact hDI (q'.symm.trans hb)
          · exact hplC.2 ((List.mem_singleton.mp hb).symm.trans q')) e
      · intro p hp
        rcases List.mem_cons.mp hp with rfl | hp
        · exact ⟨hD₅.trans (congrArg some (LCg.lst_snoc ys' _)), hD0.2⟩
        · have q := N₃ p (List.mem_cons_of_mem _ (List.mem_cons_of_mem _ hp))
          exact ⟨hs₅.extBut _ _ (off p hp).2 q.1, q.2⟩
      · rw [List.take_add_one, hb, Option.toList_some, List.map_append, ← List.append_assoc]
        exact ints_push hys'
    · obtain rfl : i = ps.length := Nat.le_antisymm hi (Nat.not_lt.mp hlt)
      refine W.done _ _ _ (by simpa using hst') fun h₂ tk₂ hk₂ => ?_
      refine done h₂ tk₂ ys' m₃ (LCg.fr_but F' hk₂ hIL hI₀) (LCg.news_but N' hk₂ fun p hp => ?_) (hC'.at' fun o e => hk₂ _ o (by simpa using hCI) e) ?_
      · rcases List.mem_cons.mp hp with rfl | hp
        · exact hDI
        · exact offI p hp
      · rwa [hlen, List.take_length] at hys'
  exact codeAny_twoStart loop (W.self 0 _ _ _ ⟨⟨_, Heap.get?_push_size _ rfl, rfl, rfl⟩, hls.at fun o e => up _ o e⟩ loop)
end
end Mine
namespace Mine
section
variable {prog : Program} {w : World} {A : Around} {E : Value → Shared → Prop} {s : Shared} {h₀ : Heap} {L : Addr} {m : Str → Option Value} {env : Env}
theorem mul_succ_le {i n k : Nat} (h : i < n) : i * k + k ≤ n * k := by
  have := Nat.mul_le_mul_right k (Nat.succ_le_of_lt h)
  rwa [Nat.succ_mul] at this
theorem flat_len {f : Int → List Int} {k : Nat} (h : ∀ a, (f a).length = k) : ∀ l : List Int, (l.flatMap f).length = l.length * k
  | [] => by simp
  | a :: r => by rw [List.flatMap_cons, List.length_append, h, flat_len h r, List.length_cons, Nat.succ_mul, Nat.add_comm]
theorem Assign_two {elt i0 i1 : PySem.Expr} {x y z : Str} {px py pz : Pos} {scope : Scope} {cl : List (Str × Addr)} {pos spos : Pos} {Q : Flow → Shared → Prop} {sa pl : Addr} {nsv np : Nat} {svs ps : List Value} {sn pn : List Int} {news : List (Addr × Obj)}
    (hh : A.handled = none) (F₀ : Fr h₀ L s.heap m) (hLe : env.locals = L) (N₀ : News h₀ L s.heap news) (hsa : (sa, listOf svs.toArray nsv) ∈ news) (hS : IntsAre svs sn) (hpl : (pl, listOf ps.toArray np) ∈ news) (hP : IntsAre ps pn)
    (hsw : swapsWith (.ListComp elt [⟨.Name x px, i0, [], 0⟩, ⟨.Name z pz, i1, [], 0⟩] scope pos) (some (.Name y py)) spos.line env = pure true)
    (hclos : closureFor scope env = pure cl) (hcell : ∀ z ∈ scope.names, z.2 ≠ .cell) (hkind : scope.kind = .function)
    (hnames : ∀ z ∈ scope.names, z.2 = .local → scope.names.lookup z.1 = some .local) (hx : scope.names.lookup x = some .local) (hz : scope.names.lookup z = some .local) (hzx : x ≠ z)
    (hy : env.kindOf y = some .local) (hp : (env.scope.kind == .class || (env.scope.kind == .module && env.locals != env.globals)) = false)
    (hsz : svs.length * ps.length ≤ sizeLine)
    (h1 : ∀ (Q E' : Value → Shared → Prop), Q (.ref sa) s → wpAny (model prog w) A (eval i0 env) Q E' s)
    (h2 : ∀ a ta oC m₂ C D I oI ys h tk (Q E' : Value → Shared → Prop), LCg.NsObj oC m₂ → m₂ x = some (.int a ta) → Fr h₀ L h m → News h₀ L h ((C, oC) :: (D, LCg.lst ys) :: (I, oI) :: news) → (∀ tk', Q (.ref pl) { s with heap := h, toks := tk' }) →
      wpAny (model prog w) A (eval i1 (compEnvC scope cl C env)) Q E' { s with heap := h, toks := tk })
    (h3 : ∀ a ta b tb oC m₃ C D I oI ys h tk (Q E' : Value → Shared → Prop), LCg.NsObj oC m₃ → m₃ x = some (.int a ta) → m₃ z = some (.int b tb) → Fr h₀ L h m → News h₀ L h ((C, oC) :: (D, LCg.lst ys) :: (I, oI) :: news) → (∀ t tk', Q (.int (a + b + 2) t) { s with heap := h, toks := tk' }) →
      wpAny (model prog w) A (eval elt (compEnvC scope cl C env)) Q E' { s with heap := h, toks := tk })
    (fin : ∀ D h tk ys, IntsAre ys (sn.flatMap fun a => pn.map fun b => a + b + 2) → Fr h₀ L h (fun q => if q = y then some (.ref D) else m q) → News h₀ L h ((D, LCg.lst ys) :: news) → (∀ p ∈ news, p.1 ≠ D) → Q .next { s with heap := h, toks := tk })
    (hs : ∀ x, foldedSetIterable i0 env x = pure x := by intro _; rfl) (hs1 : ∀ x env, foldedSetIterable i1 env x = pure x := by intro _ _; rfl) :
    wpAny (model prog w) A (exec (.Assign [.Name y py] (.ListComp elt [⟨.Name x px, i0, [], 0⟩, ⟨.Name z pz, i1, [], 0⟩] scope pos) spos) env) Q E s := by
  subst hLe
  rw [exec_Assign_Name_used _ _ _ _ hsw]
  refine wpAny_bind (wpAny_standAt (wpAny_bind ?_))
  show wpAny _ A (do let _ ← comprehension (.ListComp elt [⟨.Name x px, i0, [], 0⟩, ⟨.Name z pz, i1, [], 0⟩] scope pos) scope env _ (newList []) false (eval i0 env) (some (assign (.Name y py) env))) _ _ s
  refine wpAny_bind (wpAny_mono (wpAny_comprehension_free (use := some (assign (.Name y py) env)) (Q := fun _ s' => Q .next s') rfl hs hclos hkind hnames
    (h1 _ _ ?_)) (fun _ s' hq => wpAny_pure (wpAny_pure hq)) fun _ _ e => e)
  have hsa0 := N₀ _ hsa
  have hl : s.heap.IsList sa svs.toArray := ⟨_, hsa0.1, rfl, _, rfl⟩
  have hlt : sa < s.heap.objs.size := Heap.lt_size hsa0.1
  have hlenS := hS.length
  have hlenP := hP.length
  refine wpAny_pyIter_list hl ?_
  have W := Walks.list (prog := prog) (w := w) hh s.heap.objs.size sa (Nat.ne_of_lt hlt) svs.toArray
  generalize hI : s.heap.objs.size = I at W ⊢
  generalize hH1 : s.heap.push { cls := .type "list_iterator", data := .fields #[.ref sa, .int 0 0] } = H1
  have up1 : ∀ b o, s.heap.get? b = some o → H1.get? b = some o := fun b o e => hH1 ▸ Heap.get?_push_of_some _ e
  have hI1 : H1.get? I = some { cls := .type "list_iterator", data := .fields #[.ref sa, .int 0 0] } := by rw [← hH1, ← hI]; exact Heap.get?_push_size _ rfl
  have hs1z : H1.objs.size = I + 1 := by rw [← hH1, Heap.size_push, hI]
  have F : Fr h₀ env.locals H1 m := F₀.keeps up1
  have N : News h₀ env.locals H1 news := N₀.grown up1
  have hI₀ : h₀.get? I = none := hI ▸ next_is_new F₀
  have hIL : env.locals ≠ I := hI ▸ Nat.ne_of_lt F₀.ns.lt
  have offI : ∀ p ∈ news, p.1 ≠ I := fun p hp => hI ▸ Nat.ne_of_lt (Heap.lt_size (N₀ p hp).1)
  have hst : H1.IsListIter I sa 0 ∧ H1.IsList sa svs.toArray := ⟨⟨_, hI1, rfl, rfl⟩, hl.at fun o e => up1 _ o e⟩
  refine wpAny_newObj_type (wpAny_newFunctionEnv hcell (by intro y hy; simp at hy) (fun h₁ hns₁ hsb₁ => ?_) hkind)
  dsimp only at hns₁ hsb₁ ⊢
  generalize hH2 : H1.push { cls := .type "list", dict := none, data := .seq ([] : List Value).toArray } = H2 at hns₁ hsb₁ ⊢
  generalize hDz : H1.objs.size = D at hH2 ⊢
  have hC : H2.objs.size = D + 1 := by rw [← hH2, Heap.size_push, hDz]
  generalize hCz : H2.objs.size = C at hC hns₁ hsb₁ ⊢
  have below : ∀ b, b < D → b ≠ C ∧ b ≠ D := fun b hb => ⟨by rw [hC]; exact Nat.ne_of_lt (Nat.lt_succ_of_lt hb), Nat.ne_of_lt hb⟩
  have hDC : D ≠ C := by rw [hC]; exact Nat.ne_of_lt (Nat.lt_succ_self _)
  have ltD : ∀ b o, H1.get? b = some o → b < D := fun b o e => hDz ▸ Heap.lt_size e
  have old : ∀ b o, H1.get? b = some o → h₁.get? b = some o := fun b o e => hsb₁.extBut b o (below b (ltD b o e)).1 (Heap.get?_push_of_some _ (hH2 ▸ Heap.get?_push_of_some _ e))
  have hacc : h₁.get? D = some (LCg.lst []) := hsb₁.extBut _ _ hDC (Heap.get?_push_of_some _ (by rw [← hH2, ← hDz]; exact Heap.get?_push_size _ rfl))
  have hst₁ : h₁.IsListIter I sa 0 ∧ h₁.IsList sa svs.toArray := W.frame _ _ _ hst fun b _ o e => old b o e
  have fresh₀ : ∀ a, D ≤ a → h₀.get? a = none := fun a ha => by
    cases e : h₀.get? a with
    | none => rfl
    | some o' => exact absurd (ltD _ _ (F.keep a o' e)) (Nat.not_lt.mpr ha)
  have hD₀ : h₀.get? D = none := fresh₀ _ (Nat.le_refl _)
  have hC₀ : h₀.get? C = none := fresh₀ _ (by rw [hC]; exact Nat.le_succ _)
  have hLlt : env.locals < D := hDz ▸ F.ns.lt
  have hDL : D ≠ env.locals := Ne.symm (below _ hLlt).2
  have hCL : C ≠ env.locals := Ne.symm (below _ hLlt).1
  have hIlt : I < D := ltD _ _ hI1
  have hCI : I ≠ C := (below I hIlt).1
  have hDI : I ≠ D := (below I hIlt).2
  have offN : ∀ p ∈ news, p.1 ≠ C ∧ p.1 ≠ D := fun p hp => below _ (ltD _ _ (N p hp).1)
  have hsaD := offN _ hsa
  have loop : ∀ s₃ : Shared, s₃ = { s with heap := h₁, toks := s.toks + ([] : List (Str × Value)).length } →
      codeAny (model prog w) A (.compLoop (.ListComp elt [⟨.Name x px, i0, [], 0⟩, ⟨.Name z pz, i1, [], 0⟩] scope pos) 0 (.ref I) (.ref D) (compEnvC scope cl C env))
        (compPost (model prog w) A E (some (assign (.Name y py) env)) (fun _ s' => Q .next s') (.ref D) C) s₃ := by
    rintro s₃ rfl
    refine codeAny_two0 (hs := fun x => hs1 x _) (fun k s' => ∃ h' tk i ys m', s' = { s with heap := h', toks := tk } ∧ i ≤ svs.length ∧ k = svs.length + 1 - i ∧ (h'.IsListIter I sa i ∧ h'.IsList sa svs.toArray) ∧ Fr h₀ env.locals h' m ∧ News h₀ env.locals h' ((D, LCg.lst ys) :: news) ∧ h'.Ns C m' ∧
      IntsAre ys ((sn.take i).flatMap fun a => pn.map fun b => a + b + 2)) ?_ (svs.length + 1)
      ⟨h₁, _, 0, [], _, rfl, Nat.zero_le _, rfl, hst₁, F.keeps old, fun p hp => ?_, hns₁, .nil⟩
    · rintro k s' ⟨h', tk, i, ys, m', rfl, hi, rfl, hst', F', N', hn', hys⟩
      by_cases hlt : i < svs.length
      · refine W.item i _ _ _ (by simpa using hlt) hst' fun v h₂ tk₂ hPv hst₂ hk₂ => ?_
        have hPv' : svs[i]? = some v := by simpa using hPv
        obtain ⟨a, ta, rfl, ha⟩ := IntsAre.at hS i v hPv'
        refine wpAny_assign_Name (wpAny_storeName_local (lookup_relabel_local hx) (hn'.at' fun o e => hk₂ _ o (by simpa using Ne.symm hCI) e) (fun h₃ hn₃ hs₃ => ?_) (by simp [compEnvC, relabel, hkind]))
        have hst₃ : h₃.IsListIter I sa (i + 1) ∧ h₃.IsList sa svs.toArray := W.frame _ _ _ hst₂ fun b hb o e => hs₃.extBut b o (fun q => by
          have q' : b = C := q
          rcases List.mem_cons.mp hb with hb | hb
          · exact hCI (hb.symm.trans q')
          · exact hsaD.1 ((List.mem_singleton.mp hb).symm.trans q')) e
        have F₃ : Fr h₀ env.locals h₃ m := (LCg.fr_but F' hk₂ hIL hI₀).change hs₃ hCL hC₀
        have N₂ : News h₀ env.locals h₂ ((D, LCg.lst ys) :: news) := LCg.news_but N' hk₂ fun p hp => by
          rcases List.mem_cons.mp hp with rfl | hp
          · exact Ne.symm hDI
          · exact offI p hp
        obtain ⟨oI, heI, _⟩ := hst₃.1
        obtain ⟨oC, heC, hoC⟩ := LCg.ns_obj hn₃
        have N₃ : News h₀ env.locals h₃ ((D, LCg.lst ys) :: (I, oI) :: news) := fun p hp => by
          rcases List.mem_cons.mp hp with rfl | hp
          · have q := N₂ _ List.mem_cons_self
            exact ⟨hs₃.extBut _ _ hDC q.1, q.2⟩
          rcases List.mem_cons.mp hp with rfl | hp
          · exact ⟨heI, Ne.symm hIL, hI₀⟩
          · have q := N₂ p (List.mem_cons_of_mem _ hp)
            exact ⟨hs₃.extBut _ _ (offN p hp).1 q.1, q.2⟩
        have N₄ : News h₀ env.locals h₃ ((C, oC) :: (D, LCg.lst ys) :: (I, oI) :: news) := fun p hp => by
          rcases List.mem_cons.mp hp with rfl | hp
          · exact ⟨heC, hCL, hC₀⟩
          · exact N₃ p hp
        have hyl := hys.length
        rw [flat_len (k := ps.length) (fun a => by rw [List.length_map, hlenP]), List.length_take, ← hlenS, Nat.min_eq_left hi] at hyl
        have hml := mul_succ_le (k := ps.length) hlt
        refine h2 a ta oC _ C D I oI ys h₃ _ _ _ hoC (by simp) F₃ N₄ fun tk' => ?_
        refine two_in (s := { s with heap := h₃, toks := tk' }) (ys := ys) (nw := (I, oI) :: news) hh hz hkind hzx (List.mem_cons_of_mem _ hpl) hP F₃ N₃ hn₃ (if_pos rfl) hCL hC₀ (Ne.symm hDC) (fun p hp => ?_) hys (by omega)
          (fun b tb oC m₃ ys' h tk Q E' c1 c2 c3 c4 c5 c6 => h3 a ta b tb oC m₃ C D I oI ys' h tk Q E' c1 c2 c3 c4 c5 c6) fun h₅ tk₅ ys₅ m₅ F₅ N₅ hn₅ hys₅ => ?_
        · rcases List.mem_cons.mp hp with rfl | hp
          · exact ⟨hCI, hDI⟩
          · exact offN p hp
        · refine ⟨svs.length + 1 - (i + 1), by omega, h₅, tk₅, i + 1, ys₅, m₅, rfl, hlt, rfl, ?_, F₅, fun p hp => N₅ p ?_, hn₅, ?_⟩
          · refine ⟨?_, ⟨_, (N₅ _ (List.mem_cons_of_mem _ (List.mem_cons_of_mem _ hsa))).1, rfl, _, rfl⟩⟩
            obtain ⟨o', q, r⟩ := hst₃.1
            rw [heI] at q; cases q
            exact ⟨oI, (N₅ _ (List.mem_cons_of_mem _ List.mem_cons_self)).1, r⟩
          · rcases List.mem_cons.mp hp with rfl | hp
            · exact List.mem_cons_self
            · exact List.mem_cons_of_mem _ (List.mem_cons_of_mem _ hp)
          · rw [List.take_add_one, ha, Option.toList_some, List.flatMap_append]
            simpa using hys₅
      · obtain rfl : i = svs.length := Nat.le_antisymm hi (Nat.not_lt.mp hlt)
        refine W.done _ _ _ (by simpa using hst') fun h₂ tk₂ hk₂ => ?_
        have N₂ : News h₀ env.locals h₂ ((D, LCg.lst ys) :: news) := LCg.news_but N' hk₂ fun p hp => by
          rcases List.mem_cons.mp hp with rfl | hp
          · exact Ne.symm hDI
          · exact offI p hp
        have F₂ : Fr h₀ env.locals h₂ m := LCg.fr_but F' hk₂ hIL hI₀
        have hn₂ : h₂.Ns C m' := hn'.at' fun o e => hk₂ _ o (by simpa using Ne.symm hCI) e
        rw [hlenS, List.take_length] at hys
        show wpAny _ A (assign (.Name y py) env (.ref D)) _ _ _
        refine wpAny_assign_Name (wpAny_storeName_local hy F₂.ns (fun h₃ hn₃ hs₃ => ?_) hp)
        have hL₀ : h₀.get? env.locals = none := Heap.get?_none_of_le F₂.above
        have F₃ : Fr h₀ env.locals h₃ (fun q => if q = y then some (.ref D) else m q) := ⟨hn₃, fun b o e => hs₃.extBut b o (fun q => by rw [q, hL₀] at e; cases e) (F₂.keep b o e), F₂.above⟩
        refine ⟨m', hn₂.sameBut hs₃ hCL, fun h'' hs'' => fin D h'' _ ys hys (F₃.change hs'' hCL hC₀) (fun p hp => ?_) (fun p hp => (offN p hp).2)⟩
        have q : h₃.get? p.1 = some p.2 := hs₃.extBut _ _ (N₂ p hp).2.1 (N₂ p hp).1
        refine ⟨hs''.extBut _ _ ?_ q, (N₂ p hp).2⟩
        rcases List.mem_cons.mp hp with rfl | hp
        · exact hDC
        · exact (offN p hp).1
    · rcases List.mem_cons.mp hp with rfl | hp
      · exact ⟨hacc, hDL, hD₀⟩
      · exact ⟨old _ _ (N p hp).1, (N p hp).2⟩
  exact codeAny_compStart_list (loop _ rfl) (W.self 0 _ _ _ hst₁ (loop _ rfl))
end
end Mine
namespace Mine
section
variable {prog : Program} {w : World} {A : Around} {E : Value → Shared → Prop} {s : Shared} {h₀ : Heap} {env : Env}
def CEnd {σ : Type} (h₀ : Heap) (L I fc : Addr) (io : Obj) (y : Str) (yv : σ → Value) (Led : σ → List (Addr × Obj)) (m₀ : Str → Option Value) (P : σ → Prop) (s₁ s₂ : Shared) : Prop :=
  ∃ (c : σ) (h' : Heap) (tk : Nat) (oc : Obj) (v : Option Value), s₂ = { s₁ with heap := h', toks := tk } ∧ Fr h₀ L h' (fun z => if z = y then some (yv c) else m₀ z) ∧ News h₀ L h' ((I, io) :: (fc, oc) :: Led c) ∧ oc.data = .cell v ∧ (∀ p ∈ Led c, p.1 ≠ I ∧ p.1 ≠ fc) ∧ P c
def CPost {σ : Type} (h₀ : Heap) (L I fc : Addr) (io : Obj) (y : Str) (yv : σ → Value) (Led : σ → List (Addr × Obj)) (m₀ : Str → Option Value) (P : σ → Prop) (s₁ : Shared) (Q : Flow → Shared → Prop) (f : Flow) (s₂ : Shared) : Prop :=
  match f with
  | .ret v => Q (.ret v) s₂
  | .brk => Q .next s₂
  | _ => CEnd h₀ L I fc io y yv Led m₀ P s₁ s₂
theorem For_cell {σ : Type} {Q : Flow → Shared → Prop} {x y : Str} {px pos : Pos} {iter : PySem.Expr} {body : List Stmt} {l fc : Addr} {nn : Nat} {vs : List Value} {oc₀ : Obj} {v₀ : Option Value} {m₀ : Str → Option Value}
    (yv : σ → Value) (Led : σ → List (Addr × Obj)) (P : Nat → σ → Prop) (c₀ : σ)
    (hh : A.handled = none) (hkx : env.scope.kind = .function) (hx : env.kindOf x = some .cell) (hc : env.cells.lookup x = some fc)
    (F : Fr h₀ env.locals s.heap (fun z => if z = y then some (yv c₀) else m₀ z)) (N : News h₀ env.locals s.heap ((fc, oc₀) :: Led c₀)) (hoc : oc₀.data = .cell v₀)
    (hl : ∀ c, (l, listOf vs.toArray nn) ∈ Led c) (hnf : ∀ p ∈ Led c₀, p.1 ≠ fc) (hp : P 0 c₀)
    (h1 : ∀ (Q E' : Value → Shared → Prop), Q (.ref l) s → wpAny (model prog w) A (eval iter env) Q E' s)
    (turn : ∀ (c : σ) (i : Nat) (v : Value) h tk I io oc, vs[i]? = some v → P i c → (∀ p ∈ Led c, p.1 ≠ I ∧ p.1 ≠ fc) → I ≠ fc → oc.data = .cell (some v) → Fr h₀ env.locals h (fun z => if z = y then some (yv c) else m₀ z) → News h₀ env.locals h ((I, io) :: (fc, oc) :: Led c) →
      wpAny (model prog w) A (execs body env) (CPost h₀ env.locals I fc io y yv Led m₀ (P (i + 1)) { s with heap := h, toks := tk } Q) E { s with heap := h, toks := tk })
    (done : ∀ (c : σ) h tk oc v, P vs.length c → Fr h₀ env.locals h (fun z => if z = y then some (yv c) else m₀ z) → News h₀ env.locals h ((fc, oc) :: Led c) → oc.data = .cell v → (∀ p ∈ Led c, p.1 ≠ fc) → Q .next { s with heap := h, toks := tk })
    (hs : ∀ x, foldedSetIterable iter env x = pure x := by intro _; rfl)
    (hE : PassesOwn (model prog w) A env E := by passes_own) :
    wpAny (model prog w) A (exec (.For (.Name x px) iter body [] pos) env) Q E s := by
  refine wpAny_For (h1 _ _ ?_) hs
  have hl0 := N _ (List.mem_cons_of_mem _ (hl c₀))
  have hls : s.heap.IsList l vs.toArray := ⟨_, hl0.1, rfl, _, rfl⟩
  refine wpAny_pyIter_list hls ?_
  have W := Walks.list (prog := prog) (w := w) hh s.heap.objs.size l (Nat.ne_of_lt (Heap.lt_size hl0.1)) vs.toArray
  generalize hI : s.heap.objs.size = I at W ⊢
  generalize hH1 : s.heap.push { cls := .type "list_iterator", data := .fields #[.ref l, .int 0 0] } = H1
  have up1 : ∀ b o, s.heap.get? b = some o → H1.get? b = some o := fun b o e => hH1 ▸ Heap.get?_push_of_some _ e
  have hI1 : H1.get? I = some { cls := .type "list_iterator", data := .fields #[.ref l, .int 0 0] } := by rw [← hH1, ← hI]; exact Heap.get?_push_size _ rfl
  have hI₀ : h₀.get? I = none := hI ▸ next_is_new F
  have hIL : env.locals ≠ I := hI ▸ Nat.ne_of_lt F.ns.lt
  have offI : ∀ p ∈ (fc, oc₀) :: Led c₀, p.1 ≠ I := fun p hp => hI ▸ Nat.ne_of_lt (Heap.lt_size (N p hp).1)
  have hIf : I ≠ fc := Ne.symm (offI _ List.mem_cons_self)
  have hst : H1.IsListIter I l 0 ∧ H1.IsList l vs.toArray := ⟨⟨_, hI1, rfl, rfl⟩, hls.at fun o e => up1 _ o e⟩
  have hfc0 := N _ List.mem_cons_self
  refine codeAny_forLoop (R := fun r s' => match r with | .ok f => Q f s' | .error e => cameBackBy (model prog w) A env E e s')
    (fun k s' => ∃ h' tk c i oc v, s' = { s with heap := h', toks := tk } ∧ i ≤ vs.length ∧ k = vs.length + 1 - i ∧ (h'.IsListIter I l i ∧ h'.IsList l vs.toArray) ∧ Fr h₀ env.locals h' (fun z => if z = y then some (yv c) else m₀ z) ∧ News h₀ env.locals h' ((fc, oc) :: Led c) ∧ oc.data = .cell v ∧
      (∀ p ∈ Led c, p.1 ≠ I ∧ p.1 ≠ fc) ∧ P i c) ?_ (vs.length + 1)
    ⟨H1, _, c₀, 0, oc₀, v₀, rfl, Nat.zero_le _, rfl, hst, F.keeps up1, N.grown up1, hoc, fun p hp => ⟨offI p (List.mem_cons_of_mem _ hp), hnf p hp⟩, hp⟩
  rintro k s' ⟨h', tk, c, i, oc, v', rfl, hi, rfl, hst', F', N', hoc', hoff, hP⟩
  have hfcI : ∀ p ∈ (fc, oc) :: Led c, p.1 ≠ I := fun p hp => by
    rcases List.mem_cons.mp hp with rfl | hp
    · exact Ne.symm hIf
    · exact (hoff p hp).1
  by_cases hlt : i < vs.length
  · refine W.item i _ _ _ (by simpa using hlt) hst' fun v h₂ tk₂ hPv hst₂ hk₂ => ?_
    have hPv' : vs[i]? = some v := by simpa using hPv
    have N₂ := LCg.news_but N' hk₂ hfcI
    have F₂ := LCg.fr_but F' hk₂ hIL hI₀
    have q0 := N₂ _ List.mem_cons_self
    refine wpAny_assign_Name (wpAny_storeName_cell hkx hx hc ⟨oc, q0.1, hoc'⟩ fun h₃ hc₃ hs₃ => ?_)
    obtain ⟨oc₃, hoc₃, hd₃⟩ := hc₃
    have hst₃ : h₃.IsListIter I l (i + 1) ∧ h₃.IsList l vs.toArray := W.frame _ _ _ hst₂ fun b hb o e => hs₃.extBut b o (fun q => by
      have q' : b = fc := q
      rcases List.mem_cons.mp hb with hb | hb
      · exact hIf (hb.symm.trans q')
      · exact (hoff _ (hl c)).2 ((List.mem_singleton.mp hb).symm.trans q')) e
    obtain ⟨io, hio, rio⟩ := hst₃.1
    have F₃ : Fr h₀ env.locals h₃ (fun z => if z = y then some (yv c) else m₀ z) := F₂.change hs₃ q0.2.1 q0.2.2
    have N₃ : News h₀ env.locals h₃ ((I, io) :: (fc, oc₃) :: Led c) := fun p hp => by
      rcases List.mem_cons.mp hp with rfl | hp
      · exact ⟨hio, Ne.symm hIL, hI₀⟩
      rcases List.mem_cons.mp hp with rfl | hp
      · exact ⟨hoc₃, q0.2⟩
      · have q := N₂ p (List.mem_cons_of_mem _ hp)
        exact ⟨hs₃.extBut _ _ (hoff p hp).2 q.1, q.2⟩
    refine wpAny_mono (wpAny_passesOwn hE (turn c i v h₃ _ I io oc₃ hPv' hP hoff hIf hd₃ F₃ N₃)) (fun f s₂ p => ?_) fun _ _ e => e
    have fin : CEnd h₀ env.locals I fc io y yv Led m₀ (P (i + 1)) { s with heap := h₃, toks := tk₂ } s₂ →
        ∃ m_1, m_1 < vs.length + 1 - i ∧ ∃ h' tk c i oc v, s₂ = { s with heap := h', toks := tk } ∧ i ≤ vs.length ∧ m_1 = vs.length + 1 - i ∧ (h'.IsListIter I l i ∧ h'.IsList l vs.toArray) ∧ Fr h₀ env.locals h' (fun z => if z = y then some (yv c) else m₀ z) ∧ News h₀ env.locals h' ((fc, oc) :: Led c) ∧ oc.data = .cell v ∧
          (∀ p ∈ Led c, p.1 ≠ I ∧ p.1 ≠ fc) ∧ P i c := by
      rintro ⟨c', h₄, tk₄, oc₄, v₄, rfl, F₄, N₄, hd₄, hoff₄, hP₄⟩
      refine ⟨vs.length + 1 - (i + 1), by omega, h₄, tk₄, c', i + 1, oc₄, v₄, rfl, hlt, rfl, ⟨⟨io, (N₄ _ List.mem_cons_self).1, rio⟩, ⟨_, (N₄ _ (List.mem_cons_of_mem _ (List.mem_cons_of_mem _ (hl c')))).1, rfl, _, rfl⟩⟩, F₄, fun p hp => N₄ p (List.mem_cons_of_mem _ hp), hd₄, hoff₄, hP₄⟩
    cases f with
    | ret v => exact p
    | brk => exact p
    | next => exact fin p
    | cont => exact fin p
  · obtain rfl : i = vs.length := Nat.le_antisymm hi (Nat.not_lt.mp hlt)
    refine W.done _ _ _ (by simpa using hst') fun h₂ tk₂ hk₂ => wpAny_execs_nil ?_
    exact done c h₂ tk₂ oc v' hP (LCg.fr_but F' hk₂ hIL hI₀) (LCg.news_but N' hk₂ hfcI) hoc' fun p hp => (hoff p hp).2
end
theorem news_swap {h₀ h : Heap} {L : Addr} {a b : Addr × Obj} {r : List (Addr × Obj)} (N : News h₀ L h (a :: b :: r)) : News h₀ L h (b :: a :: r) := fun p hp => N p (by
  rcases List.mem_cons.mp hp with rfl | hp
  · exact .tail _ (.head _)
  rcases List.mem_cons.mp hp with rfl | hp
  · exact .head _
  · exact .tail _ (.tail _ hp))
theorem known_at {prog : Program} {w : World} {A : Around} {E : Value → Shared → Prop} {s : Shared} {h₀ : Heap} {L : Addr} {news : List (Addr × Obj)} {Q : Value → Shared → Prop} {value slice : PySem.Expr} {kd : Addr} {ko : Obj} {kvs : List (Int × Value)} {f : Int} {t : Tok} {v : Value}
    (N : News h₀ L s.heap news) (hm : (kd, ko) ∈ news) (h1 : ko.IsDictOf (intKind prog w) kvs) (h3 : valueAt kvs f = some v) (h : Q v { s with toks := s.toks + 1 })
    (hs : subscripted slice false (.ref kd) (.int f t) = operate [.ref kd, .int f t] (getItem (.ref kd) (.int f t)) := by with_unfolding_all rfl) :
    wpAny (model prog w) A (subscriptTail value slice (.ref kd) (.int f t)) Q E s :=
  kdt_tail N hm h1 (kdt_getItem N hm h1 (intKind_is prog w f t) h3 h) hs
theorem fr_two {h₀ h : Heap} {L : Addr} {y : Str} {a b : Option Value} {m : Str → Option Value} (F : Fr h₀ L h (fun q => if q = y then a else (fun z => if z = y then b else m z) q)) : Fr h₀ L h (fun q => if q = y then a else m q) := by
  have e : (fun q => if q = y then a else (fun z => if z = y then b else m z) q) = (fun q => if q = y then a else m q) := by
    funext q
    by_cases h : q = y
    · rw [if_pos h, if_pos h]
    · rw [if_neg h, if_neg h]; exact if_neg h
  rwa [e] at F
theorem news_due {h₀ h : Heap} {L : Addr} {a b c d : Addr × Obj} {r : List (Addr × Obj)} (N : News h₀ L h (a :: b :: c :: d :: r)) : News h₀ L h (b :: c :: a :: r) := fun p hp => N p (by
  rcases List.mem_cons.mp hp with rfl | hp
  · exact .tail _ (.head _)
  rcases List.mem_cons.mp hp with rfl | hp
  · exact .tail _ (.tail _ (.head _))
  rcases List.mem_cons.mp hp with rfl | hp
  · exact .head _
  · exact .tail _ (.tail _ (.tail _ (.tail _ hp))))
theorem due_off {D I fc : Addr} {o io oc : Obj} {d : Addr × Obj} {r : List (Addr × Obj)} (h : ∀ p ∈ (I, io) :: (fc, oc) :: d :: r, p.1 ≠ D) (ho : ∀ p ∈ d :: r, p.1 ≠ I ∧ p.1 ≠ fc) : ∀ p ∈ (D, o) :: r, p.1 ≠ I ∧ p.1 ≠ fc := fun p hp => by
  rcases List.mem_cons.mp hp with rfl | hp
  · exact ⟨Ne.symm (h _ (.head _)), Ne.symm (h _ (.tail _ (.head _)))⟩
  · exact ho p (.tail _ hp)
theorem grow_eq (l : List Int) (n : List Nat) : (l.flatMap fun a => (n.map Int.ofNat).map fun b => a + b + 2) = grow l n := by
  unfold grow
  congr 1
  funext a
  rw [List.map_map]; rfl
theorem due_push {fns : List Int} {i : Nat} {f : Int} {ys : List Value} (hf : fns[i]? = some f) (h : IntsAre ys (((fns.take i).foldl (fun l n => grow l (zk 40 n)) [-2]).flatMap fun a => ((zk 40 f).map Int.ofNat).map fun b => a + b + 2)) :
    IntsAre ys ((fns.take (i + 1)).foldl (fun l n => grow l (zk 40 n)) [-2]) := by
  rw [List.take_add_one, hf, Option.toList_some, List.foldl_append]
  rw [grow_eq] at h
  exact h
theorem zk_len {n : Int} (h0 : 7 ≤ n) (h1 : n ≤ 54) : (zk 40 n).length ≤ 4 := by
  have all : ∀ k : Nat, k < 48 → (zk 40 (7 + (k : Int))).length ≤ 4 := by decide +kernel
  have := all (n - 7).toNat (by omega)
  rwa [show (7 + ((n - 7).toNat : Int)) = n by omega] at this
theorem due_len {fns : List Int} {i : Nat} {f : Int} {ys ys' : List Value} {l : List Int} (hb : ∀ f ∈ fns, 7 ≤ f ∧ f ≤ 54) (hf : fns[i]? = some f) (hyl : ys.length ≤ 4 ^ i) (h : IntsAre ys' (l.flatMap fun a => ((zk 40 f).map Int.ofNat).map fun b => a + b + 2)) (hys : IntsAre ys l) : ys'.length ≤ 4 ^ (i + 1) := by
  have b := hb f (List.mem_of_getElem? hf)
  have hz := zk_len b.1 b.2
  rw [h.length, flat_len (k := (zk 40 f).length) (fun a => by simp), ← hys.length, Nat.pow_succ]
  exact Nat.mul_le_mul hyl hz
theorem due_size {fns : List Int} {i : Nat} {f : Int} {ys ps : List Value} (hb : ∀ f ∈ fns, 7 ≤ f ∧ f ≤ 54) (hf : fns[i]? = some f) (hyl : ys.length ≤ 4 ^ i) (hp : IntsAre ps ((zk 40 f).map Int.ofNat)) (hs : 1000 < sizeLine) (hi : i < 4) : ys.length * ps.length ≤ sizeLine := by
  have b := hb f (List.mem_of_getElem? hf)
  have hz := zk_len b.1 b.2
  have hp' := hp.length
  rw [List.length_map] at hp'
  have h1 : (4 : Nat) ^ i ≤ 4 ^ 3 := Nat.pow_le_pow_right (by omega) (by omega)
  have h2 : ys.length * ps.length ≤ 4 ^ 3 * 4 := Nat.mul_le_mul (Nat.le_trans hyl h1) (by omega)
  omega
theorem due_room {ys fvs : List Value} {fns : List Int} (h : ys.length ≤ 4 ^ fvs.length) (hf : fvs.length = fns.length) (hl : fns.length ≤ 4) (hs : 1000 < sizeLine) : ys.length ≤ sizeLine := by
  have h1 : (4 : Nat) ^ fvs.length ≤ 4 ^ 4 := Nat.pow_le_pow_right (by omega) (by omega)
  omega
theorem comp_ints {prog : Program} {w : World} {A : Around} {s : Shared} {h₀ : Heap} {L : Addr} {m : Str → Option Value} {env : Env} {news : List (Addr × Obj)} {elt : PySem.Expr} {x : Str} {scope : Scope} {cl : List (Str × Addr)} {S : List (Addr × Obj) → Prop} {Fin : List Value → List (Addr × Obj) → Prop} {vs : List Value} {ks : List Int} (f : Int → Int)
    (hv : IntsAre vs ks) (hS : S news)
    (turn : ∀ (i : Nat) (k : Int) t ys I oI C oC D m₂ h tk (Q E' : Value → Shared → Prop), ks[i]? = some k → LCg.NsObj oC m₂ → m₂ x = some (.int k t) → Fr h₀ L h m → News h₀ L h ((I, oI) :: (C, oC) :: (D, LCg.lst ys) :: news) → LCg.Off3 I C D news → ((@Ne Nat I C) ∧ (@Ne Nat I D) ∧ (@Ne Nat C D)) →
      (∀ t tk', Q (.int (f k) t) { s with heap := h, toks := tk' }) → wpAny (model prog w) A (eval elt (compEnvC scope cl C env)) Q E' { s with heap := h, toks := tk })
    (fin : ∀ ys, IntsAre ys (ks.map f) → Fin ys news) : LCg.CompRest prog w A h₀ L m env elt x scope cl s S (fun i v => vs.toArray[i]? = some v) Fin vs.toArray.size 0 [] news := by
  have hl := hv.length
  refine comp_ind (fun i ys nw => nw = news ∧ IntsAre ys ((ks.take i).map f)) ⟨rfl, by simpa using .nil⟩ ?_ ?_
  · rintro i ys nw hi ⟨rfl, hys⟩ v I oI C oC D m₂ h tk E' hP hC hx F N off ne
    obtain ⟨k, t, rfl, hk⟩ := IntsAre.at hv i v (by simpa using hP)
    refine turn i k t ys I oI C oC D m₂ h tk _ _ hk hC hx F N off ne fun t' tk' => ?_
    refine ⟨h, tk', nw, rfl, F, N, off, hS, rfl, ?_⟩
    rw [List.take_add_one, hk, Option.toList_some, List.map_append]
    exact ints_push hys
  · rintro ys nw ⟨rfl, hys⟩
    rw [List.size_toArray, hl, List.take_length] at hys
    exact fin ys hys
end Mine
namespace Mine
section
variable {prog : Program} {w : World} {A : Around} {E : Value → Shared → Prop} {s : Shared} {h₀ : Heap} {L : Addr} {m : Str → Option Value} {env : Env}
theorem eval_DictComp_calls {kx vx iter : PySem.Expr} {x : Str} {px : Pos} {scope : Scope} {cl : List (Str × Addr)} {pos : Pos} {Q : Value → Shared → Prop} {fa nfv : Nat} {fvs : List Value} {fns : List Int} {news : List (Addr × Obj)}
    (hh : A.handled = none) (F₀ : Fr h₀ L s.heap m) (N₀ : News h₀ L s.heap news) (hIf : IntsAre fvs fns)
    (hclos : closureFor scope env = pure cl) (hcell : ∀ z ∈ scope.names, z.2 ≠ .cell) (hkind : scope.kind = .function)
    (hnames : ∀ z ∈ scope.names, z.2 = .local → scope.names.lookup z.1 = some .local) (hx : scope.names.lookup x = some .local)
    (hsz : fvs.length ≤ sizeLine)
    (Inv : Nat → List (Int × Value) → List (Addr × Obj) → Prop) (h0 : Inv 0 [] news) (hfaI : ∀ i kvs nw, Inv i kvs nw → (fa, listOf fvs.toArray nfv) ∈ nw)
    (h1 : ∀ (Q E' : Value → Shared → Prop), Q (.ref fa) s → wpAny (model prog w) A (eval iter env) Q E' s)
    (turnK : ∀ f t oC m₂ C h tk (Q E' : Value → Shared → Prop), LCg.NsObj oC m₂ → m₂ x = some (.int f t) → h.get? C = some oC → Q (.int f t) { s with heap := h, toks := tk } → wpAny (model prog w) A (eval kx (compEnvC scope cl C env)) Q E' { s with heap := h, toks := tk })
    (turnV : ∀ (i : Nat) (f : Int) t kvs nw oD m₂ oC C D I oI h tk (Q E' : Value → Shared → Prop), fns[i]? = some f → oI.cls = .type "list_iterator" → Inv i kvs nw → LCg.NsObj oC m₂ → m₂ x = some (.int f t) → Fr h₀ L h m → News h₀ L h ((I, oI) :: (C, oC) :: (D, oD) :: nw) → oD.IsDictOf (intKind prog w) kvs →
      LCg.Off3 I C D nw → ((@Ne Nat I C) ∧ (@Ne Nat I D) ∧ (@Ne Nat C D)) →
      (∀ v h' tk' nw', Fr h₀ L h' m → News h₀ L h' ((I, oI) :: (C, oC) :: (D, oD) :: nw') → LCg.Off3 I C D nw' → Inv (i + 1) (stored kvs f v) nw' → Q v { s with heap := h', toks := tk' }) →
      wpAny (model prog w) A (eval vx (compEnvC scope cl C env)) Q E' { s with heap := h, toks := tk })
    (fin : ∀ D oD kvs nw h tk, Fr h₀ L h m → News h₀ L h ((D, oD) :: nw) → oD.IsDictOf (intKind prog w) kvs → (∀ p ∈ nw, p.1 ≠ D) → Inv fvs.length kvs nw → Q (.ref D) { s with heap := h, toks := tk })
    (hs : ∀ x, foldedSetIterable iter env x = pure x := by intro _; rfl) :
    wpAny (model prog w) A (eval (.DictComp kx vx [⟨.Name x px, iter, [], 0⟩] scope pos) env) Q E s := by
  rw [arm_eval_DictComp]
  refine wpAny_comprehension_free (use := none) rfl hs hclos hkind hnames (h1 _ _ ?_)
  have hfa := hfaI _ _ _ h0
  have hfa0 := N₀ _ hfa
  have hl : s.heap.IsList fa fvs.toArray := ⟨_, hfa0.1, rfl, _, rfl⟩
  have hlt : fa < s.heap.objs.size := Heap.lt_size hfa0.1
  have hlenS := hIf.length
  refine wpAny_pyIter_list hl ?_
  have W := Walks.list (prog := prog) (w := w) hh s.heap.objs.size fa (Nat.ne_of_lt hlt) fvs.toArray
  generalize hI : s.heap.objs.size = I at W ⊢
  generalize hH1 : s.heap.push { cls := .type "list_iterator", data := .fields #[.ref fa, .int 0 0] } = H1
  have up1 : ∀ b o, s.heap.get? b = some o → H1.get? b = some o := fun b o e => hH1 ▸ Heap.get?_push_of_some _ e
  have hI1 : H1.get? I = some { cls := .type "list_iterator", data := .fields #[.ref fa, .int 0 0] } := by rw [← hH1, ← hI]; exact Heap.get?_push_size _ rfl
  have F : Fr h₀ L H1 m := F₀.keeps up1
  have N : News h₀ L H1 news := N₀.grown up1
  have hI₀ : h₀.get? I = none := hI ▸ next_is_new F₀
  have hIL : L ≠ I := hI ▸ Nat.ne_of_lt F₀.ns.lt
  have offI : ∀ p ∈ news, p.1 ≠ I := fun p hp => hI ▸ Nat.ne_of_lt (Heap.lt_size (N₀ p hp).1)
  have hst : H1.IsListIter I fa 0 ∧ H1.IsList fa fvs.toArray := ⟨⟨_, hI1, rfl, rfl⟩, hl.at fun o e => up1 _ o e⟩
  refine wpAny_newObj_type (wpAny_newFunctionEnv hcell (by intro y hy; simp at hy) (fun h₁ hns₁ hsb₁ => ?_) hkind)
  dsimp only at hns₁ hsb₁ ⊢
  have hnew : (H1.push { cls := .type "dict", dict := none, data := .dict #[] }).DictOf (intKind prog w) H1.objs.size [] := Heap.DictOf.new H1
  generalize hH2 : H1.push { cls := .type "dict", dict := none, data := .dict #[] } = H2 at hns₁ hsb₁ hnew ⊢
  generalize hDz : H1.objs.size = D at hH2 hnew ⊢
  have hC : H2.objs.size = D + 1 := by rw [← hH2, Heap.size_push, hDz]
  generalize hCz : H2.objs.size = C at hC hns₁ hsb₁ ⊢
  have below : ∀ b, b < D → b ≠ C ∧ b ≠ D := fun b hb => ⟨by rw [hC]; exact Nat.ne_of_lt (Nat.lt_succ_of_lt hb), Nat.ne_of_lt hb⟩
  have hDC : D ≠ C := by rw [hC]; exact Nat.ne_of_lt (Nat.lt_succ_self _)
  have ltD : ∀ b o, H1.get? b = some o → b < D := fun b o e => hDz ▸ Heap.lt_size e
  have old : ∀ b o, H1.get? b = some o → h₁.get? b = some o := fun b o e => hsb₁.extBut b o (below b (ltD b o e)).1 (Heap.get?_push_of_some _ (hH2 ▸ Heap.get?_push_of_some _ e))
  have hacc : h₁.DictOf (intKind prog w) D [] := hnew.at fun o e => hsb₁.extBut _ _ hDC (Heap.get?_push_of_some _ e)
  have hst₁ : h₁.IsListIter I fa 0 ∧ h₁.IsList fa fvs.toArray := W.frame _ _ _ hst fun b _ o e => old b o e
  have fresh₀ : ∀ a, D ≤ a → h₀.get? a = none := fun a ha => by
    cases e : h₀.get? a with
    | none => rfl
    | some o' => exact absurd (ltD _ _ (F.keep a o' e)) (Nat.not_lt.mpr ha)
  have hD₀ : h₀.get? D = none := fresh₀ _ (Nat.le_refl _)
  have hC₀ : h₀.get? C = none := fresh₀ _ (by rw [hC]; exact Nat.le_succ _)
  have hLlt : L < D := hDz ▸ F.ns.lt
  have hDL : D ≠ L := Ne.symm (below _ hLlt).2
  have hCL : C ≠ L := Ne.symm (below _ hLlt).1
  have hIlt : I < D := ltD _ _ hI1
  have hCI : I ≠ C := (below I hIlt).1
  have hDI : I ≠ D := (below I hIlt).2
  have off₀ : LCg.Off3 I C D news := LCg.Off3.of fun p hp => ⟨offI p hp, below _ (ltD _ _ (N p hp).1)⟩
  obtain ⟨oD₀, hoD₀, hdD₀⟩ := Heap.dictOf_iff.mp hacc
  have loop : ∀ s₃ : Shared, s₃ = { s with heap := h₁, toks := s.toks + ([] : List (Str × Value)).length } →
      codeAny (model prog w) A (.compLoop (.DictComp kx vx [⟨.Name x px, iter, [], 0⟩] scope pos) 0 (.ref I) (.ref D) (compEnvC scope cl C env))
        (compPost (model prog w) A E none Q (.ref D) C) s₃ := by
    rintro s₃ rfl
    refine codeAny_compLoop_testsD (fun k s' => ∃ h' tk i kvs oD m' nw, s' = { s with heap := h', toks := tk } ∧ i ≤ fvs.length ∧ k = fvs.length + 1 - i ∧ kvs.length ≤ i ∧ h'.IsListIter I fa i ∧ Fr h₀ L h' m ∧ News h₀ L h' ((D, oD) :: nw) ∧ oD.IsDictOf (intKind prog w) kvs ∧ h'.Ns C m' ∧
      LCg.Off3 I C D nw ∧ Inv i kvs nw) ?_ (fvs.length + 1)
      ⟨h₁, _, 0, [], oD₀, _, news, rfl, Nat.zero_le _, rfl, Nat.zero_le _, hst₁.1, F.keeps old, fun p hp => ?_, hdD₀, hns₁, off₀, h0⟩
    · rintro k s' ⟨h', tk, i, kvs, oD, m', nw, rfl, hi, rfl, hkl, hst', F', N', hd', hn', off', hInv⟩
      have hoff := off'.mem
      have hfaN := hfaI _ _ _ hInv
      have hls' : h'.IsList fa fvs.toArray := ⟨_, (N' _ (List.mem_cons_of_mem _ hfaN)).1, rfl, _, rfl⟩
      by_cases hlt : i < fvs.length
      · refine W.item i _ _ _ (by simpa using hlt) ⟨hst', hls'⟩ fun v h₂ tk₂ hPv hst₂ hk₂ => ?_
        have hPv' : fvs[i]? = some v := by simpa using hPv
        obtain ⟨f, t, rfl, hf⟩ := IntsAre.at hIf i v hPv'
        refine wpAny_assign_Name (wpAny_storeName_local (lookup_relabel_local hx) (hn'.at' fun o e => hk₂ _ o (by simpa using Ne.symm hCI) e) (fun h₃ hn₃ hs₃ => ?_) (by simp [compEnvC, relabel, hkind]))
        refine wpAny_tests_nil ?_
        simp only [if_true]
        have N₂ : News h₀ L h₂ ((D, oD) :: nw) := LCg.news_but N' hk₂ fun p hp => by
          rcases List.mem_cons.mp hp with rfl | hp
          · exact Ne.symm hDI
          · exact (hoff p hp).1
        have F₃ : Fr h₀ L h₃ m := (LCg.fr_but F' hk₂ hIL hI₀).change hs₃ hCL hC₀
        obtain ⟨oI, heI, hoI⟩ := hst₂.1
        have heI₃ : h₃.get? I = some oI := hs₃.extBut _ _ hCI heI
        obtain ⟨oC, heC, hoC⟩ := LCg.ns_obj hn₃
        have N₃ : News h₀ L h₃ ((I, oI) :: (C, oC) :: (D, oD) :: nw) := fun p hp => by
          rcases List.mem_cons.mp hp with rfl | hp
          · exact ⟨heI₃, Ne.symm hIL, hI₀⟩
          rcases List.mem_cons.mp hp with rfl | hp
          · exact ⟨heC, hCL, hC₀⟩
          · have q := N₂ p hp
            refine ⟨hs₃.extBut _ _ ?_ q.1, q.2⟩
            rcases List.mem_cons.mp hp with rfl | hp
            · exact hDC
            · exact (hoff p hp).2.1
        refine turnK f t oC _ C h₃ _ _ _ hoC (if_pos rfl) heC ?_
        refine turnV i f t kvs nw oD _ oC C D I oI h₃ _ _ _ hf hoI.1 hInv hoC (if_pos rfl) F₃ N₃ hd' off' ⟨hCI, hDI, Ne.symm hDC⟩ fun v h₄ tk₄ nw₄ F₄ N₄ off₄ hInv₄ => ?_
        have zD := N₄ (D, oD) (.tail _ (.tail _ (.head _)))
        have zC := N₄ (C, oC) (.tail _ (.head _))
        have zI := N₄ (I, oI) (.head _)
        have hoff₄ := off₄.mem
        refine wpAny_dictSet_pairs (hsz := by omega) (knd := intKind prog w) (intKind_is prog w f t) (Heap.dictOf_iff.mpr ⟨oD, zD.1, hd'⟩) fun h₅ hD₅ hs₅ => ?_
        obtain ⟨oD₅, hoD₅, hdD₅⟩ := Heap.dictOf_iff.mp hD₅
        refine ⟨fvs.length + 1 - (i + 1), by omega, h₅, _, i + 1, stored kvs f v, oD₅, _, nw₄, rfl, hlt, rfl, Nat.le_trans (stored_length_le kvs f v) (by omega), ⟨oI, hs₅.extBut _ _ hDI zI.1, hoI⟩, F₄.change hs₅ hDL hD₀, fun p hp => ?_, hdD₅, (hoC.ns zC.1).sameBut hs₅ (Ne.symm hDC), off₄, hInv₄⟩
        rcases List.mem_cons.mp hp with rfl | hp
        · exact ⟨hoD₅, hDL, hD₀⟩
        · have q := N₄ p (.tail _ (.tail _ (.tail _ hp)))
          exact ⟨hs₅.extBut _ _ (hoff₄ p hp).2.2 q.1, q.2⟩
      · obtain rfl : i = fvs.length := Nat.le_antisymm hi (Nat.not_lt.mp hlt)
        refine W.done _ _ _ (by simpa using And.intro hst' hls') fun h₂ tk₂ hk₂ => ?_
        have N₂ : News h₀ L h₂ ((D, oD) :: nw) := LCg.news_but N' hk₂ fun p hp => by
          rcases List.mem_cons.mp hp with rfl | hp
          · exact Ne.symm hDI
          · exact (hoff p hp).1
        have F₂ : Fr h₀ L h₂ m := LCg.fr_but F' hk₂ hIL hI₀
        have hn₂ : h₂.Ns C m' := hn'.at' fun o e => hk₂ _ o (by simpa using Ne.symm hCI) e
        refine ⟨m', hn₂, fun h'' hs'' => fin D oD kvs nw h'' _ (F₂.change hs'' hCL hC₀) (fun p hp => ?_) hd' (fun p hp => (hoff p hp).2.2) hInv⟩
        refine ⟨hs''.extBut _ _ ?_ (N₂ p hp).1, (N₂ p hp).2⟩
        rcases List.mem_cons.mp hp with rfl | hp
        · exact hDC
        · exact (hoff p hp).2.1
    · rcases List.mem_cons.mp hp with rfl | hp
      · exact ⟨hoD₀, hDL, hD₀⟩
      · exact ⟨old _ _ (N p hp).1, (N p hp).2⟩
  exact codeAny_compStart_dict (loop _ rfl) (W.self 0 _ _ _ hst₁ (loop _ rfl))
end
theorem val_stored (k : Int) (v : Value) (k' : Int) : ∀ kvs : List (Int × Value), valueAt (stored kvs k v) k' = if k' = k then some v else valueAt kvs k' := by
  have ap : ∀ kvs : List (Int × Value), kvs.any (fun kv => kv.1 = k) = false → valueAt (kvs ++ [(k, v)]) k' = if k' = k then some v else valueAt kvs k' := by
    intro kvs
    induction kvs with
    | nil =>
      intro _
      by_cases h : k' = k
      · subst h; simp [valueAt]
      · simp [valueAt, h, Ne.symm h]
    | cons p r ih =>
      intro hh
      rw [List.any_cons, Bool.or_eq_false_iff] at hh
      have ih := ih hh.2
      have hp : p.1 ≠ k := by simpa using hh.1
      unfold valueAt at ih ⊢
      rw [List.cons_append, List.find?_cons, List.find?_cons]
      by_cases h : p.1 = k'
      · have : k' ≠ k := fun e => hp (h.trans e)
        simp [h, this]
      · simp only [h, decide_false]
        exact ih
  have mp : ∀ kvs : List (Int × Value), kvs.any (fun kv => kv.1 = k) = true ∨ k' ≠ k → valueAt (kvs.map fun kv => if kv.1 = k then (kv.1, v) else kv) k' = if k' = k then some v else valueAt kvs k' := by
    intro kvs
    induction kvs with
    | nil =>
      intro hh
      rcases hh with hh | hh
      · simp at hh
      · simp [valueAt, hh]
    | cons p r ih =>
      intro hh
      unfold valueAt at ih ⊢
      rw [List.map_cons, List.find?_cons, List.find?_cons]
      by_cases hp : p.1 = k
      · by_cases h : k' = k
        · simp [hp, h]
        · have h2 : p.1 ≠ k' := fun e => h (e.symm.trans hp)
          have h3 : k ≠ k' := Ne.symm h
          simp only [hp, if_pos, h3, decide_false]
          exact ih (.inr h)
      · simp only [hp, if_false]
        by_cases h : p.1 = k'
        · have h3 : k' ≠ k := fun e => hp (h.trans e)
          simp [h, h3]
        · simp only [h, decide_false]
          refine ih ?_
          rcases hh with hh | hh
          · rw [List.any_cons, Bool.or_eq_true] at hh
            rcases hh with hh | hh
            · exact absurd (by simpa using hh) hp
            · exact .inl hh
          · exact .inr hh
  intro kvs
  unfold stored
  cases ha : kvs.any (fun kv => kv.1 = k) with
  | true => rw [if_pos rfl]; exact mp kvs (.inl ha)
  | false => rw [if_neg (by simp)]; exact ap kvs ha
theorem cell_ne {h₀ h : Heap} {L : Addr} {l : List (Addr × Obj)} {a c : Addr} {o oc : Obj} {v : Option Value} (N : News h₀ L h l) (ha : (a, o) ∈ l) (hc : (c, oc) ∈ l) (hd : oc.data = .cell v) (ho : ∀ v, o.data ≠ .cell v) : a ≠ c := fun e => by
  subst e
  have h1 := (N _ ha).1
  have h2 := (N _ hc).1
  rw [h1] at h2
  have e2 : o = oc := Option.some.inj h2
  exact ho v (by rw [e2]; exact hd)
theorem seq_ne_dict {h₀ h : Heap} {L : Addr} {l : List (Addr × Obj)} {a c : Addr} {o oc : Obj} {xs : Array Value} {n : Nat} {es : Array DictEntry} {ep : Nat} (N : News h₀ L h l) (ha : (a, o) ∈ l) (hc : (c, oc) ∈ l) (ho : o.data = .seq xs n) (hd : oc.data = .dict es ep) : a ≠ c := fun e => by
  subst e
  have h1 := (N _ ha).1
  have h2 := (N _ hc).1
  rw [h1] at h2
  have e2 : o = oc := Option.some.inj h2
  rw [e2, hd] at ho
  cases ho
/-- while known is filled -/
def KInv (fns : List Int) (rest : List (Addr × Obj)) (fin rab ck nv : Nat) (ock : Obj) (vs : List Value) (i : Nat) (kvs : List (Int × Value)) (nw : List (Addr × Obj)) : Prop :=
  ∃ fs nf R, nw = (fin, listOf (List.toArray fs) nf) :: (rab, listOf vs.toArray nv) :: (ck, ock) :: R ∧ (∀ p ∈ rest, p ∈ R) ∧ AllNe fin R ∧ AllNe ck R ∧ fs.length = i ∧ (∀ x ∈ fs, x = Value.bool true) ∧ ∀ f ∈ fns.take i, ∃ tp, valueAt kvs f = some (.ref tp) ∧ Made R f tp
theorem KInv.step {fns : List Int} {rest R : List (Addr × Obj)} {fin rab ck nv nf i : Nat} {ock : Obj} {vs fs : List Value} {kvs : List (Int × Value)} {f : Int} {tp pl : Addr} {ps : List Value} {np : Nat} {ta sa : Tok}
    (hR : ∀ p ∈ rest, p ∈ R) (hN : AllNe fin R) (hC : AllNe ck R) (hl : fs.length = i) (ht : ∀ x ∈ fs, x = Value.bool true) (hk : ∀ f ∈ fns.take i, ∃ tp, valueAt kvs f = some (.ref tp) ∧ Made R f tp) (hf : fns[i]? = some f) (htf : tp ≠ fin) (hpf : pl ≠ fin) (htc : tp ≠ ck) (hpc : pl ≠ ck)
    (hI : IntsAre ps ((zk 40 f).map Int.ofNat)) :
    KInv fns rest fin rab ck nv ock vs (i + 1) (stored kvs f (.ref tp)) ((fin, listOf (fs ++ [Value.bool true]).toArray nf) :: (rab, listOf vs.toArray nv) :: (ck, ock) :: (tp, ({ cls := .type "tuple", data := .seq #[.int f ta, .ref pl, .int (part f) sa] } : Obj)) :: (pl, listOf ps.toArray np) :: R) := by
  refine ⟨_, _, _, rfl, fun p hp => .tail _ (.tail _ (hR p hp)), ⟨htf, hpf, hN⟩, ⟨htc, hpc, hC⟩, by simp [hl], ?_, ?_⟩
  · intro x hx
    rcases List.mem_append.mp hx with hx | hx
    · exact ht x hx
    · exact List.mem_singleton.mp hx
  · intro g hg
    rw [val_stored]
    by_cases e : g = f
    · subst e
      exact ⟨tp, if_pos rfl, pl, _, _, ps, np, .head _, .tail _ (.head _), hI⟩
    · rw [List.take_add_one, hf, Option.toList_some] at hg
      rcases List.mem_append.mp hg with hg | hg
      · obtain ⟨tq, h1, h2⟩ := hk g hg
        exact ⟨tq, by rw [if_neg e]; exact h1, h2.sub fun p hp => .tail _ (.tail _ hp)⟩
      · exact absurd (List.mem_singleton.mp hg) e
/-- the ledger ahead of the dict: fine, rabbits, the cell of known; and the rest as one letter -/
theorem news_known {h₀ h : Heap} {L : Addr} {a b c d : Addr × Obj} {r : List (Addr × Obj)} (N : News h₀ L h (a :: b :: c :: d :: r)) : ∃ rest, rest = b :: r ∧ News h₀ L h (a :: c :: d :: rest) := ⟨_, rfl, fun p hp => N p (by
  rcases List.mem_cons.mp hp with rfl | hp
  · exact .head _
  rcases List.mem_cons.mp hp with rfl | hp
  · exact .tail _ (.tail _ (.head _))
  rcases List.mem_cons.mp hp with rfl | hp
  · exact .tail _ (.tail _ (.tail _ (.head _)))
  rcases List.mem_cons.mp hp with rfl | hp
  · exact .tail _ (.head _)
  · exact .tail _ (.tail _ (.tail _ (.tail _ hp))))⟩
/-- three of the comprehension's own behind fine and rabbits -/
theorem news_in {h₀ h : Heap} {L : Addr} {i c d a b : Addr × Obj} {r : List (Addr × Obj)} (N : News h₀ L h (i :: c :: d :: a :: b :: r)) : News h₀ L h (a :: b :: i :: c :: d :: r) := news_rot N
theorem news_out {h₀ h : Heap} {L : Addr} {t p a b i c d k : Addr × Obj} {r : List (Addr × Obj)} (N : News h₀ L h (t :: p :: a :: b :: i :: c :: d :: k :: r)) : News h₀ L h (i :: c :: d :: a :: b :: k :: t :: p :: r) := fun q hq => N q (by
  simp only [List.mem_cons] at hq ⊢
  rcases hq with rfl | rfl | rfl | rfl | rfl | rfl | rfl | rfl | hq <;> simp_all)
theorem news_out1 {h₀ h : Heap} {L : Addr} {t a b i c d : Addr × Obj} {r : List (Addr × Obj)} (N : News h₀ L h (t :: a :: b :: i :: c :: d :: r)) : News h₀ L h (i :: c :: d :: a :: b :: t :: r) := fun q hq => N q (by
  simp only [List.mem_cons] at hq ⊢
  rcases hq with rfl | rfl | rfl | rfl | rfl | rfl | hq <;> simp_all)
/-- while worths is filled -/
def WInv (rest : List (Addr × Obj)) (fin rab nv : Nat) (vs : List Value) (v : Int) (i : Nat) (ys : List Value) (nw : List (Addr × Obj)) : Prop :=
  ∃ fs nf R, nw = (fin, listOf (List.toArray fs) nf) :: (rab, listOf vs.toArray nv) :: R ∧ (∀ p ∈ rest, p ∈ R) ∧ AllNe fin R ∧ fs.length ≤ 4 + 14 * i ∧ (∀ x ∈ fs, x = Value.bool true) ∧ ys.length = i ∧ ∀ y ∈ ys, ∃ r t n, y = .ref r ∧ (r, listOf #[Value.int v t] n) ∈ R
theorem WInv.step {rest R : List (Addr × Obj)} {fin rab nv nf i nr : Nat} {vs fs fs' ys : List Value} {v : Int} {r : Addr} {t : Tok}
    (hR : ∀ p ∈ rest, p ∈ R) (hN : AllNe fin R) (hl : fs.length ≤ 4 + 14 * i) (hl' : fs'.length ≤ fs.length + 14) (ht : ∀ x ∈ fs', x = Value.bool true) (hy : ys.length = i) (hys : ∀ y ∈ ys, ∃ r t n, y = Value.ref r ∧ (r, listOf #[Value.int v t] n) ∈ R) (hrf : r ≠ fin) :
    WInv rest fin rab nv vs v (i + 1) (ys ++ [.ref r]) ((fin, listOf fs'.toArray nf) :: (rab, listOf vs.toArray nv) :: (r, listOf #[Value.int v t] nr) :: R) := by
  refine ⟨_, _, _, rfl, fun p hp => .tail _ (hR p hp), ⟨hrf, hN⟩, by omega, ht, by simp [hy], ?_⟩
  intro y hy'
  rcases List.mem_append.mp hy' with hy' | hy'
  · obtain ⟨r', t', n', e, h⟩ := hys y hy'
    exact ⟨r', t', n', e, .tail _ h⟩
  · exact ⟨r, t, nr, List.mem_singleton.mp hy', .head _⟩
theorem er_mem {rest : List (Addr × Obj)} {a b c d : Addr × Obj} (er : rest = [a, b, c, d]) : a ∈ rest ∧ b ∈ rest ∧ c ∈ rest ∧ d ∈ rest := by subst er; simp
theorem er_ne {rest : List (Addr × Obj)} {a b c d : Addr × Obj} {k : Nat} (er : rest = [a, b, c, d]) (ha : @Ne Nat a.1 k) (hb : @Ne Nat b.1 k) (hc : @Ne Nat c.1 k) (hd : @Ne Nat d.1 k) : AllNe k rest := by subst er; exact ⟨ha, hb, hc, hd, trivial⟩
theorem dict_known {prog : Program} {w : World} {A : Around} {E : Value → Shared → Prop} {s : Shared} {h₀ : Heap} {L : Addr} {m : Str → Option Value} {env : Env} {kx vx iter : PySem.Expr} {x : Str} {px : Pos} {scope : Scope} {cl : List (Str × Addr)} {pos : Pos} {Q : Value → Shared → Prop} {fa nfv fin rab ck nv nf0 : Nat} {ock : Obj} {vs fvs : List Value} {fns : List Int} {rest : List (Addr × Obj)}
    (hh : A.handled = none) (F₀ : Fr h₀ L s.heap m) (N₀ : News h₀ L s.heap ((fin, listOf #[] nf0) :: (rab, listOf vs.toArray nv) :: (ck, ock) :: rest)) (hIf : IntsAre fvs fns) (aFin : AllNe fin rest) (aCk : AllNe ck rest) (mfa : (fa, listOf fvs.toArray nfv) ∈ rest)
    (hclos : closureFor scope env = pure cl) (hcell : ∀ z ∈ scope.names, z.2 ≠ .cell) (hkind : scope.kind = .function)
    (hnames : ∀ z ∈ scope.names, z.2 = .local → scope.names.lookup z.1 = some .local) (hx : scope.names.lookup x = some .local)
    (hsz : fvs.length ≤ sizeLine)
    (h1 : ∀ (Q E' : Value → Shared → Prop), Q (.ref fa) s → wpAny (model prog w) A (eval iter env) Q E' s)
    (turnK : ∀ f t oC m₂ C h tk (Q E' : Value → Shared → Prop), LCg.NsObj oC m₂ → m₂ x = some (.int f t) → h.get? C = some oC → Q (.int f t) { s with heap := h, toks := tk } → wpAny (model prog w) A (eval kx (compEnvC scope cl C env)) Q E' { s with heap := h, toks := tk })
    (turnV : ∀ (i : Nat) (f : Int) t kvs nw oD m₂ oC C D I oI h tk (Q E' : Value → Shared → Prop), fns[i]? = some f → oI.cls = .type "list_iterator" → KInv fns rest fin rab ck nv ock vs i kvs nw → LCg.NsObj oC m₂ → m₂ x = some (.int f t) → Fr h₀ L h m → News h₀ L h ((I, oI) :: (C, oC) :: (D, oD) :: nw) → oD.IsDictOf (intKind prog w) kvs →
      LCg.Off3 I C D nw → ((@Ne Nat I C) ∧ (@Ne Nat I D) ∧ (@Ne Nat C D)) →
      (∀ v h' tk' nw', Fr h₀ L h' m → News h₀ L h' ((I, oI) :: (C, oC) :: (D, oD) :: nw') → LCg.Off3 I C D nw' → KInv fns rest fin rab ck nv ock vs (i + 1) (stored kvs f v) nw' → Q v { s with heap := h', toks := tk' }) →
      wpAny (model prog w) A (eval vx (compEnvC scope cl C env)) Q E' { s with heap := h, toks := tk })
    (fin' : ∀ D oD kvs fs nf R h tk, Fr h₀ L h m → News h₀ L h ((D, oD) :: (fin, listOf (List.toArray fs) nf) :: (rab, listOf vs.toArray nv) :: (ck, ock) :: R) → oD.IsDictOf (intKind prog w) kvs → (@Ne Nat fin D ∧ @Ne Nat rab D ∧ @Ne Nat ck D ∧ ∀ p ∈ R, p.1 ≠ D) → (∀ p ∈ rest, p ∈ R) → AllNe fin R → AllNe ck R → fs.length = fvs.length → (∀ x ∈ fs, x = Value.bool true) →
      Known prog w oD R fns → Q (.ref D) { s with heap := h, toks := tk })
    (hs : ∀ x, foldedSetIterable iter env x = pure x := by intro _; rfl) :
    wpAny (model prog w) A (eval (.DictComp kx vx [⟨.Name x px, iter, [], 0⟩] scope pos) env) Q E s := by
  have hl := hIf.length
  refine eval_DictComp_calls (fa := fa) (nfv := nfv) (hs := hs) hh F₀ N₀ hIf hclos hcell hkind hnames hx hsz (KInv fns rest fin rab ck nv ock vs) ⟨[], _, rest, rfl, (fun _ h => h), aFin, aCk, rfl, (fun _ h => nomatch h), (fun _ h => nomatch h)⟩ ?_ h1 turnK turnV ?_
  · rintro i kvs nw ⟨fs, nf, R, rfl, hsub, _⟩
    exact .tail _ (.tail _ (.tail _ (hsub _ mfa)))
  · rintro D oD kvs nw h tk F N hd hoff ⟨fs, nf, R, rfl, hsub, a1, a2, hfl, ht, hk⟩
    rw [hl, List.take_length] at hk
    exact fin' D oD kvs fs nf R h tk F N hd ⟨hoff _ (.head _), hoff _ (.tail _ (.head _)), hoff _ (.tail _ (.tail _ (.head _))), fun p hp => hoff p (.tail _ (.tail _ (.tail _ hp)))⟩ hsub a1 a2 hfl ht ⟨kvs, hd, hk⟩
end Mine
namespace Mine
section
variable {prog : Program} {w : World} {A : Around} {E : Value → Shared → Prop} {s : Shared} {h₀ : Heap} {L : Addr} {m : Str → Option Value} {env : Env}
def SrcU (prog : Program) (w : World) (A : Around) (h₀ : Heap) (L : Addr) (m : Str → Option Value) (env : Env) (elt : PySem.Expr) (x : Str) (scope : Scope) (cl : List (Str × Addr)) (Fin : Shared → List Value → List (Addr × Obj) → Prop) (xv : Value) (s₁ : Shared) : Prop :=
  ∃ ax its n0 news, xv = .ref ax ∧ A.handled = none ∧ Fr h₀ L s₁.heap m ∧ News h₀ L s₁.heap news ∧ (ax, ({ cls := .type "tuple", data := .seq its n0 } : Obj)) ∈ news ∧ its.size ≤ sizeLine ∧
    ∀ s₂ : Shared, (∃ h, s₂ = { s₁ with heap := h }) → LCg.CompRest prog w A h₀ L m env elt x scope cl s₂ (fun nw => (ax, ({ cls := .type "tuple", data := .seq its n0 } : Obj)) ∈ nw) (fun i v => its[i]? = some v) (Fin s₂) its.size 0 [] news
theorem SrcU.mk {elt : PySem.Expr} {x : Str} {scope : Scope} {cl : List (Str × Addr)} {Fin : Shared → List Value → List (Addr × Obj) → Prop} {news : List (Addr × Obj)} {s₁ : Shared} {ax : Addr} {its : Array Value} {n0 : Nat}
    (hh : A.handled = none) (F : Fr h₀ L s₁.heap m) (N : News h₀ L s₁.heap news) (hm : (ax, ({ cls := .type "tuple", data := .seq its n0 } : Obj)) ∈ news) (hsz : its.size ≤ sizeLine)
    (h : ∀ g, LCg.CompRest prog w A h₀ L m env elt x scope cl { s₁ with heap := g } (fun nw => (ax, ({ cls := .type "tuple", data := .seq its n0 } : Obj)) ∈ nw) (fun i v => its[i]? = some v) (Fin { s₁ with heap := g }) its.size 0 [] news) :
    SrcU prog w A h₀ L m env elt x scope cl Fin (.ref ax) s₁ := ⟨ax, its, n0, news, rfl, hh, F, N, hm, hsz, fun _ ⟨g, e⟩ => e ▸ h g⟩
theorem Assign_ListComp_Tup {elt iter : PySem.Expr} {x y : Str} {px py : Pos} {scope : Scope} {cl : List (Str × Addr)} {pos spos : Pos} {Q : Flow → Shared → Prop} (F₀ : Fr h₀ L s.heap m) (hLe : env.locals = L)
    (hsw : swapsWith (.ListComp elt [⟨.Name x px, iter, [], 0⟩] scope pos) (some (.Name y py)) spos.line env = pure true)
    (hclos : closureFor scope env = pure cl) (hcell : ∀ z ∈ scope.names, z.2 ≠ .cell) (hkind : scope.kind = .function)
    (hnames : ∀ z ∈ scope.names, z.2 = .local → scope.names.lookup z.1 = some .local) (hx : scope.names.lookup x = some .local)
    (hy : env.kindOf y = some .local) (hp : (env.scope.kind == .class || (env.scope.kind == .module && env.locals != env.globals)) = false)
    (h : wpAny (model prog w) A (eval iter env) (SrcU prog w A h₀ L m env elt x scope cl (fun s₂ => LCg.FinA h₀ L m s₂ y Q)) E s)
    (hs : ∀ x, foldedSetIterable iter env x = pure x := by intro _; rfl) :
    wpAny (model prog w) A (exec (.Assign [.Name y py] (.ListComp elt [⟨.Name x px, iter, [], 0⟩] scope pos) spos) env) Q E s := by
  subst hLe
  rw [exec_Assign_Name_used _ _ _ _ hsw]
  refine wpAny_bind (wpAny_standAt (wpAny_bind ?_))
  show wpAny _ A (do let _ ← comprehension (.ListComp elt [⟨.Name x px, iter, [], 0⟩] scope pos) scope env _ (newList []) false (eval iter env) (some (assign (.Name y py) env))) _ _ s
  refine wpAny_bind (wpAny_mono (wpAny_comprehension_free (use := some (assign (.Name y py) env)) (Q := fun _ s' => Q .next s') rfl hs hclos hkind hnames
    (wpAny_mono h (fun xv s₁ h₁ => ?_) fun _ _ e => e)) (fun _ s' hq => wpAny_pure (wpAny_pure hq)) fun _ _ e => e)
  obtain ⟨ax, its, n0, news, rfl, hh, F, N, S, hsz, R⟩ := h₁
  have hS0 := N _ S
  have hl : s₁.heap.IsTuple ax its := ⟨_, hS0.1, rfl, n0, rfl⟩
  have hlt : ax < s₁.heap.objs.size := Heap.lt_size hS0.1
  · refine wpAny_pyIter_tuple hl ?_
    have up : ∀ b o, s₁.heap.get? b = some o → (s₁.heap.push { cls := .type "tuple_iterator", data := .fields #[.ref ax, .int 0 0] }).get? b = some o := fun b o e => Heap.get?_push_of_some _ e
    refine LCg.block_U (S := fun nw => (ax, ({ cls := .type "tuple", data := .seq its n0 } : Obj)) ∈ nw) (Walks.tuple hh s₁.heap.objs.size ax (Nat.ne_of_lt hlt) its) hsz (fun i h st => by obtain ⟨o, e, _⟩ := st.1; exact ⟨o, e⟩)
      (fun i h h' o nw st e e' k N S => ⟨by obtain ⟨o', q, r⟩ := st.1; rw [e] at q; cases q; exact ⟨o, e', r⟩, ⟨_, (N _ S).1, rfl, n0, rfl⟩⟩) hcell hkind hx ⟨⟨_, Heap.get?_push_size _ rfl, rfl, rfl⟩, hl.at fun o e => up _ o e⟩ (fun b hb => ?_)
      (F.keeps up) (N.grown up) (Nat.ne_of_lt F.ns.lt) (next_is_new F) (fun p hp => Nat.ne_of_lt (Heap.lt_size (N p hp).1)) S (R _ ⟨_, rfl⟩) ?_
    · show b < (s₁.heap.push _).objs.size
      rw [Heap.size_push]
      rcases List.mem_cons.mp hb with rfl | hb
      · exact Nat.lt_succ_self _
      · rw [List.mem_singleton.mp hb]; exact Nat.lt_succ_of_lt hlt
    · intro D C h' tk m' ys news' F' N' o1 hn hC₀ hD₀ hCL hDL hCD offC fin
      show wpAny _ A (assign (.Name y py) env (.ref D)) _ _ _
      refine wpAny_assign_Name (wpAny_storeName_local hy F'.ns (fun h₂ hn₂ hs₂ => ?_) hp)
      have hL₀ : h₀.get? env.locals = none := Heap.get?_none_of_le F'.above
      have F₂ : Fr h₀ env.locals h₂ (fun z => if z = y then some (.ref D) else m z) := ⟨hn₂, fun b o e => hs₂.extBut b o (fun q => by rw [q, hL₀] at e; cases e) (F'.keep b o e), F'.above⟩
      refine ⟨m', hn.sameBut hs₂ hCL, fun h'' hs'' => fin D h'' _ (F₂.change hs'' hCL hC₀) (fun p hp => ?_) o1⟩
      have z : h₂.get? p.1 = some p.2 := hs₂.extBut _ _ (N' p hp).2.1 (N' p hp).1
      refine ⟨hs''.extBut _ _ ?_ z, (N' p hp).2⟩
      rcases List.mem_cons.mp hp with rfl | hp
      · exact Ne.symm hCD
      · exact offC p hp
end
theorem comp_worths {prog : Program} {w : World} {A : Around} {s : Shared} {h₀ : Heap} {L : Addr} {m : Str → Option Value} {env : Env} {elt : PySem.Expr} {x : Str} {scope : Scope} {cl : List (Str × Addr)} {S : List (Addr × Obj) → Prop} {Fin : List Value → List (Addr × Obj) → Prop} {fin rab nv nf : Nat} {vs fs : List Value} {v : Int} {rest : List (Addr × Obj)} {n : Nat} {P : Nat → Value → Prop}
    (aFin : AllNe fin rest) (hfl : fs.length ≤ 4) (ht : ∀ x ∈ fs, x = Value.bool true)
    (turn : ∀ i ys nw, i < n → WInv rest fin rab nv vs v i ys nw → ∀ u I oI C oC D m₂ h tk (E' : Value → Shared → Prop), P i u → LCg.NsObj oC m₂ → m₂ x = some u → Fr h₀ L h m → News h₀ L h ((I, oI) :: (C, oC) :: (D, LCg.lst ys) :: nw) → LCg.Off3 I C D nw → ((@Ne Nat I C) ∧ (@Ne Nat I D) ∧ (@Ne Nat C D)) →
      wpAny (model prog w) A (eval elt (compEnvC scope cl C env)) (LCg.CompEnd h₀ L m { s with heap := h, toks := tk } I oI C oC D (LCg.lst ys) S (fun y news' => WInv rest fin rab nv vs v (i + 1) (ys ++ [y]) news')) E' { s with heap := h, toks := tk })
    (fin' : ∀ ys nw, WInv rest fin rab nv vs v n ys nw → Fin ys nw) : LCg.CompRest prog w A h₀ L m env elt x scope cl s S P Fin n 0 [] ((fin, listOf (List.toArray fs) nf) :: (rab, listOf vs.toArray nv) :: rest) :=
  comp_ind (WInv rest fin rab nv vs v) ⟨fs, nf, rest, rfl, (fun _ h => h), aFin, by omega, ht, rfl, (fun _ h => nomatch h)⟩ turn fin'
theorem news_w {h₀ h : Heap} {L : Addr} {a b c d : Addr × Obj} {r : List (Addr × Obj)} (N : News h₀ L h (a :: b :: c :: d :: r)) : News h₀ L h (c :: d :: a :: b :: r) := fun p hp => N p (by
  rcases List.mem_cons.mp hp with rfl | hp
  · exact .tail _ (.tail _ (.head _))
  rcases List.mem_cons.mp hp with rfl | hp
  · exact .tail _ (.tail _ (.tail _ (.head _)))
  rcases List.mem_cons.mp hp with rfl | hp
  · exact .head _
  rcases List.mem_cons.mp hp with rfl | hp
  · exact .tail _ (.head _)
  · exact .tail _ (.tail _ (.tail _ (.tail _ hp))))
theorem reads_true {h : Heap} : ∀ {fs : List Value}, (∀ x ∈ fs, x = Value.bool true) → ReadsAll h fs (List.replicate fs.length (PyData.bool true)) []
  | [], _ => .nil
  | x :: r, ht => by
    have e := ht x (.head _)
    subst e
    exact readsAll_cons_val (.bool true) (reads_true fun y hy => ht y (.tail _ hy))
theorem lay_true : ∀ n : Nat, PyData.canLayAll0 (List.replicate n (PyData.bool true)) = true
  | 0 => rfl
  | n + 1 => by rw [List.replicate_succ, PyData.canLayAll0, lay_true n]; rfl
theorem any_true : ∀ n : Nat, ((List.replicate n (PyData.bool true)).any fun y => PyData.eqv y (PyData.bool false)) = false
  | 0 => rfl
  | n + 1 => by rw [List.replicate_succ, List.any_cons, any_true n]; rfl
theorem false_notIn {prog : Program} {w : World} {A : Around} {E : Value → Shared → Prop} {s : Shared} {h₀ : Heap} {L : Addr} {news : List (Addr × Obj)} {Q : Value → Shared → Prop} {fin nf : Nat} {fs : List Value}
    (N : News h₀ L s.heap news) (hm : (fin, listOf fs.toArray nf) ∈ news) (ht : ∀ x ∈ fs, x = Value.bool true) (hu : A.units + 64 < cLine) (h : Q (.bool true) s) :
    wpAny (model prog w) A (compareOp .NotIn (.bool false) (.ref fin)) Q E s := by
  have rc : Reads s.heap (.ref fin) (.list (List.replicate fs.length (PyData.bool true))) (fin :: []) := reads_list_at (N.get hm) rfl rfl (by rw [List.toList_toArray]; exact reads_true ht)
  refine SeqAt.notIn_list_reads rc (.bool false) (lay_true _) rfl ?_ (by rw [any_true]; exact h)
  have e : (PyData.bool false).depth = 0 := rfl
  rw [e, Nat.min_zero]
  omega
end Mine
namespace Mine
section
local macro_rules | `(tactic| k_mem) => `(tactic| first | exact List.Mem.head _ | (refine' List.Mem.tail _ ?_; k_mem) | assumption)
local macro_rules | `(tactic| ktr_enter) => `(tactic| first | (refine' code_def ?k1 ?k2 ?k3 ?k4 ?k5 ?kA ?kF ?kK ?k6 ?k7 ?k8 ?k9 ?kB ?_ ?c2 ?c3 ?c4 ?c5; (case kA => exact rfl); (case kF => exact rfl); (case kK => first | exact rfl | assumption); (case k1 => k_asm); (case k2 => k_asm); (case k3 => k_asm); (case k4 => k_asm); (case k5 => k_asm); (case k6 => k_is); (case k7 => k_is); (case k8 => ktr_room); (case k9 => first | exact BindsTo.of_eq rfl | (refine' kp_binds ?kx ?ke; (case kx => k_in); (case ke => exact fun _ => rfl))); (case c5 => decide); (case kB => exact locs rfl); (case c2 => exact rfl); (case c3 => exact rfl); (case c4 => exact rfl); k_whole; intro g' L' h' FG' F' N' B' X' T'; (try dsimp only); (try k_lift B'); (try k_fold)) | (refine' code_defC ?k1 ?k2 ?k3 ?k4 ?k5 ?kA ?kF ?kK ?k6 ?k7 ?k8 ?k9 ?kB ?kD ?_ ?c2 ?c3 ?c4; (case kA => exact rfl); (case kF => exact rfl); (case kK => first | exact rfl | assumption); (case k1 => k_asm); (case k2 => k_asm); (case k3 => k_asm); (case k4 => k_asm); (case k5 => k_asm); (case k6 => k_is); (case k7 => k_is); (case k8 => ktr_room); (case k9 => first | exact BindsTo.of_eq rfl | (refine' kp_binds ?kx ?ke; (case kx => k_in); (case ke => exact fun _ => rfl))); (case kB => exact rfl); (case kD => decide +kernel); (case c2 => exact rfl); (case c3 => exact rfl); (case c4 => exact rfl); k_whole; intro g' L' h' tk' cells' FG' F' N' Y' B' X' T' l1; (try k_lt l1); k_cells Y'; (try simp only [List.cons_append, List.nil_append] at N'); (try dsimp only); (try k_lift B'); (try k_fold)))
local macro_rules | `(tactic| k_enter) => `(tactic| ktr_enter)
local macro_rules | `(tactic| k_all) => `(tactic| first | exact List.forall_mem_nil _ | (refine' List.forall_mem_cons.mpr ⟨?a, ?b⟩; (case a => k_ne); (case b => k_all)) | with_reducible assumption | exact allne_0 (by with_reducible assumption) | exact allne_le (by with_reducible assumption) (by omega) | exact AllNe.all (by with_reducible assumption) | exact AllNe.all (And.right (by with_reducible assumption)) | exact AllNe.all (And.right (And.right (by with_reducible assumption))) | exact AllNe.all (And.right (And.right (And.right (by with_reducible assumption)))) | exact AllNe.all (And.right (And.right (And.right (And.right (by with_reducible assumption))))) | exact allne_1 (by with_reducible assumption) | exact allne_1 (And.right (by with_reducible assumption)) | exact allne_1 (And.right (And.right (by with_reducible assumption))) | exact allne_1 (And.right (And.right (And.right (by with_reducible assumption)))) | exact allne_1 (And.right (And.right (And.right (And.right (by with_reducible assumption))))) | exact allne_1 (And.right (And.right (And.right (And.right (And.right (by with_reducible assumption)))))) | exact allne1_le (by with_reducible assumption) (by omega) | exact allne1_le (And.right (by with_reducible assumption)) (by omega) | exact allne1_le (And.right (And.right (by with_reducible assumption))) (by omega) | exact allne1_le (And.right (And.right (And.right (by with_reducible assumption)))) (by omega) | exact allne1_le (And.right (And.right (And.right (And.right (by with_reducible assumption))))) (by omega) | exact allne1_le (And.right (And.right (And.right (And.right (And.right (by with_reducible assumption)))))) (by omega))
local macro_rules | `(tactic| k_ne) => `(tactic| exact news_ne (by with_reducible assumption) (by k_mem) (by k_mem) (by first | (intro e; injection e with e; revert e; decide) | (intro e; cases e)))
local macro_rules | `(tactic| k_ne) => `(tactic| (refine neN ?_; (try dsimp only); omega))
local macro_rules | `(tactic| kst_in) => `(tactic| (refine List.forall_mem_cons.mpr ⟨by k_mem, ?_⟩; with_reducible first | exact fun p hp => hp | exact fun p hp => List.Mem.tail _ hp | exact fun p hp => List.Mem.tail _ (List.Mem.tail _ hp) | exact fun p hp => List.Mem.tail _ (List.Mem.tail _ (List.Mem.tail _ hp)) | exact fun p hp => List.Mem.tail _ (List.Mem.tail _ (List.Mem.tail _ (List.Mem.tail _ hp))) | exact fun p hp => List.Mem.tail _ (List.Mem.tail _ (List.Mem.tail _ (List.Mem.tail _ (List.Mem.tail _ hp)))) | exact fun p hp => List.Mem.tail _ (List.Mem.tail _ (List.Mem.tail _ (List.Mem.tail _ (List.Mem.tail _ (List.Mem.tail _ hp))))) | exact fun p hp => List.Mem.tail _ (List.Mem.tail _ (List.Mem.tail _ (List.Mem.tail _ (List.Mem.tail _ (List.Mem.tail _ (List.Mem.tail _ hp))))))))
local macro_rules | `(tactic| kst_all1) => `(tactic| first | exact List.forall_mem_nil _ | (refine List.forall_mem_cons.mpr ⟨by (simp only [kstB, os_eq, String.reduceEq, if_true, if_false]; first | done | rfl), ?_⟩; kst_all1))
local macro_rules | `(tactic| walk_at "subscriptTail") => `(tactic| (k_here; (with_reducible show wpAny _ _ (subscriptTail _ _ (Value.ref _) (Value.int _ _)) _ _ _); k_dflt (refine' rab_item ?k1 ?k2 ?k3 ?k4 ?k5 ?k6 ?_; (case k4 => with_reducible assumption); (case k3 => with_reducible assumption); (case k1 => k_asm); (case k2 => first | with_reducible assumption | k_mem); (case k5 => (try simp only [fdiv2]); omega); (case k6 => (try simp only [fdiv2]); omega)); intro _))
section
theorem bis_lo {x e lo hi : Int} (h0 : 0 ≤ lo) (h2 : hi ≤ e) (h3 : lo = 0 ∨ fb (lo.toNat + 1) ≤ x) (hl : lo < hi) (hx : x < fb ((Int.fdiv (lo + hi) 2).toNat + 2)) :
    0 ≤ lo ∧ lo ≤ Int.fdiv (lo + hi) 2 ∧ Int.fdiv (lo + hi) 2 ≤ e ∧ (lo = 0 ∨ fb (lo.toNat + 1) ≤ x) ∧ (Int.fdiv (lo + hi) 2 = e ∨ x < fb ((Int.fdiv (lo + hi) 2).toNat + 2)) := by
  rw [fdiv2] at *
  exact ⟨h0, by omega, by omega, h3, .inr hx⟩
theorem bis_hi {x e lo hi : Int} (h0 : 0 ≤ lo) (h2 : hi ≤ e) (h4 : hi = e ∨ x < fb (hi.toNat + 2)) (hl : lo < hi) (hx : ¬ x < fb ((Int.fdiv (lo + hi) 2).toNat + 2)) :
    0 ≤ Int.fdiv (lo + hi) 2 + 1 ∧ Int.fdiv (lo + hi) 2 + 1 ≤ hi ∧ hi ≤ e ∧ (Int.fdiv (lo + hi) 2 + 1 = 0 ∨ fb ((Int.fdiv (lo + hi) 2 + 1).toNat + 1) ≤ x) ∧ (hi = e ∨ x < fb (hi.toNat + 2)) := by
  rw [fdiv2] at *
  have e1 : ((lo + hi) / 2 + 1).toNat + 1 = ((lo + hi) / 2).toNat + 2 := by omega
  exact ⟨by omega, by omega, h2, .inr (by rw [e1]; omega), h4⟩
theorem bis_m1 {lo hi : Int} (hl : lo < hi) : (Int.fdiv (lo + hi) 2 - lo).toNat < (hi - lo).toNat := by
  rw [fdiv2]; omega
theorem bis_m2 {lo hi : Int} (hl : lo < hi) : (hi - (Int.fdiv (lo + hi) 2 + 1)).toNat < (hi - lo).toNat := by
  rw [fdiv2]; omega
theorem bis_end {x e lo hi : Int} (hn : ¬ lo < hi) (h0 : 0 ≤ lo) (hle : lo ≤ hi) (h2 : hi ≤ e) (h3 : lo = 0 ∨ fb (lo.toNat + 1) ≤ x) (h4 : hi = e ∨ x < fb (hi.toNat + 2)) :
    0 ≤ lo ∧ lo ≤ e ∧ (lo = 0 ∨ fb (lo.toNat + 1) ≤ x) ∧ (lo = e ∨ x < fb (lo.toNat + 2)) := by
  obtain rfl : lo = hi := by omega
  exact ⟨h0, h2, h3, h4⟩
theorem bis_ok {prog : Program} {w : World} {p : Program} {loose : List Str} {mean : ExcName → Option Value} {mg mb : Str → Option Value}
    {dp un : Nat} {gd : Option (List Code)} {cn : Str} {cs : Scope} {a : Addr} {ccd : Value} {cl : List (Str × Addr)} {outer : List Env} {A₀ : Around} {base h₀ : Heap} {L : Addr} {m : Str → Option Value} {news : List (Addr × Obj)} {s : Shared}
    {Q E : Value → Shared → Prop} {x e : Int} {tx te t0 : Tok} {rab nv : Nat} {vs : List Value} {ns : List Int}
    (B : Below A₀ base outer h₀) (F : Fr h₀ L s.heap m) (X : (top0.heap_1 w.params).In h₀) (N : News h₀ L s.heap news) (T : Top p loose mean mg mb h₀) (hk : cs.kind = .function)
    (hd : dp + 1 < recursionLimit) (hu : un + 8 < cLine) (hI : IntsAre vs ns) (hR : Rab ns) (hm : (rab, listOf vs.toArray nv) ∈ news) (h0 : 0 ≤ e) (h1 : e ≤ 40)
    (ret : ∀ (r : Int) t h' tk', Fr h₀ L h' m → News h₀ L h' news → 0 ≤ r → r ≤ e → (r = 0 ∨ fb (r.toNat + 1) ≤ x) → (r = e ∨ x < fb (r.toNat + 2)) → Q (.int r t) { s with heap := h', toks := tk' }) :
    wpAny (model prog w) (ktrTop dp un gd cn cs L a ccd cl outer) (call (.ref 44) [.ref rab, .int x tx, .int 0 t0, .int e te]) Q E s := by
  k_with_none
  w_top off
  refine wpAny_call ?_
  k_dflt ktr_enter
  k_with "exec While Compare cons nil" => k_while (fun _ lo hi => 0 ≤ lo ∧ lo ≤ hi ∧ hi ≤ e ∧ (lo = 0 ∨ fb (lo.toNat + 1) ≤ x) ∧ (hi = e ∨ x < fb (hi.toNat + 2))) (fun _ lo hi => (hi - lo).toNat) "lo" "hi"
  k_with "state" => first | exact bis_lo (by assumption) (by assumption) (by assumption) (by assumption) (by assumption) | exact bis_hi (by assumption) (by assumption) (by assumption) (by assumption) (by assumption)
  k_with "measure" => first | exact bis_m1 (by assumption) | exact bis_m2 (by assumption)
  k_steps
  have hE := bis_end (x := x) (e := e) (by assumption) (by assumption) (by assumption) (by assumption) (by assumption) (by assumption)
  exact ret _ _ _ _ (by assumption) (by assumption) hE.1 hE.2.1 hE.2.2.1 hE.2.2.2
end
section
local macro_rules | `(tactic| walk_at "pad 0") => `(tactic| fail)
theorem bits_small {x : Int} (h0 : 0 ≤ x) (hx : x < 2 ^ 63) : (Builtin.Int.intBits x : Int) - 28 ≤ 4000 := by
  unfold Builtin.Int.intBits
  have : x.natAbs < 2 ^ 63 := by omega
  split
  · decide
  · rename_i hne
    have hne' : x ≠ 0 := fun e => hne (by rw [e]; rfl)
    have := (Nat.log2_lt (show x.natAbs ≠ 0 by omega)).mpr this
    omega
theorem div_ok {prog : Program} {w : World} {p : Program} {loose : List Str} {mean : ExcName → Option Value} {mg mb : Str → Option Value}
    {dp un : Nat} {gd : Option (List Code)} {cn : Str} {cs : Scope} {a : Addr} {ccd : Value} {cl : List (Str × Addr)} {outer : List Env} {A₀ : Around} {base h₀ : Heap} {L : Addr} {m : Str → Option Value} {news : List (Addr × Obj)} {s : Shared}
    {Q E : Value → Shared → Prop} {x b nb : Int} {tx tb tn : Tok}
    (B : Below A₀ base outer h₀) (F : Fr h₀ L s.heap m) (X : (top0.heap_1 w.params).In h₀) (N : News h₀ L s.heap news) (T : Top p loose mean mg mb h₀) (hk : cs.kind = .function)
    (hd : dp + 1 < recursionLimit) (hb : b = 165580141) (hnb : nb = 28) (h0 : 0 ≤ x) (hx : x < 2 ^ 63)
    (ret : ∀ tp t1 t2 h' tk', Fr h₀ L h' m → News h₀ L h' ((tp, ({ cls := .type "tuple", data := .seq #[.int (Int.fdiv x 165580141) t1, .int (Int.fmod x 165580141) t2] } : Obj)) :: news) → Q (.ref tp) { s with heap := h', toks := tk' }) :
    wpAny (model prog w) (ktrTop dp un gd cn cs L a ccd cl outer) (call (.ref 28) [.int x tx, .int b tb, .int nb tn]) Q E s := by
  subst hb hnb
  k_with_none
  w_top off
  refine wpAny_call ?_
  k_dflt ktr_enter
  have hb9 := bits_small h0 hx
  k_steps
  rename Fr _ _ _ _ => kF
  rename News _ _ _ _ => kN
  exact ret _ _ _ _ _ kF kN
end
section
local macro_rules | `(tactic| walk_at "pad 0") => `(tactic| fail)
local macro_rules | `(tactic| walk_at "pad 1") => `(tactic| fail)
theorem ws_ok {prog : Program} {w : World} {p : Program} {loose : List Str} {mean : ExcName → Option Value} {mg mb : Str → Option Value}
    {dp un : Nat} {gd : Option (List Code)} {cn : Str} {cs : Scope} {a : Addr} {ccd : Value} {cl : List (Str × Addr)} {outer : List Env} {A₀ : Around} {base h₀ : Heap} {L : Addr} {m : Str → Option Value} {news : List (Addr × Obj)} {s : Shared}
    {Q E : Value → Shared → Prop} {x : Str} {tx : Tok}
    (B : Below A₀ base outer h₀) (F : Fr h₀ L s.heap m) (X : (top0.heap_1 w.params).In h₀) (N : News h₀ L s.heap news) (T : Top p loose mean mg mb h₀) (hk : cs.kind = .function)
    (hd : dp + 2 < recursionLimit) (hu : un + 8 < cLine) (hl : x.cps.size ≤ 100) (hg : WsOk x.cps.toList) (h1 : 1 ≤ (wsf x.cps.toList).2)
    (ret : ∀ xa dx tn tc cs b t0 tb k1 k2 k3 k4 k5 v1 v2 tt v5 h' tk', Fr h₀ L h' m → News h₀ L h' ((tn, ({ cls := .type "tuple", data := .seq #[.ref tc, .int b tb] } : Obj)) :: (tc, ({ cls := .type "tuple", data := .seq (Value.int 0 t0 :: cs).toArray } : Obj)) :: (xa, instObj 106 dx) ::
        (dx, dictOf [⟨PyData.keyHash w.params (Str.ofString "raw"), .str (Str.ofString "raw") k1, v1⟩, ⟨PyData.keyHash w.params (Str.ofString "n"), .str (Str.ofString "n") k2, v2⟩, ⟨PyData.keyHash w.params (Str.ofString "nt"), .str (Str.ofString "nt") k3, .int (wsf x.cps.toList).2 tt⟩,
          ⟨PyData.keyHash w.params (Str.ofString "norm"), .str (Str.ofString "norm") k4, .ref tn⟩, ⟨PyData.keyHash w.params (Str.ofString "is_simple"), .str (Str.ofString "is_simple") k5, v5⟩] 5) :: news) → Q (.ref xa) { s with heap := h', toks := tk' }) :
    wpAny (model prog w) (ktrTop dp un gd cn cs L a ccd cl outer) (call (.ref 106) [.str x tx]) Q E s := by
  k_with_none
  w_top off
  k_steps
  rename Fr _ _ _ _ => F0
  rename News _ _ _ _ => N0
  obtain ⟨rest, hrest, N1⟩ := news_tail N0
  clear N0
  obtain ⟨m₀, hm₀, F1⟩ := fr_gen F0
  clear F0
  obtain ⟨sv, hsv, esv⟩ := fr_val (m := m₀) (y := Str.ofString "self") (by rw [hm₀]; rfl)
  obtain ⟨cv, hcv, ecv⟩ := fr_val (m := m₀) (y := Str.ofString "count") (by rw [hm₀]; rfl)
  obtain ⟨tb0, eb0⟩ := fr_int (m := m₀) (y := Str.ofString "b") (i := 0) (by rw [hm₀]; rfl)
  obtain ⟨tn0, en0⟩ := fr_int (m := m₀) (y := Str.ofString "n") (i := 0) (by rw [hm₀]; rfl)
  obtain ⟨tt0, et0⟩ := fr_int (m := m₀) (y := Str.ofString "nt") (i := 0) (by rw [hm₀]; rfl)
  have eS : m₀ (Str.ofString "S") = some (.str (Str.ofString " ") 260) := by rw [hm₀]; rfl
  have eT : m₀ (Str.ofString "T") = some (.str (Str.ofString "\t") 261) := by rw [hm₀]; rfl
  clear hm₀
  refine' my_text (σ := Addr × List Value × Nat × List Int × Int × Tok × Int × Tok × Int × Tok) (fun c => (c.1, listOf c.2.1.toArray c.2.2.1) :: rest)
    (fun c => [(Str.ofString "count", .ref c.1), (Str.ofString "b", .int c.2.2.2.2.1 c.2.2.2.2.2.1), (Str.ofString "n", .int c.2.2.2.2.2.2.1 c.2.2.2.2.2.2.2.1), (Str.ofString "nt", .int c.2.2.2.2.2.2.2.2.1 c.2.2.2.2.2.2.2.2.2), (Str.ofString "self", sv), (Str.ofString "S", .str (Str.ofString " ") 260), (Str.ofString "T", .str (Str.ofString "\t") 261)]) []
    (fun i c => IntsAre c.2.1 c.2.2.2.1 ∧ c.2.2.2.2.1 = (wsf (x.cps.toList.take i)).1 ∧ c.2.2.2.2.2.2.1 = (i : Int) ∧ c.2.2.2.2.2.2.2.2.1 = (wsf (x.cps.toList.take i)).2 ∧ c.2.2.2.1.length ≤ i + 1 ∧ ((c.2.2.2.1 = [] ∧ c.2.2.2.2.2.2.2.2.1 = 0) ∨ c.2.2.2.1.head? = some 0) ∧ AllNe c.1 rest)
    (?ca, [], 0, [], 0, tb0, 0, tn0, 0, tt0) rfl F1 N1 ?hk ?hp ?turn ?done
  case hk => subst hcv hsv; exact List.forall_mem_cons.mpr ⟨ecv, List.forall_mem_cons.mpr ⟨eb0, List.forall_mem_cons.mpr ⟨en0, List.forall_mem_cons.mpr ⟨et0, List.forall_mem_cons.mpr ⟨esv, List.forall_mem_cons.mpr ⟨eS, List.forall_mem_cons.mpr ⟨eT, fun _ h => nomatch h⟩⟩⟩⟩⟩⟩⟩
  case hp => exact ⟨.nil, rfl, rfl, rfl, Nat.zero_le _, .inl ⟨rfl, rfl⟩, by
    subst hrest
    exact AllNe.ofLt (by assumption)⟩
  case turn =>
    rintro ⟨ca, cs', nn, ns, b, tb, n, tn, nt, tt⟩ i c t u h tk I io hc ⟨hI, hb, hn, hnt, hlen, hz, hne⟩ hoff F2 N2
    dsimp only [envOf] at hI hb hn hnt hlen hz hne hoff F2 N2
    subst hrest hsv
    replace hoff := AllNe.of hoff
    simp only [AllNe] at hoff hne
    clear F1 N1 eb0 en0 et0 esv ecv eS eT hcv
    have hi9 : i < x.cps.size := by
      rcases Nat.lt_or_ge i x.cps.size with h | h
      · exact h
      · rw [Array.getElem?_eq_none h] at hc; cases hc
    have hb9 := wsf_bounds (x.cps.toList.take i)
    have hl9 : (x.cps.toList.take i).length ≤ i := List.length_take_le ..
    have kLen := IntsAre.length hI
    have kMark := kstMark
    have hcl : x.cps.toList[i]? = some c := by simpa using hc
    rcases hg i c hcl with rfl | ⟨rfl, h9⟩
    · k_steps
      dsimp only [MPost]
      rename News _ _ _ _ => nE
      refine MEnd.intro (_, _, _, _, _, _, _, _, _, _) (by assumption) nE (by kst_in) (by k_mem) (by k_all) (by kst_all) (by intro z h1 h2 h3; dsimp only at h2; simp only [List.forall_mem_cons, List.not_mem_nil, false_implies, implies_true, and_true, ne_eq] at h2; simp only [kstB, h1, h2, h3, if_false, Bool.false_eq_true]) ⟨hI, ?_, ?_, ?_, ?_, ?_, ?_⟩
      · exact (ws_space hcl hb hnt).1
      · exact congrArg (· + 1) hn
      · exact (ws_space hcl hb hnt).2
      · exact Nat.le_succ_of_le hlen
      · exact hz
      · exact hne
    · k_steps
      · dsimp only [MPost]
        rename News _ _ _ _ => nE
        refine MEnd.intro (_, _, _, _, _, _, _, _, _, _) (by assumption) nE (by kst_in) (by k_mem) (by k_all) (by kst_all) (by intro z h1 h2 h3; dsimp only at h2; simp only [List.forall_mem_cons, List.not_mem_nil, false_implies, implies_true, and_true, ne_eq] at h2; simp only [kstB, h1, h2, h3, if_false, Bool.false_eq_true]) ⟨by assumption, ?_, ?_, ?_, ?_, ?_, ?_⟩
        · exact (ws_tab hcl hnt).1
        · exact congrArg (· + 1) hn
        · exact (ws_tab hcl hnt).2
        · exact ws_grow (by assumption) (by omega) (by assumption) (by assumption)
        · exact .inr ((set_head (by omega)).trans (ws_head hz (by omega)))
        · exact AllNe.of (by k_all)
      · dsimp only [MPost]
        rename News _ _ _ _ => nE
        refine MEnd.intro (_, _, _, _, _, _, _, _, _, _) (by assumption) nE (by kst_in) (by k_mem) (by k_all) (by kst_all) (by intro z h1 h2 h3; dsimp only at h2; simp only [List.forall_mem_cons, List.not_mem_nil, false_implies, implies_true, and_true, ne_eq] at h2; simp only [kstB, h1, h2, h3, if_false, Bool.false_eq_true]) ⟨by assumption, ?_, ?_, ?_, ?_, ?_, ?_⟩
        · exact (ws_tab hcl hnt).1
        · exact congrArg (· + 1) hn
        · exact (ws_tab hcl hnt).2
        · exact (List.length_set ..).symm ▸ Nat.le_succ_of_le hlen
        · refine .inr ((set_head (by omega)).trans ?_)
          rcases hz with ⟨rfl, _⟩ | h
          · exfalso; simp only [List.length_nil] at *; omega
          · exact h
        · exact hne
  case done =>
    rintro ⟨ca, cs', nn, ns, b, tb, n, tn, nt, tt⟩ u h tk ⟨hI, hb, hn, hnt, hlen, hz, hne⟩ F2 N2
    dsimp only [envOf] at hI hb hn hnt hlen hz hne F2 N2
    subst hrest hsv
    simp only [AllNe] at hne
    clear F1 N1 eb0 en0 et0 esv ecv eS eT hcv
    have ht : x.cps.toList.take x.cps.size = x.cps.toList := List.take_of_length_le (by simp)
    rw [ht] at hnt
    obtain ⟨r, rfl⟩ := ws_first hz hnt h1
    obtain ⟨t0, cs, rfl, hI'⟩ := IntsAre.cons_inv hI
    have hI : IntsAre (.int 0 t0 :: cs) (0 :: r) := .cons _ _ hI'
    clear hI'
    have hlen2 : (0 :: r : List Int).length ≤ 101 := by omega
    have kMark := kstMark
    clear hlen hz
    subst hnt
    k_steps
    rename Fr _ _ _ _ => kF
    rename News _ _ _ _ => kN
    exact ret _ _ _ _ _ _ _ _ _ _ _ _ _ _ _ _ _ _ _ kF (news_ws kN)
end
section
local macro_rules | `(tactic| walk_at "pad 0") => `(tactic| fail)
local macro_rules | `(tactic| walk_at "pad 1") => `(tactic| fail)
local macro_rules | `(tactic| walk_at "pad 2") => `(tactic| fail)
theorem made_tabs {c : List Nat} {l : Nat} {n : Int} (hok : LeadOk c l) (h0 : 1 ≤ n) (h1 : n < 102334155) (e : l = (zk 40 n).length := by simp [*]) : 1 ≤ (wsf c).2 := by
  have : (zk 40 n).length ≠ 0 := fun h => zk40_ne h0 h1 (List.eq_nil_of_length_eq_zero h)
  rw [hok.2]; simp only; omega
local macro_rules | `(tactic| ktr_room) => `(tactic| ((try simp only [depth_under_make, depth_under_kw, depth_in1, depth_deeper, depth_caller]); (try dsimp only [ktrTop]); omega))
local macro_rules | `(tactic| walk_at "call ref") => `(tactic| (k_here; (with_reducible show wpAny _ _ (call (Value.ref 44) _) _ _ _); k_dflt (refine' bis_ok ?kB ?kF ?kX ?kN ?kT ?kK ?kd ?ku ?kI ?kR ?km ?k0 ?k1 ?_; (case kB => k_asm); (case kF => k_asm); (case kX => k_asm); (case kN => k_asm); (case kT => k_asm); (case kK => first | exact rfl | assumption); (case kd => ktr_room); (case ku => (simp only [units_in1, units_deeper, Around.mark_units, units_caller]; omega)); (case kR => with_reducible assumption); (case kI => with_reducible assumption); (case km => k_mem); (case k0 => omega); (case k1 => omega)); intro r' t' h' tk' F' N' e1 e2 e3 e4; (try (have e5 := bis_pos e3 e4 e1 (by omega) (by omega))); (try k_sweep)))
local macro_rules | `(tactic| walk_at "last exec While") => `(tactic| (k_here; k_extra "my while"))
local macro_rules | `(tactic| walk_at "call ref") => `(tactic| (k_here; (with_reducible show wpAny _ _ (call (Value.ref 106) _) _ _ _); k_dflt (refine' ws_ok ?kB ?kF ?kX ?kN ?kT ?kK ?kd ?ku ?k0 ?k1 ?k2 ?_; (case kB => k_asm); (case kF => k_asm); (case kX => k_asm); (case kN => k_asm); (case kT => k_asm); (case kK => first | exact rfl | assumption); (case kd => ktr_room); (case ku => (simp only [units_in1, units_deeper, Around.mark_units, units_caller]; omega)); (case k0 => k_extra "ws size"); (case k1 => k_extra "ws good"); (case k2 => k_extra "ws tabs")); intro xa' dx' tn' tc' cs' b' t0' tb' k1' k2' k3' k4' k5' v1' v2' tt' v5' h' tk' F' N'; (try k_sweep)))
local macro_rules | `(tactic| walk_at "call ref") => `(tactic| (k_here; (with_reducible show wpAny _ _ (call (Value.ref 28) _) _ _ _); k_dflt (refine' div_ok ?kB ?kF ?kX ?kN ?kT ?kK ?kd ?k2 ?k3 ?k0 ?k1 ?_; (case kB => k_asm); (case kF => k_asm); (case kX => k_asm); (case kN => k_asm); (case kT => k_asm); (case kK => first | exact rfl | assumption); (case kd => ktr_room); (case k2 => exact Rab.m1 (by with_reducible assumption)); (case k3 => exact bits28 (Rab.m1 (by with_reducible assumption))); (case k0 => (rw [Rab.m3 (by with_reducible assumption)]; omega)); (case k1 => (rw [Rab.m3 (by with_reducible assumption)]; omega))); intro tp' t1' t2' h' tk' F' N'; (try k_sweep)))
local macro_rules | `(tactic| walk_at "subscriptTail") => `(tactic| (k_here; (with_reducible show wpAny _ _ (subscriptTail _ _ (Value.ref _) (Value.int 0 _)) _ _ _); k_dflt (refine' tup0 ?k1 ?k2 ?_; (case k1 => k_asm); (case k2 => k_mem))))
theorem made_ok {prog : Program} {w : World} {p : Program} {loose : List Str} {mean : ExcName → Option Value} {mg mb : Str → Option Value}
    {dp un : Nat} {gd : Option (List Code)} {cn : Str} {cs : Scope} {a : Addr} {ccd : Value} {cl : List (Str × Addr)} {outer : List Env} {A₀ : Around} {base h₀ : Heap} {L : Addr} {m : Str → Option Value} {rest : List (Addr × Obj)} {s : Shared}
    {Q E : Value → Shared → Prop} {n : Int} {tn : Tok} {rab nv fin nf : Nat} {vs fs : List Value} {ns : List Int}
    (B : Below A₀ base outer h₀) (F : Fr h₀ L s.heap m) (X : (top0.heap_1 w.params).In h₀) (N : News h₀ L s.heap ((fin, listOf fs.toArray nf) :: (rab, listOf vs.toArray nv) :: rest)) (T : Top p loose mean mg mb h₀) (hk : cs.kind = .function)
    (hd : dp + 9 < recursionLimit) (hu : un + 50 < cLine) (hI : IntsAre vs ns) (hR : Rab ns) (h0 : 1 ≤ n) (h1 : n < 102334155) (hfr : rab ≠ fin) (hfn : AllNe fin rest) (hfl : fs.length ≤ 1000)
    (ret : ∀ tp pl t2 ps np h' tk', Fr h₀ L h' m → News h₀ L h' ((tp, ({ cls := .type "tuple", data := .seq #[.int n tn, .ref pl, .int (part n) t2] } : Obj)) :: (pl, listOf ps.toArray np) :: (fin, listOf (fs ++ [Value.bool true]).toArray (nf + 1)) :: (rab, listOf vs.toArray nv) :: rest) →
      IntsAre ps ((zk 40 n).map Int.ofNat) → (fin < pl ∧ rab < pl ∧ AllLt pl rest) → Q (.ref tp) { s with heap := h', toks := tk' }) :
    wpAny (model prog w) (ktrTop dp un gd cn cs L a ccd cl outer) (call (.ref 151) [.int n tn, .ref rab, .ref fin]) Q E s := by
  k_with_none
  w_top off
  refine wpAny_call ?_
  k_dflt ktr_enter
  have hlen40 := hR.1
  have kLen0 := IntsAre.length hI
  have kMark := kstMark
  k_with "my while" => k_while (fun _ left end_ places => 0 ≤ left ∧ left < fb (end_.toNat + 2) ∧ 0 ≤ end_ ∧ end_ ≤ 40 ∧ (places.length : Int) + end_ ≤ 40 ∧ places ++ (zk end_.toNat left).map Int.ofNat = (zk 40 n).map Int.ofNat) (fun _ left end_ places => end_.toNat) "left" "end" "places"
  k_with "state" => first | exact made_turnR hR (by assumption) (by assumption) (by assumption) (by assumption) (by assumption) (by assumption) (by assumption) (by assumption) | exact made_start (by omega) (by assumption) (by assumption)
  k_steps
  rotate_left
  · exact (made_absurd (by assumption) (by assumption) (by assumption) (by assumption) (by assumption)).elim
  rename Fr _ _ _ _ => F0
  rename News _ _ _ _ => N0
  obtain rfl := made_done (by assumption) (by assumption)
  rename @Eq Int _ 0 => hl0
  subst hl0
  obtain ⟨rest9, hrest, N1⟩ := news_tail N0
  clear N0
  obtain ⟨m₀, hm₀, F1⟩ := fr_gen F0
  clear F0
  obtain ⟨pv, hpv, epv⟩ := fr_val (m := m₀) (y := Str.ofString "places") (by rw [hm₀]; rfl)
  obtain ⟨lv, hlv, elv⟩ := fr_val (m := m₀) (y := Str.ofString "left") (by rw [hm₀]; rfl)
  obtain ⟨lt0, elt⟩ : ∃ t, m₀ (Str.ofString "lead") = some (.str (Str.ofString "") t) := ⟨_, by rw [hm₀]; rfl⟩
  have en : m₀ (Str.ofString "number") = some (.int n tn) := by rw [hm₀]; rfl
  have er : m₀ (Str.ofString "rabbits") = some (.ref rab) := by rw [hm₀]; rfl
  have ef : m₀ (Str.ofString "fine") = some (.ref fin) := by rw [hm₀]; rfl
  clear hm₀
  refine' my_rev (σ := Str × Tok) (fun _ => rest9) (fun c => [(Str.ofString "lead", .str c.1 c.2), (Str.ofString "number", .int n tn), (Str.ofString "rabbits", .ref rab), (Str.ofString "fine", .ref fin), (Str.ofString "places", pv), (Str.ofString "left", lv)]) []
    (fun i c => LeadOk c.1.cps.toList i ∧ c.1.length ≤ 41 ∧ ∀ p, (zk 40 n)[(zk 40 n).length - 1 - i]? = some p → i < (zk 40 n).length → c.1.length ≤ p) (Str.ofString "", lt0) rfl F1 N1 ?hD ?hl ?hk ?hp ?turn ?done
  case hD => subst hrest; k_all
  case hl => subst hrest; exact fun _ => .head _
  case hk => exact List.forall_mem_cons.mpr ⟨elt, List.forall_mem_cons.mpr ⟨en, List.forall_mem_cons.mpr ⟨er, List.forall_mem_cons.mpr ⟨ef, List.forall_mem_cons.mpr ⟨epv, List.forall_mem_cons.mpr ⟨elv, fun _ h => nomatch h⟩⟩⟩⟩⟩⟩
  case hp => exact ⟨leadOk_nil, Nat.zero_le _, fun p _ _ => Nat.zero_le _⟩
  case turn =>
    rintro ⟨lx, lt⟩ i v u h tk io hi hv ⟨hok, h41, hle⟩ hoff F2 N2
    dsimp only [envOf] at hok h41 hle hoff F2 N2
    subst hrest
    clear F1 N1 epv elv elt en er ef
    obtain ⟨q, t, rfl, hq⟩ := IntsAre.at (by assumption) _ _ hv
    obtain ⟨p, rfl, hp⟩ := map_at hq
    have hlen9 := IntsAre.length (by assumption : IntsAre _ ((zk 40 n).map Int.ofNat))
    rw [List.length_map] at hlen9
    rw [hlen9] at hp hi
    have hlx := hle p hp hi
    have hp40 := apart_bd (zk40_apart h0 h1) p (List.mem_of_getElem? hp)
    clear hv hq
    k_steps
    dsimp only [MPost]
    rename News _ _ _ _ => nE
    refine MEnd.intro (_, _) (by assumption) nE (fun p hp => List.Mem.tail _ hp) (by k_mem) hoff (by kst_all) (by intro z h1 h2 h3; dsimp only at h2; simp only [List.forall_mem_cons, List.not_mem_nil, false_implies, implies_true, and_true, ne_eq] at h2; simp only [kstB, h1, h2, h3, if_false, Bool.false_eq_true]) ⟨?_, ?_, ?_⟩
    · dsimp only
      rw [lead_new hlx]
      exact leadOk_step hok (by omega)
    · dsimp only
      rw [lead_new_len hlx]; omega
    · dsimp only
      intro p' hp' hi'
      rw [lead_new_len hlx]
      exact apart_get (zk40_apart h0 h1) _ _ _ hp' (by rw [← hp]; congr 1; omega)
  case done =>
    rintro ⟨lx, lt⟩ u h tk ⟨hok, h41, _⟩ F2 N2
    dsimp only [envOf] at hok h41 F2 N2
    subst hrest hpv hlv
    clear F1 N1 epv elv elt en er ef
    have hw9 : (wsf lx.cps.toList).2 = (((zk 40 n).map Int.ofNat).length : Int) := by
      rw [hok.2, IntsAre.length (by assumption : IntsAre _ ((zk 40 n).map Int.ofNat))]
    k_with "ws size" => exact Nat.le_trans h41 (by decide)
    k_with "ws good" => exact hok.1
    k_with "ws tabs" => exact made_tabs hok h0 h1
    k_steps
    rename Fr _ _ _ _ => kF
    rename News _ _ _ _ => kN
    have e9 : ((wsf lx.cps.toList).2 == (((zk 40 n).map Int.ofNat).length : Int)) = true := by rw [hw9]; exact beq_self_eq_true _
    rw [e9, List.push_toArray, Rab.m3 hR] at kN
    refine ret _ _ _ _ _ _ _ kF (news_made kN) (by assumption) (by assumption)
end
section
local macro_rules | `(tactic| walk_at "pad 0") => `(tactic| fail)
local macro_rules | `(tactic| walk_at "pad 1") => `(tactic| fail)
local macro_rules | `(tactic| walk_at "exec For Name Subscript cons nil") => `(tactic| (k_here; (rename Fr _ _ _ _ => lF'); (with_unfolding_all refine' For_invVF lF' ?k1 ?k2 ?_; (case k1 => exact rfl); (case k2 => exact rfl); k_whole)))
local macro_rules | `(tactic| walk_at "pyIter ref") => `(tactic| (k_here; k_extra "my iter"))
local macro_rules | `(tactic| walk_at "call ref") => `(tactic| (k_here; (with_reducible show wpAny _ _ (call (Value.ref 151) _) _ _ _); k_extra "my made"))
theorem prod_ok {prog : Program} {w : World} {p : Program} {loose : List Str} {mean : ExcName → Option Value} {mg mb : Str → Option Value}
    {dp un : Nat} {gd : Option (List Code)} {cn : Str} {cs : Scope} {a' : Addr} {ccd : Value} {cl : List (Str × Addr)} {outer : List Env} {A₀ : Around} {base h₀ : Heap} {L : Addr} {m : Str → Option Value} {rest : List (Addr × Obj)} {s : Shared}
    {Q E : Value → Shared → Prop} {a b : Int} {o1 o2 pa pb : Nat} {ta sa tb sb : Tok} {psa psb : List Value} {npa npb : Nat} {rab nv fin nf : Nat} {vs fs : List Value} {ns : List Int}
    (B : Below A₀ base outer h₀) (F : Fr h₀ L s.heap m) (X : (top0.heap_1 w.params).In h₀) (N : News h₀ L s.heap ((fin, listOf fs.toArray nf) :: (rab, listOf vs.toArray nv) :: rest)) (T : Top p loose mean mg mb h₀) (hk : cs.kind = .function)
    (hd : dp + 12 < recursionLimit) (hu : un + 60 < cLine) (hI : IntsAre vs ns) (hR : Rab ns) (hfr : rab ≠ fin) (hfn : AllNe fin rest) (hfl : fs.length ≤ 900)
    (m1 : (o1, ({ cls := .type "tuple", data := .seq #[.int a ta, .ref pa, .int (part a) sa] } : Obj)) ∈ rest) (m2 : (pa, listOf psa.toArray npa) ∈ rest)
    (m3 : (o2, ({ cls := .type "tuple", data := .seq #[.int b tb, .ref pb, .int (part b) sb] } : Obj)) ∈ rest) (m4 : (pb, listOf psb.toArray npb) ∈ rest)
    (Ia : IntsAre psa ((zk 40 a).map Int.ofNat)) (Ib : IntsAre psb ((zk 40 b).map Int.ofNat)) (hF : Fit a b)
    (ret : ∀ tp pl t1 t2 ps np h' tk', Fr h₀ L h' m → News h₀ L h' ((tp, ({ cls := .type "tuple", data := .seq #[.int (circ a b) t1, .ref pl, .int (part (circ a b)) t2] } : Obj)) :: (pl, listOf ps.toArray np) :: (fin, listOf (fs ++ [Value.bool true] ++ [Value.bool true]).toArray (nf + 1 + 1)) :: (rab, listOf vs.toArray nv) :: rest) →
      IntsAre ps ((zk 40 (circ a b)).map Int.ofNat) → (fin < pl ∧ rab < pl ∧ AllLt pl rest) → Q (.ref tp) { s with heap := h', toks := tk' }) :
    wpAny (model prog w) (ktrTop dp un gd cn cs L a' ccd cl outer) (call (.ref 158) [.ref o1, .ref o2, .ref rab, .ref fin]) Q E s := by
  k_with_none
  w_top off
  refine wpAny_call ?_
  k_dflt ktr_enter
  have hlen40 := hR.1
  have kLen0 := IntsAre.length hI
  have hc := conv_zk hF.1 hF.2.1 hF.2.2.1 hF.2.2.2.1
  k_with "my iter" => refine hold ?_
  k_steps
  unfold Hold
  rename Fr _ _ _ _ => F0
  rename News _ _ _ _ => N0
  obtain ⟨m₀, hm₀, F1⟩ := fr_gen F0
  clear F0
  obtain ⟨tt0, ett⟩ := fr_int (m := m₀) (y := Str.ofString "total") (i := 0) (by rw [hm₀]; rfl)
  have e1 : m₀ (Str.ofString "one") = some (.ref o1) := by rw [hm₀]; rfl
  have e2 : m₀ (Str.ofString "other") = some (.ref o2) := by rw [hm₀]; rfl
  have e3 : m₀ (Str.ofString "rabbits") = some (.ref rab) := by rw [hm₀]; rfl
  have e4 : m₀ (Str.ofString "fine") = some (.ref fin) := by rw [hm₀]; rfl
  clear hm₀
  refine' my_list (σ := Int × Tok) (l := pa) (vs := psa) (nn := npa) (fun _ => (fin, listOf fs.toArray nf) :: (rab, listOf vs.toArray nv) :: rest)
    (fun c => [(Str.ofString "total", .int c.1 c.2), (Str.ofString "one", .ref o1), (Str.ofString "other", .ref o2), (Str.ofString "rabbits", .ref rab), (Str.ofString "fine", .ref fin)]) [Str.ofString "further"]
    (fun i c => c.1 = conv ((zk 40 a).take i) (zk 40 b)) (0, tt0) ?kh ?kF ?kN (fun _ => .tail _ (.tail _ m2)) ?hk ?hp ?turn ?done
  case kh => rfl
  case kF => exact F1
  case kN => exact N0
  case hk => exact List.forall_mem_cons.mpr ⟨ett, List.forall_mem_cons.mpr ⟨e1, List.forall_mem_cons.mpr ⟨e2, List.forall_mem_cons.mpr ⟨e3, List.forall_mem_cons.mpr ⟨e4, fun _ h => nomatch h⟩⟩⟩⟩⟩
  case hp => rfl
  case turn =>
    rintro ⟨tot, tt⟩ i v u h tk I io hv hP hoff F2 N2
    dsimp only [envOf] at hP hoff F2 N2
    clear F1 N0 ett e1 e2 e3 e4
    obtain ⟨q, t, rfl, hq⟩ := IntsAre.at Ia _ _ hv
    obtain ⟨x, rfl, hx⟩ := map_at hq
    clear hv hq
    k_steps
    unfold Hold
    rename Fr _ _ _ _ => F0
    rename News _ _ _ _ => N0
    (try clear F2)
    obtain ⟨m₁, hm₁, F1⟩ := fr_gen F0
    clear F0
    obtain ⟨tt0, ett⟩ := fr_int (m := m₁) (y := Str.ofString "total") (i := tot) (by rw [hm₁]; rfl)
    have e1 : m₁ (Str.ofString "one") = some (.ref o1) := by rw [hm₁]; rfl
    have e2 : m₁ (Str.ofString "other") = some (.ref o2) := by rw [hm₁]; rfl
    have e3 : m₁ (Str.ofString "rabbits") = some (.ref rab) := by rw [hm₁]; rfl
    have e4 : m₁ (Str.ofString "fine") = some (.ref fin) := by rw [hm₁]; rfl
    have e5 : m₁ (Str.ofString "place") = some (.int x t) := by rw [hm₁]; rfl
    have hm₂ : ∀ z, z ≠ Str.ofString "place" → z ≠ Str.ofString "total" → z ≠ Str.ofString "one" → z ≠ Str.ofString "other" → z ≠ Str.ofString "rabbits" → z ≠ Str.ofString "fine" → z ≠ Str.ofString "further" → m₁ z = m₀ z := by
      intro z z1 z2 z3 z4 z5 z6 z7
      rw [hm₁]; simp [kstB, z1, z2, z3, z4, z5, z6, z7]
    clear hm₁
    refine' my_list (σ := Int × Tok) (l := pb) (vs := psb) (nn := npb) (fun _ => (I, io) :: (fin, listOf fs.toArray nf) :: (rab, listOf vs.toArray nv) :: rest)
      (fun c => [(Str.ofString "total", .int c.1 c.2), (Str.ofString "place", .int x t), (Str.ofString "one", .ref o1), (Str.ofString "other", .ref o2), (Str.ofString "rabbits", .ref rab), (Str.ofString "fine", .ref fin)]) []
      (fun j c => c.1 = tot + inn x ((zk 40 b).take j)) (tot, tt0) ?jh ?jF ?jN (fun _ => .tail _ (.tail _ (.tail _ m4))) ?jk ?jp ?jturn ?jdone
    case jh => rfl
    case jF => exact F1
    case jN => exact N0
    case jk => exact List.forall_mem_cons.mpr ⟨ett, List.forall_mem_cons.mpr ⟨e5, List.forall_mem_cons.mpr ⟨e1, List.forall_mem_cons.mpr ⟨e2, List.forall_mem_cons.mpr ⟨e3, List.forall_mem_cons.mpr ⟨e4, fun _ h => nomatch h⟩⟩⟩⟩⟩⟩
    case jp => simp [inn]
    case jturn =>
      rintro ⟨tot', tt'⟩ j v u h tk I' io' hv hP' hoff' F2 N2
      dsimp only [envOf] at hP' hoff' F2 N2
      clear F1 N0 ett e1 e2 e3 e4 e5
      obtain ⟨q, t', rfl, hq⟩ := IntsAre.at Ib _ _ hv
      obtain ⟨y, rfl, hy⟩ := map_at hq
      clear hv hq
      have hxy := idx_bd hF.1 hF.2.1 hF.2.2.1 hF.2.2.2.1 hF.2.2.2.2.1 (List.mem_of_getElem? hx) (List.mem_of_getElem? hy)
      k_steps
      dsimp only [MPost]
      rename News _ _ _ _ => nE
      refine MEnd.intro (_, _) (by assumption) nE (fun p hp => List.Mem.tail _ hp) (by k_mem) hoff' (by kst_all) (by intro z h1 h2 h3; dsimp only at h2; simp only [List.forall_mem_cons, List.not_mem_nil, false_implies, implies_true, and_true, ne_eq] at h2; (try simp only [List.contains_cons, List.contains_nil, Bool.or_false, Bool.or_eq_false_iff, beq_eq_false_iff_ne, ne_eq] at h3); simp [kstB, h1, h2, h3]) ?_
      dsimp only
      rw [hP', List.take_add_one, hy, Option.toList_some, inn_snoc, Rab.getD hR (by omega), show ((x : Int) + (y : Int) + 2).toNat + 2 = x + y + 4 by omega]
      omega
    case jdone =>
      rintro ⟨tot', tt'⟩ u' h tk hP' F2 N2
      dsimp only [envOf] at hP' F2 N2
      clear F1 N0 ett e1 e2 e3 e4 e5
      k_steps
      dsimp only [MPost]
      refine MEnd.intro (tot', tt') F2 N2 (fun p hp => List.Mem.tail _ hp) (by k_mem) hoff (by kst_all) ?_ ?_
      · intro z h1 h2 h3
        dsimp only at h2
        simp only [List.forall_mem_cons, List.not_mem_nil, false_implies, implies_true, and_true, ne_eq] at h2
        simp only [List.contains_cons, List.contains_nil, Bool.or_false, beq_eq_false_iff_ne, ne_eq] at h3
        simp [kstB, h1, h2, h3, hm₂]
      · dsimp only
        rw [hP', hP, List.take_add_one, hx, Option.toList_some, conv_snoc, ← hP, List.take_of_length_le (by rw [← List.length_map (f := Int.ofNat), ← IntsAre.length Ib]; exact Nat.le_refl _)]
  case done =>
    rintro ⟨tot, tt⟩ u h tk hP F2 N2
    dsimp only [envOf] at hP F2 N2
    clear F1 N0 ett e1 e2 e3 e4
    rw [List.take_of_length_le (by rw [← List.length_map (f := Int.ofNat), ← IntsAre.length Ia]; exact Nat.le_refl _), hc] at hP
    subst hP
    have hF' := hF
    obtain ⟨f1, f2, f3, f4, f5, f6, f7⟩ := hF'
    k_with "my made" => refine hold ?_
    k_steps
    unfold Hold
    rename News _ _ _ _ => kN
    rename Fr _ _ _ _ => kF
    have e9 : (circ a b == 3 * a * b - a * part b - part a * b) = true := beq_self_eq_true _
    rw [e9, List.push_toArray] at kN
    k_dflt (refine' made_ok (fs := fs ++ [Value.bool true]) ?kB ?kF ?kX kN ?kT ?kK ?kd ?ku hI hR f6 f7 hfr hfn ?kl ?_)
    case kB => k_asm
    case kF => k_asm
    case kX => k_asm
    case kT => k_asm
    case kK => exact rfl
    case kd => ktr_room
    case ku => (simp only [units_in1, units_deeper, Around.mark_units, units_caller]; omega)
    case kl => (rw [List.length_append, List.length_singleton]; omega)
    intro tp pl t2 ps np h' tk' F' N' I' l'
    k_steps
    rename Fr _ _ _ _ => kF'
    rename News _ _ _ _ => kN'
    exact ret _ _ _ _ _ _ _ _ kF' kN' I' l'
end
section
local macro_rules | `(tactic| walk_at "pad 0") => `(tactic| fail)
local macro_rules | `(tactic| walk_at "pad 1") => `(tactic| fail)
theorem rabs_start : (([1, 2] : List Int).length ≤ 40) ∧ 2 ≤ ([1, 2] : List Int).length ∧ ∀ i, i < ([1, 2] : List Int).length → ([1, 2] : List Int)[i]? = some (fb (i + 2)) := by
  refine ⟨by decide, by decide, fun i hi => ?_⟩
  have : i = 0 ∨ i = 1 := by simp at hi; omega
  rcases this with rfl | rfl <;> decide
theorem rabs_turn {rs : List Int} (h1 : (rs.length : Int) < 40) (h2 : 2 ≤ rs.length) (h3 : ∀ i, i < rs.length → rs[i]? = some (fb (i + 2))) :
    (rs ++ [rs.getD (-1 + (rs.length : Int)).toNat 0 + rs.getD (-2 + (rs.length : Int)).toNat 0]).length ≤ 40 ∧ 2 ≤ (rs ++ [rs.getD (-1 + (rs.length : Int)).toNat 0 + rs.getD (-2 + (rs.length : Int)).toNat 0]).length ∧
      ∀ i, i < (rs ++ [rs.getD (-1 + (rs.length : Int)).toNat 0 + rs.getD (-2 + (rs.length : Int)).toNat 0]).length → (rs ++ [rs.getD (-1 + (rs.length : Int)).toNat 0 + rs.getD (-2 + (rs.length : Int)).toNat 0])[i]? = some (fb (i + 2)) := by
  have e1 : rs.getD (-1 + (rs.length : Int)).toNat 0 = fb (rs.length - 1 + 2) := by
    rw [List.getD_eq_getElem?_getD, show (-1 + (rs.length : Int)).toNat = rs.length - 1 by omega, h3 _ (by omega)]; rfl
  have e2 : rs.getD (-2 + (rs.length : Int)).toNat 0 = fb (rs.length - 2 + 2) := by
    rw [List.getD_eq_getElem?_getD, show (-2 + (rs.length : Int)).toNat = rs.length - 2 by omega, h3 _ (by omega)]; rfl
  rw [e1, e2]
  simp only [List.length_append, List.length_singleton]
  refine ⟨by omega, by omega, fun i hi => ?_⟩
  rcases Nat.lt_or_ge i rs.length with h | h
  · rw [List.getElem?_append_left h]; exact h3 i h
  · obtain rfl : i = rs.length := by omega
    rw [List.getElem?_append_right (Nat.le_refl _)]
    obtain ⟨k, hk⟩ : ∃ k, rs.length = k + 2 := ⟨rs.length - 2, by omega⟩
    simp only [hk, Nat.add_sub_cancel, Nat.sub_self]
    rw [show k + 2 - 1 + 2 = k + 3 by omega]
    show some (fb (k + 3) + fb (k + 2)) = some (fb (k + 4))
    rfl
theorem rabs_done {rs : List Int} (hn : ¬ (rs.length : Int) < 40) (h1 : rs.length ≤ 40) (h3 : ∀ i, i < rs.length → rs[i]? = some (fb (i + 2))) : Rab rs :=
  ⟨by omega, fun i hi => h3 i (by omega)⟩
local macro_rules | `(tactic| walk_at "exec While Compare cons nil") => `(tactic| (k_here; k_extra "my while"))
theorem rabs_ok {prog : Program} {w : World} {p : Program} {loose : List Str} {mean : ExcName → Option Value} {mg mb : Str → Option Value}
    {dp un : Nat} {gd : Option (List Code)} {cn : Str} {cs : Scope} {a' : Addr} {ccd : Value} {cl : List (Str × Addr)} {outer : List Env} {A₀ : Around} {base h₀ : Heap} {L : Addr} {m : Str → Option Value} {news : List (Addr × Obj)} {s : Shared}
    {Q E : Value → Shared → Prop}
    (B : Below A₀ base outer h₀) (F : Fr h₀ L s.heap m) (X : (top0.heap_1 w.params).In h₀) (N : News h₀ L s.heap news) (T : Top p loose mean mg mb h₀) (hk : cs.kind = .function)
    (hd : dp + 2 < recursionLimit)
    (ret : ∀ r vs nv ns h' tk', Fr h₀ L h' m → News h₀ L h' ((r, listOf vs.toArray nv) :: news) → AllLt r news → IntsAre vs ns → Rab ns → Q (.ref r) { s with heap := h', toks := tk' }) :
    wpAny (model prog w) (ktrTop dp un gd cn cs L a' ccd cl outer) (call (.ref 134) []) Q E s := by
  k_with_none
  w_top off
  refine wpAny_call ?_
  k_dflt ktr_enter
  have kMark := kstMark
  k_with "my while" => refine hold ?_
  k_steps
  unfold Hold
  rename Fr _ _ _ _ => F0
  rename News _ _ _ _ => N0
  rename (∀ q ∈ news, _ < _) => l0
  refine' ksw_while (σ := List Value × List Int × Nat) (fun c => (_, listOf c.1.toArray c.2.2) :: news) (fun _ => []) (fun c => IntsAre c.1 c.2.1) [] (fun c => c.2.1.length ≤ 40 ∧ 2 ≤ c.2.1.length ∧ ∀ i, i < c.2.1.length → c.2.1[i]? = some (fb (i + 2))) (fun c => 40 - c.2.1.length) (_, [1, 2], _) F0 N0 ?kf (fun _ h => nomatch h) ?kp ?turn
  case kf => exact .cons _ _ (.cons _ _ .nil)
  case kp => exact rabs_start
  case turn =>
    rintro ⟨vs, rs, n⟩ u h tk hI ⟨h1, h2, h3⟩ F2 N2
    dsimp only [envOf] at hI h1 h2 h3 F2 N2
    clear F0 N0
    have kLen := IntsAre.length hI
    k_steps
    · rename Fr _ _ _ _ => kF
      rename News _ _ _ _ => kN
      rename (rs.length : Int) < 40 => hlt
      rw [List.push_toArray] at kN
      have hT := rabs_turn hlt h2 h3
      refine ksw_end (_, rs ++ [_], _) kF kN (fun p hp => hp) (hI.append (.cons _ _ .nil)) (fun _ h => nomatch h) (fun z _ _ => rfl) hT ?_
      dsimp only
      rw [List.length_append, List.length_singleton]; omega
    · rename Fr _ _ _ _ => kF
      rename News _ _ _ _ => kN
      exact ret _ _ _ _ _ _ kF kN (allLt_of l0) hI (rabs_done (by assumption) h1 h3)
end
section
local macro_rules | `(tactic| walk_at "pad 0") => `(tactic| fail)
local macro_rules | `(tactic| walk_at "pad 1") => `(tactic| fail)
local macro_rules | `(tactic| walk_at "pad 2") => `(tactic| fail)
local macro_rules | `(tactic| walk_at "pad 3") => `(tactic| fail)
local macro_rules | `(tactic| walk_at "exec For Tuple Call cons nil") => `(tactic| (k_here; (rename Fr _ _ _ _ => lF'); (with_unfolding_all refine' For_turns lF' ?_; k_whole)))
local macro_rules | `(tactic| walk_at "pyIter ref") => `(tactic| (k_here; k_extra "my iter"))
theorem four_of {l : List Int} (h : l.length = 4) : ∃ a b c d, l = [a, b, c, d] := by
  match l, h with
  | [a, b, c, d], _ => exact ⟨a, b, c, d, rfl⟩
theorem ints4 {vs : List Value} {a b c d : Int} (h : IntsAre vs [a, b, c, d]) : ∃ ta tb tc td, vs = [.int a ta, .int b tb, .int c tc, .int d td] := by
  obtain ⟨ta, r0, e0, h0⟩ := IntsAre.cons_inv h
  obtain ⟨tb, r1, e1, h1⟩ := IntsAre.cons_inv h0
  obtain ⟨tc, r2, e2, h2⟩ := IntsAre.cons_inv h1
  obtain ⟨td, r3, e3, h3⟩ := IntsAre.cons_inv h2
  have e4 := IntsAre.nil_inv h3
  exact ⟨ta, tb, tc, td, by rw [e0, e1, e2, e3, e4]⟩
def kindAt (j : Nat) : Str := [Str.ofString "(", Str.ofString "]", Str.ofString ";", Str.ofString "*", Str.ofString "<", Str.ofString ".", Str.ofString "{", Str.ofString "==", Str.ofString ">=", Str.ofString "^", Str.ofString "**", Str.ofString "-=", Str.ofString "&=", Str.ofString ">>=", Str.ofString "//", Str.ofString "!"].getD j Str.empty
def facAt (j : Nat) : Int := [7, 10, 13, 16, 20, 23, 25, 27, 30, 32, 35, 37, 41, 45, 47, 54].getD j 7
theorem facAt_bd (j : Nat) : 7 ≤ facAt j ∧ facAt j ≤ 54 := by
  unfold facAt
  rcases Nat.lt_or_ge j 16 with h | h
  · have : ∀ j : Fin 16, 7 ≤ ([7, 10, 13, 16, 20, 23, 25, 27, 30, 32, 35, 37, 41, 45, 47, 54] : List Int).getD j.1 7 ∧ ([7, 10, 13, 16, 20, 23, 25, 27, 30, 32, 35, 37, 41, 45, 47, 54] : List Int).getD j.1 7 ≤ 54 := by decide
    exact this ⟨j, h⟩
  · rw [List.getD_eq_getElem?_getD, List.getElem?_eq_none (by simpa using h)]; decide
theorem fmod16 (k : Int) : 0 ≤ Int.fmod k 16 ∧ Int.fmod k 16 < 16 := by
  rw [Int.fmod_eq_emod_of_nonneg _ (by decide)]
  exact ⟨Int.emod_nonneg _ (by decide), Int.emod_lt_of_pos _ (by decide)⟩
theorem fmod16n (k : Int) : (Int.fmod k 16).toNat < 16 := by
  have := fmod16 k; omega
section
variable {prog : Program} {w : World} {A : Around} {E : Value → Shared → Prop} {s : Shared} {h₀ : Heap} {L : Addr} {m : Str → Option Value} {news : List (Addr × Obj)} {Q : Value → Shared → Prop}
theorem kinds_item {value slice : PySem.Expr} {D : Addr} {k : Int} {u u0 u1 u2 u3 u4 u5 u6 u7 u8 u9 u10 u11 u12 u13 u14 u15 : Tok} (N : News h₀ L s.heap news)
    (hm : (D, ({ cls := .type "tuple", data := .seq #[.str (Str.ofString "(") u0, .str (Str.ofString "]") u1, .str (Str.ofString ";") u2, .str (Str.ofString "*") u3, .str (Str.ofString "<") u4, .str (Str.ofString ".") u5, .str (Str.ofString "{") u6, .str (Str.ofString "==") u7, .str (Str.ofString ">=") u8, .str (Str.ofString "^") u9, .str (Str.ofString "**") u10, .str (Str.ofString "-=") u11, .str (Str.ofString "&=") u12, .str (Str.ofString ">>=") u13, .str (Str.ofString "//") u14, .str (Str.ofString "!") u15] } : Obj)) ∈ news)
    (h0 : 0 ≤ k) (h1 : k < 16) (h : ∀ t, Q (.str (kindAt k.toNat) t) s)
    (hs : subscripted slice false (.ref D) (.int k u) = operate [.ref D, .int k u] (getItem (.ref D) (.int k u)) := by with_unfolding_all rfl) :
    wpAny (model prog w) A (subscriptTail value slice (.ref D) (.int k u)) Q E s := by
  obtain ⟨j, rfl⟩ : ∃ j : Nat, k = (j : Int) := ⟨k.toNat, by omega⟩
  have hj : j < 16 := by omega
  have hx : ∃ t, ([.str (Str.ofString "(") u0, .str (Str.ofString "]") u1, .str (Str.ofString ";") u2, .str (Str.ofString "*") u3, .str (Str.ofString "<") u4, .str (Str.ofString ".") u5, .str (Str.ofString "{") u6, .str (Str.ofString "==") u7, .str (Str.ofString ">=") u8, .str (Str.ofString "^") u9, .str (Str.ofString "**") u10, .str (Str.ofString "-=") u11, .str (Str.ofString "&=") u12, .str (Str.ofString ">>=") u13, .str (Str.ofString "//") u14, .str (Str.ofString "!") u15] : List Value)[j]? = some (.str (kindAt j) t) := by
    have : j = 0 ∨ j = 1 ∨ j = 2 ∨ j = 3 ∨ j = 4 ∨ j = 5 ∨ j = 6 ∨ j = 7 ∨ j = 8 ∨ j = 9 ∨ j = 10 ∨ j = 11 ∨ j = 12 ∨ j = 13 ∨ j = 14 ∨ j = 15 := by omega
    rcases this with rfl | rfl | rfl | rfl | rfl | rfl | rfl | rfl | rfl | rfl | rfl | rfl | rfl | rfl | rfl | rfl <;> exact ⟨_, rfl⟩
  obtain ⟨t, hx⟩ := hx
  refine item_tupleT (News.isTup N hm) (by omega) (by omega) (j := j) ?_ hx (h _) hs
  unfold seqIndex?
  have h2 : ¬ ((j : Int) < 0) := by omega
  simp only [h2, if_false, List.length_cons, List.length_nil]
  rw [if_pos (by simp; omega)]; rfl
theorem types_item {value slice : PySem.Expr} {j : Nat} {u : Tok} (F : Fr h₀ L s.heap m) (X : (top0.heap_1 w.params).In h₀) (hj : j < 16) (h : ∀ t, Q (.int (facAt j) t) { s with toks := s.toks + 1 })
    (hs : ∀ x, subscripted slice false (.ref 111) (.str x u) = operate [.ref 111, .str x u] (getItem (.ref 111) (.str x u)) := by intro _; with_unfolding_all rfl) :
    wpAny (model prog w) A (subscriptTail value slice (.ref 111) (.str (kindAt j) u)) Q E s := by
  have : j = 0 ∨ j = 1 ∨ j = 2 ∨ j = 3 ∨ j = 4 ∨ j = 5 ∨ j = 6 ∨ j = 7 ∨ j = 8 ∨ j = 9 ∨ j = 10 ∨ j = 11 ∨ j = 12 ∨ j = 13 ∨ j = 14 ∨ j = 15 := by omega
  rcases this with rfl | rfl | rfl | rfl | rfl | rfl | rfl | rfl | rfl | rfl | rfl | rfl | rfl | rfl | rfl | rfl
  · (have h' : ∀ t, Q (.int 7 t) { s with toks := s.toks + 1 } := h); (show wpAny _ _ (subscriptTail _ _ (.ref 111) (.str (Str.ofString "(") _)) _ _ _); k_dflt (refine' topItem_K ?F ?X ?l ?k ?e ?h (hs _); (case F => exact F); (case X => exact X); (case l => k_is); (case k => k_keys); (case e => k_is); (case h => exact h' _))
  · (have h' : ∀ t, Q (.int 10 t) { s with toks := s.toks + 1 } := h); (show wpAny _ _ (subscriptTail _ _ (.ref 111) (.str (Str.ofString "]") _)) _ _ _); k_dflt (refine' topItem_K ?F ?X ?l ?k ?e ?h (hs _); (case F => exact F); (case X => exact X); (case l => k_is); (case k => k_keys); (case e => k_is); (case h => exact h' _))
  · (have h' : ∀ t, Q (.int 13 t) { s with toks := s.toks + 1 } := h); (show wpAny _ _ (subscriptTail _ _ (.ref 111) (.str (Str.ofString ";") _)) _ _ _); k_dflt (refine' topItem_K ?F ?X ?l ?k ?e ?h (hs _); (case F => exact F); (case X => exact X); (case l => k_is); (case k => k_keys); (case e => k_is); (case h => exact h' _))
  · (have h' : ∀ t, Q (.int 16 t) { s with toks := s.toks + 1 } := h); (show wpAny _ _ (subscriptTail _ _ (.ref 111) (.str (Str.ofString "*") _)) _ _ _); k_dflt (refine' topItem_K ?F ?X ?l ?k ?e ?h (hs _); (case F => exact F); (case X => exact X); (case l => k_is); (case k => k_keys); (case e => k_is); (case h => exact h' _))
  · (have h' : ∀ t, Q (.int 20 t) { s with toks := s.toks + 1 } := h); (show wpAny _ _ (subscriptTail _ _ (.ref 111) (.str (Str.ofString "<") _)) _ _ _); k_dflt (refine' topItem_K ?F ?X ?l ?k ?e ?h (hs _); (case F => exact F); (case X => exact X); (case l => k_is); (case k => k_keys); (case e => k_is); (case h => exact h' _))
  · (have h' : ∀ t, Q (.int 23 t) { s with toks := s.toks + 1 } := h); (show wpAny _ _ (subscriptTail _ _ (.ref 111) (.str (Str.ofString ".") _)) _ _ _); k_dflt (refine' topItem_K ?F ?X ?l ?k ?e ?h (hs _); (case F => exact F); (case X => exact X); (case l => k_is); (case k => k_keys); (case e => k_is); (case h => exact h' _))
  · (have h' : ∀ t, Q (.int 25 t) { s with toks := s.toks + 1 } := h); (show wpAny _ _ (subscriptTail _ _ (.ref 111) (.str (Str.ofString "{") _)) _ _ _); k_dflt (refine' topItem_K ?F ?X ?l ?k ?e ?h (hs _); (case F => exact F); (case X => exact X); (case l => k_is); (case k => k_keys); (case e => k_is); (case h => exact h' _))
  · (have h' : ∀ t, Q (.int 27 t) { s with toks := s.toks + 1 } := h); (show wpAny _ _ (subscriptTail _ _ (.ref 111) (.str (Str.ofString "==") _)) _ _ _); k_dflt (refine' topItem_K ?F ?X ?l ?k ?e ?h (hs _); (case F => exact F); (case X => exact X); (case l => k_is); (case k => k_keys); (case e => k_is); (case h => exact h' _))
  · (have h' : ∀ t, Q (.int 30 t) { s with toks := s.toks + 1 } := h); (show wpAny _ _ (subscriptTail _ _ (.ref 111) (.str (Str.ofString ">=") _)) _ _ _); k_dflt (refine' topItem_K ?F ?X ?l ?k ?e ?h (hs _); (case F => exact F); (case X => exact X); (case l => k_is); (case k => k_keys); (case e => k_is); (case h => exact h' _))
  · (have h' : ∀ t, Q (.int 32 t) { s with toks := s.toks + 1 } := h); (show wpAny _ _ (subscriptTail _ _ (.ref 111) (.str (Str.ofString "^") _)) _ _ _); k_dflt (refine' topItem_K ?F ?X ?l ?k ?e ?h (hs _); (case F => exact F); (case X => exact X); (case l => k_is); (case k => k_keys); (case e => k_is); (case h => exact h' _))
  · (have h' : ∀ t, Q (.int 35 t) { s with toks := s.toks + 1 } := h); (show wpAny _ _ (subscriptTail _ _ (.ref 111) (.str (Str.ofString "**") _)) _ _ _); k_dflt (refine' topItem_K ?F ?X ?l ?k ?e ?h (hs _); (case F => exact F); (case X => exact X); (case l => k_is); (case k => k_keys); (case e => k_is); (case h => exact h' _))
  · (have h' : ∀ t, Q (.int 37 t) { s with toks := s.toks + 1 } := h); (show wpAny _ _ (subscriptTail _ _ (.ref 111) (.str (Str.ofString "-=") _)) _ _ _); k_dflt (refine' topItem_K ?F ?X ?l ?k ?e ?h (hs _); (case F => exact F); (case X => exact X); (case l => k_is); (case k => k_keys); (case e => k_is); (case h => exact h' _))
  · (have h' : ∀ t, Q (.int 41 t) { s with toks := s.toks + 1 } := h); (show wpAny _ _ (subscriptTail _ _ (.ref 111) (.str (Str.ofString "&=") _)) _ _ _); k_dflt (refine' topItem_K ?F ?X ?l ?k ?e ?h (hs _); (case F => exact F); (case X => exact X); (case l => k_is); (case k => k_keys); (case e => k_is); (case h => exact h' _))
  · (have h' : ∀ t, Q (.int 45 t) { s with toks := s.toks + 1 } := h); (show wpAny _ _ (subscriptTail _ _ (.ref 111) (.str (Str.ofString ">>=") _)) _ _ _); k_dflt (refine' topItem_K ?F ?X ?l ?k ?e ?h (hs _); (case F => exact F); (case X => exact X); (case l => k_is); (case k => k_keys); (case e => k_is); (case h => exact h' _))
  · (have h' : ∀ t, Q (.int 47 t) { s with toks := s.toks + 1 } := h); (show wpAny _ _ (subscriptTail _ _ (.ref 111) (.str (Str.ofString "//") _)) _ _ _); k_dflt (refine' topItem_K ?F ?X ?l ?k ?e ?h (hs _); (case F => exact F); (case X => exact X); (case l => k_is); (case k => k_keys); (case e => k_is); (case h => exact h' _))
  · (have h' : ∀ t, Q (.int 54 t) { s with toks := s.toks + 1 } := h); (show wpAny _ _ (subscriptTail _ _ (.ref 111) (.str (Str.ofString "!") _)) _ _ _); k_dflt (refine' topItem_K ?F ?X ?l ?k ?e ?h (hs _); (case F => exact F); (case X => exact X); (case l => k_is); (case k => k_keys); (case e => k_is); (case h => exact h' _))
end
local macro_rules | `(tactic| walk_at "subscriptTail") => `(tactic| (k_here; (with_reducible show wpAny _ _ (subscriptTail _ _ (Value.ref _) (Value.int (Int.fmod _ 16) _)) _ _ _); k_dflt (refine' kinds_item ?k1 ?k2 (fmod16 _).1 (fmod16 _).2 ?_; (case k1 => k_asm); (case k2 => k_mem)); intro _))
local macro_rules | `(tactic| walk_at "subscriptTail") => `(tactic| (k_here; (with_reducible show wpAny _ _ (subscriptTail _ _ (Value.ref _) (Value.str (kindAt _) _)) _ _ _); k_dflt (refine' types_item ?k1 ?k2 ?k3 ?_; (case k1 => k_asm); (case k2 => k_asm); (case k3 => exact fmod16n _)); intro _))
local macro_rules | `(tactic| walk_at "subscriptTail Name Subscript ref str") => `(tactic| (k_here; (with_reducible show wpAny _ _ (subscriptTail _ _ (Value.ref _) (Value.str (kindAt _) _)) _ _ _); k_dflt (refine' types_item ?k1 ?k2 ?k3 ?_; (case k1 => k_asm); (case k2 => k_asm); (case k3 => exact fmod16n _)); intro _))
theorem facs_bd {l : List Int} : ∀ f ∈ l.map (fun k' => facAt (Int.fmod k' 16).toNat), 7 ≤ f ∧ f ≤ 54 := by
  intro f hf
  obtain ⟨k, _, rfl⟩ := List.mem_map.mp hf
  exact facAt_bd _
theorem news_facs4 {h₀ h : Heap} {L : Addr} {a b c d e : Addr × Obj} {r : List (Addr × Obj)} (N : News h₀ L h (a :: b :: c :: d :: e :: r)) : News h₀ L h (a :: r) := fun p hp => N p (by
  rcases List.mem_cons.mp hp with rfl | hp
  · exact .head _
  · exact .tail _ (.tail _ (.tail _ (.tail _ (.tail _ hp)))))
theorem news_facs5 {h₀ h : Heap} {L : Addr} {a b c d e f : Addr × Obj} {r : List (Addr × Obj)} (N : News h₀ L h (a :: b :: c :: d :: e :: f :: r)) : News h₀ L h (a :: r) := fun p hp => N p (by
  rcases List.mem_cons.mp hp with rfl | hp
  · exact .head _
  · exact .tail _ (.tail _ (.tail _ (.tail _ (.tail _ (.tail _ hp))))))
theorem facs_ok {prog : Program} {w : World} {p : Program} {loose : List Str} {mean : ExcName → Option Value} {mg mb : Str → Option Value}
    {dp un : Nat} {gd : Option (List Code)} {cn : Str} {cs : Scope} {a' : Addr} {ccd : Value} {cl : List (Str × Addr)} {outer : List Env} {A₀ : Around} {base h₀ : Heap} {L : Addr} {m : Str → Option Value} {news : List (Addr × Obj)} {s : Shared}
    {Q E : Value → Shared → Prop} {sa : Addr} {svs : List Value} {sns : List Int}
    (B : Below A₀ base outer h₀) (F : Fr h₀ L s.heap m) (X : (top0.heap_1 w.params).In h₀) (N : News h₀ L s.heap news) (T : Top p loose mean mg mb h₀) (hk : cs.kind = .function)
    (hd : dp + 5 < recursionLimit) (hu : un + 50 < cLine) (hL : base.IsList sa svs.toArray) (hI : IntsAre svs sns) (hl : sns.length ≤ 63)
    (ret : ∀ r vs nv ns h' tk', Fr h₀ L h' m → News h₀ L h' ((r, listOf vs.toArray nv) :: news) → IntsAre vs ns → ((3 < sns.length ∧ ns.length = 4) ∨ (¬ 3 < sns.length ∧ ns.length = 3)) → (∀ f ∈ ns, 7 ≤ f ∧ f ≤ 54) → Q (.ref r) { s with heap := h', toks := tk' }) :
    wpAny (model prog w) (ktrTop dp un gd cn cs L a' ccd cl outer) (call (.ref 139) [.ref sa]) Q E s := by
  k_with_none
  w_top off
  refine wpAny_call ?_
  k_dflt ktr_enter
  have kMark := kstMark
  k_steps
  rename Fr _ _ _ _ => F0
  rename News _ _ _ _ => N0
  obtain ⟨m₀, hm₀, F1⟩ := fr_gen F0
  clear F0
  obtain ⟨q1, la, rest9, hq, hla, hrest, N1⟩ := news_two N0
  clear N0
  obtain ⟨tv, htv, etv⟩ := fr_val (m := m₀) (y := Str.ofString "totals") (by rw [hm₀]; rfl)
  obtain ⟨sv, hsv, esv⟩ := fr_val (m := m₀) (y := Str.ofString "script") (by rw [hm₀]; rfl)
  clear hm₀
  refine' ktu_enum ?hh ?hF ?hN ?hm ?hc ?hd ?hx ?hr
  case hh => rfl
  case hF => exact F1
  case hN => exact N1
  case hm => rw [hq]; exact List.Mem.head _
  case hc => rfl
  case hd => rfl
  case hx => rfl
  case hr =>
    intro I hI0
    refine' my_enum (σ := List Value × List Int) (fun c => q1 :: (la, listOf c.1.toArray 0) :: rest9)
      (fun _ => [(Str.ofString "totals", tv), (Str.ofString "script", sv)]) [Str.ofString "k", Str.ofString "x"] (fun _ c => IntsAre c.1 c.2 ∧ c.2.length = 4) _ rfl ([_, _, _, _], [15, 14, 9, 4]) ?jk _ 0 ?jn ⟨.cons _ _ (.cons _ _ (.cons _ _ (.cons _ _ .nil))), rfl⟩ ?jt ?jd
    case jk => exact fun c => ⟨by rw [hq]; exact List.Mem.head _, trivial⟩
    case jn => exact List.forall_mem_cons.mpr ⟨etv, List.forall_mem_cons.mpr ⟨esv, fun _ h => nomatch h⟩⟩
    case jt =>
      rintro ⟨cs', ks⟩ i v u T t h tk oe oi hv ⟨hIk, hk4⟩ hT F2 N2
      dsimp only [envOfC] at hT F2 N2 hIk hk4
      replace hI0 := allLt_of hI0
      clear F1 N1 etv esv
      subst hq hla hrest htv hsv
      simp only [AllLt] at hI0
      obtain ⟨x, tx, rfl, hx⟩ := IntsAre.at (by assumption : IntsAre _ (List.take 20 sns)) _ _ hv
      have kLen4 := IntsAre.length hIk
      k_steps
      rename Fr _ _ _ _ => kF
      rename News _ _ _ _ => kN
      refine ⟨_, _, _, _, rfl, kF, kN, off_allLt hI0, (_, _), rfl, ⟨by kst_all, ?_⟩, by assumption, by rw [List.length_set]; exact hk4⟩
      intro z h2 h3
      dsimp only at h2
      simp only [List.forall_mem_cons, List.not_mem_nil, false_implies, implies_true, and_true, ne_eq] at h2
      simp only [List.contains_cons, List.contains_nil, Bool.or_false, Bool.or_eq_false_iff, beq_eq_false_iff_ne, ne_eq] at h3
      simp [kstB, h2, h3]
    case jd =>
      rintro ⟨cs', ks⟩ u h tk ⟨hIk, hk4⟩ F2 N2
      dsimp only [envOfC] at hIk hk4 F2 N2
      clear F1 N1 etv esv hI0
      subst hq hla hrest htv hsv
      obtain ⟨f0, f1, f2, f3, rfl⟩ : ∃ f0 f1 f2 f3, ks = [f0, f1, f2, f3] := four_of hk4
      obtain ⟨g0, g1, g2, g3, rfl⟩ := ints4 hIk
      clear hIk hk4
      k_steps
      · rename Fr _ _ _ _ => kF
        rename News _ _ _ _ => kN
        rename (3 < (sns.length : Int)) => h3
        exact ret _ _ _ _ _ _ kF (news_facs4 kN) (by assumption) (.inl ⟨by omega, rfl⟩) facs_bd
      · rename Fr _ _ _ _ => kF
        rename News _ _ _ _ => kN
        rename (¬ 3 < (sns.length : Int)) => h3
        exact ret _ _ _ _ _ _ kF (news_facs5 kN) (by assumption) (.inr ⟨by omega, rfl⟩) (fun f hf => facs_bd f (List.mem_of_mem_take hf))
end
section
local macro_rules | `(tactic| walk_at "pad 0") => `(tactic| fail)
local macro_rules | `(tactic| walk_at "pad 1") => `(tactic| fail)
local macro_rules | `(tactic| walk_at "pad 2") => `(tactic| fail)
def fiveL : List Str := [Str.ofString "(((....", Str.ofString "((.(...", Str.ofString "((..(..", Str.ofString "(.((...", Str.ofString "(.(.(.."]
theorem fmod5 (k : Int) : 0 ≤ Int.fmod k 5 ∧ Int.fmod k 5 < 5 := by
  rw [Int.fmod_eq_emod_of_nonneg _ (by decide)]
  exact ⟨Int.emod_nonneg _ (by decide), Int.emod_lt_of_pos _ (by decide)⟩
section
variable {prog : Program} {w : World} {A : Around} {E : Value → Shared → Prop} {s : Shared} {h₀ : Heap} {L : Addr} {m : Str → Option Value} {news : List (Addr × Obj)} {Q : Value → Shared → Prop}
theorem five_item {value slice : PySem.Expr} {D : Addr} {k : Int} {u u0 u1 u2 u3 u4 : Tok} (N : News h₀ L s.heap news)
    (hm : (D, ({ cls := .type "tuple", data := .seq #[.str (Str.ofString "(((....") u0, .str (Str.ofString "((.(...") u1, .str (Str.ofString "((..(..") u2, .str (Str.ofString "(.((...") u3, .str (Str.ofString "(.(.(..") u4] } : Obj)) ∈ news)
    (h0 : 0 ≤ k) (h1 : k < 5) (h : ∀ x t, x ∈ fiveL → Q (.str x t) s)
    (hs : subscripted slice false (.ref D) (.int k u) = operate [.ref D, .int k u] (getItem (.ref D) (.int k u)) := by with_unfolding_all rfl) :
    wpAny (model prog w) A (subscriptTail value slice (.ref D) (.int k u)) Q E s := by
  obtain ⟨j, rfl⟩ : ∃ j : Nat, k = (j : Int) := ⟨k.toNat, by omega⟩
  have hj : j < 5 := by omega
  have hx : ∃ x t, ([.str (Str.ofString "(((....") u0, .str (Str.ofString "((.(...") u1, .str (Str.ofString "((..(..") u2, .str (Str.ofString "(.((...") u3, .str (Str.ofString "(.(.(..") u4] : List Value)[j]? = some (.str x t) ∧ x ∈ fiveL := by
    have : j = 0 ∨ j = 1 ∨ j = 2 ∨ j = 3 ∨ j = 4 := by omega
    rcases this with rfl | rfl | rfl | rfl | rfl
    · exact ⟨_, _, rfl, .head _⟩
    · exact ⟨_, _, rfl, .tail _ (.head _)⟩
    · exact ⟨_, _, rfl, .tail _ (.tail _ (.head _))⟩
    · exact ⟨_, _, rfl, .tail _ (.tail _ (.tail _ (.head _)))⟩
    · exact ⟨_, _, rfl, .tail _ (.tail _ (.tail _ (.tail _ (.head _))))⟩
  obtain ⟨x, t, hx, hf⟩ := hx
  refine item_tupleT (News.isTup N hm) (by omega) (by omega) (j := j) ?_ hx (h _ _ hf) hs
  unfold seqIndex?
  have h2 : ¬ ((j : Int) < 0) := by omega
  simp only [h2, if_false, List.length_cons, List.length_nil]
  rw [if_pos (by simp; omega)]; rfl
end
local macro_rules | `(tactic| walk_at "subscriptTail Name BinOp ref int") => `(tactic| (k_here; (with_reducible show wpAny _ _ (subscriptTail _ _ (Value.ref _) (Value.int (Int.fmod _ 5) _)) _ _ _); k_dflt (refine' five_item ?k1 ?k2 (fmod5 _).1 (fmod5 _).2 ?_; (case k1 => k_asm); (case k2 => k_mem)); intro _ _ _))
theorem ints_carried {ys : List Value} {l : List Int} {f : Int → Int} (h : CarriedAll ys (l.map fun a => PyData.int (f a))) : IntsAre ys (l.map f) := by
  refine IntsAre.ofCarried ?_
  rw [List.map_map]; exact h
theorem news_shap {h₀ h : Heap} {L : Addr} {a b c : Addr × Obj} {r : List (Addr × Obj)} (N : News h₀ L h (a :: b :: c :: r)) : News h₀ L h (a :: r) := fun p hp => N p (by
  rcases List.mem_cons.mp hp with rfl | hp
  · exact .head _
  · exact .tail _ (.tail _ (.tail _ hp)))
theorem shapes_ok {prog : Program} {w : World} {p : Program} {loose : List Str} {mean : ExcName → Option Value} {mg mb : Str → Option Value}
    {dp un : Nat} {gd : Option (List Code)} {cn : Str} {cs : Scope} {a' : Addr} {ccd : Value} {cl : List (Str × Addr)} {outer : List Env} {A₀ : Around} {base h₀ : Heap} {L : Addr} {m : Str → Option Value} {news : List (Addr × Obj)} {s : Shared}
    {Q E : Value → Shared → Prop} {sa : Addr} {svs : List Value} {sns : List Int}
    (B : Below A₀ base outer h₀) (F : Fr h₀ L s.heap m) (X : (top0.heap_1 w.params).In h₀) (N : News h₀ L s.heap news) (T : Top p loose mean mg mb h₀) (hk : cs.kind = .function)
    (hd : dp + 5 < recursionLimit) (hL : base.IsList sa svs.toArray) (hI : IntsAre svs sns) (hl : sns.length ≤ 63)
    (ret : ∀ r x y t u h' tk', Fr h₀ L h' m → News h₀ L h' ((r, ({ cls := .type "tuple", data := .seq #[.str x t, .str y u] } : Obj)) :: news) →
      ((3 < sns.length ∧ x ∈ fiveL ∧ y ∈ fiveL) ∨ (¬ 3 < sns.length ∧ x = Str.ofString "((..." ∧ y = Str.ofString "(.(..")) → Q (.ref r) { s with heap := h', toks := tk' }) :
    wpAny (model prog w) (ktrTop dp un gd cn cs L a' ccd cl outer) (call (.ref 144) [.ref sa]) Q E s := by
  k_with_none
  w_top off
  refine wpAny_call ?_
  k_dflt ktr_enter
  have kMark := kstMark
  k_steps
  · rename Fr _ _ _ _ => kF
    rename News _ _ _ _ => kN
    rename ((sns.length : Int) < 4) => h4
    exact ret _ _ _ _ _ _ _ kF kN (.inr ⟨by omega, rfl, rfl⟩)
  · rename CarriedAll _ _ => hc
    have hI9 := ints_carried hc
    rename (¬ (sns.length : Int) < 4) => h4
    k_steps
    rename Fr _ _ _ _ => kF
    rename News _ _ _ _ => kN
    exact ret _ _ _ _ _ _ _ kF (news_shap kN) (.inl ⟨by omega, by assumption, by assumption⟩)
end
section
local macro_rules | `(tactic| walk_at "pad 0") => `(tactic| fail)
local macro_rules | `(tactic| walk_at "pad 1") => `(tactic| fail)
local macro_rules | `(tactic| walk_at "pad 2") => `(tactic| fail)

local macro_rules | `(tactic| k_extra "my room") => `(tactic| first | omega | (simp only [List.length_append, List.length_cons, List.length_nil]; omega))
local macro_rules | `(tactic| walk_at "CompEnd") => `(tactic| (k_here; k_extra "my cend"))
local macro_rules | `(tactic| walk_at "exec Assign cons ListComp") => `(tactic| (k_here; k_dflt (refine Assign_ListComp_T (F₀ := by k_asm) (by rfl) (by with_unfolding_all rfl) (by rfl) (by decide) (by rfl) (by decide) (by rfl) (by rfl) (by rfl) ?_)))
local macro_rules | `(tactic| walk_at "pyIter ref") => `(tactic| (k_here; k_extra "my iter"))
local macro_rules | `(tactic| walk_at "call ref") => `(tactic| (k_here; (with_reducible show wpAny _ _ (call (Value.ref 158) _) _ _ _); k_extra "my prod"))
local macro_rules | `(tactic| walk_at "subscriptTail") => `(tactic| (k_here; (with_reducible show wpAny _ _ (subscriptTail _ _ (Value.ref _) (Value.int _ _)) _ _ _); k_dflt (refine' known_get ?k1 ?k2 ?k3 ?k4 ?_ ?k5; (case k3 => with_reducible assumption); (case k1 => k_asm); (case k2 => k_mem); (case k4 => with_reducible assumption); (case k5 => exact rfl)); intro tpk' hMk'))
local macro_rules | `(tactic| walk_at "call builtin:list.pop") => `(tactic| (k_here; k_dflt (first
  | ((with_reducible show wpAny _ _ (call (Value.builtin _) [Value.ref _]) _ _ _); refine' popL ?F ?N ?U ?z ?_; (case F => k_asm); (case N => k_asm); (case U => k_upd); (case z => k_extra "my room"))
  | ((with_reducible show wpAny _ _ (call (Value.builtin _) [Value.ref _, Value.int _ _]) _ _ _); refine' pop0 ?F ?N ?U ?z ?_; (case F => k_asm); (case N => k_asm); (case U => k_upd); (case z => k_extra "my room"))); kl_rest))
local macro_rules | `(tactic| walk_at "call type:list") => `(tactic| (k_here; (with_reducible show wpAny _ _ (call (Value.type _) [Value.ref _]) _ _ _); k_dflt (refine' kup_listOf ?F ?N ?b ?e ?_ ?z; (case F => k_asm); (case N => k_asm); (case b => k_mem); (case e => exact rfl); (case z => (rw [List.toList_toArray]; omega))); intro D' c' h' F' N' l1; (try k_lt l1); (try k_sweep)))
theorem worth_ok {prog : Program} {w : World} {p : Program} {loose : List Str} {mean : ExcName → Option Value} {mg mb : Str → Option Value}
    {dp un : Nat} {gd : Option (List Code)} {cn : Str} {cs : Scope} {a' : Addr} {ccd : Value} {cl : List (Str × Addr)} {outer : List Env} {A₀ : Around} {base h₀ : Heap} {L : Addr} {m : Str → Option Value} {rest : List (Addr × Obj)} {s : Shared}
    {Q E : Value → Shared → Prop} {rab nv fin nf kd fa nfv : Nat} {ko : Obj} {vs fs fvs : List Value} {ns fns : List Int} {v : Int} {xt : Str} {tsh : Tok}
    (B : Below A₀ base outer h₀) (F : Fr h₀ L s.heap m) (X : (top0.heap_1 w.params).In h₀) (N : News h₀ L s.heap ((fin, listOf fs.toArray nf) :: (rab, listOf vs.toArray nv) :: rest)) (T : Top p loose mean mg mb h₀) (hk : cs.kind = .function)
    (hd : dp + 15 < recursionLimit) (hu : un + 80 < cLine) (hI : IntsAre vs ns) (hR : Rab ns) (hfr : rab ≠ fin) (hfn : AllNe fin rest) (hfl : fs.length ≤ 800) (ht : ∀ x ∈ fs, x = Value.bool true)
    (mf : (fa, listOf fvs.toArray nfv) ∈ rest) (hIf : IntsAre fvs fns) (hfz : fns.length ≤ 4) (mk : (kd, ko) ∈ rest) (hK : Known prog w ko rest fns) (hS : Shaped xt fns v)
    (ret : ∀ r nr tv nf' fs' h' tk', Fr h₀ L h' m → News h₀ L h' ((r, listOf #[Value.int v tv] nr) :: (fin, listOf (List.toArray fs') nf') :: (rab, listOf vs.toArray nv) :: rest) → (fin ≠ r ∧ rab ≠ r ∧ AllNe r rest) → fs'.length ≤ fs.length + 14 → (∀ x ∈ fs', x = Value.bool true) → Q (.ref r) { s with heap := h', toks := tk' }) :
    wpAny (model prog w) (ktrTop dp un gd cn cs L a' ccd cl outer) (call (.ref 163) [.str xt tsh, .ref fa, .ref kd, .ref rab, .ref fin]) Q E s := by
  obtain ⟨cks, ss, hcs, hcl, hSy, hRun⟩ := hS
  have hfv := hIf.length
  have hsz9 : 1000 < sizeLine := by rw [PySem.sizeLine_eq]; decide
  k_with_none
  w_top off
  refine wpAny_call ?_
  k_dflt ktr_enter
  have kMark := kstMark
  k_steps
  refine SrcT.mk cks (fun t => cks.map fun c => .str ⟨#[c]⟩ t) cks.length hcs (fun t => rfl) rfl (by rfl) (by k_asm) (by k_asm) (by omega) ?_
  intro g'
  refine' comp_sym (cks := cks) (ss := ss) hIf hfz hSy ?turn ?fin
  case turn =>
    rintro i ys nw hi ⟨fl, gl, s1, s2, n', rfl, hfl, hgl, hsy, hys, hss⟩ v I oI C oC D m₂ h tk E' ⟨t, hv⟩ hC hx F' N' off ne
    obtain ⟨c, hc⟩ : ∃ c, cks[i]? = some c := ⟨_, List.getElem?_eq_getElem hi⟩
    have hv2 : v = .str ⟨#[c]⟩ t := by
      rw [List.getElem?_toArray, List.getElem?_map, hc] at hv
      exact (Option.some.inj hv).symm
    subst hv2
    rw [drop_at hc] at hsy
    simp only [LCg.Off3] at off
    cases hsy with
    | par hsy =>
      rw [sign40] at hx
      k_with "my cend" => refine hold ?_
      repeat' (first | (k_unfold; (try dsimp only)) | walk1 | (dsimp only; walk1))
      unfold Hold
      rename News _ _ _ _ => nE
      refine LCg.CompEnd.intro (by assumption) nE _ (fun _ hp => hp) (by simpa only [LCg.Off3] using off) trivial ?_
      exact ⟨fl, gl, s1 ++ [256], _, n', rfl, hfl, hgl, hsy, ints_push hys, by simp [hss]⟩
    | dot hsy =>
      rw [sign46] at hx
      cases hfl with
      | cons n9 t9 hfl =>
      have hl9 := hfl.length
      rw [List.length_cons] at hgl
      obtain ⟨⟨o1, o2, o3⟩, o4, o5, o6, o7⟩ := off
      obtain ⟨e1, e2, e3⟩ := ne
      k_with "my cend" => refine hold ?_
      repeat' (first | (k_unfold; (try dsimp only)) | walk1 | (dsimp only; walk1))
      unfold Hold
      rename News _ _ _ _ => nE
      refine LCg.CompEnd.intro (by assumption) nE _ (fun _ hp => hp) ⟨⟨o1, o2, o3⟩, o4, o5, o6, o7⟩ trivial ?_
      exact ⟨_, _, s1 ++ [_], _, _, rfl, hfl, by omega, hsy, ints_push hys, by simp [hss]⟩
  case fin =>
    rintro sys nw ⟨fl, gl, s1, s2, n', rfl, hfl, hgl, hsy, hys, hss⟩
    rw [List.drop_length] at hsy
    cases hsy
    rw [List.append_nil] at hss
    subst hss
    clear hfl hgl
    k_with "my iter" => refine hold ?_
    k_steps
    unfold Hold
    rename Fr _ _ _ _ => kF
    rename News _ _ _ _ => kN
    rename_i sy _ _ hsy1 pile _ hpl _ it _ hit
    obtain ⟨m₀, hm₀, F1⟩ := fr_gen kF
    clear kF
    have e1 : m₀ (Str.ofString "pile") = some (.ref pile) := by rw [hm₀]; rfl
    have e2 : m₀ (Str.ofString "known") = some (.ref kd) := by rw [hm₀]; rfl
    have e3 : m₀ (Str.ofString "rabbits") = some (.ref rab) := by rw [hm₀]; rfl
    have e4 : m₀ (Str.ofString "fine") = some (.ref fin) := by rw [hm₀]; rfl
    clear hm₀
    have N0 := news_worth kN
    have hsl := hys.length
    have hfp : AllNe pile rest := .ofLt hpl.2.2.2.2.2
    have hD0 : ∀ p ∈ WLed pile sy fin rab nv sys vs ⟨[], 0, fs, nf, rest⟩, p.1 ≠ it := by unfold WLed; k_all
    clear kN
    refine' my_rev2 (σ := WS) (l := sy) (vs := sys) (nn := _) (WLed pile sy fin rab nv sys vs)
      (fun _ => [(Str.ofString "pile", .ref pile), (Str.ofString "known", .ref kd), (Str.ofString "rabbits", .ref rab), (Str.ofString "fine", .ref fin)]) [Str.ofString "one", Str.ofString "other"]
      (WP rest fns v ss fs fin pile) ⟨[], 0, fs, nf, rest⟩ ?jh ?jF ?jN hD0 (fun _ => .tail _ (.head _)) ?jk ?jp ?turn ?done
    case jh => rfl
    case jF => exact F1
    case jN => exact N0
    case jk => exact List.forall_mem_cons.mpr ⟨e1, List.forall_mem_cons.mpr ⟨e2, List.forall_mem_cons.mpr ⟨e3, List.forall_mem_cons.mpr ⟨e4, fun _ h => nomatch h⟩⟩⟩⟩
    case jp => exact ⟨hRun, (fun _ h => nomatch h), (fun _ h => h), hfn, hfp, Nat.le_refl _, ht, Nat.le_refl _⟩
    case turn =>
      rintro ⟨st, np, fs1, nf1, R⟩ i v0 u h tk io hi hio hv ⟨hRn, hMd, hsub, hfR, hpR, hfl1, ht1, hst⟩ hoff F2 N2
      clear F1 N0 e1 e2 e3 e4
      dsimp only [envOf] at hRn hMd hsub hfR hpR hfl1 ht1 hst hoff F2 N2
      obtain ⟨q, t, rfl, hq⟩ := IntsAre.at hys _ _ hv
      have hq2 : ss.reverse[i]? = some q := by rw [List.getElem?_reverse (by omega), ← hsl]; exact hq
      rw [drop_at hq2] at hRn
      have hi9 : i < 7 := by have := hSy.len; omega
      clear hv hq hq2
      generalize el0 : List.map Prod.fst st = l0 at hRn
      have w1 : pile ≠ it := hoff (pile, _) (.head _)
      have w2 : sy ≠ it := hoff (sy, _) (.tail _ (.head _))
      have w3 : fin ≠ it := hoff (fin, _) (.tail _ (.tail _ (.head _)))
      have w4 : rab ≠ it := hoff (rab, _) (.tail _ (.tail _ (.tail _ (.head _))))
      have hoff2 : ∀ p ∈ R, p.1 ≠ it := fun p hp => hoff p (.tail _ (.tail _ (.tail _ (.tail _ hp))))
      cases hRn with
      | @prod a b r9 st9 hF hRn =>
        rcases st with _ | ⟨⟨a1, o1⟩, _ | ⟨⟨b1, o2⟩, st⟩⟩
        · cases el0
        · cases el0
        have ea : a1 = a := (List.cons.inj el0).1
        have eb : b1 = b := (List.cons.inj (List.cons.inj el0).2).1
        have ec : List.map Prod.fst st = st9 := (List.cons.inj (List.cons.inj el0).2).2
        subst ea eb ec
        obtain ⟨pa, ta, sa, psa, npa, ma1, ma2, ma3⟩ := hMd (a1, o1) (.head _)
        obtain ⟨pb, tb, sb, psb, npb, mb1, mb2, mb3⟩ := hMd (b1, o2) (.tail _ (.head _))
        unfold WLed at N2
        dsimp only at N2
        rw [pileV_cons, pileV_cons] at N2
        have hpl9 : (pileV st).length ≤ i := by simp only [pileV, List.length_reverse, List.length_map]; rw [List.length_cons, List.length_cons] at hst; omega
        k_with "my prod" => refine hold ?_
        dsimp only at N2
        k_steps
        unfold Hold
        rename News _ _ _ _ => kN
        rename Fr _ _ _ _ => kF
        k_dflt (refine' prod_ok (fs := fs1) (rest := (it, io) :: (pile, listOf (pileV st).toArray (np + 1 + 1)) :: (sy, LCg.lst sys) :: R) ?kB ?kF ?kX (news_rot kN) ?kT ?kK ?kd ?ku hI hR hfr ?kn ?kl (.tail _ (.tail _ (.tail _ ma1))) (.tail _ (.tail _ (.tail _ ma2))) (.tail _ (.tail _ (.tail _ mb1))) (.tail _ (.tail _ (.tail _ mb2))) ma3 mb3 hF ?_)
        case kB => k_asm
        case kF => k_asm
        case kX => k_asm
        case kT => k_asm
        case kK => exact rfl
        case kd => ktr_room
        case ku => first | omega | (simp only [units_in1, units_deeper, Around.mark_units, units_caller]; omega)
        case kn => exact ⟨by k_ne, by k_ne, by k_ne, hfR⟩
        case kl => omega
        intro tp pl t1 t2 psn npn h' tk' F3 N3 I3 ⟨l31, l32, l33, l34, l35, l36⟩
        clear kN kF
        dsimp only at l33 l34 l35 N3 I3
        have l37 := allne_1 l36
        k_steps
        dsimp only [MPost]
        rename News _ _ _ _ => nE
        rw [List.push_toArray] at nE
        have q1 : tp ≠ it := news_ne nE (.head _) (by k_mem) (by rw [hio]; intro e; injection e with e; revert e; decide)
        have q2 : tp ≠ fin := by k_ne
        have q3 : tp ≠ pile := by k_ne
        have q4 : pl ≠ it := Nat.ne_of_gt l33
        have q5 : pl ≠ fin := Nat.ne_of_gt l31
        have q6 : pl ≠ pile := Nat.ne_of_gt l34
        refine MEnd.intro (⟨(circ a1 b1, tp) :: st, np + 1 + 1 + 1, fs1 ++ [Value.bool true] ++ [Value.bool true], nf1 + 1 + 1, (tp, ({ cls := .type "tuple", data := .seq #[.int (circ a1 b1) t1, .ref pl, .int (part (circ a1 b1)) t2] } : Obj)) :: (pl, listOf psn.toArray npn) :: R⟩ : WS) (by assumption) nE ?hn (by k_mem) ?ha (by kst_all) (by intro z h1 h2 h3; (try dsimp only at h2); simp only [List.forall_mem_cons, List.not_mem_nil, false_implies, implies_true, and_true, ne_eq] at h2; simp only [List.contains_cons, List.contains_nil, Bool.or_false, Bool.or_eq_false_iff, beq_eq_false_iff_ne, ne_eq] at h3; simp [kstB, h1, h2, h3]) ?hp
        case hn =>
          unfold WLed
          dsimp only
          rw [pileV_cons]
          dsimp only
          exact List.forall_mem_cons.mpr ⟨by k_mem, List.forall_mem_cons.mpr ⟨by k_mem, List.forall_mem_cons.mpr ⟨by k_mem, List.forall_mem_cons.mpr ⟨by k_mem, List.forall_mem_cons.mpr ⟨by k_mem, List.forall_mem_cons.mpr ⟨by k_mem, fun p hp => .tail _ (.tail _ (.tail _ (.tail _ (.tail _ (.tail _ (.tail _ hp))))))⟩⟩⟩⟩⟩⟩
        case ha =>
          exact List.forall_mem_cons.mpr ⟨w1, List.forall_mem_cons.mpr ⟨w2, List.forall_mem_cons.mpr ⟨w3, List.forall_mem_cons.mpr ⟨w4, List.forall_mem_cons.mpr ⟨q1, List.forall_mem_cons.mpr ⟨q4, hoff2⟩⟩⟩⟩⟩⟩
        case hp =>
          refine ⟨hRn, ?_, fun p hp => .tail _ (.tail _ (hsub p hp)), ⟨q2, q5, hfR⟩, ⟨q3, q6, hpR⟩, ?_, ?_, ?_⟩
          · intro x hx
            rcases List.mem_cons.mp hx with rfl | hx
            · exact ⟨pl, _, _, psn, npn, .head _, .tail _ (.head _), I3⟩
            · exact (hMd x (.tail _ (.tail _ hx))).sub fun p hp => .tail _ (.tail _ hp)
          · simp only [List.length_append, List.length_cons, List.length_nil]; omega
          · intro x hx
            rcases List.mem_append.mp hx with hx | hx
            · rcases List.mem_append.mp hx with hx | hx
              · exact ht1 x hx
              · exact List.mem_singleton.mp hx
            · exact List.mem_singleton.mp hx
          · rw [List.length_cons, List.length_cons] at hst; rw [List.length_cons]; omega
      | @fac f9 r9 st9 hf h7 h54 hRn =>
        subst el0
        unfold WLed at N2
        dsimp only at N2
        have hmk := hsub _ mk
        have hpl9 : (pileV st).length ≤ i := by simp only [pileV, List.length_reverse, List.length_map]; omega
        k_steps
        dsimp only [MPost]
        rename News _ _ _ _ => nE
        rename Made _ _ _ => hMk
        obtain ⟨tq, etq, hMk⟩ := made_name hMk
        rw [← etq] at nE
        rw [List.push_toArray] at nE
        refine MEnd.intro (⟨(q, tq) :: st, np + 1, fs1, nf1, R⟩ : WS) (by assumption) nE ?hn2 (by k_mem) ?ha2 (by kst_all) (by intro z h1 h2 h3; (try dsimp only at h2); simp only [List.forall_mem_cons, List.not_mem_nil, false_implies, implies_true, and_true, ne_eq] at h2; simp only [List.contains_cons, List.contains_nil, Bool.or_false, Bool.or_eq_false_iff, beq_eq_false_iff_ne, ne_eq] at h3; simp [kstB, h1, h2, h3]) ?hp2
        case hn2 =>
          unfold WLed
          dsimp only
          rw [pileV_cons]
          dsimp only
          exact fun p hp => .tail _ hp
        case ha2 => exact List.forall_mem_cons.mpr ⟨w1, List.forall_mem_cons.mpr ⟨w2, List.forall_mem_cons.mpr ⟨w3, List.forall_mem_cons.mpr ⟨w4, hoff2⟩⟩⟩⟩
        case hp2 =>
          refine ⟨hRn, ?_, hsub, hfR, hpR, Nat.le_trans hfl1 (by omega), ht1, Nat.succ_le_succ hst⟩
          · intro x hx
            rcases List.mem_cons.mp hx with rfl | hx
            · exact hMk.sub hsub
            · exact hMd x hx
    case done =>
      rintro ⟨st, np, fs1, nf1, R⟩ u h tk ⟨hRn, hMd, hsub, hfR, hpR, hfl1, ht1, hst⟩ F2 N2
      clear F1 N0 e1 e2 e3 e4
      dsimp only [envOf] at hRn hMd hsub hfR hpR hfl1 ht1 hst F2 N2
      rw [List.drop_of_length_le (by rw [List.length_reverse]; omega)] at hRn
      generalize el0 : List.map Prod.fst st = l0 at hRn
      cases hRn
      rcases st with _ | ⟨⟨v1, tp⟩, _ | ⟨_, _⟩⟩
      · cases el0
      · have ev : v1 = v := (List.cons.inj el0).1
        subst ev
        obtain ⟨pl, ta, sa, ps, npl, ma1, ma2, ma3⟩ := hMd (v1, tp) (.head _)
        unfold WLed at N2
        dsimp only at N2 ma1 ma3
        have epl : (pileV [(v1, tp)]).toArray = #[.ref tp] := rfl
        rw [epl] at N2
        k_steps
        unfold Hold
        rename News _ _ _ _ => nE
        rename ((_ ∧ _ ∧ _) ∧ (_ ∧ _ ∧ _) ∧ _) => hoff9
        refine LCg.CompEnd.intro (by assumption) nE _ (fun _ hp => hp) (by simpa only [LCg.Off3] using hoff9) (by lcg_src) ?_
        k_steps
        rename (pile ≠ _ ∧ _) => hoD
        rename News _ _ _ _ => nE
        rename Fr _ _ _ _ => kF
        obtain ⟨z1, z2, z3, z4, z5⟩ := hoD
        have hy9 := hSy.len
        refine ret _ 1 ta nf1 fs1 _ _ kF (fun p hp => nE p ?_) ⟨z3, z4, .of fun p hp => off1_all z5 p (hsub p hp)⟩ (by omega) ht1
        rcases List.mem_cons.mp hp with rfl | hp
        · exact .head _
        rcases List.mem_cons.mp hp with rfl | hp
        · exact .tail _ (.tail _ (.tail _ (.head _)))
        rcases List.mem_cons.mp hp with rfl | hp
        · exact .tail _ (.tail _ (.tail _ (.tail _ (.head _))))
        · exact .tail _ (.tail _ (.tail _ (.tail _ (.tail _ (hsub p hp)))))
      · cases el0
end
section
local macro_rules | `(tactic| walk_at "pad 0") => `(tactic| fail)
local macro_rules | `(tactic| walk_at "pad 1") => `(tactic| fail)
local macro_rules | `(tactic| walk_at "pad 2") => `(tactic| fail)
local macro_rules | `(tactic| k_extra "my room") => `(tactic| first | omega | (simp only [List.length_append, List.length_cons, List.length_nil]; omega))
local macro_rules | `(tactic| walk_at "exec For Name Name cons nil") => `(tactic| (k_here; k_extra "my for"))
local macro_rules | `(tactic| walk_at "exec Assign cons ListComp") => `(tactic| (k_here; k_extra "my asg"))
local macro_rules | `(tactic| walk_at "subscriptTail Name Name ref int") => `(tactic| (k_here; k_dflt (refine' rab_item ?k1 ?k2 ?k3 ?k4 ?k5 ?k6 ?_; (case k4 => with_reducible assumption); (case k3 => with_reducible assumption); (case k1 => k_asm); (case k2 => k_mem); (case k5 => omega); (case k6 => omega)); intro _))
local macro_rules | `(tactic| walk_at "subscriptTail Name Name ref int") => `(tactic| (k_here; k_dflt (refine' known_at ?k1 ?k2 ?k3 ?k4 ?_ ?k5; (case k3 => assumption); (case k4 => assumption); (case k1 => k_asm); (case k2 => k_mem); (case k5 => exact rfl))))
theorem due_ok {prog : Program} {w : World} {p : Program} {loose : List Str} {mean : ExcName → Option Value} {mg mb : Str → Option Value}
    {dp un : Nat} {gd : Option (List Code)} {cn : Str} {cs : Scope} {a' : Addr} {ccd : Value} {cl : List (Str × Addr)} {outer : List Env} {A₀ : Around} {base h₀ : Heap} {L : Addr} {m : Str → Option Value} {news : List (Addr × Obj)} {s : Shared}
    {Q E : Value → Shared → Prop} {rab nv kd fa nfv : Nat} {ko : Obj} {vs fvs : List Value} {ns fns : List Int}
    (B : Below A₀ base outer h₀) (F : Fr h₀ L s.heap m) (X : (top0.heap_1 w.params).In h₀) (N : News h₀ L s.heap news) (T : Top p loose mean mg mb h₀) (hk : cs.kind = .function)
    (hd : dp + 5 < recursionLimit) (hu : un + 20 < cLine) (hI : IntsAre vs ns) (hR : Rab ns) (mr : (rab, listOf vs.toArray nv) ∈ news)
    (mf : (fa, listOf fvs.toArray nfv) ∈ news) (hIf : IntsAre fvs fns) (hfz : fns.length ≤ 4) (mk : (kd, ko) ∈ news) (hK : Known prog w ko news fns) (hb : ∀ f ∈ fns, 7 ≤ f ∧ f ≤ 54) (hx : ∀ s ∈ dueL fns, 0 ≤ s ∧ s < 40)
    (ret : ∀ t h' tk', Fr h₀ L h' m → News h₀ L h' news → Q (.int (psum (dueL fns)).1 t) { s with heap := h', toks := tk' }) :
    wpAny (model prog w) (ktrTop dp un gd cn cs L a' ccd cl outer) (call (.ref 168) [.ref fa, .ref kd, .ref rab]) Q E s := by
  have hfv := hIf.length
  have hsz9 : 1000 < sizeLine := by rw [PySem.sizeLine_eq]; decide
  k_with_none
  w_top off
  refine wpAny_call ?_
  k_dflt ktr_enter
  have kMark := kstMark
  k_with "my for" => refine hold ?_
  k_steps
  unfold Hold
  rename Fr _ _ _ _ => kF
  rename News _ _ _ _ => kN
  rename_i g1 L1 hA tkA FG1 B1 X1 T1 lt1 oF oR oK d1 d2 d3 D0 hB lt2 hC
  have d2' : oR.data = .cell (some (.ref rab)) := d2
  have d3' : oK.data = .cell (some (.ref kd)) := d3
  clear d2 d3
  refine' For_cell (σ := Nat × Nat × List Value) (y := Str.ofString "sums") (l := fa) (vs := fvs) (nn := nfv) (fc := L1 + 1 + 1 + 1) (fun c => .ref c.1) (fun c => (c.1, listOf c.2.2.toArray c.2.1) :: (L1 + 1 + 1, oR) :: (L1 + 1, oK) :: news)
    (fun i c => IntsAre c.2.2 ((fns.take i).foldl (fun l n => grow l (zk 40 n)) [-2]) ∧ c.2.2.length ≤ 4 ^ i) (D0, 0, [Value.int (-2) (tkA + 1)]) ?jh ?jk ?jx ?jc kF ?jN d1 ?jl ?jf ?jp ?j1 ?turn ?done
  case jh => rfl
  case jk => rfl
  case jx => rfl
  case jc => rfl
  case jN => exact news_swap kN
  case jl => exact fun _ => .tail _ (.tail _ (.tail _ mf))
  case jf => k_all
  case jp => exact ⟨.cons _ _ .nil, Nat.le_refl _⟩
  case j1 =>
    intro Q2 E2 hQ2
    k_steps
    exact hQ2
  case turn =>
    rintro ⟨D, k, ys⟩ i v h tk I io oc hv ⟨hys, hyl⟩ hoff hIfc hdc F2 N2
    dsimp only [envOf] at hys hyl hoff F2 N2
    obtain ⟨f, t, rfl, hf⟩ := IntsAre.at hIf i v hv
    have hfm : f ∈ fns := List.mem_of_getElem? hf
    obtain ⟨kvs, kd1, kd2⟩ := hK
    obtain ⟨tp, kv, pl, ta, sa, ps, np, ma1, ma2, ma3⟩ := kd2 f hfm
    clear kF kN
    k_with "my asg" => refine hold ?_
    k_steps
    unfold Hold
    rename Fr _ _ _ _ => kF
    rename News _ _ _ _ => kN
    refine' Assign_two (sa := D) (svs := ys) (pl := pl) (ps := ps) (pn := (zk 40 f).map Int.ofNat) ?ah kF ?aL kN ?asa hys ?apl ma3 ?asw ?acl ?ace ?aki ?ana ?ax ?az ?azx ?ay ?ap ?asz ?a1 ?a2 ?a3 ?afin
    case ah => rfl
    case aL => rfl
    case asa => k_mem
    case apl => k_mem
    case asw => with_unfolding_all rfl
    case acl => rfl
    case ace => decide
    case aki => rfl
    case ana => decide
    case ax => rfl
    case az => rfl
    case azx => decide
    case ay => rfl
    case ap => rfl
    case asz => exact due_size hb hf hyl ma3 hsz9 (by have := (List.getElem?_eq_some_iff.mp hf).1; omega)
    case a1 =>
      intro Q2 E2 hQ2
      k_steps
      exact hQ2
    case a2 =>
      intro a ta' oC m₂ C D' I' oI' ys' h' tk' Q2 E2 b1 b2 b3 b4 b5
      clear kF kN
      k_steps
      exact b5 _
    case a3 =>
      intro a ta' b tb' oC m₂ C D' I' oI' ys' h' tk' Q2 E2 b1 b2 b2' b3 b4 b5
      clear kF kN
      k_steps
      exact b5 _ _
    case afin =>
      intro D' h' tk' ys' b1 b2 b3 b4
      clear kF kN
      k_steps
      refine ⟨(D', ys'.length, ys'), h', tk', oc, _, rfl, fr_two b2, news_due b3, hdc, due_off b4 hoff, ?_, ?_⟩
      · exact due_push hf b1
      · exact due_len hb hf hyl b1 hys
  case done =>
    rintro ⟨D, k, ys⟩ h tk oc v ⟨hys, hyl⟩ F2 N2 hdc hoff
    dsimp only [envOf] at hys hyl hoff F2 N2
    rw [hfv, List.take_length] at hys
    clear kF kN
    k_steps
    rename Fr _ _ _ _ => kF
    rename News _ _ _ _ => kN
    refine' LCg.CompSrc.ledger (ax := D) (its := ys.toArray) ?sh kF kN ?sm ?sz ?_
    case sh => rfl
    case sm => k_mem
    case sz => (rw [List.size_toArray]; exact due_room hyl hfv hfz hsz9)
    intro g
    refine' comp_ints (fun k => fb (k.toNat + 2)) hys ?tS ?turn ?fin
    case tS => lcg_src
    case turn =>
      intro i k' t' zs I oI C oC D' m₂ h' tk' Q2 E2 hk' b1 b2 b3 b4 b5 b6 b7
      have hkb := hx k' (List.mem_of_getElem? hk')
      obtain ⟨hk0, hk1⟩ := hkb
      clear kF kN
      k_steps
      exact b7 _ _
    case fin =>
      intro zs hzs
      clear kF kN
      k_steps
      rename Fr _ _ _ _ => kF
      rename News _ _ _ _ => kN
      have e9 : (List.map (fun k => fb (k.toNat + 2)) (List.foldl (fun l n => grow l (zk 40 n)) [-2] fns)).sum = (psum (dueL fns)).1 := psum_sum _ fun k hk' => (hx k hk').1
      rw [e9]
      refine ret _ _ _ kF fun p hp => kN p ?_
      repeat first | exact hp | refine List.Mem.tail _ ?_
end
section
local macro_rules | `(tactic| walk_at "pad 0") => `(tactic| fail)
local macro_rules | `(tactic| walk_at "pad 1") => `(tactic| fail)
local macro_rules | `(tactic| walk_at "pad 2") => `(tactic| fail)
local macro_rules | `(tactic| walk_at "call ref") => `(tactic| (k_here; k_extra "my call"))
local macro_rules | `(tactic| walk_at "eval DictComp") => `(tactic| (k_here; k_extra "my dict"))
local macro_rules | `(tactic| walk_at "exec Assign cons ListComp") => `(tactic| (k_here; k_extra "my asg"))
local macro_rules | `(tactic| k_qdec) => `(tactic| decide +kernel)
theorem the_walk : Walk := by
  delta Walk lawD lawK
  k_with_none
  k_go0
  all_goals (try k_fold)
  rename_i oc4 oc3 oc2 oc1 d4 d3 d2 d1 N0 X0
  k_with "my call" => refine hold ?_
  k_with "my dict" => refine hold ?_
  k_with "my asg" => refine hold ?_
  k_steps
  unfold Hold
  rename Fr _ _ _ _ => kF
  rename News _ _ _ _ => kN
  k_dflt (refine' rabs_ok ?kB kF ?kX kN ?kT ?kK ?kd ?_)
  case kB => k_asm
  case kX => k_asm
  case kT => k_asm
  case kK => exact rfl
  case kd => ktr_room
  intro rab vs nv ns h' tk' F' N' ⟨lr1, lr2, lr3, lr4, _⟩ hI hR
  dsimp only at lr1 lr2 lr3 lr4
  clear kF kN
  k_steps
  unfold Hold
  rename_i hZ oRb kF kN dRb
  k_dflt (refine' facs_ok ?cB kF ?cX kN ?cT ?cK ?cd ?cu ?cL ?cI ?cl ?_)
  case cB => k_asm
  case cX => k_asm
  case cT => k_asm
  case cK => exact rfl
  case cd => ktr_room
  case cu => first | omega | ktr_units | (simp only [units_in1, units_deeper, Around.mark_units, units_caller]; omega)
  case cL => assumption
  case cI => assumption
  case cl => omega
  intro fa fvs nfv fns h' tk' F' N' hIf hfl hb
  clear kF kN
  have n4 : @Ne Nat fa _ := cell_ne N' (.head _) (.tail _ (.tail _ (.head _))) (by assumption) (by intro v e; cases e)
  have n3 : @Ne Nat fa _ := cell_ne N' (.head _) (.tail _ (.tail _ (.tail _ (.head _)))) (by assumption) (by intro v e; cases e)
  have n2 : @Ne Nat fa _ := cell_ne N' (.head _) (.tail _ (.tail _ (.tail _ (.tail _ (.head _))))) (by assumption) (by intro v e; cases e)
  have n1 : @Ne Nat fa _ := cell_ne N' (.head _) (.tail _ (.tail _ (.tail _ (.tail _ (.tail _ (.head _)))))) (by assumption) (by intro v e; cases e)
  k_steps
  unfold Hold
  rename_i hA oFa dFa fin hB lFin hC oFi F9 N9 dFi
  have hsz9 : 1000 < sizeLine := by rw [PySem.sizeLine_eq]; decide
  have hfv := hIf.length
  have hf4 : fns.length ≤ 4 := by omega
  obtain ⟨rest, er, N10⟩ := news_known N9
  obtain ⟨mfa, mFi, mFa, mRb⟩ := er_mem er
  have aFin : AllNe fin rest := er_ne er (by dsimp only; omega) (by dsimp only; omega) (by dsimp only; omega) (by dsimp only; omega)
  have aCk := er_ne er n4 (by dsimp only; omega) (by dsimp only; omega) (by dsimp only; omega)
  clear er N9
  refine' dict_known (nfv := nfv) ?dh F9 N10 hIf aFin aCk mfa ?dcl ?dce ?dki ?dna ?dx ?dsz ?d1 ?dtk ?dtv ?dfin
  case dh => rfl
  case dcl => rfl
  case dce => decide
  case dki => rfl
  case dna => decide
  case dx => rfl
  case dsz => omega
  case d1 =>
    intro Q2 E2 hQ2
    k_steps
    exact hQ2
  case dtk =>
    intro f t oC m₂ C h tk Q2 E2 b1 b2 b3 b4
    exact wpAny_Name (wpAny_loadName_local rfl rfl (b1.ns b3) b2 b4)
  case dtv =>
    clear F9 N10
    rintro i f t kvs nw oD m₂ oC C D I oI h tk Q2 E2 hf hoI ⟨fs, nf, R, rfl, hsub, a1, a2, hfl', ht, hk⟩ b1 b2 b3 b4 b5 b6 b7 b8
    have mFi' := hsub _ mFi
    have mRb' := hsub _ mRb
    have b6' := b6.mem
    have o1 := b6' _ (.head _)
    have o2 := b6' _ (.tail _ (.head _))
    have o3 := b6' _ (.tail _ (.tail _ (.head _)))
    dsimp only at o1 o2 o3
    k_steps
    unfold Hold
    have hfb := hb f (List.mem_of_getElem? hf)
    have hi4 := (List.getElem?_eq_some_iff.mp hf).1
    k_dflt (refine' made_ok (fs := fs) ?eB b3 ?eX (news_rot b4) ?eT ?eK ?ed ?eu hI hR ?e0 ?e1 ?er ?en ?el ?_)
    case eB => k_asm
    case eX => k_asm
    case eT => k_asm
    case eK => exact rfl
    case ed => ktr_room
    case eu => first | omega | ktr_units | (simp only [units_in1, units_deeper, Around.mark_units, units_caller]; omega)
    case e0 => omega
    case e1 => omega
    case er => omega
    case en => exact ⟨Ne.symm o1.1, Ne.symm o1.2.1, Ne.symm o1.2.2, by dsimp only; omega, a1⟩
    case el => omega
    intro tp pl t2 ps np h' tk' F' N' I' ⟨l1, l2, l3, l4, l5, l6, l7⟩
    obtain ⟨es1, ep1, hdC, _⟩ := b1
    obtain ⟨es2, ep2, _, hdD, _⟩ := b5
    obtain ⟨p1, p2, p3, pR⟩ := b6
    have tI : tp ≠ I := news_ne N' (.head _) (.tail _ (.tail _ (.tail _ (.tail _ (.head _))))) (by rw [hoI]; intro e; injection e with e; revert e; decide)
    have tC : tp ≠ C := seq_ne_dict N' (.head _) (.tail _ (.tail _ (.tail _ (.tail _ (.tail _ (.head _)))))) rfl hdC
    have tD : tp ≠ D := seq_ne_dict N' (.head _) (.tail _ (.tail _ (.tail _ (.tail _ (.tail _ (.tail _ (.head _))))))) rfl hdD
    have tF : tp ≠ fin := news_ne N' (.head _) (.tail _ (.tail _ (.head _))) (by intro e; injection e with e; revert e; decide)
    have tK := cell_ne N' (.head _) (.tail _ (.tail _ (.tail _ (.tail _ (.tail _ (.tail _ (.tail _ (.head _)))))))) d4 (by intro v e; cases e)
    exact b8 _ _ _ _ F' (news_out N') ⟨p1, p2, p3, ⟨tI, tC, tD⟩, ⟨Nat.ne_of_gt l3, Nat.ne_of_gt l4, Nat.ne_of_gt l5⟩, pR⟩ (KInv.step hsub a1 a2 hfl' ht hk hf tF (Nat.ne_of_gt l1) tK (Nat.ne_of_gt l6) I')
  case dfin =>
    clear F9 N10
    rintro D oD kvs fs nf R h tk b1 b2 b3 ⟨p1, p2, p3, p4⟩ hsub a1 a2 hfl' ht hK
    k_steps
    unfold Hold
    rename_i hE oKn F10 N11 dKn
    refine' Assign_ListComp_Tup (F₀ := F10) ?w1 ?w2 ?w3 ?w4 ?w5 ?w6 ?w7 ?w8 ?w9 ?_
    case w1 => rfl
    case w2 => with_unfolding_all rfl
    case w3 => rfl
    case w4 => decide
    case w5 => rfl
    case w6 => decide
    case w7 => rfl
    case w8 => rfl
    case w9 => rfl
    k_steps
    unfold Hold
    k_dflt (refine' shapes_ok ?sB F10 ?sX N11 ?sT ?sK ?sd ?sL ?sI ?sl ?_)
    case sB => k_asm
    case sX => k_asm
    case sT => k_asm
    case sK => exact rfl
    case sd => ktr_room
    case sL => assumption
    case sI => assumption
    case sl => omega
    intro ax x y tx ty h' tk' F' N' hxy
    clear F10 N11
    obtain ⟨hx1, hy1, hdue⟩ := law_plain hb hfl hxy
    refine SrcU.mk rfl F' (news_w N') (.tail _ (.tail _ (.head _))) (by show 2 ≤ sizeLine; omega) ?_
    intro g
    refine comp_worths (v := (psum (dueL fns)).1) (.of ?_) (by omega) ht ?_ ?_
    · exact List.forall_mem_cons.mpr ⟨news_ne N' (.head _) (.tail _ (.tail _ (.head _))) (by intro e; injection e with e; revert e; decide), List.forall_mem_cons.mpr ⟨Ne.symm p1, List.forall_mem_cons.mpr ⟨(by refine neN ?_; (try dsimp only); omega), a1.all⟩⟩⟩
    · rintro i ys nw hi ⟨fs1, nf1, R1, rfl, hsub1, a3, hfl1, ht1, hyl, hys⟩ sv I oI C oC D' m₂ h2 tk2 E2 hv b1 b2 b3 b4 b5 b6
      clear F' N'
      have hi2 : i < 2 := hi
      have hsv : ∃ z tz, sv = .str z tz ∧ Shaped z fns (psum (dueL fns)).1 := by
        match i, hi2, hv with
        | 0, _, hv => exact ⟨x, tx, (Option.some.inj hv).symm, hx1⟩
        | 1, _, hv => exact ⟨y, ty, (Option.some.inj hv).symm, hy1⟩
      obtain ⟨z, tz, rfl, hSh⟩ := hsv
      have s1 := hsub1 _ (.tail _ (.tail _ (.tail _ (hsub _ mfa))))
      have s2 := hsub1 _ (.tail _ (.tail _ (.tail _ (hsub _ mFi))))
      have s3 := hsub1 _ (.tail _ (.tail _ (.tail _ (hsub _ mFa))))
      have s4 := hsub1 _ (.tail _ (.tail _ (.tail _ (hsub _ mRb))))
      have s5 := hsub1 _ (.tail _ (.head _))
      have s6 := hsub1 _ (.tail _ (.tail _ (.head _)))
      have hK1 := hK.sub (fun p hp => hsub1 _ (.tail _ (.tail _ (.tail _ hp))))
      k_steps
      unfold Hold
      obtain ⟨q1, q2, qR⟩ := b5
      k_dflt (refine' worth_ok (fs := fs1) ?uB b3 ?uX (news_rot b4) ?uT ?uK ?ud ?uu hI hR ?ur ?un ?ul ht1 (.tail _ (.tail _ (.tail _ s1))) hIf hf4 (.tail _ (.tail _ (.tail _ s5))) (hK1.sub fun p hp => .tail _ (.tail _ (.tail _ hp))) hSh ?_)
      case uB => k_asm
      case uX => k_asm
      case uT => k_asm
      case uK => exact rfl
      case ud => ktr_room
      case uu => first | omega | ktr_units | (simp only [units_in1, units_deeper, Around.mark_units, units_caller]; omega)
      case ur => omega
      case un => exact ⟨Ne.symm q1.1, Ne.symm q1.2.1, Ne.symm q1.2.2, a3⟩
      case ul => omega
      intro r nr tv nf' fs' h' tk' F' N' ⟨z1, z2, z3⟩ hl' ht'
      obtain ⟨y1, y2, y3, _⟩ := z3
      exact LCg.CompEnd.intro F' (news_out1 N') _ (fun _ hp => hp) ⟨q1, q2, ⟨Ne.symm y1, Ne.symm y2, Ne.symm y3⟩, qR⟩ (.tail _ (.tail _ (.tail _ (hsub1 _ (.head _))))) (WInv.step hsub1 a3 hfl1 hl' ht' hyl hys (Ne.symm z1))
    · rintro ys nw ⟨fs1, nf1, R1, rfl, hsub1, a3, hfl1, ht1, hyl, hys⟩
      clear F' N'
      have hyl2 : ys.length = 2 := hyl
      obtain ⟨y0, y1, rfl⟩ : ∃ y0 y1, ys = [y0, y1] := by
        match ys, hyl2 with
        | [a, b], _ => exact ⟨a, b, rfl⟩
      obtain ⟨r0, t0, n0, rfl, mr0⟩ := hys y0 (.head _)
      obtain ⟨r1, t1, n1', rfl, mr1⟩ := hys _ (.tail _ (.head _))
      clear hys hyl hyl2
      have s1 := hsub1 _ (.tail _ (.tail _ (.tail _ (hsub _ mfa))))
      have s2 := hsub1 _ (.tail _ (.tail _ (.tail _ (hsub _ mFi))))
      have s3 := hsub1 _ (.tail _ (.tail _ (.tail _ (hsub _ mFa))))
      have s4 := hsub1 _ (.tail _ (.tail _ (.tail _ (hsub _ mRb))))
      have s5 := hsub1 _ (.tail _ (.head _))
      have s6 := hsub1 _ (.tail _ (.tail _ (.head _)))
      have hK1 := hK.sub (fun p hp => hsub1 _ (.tail _ (.tail _ (.tail _ hp))))
      k_steps
      unfold Hold
      rename Fr _ _ _ _ => kF
      rename News _ _ _ _ => kN
      k_dflt (refine' due_ok (nfv := nfv) ?vB kF ?vX kN ?vT ?vK ?vd ?vu hI hR ?vr ?vf hIf hf4 ?vm ?vk hb hdue ?_)
      case vB => k_asm
      case vX => k_asm
      case vT => k_asm
      case vK => exact rfl
      case vd => ktr_room
      case vu => first | omega | ktr_units | (simp only [units_in1, units_deeper, Around.mark_units, units_caller]; omega)
      case vr => k_mem
      case vf => k_mem
      case vm => k_mem
      case vk => exact hK1.sub fun p hp => .tail _ (.tail _ (.tail _ hp))
      intro td h' tk' F' N'
      clear kF kN
      k_steps
      rename News _ _ _ _ => kN
      refine' false_notIn kN ?xm ht1 ?xu ?_
      case xm => k_mem
      case xu => first | ke_room | omega | ktr_units | (simp only [units_in1, units_deeper, Around.mark_units, units_caller]; omega)
      k_steps
end
end
theorem the_law.tw11076530591063841335 : True := trivial
theorem the_law.tw15749696667984827838 : True := trivial
theorem the_law.tw7193616998288756383 : True := trivial
theorem the_law.tw4460970520214238191 : True := trivial
theorem the_law.tw15954900235646841393 : True := trivial
theorem the_law.tw3600623701191366834 : True := trivial
theorem the_law.tw7870632892410320804 : True := trivial
theorem the_law.tw14592839810846470784 : True := trivial
theorem the_law.tw8133277066656838403 : True := trivial
theorem the_law.tw18335680582733689760 : True := trivial
theorem the_law.tw12997525792803805938 : True := trivial
theorem the_law.tw16897059922503566277 : True := trivial
theorem the_law.tw8781765761939745349 : True := trivial
theorem the_law.tw3385928022092840959 : True := trivial
theorem the_law.tw9518725994942411554 : True := trivial
theorem the_law.tw9569497067310047514 : True := trivial
theorem the_law.tw540225284365443433 : True := trivial
theorem the_law.tw13771859422953315738 : True := trivial
theorem the_law.tw10444848081051359725 : True := trivial
theorem the_law.tw3851201177664293019 : True := trivial
theorem the_law.tw7870033383120766168 : True := trivial
theorem the_law.tw8535255120784026897 : True := trivial
theorem the_law.tw82921918446581218 : True := trivial
theorem the_law.tw9055723550874211537 : True := trivial
theorem the_law.tw10647980319389551907 : True := trivial
theorem the_law.tw14676383744779256430 : True := trivial
theorem the_law.tw12954198489959858343 : True := trivial
theorem the_law.tw15969284615626939092 : True := trivial
theorem the_law.tw731705488494360904 : True := trivial
theorem the_law.tw1562361124601489242 : True := trivial
theorem the_law.tw5499025877086160063 : True := trivial
theorem the_law.tw12391046505477063477 : True := trivial
theorem the_law.tw511320744172429155 : True := trivial
theorem the_law.tw9544869008121019786 : True := trivial
theorem the_law.tw5488480631281259563 : True := trivial
theorem the_law.tw405975510254933866 : True := trivial
theorem the_law.tw13099642499205706691 : True := trivial
theorem the_law.tw2941543471161629678 : True := trivial
theorem the_law.tw3037333099149171685 : True := trivial
theorem the_law.tw16068979030682537176 : True := trivial
theorem the_law.tw1057164418953052063 : True := trivial
theorem the_law.tw5351897218386179120 : True := trivial
theorem the_law.tw11856851594979099062 : True := trivial
theorem the_law.tw1779845115129480783 : True := trivial
theorem the_law.tw142772214351944594 : True := trivial
theorem the_law.tw17114451759434113669 : True := trivial
theorem the_law.tw2737049499516002932 : True := trivial
theorem the_law.tw9720762292192177328 : True := trivial
theorem the_law.tw5177406095525685233 : True := trivial
theorem the_law.tw5582780411824514506 : True := trivial
theorem the_law.tw13071446812119265202 : True := trivial
theorem the_law.tw6501138019437466910 : True := trivial
theorem the_law.tw14327034850877405489 : True := trivial
theorem the_law.tw874917189974528042 : True := trivial
theorem the_law.tw17967149090188222481 : True := trivial
theorem the_law.tw14918618552101546430 : True := trivial
theorem the_law.tw14748366165918755826 : True := trivial
theorem the_law.tw13461757905653922427 : True := trivial
theorem the_law.tw11021737324359856343 : True := trivial
theorem the_law.tw9203830145802291437 : True := trivial
theorem the_law.tw7892253632141755684 : True := trivial
theorem the_law.tw7635563269094132997 : True := trivial
theorem the_law.tw15870904153958046044 : True := trivial
theorem the_law.tw12865828849105230136 : True := trivial
theorem the_law.tw8413619747877046783 : True := trivial
theorem the_law.tw11744869375795423271 : True := trivial
theorem the_law.tw12348948289128397615 : True := trivial
theorem the_law.tw18209024029236962908 : True := trivial
theorem the_law.tw16461617603256166657 : True := trivial
theorem the_law.tw6991784402927455554 : True := trivial
theorem the_law.tw15307435698254633755 : True := trivial
theorem the_law.tw17423143462273180991 : True := trivial
theorem the_law.tw14577958101088790966 : True := trivial
theorem the_law.tw6268972802955982645 : True := trivial
theorem the_law.tw18069425322602114768 : True := trivial
theorem the_law.tw5679733185164916305 : True := trivial
theorem the_law.tw9509402559216657307 : True := trivial
theorem the_law.tw7341301413097869696 : True := trivial
theorem the_law.tw17229136472129463356 : True := trivial
theorem the_law.tw7788389806307037101 : True := trivial
theorem the_law.tw10198393551420919917 : True := trivial
theorem the_law.tw1617432938517750258 : True := trivial
theorem the_law.tw17703780964691147882 : True := trivial
theorem the_law.tw3836035043137533401 : True := trivial
theorem the_law.tw8495659397586899126 : True := trivial
theorem the_law.tw4678627924932929923 : True := trivial
theorem the_law.tw15850840283989008197 : True := trivial
theorem the_law.tw5493733263906499603 : True := trivial
theorem the_law.tw8137294520469548044 : True := trivial
theorem the_law.tw4517300290296804734 : True := trivial
theorem the_law.tw14262571012277367400 : True := trivial
theorem the_law.tw2538356627454834011 : True := trivial
theorem the_law.tw10943617231672282143 : True := trivial
theorem the_law.tw5173336352277494983 : True := trivial
theorem the_law.tw8331984014033913864 : True := trivial
theorem the_law.tw14486799962669681046 : True := trivial
theorem the_law.tw1120911122990470450 : True := trivial
theorem the_law.tw9156717277385824625 : True := trivial
theorem the_law.tw9662199391536694080 : True := trivial
theorem the_law.tw5740844935027086226 : True := trivial
theorem the_law.tw2021051265280021242 : True := trivial
theorem the_law.tw18273041722104860537 : True := trivial
theorem the_law.tw1728152126975895757 : True := trivial
theorem the_law.tw9186166106411686349 : True := trivial
theorem the_law.tw14428311245317613357 : True := trivial
theorem the_law.tw5730065682760082289 : True := trivial
theorem the_law.tw17085786880020746803 : True := trivial
theorem the_law.tw10325301038439880256 : True := trivial
theorem the_law.tw3166220447557754042 : True := trivial
theorem the_law.tw4532121281032880110 : True := trivial
theorem the_law.tw14755601824311176682 : True := trivial
theorem the_law.tw1370705255875569576 : True := trivial
theorem the_law.tw5372763034084339988 : True := trivial
theorem the_law.tw4584736097684789375 : True := trivial
theorem the_law.tw2551803567163112939 : True := trivial
section
set_option Elab.async true in
theorem the_law : PySem.Challenge.rw_sn0063_01.Holds := by
  w_on
  o_law
  o_head (kHook top0.heap_1 addrs addrs_are)
  case hw => w_witness2
  case hc => exact the_walk
end
end Mine
theorem PySem.Challenge.cw_sn0063_01_holds : PySem.Challenge.rw_sn0063_01.Holds :=
  Mine.the_law
