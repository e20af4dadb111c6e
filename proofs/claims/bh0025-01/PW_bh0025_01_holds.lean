import PyProof.Rows.All
import Wide.All
import OpenK.AllK
import Wide.FinOn
import PySem.Challenge.RW_bh0025_01
set_option Elab.async false
set_option maxRecDepth 100000
set_option maxHeartbeats 8000000
section
/-! plain functions: what the program reckons -/
namespace Mine
def PP : Int := 115792089237316195423570985008687907853269984665640564039457584007908834671663
def NN : Int := 115792089237316195423570985008687907852837564279074904382605163141518161494337
def GX : Int := 55066263022277343669578718895168534326250603453777594175500187360389116729240
def GY : Int := 32670510020758816978083085130507043184471273380659243275938904335757337482424
def fm (a : Int) : Int := a.fmod PP
structure J3 where
  x : Int
  y : Int
  z : Int
def jdYsq (p : J3) : Int := fm (p.y ^ 2)
def jdS (p : J3) : Int := fm (4 * p.x * jdYsq p)
def jdM (p : J3) : Int := fm (3 * p.x ^ 2 + 0 * p.z ^ 4)
def jdX (p : J3) : Int := fm (jdM p ^ 2 - 2 * jdS p)
def jdY (p : J3) : Int := fm (jdM p * (jdS p - jdX p) - 8 * jdYsq p ^ 2)
def jdZ (p : J3) : Int := fm (2 * p.y * p.z)
def jdbl (p : J3) : J3 := ⟨jdX p, jdY p, jdZ p⟩
def jaU1 (p q : J3) : Int := fm (p.x * q.z ^ 2)
def jaU2 (p q : J3) : Int := fm (q.x * p.z ^ 2)
def jaS1 (p q : J3) : Int := fm (p.y * q.z ^ 3)
def jaS2 (p q : J3) : Int := fm (q.y * p.z ^ 3)
def jaH (p q : J3) : Int := jaU2 p q - jaU1 p q
def jaR (p q : J3) : Int := jaS2 p q - jaS1 p q
def jaH2 (p q : J3) : Int := fm (jaH p q * jaH p q)
def jaH3 (p q : J3) : Int := fm (jaH p q * jaH2 p q)
def jaV (p q : J3) : Int := fm (jaU1 p q * jaH2 p q)
def jaX (p q : J3) : Int := fm (jaR p q ^ 2 - jaH3 p q - 2 * jaV p q)
def jaY (p q : J3) : Int := fm (jaR p q * (jaV p q - jaX p q) - jaS1 p q * jaH3 p q)
def jaZ (p q : J3) : Int := fm (jaH p q * p.z * q.z)
def jadd (p q : J3) : J3 := ⟨jaX p q, jaY p q, jaZ p q⟩
/-- a coordinate is reduced -/
def In (a : Int) : Prop := 0 ≤ a ∧ a < PP
structure J3.In (p : J3) : Prop where
  x : Mine.In p.x
  y : Mine.In p.y
  z : Mine.In p.z
theorem fm_in (a : Int) : In (fm a) := ⟨Int.fmod_nonneg_of_pos _ (by decide), Int.fmod_lt_of_pos _ (by decide)⟩
theorem jdbl_in (p : J3) : (jdbl p).In := ⟨fm_in _, fm_in _, fm_in _⟩
theorem jadd_in (p q : J3) : (jadd p q).In := ⟨fm_in _, fm_in _, fm_in _⟩
end Mine

namespace Mine
/-- what the multiples are told to be, up to a top -/
structure Chain (A : J3) (G : Nat → J3 → Prop) (top : Nat) : Prop where
  one : G 1 A
  ok : ∀ k p, G k p → p.In ∧ p.y ≠ 0
  dbl : ∀ k p, G k p → 1 ≤ k → 2 * k ≤ top → G (2 * k) (jdbl p)
  add : ∀ k p, G (2 * k) p → 1 ≤ k → 2 * k + 1 ≤ top → jaU1 p A ≠ jaU2 p A ∧ G (2 * k + 1) (jadd p A)
end Mine
end
section
/-! plain number theory: Fermat, Pocklington -/
namespace Mine
/-- a prime -/
def Pr (p : Nat) : Prop := 2 ≤ p ∧ ∀ d, d ∣ p → d = 1 ∨ d = p
def ch : Nat → Nat → Nat
  | _, 0 => 1
  | 0, _ + 1 => 0
  | n + 1, k + 1 => ch n k + ch n (k + 1)
def sm (f : Nat → Nat) : Nat → Nat
  | 0 => 0
  | n + 1 => sm f n + f n
theorem sm_head (f : Nat → Nat) : ∀ n, sm f (n + 1) = f 0 + sm (fun k => f (k + 1)) n
  | 0 => by simp [sm]
  | n + 1 => by
    show sm f (n + 1) + f (n + 1) = f 0 + (sm (fun k => f (k + 1)) n + f (n + 1))
    rw [sm_head f n]; omega
theorem sm_add (f g : Nat → Nat) : ∀ n, sm (fun k => f k + g k) n = sm f n + sm g n
  | 0 => rfl
  | n + 1 => by
    show sm (fun k => f k + g k) n + (f n + g n) = (sm f n + f n) + (sm g n + g n)
    rw [sm_add f g n]; omega
theorem sm_mul (c : Nat) (f : Nat → Nat) : ∀ n, sm (fun k => c * f k) n = c * sm f n
  | 0 => rfl
  | n + 1 => by
    show sm (fun k => c * f k) n + c * f n = c * (sm f n + f n)
    rw [sm_mul c f n, Nat.mul_add]
theorem sm_congr {f g : Nat → Nat} : ∀ n, (∀ k, k < n → f k = g k) → sm f n = sm g n
  | 0, _ => rfl
  | n + 1, h => by
    show sm f n + f n = sm g n + g n
    rw [sm_congr n fun k hk => h k (by omega), h n (by omega)]
theorem ch_over : ∀ n k, n < k → ch n k = 0
  | 0, k + 1, _ => rfl
  | n + 1, k + 1, h => by
    show ch n k + ch n (k + 1) = 0
    rw [ch_over n k (by omega), ch_over n (k + 1) (by omega)]
theorem ch_self : ∀ n, ch n n = 1
  | 0 => rfl
  | n + 1 => by
    show ch n n + ch n (n + 1) = 1
    rw [ch_self n, ch_over n (n + 1) (by omega)]
theorem binom (a : Nat) : ∀ n, (a + 1) ^ n = sm (fun k => ch n k * a ^ k) (n + 1)
  | 0 => by simp [sm, ch]
  | n + 1 => by
    rw [Nat.pow_succ, binom a n, sm_head (fun k => ch (n + 1) k * a ^ k) (n + 1)]
    have e1 : sm (fun k => ch (n + 1) (k + 1) * a ^ (k + 1)) (n + 1) = a * sm (fun k => ch n k * a ^ k) (n + 1) + sm (fun k => ch n (k + 1) * a ^ (k + 1)) (n + 1) := by
      rw [← sm_mul, ← sm_add]
      refine sm_congr _ fun k _ => ?_
      show (ch n k + ch n (k + 1)) * a ^ (k + 1) = a * (ch n k * a ^ k) + ch n (k + 1) * a ^ (k + 1)
      rw [Nat.add_mul, Nat.pow_succ]
      congr 1
      rw [← Nat.mul_assoc, Nat.mul_comm a]
    have e2 : sm (fun k => ch n k * a ^ k) (n + 1) = 1 + sm (fun k => ch n (k + 1) * a ^ (k + 1)) (n + 1) := by
      have h1 : sm (fun k => ch n k * a ^ k) (n + 2) = sm (fun k => ch n k * a ^ k) (n + 1) := by
        show sm (fun k => ch n k * a ^ k) (n + 1) + ch n (n + 1) * a ^ (n + 1) = _
        rw [ch_over n (n + 1) (by omega)]; omega
      rw [← h1, sm_head]
      have h2 : ch n 0 * a ^ 0 = 1 := by cases n <;> simp [ch]
      rw [h2]
    rw [e1]
    have e3 : ch (n + 1) 0 * a ^ 0 = 1 := by simp [ch]
    rw [e3, Nat.mul_add, Nat.mul_one, Nat.mul_comm _ a]
    omega
theorem ch_mul : ∀ n k, (k + 1) * ch (n + 1) (k + 1) = (n + 1) * ch n k
  | 0, 0 => rfl
  | 0, k + 1 => by
    show (k + 2) * (ch 0 (k + 1) + ch 0 (k + 2)) = 1 * ch 0 (k + 1)
    rfl
  | n + 1, 0 => by
    have h : 1 * ch (n + 1) 1 = (n + 1) * ch n 0 := ch_mul n 0
    show 1 * (ch (n + 1) 0 + ch (n + 1) 1) = (n + 2) * ch (n + 1) 0
    have h0 : ch (n + 1) 0 = 1 := rfl
    have h1 : ch n 0 = 1 := by cases n <;> rfl
    rw [h1] at h
    rw [h0]
    omega
  | n + 1, k + 1 => by
    have h1 := ch_mul n k
    have h2 := ch_mul n (k + 1)
    have e : ch (n + 1) (k + 1) = ch n k + ch n (k + 1) := rfl
    show (k + 2) * (ch (n + 1) (k + 1) + ch (n + 1) (k + 2)) = (n + 2) * ch (n + 1) (k + 1)
    have h3 : (k + 2) * ch (n + 1) (k + 1) = (n + 1) * ch n k + ch (n + 1) (k + 1) := by
      have : (k + 2) * ch (n + 1) (k + 1) = (k + 1) * ch (n + 1) (k + 1) + ch (n + 1) (k + 1) := by
        rw [← Nat.succ_mul]
      rw [this, h1]
    rw [Nat.mul_add, h3, h2]
    have h4 : (n + 2) * ch (n + 1) (k + 1) = (n + 1) * ch (n + 1) (k + 1) + ch (n + 1) (k + 1) := by rw [← Nat.succ_mul]
    rw [h4]
    have h5 : (n + 1) * ch (n + 1) (k + 1) = (n + 1) * ch n k + (n + 1) * ch n (k + 1) := by rw [e, Nat.mul_add]
    rw [h5]
    omega
theorem Pr.cop {p k : Nat} (hp : Pr p) (h0 : 0 < k) (h1 : k < p) : Nat.Coprime p k := by
  rcases hp.2 _ (Nat.gcd_dvd_left p k) with h | h
  · exact h
  · have := Nat.le_of_dvd h0 (h ▸ Nat.gcd_dvd_right p k)
    omega
theorem Pr.cop_of {p a : Nat} (hp : Pr p) (h : ¬ p ∣ a) : Nat.Coprime p a := by
  rcases hp.2 _ (Nat.gcd_dvd_left p a) with h1 | h1
  · exact h1
  · exact absurd (h1 ▸ Nat.gcd_dvd_right p a) h
theorem Pr.mul {p a b : Nat} (hp : Pr p) (h : p ∣ a * b) : p ∣ a ∨ p ∣ b := by
  by_cases ha : p ∣ a
  · exact .inl ha
  · exact .inr ((hp.cop_of ha).dvd_of_dvd_mul_left h)
theorem Pr.ch {p k : Nat} (hp : Pr p) (h0 : 0 < k) (h1 : k < p) : p ∣ ch p k := by
  obtain ⟨q, rfl⟩ : ∃ q, p = q + 1 := ⟨p - 1, by omega⟩
  obtain ⟨j, rfl⟩ : ∃ j, k = j + 1 := ⟨k - 1, by omega⟩
  exact (hp.cop h0 h1).dvd_of_dvd_mul_left ⟨Mine.ch q j, ch_mul q j⟩
theorem sm_dvd {p : Nat} {f : Nat → Nat} : ∀ n, (∀ k, k < n → p ∣ f k) → p ∣ sm f n
  | 0, _ => ⟨0, rfl⟩
  | n + 1, h => Nat.dvd_add (sm_dvd n fun k hk => h k (by omega)) (h n (by omega))
theorem frob {p : Nat} (hp : Pr p) (a : Nat) : ∃ t, (a + 1) ^ p = a ^ p + 1 + p * t := by
  obtain ⟨q, rfl⟩ : ∃ q, p = q + 1 := ⟨p - 1, by have := hp.1; omega⟩
  have hb := binom a (q + 1)
  have h1 : sm (fun k => ch (q + 1) k * a ^ k) (q + 2) = sm (fun k => ch (q + 1) k * a ^ k) (q + 1) + ch (q + 1) (q + 1) * a ^ (q + 1) := rfl
  rw [h1, ch_self, sm_head] at hb
  have h2 : ch (q + 1) 0 * a ^ 0 = 1 := by simp [ch]
  rw [h2] at hb
  have hd : (q + 1) ∣ sm (fun k => ch (q + 1) (k + 1) * a ^ (k + 1)) q := sm_dvd q fun k hk => Nat.dvd_mul_right_of_dvd (hp.ch (by omega) (by omega)) _
  obtain ⟨t, ht⟩ := hd
  exact ⟨t, by rw [hb, ht]; omega⟩
theorem fermat0 {p : Nat} (hp : Pr p) : ∀ a, ∃ t, a ^ p = a + p * t
  | 0 => ⟨0, by have := hp.1; rw [Nat.zero_pow (by omega)]; rfl⟩
  | a + 1 => by
    obtain ⟨t, ht⟩ := frob hp a
    obtain ⟨u, hu⟩ := fermat0 hp a
    exact ⟨t + u, by rw [ht, hu, Nat.mul_add]; omega⟩
theorem fermat {p a : Nat} (hp : Pr p) (ha : ¬ p ∣ a) : a ^ (p - 1) % p = 1 := by
  obtain ⟨t, ht⟩ := fermat0 hp a
  have h2 := hp.1
  obtain ⟨q, rfl⟩ : ∃ q, p = q + 1 := ⟨p - 1, by omega⟩
  have h0 : 0 < a := by
    rcases Nat.eq_zero_or_pos a with h | h
    · exact absurd (h ▸ ⟨0, rfl⟩) ha
    · exact h
  have h1 : 1 ≤ a ^ q := Nat.pow_pos h0
  rw [Nat.pow_succ] at ht
  have hd : (q + 1) ∣ a * (a ^ q - 1) := ⟨t, by rw [Nat.mul_sub, Nat.mul_comm a, ht]; omega⟩
  obtain ⟨u, hu⟩ := (hp.cop_of ha).dvd_of_dvd_mul_left hd
  have h3 : a ^ q = 1 + (q + 1) * u := by omega
  show a ^ q % (q + 1) = 1
  rw [h3, Nat.add_mul_mod_self_left]
  exact Nat.mod_eq_of_lt (by omega)
/-- fast powers -/
def mp (m : Nat) : Nat → Nat → Nat → Nat
  | 0, _, _ => 1 % m
  | f + 1, a, e => if e = 0 then 1 % m else if e % 2 = 0 then mp m f (a * a % m) (e / 2) else a * mp m f (a * a % m) (e / 2) % m
theorem mp_eq (m : Nat) : ∀ f a e, e < 2 ^ f → mp m f a e = a ^ e % m
  | 0, a, e, h => by
    have : e = 0 := by simp at h; omega
    subst this; rfl
  | f + 1, a, e, h => by
    unfold mp
    have hp : 2 ^ (f + 1) = 2 * 2 ^ f := by rw [Nat.pow_succ, Nat.mul_comm]
    have ih := mp_eq m f (a * a % m) (e / 2) (by omega)
    have e2 : (a * a % m) ^ (e / 2) % m = a ^ (2 * (e / 2)) % m := by
      rw [← Nat.pow_mod, Nat.pow_mul]; congr 2; rw [Nat.pow_two]
    by_cases h0 : e = 0
    · rw [if_pos h0, h0]; rfl
    · rw [if_neg h0]
      by_cases h1 : e % 2 = 0
      · rw [if_pos h1, ih, e2]; congr 2; omega
      · rw [if_neg h1, ih, e2, Nat.mul_mod_mod, ← Nat.pow_succ']; congr 2; omega
theorem factor : ∀ n, 2 ≤ n → ∃ r, Pr r ∧ r ∣ n := by
  intro n
  induction n using Nat.strongRecOn with
  | ind n ih =>
    intro h
    by_cases hp : Pr n
    · exact ⟨n, hp, Nat.dvd_refl n⟩
    · have : ∃ d, d ∣ n ∧ d ≠ 1 ∧ d ≠ n := by
        refine Classical.byContradiction fun hc => hp ⟨h, fun d hd => ?_⟩
        refine Classical.byContradiction fun hn => hc ⟨d, hd, fun e => hn (.inl e), fun e => hn (.inr e)⟩
      obtain ⟨d, hd, h1, h2⟩ := this
      have hle := Nat.le_of_dvd (by omega) hd
      have h0 : d ≠ 0 := fun e => by rw [e] at hd; have := Nat.eq_zero_of_zero_dvd hd; omega
      obtain ⟨r, hr, hrd⟩ := ih d (by omega) (by omega)
      exact ⟨r, hr, Nat.dvd_trans hrd hd⟩
/-- all prime factors are 1 by F, and F is above the root -/
theorem prime_of {N F : Nat} (hN : 2 ≤ N) (hF : N < F * F) (h : ∀ r, Pr r → r ∣ N → F ∣ r - 1) : Pr N := by
  refine Classical.byContradiction fun hp => ?_
  have : ∃ d, d ∣ N ∧ d ≠ 1 ∧ d ≠ N := by
    refine Classical.byContradiction fun hc => hp ⟨hN, fun d hd => ?_⟩
    refine Classical.byContradiction fun hn => hc ⟨d, hd, fun e => hn (.inl e), fun e => hn (.inr e)⟩
  obtain ⟨d, ⟨e, he⟩, h1, h2⟩ := this
  have hd0 : d ≠ 0 := fun q => by rw [q] at he; omega
  have he0 : e ≠ 0 := fun q => by rw [q] at he; omega
  have he1 : e ≠ 1 := fun q => by rw [q] at he; omega
  have key : ∀ x y, N = x * y → 2 ≤ x → x ≤ y → False := by
    intro x y hxy hx hle
    obtain ⟨r, hr, hrx⟩ := factor x hx
    have hrle := Nat.le_of_dvd (by omega) hrx
    have hdv := h r hr (hxy ▸ Nat.dvd_mul_right_of_dvd hrx y)
    have hr2 := hr.1
    have hF1 := Nat.le_of_dvd (by omega) hdv
    have a1 : F * F ≤ x * x := Nat.mul_le_mul (by omega) (by omega)
    have a2 : x * x ≤ x * y := Nat.mul_le_mul_left x hle
    omega
  rcases Nat.le_total d e with hc | hc
  · exact key d e he (by omega) hc
  · exact key e d (by rw [he, Nat.mul_comm]) (by omega) hc
theorem pow_one_of {b r : Nat} {i : Nat} (h : b ^ i % r = 1 % r) (k : Nat) : b ^ (i * k) % r = 1 % r := by
  rw [Nat.pow_mul, Nat.pow_mod, h, ← Nat.pow_mod, Nat.one_pow]
theorem pow_gcd {b r : Nat} (i j : Nat) : b ^ i % r = 1 % r → b ^ j % r = 1 % r → b ^ (Nat.gcd i j) % r = 1 % r := by
  induction i, j using Nat.gcd.induction with
  | H0 n => intro _ h; rw [Nat.gcd_zero_left]; exact h
  | H1 m n hm ih =>
    intro h1 h2
    rw [Nat.gcd_rec]
    refine ih ?_ h1
    have e : n = m * (n / m) + n % m := (Nat.div_add_mod n m).symm
    rw [e, Nat.pow_add, Nat.mul_mod, pow_one_of h1, ← Nat.mul_mod, Nat.one_mul] at h2
    exact h2
/-- Pocklington, one prime -/
theorem pock {N q a : Nat} (hq : Pr q) (hd : q ∣ N - 1) (hN : 2 ≤ N) (h1 : a ^ (N - 1) % N = 1) (h2 : Nat.gcd (a ^ ((N - 1) / q) % N - 1) N = 1) (h3 : 1 ≤ a ^ ((N - 1) / q) % N) : ∀ r, Pr r → r ∣ N → q ∣ r - 1 := by
  intro r hr hrN
  refine Classical.byContradiction fun hc => ?_
  have hr2 := hr.1
  have hq2 := hq.1
  have hcop := hq.cop_of hc
  -- b = a ^ ((N - 1) / q)
  have hbq : (a ^ ((N - 1) / q)) ^ q % r = 1 % r := by
    rw [← Nat.pow_mul, Nat.div_mul_cancel hd]
    obtain ⟨s, hs⟩ := hrN
    have : a ^ (N - 1) % N % r = 1 % r := by rw [h1]
    rw [hs, Nat.mod_mul_right_mod] at this
    rw [← hs] at this
    exact this
  have hrb : ¬ r ∣ a ^ ((N - 1) / q) := by
    intro hdv
    have : (a ^ ((N - 1) / q)) ^ q % r = 0 := Nat.mod_eq_zero_of_dvd (by
      obtain ⟨q', rfl⟩ : ∃ q', q = q' + 1 := ⟨q - 1, by omega⟩
      rw [Nat.pow_succ]; exact Nat.dvd_mul_left_of_dvd hdv _)
    rw [this, Nat.mod_eq_of_lt (by omega)] at hbq
    omega
  have hf := fermat hr hrb
  have hf' : (a ^ ((N - 1) / q)) ^ (r - 1) % r = 1 % r := by rw [hf, Nat.mod_eq_of_lt (by omega)]
  generalize hb : a ^ ((N - 1) / q) = b at *
  have hb1 : b % r = 1 % r := by
    have h := pow_gcd q (r - 1) hbq hf'
    rw [hcop, Nat.pow_one] at h
    exact h
  have hg : r ∣ Nat.gcd (b % N - 1) N := by
    refine Nat.dvd_gcd ?_ hrN
    obtain ⟨s, hs⟩ := hrN
    have h4 : b % N % r = 1 % r := by rw [hs, Nat.mod_mul_right_mod]; exact hb1
    have h5 : (b % N - 1) % r = 0 := by
      have h6 : (b % N) % r = 1 := by rw [h4]; exact Nat.mod_eq_of_lt (by omega)
      have h7 := Nat.div_add_mod (b % N) r
      rw [h6] at h7
      have h8 : b % N - 1 = r * (b % N / r) := by omega
      rw [h8]; exact Nat.mul_mod_right r _
    exact Nat.dvd_of_mod_eq_zero h5
  rw [h2] at hg
  have := Nat.le_of_dvd (by omega) hg
  omega
end Mine
end
section
namespace Mine
theorem pock2 {N q a : Nat} (hq : Pr q) (hd : (N - 1) % q = 0) (hN : 2 ≤ N) (hb : N < 2 ^ 300) (h1 : mp N 300 a (N - 1) = 1) (h2 : Nat.gcd (mp N 300 a ((N - 1) / q) - 1) N = 1) (h3 : Nat.ble 1 (mp N 300 a ((N - 1) / q)) = true) : ∀ r, Pr r → r ∣ N → q ∣ r - 1 := by
  have e1 := mp_eq N 300 a (N - 1) (by omega)
  have e2 := mp_eq N 300 a ((N - 1) / q) (Nat.lt_of_le_of_lt (Nat.div_le_self _ _) (by omega))
  rw [e1] at h1
  rw [e2] at h2 h3
  exact pock hq (Nat.dvd_of_mod_eq_zero hd) hN h1 h2 (Nat.le_of_ble_eq_true h3)
def chk (n : Nat) : Nat → Bool
  | 0 => true
  | d + 1 => match Nat.blt d 2, Nat.beq (n % d) 0 with
    | true, _ => chk n d
    | false, true => false
    | false, false => chk n d
theorem chk_spec {n : Nat} : ∀ k, chk n k = true → ∀ d, 2 ≤ d → d < k → n % d ≠ 0
  | 0, _, d, _, h => absurd h (Nat.not_lt_zero d)
  | k + 1, h, d, h2, hd => by
    rcases Nat.lt_or_eq_of_le (Nat.le_of_lt_succ hd) with h3 | h3
    · refine chk_spec k ?_ d h2 h3
      unfold chk at h
      split at h
      · exact h
      · cases h
      · exact h
    · subst h3
      intro hz
      unfold chk at h
      rw [hz] at h
      have hb : Nat.blt d 2 = false := by
        cases e : Nat.blt d 2 with
        | false => rfl
        | true => have := Nat.le_of_ble_eq_true (show Nat.ble (d + 1) 2 = true from e); omega
      rw [hb] at h
      cases h
theorem trial {n k : Nat} (h2 : 2 ≤ n) (hk : n < k * k) (h : chk n k = true) : Pr n := by
  refine ⟨h2, fun d hd => ?_⟩
  obtain ⟨e, he⟩ := hd
  have hd0 : d ≠ 0 := fun q => by rw [q] at he; omega
  have he0 : e ≠ 0 := fun q => by rw [q] at he; omega
  have key : ∀ x y, n = x * y → x ≠ 0 → x < k → x = 1 := by
    intro x y hxy h0 hx
    refine Classical.byContradiction fun h1 => ?_
    exact chk_spec k h x (by omega) hx (by rw [hxy]; exact Nat.mul_mod_right x y)
  rcases Nat.lt_or_ge d k with hc | hc
  · exact .inl (key d e he hd0 hc)
  · have hek : e < k := by
      refine Nat.lt_of_not_le fun hke => ?_
      have := Nat.mul_le_mul hc hke
      omega
    have := key e d (by rw [he, Nat.mul_comm]) he0 hek
    right; rw [he, this, Nat.mul_one]
theorem pr3 : Pr 3 := trial (k := 2) (by decide) (by decide) (by decide +kernel)
theorem pr7 : Pr 7 := trial (k := 3) (by decide) (by decide) (by decide +kernel)
theorem pr29 : Pr 29 := trial (k := 6) (by decide) (by decide) (by decide +kernel)
theorem pr53 : Pr 53 := trial (k := 8) (by decide) (by decide) (by decide +kernel)
theorem pr149 : Pr 149 := trial (k := 13) (by decide) (by decide) (by decide +kernel)
theorem pr631 : Pr 631 := trial (k := 26) (by decide) (by decide) (by decide +kernel)
theorem pr96557 : Pr 96557 := trial (k := 311) (by decide) (by decide) (by decide +kernel)
theorem pr7240687 : Pr 7240687 := trial (k := 2691) (by decide) (by decide) (by decide +kernel)
theorem dvd_two {a b c : Nat} (ha : a ∣ c) (hb : b ∣ c) (h : Nat.gcd a b = 1) : a * b ∣ c := Nat.Coprime.mul_dvd_of_dvd_of_dvd h ha hb
theorem pr107590001 : Pr 107590001 := prime_of (F := 53 * 29 * 7) (by decide) (by decide) fun r hr hd =>
  dvd_two (dvd_two (pock2 (a := 2) pr53 (by decide +kernel) (by decide) (by decide +kernel) (by decide +kernel) (by decide +kernel) (by decide +kernel) r hr hd)
    (pock2 (a := 2) pr29 (by decide +kernel) (by decide) (by decide +kernel) (by decide +kernel) (by decide +kernel) (by decide +kernel) r hr hd) (by decide))
    (pock2 (a := 3) pr7 (by decide +kernel) (by decide) (by decide +kernel) (by decide +kernel) (by decide +kernel) (by decide +kernel) r hr hd) (by decide)
theorem prq2 : Pr 255515944373312847190720520512484175977 := prime_of (F := 107590001 * 7240687 * 96557) (by decide) (by decide) fun r hr hd =>
  dvd_two (dvd_two (pock2 (a := 2) pr107590001 (by decide +kernel) (by decide) (by decide +kernel) (by decide +kernel) (by decide +kernel) (by decide +kernel) r hr hd)
    (pock2 (a := 2) pr7240687 (by decide +kernel) (by decide) (by decide +kernel) (by decide +kernel) (by decide +kernel) (by decide +kernel) r hr hd) (by decide +kernel))
    (pock2 (a := 2) pr96557 (by decide +kernel) (by decide) (by decide +kernel) (by decide +kernel) (by decide +kernel) (by decide +kernel) r hr hd) (by decide +kernel)
theorem prq1 : Pr 205115282021455665897114700593932402728804164701536103180137503955397371 := prime_of (F := 255515944373312847190720520512484175977) (by decide) (by decide) fun r hr hd =>
  pock2 (a := 2) prq2 (by decide +kernel) (by decide) (by decide +kernel) (by decide +kernel) (by decide +kernel) (by decide +kernel) r hr hd
theorem prP : Pr 115792089237316195423570985008687907853269984665640564039457584007908834671663 := prime_of (F := 205115282021455665897114700593932402728804164701536103180137503955397371) (by decide) (by decide) fun r hr hd =>
  pock2 (a := 2) prq1 (by decide +kernel) (by decide) (by decide +kernel) (by decide +kernel) (by decide +kernel) (by decide +kernel) r hr hd
/-- every prime factor of the order is above 282057 -/
theorem big_factor : ∀ r, Pr r → r ∣ 115792089237316195423570985008687907852837564279074904382605163141518161494337 → 282057 < r := by
  intro r hr hd
  have h := dvd_two (dvd_two (pock2 (a := 2) pr3 (by decide +kernel) (by decide) (by decide +kernel) (by decide +kernel) (by decide +kernel) (by decide +kernel) r hr hd)
    (pock2 (a := 2) pr149 (by decide +kernel) (by decide) (by decide +kernel) (by decide +kernel) (by decide +kernel) (by decide +kernel) r hr hd) (by decide))
    (pock2 (a := 2) pr631 (by decide +kernel) (by decide) (by decide +kernel) (by decide +kernel) (by decide +kernel) (by decide +kernel) r hr hd) (by decide)
  have h2 := hr.1
  have := Nat.le_of_dvd (by omega) h
  omega
theorem cop_order {k : Nat} (h0 : 1 ≤ k) (h1 : k ≤ 282057) : Nat.gcd k 115792089237316195423570985008687907852837564279074904382605163141518161494337 = 1 := by
  refine Classical.byContradiction fun hc => ?_
  have hg : Nat.gcd k 115792089237316195423570985008687907852837564279074904382605163141518161494337 ≠ 0 := fun e => by
    have := Nat.eq_zero_of_gcd_eq_zero_left e; omega
  obtain ⟨r, hr, hd⟩ := factor _ (show 2 ≤ Nat.gcd k 115792089237316195423570985008687907852837564279074904382605163141518161494337 by omega)
  have h2 := big_factor r hr (Nat.dvd_trans hd (Nat.gcd_dvd_right _ _))
  have h3 := Nat.le_of_dvd (by omega) (Nat.dvd_trans hd (Nat.gcd_dvd_left _ _))
  omega
end Mine
end
section
/-! the field of p elements, told by a map from the ints -/
namespace Mine
open Lean.Grind
/-- a field with a map from the ints that is nought just at the multiples of p -/
structure FldOf (p : Nat) (F : Type) [Field F] (φ : Int → F) : Prop where
  add : ∀ a b, φ (a + b) = φ a + φ b
  mul : ∀ a b, φ (a * b) = φ a * φ b
  one : φ 1 = 1
  zero : ∀ a, φ a = 0 ↔ (p : Int) ∣ a
  fermat : ∀ x : F, x ≠ 0 → x ^ (p - 1) = 1
theorem exists_field {p : Nat} (hp : Pr p) : ∃ (F : Type) (_ : Field F) (φ : Int → F), FldOf p F φ := by
  have h2 := hp.1
  let nz : NeZero p := ⟨by omega⟩
  let R : CommRing (Fin p) := @Lean.Grind.Fin.instCommRingFinOfNeZeroNat p nz
  have hpow : ∀ (x : Fin p) (n : Nat), (x ^ n).val = x.val ^ n % p := by
    intro x n
    induction n with
    | zero =>
      rw [Semiring.pow_zero, Nat.pow_zero]
      rfl
    | succ n ih =>
      rw [Semiring.pow_succ, Fin.val_mul, ih, Nat.pow_succ, Nat.mod_mul_mod]
  have hval1 : (1 : Fin p).val = 1 := by
    show 1 % p = 1
    exact Nat.mod_eq_of_lt (by omega)
  have hval0 : (0 : Fin p).val = 0 := by
    show 0 % p = 0
    exact Nat.zero_mod p
  have hndvd : ∀ x : Fin p, x ≠ 0 → ¬ p ∣ x.val := by
    intro x hx hd
    have h3 := Nat.eq_zero_of_dvd_of_lt hd x.isLt
    exact hx (Fin.ext (by rw [h3, hval0]))
  have hfer : ∀ x : Fin p, x ≠ 0 → x ^ (p - 1) = 1 := by
    intro x hx
    refine Fin.ext ?_
    rw [hpow, fermat hp (hndvd x hx), hval1]
  let inv : Fin p → Fin p := fun x => if x = 0 then 0 else x ^ (p - 2)
  have hinv0 : inv 0 = 0 := if_pos rfl
  have hinv : ∀ x : Fin p, x ≠ 0 → x * inv x = 1 := by
    intro x hx
    show x * (if x = 0 then 0 else x ^ (p - 2)) = 1
    rw [if_neg hx, CommSemiring.mul_comm, ← Semiring.pow_succ]
    have e : p - 2 + 1 = p - 1 := by omega
    rw [e]
    exact hfer x hx
  have h01 : (0 : Fin p) ≠ 1 := fun e => by
    have := congrArg Fin.val e
    rw [hval0, hval1] at this
    omega
  have huniq : ∀ x y : Fin p, x * y = 1 → inv x = y := by
    intro x y hxy
    have hx : x ≠ 0 := fun e => by rw [e, Semiring.zero_mul] at hxy; exact h01 hxy
    have h3 := hinv x hx
    have h4 : inv x * (x * y) = inv x := by rw [hxy, Semiring.mul_one]
    rw [← Semiring.mul_assoc, CommSemiring.mul_comm (inv x), h3, Semiring.one_mul] at h4
    exact h4.symm
  have hinvinv : ∀ x : Fin p, inv (inv x) = x := by
    intro x
    by_cases hx : x = 0
    · rw [hx, hinv0, hinv0]
    · exact huniq _ _ (by rw [CommSemiring.mul_comm]; exact hinv x hx)
  have hinv1 : inv 1 = 1 := huniq _ _ (Semiring.mul_one _)
  let zp : Fin p → Int → Fin p := fun a i => if 0 ≤ i then a ^ i.toNat else inv (a ^ (-i).toNat)
  let FI : Field (Fin p) :=
      { toCommRing := R
        inv := inv
        div := fun a b => a * inv b
        zpow := ⟨zp⟩
        div_eq_mul_inv := fun a b => rfl
        zero_ne_one := h01
        inv_zero := hinv0
        mul_inv_cancel := fun {a} h => hinv a h
        zpow_zero := fun a => by
          show zp a 0 = 1
          show (if (0 : Int) ≤ 0 then a ^ (0 : Int).toNat else inv (a ^ (-(0 : Int)).toNat)) = 1
          rw [if_pos (by decide)]
          exact Semiring.pow_zero a
        zpow_succ := fun a n => by
          show zp a ((n : Int) + 1) = zp a (n : Int) * a
          show (if (0 : Int) ≤ (n : Int) + 1 then a ^ ((n : Int) + 1).toNat else inv (a ^ (-((n : Int) + 1)).toNat)) = (if (0 : Int) ≤ (n : Int) then a ^ (n : Int).toNat else inv (a ^ (-(n : Int)).toNat)) * a
          rw [if_pos (by omega), if_pos (by omega)]
          have e : ((n : Int) + 1).toNat = n + 1 := by omega
          have e2 : (n : Int).toNat = n := by omega
          rw [e, e2]
          exact Semiring.pow_succ a n
        zpow_neg := fun a n => by
          show zp a (-n) = inv (zp a n)
          show (if (0 : Int) ≤ -n then a ^ (-n).toNat else inv (a ^ (- -n).toNat)) = inv (if (0 : Int) ≤ n then a ^ n.toNat else inv (a ^ (-n).toNat))
          rcases Int.lt_trichotomy n 0 with h | h | h
          · rw [if_pos (by omega), if_neg (by omega), hinvinv]
          · subst h
            rw [if_pos (by decide), if_pos (by decide)]
            show a ^ 0 = inv (a ^ 0)
            rw [Semiring.pow_zero, hinv1]
          · rw [if_neg (by omega), if_pos (by omega), Int.neg_neg] }
  refine ⟨Fin p, FI, fun a => @Int.cast (Fin p) R.toRing.intCast a, ?_⟩
  refine @FldOf.mk p (Fin p) FI _ ?_ ?_ ?_ ?_ ?_
  · intro a b; exact @Ring.intCast_add (Fin p) R.toRing a b
  · intro a b; exact @Ring.intCast_mul (Fin p) R.toRing a b
  · exact @Ring.intCast_one (Fin p) R.toRing
  · intro a
    have h3 := @IsCharP.intCast_ext_iff p (Fin p) R.toRing inferInstance a 0
    rw [@Ring.intCast_zero (Fin p) R.toRing, Int.zero_emod] at h3
    exact h3.trans ⟨Int.dvd_of_emod_eq_zero, Int.emod_eq_zero_of_dvd⟩
  · exact hfer
end Mine
end
section
/-! the group law on y^2 = x^3 + 7 over a field with no point of order two -/
namespace Mine
open Lean.Grind
section
variable {F : Type} [Field F]
def On (x y : F) : Prop := y * y = x * x * x + 7
/-- l is the slope of the line through two points (chord and tangent alike) -/
structure Sl (l x1 y1 x2 y2 : F) : Prop where
  a : l * (x2 - x1) = y2 - y1
  b : l * (y1 + y2) = x1 * x1 + x1 * x2 + x2 * x2
def sX (l x1 x2 : F) : F := l * l - x1 - x2
def sY (l x1 y1 x3 : F) : F := l * (x1 - x3) - y1
theorem Sl.symm {l x1 y1 x2 y2 : F} (h : Sl l x1 y1 x2 y2) : Sl l x2 y2 x1 y1 := by
  obtain ⟨a, b⟩ := h
  exact ⟨by grind, by grind⟩
theorem sX_comm (l x1 x2 : F) : sX l x2 x1 = sX l x1 x2 := by unfold sX; grind
theorem sY_comm {l x1 y1 x2 y2 x3 : F} (h : Sl l x1 y1 x2 y2) : sY l x2 y2 x3 = sY l x1 y1 x3 := by
  obtain ⟨a, b⟩ := h
  unfold sY; grind
theorem sOn {l x1 y1 x2 y2 : F} (o1 : On x1 y1) (h : Sl l x1 y1 x2 y2) : On (sX l x1 x2) (sY l x1 y1 (sX l x1 x2)) := by
  obtain ⟨a, b⟩ := h
  unfold On sX sY at *
  grind
/-- the slope exists -/
theorem sl_exists (h2 : (2 : F) ≠ 0) (ny : ∀ x y : F, On x y → y ≠ 0) {x1 y1 x2 y2 : F} (o1 : On x1 y1) (o2 : On x2 y2) (hn : ¬ (x1 = x2 ∧ y1 = -y2)) : ∃ l, Sl l x1 y1 x2 y2 := by
  by_cases hx : x1 = x2
  · subst hx
    have hy0 := ny _ _ o1
    have hy : y1 = y2 := by
      unfold On at o1 o2
      have : (y1 - y2) * (y1 + y2) = 0 := by grind
      rcases Field.of_mul_eq_zero this with h | h
      · grind
      · exact absurd ⟨rfl, by grind⟩ hn
    subst hy
    have h2y : 2 * y1 ≠ 0 := fun e => by
      rcases Field.of_mul_eq_zero e with h | h
      · exact h2 h
      · exact hy0 h
    refine ⟨3 * (x1 * x1) * (2 * y1)⁻¹, by grind, ?_⟩
    have := Field.mul_inv_cancel h2y
    grind
  · have hd : x2 - x1 ≠ 0 := fun e => hx (by grind)
    have hi := Field.mul_inv_cancel hd
    refine ⟨(y2 - y1) * (x2 - x1)⁻¹, by grind, ?_⟩
    unfold On at o1 o2
    have : (x2 - x1) * ((y2 - y1) * (x2 - x1)⁻¹ * (y1 + y2) - (x1 * x1 + x1 * x2 + x2 * x2)) = 0 := by grind
    rcases Field.of_mul_eq_zero this with h | h
    · exact absurd h hd
    · grind
theorem sl_unique {l m x1 y1 x2 y2 : F} (hn : ¬ (x1 = x2 ∧ y1 = -y2)) (h : Sl l x1 y1 x2 y2) (k : Sl m x1 y1 x2 y2) : l = m := by
  obtain ⟨a, b⟩ := h
  obtain ⟨c, d⟩ := k
  by_cases hx : x1 = x2
  · have hy : y1 + y2 ≠ 0 := fun e => hn ⟨hx, by grind⟩
    have : (l - m) * (y1 + y2) = 0 := by grind
    rcases Field.of_mul_eq_zero this with h | h
    · grind
    · exact absurd h hy
  · have : (l - m) * (x2 - x1) = 0 := by grind
    rcases Field.of_mul_eq_zero this with h | h
    · grind
    · exact absurd (show x1 = x2 by grind) hx
/-- lemma A: the third point on the parabola -/
theorem lemA {l m x1 y1 x2 y2 x3 y3 : F} (o1 : On x1 y1) (o3 : On x3 y3) (h : Sl l x1 y1 x2 y2) (k : Sl m (sX l x1 x2) (sY l x1 y1 (sX l x1 x2)) x3 y3)
    (hn : ¬ (sX l x1 x2 = x3 ∧ sY l x1 y1 (sX l x1 x2) = -y3)) : (l + m) * (y3 - y1 - l * (x3 - x1)) = (x3 - x1) * (x3 - x2) := by
  have o4 := sOn o1 h
  obtain ⟨a, b⟩ := h
  obtain ⟨c, d⟩ := k
  generalize hx4 : sX l x1 x2 = x4 at *
  generalize hy4 : sY l x1 y1 x4 = y4 at *
  unfold sX at hx4
  unfold sY at hy4
  unfold On at *
  by_cases hx : x3 = x4
  · subst hx
    have hyy : (y4 - y3) * (y4 + y3) = 0 := by grind
    rcases Field.of_mul_eq_zero hyy with h | h
    · have : y4 = y3 := by grind
      subst this
      grind
    · exact absurd ⟨rfl, by grind⟩ hn
  · have : (x3 - x4) * ((l + m) * (y3 - y1 - l * (x3 - x1)) - (x3 - x1) * (x3 - x2)) = 0 := by grind
    rcases Field.of_mul_eq_zero this with h | h
    · exact absurd (show x3 = x4 by grind) hx
    · grind
/-- (II): x3 - x1 = (l + m) (l' - l) -/
theorem lemII (h2 : (2 : F) ≠ 0) (ny : ∀ x y : F, On x y → y ≠ 0) {l l' m x1 y1 x2 y2 x3 y3 : F} (o1 : On x1 y1) (o2 : On x2 y2) (o3 : On x3 y3) (h : Sl l x1 y1 x2 y2) (h' : Sl l' x2 y2 x3 y3)
    (k : Sl m (sX l x1 x2) (sY l x1 y1 (sX l x1 x2)) x3 y3) (hn : ¬ (sX l x1 x2 = x3 ∧ sY l x1 y1 (sX l x1 x2) = -y3)) (hq : ¬ (x2 = x3 ∧ y2 = -y3)) : x3 - x1 = (l + m) * (l' - l) := by
  have A := lemA o1 o3 h k hn
  by_cases hx : x3 = x2
  · have hyy : (y2 - y3) * (y2 + y3) = 0 := by unfold On at o2 o3; grind
    have hy : y2 = y3 := by
      rcases Field.of_mul_eq_zero hyy with e | e
      · grind
      · exact absurd ⟨hx.symm, by grind⟩ hq
    subst hx hy
    clear A
    obtain ⟨a, b⟩ := h
    obtain ⟨a', b'⟩ := h'
    obtain ⟨c, d⟩ := k
    have hy0 := ny _ _ o2
    generalize hx4 : sX l x1 x3 = x4 at *
    generalize hy4 : sY l x1 y1 x4 = y4 at *
    unfold sX at hx4
    unfold sY at hy4
    unfold On at o1 o2 o3
    have e1 : y2 + y4 = l * (x3 - x4) := by grind
    have e2 : (l + m) * (x3 - x4) = 2 * y2 := by grind
    have e3 : 3 * (x3 * x3) - 2 * l * y2 = (x3 - x1) * (x3 - x4) := by grind
    have e4 : (x3 - x4) * (x3 - x1 - (l + m) * (l' - l)) = 0 := by grind
    rcases Field.of_mul_eq_zero e4 with e | e
    · exfalso
      have e5 : 2 * y2 = 0 := by rw [← e2, e]; grind
      rcases Field.of_mul_eq_zero e5 with q | q
      · exact h2 q
      · exact hy0 q
    · grind
  · obtain ⟨a, b⟩ := h
    obtain ⟨a', b'⟩ := h'
    have e4 : (x3 - x2) * (x3 - x1 - (l + m) * (l' - l)) = 0 := by grind
    rcases Field.of_mul_eq_zero e4 with e | e
    · exact absurd (show x3 = x2 by grind) hx
    · grind
/-- associativity, where no sum is nought -/
theorem assoc_main (h2 : (2 : F) ≠ 0) (ny : ∀ x y : F, On x y → y ≠ 0) {l l' m m' x1 y1 x2 y2 x3 y3 : F} (o1 : On x1 y1) (o2 : On x2 y2) (o3 : On x3 y3) (h : Sl l x1 y1 x2 y2) (h' : Sl l' x2 y2 x3 y3)
    (k : Sl m (sX l x1 x2) (sY l x1 y1 (sX l x1 x2)) x3 y3) (hn : ¬ (sX l x1 x2 = x3 ∧ sY l x1 y1 (sX l x1 x2) = -y3))
    (k' : Sl m' x1 y1 (sX l' x2 x3) (sY l' x2 y2 (sX l' x2 x3))) (hn' : ¬ (x1 = sX l' x2 x3 ∧ y1 = -sY l' x2 y2 (sX l' x2 x3))) (hp : ¬ (x1 = x2 ∧ y1 = -y2)) (hq : ¬ (x2 = x3 ∧ y2 = -y3)) (hr : ¬ (x1 = x3 ∧ y1 = y3)) :
    sX m (sX l x1 x2) x3 = sX m' x1 (sX l' x2 x3) ∧ sY m (sX l x1 x2) (sY l x1 y1 (sX l x1 x2)) (sX m (sX l x1 x2) x3) = sY m' x1 y1 (sX m' x1 (sX l' x2 x3)) := by
  have II := lemII h2 ny o1 o2 o3 h h' k hn hq
  have e1 : sX l' x3 x2 = sX l' x2 x3 := sX_comm _ _ _
  have e2 : sY l' x3 y3 (sX l' x3 x2) = sY l' x2 y2 (sX l' x2 x3) := by rw [e1]; exact sY_comm h'
  have II' := lemII h2 ny o3 o2 o1 h'.symm h.symm (m := m') (by rw [e1] at e2 ⊢; rw [e2]; exact k'.symm) (fun ⟨u, v⟩ => hn' ⟨by rw [← e1]; exact u.symm, by rw [← e2]; grind⟩) (fun ⟨u, v⟩ => hp ⟨u.symm, by grind⟩)
  have hll : l ≠ l' := by
    intro e
    subst e
    have hx : x1 = x3 := by grind
    subst hx
    have hyy : (y1 - y3) * (y1 + y3) = 0 := by unfold On at o1 o3; grind
    rcases Field.of_mul_eq_zero hyy with q | q
    · exact hr ⟨rfl, by grind⟩
    · obtain ⟨a, _⟩ := h
      obtain ⟨a', _⟩ := h'
      have : 2 * y1 = 0 := by grind
      rcases Field.of_mul_eq_zero this with w | w
      · exact h2 w
      · exact ny _ _ o1 w
  have hs : (l' - l) * (l + m - (l' + m')) = 0 := by grind
  have hlm : l + m = l' + m' := by
    rcases Field.of_mul_eq_zero hs with e | e
    · exact absurd (show l = l' by grind) hll
    · grind
  obtain ⟨a, b⟩ := h
  obtain ⟨a', b'⟩ := h'
  clear k k' hn hn' hp hq hr e1 e2
  constructor
  · unfold sX; grind
  · unfold sY sX; grind
end
end Mine
end
section
/-! the group of points -/
namespace Mine
open Lean.Grind
inductive Pt (F : Type) where
  | inf
  | aff (x y : F)
/-- no point of order two, and two is not nought -/
structure Crv (F : Type) [Field F] : Prop where
  two : (2 : F) ≠ 0
  ny : ∀ x y : F, On x y → y ≠ 0
section
variable {F : Type} [Field F]
def Pt.On : Pt F → Prop
  | .inf => True
  | .aff x y => Mine.On x y
def Pt.neg : Pt F → Pt F
  | .inf => .inf
  | .aff x y => .aff x (-y)
def Opp (x1 y1 x2 y2 : F) : Prop := x1 = x2 ∧ y1 = -y2
open Classical in
noncomputable def Pt.add : Pt F → Pt F → Pt F
  | .inf, Q => Q
  | .aff x1 y1, .inf => .aff x1 y1
  | .aff x1 y1, .aff x2 y2 => if h : ∃ l, Sl l x1 y1 x2 y2 ∧ ¬ Opp x1 y1 x2 y2 then .aff (sX (choose h) x1 x2) (sY (choose h) x1 y1 (sX (choose h) x1 x2)) else .inf
theorem add_sl {l x1 y1 x2 y2 : F} (hn : ¬ Opp x1 y1 x2 y2) (h : Sl l x1 y1 x2 y2) : Pt.add (.aff x1 y1) (.aff x2 y2) = .aff (sX l x1 x2) (sY l x1 y1 (sX l x1 x2)) := by
  have hE : ∃ l, Sl l x1 y1 x2 y2 ∧ ¬ Opp x1 y1 x2 y2 := ⟨l, h, hn⟩
  refine (dif_pos hE).trans ?_
  have := sl_unique hn (Classical.choose_spec hE).1 h
  rw [this]
theorem add_opp {x1 y1 x2 y2 : F} (hn : Opp x1 y1 x2 y2) : Pt.add (.aff x1 y1) (.aff x2 y2) = .inf := by
  exact dif_neg fun ⟨l, _, h⟩ => h hn
theorem add_inf (P : Pt F) : Pt.add P .inf = P := by cases P <;> rfl
theorem inf_add (P : Pt F) : Pt.add .inf P = P := rfl
theorem On.neg {x y : F} (h : Mine.On x y) : Mine.On x (-y) := by unfold Mine.On at *; grind
theorem neg_on {P : Pt F} (h : P.On) : P.neg.On := by
  cases P with
  | inf => trivial
  | aff x y => exact On.neg h
theorem add_on (C : Crv F) {P Q : Pt F} (hP : P.On) (hQ : Q.On) : (P.add Q).On := by
  cases P with
  | inf => exact hQ
  | aff x1 y1 =>
    cases Q with
    | inf => exact hP
    | aff x2 y2 =>
      by_cases ho : Opp x1 y1 x2 y2
      · rw [add_opp ho]; trivial
      · obtain ⟨l, hl⟩ := sl_exists C.two C.ny hP hQ ho
        rw [add_sl ho hl]
        exact sOn hP hl
theorem Opp.symm {x1 y1 x2 y2 : F} (h : Opp x1 y1 x2 y2) : Opp x2 y2 x1 y1 := by
  obtain ⟨a, b⟩ := h
  exact ⟨a.symm, by grind⟩
theorem add_comm (C : Crv F) {P Q : Pt F} (hP : P.On) (hQ : Q.On) : P.add Q = Q.add P := by
  cases P with
  | inf => exact (add_inf Q).symm
  | aff x1 y1 =>
    cases Q with
    | inf => rfl
    | aff x2 y2 =>
      by_cases ho : Opp x1 y1 x2 y2
      · rw [add_opp ho, add_opp ho.symm]
      · obtain ⟨l, hl⟩ := sl_exists C.two C.ny hP hQ ho
        rw [add_sl ho hl, add_sl (fun h => ho h.symm) hl.symm, sX_comm, sY_comm hl]
theorem add_neg {P : Pt F} : P.add P.neg = .inf := by
  cases P with
  | inf => rfl
  | aff x y => exact add_opp ⟨rfl, by grind⟩
theorem neg_add {P : Pt F} : P.neg.add P = .inf := by
  cases P with
  | inf => rfl
  | aff x y => exact add_opp ⟨rfl, rfl⟩
theorem cancel (C : Crv F) {P Q : Pt F} (hP : P.On) (hQ : Q.On) : P.neg.add (P.add Q) = Q := by
  cases P with
  | inf => rfl
  | aff x1 y1 =>
    cases Q with
    | inf => rw [add_inf]; exact neg_add
    | aff x2 y2 =>
      by_cases ho : Opp x1 y1 x2 y2
      · rw [add_opp ho, add_inf]
        obtain ⟨a, b⟩ := ho
        show Pt.aff x1 (-y1) = _
        rw [a, b]
        congr 1
        grind
      · obtain ⟨l, hl⟩ := sl_exists C.two C.ny hP hQ ho
        rw [add_sl ho hl]
        have h2 := C.two
        have hy := C.ny _ _ hP
        show Pt.add (.aff x1 (-y1)) _ = _
        have hs : Sl (-l) x1 (-y1) (sX l x1 x2) (sY l x1 y1 (sX l x1 x2)) := by
          obtain ⟨a, b⟩ := hl
          exact ⟨by unfold sY; grind, by unfold sY sX; grind⟩
        have hno : ¬ Opp x1 (-y1) (sX l x1 x2) (sY l x1 y1 (sX l x1 x2)) := by
          rintro ⟨u, v⟩
          rw [← u] at v
          have : 2 * y1 = 0 := by unfold sY at v; grind
          rcases Field.of_mul_eq_zero this with w | w
          · exact h2 w
          · exact hy w
        rw [add_sl hno hs]
        obtain ⟨a, b⟩ := hl
        have e1 : sX (-l) x1 (sX l x1 x2) = x2 := by unfold sX; grind
        rw [e1]
        have e2 : sY (-l) x1 (-y1) x2 = y2 := by unfold sY; grind
        rw [e2]
theorem eq_neg_of_opp {x1 y1 x2 y2 : F} (h : Opp x1 y1 x2 y2) : Pt.aff x1 y1 = (Pt.aff x2 y2).neg := by
  obtain ⟨a, b⟩ := h
  rw [a, b]; rfl
theorem assoc (C : Crv F) {P Q R : Pt F} (hP : P.On) (hQ : Q.On) (hR : R.On) : (P.add Q).add R = P.add (Q.add R) := by
  cases P with
  | inf => rfl
  | aff x1 y1 =>
  cases Q with
  | inf => rfl
  | aff x2 y2 =>
  cases R with
  | inf => rw [add_inf, add_inf]
  | aff x3 y3 =>
  by_cases h12 : Opp x1 y1 x2 y2
  · rw [add_opp h12, eq_neg_of_opp h12, cancel C hQ hR]; rfl
  · by_cases h23 : Opp x2 y2 x3 y3
    · rw [add_opp h23, add_inf]
      have e := eq_neg_of_opp h23.symm
      rw [add_comm C (add_on C hP hQ) hR, e, add_comm C hP hQ, cancel C hQ hP]
    · obtain ⟨l, hl⟩ := sl_exists C.two C.ny hP hQ h12
      obtain ⟨l', hl'⟩ := sl_exists C.two C.ny hQ hR h23
      have eT := add_sl h12 hl
      have eU := add_sl h23 hl'
      have oT : Mine.On (sX l x1 x2) (sY l x1 y1 (sX l x1 x2)) := sOn hP hl
      have oU : Mine.On (sX l' x2 x3) (sY l' x2 y2 (sX l' x2 x3)) := sOn hQ hl'
      by_cases hTR : Opp (sX l x1 x2) (sY l x1 y1 (sX l x1 x2)) x3 y3
      · have eR : Pt.aff x3 y3 = (Pt.add (.aff x1 y1) (.aff x2 y2)).neg := by rw [eT]; exact eq_neg_of_opp hTR.symm
        have hT : (Pt.add (.aff x1 y1) (.aff x2 y2) : Pt F).On := add_on C hP hQ
        have c1 := cancel C hP hQ
        have c2 := cancel C hT (neg_on (P := .aff x1 y1) hP)
        rw [add_comm C hT (neg_on (P := .aff x1 y1) hP), c1] at c2
        rw [eT, add_opp hTR, add_comm C hQ hR, eR, c2]
        exact add_neg.symm
      · by_cases hPU : Opp x1 y1 (sX l' x2 x3) (sY l' x2 y2 (sX l' x2 x3))
        · have eP : Pt.aff x1 y1 = (Pt.add (.aff x2 y2) (.aff x3 y3)).neg := by rw [eU]; exact eq_neg_of_opp hPU
          have hU : (Pt.add (.aff x2 y2) (.aff x3 y3) : Pt F).On := add_on C hQ hR
          have c1 := cancel C hR hQ
          have c2 := cancel C hU (neg_on (P := .aff x3 y3) hR)
          rw [add_comm C hU (neg_on (P := .aff x3 y3) hR), add_comm C hQ hR, c1] at c2
          have hT : Pt.add (.aff x1 y1) (.aff x2 y2) = (Pt.aff x3 y3).neg := by rw [eP, add_comm C hQ hR]; exact c2
          rw [hT, neg_add, eU, add_opp hPU]
        · by_cases hPR : x1 = x3 ∧ y1 = y3
          · obtain ⟨rfl, rfl⟩ := hPR
            rw [add_comm C (add_on C hP hQ) hP, add_comm C hP hQ]
          · obtain ⟨m, hm⟩ := sl_exists C.two C.ny oT hR hTR
            obtain ⟨m', hm'⟩ := sl_exists C.two C.ny hP oU hPU
            rw [eT, eU, add_sl hTR hm, add_sl hPU hm']
            obtain ⟨u, v⟩ := assoc_main C.two C.ny hP hQ hR hl hl' hm hTR hm' hPU h12 h23 hPR
            rw [u, ← u, v]
            rw [u]
noncomputable def nG (G : Pt F) : Nat → Pt F
  | 0 => .inf
  | k + 1 => (nG G k).add G
theorem nG_on (C : Crv F) {G : Pt F} (hG : G.On) : ∀ k, (nG G k).On
  | 0 => trivial
  | k + 1 => add_on C (nG_on C hG k) hG
theorem nG_add (C : Crv F) {G : Pt F} (hG : G.On) (a : Nat) : ∀ b, nG G (a + b) = (nG G a).add (nG G b)
  | 0 => (add_inf _).symm
  | b + 1 => by
    show (nG G (a + b)).add G = (nG G a).add ((nG G b).add G)
    rw [nG_add C hG a b, assoc C (nG_on C hG a) (nG_on C hG b) hG]
theorem nG_mul (C : Crv F) {G : Pt F} (hG : G.On) {a : Nat} (h : nG G a = .inf) : ∀ b, nG G (a * b) = .inf
  | 0 => rfl
  | b + 1 => by rw [Nat.mul_succ, nG_add C hG, nG_mul C hG h b, h]; rfl
/-- no small multiple is nought where a coprime one is -/
theorem nG_ne (C : Crv F) {G : Pt F} (hG : G.On) (h0 : G ≠ .inf) {n k : Nat} (hn : nG G n = .inf) (hc : Nat.gcd k n = 1) : nG G k ≠ .inf := by
  intro hk
  have key : ∀ i j, nG G i = .inf → nG G j = .inf → nG G (Nat.gcd i j) = .inf := by
    intro i j
    induction i, j using Nat.gcd.induction with
    | H0 n => intro _ h; rw [Nat.gcd_zero_left]; exact h
    | H1 m n hm ih =>
      intro h1 h2
      rw [Nat.gcd_rec]
      refine ih ?_ h1
      have e : n = m * (n / m) + n % m := (Nat.div_add_mod n m).symm
      rw [e, nG_add C hG, nG_mul C hG h1, inf_add] at h2
      exact h2
  have := key k n hk hn
  rw [hc] at this
  exact h0 this
end
end Mine
end
section
open PySem PySem.W PyProof.Rows
namespace Mine
open_top hd for PySem.Challenge.rw_bh0025_01
theorem walk_off : True := by
  w_top off
  trivial
end Mine
end
section
open PySem PySem.W PyProof.Rows PySem.Calls
namespace Mine
/-- contract's shape: a call of the def at f with vs -/
abbrev Ctx (f : Addr) (vs : List Value) (P : List (Addr × Obj) → Prop) (Ret : Heap → Addr → (Str → Option Value) → List (Addr × Obj) → Shared → (Value → Shared → Prop) → Prop) (d : Nat) : Prop :=
  ∀ (w : World) (mean : ExcName → Option Value) (mg mb : Str → Option Value) (dp un : Nat) (gd : Option (List Code)) (cn : Str) (cs : Scope) (a : Addr) (ccd : Value) (cl : List (Str × Addr)) (outer : List Env) (A₀ : Around) (base h₀ : Heap) (L : Addr) (m : Str → Option Value) (news : List (Addr × Obj)) (s : Shared) (Q E : Value → Shared → Prop),
    Below A₀ base outer h₀ → Fr h₀ L s.heap m → (hd.heap_39 w.params).In h₀ → News h₀ L s.heap news → Top topProg (looseW hd.view_39 [Str.ofString "hmac"] ++ List.map (fun x => x.name) (recsOf hd.view_39) ++ List.map (fun x => x.fst) (litsOf hd.view_39) ++ List.map (fun x => x.name) (clssOf hd.view_39 (looseW hd.view_39 [Str.ofString "hmac"]))) mean mg mb h₀ → cs.kind = .function →
    P news → dp + d < recursionLimit → un + 8 * d < cLine → Ret h₀ L m news s Q →
    wpAny (model Challenge.rw_bh0025_01.row.prog w) (ktrTop dp un gd cn cs L a ccd cl outer) (call (.ref f) vs) Q E s

abbrev RetI (P : Int → Prop) (h₀ : Heap) (L : Addr) (m : Str → Option Value) (news : List (Addr × Obj)) (s : Shared) (Q : Value → Shared → Prop) : Prop :=
  ∀ (r : Int) (t : Tok) (h' : Heap) (tk' : Nat), P r → Fr h₀ L h' m → News h₀ L h' news → Q (.int r t) { s with heap := h', toks := tk' }

theorem retI {P : Int → Prop} {h₀ : Heap} {L : Addr} {m : Str → Option Value} {news news' : List (Addr × Obj)} {s : Shared} {Q : Value → Shared → Prop} {r : Int} {t : Tok} {h' : Heap} {tk' : Nat}
  (hret : RetI P h₀ L m news s Q) (F : Fr h₀ L h' m) (N : News h₀ L h' news') (hs : ∀ p ∈ news, p ∈ news') (hp : P r) : Q (.int r t) { s with heap := h', toks := tk' } :=
  hret r t h' tk' hp F (fun p hp => N p (hs p hp))
end Mine
namespace Mine
open PySem.Builtin.Int (intBits)
abbrev tup2 (x y : Int) (t1 t2 : Tok) (c : Nat) : Obj := { cls := .type "tuple", data := .seq #[.int x t1, .int y t2] c }
abbrev tup3 (x y z : Int) (t1 t2 t3 : Tok) (c : Nat) : Obj := { cls := .type "tuple", data := .seq #[.int x t1, .int y t2, .int z t3] c }
abbrev Ret3 (P : J3 → Prop) (h₀ : Heap) (L : Addr) (m : Str → Option Value) (news : List (Addr × Obj)) (s : Shared) (Q : Value → Shared → Prop) : Prop :=
  ∀ (D : Addr) (p : J3) (t1 t2 t3 : Tok) (c : Nat) (h' : Heap) (tk' : Nat), P p → Fr h₀ L h' m → News h₀ L h' ((D, tup3 p.x p.y p.z t1 t2 t3 c) :: news) → Q (.ref D) { s with heap := h', toks := tk' }
abbrev Ret2 (P : Int → Int → Prop) (h₀ : Heap) (L : Addr) (m : Str → Option Value) (news : List (Addr × Obj)) (s : Shared) (Q : Value → Shared → Prop) : Prop :=
  ∀ (D : Addr) (x y : Int) (t1 t2 : Tok) (c : Nat) (h' : Heap) (tk' : Nat), P x y → Fr h₀ L h' m → News h₀ L h' ((D, tup2 x y t1 t2 c) :: news) → AllLt D news → Q (.ref D) { s with heap := h', toks := tk' }
theorem ret3 {P : J3 → Prop} {h₀ : Heap} {L : Addr} {m : Str → Option Value} {news news' : List (Addr × Obj)} {s : Shared} {Q : Value → Shared → Prop} {D : Addr} {x y z : Int} {t1 t2 t3 : Tok} {c : Nat} {h' : Heap} {tk' : Nat}
  (hret : Ret3 P h₀ L m news s Q) (F : Fr h₀ L h' m) (N : News h₀ L h' news') (hm : (D, tup3 x y z t1 t2 t3 c) ∈ news') (hs : ∀ p ∈ news, p ∈ news') (hp : P ⟨x, y, z⟩) : Q (.ref D) { s with heap := h', toks := tk' } :=
  hret D ⟨x, y, z⟩ t1 t2 t3 c h' tk' hp F (fun p hq => (List.mem_cons.mp hq).elim (fun e => e ▸ N _ hm) fun hq => N p (hs p hq))
theorem ret2 {P : Int → Int → Prop} {h₀ : Heap} {L : Addr} {m : Str → Option Value} {news news' : List (Addr × Obj)} {s : Shared} {Q : Value → Shared → Prop} {D : Addr} {x y : Int} {t1 t2 : Tok} {c : Nat} {h' : Heap} {tk' : Nat}
  (hret : Ret2 P h₀ L m news s Q) (F : Fr h₀ L h' m) (N : News h₀ L h' news') (hm : (D, tup2 x y t1 t2 c) ∈ news') (hs : ∀ p ∈ news, p ∈ news') (hl : AllLt D news) (hp : P x y) : Q (.ref D) { s with heap := h', toks := tk' } :=
  hret D x y t1 t2 c h' tk' hp F (fun p hq => (List.mem_cons.mp hq).elim (fun e => e ▸ N _ hm) fun hq => N p (hs p hq)) hl
theorem pow_fits {a n : Int} {m : Nat} (h : intBits a ≤ m) (hm : m ≤ 4000) (h0 : 0 ≤ n) (hn : n ≤ 1000) : (intBits a : Int) * n ≤ 2 ^ 27 := by
  have h1 : (intBits a : Int) ≤ 4000 := by omega
  have h2 := Int.mul_le_mul h1 hn h0 (by decide)
  have e : (2 : Int) ^ 27 = 134217728 := by decide
  rw [e]
  omega
end Mine
namespace Mine
open PySem.Builtin.Int (intBits)
theorem lit_bits {a : Int} (h : decide (intBits a ≤ 256) = true) : intBits a ≤ 256 := of_decide_eq_true h
end Mine
namespace Mine
open PySem.Builtin.Int (intBits)
theorem in_bits {a : Int} (h : In a) : intBits a ≤ 256 := bits_of_natAbs_le (b := PP) (by have := h.1; have := h.2; omega) (lit_bits (by decide +kernel))
end Mine

namespace Mine
theorem ctx_use {f : Addr} {vs : List Value} {P : List (Addr × Obj) → Prop} {Ret : Heap → Addr → (Str → Option Value) → List (Addr × Obj) → Shared → (Value → Shared → Prop) → Prop} {d : Nat} (C : Ctx f vs P Ret d)
  {w : World} {mean : ExcName → Option Value} {mg mb : Str → Option Value} {dp un : Nat} {gd : Option (List Code)} {cn : Str} {cs : Scope} {a : Addr} {ccd : Value} {cl : List (Str × Addr)} {outer : List Env} {A₀ : Around} {base h₀ : Heap} {L : Addr} {m : Str → Option Value} {news : List (Addr × Obj)} {s : Shared} {Q E : Value → Shared → Prop}
  (B : Below A₀ base outer h₀) (F : Fr h₀ L s.heap m) (X : (hd.heap_39 w.params).In h₀) (N : News h₀ L s.heap news) (T : Top topProg (looseW hd.view_39 [Str.ofString "hmac"] ++ List.map (fun x => x.name) (recsOf hd.view_39) ++ List.map (fun x => x.fst) (litsOf hd.view_39) ++ List.map (fun x => x.name) (clssOf hd.view_39 (looseW hd.view_39 [Str.ofString "hmac"]))) mean mg mb h₀) (hk : cs.kind = .function)
  (hP : P news) (hd : dp + d < recursionLimit) (hu : un + 8 * d < cLine) (hr : Ret h₀ L m news s Q) :
    wpAny (model Challenge.rw_bh0025_01.row.prog w) (ktrTop dp un gd cn cs L a ccd cl outer) (call (.ref f) vs) Q E s :=
  C w mean mg mb dp un gd cn cs a ccd cl outer A₀ base h₀ L m news s Q E B F X N T hk hP hd hu hr
end Mine
end
section
open PySem PySem.W PyProof.Rows PySem.Calls
namespace Mine
open PySem.Builtin.Int (intBits)
theorem pow_fits2 {a n : Int} {m : Nat} (h : intBits a ≤ m) (hm : m ≤ 2000000) (h0 : 0 ≤ n) (hn : n ≤ 8) : (intBits a : Int) * n ≤ 2 ^ 27 := by
  have h1 : (intBits a : Int) ≤ 2000000 := by omega
  have h2 := Int.mul_le_mul h1 hn h0 (by decide)
  have e : (2 : Int) ^ 27 = 134217728 := by decide
  rw [e]
  omega
theorem pow_fits3 {a n : Int} {m : Nat} (h : intBits a ≤ m) (hm : m ≤ 4000) (h0 : 0 ≤ n) (hn : n ≤ 1000) : (intBits a : Int) * n ≤ 2 ^ 27 := pow_fits h hm h0 hn
local macro_rules | `(tactic| bits_by_make) => `(tactic| first | with_reducible assumption | ((with_reducible apply intBits_pow_le); bits_by_make) | exact lit_bits (by decide +kernel))
local macro_rules | `(tactic| walk_at "binaryOp Pow int int") => `(tactic| (k_here; (first | (with_reducible refine pow_int (by decide) (pow_fits2 (by bits_by_make) (by decide) (by decide) (by decide)) ?_) | (with_reducible refine pow_int (by decide) (pow_fits (by bits_by_make) (by decide) (by decide) (by decide)) ?_))))
theorem ln_range (n a : Int) : 0 ≤ [(a.fdiv 5).fmod 1000, 115792089237316195423570985008687907852837564279074904382605163141518161494337 - 2 + (a.fdiv 5).fmod 4, (a ^ Int.toNat 3).fmod (2 ^ Int.toNat 256), 2 ^ Int.toNat 256 - 1 - (a.fdiv 5).fmod 1000, a.fmod (2 ^ Int.toNat 256)].getD (n.fmod 5).toNat 0 ∧
    [(a.fdiv 5).fmod 1000, 115792089237316195423570985008687907852837564279074904382605163141518161494337 - 2 + (a.fdiv 5).fmod 4, (a ^ Int.toNat 3).fmod (2 ^ Int.toNat 256), 2 ^ Int.toNat 256 - 1 - (a.fdiv 5).fmod 1000, a.fmod (2 ^ Int.toNat 256)].getD (n.fmod 5).toNat 0 < 2 ^ 256 := by
  have e : (2 : Int) ^ Int.toNat 256 = 115792089237316195423570985008687907853269984665640564039457584007913129639936 := by decide +kernel
  have e2 : (2 : Int) ^ 256 = 115792089237316195423570985008687907853269984665640564039457584007913129639936 := by decide +kernel
  rw [e, e2]
  have b1 := Int.fmod_nonneg_of_pos (a.fdiv 5) (show (0 : Int) < 1000 by decide)
  have b2 := Int.fmod_lt_of_pos (a.fdiv 5) (show (0 : Int) < 1000 by decide)
  have b3 := Int.fmod_nonneg_of_pos (a.fdiv 5) (show (0 : Int) < 4 by decide)
  have b4 := Int.fmod_lt_of_pos (a.fdiv 5) (show (0 : Int) < 4 by decide)
  have b5 := Int.fmod_nonneg_of_pos (a ^ Int.toNat 3) (show (0 : Int) < 115792089237316195423570985008687907853269984665640564039457584007913129639936 by decide)
  have b6 := Int.fmod_lt_of_pos (a ^ Int.toNat 3) (show (0 : Int) < 115792089237316195423570985008687907853269984665640564039457584007913129639936 by decide)
  have b7 := Int.fmod_nonneg_of_pos a (show (0 : Int) < 115792089237316195423570985008687907853269984665640564039457584007913129639936 by decide)
  have b8 := Int.fmod_lt_of_pos a (show (0 : Int) < 115792089237316195423570985008687907853269984665640564039457584007913129639936 by decide)
  have c1 := Int.fmod_nonneg_of_pos n (show (0 : Int) < 5 by decide)
  have c2 := Int.fmod_lt_of_pos n (show (0 : Int) < 5 by decide)
  have hk : (n.fmod 5).toNat < 5 := by omega
  generalize (n.fmod 5).toNat = k at hk
  match k, hk with
  | 0, _ => exact ⟨b1, by show (a.fdiv 5).fmod 1000 < _; omega⟩
  | 1, _ => exact ⟨by show 0 ≤ 115792089237316195423570985008687907852837564279074904382605163141518161494337 - 2 + (a.fdiv 5).fmod 4; omega, by show 115792089237316195423570985008687907852837564279074904382605163141518161494337 - 2 + (a.fdiv 5).fmod 4 < _; omega⟩
  | 2, _ => exact ⟨b5, b6⟩
  | 3, _ => exact ⟨by show 0 ≤ 115792089237316195423570985008687907853269984665640564039457584007913129639936 - 1 - (a.fdiv 5).fmod 1000; omega, by show 115792089237316195423570985008687907853269984665640564039457584007913129639936 - 1 - (a.fdiv 5).fmod 1000 < _; omega⟩
  | 4, _ => exact ⟨b7, b8⟩
theorem ln_call (n : Int) (t : Tok) (hn : intBits n ≤ 1048576) : Ctx 194 [.int n t] (fun _ => True) (RetI fun r => 0 ≤ r ∧ r < 2 ^ 256) 1 := by
  unfold Ctx RetI
  k_fill
  intro w mean mg mb dp un gd cn cs a ccd cl outer A₀ base h₀ L m news s Q E B F X N T hk hP hd hu hret
  refine wpAny_call ?_
  k_dflt ktr_enter
  k_steps
  exact retI hret (by assumption) (by assumption) (by ktd_sub) (ln_range _ _)
end Mine
end
section
open PySem PySem.W PyProof.Rows PySem.Calls
namespace Mine
open PySem.Builtin.Int (intBits)
structure InvI (x n lm hm low high : Int) : Prop where
  h1 : 1 ≤ low
  h2 : low < high
  h3 : high ≤ n
  h4 : (lm.natAbs : Int) * high + (hm.natAbs : Int) * low ≤ n
  h5 : n ∣ lm * x - low
  h6 : n ∣ hm * x - high
  h7 : Int.gcd low high = 1

theorem gcd_emod (x n : Int) : Int.gcd (x % n) n = Int.gcd x n := by
  have h : x = x % n + n * (x / n) := by rw [Int.emod_add_mul_ediv]
  conv => rhs; rw [h]
  simp

theorem inv_start {x n : Int} (hn : 1 < n) (hg : Int.gcd x n = 1) : InvI x n 1 0 (x.fmod n) n := by
  have e : x.fmod n = x % n := Int.fmod_eq_emod_of_nonneg x (by omega)
  have g : Int.gcd (x % n) n = 1 := by rw [gcd_emod, hg]
  have h0 := Int.emod_nonneg x (show n ≠ 0 by omega)
  have h1 := Int.emod_lt_of_pos x (show 0 < n by omega)
  rw [e]
  refine ⟨?_, h1, Int.le_refl _, ?_, ?_, ?_, g⟩
  · rcases Int.lt_or_le (x % n) 1 with h | h
    · have hz : x % n = 0 := by omega
      rw [hz] at g
      simp at g
      omega
    · exact h
  · simp
  · rw [Int.one_mul]
    exact Int.dvd_self_sub_emod
  · simp

theorem inv_step {x n lm hm low high : Int} (I : InvI x n lm hm low high) (hl : 1 < low) : InvI x n (hm - lm * high.fdiv low) lm (high - low * high.fdiv low) low := by
  have e : high.fdiv low = high / low := Int.fdiv_eq_ediv_of_nonneg high (by omega)
  rw [e]
  obtain ⟨h1, h2, h3, h4, h5, h6, h7⟩ := I
  have hm' : high - low * (high / low) = high % low := (Int.emod_def high low).symm
  have g : Int.gcd (high % low) low = 1 := by rw [gcd_emod, Int.gcd_comm, h7]
  have p0 := Int.emod_nonneg high (show low ≠ 0 by omega)
  have p1 := Int.emod_lt_of_pos high (show 0 < low by omega)
  have hq : 0 ≤ high / low := Int.ediv_nonneg (by omega) (by omega)
  rw [hm']
  refine ⟨?_, p1, by omega, ?_, ?_, h5, g⟩
  · rcases Int.lt_or_le (high % low) 1 with h | h
    · have hz : high % low = 0 := by omega
      rw [hz] at g
      simp at g
      omega
    · exact h
  · have hb : ((hm - lm * (high / low)).natAbs : Int) ≤ (hm.natAbs : Int) + (lm.natAbs : Int) * (high / low) := by
      have t1 : (hm - lm * (high / low)).natAbs ≤ hm.natAbs + (lm * (high / low)).natAbs := by omega
      have t2 : (lm * (high / low)).natAbs = lm.natAbs * (high / low).natAbs := Int.natAbs_mul _ _
      have t3 : ((high / low).natAbs : Int) = high / low := by omega
      rw [t2] at t1
      have t4 : ((hm - lm * (high / low)).natAbs : Int) ≤ ((hm.natAbs + lm.natAbs * (high / low).natAbs : Nat) : Int) := by exact_mod_cast t1
      rw [Int.natCast_add, Int.natCast_mul, t3] at t4
      exact t4
    have k1 := Int.mul_le_mul_of_nonneg_right hb (show 0 ≤ low by omega)
    have k2 : (lm.natAbs : Int) * (high % low) = (lm.natAbs : Int) * high - (lm.natAbs : Int) * (high / low) * low := by
      rw [Int.emod_def, Int.mul_sub, Int.mul_assoc, Int.mul_comm low]
    rw [Int.add_mul] at k1
    rw [k2]
    omega
  · have e2 : (hm - lm * (high / low)) * x - high % low = (hm * x - high) - (high / low) * (lm * x - low) := by
      rw [Int.emod_def]; grind
    rw [e2]
    exact Int.dvd_sub h6 (Int.dvd_mul_of_dvd_right h5)
theorem inv_less {x n lm hm low high : Int} (I : InvI x n lm hm low high) (hl : 1 < low) : (high - low * high.fdiv low).toNat < low.toNat := by
  have J := (inv_step I hl).h2
  have := I.h1
  omega
theorem inv_end {x n lm hm low high : Int} (I : InvI x n lm hm low high) (hl : ¬ 1 < low) : 0 ≤ lm.fmod n ∧ lm.fmod n < n ∧ n ∣ lm.fmod n * x - 1 := by
  have h1 := I.h1
  have h2 := I.h2
  have h3 := I.h3
  have hlow : low = 1 := by omega
  have h5 := I.h5
  rw [hlow] at h5
  have hn : 0 < n := by omega
  rw [Int.fmod_eq_emod_of_nonneg lm (by omega)]
  refine ⟨Int.emod_nonneg _ (by omega), Int.emod_lt_of_pos _ hn, ?_⟩
  have e2 : lm % n * x - 1 = (lm * x - 1) - n * (lm / n * x) := by rw [Int.emod_def]; grind
  rw [e2]
  exact Int.dvd_sub h5 (Int.dvd_mul_right _ _)
theorem bits_of_lt {a b : Int} {k : Nat} (h : a.natAbs ≤ b.natAbs) (hb : intBits b ≤ k) : intBits a ≤ k := bits_of_natAbs_le h hb
theorem mul_le_self {a b n : Int} (ha : 0 ≤ a) (hb : 1 ≤ b) (h : a * b ≤ n) : a ≤ n := by
  have := Int.mul_le_mul_of_nonneg_left hb ha
  omega
theorem inv_bits {x n lm hm low high : Int} {k : Nat} (I : InvI x n lm hm low high) (hb : intBits n ≤ k) : intBits lm ≤ k ∧ intBits hm ≤ k ∧ intBits low ≤ k ∧ intBits high ≤ k := by
  obtain ⟨h1, h2, h3, h4, -, -, -⟩ := I
  have a1 : (0:Int) ≤ (lm.natAbs : Int) * high := Int.mul_nonneg (by omega) (by omega)
  have a2 : (0:Int) ≤ (hm.natAbs : Int) * low := Int.mul_nonneg (by omega) (by omega)
  have b1 := mul_le_self (n := n) (show (0 : Int) ≤ (lm.natAbs : Int) by omega) (show 1 ≤ high by omega) (by omega)
  have b2 := mul_le_self (n := n) (show (0 : Int) ≤ (hm.natAbs : Int) by omega) (show 1 ≤ low by omega) (by omega)
  exact ⟨bits_of_lt (by omega) hb, bits_of_lt (by omega) hb, bits_of_lt (by omega) hb, bits_of_lt (by omega) hb⟩
theorem py_of_bits {y : Int} {k : Nat} (h : intBits y ≤ k) (hk : k ≤ 8000) : y.natAbs.log2 < 9000 := by
  have h1 : y.natAbs < 2 ^ k := intBits_le_iff.mp h
  rcases Nat.eq_zero_or_pos y.natAbs with h0 | h0
  · rw [h0]; decide
  · have := (Nat.log2_lt (by omega)).mpr h1
    omega
end Mine
end
section
open PySem PySem.W PyProof.Rows PySem.Calls
local macro_rules | `(tactic| walk_at "no such node") => `(tactic| fail "none")
local macro_rules | `(tactic| walk_at "no such node") => `(tactic| fail "none")
local macro_rules | `(tactic| walk_at "no such node") => `(tactic| fail "none")
local macro_rules | `(tactic| walk_at "no such node") => `(tactic| fail "none")
local macro_rules | `(tactic| walk_at "no such node") => `(tactic| fail "none")
local macro_rules | `(tactic| walk_at "no such node") => `(tactic| fail "none")
local macro_rules | `(tactic| walk_at "no such node") => `(tactic| fail "none")
local macro_rules | `(tactic| walk_at "no such node") => `(tactic| fail "none")
local macro_rules | `(tactic| walk_at "no such node") => `(tactic| fail "none")
local macro_rules | `(tactic| walk_at "no such node") => `(tactic| fail "none")
local macro_rules | `(tactic| walk_at "no such node") => `(tactic| fail "none")
local macro_rules | `(tactic| walk_at "no such node") => `(tactic| fail "none")
local macro_rules | `(tactic| walk_at "no such node") => `(tactic| fail "none")
local macro_rules | `(tactic| walk_at "no such node") => `(tactic| fail "none")
local macro_rules | `(tactic| walk_at "no such node") => `(tactic| fail "none")
local macro_rules | `(tactic| walk_at "no such node") => `(tactic| fail "none")
local macro_rules | `(tactic| walk_at "no such node") => `(tactic| fail "none")
local macro_rules | `(tactic| walk_at "no such node") => `(tactic| fail "none")
local macro_rules | `(tactic| walk_at "no such node") => `(tactic| fail "none")
local macro_rules | `(tactic| walk_at "no such node") => `(tactic| fail "none")
namespace Mine
open PySem.Builtin.Int (intBits)

local macro_rules | `(tactic| bits_by_make) => `(tactic| with_reducible assumption)
local macro_rules | `(tactic| walk_at "binaryOp FloorDiv int int") => `(tactic| (k_here; (rename InvI _ _ _ _ _ _ => kI); (obtain ⟨kb1, kb2, kb3, kb4⟩ := inv_bits kI (by assumption)); (have kb5 := kI.h1); (refine floordiv_int ?kb ?_ (Or.inl (PyProof.noPylong_of_log2 ?kp)); (case kb => omega); (case kp => exact py_of_bits kb3 (by decide)))))
theorem inv_call (x n : Int) (t1 t2 : Tok) (hn : 1 < n) (hx : x ≠ 0) (hg : Int.gcd x n = 1) (hxb : intBits x ≤ 300) (hnb : intBits n ≤ 300) : Ctx 95 [.int x t1, .int n t2] (fun _ => True) (RetI fun r => 0 ≤ r ∧ r < n ∧ n ∣ r * x - 1) 1 := by
  unfold Ctx RetI
  k_fill
  intro w mean mg mb dp un gd cn cs a ccd cl outer A₀ base h₀ L m news s Q E B F X N T hk hP hd hu hret
  refine wpAny_call ?_
  k_dflt ktr_enter
  k_with "exec While Compare cons nil" => k_while (fun (_ : List Int) lm hm low high => InvI x n lm hm low high) (fun (_ : List Int) _ _ low _ => low.toNat) "lm" "hm" "low" "high"
  k_with "state" => first | exact inv_start (by assumption) (by assumption) | exact inv_step (by assumption) (by assumption)
  k_with "measure" => exact inv_less (by assumption) (by assumption)
  k_steps
  · exact absurd (by assumption) hx
  · exact retI hret (by assumption) (by assumption) (by first | exact fun _ h => h | ktd_sub) (inv_end (by assumption) (by assumption))
end Mine
end
section
open PySem PySem.W PyProof.Rows PySem.Calls
namespace Mine
open PySem.Builtin.Int (intBits)

local macro_rules | `(tactic| bits_by_make) => `(tactic| first | with_reducible assumption | ((with_reducible apply intBits_pow_le); bits_by_make) | exact lit_bits (by decide +kernel))
local macro_rules | `(tactic| walk_at "binaryOp Pow int int") => `(tactic| (k_here; (with_reducible refine pow_int (by decide) (pow_fits (by bits_by_make) (by decide) (by decide) (by decide)) ?_)))
theorem jd_call (Dp : Addr) (p : J3) (t1 t2 t3 : Tok) (c : Nat) (hp : p.In) (hy0 : p.y ≠ 0) : Ctx 109 [.ref Dp] (fun news => (Dp, tup3 p.x p.y p.z t1 t2 t3 c) ∈ news) (Ret3 (· = jdbl p)) 1 := by
  unfold Ctx Ret3
  k_fill
  intro w mean mg mb dp un gd cn cs a ccd cl outer A₀ base h₀ L m news s Q E B F X N T hk hP hd hu hret
  have hb1 := in_bits hp.x
  have hb2 := in_bits hp.y
  have hb3 := in_bits hp.z
  refine wpAny_call ?_
  k_dflt ktr_enter
  k_steps
  · exact ret3 hret (by assumption) (by assumption) (by k_mem) (by ktd_sub) rfl
  · exact absurd (by assumption) hy0
theorem ja_call (Dp Dq : Addr) (p q : J3) (t1 t2 t3 : Tok) (c : Nat) (u1 u2 u3 : Tok) (d : Nat) (hp : p.In) (hq : q.In) (hp0 : p.y ≠ 0) (hq0 : q.y ≠ 0) (hne : jaU1 p q ≠ jaU2 p q) :
    Ctx 116 [.ref Dp, .ref Dq] (fun news => (Dp, tup3 p.x p.y p.z t1 t2 t3 c) ∈ news ∧ (Dq, tup3 q.x q.y q.z u1 u2 u3 d) ∈ news) (Ret3 (· = jadd p q)) 1 := by
  unfold Ctx Ret3
  k_fill
  intro w mean mg mb dp un gd cn cs a ccd cl outer A₀ base h₀ L m news s Q E B F X N T hk hP hd hu hret
  obtain ⟨hP1, hP2⟩ := hP
  have hb1 := in_bits hp.x
  have hb2 := in_bits hp.y
  have hb3 := in_bits hp.z
  have hb4 := in_bits hq.x
  have hb5 := in_bits hq.y
  have hb6 := in_bits hq.z
  refine wpAny_call ?_
  k_dflt ktr_enter
  k_steps
  all_goals first
    | exact absurd (by assumption) hp0
    | exact absurd (by assumption) hq0
    | exact absurd (by assumption) hne
    | exact ret3 hret (by assumption) (by assumption) (by k_mem) (by ktd_sub) rfl
end Mine
end
section
open PySem PySem.W PyProof.Rows PySem.Calls
local macro_rules | `(tactic| walk_at "no such node") => `(tactic| fail "none")
local macro_rules | `(tactic| walk_at "no such node") => `(tactic| fail "none")
local macro_rules | `(tactic| walk_at "no such node") => `(tactic| fail "none")
local macro_rules | `(tactic| walk_at "no such node") => `(tactic| fail "none")
local macro_rules | `(tactic| walk_at "no such node") => `(tactic| fail "none")
local macro_rules | `(tactic| walk_at "no such node") => `(tactic| fail "none")
local macro_rules | `(tactic| walk_at "no such node") => `(tactic| fail "none")
local macro_rules | `(tactic| walk_at "no such node") => `(tactic| fail "none")
local macro_rules | `(tactic| walk_at "no such node") => `(tactic| fail "none")
local macro_rules | `(tactic| walk_at "no such node") => `(tactic| fail "none")
local macro_rules | `(tactic| walk_at "no such node") => `(tactic| fail "none")
local macro_rules | `(tactic| walk_at "no such node") => `(tactic| fail "none")
local macro_rules | `(tactic| walk_at "no such node") => `(tactic| fail "none")
local macro_rules | `(tactic| walk_at "no such node") => `(tactic| fail "none")
local macro_rules | `(tactic| walk_at "no such node") => `(tactic| fail "none")
local macro_rules | `(tactic| walk_at "no such node") => `(tactic| fail "none")
local macro_rules | `(tactic| walk_at "no such node") => `(tactic| fail "none")
local macro_rules | `(tactic| walk_at "no such node") => `(tactic| fail "none")
local macro_rules | `(tactic| walk_at "no such node") => `(tactic| fail "none")
local macro_rules | `(tactic| walk_at "no such node") => `(tactic| fail "none")
namespace Mine
open PySem.Builtin.Int (intBits)
local macro_rules | `(tactic| ktf_call $c) => `(tactic| (k_dflt (refine' ctx_use $c ?k1 ?k2 ?k3 ?k4 ?k5 ?k6 ?k7 ?k8 ?k9 ?_; (case k1 => k_asm); (case k2 => k_asm); (case k3 => k_asm); (case k4 => k_asm); (case k5 => k_asm); (case k6 => first | exact rfl | assumption); (case k7 => first | exact trivial | k_mem | (refine And.intro ?ka ?kb; (case ka => (repeat (first | assumption | exact List.Mem.head _ | refine List.Mem.tail _ ?_))); (case kb => (repeat (first | assumption | exact List.Mem.head _ | refine List.Mem.tail _ ?_))))); (case k8 => ktr_room); (case k9 => ktr_units))))
theorem jm_call {A : J3} {G : Nat → J3 → Prop} {top : Nat} (C : Chain A G top) (htop : top < 2 ^ 20) : ∀ (f n : Nat) (x : Int) (Dp : Addr) (t t1 t2 t3 : Tok) (c : Nat), x = (n : Int) → 1 ≤ n → n ≤ top → n < 2 ^ f →
    Ctx 130 [.ref Dp, .int x t] (fun news => (Dp, tup3 A.x A.y A.z t1 t2 t3 c) ∈ news) (Ret3 (G n)) (f + 2) := by
  intro f
  induction f with
  | zero => intro n x Dp t t1 t2 t3 c hx h1 h2 h4; omega
  | succ f IH =>
  intro n x Dp t t1 t2 t3 c hx h1 h2 h4
  unfold Ctx Ret3
  k_fill
  intro w mean mg mb dp un gd cn cs a ccd cl outer A₀ base h₀ L m news s Q E B F X N T hk hP hd hu hret
  have hA := (C.ok _ _ C.one).1
  have hA0 := (C.ok _ _ C.one).2
  refine wpAny_call ?_
  k_dflt ktr_enter
  k_with "call ref" => fail "stop"
  k_steps
  · exact absurd (by assumption) hA0
  · omega
  · have e1 : n = 1 := by omega
    subst e1
    exact ret3 hret (by assumption) (by assumption) (by k_mem) (by ktd_sub) C.one
  · have hx2 : x.fdiv 2 = ((n / 2 : Nat) : Int) := by rw [hx, Int.fdiv_eq_ediv_of_nonneg _ (by decide)]; rfl
    ktf_call (IH (n / 2) (x.fdiv 2) Dp _ t1 t2 t3 c hx2 (by omega) (by omega) (by omega))
    intro D1 p1 a1 a2 a3 c1 h1' tk1 hG F1 N1
    have hp1 := C.ok _ _ hG
    k_steps
    ktf_call (jd_call D1 p1 a1 a2 a3 c1 hp1.1 hp1.2)
    intro D2 p2 b1 b2 b3 c2 h2' tk2 hp2 F2 N2
    subst hp2
    k_steps
    have hmod : x.fmod 2 = 0 := by assumption
    rw [hx, Int.fmod_eq_emod_of_nonneg _ (by decide)] at hmod
    have e2 : n = 2 * (n / 2) := by omega
    have hG2 := C.dbl _ _ hG (by omega) (by omega)
    rw [← e2] at hG2
    exact ret3 hret (by assumption) (by assumption) (by k_mem) (by ktd_sub) hG2
  · have hx2 : x.fdiv 2 = ((n / 2 : Nat) : Int) := by rw [hx, Int.fdiv_eq_ediv_of_nonneg _ (by decide)]; rfl
    have hmod : ¬ x.fmod 2 = 0 := by assumption
    rw [hx, Int.fmod_eq_emod_of_nonneg _ (by decide)] at hmod
    have e2 : n = 2 * (n / 2) + 1 := by omega
    ktf_call (IH (n / 2) (x.fdiv 2) Dp _ t1 t2 t3 c hx2 (by omega) (by omega) (by omega))
    intro D1 p1 a1 a2 a3 c1 h1' tk1 hG F1 N1
    have hp1 := C.ok _ _ hG
    k_steps
    ktf_call (jd_call D1 p1 a1 a2 a3 c1 hp1.1 hp1.2)
    intro D2 p2 b1 b2 b3 c2 h2' tk2 hp2 F2 N2
    subst hp2
    have hG2 := C.dbl _ _ hG (by omega) (by omega)
    have hp3 := C.ok _ _ hG2
    obtain ⟨hne, hG3⟩ := C.add _ _ hG2 (by omega) (by omega)
    rw [← e2] at hG3
    k_steps
    ktf_call (ja_call D2 Dp (jdbl p1) A b1 b2 b3 c2 t1 t2 t3 c hp3.1 hA hp3.2 hA0 hne)
    intro D4 p4 d1 d2 d3 c4 h4' tk4 hp4 F4 N4
    subst hp4
    k_steps
    exact ret3 hret (by assumption) (by assumption) (by k_mem) (by ktd_sub) hG3
  · exfalso
    have g1 : ¬ x.fmod 2 = 0 := by assumption
    have g2 : ¬ x.fmod 2 = 1 := by assumption
    rw [Int.fmod_eq_emod_of_nonneg _ (by decide)] at g1 g2
    omega
end Mine
end
section
open PySem PySem.W PyProof.Rows PySem.Calls
namespace Mine
open PySem.Builtin.Int (intBits)
local macro_rules | `(tactic| ktf_call $c) => `(tactic| (k_dflt (refine' ctx_use $c ?k1 ?k2 ?k3 ?k4 ?k5 ?k6 ?k7 ?k8 ?k9 ?_; (case k1 => k_asm); (case k2 => k_asm); (case k3 => k_asm); (case k4 => k_asm); (case k5 => k_asm); (case k6 => first | exact rfl | assumption); (case k7 => first | exact trivial | k_mem | (refine And.intro ?ka ?kb; (case ka => (repeat (first | assumption | exact List.Mem.head _ | refine List.Mem.tail _ ?_))); (case kb => (repeat (first | assumption | exact List.Mem.head _ | refine List.Mem.tail _ ?_))))); (case k8 => ktr_room); (case k9 => ktr_units))))
local macro_rules | `(tactic| bits_by_make) => `(tactic| first | with_reducible assumption | ((with_reducible apply intBits_pow_le); bits_by_make) | exact lit_bits (by decide +kernel))
local macro_rules | `(tactic| walk_at "binaryOp Pow int int") => `(tactic| (k_here; (with_reducible refine pow_int (by decide) (pow_fits (by bits_by_make) (by decide) (by decide) (by decide)) ?_)))
/-- the affine point of a Jacobian triple -/
def Aff (p : J3) (x y : Int) : Prop := ∃ z : Int, 0 ≤ z ∧ z < PP ∧ PP ∣ z * p.z - 1 ∧ x = fm (p.x * z ^ 2) ∧ y = fm (p.y * z ^ 3)
theorem pp_bits : intBits PP ≤ 300 := Nat.le_trans (lit_bits (by decide +kernel)) (by decide)
theorem fj_call (Dp : Addr) (p : J3) (t1 t2 t3 : Tok) (c : Nat) (hp : p.In) (hz : p.z ≠ 0) (hg : Int.gcd p.z PP = 1) : Ctx 123 [.ref Dp] (fun news => (Dp, tup3 p.x p.y p.z t1 t2 t3 c) ∈ news) (Ret2 (Aff p)) 2 := by
  unfold Ctx Ret2
  k_fill
  intro w mean mg mb dp un gd cn cs a ccd cl outer A₀ base h₀ L m news s Q E B F X N T hk hP hd hu hret
  have hb1 := in_bits hp.x
  have hb2 := in_bits hp.y
  have hb3 := in_bits hp.z
  refine wpAny_call ?_
  k_dflt ktr_enter
  k_with "call ref" => fail "stop"
  k_steps
  ktf_call (inv_call p.z PP t3 _ (by decide) hz hg (Nat.le_trans hb3 (by decide)) pp_bits)
  intro r t h' tk' hr F' N'
  obtain ⟨hr0, hr1, hr2⟩ := hr
  have hb4 := in_bits (a := r) ⟨hr0, hr1⟩
  k_steps
  exact ret2 hret (by assumption) (by assumption) (by k_mem) (by ktd_sub) (by kcu_lt) ⟨r, hr0, hr1, hr2, rfl, rfl⟩
theorem tj_call : Ctx 102 [.ref 81] (fun _ => True) (Ret3 (· = ⟨GX, GY, 1⟩)) 1 := by
  unfold Ctx Ret3
  k_fill
  intro w mean mg mb dp un gd cn cs a ccd cl outer A₀ base h₀ L m news s Q E B F X N T hk hP hd hu hret
  refine wpAny_call ?_
  k_dflt ktr_enter
  k_steps
  exact ret3 hret (by assumption) (by assumption) (by k_mem) (by ktd_sub) rfl
theorem fm_call {G : Nat → J3 → Prop} {top : Nat} (C : Chain ⟨GX, GY, 1⟩ G top) (htop : top < 2 ^ 20) (hz : ∀ k p, G k p → p.z ≠ 0 ∧ Int.gcd p.z PP = 1) (n : Nat) (x : Int) (t : Tok) (hx : x = (n : Int)) (h1 : 1 ≤ n) (h2 : n ≤ top) :
    Ctx 137 [.ref 81, .int x t] (fun _ => True) (Ret2 fun x y => ∃ p, G n p ∧ Aff p x y) 30 := by
  unfold Ctx Ret2
  k_fill
  intro w mean mg mb dp un gd cn cs a ccd cl outer A₀ base h₀ L m news s Q E B F X N T hk hP hd hu hret
  refine wpAny_call ?_
  k_dflt ktr_enter
  k_with "call ref" => fail "stop"
  k_steps
  ktf_call tj_call
  intro D1 p1 a1 a2 a3 c1 h1' tk1 hp1 F1 N1
  subst hp1
  k_steps
  ktf_call (jm_call C htop 20 n x D1 t a1 a2 a3 c1 hx h1 h2 (by omega))
  intro D2 p2 b1 b2 b3 c2 h2' tk2 hp2 F2 N2
  k_steps
  ktf_call (fj_call D2 p2 b1 b2 b3 c2 (C.ok _ _ hp2).1 (hz _ _ hp2).1 (hz _ _ hp2).2)
  intro D3 x3 y3 d1 d2 c3 h3' tk3 hp3 F3 N3 l3
  k_steps
  exact ret2 hret (by assumption) (by assumption) (by k_mem) (by ktd_sub) l3.2.2 ⟨_, hp2, hp3⟩
end Mine
end
section
open PySem PySem.W PyProof.Rows PySem.Calls
namespace Mine
open PySem.Builtin.Int (intBits)
open PySem.Builtin (powMod)
theorem gives_pow3 (a : Int) (t : Tok) (b : Int) (u : Tok) (c : Int) (v : Tok) (hc0 : ¬(c == 0) = true) (hc1 : ¬(c.natAbs == 1) = true) (hb : ¬ (b < 0)) (hc : ¬ (c < 0)) :
    Gives (Builtin.«int.__pow__» ⟨[.int a t, .int b u, .int c v], []⟩) (.int ((powMod ((a % (c.natAbs : Int)).toNat) b.natAbs c.natAbs : Nat) : Int)) :=
  .of_wp fun M A E s Q h => by
    obtain ⟨hp, g, d, tk, os⟩ := s
    have hcc : (decide (c < 0) && ((powMod ((a % (c.natAbs : Int)).toNat) b.natAbs c.natAbs : Nat) : Int) != 0) = false := by rw [decide_eq_false hc]; rfl
    wp_walk
    refine ⟨_, rfl, ?_⟩
    rw [hcc]
    exact h
theorem pow_kind : builtinKind "pow" = none := by decide +kernel
theorem pow_plain : plainId "pow" = true := by decide +kernel
theorem pow_entry : entryFor table "pow" = some Builtin.«pow» := entryFor_of_fast (by kernel_rfl)
theorem pow_args (a b c : Value) : argsOk "pow" ⟨[a, b, c], []⟩ := by unfold argsOk; kernel_rfl
theorem ipow_args (a b c : Value) : argsOk "int.__pow__" ⟨[a, b, c], []⟩ := by unfold argsOk; kernel_rfl
section
variable {prog : Program} {w : World} {A : Around} {E : Value → Shared → Prop} {s : Shared} {a b c : Int} {t u v : Tok} {Q : Value → Shared → Prop}
theorem call_pow3 (hc0 : 1 < c) (hb : 0 ≤ b) (h : ∀ t' k, Q (.int ((powMod ((a % (c.natAbs : Int)).toNat) b.natAbs c.natAbs : Nat) : Int) t') { s with toks := k }) :
    wpAny (model prog w) A (call (.builtin "pow") [.int a t, .int b u, .int c v]) Q E s := by
  refine call_function_entry pow_kind pow_plain pow_entry (pow_args _ _ _) ?_
  obtain ⟨hp, g, d, tk, os⟩ := s
  have hT : (⟨hp, g, d, tk, os⟩ : Shared).TypeIs (.int a t) "int" := rfl
  have f5 : Slot "int" (Str.ofString "__pow__") "int.__pow__" := slot_int_pow
  have f3 := f5.lookup
  have f4 := f5.bind (.int a t)
  repeat (any_goals (first | assumption | ((with_reducible show wpAny _ _ (call (Value.builtin "int.__pow__") _ _) _ _ _); refine call_gives slot_int_pow hT entry_int_pow (ipow_args _ _ _) (gives_pow3 a t b u c v (by simp; omega) (by simp; omega) (by omega) (by omega)) ?_; dsimp only [Made.post]) | wp_step))
  exact ⟨_, rfl, h _ _⟩
end
end Mine
end
section
open PySem PySem.W PyProof.Rows PySem.Calls
namespace Mine
open PySem.Builtin (powMod)
open PySem.Builtin.Int (intBits)
theorem powMod_go (b e m : Nat) : ∀ (k : Nat) (p : Nat), p = b ^ (e / 2 ^ k) % m →
    (List.range k).reverse.foldl (fun p i => if e.testBit i then p * p % m * b % m else p * p % m) p = b ^ e % m := by
  intro k
  induction k with
  | zero => intro p hp; simpa using hp
  | succ k ih =>
    intro p hp
    rw [List.range_succ, List.reverse_append, List.reverse_singleton, List.singleton_append, List.foldl_cons]
    refine ih _ ?_
    have hd : e / 2 ^ k = 2 * (e / 2 ^ (k + 1)) + (e / 2 ^ k) % 2 := by
      rw [Nat.pow_succ, ← Nat.div_div_eq_div_mul]; omega
    have hb : e.testBit k = decide ((e / 2 ^ k) % 2 = 1) := Nat.testBit_eq_decide_div_mod_eq
    have hpp : p * p % m = b ^ (2 * (e / 2 ^ (k + 1))) % m := by
      rw [hp, ← Nat.mul_mod, ← Nat.pow_add]; congr 2; omega
    by_cases h : (e / 2 ^ k) % 2 = 1
    · rw [hb, if_pos (by simpa using h), hd, h, Nat.pow_succ, hpp, Nat.mod_mul_mod]
    · have h0 : (e / 2 ^ k) % 2 = 0 := by omega
      rw [hb, if_neg (by simpa using h), hd, h0, Nat.add_zero, hpp]
theorem powMod_eq (b e m : Nat) : powMod b e m = b ^ e % m := by
  unfold powMod
  refine powMod_go b e m _ _ ?_
  have h : (e : Int).natAbs < 2 ^ intBits (e : Int) := intBits_le_iff.mp (Nat.le_refl _)
  have h2 : e / 2 ^ intBits (e : Int) = 0 := Nat.div_eq_of_lt (by simpa using h)
  rw [h2, Nat.pow_zero]
/-- pow(a, p - 2, p) -/
def pinv (a : Int) : Int := ((powMod ((a % (PP.natAbs : Int)).toNat) (PP - 2).natAbs PP.natAbs : Nat) : Int)
theorem pinv_eq (a : Int) : pinv a = (((a % PP).toNat ^ (PP - 2).toNat % PP.toNat : Nat) : Int) := by
  unfold pinv
  rw [powMod_eq]
  rfl
theorem pinv_in (a : Int) : In (pinv a) := by
  rw [pinv_eq]
  have h := Nat.mod_lt ((a % PP).toNat ^ (PP - 2).toNat) (show 0 < PP.toNat by decide)
  have e : ((PP.toNat : Nat) : Int) = PP := by decide
  exact ⟨by omega, by omega⟩
theorem pinv_bits (a : Int) : intBits (pinv a) ≤ 256 := in_bits (pinv_in a)
end Mine
end
section
open PySem PySem.W PyProof.Rows PySem.Calls
local macro_rules | `(tactic| walk_at "no such node") => `(tactic| fail "none")
local macro_rules | `(tactic| walk_at "no such node") => `(tactic| fail "none")
local macro_rules | `(tactic| walk_at "no such node") => `(tactic| fail "none")
local macro_rules | `(tactic| walk_at "no such node") => `(tactic| fail "none")
local macro_rules | `(tactic| walk_at "no such node") => `(tactic| fail "none")
local macro_rules | `(tactic| walk_at "no such node") => `(tactic| fail "none")
local macro_rules | `(tactic| walk_at "no such node") => `(tactic| fail "none")
local macro_rules | `(tactic| walk_at "no such node") => `(tactic| fail "none")
local macro_rules | `(tactic| walk_at "no such node") => `(tactic| fail "none")
local macro_rules | `(tactic| walk_at "no such node") => `(tactic| fail "none")
local macro_rules | `(tactic| walk_at "no such node") => `(tactic| fail "none")
local macro_rules | `(tactic| walk_at "no such node") => `(tactic| fail "none")
local macro_rules | `(tactic| walk_at "no such node") => `(tactic| fail "none")
local macro_rules | `(tactic| walk_at "no such node") => `(tactic| fail "none")
local macro_rules | `(tactic| walk_at "no such node") => `(tactic| fail "none")
local macro_rules | `(tactic| walk_at "no such node") => `(tactic| fail "none")
local macro_rules | `(tactic| walk_at "no such node") => `(tactic| fail "none")
local macro_rules | `(tactic| walk_at "no such node") => `(tactic| fail "none")
local macro_rules | `(tactic| walk_at "no such node") => `(tactic| fail "none")
local macro_rules | `(tactic| walk_at "no such node") => `(tactic| fail "none")
namespace Mine
open PySem.Builtin.Int (intBits)
open PySem.Builtin (powMod)
/-- a point as a value: one of the ledger's tuples or the top's own -/
inductive PtIn (news : List (Addr × Obj)) : Value → Int → Int → Prop
  | new {D : Addr} {x y : Int} {t1 t2 : Tok} {c : Nat} : (D, tup2 x y t1 t2 c) ∈ news → PtIn news (.ref D) x y
  | glob : PtIn news (.ref 159) GX GY
theorem PtIn.mono {news news' : List (Addr × Obj)} {v : Value} {x y : Int} (h : PtIn news v x y) (hs : ∀ p ∈ news, p ∈ news') : PtIn news' v x y := by
  cases h with
  | new hm => exact .new (hs _ hm)
  | glob => exact .glob
def laX (x1 x2 s : Int) : Int := fm (s * s - x1 - x2)
def laY (x1 y1 s x : Int) : Int := fm (s * (x1 - x) - y1)
def laS (x1 y1 x2 y2 : Int) : Int := fm ((y2 - y1) * pinv (fm (x2 - x1)))
def laT (x1 y1 : Int) : Int := fm (3 * x1 * x1 * pinv (2 * y1))
theorem call_pinv {prog : Program} {w : World} {A : Around} {E : Value → Shared → Prop} {s : Shared} {a b c : Int} {t u v : Tok} {Q : Value → Shared → Prop} (hb : b = PP - 2) (hc : c = PP) (h : ∀ t' k, intBits (pinv a) ≤ 256 → Q (.int (pinv a) t') { s with toks := k }) :
    wpAny (model prog w) A (call (.builtin "pow") [.int a t, .int b u, .int c v]) Q E s := by
  subst hb hc
  exact call_pow3 (by decide) (by decide) fun t' k => h t' k (pinv_bits a)
local macro_rules | `(tactic| bits_by_make) => `(tactic| first | with_reducible assumption | ((with_reducible apply intBits_pow_le); bits_by_make) | exact lit_bits (by decide +kernel))
local macro_rules | `(tactic| walk_at "call builtin:pow") => `(tactic| (k_here; (refine call_pinv (by rfl) (by rfl) ?_); intro t9 k9 hb9))
theorem la_add {v1 : Value} {D2 : Addr} {x1 y1 x2 y2 : Int} {u1 u2 : Tok} {d : Nat} (h1 : In x1) (h2 : In y1) (h3 : In x2) (h4 : In y2) (hne : x1 ≠ x2) : Ctx 166 [v1, .ref D2] (fun news => PtIn news v1 x1 y1 ∧ (D2, tup2 x2 y2 u1 u2 d) ∈ news) (Ret2 (fun x y => x = laX x1 x2 (laS x1 y1 x2 y2) ∧ y = laY x1 y1 (laS x1 y1 x2 y2) (laX x1 x2 (laS x1 y1 x2 y2)))) 1 := by
  unfold Ctx Ret2
  k_fill
  intro w mean mg mb dp un gd cn cs a ccd cl outer A₀ base h₀ L m news s Q E B F X N T hk hP hd hu hret
  obtain ⟨hP1, hP2⟩ := hP
  have hb1 := in_bits h1
  have hb2 := in_bits h2
  have hb3 := in_bits h3
  have hb4 := in_bits h4
  cases hP1 <;> (refine wpAny_call ?_; (k_dflt ktr_enter); k_steps) <;> first
    | exact absurd (by assumption) hne
    | exact ret2 hret (by assumption) (by assumption) (by k_mem) (by ktd_sub) (by kcu_lt) ⟨rfl, rfl⟩
theorem la_dbl {v1 : Value} {x1 y1 : Int} (h1 : In x1) (h2 : In y1) (hy : fm (y1 + y1) ≠ 0) : Ctx 166 [v1, v1] (fun news => PtIn news v1 x1 y1) (Ret2 (fun x y => x = laX x1 x1 (laT x1 y1) ∧ y = laY x1 y1 (laT x1 y1) (laX x1 x1 (laT x1 y1)))) 1 := by
  unfold Ctx Ret2
  k_fill
  intro w mean mg mb dp un gd cn cs a ccd cl outer A₀ base h₀ L m news s Q E B F X N T hk hP hd hu hret
  have hb1 := in_bits h1
  have hb2 := in_bits h2
  cases hP <;> (refine wpAny_call ?_; (k_dflt ktr_enter); k_steps) <;> first
    | exact absurd (by assumption) hy
    | exact absurd rfl (by assumption)
    | exact ret2 hret (by assumption) (by assumption) (by k_mem) (by ktd_sub) (by kcu_lt) ⟨rfl, rfl⟩
theorem la_none {v2 : Value} {x2 y2 : Int} : Ctx 166 [.none, v2] (fun news => PtIn news v2 x2 y2) (fun h₀ L m news s Q => ∀ (h' : Heap) (tk' : Nat), Fr h₀ L h' m → News h₀ L h' news → Q v2 { s with heap := h', toks := tk' }) 1 := by
  unfold Ctx
  k_fill
  intro w mean mg mb dp un gd cn cs a ccd cl outer A₀ base h₀ L m news s Q E B F X N T hk hP hd hu hret
  cases hP <;> (refine wpAny_call ?_; (k_dflt ktr_enter); k_steps) <;> exact hret _ _ (by assumption) (by assumption)
end Mine
end
section
open PySem PySem.W PyProof.Rows PySem.Calls
namespace Mine
open PySem.Builtin.Int (intBits)
/-- what the affine multiples are told to be, up to a top -/
structure AChain (G : Nat → Int → Int → Prop) (top : Nat) : Prop where
  one : G 1 GX GY
  ok : ∀ k x y, G k x y → In x ∧ In y
  dbl : ∀ k x y, G k x y → 1 ≤ k → 2 * k ≤ top → fm (y + y) ≠ 0 ∧ G (2 * k) (laX x x (laT x y)) (laY x y (laT x y) (laX x x (laT x y)))
  add : ∀ j i x1 y1 x2 y2, G j x1 y1 → G i x2 y2 → 1 ≤ j → j < i → j + i ≤ top → x1 ≠ x2 ∧ G (j + i) (laX x1 x2 (laS x1 y1 x2 y2)) (laY x1 y1 (laS x1 y1 x2 y2) (laX x1 x2 (laS x1 y1 x2 y2)))
/-- a point that lies above what stood -/
inductive PtAt (old news : List (Addr × Obj)) : Value → Int → Int → Prop
  | new {D : Addr} {x y : Int} {t1 t2 : Tok} {c : Nat} : (D, tup2 x y t1 t2 c) ∈ news → AllLt D old → PtAt old news (.ref D) x y
  | glob : PtAt old news (.ref 159) GX GY
theorem PtAt.ptIn {old news : List (Addr × Obj)} {v : Value} {x y : Int} (h : PtAt old news v x y) : PtIn news v x y := by
  cases h with
  | new hm _ => exact .new hm
  | glob => exact .glob
theorem PtAt.mono {old news news' : List (Addr × Obj)} {v : Value} {x y : Int} (h : PtAt old news v x y) (hs : ∀ p ∈ news, p ∈ news') : PtAt old news' v x y := by
  cases h with
  | new hm hl => exact .new (hs _ hm) hl
  | glob => exact .glob
structure LtS where
  c : Int
  ct : Tok
  f : Value
  p : Value
  led : List (Addr × Obj)
  j : Nat
  b : Nat
structure LtI (G : Nat → Int → Int → Prop) (k : Nat) (old : List (Addr × Obj)) (q : LtS) : Prop where
  c0 : 0 ≤ q.c
  num : (k : Int) = q.c * 2 ^ q.b + q.j
  jlt : q.j < 2 ^ q.b
  sub : ∀ p ∈ old, p ∈ q.led
  found : (q.j = 0 ∧ q.f = .none) ∨ (1 ≤ q.j ∧ ∃ x y, G q.j x y ∧ PtAt old q.led q.f x y)
  point : ∃ x y, G (2 ^ q.b) x y ∧ PtAt old q.led q.p x y ∧ (1 ≤ q.b → ∃ D t1 t2 c, q.p = .ref D ∧ (D, tup2 x y t1 t2 c) ∈ q.led)
theorem allLt_sub {D : Addr} : ∀ {a b : List (Addr × Obj)}, AllLt D b → (∀ p ∈ a, p ∈ b) → AllLt D a := by
  intro a b h hs
  refine allLt_of fun p hp => ?_
  exact ktn_ltOf h p (hs p hp)
abbrev RetP (G : Int → Int → Prop) (h₀ : Heap) (L : Addr) (m : Str → Option Value) (news : List (Addr × Obj)) (s : Shared) (Q : Value → Shared → Prop) : Prop :=
  ∀ (v : Value) (x y : Int) (h' : Heap) (tk' : Nat) (news' : List (Addr × Obj)), G x y → Fr h₀ L h' m → News h₀ L h' news' → (∀ p ∈ news, p ∈ news') → PtAt news news' v x y → Q v { s with heap := h', toks := tk' }
def Hold (P : Prop) : Prop := P
section
variable {prog : Program} {w : World} {A : Around} {E : Value → Shared → Prop} {Q : Flow → Shared → Prop} {s : Shared} {env : Env} {h₀ : Heap} {L : Addr}
theorem hold_while {σ : Type} {test : Expr} {body : List Stmt} {pos : Pos} {m₀ : Str → Option Value} (Led : σ → List (Addr × Obj)) (ps : σ → List (Str × Value)) (P : σ → Prop) (μ : σ → Nat) (c₀ : σ)
    (F : Fr h₀ L s.heap m₀) (N : News h₀ L s.heap (Led c₀)) (hk : Hold (∀ p ∈ ps c₀, m₀ p.1 = some p.2)) (hp : Hold (P c₀))
    (turn : Hold (∀ (c : σ) (u : Str → Option Value) h tk, P c → Fr h₀ L h (kstB (fun z => m₀ z) (ps c)) → News h₀ L h (Led c) →
      wpAny (model prog w) A (isTrue test env (eval test env)) (fun b s₂ =>
        if b = true then wpAny (model prog w) A (execs body env) (KswPost h₀ L s Led ps (fun _ => True) [] m₀ P μ Q c) E s₂ else Q .next s₂) E { s with heap := h, toks := tk }))
    (hE : PassesOwn (model prog w) A env E := by passes_own) :
    wpAny (model prog w) A (exec (.While test body [] pos) env) Q E s :=
  ksw_while Led ps (fun _ => True) [] P μ c₀ F N trivial hk hp (fun c u h tk _ hP FF NN => turn c u h tk hP FF NN) hE
end
theorem LtI.pow_le {G : Nat → Int → Int → Prop} {k : Nat} {old : List (Addr × Obj)} {q : LtS} (I : LtI G k old q) (hc : 0 < q.c) : 2 ^ q.b + q.j ≤ k := by
  have h1 := I.num
  have h2 : (1 : Int) * 2 ^ q.b ≤ q.c * 2 ^ q.b := Int.mul_le_mul_of_nonneg_right (by omega) (Int.le_of_lt (Int.pow_pos (by decide)))
  have e : ((2 ^ q.b : Nat) : Int) = (2 : Int) ^ q.b := by push_cast; rfl
  omega
theorem LtI.next {G : Nat → Int → Int → Prop} {k : Nat} {old led led' : List (Addr × Obj)} {c : Int} {ct ct' : Tok} {f f' p p' : Value} {j j' b : Nat} (I : LtI G k old ⟨c, ct, f, p, led, j, b⟩) (hc : 0 < c)
    (hj : (c.fmod 2 = 1 ∧ j' = j + 2 ^ b) ∨ (¬ c.fmod 2 = 1 ∧ j' = j)) (hs : ∀ p ∈ old, p ∈ led') (hf : (j' = 0 ∧ f' = .none) ∨ (1 ≤ j' ∧ ∃ x y, G j' x y ∧ PtAt old led' f' x y))
    (hp : ∃ x y D t1 t2 c, G (2 ^ (b + 1)) x y ∧ AllLt D old ∧ p' = .ref D ∧ (D, tup2 x y t1 t2 c) ∈ led') : LtI G k old ⟨c.fdiv 2, ct', f', p', led', j', b + 1⟩ := by
  have e2 : c.fdiv 2 = c / 2 := Int.fdiv_eq_ediv_of_nonneg _ (by decide)
  rw [Int.fmod_eq_emod_of_nonneg _ (by decide)] at hj
  have hn := I.num
  have hjl := I.jlt
  dsimp only at hn hjl
  have e : ((2 ^ b : Nat) : Int) = (2 : Int) ^ b := by push_cast; rfl
  have e3 : (2 : Int) ^ (b + 1) = 2 * 2 ^ b := by rw [Int.pow_succ, Int.mul_comm]
  have e4 : (2 : Nat) ^ (b + 1) = 2 * 2 ^ b := by rw [Nat.pow_succ, Nat.mul_comm]
  have e5 : c / 2 * (2 * (2 : Int) ^ b) = (2 * (c / 2)) * 2 ^ b := by rw [← Int.mul_assoc, Int.mul_comm (c / 2)]
  refine ⟨?_, ?_, ?_, hs, hf, ?_⟩
  · show 0 ≤ c.fdiv 2
    rw [e2]; omega
  · show (k : Int) = c.fdiv 2 * 2 ^ (b + 1) + j'
    rw [e2, e3, e5, hn]
    rcases hj with ⟨h1, rfl⟩ | ⟨h1, rfl⟩
    · have e6 : 2 * (c / 2) = c - 1 := by omega
      rw [e6, Int.sub_mul, Int.one_mul, Int.natCast_add, e]; omega
    · have e6 : 2 * (c / 2) = c := by omega
      rw [e6]
  · show j' < 2 ^ (b + 1)
    rw [e4]; omega
  · obtain ⟨x, y, D, t1, t2, d, h1, h2, rfl, h4⟩ := hp
    exact ⟨x, y, h1, .new h4 h2, fun _ => ⟨D, t1, t2, d, rfl, h4⟩⟩
theorem lt_less {c : Int} (hc : 0 < c) : (c.fdiv 2).toNat < c.toNat := by
  rw [Int.fdiv_eq_ediv_of_nonneg _ (by decide)]; omega
local macro_rules | `(tactic| ktf_call $c) => `(tactic| (k_dflt (refine' ctx_use $c ?k1 ?k2 ?k3 ?k4 ?k5 ?k6 ?k7 ?k8 ?k9 ?_; (case k1 => k_asm); (case k2 => k_asm); (case k3 => k_asm); (case k4 => k_asm); (case k5 => k_asm); (case k6 => first | exact rfl | assumption); (case k7 => first | assumption | exact trivial | k_mem | (refine And.intro ?ka ?kb; (case ka => (repeat (first | assumption | exact List.Mem.head _ | refine List.Mem.tail _ ?_))); (case kb => (repeat (first | assumption | exact List.Mem.head _ | refine List.Mem.tail _ ?_))))); (case k8 => ktr_room); (case k9 => ktr_units))))
theorem lt_call {G : Nat → Int → Int → Prop} {top : Nat} (C : AChain G top) (k : Nat) (x : Int) (t : Tok) (hx : x = (k : Int)) (hk1 : 1 ≤ k) (hk2 : 2 * k ≤ top) :
    Ctx 173 [.int x t, .ref 159] (fun _ => True) (RetP (G k)) 3 := by
  unfold Ctx RetP
  k_fill
  intro w mean mg mb dp un gd cn cs a ccd cl outer A₀ base h₀ L m news s Q E B F X N T hk hP hd hu hret
  refine wpAny_call ?_
  k_dflt ktr_enter
  k_with "exec While Compare cons nil" => ((rename Fr _ _ _ _ => lF); (rename News _ _ _ _ => lN); (with_unfolding_all refine' hold_while (σ := LtS) LtS.led (fun q => [(Str.ofString "count", Value.int q.c q.ct), (Str.ofString "found", q.f), (Str.ofString "point", q.p)]) (LtI G k news) (fun q => q.c.toNat) ⟨x, t, .none, .ref 159, news, 0, 0⟩ lF lN ?kk ?kp ?kturn))
  k_with "call ref" => fail "stop"
  k_steps
  · intro p hp
    simp only [List.mem_cons, List.not_mem_nil, or_false] at hp
    rcases hp with rfl | rfl | rfl <;> (with_unfolding_all rfl)
  · exact ⟨by show (0 : Int) ≤ x; omega, by show (k : Int) = x * 2 ^ 0 + (0 : Nat); omega, by show 0 < 2 ^ 0; decide, fun _ h => h, Or.inl ⟨rfl, rfl⟩, ⟨GX, GY, C.one, .glob, fun h => absurd h (by show ¬ 1 ≤ 0; decide)⟩⟩
  unfold Hold
  intro q u hh tkk qI FF NN
  obtain ⟨c, ct, f, p, led, j, b⟩ := q
  dsimp only at FF NN
  k_fold
  k_steps
  · have hc : 0 < c := by assumption
    have hodd : c.fmod 2 = 1 := by assumption
    have hpl := qI.pow_le hc
    have hf := qI.found
    have hp := qI.point
    have hjl := qI.jlt
    have hsub := qI.sub
    dsimp only at hpl hf hp hjl hsub
    obtain ⟨px, py, hG, hpt, hp1⟩ := hp
    have hpin := C.ok _ _ _ hG
    have e4 : (2 : Nat) ^ (b + 1) = 2 * 2 ^ b := by rw [Nat.pow_succ, Nat.mul_comm]
    obtain ⟨hd1, hd2⟩ := C.dbl _ _ _ hG (by omega) (by omega)
    rw [← e4] at hd2
    rcases hf with ⟨hj0, rfl⟩ | ⟨hj1, fx, fy, hGf, hft⟩
    · have hpi := hpt.ptIn
      ktf_call (la_none (x2 := px) (y2 := py))
      intro h1' tk1 F1 N1
      k_steps
      ktf_call (la_dbl (x1 := px) (y1 := py) hpin.1 hpin.2 hd1)
      intro D2 x2 y2 a1 a2 c2 h2' tk2 hxy F2 N2 l2
      obtain ⟨rfl, rfl⟩ := hxy
      k_steps
      exact ksw_end (⟨c.fdiv 2, _, p, .ref D2, _, j + 2 ^ b, b + 1⟩ : LtS) (by assumption) (by assumption) (fun _ h => h) trivial (by intro q hq; simp only [List.mem_cons, List.not_mem_nil, or_false] at hq; rcases hq with rfl | rfl | rfl <;> (with_unfolding_all rfl)) (by intro z h2 _; have a1 : z ≠ Str.ofString "count" := h2 _ (.head _); have a2 : z ≠ Str.ofString "found" := h2 _ (.tail _ (.head _)); have a3 : z ≠ Str.ofString "point" := h2 _ (.tail _ (.tail _ (.head _))); simp only [kstB, if_neg a1, if_neg a2, if_neg a3])
        (qI.next hc (.inl ⟨hodd, rfl⟩) (fun p hp => .tail _ (hsub p hp)) (.inr ⟨by omega, px, py, by rw [hj0, Nat.zero_add]; exact hG, hpt.mono fun p hp => .tail _ hp⟩) ⟨_, _, D2, _, _, _, hd2, allLt_sub l2 hsub, rfl, .head _⟩) (lt_less hc)
    · obtain ⟨D1, u1, u2, d, rfl, hm1⟩ := hp1 (by rcases Nat.eq_zero_or_pos b with h0 | h0
                                                  · rw [h0] at hjl; omega
                                                  · exact h0)
      have hfin := C.ok _ _ _ hGf
      obtain ⟨ha1, ha2⟩ := C.add _ _ _ _ _ _ hGf hG hj1 hjl (by omega)
      have hfi := hft.ptIn
      ktf_call (la_add (x1 := fx) (y1 := fy) (x2 := px) (y2 := py) hfin.1 hfin.2 hpin.1 hpin.2 ha1)
      intro D2 x2 y2 a1 a2 c2 h2' tk2 hxy F2 N2 l2
      obtain ⟨rfl, rfl⟩ := hxy
      k_steps
      have hpi := (hpt.mono (news' := (D2, tup2 (laX fx px (laS fx fy px py)) (laY fx fy (laS fx fy px py) (laX fx px (laS fx fy px py))) a1 a2 c2) :: led) fun p hp => .tail _ hp).ptIn
      ktf_call (la_dbl (x1 := px) (y1 := py) hpin.1 hpin.2 hd1)
      intro D3 x3 y3 b1 b2 c3 h3' tk3 hxy F3 N3 l3
      obtain ⟨rfl, rfl⟩ := hxy
      k_steps
      exact ksw_end (⟨c.fdiv 2, _, .ref D2, .ref D3, _, j + 2 ^ b, b + 1⟩ : LtS) (by assumption) (by assumption) (fun _ h => h) trivial (by intro q hq; simp only [List.mem_cons, List.not_mem_nil, or_false] at hq; rcases hq with rfl | rfl | rfl <;> (with_unfolding_all rfl)) (by intro z h2 _; have a1 : z ≠ Str.ofString "count" := h2 _ (.head _); have a2 : z ≠ Str.ofString "found" := h2 _ (.tail _ (.head _)); have a3 : z ≠ Str.ofString "point" := h2 _ (.tail _ (.tail _ (.head _))); simp only [kstB, if_neg a1, if_neg a2, if_neg a3])
        (qI.next hc (.inl ⟨hodd, rfl⟩) (fun p hp => .tail _ (.tail _ (hsub p hp))) (.inr ⟨by omega, _, _, ha2, .new (.tail _ (.head _)) (allLt_sub l2 hsub)⟩) ⟨_, _, D3, _, _, _, hd2, allLt_sub l3.2 hsub, rfl, .head _⟩) (lt_less hc)
  · have hc : 0 < c := by assumption
    have hodd : ¬ c.fmod 2 = 1 := by assumption
    have hpl := qI.pow_le hc
    have hf := qI.found
    have hp := qI.point
    have hjl := qI.jlt
    have hsub := qI.sub
    dsimp only at hpl hf hp hjl hsub
    obtain ⟨px, py, hG, hpt, hp1⟩ := hp
    have hpin := C.ok _ _ _ hG
    have e4 : (2 : Nat) ^ (b + 1) = 2 * 2 ^ b := by rw [Nat.pow_succ, Nat.mul_comm]
    obtain ⟨hd1, hd2⟩ := C.dbl _ _ _ hG (by omega) (by omega)
    rw [← e4] at hd2
    have hpi := hpt.ptIn
    ktf_call (la_dbl (x1 := px) (y1 := py) hpin.1 hpin.2 hd1)
    intro D2 x2 y2 a1 a2 c2 h2' tk2 hxy F2 N2 l2
    obtain ⟨rfl, rfl⟩ := hxy
    k_steps
    exact ksw_end (⟨c.fdiv 2, _, f, .ref D2, _, j, b + 1⟩ : LtS) (by assumption) (by assumption) (fun _ h => h) trivial (by intro q hq; simp only [List.mem_cons, List.not_mem_nil, or_false] at hq; rcases hq with rfl | rfl | rfl <;> (with_unfolding_all rfl)) (by intro z h2 _; have a1 : z ≠ Str.ofString "count" := h2 _ (.head _); have a2 : z ≠ Str.ofString "found" := h2 _ (.tail _ (.head _)); have a3 : z ≠ Str.ofString "point" := h2 _ (.tail _ (.tail _ (.head _))); simp only [kstB, if_neg a1, if_neg a2, if_neg a3])
      (qI.next hc (.inr ⟨hodd, rfl⟩) (fun p hp => .tail _ (hsub p hp)) (hf.imp id fun ⟨h1, x, y, h2, h3⟩ => ⟨h1, x, y, h2, h3.mono fun p hp => .tail _ hp⟩) ⟨_, _, D2, _, _, _, hd2, allLt_sub l2 hsub, rfl, .head _⟩) (lt_less hc)
  · have hc : ¬ 0 < c := by assumption
    have hc0 := qI.c0
    have hn := qI.num
    have hf := qI.found
    have hsub := qI.sub
    dsimp only at hc0 hn hf hsub
    have ec : c = 0 := by omega
    subst ec
    rw [Int.zero_mul, Int.zero_add] at hn
    have ej : k = j := by omega
    subst ej
    rcases hf with ⟨hj0, _⟩ | ⟨hj1, fx, fy, hGf, hft⟩
    · omega
    · exact hret f fx fy _ _ led hGf (by assumption) (by assumption) hsub hft
end Mine
end
section
open PySem PySem.W PyProof.Rows PySem.Calls
namespace Mine
open PySem.Builtin.Int (intBits)
/-- the number that bytes spell, big end first -/
def bval (b : Array UInt8) : Int := ((b.toList.foldl (fun (acc : Nat) (c : UInt8) => acc * 256 + c.toNat) 0 : Nat) : Int)
def lval (l : List Int) : Int := l.foldr (fun c acc => acc * 256 + c) 0
theorem lval_little : ∀ (n : Nat) (x : Int), lval (KTBy.little n x) = x % 256 ^ n
  | 0, x => by show (0 : Int) = x % 256 ^ 0; rw [Int.pow_zero, Int.emod_one]
  | n + 1, x => by
    show lval (KTBy.little n (x / 256)) * 256 + x % 256 = _
    rw [lval_little n]
    have e : (256 : Int) ^ (n + 1) = 256 * 256 ^ n := by rw [Int.pow_succ, Int.mul_comm]
    have e2 : x / (256 * 256 ^ n) = x / 256 / 256 ^ n := by
      first
        | rw [Int.ediv_ediv_eq_ediv_mul _ (by decide)]
        | rw [Int.ediv_ediv (by decide)]
        | rw [Int.ediv_ediv_of_nonneg (by decide)]
    rw [e, Int.emod_def x (256 * 256 ^ n), e2, Int.emod_def (x / 256) (256 ^ n), Int.sub_mul]
    have e3 : (256 : Int) ^ n * (x / 256 / 256 ^ n) * 256 = 256 * 256 ^ n * (x / 256 / 256 ^ n) := by rw [Int.mul_comm, ← Int.mul_assoc]
    rw [e3]
    omega
theorem foldr_cast : ∀ l : List UInt8, ((l.foldr (fun (c : UInt8) (acc : Nat) => acc * 256 + c.toNat) 0 : Nat) : Int) = lval (l.map fun c => ((c.toNat : Nat) : Int))
  | [] => rfl
  | c :: r => by
    show (((r.foldr (fun (c : UInt8) (acc : Nat) => acc * 256 + c.toNat) 0) * 256 + c.toNat : Nat) : Int) = lval (r.map fun c => ((c.toNat : Nat) : Int)) * 256 + ((c.toNat : Nat) : Int)
    rw [← foldr_cast r]
    push_cast
    rfl
theorem bval_low {x : Int} {n : Nat} (h0 : 0 ≤ x) (h1 : x < 256 ^ n) : bval (KTBy.low x n).reverse.toArray = x := by
  unfold bval
  show (((KTBy.low x n).reverse.foldl (fun (acc : Nat) (c : UInt8) => acc * 256 + c.toNat) 0 : Nat) : Int) = x
  rw [List.foldl_reverse, foldr_cast, KTBy.low_ints h0 h1, ← KTBy.little_eq, lval_little, Int.emod_eq_of_lt h0 h1]
theorem bval_lt (b : Array UInt8) : 0 ≤ bval b ∧ bval b < 256 ^ b.size := by
  unfold bval
  have h := KFB.fold_lt b.toList 0
  rw [Nat.zero_add, Nat.one_mul, Array.length_toList] at h
  have h2 : ((b.toList.foldl (fun (acc : Nat) (c : UInt8) => acc * 256 + c.toNat) 0 : Nat) : Int) < ((256 ^ b.size : Nat) : Int) := by exact_mod_cast h
  refine ⟨by omega, ?_⟩
  rw [KTBy.p256]
  exact h2
section
variable {prog : Program} {w : World} {M : Model} {A : Around} {E : Value → Shared → Prop} {s : Shared} {x : Int} {k : Nat} {t u v : Tok}
theorem bits_le256 (h0 : 0 ≤ x) (h1 : x < 256 ^ k) : intBits x ≤ 8 * k := KTBy.bits_le rfl h0 h1
/-- x.to_bytes(k, 'big') -/
theorem tobytes_big {y : Int} {Q : Value → Shared → Prop} (hy : y = (k : Int)) (hk : k ≤ 1000) (h0 : 0 ≤ x) (h1 : x < 256 ^ k) (h : ∀ (b : Array UInt8) t' k', bval b = x → b.size = k → Q (.bytes b t') { s with toks := k' }) :
    wpAny (model prog w) A (call (.builtin "int.to_bytes") [.int x t, .int y u, .str (PySem.Str.ofString "big") v]) Q E s := by
  subst hy
  have hb := bits_le256 h0 h1
  refine wpAny_call_entry KTBy.slot (typeIs_int s x t) KTBy.entry ?_ (KTBy.args _ _ _)
  show wpAny _ _ (Builtin.Int.intOfSelf (.int x t) >>= fun y => _) _ _ s
  refine wpAny_bind (wpAny_of_eq (a := x) rfl ?_)
  show wpAny _ _ (Builtin.Int.intBindNamed "to_bytes" ["length", "byteorder", "signed"] 0 2 [.int (k : Int) u, .str (PySem.Str.ofString "big") v] [] >>= fun l => _) _ _ s
  refine wpAny_bind (wpAny_of_eq (a := [some (.int (k : Int) u), some (.str (PySem.Str.ofString "big") v), none]) (by kernel_rfl) ?_)
  show wpAny _ _ (Builtin.Int.intIndex "int.to_bytes" (.int (k : Int) u) >>= fun n => _) _ _ s
  refine wpAny_bind (wpAny_of_eq (a := (k : Int)) rfl ?_)
  have c1 : (decide ((k : Int) < -(2 ^ 63 : Int)) || decide ((k : Int) ≥ 2 ^ 63)) = false := by
    rw [decide_eq_false (show ¬ ((k : Int) < -(2 ^ 63 : Int)) by omega), decide_eq_false (show ¬ ((k : Int) ≥ 2 ^ 63) by omega)]; rfl
  have c2 : (decide (x < 0) && !false) = false := by rw [decide_eq_false (show ¬ x < 0 by omega)]; rfl
  have c3 : (x != 0 && decide ((intBits x : Int) > 8 * (k : Int))) = false := by rw [decide_eq_false (show ¬ ((intBits x : Int) > 8 * (k : Int)) by omega), Bool.and_false]
  refine KTBy.if_not c1 ?_
  refine wpAny_bind (wpAny_of_eq (a := PySem.Str.ofString "big") (by kernel_rfl) ?_)
  refine wpAny_bind (wpAny_of_eq (a := false) rfl ?_)
  refine wpAny_bind (wpAny_of_eq (a := false) (by kernel_rfl) ?_)
  refine wpAny_ite_false (decide_eq_false (show ¬ ((k : Int) < 0) by omega)) ?_
  refine wpAny_ite_false (decide_eq_false (show ¬ ((k : Int) > 2 ^ 63 - 1 - 33) by omega)) ?_
  refine wpAny_ite_false (decide_eq_false (show ¬ ((k : Int) > (sizeLine : Int)) by rw [sizeLine_eq]; omega)) ?_
  refine KTBy.if_not c2 ?_
  refine KTBy.if_not c3 ?_
  refine wpAny_bind (wpAny_mkBytes (wpAny_pure ⟨_, rfl, h (KTBy.low x (Int.toNat (k : Int))).reverse.toArray _ _ (by rw [Int.toNat_natCast]; exact bval_low h0 h1) (by simp [KTBy.low_length])⟩) (by show (List.reverse (KTBy.low x (Int.toNat (k : Int)))).length ≤ sizeLine; rw [List.length_reverse, KTBy.low_length, Int.toNat_natCast, sizeLine_eq]; omega))
theorem grown_big {z : Int} {Q : Value → Shared → Prop} (hn : intBits z ≤ 10000) (h : Q (.int z s.toks) { s with toks := s.toks + 1 }) : wpAny M A (mkIntGrown z) Q E s := by
  unfold mkIntGrown
  have hl : ¬ (z.natAbs.log2 ≥ bitsLine) := by
    have h1 := intBits_le_iff.mp hn
    have hb : bitsLine = 134217728 := by first | rfl | decide
    rcases Nat.eq_zero_or_pos z.natAbs with h0 | h0
    · rw [h0, hb]; decide
    · have h2 := (Nat.log2_lt (by omega)).mpr h1
      omega
  rw [if_neg hl]
  exact wpAny_mkInt h
theorem frombytes_tree {b : Array UInt8} {P : Fin → Shared → Prop} (hl : b.size ≤ 1000) (h : P (.done (.ret (.int (bval b) s.toks))) { s with toks := s.toks + 1 }) :
    wpAny M A (Builtin.«int.from_bytes» ⟨[.type "int", .bytes b t, .str (PySem.Str.ofString "big") u], []⟩) P E s := by
  have hv := bval_lt b
  have hb : intBits (bval b) ≤ 10000 := Nat.le_trans (bits_le256 hv.1 hv.2) (by omega)
  unfold Builtin.«int.from_bytes»
  refine wpAny_bind (wpAny_of_eq (a := true) KFB.type_int ?_)
  refine KFB.if_not rfl ?_
  refine wpAny_bind (wpAny_of_eq (a := true) F.conv_sub_int ?_)
  refine KFB.if_not rfl ?_
  refine wpAny_bind (wpAny_of_eq (a := [some (.bytes b t), some (.str (PySem.Str.ofString "big") u), none]) (by kernel_rfl) ?_)
  refine wpAny_bind (wpAny_of_eq (a := PySem.Str.ofString "big") (by kernel_rfl) ?_)
  refine wpAny_bind (wpAny_of_eq (a := false) rfl ?_)
  refine wpAny_bind (wpAny_of_eq (a := false) (by kernel_rfl) ?_)
  refine wpAny_bind (wpAny_of_eq (a := b) rfl ?_)
  show wpAny _ _ (mkIntGrown (b.toList.foldl (fun (acc : Int) (b : UInt8) => acc * 256 + (b.toNat : Int)) ((0 : Nat) : Int)) >>= fun v => _) _ _ _
  rw [KFB.foldI_eq]
  refine wpAny_bind (grown_big hb ?_)
  refine KFB.if_so (by decide +kernel) ?_
  exact wpAny_bind (wpAny_pure (wpAny_pure h))
theorem frombytes_big {h₀ : Heap} {L : Addr} {news : List (Addr × Obj)} {D : Addr} {b : Array UInt8} {Q : Value → Shared → Prop} (N : News h₀ L s.heap news) (hm : (D, KFB.bound) ∈ news) (hl : b.size ≤ 1000)
    (h : ∀ t' k, Q (.int (bval b) t') { s with toks := k }) : wpAny (model prog w) A (call (.ref D) [.bytes b t, .str (PySem.Str.ofString "big") u]) Q E s :=
  KFB.call_of (KFB.at_of N hm) (fun z => frombytes_tree hl z) (h _ _)
end
end Mine
end
section
open PySem PySem.W PyProof.Rows PySem.Calls
namespace Mine
theorem rj_slot : Slot "bytes" "rjust" "bytes.rjust" :=
  .of (owner := "bytes") (n := "rjust") (by rw [typeLookup_type, builtinLookup_eq_fast]; kernel_rfl) (by decide +kernel) (by decide +kernel) (by decide +kernel)
    (by first | exact .inl (by decide +kernel) | exact .inr (by decide +kernel)) (by rw [isSubtype_type]; kernel_rfl)
theorem rj_type : typeOf (.builtin "bytes.rjust") = pure (.type "method_descriptor") := by show builtinType _ = _; rw [builtinType_eq_fast]; kernel_rfl
theorem rj_entry : entryFor table "bytes.rjust" = some Builtin.«bytes.rjust» := entryFor_of_fast (by kernel_rfl)
theorem rj_args (a b c : Value) : argsOk "bytes.rjust" ⟨[a, b, c], []⟩ := by unfold argsOk; kernel_rfl
theorem rj_gives (b : Array UInt8) (t u v : Tok) (hb : b.size < 32) : Gives (Builtin.«bytes.rjust» ⟨[.bytes b t, .int 32 u, .bytes #[0] v], []⟩) (.bytes (Array.replicate (32 - b.size) 0 ++ b ++ Array.replicate ((32 - b.size) - (32 - b.size)) 0)) :=
  .of_wp fun M A E s Q h => by
    obtain ⟨hp, g, d, tk, os⟩ := s
    wp_walk
    rw [if_neg (by omega)]
    dsimp only
    rw [if_neg (by decide)]
    refine wpAny_bind (m := Builtin.Bytes.Kind.bytes.new _) ?_
    unfold Builtin.Bytes.Kind.new
    dsimp only
    exact wpAny_mkBytes (wpAny_pure ⟨_, rfl, h.2⟩) (by rw [sizeLine_eq]; simp; omega)
theorem rj_gives2 (b : Array UInt8) (t u v : Tok) (hb : b.size = 32) : Gives (Builtin.«bytes.rjust» ⟨[.bytes b t, .int 32 u, .bytes #[0] v], []⟩) (.val (.bytes b t)) :=
  .of_wp fun M A E s Q h => by
    obtain ⟨hp, g, d, tk, os⟩ := s
    wp_walk
    exact ⟨_, rfl, h⟩
section
variable {prog : Program} {w : World} {M : Model} {A : Around} {E : Value → Shared → Prop} {s : Shared} {b : Array UInt8} {t u v : Tok}
theorem rj_noRef : ∀ a, Value.bytes b t = .ref a → ∃ o, s.heap.get? a = some o ∧ o.dict = none := fun _ e => nomatch e
theorem rj_method {pl : Sem Bool} {Q : Value × List Value → Shared → Prop} (h : Q (.builtin "bytes.rjust", [.bytes b t]) s) : wpAny M A (getMethod (.bytes b t) "rjust" pl) Q E s := by
  with_reducible exact getMethod_builtin (typeIs_bytes _ _ _) FB.plainAttrs_bytes rj_slot rj_type rj_noRef h
theorem rj_call {Q : Value → Shared → Prop} (hb : b.size ≤ 32) (h : ∀ (b' : Array UInt8) t' k, b'.size = 32 → Q (.bytes b' t') { s with toks := k }) :
    wpAny (model prog w) A (call (.builtin "bytes.rjust") [.bytes b t, .int 32 u, .bytes #[0] v]) Q E s := by
  rcases Nat.lt_or_eq_of_le hb with h1 | h1
  · exact call_gives rj_slot (typeIs_bytes _ _ _) rj_entry (rj_args _ _ _) (rj_gives b t u v h1) ⟨by rw [sizeLine_eq]; simp; omega, h _ _ _ (by simp; omega)⟩
  · exact call_gives rj_slot (typeIs_bytes _ _ _) rj_entry (rj_args _ _ _) (rj_gives2 b t u v h1) (h b t s.toks h1)
end
abbrev RetY (P : Array UInt8 → Prop) (h₀ : Heap) (L : Addr) (m : Str → Option Value) (news : List (Addr × Obj)) (s : Shared) (Q : Value → Shared → Prop) : Prop :=
  ∀ (b : Array UInt8) (t : Tok) (h' : Heap) (tk' : Nat), P b → Fr h₀ L h' m → News h₀ L h' news → Q (.bytes b t) { s with heap := h', toks := tk' }
theorem retY {P : Array UInt8 → Prop} {h₀ : Heap} {L : Addr} {m : Str → Option Value} {news news' : List (Addr × Obj)} {s : Shared} {Q : Value → Shared → Prop} {b : Array UInt8} {t : Tok} {h' : Heap} {tk' : Nat}
  (hret : RetY P h₀ L m news s Q) (F : Fr h₀ L h' m) (N : News h₀ L h' news') (hs : ∀ p ∈ news, p ∈ news') (hp : P b) : Q (.bytes b t) { s with heap := h', toks := tk' } :=
  hret b t h' tk' hp F (fun p hp => N p (hs p hp))
end Mine
end
section
open PySem PySem.W PyProof.Rows PySem.Calls
local macro_rules | `(tactic| walk_at "no such node") => `(tactic| fail "none")
local macro_rules | `(tactic| walk_at "no such node") => `(tactic| fail "none")
local macro_rules | `(tactic| walk_at "no such node") => `(tactic| fail "none")
local macro_rules | `(tactic| walk_at "no such node") => `(tactic| fail "none")
local macro_rules | `(tactic| walk_at "no such node") => `(tactic| fail "none")
local macro_rules | `(tactic| walk_at "no such node") => `(tactic| fail "none")
local macro_rules | `(tactic| walk_at "no such node") => `(tactic| fail "none")
local macro_rules | `(tactic| walk_at "no such node") => `(tactic| fail "none")
local macro_rules | `(tactic| walk_at "no such node") => `(tactic| fail "none")
local macro_rules | `(tactic| walk_at "no such node") => `(tactic| fail "none")
local macro_rules | `(tactic| walk_at "no such node") => `(tactic| fail "none")
local macro_rules | `(tactic| walk_at "no such node") => `(tactic| fail "none")
local macro_rules | `(tactic| walk_at "no such node") => `(tactic| fail "none")
local macro_rules | `(tactic| walk_at "no such node") => `(tactic| fail "none")
local macro_rules | `(tactic| walk_at "no such node") => `(tactic| fail "none")
local macro_rules | `(tactic| walk_at "no such node") => `(tactic| fail "none")
local macro_rules | `(tactic| walk_at "no such node") => `(tactic| fail "none")
local macro_rules | `(tactic| walk_at "no such node") => `(tactic| fail "none")
local macro_rules | `(tactic| walk_at "no such node") => `(tactic| fail "none")
local macro_rules | `(tactic| walk_at "no such node") => `(tactic| fail "none")
namespace Mine
open PySem.Builtin.Int (intBits)
local macro_rules | `(tactic| walk_at "getMethod bytes") => `(tactic| (k_here; (refine rj_method ?_)))
local macro_rules | `(tactic| walk_at "call builtin:bytes.rjust") => `(tactic| (k_here; (refine rj_call (by assumption) ?_); intro b9 t9 k9 hb9))
local macro_rules | `(tactic| walk_at "call ref") => `(tactic| (k_here; (with_reducible show wpAny _ _ (call (Value.ref _) [Value.bytes _ _, Value.str _ _]) _ _ _); kfb_any; k_dflt (refine frombytes_big (by k_asm) (by k_mem) (Nat.le_trans (by assumption) (by decide : 32 ≤ 1000)) ?_); intro t9 k9))
theorem be_call (b : Array UInt8) (t : Tok) (hb : b.size ≤ 32) : Ctx 21 [.bytes b t] (fun _ => True) (RetI (· = bval b)) 1 := by
  unfold Ctx RetI
  k_fill
  intro w mean mg mb dp un gd cn cs a ccd cl outer A₀ base h₀ L m news s Q E B F X N T hk hP hd hu hret
  refine wpAny_call ?_
  k_dflt ktr_enter
  k_steps
  exact retI hret (by assumption) (by assumption) (by first | exact fun _ h => h | ktd_sub) rfl
theorem tb_call (x : Int) (t : Tok) (h0 : 0 ≤ x) (h1 : x < NN) : Ctx 28 [.int x t] (fun _ => True) (RetY fun b => b.size ≤ 32) 1 := by
  unfold Ctx RetY
  k_fill
  intro w mean mg mb dp un gd cn cs a ccd cl outer A₀ base h₀ L m news s Q E B F X N T hk hP hd hu hret
  refine wpAny_call ?_
  k_dflt ktr_enter
  have hb : intBits x ≤ 256 := bits_of_natAbs_le (b := NN) (by omega) (lit_bits (by decide +kernel))
  have hx : x < 256 ^ ((intBits x + 7) / 8) := by
    have h2 := intBits_le_iff.mp (Nat.le_refl (intBits x))
    have h3 : (2 : Nat) ^ intBits x ≤ 2 ^ (8 * ((intBits x + 7) / 8)) := Nat.pow_le_pow_right (by decide) (by omega)
    rw [Nat.pow_mul] at h3
    rw [KTBy.p256]
    have h4 : ((256 ^ ((intBits x + 7) / 8) : Nat) : Int) = (((2 ^ 8) ^ ((intBits x + 7) / 8) : Nat) : Int) := rfl
    rw [h4]
    omega
  k_with "call builtin:int.to_bytes" => fail "stop"
  k_steps
  · have e : ((intBits x : Int) + 7).fdiv 8 = (((intBits x + 7) / 8 : Nat) : Int) := by rw [Int.fdiv_eq_ediv_of_nonneg _ (by decide)]; omega
    refine tobytes_big e (by omega) h0 hx ?_
    intro b t' k' hb1 hb2
    k_steps
    exact retY hret (by assumption) (by assumption) (by first | exact fun _ h => h | ktd_sub) (by omega)
  · have hz : ((intBits x : Int) + 7).fdiv 8 = 0 := by assumption
    rw [Int.fdiv_eq_ediv_of_nonneg _ (by decide)] at hz
    have hz2 : intBits x ≤ 0 := by omega
    have hz3 := intBits_le_iff.mp hz2
    refine tobytes_big (k := 1) rfl (by decide) h0 (by omega) ?_
    intro b t' k' hb1 hb2
    k_steps
    exact retY hret (by assumption) (by assumption) (by first | exact fun _ h => h | ktd_sub) (by omega)
theorem pad_call (b : Array UInt8) (t : Tok) (hb : b.size ≤ 32) : Ctx 88 [.bytes b t] (fun _ => True) (RetY fun b => b.size ≤ 32) 1 := by
  unfold Ctx RetY
  k_fill
  intro w mean mg mb dp un gd cn cs a ccd cl outer A₀ base h₀ L m news s Q E B F X N T hk hP hd hu hret
  refine wpAny_call ?_
  k_dflt ktr_enter
  k_steps
  exact retY hret (by assumption) (by assumption) (by first | exact fun _ h => h | ktd_sub) (by omega)
def clow (x : Int) : Int := if (-x).fmod NN < x then (-x).fmod NN else x
theorem clow_call (x : Int) (t : Tok) (h0 : intBits x ≤ 300) : Ctx 158 [.int x t] (fun _ => True) (RetI (· = clow x)) 1 := by
  unfold Ctx RetI
  k_fill
  intro w mean mg mb dp un gd cn cs a ccd cl outer A₀ base h₀ L m news s Q E B F X N T hk hP hd hu hret
  refine wpAny_call ?_
  k_dflt ktr_enter
  k_steps
  exact retI hret (by assumption) (by assumption) (by first | exact fun _ h => h | ktd_sub) rfl
end Mine
end
section
open PySem PySem.W PyProof.Rows PySem.Calls
namespace Mine
open PySem.Builtin.Int (intBits)
/-- the mac that is handed in answers every question with the nonce -/
structure MacOK (fm : Addr) (led : List (Addr × Obj)) (k : Int) : Prop where
  fn : ∃ oc od fd sl, (fm, (⟨oc, od, .func fd, sl⟩ : Obj)) ∈ led
  use : ∀ (a b : Array UInt8) (t1 t2 : Tok), Ctx fm [.bytes a t1, .bytes b t2] (fun news => ∀ p ∈ led, p ∈ news) (RetY fun r => bval r = k ∧ r.size = 32) 1
theorem sub_trans {a b c : List (Addr × Obj)} (h1 : ∀ p ∈ a, p ∈ b) (h2 : ∀ p ∈ b, p ∈ c) : ∀ p ∈ a, p ∈ c := fun p hp => h2 p (h1 p hp)
theorem MacOK.fnAt {fm L : Addr} {led news : List (Addr × Obj)} {k : Int} {h₀ h : Heap} (H : MacOK fm led k) (N : News h₀ L h news) (hs : ∀ p ∈ led, p ∈ news) : FnAt fm h := by
  obtain ⟨oc, od, fd, sl, hm⟩ := H.fn
  exact FnAt.of N (hs _ hm)
theorem add_by {prog : Program} {w : World} {A : Around} {E : Value → Shared → Prop} {s : Shared} {b c : Array UInt8} {t u : Tok} {Q : Value → Shared → Prop} {m n : Nat} (hb : b.size ≤ m) (hc : c.size ≤ n) (hmn : m + n ≤ 1000)
    (h : ∀ (x : Array UInt8) t' k, x.size ≤ m + n → Q (.bytes x t') { s with toks := k }) : wpAny (model prog w) A (binaryOp .Add (.bytes b t) (.bytes c u)) Q E s :=
  KBy.add_bytes (by omega) fun t' k => h _ t' k (by rw [Array.size_append]; omega)
local macro_rules | `(tactic| walk_at "binaryOp Add bytes bytes") => `(tactic| (k_here; (refine add_by (by first | assumption | exact Nat.le_refl _) (by first | assumption | exact Nat.le_refl _) (by decide) ?_); intro b9 t9 k9 hb9))
local macro_rules | `(tactic| ktr_enter) => `(tactic| (refine' code_def ?k1 ?k2 ?k3 ?k4 ?k5 ?kA ?kF ?kK ?k6 ?k7 ?k8 ?k9 ?kB ?_ ?c2 ?c3 ?c4 ?c5; (case kA => exact rfl); (case kF => exact rfl); (case kK => first | exact rfl | assumption); (case k1 => k_asm); (case k2 => k_asm); (case k3 => k_asm); (case k4 => k_asm); (case k5 => k_asm); (case k6 => k_is); (case k7 => k_is); (case k8 => ktr_room); (case k9 => exact BindsTo.of_eq rfl); (case c5 => decide); (case kB => exact locs rfl); (case c2 => exact rfl); (case c3 => exact rfl); (case c4 => exact rfl); k_whole; intro g' L' h' FG' F' N' B' X' T'; (try dsimp only); (try k_fold)))
local macro_rules | `(tactic| k_all) => `(tactic| exact fun p hp => Nat.ne_of_lt (ktn_ltOf (by assumption) p hp))
local macro_rules | `(tactic| walk_at "call ref") => `(tactic| (k_here; k_dflt (first
  | (refine' call_cls ?k1 ?k2 ?k3 ?k4 ?k5 ?k6 ?_; (case k1 => k_asm); (case k2 => k_asm); (case k3 => k_asm); (case k4 => k_is); (case k5 => k_is); (case k6 => k_is); k_whole; intro x' d' h' F' N' l1 l2; (try k_lt l1); (try k_lt2 l2); (try k_sweep); ktr_enter)
  | (refine wpAny_call ?_; ktr_enter))))
theorem hold21 {M : Model} {A : Around} {vs : List Value} {Q E : Value → Shared → Prop} {s : Shared} (h : Hold (wpAny M A (call (.ref 21) vs) Q E s)) : wpAny M A (call (.ref 21) vs) Q E s := h
local macro_rules | `(tactic| walk_at "call ref") => `(tactic| (k_here; refine hold21 ?_))
local macro_rules | `(tactic| walk_at "callWith ref") => `(tactic| (k_here; k_dflt (rename MacOK _ _ _ => kH; refine' callWith_F ?k1 ?_; (case k1 => exact MacOK.fnAt kH (by k_asm) (sub_trans (by assumption) (by ktd_sub))); k_whole)))
local macro_rules | `(tactic| walk_at "And") => `(tactic| ((with_reducible show FnAt _ _ ∧ _); rename MacOK _ _ _ => kH; refine ⟨MacOK.fnAt kH (by k_asm) (sub_trans (by assumption) (by ktd_sub)), ?_⟩; (try dsimp only [List.nil_append, List.cons_append])))
local macro_rules | `(tactic| walk_at "call ref") => `(tactic| (k_here; (with_reducible show wpAny _ _ (call (Value.ref _) [Value.bytes _ _, Value.bytes _ _]) _ _ _); rename MacOK _ _ _ => kH; k_dflt (refine' ctx_use (kH.use _ _ _ _) ?k1 ?k2 ?k3 ?k4 ?k5 ?k6 ?k7 ?k8 ?k9 ?_; (case k1 => k_asm); (case k2 => k_asm); (case k3 => k_asm); (case k4 => k_asm); (case k5 => k_asm); (case k6 => first | exact rfl | assumption); (case k7 => exact sub_trans (by assumption) (by ktd_sub)); (case k8 => ktr_room); (case k9 => ktr_units)); intro b9 t9 h9 tk9 hb9 F9 N9; (have hs9 := Nat.le_of_eq hb9.2); (have hv9 := hb9.1); (have hq9 := hb9.2); clear hb9; (try dsimp only); (try k_fold)))
local macro_rules | `(tactic| ktf_call $c) => `(tactic| (k_dflt (refine' ctx_use $c ?k1 ?k2 ?k3 ?k4 ?k5 ?k6 ?k7 ?k8 ?k9 ?_; (case k1 => k_asm); (case k2 => k_asm); (case k3 => k_asm); (case k4 => k_asm); (case k5 => k_asm); (case k6 => first | exact rfl | assumption); (case k7 => first | exact trivial | k_mem | assumption | (refine And.intro ?ka ?kb; (case ka => (repeat (first | assumption | exact List.Mem.head _ | refine List.Mem.tail _ ?_))); (case kb => (repeat (first | assumption | exact List.Mem.head _ | refine List.Mem.tail _ ?_))))); (case k8 => ktr_room); (case k9 => ktr_units))))
/-- what hmac.new makes -/
abbrev macD (h1 h2 h3 : Int) (a1 a2 a3 : Tok) (key data : Array UInt8) (t1 t2 : Tok) (fm : Addr) : Obj := dictOf [⟨h1, .str (Str.ofString "key") a1, .bytes key t1⟩, ⟨h2, .str (Str.ofString "data") a2, .bytes data t2⟩, ⟨h3, .str (Str.ofString "digest_fn") a3, .ref fm⟩] 3
abbrev RetM (key data : Array UInt8) (t1 t2 : Tok) (fm : Addr) (h₀ : Heap) (L : Addr) (m : Str → Option Value) (news : List (Addr × Obj)) (s : Shared) (Q : Value → Shared → Prop) : Prop :=
  ∀ (x dx : Addr) (h1 h2 h3 : Int) (a1 a2 a3 : Tok) (h' : Heap) (tk' : Nat), Fr h₀ L h' m → News h₀ L h' ((x, instObj 52 dx) :: (dx, macD h1 h2 h3 a1 a2 a3 key data t1 t2 fm) :: news) → Q (.ref x) { s with heap := h', toks := tk' }
theorem hn_call (fm : Addr) (key data : Array UInt8) (t1 t2 : Tok) : Ctx 70 [.bytes key t1, .bytes data t2, .ref fm] (fun _ => True) (RetM key data t1 t2 fm) 3 := by
  unfold Ctx RetM
  k_fill
  intro w mean mg mb dp un gd cn cs a ccd cl outer A₀ base h₀ L m news s Q E B F X N T hk hP hd hu hret
  refine wpAny_call ?_
  k_dflt ktr_enter
  k_steps
  exact hret _ _ _ _ _ _ _ _ _ _ (by assumption) (by assumption)
theorem dg_call (fm : Addr) (led : List (Addr × Obj)) (k : Int) (H : MacOK fm led k) (key data : Array UInt8) (t1 t2 a1 a2 a3 : Tok) (h1 h2 h3 : Int) (x dx : Addr) : Ctx 49 [.ref x] (fun news => ((x, instObj 52 dx) ∈ news ∧ (dx, macD h1 h2 h3 a1 a2 a3 key data t1 t2 fm) ∈ news) ∧ ∀ p ∈ led, p ∈ news) (RetY fun r => bval r = k ∧ r.size = 32) 3 := by
  unfold Ctx RetY
  k_fill
  intro w mean mg mb dp un gd cn cs a ccd cl outer A₀ base h₀ L m news s Q E B F X N T hk hP hd hu hret
  obtain ⟨⟨hm1, hm2⟩, hP⟩ := hP
  refine wpAny_call ?_
  k_dflt ktr_enter
  k_steps
  exact retY hret (by assumption) (by assumption) (fun _ h => h) ⟨by assumption, by assumption⟩
theorem sub_tail {a b : List (Addr × Obj)} {p : Addr × Obj} (h : ∀ q ∈ a, q ∈ b) : ∀ q ∈ a, q ∈ p :: b := fun q hq => List.mem_cons_of_mem _ (h q hq)
local macro_rules | `(tactic| walk_at "call ref") => `(tactic| (k_here; (with_reducible show wpAny _ _ (call (Value.ref 70) _) _ _ _); k_dflt (refine' ctx_use (hn_call _ _ _ _ _) ?k1 ?k2 ?k3 ?k4 ?k5 ?k6 ?k7 ?k8 ?k9 ?_; (case k1 => k_asm); (case k2 => k_asm); (case k3 => k_asm); (case k4 => k_asm); (case k5 => k_asm); (case k6 => first | exact rfl | assumption); (case k7 => exact trivial); (case k8 => ktr_room); (case k9 => ktr_units)); intro x9 d9 h19 h29 h39 a19 a29 a39 h9 tk9 F9 N9; (try dsimp only); (try k_fold)))
local macro_rules | `(tactic| walk_at "call ref") => `(tactic| (k_here; (with_reducible show wpAny _ _ (call (Value.ref 49) _) _ _ _); rename MacOK _ _ _ => kH; k_dflt (refine' ctx_use (dg_call _ _ _ kH _ _ _ _ _ _ _ _ _ _ _ _) ?k1 ?k2 ?k3 ?k4 ?k5 ?k6 ?k7 ?k8 ?k9 ?_; (case k1 => k_asm); (case k2 => k_asm); (case k3 => k_asm); (case k4 => k_asm); (case k5 => k_asm); (case k6 => first | exact rfl | assumption); (case k7 => exact ⟨⟨by k_mem, by k_mem⟩, sub_trans (by assumption) (by ktd_sub)⟩); (case k8 => ktr_room); (case k9 => ktr_units)); intro b9 t9 h9 tk9 hb9 F9 N9; (have hs9 := Nat.le_of_eq hb9.2); (have hv9 := hb9.1); clear hb9; (try dsimp only); (try k_fold)))
theorem dk_call (fm : Addr) (led : List (Addr × Obj)) (k : Int) (H : MacOK fm led k) (mh pk : Array UInt8) (t1 t2 : Tok) (h1 : mh.size ≤ 32) (h2 : pk.size ≤ 32) : Ctx 144 [.bytes mh t1, .bytes pk t2, .ref fm] (fun news => ∀ p ∈ led, p ∈ news) (RetI (· = k)) 5 := by
  unfold Ctx RetI
  k_fill
  intro w mean mg mb dp un gd cn cs a ccd cl outer A₀ base h₀ L m news s Q E B F X N T hk hP hd hu hret
  refine wpAny_call ?_
  k_dflt ktr_enter
  k_steps
  unfold Hold
  ktf_call (be_call _ _ (by assumption))
  intro r t h' tk' hr F' N'
  k_steps
  exact retI hret (by assumption) (by assumption) (by ktd_sub) (by rw [hr]; assumption)
end Mine
end
section
open PySem PySem.W PyProof.Rows PySem.Calls
local macro_rules | `(tactic| walk_at "no such node") => `(tactic| fail "none")
local macro_rules | `(tactic| walk_at "no such node") => `(tactic| fail "none")
local macro_rules | `(tactic| walk_at "no such node") => `(tactic| fail "none")
local macro_rules | `(tactic| walk_at "no such node") => `(tactic| fail "none")
local macro_rules | `(tactic| walk_at "no such node") => `(tactic| fail "none")
local macro_rules | `(tactic| walk_at "no such node") => `(tactic| fail "none")
local macro_rules | `(tactic| walk_at "no such node") => `(tactic| fail "none")
local macro_rules | `(tactic| walk_at "no such node") => `(tactic| fail "none")
local macro_rules | `(tactic| walk_at "no such node") => `(tactic| fail "none")
local macro_rules | `(tactic| walk_at "no such node") => `(tactic| fail "none")
local macro_rules | `(tactic| walk_at "no such node") => `(tactic| fail "none")
local macro_rules | `(tactic| walk_at "no such node") => `(tactic| fail "none")
local macro_rules | `(tactic| walk_at "no such node") => `(tactic| fail "none")
local macro_rules | `(tactic| walk_at "no such node") => `(tactic| fail "none")
local macro_rules | `(tactic| walk_at "no such node") => `(tactic| fail "none")
local macro_rules | `(tactic| walk_at "no such node") => `(tactic| fail "none")
local macro_rules | `(tactic| walk_at "no such node") => `(tactic| fail "none")
local macro_rules | `(tactic| walk_at "no such node") => `(tactic| fail "none")
local macro_rules | `(tactic| walk_at "no such node") => `(tactic| fail "none")
local macro_rules | `(tactic| walk_at "no such node") => `(tactic| fail "none")
namespace Mine
open PySem.Builtin.Int (intBits)
theorem hold28 {M : Model} {A : Around} {vs : List Value} {Q E : Value → Shared → Prop} {s : Shared} (h : Hold (wpAny M A (call (.ref 28) vs) Q E s)) : wpAny M A (call (.ref 28) vs) Q E s := h
theorem hold88 {M : Model} {A : Around} {vs : List Value} {Q E : Value → Shared → Prop} {s : Shared} (h : Hold (wpAny M A (call (.ref 88) vs) Q E s)) : wpAny M A (call (.ref 88) vs) Q E s := h
theorem hold95 {M : Model} {A : Around} {vs : List Value} {Q E : Value → Shared → Prop} {s : Shared} (h : Hold (wpAny M A (call (.ref 95) vs) Q E s)) : wpAny M A (call (.ref 95) vs) Q E s := h
theorem hold137 {M : Model} {A : Around} {vs : List Value} {Q E : Value → Shared → Prop} {s : Shared} (h : Hold (wpAny M A (call (.ref 137) vs) Q E s)) : wpAny M A (call (.ref 137) vs) Q E s := h
theorem hold144 {M : Model} {A : Around} {vs : List Value} {Q E : Value → Shared → Prop} {s : Shared} (h : Hold (wpAny M A (call (.ref 144) vs) Q E s)) : wpAny M A (call (.ref 144) vs) Q E s := h
local macro_rules | `(tactic| walk_at "call ref") => `(tactic| (k_here; first | refine hold21 ?_ | refine hold28 ?_ | refine hold88 ?_ | refine hold95 ?_ | refine hold137 ?_ | refine hold144 ?_))
local macro_rules | `(tactic| ktf_call $c) => `(tactic| (unfold Hold; k_dflt (refine' ctx_use $c ?k1 ?k2 ?k3 ?k4 ?k5 ?k6 ?k7 ?k8 ?k9 ?_; (case k1 => k_asm); (case k2 => k_asm); (case k3 => k_asm); (case k4 => k_asm); (case k5 => k_asm); (case k6 => first | exact rfl | assumption); (case k7 => first | exact trivial | k_mem | assumption | exact sub_trans (by assumption) (by ktd_sub) | (refine And.intro ?ka ?kb; (case ka => (repeat (first | assumption | exact List.Mem.head _ | refine List.Mem.tail _ ?_))); (case kb => (repeat (first | assumption | exact List.Mem.head _ | refine List.Mem.tail _ ?_))))); (case k8 => ktr_room); (case k9 => ktr_units))))
local macro_rules | `(tactic| bits_by_make) => `(tactic| first | with_reducible assumption | ((with_reducible apply intBits_pow_le); bits_by_make) | exact lit_bits (by decide +kernel))
def sraw (ki z rx d : Int) : Int := (ki * (z + rx * d)).fmod NN
def sigOf (ry sr rx : Int) : J3 := if sr * 2 < NN then ⟨27 + Builtin.bitXor (ry.fmod 2) 0 - 27, rx, sr⟩ else ⟨27 + Builtin.bitXor (ry.fmod 2) 1 - 27, rx, NN - sr⟩
theorem nn_bits : intBits NN ≤ 300 := Nat.le_trans (lit_bits (by decide +kernel)) (by decide)
theorem sg_call {G : Nat → J3 → Prop} {top : Nat} (C : Chain ⟨GX, GY, 1⟩ G top) (htop : top < 2 ^ 20) (hz : ∀ k p, G k p → p.z ≠ 0 ∧ Int.gcd p.z PP = 1) (n : Nat) (h1 : 1 ≤ n) (h2 : n ≤ top) (hg : Int.gcd (n : Int) NN = 1)
    (fm : Addr) (led : List (Addr × Obj)) (H : MacOK fm led n) (mh pk : Array UInt8) (t1 t2 : Tok) (hm : mh.size ≤ 32) (hp : pk.size ≤ 32) : Ctx 151 [.bytes mh t1, .bytes pk t2, .ref fm] (fun news => ∀ p ∈ led, p ∈ news) (Ret3 fun q => ∃ rx ry ki, (∃ p, G n p ∧ Aff p rx ry) ∧ 0 ≤ ki ∧ ki < NN ∧ NN ∣ ki * n - 1 ∧ q = sigOf ry (sraw ki (bval mh) rx (bval pk)) rx) 40 := by
  unfold Ctx Ret3
  k_fill
  intro w mean mg mb dp un gd cn cs a ccd cl outer A₀ base h₀ L m news s Q E B F X N T hk hP hd hu hret
  refine wpAny_call ?_
  k_dflt ktr_enter
  k_steps
  ktf_call (be_call mh _ hm)
  intro z t3 h3 tk3 hz3 F3 N3
  have hzb := bval_lt mh
  rw [← hz3] at hzb
  have hzl : z < 256 ^ 32 := Int.lt_of_lt_of_le hzb.2 (by rw [KTBy.p256, KTBy.p256]; exact Int.ofNat_le.mpr (Nat.pow_le_pow_right (by decide) hm))
  have hzbits := bits_le256 hzb.1 hzl
  k_steps
  ktf_call (tb_call _ _ (Int.fmod_nonneg_of_pos _ (by decide)) (Int.fmod_lt_of_pos _ (by decide)))
  intro b4 t4 h4 tk4 hb4 F4 N4
  k_steps
  ktf_call (pad_call b4 _ hb4)
  intro b5 t5 h5 tk5 hb5 F5 N5
  k_steps
  ktf_call (dk_call fm led n H b5 pk _ _ hb5 hp)
  intro k6 t6 h6 tk6 hk6 F6 N6
  subst hk6
  k_steps
  ktf_call (fm_call C htop hz n _ _ rfl h1 h2)
  intro D7 rx ry t7 t8 c7 h7 tk7 hxy F7 N7 l7
  have hrb : intBits rx ≤ 256 := by
    obtain ⟨p, _, zi, _, _, _, e1, _⟩ := hxy
    rw [e1]; exact in_bits (fm_in _)
  have hyb : intBits ry ≤ 256 := by
    obtain ⟨p, _, zi, _, _, _, _, e1⟩ := hxy
    rw [e1]; exact in_bits (fm_in _)
  have hnb : intBits (n : Int) ≤ 300 := Nat.le_trans (intBits_le_64 (by omega) (by omega)) (by decide)
  k_steps
  ktf_call (inv_call (n : Int) NN _ _ (by decide) (by omega) hg hnb nn_bits)
  intro ki t9 h9 tk9 hki F9 N9
  have hkb : intBits ki ≤ 256 := bits_of_natAbs_le (b := NN) (by have := hki.1; have := hki.2.1; omega) (lit_bits (by decide +kernel))
  k_steps
  ktf_call (be_call pk _ hp)
  intro d t10 h10 tk10 hd10 F10 N10
  have hdb := bval_lt pk
  rw [← hd10] at hdb
  have hdl : d < 256 ^ 32 := Int.lt_of_lt_of_le hdb.2 (by rw [KTBy.p256, KTBy.p256]; exact Int.ofNat_le.mpr (Nat.pow_le_pow_right (by decide) hp))
  have hdbits := bits_le256 hdb.1 hdl
  k_steps
  · have hc : sraw ki z rx d * 2 < NN := by assumption
    exact ret3 hret (by assumption) (by assumption) (by k_mem) (by ktd_sub) ⟨rx, ry, ki, hxy, hki.1, hki.2.1, hki.2.2, by rw [← hz3, ← hd10]; unfold sigOf; rw [if_pos hc]; rfl⟩
  · have hc : ¬ sraw ki z rx d * 2 < NN := by assumption
    exact ret3 hret (by assumption) (by assumption) (by k_mem) (by ktd_sub) ⟨rx, ry, ki, hxy, hki.1, hki.2.1, hki.2.2, by rw [← hz3, ← hd10]; unfold sigOf; rw [if_neg hc]; rfl⟩
end Mine
end
section
/-! plain laws of a signature -/
namespace Mine
open PySem
def eps (y : Int) : Int := if y.fmod 2 = 0 then 1 else -1
theorem nn_odd : NN = 2 * (NN / 2) + 1 := by decide
structure SigOK (q : J3) (rx ry sr : Int) : Prop where
  v : q.x = 0 ∨ q.x = 1
  r : q.y = rx
  s0 : 0 ≤ q.z
  s1 : q.z ≤ NN / 2
  c1 : clow q.z = q.z
  c2 : clow ((NN - q.z).fmod NN) = q.z
  val : ∃ k : Int, (if q.x = 0 then q.z else -q.z) = eps ry * sr + k * NN
theorem clow_of {s : Int} (h0 : 0 ≤ s) (h1 : s ≤ NN / 2) : clow s = s ∧ clow ((NN - s).fmod NN) = s := by
  have hN : (0 : Int) < NN := by decide
  have hn2 : NN / 2 = 57896044618658097711785492504343953926418782139537452191302581570759080747168 := by decide
  have hn : NN = 115792089237316195423570985008687907852837564279074904382605163141518161494337 := rfl
  rw [hn2] at h1
  rcases Int.lt_or_eq_of_le h0 with h | h
  · have e1 : (-s).fmod NN = NN - s := by
      rw [Int.fmod_eq_emod_of_nonneg _ (by decide)]
      have : -s = (NN - s) + NN * (-1) := by omega
      rw [this, Int.add_mul_emod_self_left]
      exact Int.emod_eq_of_lt (by omega) (by omega)
    have e2 : (NN - s).fmod NN = NN - s := by
      rw [Int.fmod_eq_emod_of_nonneg _ (by decide)]
      exact Int.emod_eq_of_lt (by omega) (by omega)
    have e3 : (-(NN - s)).fmod NN = s := by
      rw [Int.fmod_eq_emod_of_nonneg _ (by decide)]
      have : -(NN - s) = s + NN * (-1) := by omega
      rw [this, Int.add_mul_emod_self_left]
      exact Int.emod_eq_of_lt (by omega) (by omega)
    refine ⟨?_, ?_⟩
    · unfold clow
      rw [e1, if_neg (by omega)]
    · unfold clow
      rw [e2, e3, if_pos (by omega)]
  · subst h
    exact ⟨by decide, by decide⟩
theorem fmod2 (y : Int) : y.fmod 2 = 0 ∨ y.fmod 2 = 1 := by
  have h1 := Int.fmod_nonneg_of_pos y (show (0 : Int) < 2 by decide)
  have h2 := Int.fmod_lt_of_pos y (show (0 : Int) < 2 by decide)
  omega
theorem sig_ok {rx ry sr : Int} (h0 : 0 ≤ sr) (h1 : sr < NN) : SigOK (sigOf ry sr rx) rx ry sr := by
  have hn : NN = 115792089237316195423570985008687907852837564279074904382605163141518161494337 := rfl
  have hn2 : NN / 2 = 57896044618658097711785492504343953926418782139537452191302581570759080747168 := by decide
  have x00 : Builtin.bitXor 0 0 = 0 := by decide
  have x10 : Builtin.bitXor 1 0 = 1 := by decide
  have x01 : Builtin.bitXor 0 1 = 1 := by decide
  have x11 : Builtin.bitXor 1 1 = 0 := by decide
  by_cases hc : sr * 2 < NN
  · have hq : sigOf ry sr rx = ⟨27 + Builtin.bitXor (ry.fmod 2) 0 - 27, rx, sr⟩ := by unfold sigOf; rw [if_pos hc]
    rw [hq]
    have hs1 : sr ≤ NN / 2 := by omega
    obtain ⟨c1, c2⟩ := clow_of h0 hs1
    rcases fmod2 ry with hy | hy
    · rw [hy, x00]
      refine ⟨.inl rfl, rfl, h0, hs1, c1, c2, 0, ?_⟩
      show (if (27 + 0 - 27 : Int) = 0 then sr else -sr) = (if ry.fmod 2 = 0 then 1 else -1) * sr + 0 * NN
      rw [if_pos hy, if_pos (by decide)]; omega
    · rw [hy, x10]
      refine ⟨.inr rfl, rfl, h0, hs1, c1, c2, 0, ?_⟩
      show (if (27 + 1 - 27 : Int) = 0 then sr else -sr) = (if ry.fmod 2 = 0 then 1 else -1) * sr + 0 * NN
      rw [if_neg (show ¬ ry.fmod 2 = 0 by omega), if_neg (by decide)]
      omega
  · have hq : sigOf ry sr rx = ⟨27 + Builtin.bitXor (ry.fmod 2) 1 - 27, rx, NN - sr⟩ := by unfold sigOf; rw [if_neg hc]
    rw [hq]
    have hs0 : 0 ≤ NN - sr := by omega
    have hs1 : NN - sr ≤ NN / 2 := by omega
    obtain ⟨c1, c2⟩ := clow_of hs0 hs1
    rcases fmod2 ry with hy | hy
    · rw [hy, x01]
      refine ⟨.inr rfl, rfl, hs0, hs1, c1, c2, -1, ?_⟩
      show (if (27 + 1 - 27 : Int) = 0 then NN - sr else -(NN - sr)) = (if ry.fmod 2 = 0 then 1 else -1) * sr + -1 * NN
      rw [if_pos hy, if_neg (by decide)]
      omega
    · rw [hy, x11]
      refine ⟨.inl rfl, rfl, hs0, hs1, c1, c2, 1, ?_⟩
      show (if (27 + 0 - 27 : Int) = 0 then NN - sr else -(NN - sr)) = (if ry.fmod 2 = 0 then 1 else -1) * sr + 1 * NN
      rw [if_neg (show ¬ ry.fmod 2 = 0 by omega), if_pos (by decide)]
      omega
/-- what counted gives: the centred representative -/
structure Cnt (k px py x y c : Int) : Prop where
  lo : -(NN / 2) ≤ c
  hi : c ≤ NN / 2
  eq : NN ∣ k * c - eps py * (x + px * y)
theorem cnt_of {n ki px py x y c : Int} {q : J3} (hk : NN ∣ ki * n - 1) (S : SigOK q px py (sraw ki x px y)) (hc : c = if q.x = 0 then q.z else -q.z) : Cnt n px py x y c := by
  have h0 := S.s0
  have h1 := S.s1
  obtain ⟨m, hm⟩ := S.val
  obtain ⟨j, hj⟩ := hk
  refine ⟨?_, ?_, ?_⟩
  · rw [hc]; split <;> omega
  · rw [hc]; split <;> omega
  · rw [hc, hm]
    unfold sraw
    rw [Int.fmod_eq_emod_of_nonneg _ (by decide), Int.emod_def]
    generalize ki * (x + px * y) / NN = d
    generalize eps py = e
    have hki : ki * n = 1 + NN * j := by omega
    refine ⟨e * (j * (x + px * y) - n * d) + n * m, ?_⟩
    have : n * (e * (ki * (x + px * y) - NN * d) + m * NN) - e * (x + px * y) = e * (ki * n) * (x + px * y) - e * (n * (NN * d)) + n * m * NN - e * (x + px * y) := by grind
    rw [this, hki]
    grind
end Mine
end
section
namespace Mine
theorem fmodN (x : Int) : ∃ t, x.fmod NN = x + NN * t := ⟨-(x / NN), by rw [Int.fmod_eq_emod_of_nonneg _ (by decide), Int.emod_def, Int.mul_neg]; omega⟩
theorem dvd_cancel {k a : Int} (hk : Int.gcd k NN = 1) (h : NN ∣ k * a) : NN ∣ a := by
  have hc : Int.gcd NN k = 1 := by rw [Int.gcd_comm]; exact hk
  have h2 := Int.dvd_gcd_mul_iff_dvd_mul.mpr h
  rw [hc] at h2
  simpa using h2
theorem fmod_zero_of_dvd {a : Int} (h : NN ∣ a) : a.fmod NN = 0 := Int.fmod_eq_zero_of_dvd h
theorem eq_of_dvd {a b : Int} (h : NN ∣ a - b) (h1 : -(NN / 2) ≤ a) (h2 : a ≤ NN / 2) (h3 : -(NN / 2) ≤ b) (h4 : b ≤ NN / 2) : a = b := by
  obtain ⟨t, ht⟩ := h
  have hn2 : NN / 2 = 57896044618658097711785492504343953926418782139537452191302581570759080747168 := by decide
  have hn : NN = 115792089237316195423570985008687907852837564279074904382605163141518161494337 := rfl
  rw [hn2] at h1 h2 h3 h4
  rw [hn] at ht
  omega
section
variable {k px py z d f o key s b less c fac m g : Int}
theorem cnt_one (h : Cnt k px py 1 0 o) : (o * k - eps py).fmod NN = 0 := by
  apply fmod_zero_of_dvd
  have := h.eq
  have e : o * k - eps py = k * o - eps py * (1 + px * 0) := by grind
  rw [e]; exact this
theorem cnt_sum (hk : Int.gcd k NN = 1) (h1 : Cnt k px py z d f) (h2 : Cnt k px py o key s) (h3 : Cnt k px py ((z + o).fmod NN) ((d + key).fmod NN) b) : (f + s - b).fmod NN = 0 := by
  apply fmod_zero_of_dvd
  apply dvd_cancel hk
  obtain ⟨a1, e1⟩ := h1.eq
  obtain ⟨a2, e2⟩ := h2.eq
  obtain ⟨a3, e3⟩ := h3.eq
  obtain ⟨t1, g1⟩ := fmodN (z + o)
  obtain ⟨t2, g2⟩ := fmodN (d + key)
  rw [g1, g2] at e3
  generalize eps py = e at *
  exact ⟨a1 + a2 - a3 - e * t1 - e * px * t2, by clear h1 h2 h3 g1 g2 hk; grind⟩
theorem cnt_less (hk : Int.gcd k NN = 1) (h1 : Cnt k px py z d f) (h2 : Cnt k px py ((z + px * less).fmod NN) ((d - less).fmod NN) c) : c = f := by
  refine eq_of_dvd (dvd_cancel hk ?_) h2.lo h2.hi h1.lo h1.hi
  obtain ⟨a1, e1⟩ := h1.eq
  obtain ⟨a2, e2⟩ := h2.eq
  obtain ⟨t1, g1⟩ := fmodN (z + px * less)
  obtain ⟨t2, g2⟩ := fmodN (d - less)
  rw [g1, g2] at e2
  generalize eps py = e at *
  exact ⟨a2 - a1 + e * t1 + e * px * t2, by grind⟩
theorem cnt_many (hk : Int.gcd k NN = 1) (h1 : Cnt k px py z d f) (h2 : Cnt k px py ((z * fac).fmod NN) ((d * fac).fmod NN) m) : (m - f * fac).fmod NN = 0 := by
  apply fmod_zero_of_dvd
  apply dvd_cancel hk
  obtain ⟨a1, e1⟩ := h1.eq
  obtain ⟨a2, e2⟩ := h2.eq
  obtain ⟨t1, g1⟩ := fmodN (z * fac)
  obtain ⟨t2, g2⟩ := fmodN (d * fac)
  rw [g1, g2] at e2
  generalize eps py = e at *
  exact ⟨a2 - a1 * fac + e * t1 + e * px * t2, by grind⟩
theorem cnt_neg (hk : Int.gcd k NN = 1) (h1 : Cnt k px py z d f) (h2 : Cnt k px py ((-z).fmod NN) ((-d).fmod NN) g) : g = -f := by
  have l := h1.lo
  have u := h1.hi
  refine eq_of_dvd (dvd_cancel hk ?_) h2.lo h2.hi (by omega) (by omega)
  obtain ⟨a1, e1⟩ := h1.eq
  obtain ⟨a2, e2⟩ := h2.eq
  obtain ⟨t1, g1⟩ := fmodN (-z)
  obtain ⟨t2, g2⟩ := fmodN (-d)
  rw [g1, g2] at e2
  generalize eps py = e at *
  exact ⟨a2 + a1 + e * t1 + e * px * t2, by grind⟩
end
end Mine
end
section
open PySem PySem.W PyProof.Rows PySem.Calls
namespace Mine
open PySem.Builtin.Int (intBits)
theorem at_call (l : Addr) (vs : List Value) (ns : List Int) (i d : Int) (t u : Tok) (hi : IntsAre vs ns) (hlen : ns.length ≤ 63) (h0 : 0 ≤ i) (h1 : i < 1000) (hlay : PyData.layable0 (.list (ns.map .int)) = true) (hdb : intBits d ≤ 1048576) :
  ∀ (w : World) (mean : ExcName → Option Value) (mg mb : Str → Option Value) (dp un : Nat) (gd : Option (List Code)) (cn : Str) (cs : Scope) (a : Addr) (ccd : Value) (cl : List (Str × Addr)) (outer : List Env) (A₀ : Around) (base h₀ : Heap) (L : Addr) (m : Str → Option Value) (news : List (Addr × Obj)) (s : Shared) (Q E : Value → Shared → Prop),
    Below A₀ base outer h₀ → Fr h₀ L s.heap m → (hd.heap_39 w.params).In h₀ → News h₀ L s.heap news → Top topProg (looseW hd.view_39 [Str.ofString "hmac"] ++ List.map (fun x => x.name) (recsOf hd.view_39) ++ List.map (fun x => x.fst) (litsOf hd.view_39) ++ List.map (fun x => x.name) (clssOf hd.view_39 (looseW hd.view_39 [Str.ofString "hmac"]))) mean mg mb h₀ → cs.kind = .function →
    base.IsList l vs.toArray → dp + 1 < recursionLimit → un + 8 * 1 < cLine → RetI (fun r => intBits r ≤ 1048576) h₀ L m news s Q →
    wpAny (model Challenge.rw_bh0025_01.row.prog w) (ktrTop dp un gd cn cs L a ccd cl outer) (call (.ref 187) [.ref l, .int i t, .int d u]) Q E s := by
  unfold RetI
  k_fill
  intro w mean mg mb dp un gd cn cs a ccd cl outer A₀ base h₀ L m news s Q E B F X N T hk hL hd hu hret
  have hlen2 : ns.length < 2 ^ 62 := by omega
  refine wpAny_call ?_
  k_dflt ktr_enter
  rename Below _ _ _ _ => B9
  k_lift B9
  k_steps
  · exact retI hret (by assumption) (by assumption) (fun _ h => h) (kbm_getD hlay (by decide))
  · exact retI hret (by assumption) (by assumption) (fun _ h => h) hdb
end Mine
end
section
open PySem PySem.W PyProof.Rows PySem.Calls
namespace Mine
open PySem.Builtin.Int (intBits)
/-- the point's tuple, and what it adds to the ledger -/
inductive PtX (old : List (Addr × Obj)) : Addr → List (Addr × Obj) → Int → Int → Tok → Tok → Prop
  | new {D : Addr} {x y : Int} {t1 t2 : Tok} {c : Nat} : AllLt D old → PtX old D [(D, tup2 x y t1 t2 c)] x y t1 t2
  | glob : PtX old 159 [] GX GY 435 436
theorem glob_look (P : Params) : (hd.heap_39 P).lookup 159 = some ⟨.type "tuple", none, .seq [Value.int GX 435, Value.int GY 436].toArray 0, #[]⟩ := by rfl
theorem PtX.isTup {old ex news : List (Addr × Obj)} {D L : Addr} {x y : Int} {t1 t2 : Tok} {h₀ h : Heap} {m : Str → Option Value} {w : World} (P : PtX old D ex x y t1 t2) (F : Fr h₀ L h m) (X : (hd.heap_39 w.params).In h₀) (N : News h₀ L h news) (hs : ∀ p ∈ ex, p ∈ news) : IsTup h D #[.int x t1, .int y t2] := by
  cases P with
  | new hl => exact News.isTup N (hs _ (.head _))
  | glob => exact tupK (X.keeps F.keep) (glob_look _)
theorem PtX.ne {old ex : List (Addr × Obj)} {D a : Addr} {o : Obj} {x y : Int} {t1 t2 : Tok} (P : PtX old D ex x y t1 t2) (hm : (a, o) ∈ old) : ∀ p ∈ ex, p.1 ≠ a := by
  intro p hp
  cases P with
  | new hl =>
    rw [List.mem_singleton] at hp
    subst hp
    exact Nat.ne_of_gt (ktn_ltOf hl _ hm)
  | glob => cases hp
theorem ptx_of {old news : List (Addr × Obj)} {v : Value} {x y : Int} {h₀ h : Heap} {L : Addr} (P : PtAt old news v x y) (N : News h₀ L h news) (hs : ∀ p ∈ old, p ∈ news) : ∃ D ex t1 t2, v = .ref D ∧ PtX old D ex x y t1 t2 ∧ News h₀ L h (old ++ ex) := by
  cases P with
  | @new D x y t1 t2 c hm hl =>
    refine ⟨D, [(D, tup2 x y t1 t2 c)], t1, t2, rfl, .new hl, fun p hp => ?_⟩
    rcases List.mem_append.mp hp with hp | hp
    · exact N p (hs p hp)
    · rw [List.mem_singleton] at hp
      subst hp
      exact N _ hm
  | glob =>
    refine ⟨159, [], 435, 436, rfl, .glob, fun p hp => ?_⟩
    rw [List.append_nil] at hp
    exact N p (hs p hp)
end Mine
end
section
/-! the program's points stand for the group's -/
namespace Mine
open Lean.Grind
def pN : Nat := 115792089237316195423570985008687907853269984665640564039457584007908834671663
theorem pN_eq : ((pN : Nat) : Int) = PP := rfl
section
variable {F : Type} [Field F] {φ : Int → F}
theorem FldOf.z0 (h : FldOf pN F φ) : φ 0 = 0 := (h.zero 0).mpr ⟨0, by simp⟩
theorem FldOf.neg (h : FldOf pN F φ) (a : Int) : φ (-a) = -φ a := by
  have h1 := h.add a (-a)
  have h2 := h.z0
  have e : a + -a = 0 := by omega
  rw [e, h2] at h1
  grind
theorem FldOf.sub (h : FldOf pN F φ) (a b : Int) : φ (a - b) = φ a - φ b := by
  have e : a - b = a + -b := by omega
  rw [e, h.add, h.neg]
  grind
theorem FldOf.pp (h : FldOf pN F φ) : φ PP = 0 := (h.zero PP).mpr ⟨1, by rw [pN_eq]; simp⟩
theorem FldOf.fm (h : FldOf pN F φ) (a : Int) : φ (fm a) = φ a := by
  unfold Mine.fm
  rw [Int.fmod_eq_emod_of_nonneg _ (by decide), Int.emod_def, h.sub, h.mul, h.pp]
  grind
theorem FldOf.pow (h : FldOf pN F φ) (a : Int) : ∀ n : Nat, φ (a ^ n) = φ a ^ n
  | 0 => by rw [Int.pow_zero, h.one, Semiring.pow_zero]
  | n + 1 => by rw [Int.pow_succ, h.mul, h.pow a n, Semiring.pow_succ]
theorem FldOf.two (h : FldOf pN F φ) : φ 2 = 2 := by
  have h1 := h.add 1 1
  rw [h.one] at h1
  have e : (1 : Int) + 1 = 2 := by decide
  rw [e] at h1
  rw [h1]; grind
theorem FldOf.three (h : FldOf pN F φ) : φ 3 = 3 := by
  have h1 := h.add 2 1
  rw [h.one, h.two] at h1
  have e : (2 : Int) + 1 = 3 := by decide
  rw [e] at h1
  rw [h1]; grind
theorem FldOf.four (h : FldOf pN F φ) : φ 4 = 4 := by
  have h1 := h.add 2 2
  rw [h.two] at h1
  have e : (2 : Int) + 2 = 4 := by decide
  rw [e] at h1
  rw [h1]; grind
theorem FldOf.eight (h : FldOf pN F φ) : φ 8 = 8 := by
  have h1 := h.add 4 4
  rw [h.four] at h1
  have e : (4 : Int) + 4 = 8 := by decide
  rw [e] at h1
  rw [h1]; grind
theorem FldOf.seven (h : FldOf pN F φ) : φ 7 = 7 := by
  have h1 := h.add 4 3
  rw [h.four, h.three] at h1
  have e : (4 : Int) + 3 = 7 := by decide
  rw [e] at h1
  rw [h1]; grind
theorem FldOf.inj (h : FldOf pN F φ) {a b : Int} (ha : In a) (hb : In b) (e : φ a = φ b) : a = b := by
  have h1 : φ (a - b) = 0 := by rw [h.sub, e]; grind
  obtain ⟨t, ht⟩ := (h.zero _).mp h1
  rw [pN_eq] at ht
  have a0 := ha.1
  have a1 := ha.2
  have b0 := hb.1
  have b1 := hb.2
  have hp : PP = 115792089237316195423570985008687907853269984665640564039457584007908834671663 := rfl
  rw [hp] at ht a1 b1
  omega
theorem prPN : Pr pN := prP
theorem FldOf.ne0 (h : FldOf pN F φ) {a : Int} (e : φ a ≠ 0) : Int.gcd a PP = 1 := by
  have hn : ¬ (pN : Int) ∣ a := fun hd => e ((h.zero a).mpr hd)
  have hc := prPN.cop_of (a := a.natAbs) (fun hd => hn (Int.ofNat_dvd_left.mpr hd))
  have e2 : PP.natAbs = pN := rfl
  show Nat.gcd a.natAbs PP.natAbs = 1
  rw [e2, Nat.gcd_comm]
  exact hc
theorem FldOf.natPow (h : FldOf pN F φ) (a n : Nat) : φ ((a ^ n : Nat) : Int) = φ (a : Int) ^ n := by
  have e : ((a ^ n : Nat) : Int) = (a : Int) ^ n := by push_cast; rfl
  rw [e, h.pow]
theorem FldOf.natMod (h : FldOf pN F φ) (a : Nat) : φ ((a % pN : Nat) : Int) = φ (a : Int) := by
  have e : ((a % pN : Nat) : Int) = (a : Int) - PP * ((a / pN : Nat) : Int) := by
    have := Nat.div_add_mod a pN
    rw [← pN_eq]
    have h2 : ((pN * (a / pN) + a % pN : Nat) : Int) = (a : Int) := by rw [this]
    rw [Int.natCast_add, Int.natCast_mul] at h2
    omega
  rw [e, h.sub, h.mul, h.pp]
  grind
theorem FldOf.pinv (h : FldOf pN F φ) {a : Int} (ha : φ a ≠ 0) : φ a * φ (pinv a) = 1 := by
  have e1 : PP.toNat = pN := rfl
  have e2 : (PP - 2).toNat = pN - 2 := rfl
  have e3 : φ (((a % PP).toNat : Nat) : Int) = φ a := by
    have h0 : (((a % PP).toNat : Nat) : Int) = a % PP := Int.toNat_of_nonneg (Int.emod_nonneg _ (by decide))
    rw [h0, Int.emod_def, h.sub, h.mul, h.pp]
    grind
  rw [pinv_eq, e1, e2, h.natMod, h.natPow, e3]
  have hf := h.fermat _ ha
  have e4 : pN - 1 = (pN - 2) + 1 := by decide
  rw [e4, Semiring.pow_succ] at hf
  rw [CommSemiring.mul_comm]
  exact hf
/-- the field is no good for a point of order two -/
theorem FldOf.crv (h : FldOf pN F φ) : Crv F := by
  refine ⟨?_, ?_⟩
  · intro e
    rw [← h.two] at e
    have := (h.zero 2).mp e
    rw [pN_eq] at this
    exact absurd this (by decide)
  · intro x y ho hy
    subst hy
    have h7 : x ^ 3 = -7 := by unfold On at ho; grind
    have hx : x ≠ 0 := by
      intro e
      subst e
      have : (7 : F) = 0 := by grind
      rw [← h.seven] at this
      have := (h.zero 7).mp this
      rw [pN_eq] at this
      exact absurd this (by decide)
    have hf := h.fermat x hx
    have e : pN - 1 = 3 * ((pN - 1) / 3) := by decide
    rw [e] at hf
    have hpw : ∀ (a : F) (m n : Nat), a ^ (m * n) = (a ^ m) ^ n := by
      intro a m n
      induction n with
      | zero => rw [Nat.mul_zero, Semiring.pow_zero, Semiring.pow_zero]
      | succ n ih => rw [Nat.mul_succ, Semiring.pow_succ, ← ih, Semiring.pow_add]
    rw [hpw, h7] at hf
    have e5 : (-7 : F) = φ ((pN - 7 : Nat) : Int) := by
      have : ((pN - 7 : Nat) : Int) = PP - 7 := by decide
      rw [this, h.sub, h.pp, h.seven]; grind
    rw [e5, ← h.natPow, ← h.natMod, ← mp_eq pN 256 _ _ (by decide)] at hf
    have h9 : φ (((mp pN 256 (pN - 7) ((pN - 1) / 3) : Nat) : Int) - 1) = 0 := by rw [h.sub, hf, h.one]; grind
    have hd := (h.zero _).mp h9
    have hk : Nat.beq (mp pN 256 (pN - 7) ((pN - 1) / 3)) 1 = false := by decide +kernel
    have hl : Nat.blt (mp pN 256 (pN - 7) ((pN - 1) / 3)) pN = true := by decide +kernel
    generalize mp pN 256 (pN - 7) ((pN - 1) / 3) = q at *
    obtain ⟨t, ht⟩ := hd
    have hq : q ≠ 1 := fun e => by rw [e] at hk; cases hk
    have hq2 : q < pN := Nat.le_of_ble_eq_true hl
    rw [pN_eq] at ht
    have hp : PP = 115792089237316195423570985008687907853269984665640564039457584007908834671663 := rfl
    have hp2 : pN = 115792089237316195423570985008687907853269984665640564039457584007908834671663 := rfl
    rw [hp] at ht
    rw [hp2] at hq2
    omega
end
end Mine
namespace Mine
open Lean.Grind
section
variable {F : Type} [Field F] {φ : Int → F}
theorem g_on (h : FldOf pN F φ) : (Pt.aff (φ GX) (φ GY)).On := by
  show φ GY * φ GY = φ GX * φ GX * φ GX + 7
  have e : (PP : Int) ∣ GY * GY - (GX * GX * GX + 7) := Int.dvd_of_emod_eq_zero (by decide +kernel)
  have h1 := (h.zero _).mpr e
  rw [h.sub, h.add, h.mul, h.mul, h.mul, h.seven] at h1
  grind
/-- a Jacobian triple stands for k times G -/
def JRep (φ : Int → F) (k : Nat) (p : J3) : Prop :=
  p.In ∧ ∃ X Y : F, nG (.aff (φ GX) (φ GY)) k = .aff X Y ∧ φ p.x = X * φ p.z ^ 2 ∧ φ p.y = Y * φ p.z ^ 3 ∧ φ p.z ≠ 0
def ARep (φ : Int → F) (k : Nat) (x y : Int) : Prop := In x ∧ In y ∧ nG (.aff (φ GX) (φ GY)) k = .aff (φ x) (φ y)
theorem mul_ne {a b : F} (ha : a ≠ 0) (hb : b ≠ 0) : a * b ≠ 0 := fun e => by
  rcases Field.of_mul_eq_zero e with h | h
  · exact ha h
  · exact hb h
theorem pow_ne {a : F} (ha : a ≠ 0) : ∀ n : Nat, a ^ n ≠ 0
  | 0 => by rw [Semiring.pow_zero]; exact fun e => Field.zero_ne_one e.symm
  | n + 1 => by rw [Semiring.pow_succ]; exact mul_ne (pow_ne ha n) ha
theorem jdbl_ok (h : FldOf pN F φ) {k : Nat} {p : J3} (hp : JRep φ k p) : p.y ≠ 0 ∧ JRep φ (2 * k) (jdbl p) := by
  obtain ⟨hin, X, Y, hG, hx, hy, hz⟩ := hp
  have C := h.crv
  have hon : Mine.On X Y := by
    have := nG_on C (g_on h) k
    rw [hG] at this
    exact this
  have hY := C.ny _ _ hon
  have h2 := C.two
  have h2Y : 2 * Y ≠ 0 := mul_ne h2 hY
  have hyn : φ p.y ≠ 0 := by rw [hy]; exact mul_ne hY (pow_ne hz 3)
  have hno : ¬ Opp X Y X Y := by
    rintro ⟨_, e⟩
    exact h2Y (by grind)
  obtain ⟨v, hv⟩ : ∃ v, 2 * Y * v = 1 := ⟨_, Field.mul_inv_cancel h2Y⟩
  have hl : Sl (3 * (X * X) * v) X Y X Y := ⟨by grind, by grind⟩
  have hadd := add_sl hno hl
  refine ⟨fun e => hyn (by rw [e]; exact h.z0), jdbl_in p, sX (3 * (X * X) * v) X X, sY (3 * (X * X) * v) X Y (sX (3 * (X * X) * v) X X), ?_, ?_, ?_, ?_⟩
  · have e : 2 * k = k + k := by omega
    rw [e, nG_add C (g_on h), hG, hadd]
  · show φ (jdX p) = sX (3 * (X * X) * v) X X * φ (jdZ p) ^ 2
    simp only [jdX, jdZ, jdM, jdS, jdYsq, h.fm, h.sub, h.add, h.mul, h.pow, h.two, h.three, h.four, h.z0, hx, hy]
    unfold sX
    clear hno hadd hl hG C hon hyn
    grind
  · show φ (jdY p) = sY (3 * (X * X) * v) X Y (sX (3 * (X * X) * v) X X) * φ (jdZ p) ^ 3
    simp only [jdY, jdX, jdZ, jdM, jdS, jdYsq, h.fm, h.sub, h.add, h.mul, h.pow, h.two, h.three, h.four, h.eight, h.z0, hx, hy]
    unfold sY sX
    clear hno hadd hl hG C hon hyn
    grind
  · show φ (jdZ p) ≠ 0
    simp only [jdZ, h.fm, h.mul, h.two, hy]
    exact mul_ne (mul_ne h2 (mul_ne hY (pow_ne hz 3))) hz
abbrev A1 : J3 := ⟨GX, GY, 1⟩
theorem jadd_ok (h : FldOf pN F φ) {k : Nat} {p : J3} (hp : JRep φ k p) (hne : jaU1 p A1 ≠ jaU2 p A1) : JRep φ (k + 1) (jadd p A1) := by
  obtain ⟨hin, X, Y, hG, hx, hy, hz⟩ := hp
  have C := h.crv
  have hu1 : φ (jaU1 p A1) = X * φ p.z ^ 2 := by
    simp only [jaU1, h.fm, h.mul, h.pow, h.one, hx]
    grind
  have hu2 : φ (jaU2 p A1) = φ GX * φ p.z ^ 2 := by
    simp only [jaU2, h.fm, h.mul, h.pow]
  have hX : φ GX - X ≠ 0 := by
    intro e
    refine hne (h.inj (fm_in _) (fm_in _) ?_)
    rw [hu1, hu2]
    have : φ GX = X := by grind
    rw [this]
  have hno : ¬ Opp X Y (φ GX) (φ GY) := by
    rintro ⟨e, _⟩
    exact hX (by grind)
  obtain ⟨v, hv⟩ : ∃ v, (φ GX - X) * v = 1 := ⟨_, Field.mul_inv_cancel hX⟩
  have hon : Mine.On X Y := by
    have := nG_on C (g_on h) k
    rw [hG] at this
    exact this
  have hong : Mine.On (φ GX) (φ GY) := g_on h
  have hl : Sl ((φ GY - Y) * v) X Y (φ GX) (φ GY) := by
    refine ⟨by grind, ?_⟩
    unfold On at hon hong
    grind
  have hadd := add_sl hno hl
  refine ⟨jadd_in p A1, sX ((φ GY - Y) * v) X (φ GX), sY ((φ GY - Y) * v) X Y (sX ((φ GY - Y) * v) X (φ GX)), ?_, ?_, ?_, ?_⟩
  · show (nG (.aff (φ GX) (φ GY)) k).add (.aff (φ GX) (φ GY)) = _
    rw [hG, hadd]
  · show φ (jaX p A1) = sX ((φ GY - Y) * v) X (φ GX) * φ (jaZ p A1) ^ 2
    simp only [jaX, jaZ, jaR, jaH3, jaH2, jaH, jaV, jaU1, jaU2, jaS1, jaS2, h.fm, h.sub, h.mul, h.pow, h.two, h.one, hx, hy]
    unfold sX
    clear hno hadd hl hG C hon hong hu1 hu2 hne hX
    generalize φ GX = gx at *
    generalize φ GY = gy at *
    grind
  · show φ (jaY p A1) = sY ((φ GY - Y) * v) X Y (sX ((φ GY - Y) * v) X (φ GX)) * φ (jaZ p A1) ^ 3
    simp only [jaY, jaX, jaZ, jaR, jaH3, jaH2, jaH, jaV, jaU1, jaU2, jaS1, jaS2, h.fm, h.sub, h.mul, h.pow, h.two, h.one, hx, hy]
    unfold sY sX
    clear hno hadd hl hG C hon hong hu1 hu2 hne hX
    generalize φ GX = gx at *
    generalize φ GY = gy at *
    grind
  · show φ (jaZ p A1) ≠ 0
    simp only [jaZ, jaH, jaU1, jaU2, h.fm, h.sub, h.mul, h.pow, h.one, hx]
    have e : (φ GX * φ p.z ^ 2 - X * φ p.z ^ 2 * 1 ^ 2) * φ p.z * 1 = (φ GX - X) * φ p.z ^ 3 := by grind
    rw [e]
    exact mul_ne hX (pow_ne hz 3)
theorem jrep_one (h : FldOf pN F φ) : JRep φ 1 A1 := by
  refine ⟨⟨⟨by decide, by decide⟩, ⟨by decide, by decide⟩, ⟨by decide, by decide⟩⟩, φ GX, φ GY, rfl, ?_, ?_, ?_⟩
  · show φ GX = φ GX * φ 1 ^ 2
    rw [h.one]; grind
  · show φ GY = φ GY * φ 1 ^ 3
    rw [h.one]; grind
  · show φ 1 ≠ 0
    rw [h.one]; exact fun e => Field.zero_ne_one e.symm
/-- walks up the bits -/
def runJ : List Bool → J3 → Option J3
  | [], p => some p
  | false :: r, p => runJ r (jdbl p)
  | true :: r, p => match decide (jaU1 (jdbl p) A1 = jaU2 (jdbl p) A1) with
    | true => none
    | false => runJ r (jadd (jdbl p) A1)
def upJ : List Bool → Nat → Nat
  | [], k => k
  | false :: r, k => upJ r (2 * k)
  | true :: r, k => upJ r (2 * k + 1)
theorem runJ_ok (h : FldOf pN F φ) : ∀ (l : List Bool) (k : Nat) (p q : J3), JRep φ k p → runJ l p = some q → JRep φ (upJ l k) q
  | [], k, p, q, hp, e => by cases e; exact hp
  | false :: r, k, p, q, hp, e => runJ_ok h r _ _ _ (jdbl_ok h hp).2 e
  | true :: r, k, p, q, hp, e => by
    unfold runJ at e
    split at e
    · cases e
    · rename_i hd
      exact runJ_ok h r _ _ _ (jadd_ok h (jdbl_ok h hp).2 (of_decide_eq_false hd)) e
end
end Mine
end
section
namespace Mine
open Lean.Grind
def nN : Nat := 115792089237316195423570985008687907852837564279074904382605163141518161494337
def nBits : List Bool := ((List.range 255).reverse).map fun i => (nN - 1).testBit i
theorem nBits_up : upJ nBits 1 = nN - 1 := by decide +kernel
def okJ (l : List Bool) : Bool := match runJ l A1 with
  | some q => decide (fm (q.x - GX * q.z ^ 2) = 0) && decide (fm (q.y + GY * q.z ^ 3) = 0)
  | none => false
theorem order_check : okJ nBits = true := by decide +kernel
section
variable {F : Type} [Field F] {φ : Int → F}
theorem order_inf (h : FldOf pN F φ) : nG (.aff (φ GX) (φ GY)) nN = .inf := by
  have hc := order_check
  unfold okJ at hc
  split at hc
  · rename_i q hq
    obtain ⟨c1, c2⟩ := Bool.and_eq_true_iff.mp hc
    have d1 : φ (fm (q.x - GX * q.z ^ 2)) = 0 := by rw [_root_.of_decide_eq_true c1]; exact h.z0
    have d2 : φ (fm (q.y + GY * q.z ^ 3)) = 0 := by rw [_root_.of_decide_eq_true c2]; exact h.z0
    have hr := runJ_ok h nBits 1 A1 q (jrep_one h) hq
    rw [nBits_up] at hr
    obtain ⟨_, X, Y, hG, hx, hy, hz⟩ := hr
    rw [h.fm, h.sub, h.mul, h.pow, hx] at d1
    rw [h.fm, h.add, h.mul, h.pow, hy] at d2
    have e1 : (X - φ GX) * φ q.z ^ 2 = 0 := by grind
    have e2 : (Y + φ GY) * φ q.z ^ 3 = 0 := by grind
    have hX : X = φ GX := by
      rcases Field.of_mul_eq_zero e1 with e | e
      · grind
      · exact absurd e (pow_ne hz 2)
    have hY : Y = -φ GY := by
      rcases Field.of_mul_eq_zero e2 with e | e
      · grind
      · exact absurd e (pow_ne hz 3)
    have e3 : nN = (nN - 1) + 1 := by decide
    rw [e3]
    show (nG (.aff (φ GX) (φ GY)) (nN - 1)).add (.aff (φ GX) (φ GY)) = .inf
    rw [hG, hX, hY]
    exact add_opp ⟨rfl, rfl⟩
  · cases hc
theorem small_ne (h : FldOf pN F φ) {k : Nat} (h0 : 1 ≤ k) (h1 : k ≤ 282057) : nG (.aff (φ GX) (φ GY)) k ≠ .inf :=
  nG_ne h.crv (g_on h) (fun e => by cases e) (order_inf h) (cop_order h0 h1)
/-- multiples that differ and whose sum is no multiple of the order lie over different x -/
theorem x_ne (h : FldOf pN F φ) {j i : Nat} {x1 y1 x2 y2 : F} (hj : nG (.aff (φ GX) (φ GY)) j = .aff x1 y1) (hi : nG (.aff (φ GX) (φ GY)) i = .aff x2 y2) (h1 : 1 ≤ j) (h2 : j < i) (h3 : j + i ≤ 282057) : x1 ≠ x2 := by
  intro e
  subst e
  have C := h.crv
  have o1 : Mine.On x1 y1 := by have := nG_on C (g_on h) j; rw [hj] at this; exact this
  have o2 : Mine.On x1 y2 := by have := nG_on C (g_on h) i; rw [hi] at this; exact this
  have hyy : (y1 - y2) * (y1 + y2) = 0 := by unfold On at o1 o2; grind
  rcases Field.of_mul_eq_zero hyy with q | q
  · have hy : y1 = y2 := by grind
    subst hy
    have hd : nG (.aff (φ GX) (φ GY)) (j + (i - j)) = .aff x1 y1 := by rw [show j + (i - j) = i by omega]; exact hi
    rw [nG_add C (g_on h), hj] at hd
    have hc := cancel C (P := .aff x1 y1) (Q := nG (.aff (φ GX) (φ GY)) (i - j)) o1 (nG_on C (g_on h) _)
    rw [hd, neg_add] at hc
    exact small_ne h (k := i - j) (by omega) (by omega) hc.symm
  · have hs : nG (.aff (φ GX) (φ GY)) (j + i) = .inf := by
      rw [nG_add C (g_on h), hj, hi]
      exact add_opp ⟨rfl, by grind⟩
    exact small_ne h (k := j + i) (by omega) h3 hs
theorem in_g : In GX ∧ In GY := ⟨⟨by decide, by decide⟩, ⟨by decide, by decide⟩⟩
theorem jchain (h : FldOf pN F φ) : Chain A1 (JRep φ) 65535 where
  one := jrep_one h
  ok := fun k p hp => ⟨hp.1, (jdbl_ok h hp).1⟩
  dbl := fun k p hp _ _ => (jdbl_ok h hp).2
  add := fun k p hp h1 h2 => by
    have hne : jaU1 p A1 ≠ jaU2 p A1 := by
      obtain ⟨_, X, Y, hG, hx, hy, hz⟩ := id hp
      have hX : φ GX ≠ X := x_ne h (j := 1) (i := 2 * k) (x1 := φ GX) (y1 := φ GY) rfl hG (by omega) (by omega) (by omega)
      intro e
      have e2 := congrArg φ e
      simp only [jaU1, jaU2, h.fm, h.mul, h.pow, h.one, hx] at e2
      have e3 : (φ GX - X) * φ p.z ^ 2 = 0 := by grind
      rcases Field.of_mul_eq_zero e3 with q | q
      · exact hX (by grind)
      · exact pow_ne hz 2 q
    exact ⟨hne, jadd_ok h hp hne⟩
theorem jz_ok (h : FldOf pN F φ) : ∀ k p, JRep φ k p → p.z ≠ 0 ∧ Int.gcd p.z PP = 1 := by
  rintro k p ⟨_, X, Y, _, _, _, hz⟩
  exact ⟨fun e => hz (by rw [e]; exact h.z0), h.ne0 hz⟩
theorem achain (h : FldOf pN F φ) : AChain (ARep φ) 131072 where
  one := ⟨in_g.1, in_g.2, rfl⟩
  ok := fun k x y hp => ⟨hp.1, hp.2.1⟩
  dbl := fun k x y hp _ _ => by
    obtain ⟨ix, iy, hG⟩ := hp
    have C := h.crv
    have hon : Mine.On (φ x) (φ y) := by have := nG_on C (g_on h) k; rw [hG] at this; exact this
    have hY := C.ny _ _ hon
    have h2Y : φ (2 * y) ≠ 0 := by rw [h.mul, h.two]; exact mul_ne C.two hY
    have hv := h.pinv h2Y
    refine ⟨fun e => ?_, fm_in _, fm_in _, ?_⟩
    · have := congrArg φ e
      rw [h.fm, h.add, h.z0] at this
      rw [h.mul, h.two] at h2Y
      exact h2Y (by grind)
    · have e : 2 * k = k + k := by omega
      rw [e, nG_add C (g_on h), hG]
      have hno : ¬ Opp (φ x) (φ y) (φ x) (φ y) := by
        rintro ⟨_, q⟩
        rw [h.mul, h.two] at h2Y
        exact h2Y (by grind)
      rw [h.mul, h.two] at hv
      have hl : Sl (φ (laT x y)) (φ x) (φ y) (φ x) (φ y) := by
        simp only [laT, h.fm, h.mul, h.three]
        generalize φ (Mine.pinv (2 * y)) = v at *
        exact ⟨by grind, by grind⟩
      rw [add_sl hno hl]
      simp only [laX, laY, h.fm, h.sub, h.mul, sX, sY]
  add := fun j i x1 y1 x2 y2 hj hi h1 h2 h3 => by
    obtain ⟨ix1, iy1, hG1⟩ := hj
    obtain ⟨ix2, iy2, hG2⟩ := hi
    have C := h.crv
    have hne : φ x1 ≠ φ x2 := x_ne h hG1 hG2 h1 h2 (by omega)
    have o1 : Mine.On (φ x1) (φ y1) := by have := nG_on C (g_on h) j; rw [hG1] at this; exact this
    have o2 : Mine.On (φ x2) (φ y2) := by have := nG_on C (g_on h) i; rw [hG2] at this; exact this
    refine ⟨fun e => hne (by rw [e]), fm_in _, fm_in _, ?_⟩
    rw [nG_add C (g_on h), hG1, hG2]
    have hd : φ (fm (x2 - x1)) ≠ 0 := by
      rw [h.fm, h.sub]
      intro e
      exact hne (by grind)
    have hv := h.pinv hd
    rw [h.fm, h.sub] at hv
    have hno : ¬ Opp (φ x1) (φ y1) (φ x2) (φ y2) := fun ⟨e, _⟩ => hne e
    have hl : Sl (φ (laS x1 y1 x2 y2)) (φ x1) (φ y1) (φ x2) (φ y2) := by
      simp only [laS, h.fm, h.mul, h.sub]
      generalize φ (Mine.pinv (fm (x2 - x1))) = v at *
      refine ⟨by grind, ?_⟩
      unfold On at o1 o2
      grind
    rw [add_sl hno hl]
    simp only [laX, laY, h.fm, h.sub, h.mul, sX, sY]
theorem agree_ok (h : FldOf pN F φ) : ∀ k x y p x' y', ARep φ k x y → JRep φ k p → Aff p x' y' → x' = x ∧ y' = y := by
  rintro k x y p x' y' ⟨ix, iy, hA⟩ ⟨_, X, Y, hJ, hx, hy, hz⟩ ⟨z, _, _, hd, rfl, rfl⟩
  rw [hJ] at hA
  injection hA with e1 e2
  have hzz : φ z * φ p.z = 1 := by
    have := (h.zero _).mpr (by rw [pN_eq]; exact hd)
    rw [h.sub, h.mul, h.one] at this
    grind
  constructor
  · refine h.inj (fm_in _) ix ?_
    rw [h.fm, h.mul, h.pow, hx, ← e1]
    have : φ p.z ^ 2 * φ z ^ 2 = (φ z * φ p.z) ^ 2 := by grind
    have : X * φ p.z ^ 2 * φ z ^ 2 = X * (φ z * φ p.z) ^ 2 := by grind
    rw [this, hzz]; grind
  · refine h.inj (fm_in _) iy ?_
    rw [h.fm, h.mul, h.pow, hy, ← e2]
    have : Y * φ p.z ^ 3 * φ z ^ 3 = Y * (φ z * φ p.z) ^ 3 := by grind
    rw [this, hzz]; grind
end
/-- all that the walk asks of the curve -/
theorem curve_facts : ∃ (AG : Nat → Int → Int → Prop) (JG : Nat → J3 → Prop), AChain AG 131072 ∧ Chain ⟨GX, GY, 1⟩ JG 65535 ∧ (∀ k p, JG k p → p.z ≠ 0 ∧ Int.gcd p.z PP = 1) ∧
    (∀ k x y p x' y', AG k x y → JG k p → Aff p x' y' → x' = x ∧ y' = y) := by
  obtain ⟨F, _, φ, h⟩ := exists_field prPN
  exact ⟨ARep φ, JRep φ, achain h, jchain h, jz_ok h, agree_ok h⟩
theorem gcdn : ∀ k : Nat, 1 ≤ k → k ≤ 65535 → Int.gcd (k : Int) NN = 1 := by
  intro k h1 h2
  show Nat.gcd (k : Int).natAbs NN.natAbs = 1
  have e : NN.natAbs = 115792089237316195423570985008687907852837564279074904382605163141518161494337 := rfl
  rw [e, Int.natAbs_natCast]
  exact cop_order h1 (by omega)
end Mine
end
section
open PySem PySem.W PyProof.Rows PySem.Calls
local macro_rules | `(tactic| walk_at "no such node") => `(tactic| fail "none")
local macro_rules | `(tactic| walk_at "no such node") => `(tactic| fail "none")
local macro_rules | `(tactic| walk_at "no such node") => `(tactic| fail "none")
local macro_rules | `(tactic| walk_at "no such node") => `(tactic| fail "none")
local macro_rules | `(tactic| walk_at "no such node") => `(tactic| fail "none")
local macro_rules | `(tactic| walk_at "no such node") => `(tactic| fail "none")
local macro_rules | `(tactic| walk_at "no such node") => `(tactic| fail "none")
local macro_rules | `(tactic| walk_at "no such node") => `(tactic| fail "none")
local macro_rules | `(tactic| walk_at "no such node") => `(tactic| fail "none")
local macro_rules | `(tactic| walk_at "no such node") => `(tactic| fail "none")
local macro_rules | `(tactic| walk_at "no such node") => `(tactic| fail "none")
local macro_rules | `(tactic| walk_at "no such node") => `(tactic| fail "none")
local macro_rules | `(tactic| walk_at "no such node") => `(tactic| fail "none")
local macro_rules | `(tactic| walk_at "no such node") => `(tactic| fail "none")
local macro_rules | `(tactic| walk_at "no such node") => `(tactic| fail "none")
local macro_rules | `(tactic| walk_at "no such node") => `(tactic| fail "none")
local macro_rules | `(tactic| walk_at "no such node") => `(tactic| fail "none")
local macro_rules | `(tactic| walk_at "no such node") => `(tactic| fail "none")
local macro_rules | `(tactic| walk_at "no such node") => `(tactic| fail "none")
local macro_rules | `(tactic| walk_at "no such node") => `(tactic| fail "none")
namespace Mine
open PySem.Builtin.Int (intBits)
theorem hold173 {M : Model} {A : Around} {vs : List Value} {Q E : Value → Shared → Prop} {s : Shared} (h : Hold (wpAny M A (call (.ref 173) vs) Q E s)) : wpAny M A (call (.ref 173) vs) Q E s := h
theorem hold194 {M : Model} {A : Around} {vs : List Value} {Q E : Value → Shared → Prop} {s : Shared} (h : Hold (wpAny M A (call (.ref 194) vs) Q E s)) : wpAny M A (call (.ref 194) vs) Q E s := h
local macro_rules | `(tactic| ktf_call $c) => `(tactic| (unfold Hold; k_dflt (refine' ctx_use $c ?k1 ?k2 ?k3 ?k4 ?k5 ?k6 ?k7 ?k8 ?k9 ?_; (case k1 => k_asm); (case k2 => k_asm); (case k3 => k_asm); (case k4 => k_asm); (case k5 => k_asm); (case k6 => first | exact rfl | assumption); (case k7 => first | exact trivial | exact (fun _ h => h) | exact (fun _ h => List.mem_cons_of_mem _ h) | ktd_sub | k_mem | assumption | exact sub_trans (by assumption) (by ktd_sub) | ((refine List.forall_mem_cons.mpr ⟨?_, List.forall_mem_cons.mpr ⟨?_, List.forall_mem_cons.mpr ⟨?_, List.forall_mem_nil _⟩⟩⟩) <;> k_mem)); (case k8 => ktr_room); (case k9 => ktr_units))))
local macro_rules | `(tactic| k_all) => `(tactic| assumption)
local macro_rules | `(tactic| walk_at "subscriptTail") => `(tactic| (k_here; (with_reducible show wpAny _ _ (subscriptTail _ _ (Value.ref _) (Value.int _ _)) _ _ _); (rename PtX _ _ _ _ _ _ _ => kP); k_dflt (refine' item_tupleT ?t ?a ?b ?c ?d ?_; (case t => exact PtX.isTup kP (by k_asm) (by k_asm) (by k_asm) (by ktd_sub)); (case a => decide); (case b => decide); (case c => rfl); (case d => rfl); k_whole)))
theorem mod_range {a : Int} : ((1 + a.fmod 65535).toNat : Int) = 1 + a.fmod 65535 ∧ 1 ≤ (1 + a.fmod 65535).toNat ∧ (1 + a.fmod 65535).toNat ≤ 65535 := by
  have h1 := Int.fmod_nonneg_of_pos a (show (0 : Int) < 65535 by decide)
  have h2 := Int.fmod_lt_of_pos a (show (0 : Int) < 65535 by decide)
  omega
theorem mac_cut {G : Prop} {h₀ h : Heap} {L fc c1 fm cm A1 A2 A3 : Addr} {oF o1 oM oc oA1 oN oA3 : Obj} {rest : List (Addr × Obj)} {vs : Array Value} {q : Str} {t tk : Tok} {nonce : Int}
    (_N : News h₀ L h ((fc, oF) :: (c1, o1) :: (fm, oM) :: (cm, oc) :: (A1, oA1) :: (A2, oN) :: (A3, oA3) :: rest)) (_d1 : oc.data = .fields vs) (_d2 : vs[1]? = some (.str q t)) (_dn : oN.data = .cell (some (.int nonce tk)))
    (claim : Hold (MacOK fm [(fm, oM), (cm, oc), (A2, oN)] nonce)) (k : MacOK fm [(fm, oM), (cm, oc), (A2, oN)] nonce → G) : G := k claim
structure CntOK (fc : Addr) (led : List (Addr × Obj)) (k px py : Int) : Prop where
  use : ∀ (x y : Int) (t1 t2 : Tok), 0 ≤ x → x < 256 ^ 32 → 0 ≤ y → y < 256 ^ 32 → Ctx fc [.int x t1, .int y t2] (fun news => ∀ p ∈ led, p ∈ news) (RetI (Cnt k px py x y)) 60
theorem cnt_cut {G : Prop} {h₀ h : Heap} {L fc : Addr} {oF : Obj} {rest : List (Addr × Obj)} {k px py : Int} (_N : News h₀ L h ((fc, oF) :: rest)) (claim : Hold (CntOK fc ((fc, oF) :: rest) k px py)) (go : CntOK fc ((fc, oF) :: rest) k px py → G) : G := go claim
theorem hold151 {M : Model} {A : Around} {vs : List Value} {Q E : Value → Shared → Prop} {s : Shared} (h : Hold (wpAny M A (call (.ref 151) vs) Q E s)) : wpAny M A (call (.ref 151) vs) Q E s := h
theorem hold158 {M : Model} {A : Around} {vs : List Value} {Q E : Value → Shared → Prop} {s : Shared} (h : Hold (wpAny M A (call (.ref 158) vs) Q E s)) : wpAny M A (call (.ref 158) vs) Q E s := h
local macro_rules | `(tactic| walk_at "call builtin:int.to_bytes") => `(tactic| (k_here; (refine tobytes_big (k := 32) rfl (by decide) (by assumption) (by assumption) ?_); intro b9 t9 k9 hb9 hs9))
theorem sig_from {q : J3} {rx ry ki x y : Int} {b1 b2 : Array UInt8} (e1 : bval b1 = x) (e2 : bval b2 = y) (hq : q = sigOf ry (sraw ki (bval b1) rx (bval b2)) rx) : SigOK q rx ry (sraw ki x rx y) := by
  subst e1 e2 hq
  exact sig_ok (Int.fmod_nonneg_of_pos _ (by decide)) (Int.fmod_lt_of_pos _ (by decide))
theorem hold2 {M : Model} {A : Around} {f : Addr} {x y : Int} {t u : Tok} {Q E : Value → Shared → Prop} {s : Shared} (h : Hold (wpAny M A (call (.ref f) [.int x t, .int y u]) Q E s)) : wpAny M A (call (.ref f) [.int x t, .int y u]) Q E s := h
local macro_rules | `(tactic| walk_at "call ref") => `(tactic| (k_here; refine hold2 ?_))
/-- two ints are one: a test that need not be walked twice -/
structure FctE (a b : Int) : Prop where
  out : a = b
section
variable {prog : Program} {w : World} {A : Around} {E : Value → Shared → Prop} {s : Shared} {a b : Int} {t u : Tok} {Q : Value → Shared → Prop}
theorem ne_fct (k : FctE a b) (h : Q (.bool false) s) : wpAny (model prog w) A (compareOp .NotEq (.int a t) (.int b u)) Q E s := by
  refine ne_int ?_
  have e : (a != b) = false := by rw [k.out]; simp
  rw [e]; exact h
theorem eq_fct (k : FctE a b) (h : Q (.bool true) s) : wpAny (model prog w) A (compareOp .Eq (.int a t) (.int b u)) Q E s := by
  refine eq_int ?_
  have e : (a == b) = true := by rw [k.out]; simp
  rw [e]; exact h
end
structure JoinI (x : Int) (h₀ : Heap) (L : Addr) (m : Str → Option Value) (news : List (Addr × Obj)) (s : Shared) (v : Value) (s' : Shared) : Prop where
  ok : ∃ t h tk, v = .int x t ∧ s' = { s with heap := h, toks := tk } ∧ Fr h₀ L h m ∧ News h₀ L h news
theorem join_end {x y : Int} {h₀ : Heap} {L : Addr} {m : Str → Option Value} {news : List (Addr × Obj)} {s : Shared} {t : Tok} {h : Heap} {tk : Nat} (e : x = y) (F : Fr h₀ L h m) (N : News h₀ L h news) : JoinI x h₀ L m news s (.int y t) { s with heap := h, toks := tk } := by
  subst e
  exact ⟨t, h, tk, rfl, rfl, F, N⟩
theorem hold_ifexp {M : Model} {A : Around} {E : Value → Shared → Prop} {s : Shared} {Q : Value → Shared → Prop} {env : Env} {p1 p2 p : Pos} {ops : List CmpOp} {cs : List Expr} {b c : Expr}
    (h : Hold (wpAny M A (eval (Expr.IfExp (Expr.Compare (Expr.Name (Str.ofString "parity") p1) ops cs p2) b c p) env) Q E s)) : wpAny M A (eval (Expr.IfExp (Expr.Compare (Expr.Name (Str.ofString "parity") p1) ops cs p2) b c p) env) Q E s := h
theorem join_int {M : Model} {A : Around} {E : Value → Shared → Prop} {s : Shared} {Q : Value → Shared → Prop} {x : Int} {tr : Sem Value} {h₀ : Heap} {L : Addr} {m : Str → Option Value} {news : List (Addr × Obj)} (_F : Fr h₀ L s.heap m) (_N : News h₀ L s.heap news)
    (h1 : wpAny M A tr (JoinI x h₀ L m news s) E s)
    (h2 : ∀ t h tk, Fr h₀ L h m → News h₀ L h news → Q (.int x t) { s with heap := h, toks := tk }) : wpAny M A tr Q E s := by
  refine wpAny_mono h1 (fun v s' q => ?_) fun _ _ x => x
  obtain ⟨t, h, tk, rfl, rfl, F, N⟩ := q.ok
  exact h2 t h tk F N
local macro_rules | `(tactic| walk_at "compareOp NotEq int int") => `(tactic| (k_here; refine ne_fct (by assumption) ?_))
local macro_rules | `(tactic| walk_at "compareOp Eq int int") => `(tactic| (k_here; refine eq_fct (by assumption) ?_))
local macro_rules | `(tactic| walk_at "eval IfExp") => `(tactic| (k_here; refine hold_ifexp ?_))
theorem len63 {n : Nat} (h : ¬ ((63 : Int) < (n : Int))) : n ≤ 63 := by omega
theorem small_bits {d : Int} (h : d.natAbs < 10000) : intBits d ≤ 1048576 := Nat.le_trans (intBits_le_64 (by omega) (by omega)) (by decide)
local macro_rules | `(tactic| walk_at "call ref") => `(tactic| (k_here; (with_reducible show wpAny _ _ (call (Value.ref 187) _) _ _ _); k_dflt (refine' at_call _ _ _ _ _ _ _ ?ki ?klen ?k0 ?k1 ?klay ?kd _ _ _ _ _ _ _ _ _ _ _ _ _ _ _ _ _ _ _ _ _ _ ?kB ?kF ?kX ?kN ?kT ?kK ?kL ?kdp ?kun ?_; (case kB => k_asm); (case kF => k_asm); (case kX => k_asm); (case kN => k_asm); (case kT => k_asm); (case kK => exact rfl); (case kL => assumption); (case ki => assumption); (case klen => exact len63 (by assumption)); (case k0 => decide); (case k1 => decide); (case klay => assumption); (case kd => exact small_bits (by decide)); (case kdp => ktr_room); (case kun => first | decide | ktr_units)); intro r9 t9 h9 tk9 hr9 F9 N9; (try dsimp only); (try k_fold)))
theorem n_lo (a : Int) : 0 ≤ a.fmod 115792089237316195423570985008687907852837564279074904382605163141518161494337 := Int.fmod_nonneg_of_pos _ (by decide)
theorem n_hi (a : Int) : a.fmod 115792089237316195423570985008687907852837564279074904382605163141518161494337 < 256 ^ 32 := Int.lt_trans (Int.fmod_lt_of_pos _ (by decide)) (by decide)
theorem cnt_bits {k px py x y c : Int} (h : Cnt k px py x y c) : intBits c ≤ 300 := by
  have h1 := h.lo
  have h2 := h.hi
  have hn2 : NN / 2 = 57896044618658097711785492504343953926418782139537452191302581570759080747168 := by decide
  exact Nat.le_trans (bits_of_natAbs_le (b := NN / 2) (by omega) (by rw [hn2]; exact lit_bits (by decide +kernel))) (by decide)
local macro_rules | `(tactic| bits_by_make) => `(tactic| first | with_reducible assumption | exact lit_bits (by decide +kernel))
local macro_rules | `(tactic| walk_at "eval Call") => `(tactic| (k_here; k_dflt ((show wpAny _ _ (eval (Expr.Call (Expr.Name (Str.ofString "_law_at") _) _ _ _) _) _ _ _); refine Call_ ?_)))
theorem holdG {P : Prop} (h : Hold P) : P := h
local macro_rules | `(tactic| wrow_close) => `(tactic| ((with_reducible show GoodW _ _ _ _ _ _ _); refine holdG ?_))
theorem any01 {x : Int} (h : x = 0 ∨ x = 1) : ([0, 1].any fun y => y == x) = true := by
  rcases h with rfl | rfl <;> decide
theorem in_bitsN {a : Int} (h0 : 0 ≤ a) (h1 : a ≤ NN / 2) : intBits a ≤ 300 := by
  have hn2 : NN / 2 = 57896044618658097711785492504343953926418782139537452191302581570759080747168 := by decide
  exact Nat.le_trans (bits_of_natAbs_le (b := NN / 2) (by omega) (by rw [hn2]; exact lit_bits (by decide +kernel))) (by decide)
theorem news_app {h₀ h : Heap} {L : Addr} {a b : List (Addr × Obj)} (N : News h₀ L h b) (hs : ∀ p ∈ a, p ∈ b) : News h₀ L h (a ++ b) := fun p hp => (List.mem_append.mp hp).elim (fun hp => N p (hs p hp)) (N p)
local macro_rules | `(tactic| kn_enter) => `(tactic| (refine' code_nest ?k1 ?k2 ?k3 ?k4 ?k5 ?kA ?kF ?kK ?k6 ?k7 ?k8 ?k9 ?kB ?_ ?c2 ?c3 ?c4 ?c5; (case kA => exact rfl); (case kF => exact rfl); (case kK => first | exact rfl | assumption); (case k1 => k_asm); (case k2 => k_asm); (case k3 => k_asm); (case k4 => k_asm); (case k5 => k_asm); (case k6 => k_mem); (case k7 => exact codeRec_news (by k_asm) (by k_mem) (by assumption) (by assumption)); (case k8 => first | k_room | ktr_room); (case k9 => exact BindsTo.of_eq rfl); (case c5 => decide); (case kB => exact locs rfl); (case c2 => exact rfl); (case c3 => exact rfl); (case c4 => exact rfl); k_whole; intro g' L' h' FG' F' N' B' X' T'; (try dsimp only); (try k_lift B'); (try k_fold)))
theorem law_holds (AG : Nat → Int → Int → Prop) (ac : AChain AG 131072) (JG : Nat → J3 → Prop) (jc : Chain ⟨GX, GY, 1⟩ JG 65535) (jz : ∀ k p, JG k p → p.z ≠ 0 ∧ Int.gcd p.z PP = 1) (agree : ∀ k x y p x' y', AG k x y → JG k p → Aff p x' y' → x' = x ∧ y' = y) (gcdn : ∀ k : Nat, 1 ≤ k → k ≤ 65535 → Int.gcd (k : Int) NN = 1) : PySem.Challenge.rw_bh0025_01.Holds := by
  refine hd ?_
  k_go0
  k_with "call ref" => (first | refine hold173 ?_ | refine hold194 ?_ | refine hold151 ?_ | refine hold158 ?_ | refine hold2 ?_)
  all_goals (try k_fold)
  k_steps
  rename Int => a0
  have hr := mod_range (a := a0)
  ktf_call (lt_call ac (1 + a0.fmod 65535).toNat _ _ hr.1.symm hr.2.1 (by omega))
  intro v px py h1' tk1 news1 hG F1 N1 hsub hpt
  obtain ⟨D, ex, u1, u2, rfl, hpx, N2⟩ := ptx_of hpt N1 hsub
  clear N1 hpt
  simp only [List.cons_append, List.nil_append] at N2
  have hne1 := hpx.ne (.head _)
  have hne2 := hpx.ne (.tail _ (.head _))
  have hne3 := hpx.ne (.tail _ (.tail _ (.head _)))
  have hne4 := hpx.ne (.tail _ (.tail _ (.tail _ (.head _))))
  k_steps
  rename News _ _ _ _ => nN
  refine mac_cut nN (by assumption) (by assumption) (by assumption) ?claim ?rest
  case claim =>
    unfold Hold
    refine ⟨⟨_, _, _, _, .head _⟩, fun ba bb tt1 tt2 => ?_⟩
    unfold Ctx RetY
    intro w mean mg mb dp un gd cn cs a ccd cl outer A₀ base h₀ L m news s Q E B F X N T hk hP hd hu hret
    have NN1 := news_app N hP
    simp only [List.cons_append, List.nil_append] at NN1
    refine wpAny_call ?_
    k_dflt kn_enter
    k_steps
    refine tobytes_big (k := 32) rfl (by decide) (by omega) (Int.lt_of_lt_of_le (show (1 + a0.fmod 65535 : Int) < 65536 by omega) (by decide)) ?_
    intro b9 t9 k9 hb9 hs9
    k_steps
    exact retY hret (by assumption) (by assumption) (by ktd_sub) ⟨hb9, hs9⟩
  intro HM
  rename News _ _ _ _ => nN
  refine cnt_cut (k := 1 + a0.fmod 65535) (px := px) (py := py) nN ?claim2 ?rest2
  case claim2 =>
    unfold Hold
    refine ⟨fun x y tt1 tt2 hx0 hx1 hy0 hy1 => ?_⟩
    unfold Ctx RetI
    intro w mean mg mb dp un gd cn cs a ccd cl outer A₀ base h₀ L m news s Q E B F X N T hk hP hd hu hret
    have NN1 := news_app N hP
    simp only [List.cons_append, List.nil_append] at NN1
    have hb1 := bits_le256 hx0 hx1
    have hb2 := bits_le256 hy0 hy1
    refine wpAny_call ?_
    k_dflt kn_enter
    k_steps
    have HM2 := HM
    rw [← hr.1] at HM2
    ktf_call (sg_call jc (by decide) jz (1 + a0.fmod 65535).toNat hr.2.1 (by omega) (gcdn _ hr.2.1 hr.2.2) _ _ HM2 _ _ _ _ (by omega) (by omega))
    intro Dq q v1 v2 v3 cq hq tkq hQ FQ NQ
    obtain ⟨rx, ry, ki, hrr, hki0, hki1, hki2, hqe⟩ := hQ
    obtain ⟨jp, hjp, haff⟩ := hrr
    obtain ⟨hrx, hry⟩ := agree _ _ _ _ _ _ hG hjp haff
    rw [hr.1] at hki2
    have S := sig_from (x := x) (y := y) (by assumption) (by assumption) hqe
    rw [hrx, hry] at S
    have hS1 : q.y = px := S.r
    have hS3 := any01 S.v
    have hS4 := S.s0
    have hS5 : q.z ≤ Int.fdiv 115792089237316195423570985008687907852837564279074904382605163141518161494337 2 := S.s1
    have hS6 := in_bitsN S.s0 S.s1
    k_steps
    all_goals try first
      | exact absurd hS1 (by assumption)
      | exact absurd hS4 (by assumption)
      | exact absurd hS5 (by assumption)
      | exact absurd hS3 (by assumption)
      | exact absurd (hS3.symm.trans (by assumption)) (by decide)
    ktf_call (clow_call q.z _ hS6)
    intro r1 tr1 hr1 tkr1 hcl1 FR1 NR1
    rw [S.c1] at hcl1
    k_steps
    all_goals try exact absurd hcl1 (by assumption)
    ktf_call (clow_call _ _ (Nat.le_trans (bits_fmod_by (by decide) nn_bits) (by decide)))
    intro r2 tr2 hr2 tkr2 hcl2 FR2 NR2
    have hcl3 : r2 = q.z := hcl2.trans S.c2
    k_steps
    all_goals try exact absurd hcl3 (by assumption)
    · exact retI hret (by assumption) (by assumption) (by ktd_sub) (cnt_of hki2 S (by rw [if_pos (by assumption)]))
    · exact retI hret (by assumption) (by assumption) (by ktd_sub) (cnt_of hki2 S (by rw [if_neg (by assumption)]))
  intro HC
  obtain ⟨hr1, hr2, hr3⟩ := hr
  have hgk : Int.gcd (1 + a0.fmod 65535) NN = 1 := by rw [← hr1]; exact gcdn _ hr2 hr3
  repeat (rename (_ ∧ _) => hz9; clear hz9)
  repeat (rename ((_ : Nat) < _) => hz9; clear hz9)
  repeat (rename (_ ∈ _) => hz9; clear hz9)
  clear hne1 hne2 hne3 hne4 hsub HM
  ktf_call (ln_call _ _ (by assumption))
  intro z tz hhz tkz hzr Fz Nz
  k_steps
  ktf_call (ln_call _ _ (by assumption))
  intro d td hhd tkd hdr Fd Nd
  k_steps
  have e256 : (2 : Int) ^ 256 = 256 ^ 32 := by decide
  rw [e256] at hzr hdr
  ktf_call (HC.use z d _ _ hzr.1 hzr.2 hdr.1 hdr.2)
  intro f1 tf1 hf1 tkf1 hC1 Ff1 Nf1
  k_steps
  ktf_call (HC.use 1 0 _ _ (by decide) (by decide) (by decide) (by decide))
  intro f2 tf2 hf2 tkf2 hC2 Ff2 Nf2
  have ft1 : FctE ((f2 * (1 + a0.fmod 65535) - eps py).fmod 115792089237316195423570985008687907852837564279074904382605163141518161494337) 0 := ⟨cnt_one hC2⟩
  k_steps
  unfold Hold
  rename Fr _ _ _ _ => nF
  rename News _ _ _ _ => nN
  refine join_int (x := eps py) nF nN ?join1 ?join2
  case join1 =>
    refine wpAny_IfExp ?_
    k_steps
    · exact join_end (by unfold eps; rw [if_pos (by assumption)]) (by assumption) (by assumption)
    · exact join_end (by unfold eps; rw [if_neg (by assumption)]) (by assumption) (by assumption)
  intro tj hj tkj Fj Nj
  have hzb := bits_le256 hzr.1 hzr.2
  have hdb := bits_le256 hdr.1 hdr.2
  have hfb := cnt_bits hC1
  have hpb := in_bits (ac.ok _ _ _ hG).1
  k_steps
  · ktf_call (ln_call _ _ (by assumption))
    intro o to hho tko hor Fo No
    k_steps
    ktf_call (ln_call _ _ (by assumption))
    intro key tkey hkey tkkey hkr Fkey Nkey
    rw [e256] at hor hkr
    k_steps
    ktf_call (HC.use o key _ _ hor.1 hor.2 hkr.1 hkr.2)
    intro f3 tf3 hf3 tkf3 hC3 Ff3 Nf3
    k_steps
    ktf_call (HC.use _ _ _ _ (n_lo _) (n_hi _) (n_lo _) (n_hi _))
    intro f4 tf4 hf4 tkf4 hC4 Ff4 Nf4
    have ft2 : FctE ((f1 + f3 - f4).fmod 115792089237316195423570985008687907852837564279074904382605163141518161494337) 0 := ⟨cnt_sum hgk hC1 hC3 hC4⟩
    k_steps
    ktf_call (HC.use _ _ _ _ (n_lo _) (n_hi _) (n_lo _) (n_hi _))
    intro f5 tf5 hf5 tkf5 hC5 Ff5 Nf5
    have ft3 : FctE f5 f1 := ⟨cnt_less hgk hC1 hC5⟩
    k_steps
  · ktf_call (HC.use _ _ _ _ (n_lo _) (n_hi _) (n_lo _) (n_hi _))
    intro g1 tg1 hg1 tkg1 hD1 Fg1 Ng1
    k_steps
    ktf_call (HC.use _ _ _ _ (n_lo _) (n_hi _) (n_lo _) (n_hi _))
    intro g2 tg2 hg2 tkg2 hD2 Fg2 Ng2
    have ft4 : FctE ((g1 - f1 * _).fmod 115792089237316195423570985008687907852837564279074904382605163141518161494337) 0 := ⟨cnt_many hgk hC1 hD1⟩
    have ft5 : FctE g2 (-f1) := ⟨cnt_neg hgk hC1 hD2⟩
    k_steps
end Mine
end
open PySem PySem.W PyProof.Rows
theorem PySem.Challenge.cw_bh0025_01_holds : PySem.Challenge.rw_bh0025_01.Holds := by
  obtain ⟨AG, JG, ac, jc, jz, agree⟩ := Mine.curve_facts
  exact Mine.law_holds AG ac JG jc jz agree Mine.gcdn
