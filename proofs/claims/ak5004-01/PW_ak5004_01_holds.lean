import PyProof.Rows.All
import Wide.All
import OpenK.AllK
import Wide.FinOn
import Lean
import PySem.Challenge.RW_ak5004_01
open PySem PySem.W PySem.Calls PyProof.Rows
set_option Elab.async false
set_option linter.unusedVariables false
set_option exponentiation.threshold 5000
namespace Mine
open PySem.Float64 (V dist Right val sgn decode pack infMag)

def Rep (c : Int) : Prop := ∃ t, t < infMag ∧ V t = c.natAbs
theorem rep_nat : ∀ (k q : Nat), q ≤ 2 ^ 53 → k ≤ 1500 → ∃ t, t < infMag ∧ V t = q * 2 ^ k
  | 0, q, hq, _ => ⟨0 * 2 ^ 52 + q, by have : infMag = 2047 * 2 ^ 52 := rfl; omega, PySem.Float64.V_at hq (.inr rfl)⟩
  | k + 1, q, hq, hk => by
    by_cases h : 2 ^ 52 ≤ q
    · exact ⟨(k + 1) * 2 ^ 52 + q, by have : infMag = 2047 * 2 ^ 52 := rfl; omega, PySem.Float64.V_at hq (.inl h)⟩
    · obtain ⟨t, ht, e⟩ := rep_nat k (2 * q) (by omega) (by omega)
      exact ⟨t, ht, by rw [e, Nat.pow_succ]; ac_rfl⟩
theorem rep_of (q : Int) (k : Nat) (hq : q.natAbs ≤ 2 ^ 53) (hk : k ≤ 1500) : Rep (q * 2 ^ k) := by
  obtain ⟨t, ht, e⟩ := rep_nat k q.natAbs hq hk
  refine ⟨t, ht, ?_⟩
  rw [e, Int.natAbs_mul, Int.natAbs_pow]; rfl

def Fin (x : UInt64) : Prop := ∃ a m e, decode x = .fin a m e
def Near (r : UInt64) (P : Int) (D : Nat) : Prop := Fin r ∧ ∀ c : Int, Rep c → (c * D ≤ P → c ≤ val r) ∧ (P ≤ c * D → val r ≤ c)

theorem near_lo {W D v c : Nat} (hn : dist W (D * v) ≤ dist W (D * c)) (hD : 0 < D) (h : D * c ≤ W) : c ≤ v := by
  rcases Nat.lt_or_ge v c with hv | hv
  · have h1 : D * v < D * c := Nat.mul_lt_mul_of_pos_left hv hD
    unfold dist at hn
    omega
  · exact hv
theorem near_hi {W D v c : Nat} (hn : dist W (D * v) ≤ dist W (D * c)) (hD : 0 < D) (h : W ≤ D * c) : v ≤ c := by
  rcases Nat.lt_or_ge c v with hv | hv
  · have h1 : D * c < D * v := Nat.mul_lt_mul_of_pos_left hv hD
    unfold dist at hn
    omega
  · exact hv
theorem right_near {r : UInt64} {neg : Bool} {W D : Nat} (h : Right r neg W D) (hD : 0 < D) (hW : 2 * W < D * ((2 ^ 54 - 1) * 2 ^ 2045)) : Near r (sgn neg W) D := by
  obtain ⟨t, rfl, hle, hov, hn⟩ := h
  have ht : t < infMag := by
    rcases Nat.lt_or_ge t infMag with h | h
    · exact h
    · have := hov.mp (by omega)
      omega
  obtain ⟨m, e, hd, hv⟩ := PySem.Float64.decode_pack neg ht
  refine ⟨⟨neg, m, e, hd⟩, ?_⟩
  rintro c ⟨t', ht', hc⟩
  rw [PySem.Float64.val_pack neg ht]
  have hnn := (hn ht t').1
  rw [hc] at hnn
  generalize V t = v at *
  have lo := fun h => near_lo hnn hD h
  have hi := fun h => near_hi hnn hD h
  have hDi : (0 : Int) < D := by omega
  rcases Int.le_total 0 c with h0 | h0
  · obtain ⟨k, rfl⟩ := Int.eq_ofNat_of_zero_le h0
    simp only [Int.natAbs_natCast] at lo hi
    have hm : ((k : Int) * (D : Int)) = ((D * k : Nat) : Int) := by rw [Nat.mul_comm]; simp
    rw [hm]
    cases neg
    · simp only [sgn, Bool.false_eq_true, if_false]
      constructor
      · intro h; exact_mod_cast lo (by omega)
      · intro h; exact_mod_cast hi (by omega)
    · simp only [sgn, if_true]
      constructor
      · intro h
        have := Nat.zero_le (D * k)
        have hk : D * k = 0 := by omega
        have hw : W = 0 := by omega
        have := hi (by omega)
        have hk0 : k = 0 := by rcases Nat.mul_eq_zero.mp hk with h | h <;> omega
        omega
      · intro h; omega
  · obtain ⟨k, hk⟩ := Int.eq_ofNat_of_zero_le (show 0 ≤ -c by omega)
    have hc' : c = -(k : Int) := by omega
    subst hc'
    simp only [Int.natAbs_neg, Int.natAbs_natCast] at lo hi
    have hm : (-(k : Int) * (D : Int)) = -((D * k : Nat) : Int) := by rw [Nat.mul_comm, Int.natCast_mul, Int.neg_mul]
    rw [hm]
    cases neg
    · simp only [sgn, Bool.false_eq_true, if_false]
      constructor
      · intro h; omega
      · intro h
        have hk : D * k = 0 := by omega
        have hw : W = 0 := by omega
        have hk0 : k = 0 := by rcases Nat.mul_eq_zero.mp hk with h | h <;> omega
        have := hi (by omega)
        omega
    · simp only [sgn, if_true]
      constructor
      · intro h; have := hi (by omega); omega
      · intro h; have := lo (by omega); omega

theorem near_eq {r : UInt64} {P c : Int} {D : Nat} (h : Near r P D) (hc : Rep c) (e : c * D = P) : val r = c := by
  have := h.2 c hc
  have h1 := this.1 (by omega)
  have h2 := this.2 (by omega)
  omega
theorem sgn_decide (p : Int) : sgn (decide (p < 0)) p.natAbs = p := by
  unfold sgn; by_cases h : p < 0
  · simp [h]; omega
  · simp [h]; omega
theorem zero_fin (b : Bool) : Fin (Float64.zero b) ∧ val (Float64.zero b) = 0 := by
  have h0 : (0 : Nat) < infMag := by decide
  obtain ⟨m, e, hd, _⟩ := PySem.Float64.decode_pack b h0
  refine ⟨⟨b, m, e, hd⟩, ?_⟩
  have := PySem.Float64.val_pack b h0
  show val (pack b 0) = 0
  rw [this, PySem.Float64.V_zero]
  cases b <;> rfl
/-- below the top of the range -/
def Small (p : Int) : Prop := p.natAbs < 2 ^ 1300
theorem near_zero {r : UInt64} (h : Fin r) (e : val r = 0) {P : Int} {D : Nat} (hP : P = 0) (hD : 0 < D) : Near r P D := by
  refine ⟨h, fun c _ => ?_⟩
  rw [e, hP]
  have : (0 : Int) < D := by omega
  constructor
  · intro h
    by_cases h' : c ≤ 0
    · exact h'
    · have := Int.mul_pos (show 0 < c by omega) this; omega
  · intro h
    by_cases h' : 0 ≤ c
    · exact h'
    · have := Int.mul_neg_of_neg_of_pos (show c < 0 by omega) this; omega
theorem add_near {x y : UInt64} (hx : Fin x) (hy : Fin y) (sx : Small (val x + val y)) : Near (Float64.add x y) (val x + val y) 1 := by
  obtain ⟨a, m, e, hx⟩ := hx
  obtain ⟨b, k, f, hy⟩ := hy
  have h := PySem.Float64.add_right hx hy
  by_cases h0 : val x + val y = 0
  · rw [h.1 h0]
    exact near_zero (zero_fin _).1 (zero_fin _).2 h0 (by decide)
  · have r := right_near (h.2 h0) (by decide) (by unfold Small at sx; omega)
    rw [sgn_decide] at r
    exact r
theorem sub_near {x y : UInt64} (hx : Fin x) (hy : Fin y) (sx : Small (val x - val y)) : Near (Float64.sub x y) (val x - val y) 1 := by
  obtain ⟨a, m, e, hx⟩ := hx
  obtain ⟨b, k, f, hy⟩ := hy
  have h := PySem.Float64.sub_right hx hy
  by_cases h0 : val x - val y = 0
  · rw [h.1 h0]
    exact near_zero (zero_fin _).1 (zero_fin _).2 h0 (by decide)
  · have r := right_near (h.2 h0) (by decide) (by unfold Small at sx; omega)
    rw [sgn_decide] at r
    exact r
theorem sgn_abs {x : UInt64} {a : Bool} {m : Nat} {e : Int} (hx : decode x = .fin a m e) : sgn a (val x).natAbs = val x := by
  rw [PySem.Float64.val_natAbs hx, PySem.Float64.val_eq hx]
theorem sgn_ne (a b : Bool) (m n : Nat) : sgn (a != b) (m * n) = sgn a m * sgn b n := by
  cases a <;> cases b <;> simp [sgn, Int.neg_mul, Int.mul_neg]
theorem ofInt_near {i : Int} (h : i.natAbs < 2 ^ 200) : Near (Float64.ofInt i) (i * 2 ^ 1074) 1 := by
  have r := right_near (PySem.Float64.ofInt_right i) (by decide) (by
    have : i.natAbs * 2 ^ 1074 < 2 ^ 200 * 2 ^ 1074 := Nat.mul_lt_mul_of_pos_right h (Nat.two_pow_pos _)
    omega)
  have e : sgn (decide (i < 0)) (i.natAbs * 2 ^ 1074) = i * 2 ^ 1074 := by
    rw [PySem.Float64.sgn_mul, sgn_decide]; rfl
  rw [e] at r
  exact r
theorem mul_near {x y : UInt64} (hx : Fin x) (hy : Fin y) (sx : (val x).natAbs * (val y).natAbs < 2 ^ 3000) : Near (Float64.mul x y) (val x * val y) (2 ^ 1074) := by
  obtain ⟨a, m, e, hx⟩ := hx
  obtain ⟨b, k, f, hy⟩ := hy
  have r := right_near (PySem.Float64.mul_right hx hy) (Nat.two_pow_pos _) (by omega)
  rw [sgn_ne, sgn_abs hx, sgn_abs hy] at r
  exact r
theorem div_near {x y : UInt64} (hx : Fin x) (hy : Fin y) (h0 : 2 ^ 1073 ≤ val y) (sx : (val x).natAbs < 2 ^ 1900) : Near (Float64.div x y) (val x * 2 ^ 1074) (val y).toNat := by
  obtain ⟨a, m, e, hx⟩ := hx
  obtain ⟨b, k, f, hy⟩ := hy
  have hpos : (0 : Int) < 2 ^ 1073 := Int.pow_pos (by decide)
  have hk : k ≠ 0 := by
    rintro rfl
    have := PySem.Float64.val_eq hy
    rw [this] at h0
    cases b <;> simp [sgn] at h0
  have hb : b = false := by
    have := PySem.Float64.val_eq hy
    rw [this] at h0
    cases b
    · rfl
    · simp only [sgn, if_true] at h0; omega
  have e2 : (val y).natAbs = (val y).toNat := by omega
  have hy2 : 2 ^ 1073 ≤ (val y).natAbs := by
    have h : ((2 ^ 1073 : Nat) : Int) ≤ (val y) := h0
    omega
  have r := right_near (PySem.Float64.div_right hx hy hk) (by omega) (by
    have h1 : (val x).natAbs * 2 ^ 1074 < 2 ^ 1900 * 2 ^ 1074 := Nat.mul_lt_mul_of_pos_right sx (Nat.two_pow_pos _)
    have h2 : 2 ^ 1073 * ((2 ^ 54 - 1) * 2 ^ 2045) ≤ (val y).natAbs * ((2 ^ 54 - 1) * 2 ^ 2045) := Nat.mul_le_mul_right _ hy2
    refine Nat.lt_of_lt_of_le ?_ h2
    refine Nat.lt_trans (Nat.mul_lt_mul_of_pos_left h1 (by decide)) ?_
    decide +kernel)
  subst hb
  have e1 : sgn (a != false) ((val x).natAbs * 2 ^ 1074) = val x * 2 ^ 1074 := by
    have : (a != false) = a := by cases a <;> rfl
    rw [this, PySem.Float64.sgn_mul, sgn_abs hx]; rfl
  rw [e1, e2] at r
  exact r

/-- x is a/2, exactly -/
def Half (x : UInt64) (a : Int) : Prop := Fin x ∧ val x = a * 2 ^ 1073
theorem half_of_near {r : UInt64} {a : Int} (h : Near r (a * 2 ^ 1073) 1) (ha : a.natAbs ≤ 2 ^ 53) : Half r a :=
  ⟨h.1, near_eq h (rep_of a 1073 ha (by decide)) (by simp)⟩
theorem abs_half (a : Int) (k : Nat) : (a * 2 ^ k : Int).natAbs = a.natAbs * 2 ^ k := by rw [Int.natAbs_mul, Int.natAbs_pow]; rfl
theorem small_half {a : Int} {n : Nat} (ha : a.natAbs ≤ 2 ^ 60) (hn : 1200 ≤ n) : (a * 2 ^ 1073 : Int).natAbs < 2 ^ n := by
  rw [abs_half]
  refine Nat.lt_of_le_of_lt (Nat.mul_le_mul_right _ ha) (Nat.lt_of_lt_of_le ?_ (Nat.pow_le_pow_right (by decide) hn))
  decide +kernel
theorem half_ofInt {i : Int} (h : i.natAbs ≤ 2 ^ 52) : Half (Float64.ofInt i) (2 * i) := by
  have e : i * 2 ^ 1074 = 2 * i * 2 ^ 1073 := by rw [Int.pow_succ]; ac_rfl
  have n := ofInt_near (i := i) (by omega)
  rw [e] at n
  exact half_of_near n (by omega)
theorem half_add {x y : UInt64} {a b : Int} (hx : Half x a) (hy : Half y b) (hb : (a + b).natAbs ≤ 2 ^ 53) : Half (Float64.add x y) (a + b) := by
  have e : val x + val y = (a + b) * 2 ^ 1073 := by rw [hx.2, hy.2, Int.add_mul]
  have n := add_near hx.1 hy.1 (by rw [e]; exact small_half (by omega) (by decide))
  rw [e] at n
  exact half_of_near n hb
theorem half_sub {x y : UInt64} {a b : Int} (hx : Half x a) (hy : Half y b) (hb : (a - b).natAbs ≤ 2 ^ 53) : Half (Float64.sub x y) (a - b) := by
  have e : val x - val y = (a - b) * 2 ^ 1073 := by rw [hx.2, hy.2, Int.sub_mul]
  have n := sub_near hx.1 hy.1 (by rw [e]; exact small_half (by omega) (by decide))
  rw [e] at n
  exact half_of_near n hb
theorem half_mulH {x y : UInt64} {a i : Int} (hx : Half x a) (hy : Half y (2 * i)) (hb : (a * i).natAbs ≤ 2 ^ 53) : Half (Float64.mul x y) (a * i) := by
  have e : val x * val y = (a * i) * 2 ^ 1073 * (2 ^ 1074 : Nat) := by
    rw [hx.2, hy.2]
    have : ((2 ^ 1074 : Nat) : Int) = 2 * 2 ^ 1073 := by rw [Int.natCast_pow, Int.pow_succ]; simp
    rw [this]; ac_rfl
  have n := mul_near hx.1 hy.1 (by
    rw [← Int.natAbs_mul, e, Int.natAbs_mul, abs_half]
    refine Nat.lt_of_le_of_lt (Nat.mul_le_mul_right _ (Nat.mul_le_mul_right _ hb)) ?_
    rw [Int.natAbs_natCast]
    decide +kernel)
  exact ⟨n.1, near_eq n (rep_of _ 1073 hb (by decide)) e.symm⟩
theorem half_mul {x : UInt64} {a i : Int} (hx : Half x a) (hi : i.natAbs ≤ 2 ^ 52) (hb : (a * i).natAbs ≤ 2 ^ 53) : Half (Float64.mul x (Float64.ofInt i)) (a * i) :=
  half_mulH hx (half_ofInt hi) hb
theorem half_mulL {x : UInt64} {a i : Int} (hx : Half x a) (hi : i.natAbs ≤ 2 ^ 52) (hb : (i * a).natAbs ≤ 2 ^ 53) : Half (Float64.mul (Float64.ofInt i) x) (i * a) := by
  have e : val (Float64.ofInt i) * val x = (i * a) * 2 ^ 1073 * (2 ^ 1074 : Nat) := by
    rw [hx.2, (half_ofInt hi).2]
    have : ((2 ^ 1074 : Nat) : Int) = 2 * 2 ^ 1073 := by rw [Int.natCast_pow, Int.pow_succ]; simp
    rw [this]; ac_rfl
  have n := mul_near (half_ofInt hi).1 hx.1 (by
    rw [← Int.natAbs_mul, e, Int.natAbs_mul, abs_half]
    refine Nat.lt_of_le_of_lt (Nat.mul_le_mul_right _ (Nat.mul_le_mul_right _ hb)) ?_
    rw [Int.natAbs_natCast]
    decide +kernel)
  exact ⟨n.1, near_eq n (rep_of _ 1073 hb (by decide)) e.symm⟩

/-- x is near p/q: as p/q to every small whole number, with a gap -/
def Quo (B : Nat) (x : UInt64) (p q : Int) : Prop := Fin x ∧ ∀ k : Int, k.natAbs ≤ B →
  (k * q ≤ p → k * 2 ^ 1074 ≤ val x) ∧ (p ≤ k * q → val x ≤ k * 2 ^ 1074) ∧ (k * q < p → k * 2 ^ 1074 + 2 ^ 1054 ≤ val x) ∧ (p < k * q → val x ≤ k * 2 ^ 1074 - 2 ^ 1054)
theorem p1074 : (2 : Int) ^ 1074 = 1048576 * 2 ^ 1054 := by decide +kernel
theorem quo_of_near {r : UInt64} {P p q : Int} {D : Nat} (h : Near r P D) (hD : 0 < D) (hq : 0 < q) (hq2 : q ≤ 2 ^ 20) (e : P * q = p * 2 ^ 1074 * D) : Quo (2 ^ 32) r p q := by
  refine ⟨h.1, fun k hk => ?_⟩
  have hDi : (0 : Int) < D := by omega
  have hT : (0 : Int) < 2 ^ 1054 := Int.pow_pos (by decide)
  have rk := h.2 _ (rep_of k 1074 (by omega) (by decide))
  have ru := h.2 _ (rep_of (k * 1048576 + 1) 1054 (by omega) (by decide))
  have rl := h.2 _ (rep_of (k * 1048576 - 1) 1054 (by omega) (by decide))
  rw [p1074] at *
  generalize (2 : Int) ^ 1054 = T at *
  have hTD : 0 < T * (D : Int) := Int.mul_pos hT hDi
  have le : ∀ u : Int, u * q ≤ p * 1048576 → u * T * D ≤ P := by
    intro u hu
    refine Int.le_of_mul_le_mul_right ?_ hq
    rw [e]
    have := Int.mul_le_mul_of_nonneg_right hu (Int.le_of_lt hTD)
    calc u * T * D * q = u * q * (T * D) := by ac_rfl
      _ ≤ p * 1048576 * (T * D) := this
      _ = p * (1048576 * T) * D := by ac_rfl
  have ge : ∀ u : Int, p * 1048576 ≤ u * q → P ≤ u * T * D := by
    intro u hu
    refine Int.le_of_mul_le_mul_right ?_ hq
    rw [e]
    have := Int.mul_le_mul_of_nonneg_right hu (Int.le_of_lt hTD)
    calc p * (1048576 * T) * D = p * 1048576 * (T * D) := by ac_rfl
      _ ≤ u * q * (T * D) := this
      _ = u * T * D * q := by ac_rfl
  have ek : k * (1048576 * T) = k * 1048576 * T := by ac_rfl
  rw [ek] at rk ⊢
  have eu : (k * 1048576 + 1) * T = k * 1048576 * T + T := by rw [Int.add_mul, Int.one_mul]
  have el : (k * 1048576 - 1) * T = k * 1048576 * T - T := by rw [Int.sub_mul, Int.one_mul]
  rw [← eu, ← el]
  have c1 : k * 1048576 * q = k * q * 1048576 := by ac_rfl
  have c2 : (k * 1048576 + 1) * q = k * q * 1048576 + q := by rw [Int.add_mul, Int.one_mul, c1]
  have c3 : (k * 1048576 - 1) * q = k * q * 1048576 - q := by rw [Int.sub_mul, Int.one_mul, c1]
  refine ⟨fun hk => rk.1 (le _ ?_), fun hk => rk.2 (ge _ ?_), fun hk => ru.1 (le _ ?_), fun hk => rl.2 (ge _ ?_)⟩
  · rw [c1]; generalize k * q = z at *; omega
  · rw [c1]; generalize k * q = z at *; omega
  · rw [c2]; generalize k * q = z at *; omega
  · rw [c3]; generalize k * q = z at *; omega
theorem quo_divHH {x y : UInt64} {a b : Int} (hx : Half x a) (hy : Half y b) (ha : a.natAbs ≤ 2 ^ 53) (hb : 0 < b) (hb2 : b ≤ 2 ^ 20) : Quo (2 ^ 32) (Float64.div x y) a b := by
  have hpos : (0 : Int) < 2 ^ 1073 := Int.pow_pos (by decide)
  have hy0 : 2 ^ 1073 ≤ val y := by
    rw [hy.2]
    have := Int.mul_le_mul_of_nonneg_right (show 1 ≤ b by omega) (Int.le_of_lt hpos)
    omega
  have n := div_near hx.1 hy.1 hy0 (by rw [hx.2]; exact small_half (by omega) (by decide))
  refine quo_of_near n (by omega) hb hb2 ?_
  have : (((val y).toNat : Nat) : Int) = b * 2 ^ 1073 := by rw [← hy.2]; omega
  rw [this, hx.2]
  ac_rfl
theorem quo_divHI {x : UInt64} {a i : Int} (hx : Half x a) (ha : a.natAbs ≤ 2 ^ 53) (hb : 0 < i) (hb2 : i ≤ 2 ^ 19) : Quo (2 ^ 32) (Float64.div x (Float64.ofInt i)) a (2 * i) :=
  quo_divHH hx (half_ofInt (by omega)) ha (by omega) (by omega)
theorem quo_divII {a b : Int} (ha : a.natAbs ≤ 2 ^ 53) (hb : 0 < b) (hb2 : b ≤ 2 ^ 20) : Quo (2 ^ 32) (Float64.ofFrac (decide (a < 0) != decide (b < 0)) a.natAbs b.natAbs) a b := by
  have hs : (decide (a < 0) != decide (b < 0)) = decide (a < 0) := by
    have : decide (b < 0) = false := by simp; omega
    rw [this]; cases decide (a < 0) <;> rfl
  rw [hs]
  have hbn : 0 < b.natAbs := by omega
  have r := right_near (PySem.Float64.ofFrac_right (neg := decide (a < 0)) (n := a.natAbs) (d := b.natAbs) (W := a.natAbs * 2 ^ 1074) (D := b.natAbs) hbn rfl hbn) hbn (by
    have h1 : a.natAbs * 2 ^ 1074 ≤ 2 ^ 53 * 2 ^ 1074 := Nat.mul_le_mul_right _ ha
    have h2 : 1 * ((2 ^ 54 - 1) * 2 ^ 2045) ≤ b.natAbs * ((2 ^ 54 - 1) * 2 ^ 2045) := Nat.mul_le_mul_right _ (by omega)
    refine Nat.lt_of_lt_of_le ?_ h2
    refine Nat.lt_of_le_of_lt (Nat.mul_le_mul_left 2 h1) ?_
    decide +kernel)
  have e1 : sgn (decide (a < 0)) (a.natAbs * 2 ^ 1074) = a * 2 ^ 1074 := by
    rw [PySem.Float64.sgn_mul, sgn_decide]; rfl
  rw [e1] at r
  refine quo_of_near r hbn hb hb2 ?_
  have : ((b.natAbs : Nat) : Int) = b := by omega
  rw [this]
theorem quo_add {B : Nat} {x : UInt64} {p q i : Int} (hx : Quo B x p q) (hB : B ≤ 2 ^ 32) (hi : i.natAbs ≤ B) (hp : p ≤ B * q) (hp2 : -(B * q) ≤ p) : Quo (B - i.natAbs) (Float64.add x (Float64.ofInt i)) (p + i * q) q := by
  have hpos : (0 : Int) < 2 ^ 1054 := Int.pow_pos (by decide)
  have hi2 : val (Float64.ofInt i) = i * 2 ^ 1074 := by
    rw [(half_ofInt (i := i) (by omega)).2]
    have : (2 : Int) ^ 1074 = 2 * 2 ^ 1073 := by rw [Int.pow_succ]; ac_rfl
    rw [this]; ac_rfl
  have up := (hx.2 B (by omega)).2.1 hp
  have dn := (hx.2 (-B) (by omega)).1 (by rw [Int.neg_mul]; exact hp2)
  have n := add_near hx.1 (half_ofInt (i := i) (by omega)).1 (by
    rw [hi2]
    unfold Small
    rw [p1074] at *
    have hb : (2 : Int) ^ 1054 * 2 ^ 60 < 2 ^ 1300 := by decide +kernel
    have hb2 : ((2 : Nat) ^ 1300 : Nat) = ((2 : Int) ^ 1300) := by simp
    generalize (2 : Int) ^ 1300 = U at *
    generalize (2 : Nat) ^ 1300 = U' at *
    have : i * (1048576 * 2 ^ 1054) ≤ 2 ^ 32 * (1048576 * 2 ^ 1054) := Int.mul_le_mul_of_nonneg_right (by omega) (by omega)
    have : -(2 ^ 32) * (1048576 * 2 ^ 1054) ≤ i * (1048576 * 2 ^ 1054) := Int.mul_le_mul_of_nonneg_right (by omega) (by omega)
    have : (B : Int) * (1048576 * 2 ^ 1054) ≤ 2 ^ 32 * (1048576 * 2 ^ 1054) := Int.mul_le_mul_of_nonneg_right (by omega) (by omega)
    rw [Int.neg_mul] at dn
    generalize (2 : Int) ^ 1054 = T at *
    generalize i * (1048576 * T) = z at *
    generalize (B : Int) * (1048576 * T) = z2 at *
    omega)
  rw [hi2] at n
  refine ⟨n.1, fun k hk => ?_⟩
  have rk := n.2 _ (rep_of k 1074 (by omega) (by decide))
  have ru := n.2 _ (rep_of (k * 1048576 + 1) 1054 (by omega) (by decide))
  have rl := n.2 _ (rep_of (k * 1048576 - 1) 1054 (by omega) (by decide))
  have old := hx.2 (k - i) (by omega)
  rw [Int.sub_mul, Int.sub_mul] at old
  rw [p1074] at *
  have eu : (k * 1048576 + 1) * 2 ^ 1054 = k * (1048576 * 2 ^ 1054) + 2 ^ 1054 := by rw [Int.add_mul, Int.one_mul, Int.mul_assoc]
  have el : (k * 1048576 - 1) * 2 ^ 1054 = k * (1048576 * 2 ^ 1054) - 2 ^ 1054 := by rw [Int.sub_mul, Int.one_mul, Int.mul_assoc]
  rw [eu] at ru
  rw [el] at rl
  generalize (2 : Int) ^ 1054 = T at *
  generalize k * (1048576 * T) = z at *
  generalize i * (1048576 * T) = z1 at *
  generalize k * q = z2 at *
  generalize i * q = z3 at *
  refine ⟨fun h => rk.1 ?_, fun h => rk.2 ?_, fun h => ru.1 ?_, fun h => rl.2 ?_⟩ <;> omega
end Mine
namespace Mine
open PySem.Float64 (V dist Right val sgn decode pack infMag)
open PySem.Flt (toInt)

theorem floor_val {x : UInt64} {k : Int} (hx : Fin x) (h1 : k * 2 ^ 1074 ≤ val x) (h2 : val x < (k + 1) * 2 ^ 1074) : toInt Float64.floorOf x = k := by
  obtain ⟨a, m, e, hd⟩ := hx
  rw [PySem.Flt.toInt_fin hd]
  have he := PySem.Float64.decode_ge hd
  have hv : val x = sgn a m * 2 ^ (e + 1074).toNat := by rw [PySem.Float64.val_eq hd, PySem.Float64.sgn_mul]; simp
  rw [hv] at h1 h2
  unfold Float64.floorOf
  generalize sgn a m = M at *
  by_cases h : e ≥ 0
  · rw [if_pos h]
    have e1 : (e + 1074).toNat = e.toNat + 1074 := by omega
    rw [e1, Int.pow_add, ← Int.mul_assoc] at h1 h2
    have hpos : (0 : Int) < 2 ^ 1074 := Int.pow_pos (by decide)
    have := Int.le_of_mul_le_mul_right h1 hpos
    have := Int.lt_of_mul_lt_mul_right h2 (Int.le_of_lt hpos)
    omega
  · rw [if_neg h]
    have e1 : (1074 : Nat) = (-e).toNat + (e + 1074).toNat := by omega
    have e2 : (2 : Int) ^ 1074 = 2 ^ (-e).toNat * 2 ^ (e + 1074).toNat := by rw [← Int.pow_add, ← e1]
    rw [e2, ← Int.mul_assoc] at h1 h2
    have hpos : (0 : Int) < 2 ^ (e + 1074).toNat := Int.pow_pos (by decide)
    have hposd : (0 : Int) < 2 ^ (-e).toNat := Int.pow_pos (by decide)
    have h1 := Int.le_of_mul_le_mul_right h1 hpos
    have h2 := Int.lt_of_mul_lt_mul_right h2 (Int.le_of_lt hpos)
    rw [Int.fdiv_eq_ediv_of_nonneg _ (Int.le_of_lt hposd)]
    generalize (2 : Int) ^ (-e).toNat = d at *
    have h3 : k ≤ M / d := (Int.le_ediv_iff_mul_le hposd).mpr h1
    have h4 : M / d < k + 1 := (Int.ediv_lt_iff_lt_mul hposd).mpr h2
    omega
theorem ceil_val {x : UInt64} {k : Int} (hx : Fin x) (h1 : (k - 1) * 2 ^ 1074 < val x) (h2 : val x ≤ k * 2 ^ 1074) : toInt Float64.ceilOf x = k := by
  obtain ⟨a, m, e, hd⟩ := hx
  have hn := PySem.Float64.neg_decode hd
  have hv := PySem.Float64.neg_val hd
  have := floor_val (x := Float64.neg x) (k := -k) ⟨_, _, _, hn⟩ (by rw [hv, Int.neg_mul]; omega) (by
    rw [hv]
    have : (-k + 1) * 2 ^ 1074 = -((k - 1) * 2 ^ 1074) := by rw [← Int.neg_mul]; congr 1; omega
    rw [this]; omega)
  rw [PySem.Flt.toInt_fin hn] at this
  rw [PySem.Flt.toInt_fin hd]
  unfold Float64.ceilOf
  omega
theorem trunc_val {x : UInt64} {k : Int} (hx : Fin x) (h : val x = k * 2 ^ 1074) : toInt Float64.truncOf x = k := by
  have hpos : (0 : Int) < 2 ^ 1074 := Int.pow_pos (by decide)
  have f := floor_val (k := k) hx (by omega) (by rw [Int.add_mul]; omega)
  have c := ceil_val (k := k) hx (by rw [Int.sub_mul]; omega) (by omega)
  obtain ⟨a, m, e, hd⟩ := hx
  rw [PySem.Flt.toInt_fin hd] at *
  unfold Float64.truncOf
  cases a
  · exact f
  · exact c
theorem p1073 : (2 : Int) ^ 1074 = 2 * 2 ^ 1073 := by rw [Int.pow_succ]; ac_rfl
theorem floor_half {x : UInt64} {a : Int} (hx : Half x a) : toInt Float64.floorOf x = a / 2 := by
  have hpos : (0 : Int) < 2 ^ 1073 := Int.pow_pos (by decide)
  refine floor_val hx.1 ?_ ?_ <;> rw [hx.2, p1073, ← Int.mul_assoc]
  · exact Int.mul_le_mul_of_nonneg_right (by omega) (Int.le_of_lt hpos)
  · exact Int.mul_lt_mul_of_pos_right (by omega) hpos
theorem ceil_half {x : UInt64} {a : Int} (hx : Half x a) : toInt Float64.ceilOf x = (a + 1) / 2 := by
  have hpos : (0 : Int) < 2 ^ 1073 := Int.pow_pos (by decide)
  refine ceil_val hx.1 ?_ ?_ <;> rw [hx.2, p1073, ← Int.mul_assoc]
  · exact Int.mul_lt_mul_of_pos_right (by omega) hpos
  · exact Int.mul_le_mul_of_nonneg_right (by omega) (Int.le_of_lt hpos)
theorem trunc_half {x : UInt64} {a : Int} (hx : Half x a) (h : a % 2 = 0) : toInt Float64.truncOf x = a / 2 := by
  refine trunc_val hx.1 ?_
  rw [hx.2, p1073, ← Int.mul_assoc]
  congr 1; omega
theorem floor_quo {B : Nat} {x : UInt64} {p q : Int} (hx : Quo B x p q) (hq : 0 < q) (h1 : -(B * q) ≤ p) (h2 : p < B * q) : toInt Float64.floorOf x = p / q := by
  have hT : (0 : Int) < 2 ^ 1054 := Int.pow_pos (by decide)
  have a1 : p / q * q ≤ p := by have := Int.mul_ediv_add_emod p q; have := Int.emod_nonneg p (show q ≠ 0 by omega); rw [Int.mul_comm]; omega
  have a2 : p < (p / q + 1) * q := by have := Int.mul_ediv_add_emod p q; have := Int.emod_lt_of_pos p hq; rw [Int.add_mul, Int.mul_comm]; omega
  have b1 : -B ≤ p / q := (Int.le_ediv_iff_mul_le hq).mpr (by rw [Int.neg_mul]; exact h1)
  have b2 : p / q < B := (Int.ediv_lt_iff_lt_mul hq).mpr h2
  refine floor_val hx.1 ((hx.2 _ (by omega)).1 a1) ?_
  have := (hx.2 (p / q + 1) (by omega)).2.2.2 a2
  omega
theorem ceil_quo {B : Nat} {x : UInt64} {p q : Int} (hx : Quo B x p q) (hq : 0 < q) (h1 : -(B * q) < p) (h2 : p ≤ B * q) : toInt Float64.ceilOf x = -((-p) / q) := by
  have hT : (0 : Int) < 2 ^ 1054 := Int.pow_pos (by decide)
  have a1 : (-p) / q * q ≤ -p := by have := Int.mul_ediv_add_emod (-p) q; have := Int.emod_nonneg (-p) (show q ≠ 0 by omega); rw [Int.mul_comm]; omega
  have a2 : -p < ((-p) / q + 1) * q := by have := Int.mul_ediv_add_emod (-p) q; have := Int.emod_lt_of_pos (-p) hq; rw [Int.add_mul, Int.mul_comm]; omega
  have b1 : -B ≤ (-p) / q := (Int.le_ediv_iff_mul_le hq).mpr (by rw [Int.neg_mul]; omega)
  have b2 : (-p) / q < B := (Int.ediv_lt_iff_lt_mul hq).mpr (by omega)
  generalize (-p) / q = z at *
  have c1 : p ≤ -z * q := by rw [Int.neg_mul]; omega
  have c2 : (-z - 1) * q < p := by rw [Int.sub_mul, Int.neg_mul]; rw [Int.add_mul] at a2; omega
  refine ceil_val hx.1 ?_ ((hx.2 _ (by omega)).2.1 c1)
  have := (hx.2 (-z - 1) (by omega)).2.2.1 c2
  omega

theorem isZero_val {x : UInt64} (hx : Fin x) : (Float64.isZero x = true) ↔ val x = 0 := by
  obtain ⟨a, m, e, hd⟩ := hx
  unfold Float64.isZero
  rw [PySem.Float64.val_eq hd, hd]
  have : (0 : Nat) < 2 ^ (e + 1074).toNat := Nat.two_pow_pos _
  cases m with
  | zero => simp [sgn]
  | succ m =>
    simp only [Bool.false_eq_true, false_iff]
    intro h
    have h2 := PySem.Float64.sgn_natAbs a ((m + 1) * 2 ^ (e + 1074).toNat)
    rw [h] at h2
    have : 0 < (m + 1) * 2 ^ (e + 1074).toNat := Nat.mul_pos (by omega) this
    simp at h2
    omega
theorem fmod_half {x y : UInt64} {a n : Int} (hx : Half x a) (hy : Half y n) (h0 : 0 ≤ a) (hn : 0 < n) (hn2 : n ≤ 2 ^ 53) : Half (Float64.fmod x y) (a % n) := by
  have hpos : (0 : Int) < 2 ^ 1073 := Int.pow_pos (by decide)
  have vx := hx.2
  have vy := hy.2
  obtain ⟨⟨s, m, e, hdx⟩, _⟩ := hx
  obtain ⟨⟨s2, k, f, hdy⟩, _⟩ := hy
  have he := PySem.Float64.decode_ge hdx
  have hf := PySem.Float64.decode_ge hdy
  have ax := PySem.Float64.val_natAbs hdx
  have ay := PySem.Float64.val_natAbs hdy
  have hy0 : 0 < val y := by rw [vy]; exact Int.mul_pos hn hpos
  have hx0 : 0 ≤ val x := by rw [vx]; exact Int.mul_nonneg h0 (Int.le_of_lt hpos)
  have hk : k ≠ 0 := by rintro rfl; simp at ay; omega
  have hfm : Float64.fmod x y = Float64.ofBin s (m * 2 ^ (e - min e f).toNat % (k * 2 ^ (f - min e f).toNat)) (min e f) := by
    unfold Float64.fmod
    rw [hdx, hdy]
    simp only [Float64.align, sgn, Bool.false_eq_true, if_false, Int.toNat_natCast]
    rw [if_neg (by simpa using hk)]
  have hg : -1074 ≤ min e f := by omega
  have e1 : (e + 1074).toNat = (e - min e f).toNat + (min e f + 1074).toNat := by omega
  have e2 : (f + 1074).toNat = (f - min e f).toNat + (min e f + 1074).toNat := by omega
  rw [e1, Nat.pow_add, ← Nat.mul_assoc] at ax
  rw [e2, Nat.pow_add, ← Nat.mul_assoc] at ay
  generalize hM : m * 2 ^ (e - min e f).toNat = M at *
  generalize hK : k * 2 ^ (f - min e f).toNat = K at *
  have r := PySem.Float64.ofBin_right (neg := s) (M := M % K) hg
  rw [hfm]
  have hr : M % K * 2 ^ (min e f + 1074).toNat = (a % n).toNat * 2 ^ 1073 := by
    rw [← Nat.mul_mod_mul_right, ← ax, ← ay]
    have h3 : (val x).natAbs = a.toNat * 2 ^ 1073 := by rw [vx, abs_half]; congr 1; omega
    have h4 : (val y).natAbs = n.toNat * 2 ^ 1073 := by rw [vy, abs_half]; congr 1; omega
    rw [h3, h4, Nat.mul_mod_mul_right]
    congr 1
    obtain ⟨a', rfl⟩ := Int.eq_ofNat_of_zero_le h0
    obtain ⟨n', rfl⟩ := Int.eq_ofNat_of_zero_le (Int.le_of_lt hn)
    simp
    rfl
  rw [hr] at r
  have m0 := Int.emod_nonneg a (show n ≠ 0 by omega)
  have m1 := Int.emod_lt_of_pos a hn
  have r' := right_near r (by decide) (by
    have : (a % n).toNat * 2 ^ 1073 ≤ 2 ^ 53 * 2 ^ 1073 := Nat.mul_le_mul_right _ (by omega)
    refine Nat.lt_of_le_of_lt (Nat.mul_le_mul_left 2 this) ?_
    decide +kernel)
  have es : sgn s ((a % n).toNat * 2 ^ 1073) = (a % n) * 2 ^ 1073 := by
    rw [PySem.Float64.sgn_mul]
    cases s
    · simp only [sgn, Bool.false_eq_true, if_false]; rw [Int.toNat_of_nonneg m0]; rfl
    · have hz : val x = 0 := by
        have := PySem.Float64.val_eq hdx
        simp only [sgn, if_true] at this
        omega
      rw [vx] at hz
      have : a = 0 := by
        rcases Int.mul_eq_zero.mp hz with h | h
        · exact h
        · omega
      subst this
      simp [sgn]
  rw [es] at r'
  exact half_of_near r' (by omega)
theorem zero_pack : Float64.zero false = (0 : UInt64) := by decide +kernel
theorem half_zero (b : Bool) : Half (Float64.zero b) 0 := ⟨(zero_fin b).1, by rw [(zero_fin b).2]; simp⟩
theorem cmp_half {x y : UInt64} {a b : Int} (hx : Half x a) (hy : Half y b) : Float64.cmp x y = some (compare a b) := by
  have hpos : (0 : Int) < 2 ^ 1073 := Int.pow_pos (by decide)
  obtain ⟨⟨_, _, _, h1⟩, vx⟩ := hx
  obtain ⟨⟨_, _, _, h2⟩, vy⟩ := hy
  rw [PySem.Float64.cmp_right h1 h2, vx, vy]
  congr 1
  generalize (2 : Int) ^ 1073 = K at *
  rcases Int.lt_trichotomy a b with h | h | h
  · rw [Int.compare_eq_lt.mpr h, Int.compare_eq_lt.mpr (Int.mul_lt_mul_of_pos_right h hpos)]
  · subst h; simp
  · rw [Int.compare_eq_gt.mpr h, Int.compare_eq_gt.mpr (Int.mul_lt_mul_of_pos_right h hpos)]
theorem cmpInt_half {x : UInt64} {a n : Int} (hx : Half x a) : Float64.cmpInt x n = some (compare a (2 * n)) := by
  have hpos : (0 : Int) < 2 ^ 1073 := Int.pow_pos (by decide)
  obtain ⟨⟨_, _, _, h1⟩, vx⟩ := hx
  rw [PySem.Float64.cmpInt_right h1, vx, p1073]
  have : n * (2 * 2 ^ 1073) = 2 * n * 2 ^ 1073 := by ac_rfl
  rw [this]
  congr 1
  generalize (2 : Int) ^ 1073 = K at *
  rcases Int.lt_trichotomy a (2 * n) with h | h | h
  · rw [Int.compare_eq_lt.mpr h, Int.compare_eq_lt.mpr (Int.mul_lt_mul_of_pos_right h hpos)]
  · rw [h]; simp
  · rw [Int.compare_eq_gt.mpr h, Int.compare_eq_gt.mpr (Int.mul_lt_mul_of_pos_right h hpos)]
theorem copysign_zero (y : UInt64) : Float64.copysign (Float64.zero false) y = Float64.zero (Float64.signBit y) := by
  have h0 : Float64.isNaN (Float64.zero false) = false := by decide +kernel
  have h1 : (Float64.zero false).toNat % 2 ^ 63 = 0 := by decide +kernel
  unfold Float64.copysign
  rw [h0, h1]
  rfl
theorem mod_half {x : UInt64} {a n : Int} (hx : Half x a) (h0 : 0 ≤ a) (hn : 0 < n) (hn2 : n ≤ 2 ^ 52) : Half ((Float64.divmod x (Float64.ofInt n)).2) (a % (2 * n)) := by
  have hy := half_ofInt (i := n) (by omega)
  have hm := fmod_half hx hy h0 (by omega) (by omega)
  have m0 := Int.emod_nonneg a (show 2 * n ≠ 0 by omega)
  unfold Float64.divmod
  generalize Float64.fmod x (Float64.ofInt n) = r at *
  generalize Float64.ofInt n = y at *
  dsimp only
  by_cases hz : Float64.isZero r = true
  · rw [if_pos hz]
    dsimp only
    rw [copysign_zero]
    have : a % (2 * n) = 0 := by
      have hpos : (0 : Int) < 2 ^ 1073 := Int.pow_pos (by decide)
      have := (isZero_val hm.1).mp hz
      rw [hm.2] at this
      rcases Int.mul_eq_zero.mp this with h | h
      · exact h
      · omega
    rw [this]
    exact half_zero _
  · rw [if_neg hz]
    have l1 : Float64.lt y (Float64.zero false) = false := by
      unfold Float64.lt
      rw [cmp_half hy (half_zero _)]
      rw [Int.compare_eq_gt.mpr (by omega)]; rfl
    have l2 : Float64.lt r (Float64.zero false) = false := by
      unfold Float64.lt
      rw [cmp_half hm (half_zero _)]
      by_cases h : 0 < a % (2 * n)
      · rw [Int.compare_eq_gt.mpr h]; rfl
      · have : a % (2 * n) = 0 := by omega
        rw [this]; rfl
    rw [l1, l2]
    exact hm
end Mine
namespace Mine
open PySem.Float64 (V dist Right val sgn decode pack infMag)
open PySem.Flt (toInt)

theorem decode_is {x : UInt64} {m : Nat} {e : Int} (h : (match decode x with | .fin false m' e' => decide (m' = m) && decide (e' = e) | _ => false) = true) : decode x = .fin false m e := by
  cases hd : decode x with
  | nan => rw [hd] at h; cases h
  | inf _ => rw [hd] at h; cases h
  | fin a m' e' =>
    rw [hd] at h
    cases a
    · simp only [Bool.and_eq_true, decide_eq_true_eq] at h
      rw [h.1, h.2]
    · cases h
/-- a written float's half: by its decoding -/
theorem half_lit {x : UInt64} {m : Nat} {e : Int} (a : Int) (h : (match decode x with | .fin false m' e' => decide (m' = m) && decide (e' = e) | _ => false) = true) (hv : (m : Int) * 2 ^ (e + 1074).toNat = a * 2 ^ 1073) : Half x a :=
  ⟨⟨_, _, _, decode_is h⟩, by rw [PySem.Float64.val_eq (decode_is h)]; simp only [sgn, Bool.false_eq_true, if_false]; rw [Int.natCast_mul, Int.natCast_pow]; exact hv⟩
theorem half_EG : Half 0x413a445180000000 3442851 := half_lit (m := 0x1a445180000000) (e := -32) _ (by decide +kernel) (by decide +kernel)
theorem half_EI : Half 0x413dbb1780000000 3896879 := half_lit (m := 0x1dbb1780000000) (e := -32) _ (by decide +kernel) (by decide +kernel)
theorem half_295 : Half 0x403d800000000000 59 := half_lit (m := 0x1d800000000000) (e := -48) _ (by decide +kernel) (by decide +kernel)
theorem half_05 : Half 0x3fe0000000000000 1 := half_lit (m := 0x10000000000000) (e := -53) _ (by decide +kernel) (by decide +kernel)

theorem fin_finite {x : UInt64} (h : Fin x) : Float64.isFinite x = true := by obtain ⟨_, _, _, h⟩ := h; unfold Float64.isFinite; rw [h]
theorem fin_nan {x : UInt64} (h : Fin x) : ¬ Float64.isNaN x = true := by obtain ⟨_, _, _, h⟩ := h; unfold Float64.isNaN; rw [h]; exact Bool.false_ne_true
theorem fin_inf {x : UInt64} (h : Fin x) : ¬ Float64.isInf x = true := by obtain ⟨_, _, _, h⟩ := h; unfold Float64.isInf; rw [h]; exact Bool.false_ne_true
theorem not_over {n : Int} (h : n.natAbs ≤ 2 ^ 53) : ¬ PySem.Flt.Over n := by
  unfold PySem.Flt.Over
  have : (2 : Nat) ^ 53 < 2 ^ 1024 - 2 ^ 970 := by decide +kernel
  omega

section
variable {prog : Program} {w : World} {A : Around} {E : Value → Shared → Prop} {s : Shared} {x y : UInt64} {a b i j : Int} {t u : Tok} {Q : Value → Shared → Prop}
theorem w_add_ff (hx : Half x a) (hy : Half y b) (hb : (a + b).natAbs ≤ 2 ^ 53) (h : ∀ z, Half z (a + b) → Q (.float z s.toks) { s with toks := s.toks + 1 }) :
    wpAny (model prog w) A (binaryOp .Add (.float x t) (.float y u)) Q E s := add_float (h _ (half_add hx hy hb))
theorem w_sub_ff (hx : Half x a) (hy : Half y b) (hb : (a - b).natAbs ≤ 2 ^ 53) (h : ∀ z, Half z (a - b) → Q (.float z s.toks) { s with toks := s.toks + 1 }) :
    wpAny (model prog w) A (binaryOp .Sub (.float x t) (.float y u)) Q E s := sub_float (h _ (half_sub hx hy hb))
theorem fit53 {n : Int} (h : n.natAbs ≤ 2 ^ 53) : n.natAbs < 2 ^ 1023 := Nat.lt_of_le_of_lt h (by decide +kernel)
theorem w_add_fi (hx : Half x a) (hi : i.natAbs ≤ 2 ^ 52) (hb : (a + 2 * i).natAbs ≤ 2 ^ 53) (h : ∀ z, Half z (a + 2 * i) → Q (.float z s.toks) { s with toks := s.toks + 1 }) :
    wpAny (model prog w) A (binaryOp .Add (.float x t) (.int i u)) Q E s := add_fi_fits (fit53 (by omega)) (h _ (half_add hx (half_ofInt hi) hb))
theorem w_add_if (hx : Half x a) (hi : i.natAbs ≤ 2 ^ 52) (hb : (2 * i + a).natAbs ≤ 2 ^ 53) (h : ∀ z, Half z (2 * i + a) → Q (.float z s.toks) { s with toks := s.toks + 1 }) :
    wpAny (model prog w) A (binaryOp .Add (.int i u) (.float x t)) Q E s := add_if_fits (fit53 (by omega)) (h _ (half_add (half_ofInt hi) hx hb))
theorem w_sub_fi (hx : Half x a) (hi : i.natAbs ≤ 2 ^ 52) (hb : (a - 2 * i).natAbs ≤ 2 ^ 53) (h : ∀ z, Half z (a - 2 * i) → Q (.float z s.toks) { s with toks := s.toks + 1 }) :
    wpAny (model prog w) A (binaryOp .Sub (.float x t) (.int i u)) Q E s := sub_fi_fits (fit53 (by omega)) (h _ (half_sub hx (half_ofInt hi) hb))
theorem w_mul_fi (hx : Half x a) (hi : i.natAbs ≤ 2 ^ 52) (hb : (a * i).natAbs ≤ 2 ^ 53) (h : ∀ z, Half z (a * i) → Q (.float z s.toks) { s with toks := s.toks + 1 }) :
    wpAny (model prog w) A (binaryOp .Mult (.float x t) (.int i u)) Q E s := mul_fi_fits (fit53 (by omega)) (h _ (half_mul hx hi hb))
theorem w_mul_if (hx : Half x a) (hi : i.natAbs ≤ 2 ^ 52) (hb : (i * a).natAbs ≤ 2 ^ 53) (h : ∀ z, Half z (i * a) → Q (.float z s.toks) { s with toks := s.toks + 1 }) :
    wpAny (model prog w) A (binaryOp .Mult (.int i u) (.float x t)) Q E s := mul_if_fits (fit53 (by omega)) (h _ (half_mulL hx hi hb))
theorem w_addq_fi {B : Nat} (hx : Quo B x a b) (hi : i.natAbs ≤ B) (hB : B ≤ 2 ^ 32) (hp : a ≤ B * b) (hp2 : -(B * b) ≤ a) (h : ∀ z, Quo (B - i.natAbs) z (a + i * b) b → Q (.float z s.toks) { s with toks := s.toks + 1 }) :
    wpAny (model prog w) A (binaryOp .Add (.float x t) (.int i u)) Q E s := add_fi_fits (fit53 (by omega)) (h _ (quo_add hx hB hi hp hp2))
theorem w_div_ff (hA : A.handled = none) (hx : Half x a) (hy : Half y b) (ha : a.natAbs ≤ 2 ^ 53) (hb : 0 < b) (hb2 : b ≤ 2 ^ 20) (h : ∀ z, Quo (2 ^ 32) z a b → Q (.float z s.toks) { s with toks := s.toks + 1 }) :
    wpAny (model prog w) A (binaryOp .Div (.float x t) (.float y u)) Q E s := by
  refine truediv_float_or hA (fun hz => ?_) fun _ => h _ (quo_divHH hx hy ha hb hb2)
  have hpos : (0 : Int) < 2 ^ 1073 := Int.pow_pos (by decide)
  have := (isZero_val hy.1).mp hz
  rw [hy.2] at this
  rcases Int.mul_eq_zero.mp this with h | h <;> omega
theorem w_div_fi (hA : A.handled = none) (hx : Half x a) (ha : a.natAbs ≤ 2 ^ 53) (hb : 0 < i) (hb2 : i ≤ 2 ^ 19) (h : ∀ z, Quo (2 ^ 32) z a (2 * i) → Q (.float z s.toks) { s with toks := s.toks + 1 }) :
    wpAny (model prog w) A (binaryOp .Div (.float x t) (.int i u)) Q E s :=
  PySem.Flt.truediv_fi hA (fun ho => absurd ho (not_over (by omega))) (fun h0 => by omega) fun _ _ => h _ (quo_divHI hx ha hb hb2)
theorem w_div_ii (hA : A.handled = none) (ha : i.natAbs ≤ 2 ^ 53) (hb : 0 < j) (hb2 : j ≤ 2 ^ 20) (h : ∀ z, Quo (2 ^ 32) z i j → Q (.float z s.toks) { s with toks := s.toks + 1 }) :
    wpAny (model prog w) A (binaryOp .Div (.int i t) (.int j u)) Q E s :=
  PySem.Flt.div_ii_fits hA (fit53 ha) (fun h0 => by omega) fun _ _ => h _ (quo_divII ha hb hb2)
theorem w_mod_fi (hA : A.handled = none) (hx : Half x a) (h0 : 0 ≤ a) (hb : 0 < i) (hb2 : i ≤ 2 ^ 52) (h : ∀ z c, c = a % (2 * i) → 0 ≤ c → c < 2 * i → Half z c → Q (.float z s.toks) { s with toks := s.toks + 1 }) :
    wpAny (model prog w) A (binaryOp .Mod (.float x t) (.int i u)) Q E s :=
  PySem.Flt.mod_fi hA (fun ho => absurd ho (not_over (by omega))) (fun h0 => by omega) fun _ _ => h _ _ rfl (Int.emod_nonneg a (by omega)) (Int.emod_lt_of_pos a (by omega)) (mod_half hx h0 hb hb2)
theorem w_floor_h (hA : A.handled = none) (hx : Half x a) (h : ∀ v, v = a / 2 → Q (.int v s.toks) { s with toks := s.toks + 1 }) : wpAny (model prog w) A (call (.builtin "math.floor") [.float x t]) Q E s :=
  PySem.Flt.call_floor_float hA (fun h => absurd h (fin_nan hx.1)) (fun h => absurd h (fin_inf hx.1)) fun _ => by exact h _ (floor_half hx)
theorem w_ceil_h (hA : A.handled = none) (hx : Half x a) (h : ∀ v, v = (a + 1) / 2 → Q (.int v s.toks) { s with toks := s.toks + 1 }) : wpAny (model prog w) A (call (.builtin "math.ceil") [.float x t]) Q E s :=
  PySem.Flt.call_ceil_float hA (fun h => absurd h (fin_nan hx.1)) (fun h => absurd h (fin_inf hx.1)) fun _ => by exact h _ (ceil_half hx)
theorem w_int_h (hA : A.handled = none) (hx : Half x a) (ha : a % 2 = 0) (h : ∀ v, v = a / 2 → Q (.int v s.toks) { s with toks := s.toks + 1 }) : wpAny (model prog w) A (call (.type "int") [.float x t]) Q E s :=
  PySem.Flt.call_int_float3 hA (fun h => absurd h (fin_nan hx.1)) (fun h => absurd h (fin_inf hx.1)) fun _ => by exact h _ (trunc_half hx ha)
theorem w_floor_q {B : Nat} (hA : A.handled = none) (hx : Quo B x a b) (hq : 0 < b) (h1 : -(B * b) ≤ a) (h2 : a < B * b) (h : ∀ v, v = a / b → Q (.int v s.toks) { s with toks := s.toks + 1 }) : wpAny (model prog w) A (call (.builtin "math.floor") [.float x t]) Q E s :=
  PySem.Flt.call_floor_float hA (fun h => absurd h (fin_nan hx.1)) (fun h => absurd h (fin_inf hx.1)) fun _ => by exact h _ (floor_quo hx hq h1 h2)
theorem w_ceil_q {B : Nat} (hA : A.handled = none) (hx : Quo B x a b) (hq : 0 < b) (h1 : -(B * b) < a) (h2 : a ≤ B * b) (h : ∀ v, v = -((-a) / b) → Q (.int v s.toks) { s with toks := s.toks + 1 }) : wpAny (model prog w) A (call (.builtin "math.ceil") [.float x t]) Q E s :=
  PySem.Flt.call_ceil_float hA (fun h => absurd h (fin_nan hx.1)) (fun h => absurd h (fin_inf hx.1)) fun _ => by exact h _ (ceil_quo hx hq h1 h2)
theorem cmp_cases (a b : Int) : compare a b = if a < b then .lt else if a = b then .eq else .gt := by
  rcases Int.lt_trichotomy a b with h | h | h
  · rw [Int.compare_eq_lt.mpr h, if_pos h]
  · subst h; simp
  · rw [Int.compare_eq_gt.mpr h, if_neg (by omega), if_neg (by omega)]
theorem ord_lt (a b : Int) : (some (compare a b) == some Ordering.lt) = decide (a < b) := by
  rw [cmp_cases]; by_cases h : a < b
  · simp [h]
  · by_cases h2 : a = b <;> simp [h, h2]
theorem ord_eq (a b : Int) : (some (compare a b) == some Ordering.eq) = decide (a = b) := by
  rw [cmp_cases]; by_cases h : a < b
  · have : a ≠ b := by omega
    simp [h, this]
  · by_cases h2 : a = b <;> simp [h, h2]
theorem ord_gt (a b : Int) : (some (compare a b) == some Ordering.gt) = decide (b < a) := by
  rw [cmp_cases]; by_cases h : a < b
  · have : ¬ b < a := by omega
    simp [h, this]
  · by_cases h2 : a = b
    · simp [h2]
    · have : b < a := by omega
      simp [h, h2, this]
theorem ord_ne (a b : Int) : (some (compare a b) != some Ordering.eq) = decide (a ≠ b) := by
  rw [bne, ord_eq]; by_cases h : a = b <;> simp [h]
theorem ord_le (a b : Int) : (some (compare a b) == some Ordering.lt || some (compare a b) == some Ordering.eq) = decide (a ≤ b) := by
  rw [ord_lt, ord_eq]; by_cases h : a < b
  · have : a ≤ b := by omega
    simp [h, this]
  · by_cases h2 : a = b
    · simp [h2]
    · have : ¬ a ≤ b := by omega
      simp [h, h2, this]
theorem ord_ge (a b : Int) : (some (compare a b) == some Ordering.gt || some (compare a b) == some Ordering.eq) = decide (b ≤ a) := by
  rw [ord_gt, ord_eq]; by_cases h : b < a
  · have : b ≤ a := by omega
    simp [h, this]
  · by_cases h2 : a = b
    · simp [h2]
    · have : ¬ b ≤ a := by omega
      simp [h, h2, this]
theorem w_ne_ff (hx : Half x a) (hy : Half y b) (h : Q (.bool (decide (a ≠ b))) s) : wpAny (model prog w) A (compareOp .NotEq (.float x t) (.float y u)) Q E s :=
  AutoFloatOps.ne_0 (by rw [cmp_half hx hy, ord_ne]; exact h)
theorem w_le_ff (hx : Half x a) (hy : Half y b) (h : Q (.bool (decide (a ≤ b))) s) : wpAny (model prog w) A (compareOp .LtE (.float x t) (.float y u)) Q E s :=
  AutoFloatOps.le_0 (by rw [cmp_half hx hy, ord_le]; exact h)
theorem w_ge_ff (hx : Half x a) (hy : Half y b) (h : Q (.bool (decide (b ≤ a))) s) : wpAny (model prog w) A (compareOp .GtE (.float x t) (.float y u)) Q E s :=
  AutoFloatOps.ge_0 (by rw [cmp_half hx hy, ord_ge]; exact h)
theorem w_lt_ff (hx : Half x a) (hy : Half y b) (h : Q (.bool (decide (a < b))) s) : wpAny (model prog w) A (compareOp .Lt (.float x t) (.float y u)) Q E s :=
  AutoFloatOps.lt_0 (by rw [cmp_half hx hy, ord_lt]; exact h)
theorem w_lt_fi (hx : Half x a) (h : Q (.bool (decide (a < 2 * i))) s) : wpAny (model prog w) A (compareOp .Lt (.float x t) (.int i u)) Q E s :=
  lt_fi (by rw [cmpInt_half hx, ord_lt]; exact h)
theorem w_ne_fi (hx : Half x a) (h : Q (.bool (decide (a ≠ 2 * i))) s) : wpAny (model prog w) A (compareOp .NotEq (.float x t) (.int i u)) Q E s :=
  ne_fi (by rw [cmpInt_half hx, ord_ne]; exact h)
end
section
variable {prog : Program} {w : World} {A : Around} {E : Value → Shared → Prop} {s : Shared} {K : Frag} {L a : Addr} {h₀ : Heap} {m : Str → Option Value} {Q : Value → Shared → Prop}
theorem w_in_top {vs : List Value} {ns : List Int} {dd : Option Addr} {sl : Array (Option Value)} {n : Nat} {k : Int} {u : Tok} (F : Fr h₀ L s.heap m) (X : K.In h₀) (hl : K.lookup a = some ⟨.type "tuple", dd, .seq vs.toArray n, sl⟩)
    (hi : IntsAre vs ns) (h : Q (.bool (ns.any (· == k))) s) : wpAny (model prog w) A (compareOp .In (.int k u) (.ref a)) Q E s :=
  in_tuple_ints (tupK (X.keeps F.keep) hl) (by simpa using hi) h
end
end Mine
set_option maxRecDepth 100000
set_option maxHeartbeats 8000000
namespace Mine
open_top hd for PySem.Challenge.rw_ak5004_01
end Mine
namespace Mine
abbrev MClaim (w : World) (mean : ExcName → Option Value) (mg mb : Str → Option Value) (f : Addr) (k : Nat) (vs : List Value) (Post : Heap → Addr → (Str → Option Value) → List (Addr × Obj) → Shared → (Value → Shared → Prop) → Prop) : Prop :=
  ∀ (dp un : Nat) (gd : Option (List Code)) (cn : Str) (cs : Scope) (a : Addr) (ccd : Value) (cl : List (Str × Addr)) (outer : List Env) (A₀ : Around) (base h₀ : Heap) (L : Addr) (m : Str → Option Value) (news : List (Addr × Obj)) (s : Shared) (Q E : Value → Shared → Prop),
    Below A₀ base outer h₀ → Fr h₀ L s.heap m → (hd.heap_39 w.params).In h₀ → News h₀ L s.heap news →
    Top hd.view_39 (looseW hd.view_39 [Str.ofString "to_jd_gregorian", Str.ofString "from_jd_gregorian", Str.ofString "to_jd_islamic", Str.ofString "from_jd_islamic"]) mean mg mb h₀ →
    cs.kind = .function → dp + k < recursionLimit → un + 8 * k < cLine → Post h₀ L m news s Q →
    wpAny (model PySem.Challenge.rw_ak5004_01.row.prog w) (ktrTop dp un gd cn cs L a ccd cl outer) (PySem.call (.ref f) vs) Q E s
abbrev FloatPost (P : Int → Prop) (h₀ : Heap) (L : Addr) (m : Str → Option Value) (news : List (Addr × Obj)) (s : Shared) (Q : Value → Shared → Prop) : Prop :=
  ∀ z n t h' tk', P n → Half z (2 * n + 1) → Fr h₀ L h' m → News h₀ L h' news → Q (.float z t) { s with heap := h', toks := tk' }
abbrev BoolPost (b : Bool) (h₀ : Heap) (L : Addr) (m : Str → Option Value) (news : List (Addr × Obj)) (s : Shared) (Q : Value → Shared → Prop) : Prop :=
  ∀ h' tk', Fr h₀ L h' m → News h₀ L h' news → Q (.bool b) { s with heap := h', toks := tk' }
abbrev IntPost (n : Int) (h₀ : Heap) (L : Addr) (m : Str → Option Value) (news : List (Addr × Obj)) (s : Shared) (Q : Value → Shared → Prop) : Prop :=
  ∀ t h' tk', Fr h₀ L h' m → News h₀ L h' news → Q (.int n t) { s with heap := h', toks := tk' }
abbrev tup3 (n1 n2 n3 : Int) (t1 t2 t3 : Tok) (c : Nat) : Obj := { cls := .type "tuple", data := .seq #[.int n1 t1, .int n2 t2, .int n3 t3] c }
abbrev TupPost (P : Int → Int → Int → Prop) (h₀ : Heap) (L : Addr) (m : Str → Option Value) (news : List (Addr × Obj)) (s : Shared) (Q : Value → Shared → Prop) : Prop :=
  ∀ n1 n2 n3 D c t1 t2 t3 h' tk', P n1 n2 n3 → Fr h₀ L h' m → News h₀ L h' ((D, ({ cls := .type "tuple", data := .seq #[.int n1 t1, .int n2 t2, .int n3 t3] c } : Obj)) :: news) → AllLt D news → Q (.ref D) { s with heap := h', toks := tk' }
/-- Islamic day number: twice its half-day float, without the half -/
def jdI (y m d : Int) : Int := d + (59 * (m - 1) + 1) / 2 + (y - 1) * 354 + (3 + 11 * y) / 30 + 1948438
def gleap (y : Int) : Bool := decide (y % 4 = 0 ∧ (y % 100 ≠ 0 ∨ y % 400 = 0))
theorem jdI_def (y m d : Int) : jdI y m d = d + (59 * (m - 1) + 1) / 2 + (y - 1) * 354 + (3 + 11 * y) / 30 + 1948438 := rfl
/-- Gregorian day number -/
def jdG (y m d : Int) : Int := 1721424 + 365 * (y - 1) + (y - 1) / 4 - (y - 1) / 100 + (y - 1) / 400 + (367 * m - 362 + (if m ≤ 2 then 0 else if gleap y then -1 else -2) * 12 + d * 12) / 12
def iY (N : Int) : Int := (30 * (N - 1948439) + 10646) / 10631
def iM (N : Int) : Int := if -(-(2 * N + 1 - (2 * 29 + (2 * jdI (iY N) 1 1 + 1))) / 59) + 1 < 12 then -(-(2 * N + 1 - (2 * 29 + (2 * jdI (iY N) 1 1 + 1))) / 59) + 1 else 12
def iD (N : Int) : Int := N - jdI (iY N) (iM N) 1 + 1
def gY (N : Int) : Int :=
  let d := N - 1721425
  let q := d / 146097
  let r := d % 146097
  let c := r / 36524
  let r2 := r % 36524
  let u := r2 / 1461
  let r3 := r2 % 1461
  let i := r3 / 365
  q * 400 + c * 100 + u * 4 + i + (if c = 4 ∨ i = 4 then 0 else 1)
theorem half_eq {z : UInt64} {a b : Int} (h : Half z a) (e : a = b) : Half z b := e ▸ h
theorem bool_eq {h₀ h' : Heap} {L : Addr} {m : Str → Option Value} {news : List (Addr × Obj)} {s : Shared} {Q : Value → Shared → Prop} {b c : Bool} {tk' : Nat} (hret : BoolPost b h₀ L m news s Q) (e : c = b) (F : Fr h₀ L h' m) (N : News h₀ L h' news) : Q (.bool c) { s with heap := h', toks := tk' } := by
  subst e; exact hret h' tk' F N
theorem int_eq {h₀ h' : Heap} {L : Addr} {m : Str → Option Value} {news : List (Addr × Obj)} {s : Shared} {Q : Value → Shared → Prop} {b c : Int} {t : Tok} {tk' : Nat} (hret : IntPost b h₀ L m news s Q) (e : c = b) (F : Fr h₀ L h' m) (N : News h₀ L h' news) : Q (.int c t) { s with heap := h', toks := tk' } := by
  subst e; exact hret t h' tk' F N
def jdG1 (y : Int) : Int := 1721425 + 365 * (y - 1) + (y - 1) / 4 - (y - 1) / 100 + (y - 1) / 400
theorem jdG_jan (y : Int) : jdG y 1 1 = jdG1 y := by unfold jdG jdG1; simp; omega
theorem jdG_bd {y m d : Int} (hy : 1 ≤ y ∧ y ≤ 100000000) (hm : 1 ≤ m ∧ m ≤ 12) (hd : 1 ≤ d ∧ d ≤ 28) : 1721424 ≤ jdG y m d ∧ jdG y m d ≤ 100000000000 := by
  unfold jdG
  split
  · omega
  · split <;> omega
theorem jdI_eq {n y m d : Int} (h : n = jdI y m d) : n = d + (59 * (m - 1) + 1) / 2 + (y - 1) * 354 + (3 + 11 * y) / 30 + 1948438 := h
theorem jdG_bd2 {n y m d : Int} (h : n = jdG y m d) (hy : 1 ≤ y ∧ y ≤ 100000000) (hm : 1 ≤ m ∧ m ≤ 12) (hd : 1 ≤ d ∧ d ≤ 28) : 1721424 ≤ n ∧ n ≤ 100000000000 := h ▸ jdG_bd hy hm hd
theorem jdG_jan2 {n y : Int} (h : n = jdG y 1 1) : n = 1721425 + 365 * (y - 1) + (y - 1) / 4 - (y - 1) / 100 + (y - 1) / 400 := by rw [h, jdG_jan]; rfl
theorem jdG_a {y m d v1 v2 v3 v4 : Int} (h : m ≤ 2) (h1 : v1 = (y - 1) / 4) (h2 : v2 = (y - 1) / 100) (h3 : v3 = (y - 1) / 400) (h4 : v4 = (367 * m - 362 + 0 * 12 + d * 12) / 12) : 3442851 - 2 * 1 + 2 * (365 * (y - 1)) + 2 * v1 + 2 * -v2 + 2 * v3 + 2 * v4 = 2 * jdG y m d + 1 := by
  unfold jdG; rw [if_pos h]; omega
theorem jdG_b {y m d v1 v2 v3 v4 : Int} (h : ¬ m ≤ 2) (g : gleap y = true) (h1 : v1 = (y - 1) / 4) (h2 : v2 = (y - 1) / 100) (h3 : v3 = (y - 1) / 400) (h4 : v4 = (367 * m - 362 + -1 * 12 + d * 12) / 12) : 3442851 - 2 * 1 + 2 * (365 * (y - 1)) + 2 * v1 + 2 * -v2 + 2 * v3 + 2 * v4 = 2 * jdG y m d + 1 := by
  unfold jdG; rw [if_neg h, if_pos g]; omega
theorem jdG_c {y m d v1 v2 v3 v4 : Int} (h : ¬ m ≤ 2) (g : gleap y = false) (h1 : v1 = (y - 1) / 4) (h2 : v2 = (y - 1) / 100) (h3 : v3 = (y - 1) / 400) (h4 : v4 = (367 * m - 362 + -2 * 12 + d * 12) / 12) : 3442851 - 2 * 1 + 2 * (365 * (y - 1)) + 2 * v1 + 2 * -v2 + 2 * v3 + 2 * v4 = 2 * jdG y m d + 1 := by
  unfold jdG; rw [if_neg h, if_neg (by simp [g])]; omega
theorem fi_end {n v0 v1 n1 v2 n2 v3 : Int} (h0 : v0 = (2 * n + 1) / 2) (h1 : v1 = (30 * (2 * v0 + 1 - 3896879) + 2 * 10646) / (2 * 10631)) (h2 : n1 = jdI v1 1 1)
    (h3 : v2 = -(-(2 * v0 + 1 - (2 * 29 + (2 * n1 + 1))) / 59)) (h4 : n2 = jdI v1 (if v2 + 1 < 12 then v2 + 1 else 12) 1) (h5 : v3 = (2 * v0 + 1 - (2 * n2 + 1)) / 2) :
    v1 = iY n ∧ (if v2 + 1 < 12 then v2 + 1 else 12) = iM n ∧ v3 + 1 = iD n := by
  have e0 : v0 = n := by omega
  subst e0
  have e1 : v1 = iY v0 := by unfold iY; omega
  subst e1
  subst h2
  subst h3
  have e2 : n2 = jdI (iY v0) (iM v0) 1 := h4
  refine ⟨rfl, rfl, ?_⟩
  unfold iD
  rw [← e2]
  omega
structure Hid (p : Prop) : Prop where
  out : p
theorem fg_core {n v5 v4 c2 v3 c1 v2 c0 v1 : Int} (h5 : v5 = (2 * n + 1 - 1) / 2) (h4 : v4 = (2 * v5 + 1 - 3442851) / (2 * 146097)) (hc2 : c2 = (2 * v5 + 1 - 3442851) % (2 * 146097)) (h3 : v3 = c2 / (2 * 36524))
    (hc1 : c1 = c2 % (2 * 36524)) (h2 : v2 = c1 / (2 * 1461)) (hc0 : c0 = c1 % (2 * 1461)) (h1 : v1 = c0 / (2 * 365)) :
    ∃ r4, v5 = n ∧ v4 = (n - 1721425) / 146097 ∧ v3 = (n - 1721425) % 146097 / 36524 ∧ v2 = (n - 1721425) % 146097 % 36524 / 1461 ∧ v1 = (n - 1721425) % 146097 % 36524 % 1461 / 365 ∧
      n = 1721425 + 146097 * v4 + 36524 * v3 + 1461 * v2 + 365 * v1 + r4 ∧ 0 ≤ r4 ∧ r4 < 365 ∧ 0 ≤ v3 ∧ v3 ≤ 4 ∧ (v3 = 4 → v2 = 0 ∧ v1 = 0 ∧ r4 = 0) ∧ 0 ≤ v2 ∧ v2 ≤ 24 ∧ 0 ≤ v1 ∧ v1 ≤ 4 ∧ (v1 = 4 → r4 = 0 ∧ v2 ≤ 23) := by
  have e5 : v5 = n := by omega
  subst e5
  have e4 : v4 = (v5 - 1721425) / 146097 := by omega
  have d2 : c2 = 2 * ((v5 - 1721425) % 146097) := by omega
  generalize hr : (v5 - 1721425) % 146097 = r at *
  have e3 : v3 = r / 36524 := by omega
  have d1 : c1 = 2 * (r % 36524) := by omega
  have hr0 : 0 ≤ r ∧ r < 146097 := by omega
  have hv5 : v5 = 1721425 + 146097 * v4 + r := by omega
  clear h5 h4 hc2 h3 hc1
  generalize hr2 : r % 36524 = r2 at *
  have e2 : v2 = r2 / 1461 := by omega
  have d0 : c0 = 2 * (r2 % 1461) := by omega
  have hr2' : 0 ≤ r2 ∧ r2 < 36524 ∧ r = 36524 * v3 + r2 := by omega
  clear h2 hc0
  generalize hr3 : r2 % 1461 = r3 at *
  have e1 : v1 = r3 / 365 := by omega
  have hr3' : 0 ≤ r3 ∧ r3 < 1461 ∧ r2 = 1461 * v2 + r3 := by omega
  have hr4' : 0 ≤ r3 - 365 * v1 ∧ r3 - 365 * v1 < 365 := by omega
  refine ⟨r3 - 365 * v1, rfl, e4, e3, e2, e1, by omega, by omega, by omega, by omega, by omega, fun h => ?_, by omega, by omega, by omega, by omega, fun h => ?_⟩
  · clear hr hr2 hr3 e4
    have : r2 = 0 := by omega
    have : v2 = 0 := by omega
    have : r3 = 0 := by omega
    have : v1 = 0 := by omega
    omega
  · clear hr hr2 hr3 e4
    have : r3 = 1460 := by omega
    omega
/-- what from_jd of the Gregorian calendar knows behind its first to_jd -/
structure YD (n v5 Y n9 : Int) : Prop where
  out : Y = gY n ∧ 1 ≤ Y ∧ Y ≤ 100000000 ∧ 0 ≤ v5 - n9 ∧ v5 - n9 ≤ 365 ∧ (gleap Y = false → v5 - n9 ≤ 364)
theorem fg_a {n v5 v4 c2 v3 c1 v2 c0 v1 n9 : Int} (hn : 1948439 ≤ n ∧ n ≤ 10000000000) (h5 : v5 = (2 * n + 1 - 1) / 2) (h4 : Hid (v4 = (2 * v5 + 1 - 3442851) / (2 * 146097))) (hc2 : Hid (c2 = (2 * v5 + 1 - 3442851) % (2 * 146097))) (h3 : Hid (v3 = c2 / (2 * 36524)))
    (hc1 : Hid (c1 = c2 % (2 * 36524))) (h2 : Hid (v2 = c1 / (2 * 1461))) (hc0 : Hid (c0 = c1 % (2 * 1461))) (h1 : Hid (v1 = c0 / (2 * 365))) (k3 : v3 ≠ 4) (k1 : v1 ≠ 4) (h9 : n9 = jdG (v4 * 400 + v3 * 100 + v2 * 4 + v1 + 1) 1 1) : YD n v5 (v4 * 400 + v3 * 100 + v2 * 4 + v1 + 1) n9 := by
  obtain ⟨r4, e5, e4, e3, e2, e1, hn', b1, b2, b3, b4, b5, b6, b7, b8, b9, b10⟩ := fg_core h5 h4.out hc2.out h3.out hc1.out h2.out hc0.out h1.out
  clear h5 h4 hc2 h3 hc1 h2 hc0 h1
  have hY : v4 * 400 + v3 * 100 + v2 * 4 + v1 + 1 = gY n := by
    unfold gY
    simp only [← e4, ← e3, ← e2, ← e1]
    rw [if_neg (by omega)]
  rw [jdG_jan] at h9
  unfold jdG1 at h9
  clear e4 e3 e2 e1
  have q1 : (v4 * 400 + v3 * 100 + v2 * 4 + v1 + 1 - 1) / 4 = 100 * v4 + 25 * v3 + v2 := by omega
  have q2 : (v4 * 400 + v3 * 100 + v2 * 4 + v1 + 1 - 1) / 100 = 4 * v4 + v3 := by omega
  have q3 : (v4 * 400 + v3 * 100 + v2 * 4 + v1 + 1 - 1) / 400 = v4 := by omega
  rw [q1, q2, q3] at h9
  clear q1 q2 q3
  refine YD.mk ⟨hY, by omega, by omega, by omega, by omega, fun _ => by omega⟩
theorem fg_b {n v5 v4 c2 v3 c1 v2 c0 v1 n9 : Int} (hn : 1948439 ≤ n ∧ n ≤ 10000000000) (h5 : v5 = (2 * n + 1 - 1) / 2) (h4 : Hid (v4 = (2 * v5 + 1 - 3442851) / (2 * 146097))) (hc2 : Hid (c2 = (2 * v5 + 1 - 3442851) % (2 * 146097))) (h3 : Hid (v3 = c2 / (2 * 36524)))
    (hc1 : Hid (c1 = c2 % (2 * 36524))) (h2 : Hid (v2 = c1 / (2 * 1461))) (hc0 : Hid (c0 = c1 % (2 * 1461))) (h1 : Hid (v1 = c0 / (2 * 365))) (k3 : v3 = 4) (h9 : n9 = jdG (v4 * 400 + v3 * 100 + v2 * 4 + v1) 1 1) : YD n v5 (v4 * 400 + v3 * 100 + v2 * 4 + v1) n9 := by
  obtain ⟨r4, e5, e4, e3, e2, e1, hn', b1, b2, b3, b4, b5, b6, b7, b8, b9, b10⟩ := fg_core h5 h4.out hc2.out h3.out hc1.out h2.out hc0.out h1.out
  clear h5 h4 hc2 h3 hc1 h2 hc0 h1
  have hY : v4 * 400 + v3 * 100 + v2 * 4 + v1 = gY n := by
    unfold gY
    simp only [← e4, ← e3, ← e2, ← e1]
    rw [if_pos (by omega)]
    omega
  rw [jdG_jan] at h9
  unfold jdG1 at h9
  clear e4 e3 e2 e1
  obtain ⟨z2, z1, z4⟩ := b5 k3
  subst k3 z2 z1 z4
  have q1 : (v4 * 400 + 4 * 100 + 0 * 4 + 0 - 1) / 4 = 100 * v4 + 99 := by omega
  have q2 : (v4 * 400 + 4 * 100 + 0 * 4 + 0 - 1) / 100 = 4 * v4 + 3 := by omega
  have q3 : (v4 * 400 + 4 * 100 + 0 * 4 + 0 - 1) / 400 = v4 := by omega
  rw [q1, q2, q3] at h9
  clear q1 q2 q3
  refine YD.mk ⟨hY, by omega, by omega, by omega, by omega, fun h => ?_⟩
  unfold gleap at h
  have := of_decide_eq_false h
  omega
theorem fg_c {n v5 v4 c2 v3 c1 v2 c0 v1 n9 : Int} (hn : 1948439 ≤ n ∧ n ≤ 10000000000) (h5 : v5 = (2 * n + 1 - 1) / 2) (h4 : Hid (v4 = (2 * v5 + 1 - 3442851) / (2 * 146097))) (hc2 : Hid (c2 = (2 * v5 + 1 - 3442851) % (2 * 146097))) (h3 : Hid (v3 = c2 / (2 * 36524)))
    (hc1 : Hid (c1 = c2 % (2 * 36524))) (h2 : Hid (v2 = c1 / (2 * 1461))) (hc0 : Hid (c0 = c1 % (2 * 1461))) (h1 : Hid (v1 = c0 / (2 * 365))) (k3 : v3 ≠ 4) (k1 : v1 = 4) (h9 : n9 = jdG (v4 * 400 + v3 * 100 + v2 * 4 + v1) 1 1) : YD n v5 (v4 * 400 + v3 * 100 + v2 * 4 + v1) n9 := by
  obtain ⟨r4, e5, e4, e3, e2, e1, hn', b1, b2, b3, b4, b5, b6, b7, b8, b9, b10⟩ := fg_core h5 h4.out hc2.out h3.out hc1.out h2.out hc0.out h1.out
  clear h5 h4 hc2 h3 hc1 h2 hc0 h1
  have hY : v4 * 400 + v3 * 100 + v2 * 4 + v1 = gY n := by
    unfold gY
    simp only [← e4, ← e3, ← e2, ← e1]
    rw [if_pos (by omega)]
    omega
  rw [jdG_jan] at h9
  unfold jdG1 at h9
  clear e4 e3 e2 e1
  obtain ⟨z4, z2⟩ := b10 k1
  subst k1 z4
  have q1 : (v4 * 400 + v3 * 100 + v2 * 4 + 4 - 1) / 4 = 100 * v4 + 25 * v3 + v2 := by omega
  have q2 : (v4 * 400 + v3 * 100 + v2 * 4 + 4 - 1) / 100 = 4 * v4 + v3 := by omega
  have q3 : (v4 * 400 + v3 * 100 + v2 * 4 + 4 - 1) / 400 = v4 := by omega
  rw [q1, q2, q3] at h9
  clear q1 q2 q3
  refine YD.mk ⟨hY, by omega, by omega, by omega, by omega, fun h => ?_⟩
  unfold gleap at h
  have := of_decide_eq_false h
  omega
theorem fg_y {n v5 v4 c2 v3 c1 v2 c0 v1 : Int} (hn : 1948439 ≤ n ∧ n ≤ 10000000000) (h5 : v5 = (2 * n + 1 - 1) / 2) (h4 : Hid (v4 = (2 * v5 + 1 - 3442851) / (2 * 146097))) (hc2 : Hid (c2 = (2 * v5 + 1 - 3442851) % (2 * 146097))) (h3 : Hid (v3 = c2 / (2 * 36524)))
    (hc1 : Hid (c1 = c2 % (2 * 36524))) (h2 : Hid (v2 = c1 / (2 * 1461))) (hc0 : Hid (c0 = c1 % (2 * 1461))) (h1 : Hid (v1 = c0 / (2 * 365))) : 1 ≤ v4 * 400 + v3 * 100 + v2 * 4 + v1 ∧ v4 * 400 + v3 * 100 + v2 * 4 + v1 ≤ 90000000 := by
  obtain ⟨r4, e5, e4, e3, e2, e1, hn', b1, b2, b3, b4, b5, b6, b7, b8, b9, b10⟩ := fg_core h5 h4.out hc2.out h3.out hc1.out h2.out hc0.out h1.out
  clear h5 h4 hc2 h3 hc1 h2 hc0 h1 e3 e2 e1
  omega
theorem fg_y0 {a : Int} (h : 1 ≤ a ∧ a ≤ 90000000) : 1 ≤ a ∧ a ≤ 100000000 := by omega
theorem fg_y1 {a : Int} (h : 1 ≤ a ∧ a ≤ 90000000) : 1 ≤ a + 1 ∧ a + 1 ≤ 100000000 := by omega
theorem yd_lp {n v5 Y n9 : Int} (h : YD n v5 Y n9) (g : gleap Y = false) : v5 - n9 ≤ 364 := h.out.2.2.2.2.2 g
theorem fi_bd {n a b c : Int} (h : a = iY n ∧ b = iM n ∧ c = iD n) (hn : 1948439 ≤ n ∧ n ≤ 10000000000) : 1 ≤ a ∧ a ≤ 30000000 ∧ 1 ≤ b ∧ b ≤ 12 ∧ 1 ≤ c ∧ c ≤ 30 ∧ n = jdI a b c ∧ n < jdI a (b + 1) 1 + (if b = 12 then 1 else 0) ∧ n < jdI (a + 1) 1 1 := by
  obtain ⟨h1, h2, h3⟩ := h
  unfold iD at h3
  rw [← h1, ← h2] at h3
  unfold iM at h2
  rw [← h1] at h2
  unfold iY at h1
  unfold jdI at *
  generalize hv : -(-(2 * n + 1 - (2 * 29 + (2 * (1 + (59 * (1 - 1) + 1) / 2 + (a - 1) * 354 + (3 + 11 * a) / 30 + 1948438) + 1))) / 59) = v at *
  generalize hq : (3 + 11 * a) / 30 = q at *
  have hD : 0 ≤ n - (1 + (a - 1) * 354 + q + 1948438) ∧ n - (1 + (a - 1) * 354 + q + 1948438) ≤ 354 ∧ (n - (1 + (a - 1) * 354 + q + 1948438) ≤ 353 ∨ (3 + 11 * (a + 1)) / 30 = q + 1) := by omega
  have hD2 : n < 1 + (59 * (1 - 1) + 1) / 2 + (a + 1 - 1) * 354 + (3 + 11 * (a + 1)) / 30 + 1948438 := by omega
  have ha : 1 ≤ a ∧ a ≤ 30000000 := by omega
  clear h1
  have hv0 : 0 ≤ v := by omega
  have hb : b = v + 1 ∧ v + 1 < 12 ∨ b = 12 ∧ 12 ≤ v + 1 := by
    split at h2 <;> omega
  clear h2
  rcases hb with ⟨hb, hb2⟩ | ⟨hb, hb2⟩
  · subst hb
    rw [if_neg (by omega)]
    refine ⟨ha.1, ha.2, by omega, by omega, by omega, by omega, by omega, by omega, hD2⟩
  · subst hb
    rw [if_pos rfl]
    refine ⟨ha.1, ha.2, by omega, by omega, by omega, by omega, by omega, by omega, hD2⟩
def mlen (y m : Int) : Int := if m = 1 ∨ m = 3 ∨ m = 5 ∨ m = 7 ∨ m = 9 ∨ m = 11 ∨ (m = 12 ∧ (3 + 11 * (y + 1)) % 30 < 11) then 30 else 29
theorem any6 {m : Int} : ([1, 3, 5, 7, 9, 11].any fun x => x == m) = decide (m = 1 ∨ m = 3 ∨ m = 5 ∨ m = 7 ∨ m = 9 ∨ m = 11) := by
  rw [Bool.eq_iff_iff]
  simp only [List.any_cons, List.any_nil, Bool.or_false, Bool.or_eq_true, beq_iff_eq, decide_eq_true_eq]
  omega
theorem ml_a {y m : Int} (h : ([1, 3, 5, 7, 9, 11].any fun x => x == m) = true) : 30 = mlen y m := by
  rw [any6] at h
  have := of_decide_eq_true h
  unfold mlen; rw [if_pos (by omega)]
theorem ml_b {y m : Int} (h : m = 12) (g : (3 + 11 * (y + 1)) % 30 < 11) : 30 = mlen y m := by
  unfold mlen; rw [if_pos (by omega)]
theorem ml_c {y m : Int} (h : m = 12) (g : ¬ (3 + 11 * (y + 1)) % 30 < 11) : 29 = mlen y m := by
  unfold mlen; rw [if_neg (by omega)]
theorem ml_d {y m : Int} (h : ([1, 3, 5, 7, 9, 11].any fun x => x == m) = false) (h2 : m ≠ 12) : 29 = mlen y m := by
  rw [any6] at h
  have := of_decide_eq_false h
  unfold mlen; rw [if_neg (by omega)]
theorem gy_a {y m d n0 a b c n : Int} (hj : n0 = jdG y 1 1) (hp : a = iY n0 ∧ b = iM n0 ∧ c = iD n0) (hc : m < b) (h : n = jdI (a + 1) m d) : n = jdI (if m < iM (jdG1 y) then iY (jdG1 y) + 1 else iY (jdG1 y)) m d := by
  rw [jdG_jan] at hj
  subst hj
  rw [← hp.1, ← hp.2.1, if_pos hc]; exact h
theorem gy_b {y m d n0 a b c n : Int} (hj : n0 = jdG y 1 1) (hp : a = iY n0 ∧ b = iM n0 ∧ c = iD n0) (hc : ¬ m < b) (h : n = jdI a m d) : n = jdI (if m < iM (jdG1 y) then iY (jdG1 y) + 1 else iY (jdG1 y)) m d := by
  rw [jdG_jan] at hj
  subst hj
  rw [← hp.1, ← hp.2.1, if_neg hc]; exact h
theorem jdG_const {n : Int} (h : n = jdG 2023 7 19) : n = 2460144 := by rw [h]; decide
theorem mlen_sum (y : Int) : (List.map (fun a => mlen y a) (rangeKs 1 12)).sum = 354 + if (3 + 11 * (y + 1)) % 30 < 11 then 1 else 0 := by
  have e : rangeKs 1 12 = [1, 2, 3, 4, 5, 6, 7, 8, 9, 10, 11, 12] := by decide
  rw [e]
  by_cases h : (3 + 11 * (y + 1)) % 30 < 11 <;> simp [mlen, h]
theorem fm (y : Int) {n : Int} (h : 0 ≤ n) : y.fmod n = y % n := Int.fmod_eq_emod_of_nonneg y h
theorem ileap_of {y : Int} : decide ((y * 11 + 14).fmod 30 < 11) = decide ((3 + 11 * (y + 1)) % 30 < 11) := by
  have e : 3 + 11 * (y + 1) = y * 11 + 14 := by omega
  rw [fm _ (by decide), e]
theorem gleap_a {y : Int} (h1 : y.fmod 4 = 0) (h2 : y.fmod 100 = 0) : (y.fmod 400 == 0) = gleap y := by
  rw [fm _ (by decide)] at *; unfold gleap; rw [h1, h2]; simp; rfl
theorem gleap_b {y : Int} (h1 : y.fmod 4 = 0) (h2 : y.fmod 100 ≠ 0) : (y.fmod 100 != 0) = gleap y := by
  rw [fm _ (by decide)] at *; unfold gleap; rw [h1]; simp [h2]
theorem gleap_c {y : Int} (h1 : y.fmod 4 ≠ 0) : (y.fmod 4 == 0) = gleap y := by
  rw [fm _ (by decide)] at *; unfold gleap; simp [h1]
end Mine
namespace Mine
theorem fi_round {N Y M D : Int} (h : N = jdI Y M D) (hY : 1 ≤ Y ∧ Y ≤ 100000000) (hM : 1 ≤ M ∧ M ≤ 12) (hD : 1 ≤ D ∧ D ≤ 29) : iY N = Y ∧ iM N = M ∧ iD N = D := by
  have e1 : iY N = Y := by
    unfold iY; unfold jdI at h
    omega
  have e2 : iM N = M := by
    unfold iM
    rw [e1, h]
    unfold jdI
    generalize (3 + 11 * Y) / 30 = q
    have hv : -(-(2 * (D + (59 * (M - 1) + 1) / 2 + (Y - 1) * 354 + q + 1948438) + 1 - (2 * 29 + (2 * (1 + (59 * (1 - 1) + 1) / 2 + (Y - 1) * 354 + q + 1948438) + 1))) / 59) + 1 = M := by omega
    rw [hv]
    split <;> omega
  refine ⟨e1, e2, ?_⟩
  unfold iD
  rw [e1, e2, h]
  unfold jdI
  omega
theorem gY_of {y N : Int} (hy : 1 ≤ y) (h1 : jdG1 y ≤ N) (h2 : N < jdG1 y + 365) : gY N = y := by
  unfold jdG1 at *
  obtain ⟨a, ha⟩ : ∃ a, a = (y - 1) / 400 := ⟨_, rfl⟩
  obtain ⟨r, hr⟩ : ∃ r, r = y - 1 - 400 * a := ⟨_, rfl⟩
  obtain ⟨b, hb⟩ : ∃ b, b = r / 100 := ⟨_, rfl⟩
  obtain ⟨r2, hr2⟩ : ∃ r2, r2 = r - 100 * b := ⟨_, rfl⟩
  obtain ⟨c, hc⟩ : ∃ c, c = r2 / 4 := ⟨_, rfl⟩
  obtain ⟨e, he⟩ : ∃ e, e = r2 - 4 * c := ⟨_, rfl⟩
  have hr' : 0 ≤ r ∧ r < 400 := by omega
  have hy' : y = 400 * a + r + 1 := by omega
  clear ha hr
  have hb' : 0 ≤ b ∧ b ≤ 3 ∧ 0 ≤ r2 ∧ r2 < 100 := by omega
  have hr' : r = 100 * b + r2 := by omega
  clear hb hr2
  have hc' : 0 ≤ c ∧ c ≤ 24 ∧ 0 ≤ e ∧ e ≤ 3 := by omega
  have hr2' : r2 = 4 * c + e := by omega
  clear hc he
  subst hr2' hr' hy'
  have q1 : (400 * a + (100 * b + (4 * c + e)) + 1 - 1) / 4 = 100 * a + 25 * b + c := by omega
  have q2 : (400 * a + (100 * b + (4 * c + e)) + 1 - 1) / 100 = 4 * a + b := by omega
  have q3 : (400 * a + (100 * b + (4 * c + e)) + 1 - 1) / 400 = a := by omega
  rw [q1, q2, q3] at h1 h2
  clear q1 q2 q3
  obtain ⟨k, hk⟩ : ∃ k, k = N - (1721425 + 146097 * a + 36524 * b + 1461 * c + 365 * e) := ⟨_, rfl⟩
  have hN : N = 1721425 + 146097 * a + 36524 * b + 1461 * c + 365 * e + k := by omega
  have hk' : 0 ≤ k ∧ k < 365 := by omega
  clear h1 h2 hk
  subst hN
  unfold gY
  have d1 : (1721425 + 146097 * a + 36524 * b + 1461 * c + 365 * e + k - 1721425) / 146097 = a := by omega
  have d2 : (1721425 + 146097 * a + 36524 * b + 1461 * c + 365 * e + k - 1721425) % 146097 = 36524 * b + 1461 * c + 365 * e + k := by omega
  have d3 : (36524 * b + 1461 * c + 365 * e + k) / 36524 = b := by omega
  have d4 : (36524 * b + 1461 * c + 365 * e + k) % 36524 = 1461 * c + 365 * e + k := by omega
  have d5 : (1461 * c + 365 * e + k) / 1461 = c := by omega
  have d6 : (1461 * c + 365 * e + k) % 1461 = 365 * e + k := by omega
  have d7 : (365 * e + k) / 365 = e := by omega
  simp only [d1, d2, d3, d4, d5, d6, d7]
  rw [if_neg (by omega)]
  omega

structure TurnCtx (y d S a b c n : Int) : Prop where
  hy : 700 ≤ y ∧ y ≤ 10000699
  hd : 1 ≤ d ∧ d ≤ 29
  hS : S = jdG1 y
  hf : a = iY S ∧ b = iM S ∧ c = iD S
  hn : b < n ∧ n ≤ 12 ∨ 1 ≤ n ∧ n < b
theorem turn_S {y d S a b c n : Int} (T : TurnCtx y d S a b c n) : 1948439 ≤ S ∧ S ≤ 5000000000 := by
  have h1 := T.hS
  have h2 := T.hy
  unfold jdG1 at h1
  omega
theorem turn_a {y d S a b c n : Int} (T : TurnCtx y d S a b c n) : 2 ≤ a := by
  have h2 : 1976560 ≤ S := by
    have h3 := T.hS
    have h2 := T.hy
    unfold jdG1 at h3
    omega
  have h1 := T.hf.1
  unfold iY at h1
  clear T
  omega
/-- what a turn needs to know -/
theorem turn_facts {y d S a b c n N : Int} (T : TurnCtx y d S a b c n) (hN : N = jdI (if n < iM (jdG1 y) then iY (jdG1 y) + 1 else iY (jdG1 y)) n d) :
    (b < n ∧ iY N = a ∨ n < b ∧ iY N = a + 1) ∧ iM N = n ∧ iD N = d ∧ gY N = y ∧ S ≤ N ∧ N < S + 355 ∧
    (b < n ∧ d + (59 * (n - 1) + 1) / 2 + (a - 1 - 1) * 354 + (3 + 11 * (a - 1)) / 30 + 1948438 < S ∨ n < b ∧ d + (59 * (n - 1) + 1) / 2 + (a + 1 - 1 - 1) * 354 + (3 + 11 * (a + 1 - 1)) / 30 + 1948438 < S) ∧
    1948439 ≤ N ∧ N ≤ 10000000000 ∧ 2 ≤ a ∧ a ≤ 30000000 ∧ 1 ≤ n ∧ n ≤ 12 := by
  have hS := turn_S T
  obtain ⟨f1, f2, f3, f4, f5, f6, f7, f8, f9⟩ := fi_bd T.hf (by omega)
  have ha2 : 2 ≤ a := turn_a T
  rw [← T.hS, ← T.hf.1, ← T.hf.2.1] at hN
  have hy := T.hy
  have hd := T.hd
  have hS1 := T.hS
  have key : S ≤ N ∧ N < S + 355 ∧ (b < n ∧ d + (59 * (n - 1) + 1) / 2 + (a - 1 - 1) * 354 + (3 + 11 * (a - 1)) / 30 + 1948438 < S ∨ n < b ∧ d + (59 * (n - 1) + 1) / 2 + (a + 1 - 1 - 1) * 354 + (3 + 11 * (a + 1 - 1)) / 30 + 1948438 < S) ∧ 1 ≤ n ∧ n ≤ 12 := by
    clear hS1 hS
    have hn := T.hn
    clear T
    have r0 : (b < n ∧ n ≤ 12 ∧ N = jdI a n d) ∨ (1 ≤ n ∧ n < b ∧ N = jdI (a + 1) n d) := by
      rcases hn with ⟨h1, h2⟩ | ⟨h1, h2⟩
      · rw [if_neg (by omega)] at hN
        exact .inl ⟨h1, h2, hN⟩
      · rw [if_pos h2] at hN
        exact .inr ⟨h1, h2, hN⟩
    clear hN hn
    unfold jdI at f7 f8 f9 r0
    have r1 : (3 + 11 * a) / 30 ≤ (3 + 11 * (a + 1)) / 30 ∧ (3 + 11 * (a + 1)) / 30 ≤ (3 + 11 * a) / 30 + 1 := by clear f7 f8 f9 r0; omega
    have r2 : (3 + 11 * (a - 1)) / 30 ≤ (3 + 11 * a) / 30 := by clear f7 f8 f9 r0; omega
    have r3 : a + 1 - 1 = a := by clear f7 f8 f9 r0; omega
    have r4 : (59 * ((1 : Int) - 1) + 1) / 2 = 0 := by decide
    have r5 : b + 1 - 1 = b := by clear f7 f8 f9 r0; omega
    have r6 : 0 ≤ (59 * (b - 1) + 1) / 2 := by clear f7 f8 f9 r0; omega
    have r7 : b < n → (59 * b + 1) / 2 ≤ (59 * (n - 1) + 1) / 2 := by clear f7 f8 f9 r0; omega
    have r8 : n ≤ 12 → (59 * (n - 1) + 1) / 2 ≤ 325 := by clear f7 f8 f9 r0; omega
    have r9 : n < b → (59 * (n - 1) + 1) / 2 + 29 ≤ (59 * (b - 1) + 1) / 2 := by clear f7 f8 f9 r0; omega
    have r10 : 1 ≤ n → 0 ≤ (59 * (n - 1) + 1) / 2 := by clear f7 f8 f9 r0; omega
    rw [r3] at f9 r0 ⊢
    rw [r4] at f9
    rw [r5] at f8
    generalize (3 + 11 * (a + 1)) / 30 = q1 at *
    generalize (3 + 11 * (a - 1)) / 30 = qm at *
    generalize (3 + 11 * a) / 30 = q0 at *
    generalize (59 * (b - 1) + 1) / 2 = ub at *
    generalize (59 * b + 1) / 2 = ub1 at *
    generalize (59 * (n - 1) + 1) / 2 = un at *
    rcases r0 with ⟨h1, h2, h3⟩ | ⟨h1, h2, h3⟩
    · rw [if_neg (by omega)] at f8
      refine ⟨by omega, by omega, .inl ⟨h1, by omega⟩, by omega, by omega⟩
    · clear f8
      refine ⟨by omega, by omega, .inr ⟨h2, by omega⟩, by omega, by omega⟩
  have hr := fi_round hN (by split <;> omega) (by omega) hd
  have hg : gY N = y := gY_of (by omega) (by rw [← hS1]; exact key.1) (by rw [← hS1]; omega)
  refine ⟨?_, hr.2.1, hr.2.2, hg, key.1, key.2.1, key.2.2.1, by omega, by omega, ha2, by omega, key.2.2.2.1, key.2.2.2.2⟩
  rw [hr.1]
  split
  · right; omega
  · left; have := T.hn; omega

structure BeforeCtx (d a b n nb YB M : Int) : Prop where
  hnb : nb = jdI YB M d
  hYB : YB = if b < M then a else a + 1
  hM : n = M + 1 ∧ (b < M ∧ n ≤ 12 ∨ 1 ≤ M ∧ n < b) ∨ M = 12 ∧ n = 1 ∧ b < 12 ∧ 1 < b
theorem mlen_lo {y M : Int} (h : 1 ≤ M ∧ M ≤ 11) : mlen y M = (59 * M + 1) / 2 - (59 * (M - 1) + 1) / 2 := by
  have : M = 1 ∨ M = 2 ∨ M = 3 ∨ M = 4 ∨ M = 5 ∨ M = 6 ∨ M = 7 ∨ M = 8 ∨ M = 9 ∨ M = 10 ∨ M = 11 := by omega
  rcases this with h | h | h | h | h | h | h | h | h | h | h <;> subst h <;> simp [mlen]
theorem mlen_12 (y : Int) : mlen y 12 = 29 + ((3 + 11 * (y + 1)) / 30 - (3 + 11 * y) / 30) := by
  have e : mlen y 12 = if (3 + 11 * (y + 1)) % 30 < 11 then 30 else 29 := by simp [mlen]
  rw [e]
  split <;> omega
theorem before_facts {y d S a b c n N nb YB M : Int} (T : TurnCtx y d S a b c n) (B : BeforeCtx d a b n nb YB M) (hN : N = jdI (if n < iM (jdG1 y) then iY (jdG1 y) + 1 else iY (jdG1 y)) n d) :
    N - nb = mlen YB M ∧ 0 ≤ nb ∧ nb ≤ 100000000000 := by
  have hS := turn_S T
  obtain ⟨f1, f2, f3, f4, f5, f6, f7, f8, f9⟩ := fi_bd T.hf (by omega)
  rw [← T.hS, ← T.hf.1, ← T.hf.2.1] at hN
  have hd := T.hd
  have h1 := B.hnb
  have h2 := B.hYB
  have hM := B.hM
  clear f7 f8 f9 hS T B
  rcases hM with ⟨h3, h4 | h4⟩ | ⟨h3, h4, h5, h6⟩
  · rw [if_pos (by omega)] at h2
    rw [if_neg (by omega)] at hN
    subst h2 h3
    rw [mlen_lo (by omega)]
    have e : M + 1 - 1 = M := by omega
    unfold jdI at *
    rw [e] at hN
    generalize hq : (3 + 11 * YB) / 30 = q at *
    have : 0 ≤ q ∧ q ≤ 20000000 := by omega
    have : 0 ≤ (59 * (M - 1) + 1) / 2 ∧ (59 * (M - 1) + 1) / 2 ≤ 400 := by clear h1 hN hq; omega
    generalize (59 * (M - 1) + 1) / 2 = u at *
    generalize (59 * M + 1) / 2 = u1 at *
    clear hq
    refine ⟨by omega, by omega, by omega⟩
  · rw [if_neg (by omega)] at h2
    rw [if_pos (by omega)] at hN
    subst h2 h3
    rw [mlen_lo (by omega)]
    have e : M + 1 - 1 = M := by omega
    unfold jdI at *
    rw [e] at hN
    generalize hq : (3 + 11 * (a + 1)) / 30 = q at *
    have : 0 ≤ q ∧ q ≤ 20000000 := by omega
    have : 0 ≤ (59 * (M - 1) + 1) / 2 ∧ (59 * (M - 1) + 1) / 2 ≤ 400 := by clear h1 hN hq; omega
    generalize (59 * (M - 1) + 1) / 2 = u at *
    generalize (59 * M + 1) / 2 = u1 at *
    clear hq
    refine ⟨by omega, by omega, by omega⟩
  · rw [if_pos (by omega)] at h2
    rw [if_pos (by omega)] at hN
    subst h2 h3 h4
    rw [mlen_12]
    have e1 : (59 * ((12 : Int) - 1) + 1) / 2 = 325 := by decide
    have e2 : (59 * ((1 : Int) - 1) + 1) / 2 = 0 := by decide
    unfold jdI at *
    rw [e1] at h1
    rw [e2] at hN
    have : 0 ≤ (3 + 11 * YB) / 30 ∧ (3 + 11 * YB) / 30 ≤ 20000000 := by clear h1 hN; omega
    generalize (3 + 11 * YB) / 30 = q at *
    generalize (3 + 11 * (YB + 1)) / 30 = q1 at *
    refine ⟨by omega, by omega, by omega⟩
/-- the months behind 1 January's, then those ahead of it -/
def ms (b : Int) : List Int := rangeKs (b + 1) (13 - (b + 1)).toNat ++ rangeKs 1 (b - 1).toNat
theorem ms_length {b : Int} (hb : 1 ≤ b ∧ b ≤ 12) : (ms b).length = 11 := by
  unfold ms
  rw [List.length_append, rangeKs_length, rangeKs_length]
  omega
theorem rangeKs_at {a : Int} {k i : Nat} : (rangeKs a k)[i]? = if i < k then some (a + i) else none := by
  unfold rangeKs
  rw [List.getElem?_map]
  by_cases h : i < k
  · rw [List.getElem?_range h, if_pos h]; rfl
  · rw [List.getElem?_eq_none (by simp; omega), if_neg h]; rfl
theorem ms_at {b : Int} (hb : 1 ≤ b ∧ b ≤ 12) {i : Nat} {n : Int} (h : (ms b)[i]? = some n) : (b < n ∧ n ≤ 12 ∧ (i : Int) = n - b - 1) ∨ (1 ≤ n ∧ n < b ∧ (i : Int) = n - 1 + (12 - b)) := by
  unfold ms at h
  rw [List.getElem?_append, rangeKs_length] at h
  split at h
  · rw [rangeKs_at, if_pos (by assumption)] at h
    have := Option.some.inj h
    left; omega
  · rw [rangeKs_at] at h
    split at h
    · have := Option.some.inj h
      right; omega
    · cases h
theorem ms_next {b : Int} (hb : 1 ≤ b ∧ b ≤ 12) {i : Nat} {M n : Int} (h : (ms b)[i]? = some M) (h' : (ms b)[i + 1]? = some n) : n = M + 1 ∧ (b < M ∧ n ≤ 12 ∨ 1 ≤ M ∧ n < b) ∨ M = 12 ∧ n = 1 ∧ b < 12 ∧ 1 < b := by
  have h1 := ms_at hb h
  have h2 := ms_at hb h'
  omega
end Mine
namespace Mine
section
variable {M : Model} {A : Around} {E : Value → Shared → Prop} {s : Shared} {env : Env} {h₀ : Heap} {L : Addr} {m : Str → Option Value} {news : List (Addr × Obj)} {Q : Flow → Shared → Prop}
abbrev mYD (m : Str → Option Value) (y d : Int) (ty td : Tok) : Str → Option Value :=
  fun z => if z = Str.ofString "day" then some (.int d td) else if z = Str.ofString "year" then some (.int y ty) else m z
def YDEnd (h₀ : Heap) (L : Addr) (m : Str → Option Value) (news : List (Addr × Obj)) (s : Shared) (f : Flow) (s' : Shared) : Prop :=
  f = .next ∧ ∃ (y d : Int) (ty td : Tok) (h : Heap) (tk : Nat), s' = { s with heap := h, toks := tk } ∧ (700 ≤ y ∧ y ≤ 10000699) ∧ (1 ≤ d ∧ d ≤ 29) ∧ Fr h₀ L h (mYD m y d ty td) ∧ News h₀ L h news
theorem cut_yd {a b : Stmt} {rest : List Stmt} (_F : Fr h₀ L s.heap m) (_N : News h₀ L s.heap news) (h1 : wpAny M A (execs [a, b] env) (YDEnd h₀ L m news s) E s)
    (h2 : ∀ (y d : Int) (ty td : Tok) (h : Heap) (tk : Nat), (700 ≤ y ∧ y ≤ 10000699) → (1 ≤ d ∧ d ≤ 29) → Fr h₀ L h (mYD m y d ty td) → News h₀ L h news → wpAny M A (execs rest env) Q E { s with heap := h, toks := tk }) :
    wpAny M A (execs (a :: b :: rest) env) Q E s := by
  have e : execs (a :: b :: rest) env = (execs [a, b] env >>= fun f => match f with | .next => execs rest env | f => pure f) := by
    simp only [execs_cons, execs_nil, bind_assoc]
    congr 1
    funext f
    cases f <;> simp only [pure_bind, bind_assoc] <;> try rfl
    congr 1
    funext f
    cases f <;> simp only [pure_bind] <;> rfl
  rw [e]
  refine wpAny_bind (wpAny_mono h1 (fun f s' hq => ?_) fun _ _ h => h)
  obtain ⟨rfl, y, d, ty, td, h, tk, rfl, hy, hd, F, N⟩ := hq
  exact h2 y d ty td h tk hy hd F N
theorem yd_end {y d : Int} {ty td : Tok} {h : Heap} {tk : Nat} (hy : 700 ≤ y ∧ y ≤ 10000699) (hd : 1 ≤ d ∧ d ≤ 29) (F : Fr h₀ L h (mYD m y d ty td)) (N : News h₀ L h news) : YDEnd h₀ L m news s .next { s with heap := h, toks := tk } :=
  ⟨rfl, y, d, ty, td, h, tk, rfl, hy, hd, F, N⟩
theorem yr_bd (x : Int) : 700 ≤ 700 + x.fmod 10000000 ∧ 700 + x.fmod 10000000 ≤ 10000699 := by rw [fm _ (by decide)]; omega
theorem dy_bd (x : Int) : 1 ≤ x.fmod 29 + 1 ∧ x.fmod 29 + 1 ≤ 29 := by rw [fm _ (by decide)]; omega
end
section
variable {prog : Program} {w : World} {A : Around} {E : Value → Shared → Prop} {s : Shared} {h₀ : Heap} {L : Addr} {m : Str → Option Value} {news : List (Addr × Obj)}
theorem w_sum_ml {l : Addr} {vs : List Value} {y : Int} {Q : Value → Shared → Prop} (hh : A.handled = none) (F : Fr h₀ L s.heap m) (N : News h₀ L s.heap news) (hl : s.heap.IsList l vs.toArray) (hi : IntsAre vs (List.map (fun a => mlen y a) (rangeKs 1 (13 - 1 : Int).toNat)))
    (h : ∀ v h' tk t', ((3 + 11 * (y + 1)) % 30 < 11 ∧ v = 355 ∨ ¬ (3 + 11 * (y + 1)) % 30 < 11 ∧ v = 354) → Fr h₀ L h' m → News h₀ L h' news → Q (.int v t') { s with heap := h', toks := tk }) :
    wpAny (model prog w) A (call (.builtin "sum") [.ref l]) Q E s := by
  refine sumK hh F N hl hi fun h' tk t' F' N' => h _ h' tk t' ?_ F' N'
  have := mlen_sum y
  have e : (13 - 1 : Int).toNat = 12 := rfl
  rw [e]
  split at this <;> omega
end
end Mine
namespace Mine
section
variable {M : Model} {A : Around} {E : Value → Shared → Prop} {s : Shared} {env : Env} {h₀ : Heap} {L : Addr} {Q : Flow → Shared → Prop}
abbrev mT (m₀ : Str → Option Value) (z : UInt64) (tz : Tok) (a : Int) (ta : Tok) (b : Int) (tb : Tok) (c : Int) (tc : Tok) (y : Int) (ty : Tok) (d : Int) (td : Tok) : Str → Option Value :=
  fun q => if q = Str.ofString "old" then some (.int c tc) else if q = Str.ofString "inside" then some (.int b tb) else if q = Str.ofString "turn" then some (.int a ta) else if q = Str.ofString "start" then some (.float z tz) else
    if q = Str.ofString "day" then some (.int d td) else if q = Str.ofString "year" then some (.int y ty) else m₀ q
def TIOEnd (h₀ : Heap) (L : Addr) (y d : Int) (s : Shared) (f : Flow) (s' : Shared) : Prop :=
  f = .next ∧ ∃ (z : UInt64) (n a b c : Int) (tz ta tb tc ty td : Tok) (h : Heap) (tk : Nat) (m₀ : Str → Option Value), s' = { s with heap := h, toks := tk } ∧ n = jdG y 1 1 ∧ Half z (2 * n + 1) ∧ (a = iY n ∧ b = iM n ∧ c = iD n) ∧ Fr h₀ L h (mT m₀ z tz a ta b tb c tc y ty d td)
theorem tio_end {y d : Int} {z : UInt64} {n a b c : Int} {tz ta tb tc ty td : Tok} {h : Heap} {tk : Nat} {m₀ : Str → Option Value} (hn : n = jdG y 1 1) (hz : Half z (2 * n + 1)) (hp : a = iY n ∧ b = iM n ∧ c = iD n) (F : Fr h₀ L h (mT m₀ z tz a ta b tb c tc y ty d td)) :
    TIOEnd h₀ L y d s .next { s with heap := h, toks := tk } := ⟨rfl, z, n, a, b, c, tz, ta, tb, tc, ty, td, h, tk, m₀, rfl, hn, hz, hp, F⟩
theorem execs_cut {pre rest : List Stmt} : execs (pre ++ rest) env = (execs pre env >>= fun f => match f with | .next => execs rest env | f => pure f) := by
  induction pre with
  | nil => simp only [List.nil_append, execs_nil, pure_bind]
  | cons a r ih =>
    simp only [List.cons_append, execs_cons, bind_assoc]
    congr 1
    funext f
    cases f <;> simp only [pure_bind]
    · exact ih
theorem cut_tio {a b c d : Stmt} {rest : List Stmt} {m' : Str → Option Value} (y dd : Int) (_F : Fr h₀ L s.heap m') (h1 : wpAny M A (execs [a, b, c, d] env) (TIOEnd h₀ L y dd s) E s)
    (h2 : ∀ (z : UInt64) (n a b c : Int) (tz ta tb tc ty td : Tok) (h : Heap) (tk : Nat) (m₀ : Str → Option Value), n = jdG y 1 1 → Half z (2 * n + 1) → (a = iY n ∧ b = iM n ∧ c = iD n) → Fr h₀ L h (mT m₀ z tz a ta b tb c tc y ty dd td) → News h₀ L h [] →
      wpAny M A (execs rest env) Q E { s with heap := h, toks := tk }) :
    wpAny M A (execs (a :: b :: c :: d :: rest) env) Q E s := by
  have e : a :: b :: c :: d :: rest = [a, b, c, d] ++ rest := rfl
  rw [e, execs_cut]
  refine wpAny_bind (wpAny_mono h1 (fun f s' hq => ?_) fun _ _ h => h)
  obtain ⟨rfl, z, n, a, b, c, tz, ta, tb, tc, ty, td, h, tk, m₀, rfl, hn, hz, hp, F⟩ := hq
  exact h2 z n a b c tz ta tb tc ty td h tk m₀ hn hz hp F News.nil
end

/-- the frame's map in the main loop: what the loop stores, and all else as it stood -/
def mLoop (m₀ u : Str → Option Value) (bv : Value) : Str → Option Value :=
  fun q => if q = Str.ofString "before" then some bv else if q = Str.ofString "number" then u q else if q = Str.ofString "islamic" then u q else if q = Str.ofString "month" then u q else m₀ q
def JB (m₀ : Str → Option Value) (bv : Value) (m : Str → Option Value) : Prop :=
  m (Str.ofString "before") = some bv ∧ ∀ q, q ≠ Str.ofString "before" → q ≠ Str.ofString "number" → q ≠ Str.ofString "islamic" → q ≠ Str.ofString "month" → m q = m₀ q
theorem JB.eq {m₀ m : Str → Option Value} {bv : Value} (h : JB m₀ bv m) : m = mLoop m₀ m bv := by
  funext q
  unfold mLoop
  by_cases h1 : q = Str.ofString "before"
  · rw [if_pos h1, h1]; exact h.1
  · rw [if_neg h1]
    by_cases h2 : q = Str.ofString "number"
    · rw [if_pos h2]
    · rw [if_neg h2]
      by_cases h3 : q = Str.ofString "islamic"
      · rw [if_pos h3]
      · rw [if_neg h3]
        by_cases h4 : q = Str.ofString "month"
        · rw [if_pos h4]
        · rw [if_neg h4]; exact h.2 q h1 h2 h3 h4

abbrev tupB (z : UInt64) (tz : Tok) (Y : Int) (tY : Tok) (M : Int) (tM : Tok) (c : Nat) : Obj := { cls := .type "tuple", data := .seq #[.float z tz, .int Y tY, .int M tM] c }
/-- the end of a turn that goes on -/
def LEnd (h₀ : Heap) (L : Addr) (m₀ : Str → Option Value) (own : List (Addr × Obj)) (a b d n : Int) (s₁ s₂ : Shared) : Prop :=
  ∃ (h' : Heap) (tk' : Nat) (m' : Str → Option Value) (D : Addr) (z : UInt64) (N Y : Int) (tz tY tM : Tok) (c : Nat) (led : List (Addr × Obj)), s₂ = { s₁ with heap := h', toks := tk' } ∧ Fr h₀ L h' m' ∧ JB m₀ (.ref D) m' ∧ News h₀ L h' led ∧
    (∀ p ∈ own, p ∈ led) ∧ (D, tupB z tz Y tY n tM c) ∈ led ∧ AllLt D own ∧ Half z (2 * N + 1) ∧ N = jdI Y n d ∧ Y = if b < n then a else a + 1
def LPost (h₀ : Heap) (L : Addr) (m₀ : Str → Option Value) (own : List (Addr × Obj)) (a b d n : Int) (s₁ : Shared) (Q : Flow → Shared → Prop) (f : Flow) (s₂ : Shared) : Prop :=
  match f with
  | .ret v => Q (.ret v) s₂
  | .brk => Q .next s₂
  | _ => LEnd h₀ L m₀ own a b d n s₁ s₂
theorem l_end {h₀ : Heap} {L : Addr} {m₀ : Str → Option Value} {own : List (Addr × Obj)} {a b d n : Int} {s₁ : Shared} {Q : Flow → Shared → Prop} {h' : Heap} {tk' : Nat} {m' : Str → Option Value} {D : Addr} {z : UInt64} {N Y : Int} {tz tY tM : Tok} {c : Nat} {led : List (Addr × Obj)}
    (F : Fr h₀ L h' m') (N' : News h₀ L h' led) (hD : (D, tupB z tz Y tY n tM c) ∈ led) (J : JB m₀ (.ref D) m') (ho : ∀ p ∈ own, p ∈ led) (hl : AllLt D own) (hz : Half z (2 * N + 1)) (hN : N = jdI Y n d) (hY : Y = if b < n then a else a + 1) :
    LPost h₀ L m₀ own a b d n s₁ Q .next { s₁ with heap := h', toks := tk' } := ⟨h', tk', m', D, z, N, Y, tz, tY, tM, c, led, rfl, F, J, N', ho, hD, hl, hz, hN, hY⟩
theorem leap2 {y : Int} (h2 : (3 + 11 * (y + 1 + 1)) % 30 < 11) (h1 : (3 + 11 * (y + 1)) % 30 < 11) : False := by
  generalize hk : (3 + 11 * (y + 1)) % 30 = u at *
  have h3 : (3 + 11 * (y + 1 + 1)) % 30 = u + 11 := by omega
  omega
theorem tup_false {x a y n z d : Int} (h : (x == a && (y == n && z == d)) = false) (h1 : x = a) (h2 : y = n) (h3 : z = d) : False := by
  subst h1 h2 h3; simp at h
theorem al1 {P : Prop} {D : Addr} {own : List (Addr × Obj)} (h : P ∧ AllLt D own) : AllLt D own := h.2
theorem al2 {P P2 : Prop} {D : Addr} {own : List (Addr × Obj)} (h : P ∧ P2 ∧ AllLt D own) : AllLt D own := h.2.2
theorem al3 {P P2 P3 : Prop} {D : Addr} {own : List (Addr × Obj)} (h : P ∧ P2 ∧ P3 ∧ AllLt D own) : AllLt D own := h.2.2.2
theorem al4 {P P2 P3 P4 : Prop} {D : Addr} {own : List (Addr × Obj)} (h : P ∧ P2 ∧ P3 ∧ P4 ∧ AllLt D own) : AllLt D own := h.2.2.2.2
theorem al5 {P P2 P3 P4 P5 : Prop} {D : Addr} {own : List (Addr × Obj)} (h : P ∧ P2 ∧ P3 ∧ P4 ∧ P5 ∧ AllLt D own) : AllLt D own := h.2.2.2.2.2
theorem al6 {P P2 P3 P4 P5 P6 : Prop} {D : Addr} {own : List (Addr × Obj)} (h : P ∧ P2 ∧ P3 ∧ P4 ∧ P5 ∧ P6 ∧ AllLt D own) : AllLt D own := h.2.2.2.2.2.2
theorem gy_use {y d S a b c n N : Int} (T : TurnCtx y d S a b c n) (hN : N = jdI (if n < iM (jdG1 y) then iY (jdG1 y) + 1 else iY (jdG1 y)) n d) : N = jdI (if b < n then a else a + 1) n d := by
  rw [← T.hS, ← T.hf.1, ← T.hf.2.1] at hN
  have := T.hn
  by_cases h : b < n
  · rw [if_neg (by omega)] at hN; rw [if_pos h]; exact hN
  · rw [if_pos (by omega)] at hN; rw [if_neg h]; exact hN
theorem allLt_out {D : Addr} : ∀ {l : List (Addr × Obj)}, AllLt D l → ∀ p ∈ l, p.1 < D
  | [], _, _, hp => (nomatch hp)
  | q :: r, h, p, hp => by
    rcases List.mem_cons.mp hp with rfl | hp
    · exact h.1
    · exact allLt_out h.2 p hp
section
variable {prog : Program} {w : World} {A : Around} {E : Value → Shared → Prop} {s : Shared} {env : Env} {h₀ : Heap} {x : Str} {body : List Stmt} {Q : Flow → Shared → Prop}
/-- the loop over the months: before is None in the first turn, then the turn's before -/
theorem iter_months {l : Addr} {vs : List Value} {nn : Nat} {a b d : Int} {m₀ : Str → Option Value} {news : List (Addr × Obj)} (hb : 1 ≤ b ∧ b ≤ 12)
    (hh : A.handled = none) (hx : x = Str.ofString "month") (F : Fr h₀ env.locals s.heap m₀) (N : News h₀ env.locals s.heap news) (hm : (l, listOf vs.toArray nn) ∈ news) (hi : IntsAre vs (ms b))
    (hj : m₀ (Str.ofString "before") = some .none)
    (turn0 : ∀ n t u h tk own, (b < n ∧ n ≤ 12 ∨ 1 ≤ n ∧ n < b) → Fr h₀ env.locals h (fun y => if y = x then some (.int n t) else mLoop m₀ u .none y) → News h₀ env.locals h own →
      wpAny (model prog w) A (execs body env) (LPost h₀ env.locals m₀ own a b d n { s with heap := h, toks := tk } Q) E { s with heap := h, toks := tk })
    (turn1 : ∀ n t u D z nb YB M tz tY tM c h tk own, (b < n ∧ n ≤ 12 ∨ 1 ≤ n ∧ n < b) → BeforeCtx d a b n nb YB M → Half z (2 * nb + 1) → Fr h₀ env.locals h (fun y => if y = x then some (.int n t) else mLoop m₀ u (.ref D) y) → News h₀ env.locals h ((D, tupB z tz YB tY M tM c) :: own) →
      wpAny (model prog w) A (execs body env) (LPost h₀ env.locals m₀ own a b d n { s with heap := h, toks := tk } Q) E { s with heap := h, toks := tk })
    (done : ∀ bv m₁ u h tk, m₁ = mLoop m₀ u bv → Fr h₀ env.locals h m₁ → News h₀ env.locals h [(l, listOf vs.toArray nn)] → Q .next { s with heap := h, toks := tk }) :
    wpAny (model prog w) A (pyIter (.ref l)) (fun it s₂ => LoopAtV prog w A h₀ env x body Q E it s₂) E s := by
  have hN := N _ hm
  have hls : s.heap.IsList l vs.toArray := ⟨_, hN.1, rfl, nn, rfl⟩
  have hlt : l < s.heap.objs.size := Heap.lt_size hN.1
  have hne : l ≠ s.heap.objs.size := Nat.ne_of_lt hlt
  refine wpAny_pyIter_list hls ?_
  have W := Walks.list (prog := prog) (w := w) hh s.heap.objs.size l hne vs.toArray
  have hlen : vs.toArray.size = (ms b).length := by simp [hi.length]
  rw [hlen] at W
  let J' : Nat → (Str → Option Value) → List (Addr × Obj) → Prop := fun i m₁ news₁ =>
    (i = 0 ∧ news₁ = [(l, listOf vs.toArray nn)] ∧ JB m₀ .none m₁) ∨
    ∃ (D : Addr) (z : UInt64) (nb YB M : Int) (tz tY tM : Tok) (c k : Nat), i = k + 1 ∧ (ms b)[k]? = some M ∧ nb = jdI YB M d ∧ YB = (if b < M then a else a + 1) ∧ Half z (2 * nb + 1) ∧ news₁ = [(D, tupB z tz YB tY M tM c), (l, listOf vs.toArray nn)] ∧ JB m₀ (.ref D) m₁
  refine ⟨_, _, _, (ms b).length, _, _, m₀, [(l, listOf vs.toArray nn)], J', rfl, W, ?_, ?_, ?_, ⟨⟨_, Heap.get?_push_size _ rfl, rfl, rfl⟩, hls.at fun o e => Heap.get?_push_of_some _ e⟩, F.push _, ?_, .inl ⟨rfl, rfl, hj, fun _ _ _ _ _ => rfl⟩, ?_, ?_⟩
  · intro hm'
    rcases List.mem_cons.mp hm' with e | hm'
    · exact absurd F.ns.lt (e ▸ Nat.lt_irrefl _)
    · exact hN.2.1 (List.mem_singleton.mp hm').symm
  · intro b' hb'
    rw [List.mem_singleton.mp hb']
    exact next_is_new F
  · intro p hp hI
    rw [List.mem_singleton.mp hp] at hI
    exact hne (List.mem_singleton.mp hI)
  · intro p hp
    rw [List.mem_singleton.mp hp]
    exact ⟨Heap.get?_push_of_some _ hN.1, hN.2⟩
  · rintro i v m₁ news₁ s₁ own ⟨hh', tk', rfl⟩ hin hP hJ hoff hown hget hfp hst F₁ N₁
    have hlt' : i < (ms b).length := hin
    obtain ⟨t, hx'⟩ := hi.get i (ms b)[i] (by simp [hlt'])
    have hv : v = .int (ms b)[i] t := by
      have hP' : vs[i]? = some v := by simpa using hP
      rw [hx'] at hP'; exact (Option.some.inj hP').symm
    subst hv
    have hn : (ms b)[i]? = some (ms b)[i] := by simp [hlt']
    generalize (ms b)[i] = n at *
    have hnr : b < n ∧ n ≤ 12 ∨ 1 ≤ n ∧ n < b := by
      rcases ms_at hb hn with h | h
      · exact .inl ⟨h.1, h.2.1⟩
      · exact .inr ⟨h.1, h.2.1⟩
    -- the iterator lies in own
    have hit : ∃ o, (s.heap.objs.size, o) ∈ own := by
      obtain ⟨⟨o, ho, _⟩, _⟩ := hst
      exact ⟨o, hfp _ (.head _) (next_is_new F) o ho⟩
    have fin : ∀ s₂, LEnd h₀ env.locals m₀ (own ++ [(l, listOf vs.toArray nn)]) a b d n { s with heap := hh', toks := tk' } s₂ → LoopStepU h₀ env.locals [s.heap.objs.size] own (J' (i + 1)) { s with heap := hh', toks := tk' } .next s₂ := by
      rintro s₂ ⟨h', tk, m', D, z, N', Y, tz, tY, tM, c, led, e, F', JB', NL, ho, hD, hlD, hz, hN', hY⟩
      refine ⟨rfl, h', tk, m', [(D, tupB z tz Y tY n tM c), (l, listOf vs.toArray nn)], e, F', ?_, ?_, ?_⟩
      · intro p hp
        rcases List.mem_append.mp hp with hp | hp
        · exact NL p (ho p (List.mem_append.mpr (.inl hp)))
        · rcases List.mem_cons.mp hp with rfl | hp
          · exact NL _ hD
          · exact NL p (ho p (List.mem_append.mpr (.inr hp)))
      · intro p hp hI
        rcases List.mem_cons.mp hp with rfl | hp
        · obtain ⟨o, ho'⟩ := hit
          have := allLt_out hlD _ (List.mem_append.mpr (.inl ho'))
          have e2 : D = s.heap.objs.size := List.mem_singleton.mp hI
          rw [e2] at this
          exact Nat.lt_irrefl _ this
        · rw [List.mem_singleton.mp hp] at hI
          exact hne (List.mem_singleton.mp hI)
      · exact .inr ⟨D, z, N', Y, n, tz, tY, tM, c, i, rfl, hn, hN', hY, hz, rfl, JB'⟩
    have post : ∀ f s₂, LPost h₀ env.locals m₀ (own ++ [(l, listOf vs.toArray nn)]) a b d n { s with heap := hh', toks := tk' } Q f s₂ → LoopStepV h₀ env.locals [s.heap.objs.size] own (J' (i + 1)) { s with heap := hh', toks := tk' } (fun v s' => Q (.ret v) s') (fun s' => Q .next s') f s₂ := by
      intro f s₂ p
      cases f with
      | ret v => exact .ret p
      | brk => exact .brk p
      | next => exact .next (fin _ p)
      | cont => exact .cont (fin _ p)
    rcases hJ with ⟨_, rfl, hJ⟩ | ⟨D, z, nb, YB, M, tz, tY, tM, c, k, hik, hM, hnb, hYB, hz, rfl, hJ⟩
    · refine wpAny_mono (turn0 n t m₁ hh' tk' (own ++ [(l, listOf vs.toArray nn)]) hnr ?_ N₁) (fun f s₂ p => post f s₂ p) fun _ _ e => e
      rw [← hJ.eq]; exact F₁
    · refine wpAny_mono (turn1 n t m₁ D z nb YB M tz tY tM c hh' tk' (own ++ [(l, listOf vs.toArray nn)]) hnr ⟨hnb, hYB, ?_⟩ hz ?_ ?_) (fun f s₂ p => post f s₂ p) fun _ _ e => e
      · subst hik
        exact ms_next hb hM hn
      · rw [← hJ.eq]; exact F₁
      · intro p hp
        rcases List.mem_cons.mp hp with rfl | hp
        · exact N₁ _ (List.mem_append.mpr (.inr (.head _)))
        · rcases List.mem_append.mp hp with hp | hp
          · exact N₁ p (List.mem_append.mpr (.inl hp))
          · exact N₁ p (List.mem_append.mpr (.inr (.tail _ hp)))
  · rintro h' tk m' news' F' N' _ hJ
    have hl' : ∃ bv, JB m₀ bv m' ∧ News h₀ env.locals h' [(l, listOf vs.toArray nn)] := by
      rcases hJ with ⟨_, rfl, hJ⟩ | ⟨D, z, nb, YB, M, tz, tY, tM, c, k, hik, hM, hnb, hYB, hz, rfl, hJ⟩
      · exact ⟨_, hJ, N'⟩
      · exact ⟨_, hJ, fun p hp => N' p (.tail _ hp)⟩
    obtain ⟨bv, hJ, N''⟩ := hl'
    exact done bv m' m' h' tk hJ.eq F' N''
end
end Mine
section
-- lines of the walk: floats by their halves
local macro_rules | `(tactic| walk_at "Mine half") => `(tactic| first | assumption | exact Mine.half_EG | exact Mine.half_EI | exact Mine.half_295 | exact Mine.half_05)
local macro_rules | `(tactic| walk_at "Mine bnd") => `(tactic| first | decide | omega | ((simp only [decide_eq_true_eq, decide_eq_false_iff_not, Bool.not_eq_true, Bool.and_eq_true] at *); omega))
local macro_rules | `(tactic| walk_at "binaryOp Add float float") => `(tactic| (k_here; refine' Mine.w_add_ff ?a ?b ?c ?_; (case a => walk_at "Mine half"); (case b => walk_at "Mine half"); (case c => walk_at "Mine bnd"); intro z9 hz9; (try dsimp only)))
local macro_rules | `(tactic| walk_at "binaryOp Sub float float") => `(tactic| (k_here; refine' Mine.w_sub_ff ?a ?b ?c ?_; (case a => walk_at "Mine half"); (case b => walk_at "Mine half"); (case c => walk_at "Mine bnd"); intro z9 hz9; (try dsimp only)))
local macro_rules | `(tactic| walk_at "binaryOp Add float int") => `(tactic| (k_here; first
  | (refine' Mine.w_add_fi ?a ?b ?c ?_; (case a => walk_at "Mine half"); (case b => walk_at "Mine bnd"); (case c => walk_at "Mine bnd"); intro z9 hz9; (try dsimp only))
  | (refine' Mine.w_addq_fi ?a ?b ?c ?d ?e ?_; (case a => assumption); (case b => walk_at "Mine bnd"); (case c => walk_at "Mine bnd"); (case d => walk_at "Mine bnd"); (case e => walk_at "Mine bnd"); intro z9 hz9; (try dsimp only))))
local macro_rules | `(tactic| walk_at "binaryOp Add int float") => `(tactic| (k_here; refine' Mine.w_add_if ?a ?b ?c ?_; (case a => walk_at "Mine half"); (case b => walk_at "Mine bnd"); (case c => walk_at "Mine bnd"); intro z9 hz9; (try dsimp only)))
local macro_rules | `(tactic| walk_at "binaryOp Sub float int") => `(tactic| (k_here; refine' Mine.w_sub_fi ?a ?b ?c ?_; (case a => walk_at "Mine half"); (case b => walk_at "Mine bnd"); (case c => walk_at "Mine bnd"); intro z9 hz9; (try dsimp only)))
local macro_rules | `(tactic| walk_at "binaryOp Mult float int") => `(tactic| (k_here; refine' Mine.w_mul_fi ?a ?b ?c ?_; (case a => walk_at "Mine half"); (case b => walk_at "Mine bnd"); (case c => walk_at "Mine bnd"); intro z9 hz9; (try dsimp only)))
local macro_rules | `(tactic| walk_at "binaryOp Mult int float") => `(tactic| (k_here; refine' Mine.w_mul_if ?a ?b ?c ?_; (case a => walk_at "Mine half"); (case b => walk_at "Mine bnd"); (case c => walk_at "Mine bnd"); intro z9 hz9; (try dsimp only)))
local macro_rules | `(tactic| walk_at "binaryOp Div float float") => `(tactic| (k_here; refine' Mine.w_div_ff rfl ?a ?b ?c ?d ?e ?_; (case a => walk_at "Mine half"); (case b => walk_at "Mine half"); (case c => walk_at "Mine bnd"); (case d => walk_at "Mine bnd"); (case e => walk_at "Mine bnd"); intro z9 hz9; (try dsimp only)))
local macro_rules | `(tactic| walk_at "binaryOp Div float int") => `(tactic| (k_here; refine' Mine.w_div_fi rfl ?a ?c ?d ?e ?_; (case a => walk_at "Mine half"); (case c => walk_at "Mine bnd"); (case d => walk_at "Mine bnd"); (case e => walk_at "Mine bnd"); intro z9 hz9; (try dsimp only)))
local macro_rules | `(tactic| walk_at "binaryOp Div int int") => `(tactic| (k_here; refine' Mine.w_div_ii rfl ?c ?d ?e ?_; (case c => walk_at "Mine bnd"); (case d => walk_at "Mine bnd"); (case e => walk_at "Mine bnd"); intro z9 hz9; (try dsimp only)))
local macro_rules | `(tactic| walk_at "binaryOp Mod float int") => `(tactic| (k_here; refine' Mine.w_mod_fi rfl ?a ?c ?d ?e ?_; (case a => walk_at "Mine half"); (case c => walk_at "Mine bnd"); (case d => walk_at "Mine bnd"); (case e => walk_at "Mine bnd"); intro z9 c9 hc9 hc9' hc9'' hz9; (try dsimp only)))
local macro_rules | `(tactic| walk_at "call builtin:math.floor") => `(tactic| (k_here; first
  | (refine' Mine.w_floor_h rfl ?a ?_; (case a => walk_at "Mine half"); intro v9 hv9; (try dsimp only))
  | (refine' Mine.w_floor_q rfl ?a ?b ?c ?d ?_; (case a => assumption); (case b => walk_at "Mine bnd"); (case c => walk_at "Mine bnd"); (case d => walk_at "Mine bnd"); intro v9 hv9; (try dsimp only))))
local macro_rules | `(tactic| walk_at "call builtin:math.ceil") => `(tactic| (k_here; first
  | (refine' Mine.w_ceil_h rfl ?a ?_; (case a => walk_at "Mine half"); intro v9 hv9; (try dsimp only))
  | (refine' Mine.w_ceil_q rfl ?a ?b ?c ?d ?_; (case a => assumption); (case b => walk_at "Mine bnd"); (case c => walk_at "Mine bnd"); (case d => walk_at "Mine bnd"); intro v9 hv9; (try dsimp only))))
local macro_rules | `(tactic| walk_at "call type:int") => `(tactic| (k_here; refine' Mine.w_int_h rfl ?a ?b ?_; (case a => walk_at "Mine half"); (case b => walk_at "Mine bnd"); intro v9 hv9; (try dsimp only)))
local macro_rules | `(tactic| walk_at "compareOp NotEq float float") => `(tactic| (k_here; refine' Mine.w_ne_ff ?a ?b ?_; (case a => walk_at "Mine half"); (case b => walk_at "Mine half")))
local macro_rules | `(tactic| walk_at "compareOp LtE float float") => `(tactic| (k_here; refine' Mine.w_le_ff ?a ?b ?_; (case a => walk_at "Mine half"); (case b => walk_at "Mine half")))
local macro_rules | `(tactic| walk_at "compareOp GtE float float") => `(tactic| (k_here; refine' Mine.w_ge_ff ?a ?b ?_; (case a => walk_at "Mine half"); (case b => walk_at "Mine half")))
local macro_rules | `(tactic| walk_at "compareOp Lt float float") => `(tactic| (k_here; refine' Mine.w_lt_ff ?a ?b ?_; (case a => walk_at "Mine half"); (case b => walk_at "Mine half")))
local macro_rules | `(tactic| walk_at "compareOp Lt float int") => `(tactic| (k_here; refine' Mine.w_lt_fi ?a ?_; (case a => walk_at "Mine half")))
local macro_rules | `(tactic| walk_at "compareOp NotEq float int") => `(tactic| (k_here; refine' Mine.w_ne_fi ?a ?_; (case a => walk_at "Mine half")))
local macro_rules | `(tactic| walk_at "compareOp In int ref") => `(tactic| (k_here; k_dflt (refine' Mine.w_in_top ?F ?X ?l ?i ?_; (case F => k_asm); (case X => k_asm); (case l => k_is); (case i => l_intsW)); (try dsimp only)))
local macro_rules | `(tactic| walk_at "Mine room") => `(tactic| ((try dsimp only [Around.deeper, ktrTop]); first | omega | ktr_room))
local macro_rules | `(tactic| walk_at "Mine units") => `(tactic| ((try dsimp only [Around.deeper, ktrTop]); first | omega | ktr_units))
section
local macro_rules | `(tactic| walk_at "eval Call") => `(tactic| (k_here; k_dflt (refine Call_ ?_)))
open Mine in
theorem Mine.ct_ji (w : World) (mean : ExcName → Option Value) (mg mb : Str → Option Value) (y m d : Int) (t1 t2 t3 : Tok) (hy : 1 ≤ y ∧ y ≤ 100000000) (hm : 1 ≤ m ∧ m ≤ 12) (hd' : 0 ≤ d ∧ d ≤ 400) :
    MClaim w mean mg mb 86 1 [.int y t1, .int m t2, .int d t3] (FloatPost (fun n => n = jdI y m d)) := by
  w_on
  dsimp only [MClaim, FloatPost]
  k_fill
  intro dp un gd cn cs a ccd cl outer A₀ base h₀ L ml news s Q E B F X N T hk hdp hun hret
  refine wpAny_call ?_
  w_strict (k_dflt cell_enter; k_steps)
  exact hret _ _ _ _ _ rfl (half_eq (by assumption) (by unfold jdI; omega)) (by assumption) (by assumption)
local macro_rules | `(tactic| walk_at "call ref") => `(tactic| (k_here; k_dflt (refine' Mine.ct_ji _ _ _ _ _ _ _ _ _ _ ?h0 ?h1 ?h2 _ _ _ _ _ _ _ _ _ _ _ _ _ _ _ _ _ _ ?B ?F ?X ?N ?T ?k ?dp ?un ?_; (case B => k_asm); (case F => k_asm); (case X => k_asm); (case N => k_asm); (case T => k_asm); (case k => first | exact rfl | assumption); (case dp => walk_at "Mine room"); (case un => walk_at "Mine units"); (case h0 => walk_at "Mine bnd"); (case h1 => walk_at "Mine bnd"); (case h2 => walk_at "Mine bnd"); intro z9 n9 t9 h9 tk9 hn9 hz9 F9 N9; (have hJ9 := Mine.jdI_eq hn9); (try dsimp only); (try k_fold))))
open Mine in
theorem Mine.ct_leap (w : World) (mean : ExcName → Option Value) (mg mb : Str → Option Value) (y : Int) (t1 : Tok)  :
    MClaim w mean mg mb 79 1 [.int y t1] (BoolPost (decide ((3 + 11 * (y + 1)) % 30 < 11))) := by
  w_on
  dsimp only [MClaim, BoolPost]
  k_fill
  intro dp un gd cn cs a ccd cl outer A₀ base h₀ L ml news s Q E B F X N T hk hdp hun hret
  refine wpAny_call ?_
  w_strict (k_dflt cell_enter; k_steps)
  exact bool_eq hret ileap_of (by assumption) (by assumption)
local macro_rules | `(tactic| walk_at "call ref") => `(tactic| (k_here; k_dflt (refine' Mine.ct_leap _ _ _ _ _ _  _ _ _ _ _ _ _ _ _ _ _ _ _ _ _ _ _ _ ?B ?F ?X ?N ?T ?k ?dp ?un ?_; (case B => k_asm); (case F => k_asm); (case X => k_asm); (case N => k_asm); (case T => k_asm); (case k => first | exact rfl | assumption); (case dp => walk_at "Mine room"); (case un => walk_at "Mine units"); intro h9 tk9 F9 N9; (try dsimp only); (try k_fold))))
open Mine in
theorem Mine.ct_isleap (w : World) (mean : ExcName → Option Value) (mg mb : Str → Option Value) (y : Int) (t1 : Tok)  :
    MClaim w mean mg mb 50 1 [.int y t1] (BoolPost (gleap y)) := by
  w_on
  dsimp only [MClaim, BoolPost]
  k_fill
  intro dp un gd cn cs a ccd cl outer A₀ base h₀ L ml news s Q E B F X N T hk hdp hun hret
  refine wpAny_call ?_
  w_strict (k_dflt cell_enter; k_steps)
  all_goals first
    | exact bool_eq hret (gleap_a (by assumption) (by assumption)) (by assumption) (by assumption)
    | exact bool_eq hret (gleap_b (by assumption) (by assumption)) (by assumption) (by assumption)
    | exact bool_eq hret (gleap_c (by assumption)) (by assumption) (by assumption)
local macro_rules | `(tactic| walk_at "call ref") => `(tactic| (k_here; k_dflt (refine' Mine.ct_isleap _ _ _ _ _ _  _ _ _ _ _ _ _ _ _ _ _ _ _ _ _ _ _ _ ?B ?F ?X ?N ?T ?k ?dp ?un ?_; (case B => k_asm); (case F => k_asm); (case X => k_asm); (case N => k_asm); (case T => k_asm); (case k => first | exact rfl | assumption); (case dp => walk_at "Mine room"); (case un => walk_at "Mine units"); intro h9 tk9 F9 N9; (try dsimp only); (try k_fold))))
open Mine in
theorem Mine.ct_legal (w : World) (mean : ExcName → Option Value) (mg mb : Str → Option Value) (y m d : Int) (t1 t2 t3 : Tok) (hm : 1 ≤ m ∧ m ≤ 12) (hd' : 1 ≤ d ∧ d ≤ 28) :
    MClaim w mean mg mb 57 2 [.int y t1, .int m t2, .int d t3] (BoolPost true) := by
  w_on
  dsimp only [MClaim, BoolPost]
  k_fill
  intro dp un gd cn cs a ccd cl outer A₀ base h₀ L ml news s Q E B F X N T hk hdp hun hret
  refine wpAny_call ?_
  w_strict (k_dflt cell_enter; k_steps)
  all_goals exact bool_eq hret rfl (by assumption) (by assumption)
local macro_rules | `(tactic| walk_at "call ref") => `(tactic| (k_here; k_dflt (refine' Mine.ct_legal _ _ _ _ _ _ _ _ _ _ ?h0 ?h1 _ _ _ _ _ _ _ _ _ _ _ _ _ _ _ _ _ _ ?B ?F ?X ?N ?T ?k ?dp ?un ?_; (case B => k_asm); (case F => k_asm); (case X => k_asm); (case N => k_asm); (case T => k_asm); (case k => first | exact rfl | assumption); (case dp => walk_at "Mine room"); (case un => walk_at "Mine units"); (case h0 => walk_at "Mine bnd"); (case h1 => walk_at "Mine bnd"); intro h9 tk9 F9 N9; (try dsimp only); (try k_fold))))
open Mine in
theorem Mine.ct_jg (w : World) (mean : ExcName → Option Value) (mg mb : Str → Option Value) (y m d : Int) (t1 t2 t3 : Tok) (hy : 1 ≤ y ∧ y ≤ 100000000) (hm : 1 ≤ m ∧ m ≤ 12) (hd' : 1 ≤ d ∧ d ≤ 28) :
    MClaim w mean mg mb 64 3 [.int y t1, .int m t2, .int d t3] (FloatPost (fun n => n = jdG y m d)) := by
  w_on
  dsimp only [MClaim, FloatPost]
  k_fill
  intro dp un gd cn cs a ccd cl outer A₀ base h₀ L ml news s Q E B F X N T hk hdp hun hret
  refine wpAny_call ?_
  w_strict (k_dflt cell_enter; k_steps)
  all_goals first
    | exact hret _ _ _ _ _ rfl (half_eq (by assumption) (jdG_a (by assumption) (by assumption) (by assumption) (by assumption) (by assumption))) (by assumption) (by assumption)
    | exact hret _ _ _ _ _ rfl (half_eq (by assumption) (jdG_b (by assumption) (by assumption) (by assumption) (by assumption) (by assumption) (by assumption))) (by assumption) (by assumption)
    | exact hret _ _ _ _ _ rfl (half_eq (by assumption) (jdG_c (by assumption) (by assumption) (by assumption) (by assumption) (by assumption) (by assumption))) (by assumption) (by assumption)
    | trace_state
local macro_rules | `(tactic| walk_at "call ref") => `(tactic| (k_here; k_dflt (refine' Mine.ct_jg _ _ _ _ _ _ _ _ _ _ ?h0 ?h1 ?h2 _ _ _ _ _ _ _ _ _ _ _ _ _ _ _ _ _ _ ?B ?F ?X ?N ?T ?k ?dp ?un ?_; (case B => k_asm); (case F => k_asm); (case X => k_asm); (case N => k_asm); (case T => k_asm); (case k => first | exact rfl | assumption); (case dp => walk_at "Mine room"); (case un => walk_at "Mine units"); (case h0 => walk_at "Mine bnd"); (case h1 => walk_at "Mine bnd"); (case h2 => walk_at "Mine bnd"); intro z9 n9 t9 h9 tk9 hn9 hz9 F9 N9; (have hJ9 := Mine.jdG_bd2 hn9 (by walk_at "Mine bnd") (by walk_at "Mine bnd") (by walk_at "Mine bnd")); (try first | have hJ9' := Mine.jdG_jan2 hn9 | have hJ9' := Mine.jdG_const hn9); (try dsimp only); (try k_fold))))
open Mine in
theorem Mine.ct_fi (w : World) (mean : ExcName → Option Value) (mg mb : Str → Option Value) (x : UInt64) (n : Int) (t1 : Tok) (hx : Half x (2 * n + 1)) (hn : 1948439 ≤ n ∧ n ≤ 10000000000) :
    MClaim w mean mg mb 93 2 [.float x t1] (TupPost (fun a b c => a = iY n ∧ b = iM n ∧ c = iD n)) := by
  w_on
  dsimp only [MClaim, TupPost]
  k_fill
  intro dp un gd cn cs a ccd cl outer A₀ base h₀ L ml news s Q E B F X N T hk hdp hun hret
  refine wpAny_call ?_
  w_strict (k_dflt cell_enter; k_steps)
  refine' hret _ _ _ _ _ _ _ _ _ _ ?mzp (by assumption) ?mzn ?mzl
  case mzn => assumption
  case mzl => exact allLt_of (by assumption)
  case mzp => exact fi_end (by assumption) (by assumption) (by assumption) (by assumption) (by assumption) (by assumption)
local macro_rules | `(tactic| walk_at "call ref") => `(tactic| (k_here; k_dflt (refine' Mine.ct_fi _ _ _ _ _ _ _ ?h0 ?h1 _ _ _ _ _ _ _ _ _ _ _ _ _ _ _ _ _ _ ?B ?F ?X ?N ?T ?k ?dp ?un ?_; (case B => k_asm); (case F => k_asm); (case X => k_asm); (case N => k_asm); (case T => k_asm); (case k => first | exact rfl | assumption); (case dp => walk_at "Mine room"); (case un => walk_at "Mine units"); (case h0 => walk_at "Mine half"); (case h1 => walk_at "Mine bnd"); intro n9 n9' n9'' D9 c9 t9 t9' t9'' h9 tk9 hp9 F9 N9 l9; (try simp only [AllLt, and_true] at l9); (have hI9 := Mine.fi_bd hp9 (by walk_at "Mine bnd")); (try dsimp only); (try k_fold))))
open Mine in
theorem Mine.ct_gy (w : World) (mean : ExcName → Option Value) (mg mb : Str → Option Value) (y m d : Int) (t1 t2 t3 : Tok) (hy : 700 ≤ y ∧ y ≤ 10001000) (hm : 1 ≤ m ∧ m ≤ 12) (hd' : 1 ≤ d ∧ d ≤ 29) :
    MClaim w mean mg mb 100 4 [.int y t1, .int m t2, .int d t3] (FloatPost (fun n => n = jdI (if m < iM (jdG1 y) then iY (jdG1 y) + 1 else iY (jdG1 y)) m d)) := by
  w_on
  dsimp only [MClaim, FloatPost]
  k_fill
  intro dp un gd cn cs a ccd cl outer A₀ base h₀ L ml news s Q E B F X N T hk hdp hun hret
  refine wpAny_call ?_
  w_strict (k_dflt cell_enter; k_steps)
  all_goals (refine' hret _ _ _ _ _ ?mzp (by assumption) (by assumption) ?mzn; (case mzp => first | exact gy_a (by assumption) (by assumption) (by assumption) (by assumption) | exact gy_b (by assumption) (by assumption) (by assumption) (by assumption)); (case mzn => refine' cb_drop ?mq1 ?mq2; (case mq1 => assumption); (case mq2 => kcj_all)))
open Mine in
theorem Mine.ct_ml (w : World) (mean : ExcName → Option Value) (mg mb : Str → Option Value) (y m : Int) (t1 t2 : Tok)  :
    MClaim w mean mg mb 107 2 [.int y t1, .int m t2] (IntPost (mlen y m)) := by
  w_on
  dsimp only [MClaim, IntPost]
  k_fill
  intro dp un gd cn cs a ccd cl outer A₀ base h₀ L ml news s Q E B F X N T hk hdp hun hret
  refine wpAny_call ?_
  w_strict (k_dflt cell_enter; k_steps)
  all_goals first
    | exact int_eq hret (ml_a (by assumption)) (by assumption) (by assumption)
    | exact int_eq hret (ml_b (by assumption) (by assumption)) (by assumption) (by assumption)
    | exact int_eq hret (ml_c (by assumption) (by assumption)) (by assumption) (by assumption)
    | exact int_eq hret (ml_d (by assumption) (by assumption)) (by assumption) (by assumption)
section
local macro_rules | `(tactic| walk_at "call ref") => `(tactic| (k_here; k_dflt (refine' Mine.ct_jg _ _ _ _ _ _ _ _ _ _ ?h0 ?h1 ?h2 _ _ _ _ _ _ _ _ _ _ _ _ _ _ _ _ _ _ ?B ?F ?X ?N ?T ?k ?dp ?un ?_; (case B => k_asm); (case F => k_asm); (case X => k_asm); (case N => k_asm); (case T => k_asm); (case k => first | exact rfl | assumption); (case dp => walk_at "Mine room"); (case un => walk_at "Mine units"); (case h0 => walk_at "Mine bnd"); (case h1 => walk_at "Mine bnd"); (case h2 => walk_at "Mine bnd"); intro z9 n9 t9 h9 tk9 hn9 hz9 F9 N9; (have hJ9 := Mine.jdG_bd2 hn9 (by walk_at "Mine bnd") (by walk_at "Mine bnd") (by walk_at "Mine bnd")); (first | (rename Mine.YD _ _ _ _ => hY9) | (first | with_reducible have hY9 := Mine.fg_a (by with_reducible assumption) (by with_reducible assumption) (by with_reducible assumption) (by with_reducible assumption) (by with_reducible assumption) (by with_reducible assumption) (by with_reducible assumption) (by with_reducible assumption) (by with_reducible assumption) (by with_reducible assumption) (by with_reducible assumption) (by with_reducible assumption) | with_reducible have hY9 := Mine.fg_b (by with_reducible assumption) (by with_reducible assumption) (by with_reducible assumption) (by with_reducible assumption) (by with_reducible assumption) (by with_reducible assumption) (by with_reducible assumption) (by with_reducible assumption) (by with_reducible assumption) (by with_reducible assumption) (by with_reducible assumption) | with_reducible have hY9 := Mine.fg_c (by with_reducible assumption) (by with_reducible assumption) (by with_reducible assumption) (by with_reducible assumption) (by with_reducible assumption) (by with_reducible assumption) (by with_reducible assumption) (by with_reducible assumption) (by with_reducible assumption) (by with_reducible assumption) (by with_reducible assumption) (by with_reducible assumption)); (have hY9' := hY9.out); (obtain ⟨hy1, hy2, hy3, hy4, hy5, hy6⟩ := hY9')); (try dsimp only); (try k_fold))))
-- lines of from_jd (Gregorian) alone: the equations stay hidden till the year is known
local macro_rules | `(tactic| walk_at "call builtin:math.floor") => `(tactic| (k_here; (fail_if_success (rename Mine.YD _ _ _ _ => h9)); refine' Mine.w_floor_q rfl ?a ?b ?c ?d ?_; (case a => assumption); (case b => walk_at "Mine bnd"); (case c => walk_at "Mine bnd"); (case d => walk_at "Mine bnd"); intro v9 hv9; (replace hv9 := Mine.Hid.mk hv9); (try dsimp only)))
local macro_rules | `(tactic| walk_at "binaryOp Mod float int") => `(tactic| (k_here; refine' Mine.w_mod_fi rfl ?a ?c ?d ?e ?_; (case a => walk_at "Mine half"); (case c => walk_at "Mine bnd"); (case d => walk_at "Mine bnd"); (case e => walk_at "Mine bnd"); intro z9 c9 hc9 hc9' hc9'' hz9; (replace hc9 := Mine.Hid.mk hc9); (try dsimp only)))
local macro_rules | `(tactic| walk_at "Mine bnd") => `(tactic| first | with_reducible exact Mine.fg_y0 (Mine.fg_y (by with_reducible assumption) (by with_reducible assumption) (by with_reducible assumption) (by with_reducible assumption) (by with_reducible assumption) (by with_reducible assumption) (by with_reducible assumption) (by with_reducible assumption) (by with_reducible assumption)) | with_reducible exact Mine.fg_y1 (Mine.fg_y (by with_reducible assumption) (by with_reducible assumption) (by with_reducible assumption) (by with_reducible assumption) (by with_reducible assumption) (by with_reducible assumption) (by with_reducible assumption) (by with_reducible assumption) (by with_reducible assumption)) | decide | omega | ((have hYG := Mine.yd_lp (by with_reducible assumption) (by with_reducible assumption)); omega))
open Mine in
theorem Mine.ct_fg (w : World) (mean : ExcName → Option Value) (mg mb : Str → Option Value) (x : UInt64) (n : Int) (t1 : Tok) (hx : Half x (2 * n + 1)) (hn : 1948439 ≤ n ∧ n ≤ 10000000000) :
    MClaim w mean mg mb 71 4 [.float x t1] (TupPost (fun a _ _ => a = gY n)) := by
  w_on
  dsimp only [MClaim, TupPost]
  k_fill
  intro dp un gd cn cs a ccd cl outer A₀ base h₀ L ml news s Q E B F X N T hk hdp hun hret
  refine wpAny_call ?_
  w_strict (k_dflt cell_enter; k_steps)
  all_goals (refine' hret _ _ _ _ _ _ _ _ _ _ ?mzp (by assumption) ?mzn ?mzl; (case mzn => assumption); (case mzl => exact allLt_of (by assumption)); (case mzp => assumption))
end
end
section
local macro_rules | `(tactic| walk_at "Mine pad") => `(tactic| skip)
local macro_rules | `(tactic| walk_at "Mine pad") => `(tactic| skip)
local macro_rules | `(tactic| walk_at "CompSrc") => `(tactic| (k_here; k_dflt (refine LCg.CompSrc.range (by rfl) (by k_asm) (by k_asm) (by assumption) (by first | decide | rfl) (by first | rfl | decide) (by first | size_fits | exact Nat.le_of_ble_eq_true rfl) ?_; intro g'; lcg_lit)))
local macro_rules | `(tactic| walk_at "call ref") => `(tactic| (k_here; k_dflt (refine' Mine.ct_leap _ _ _ _ _ _  _ _ _ _ _ _ _ _ _ _ _ _ _ _ _ _ _ _ ?B ?F ?X ?N ?T ?k ?dp ?un ?_; (case B => k_asm); (case F => k_asm); (case X => k_asm); (case N => k_asm); (case T => k_asm); (case k => first | exact rfl | assumption); (case dp => walk_at "Mine room"); (case un => walk_at "Mine units"); intro h9 tk9 F9 N9; (try dsimp only); (try k_fold))))
local macro_rules | `(tactic| walk_at "call ref") => `(tactic| (k_here; k_dflt (refine' Mine.ct_ml _ _ _ _ _ _ _ _  _ _ _ _ _ _ _ _ _ _ _ _ _ _ _ _ _ _ ?B ?F ?X ?N ?T ?k ?dp ?un ?_; (case B => k_asm); (case F => k_asm); (case X => k_asm); (case N => k_asm); (case T => k_asm); (case k => first | exact rfl | assumption); (case dp => walk_at "Mine room"); (case un => walk_at "Mine units"); intro t9 h9 tk9 F9 N9; (try dsimp only); (try k_fold))))
local macro_rules | `(tactic| walk_at "call ref") => `(tactic| (k_here; k_dflt (refine' Mine.ct_ji _ _ _ _ _ _ _ _ _ _ ?h0 ?h1 ?h2 _ _ _ _ _ _ _ _ _ _ _ _ _ _ _ _ _ _ ?B ?F ?X ?N ?T ?k ?dp ?un ?_; (case B => k_asm); (case F => k_asm); (case X => k_asm); (case N => k_asm); (case T => k_asm); (case k => first | exact rfl | assumption); (case dp => walk_at "Mine room"); (case un => walk_at "Mine units"); (case h0 => walk_at "Mine bnd"); (case h1 => walk_at "Mine bnd"); (case h2 => walk_at "Mine bnd"); intro z9 n9 t9 h9 tk9 hn9 hz9 F9 N9; (have hJ9 := Mine.jdI_eq hn9); (try dsimp only); (try k_fold))))
local macro_rules | `(tactic| walk_at "call ref") => `(tactic| (k_here; k_dflt (refine' Mine.ct_jg _ _ _ _ _ _ _ _ _ _ ?h0 ?h1 ?h2 _ _ _ _ _ _ _ _ _ _ _ _ _ _ _ _ _ _ ?B ?F ?X ?N ?T ?k ?dp ?un ?_; (case B => k_asm); (case F => k_asm); (case X => k_asm); (case N => k_asm); (case T => k_asm); (case k => first | exact rfl | assumption); (case dp => walk_at "Mine room"); (case un => walk_at "Mine units"); (case h0 => walk_at "Mine bnd"); (case h1 => walk_at "Mine bnd"); (case h2 => walk_at "Mine bnd"); intro z9 n9 t9 h9 tk9 hn9 hz9 F9 N9; (have hJ9 := Mine.jdG_bd2 hn9 (by walk_at "Mine bnd") (by walk_at "Mine bnd") (by walk_at "Mine bnd")); (try first | have hJ9' := Mine.jdG_jan2 hn9 | have hJ9' := Mine.jdG_const hn9); (try dsimp only); (try k_fold))))
local macro_rules | `(tactic| walk_at "call ref") => `(tactic| (k_here; k_dflt (refine' Mine.ct_fi _ _ _ _ _ _ _ ?h0 ?h1 _ _ _ _ _ _ _ _ _ _ _ _ _ _ _ _ _ _ ?B ?F ?X ?N ?T ?k ?dp ?un ?_; (case B => k_asm); (case F => k_asm); (case X => k_asm); (case N => k_asm); (case T => k_asm); (case k => first | exact rfl | assumption); (case dp => walk_at "Mine room"); (case un => walk_at "Mine units"); (case h0 => walk_at "Mine half"); (case h1 => walk_at "Mine bnd"); intro n9 n9' n9'' D9 c9 t9 t9' t9'' h9 tk9 hp9 F9 N9 l9; (try simp only [AllLt, and_true] at l9); (have hI9 := Mine.fi_bd hp9 (by walk_at "Mine bnd")); (try dsimp only); (try k_fold))))
local macro_rules | `(tactic| walk_at "call ref") => `(tactic| (k_here; k_dflt (refine' Mine.ct_fg _ _ _ _ _ _ _ ?h0 ?h1 _ _ _ _ _ _ _ _ _ _ _ _ _ _ _ _ _ _ ?B ?F ?X ?N ?T ?k ?dp ?un ?_; (case B => k_asm); (case F => k_asm); (case X => k_asm); (case N => k_asm); (case T => k_asm); (case k => first | exact rfl | assumption); (case dp => walk_at "Mine room"); (case un => walk_at "Mine units"); (case h0 => walk_at "Mine half"); (case h1 => walk_at "Mine bnd"); intro n9 n9' n9'' D9 c9 t9 t9' t9'' h9 tk9 hp9 F9 N9 l9; (try simp only [AllLt, and_true] at l9); (try dsimp only); (try k_fold))))
local macro_rules | `(tactic| walk_at "call ref") => `(tactic| (k_here; k_dflt (refine' Mine.ct_gy _ _ _ _ _ _ _ _ _ _ ?h0 ?h1 ?h2 _ _ _ _ _ _ _ _ _ _ _ _ _ _ _ _ _ _ ?B ?F ?X ?N ?T ?k ?dp ?un ?_; (case B => k_asm); (case F => k_asm); (case X => k_asm); (case N => k_asm); (case T => k_asm); (case k => first | exact rfl | assumption); (case dp => walk_at "Mine room"); (case un => walk_at "Mine units"); (case h0 => walk_at "Mine bnd"); (case h1 => walk_at "Mine bnd"); (case h2 => walk_at "Mine bnd"); intro z9 n9 t9 h9 tk9 hn9 hz9 F9 N9; (have hT9 := Mine.turn_facts (by with_reducible assumption) hn9); (try have hB9 := Mine.before_facts (by with_reducible assumption) (by with_reducible assumption) hn9); (try dsimp only); (try k_fold))))
local macro_rules | `(tactic| walk_at "call builtin:sum") => `(tactic| (k_here; (with_reducible show wpAny _ _ (PySem.call (Value.builtin "sum") [Value.ref _]) _ _ _); (with_unfolding_all refine' Mine.w_sum_ml ?k0 ?k1 ?k2 ?k3 ?k4 ?_; (case k0 => with_unfolding_all rfl); (case k1 => k_asm); (case k2 => k_asm); (case k3 => is_list); (case k4 => assumption)); intro v9 h9 tk9 t9 hv9 F9 N9; (try dsimp only)))
local macro_rules | `(tactic| walk_at "Mine false") => `(tactic| (exfalso; first | exact Mine.tup_false (by assumption) (by omega) (by omega) (by omega) | omega))
local macro_rules | `(tactic| walk_at "Mine turn end") => `(tactic| (refine' Mine.l_end ?mzF ?mzN ?mzD ?mzJ ?mzo ?mzl ?mzz ?mzh ?mzY; (case mzF => assumption); (case mzN => assumption); (case mzJ => exact ⟨by with_unfolding_all rfl, by intro q h1 h2 h3 h4; simp [h1, h2, h3, h4]⟩); (case mzD => k_mem); (case mzo => intro p hp; k_ownIn); (case mzl => first | assumption | exact Mine.al1 (by assumption) | exact Mine.al2 (by assumption) | exact Mine.al3 (by assumption) | exact Mine.al4 (by assumption) | exact Mine.al5 (by assumption) | exact Mine.al6 (by assumption)); (case mzz => assumption); (case mzh => (refine (Mine.gy_use (by assumption) (by assumption)).trans ?mzq; (case mzq => first | rw [if_pos (by omega)] | rw [if_neg (by omega)]))); (case mzY => first | rw [if_pos (by omega)] | rw [if_neg (by omega)])))
theorem PySem.Challenge.cw_ak5004_01_holds : PySem.Challenge.rw_ak5004_01.Holds := by
  refine Mine.hd ?_
  k_go0
  (all_goals try k_fold)
  rename Fr _ _ _ _ => F0
  rename News _ _ _ _ => N0
  refine' Mine.cut_yd F0 N0 ?_ ?_
  · w_strict k_steps
    all_goals (refine' Mine.yd_end ?mza ?mzb ?mzF ?mzN; (case mzF => assumption); (case mzN => assumption); (case mza => first | exact Mine.yr_bd _ | decide); (case mzb => first | exact Mine.dy_bd _ | decide))
  · clear F0 N0
    intro year day ty td h1 tk1 hyear hday F1 N1
    refine' Mine.cut_tio year day F1 ?_ ?_
    · w_strict k_steps
      all_goals first | (refine' Mine.tio_end ?mza ?mzb ?mzc ?mzF; (case mzF => assumption); (case mzb => assumption); (case mzc => assumption); (case mza => assumption)) | (exfalso; first | exact Mine.leap2 (by with_reducible assumption) (by with_reducible assumption) | omega)
    · clear F1 N1
      intro z S a b c tz ta tb tc ty td h2 tk2 m0 hS hz hp F2 N2
      have hI := Mine.fi_bd hp (by have := Mine.jdG_bd2 hS (by omega) (by omega) (by omega); have := Mine.jdG_jan2 hS; omega)
      have hb : 1 ≤ b ∧ b ≤ 12 := ⟨hI.2.2.1, hI.2.2.2.1⟩
      w_strict k_steps
      rename Fr _ _ _ _ => lF
      rename News _ _ _ _ => lN
      with_unfolding_all refine' Mine.iter_months (a := a) (b := b) (d := day) hb rfl rfl lF lN ?mhm ?mhi rfl ?mt0 ?mt1 ?mdone
      case mhm => k_mem
      case mhi => assumption
      all_goals clear lF lN
      case mdone =>
        intro bv m1 u h3 tk3 hm1 F3 N3
        subst hm1
        delta Mine.mLoop at F3
        (try k_unfold)
        (try dsimp only)
        w_strict k_steps
        all_goals w_report
      case mt0 =>
        intro n t u h3 tk3 own hnr F3 N3
        delta Mine.mLoop at F3
        have hT : Mine.TurnCtx year day S a b c n := ⟨hyear, hday, hS.trans (Mine.jdG_jan year), hp, hnr⟩
        (try k_fold)
        w_strict k_steps
        all_goals first | walk_at "Mine turn end" | walk_at "Mine false"
      case mt1 =>
        intro n t u D zb nb YB M tzb tYb tMb cb h3 tk3 own hnr hB hzb F3 N3
        delta Mine.mLoop at F3
        have hT : Mine.TurnCtx year day S a b c n := ⟨hyear, hday, hS.trans (Mine.jdG_jan year), hp, hnr⟩
        (try k_fold)
        w_strict k_steps
        all_goals first | walk_at "Mine turn end" | walk_at "Mine false"
end
end
