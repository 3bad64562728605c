/- Part 3 of the proof about FnCharstring. -/
import Derived.Laws.FloatArith
import Derived.Test.YtbepljmeflndkaaGreatDoorQ02
import Derived.Test.YtbepljmeflndkaaGreatDoorRows
namespace Go.Fl
open Ieee
theorem log2_shift {m : Nat} (hm : m ≠ 0) (t : Nat) : (m * 2 ^ t).log2 = m.log2 + t := by
  have hp : 0 < 2 ^ t := Nat.pow_pos (by decide)
  have h0 : m * 2 ^ t ≠ 0 := Nat.mul_ne_zero hm (by omega)
  rw [Nat.log2_eq_iff h0]
  have h1 := Nat.log2_self_le hm
  have h2 := @Nat.lt_log2_self m
  refine ⟨?_, ?_⟩
  · rw [Nat.pow_add]; exact Nat.mul_le_mul_right _ h1
  · have e : m.log2 + t + 1 = m.log2 + 1 + t := by omega
    rw [e, Nat.pow_add]; exact Nat.mul_lt_mul_of_pos_right h2 hp
theorem log2_le {m : Nat} (hm : m ≠ 0) (h : m < 2 ^ 53) : m.log2 ≤ 52 := by
  have := (Nat.log2_lt hm).2 h
  omega
/-- A magnitude, its first digit at place 52. -/
def top (m : Nat) : Nat := m * 2 ^ (52 - m.log2)
theorem top_lo {m : Nat} (hm : m ≠ 0) (h : m < 2 ^ 53) : 2 ^ 52 ≤ top m := by
  have h1 := Nat.log2_self_le hm
  have hl := log2_le hm h
  have : 2 ^ 52 = 2 ^ m.log2 * 2 ^ (52 - m.log2) := by rw [← Nat.pow_add]; congr 1; omega
  rw [this]
  exact Nat.mul_le_mul_right _ h1
theorem top_hi {m : Nat} (hm : m ≠ 0) (h : m < 2 ^ 53) : top m < 2 ^ 53 := by
  have h2 := @Nat.lt_log2_self m
  have hl := log2_le hm h
  have : 2 ^ 53 = 2 ^ (m.log2 + 1) * 2 ^ (52 - m.log2) := by rw [← Nat.pow_add]; congr 1; omega
  rw [this]
  exact Nat.mul_lt_mul_of_pos_right h2 (Nat.pow_pos (by decide))
theorem cut0 (way : Toward) (s : Bool) (n : Nat) : way.cut s n 0 = n := by
  unfold Toward.cut
  have hg : (1 : Nat) <<< min 0 (n.log2 + 2) = 1 := by simp
  rw [hg]
  dsimp only
  rw [Nat.div_one, Nat.mod_one]
  cases way <;> simp
theorem cut_exact (way : Toward) (s : Bool) (n d : Nat) (hn : n ≠ 0) : way.cut s (n * 2 ^ d) d = n := by
  unfold Toward.cut
  have hl : (n * 2 ^ d).log2 = n.log2 + d := log2_shift hn d
  have hmin : min d ((n * 2 ^ d).log2 + 2) = d := by rw [hl]; omega
  rw [hmin, Nat.one_shiftLeft]
  have hp : 0 < 2 ^ d := Nat.pow_pos (by decide)
  have h1 : n * 2 ^ d / 2 ^ d = n := Nat.mul_div_cancel _ hp
  have h2 : n * 2 ^ d % 2 ^ d = 0 := Nat.mul_mod_left _ _
  dsimp only
  rw [h1, h2]
  have h3 : (2 ^ d == 2 * 0) = false := by rw [beq_eq_false_iff_ne]; omega
  cases way <;> simp
theorem fin_le (X t : Nat) (h3 : X ≤ 1974 * 2 ^ 52) (h2 : t < 2 ^ 53) : X + t ≤ 2047 * 2 ^ 52 := by omega
theorem nearest_exact (s : Bool) (m t : Nat) (p : Int) (hm : m ≠ 0) (hm2 : m < 2 ^ 53) (hp : -1000 ≤ p) (hp2 : p ≤ 900) :
    double.nearest s (m * 2 ^ t) (p - t) = double.word s ((p + m.log2 - 52 + 1074).toNat * 2 ^ 52 + top m) := by
  have hl := log2_le hm hm2
  have h0 : m * 2 ^ t ≠ 0 := Nat.mul_ne_zero hm (Nat.pos_iff_ne_zero.1 (Nat.pow_pos (by decide)))
  have hlt := log2_shift hm t
  have hlast : max (p - t + ((m * 2 ^ t).log2 : Nat) - (double.fractionBits : Nat)) double.leastPlace = p + m.log2 - 52 := by
    rw [hlt]
    show max (p - t + ((m.log2 + t : Nat) : Int) - ((52 : Nat) : Int)) (2 - 2 ^ (11 - 1) - ((52 : Nat) : Int)) = _
    omega
  have hleast : double.leastPlace = -1074 := by decide
  have hkept : Toward.even.cut s ((m * 2 ^ t) <<< (p - t - (p + m.log2 - 52)).toNat) ((p + m.log2 - 52) - (p - t)).toNat = top m := by
    rw [Nat.shiftLeft_eq]
    rcases Nat.le_total t (52 - m.log2) with ht | ht
    · have e1 : (p - t - (p + m.log2 - 52)).toNat = 52 - m.log2 - t := by omega
      have e2 : ((p + m.log2 - 52) - (p - t)).toNat = 0 := by omega
      rw [e1, e2, cut0]
      unfold top
      rw [Nat.mul_assoc, ← Nat.pow_add]
      congr 2; omega
    · have e1 : (p - t - (p + m.log2 - 52)).toNat = 0 := by omega
      have e2 : ((p + m.log2 - 52) - (p - t)).toNat = t - (52 - m.log2) := by omega
      rw [e1, e2, Nat.pow_zero, Nat.mul_one]
      have e3 : m * 2 ^ t = top m * 2 ^ (t - (52 - m.log2)) := by
        unfold top
        rw [Nat.mul_assoc, ← Nat.pow_add]
        congr 2; omega
      rw [e3]
      exact cut_exact _ _ _ _ (by have := top_lo hm hm2; have h52 : (0 : Nat) < 2 ^ 52 := by decide
                                  omega)
  unfold Format.nearest
  rw [if_neg h0]
  dsimp only
  rw [hlast, hkept, hleast]
  congr 1
  have e : (p + m.log2 - 52 - -1074).toNat = (p + m.log2 - 52 + 1074).toNat := by omega
  rw [e]
  have hb : double.binade = 2 ^ 52 := by decide
  have hi : double.infRung = 2047 * 2 ^ 52 := by decide
  rw [hb, hi]
  refine Nat.min_eq_left ?_
  have h1 : (p + m.log2 - 52 + 1074).toNat ≤ 1974 := by omega
  have h2 := top_hi hm hm2
  have h3 := Nat.mul_le_mul_right (2 ^ 52) h1
  exact fin_le _ _ h3 h2
theorem read_word (s : Bool) (e r : Nat) (he : e + 1 < 2047) (h1 : 2 ^ 52 ≤ r) (h2 : r < 2 ^ 53) : double.read (double.word s (e * 2 ^ 52 + r)) = .number s r (-1074 + e) := by
  have hsw : double.signWeight = 2 ^ 63 := by decide
  have hb : double.binade = 2 ^ 52 := by decide
  have hi : double.infRung = 2047 * 2 ^ 52 := by decide
  have hleast : double.leastPlace = -1074 := by decide
  have hlt : e * 2 ^ 52 + r < 2047 * 2 ^ 52 := by
    have := Nat.mul_le_mul_right (2 ^ 52) (show e ≤ 2045 by omega)
    omega
  have hge : 2 ^ 52 ≤ e * 2 ^ 52 + r := by omega
  have hs1 : double.word s (e * 2 ^ 52 + r) / 2 ^ 63 % 2 = s.toNat := by
    unfold Format.word
    cases s
    · simp only [Bool.false_eq_true, if_false, Bool.toNat_false]; omega
    · simp only [if_true, Bool.toNat_true, hsw]; omega
  have hs2 : double.word s (e * 2 ^ 52 + r) % 2 ^ 63 = e * 2 ^ 52 + r := by
    unfold Format.word
    cases s
    · simp only [Bool.false_eq_true, if_false]; omega
    · simp only [if_true, hsw]; omega
  unfold Format.read
  simp only [hsw, hs1, hs2, hb, hi, hleast]
  rw [if_neg (by omega), if_pos hlt]
  have hneg : (s.toNat == 1) = s := by cases s <;> rfl
  rw [hneg]
  have hd : (e * 2 ^ 52 + r) / 2 ^ 52 = e + 1 := by omega
  have hm : (e * 2 ^ 52 + r) % 2 ^ 52 = r - 2 ^ 52 := by omega
  rw [hd, hm]
  have ea : 2 ^ 52 + (r - 2 ^ 52) = r := by omega
  have eb : e + 1 - 1 = e := by omega
  rw [ea, eb]
/-- The word of q/65536. -/
def F (q : Int) : Nat := double.write (.number (decide (q < 0)) q.natAbs (-16))
/-- Where the last digit of that word lies. -/
def pl (q : Int) : Int := if q = 0 then -1074 else -68 + q.natAbs.log2
def mg (q : Int) : Nat := if q = 0 then 0 else top q.natAbs
theorem F_eq (q : Int) (h : q.natAbs < 2 ^ 53) (h0 : q ≠ 0) : F q = double.word (decide (q < 0)) ((-16 + (q.natAbs.log2 : Int) - 52 + 1074).toNat * 2 ^ 52 + top q.natAbs) := by
  have := nearest_exact (decide (q < 0)) q.natAbs 0 (-16) (by omega) h (by omega) (by omega)
  rw [Nat.pow_zero, Nat.mul_one] at this
  exact this
theorem F_zero : F 0 = 0 := by decide
theorem read_F (q : Int) (h : q.natAbs < 2 ^ 53) : double.read (F q) = .number (decide (q < 0)) (mg q) (pl q) := by
  by_cases h0 : q = 0
  · subst h0; decide
  · have hm : q.natAbs ≠ 0 := by omega
    have hl := log2_le hm h
    rw [F_eq q h h0, read_word _ _ _ (by omega) (top_lo hm h) (top_hi hm h)]
    unfold mg pl
    rw [if_neg h0, if_neg h0]
    congr 1
    omega
theorem signed_F (q : Int) (h : q.natAbs < 2 ^ 53) (base : Int) (hb : base ≤ pl q) (hb2 : base ≤ -16) (s : Bool) (hs : q ≠ 0 → s = decide (q < 0)) : signed s (mg q) (pl q - base).toNat = q * 2 ^ (-16 - base).toNat := by
  by_cases h0 : q = 0
  · subst h0
    unfold signed mg
    simp
  · have hm : q.natAbs ≠ 0 := by omega
    have hl := log2_le hm h
    rw [hs h0]
    unfold signed mg
    rw [if_neg h0]
    have hpl : pl q = -68 + q.natAbs.log2 := by unfold pl; rw [if_neg h0]
    have e : (top q.natAbs) <<< (pl q - base).toNat = q.natAbs * 2 ^ (-16 - base).toNat := by
      unfold top
      rw [Nat.shiftLeft_eq, Nat.mul_assoc, ← Nat.pow_add]
      congr 2
      rw [hpl] at hb ⊢
      omega
    rw [e]
    by_cases hneg : q < 0
    · rw [decide_eq_true hneg, if_pos rfl]
      push_cast
      have : (q.natAbs : Int) = -q := by omega
      rw [this, Int.neg_mul, Int.neg_neg]
    · rw [decide_eq_false hneg, if_neg (by decide)]
      push_cast
      have : (q.natAbs : Int) = q := by omega
      rw [this]
theorem pl_le (q : Int) (h : q.natAbs < 2 ^ 53) : pl q ≤ -16 ∧ -1074 ≤ pl q := by
  unfold pl
  by_cases h0 : q = 0
  · rw [if_pos h0]; omega
  · rw [if_neg h0]
    have := log2_le (show q.natAbs ≠ 0 by omega) h
    omega
/-- A sum that is exact, written. -/
theorem write_sum (q : Int) (h : q.natAbs < 2 ^ 53) (T : Nat) (s : Bool) (hs : q = 0 → s = false) : double.write (.number (if q * 2 ^ T = 0 then s else decide (q * 2 ^ T < 0)) (q * 2 ^ T).natAbs (-16 - T)) = F q := by
  have hp : (0 : Int) < 2 ^ T := Int.pow_pos (by decide)
  by_cases h0 : q = 0
  · subst h0
    rw [Int.zero_mul, if_pos rfl, hs rfl, F_zero]
    show double.nearest false 0 _ = 0
    unfold Format.nearest
    rw [if_pos rfl]
    rfl
  · have hne : q * 2 ^ T ≠ 0 := Int.mul_ne_zero h0 (by omega)
    rw [if_neg hne]
    have hd : decide (q * 2 ^ T < 0) = decide (q < 0) := by
      by_cases hq : q < 0
      · rw [decide_eq_true hq, decide_eq_true (Int.mul_neg_of_neg_of_pos hq hp)]
      · rw [decide_eq_false hq, decide_eq_false (by have := Int.mul_nonneg (show 0 ≤ q by omega) (Int.le_of_lt hp); omega)]
    rw [hd]
    have hn : (q * 2 ^ T).natAbs = q.natAbs * 2 ^ T := by rw [Int.natAbs_mul, Int.natAbs_pow]; rfl
    rw [hn]
    show double.nearest _ _ _ = _
    rw [nearest_exact _ _ _ _ (by omega) h (by omega) (by omega), F_eq q h h0]
/-- A word that stands for q/65536; of zero: either one. -/
def RF (b : Nat) (q : Int) : Prop := q.natAbs < 2 ^ 53 ∧ ∃ s, double.read b = .number s (mg q) (pl q) ∧ (q ≠ 0 → s = decide (q < 0))
theorem RF_F {q : Int} (h : q.natAbs < 2 ^ 53) : RF (F q) q := ⟨h, _, read_F q h, fun _ => rfl⟩
theorem add_RF {a b : Int} {y : Nat} (ha : a.natAbs < 2 ^ 53) (hy : RF y b) (hab : (a + b).natAbs < 2 ^ 53) : double.add (F a) y = some (F (a + b)) := by
  obtain ⟨hb, t, ht, hs⟩ := hy
  unfold Format.add
  rw [read_F a ha, ht]
  have h1 := pl_le a ha
  have h2 := pl_le b hb
  unfold Datum.sum
  simp only [Option.map_some]
  have hbase : min (pl a) (pl b) = -16 - ((-16 - min (pl a) (pl b)).toNat : Int) := by omega
  have e1 := signed_F a ha (min (pl a) (pl b)) (by omega) (by omega) (decide (a < 0)) (fun _ => rfl)
  have e2 := signed_F b hb (min (pl a) (pl b)) (by omega) (by omega) t hs
  rw [e1, e2, ← Int.add_mul]
  congr 1
  have := write_sum (a + b) hab (-16 - min (pl a) (pl b)).toNat (decide (a < 0) && t) (by
    intro h
    by_cases hx : a < 0
    · have hb0 : b ≠ 0 := by omega
      rw [hs hb0, decide_eq_false (show ¬ b < 0 by omega), Bool.and_false]
    · rw [decide_eq_false hx, Bool.false_and])
  rw [← hbase] at this
  exact this
theorem sub_F {a b : Int} (ha : a.natAbs < 2 ^ 53) (hb : b.natAbs < 2 ^ 53) (hab : (a - b).natAbs < 2 ^ 53) : double.sub (F a) (F b) = some (F (a - b)) := by
  unfold Format.sub
  rw [read_F a ha, read_F b hb]
  have h1 := pl_le a ha
  have h2 := pl_le b hb
  unfold Datum.sum Datum.opposite
  simp only [Option.map_some]
  have hbase : min (pl a) (pl b) = -16 - ((-16 - min (pl a) (pl b)).toNat : Int) := by omega
  have e1 := signed_F a ha (min (pl a) (pl b)) (by omega) (by omega) (decide (a < 0)) (fun _ => rfl)
  have e2 := signed_F b hb (min (pl a) (pl b)) (by omega) (by omega) (decide (b < 0)) (fun _ => rfl)
  have e3 : ∀ (s : Bool) (m k : Nat), signed (!s) m k = -signed s m k := by intro s m k; cases s <;> simp [signed]
  rw [e3, e1, e2, ← Int.sub_eq_add_neg, ← Int.sub_mul]
  congr 1
  have := write_sum (a - b) hab (-16 - min (pl a) (pl b)).toNat (decide (a < 0) && !decide (b < 0)) (by intro h; by_cases hx : a < 0 <;> by_cases hy : b < 0 <;> simp [hx, hy] <;> omega)
  rw [← hbase] at this
  exact this
theorem cmp_mul (a b : Int) (T : Nat) : compare (a * 2 ^ T) (b * 2 ^ T) = compare a b := by
  have hp : (0 : Int) < 2 ^ T := Int.pow_pos (by decide)
  rcases Int.lt_trichotomy a b with h | h | h
  · rw [Int.compare_eq_lt.2 h, Int.compare_eq_lt.2 (Int.mul_lt_mul_of_pos_right h hp)]
  · subst h
    rw [Int.compare_eq_eq.2 rfl, Int.compare_eq_eq.2 rfl]
  · rw [Int.compare_eq_gt.2 h, Int.compare_eq_gt.2 (Int.mul_lt_mul_of_pos_right h hp)]
theorem order_RF {a b : Int} {x y : Nat} (hx : RF x a) (hy : RF y b) : double.order x y = some (compare a b) := by
  obtain ⟨ha, s, hs, hs2⟩ := hx
  obtain ⟨hb, t, ht, ht2⟩ := hy
  unfold Format.order
  rw [hs, ht]
  have h1 := pl_le a ha
  have h2 := pl_le b hb
  unfold Datum.order
  simp only
  rw [signed_F a ha (min (pl a) (pl b)) (by omega) (by omega) s hs2, signed_F b hb (min (pl a) (pl b)) (by omega) (by omega) t ht2, cmp_mul]
theorem nearest_int (n : Int) (h : n.natAbs < 2 ^ 37) : double.write (.number (n < 0) n.natAbs 0) = F (n * 65536) := by
  have hd : (n * 65536).natAbs = n.natAbs * 2 ^ 16 := by rw [Int.natAbs_mul]; rfl
  by_cases h0 : n = 0
  · subst h0; decide
  · have e1 := nearest_exact (decide (n < 0)) n.natAbs 0 0 (by omega) (by omega) (by omega) (by omega)
    have e2 := nearest_exact (decide (n < 0)) n.natAbs 16 0 (by omega) (by omega) (by omega) (by omega)
    rw [Nat.pow_zero, Nat.mul_one] at e1
    unfold F
    rw [hd]
    have e3 : decide (n * 65536 < 0) = decide (n < 0) := by
      by_cases hn : n < 0
      · rw [decide_eq_true hn, decide_eq_true (by omega)]
      · rw [decide_eq_false hn, decide_eq_false (by omega)]
    rw [e3]
    show double.nearest _ _ _ = double.nearest _ _ _
    exact e1.trans e2.symm
theorem toInt_F (q : Int) (h : q.natAbs < 2 ^ 53) {x : Nat} (hx : RF x q) : (double.read x).toInt .zero = some (q.tdiv 65536) := by
  obtain ⟨_, s, hs, hs2⟩ := hx
  rw [hs]
  have h1 := pl_le q h
  unfold Datum.toInt Datum.integral
  simp only
  have hi : (pl q).toNat = 0 := by omega
  rw [hi, Nat.shiftLeft_zero]
  congr 1
  have hcut : Toward.zero.cut s (mg q) (-pl q).toNat = q.natAbs / 65536 := by
    unfold Toward.cut
    dsimp only
    rw [Bool.toNat_false, Nat.add_zero]
    by_cases h0 : q = 0
    · subst h0
      show 0 / _ = _
      simp
    · have hm : q.natAbs ≠ 0 := by omega
      have hl := log2_le hm h
      have hpl : pl q = -68 + q.natAbs.log2 := by unfold pl; rw [if_neg h0]
      have hmg : mg q = top q.natAbs := by unfold mg; rw [if_neg h0]
      rw [hmg]
      have htl : (top q.natAbs).log2 = 52 := by
        unfold top
        rw [log2_shift hm]
        omega
      have hdrop : (-pl q).toNat = 68 - q.natAbs.log2 := by omega
      rw [htl, hdrop, Nat.one_shiftLeft]
      unfold top
      rcases Nat.lt_or_ge q.natAbs.log2 14 with hs' | hs'
      · have e1 : min (68 - q.natAbs.log2) (52 + 2) = 54 := by omega
        rw [e1]
        have ht := top_hi hm h
        unfold top at ht
        rw [Nat.div_eq_of_lt (by omega)]
        have : q.natAbs < 2 ^ 14 := (Nat.log2_lt hm).1 hs'
        rw [Nat.div_eq_of_lt (by omega)]
      · have e1 : min (68 - q.natAbs.log2) (52 + 2) = 16 + (52 - q.natAbs.log2) := by omega
        rw [e1, Nat.pow_add]
        rw [Nat.mul_comm (2 ^ 16)]
        rw [Nat.mul_comm q.natAbs, Nat.mul_div_mul_left _ _ (Nat.pow_pos (by decide))]
  rw [hcut]
  unfold signed
  rw [Nat.shiftLeft_zero]
  by_cases h0 : q = 0
  · subst h0; simp
  · rw [hs2 h0]
    by_cases hn : q < 0
    · rw [decide_eq_true hn, if_pos rfl]
      have : q = -(q.natAbs : Int) := by omega
      rw [this, Int.neg_tdiv, Int.natAbs_neg, Int.natAbs_natCast]
      rfl
    · rw [decide_eq_false hn, if_neg (by decide)]
      have : q = (q.natAbs : Int) := by omega
      rw [this, Int.natAbs_natCast]
      rfl
end Go.Fl
namespace Go.Fl
open Ieee
theorem mg_neg (q : Int) : mg (-q) = mg q := by unfold mg; rw [Int.natAbs_neg]; by_cases h : q = 0 <;> simp [h]
theorem pl_neg (q : Int) : pl (-q) = pl q := by unfold pl; rw [Int.natAbs_neg]; by_cases h : q = 0 <;> simp [h]
theorem neg_RF {b : Nat} {q : Int} (h : RF b q) : RF (b ^^^ 2 ^ 63) (-q) := by
  obtain ⟨hq, s, hs, hs2⟩ := h
  refine ⟨by rw [Int.natAbs_neg]; exact hq, !s, ?_, ?_⟩
  · rw [mg_neg, pl_neg]
    have hsw : double.signWeight = 2 ^ 63 := by decide
    have h1 : (b ^^^ 2 ^ 63) % 2 ^ 63 = b % 2 ^ 63 := by
      rw [Nat.xor_mod_two_pow]
      have : (2 : Nat) ^ 63 % 2 ^ 63 = 0 := by decide
      rw [this, Nat.xor_zero]
    have h2 : ((b ^^^ 2 ^ 63) / 2 ^ 63 % 2 == 1) = !(b / 2 ^ 63 % 2 == 1) := by
      rw [Nat.xor_div_two_pow]
      have e1 : (2 : Nat) ^ 63 / 2 ^ 63 = 1 := by decide
      rw [e1]
      have e2 : (b / 2 ^ 63 ^^^ 1) % 2 = (b / 2 ^ 63 % 2) ^^^ 1 := by
        have := Nat.xor_mod_two_pow (a := b / 2 ^ 63) (b := 1) (n := 1)
        simpa using this
      rw [e2]
      rcases Nat.mod_two_eq_zero_or_one (b / 2 ^ 63) with e | e <;> rw [e] <;> rfl
    unfold Format.read at hs ⊢
    simp only [hsw] at hs ⊢
    rw [h1, h2]
    split at hs
    · rename_i hc
      rw [if_pos hc]
      injection hs with a1 a2 a3
      rw [a1, a2, a3]
    · rename_i hc
      rw [if_neg hc]
      split at hs
      · rename_i hc2
        rw [if_pos hc2]
        injection hs with a1 a2 a3
        rw [a1, a2, a3]
      · split at hs <;> cases hs
  · intro h0
    have hq0 : q ≠ 0 := by omega
    rw [hs2 hq0]
    by_cases hn : q < 0
    · rw [decide_eq_true hn, decide_eq_false (by omega)]; rfl
    · rw [decide_eq_false hn, decide_eq_true (by omega)]; rfl
theorem top_shift {n : Nat} (hn : n ≠ 0) (h : n < 2 ^ 37) : top (n * 2 ^ 16) = top n := by
  unfold top
  have hl : n.log2 < 37 := (Nat.log2_lt hn).2 h
  rw [log2_shift hn, Nat.mul_assoc, ← Nat.pow_add]
  congr 2; omega
theorem div_F (n : Int) (h : n.natAbs < 2 ^ 37) : double.div (F (n * 65536)) (F 4294967296) = some (F n) := by
  unfold Format.div
  have ha : (n * 65536).natAbs < 2 ^ 53 := by rw [Int.natAbs_mul]; show n.natAbs * 65536 < _; omega
  have hd : (n * 65536).natAbs = n.natAbs * 2 ^ 16 := by rw [Int.natAbs_mul]; rfl
  have hc : double.read (F 4294967296) = .number false (2 ^ 52) (-36) := by decide
  rw [read_F _ ha, hc]
  by_cases h0 : n = 0
  · subst h0; decide
  · have hm : n.natAbs ≠ 0 := by omega
    have hl := log2_le hm (by omega)
    have hmg : mg (n * 65536) = top n.natAbs := by
      unfold mg
      rw [if_neg (by omega), hd, top_shift hm h]
    have hpl : pl (n * 65536) = -52 + n.natAbs.log2 := by
      unfold pl
      rw [if_neg (by omega), hd, log2_shift hm]
      omega
    have hs : decide (n * 65536 < 0) = decide (n < 0) := by
      by_cases hn : n < 0
      · rw [decide_eq_true hn, decide_eq_true (by omega)]
      · rw [decide_eq_false hn, decide_eq_false (by omega)]
    have htl : (top n.natAbs).log2 = 52 := by unfold top; rw [log2_shift hm]; omega
    unfold Datum.quotient
    simp only
    rw [if_neg (by decide), hmg, hpl, hs, htl]
    have hdl : ((2 : Nat) ^ 52).log2 = 52 := by decide
    rw [hdl]
    have hmore : double.fractionBits + 2 + 52 - 52 = 54 := by decide
    rw [hmore, Nat.shiftLeft_eq]
    have e1 : top n.natAbs * 2 ^ 54 / 2 ^ 52 = top n.natAbs * 4 := by
      have : top n.natAbs * 2 ^ 54 = top n.natAbs * 4 * 2 ^ 52 := by rw [Nat.mul_assoc]
      rw [this, Nat.mul_div_cancel _ (by decide)]
    have e2 : top n.natAbs * 2 ^ 54 % 2 ^ 52 = 0 := by
      have : top n.natAbs * 2 ^ 54 = top n.natAbs * 4 * 2 ^ 52 := by rw [Nat.mul_assoc]
      rw [this, Nat.mul_mod_left]
    rw [e1, e2]
    have e3 : 2 * (top n.natAbs * 4) + ((0 : Nat) != 0).toNat = n.natAbs * 2 ^ (55 - n.natAbs.log2) := by
      have : ((0 : Nat) != 0).toNat = 0 := rfl
      rw [this, Nat.add_zero]
      unfold top
      have : 55 - n.natAbs.log2 = 52 - n.natAbs.log2 + 3 := by omega
      rw [this, Nat.pow_add, ← Nat.mul_assoc n.natAbs]
      have e8 : (2 : Nat) ^ 3 = 8 := rfl
      rw [e8]
      omega
    rw [e3]
    have e4 : -52 + (n.natAbs.log2 : Int) - -36 - ((54 : Nat) : Int) - 1 = -16 - ((55 - n.natAbs.log2 : Nat) : Int) := by omega
    rw [e4]
    show some (double.nearest (decide (n < 0) ^^ false) _ _) = _
    rw [Bool.xor_false, nearest_exact _ _ _ _ hm (by omega) (by omega) (by omega), F_eq n (by omega) h0]
/-- The rung of a/65536 among float32's. -/
def kp (a : Nat) : Nat := Toward.even.cut false (top a) 29
def rg (a : Nat) : Nat := if a = 0 then 0 else (a.log2 + 110) * 2 ^ 23 + kp a
def G (q : Int) : Nat := single.word (decide (q < 0)) (rg q.natAbs)
theorem cut_sign (s : Bool) (n d : Nat) : Toward.even.cut s n d = Toward.even.cut false n d := rfl
theorem kp_eq {a : Nat} (ha : a ≠ 0) (h : a < 2 ^ 53) : kp a = top a / 2 ^ 29 + (decide (2 ^ 29 < 2 * (top a % 2 ^ 29)) || (2 ^ 29 == 2 * (top a % 2 ^ 29) && top a / 2 ^ 29 % 2 == 1)).toNat := by
  unfold kp Toward.cut
  have htl : (top a).log2 = 52 := by have := log2_le ha h; unfold top; rw [log2_shift ha]; omega
  rw [htl]
  have : (1 : Nat) <<< min 29 (52 + 2) = 2 ^ 29 := by decide
  rw [this]
theorem kp_lo {a : Nat} (ha : a ≠ 0) (h : a < 2 ^ 53) : 2 ^ 23 ≤ kp a := by
  rw [kp_eq ha h]
  have := top_lo ha h
  omega
theorem kp_hi {a : Nat} (ha : a ≠ 0) (h : a < 2 ^ 53) : kp a ≤ 2 ^ 24 := by
  rw [kp_eq ha h]
  have := top_hi ha h
  have h2 : ∀ b : Bool, b.toNat ≤ 1 := by intro b; cases b <;> decide
  have := h2 (decide (2 ^ 29 < 2 * (top a % 2 ^ 29)) || (2 ^ 29 == 2 * (top a % 2 ^ 29) && top a / 2 ^ 29 % 2 == 1))
  omega
theorem more_mono {D x y L : Nat} (h : x ≤ y) (hb : (decide (D < 2 * x) || (D == 2 * x && L % 2 == 1)) = true) : (decide (D < 2 * y) || (D == 2 * y && L % 2 == 1)) = true := by
  simp only [Bool.or_eq_true, decide_eq_true_eq, Bool.and_eq_true, beq_iff_eq] at hb ⊢
  omega
theorem le1 (b : Bool) : b.toNat ≤ 1 := by cases b <;> decide
theorem cut_monoD {D x y : Nat} (hD : 0 < D) (h : x ≤ y) : x / D + (decide (D < 2 * (x % D)) || (D == 2 * (x % D) && x / D % 2 == 1)).toNat ≤ y / D + (decide (D < 2 * (y % D)) || (D == 2 * (y % D) && y / D % 2 == 1)).toNat := by
  rcases Nat.lt_or_ge (x / D) (y / D) with hlt | hge
  · have := le1 (decide (D < 2 * (x % D)) || (D == 2 * (x % D) && x / D % 2 == 1))
    omega
  · have he : x / D = y / D := Nat.le_antisymm (Nat.div_le_div_right h) hge
    have h1 := Nat.div_add_mod x D
    have h2 := Nat.div_add_mod y D
    rw [he] at h1
    have hr : x % D ≤ y % D := by omega
    rw [he]
    refine Nat.add_le_add_left ?_ _
    cases hb : (decide (D < 2 * (x % D)) || (D == 2 * (x % D) && y / D % 2 == 1)) with
    | false => exact Nat.zero_le _
    | true =>
      rw [more_mono hr hb]
      exact Nat.le_refl _
theorem cut_mono {x y : Nat} (h : x ≤ y) : x / 2 ^ 29 + (decide (2 ^ 29 < 2 * (x % 2 ^ 29)) || (2 ^ 29 == 2 * (x % 2 ^ 29) && x / 2 ^ 29 % 2 == 1)).toNat ≤ y / 2 ^ 29 + (decide (2 ^ 29 < 2 * (y % 2 ^ 29)) || (2 ^ 29 == 2 * (y % 2 ^ 29) && y / 2 ^ 29 % 2 == 1)).toNat :=
  cut_monoD (Nat.pow_pos (by decide)) h
theorem step_le {X Y k1 k2 Q : Nat} (h3 : (X + 1) * Q ≤ Y * Q) (h1 : k1 ≤ 2 * Q) (h2 : Q ≤ k2) : X * Q + k1 ≤ Y * Q + k2 := by
  rw [Nat.succ_mul] at h3
  omega
theorem rg_mono {a b : Nat} (h : a ≤ b) (hb : b < 2 ^ 53) : rg a ≤ rg b := by
  by_cases ha0 : a = 0
  · subst ha0; exact Nat.zero_le _
  · have hb0 : b ≠ 0 := by omega
    unfold rg
    rw [if_neg ha0, if_neg hb0]
    have ha : a < 2 ^ 53 := by omega
    have hl : a.log2 ≤ b.log2 := (Nat.le_log2 hb0).2 (Nat.le_trans (Nat.log2_self_le ha0) h)
    rcases Nat.lt_or_eq_of_le hl with hlt | heq
    · have h1 := kp_hi ha0 ha
      have h2 := kp_lo hb0 hb
      have h3 := Nat.mul_le_mul_right (2 ^ 23) (show a.log2 + 110 + 1 ≤ b.log2 + 110 by omega)
      exact step_le h3 (show kp a ≤ 2 * 2 ^ 23 from h1) h2
    · rw [heq]
      refine Nat.add_le_add_left ?_ _
      rw [kp_eq ha0 ha, kp_eq hb0 hb]
      refine cut_mono ?_
      unfold top
      rw [heq]
      exact Nat.mul_le_mul_right _ h
theorem rg_pos {a : Nat} (ha : a ≠ 0) (h : a < 2 ^ 53) : 2 ^ 23 ≤ rg a := by
  unfold rg
  rw [if_neg ha]
  exact Nat.le_trans (kp_lo ha h) (Nat.le_add_left _ _)
theorem rg_lt {a : Nat} (h : a < 2 ^ 53) : rg a < 200 * 2 ^ 23 := by
  unfold rg
  by_cases ha : a = 0
  · rw [if_pos ha]; decide
  · rw [if_neg ha]
    have h1 := kp_hi ha h
    have h2 := log2_le ha h
    have h3 := Nat.mul_le_mul_right (2 ^ 23) (show a.log2 + 110 + 1 ≤ 163 by omega)
    have h4 := step_le (k2 := 2 ^ 23) h3 (show kp a ≤ 2 * 2 ^ 23 from h1) (Nat.le_refl _)
    refine Nat.lt_of_le_of_lt h4 (by decide)
end Go.Fl
namespace Go.Fl
open Ieee
def mr (r : Nat) : Nat := if r < 8388608 then r else 8388608 + r % 8388608
def pr (r : Nat) : Nat := if r < 8388608 then 0 else r / 8388608 - 1
def V (r : Nat) : Nat := mr r * 2 ^ pr r
theorem V_succ (r : Nat) : V r < V (r + 1) := by
  unfold V mr pr
  rcases Nat.lt_or_ge r 8388608 with h | h
  · rw [if_pos h, if_pos h, Nat.pow_zero, Nat.mul_one]
    rcases Nat.lt_or_ge (r + 1) 8388608 with h2 | h2
    · rw [if_pos h2, if_pos h2, Nat.pow_zero, Nat.mul_one]; omega
    · rw [if_neg (by omega), if_neg (by omega)]
      have e1 : (r + 1) % 8388608 = 0 := by omega
      have e2 : (r + 1) / 8388608 - 1 = 0 := by omega
      rw [e1, e2, Nat.pow_zero]; omega
  · rw [if_neg (by omega), if_neg (by omega), if_neg (by omega), if_neg (by omega)]
    rcases Nat.lt_or_ge (r % 8388608 + 1) 8388608 with h2 | h2
    · have e1 : (r + 1) / 8388608 = r / 8388608 := by omega
      have e2 : (r + 1) % 8388608 = r % 8388608 + 1 := by omega
      rw [e1, e2]
      exact Nat.mul_lt_mul_of_pos_right (by omega) (Nat.pow_pos (by decide))
    · have e1 : (r + 1) / 8388608 - 1 = r / 8388608 - 1 + 1 := by omega
      have e2 : (r + 1) % 8388608 = 0 := by omega
      have e3 : r % 8388608 = 8388607 := by omega
      rw [e1, e2, e3, Nat.pow_succ]
      have hp : 0 < 2 ^ (r / 8388608 - 1) := Nat.pow_pos (by decide)
      generalize 2 ^ (r / 8388608 - 1) = y at hp
      omega
theorem V_mono {a b : Nat} (h : a < b) : V a < V b := by
  induction b with
  | zero => omega
  | succ b ih =>
    rcases Nat.lt_or_eq_of_le (Nat.lt_succ_iff.1 h) with h1 | h1
    · exact Nat.lt_trans (ih h1) (V_succ b)
    · subst h1; exact V_succ a
theorem V_zero : V 0 = 0 := rfl
def sgn (s : Bool) (x : Nat) : Int := if s then -(x : Int) else x
theorem sgn_cmp (s t : Bool) (a b : Nat) : compare (sgn s (V a)) (sgn t (V b)) = compare (sgn s a) (sgn t b) := by
  have key : ∀ {s t : Bool} {a b : Nat}, sgn s a < sgn t b → sgn s (V a) < sgn t (V b) := by
    intro s t a b h
    have p0 : ∀ x, 0 < x → 0 < V x := fun x hx => by have := V_mono hx; rw [V_zero] at this; exact this
    have pa := p0 a
    have pb := p0 b
    unfold sgn at h ⊢
    cases s <;> cases t
    · simp only [Bool.false_eq_true, if_false] at h ⊢
      have := V_mono (show a < b by omega)
      omega
    · simp only [Bool.false_eq_true, if_false, if_true] at h ⊢
      omega
    · simp only [Bool.false_eq_true, if_false, if_true] at h ⊢
      rcases Nat.eq_zero_or_pos a with ha | ha
      · subst ha; rw [V_zero]; have := pb (by omega); omega
      · have := pa ha; omega
    · simp only [if_true] at h ⊢
      have := V_mono (show b < a by omega)
      omega
  have keq : sgn s a = sgn t b → sgn s (V a) = sgn t (V b) := by
    intro h
    unfold sgn at h ⊢
    cases s <;> cases t
    · simp only [Bool.false_eq_true, if_false] at h ⊢
      have : a = b := by omega
      rw [this]
    · simp only [Bool.false_eq_true, if_false, if_true] at h ⊢
      have h1 : a = 0 := by omega
      have h2 : b = 0 := by omega
      rw [h1, h2]; rfl
    · simp only [Bool.false_eq_true, if_false, if_true] at h ⊢
      have h1 : a = 0 := by omega
      have h2 : b = 0 := by omega
      rw [h1, h2]; rfl
    · simp only [if_true] at h ⊢
      have : a = b := by omega
      rw [this]
  rcases Int.lt_trichotomy (sgn s a) (sgn t b) with h | h | h
  · rw [Int.compare_eq_lt.2 h, Int.compare_eq_lt.2 (key h)]
  · rw [Int.compare_eq_eq.2 h, Int.compare_eq_eq.2 (keq h)]
  · rw [Int.compare_eq_gt.2 h, Int.compare_eq_gt.2 (key h)]
theorem read32 (s : Bool) (r : Nat) (h : r < 255 * 8388608) : single.read (single.word s r) = .number s (mr r) (-149 + (pr r : Int)) := by
  have hsw : single.signWeight = 2147483648 := by decide
  have hb : single.binade = 8388608 := by decide
  have hi : single.infRung = 255 * 8388608 := by decide
  have hleast : single.leastPlace = -149 := by decide
  have hs1 : single.word s r / 2147483648 % 2 = s.toNat := by
    unfold Format.word
    cases s
    · simp only [Bool.false_eq_true, if_false, Bool.toNat_false]; omega
    · simp only [if_true, Bool.toNat_true, hsw]; omega
  have hs2 : single.word s r % 2147483648 = r := by
    unfold Format.word
    cases s
    · simp only [Bool.false_eq_true, if_false]; omega
    · simp only [if_true, hsw]; omega
  have hneg : (s.toNat == 1) = s := by cases s <;> rfl
  unfold Format.read mr pr
  simp only [hsw, hs1, hs2, hb, hi, hleast, hneg]
  rcases Nat.lt_or_ge r 8388608 with h1 | h1
  · rw [if_pos h1, if_pos h1, if_pos h1]; simp
  · rw [if_neg (by omega), if_pos h, if_neg (by omega), if_neg (by omega)]
theorem signed_sgn (s : Bool) (m k : Nat) : signed s m k = sgn s (m * 2 ^ k) := by unfold signed sgn; rw [Nat.shiftLeft_eq]
theorem sgn_mul (s : Bool) (m T : Nat) : sgn s m * 2 ^ T = sgn s (m * 2 ^ T) := by
  unfold sgn
  cases s
  · simp
  · simp [Int.neg_mul]
theorem order32 (s t : Bool) (a b : Nat) (ha : a < 255 * 8388608) (hb : b < 255 * 8388608) : single.order (single.word s a) (single.word t b) = some (compare (sgn s a) (sgn t b)) := by
  unfold Format.order
  rw [read32 s a ha, read32 t b hb]
  unfold Datum.order
  simp only
  rw [signed_sgn, signed_sgn]
  rw [← cmp_mul _ _ (min (pr a) (pr b)), sgn_mul, sgn_mul, Nat.mul_assoc, Nat.mul_assoc, ← Nat.pow_add, ← Nat.pow_add]
  have e1 : (-149 + (pr a : Int) - min (-149 + (pr a : Int)) (-149 + (pr b : Int))).toNat + min (pr a) (pr b) = pr a := by omega
  have e2 : (-149 + (pr b : Int) - min (-149 + (pr a : Int)) (-149 + (pr b : Int))).toNat + min (pr a) (pr b) = pr b := by omega
  rw [e1, e2]
  exact congrArg some (sgn_cmp s t a b)
/-- The signed rung of a coordinate. -/
def sr (q : Int) : Int := sgn (decide (q < 0)) (rg q.natAbs)
theorem sr_mono {a b : Int} (ha : a.natAbs < 2 ^ 53) (hb : b.natAbs < 2 ^ 53) (h : a ≤ b) : sr a ≤ sr b := by
  unfold sr sgn
  by_cases h1 : a < 0 <;> by_cases h2 : b < 0
  · rw [decide_eq_true h1, decide_eq_true h2, if_pos rfl, if_pos rfl]
    have := rg_mono (show b.natAbs ≤ a.natAbs by omega) ha
    omega
  · rw [decide_eq_true h1, decide_eq_false h2, if_pos rfl, if_neg (by decide)]; omega
  · omega
  · rw [decide_eq_false h1, decide_eq_false h2, if_neg (by decide), if_neg (by decide)]
    have := rg_mono (show a.natAbs ≤ b.natAbs by omega) hb
    omega
theorem G_eq {a b : Int} (ha : a.natAbs < 2 ^ 53) (hb : b.natAbs < 2 ^ 53) (h : sr a = sr b) : G a = G b := by
  have p : ∀ x : Int, x.natAbs < 2 ^ 53 → x < 0 → 0 < rg x.natAbs := fun x hx hn => Nat.lt_of_lt_of_le (by decide) (rg_pos (by omega) hx)
  have pa := p a ha
  have pb := p b hb
  unfold sr sgn at h
  unfold G
  by_cases h1 : a < 0 <;> by_cases h2 : b < 0
  · rw [decide_eq_true h1, decide_eq_true h2, if_pos rfl, if_pos rfl] at h
    rw [decide_eq_true h1, decide_eq_true h2]
    have : rg a.natAbs = rg b.natAbs := by omega
    rw [this]
  · rw [decide_eq_true h1, decide_eq_false h2, if_pos rfl, if_neg (by decide)] at h
    have := pa h1; omega
  · rw [decide_eq_false h1, decide_eq_true h2, if_neg (by decide), if_pos rfl] at h
    have := pb h2; omega
  · rw [decide_eq_false h1, decide_eq_false h2, if_neg (by decide), if_neg (by decide)] at h
    rw [decide_eq_false h1, decide_eq_false h2]
    have : rg a.natAbs = rg b.natAbs := by omega
    rw [this]
theorem rg_lt' {a : Nat} (h : a < 2 ^ 53) : rg a < 255 * 8388608 := Nat.lt_of_lt_of_le (rg_lt h) (by decide)
theorem order_G {a b : Int} (ha : a.natAbs < 2 ^ 53) (hb : b.natAbs < 2 ^ 53) : single.order (G a) (G b) = some (compare (sr a) (sr b)) := order32 _ _ _ _ (rg_lt' ha) (rg_lt' hb)
theorem nearest32 (s : Bool) (q : Int) (h : q.natAbs < 2 ^ 53) (hs : q = 0 → s = false) (hs2 : q ≠ 0 → s = decide (q < 0)) : single.write (.number s (mg q) (pl q)) = G q := by
  show single.nearest s (mg q) (pl q) = G q
  by_cases h0 : q = 0
  · rw [hs h0]; subst h0; decide
  · have hm : q.natAbs ≠ 0 := by omega
    have hl := log2_le hm h
    have hmg : mg q = top q.natAbs := by unfold mg; rw [if_neg h0]
    have hpl : pl q = -68 + q.natAbs.log2 := by unfold pl; rw [if_neg h0]
    have htl : (top q.natAbs).log2 = 52 := by unfold top; rw [log2_shift hm]; omega
    have htn : top q.natAbs ≠ 0 := Nat.pos_iff_ne_zero.1 (Nat.lt_of_lt_of_le (by decide) (top_lo hm h))
    unfold Format.nearest
    rw [hmg, if_neg htn, hpl, htl, hs2 h0]
    have hlast : max (-68 + (q.natAbs.log2 : Int) + ((52 : Nat) : Int) - (single.fractionBits : Nat)) single.leastPlace = q.natAbs.log2 - 39 := by
      show max (-68 + (q.natAbs.log2 : Int) + ((52 : Nat) : Int) - ((23 : Nat) : Int)) (2 - 2 ^ (8 - 1) - ((23 : Nat) : Int)) = _
      omega
    have hleast : single.leastPlace = -149 := by decide
    dsimp only
    rw [hlast, hleast]
    have e1 : (-68 + (q.natAbs.log2 : Int) - (q.natAbs.log2 - 39)).toNat = 0 := by omega
    have e2 : ((q.natAbs.log2 : Int) - 39 - (-68 + q.natAbs.log2)).toNat = 29 := by omega
    have e3 : ((q.natAbs.log2 : Int) - 39 - -149).toNat = q.natAbs.log2 + 110 := by omega
    rw [e1, e2, e3, Nat.shiftLeft_zero, cut_sign]
    have hb : single.binade = 2 ^ 23 := by decide
    have hi : single.infRung = 255 * 8388608 := by decide
    rw [hb, hi]
    have hr : (q.natAbs.log2 + 110) * 2 ^ 23 + Toward.even.cut false (top q.natAbs) 29 = rg q.natAbs := by unfold rg; rw [if_neg hm]; rfl
    rw [hr, Nat.min_eq_left (Nat.le_of_lt (rg_lt' h))]
    rfl
theorem conv_F {q : Int} (h : q.natAbs < 2 ^ 53) : floatToFloatBits .f64 (F q) .f32 = some (G q) := by
  unfold floatToFloatBits
  rw [if_neg (by decide)]
  show (match double.read (F q) with | .nan _ _ => none | .infinity s => some (FloatKind.f32.encode (.infinity s)) | .number s m e => if (FloatKind.f32.decode (FloatKind.f32.encode (.number s m e))).isInfinity then none else some (FloatKind.f32.encode (.number s m e))) = _
  rw [read_F q h]
  simp only
  have e : FloatKind.f32.encode (.number (decide (q < 0)) (mg q) (pl q)) = G q := nearest32 _ q h (by intro h0; subst h0; rfl) (fun _ => rfl)
  rw [e]
  have e2 : FloatKind.f32.decode (G q) = .number (decide (q < 0)) (mr (rg q.natAbs)) (-149 + (pr (rg q.natAbs) : Int)) := read32 _ _ (rg_lt' h)
  rw [e2]
  rfl
end Go.Fl
namespace Go.Eng
open Go Go.Fl
section
variable {P : Program} {n : Nat} {D : List Deferred} {w0 : World} {S : List Nat} {L : Slots} {H : Heap}
variable {d : Option Tmp} {ty : TypeId} {pos : String} {af : Array Edge} {gd : Option (Nat × Bool)}
/-- A binary operation on words of one kind. -/
theorem y_farith {op : BinOp} {t u : TypeId} {x y : Operand} {k : FloatKind} {i j r : Nat} (hx : ev L x = some (.float k i)) (hy : ev L y = some (.float k j)) (h : floatBits op k i j = some r) :
    Yields P n D w0 S ⟨d, .binOp op t x y u, ty, pos, af, gd⟩ L H (.float k r) := by
  intro a w ha hw
  unfold floatBits at h
  cases op <;> simp only at h <;> first | (cases h; done) | skip
  all_goals simp [execOp, ha.ev_eq hx, ha.ev_eq hy, eqGuard, binOp, Op.floatArith, h]
theorem y_fadd {t u : TypeId} {x y : Operand} {a b : Int} {j : Nat} (hx : ev L x = some (.float .f64 (F a))) (hy : ev L y = some (.float .f64 j)) (ha : a.natAbs < 2 ^ 53) (hj : RF j b) (hab : (a + b).natAbs < 2 ^ 53) :
    Yields P n D w0 S ⟨d, .binOp .add t x y u, ty, pos, af, gd⟩ L H (.float .f64 (F (a + b))) := y_farith hx hy (add_RF ha hj hab)
def cmpB (op : BinOp) (c : Ordering) : Option Bool :=
  match op with
  | .eql => some (c == .eq)
  | .neq => some (c != .eq)
  | .lss => some (c == .lt)
  | .leq => some (c == .lt || c == .eq)
  | .gtr => some (c == .gt)
  | .geq => some (c == .gt || c == .eq)
  | _ => none
theorem y_fcmp {op : BinOp} {t u : TypeId} {x y : Operand} {k : FloatKind} {i j : Nat} {c : Ordering} {b : Bool} (hx : ev L x = some (.float k i)) (hy : ev L y = some (.float k j)) (hc : k.format.order i j = some c) (hb : cmpB op c = some b) :
    Yields P n D w0 S ⟨d, .binOp op t x y u, ty, pos, af, gd⟩ L H (.bool b) := by
  intro a w ha hw
  unfold cmpB at hb
  cases op <;> simp only [Option.some.injEq, reduceCtorEq] at hb <;> subst hb <;> simp [execOp, ha.ev_eq hx, ha.ev_eq hy, eqGuard, binOp, Op.floatCmp, hc] <;> rfl
theorem y_fneg {t : TypeId} {x : Operand} {i : Nat} (hx : ev L x = some (.float .f64 i)) : Yields P n D w0 S ⟨d, .unOp .neg t x, ty, pos, af, gd⟩ L H (.float .f64 (i ^^^ 2 ^ 63)) := by
  intro a w ha hw
  simp [execOp, ha.ev_eq hx, Op.unary, Op.negFloat]
  rfl
/-- What a conversion makes: of a whole number a word; of a word a whole number; of a word a word. -/
def cvF (P : Program) (s t : TypeId) : Option FloatKind :=
  match P.underlying s with
  | some _ => match P.underlying t with
    | some (.float k) => some k
    | _ => none
  | none => none
theorem y_convIF {s t : TypeId} {x : Operand} {k : IntKind} {i : Int} (hk : cvF P s t = some .f64) (hx : ev L x = some (.int k i)) (hi : i.natAbs < 2 ^ 37) :
    Yields P n D w0 S ⟨d, .convert s t x, ty, pos, af, gd⟩ L H (.float .f64 (F (i * 65536))) := by
  intro a w ha hw
  unfold cvF at hk
  split at hk
  · rename_i u hu
    split at hk
    · rename_i k2 hk2
      injection hk with hk
      subst hk
      have hr : (convert s t (.int k i)).run P w = .ok (.float .f64 (F (i * 65536))) w := by
        rw [← nearest_int i hi]
        cases u <;> simp [convert, run_underlying hu, run_underlying hk2, Conv.intToFloat, FloatKind.nearest, FloatKind.encode, FloatKind.format]
      simp [execOp, ha.ev_eq hx, hr]
    · cases hk
  · cases hk
theorem y_convFF {s t : TypeId} {x : Operand} {q : Int} (hk : cvF P s t = some .f32) (hx : ev L x = some (.float .f64 (F q))) (hq : q.natAbs < 2 ^ 53) :
    Yields P n D w0 S ⟨d, .convert s t x, ty, pos, af, gd⟩ L H (.float .f32 (G q)) := by
  intro a w ha hw
  unfold cvF at hk
  split at hk
  · rename_i u hu
    split at hk
    · rename_i k2 hk2
      injection hk with hk
      subst hk
      have hr := run_convert_float_float (P := P) w s t .f64 .f32 (F q) (G q) (by rw [hu]; rfl) hk2 (conv_F hq)
      simp [execOp, ha.ev_eq hx, hr]
    · cases hk
  · cases hk
theorem y_convFI {s t : TypeId} {x : Operand} {k : IntKind} {i : Nat} {q : Int} (hk : cvK P s t = some k) (hx : ev L x = some (.float .f64 i)) (hi : RF i q) (h1 : k.min ≤ q.tdiv 65536) (h2 : q.tdiv 65536 ≤ k.max) :
    Yields P n D w0 S ⟨d, .convert s t x, ty, pos, af, gd⟩ L H (.int k (q.tdiv 65536)) := by
  intro a w ha hw
  unfold cvK at hk
  split at hk
  · rename_i u hu
    split at hk
    · rename_i k2 hk2
      injection hk with hk
      subst hk
      have hf : floatToIntVal .f64 i k2 = some (q.tdiv 65536) := by
        unfold floatToIntVal
        have : (FloatKind.f64.decode i).toInt .zero = some (q.tdiv 65536) := toInt_F q hi.1 hi
        rw [this]
        simp only
        rw [if_pos ⟨h1, h2⟩]
      have hr := run_convert_float_int (P := P) w s t .f64 k2 i (q.tdiv 65536) (by rw [hu]; rfl) hk2 hf
      simp [execOp, ha.ev_eq hx, hr]
    · cases hk
  · cases hk
/-- A value made an interface's. -/
def niT (P : Program) (t : TypeId) : Bool := match P.underlying t with | some (.interface _) => false | some _ => true | none => false
theorem y_iface {t : TypeId} {x : Operand} {v : Value} (ht : niT P t = true) (hx : ev L x = some v) : Yields P n D w0 S ⟨d, .makeInterface t x, ty, pos, af, gd⟩ L H (.iface t v) := by
  intro a w ha hw
  unfold niT at ht
  split at ht
  · cases ht
  · rename_i u hne hu
    cases u <;> first | exact absurd rfl (hne _) | simp [execOp, ha.ev_eq hx, Instr.makeInterface, run_underlying hu]
  · cases ht
theorem run_panic_iface (t : TypeId) (v : Value) (w : World) : (Instr.panic (.iface t v)).run P w = .halt (.panic (.iface t v)) w := by simp [Instr.panic, goPanic]
end
end Go.Eng
namespace Go.Eng
open Go
section
variable {P : Program} {Q : Exit → Act → World → Prop} {n : Nat} {D : List Deferred} {w0 : World} {S : List Nat} {L : Slots} {H : Heap}
def Rl (P : Program) (c : Code) (Q : Exit → Act → World → Prop) (a : Act) (w : World) : Prop := ∀ b k cs, ∃ e a' w', Q e a' w' ∧ Arrives P (lone (b.at a (.code c :: .inLoop c :: k)) cs w) b k cs e a' w'
def WL (P : Program) (Q : Exit → Act → World → Prop) (n : Nat) (D : List Deferred) (w0 : World) (S : List Nat) (c : Code) (L : Slots) (H : Heap) : Prop := ∀ a w, Env n D L a → Hp w0 S H w → Rl P c Q a w
theorem c_loopU {c : Code} (h : WL P Q n D w0 S c L H) : Wc P Q n D w0 S (.loop c) L H := by
  intro a w ha hw b k cs
  obtain ⟨e, a', w', hq, harr⟩ := h a w ha hw b k cs
  exact ⟨e, a', w', hq, .of_steps (.one step_loop) harr⟩
theorem c_unroll {c : Code} (h : Wc P (Exit.then (Rl P c Q) Q) n D w0 S c L H) : WL P Q n D w0 S c L H := by
  intro a w ha hw b k cs
  obtain ⟨e, a₁, w₁, hq, harr⟩ := h a w ha hw b (.inLoop c :: k) cs
  cases e with
  | normal =>
    obtain ⟨e₂, a₂, w₂, hq₂, harr₂⟩ := hq b k cs
    exact ⟨e₂, a₂, w₂, hq₂, .of_steps (Steps.trans harr (.one step_inLoop)) harr₂⟩
  | exit id => exact ⟨_, a₁, w₁, hq, .pass (x := .inLoop c) rfl (fun _ _ => .inl (by simp)) harr⟩
  | goto l => exact ⟨_, a₁, w₁, hq, .pass (x := .inLoop c) rfl (fun _ _ => .inl (by simp)) harr⟩
  | ret => exact ⟨_, a₁, w₁, hq, .pass (x := .inLoop c) rfl (fun _ _ => .inl (by simp)) harr⟩
  | panic ch => exact ⟨_, a₁, w₁, hq, .pass (x := .inLoop c) rfl (fun _ _ => .inl (by simp)) harr⟩
  | outgrown => exact ⟨_, a₁, w₁, hq, .pass (x := .inLoop c) rfl (fun _ _ => .inl (by simp)) harr⟩
theorem q_unroll {c : Code} (h : WL P Q n D w0 S c L H) : Wq (Exit.then (Rl P c Q) Q) n D w0 S .normal L H := h
variable {d : Option Tmp} {ty : TypeId} {pos : String} {af : Array Edge} {gd : Option (Nat × Bool)}
/-- An array's length and how many cells an element has. -/
def arrE (P : Program) (t : TypeId) : Option (Nat × Nat) :=
  match P.underlying t with
  | some (.array m e) => (P.info? e).map fun i => (m, i.size)
  | _ => none
theorem run_indexArr {t m sz : Nat} (h : arrE P t = some (m, sz)) {p : Addr} {k : IntKind} {i : Int} (h0 : 0 ≤ i) (h1 : i < m) (w : World) :
    (Instr.indexAt t (.pointer (some p)) (.int k i)).run P w = .ok (.pointer (some (p.add (i.toNat * sz)))) w := by
  unfold arrE at h
  split at h
  · rename_i m' e hu
    cases hi : P.info? e with
    | none => rw [hi] at h; cases h
    | some inf =>
      rw [hi] at h
      simp at h
      obtain ⟨rfl, rfl⟩ := h
      simp [Instr.indexAt, asIntOf, run_underlying hu, h0, h1, sizeOf, typeInfo, hi, Instr.sureAddr]
  · cases h
theorem y_indexArr {t m sz : Nat} {x i : Operand} {g o : Nat} {k : IntKind} {j : Nat} (h : arrE P t = some (m, sz)) (hx : ev L x = some (.pointer (some ⟨g, o, none⟩))) (hi : ev L i = some (.int k (j : Int))) (hj : Nat.blt j m = true) :
    Yields P n D w0 S ⟨d, .indexAddr t x i, ty, pos, af, gd⟩ L H (.pointer (some ⟨g, o + j * sz, none⟩)) := by
  intro a w ha hw
  have hj' : j < m := Nat.le_of_ble_eq_true hj
  have := run_indexArr h (p := ⟨g, o, none⟩) (i := (j : Int)) (k := k) (by omega) (by omega) w
  simp only [Int.toNat_natCast, Addr.add_lit] at this
  simp [execOp, ha.ev_eq hx, ha.ev_eq hi, this]
/-- The places of an array's elements, and its zero. -/
def aPlan (P : Program) (t : TypeId) : Option (List Value × List (Nat × Nat)) :=
  match P.underlying t with
  | some (.array m e) => (zeroC P t).bind fun zs => (P.info? e).map fun i => (zs, (List.range m).map fun k => (k * i.size, i.size))
  | _ => none
theorem fill_congr (f g : Nat → Option (Nat × Nat)) : ∀ (parts : List (Nat × Value)) (cs : Array Value), (∀ p ∈ parts, f p.1 = g p.1) → Instr.fill f cs parts = Instr.fill g cs parts := by
  intro parts
  induction parts with
  | nil => intro cs _; rfl
  | cons p r ih =>
    intro cs h
    obtain ⟨i, v⟩ := p
    unfold Instr.fill
    have h1 : f i = g i := h (i, v) (by simp)
    rw [h1]
    cases g i with
    | none => rfl
    | some x =>
      simp only
      split
      · rfl
      · exact ih _ (fun q hq => h q (by simp [hq]))
theorem y_buildArr {t : TypeId} {parts : Array (Nat × Operand)} {zs : List Value} {ps : List (Nat × Nat)} {vs : List (Nat × List Value)} {out : List Value} (hp : aPlan P t = some (zs, ps)) (hin : parts.toList.all (fun p => Nat.blt p.1 ps.length) = true) (hv : evP L parts.toList = some vs) (ho : fillL ps zs vs = some out) :
    Yields P n D w0 S ⟨d, .build t parts, ty, pos, af, gd⟩ L H (.agg out.toArray) := by
  intro a w ha hw
  unfold aPlan at hp
  split at hp
  · rename_i m e hu
    unfold zeroC at hp
    cases hi : P.info? t with
    | none => rw [hi] at hp; simp at hp
    | some inf =>
      rw [hi] at hp
      cases hz : inf.zero with
      | none => simp [hz] at hp
      | some z =>
        simp only [hz, Option.bind_some, Option.map_some] at hp
        cases he : P.info? e with
        | none => rw [he] at hp; simp at hp
        | some ie =>
          rw [he] at hp
          simp only [Option.map_some, Option.some.injEq, Prod.mk.injEq] at hp
          obtain ⟨h1, h2⟩ := hp
          subst h1
          have hfill : Instr.fill (fun i => some (i * ie.size, ie.size)) z.cells (parts.map fun p => (p.1, a.eval p.2)).toList = some out.toArray := by
            have h3 := fill_eq ps.toArray (parts.map fun p => (p.1, a.eval p.2)).toList z.cells.toList out
            simp only [Array.toArray_toList] at h3
            have h4 := h3 (by
              rw [← ho, ← ha.evP_eq _ _ hv]
              simp only [Array.toList_map, List.map_map]
              rfl)
            rw [← h4]
            refine fill_congr _ _ _ _ fun p hpm => ?_
            simp only [Array.toList_map, List.mem_map] at hpm
            obtain ⟨q, hq, rfl⟩ := hpm
            have hlt : q.1 < ps.length := by
              have := List.all_eq_true.1 hin q hq
              exact Nat.le_of_ble_eq_true this
            subst h2
            simp only [List.length_map, List.length_range] at hlt
            simp [hlt]
          simp only [execOp, Instr.build, Sem.run_bind, zeroValue, typeInfo, run_program, hi, hz, Sem.run_pure, Result.andThen_ok, run_underlying hu, sizeOf, he]
          simp only [hfill, Sem.run_pure, Result.andThen_ok]
  · cases hp
/-- An operation whose guard was itself passed over. -/
theorem l_notU {ops : Array Oper} {rest : List Oper} {d : Nat} {op : Op} {ty : TypeId} {pos : String} {af : Array Edge} {j : Nat} {want : Bool} {t : Nat} (hj : (ops[j]?).bind (·.dst) = some t) (hb : get L t = some undef) (hn : Nat.blt d n = true)
    (h : Wl P Q n D w0 S ops rest ((d, undef) :: L) H) : Wl P Q n D w0 S ops (⟨some d, op, ty, pos, af, some (j, want)⟩ :: rest) L H := by
  intro a w ha hw
  have hy : yielded ops a.tmps j = none := by
    unfold yielded
    rw [hj]
    simp [ha.get t _ hb, undef]
  unfold wpList
  rw [if_neg (by simp [Region.wanted, hy])]
  exact h _ _ (ha.put hn _) hw
/-- Two truth values compared. -/
theorem y_eqBool {t u : TypeId} {x y : Operand} {a b : Bool} (ht : P.underlying t = some .bool) (hx : ev L x = some (.bool a)) (hy : ev L y = some (.bool b)) : Yields P n D w0 S ⟨d, .binOp .eql t x y u, ty, pos, af, gd⟩ L H (.bool (a == b)) := by
  intro ac w ha hw
  have h : (Op.equalIn (9999 + 1) t (.bool a) (.bool b)).run P w = .ok (a == b) w := by
    unfold Op.equalIn
    simp [run_underlying ht]
  have h2 : (Op.equal t (.bool a) (.bool b)).run P w = .ok (a == b) w := h
  have h3 : (binOp .eql t (.bool a) (.bool b)).run P w = .ok (.bool (a == b)) w := by
    show (do pure (Value.bool (← Op.equal t (.bool a) (.bool b))) : Sem Value).run P w = _
    simp only [Sem.run_bind, h2, Result.andThen_ok, Sem.run_pure]
  have h4 : (eqGuard .eql t x y (.bool a) (.bool b)).run P w = .ok () w := rfl
  simp only [execOp, ha.ev_eq hx, ha.ev_eq hy]
  simp only [Sem.run_bind, h4, h3, Result.andThen_ok, Sem.run_pure]
/-- A call that may write some blocks; what else there is may be read by it. -/
theorem out_headF {f : Nat} {args : Array Value} {ι : Type} {φ : ι → Prop} {vv : ι → Value} {H1 R : Heap} {H2 : ι → Heap}
    (hc : ∀ w, Hp w0 S (H1 ++ R) w → Hp w (H1.map (·.1)) H1 w → Calls P f args w (Out w (H1.map (·.1)) φ vv H2)) : ∀ w, Hp w0 S (H1 ++ R) w → Calls P f args w (Out w0 S φ vv (fun x => H2 x ++ R)) :=
  fun w hw => out_frame hw (.refl _) (hc w hw hw.self)
end
end Go.Eng
namespace Go.Eng
section
variable {P : Program} {Q Q' : Exit → Act → World → Prop} {n : Nat} {D : List Deferred} {w0 : World} {S : List Nat} {L : Slots} {H Hc : Heap} {ops : Array Oper} {rest : List Oper} {d : Nat} {op : Op} {ty : TypeId} {pos : String} {af : Array Edge} {v : Value} {x : Operand} {y : Code} {id : Nat} {l : List Oper}
theorem lV (hr : Yields P n D w0 S ⟨some d, op, ty, pos, af, none⟩ L H v) (h : Wl P Q n D w0 S ops rest ((d, v) :: L) H) (hn : Nat.blt d n = true := by rfl) : Wl P Q n D w0 S ops (⟨some d, op, ty, pos, af, none⟩ :: rest) L H := l_val hr rfl rfl hn h
theorem lM (hx : ev L x = some v) (h : Wl P Q n D w0 S ops rest ((d, v) :: L) H) (hn : Nat.blt d n = true := by rfl) : Wl P Q n D w0 S ops (⟨some d, .move x, ty, pos, af, none⟩ :: rest) L H := l_val (y_move hx) rfl rfl hn h
theorem lA (hx : ev L x = some v) (h : Wl P Q n D w0 S ops rest ((d, v) :: L) H) (hn : Nat.blt d n = true := by rfl) : Wl P Q n D w0 S ops (⟨some d, .assign x, ty, pos, af, none⟩ :: rest) L H := l_val (y_assign hx) rfl rfl hn h
def dvOk (ops : Array Oper) (listed : Array Bool) (i : Nat) : Bool := Region.noSelect ops && (Region.free .any ops listed i && (Region.ready .any ops listed).contains i)
theorem dV {fuel : Nat} {listed : Array Bool} (i : Nat) (hi : ops[i]? = some ⟨some d, op, ty, pos, af, none⟩) (hy : Yields P n D w0 S ⟨some d, op, ty, pos, af, none⟩ L Hc v) (h : Wd P Q n D w0 S ops Hc fuel (listed.setIfInBounds i true) ((d, v) :: L) H) (hf : dvOk ops listed i = true := by kernel_rfl) (hn : Nat.blt d n = true := by rfl) (hQ : ∀ c a w, Q (.panic c) (a.put (some d) v) w → Q (.panic c) a w := by exact fun _ _ _ h => h) : Wd P Q n D w0 S ops Hc (fuel + 1) listed L H := by
  unfold dvOk at hf
  rw [Bool.and_eq_true, Bool.and_eq_true] at hf
  exact d_val hi hf.1 hf.2.1 hf.2.2 hy rfl (no_guard rfl) hn hQ h
theorem lN {p : Addr} (hx : ev L x = some (.pointer (some p))) (h : Wl P Q n D w0 S ops rest ((d, .pointer (some p)) :: L) H) (hn : Nat.blt d n = true := by rfl) : Wl P Q n D w0 S ops (⟨some d, .nilCheck x, ty, pos, af, none⟩ :: rest) L H := l_val (y_nilCheck hx) rfl rfl hn h
theorem lB {bo : BinOp} {t u : TypeId} {z : Operand} {k : IntKind} {i j : Int} {v' : Value} (hx : ev L x = some (.int k i)) (hy : ev L z = some (.int k j)) (hv : binV bo k i j = some v) (hv' : v = v') (h : Wl P Q n D w0 S ops rest ((d, v') :: L) H) (hn : Nat.blt d n = true := by rfl) : Wl P Q n D w0 S ops (⟨some d, .binOp bo t x z u, ty, pos, af, none⟩ :: rest) L H := l_val (y_bin hx hy hv hv') rfl rfl hn h
theorem dM {fuel : Nat} {listed : Array Bool} (i : Nat) (hi : ops[i]? = some ⟨some d, .move x, ty, pos, af, none⟩) (hx : ev L x = some v) (h : Wd P Q n D w0 S ops Hc fuel (listed.setIfInBounds i true) ((d, v) :: L) H) (hf : dvOk ops listed i = true := by kernel_rfl) (hn : Nat.blt d n = true := by rfl) (hQ : ∀ c a w, Q (.panic c) (a.put (some d) v) w → Q (.panic c) a w := by exact fun _ _ _ h => h) : Wd P Q n D w0 S ops Hc (fuel + 1) listed L H := dV i hi (y_move hx) h hf hn hQ
theorem dN {p : Addr} {fuel : Nat} {listed : Array Bool} (i : Nat) (hi : ops[i]? = some ⟨some d, .nilCheck x, ty, pos, af, none⟩) (hx : ev L x = some (.pointer (some p))) (h : Wd P Q n D w0 S ops Hc fuel (listed.setIfInBounds i true) ((d, .pointer (some p)) :: L) H) (hf : dvOk ops listed i = true := by kernel_rfl) (hn : Nat.blt d n = true := by rfl) (hQ : ∀ c a w, Q (.panic c) (a.put (some d) (.pointer (some p))) w → Q (.panic c) a w := by exact fun _ _ _ h => h) : Wd P Q n D w0 S ops Hc (fuel + 1) listed L H := dV i hi (y_nilCheck hx) h hf hn hQ
theorem cR (h : Wl P (Exit.then (y.wp P Q) Q) n D w0 S l.toArray l L H) : Wc P Q n D w0 S (.seq (.region id l.toArray false) y) L H := c_seq (c_region h)
theorem qR (h : Wl P (Exit.then (y.wp P Q) Q) n D w0 S l.toArray l L H) : Wq (Exit.then ((Code.seq (.region id l.toArray false) y).wp P Q) Q') n D w0 S .normal L H := q_then (c_seq (c_region h))
theorem qG (h : Wl P Q n D w0 S l.toArray l L H) : Wq (Exit.then ((Code.region id l.toArray false).wp P Q) Q') n D w0 S .normal L H := q_then (c_region h)
theorem nQ (h : Wc P Q n D w0 S y L H) : Wl P (Exit.then (y.wp P Q) Q') n D w0 S ops [] L H := l_nil (q_then h)
theorem nR (h : Wl P (Exit.then (y.wp P Q) Q) n D w0 S l.toArray l L H) : Wl P (Exit.then ((Code.seq (.region id l.toArray false) y).wp P Q) Q') n D w0 S ops [] L H := l_nil (q_then (c_seq (c_region h)))
theorem nG (h : Wl P Q n D w0 S l.toArray l L H) : Wl P (Exit.then ((Code.region id l.toArray false).wp P Q) Q') n D w0 S ops [] L H := l_nil (q_then (c_region h))
theorem kQ (h : Wc P Q n D w0 S y L H) : Wc P (Exit.then (y.wp P Q) Q') n D w0 S .skip L H := c_skip (q_then h)
theorem kR (h : Wl P (Exit.then (y.wp P Q) Q) n D w0 S l.toArray l L H) : Wc P (Exit.then ((Code.seq (.region id l.toArray false) y).wp P Q) Q') n D w0 S .skip L H := c_skip (q_then (c_seq (c_region h)))
theorem kG (h : Wl P Q n D w0 S l.toArray l L H) : Wc P (Exit.then ((Code.region id l.toArray false).wp P Q) Q') n D w0 S .skip L H := c_skip (q_then (c_region h))
end
end Go.Eng
namespace Go.Proofs.YtbepljmeflndkaaGreatDoor
open Go.Eng
theorem ap_106 : aPlan Tryz.prog 106 = some ([.float .f64 0, .float .f64 0], [(0, 1), (1, 1)]) := by kernel_rfl
theorem ap_75 : aPlan Tryz.prog 75 = some ([.float .f32 0, .float .f32 0, .float .f32 0, .float .f32 0, .float .f32 0, .float .f32 0], [(0, 2), (2, 2), (4, 2)]) := by kernel_rfl
theorem ar_106 : arrE Tryz.prog 106 = some (2, 1) := by kernel_rfl
theorem ar_32 : arrE Tryz.prog 32 = some (3, 1) := by kernel_rfl
theorem ar_87 : arrE Tryz.prog 87 = some (10, 1) := by kernel_rfl
theorem ar_89 : arrE Tryz.prog 89 = some (513, 1) := by kernel_rfl
theorem bp_34 : bPlan Tryz.prog 34 = some ([.int .i64 0, .float .f32 0, .float .f32 0, .float .f32 0, .float .f32 0, .float .f32 0, .float .f32 0], [(0, 1), (1, 3), (4, 3)]) := by kernel_rfl
theorem bp_38 : bPlan Tryz.prog 38 = some ([], []) := by kernel_rfl
theorem bp_46 : bPlan Tryz.prog 46 = some ([.slice none 0 0, .float .f64 0, .float .f64 0, .bool false, .float .f64 0, .float .f64 0, .slice none 0 0, .slice none 0 0, .slice none 0 0, .int .i64 0, .bool false, .bool false, .bool false, .int .i64 0, .int .i64 0], [(0, 6), (6, 1), (7, 1), (8, 1), (9, 1), (10, 1), (11, 1), (12, 1), (13, 1), (14, 1)]) := by kernel_rfl
theorem bp_50 : bPlan Tryz.prog 50 = some ([.float .f64 0, .float .f64 0], [(0, 1), (1, 1)]) := by kernel_rfl
theorem bp_74 : bPlan Tryz.prog 74 = some ([.float .f32 0, .float .f32 0], [(0, 1), (1, 1)]) := by kernel_rfl
theorem bp_77 : bPlan Tryz.prog 77 = some ([.int .u8 0, .float .f32 0, .float .f32 0, .float .f32 0, .float .f32 0, .float .f32 0, .float .f32 0], [(0, 1), (1, 6)]) := by kernel_rfl
theorem cf_21_41 : cvF Tryz.prog 21 41 = some .f64 := by kernel_rfl
theorem cf_3_41 : cvF Tryz.prog 3 41 = some .f64 := by kernel_rfl
theorem cf_41_28 : cvF Tryz.prog 41 28 = some .f32 := by kernel_rfl
theorem cf_5_41 : cvF Tryz.prog 5 41 = some .f64 := by kernel_rfl
theorem cf_78_41 : cvF Tryz.prog 78 41 = some .f64 := by kernel_rfl
theorem cv_21_3 : cvK Tryz.prog 21 3 = some .i64 := by kernel_rfl
theorem cv_3_78 : cvK Tryz.prog 3 78 = some .i16 := by kernel_rfl
theorem cv_41_21 : cvK Tryz.prog 41 21 = some .i32 := by kernel_rfl
theorem cv_41_3 : cvK Tryz.prog 41 3 = some .i64 := by kernel_rfl
theorem cv_5_21 : cvK Tryz.prog 5 21 = some .i32 := by kernel_rfl
theorem cv_5_3 : cvK Tryz.prog 5 3 = some .i64 := by kernel_rfl
theorem cv_5_71 : cvK Tryz.prog 5 71 = some .u16 := by kernel_rfl
theorem cv_5_80 : cvK Tryz.prog 5 80 = some .u32 := by kernel_rfl
theorem cv_71_78 : cvK Tryz.prog 71 78 = some .i16 := by kernel_rfl
theorem cv_80_21 : cvK Tryz.prog 80 21 = some .i32 := by kernel_rfl
theorem es_118 : elSize Tryz.prog 118 = some 2 := by kernel_rfl
theorem es_22 : elSize Tryz.prog 22 = some 1 := by kernel_rfl
theorem es_23 : elSize Tryz.prog 23 = some 1 := by kernel_rfl
theorem es_44 : elSize Tryz.prog 44 = some 1 := by kernel_rfl
theorem fo_117_0 : fOff Tryz.prog 117 0 = some 0 := by kernel_rfl
theorem fo_117_1 : fOff Tryz.prog 117 1 = some 1 := by kernel_rfl
theorem fo_34_1 : fOff Tryz.prog 34 1 = some 1 := by kernel_rfl
theorem fo_34_2 : fOff Tryz.prog 34 2 = some 4 := by kernel_rfl
theorem fo_43_0 : fOff Tryz.prog 43 0 = some 0 := by kernel_rfl
theorem fo_43_1 : fOff Tryz.prog 43 1 = some 1 := by kernel_rfl
theorem fo_43_2 : fOff Tryz.prog 43 2 = some 2 := by kernel_rfl
theorem fo_43_3 : fOff Tryz.prog 43 3 = some 3 := by kernel_rfl
theorem fo_43_4 : fOff Tryz.prog 43 4 = some 4 := by kernel_rfl
theorem fo_43_5 : fOff Tryz.prog 43 5 = some 5 := by kernel_rfl
theorem fo_46_0 : fOff Tryz.prog 46 0 = some 0 := by kernel_rfl
theorem fo_46_1 : fOff Tryz.prog 46 1 = some 6 := by kernel_rfl
theorem fo_46_2 : fOff Tryz.prog 46 2 = some 7 := by kernel_rfl
theorem fo_46_3 : fOff Tryz.prog 46 3 = some 8 := by kernel_rfl
theorem fo_46_4 : fOff Tryz.prog 46 4 = some 9 := by kernel_rfl
theorem fo_46_5 : fOff Tryz.prog 46 5 = some 10 := by kernel_rfl
theorem fo_46_6 : fOff Tryz.prog 46 6 = some 11 := by kernel_rfl
theorem fo_46_7 : fOff Tryz.prog 46 7 = some 12 := by kernel_rfl
theorem fo_46_8 : fOff Tryz.prog 46 8 = some 13 := by kernel_rfl
theorem fo_46_9 : fOff Tryz.prog 46 9 = some 14 := by kernel_rfl
theorem fo_50_0 : fOff Tryz.prog 50 0 = some 0 := by kernel_rfl
theorem fo_50_1 : fOff Tryz.prog 50 1 = some 1 := by kernel_rfl
theorem fo_52_0 : fOff Tryz.prog 52 0 = some 0 := by kernel_rfl
theorem fo_52_1 : fOff Tryz.prog 52 1 = some 2 := by kernel_rfl
theorem fo_88_0 : fOff Tryz.prog 88 0 = some 0 := by kernel_rfl
theorem fo_88_1 : fOff Tryz.prog 88 1 = some 10 := by kernel_rfl
theorem fo_91_0 : fOff Tryz.prog 91 0 = some 0 := by kernel_rfl
theorem fo_91_1 : fOff Tryz.prog 91 1 = some 513 := by kernel_rfl
theorem fo_95_0 : fOff Tryz.prog 95 0 = some 0 := by kernel_rfl
theorem fo_95_1 : fOff Tryz.prog 95 1 = some 1 := by kernel_rfl
theorem fo_95_2 : fOff Tryz.prog 95 2 = some 2 := by kernel_rfl
theorem fo_95_3 : fOff Tryz.prog 95 3 = some 3 := by kernel_rfl
theorem fo_95_4 : fOff Tryz.prog 95 4 = some 14 := by kernel_rfl
theorem fo_95_6 : fOff Tryz.prog 95 6 = some 592 := by kernel_rfl
theorem fo_97_0 : fOff Tryz.prog 97 0 = some 0 := by kernel_rfl
theorem fo_97_1 : fOff Tryz.prog 97 1 = some 1 := by kernel_rfl
theorem fo_97_2 : fOff Tryz.prog 97 2 = some 5 := by kernel_rfl
theorem fo_97_3 : fOff Tryz.prog 97 3 = some 6 := by kernel_rfl
theorem fo_97_4 : fOff Tryz.prog 97 4 = some 7 := by kernel_rfl
theorem fo_97_5 : fOff Tryz.prog 97 5 = some 8 := by kernel_rfl
theorem fo_97_6 : fOff Tryz.prog 97 6 = some 10 := by kernel_rfl
theorem fo_97_7 : fOff Tryz.prog 97 7 = some 12 := by kernel_rfl
theorem fo_97_8 : fOff Tryz.prog 97 8 = some 13 := by kernel_rfl
theorem fo_97_9 : fOff Tryz.prog 97 9 = some 14 := by kernel_rfl
theorem fo_99_0 : fOff Tryz.prog 99 0 = some 0 := by kernel_rfl
theorem fo_99_1 : fOff Tryz.prog 99 1 = some 15 := by kernel_rfl
theorem fo_99_2 : fOff Tryz.prog 99 2 = some 16 := by kernel_rfl
theorem inf_34 : Tryz.prog.info? 34 = some Tryz.t34 := by kernel_rfl
theorem inf_41 : Tryz.prog.info? 41 = some Tryz.t41 := by kernel_rfl
theorem inf_77 : Tryz.prog.info? 77 = some Tryz.t77 := by kernel_rfl
theorem ld_106 : ldSize Tryz.prog 106 = some (some 2) := by kernel_rfl
theorem ld_121 : ldSize Tryz.prog 121 = some (some 0) := by kernel_rfl
theorem ld_21 : ldSize Tryz.prog 21 = some none := by kernel_rfl
theorem ld_22 : ldSize Tryz.prog 22 = some none := by kernel_rfl
theorem ld_23 : ldSize Tryz.prog 23 = some none := by kernel_rfl
theorem ld_25 : ldSize Tryz.prog 25 = some none := by kernel_rfl
theorem ld_3 : ldSize Tryz.prog 3 = some none := by kernel_rfl
theorem ld_34 : ldSize Tryz.prog 34 = some (some 7) := by kernel_rfl
theorem ld_4 : ldSize Tryz.prog 4 = some none := by kernel_rfl
theorem ld_41 : ldSize Tryz.prog 41 = some none := by kernel_rfl
theorem ld_44 : ldSize Tryz.prog 44 = some none := by kernel_rfl
theorem ld_48 : ldSize Tryz.prog 48 = some none := by kernel_rfl
theorem ld_5 : ldSize Tryz.prog 5 = some none := by kernel_rfl
theorem ld_50 : ldSize Tryz.prog 50 = some (some 2) := by kernel_rfl
theorem ld_74 : ldSize Tryz.prog 74 = some (some 2) := by kernel_rfl
theorem ld_93 : ldSize Tryz.prog 93 = some none := by kernel_rfl
theorem mixed : Tryz.prog.follows .mixedOrders = true := by kernel_rfl
theorem ni_114 : niT Tryz.prog 114 = true := by kernel_rfl
theorem ni_38 : niT Tryz.prog 38 = true := by kernel_rfl
theorem ok_111 : callOk Tryz.prog 111 = true := by kernel_rfl
theorem ok_115 : callOk Tryz.prog 115 = true := by kernel_rfl
theorem ok_116 : callOk Tryz.prog 116 = true := by kernel_rfl
theorem ok_117 : callOk Tryz.prog 117 = true := by kernel_rfl
theorem ok_118 : callOk Tryz.prog 118 = true := by kernel_rfl
theorem ok_119 : callOk Tryz.prog 119 = true := by kernel_rfl
theorem ok_12 : callOk Tryz.prog 12 = true := by kernel_rfl
theorem ok_120 : callOk Tryz.prog 120 = true := by kernel_rfl
theorem ok_121 : callOk Tryz.prog 121 = true := by kernel_rfl
theorem ok_122 : callOk Tryz.prog 122 = true := by kernel_rfl
theorem ok_123 : callOk Tryz.prog 123 = true := by kernel_rfl
theorem ok_124 : callOk Tryz.prog 124 = true := by kernel_rfl
theorem ok_125 : callOk Tryz.prog 125 = true := by kernel_rfl
theorem ok_126 : callOk Tryz.prog 126 = true := by kernel_rfl
theorem ok_127 : callOk Tryz.prog 127 = true := by kernel_rfl
theorem ok_128 : callOk Tryz.prog 128 = true := by kernel_rfl
theorem ok_129 : callOk Tryz.prog 129 = true := by kernel_rfl
theorem ok_13 : callOk Tryz.prog 13 = true := by kernel_rfl
theorem ok_130 : callOk Tryz.prog 130 = true := by kernel_rfl
theorem ok_131 : callOk Tryz.prog 131 = true := by kernel_rfl
theorem ok_132 : callOk Tryz.prog 132 = true := by kernel_rfl
theorem ok_133 : callOk Tryz.prog 133 = true := by kernel_rfl
theorem ok_134 : callOk Tryz.prog 134 = true := by kernel_rfl
theorem ok_135 : callOk Tryz.prog 135 = true := by kernel_rfl
theorem ok_136 : callOk Tryz.prog 136 = true := by kernel_rfl
theorem ok_137 : callOk Tryz.prog 137 = true := by kernel_rfl
theorem ok_138 : callOk Tryz.prog 138 = true := by kernel_rfl
theorem ok_139 : callOk Tryz.prog 139 = true := by kernel_rfl
theorem ok_14 : callOk Tryz.prog 14 = true := by kernel_rfl
theorem ok_140 : callOk Tryz.prog 140 = true := by kernel_rfl
theorem ok_141 : callOk Tryz.prog 141 = true := by kernel_rfl
theorem ok_142 : callOk Tryz.prog 142 = true := by kernel_rfl
theorem ok_143 : callOk Tryz.prog 143 = true := by kernel_rfl
theorem ok_144 : callOk Tryz.prog 144 = true := by kernel_rfl
theorem ok_145 : callOk Tryz.prog 145 = true := by kernel_rfl
theorem ok_146 : callOk Tryz.prog 146 = true := by kernel_rfl
theorem ok_147 : callOk Tryz.prog 147 = true := by kernel_rfl
theorem ok_148 : callOk Tryz.prog 148 = true := by kernel_rfl
theorem ok_149 : callOk Tryz.prog 149 = true := by kernel_rfl
theorem ok_15 : callOk Tryz.prog 15 = true := by kernel_rfl
theorem ok_150 : callOk Tryz.prog 150 = true := by kernel_rfl
theorem ok_151 : callOk Tryz.prog 151 = true := by kernel_rfl
theorem ok_152 : callOk Tryz.prog 152 = true := by kernel_rfl
theorem ok_153 : callOk Tryz.prog 153 = true := by kernel_rfl
theorem ok_154 : callOk Tryz.prog 154 = true := by kernel_rfl
theorem ok_155 : callOk Tryz.prog 155 = true := by kernel_rfl
theorem ok_158 : callOk Tryz.prog 158 = true := by kernel_rfl
theorem ok_16 : callOk Tryz.prog 16 = true := by kernel_rfl
theorem ok_17 : callOk Tryz.prog 17 = true := by kernel_rfl
theorem ok_19 : callOk Tryz.prog 19 = true := by kernel_rfl
theorem ok_20 : callOk Tryz.prog 20 = true := by kernel_rfl
theorem ok_21 : callOk Tryz.prog 21 = true := by kernel_rfl
theorem ok_22 : callOk Tryz.prog 22 = true := by kernel_rfl
theorem ok_23 : callOk Tryz.prog 23 = true := by kernel_rfl
theorem ok_24 : callOk Tryz.prog 24 = true := by kernel_rfl
theorem ok_25 : callOk Tryz.prog 25 = true := by kernel_rfl
theorem ok_26 : callOk Tryz.prog 26 = true := by kernel_rfl
theorem ok_28 : callOk Tryz.prog 28 = true := by kernel_rfl
theorem ok_29 : callOk Tryz.prog 29 = true := by kernel_rfl
theorem ok_30 : callOk Tryz.prog 30 = true := by kernel_rfl
theorem ok_31 : callOk Tryz.prog 31 = true := by kernel_rfl
theorem ok_32 : callOk Tryz.prog 32 = true := by kernel_rfl
theorem ok_34 : callOk Tryz.prog 34 = true := by kernel_rfl
theorem ok_35 : callOk Tryz.prog 35 = true := by kernel_rfl
theorem ok_36 : callOk Tryz.prog 36 = true := by kernel_rfl
theorem ok_9 : callOk Tryz.prog 9 = true := by kernel_rfl
theorem sl_118 : isSl Tryz.prog 118 = some 106 := by kernel_rfl
theorem sl_22 : isSl Tryz.prog 22 = some 5 := by kernel_rfl
theorem sl_23 : isSl Tryz.prog 23 = some 22 := by kernel_rfl
theorem sl_25 : isSl Tryz.prog 25 = some 34 := by kernel_rfl
theorem sl_44 : isSl Tryz.prog 44 = some 41 := by kernel_rfl
theorem sl_48 : isSl Tryz.prog 48 = some 77 := by kernel_rfl
theorem sz_106 : szOf Tryz.prog 106 = some 2 := by kernel_rfl
theorem sz_21 : szOf Tryz.prog 21 = some 1 := by kernel_rfl
theorem sz_22 : szOf Tryz.prog 22 = some 1 := by kernel_rfl
theorem sz_25 : szOf Tryz.prog 25 = some 1 := by kernel_rfl
theorem sz_28 : szOf Tryz.prog 28 = some 1 := by kernel_rfl
theorem sz_3 : szOf Tryz.prog 3 = some 1 := by kernel_rfl
theorem sz_34 : szOf Tryz.prog 34 = some 7 := by kernel_rfl
theorem sz_38 : szOf Tryz.prog 38 = some 0 := by kernel_rfl
theorem sz_4 : szOf Tryz.prog 4 = some 1 := by kernel_rfl
theorem sz_41 : szOf Tryz.prog 41 = some 1 := by kernel_rfl
theorem sz_44 : szOf Tryz.prog 44 = some 1 := by kernel_rfl
theorem sz_48 : szOf Tryz.prog 48 = some 1 := by kernel_rfl
theorem sz_50 : szOf Tryz.prog 50 = some 2 := by kernel_rfl
theorem sz_74 : szOf Tryz.prog 74 = some 2 := by kernel_rfl
theorem sz_77 : szOf Tryz.prog 77 = some 7 := by kernel_rfl
theorem ub_4 : Tryz.prog.underlying 4 = some .bool := by kernel_rfl
theorem ze_106 : zeroC Tryz.prog 106 = some [.float .f64 0, .float .f64 0] := by kernel_rfl
theorem ze_25 : zeroC Tryz.prog 25 = some [.slice none 0 0] := by kernel_rfl
theorem ze_34 : zeroC Tryz.prog 34 = some [.int .i64 0, .float .f32 0, .float .f32 0, .float .f32 0, .float .f32 0, .float .f32 0, .float .f32 0] := by kernel_rfl
theorem ze_38 : zeroC Tryz.prog 38 = some [] := by kernel_rfl
theorem ze_4 : zeroC Tryz.prog 4 = some [.bool false] := by kernel_rfl
theorem ze_41 : zeroC Tryz.prog 41 = some [.float .f64 0] := by kernel_rfl
theorem ze_50 : zeroC Tryz.prog 50 = some [.float .f64 0, .float .f64 0] := by kernel_rfl
theorem ze_74 : zeroC Tryz.prog 74 = some [.float .f32 0, .float .f32 0] := by kernel_rfl
theorem ze_77 : zeroC Tryz.prog 77 = some [.int .u8 0, .float .f32 0, .float .f32 0, .float .f32 0, .float .f32 0, .float .f32 0, .float .f32 0] := by kernel_rfl
end Go.Proofs.YtbepljmeflndkaaGreatDoor
