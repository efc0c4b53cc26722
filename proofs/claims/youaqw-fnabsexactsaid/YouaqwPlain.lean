/-
  THE PLAIN LAW: words of a binary format as a sign and a rung. No program in sight.
-/
import Derived.Laws.BitsAllLaws
import Derived.Laws.FloatBits
namespace Go.Proofs.Youaqw.Plain

/-! ### A sign and a rung -/

/-- What a word of sign 's' and rung 'g' stands for. -/
def datum (f : Ieee.Format) (s : Bool) (g : Nat) : Ieee.Datum :=
  if g < f.binade then .number s g f.leastPlace
  else if g < f.infRung then .number s (f.binade + g % f.binade) (f.leastPlace + (g / f.binade - 1 : Nat))
  else if g = f.infRung then .infinity s
  else .nan s (g - f.infRung)

theorem read_datum (f : Ieee.Format) (w : Nat) : f.read w = datum f (w / f.signWeight % 2 == 1) (w % f.signWeight) := rfl

/-- Not a NaN: a number (nought just at rung 0), or an infinity. -/
theorem datum_shape (f : Ieee.Format) (g : Nat) (h : g ≤ f.infRung) :
    (∃ m i, (∀ s, datum f s g = .number s m i) ∧ (g = 0 → m = 0) ∧ (0 < g → 0 < m)) ∨ (0 < g ∧ ∀ s, datum f s g = .infinity s) := by
  have hb : 0 < f.binade := Nat.two_pow_pos _
  unfold datum
  by_cases h1 : g < f.binade
  · exact Or.inl ⟨g, f.leastPlace, fun s => by simp [h1], fun e => e, fun e => e⟩
  · by_cases h2 : g < f.infRung
    · exact Or.inl ⟨f.binade + g % f.binade, f.leastPlace + (g / f.binade - 1 : Nat), fun s => by rw [if_neg h1, if_pos h2], fun e => by omega, fun e => by omega⟩
    · have h3 : g = f.infRung := by omega
      exact Or.inr ⟨by omega, fun s => by rw [if_neg h1, if_neg h2, if_pos h3]⟩

theorem datum_nan (f : Ieee.Format) (g : Nat) (h : f.infRung < g) (hb : f.binade ≤ f.infRung) (s : Bool) : datum f s g = .nan s (g - f.infRung) := by
  unfold datum
  rw [if_neg (by omega), if_neg (by omega), if_neg (by omega)]

theorem order_nan (f : Ieee.Format) (g : Nat) (h : f.infRung < g) (hb : f.binade ≤ f.infRung) (s : Bool) (d : Ieee.Datum) : (datum f s g).order d = none := by
  rw [datum_nan f g h hb s]
  cases d <;> rfl

/-- A number, or an infinity, is equal to itself. -/
theorem order_self (f : Ieee.Format) (g : Nat) (h : g ≤ f.infRung) (s : Bool) : (datum f s g).order (datum f s g) = some .eq := by
  rcases datum_shape f g h with ⟨m, i, e, _⟩ | ⟨_, e⟩
  · rw [e s]; simp [Ieee.Datum.order]
  · rw [e s]; simp [Ieee.Datum.order]

/-- Of one rung the positive one is at least the negative one. -/
theorem order_pos_neg (f : Ieee.Format) (g : Nat) (h : g ≤ f.infRung) :
    (datum f false g).order (datum f true g) = some .gt ∨ (datum f false g).order (datum f true g) = some .eq := by
  rcases datum_shape f g h with ⟨m, i, e, _⟩ | ⟨_, e⟩
  · rw [e false, e true]
    by_cases hm : m = 0
    · subst hm; right; simp [Ieee.Datum.order, Ieee.signed]
    · left
      have : ¬ (m : Int) < -(m : Int) := by omega
      have h2 : ¬ (m : Int) = -(m : Int) := by omega
      simp [Ieee.Datum.order, Ieee.signed, compare, compareOfLessAndEq, this, h2]
  · left; rw [e false, e true]; rfl

/-- The word 0. -/
theorem datum_zero (f : Ieee.Format) : datum f false 0 = .number false 0 f.leastPlace := by
  have hb : 0 < f.binade := Nat.two_pow_pos _
  unfold datum
  rw [if_pos hb]

theorem order_zero_eq (f : Ieee.Format) (s : Bool) : (datum f s 0).order (datum f false 0) = some .eq := by
  have hb : 0 < f.binade := Nat.two_pow_pos _
  unfold datum
  rw [if_pos hb, if_pos hb]
  cases s <;> simp [Ieee.Datum.order, Ieee.signed]

theorem shift_pos (m k : Nat) (h : 0 < m) : 0 < m <<< k := by
  rw [Nat.shiftLeft_eq]
  exact Nat.mul_pos h (Nat.two_pow_pos _)

theorem cmp_lt (a b : Int) (h : a < b) : compare a b = .lt := by
  simp [compare, compareOfLessAndEq, h]

theorem cmp_gt (a b : Int) (h : b < a) : compare a b = .gt := by
  have h1 : ¬ a < b := by omega
  have h2 : ¬ a = b := by omega
  simp [compare, compareOfLessAndEq, h1, h2]

theorem signed_nought (k : Nat) : Ieee.signed false 0 k = 0 := by simp [Ieee.signed]

theorem order_zero (f : Ieee.Format) (g : Nat) (h : g ≤ f.infRung) (hg : 0 < g) (s : Bool) :
    (datum f s g).order (datum f false 0) = some (if s then .lt else .gt) := by
  rw [datum_zero]
  rcases datum_shape f g h with ⟨m, i, e, _, hm⟩ | ⟨_, e⟩
  · rw [e s]
    have hp := shift_pos m (i - min i f.leastPlace).toNat (hm hg)
    show some (compare (Ieee.signed s m (i - min i f.leastPlace).toNat) (Ieee.signed false 0 (f.leastPlace - min i f.leastPlace).toNat)) = _
    rw [signed_nought]
    generalize (i - min i f.leastPlace).toNat = k at hp
    cases s
    · exact congrArg some (cmp_gt _ _ (show (0 : Int) < ((m <<< k : Nat) : Int) by omega))
    · exact congrArg some (cmp_lt _ _ (show -((m <<< k : Nat) : Int) < 0 by omega))
  · rw [e s]; cases s <;> rfl

/-! ### Words of float64 -/

/-- The sign's weight. -/
def sw : Nat := 9223372036854775808

theorem signWeight_f64 : FloatKind.f64.format.signWeight = sw := by decide +kernel
theorem binade_f64 : FloatKind.f64.format.binade ≤ FloatKind.f64.format.infRung := by decide +kernel
theorem negFloat_f64 (b : Nat) : Op.negFloat .f64 b = b ^^^ sw := by
  show b ^^^ 2 ^ 63 = b ^^^ sw
  rw [show (2 : Nat) ^ 63 = sw by decide +kernel]
theorem sw_pow : sw = 2 ^ 63 := by decide +kernel

/-- The word without its sign. -/
def ab (b : Nat) : Nat := b % sw
/-- The word with the other sign. -/
def ng (b : Nat) : Nat := Op.negFloat .f64 b
/-- Its sign. -/
def sg (b : Nat) : Bool := b / sw % 2 == 1

theorem sw_pos : 0 < sw := by decide +kernel

theorem read_f64 (b : Nat) : FloatKind.f64.format.read b = datum FloatKind.f64.format (sg b) (ab b) := by
  rw [read_datum, signWeight_f64]; rfl

theorem ab_ab (b : Nat) : ab (ab b) = ab b := Nat.mod_mod _ _
theorem sg_ab (b : Nat) : sg (ab b) = false := by
  unfold sg ab
  rw [Nat.div_eq_of_lt (Nat.mod_lt _ sw_pos)]
  rfl
theorem ab_ng (b : Nat) : ab (ng b) = ab b := by
  unfold ab ng
  rw [negFloat_f64, sw_pow, Nat.xor_mod_two_pow, Nat.mod_self, Nat.xor_zero]
theorem xor_one_mod (q : Nat) : (q ^^^ 1) % 2 = (q + 1) % 2 := by
  have e : (q ^^^ 1) % 2 ^ 1 = q % 2 ^ 1 ^^^ 1 % 2 ^ 1 := Nat.xor_mod_two_pow
  rw [show (2 : Nat) ^ 1 = 2 from rfl] at e
  rw [e]
  have h : q % 2 = 0 ∨ q % 2 = 1 := by omega
  rcases h with h | h
  · have h2 : (q + 1) % 2 = 1 := by omega
    rw [h, h2]; rfl
  · have h2 : (q + 1) % 2 = 0 := by omega
    rw [h, h2]; rfl
theorem not_odd (q : Nat) : ((q + 1) % 2 == 1) = !(q % 2 == 1) := by
  have h : q % 2 = 0 ∨ q % 2 = 1 := by omega
  rcases h with h | h
  · have h2 : (q + 1) % 2 = 1 := by omega
    rw [h, h2]; rfl
  · have h2 : (q + 1) % 2 = 0 := by omega
    rw [h, h2]; rfl
theorem sg_ng (b : Nat) : sg (ng b) = !sg b := by
  unfold sg ng
  rw [negFloat_f64, sw_pow, Nat.xor_div_two_pow, Nat.div_self (Nat.two_pow_pos _), xor_one_mod, not_odd]

/-- Is the word a NaN? -/
def nan (b : Nat) : Bool := decide (FloatKind.f64.format.infRung < ab b)

theorem nan_ab (b : Nat) : nan (ab b) = nan b := by unfold nan; rw [ab_ab]
theorem nan_ng (b : Nat) : nan (ng b) = nan b := by unfold nan; rw [ab_ng]
theorem le_of_nan {b : Nat} (h : nan b = false) : ab b ≤ FloatKind.f64.format.infRung := Nat.not_lt.1 (of_decide_eq_false h)

theorem order_f64 (b c : Nat) : FloatKind.f64.format.order b c = (datum FloatKind.f64.format (sg b) (ab b)).order (datum FloatKind.f64.format (sg c) (ab c)) := by
  rw [← read_f64, ← read_f64]; rfl

/-- 'x != x' tells the NaNs. -/
theorem nan_order (b : Nat) : (FloatKind.f64.format.order b b != some .eq) = nan b := by
  rw [order_f64]
  cases h : nan b
  · rw [order_self _ _ (le_of_nan h)]; rfl
  · rw [order_nan _ _ (of_decide_eq_true h) binade_f64]; rfl

theorem ab_zero : ab 0 = 0 := Nat.zero_mod _
theorem sg_zero : sg 0 = false := by unfold sg; rw [Nat.zero_div]; rfl

/-- '|x| == |x|'. -/
theorem ab_eq (b : Nat) (h : nan b = false) : (FloatKind.f64.format.order (ab b) (ab b) == some .eq) = true := by
  rw [order_f64, order_self _ _ (by rw [ab_ab]; exact le_of_nan h)]; rfl

/-- '|x| >= y', y of the same rung. -/
theorem ab_ge (b c : Nat) (h : nan b = false) (hc : ab c = ab b) : (FloatKind.f64.format.order (ab b) c == some .gt || FloatKind.f64.format.order (ab b) c == some .eq) = true := by
  rw [order_f64, sg_ab, ab_ab, hc]
  cases sg c
  · rw [order_self _ _ (le_of_nan h)]; rfl
  · rcases order_pos_neg _ _ (le_of_nan h) with e | e <;> rw [e] <;> rfl

/-- How a word stands to 0. -/
theorem order_nought (b : Nat) (h : nan b = false) : FloatKind.f64.format.order b 0 = some (if ab b = 0 then .eq else if sg b then .lt else .gt) := by
  rw [order_f64, sg_zero, ab_zero]
  by_cases h0 : ab b = 0
  · rw [h0, if_pos rfl]; exact order_zero_eq _ _
  · rw [if_neg h0]; exact order_zero _ _ (le_of_nan h) (Nat.pos_of_ne_zero h0) _

/-- '|x| >= 0'. -/
theorem ab_ge_zero (b : Nat) (h : nan b = false) : (FloatKind.f64.format.order (ab b) 0 == some .gt || FloatKind.f64.format.order (ab b) 0 == some .eq) = true := by
  rw [order_nought (ab b) (by rw [nan_ab]; exact h), sg_ab, ab_ab]
  by_cases h0 : ab b = 0
  · rw [if_pos h0]; rfl
  · rw [if_neg h0]; rfl

/-- What the sign model answers. -/
def model (b : Nat) : Nat :=
  if FloatKind.f64.format.order b 0 == some .lt then ng b else if FloatKind.f64.format.order b 0 == some .eq then 0 else b

theorem eq_of_alike (b c : Nat) (h : nan b = false) (h1 : sg c = false) (h2 : ab c = ab b) : (FloatKind.f64.format.order (ab b) c != some .eq) = false := by
  rw [order_f64, sg_ab, ab_ab, h1, h2, order_self _ _ (le_of_nan h)]; rfl

/-- '|x|' is what the sign model answers. -/
theorem ab_model (b : Nat) (h : nan b = false) : (FloatKind.f64.format.order (ab b) (model b) != some .eq) = false := by
  unfold model
  rw [order_nought b h]
  by_cases h0 : ab b = 0
  · rw [if_pos h0]
    exact eq_of_alike b 0 h sg_zero (by rw [h0]; exact ab_zero)
  · rw [if_neg h0]
    cases hs : sg b
    · exact eq_of_alike b b h hs rfl
    · exact eq_of_alike b (ng b) h (by rw [sg_ng, hs]; rfl) (ab_ng b)

/-- '|x| == 0' just at the word 0. -/
theorem ab_zero_test (b : Nat) (h : nan b = false) : (FloatKind.f64.format.order (ab b) 0 == some .eq) = decide (ab b = 0) := by
  rw [order_nought (ab b) (by rw [nan_ab]; exact h), sg_ab, ab_ab]
  by_cases h0 : ab b = 0
  · rw [if_pos h0, decide_eq_true h0]; rfl
  · rw [if_neg h0, decide_eq_false h0]; rfl

/-- '1/0' is the positive infinity, which is not below 0. -/
theorem one_over_zero : FloatKind.f64.format.div 4607182418800017408 0 = some 9218868437227405312 := by decide +kernel
theorem inf_not_lt : (FloatKind.f64.format.order 9218868437227405312 0 == some .lt) = false := by decide +kernel

/-- Words stay words. -/
theorem ab_lt (b : Nat) : ab b < 18446744073709551616 := Nat.lt_trans (Nat.mod_lt b sw_pos) (by decide +kernel)
theorem ng_lt (b : Nat) (h : b < 18446744073709551616) : ng b < 18446744073709551616 := by
  have e : (18446744073709551616 : Nat) = 2 ^ 64 := by decide +kernel
  unfold ng
  rw [negFloat_f64, e]
  exact Nat.xor_lt_two_pow (by rw [← e]; exact h) (by decide +kernel)

/-- What math.Abs computes: the sign bit is cleared. -/
theorem abs_bits (b : Nat) (h : b < 18446744073709551616) : bits .andNot .u64 (b : Int) 9223372036854775808 = (ab b : Int) := by
  rw [show (9223372036854775808 : Int) = ((9223372036854775808 : Nat) : Int) from rfl, u64_andNot_nat b 9223372036854775808 h (by decide +kernel)]
  rw [show 18446744073709551615 - 9223372036854775808 = 2 ^ 63 - 1 by decide +kernel, Nat.and_two_pow_sub_one_eq_mod]
  unfold ab
  rw [sw_pow]

end Go.Proofs.Youaqw.Plain
