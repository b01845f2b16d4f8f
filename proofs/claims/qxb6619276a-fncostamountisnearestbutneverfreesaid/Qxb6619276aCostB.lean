/-
  The walk of decompose.
-/
import Derived.Test.Qxb6619276aCostA
namespace Go.Proofs.Qxb6619276a
open Go.ChangeShapes Go.WideShapes Go.ChangeAt Go.RowKit
open Fl

theorem ge_53 (z : Nat) (h : z < 9218868437227405312) : (FloatKind.f64.format.order z 4845873199050653696 == some .gt || FloatKind.f64.format.order z 4845873199050653696 == some .eq) = decide (4845873199050653696 ≤ z) := by
  show (Ieee.double.order z 4845873199050653696 == some .gt || Ieee.double.order z 4845873199050653696 == some .eq) = _
  have hz : rg z < 9218868437227405312 := by rw [rg_small (by omega)]; exact h
  rw [gt_fin hz (by decide), eq_fin hz (by decide), sv_pos (x := z) (by omega), sv_pos (x := 4845873199050653696) (by decide), ← Bool.decide_or, decide_eq_decide]
  constructor
  · intro h1
    by_cases h2 : 4845873199050653696 ≤ z
    · exact h2
    · have := V_lt (a := z) (b := 4845873199050653696) (by omega)
      omega
  · intro h1
    have := V_le h1
    omega

theorem trunc (z : Nat) (h : z < 4845873199050653696) : V z / 2 ^ E < 9007199254740992 ∧ floatToIntVal .f64 z .u64 = some ((V z / 2 ^ E : Nat) : Int) ∧ floatOfInt .f64 ((V z / 2 ^ E : Nat) : Int) = rungOf (V z / 2 ^ E) := by
  have hb : V z / 2 ^ E < 9007199254740992 := by
    rw [Nat.div_lt_iff_lt_mul (Nat.two_pow_pos E), ← V_two53]
    exact V_lt h
  have hz : rg z < 9218868437227405312 := by rw [rg_small (by omega)]; omega
  have ht := toInt_fin hz
  rw [rg_small (by omega), sgn_small (by omega), if_neg (by decide)] at ht
  generalize V z / 2 ^ E = u at *
  refine ⟨hb, ?_, ?_⟩
  · have ht' : (FloatKind.f64.decode z).toInt .zero = some (u : Int) := ht
    unfold floatToIntVal
    rw [ht']
    simp only
    rw [if_pos]
    have e1 : IntKind.u64.min = 0 := by decide
    have e2 : IntKind.u64.max = 18446744073709551615 := by decide
    rw [e1, e2]
    omega
  · have := nearest_int false u hb
    rw [word_eq, if_neg (by decide)] at this
    rw [← this]
    show Ieee.double.nearest (decide ((u : Int) < 0)) (u : Int).natAbs 0 = _
    rw [decide_eq_false (by omega)]; rfl

theorem ne_trunc (z : Nat) (h : z < 4845873199050653696) : (FloatKind.f64.format.order z (floatOfInt .f64 ((V z / 2 ^ E : Nat) : Int)) != some .eq) = !decide (2 ^ E ∣ V z) := by
  obtain ⟨t1, _, t3⟩ := trunc z h
  rw [t3]
  obtain ⟨s1, s2⟩ := rungOf_spec _ t1
  show (Ieee.double.order z (rungOf (V z / 2 ^ E)) != some .eq) = _
  rw [bne, eq_fin (by rw [rg_small (by omega)]; omega) (by rw [rg_small (by omega)]; omega), sv_pos (by omega), sv_pos (by omega), s2]
  congr 1
  rw [decide_eq_decide]
  constructor
  · intro h1
    exact ⟨V z / 2 ^ E, by rw [Nat.mul_comm]; omega⟩
  · intro h1
    rw [Nat.div_mul_cancel h1]

/-- What the rounds of decompose's two loops keep. -/
def Halved (r k z : Nat) : Prop := z + k * 4503599627370496 = r ∧ (k = 0 ∨ 4841369599423283200 ≤ z)
def Doubled (z0 j z : Nat) : Prop := V z = V z0 * 2 ^ j ∧ z < 4845873199050653696 ∧ j ≤ 1074

theorem halved_V {r k z : Nat} (h : Halved r k z) : V r = V z * 2 ^ k := by
  obtain ⟨h1, h2⟩ := h
  rcases h2 with h2 | h2
  · subst h2; rw [Nat.pow_zero, Nat.mul_one, ← h1, Nat.zero_mul, Nat.add_zero]
  · rw [← h1, V_hi (r := z) (by omega), V_hi (by omega), show (z + k * 4503599627370496) / 4503599627370496 - 1 = (z / 4503599627370496 - 1) + k by omega, show (z + k * 4503599627370496) % 4503599627370496 = z % 4503599627370496 by omega, Nat.pow_add, Nat.mul_assoc]

theorem halved_step {r k z : Nat} (h : Halved r k z) (h2 : 4845873199050653696 ≤ z) : Halved r (k + 1) (z - 4503599627370496) := by
  obtain ⟨h1, _⟩ := h
  exact ⟨by omega, by omega⟩

theorem doubled_step {z0 j z : Nat} (h : Doubled z0 j z) (h2 : ¬ 2 ^ E ∣ V z) : Doubled z0 (j + 1) (dbl z) ∧ z < 4841369599423283200 := by
  obtain ⟨h1, h3, h4⟩ := h
  have hz : z < 4841369599423283200 := by
    by_cases hz : 4841369599423283200 ≤ z
    · exact absurd (whole_hi z hz) h2
    · omega
  have hj : j < 1074 := by
    by_cases hj : j < 1074
    · exact hj
    · refine absurd ?_ h2
      rw [h1]
      exact Nat.dvd_trans (Nat.pow_dvd_pow 2 (by rw [E_eq]; omega)) (Nat.dvd_mul_left _ _)
  refine ⟨⟨?_, ?_, by omega⟩, hz⟩
  · rw [V_dbl, h1, Nat.pow_succ]; ac_rfl
  · unfold dbl; split <;> omega

set_option maxHeartbeats 1000000 in
/-- decompose, at a number that is no zero. -/
theorem decompose_nz (x : Nat) (hx : x < 18446744073709551616) (hfin : rg x < 9218868437227405312) (h0 : rg x ≠ 0) (w : World) :
    Calls Try.prog 11 #[.float .f64 x] w fun e w' => (∃ m n j : Nat, e = .returned (.tuple #[.int .u64 m, .int .i64 ((n : Int) - j)]) ∧ m < 9007199254740992 ∧ n ≤ 971 ∧ j ≤ 1074 ∧ V (rg x) * 2 ^ j = m * 2 ^ E * 2 ^ n) ∧ w' = w := by
  have hlt := lt_zero x hfin
  rw [decide_eq_true h0, Bool.and_true] at hlt
  obtain ⟨r, hr⟩ : ∃ r, r = rg x := ⟨_, rfl⟩
  rw [← hr] at hfin
  rw [← hr]
  have hneg : sgn x = true → ∀ w, (Op.unary .neg (.float .f64 x)).run Try.prog w = .ok (.float .f64 r) w := by
    intro h w
    have h9 : 9223372036854775808 ≤ x := by
      by_cases h9 : x < 9223372036854775808
      · rw [sgn_small h9] at h; cases h
      · omega
    rw [hr, ← flip_sign x h9 hx]; rfl
  have hpos : sgn x = false → x = r := by
    intro h
    have h9 : x < 9223372036854775808 := by
      by_cases h9 : x < 9223372036854775808
      · exact h9
      · unfold sgn at h; rw [show x / 9223372036854775808 = 1 by omega] at h; cases h
    rw [hr, rg_small h9]
  clear hr h0
  cases hs : sgn x
  · rw [hs] at hlt
    replace hpos := hpos hs
    clear hneg hs
    subst hpos
    go_enter Try.func11, Try.ntmps11
    go_wp2
    go_loop [4, 5, 6] (fun t e i => ∃ k z : Nat, t = .float .f64 z ∧ e = .int .i64 k ∧ i = .int .i64 k ∧ Halved x k z) (fun _ _ i => 1100 - (intOf i).toNat)
    case atStart => exact ⟨0, x, rfl, rfl, rfl, by simp, Or.inl rfl⟩
    case round =>
      obtain ⟨k, z, rfl, rfl, rfl, hh⟩ := hrel
      have hk : k ≤ 971 ∧ z < 9218868437227405312 := by obtain ⟨a1, a2⟩ := hh; omega
      obtain ⟨hk, hz⟩ := hk
      have HK : Hid (k ≤ 971) := hk
      have hk1 : (k : Int) < 1100 := by omega
      clear hk
      have hge := ge_53 z hz
      by_cases h53 : 4845873199050653696 ≤ z
      · rw [decide_eq_true h53] at hge
        have hdv := fun (w : World) => run_float_arith (P := Try.prog) w .quo 22 .f64 z 4611686018427387904 _ (half_exact z h53 hz)
        have hst := halved_step hh h53
        clear hh
        go_wp2
        go_round
        case rel => exact ⟨k + 1, _, rfl, by go_num, by go_num, hst⟩
        case measure => simp [intOf]; omega
      · rw [decide_eq_false h53] at hge
        go_wp2
        go_loop [4, 5, 7] (fun t e i => ∃ j y : Nat, t = .float .f64 y ∧ e = .int .i64 ((k : Int) - j) ∧ i = .int .i64 j ∧ Doubled z j y) (fun _ _ i => 1200 - (intOf i).toNat)
        case atStart => exact ⟨0, z, rfl, by simp, rfl, by simp, by omega, by omega⟩
        case round =>
          obtain ⟨j, y, rfl, rfl, rfl, hd⟩ := hrel
          have HJ : Hid (j ≤ 1074) := hd.2.2
          have hj1 : (j : Int) < 1200 := by have := HJ.out; omega
          have hy : y < 4845873199050653696 := hd.2.1
          obtain ⟨t1, t2, -⟩ := trunc y hy
          have hne := ne_trunc y hy
          have HV : Hid (V x * 2 ^ j = V y * 2 ^ k) := by
            show V x * 2 ^ j = V y * 2 ^ k
            rw [halved_V hh, hd.1]; ac_rfl
          by_cases hw : 2 ^ E ∣ V y
          · rw [decide_eq_true hw, Bool.not_true] at hne
            have HU : Hid (V y = V y / 2 ^ E * 2 ^ E) := (Nat.div_mul_cancel hw).symm
            clear hw hd hh
            generalize V y / 2 ^ E = u at *
            have hcv := fun (w : World) => run_convert_float_int (P := Try.prog) w 22 29 .f64 .u64 y u rfl Try.underlying29 t2
            have T1 : Hid (u < 9007199254740992) := t1
            clear t1 t2 hy
            go_wp2
            go_ret2
            exact ⟨⟨u, k, j, rfl, T1.out, HK.out, HJ.out, by rw [HV.out, HU.out]⟩, rfl⟩
          · rw [decide_eq_false hw, Bool.not_false] at hne
            obtain ⟨hst, hy2⟩ := doubled_step hd hw
            clear hw hd hh HV
            generalize V y / 2 ^ E = u at *
            have hcv := fun (w : World) => run_convert_float_int (P := Try.prog) w 22 29 .f64 .u64 y u rfl Try.underlying29 t2
            have hml := fun (w : World) => run_float_arith (P := Try.prog) w .mul 22 .f64 y 4611686018427387904 _ (double_exact y hy2)
            clear hy2
            have T1 : Hid (u < 9007199254740992) := t1
            clear t1 t2 hy
            go_wp2
            go_round
            case rel => exact ⟨j + 1, _, rfl, by go_num, by go_num, hst⟩
            case measure => simp [intOf]; omega
  · rw [hs] at hlt
    replace hneg := hneg hs
    clear hpos hs
    go_enter Try.func11, Try.ntmps11
    go_wp2
    go_loop [4, 5, 6] (fun t e i => ∃ k z : Nat, t = .float .f64 z ∧ e = .int .i64 k ∧ i = .int .i64 k ∧ Halved r k z) (fun _ _ i => 1100 - (intOf i).toNat)
    case atStart => exact ⟨0, r, rfl, rfl, rfl, by simp, Or.inl rfl⟩
    case round =>
      obtain ⟨k, z, rfl, rfl, rfl, hh⟩ := hrel
      have hk : k ≤ 971 ∧ z < 9218868437227405312 := by obtain ⟨a1, a2⟩ := hh; omega
      obtain ⟨hk, hz⟩ := hk
      have HK : Hid (k ≤ 971) := hk
      have hk1 : (k : Int) < 1100 := by omega
      clear hk
      have hge := ge_53 z hz
      by_cases h53 : 4845873199050653696 ≤ z
      · rw [decide_eq_true h53] at hge
        have hdv := fun (w : World) => run_float_arith (P := Try.prog) w .quo 22 .f64 z 4611686018427387904 _ (half_exact z h53 hz)
        have hst := halved_step hh h53
        clear hh
        go_wp2
        go_round
        case rel => exact ⟨k + 1, _, rfl, by go_num, by go_num, hst⟩
        case measure => simp [intOf]; omega
      · rw [decide_eq_false h53] at hge
        go_wp2
        go_loop [4, 5, 7] (fun t e i => ∃ j y : Nat, t = .float .f64 y ∧ e = .int .i64 ((k : Int) - j) ∧ i = .int .i64 j ∧ Doubled z j y) (fun _ _ i => 1200 - (intOf i).toNat)
        case atStart => exact ⟨0, z, rfl, by simp, rfl, by simp, by omega, by omega⟩
        case round =>
          obtain ⟨j, y, rfl, rfl, rfl, hd⟩ := hrel
          have HJ : Hid (j ≤ 1074) := hd.2.2
          have hj1 : (j : Int) < 1200 := by have := HJ.out; omega
          have hy : y < 4845873199050653696 := hd.2.1
          obtain ⟨t1, t2, -⟩ := trunc y hy
          have hne := ne_trunc y hy
          have HV : Hid (V r * 2 ^ j = V y * 2 ^ k) := by
            show V r * 2 ^ j = V y * 2 ^ k
            rw [halved_V hh, hd.1]; ac_rfl
          by_cases hw : 2 ^ E ∣ V y
          · rw [decide_eq_true hw, Bool.not_true] at hne
            have HU : Hid (V y = V y / 2 ^ E * 2 ^ E) := (Nat.div_mul_cancel hw).symm
            clear hw hd hh
            generalize V y / 2 ^ E = u at *
            have hcv := fun (w : World) => run_convert_float_int (P := Try.prog) w 22 29 .f64 .u64 y u rfl Try.underlying29 t2
            have T1 : Hid (u < 9007199254740992) := t1
            clear t1 t2 hy
            go_wp2
            go_ret2
            exact ⟨⟨u, k, j, rfl, T1.out, HK.out, HJ.out, by rw [HV.out, HU.out]⟩, rfl⟩
          · rw [decide_eq_false hw, Bool.not_false] at hne
            obtain ⟨hst, hy2⟩ := doubled_step hd hw
            clear hw hd hh HV
            generalize V y / 2 ^ E = u at *
            have hcv := fun (w : World) => run_convert_float_int (P := Try.prog) w 22 29 .f64 .u64 y u rfl Try.underlying29 t2
            have hml := fun (w : World) => run_float_arith (P := Try.prog) w .mul 22 .f64 y 4611686018427387904 _ (double_exact y hy2)
            clear hy2
            have T1 : Hid (u < 9007199254740992) := t1
            clear t1 t2 hy
            go_wp2
            go_round
            case rel => exact ⟨j + 1, _, rfl, by go_num, by go_num, hst⟩
            case measure => simp [intOf]; omega
end Go.Proofs.Qxb6619276a
