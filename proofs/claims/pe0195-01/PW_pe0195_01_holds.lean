import PyProof.Rows.All
import Wide.All
import OpenK.AllK
import Wide.FinOn
import PySem.Challenge.RW_pe0195_01
open PySem PySem.W PyProof.Rows
set_option Elab.async false
set_option maxRecDepth 100000
set_option rowWalk.seconds 0
set_option linter.all false
set_option compiler.extract_closed false
namespace Mine
set_option maxHeartbeats 8000000
def pickS (l : List Stmt) : List Stmt := ((l.drop 1).take 7) ++ ((l.drop 9).take 2) ++ ((l.drop 12).take 2) ++ (l.drop 15)
def headV : Program := { Challenge.pw_pe0195_01 with main := { Challenge.pw_pe0195_01.main with body := pickS Challenge.pw_pe0195_01.main.body } }
local macro_rules | `(tactic| o_head $H:term) => `(tactic| (refine holds_open (q := headV) (loose := []) (Xt := fun s => xlAt headV [] s && recOk (RowW.records (Challenge.rw_pe0195_01.row.toRowW)) s) (XP := XL headV []) (Yf := Hook.obs $H) (Ya := Hook.val $H) (YP := Hook.says $H) (N := 1184) ?hl (Hook.of $H) (Hook.keeps $H) (fun s e => xl_of s (Bool.and_eq_true_iff.mp e).1) XL.keeps (by rfl) (by rfl) (by rfl) (fun s e => recFacts_of (Bool.and_eq_true_iff.mp e).2) (by rfl) (by first | assumption | decide +kernel) (by decide +kernel) ⟨rfl, rfl, rfl, rfl, rfl, by decide +kernel⟩ ?hw ?hc; (case hl => exact fun w => by kernel_rfl); all_goals (rename_i zq; clear zq)))
open_top hd for PySem.Challenge.rw_pe0195_01

local macro_rules | `(tactic| walk_at $s:str) => `(tactic| k_extra $s)
set_option maxHeartbeats 2000000
section
open PySem.Float64
/-! floats that are so many 2048ths, exactly -/
def mag (n : Nat) : Nat := roundMag n 2048
/-- z 2048ths -/
def fx (z : Int) : UInt64 := pack (decide (z < 0)) (mag z.natAbs)
theorem V_inj {t u : Nat} (h : V t = V u) : t = u := by
  rcases Nat.lt_trichotomy t u with g | g | g
  · have := V_lt g; lia
  · exact g
  · have := V_lt g; lia
theorem dist_zero {a b : Nat} (h : dist a b = 0) : a = b := by unfold dist at h; lia
theorem right_is {r : UInt64} {neg : Bool} {W D t : Nat} (h : Right r neg W D) (hD : 0 < D) (hW : W = D * V t) (ht : t < infMag) : r = pack neg t := by
  obtain ⟨u, hr, hu, hov, hb⟩ := h
  have hlt : u < infMag := by
    rcases Nat.lt_or_eq_of_le hu with g | g
    · exact g
    · exfalso
      have h1 := hov.mp g
      rw [hW, show 2 * (D * V t) = D * (2 * V t) by ac_rfl] at h1
      have h2 := Nat.le_of_mul_le_mul_left h1 hD
      have h3 : V t ≤ V (infMag - 1) := V_mono (by lia)
      have hA : V (infMag - 1) = (2 ^ 53 - 1) * 2 ^ 2045 := by
        have e : infMag - 1 = 2045 * 2 ^ 52 + (2 ^ 53 - 1) := by unfold infMag; lia
        rw [e]
        exact V_at (by lia) (.inl (by lia))
      rw [hA] at h3
      have hp := Nat.two_pow_pos 2045
      generalize (2 : Nat) ^ 2045 = K at *
      lia
  have h4 := (hb hlt t).1
  have h5 : dist W (D * V t) = 0 := by rw [hW]; unfold dist; lia
  rw [h5] at h4
  have h6 := dist_zero (Nat.le_zero.mp h4)
  rw [hW] at h6
  rw [hr, V_inj (Nat.eq_of_mul_eq_mul_left hD h6)]
theorem pow_cut : (2 : Nat) ^ 1074 = 2048 * 2 ^ 1063 := by
  rw [show 1074 = 11 + 1063 from rfl, Nat.pow_add]
theorem exists_mag {n : Nat} (h : n < 2 ^ 53) : ∃ t, t < infMag ∧ V t = n * 2 ^ 1063 := by
  by_cases h0 : n = 0
  · exact ⟨0, by unfold infMag; lia, by rw [V_zero, h0, Nat.zero_mul]⟩
  · have hl : n.log2 < 53 := (Nat.log2_lt h0).mpr h
    have h1 : 2 ^ n.log2 ≤ n := Nat.log2_self_le h0
    have h2 : n < 2 ^ (n.log2 + 1) := Nat.lt_log2_self
    have e1 : (2 : Nat) ^ 52 = 2 ^ n.log2 * 2 ^ (52 - n.log2) := by rw [← Nat.pow_add]; congr 1; lia
    have e2 : (2 : Nat) ^ 53 = 2 ^ (n.log2 + 1) * 2 ^ (52 - n.log2) := by rw [← Nat.pow_add]; congr 1; lia
    have a1 : 2 ^ 52 ≤ n * 2 ^ (52 - n.log2) := by rw [e1]; exact Nat.mul_le_mul_right _ h1
    have a2 : n * 2 ^ (52 - n.log2) < 2 ^ 53 := by rw [e2]; exact Nat.mul_lt_mul_of_pos_right h2 (Nat.two_pow_pos _)
    refine ⟨(1011 + n.log2) * 2 ^ 52 + n * 2 ^ (52 - n.log2), ?_, ?_⟩
    · unfold infMag
      generalize n * 2 ^ (52 - n.log2) = q at *
      lia
    · rw [V_at (Nat.le_of_lt a2) (.inl a1), Nat.mul_assoc, ← Nat.pow_add]
      congr 2
      lia
theorem mag_spec {n : Nat} (h : n < 2 ^ 53) : mag n < infMag ∧ V (mag n) = n * 2 ^ 1063 := by
  obtain ⟨t, ht, hV⟩ := exists_mag h
  have hr : Right (ofFrac false n 2048) false (n * 2 ^ 1063) 1 := ofFrac_right (by decide) (by rw [pow_cut]; ac_rfl) (by decide)
  have e := right_is hr (by decide) (by rw [Nat.one_mul, hV]) ht
  have hle : roundMag n 2048 ≤ infMag := by rw [roundMag_min]; lia
  have hi : infMag = 2047 * 2 ^ 52 := rfl
  have e2 := congrArg UInt64.toNat e
  unfold ofFrac at e2
  rw [pack_toNat _ (by lia), pack_toNat _ (by lia)] at e2
  have e3 : mag n = t := by unfold mag; simpa using e2
  rw [e3]
  exact ⟨ht, hV⟩
/-- within what is exact -/
def Small (z : Int) : Prop := z.natAbs < 2 ^ 53
theorem small_of {z : Int} (h1 : -1000000000 < z) (h2 : z < 1000000000) : Small z := by unfold Small; lia
theorem right_fx {r : UInt64} {neg : Bool} {W D : Nat} {z : Int} (h : Right r neg W D) (hD : 0 < D) (hz : Small z) (hn : neg = decide (z < 0)) (hW : W = D * (z.natAbs * 2 ^ 1063)) : r = fx z := by
  have k := mag_spec hz
  rw [right_is h hD (by rw [hW, k.2]) k.1, hn]
  rfl
theorem fx_fin {z : Int} (hz : Small z) : ∃ m e, decode (fx z) = .fin (decide (z < 0)) m e ∧ m * 2 ^ (e + 1074).toNat = z.natAbs * 2 ^ 1063 := by
  have k := mag_spec hz
  obtain ⟨m, e, h1, h2⟩ := decode_pack (decide (z < 0)) k.1
  exact ⟨m, e, h1, by rw [h2, k.2]⟩
theorem fx_val {z : Int} (hz : Small z) : val (fx z) = z * ((2 ^ 1063 : Nat) : Int) := by
  have k := mag_spec hz
  unfold fx
  rw [val_pack _ k.1, k.2, sgn_mul]
  congr 1
  unfold sgn
  split <;> simp_all <;> lia
theorem fx_abs {z : Int} (hz : Small z) : (val (fx z)).natAbs = z.natAbs * 2 ^ 1063 := by rw [fx_val hz, Int.natAbs_mul, Int.natAbs_natCast]
theorem fx_mul {x y z : Int} (hx : Small x) (hy : Small y) (hz : Small z) (x0 : 0 ≤ x) (y0 : 0 ≤ y) (h : x * y = z * 2048) : mul (fx x) (fx y) = fx z := by
  obtain ⟨m, e, h1, _⟩ := fx_fin hx
  obtain ⟨k, f, h2, _⟩ := fx_fin hy
  have r := mul_right h1 h2
  have z0 : 0 ≤ z := by
    have := Int.mul_nonneg x0 y0
    lia
  refine right_fx r (Nat.two_pow_pos _) hz ?_ ?_
  · rw [decide_eq_false (by lia), decide_eq_false (by lia), decide_eq_false (by lia)]; rfl
  · rw [fx_abs hx, fx_abs hy, pow_cut]
    have e : x.natAbs * y.natAbs = z.natAbs * 2048 := by rw [← Int.natAbs_mul, h, Int.natAbs_mul]; rfl
    calc x.natAbs * 2 ^ 1063 * (y.natAbs * 2 ^ 1063) = (x.natAbs * y.natAbs) * (2 ^ 1063 * 2 ^ 1063) := by ac_rfl
      _ = _ := by rw [e]; ac_rfl
theorem fx_div {x y z : Int} (hx : Small x) (hy : Small y) (hz : Small z) (y0 : 0 < y) (h : x * 2048 = y * z) : div (fx x) (fx y) = fx z := by
  obtain ⟨m, e, h1, _⟩ := fx_fin hx
  obtain ⟨k, f, h2, h3⟩ := fx_fin hy
  have k0 : k ≠ 0 := by
    rintro rfl
    rw [Nat.zero_mul] at h3
    have := Nat.mul_pos (show 0 < y.natAbs by lia) (Nat.two_pow_pos 1063)
    lia
  have r := div_right h1 h2 k0
  rw [fx_abs hx, fx_abs hy] at r
  refine right_fx r (Nat.mul_pos (by lia) (Nat.two_pow_pos _)) hz ?_ ?_
  · have e2 : decide (y < 0) = false := decide_eq_false (by lia)
    rw [e2]
    have e3 : (x < 0) ↔ (z < 0) := by
      constructor
      · intro g
        rcases Int.lt_or_le z 0 with q | q
        · exact q
        · have := Int.mul_nonneg (Int.le_of_lt y0) q
          lia
      · intro g
        have := Int.mul_neg_of_pos_of_neg y0 g
        lia
    rw [decide_eq_decide.mpr e3]
    cases decide (z < 0) <;> rfl
  · rw [pow_cut]
    have e : x.natAbs * 2048 = y.natAbs * z.natAbs := by rw [← Int.natAbs_mul, ← h, Int.natAbs_mul]; rfl
    calc x.natAbs * 2 ^ 1063 * (2048 * 2 ^ 1063) = (x.natAbs * 2048) * (2 ^ 1063 * 2 ^ 1063) := by ac_rfl
      _ = _ := by rw [e]; ac_rfl
theorem mul_K_lt {x : Int} : decide (x * ((2 ^ 1063 : Nat) : Int) < 0) = decide (x < 0) := by
  have hp : (0 : Int) < ((2 ^ 1063 : Nat) : Int) := Int.ofNat_lt.mpr (Nat.two_pow_pos _)
  generalize ((2 ^ 1063 : Nat) : Int) = K at *
  apply decide_eq_decide.mpr
  constructor
  · intro h
    rcases Int.lt_or_le x 0 with q | q
    · exact q
    · have := Int.mul_nonneg q (Int.le_of_lt hp)
      lia
  · intro h
    exact Int.mul_neg_of_neg_of_pos h hp
theorem K_ne : ((2 ^ 1063 : Nat) : Int) ≠ 0 := by
  have : (0 : Int) < ((2 ^ 1063 : Nat) : Int) := Int.ofNat_lt.mpr (Nat.two_pow_pos _)
  lia
theorem fx_zero : fx 0 = zero false := by decide +kernel
theorem fx_sub {x y : Int} (hx : Small x) (hy : Small y) (hz : Small (x - y)) : sub (fx x) (fx y) = fx (x - y) := by
  obtain ⟨m, e, h1, _⟩ := fx_fin hx
  obtain ⟨k, f, h2, _⟩ := fx_fin hy
  have r := sub_right h1 h2
  rw [fx_val hx, fx_val hy, ← Int.sub_mul] at r
  by_cases h0 : x - y = 0
  · have e1 := r.1 (by rw [h0, Int.zero_mul])
    rw [e1, h0, fx_zero, show x = y by lia]
    cases decide (y < 0) <;> rfl
  · refine right_fx (r.2 fun q => ?_) (by decide) hz mul_K_lt ?_
    · rcases Int.mul_eq_zero.mp q with q | q
      · exact h0 q
      · exact K_ne q
    · rw [Int.natAbs_mul, Int.natAbs_natCast, Nat.one_mul]
theorem fx_add {x y : Int} (hx : Small x) (hy : Small y) (hz : Small (x + y)) : add (fx x) (fx y) = fx (x + y) := by
  obtain ⟨m, e, h1, _⟩ := fx_fin hx
  obtain ⟨k, f, h2, _⟩ := fx_fin hy
  have r := add_right h1 h2
  rw [fx_val hx, fx_val hy, ← Int.add_mul] at r
  by_cases h0 : x + y = 0
  · have e1 := r.1 (by rw [h0, Int.zero_mul])
    rw [e1, h0, fx_zero]
    by_cases hy0 : y < 0
    · rw [show decide (x < 0) = false from decide_eq_false (by lia)]; rfl
    · rw [show decide (y < 0) = false from decide_eq_false hy0, Bool.and_false]
  · refine right_fx (r.2 fun q => ?_) (by decide) hz mul_K_lt ?_
    · rcases Int.mul_eq_zero.mp q with q | q
      · exact h0 q
      · exact K_ne q
    · rw [Int.natAbs_mul, Int.natAbs_natCast, Nat.one_mul]
theorem cmp_K {x y : Int} : compare (x * ((2 ^ 1063 : Nat) : Int)) (y * ((2 ^ 1063 : Nat) : Int)) = compare x y := by
  have hp : (0 : Int) < ((2 ^ 1063 : Nat) : Int) := Int.ofNat_lt.mpr (Nat.two_pow_pos _)
  generalize ((2 ^ 1063 : Nat) : Int) = K at *
  rcases Int.lt_trichotomy x y with h | h | h
  · rw [Int.compare_eq_lt.mpr h, Int.compare_eq_lt.mpr (Int.mul_lt_mul_of_pos_right h hp)]
  · subst h; simp
  · rw [Int.compare_eq_gt.mpr h, Int.compare_eq_gt.mpr (Int.mul_lt_mul_of_pos_right h hp)]
theorem fx_cmp {x y : Int} (hx : Small x) (hy : Small y) : cmp (fx x) (fx y) = some (compare x y) := by
  obtain ⟨m, e, h1, _⟩ := fx_fin hx
  obtain ⟨k, f, h2, _⟩ := fx_fin hy
  rw [cmp_right h1 h2, fx_val hx, fx_val hy, cmp_K]
theorem fx_cmpInt {x i : Int} (hx : Small x) : cmpInt (fx x) i = some (compare x (i * 2048)) := by
  obtain ⟨m, e, h1, _⟩ := fx_fin hx
  have e2 : (i * 2 ^ 1074 : Int) = i * 2048 * ((2 ^ 1063 : Nat) : Int) := by
    rw [Int.natCast_pow, Int.mul_assoc]
    congr 1
  rw [cmpInt_right h1, fx_val hx, e2, cmp_K]
theorem fx_ofInt {i : Int} (hi : Small (i * 2048)) : ofInt i = fx (i * 2048) := by
  refine right_fx (ofInt_right i) (by decide) hi ?_ ?_
  · apply decide_eq_decide.mpr
    lia
  · rw [pow_cut, Int.natAbs_mul, show (2048 : Int).natAbs = 2048 from rfl]; ac_rfl
theorem fx_isNaN {z : Int} (hz : Small z) : Float64.isNaN (fx z) = false := by
  obtain ⟨m, e, h1, _⟩ := fx_fin hz
  unfold Float64.isNaN; rw [h1]
theorem fx_isInf {z : Int} (hz : Small z) : isInf (fx z) = false := by
  obtain ⟨m, e, h1, _⟩ := fx_fin hz
  unfold isInf; rw [h1]
theorem fx_isZero {z : Int} (hz : Small z) (h : z ≠ 0) : isZero (fx z) = false := by
  obtain ⟨m, e, h1, h2⟩ := fx_fin hz
  unfold isZero; rw [h1]
  cases m with
  | zero =>
    exfalso
    rw [Nat.zero_mul] at h2
    have := Nat.mul_pos (show 0 < z.natAbs by lia) (Nat.two_pow_pos 1063)
    lia
  | succ k => rfl
theorem fx_trunc {z : Int} (hz : Small z) (z0 : 0 ≤ z) : Flt.toInt truncOf (fx z) = z / 2048 := by
  obtain ⟨m, e, h1, h2⟩ := fx_fin hz
  have he := decode_ge h1
  unfold Flt.toInt
  rw [h1]
  obtain ⟨n, rfl⟩ := Int.eq_ofNat_of_zero_le z0
  rw [decide_eq_false (by lia)]
  show floorOf false m e = _
  unfold floorOf sgn
  simp only [Bool.false_eq_true, if_false]
  have hp := Nat.two_pow_pos 1063
  rw [Int.natAbs_natCast] at h2
  split
  · rename_i h
    rw [show (e + 1074).toNat = e.toNat + 1074 by lia, Nat.pow_add, pow_cut] at h2
    have h3 : m * 2 ^ e.toNat * 2048 = n := by
      refine Nat.eq_of_mul_eq_mul_right hp ?_
      rw [← h2]; ac_rfl
    rw [← h3]
    have : (((m * 2 ^ e.toNat * 2048 : Nat) : Int)) = ((m * 2 ^ e.toNat : Nat) : Int) * 2048 := by rw [Int.natCast_mul]; rfl
    rw [this, Int.mul_ediv_cancel _ (by decide), Int.natCast_mul, Int.natCast_pow]; rfl
  · rename_i h
    rw [Int.fdiv_eq_ediv_of_nonneg _ (Int.le_of_lt (Int.pow_pos (by decide)))]
    have e3 : (2 : Nat) ^ 1074 = 2 ^ (e + 1074).toNat * 2 ^ (-e).toNat := by rw [← Nat.pow_add]; congr 1; lia
    have e4 : m / 2 ^ (-e).toNat = n / 2048 := by
      rw [← Nat.mul_div_mul_right m _ (Nat.two_pow_pos (e + 1074).toNat), Nat.mul_comm (2 ^ (-e).toNat), ← e3, h2, pow_cut, Nat.mul_div_mul_right _ _ hp]
    rw [show ((2 : Int) ^ (-e).toNat) = ((2 ^ (-e).toNat : Nat) : Int) by rw [Int.natCast_pow]; rfl, ← Int.natCast_ediv, e4]
    rfl
theorem fx_fmod {z : Int} (hz : Small z) : fmod (fx z) (fx 2048) = pack (decide (z < 0)) (mag (z.natAbs % 2048)) := by
  obtain ⟨m, e, h1, h2⟩ := fx_fin hz
  obtain ⟨k, f, h3, h4⟩ := fx_fin (z := 2048) (small_of (by decide) (by decide))
  have he := decode_ge h1
  have hf := decode_ge h3
  have k0 : k ≠ 0 := by
    rintro rfl
    rw [Nat.zero_mul] at h4
    have := Nat.mul_pos (show 0 < (2048 : Int).natAbs by decide) (Nat.two_pow_pos 1063)
    lia
  have hfm : fmod (fx z) (fx 2048) = ofBin (decide (z < 0)) ((m * 2 ^ (e - min e f).toNat) % (k * 2 ^ (f - min e f).toNat)) (min e f) := by
    unfold fmod
    rw [h1, h3]
    simp only []
    rw [if_neg (by simpa using k0)]
    unfold align sgn
    simp only [Bool.false_eq_true, if_false, Int.toNat_natCast]
  have r := ofBin_right (neg := decide (z < 0)) (M := (m * 2 ^ (e - min e f).toNat) % (k * 2 ^ (f - min e f).toNat)) (g := min e f) (by lia)
  have hs : z.natAbs % 2048 < 2 ^ 53 := Nat.lt_trans (Nat.mod_lt _ (by decide)) (by decide)
  have sp := mag_spec hs
  rw [hfm]
  refine right_is r (by decide) ?_ sp.1
  have e1 : m * 2 ^ (e - min e f).toNat * 2 ^ (min e f + 1074).toNat = z.natAbs * 2 ^ 1063 := by
    rw [Nat.mul_assoc, ← Nat.pow_add, ← h2]
    congr 2
    lia
  have e2 : k * 2 ^ (f - min e f).toNat * 2 ^ (min e f + 1074).toNat = 2048 * 2 ^ 1063 := by
    rw [Nat.mul_assoc, ← Nat.pow_add, show 2048 * 2 ^ 1063 = (2048 : Int).natAbs * 2 ^ 1063 from rfl, ← h4]
    congr 2
    lia
  rw [sp.2, Nat.one_mul, ← Nat.mul_mod_mul_right, ← Nat.mul_mod_mul_right, e1, e2]
theorem fx_mod1 {z : Int} (hz : Small z) (h : z % 2048 ≠ 0) : (divmod (fx z) (fx 2048)).2 = fx (z % 2048) := by
  have hm := fx_fmod hz
  have h1 := Int.emod_nonneg z (show (2048 : Int) ≠ 0 by decide)
  have h2 := Int.emod_lt_of_pos z (show (0 : Int) < 2048 by decide)
  have h3 := Int.emod_add_mul_ediv z 2048
  have hzf : zero false = fx 0 := fx_zero.symm
  have hy : lt (fx 2048) (zero false) = false := by decide +kernel
  by_cases hneg : z < 0
  · have e1 : fmod (fx z) (fx 2048) = fx (z % 2048 - 2048) := by
      rw [hm]
      unfold fx
      rw [decide_eq_true hneg, decide_eq_true (show z % 2048 - 2048 < 0 by lia)]
      congr 2
      lia
    have s1 : Small (z % 2048 - 2048) := small_of (by lia) (by lia)
    have z1 : isZero (fx (z % 2048 - 2048)) = false := fx_isZero s1 (by lia)
    have l1 : lt (fx (z % 2048 - 2048)) (zero false) = true := by
      unfold lt
      rw [hzf, fx_cmp s1 (small_of (by decide) (by decide)), Int.compare_eq_lt.mpr (by lia)]; rfl
    unfold divmod
    simp only [e1, z1, l1, hy]
    have a1 : add (fx (z % 2048 - 2048)) (fx 2048) = fx (z % 2048) := by
      rw [fx_add s1 (small_of (by decide) (by decide)) (small_of (by lia) (by lia))]
      congr 1
      lia
    simp [a1]
  · have e1 : fmod (fx z) (fx 2048) = fx (z % 2048) := by
      rw [hm]
      unfold fx
      rw [decide_eq_false hneg, decide_eq_false (show ¬ z % 2048 < 0 by lia)]
      congr 2
      lia
    have s1 : Small (z % 2048) := small_of (by lia) (by lia)
    have z1 : isZero (fx (z % 2048)) = false := fx_isZero s1 h
    have l1 : lt (fx (z % 2048)) (zero false) = false := by
      unfold lt
      rw [hzf, fx_cmp s1 (small_of (by decide) (by decide)), Int.compare_eq_gt.mpr (by lia)]; rfl
    unfold divmod
    simp only [e1, z1, l1, hy]
    simp
def qf (a b : Int) : UInt64 := Float64.ofFrac (decide (a < 0) != decide (b < 0)) a.natAbs b.natAbs
theorem fx_qf {a b z : Int} (hz : Small z) (a0 : 0 ≤ a) (b0 : 0 < b) (h : a * 2048 = z * b) : qf a b = fx z := by
  unfold qf
  have z0 : 0 ≤ z := by
    rcases Int.lt_or_le z 0 with q | q
    · have := Int.mul_neg_of_neg_of_pos q b0
      lia
    · exact q
  refine right_fx (W := z.natAbs * 2 ^ 1063) (D := 1) (ofFrac_right (by lia) ?_ (by decide)) (by decide) hz ?_ (by rw [Nat.one_mul])
  · rw [pow_cut]
    have e : a.natAbs * 2048 = z.natAbs * b.natAbs := by rw [← Int.natAbs_mul, ← h, Int.natAbs_mul]; rfl
    calc a.natAbs * (2048 * 2 ^ 1063) * 1 = (a.natAbs * 2048) * 2 ^ 1063 := by rw [Nat.mul_one]; ac_rfl
      _ = _ := by rw [e]; ac_rfl
  · rw [decide_eq_false (by lia), decide_eq_false (by lia), decide_eq_false (by lia)]; rfl
theorem fx_one : (4607182418800017408 : UInt64) = fx 2048 := by decide +kernel
theorem fx_two : (4611686018427387904 : UInt64) = fx 4096 := by decide +kernel
theorem fx_four : (4616189618054758400 : UInt64) = fx 8192 := by decide +kernel
theorem fx_six : (4618441417868443648 : UInt64) = fx 12288 := by decide +kernel
theorem fx_nil : (0 : UInt64) = fx 0 := by decide +kernel

end
set_option maxHeartbeats 2000000
/-! the text's own nested defs, by their place in the row -/
def fnBody : Stmt → List Stmt
  | .FunctionDef _ _ b .. => b
  | _ => []
def fnArgs : Stmt → Arguments
  | .FunctionDef _ a .. => a
  | _ => default
def fnScope : Stmt → Scope
  | .FunctionDef _ _ _ _ _ _ sc .. => sc
  | _ => default
def defAt (i : Nat) : Stmt := Challenge.pw_pe0195_01.main.body.getD i default
def I1 : Stmt := (fnBody (defAt 4)).getD 1 default
def I2 : Stmt := (fnBody (defAt 5)).getD 0 default
theorem allLt_ne {d c : Nat} : ∀ {l : List (Addr × Obj)}, AllLt d l → d ≤ c → ∀ q ∈ l, q.1 ≠ c
  | [], _, _, _, h => nomatch h
  | p :: l, ⟨h1, h2⟩, hc, q, hq => by
    rcases List.mem_cons.mp hq with rfl | hq
    · exact Nat.ne_of_lt (Nat.lt_of_lt_of_le h1 hc)
    · exact allLt_ne h2 hc q hq
section
variable {w : World} {dp un : Nat} {gd : Option (List Code)} {cn : Str} {cs : Scope} {a : Addr} {ccd : Value} {cl : List (Str × Addr)} {outer : List Env} {A₀ : Around} {base h₀ : Heap} {L : Addr} {m : Str → Option Value} {news : List (Addr × Obj)} {s : Shared}
  {Q E : Value → Shared → Prop} {p : Program} {loose : List Str} {mean : ExcName → Option Value} {mg mb : Str → Option Value}
theorem endB {x y : Bool} {h' : Heap} {tk' : Nat} (hret : ∀ (h' : Heap) (tk' : Nat), Fr h₀ L h' m → News h₀ L h' news → Q (.bool x) { s with heap := h', toks := tk' }) (F : Fr h₀ L h' m) (N : News h₀ L h' news) (e : y = x) : Q (.bool y) { s with heap := h', toks := tk' } := by
  subst e; exact hret _ _ F N
theorem endI {x y : Int} {t : Tok} {h' : Heap} {tk' : Nat} (hret : ∀ (t : Tok) (h' : Heap) (tk' : Nat), Fr h₀ L h' m → News h₀ L h' news → Q (.int x t) { s with heap := h', toks := tk' }) (F : Fr h₀ L h' m) (N : News h₀ L h' news) (e : y = x) : Q (.int y t) { s with heap := h', toks := tk' } := by
  subst e; exact hret _ _ _ F N
theorem endS {x y : Str} {t : Tok} {h' : Heap} {tk' : Nat} (hret : ∀ (t : Tok) (h' : Heap) (tk' : Nat), Fr h₀ L h' m → News h₀ L h' news → Q (.str x t) { s with heap := h', toks := tk' }) (F : Fr h₀ L h' m) (N : News h₀ L h' news) (e : y = x) : Q (.str y t) { s with heap := h', toks := tk' } := by
  subst e; exact hret _ _ _ F N
end

theorem room0 {a j k L : Nat} (h : a + j < L) (hk : k ≤ j) : a + k < L := Nat.lt_of_le_of_lt (Nat.add_le_add_left hk a) h
theorem room1 {a i j k L : Nat} (h : a + j < L) (hk : i + k ≤ j) : a + i + k < L := by rw [Nat.add_assoc]; exact room0 h hk
local macro_rules | `(tactic| k_all) => `(tactic| first | assumption | exact allLt_ne (by assumption) (by omega))
set_option maxHeartbeats 2000000
section
variable {w : World} {dp un : Nat} {gd : Option (List Code)} {cn : Str} {cs : Scope} {a : Addr} {ccd : Value} {cl : List (Str × Addr)} {outer : List Env} {A₀ : Around} {base h₀ : Heap} {L : Addr} {m : Str → Option Value} {news : List (Addr × Obj)} {s : Shared}
  {Q E : Value → Shared → Prop} {p : Program} {loose : List Str} {mean : ExcName → Option Value} {mg mb : Str → Option Value}
theorem c_between {small whole low under high below : Int} {t1 t2 t3 t4 t5 t6 : Tok} {e : Addr} {n : Nat}
  (B : Below A₀ base outer h₀) (F : Fr h₀ L s.heap m) (X : (hd.heap_39 w.params).In h₀) (N : News h₀ L s.heap news) (T : Top p loose mean mg mb h₀) (hk : cs.kind = .function)
  (he : (e, ({ cls := .type "tuple", data := .seq #[.int low t3, .int under t4, .int high t5, .int below t6] n } : Obj)) ∈ news)
  (b1 : 0 ≤ small ∧ small ≤ 64) (b2 : 0 ≤ whole ∧ whole ≤ 64) (b3 : 0 ≤ low ∧ low ≤ 64) (b4 : 0 ≤ under ∧ under ≤ 64) (b5 : 0 ≤ high ∧ high ≤ 64) (b6 : 0 ≤ below ∧ below ≤ 64) 
  (hd : dp + 1 < recursionLimit) (hu : un + 8 < cLine)
  (hret : ∀ (h' : Heap) (tk' : Nat), Fr h₀ L h' m → News h₀ L h' news → Q (.bool (decide (low * whole < small * under) && decide (small * below < high * whole))) { s with heap := h', toks := tk' }) :
  wpAny (model Challenge.rw_pe0195_01.row.prog w) (ktrTop dp un gd cn cs L a ccd cl outer) (call (.ref 103) [.int small t1, .int whole t2, .ref e]) Q E s := by
  w_top off
  k_with_none
  revert X; k_fill; intro X
  obtain ⟨b11, b12⟩ := b1
  obtain ⟨b21, b22⟩ := b2
  obtain ⟨b31, b32⟩ := b3
  obtain ⟨b41, b42⟩ := b4
  obtain ⟨b51, b52⟩ := b5
  obtain ⟨b61, b62⟩ := b6
  refine wpAny_call ?_
  k_dflt cell_enter
  k_steps
  all_goals (refine endB hret (by assumption) (by assumption) ?_)
  · rename_i h _ _ _ _; simp [h]
  · rename_i h _ _ _ _; simp [h]

/-- the number of plain subtractions from l and r to equal numbers, with fuel -/
def subs : Nat → Int → Int → Int
  | 0, _, _ => 0
  | f + 1, l, r => if l = r then 0 else if l < r then 1 + subs f l (r - l) else 1 + subs f (l - r) r
theorem subs_fuel : ∀ (f g : Nat) (l r : Int), 0 < l → 0 < r → l + r ≤ f + 1 → l + r ≤ g + 1 → subs f l r = subs g l r
  | 0, g, l, r, h1, h2, h3, _ => by omega
  | f + 1, 0, l, r, h1, h2, _, h4 => by omega
  | f + 1, g + 1, l, r, h1, h2, h3, h4 => by
    unfold subs
    split
    · rfl
    · split
      · rw [subs_fuel f g l (r - l) h1 (by omega) (by omega) (by omega)]
      · rw [subs_fuel f g (l - r) r (by omega) h2 (by omega) (by omega)]
theorem subs_step {l r : Int} (h1 : 0 < l) (h2 : 0 < r) (h3 : l + r ≤ 64) (h4 : l ≠ r) : subs 64 l r = if l < r then 1 + subs 64 l (r - l) else 1 + subs 64 (l - r) r := by
  have e : subs 64 l r = if l = r then 0 else if l < r then 1 + subs 63 l (r - l) else 1 + subs 63 (l - r) r := rfl
  rw [e, if_neg h4]
  split
  · rw [subs_fuel 63 64 l (r - l) h1 (by omega) (by omega) (by omega)]
  · rw [subs_fuel 63 64 (l - r) r (by omega) h2 (by omega) (by omega)]
theorem subs_lt {l r : Int} (h1 : 0 < l) (h2 : 0 < r) (h3 : l + r ≤ 64) (h4 : l < r) : subs 64 l r = 1 + subs 64 l (r - l) := by
  rw [subs_step h1 h2 h3 (by omega), if_pos h4]
theorem subs_gt {l r : Int} (h1 : 0 < l) (h2 : 0 < r) (h3 : l + r ≤ 64) (h4 : ¬ l < r) (h5 : l ≠ r) : subs 64 l r = 1 + subs 64 (l - r) r := by
  rw [subs_step h1 h2 h3 h5, if_neg h4]
theorem subs_eq {l r : Int} (h : l = r) : subs 64 l r = 0 := by
  show (if l = r then 0 else _) = _
  rw [if_pos h]

theorem subsA {l r c T : Int} (h1 : 0 < l) (h2 : 0 < r) (h3 : l + r ≤ 64) (h : c + subs 64 l r = T) (hl : l < r) : 0 < l ∧ 0 < r - l ∧ l + (r - l) ≤ 64 ∧ c + 1 + subs 64 l (r - l) = T := by
  rw [subs_lt h1 h2 h3 hl] at h
  omega
theorem subsB {l r c T : Int} (h1 : 0 < l) (h2 : 0 < r) (h3 : l + r ≤ 64) (h : c + subs 64 l r = T) (hl : ¬ l < r) (hn : l ≠ r) : 0 < l - r ∧ 0 < r ∧ l - r + r ≤ 64 ∧ c + 1 + subs 64 (l - r) r = T := by
  rw [subs_gt h1 h2 h3 hl hn] at h
  omega
theorem c_subs {small whole : Int} {t1 t2 : Tok} 
  (B : Below A₀ base outer h₀) (F : Fr h₀ L s.heap m) (X : (hd.heap_39 w.params).In h₀) (N : News h₀ L s.heap news) (T : Top p loose mean mg mb h₀) (hk : cs.kind = .function)
  (b1 : 0 < small) (b2 : small < whole) (b3 : whole ≤ 64) 
  (hd : dp + 1 < recursionLimit) (hu : un + 8 < cLine)
  (hret : ∀ (t : Tok) (h' : Heap) (tk' : Nat), Fr h₀ L h' m → News h₀ L h' news → Q (.int (subs 64 small (whole - small)) t) { s with heap := h', toks := tk' }) :
  wpAny (model Challenge.rw_pe0195_01.row.prog w) (ktrTop dp un gd cn cs L a ccd cl outer) (call (.ref 91) [.int small t1, .int whole t2]) Q E s := by
  w_top off
  k_with_none
  revert X; k_fill; intro X
  refine wpAny_call ?_
  k_dflt cell_enter
  (k_with "exec While Compare cons nil" => k_while (fun _ l r c => 0 < l ∧ 0 < r ∧ l + r ≤ 64 ∧ c + subs 64 l r = subs 64 small (whole - small)) (fun _ l r c => (l + r).toNat) "left" "right" "count")
  (k_with "state" => first | exact subsA (by assumption) (by assumption) (by assumption) (by assumption) (by assumption) | exact subsB (by assumption) (by assumption) (by assumption) (by assumption) (by assumption) (by assumption))
  k_steps
  refine endI hret (by assumption) (cb_drop (by assumption) fun _ h => List.Mem.tail _ h) ?_
  have e := subs_eq (by assumption)
  omega
end

set_option maxHeartbeats 2000000
/-- the d digits of x of n bits each, the lowest first -/
def dig (n : Nat) : Nat → Int → List Int
  | 0, _ => []
  | d + 1, x => x % 2 ^ n :: dig n d (x / 2 ^ n)
/-- a list with a run of its places written anew -/
def put (lo : Nat) (new ds : List Int) : List Int := ds.take lo ++ new ++ ds.drop (lo + new.length)
/-- the number of such digits -/
def val (n : Nat) : List Int → Int
  | [] => 0
  | d :: r => d + 2 ^ n * val n r
theorem dig_length (n : Nat) : ∀ (d : Nat) (x : Int), (dig n d x).length = d
  | 0, _ => rfl
  | d + 1, x => by rw [dig, List.length_cons, dig_length n d]
theorem put_length {lo : Nat} {new ds : List Int} (h : lo + new.length ≤ ds.length) : (put lo new ds).length = ds.length := by
  unfold put
  simp only [List.length_append, List.length_take, List.length_drop]
  lia
theorem put_put {lo : Nat} {p q ds : List Int} (h : lo + p.length + q.length ≤ ds.length) : put (lo + p.length) q (put lo p ds) = put lo (p ++ q) ds := by
  unfold put
  have hl : (ds.take lo ++ p).length = lo + p.length := by
    simp only [List.length_append, List.length_take]
    lia
  rw [show ds.take lo ++ p ++ ds.drop (lo + p.length) = (ds.take lo ++ p) ++ ds.drop (lo + p.length) from rfl, List.take_append, List.drop_append, hl]
  rw [List.take_of_length_le (l := ds.take lo ++ p) (by rw [hl]; exact Nat.le_refl _), List.drop_of_length_le (l := ds.take lo ++ p) (by rw [hl]; lia)]
  rw [show lo + p.length - (lo + p.length) = 0 by lia, List.take_zero, List.drop_drop, List.length_append]
  rw [show lo + p.length + (lo + p.length + q.length - (lo + p.length)) = lo + (p.length + q.length) by lia]
  simp only [List.append_assoc, List.append_nil, List.nil_append]
theorem two_pos (n : Nat) : (0 : Int) < 2 ^ n := Int.pow_pos (by decide)
theorem div_div_pow (x : Int) (a b : Nat) : x / 2 ^ a / 2 ^ b = x / 2 ^ (a + b) := by
  rw [Int.ediv_ediv_of_nonneg (Int.le_of_lt (two_pos a)), Int.pow_add]
theorem mod_mod_pow (x : Int) {a b : Nat} (h : a ≤ b) : x % 2 ^ b % 2 ^ a = x % 2 ^ a := by
  refine Int.emod_emod_of_dvd x ?_
  rw [show b = a + (b - a) by lia, Int.pow_add]
  exact Int.dvd_mul_right _ _
theorem mod_div_pow (x : Int) (a b : Nat) : x % 2 ^ (a + b) / 2 ^ a = x / 2 ^ a % 2 ^ b := by
  have h1 := Int.emod_add_mul_ediv x (2 ^ (a + b))
  have hp : (2 : Int) ^ (a + b) = 2 ^ a * 2 ^ b := Int.pow_add ..
  have h2 : x / 2 ^ a = x % 2 ^ (a + b) / 2 ^ a + 2 ^ b * (x / 2 ^ (a + b)) := by
    conv => lhs; rw [← h1]
    rw [hp, Int.mul_assoc, Int.add_mul_ediv_left _ _ (Int.ne_of_gt (two_pos a))]
  rw [h2, Int.add_mul_emod_self_left]
  refine (Int.emod_eq_of_lt ?_ ?_).symm
  · exact Int.ediv_nonneg (Int.emod_nonneg _ (Int.ne_of_gt (two_pos _))) (Int.le_of_lt (two_pos _))
  · refine Int.ediv_lt_of_lt_mul (two_pos a) ?_
    rw [Int.mul_comm, ← hp]
    exact Int.emod_lt_of_pos _ (two_pos _)
theorem dig_mod (n : Nat) : ∀ (d : Nat) (x : Int), dig n d (x % 2 ^ (n * d)) = dig n d x
  | 0, _ => rfl
  | d + 1, x => by
    rw [dig, dig, mod_mod_pow x (by rw [Nat.mul_succ]; lia)]
    rw [show n * (d + 1) = n + n * d by rw [Nat.mul_succ]; lia, mod_div_pow, dig_mod n d]
theorem dig_add (n : Nat) (e : Nat) : ∀ (d : Nat) (x : Int), dig n (d + e) x = dig n d x ++ dig n e (x / 2 ^ (n * d))
  | 0, x => by simp [dig]
  | d + 1, x => by
    rw [show d + 1 + e = (d + e) + 1 by lia, dig, dig, dig_add n e d, List.cons_append, div_div_pow]
    rw [show n * (d + 1) = n + n * d by rw [Nat.mul_succ]; lia]
theorem dig_zero (n : Nat) : ∀ d : Nat, dig n d 0 = List.replicate d 0
  | 0 => rfl
  | d + 1 => by rw [dig, List.replicate_succ, Int.zero_emod, Int.zero_ediv, dig_zero n d]
theorem val_dig (n : Nat) : ∀ (d : Nat) (x : Int), 0 ≤ x → x < 2 ^ (n * d) → val n (dig n d x) = x
  | 0, x, h1, h2 => by
    have : (2 : Int) ^ (n * 0) = 1 := by rw [Nat.mul_zero]; rfl
    rw [this] at h2
    show (0 : Int) = x
    lia
  | d + 1, x, h1, h2 => by
    rw [dig, val, val_dig n d]
    · exact Int.emod_add_mul_ediv x (2 ^ n)
    · exact Int.ediv_nonneg h1 (Int.le_of_lt (two_pos n))
    · refine Int.ediv_lt_of_lt_mul (two_pos n) ?_
      rw [← Int.pow_add, show n * d + n = n * (d + 1) by rw [Nat.mul_succ]]
      exact h2
theorem val_append (n : Nat) (q : List Int) : ∀ p : List Int, val n (p ++ q) = val n p + 2 ^ (n * p.length) * val n q
  | [] => by simp [val]
  | d :: r => by
    rw [List.cons_append, val, val, val_append n q r, List.length_cons, show n * (r.length + 1) = n + n * r.length by rw [Nat.mul_succ]; lia, Int.pow_add, Int.mul_add, Int.mul_assoc, Int.add_assoc]
theorem and_high (x k : Nat) : x &&& (x / 2 ^ k * 2 ^ k) = x / 2 ^ k * 2 ^ k := by
  apply Nat.eq_of_testBit_eq
  intro i
  rw [Nat.testBit_and, ← Nat.shiftRight_eq_div_pow, ← Nat.shiftLeft_eq, Nat.testBit_shiftLeft, Nat.testBit_shiftRight]
  by_cases h : i ≥ k
  · rw [show k + (i - k) = i by lia]
    simp
  · simp [h]
theorem xor_high {x : Int} (h : 0 ≤ x) (k : Nat) : Builtin.bitXor x (x.fdiv (2 ^ k) * 2 ^ k) = x % 2 ^ k := by
  rw [Int.fdiv_eq_ediv_of_nonneg _ (Int.le_of_lt (two_pos k))]
  obtain ⟨m, rfl⟩ := Int.eq_ofNat_of_zero_le h
  have e : (m : Int) / 2 ^ k * 2 ^ k = ((m / 2 ^ k * 2 ^ k : Nat) : Int) := by
    rw [Int.natCast_mul, Int.natCast_ediv, Int.natCast_pow]; rfl
  have h2 := Int.emod_add_mul_ediv (m : Int) (2 ^ k)
  rw [Int.mul_comm] at h2
  rw [bitXor_and, e, bitAnd_pp (Int.natCast_nonneg _) (Int.natCast_nonneg _), Int.toNat_natCast, Int.toNat_natCast, and_high, ← e]
  lia
theorem mid_is {lo hi : Int} {d : Nat} (h : hi = lo + d) : (lo + hi).fdiv (2 ^ Int.toNat 1) = lo + ((d / 2 : Nat) : Int) := by
  rw [show ((2 : Int) ^ Int.toNat 1) = 2 from rfl, Int.fdiv_eq_ediv_of_nonneg _ (by decide)]
  lia
theorem pow_toNat {n e : Int} (hn : 0 ≤ n) (he : 0 ≤ e) : (e * n).toNat = n.toNat * e.toNat := by
  rw [Int.toNat_mul he hn, Nat.mul_comm]

theorem split_ok {x lo hi n : Int} {d : Nat} {ds : List Int} (h1 : 0 ≤ lo) (h2 : hi = lo + d) (h3 : hi ≤ ds.length) (h4 : ds.length ≤ 20) (h5 : 2 ≤ d) (h6 : 0 ≤ x) (h7 : x < 2 ^ (n.toNat * d)) (h8 : 0 < n) (h9 : n < 20) (h12 : x < 1048576) :
    (Builtin.bitXor x (x.fdiv (2 ^ (((lo + hi).fdiv (2 ^ Int.toNat 1) - lo) * n).toNat) * 2 ^ (((lo + hi).fdiv (2 ^ Int.toNat 1) - lo) * n).toNat)) < 1048576 ∧ (x.fdiv (2 ^ (((lo + hi).fdiv (2 ^ Int.toNat 1) - lo) * n).toNat)) < 1048576 ∧ 0 ≤ (((lo + hi).fdiv (2 ^ Int.toNat 1) - lo) * n) ∧ (((lo + hi).fdiv (2 ^ Int.toNat 1) - lo) * n) ≤ 400 ∧ 0 ≤ (Builtin.bitXor x (x.fdiv (2 ^ (((lo + hi).fdiv (2 ^ Int.toNat 1) - lo) * n).toNat) * 2 ^ (((lo + hi).fdiv (2 ^ Int.toNat 1) - lo) * n).toNat)) ∧ (Builtin.bitXor x (x.fdiv (2 ^ (((lo + hi).fdiv (2 ^ Int.toNat 1) - lo) * n).toNat) * 2 ^ (((lo + hi).fdiv (2 ^ Int.toNat 1) - lo) * n).toNat)) < 2 ^ (n.toNat * ((lo + hi).fdiv (2 ^ Int.toNat 1) - lo).toNat) ∧ 0 ≤ (x.fdiv (2 ^ (((lo + hi).fdiv (2 ^ Int.toNat 1) - lo) * n).toNat)) ∧ (x.fdiv (2 ^ (((lo + hi).fdiv (2 ^ Int.toNat 1) - lo) * n).toNat)) < 2 ^ (n.toNat * (hi - (lo + hi).fdiv (2 ^ Int.toNat 1)).toNat) ∧
    (put lo.toNat (dig n.toNat ((lo + hi).fdiv (2 ^ Int.toNat 1) - lo).toNat (Builtin.bitXor x (x.fdiv (2 ^ (((lo + hi).fdiv (2 ^ Int.toNat 1) - lo) * n).toNat) * 2 ^ (((lo + hi).fdiv (2 ^ Int.toNat 1) - lo) * n).toNat))) ds).length = ds.length ∧ put ((lo + hi).fdiv (2 ^ Int.toNat 1)).toNat (dig n.toNat (hi - (lo + hi).fdiv (2 ^ Int.toNat 1)).toNat (x.fdiv (2 ^ (((lo + hi).fdiv (2 ^ Int.toNat 1) - lo) * n).toNat))) (put lo.toNat (dig n.toNat ((lo + hi).fdiv (2 ^ Int.toNat 1) - lo).toNat (Builtin.bitXor x (x.fdiv (2 ^ (((lo + hi).fdiv (2 ^ Int.toNat 1) - lo) * n).toNat) * 2 ^ (((lo + hi).fdiv (2 ^ Int.toNat 1) - lo) * n).toNat))) ds) = put lo.toNat (dig n.toNat d x) ds := by
  have hm := mid_is h2
  generalize (lo + hi).fdiv (2 ^ Int.toNat 1) = mid at hm ⊢
  have hmn : (mid - lo).toNat = d / 2 := by lia
  have hmh : (hi - mid).toNat = d - d / 2 := by lia
  have hsh : ((mid - lo) * n).toNat = n.toNat * (d / 2) := by rw [pow_toNat (by lia) (by lia), hmn]
  have hlow := xor_high h6 (n.toNat * (d / 2))
  have hup : x.fdiv (2 ^ (n.toNat * (d / 2))) = x / 2 ^ (n.toNat * (d / 2)) := Int.fdiv_eq_ediv_of_nonneg _ (Int.le_of_lt (two_pos _))
  rw [hsh, hmn, hmh, hlow, hup]
  have hpl : (put lo.toNat (dig n.toNat (d / 2) (x % 2 ^ (n.toNat * (d / 2)))) ds).length = ds.length := put_length (by rw [dig_length]; lia)
  have hl2 : x % 2 ^ (n.toNat * (d / 2)) ≤ x := by
    have e1 := Int.emod_add_mul_ediv x (2 ^ (n.toNat * (d / 2)))
    have e2 := Int.mul_nonneg (Int.le_of_lt (two_pos (n.toNat * (d / 2)))) (Int.ediv_nonneg h6 (Int.le_of_lt (two_pos (n.toNat * (d / 2)))))
    lia
  have hu2 : x / 2 ^ (n.toNat * (d / 2)) ≤ x := Int.ediv_le_self _ h6
  refine ⟨by lia, by lia, Int.mul_nonneg (by lia) (by lia), ?_, Int.emod_nonneg _ (Int.ne_of_gt (two_pos _)), Int.emod_lt_of_pos _ (two_pos _), Int.ediv_nonneg h6 (Int.le_of_lt (two_pos _)), ?_, hpl, ?_⟩
  · have : (mid - lo) * n ≤ 20 * 20 := Int.mul_le_mul (by lia) (by lia) (by lia) (by decide)
    lia
  · refine Int.ediv_lt_of_lt_mul (two_pos _) ?_
    rw [← Int.pow_add, ← Nat.mul_add, show d - d / 2 + d / 2 = d by lia]
    exact h7
  · rw [dig_mod, show mid.toNat = lo.toNat + (dig n.toNat (d / 2) x).length by rw [dig_length]; lia, put_put (by rw [dig_length, dig_length]; lia)]
    have e := dig_add n.toNat (d - d / 2) (d / 2) x
    rw [show d / 2 + (d - d / 2) = d by lia] at e
    rw [e]
theorem leaf_ok {x lo hi n : Int} {d : Nat} {ds : List Int} (h1 : 0 ≤ lo) (h2 : hi = lo + d) (h3 : hi ≤ ds.length) (h5 : d = 1) (h6 : 0 ≤ x) (h7 : x < 2 ^ (n.toNat * d)) : put lo.toNat (dig n.toNat d x) ds = ds.set lo.toNat x := by
  subst h5
  rw [Nat.mul_one] at h7
  rw [dig, dig, Int.emod_eq_of_lt h6 h7]
  unfold put
  rw [List.set_eq_take_append_cons_drop, if_pos (by lia)]
  simp

set_option maxHeartbeats 2000000
def In1 (w : World) (p : Program) (loose : List Str) (mean : ExcName → Option Value) (mg mb : Str → Option Value) (f D : Addr) (n : Int) (own : List (Addr × Obj)) (d : Nat) : Prop :=
  ∀ (dp un : Nat) (gd : Option (List Code)) (cn : Str) (cs : Scope) (a : Addr) (ccd : Value) (cl : List (Str × Addr)) (outer : List Env) (A₀ : Around) (base h₀ : Heap) (L : Addr) (m : Str → Option Value) (s : Shared) (Q E : Value → Shared → Prop)
    (x lo hi : Int) (tx tl th : Tok) (vs : List Value) (ds : List Int) (k : Nat),
    CodeHd base 34 30 → Below A₀ base outer h₀ → Fr h₀ L s.heap m → (hd.heap_39 w.params).In h₀ → News h₀ L s.heap ((D, listOf vs.toArray k) :: own) → Top p loose mean mg mb h₀ → cs.kind = .function →
    IntsAre vs ds → 0 ≤ lo → hi = lo + d → hi ≤ ds.length → ds.length ≤ 20 → 0 < d → 0 ≤ x → x < 2 ^ (n.toNat * d) → 0 < n → n < 20 → dp + d < recursionLimit → un + 8 * d < cLine → x < 1048576 →
    (∀ (vs' : List Value) (k' : Nat) (h' : Heap) (tk' : Nat), IntsAre vs' (put lo.toNat (dig n.toNat d x) ds) → Fr h₀ L h' m → News h₀ L h' ((D, listOf vs'.toArray k') :: own) → Q .none { s with heap := h', toks := tk' }) →
    wpAny (model Challenge.rw_pe0195_01.row.prog w) (ktrTop dp un gd cn cs L a ccd cl outer) (call (.ref f) [.int x tx, .int lo tl, .int hi th]) Q E s
def In1Lt (w : World) (p : Program) (loose : List Str) (mean : ExcName → Option Value) (mg mb : Str → Option Value) (f D : Addr) (n : Int) (own : List (Addr × Obj)) (d : Nat) : Prop := ∀ d', d' < d → In1 w p loose mean mg mb f D n own d'
theorem in1_of {w : World} {p : Program} {loose : List Str} {mean : ExcName → Option Value} {mg mb : Str → Option Value} {f D : Addr} {n : Int} {own : List (Addr × Obj)}
    (step : ∀ d, In1Lt w p loose mean mg mb f D n own d → In1 w p loose mean mg mb f D n own d) : ∀ d, In1 w p loose mean mg mb f D n own d := by
  have all : ∀ k, ∀ d, d < k → In1 w p loose mean mg mb f D n own d := by
    intro k
    induction k with
    | zero => intro d h; exact absurd h (Nat.not_lt_zero _)
    | succ k ih => exact fun d h => step d fun d' h' => ih d' (Nat.lt_of_lt_of_le h' (Nat.le_of_lt_succ h))
  exact fun d => all _ d (Nat.lt_succ_self _)
theorem in1_use {w : World} {p : Program} {loose : List Str} {mean : ExcName → Option Value} {mg mb : Str → Option Value} {f D : Addr} {n : Int} {own : List (Addr × Obj)} {d : Nat}
  {dp un : Nat} {gd : Option (List Code)} {cn : Str} {cs : Scope} {a : Addr} {ccd : Value} {cl : List (Str × Addr)} {outer : List Env} {A₀ : Around} {base h₀ : Heap} {L : Addr} {m : Str → Option Value} {s : Shared} {Q E : Value → Shared → Prop}
    {x lo hi : Int} {tx tl th : Tok} {vs : List Value} {ds : List Int} {k : Nat}
    (IH : In1Lt w p loose mean mg mb f D n own d)
    (hch : CodeHd base 34 30) (B : Below A₀ base outer h₀) (F : Fr h₀ L s.heap m) (X : (hd.heap_39 w.params).In h₀) (N : News h₀ L s.heap ((D, listOf vs.toArray k) :: own)) (T : Top p loose mean mg mb h₀) (hk : cs.kind = .function)
    (hI : IntsAre vs ds) (hlt : (hi - lo).toNat < d) (h1 : 0 ≤ lo) (h3 : hi ≤ ds.length) (h4 : ds.length ≤ 20) (h5 : lo < hi) (h6 : 0 ≤ x) (h7 : x < 2 ^ (n.toNat * (hi - lo).toNat)) (h8 : 0 < n) (h9 : n < 20) (h10 : dp + (hi - lo).toNat < recursionLimit) (h11 : un + 8 * (hi - lo).toNat < cLine) (h12 : x < 1048576)
    (ret : ∀ (vs' : List Value) (k' : Nat) (h' : Heap) (tk' : Nat), IntsAre vs' (put lo.toNat (dig n.toNat (hi - lo).toNat x) ds) → Fr h₀ L h' m → News h₀ L h' ((D, listOf vs'.toArray k') :: own) → Q .none { s with heap := h', toks := tk' }) :
    wpAny (model Challenge.rw_pe0195_01.row.prog w) (ktrTop dp un gd cn cs L a ccd cl outer) (call (.ref f) [.int x tx, .int lo tl, .int hi th]) Q E s :=
  IH (hi - lo).toNat hlt _ _ _ _ _ _ _ _ _ _ _ _ _ _ _ _ _ _ _ _ _ _ _ _ _ _ hch B F X N T hk hI h1 (by omega) h3 h4 (by omega) h6 h7 h8 h9 h10 h11 h12 ret
section
theorem in1_step {w : World} {p : Program} {loose : List Str} {mean : ExcName → Option Value} {mg mb : Str → Option Value} {f D : Addr} {n : Int} {own : List (Addr × Obj)} {tn : Tok}
  {name qual : Str} {doc pm ctv : Value} {c' cI cA cN : Addr} {oc oI oA oN : Obj} {cvs : Array Value} {ct : Tok}
  (hfo : (f, fnMade name qual (fnArgs I1) (fnBody I1) (fnScope I1) [(Str.ofString "n", cN), (Str.ofString "inner", cI), (Str.ofString "a_digits", cA)] doc pm c' ctv) ∈ own)
  (hco : (c', oc) ∈ own) (hcd : oc.data = .fields cvs) (hcq : cvs[1]? = some (.str qual ct))
  (hI : (cI, oI) ∈ own) (dI : oI.data = .cell (some (.ref f))) (hA : (cA, oA) ∈ own) (dA : oA.data = .cell (some (.ref D))) (hN : (cN, oN) ∈ own) (dN : oN.data = .cell (some (.int n tn)))
  (hne : ∀ q ∈ own, q.1 ≠ D) : ∀ d, In1Lt w p loose mean mg mb f D n own d → In1 w p loose mean mg mb f D n own d := by
  w_top off
  k_with_none
  (k_with "call ref" => (k_here; k_dflt (refine' in1_use ?zqkI ?zqk0 ?zqk1 ?zqk2 ?zqk3 ?zqk4 ?zqk5 ?zqkK ?zqkV ?zqkl ?zqh1 ?zqh3 ?zqh4 ?zqh5 ?zqh6 ?zqh7 ?zqh8 ?zqh9 ?zqh10 ?zqh11 ?zqh12 ?_; (case zqkI => assumption); (case zqk0 => assumption); (case zqk1 => k_asm); (case zqk2 => k_asm); (case zqk3 => k_asm); (case zqk4 => k_asm); (case zqk5 => k_asm); (case zqkK => exact rfl); (case zqkV => assumption); (case zqkl => omega); (case zqh1 => omega); (case zqh3 => omega); (case zqh4 => omega); (case zqh5 => omega); (case zqh6 => assumption); (case zqh7 => assumption); (case zqh8 => assumption); (case zqh9 => assumption); (case zqh10 => first | exact room1 (by assumption) (by decide) | exact room0 (by assumption) (by decide) | ktr_room); (case zqh11 => first | exact room1 (by assumption) (by decide) | exact room0 (by assumption) (by decide) | ktr_units); (case zqh12 => assumption)); intro vs9 k9 h9 tk9 hV9 F9 N9))
  (k_with "eval Name" => (k_here; k_dflt (refine' nameX_F ?zqN ?zqc ?zqm ?zqd ?_ ?zqa ?zqb; (case zqa => rfl); (case zqb => rfl); (case zqN => k_asm); (case zqc => rfl); (case zqm => exact List.Mem.tail _ (by assumption)); (case zqd => assumption); k_whole)))
  (k_with "FnAt" => (k_dflt (exact FnAt.of (by k_asm) (List.Mem.tail _ (by assumption)))))
  (k_with "callWith ref" => (k_here; k_dflt (refine' callWith_F ?zqk1 ?_; (case zqk1 => exact FnAt.of (by k_asm) (List.Mem.tail _ (by assumption))); k_whole)))
  conv at hfo in fnBody I1 => whnf
  conv at hfo in fnArgs I1 => whnf
  conv at hfo in fnScope I1 => whnf
  intro d IH
  unfold In1
  intro dp un gd cn cs a ccd cl outer A₀ base h₀ L m s Q E x lo hi tx tl th vs ds k hch B F X N T hk hV h1 h2 h3 h4 h5 h6 h7 h8 h9 h10 h11 h12 hret
  revert X; k_fill; intro X
  by_cases hd1 : d = 1
  · have hleaf := leaf_ok h1 h2 h3 hd1 h6 h7
    have hq : decide (lo + 1 = hi) = true := by rw [decide_eq_true_eq]; omega
    refine wpAny_call ?_
    k_dflt (refine' code_nest ?k1 ?k2 ?k3 ?k4 ?k5 ?kA ?kF ?kK ?k6 ?k7 ?k8 ?k9 ?kB ?_ ?c2 ?c3 ?c4 ?c5; (case kA => exact rfl); (case kF => exact rfl); (case kK => assumption); (case k1 => k_asm); (case k2 => k_asm); (case k3 => k_asm); (case k4 => k_asm); (case k5 => k_asm); (case k6 => exact List.Mem.tail _ hfo); (case k7 => exact codeRec_news N (List.Mem.tail _ hco) hcd hcq); (case k8 => ktr_room); (case k9 => exact BindsTo.of_eq rfl); (case c5 => decide); (case kB => exact locs rfl); (case c2 => exact rfl); (case c3 => exact rfl); (case c4 => exact rfl); k_whole; intro g' L' h' FG' F' N' B' X' T'; (try dsimp only); (try k_lift B'); (try k_fold))
    k_steps
    · exact hret _ _ _ _ (by rw [hleaf]; assumption) (by assumption) (by assumption)
    · exfalso; omega
  · have hq : decide (lo + 1 = hi) = false := by rw [decide_eq_false_iff_not]; omega
    have hs := split_ok h1 h2 h3 h4 (by omega) h6 h7 h8 h9 h12
    have hm := mid_is h2
    obtain ⟨s01, s02, s1, s2, s3, s4, s5, s6, s7, s8⟩ := hs
    refine wpAny_call ?_
    k_dflt (refine' code_nest ?k1 ?k2 ?k3 ?k4 ?k5 ?kA ?kF ?kK ?k6 ?k7 ?k8 ?k9 ?kB ?_ ?c2 ?c3 ?c4 ?c5; (case kA => exact rfl); (case kF => exact rfl); (case kK => assumption); (case k1 => k_asm); (case k2 => k_asm); (case k3 => k_asm); (case k4 => k_asm); (case k5 => k_asm); (case k6 => exact List.Mem.tail _ hfo); (case k7 => exact codeRec_news N (List.Mem.tail _ hco) hcd hcq); (case k8 => ktr_room); (case k9 => exact BindsTo.of_eq rfl); (case c5 => decide); (case kB => exact locs rfl); (case c2 => exact rfl); (case c3 => exact rfl); (case c4 => exact rfl); k_whole; intro g' L' h' FG' F' N' B' X' T'; (try dsimp only); (try k_lift B'); (try k_fold))
    k_steps
    · exfalso; omega
    · exact hret _ _ _ _ (by rw [← s8]; assumption) (by assumption) (by assumption)
end

set_option maxHeartbeats 2000000
theorem mem_third {α : Type} {a b c : α} {r : List α} : ∀ q ∈ c :: a :: b :: r, q ∈ a :: b :: c :: r := by
  intro q hq
  simp only [List.mem_cons] at hq ⊢
  rcases hq with h | h | h | h
  · exact .inr (.inr (.inl h))
  · exact .inl h
  · exact .inr (.inl h)
  · exact .inr (.inr (.inr h))
theorem mem_second {α : Type} {a c : α} {r : List α} : ∀ q ∈ c :: a :: r, q ∈ a :: c :: r := by
  intro q hq
  simp only [List.mem_cons] at hq ⊢
  rcases hq with h | h | h
  · exact .inr (.inl h)
  · exact .inl h
  · exact .inr (.inr h)
theorem allLt_le {d c : Nat} : ∀ {l : List (Addr × Obj)}, AllLt d l → d ≤ c → AllLt c l
  | [], _, _ => trivial
  | _ :: _, ⟨h1, h2⟩, hc => ⟨Nat.lt_of_lt_of_le h1 hc, allLt_le h2 hc⟩
theorem ints_tr {vs : List Value} {p q : List Int} (h : IntsAre vs p) (e : p = q) : IntsAre vs q := by rw [← e]; exact h
theorem pow_tr {x : Int} {n a b : Nat} (h : x < 2 ^ (n * b)) (e : a = b) : x < 2 ^ (n * a) := by rw [e]; exact h
theorem put_all {n k : Nat} {x : Int} {r : Nat} (e : r = k) : put (Int.toNat 0) (dig n r x) (List.replicate k [(0 : Int)]).flatten = dig n k x := by
  subst e
  unfold put
  rw [dig_length, krep_flat]
  simp
theorem put_none {n k : Nat} {x : Int} (e : x = 0) : (List.replicate k [(0 : Int)]).flatten = dig n k x := by
  subst e
  rw [dig_zero, krep_flat]
section
variable {w : World} {dp un : Nat} {gd : Option (List Code)} {cn : Str} {cs : Scope} {a : Addr} {ccd : Value} {cl : List (Str × Addr)} {outer : List Env} {A₀ : Around} {base h₀ : Heap} {L : Addr} {m : Str → Option Value} {news : List (Addr × Obj)} {s : Shared}
  {Q E : Value → Shared → Prop} {p : Program} {loose : List Str} {mean : ExcName → Option Value} {mg mb : Str → Option Value}
theorem in1_goE {x lo hi n : Int} {tx tl th tn : Tok} {vs : List Value} {ds : List Int} {k : Nat} {f D : Addr} {rest : List (Addr × Obj)}
  {name qual : Str} {doc pm ctv : Value} {c' cI cA cN : Addr} {oc oI oA oN : Obj} {cvs : Array Value} {ct : Tok}
  (hch : CodeHd base 34 30) (B : Below A₀ base outer h₀) (F : Fr h₀ L s.heap m) (X : (hd.heap_39 w.params).In h₀)
  (N : News h₀ L s.heap ((f, fnMade name qual (fnArgs I1) (fnBody I1) (fnScope I1) [(Str.ofString "n", cN), (Str.ofString "inner", cI), (Str.ofString "a_digits", cA)] doc pm c' ctv) :: (c', oc) :: (D, listOf vs.toArray k) :: rest)) (T : Top p loose mean mg mb h₀) (hk : cs.kind = .function)
  (hcd : oc.data = .fields cvs) (hcq : cvs[1]? = some (.str qual ct)) 
  (hI : (cI, oI) ∈ rest) (dI : oI.data = .cell (some (.ref f))) (hA : (cA, oA) ∈ rest) (dA : oA.data = .cell (some (.ref D))) (hN : (cN, oN) ∈ rest) (dN : oN.data = .cell (some (.int n tn)))
  (hne : ∀ q ∈ ((f, fnMade name qual (fnArgs I1) (fnBody I1) (fnScope I1) [(Str.ofString "n", cN), (Str.ofString "inner", cI), (Str.ofString "a_digits", cA)] doc pm c' ctv) :: (c', oc) :: rest), q.1 ≠ D)
    (hV : IntsAre vs ds) (h1 : 0 ≤ lo) (h3 : hi ≤ ds.length) (h4 : ds.length ≤ 20) (h5 : lo < hi) (h6 : 0 ≤ x) (h7 : x < 2 ^ (n.toNat * (hi - lo).toNat)) (h8 : 0 < n) (h9 : n < 20) (h10 : dp + (hi - lo).toNat < recursionLimit) (h11 : un + 8 * (hi - lo).toNat < cLine) (h12 : x < 1048576)
    (ret : ∀ (vs' : List Value) (k' : Nat) (h' : Heap) (tk' : Nat), IntsAre vs' (put lo.toNat (dig n.toNat (hi - lo).toNat x) ds) → Fr h₀ L h' m → News h₀ L h' ((D, listOf vs'.toArray k') :: ((f, fnMade name qual (fnArgs I1) (fnBody I1) (fnScope I1) [(Str.ofString "n", cN), (Str.ofString "inner", cI), (Str.ofString "a_digits", cA)] doc pm c' ctv) :: (c', oc) :: rest)) → Q .none { s with heap := h', toks := tk' }) :
    wpAny (model Challenge.rw_pe0195_01.row.prog w) (ktrTop dp un gd cn cs L a ccd cl outer) (call (.ref f) [.int x tx, .int lo tl, .int hi th]) Q E s :=
  in1_use (d := (hi - lo).toNat + 1) (fun d' _ => in1_of (in1_step (List.Mem.head _) (List.Mem.tail _ (List.Mem.head _)) hcd hcq (.tail _ (.tail _ hI)) dI (.tail _ (.tail _ hA)) dA (.tail _ (.tail _ hN)) dN hne) d') hch B F X
    (cb_drop N mem_third) T hk hV (by omega) h1 h3 h4 h5 h6 h7 h8 h9 h10 h11 h12 ret
theorem in1_goH {x lo hi n : Int} {tx tl th tn : Tok} {vs : List Value} {ds : List Int} {k : Nat} {f D : Addr} {rest : List (Addr × Obj)}
  {name qual : Str} {doc pm ctv : Value} {c' cI cA cN : Addr} {oc oI oA oN : Obj} {cvs : Array Value} {ct : Tok}
  (hch : CodeHd base 34 30) (B : Below A₀ base outer h₀) (F : Fr h₀ L s.heap m) (X : (hd.heap_39 w.params).In h₀)
  (N : News h₀ L s.heap ((f, fnMade name qual (fnArgs I1) (fnBody I1) (fnScope I1) [(Str.ofString "n", cN), (Str.ofString "inner", cI), (Str.ofString "a_digits", cA)] doc pm c' ctv) :: (D, listOf vs.toArray k) :: rest)) (T : Top p loose mean mg mb h₀) (hk : cs.kind = .function)
  (hcd : oc.data = .fields cvs) (hcq : cvs[1]? = some (.str qual ct)) (hco : (c', oc) ∈ rest)
  (hI : (cI, oI) ∈ rest) (dI : oI.data = .cell (some (.ref f))) (hA : (cA, oA) ∈ rest) (dA : oA.data = .cell (some (.ref D))) (hN : (cN, oN) ∈ rest) (dN : oN.data = .cell (some (.int n tn)))
  (hne : ∀ q ∈ ((f, fnMade name qual (fnArgs I1) (fnBody I1) (fnScope I1) [(Str.ofString "n", cN), (Str.ofString "inner", cI), (Str.ofString "a_digits", cA)] doc pm c' ctv) :: rest), q.1 ≠ D)
    (hV : IntsAre vs ds) (h1 : 0 ≤ lo) (h3 : hi ≤ ds.length) (h4 : ds.length ≤ 20) (h5 : lo < hi) (h6 : 0 ≤ x) (h7 : x < 2 ^ (n.toNat * (hi - lo).toNat)) (h8 : 0 < n) (h9 : n < 20) (h10 : dp + (hi - lo).toNat < recursionLimit) (h11 : un + 8 * (hi - lo).toNat < cLine) (h12 : x < 1048576)
    (ret : ∀ (vs' : List Value) (k' : Nat) (h' : Heap) (tk' : Nat), IntsAre vs' (put lo.toNat (dig n.toNat (hi - lo).toNat x) ds) → Fr h₀ L h' m → News h₀ L h' ((D, listOf vs'.toArray k') :: ((f, fnMade name qual (fnArgs I1) (fnBody I1) (fnScope I1) [(Str.ofString "n", cN), (Str.ofString "inner", cI), (Str.ofString "a_digits", cA)] doc pm c' ctv) :: rest)) → Q .none { s with heap := h', toks := tk' }) :
    wpAny (model Challenge.rw_pe0195_01.row.prog w) (ktrTop dp un gd cn cs L a ccd cl outer) (call (.ref f) [.int x tx, .int lo tl, .int hi th]) Q E s :=
  in1_use (d := (hi - lo).toNat + 1) (fun d' _ => in1_of (in1_step (List.Mem.head _) (List.Mem.tail _ hco) hcd hcq (.tail _ hI) dI (.tail _ hA) dA (.tail _ hN) dN hne) d') hch B F X
    (cb_drop N mem_second) T hk hV (by omega) h1 h3 h4 h5 h6 h7 h8 h9 h10 h11 h12 ret
section
theorem c_i2dE {x n : Int} {t1 t2 : Tok} 
  (B : Below A₀ base outer h₀) (F : Fr h₀ L s.heap m) (X : (hd.heap_39 w.params).In h₀) (N : News h₀ L s.heap ((30, tabObj #[]) :: news)) (T : Top p loose mean mg mb h₀) (hk : cs.kind = .function)
  (hch : CodeHd base 34 30) (b1 : 0 ≤ x) (b2 : x < 1048576) (b3 : 0 < n) (b4 : n < 20) (bq0 : 0 ≤ ((Builtin.Int.intBits x : Int) + n - 1).fdiv n) (bq1 : ((Builtin.Int.intBits x : Int) + n - 1).fdiv n ≤ 20) (bq2 : x ≠ 0 → 0 < ((Builtin.Int.intBits x : Int) + n - 1).fdiv n) (bq3 : x < 2 ^ (n.toNat * (((Builtin.Int.intBits x : Int) + n - 1).fdiv n).toNat))
  (hd : dp + 40 < recursionLimit) (hu : un + 400 < cLine) (hne : ∀ q ∈ news, q.1 ≠ 30)
  (hret : ∀ (r c : Addr) (oc : Obj) (cvs : Array Value) (ct : Tok) (vs : List Value) (k : Nat) (h' : Heap) (tk' : Nat), IntsAre vs (dig n.toNat (((Builtin.Int.intBits x : Int) + n - 1).fdiv n).toNat x) → Fr h₀ L h' m → News h₀ L h' ((r, listOf vs.toArray k) :: (30, tabObj #[rawInt 32, rawInt 4, .ref c]) :: (c, oc) :: news) → oc.data = .fields cvs → cvs[1]? = some (.str (Str.ofString "_int2digits.<locals>.inner") ct) → AllLt r news → AllLt c news → 30 < r → r < c → Q (.ref r) { s with heap := h', toks := tk' }) :
  wpAny (model Challenge.rw_pe0195_01.row.prog w) (ktrTop dp un gd cn cs L a ccd cl outer) (call (.ref 35) [.int x t1, .int n t2]) Q E s := by
  w_top off
  k_with_none
  (k_with "call ref" => (k_here; k_dflt (refine' in1_goE ?zqk0 ?zqk1 ?zqk2 ?zqk3 ?zqk4 ?zqk5 ?zqkK ?zqc1 ?zqc2  ?zqmI ?zqdI ?zqmA ?zqdA ?zqmN ?zqdN ?zqne ?zqkV ?zqh1 ?zqh3 ?zqh4 ?zqh5 ?zqh6 ?zqh7 ?zqh8 ?zqh9 ?zqh10 ?zqh11 ?zqh12 ?_; (case zqk0 => assumption); (case zqk1 => k_asm); (case zqk2 => k_asm); (case zqk3 => k_asm); (case zqk4 => k_asm); (case zqk5 => k_asm); (case zqkK => exact rfl); (case zqc1 => assumption); (case zqc2 => assumption);  (case zqmI => k_mem); (case zqdI => assumption); (case zqmA => k_mem); (case zqdA => assumption); (case zqmN => k_mem); (case zqdN => assumption); (case zqne => k_all); (case zqkV => assumption); (case zqh1 => omega); (case zqh3 => omega); (case zqh4 => omega); (case zqh5 => omega); (case zqh6 => assumption); (case zqh7 => exact pow_tr (by assumption) (by omega)); (case zqh8 => assumption); (case zqh9 => assumption); (case zqh10 => first | exact room1 (by assumption) (by decide) | exact room0 (by assumption) (by decide) | ktr_room); (case zqh11 => first | exact room1 (by assumption) (by decide) | exact room0 (by assumption) (by decide) | ktr_units); (case zqh12 => assumption)); intro vs9 k9 h9 tk9 hV9 F9 N9))
  revert X; k_fill; intro X
  refine wpAny_call ?_
  k_dflt (refine' code_defC ?k1 ?k2 ?k3 ?k4 ?k5 ?kA ?kF ?kK ?k6 ?k7 ?k8 ?k9 ?kB ?kD ?_ ?c2 ?c3 ?c4; (case kA => exact rfl); (case kF => exact rfl); (case kK => assumption); (case k1 => k_asm); (case k2 => k_asm); (case k3 => k_asm); (case k4 => k_asm); (case k5 => k_asm); (case k6 => k_is); (case k7 => k_is); (case k8 => ktr_room); (case k9 => exact BindsTo.of_eq rfl); (case kB => exact rfl); (case kD => decide +kernel); (case c2 => exact rfl); (case c3 => exact rfl); (case c4 => exact rfl); k_whole; intro g' L' h' tk' cells' FG' F' N' Y' B' X' T' l1; (try k_lt l1); k_cells Y'; (try simp only [List.cons_append, List.nil_append] at N'); (try dsimp only); (try k_lift B'); (try k_fold))
  obtain ⟨l30, lA⟩ := l1
  k_steps
  · exact hret _ _ _ _ _ _ _ _ _ (ints_tr (by assumption) (put_all (by omega))) (by assumption) (cb_drop (by assumption) (List.forall_mem_cons.mpr ⟨by k_mem, List.forall_mem_cons.mpr ⟨by k_mem, List.forall_mem_cons.mpr ⟨by k_mem, fun q hq => by repeat (first | exact hq | apply List.Mem.tail)⟩⟩⟩)) (by assumption) (by assumption) (allLt_le lA (by omega)) (allLt_le lA (by omega)) (ltN (by omega)) (ltN (by omega))
  · exact hret _ _ _ _ _ _ _ _ _ (ints_tr (by assumption) (put_none (by assumption))) (by assumption) (cb_drop (by assumption) (List.forall_mem_cons.mpr ⟨by k_mem, List.forall_mem_cons.mpr ⟨by k_mem, List.forall_mem_cons.mpr ⟨by k_mem, fun q hq => by repeat (first | exact hq | apply List.Mem.tail)⟩⟩⟩)) (by assumption) (by assumption) (allLt_le lA (by omega)) (allLt_le lA (by omega)) (ltN (by omega)) (ltN (by omega))
end
end

set_option maxHeartbeats 2000000
section
variable {w : World} {dp un : Nat} {gd : Option (List Code)} {cn : Str} {cs : Scope} {a : Addr} {ccd : Value} {cl : List (Str × Addr)} {outer : List Env} {A₀ : Around} {base h₀ : Heap} {L : Addr} {m : Str → Option Value} {news : List (Addr × Obj)} {s : Shared}
  {Q E : Value → Shared → Prop} {p : Program} {loose : List Str} {mean : ExcName → Option Value} {mg mb : Str → Option Value}
section
theorem c_i2dH {x n : Int} {t1 t2 : Tok} {c : Addr} {oc : Obj} {cvs : Array Value} {ct : Tok} (hcd : oc.data = .fields cvs) (hcq : cvs[1]? = some (.str (Str.ofString "_int2digits.<locals>.inner") ct))
  (B : Below A₀ base outer h₀) (F : Fr h₀ L s.heap m) (X : (hd.heap_39 w.params).In h₀) (N : News h₀ L s.heap ((30, tabObj #[rawInt 32, rawInt 4, .ref c]) :: (c, oc) :: news)) (T : Top p loose mean mg mb h₀) (hk : cs.kind = .function)
  (hch : CodeHd base 34 30) (b1 : 0 ≤ x) (b2 : x < 1048576) (b3 : 0 < n) (b4 : n < 20) (bq0 : 0 ≤ ((Builtin.Int.intBits x : Int) + n - 1).fdiv n) (bq1 : ((Builtin.Int.intBits x : Int) + n - 1).fdiv n ≤ 20) (bq2 : x ≠ 0 → 0 < ((Builtin.Int.intBits x : Int) + n - 1).fdiv n) (bq3 : x < 2 ^ (n.toNat * (((Builtin.Int.intBits x : Int) + n - 1).fdiv n).toNat))
  (hd : dp + 40 < recursionLimit) (hu : un + 400 < cLine)
  (hret : ∀ (r : Addr) (vs : List Value) (k : Nat) (h' : Heap) (tk' : Nat), IntsAre vs (dig n.toNat (((Builtin.Int.intBits x : Int) + n - 1).fdiv n).toNat x) → Fr h₀ L h' m → News h₀ L h' ((r, listOf vs.toArray k) :: (30, tabObj #[rawInt 32, rawInt 4, .ref c]) :: (c, oc) :: news) → AllLt r news → 30 < r → c < r → Q (.ref r) { s with heap := h', toks := tk' }) :
  wpAny (model Challenge.rw_pe0195_01.row.prog w) (ktrTop dp un gd cn cs L a ccd cl outer) (call (.ref 35) [.int x t1, .int n t2]) Q E s := by
  w_top off
  k_with_none
  (k_with "call ref" => (k_here; k_dflt (refine' in1_goH ?zqk0 ?zqk1 ?zqk2 ?zqk3 ?zqk4 ?zqk5 ?zqkK ?zqc1 ?zqc2 ?zqco ?zqmI ?zqdI ?zqmA ?zqdA ?zqmN ?zqdN ?zqne ?zqkV ?zqh1 ?zqh3 ?zqh4 ?zqh5 ?zqh6 ?zqh7 ?zqh8 ?zqh9 ?zqh10 ?zqh11 ?zqh12 ?_; (case zqk0 => assumption); (case zqk1 => k_asm); (case zqk2 => k_asm); (case zqk3 => k_asm); (case zqk4 => k_asm); (case zqk5 => k_asm); (case zqkK => exact rfl); (case zqc1 => assumption); (case zqc2 => assumption); (case zqco => k_mem); (case zqmI => k_mem); (case zqdI => assumption); (case zqmA => k_mem); (case zqdA => assumption); (case zqmN => k_mem); (case zqdN => assumption); (case zqne => k_all); (case zqkV => assumption); (case zqh1 => omega); (case zqh3 => omega); (case zqh4 => omega); (case zqh5 => omega); (case zqh6 => assumption); (case zqh7 => exact pow_tr (by assumption) (by omega)); (case zqh8 => assumption); (case zqh9 => assumption); (case zqh10 => first | exact room1 (by assumption) (by decide) | exact room0 (by assumption) (by decide) | ktr_room); (case zqh11 => first | exact room1 (by assumption) (by decide) | exact room0 (by assumption) (by decide) | ktr_units); (case zqh12 => assumption)); intro vs9 k9 h9 tk9 hV9 F9 N9))
  revert X; k_fill; intro X
  refine wpAny_call ?_
  k_dflt (refine' code_defC ?k1 ?k2 ?k3 ?k4 ?k5 ?kA ?kF ?kK ?k6 ?k7 ?k8 ?k9 ?kB ?kD ?_ ?c2 ?c3 ?c4; (case kA => exact rfl); (case kF => exact rfl); (case kK => assumption); (case k1 => k_asm); (case k2 => k_asm); (case k3 => k_asm); (case k4 => k_asm); (case k5 => k_asm); (case k6 => k_is); (case k7 => k_is); (case k8 => ktr_room); (case k9 => exact BindsTo.of_eq rfl); (case kB => exact rfl); (case kD => decide +kernel); (case c2 => exact rfl); (case c3 => exact rfl); (case c4 => exact rfl); k_whole; intro g' L' h' tk' cells' FG' F' N' Y' B' X' T' l1; (try k_lt l1); k_cells Y'; (try simp only [List.cons_append, List.nil_append] at N'); (try dsimp only); (try k_lift B'); (try k_fold))
  obtain ⟨l30, lc, lA⟩ := l1
  k_steps
  · exact hret _ _ _ _ _ (ints_tr (by assumption) (put_all (by omega))) (by assumption) (cb_drop (by assumption) (List.forall_mem_cons.mpr ⟨by k_mem, List.forall_mem_cons.mpr ⟨by k_mem, List.forall_mem_cons.mpr ⟨by k_mem, fun q hq => by repeat (first | exact hq | apply List.Mem.tail)⟩⟩⟩)) (allLt_le lA (by omega)) (ltN (by omega)) (ltN (by omega))
  · exact hret _ _ _ _ _ (ints_tr (by assumption) (put_none (by assumption))) (by assumption) (cb_drop (by assumption) (List.forall_mem_cons.mpr ⟨by k_mem, List.forall_mem_cons.mpr ⟨by k_mem, List.forall_mem_cons.mpr ⟨by k_mem, fun q hq => by repeat (first | exact hq | apply List.Mem.tail)⟩⟩⟩)) (allLt_le lA (by omega)) (ltN (by omega)) (ltN (by omega))
end
end

set_option maxHeartbeats 2000000
/-- the number of a run of digits -/
def vsl (n : Nat) (ds : List Int) (lo d : Nat) : Int := val n ((ds.drop lo).take d)
theorem val_nonneg {n : Nat} : ∀ {ds : List Int}, (∀ x ∈ ds, 0 ≤ x) → 0 ≤ val n ds
  | [], _ => Int.le_refl 0
  | d :: r, h => by
    have h1 := h d (.head _)
    have h2 := val_nonneg (n := n) fun x hx => h x (.tail _ hx)
    have h3 := Int.mul_nonneg (Int.le_of_lt (two_pos n)) h2
    rw [val]
    lia
theorem vsl_nonneg {n : Nat} {ds : List Int} (h : ∀ x ∈ ds, 0 ≤ x) (lo d : Nat) : 0 ≤ vsl n ds lo d :=
  val_nonneg fun x hx => h x (List.mem_of_mem_drop (List.mem_of_mem_take hx))
theorem vsl_add {n : Nat} {ds : List Int} {lo d e : Nat} (h : lo + d ≤ ds.length) : vsl n ds lo (d + e) = vsl n ds lo d + 2 ^ (n * d) * vsl n ds (lo + d) e := by
  unfold vsl
  rw [List.take_add, val_append, List.length_take, List.length_drop, List.drop_drop, Nat.min_eq_left (by lia)]
theorem vsl_one {n : Nat} {ds : List Int} {lo : Nat} (h : lo < ds.length) : vsl n ds lo 1 = ds.getD lo 0 := by
  unfold vsl
  rw [List.drop_eq_getElem_cons h, List.take_succ_cons, List.take_zero, val, val, Int.mul_zero, Int.add_zero, List.getD_eq_getElem?_getD, List.getElem?_eq_getElem h]
  rfl
theorem vsplit {lo hi n : Int} {d : Nat} {ds : List Int} (hp : ∀ x ∈ ds, 0 ≤ x) (h1 : 0 ≤ lo) (h2 : hi = lo + d) (h3 : hi ≤ ds.length) (h4 : ds.length ≤ 20) (h5 : 2 ≤ d) (h8 : 0 < n) (h9 : n < 20) (h12 : vsl n.toNat ds lo.toNat d < 1048576) :
    0 ≤ (((lo + hi).fdiv (2 ^ Int.toNat 1) - lo) * n) ∧ (((lo + hi).fdiv (2 ^ Int.toNat 1) - lo) * n) ≤ 400 ∧ 0 ≤ vsl n.toNat ds lo.toNat ((lo + hi).fdiv (2 ^ Int.toNat 1) - lo).toNat ∧ vsl n.toNat ds lo.toNat ((lo + hi).fdiv (2 ^ Int.toNat 1) - lo).toNat < 1048576 ∧ 0 ≤ vsl n.toNat ds ((lo + hi).fdiv (2 ^ Int.toNat 1)).toNat (hi - (lo + hi).fdiv (2 ^ Int.toNat 1)).toNat ∧ vsl n.toNat ds ((lo + hi).fdiv (2 ^ Int.toNat 1)).toNat (hi - (lo + hi).fdiv (2 ^ Int.toNat 1)).toNat < 1048576 ∧
    vsl n.toNat ds ((lo + hi).fdiv (2 ^ Int.toNat 1)).toNat (hi - (lo + hi).fdiv (2 ^ Int.toNat 1)).toNat * 2 ^ (((lo + hi).fdiv (2 ^ Int.toNat 1) - lo) * n).toNat + vsl n.toNat ds lo.toNat ((lo + hi).fdiv (2 ^ Int.toNat 1) - lo).toNat = vsl n.toNat ds lo.toNat d := by
  have hm := mid_is h2
  generalize (lo + hi).fdiv (2 ^ Int.toNat 1) = mid at hm ⊢
  have hmn : (mid - lo).toNat = d / 2 := by lia
  have hmh : (hi - mid).toNat = d - d / 2 := by lia
  have hsh : ((mid - lo) * n).toNat = n.toNat * (d / 2) := by rw [pow_toNat (by lia) (by lia), hmn]
  have hmid : mid.toNat = lo.toNat + d / 2 := by lia
  rw [hsh, hmn, hmh, hmid]
  have e := vsl_add (n := n.toNat) (ds := ds) (lo := lo.toNat) (d := d / 2) (e := d - d / 2) (by lia)
  rw [show d / 2 + (d - d / 2) = d by lia] at e
  have n1 := vsl_nonneg (n := n.toNat) hp lo.toNat (d / 2)
  have n2 := vsl_nonneg (n := n.toNat) hp (lo.toNat + d / 2) (d - d / 2)
  generalize vsl n.toNat ds lo.toNat (d / 2) = u at e n1 ⊢
  generalize vsl n.toNat ds (lo.toNat + d / 2) (d - d / 2) = v at e n2 ⊢
  have hP : (1 : Int) ≤ 2 ^ (n.toNat * (d / 2)) := two_pos _
  have hv : v ≤ 2 ^ (n.toNat * (d / 2)) * v := by
    have := Int.mul_le_mul_of_nonneg_right hP n2
    lia
  have hv0 : 0 ≤ 2 ^ (n.toNat * (d / 2)) * v := Int.mul_nonneg (by lia) n2
  rw [Int.mul_comm v]
  generalize 2 ^ (n.toNat * (d / 2)) * v = z at e hv hv0 ⊢
  refine ⟨Int.mul_nonneg (by lia) (by lia), ?_, n1, by lia, n2, by lia, by lia⟩
  have : (mid - lo) * n ≤ 20 * 20 := Int.mul_le_mul (by lia) (by lia) (by lia) (by decide)
  lia

set_option maxHeartbeats 2000000
def In2 (w : World) (p : Program) (loose : List Str) (mean : ExcName → Option Value) (mg mb : Str → Option Value) (f : Addr) (n : Int) (ds : List Int) (own : List (Addr × Obj)) (d : Nat) : Prop :=
  ∀ (dp un : Nat) (gd : Option (List Code)) (cn : Str) (cs : Scope) (a : Addr) (ccd : Value) (cl : List (Str × Addr)) (outer : List Env) (A₀ : Around) (base h₀ : Heap) (L : Addr) (m : Str → Option Value) (s : Shared) (Q E : Value → Shared → Prop)
    (lo hi : Int) (tl th : Tok),
    CodeHd base 41 37 → Below A₀ base outer h₀ → Fr h₀ L s.heap m → (hd.heap_39 w.params).In h₀ → News h₀ L s.heap own → Top p loose mean mg mb h₀ → cs.kind = .function →
    0 ≤ lo → hi = lo + d → hi ≤ ds.length → ds.length ≤ 20 → 0 < d → 0 < n → n < 20 → dp + d < recursionLimit → un + 8 * d < cLine → vsl n.toNat ds lo.toNat d < 1048576 →
    (∀ (t : Tok) (h' : Heap) (tk' : Nat), Fr h₀ L h' m → News h₀ L h' own → Q (.int (vsl n.toNat ds lo.toNat d) t) { s with heap := h', toks := tk' }) →
    wpAny (model Challenge.rw_pe0195_01.row.prog w) (ktrTop dp un gd cn cs L a ccd cl outer) (call (.ref f) [.int lo tl, .int hi th]) Q E s
def In2Lt (w : World) (p : Program) (loose : List Str) (mean : ExcName → Option Value) (mg mb : Str → Option Value) (f : Addr) (n : Int) (ds : List Int) (own : List (Addr × Obj)) (d : Nat) : Prop := ∀ d', d' < d → In2 w p loose mean mg mb f n ds own d'
theorem in2_of {w : World} {p : Program} {loose : List Str} {mean : ExcName → Option Value} {mg mb : Str → Option Value} {f : Addr} {n : Int} {ds : List Int} {own : List (Addr × Obj)}
    (step : ∀ d, In2Lt w p loose mean mg mb f n ds own d → In2 w p loose mean mg mb f n ds own d) : ∀ d, In2 w p loose mean mg mb f n ds own d := by
  have all : ∀ k, ∀ d, d < k → In2 w p loose mean mg mb f n ds own d := by
    intro k
    induction k with
    | zero => intro d h; exact absurd h (Nat.not_lt_zero _)
    | succ k ih => exact fun d h => step d fun d' h' => ih d' (Nat.lt_of_lt_of_le h' (Nat.le_of_lt_succ h))
  exact fun d => all _ d (Nat.lt_succ_self _)
theorem in2_use {w : World} {p : Program} {loose : List Str} {mean : ExcName → Option Value} {mg mb : Str → Option Value} {f : Addr} {n : Int} {ds : List Int} {own : List (Addr × Obj)} {d : Nat}
  {dp un : Nat} {gd : Option (List Code)} {cn : Str} {cs : Scope} {a : Addr} {ccd : Value} {cl : List (Str × Addr)} {outer : List Env} {A₀ : Around} {base h₀ : Heap} {L : Addr} {m : Str → Option Value} {s : Shared} {Q E : Value → Shared → Prop}
    {lo hi : Int} {tl th : Tok}
    (IH : In2Lt w p loose mean mg mb f n ds own d)
    (hch : CodeHd base 41 37) (B : Below A₀ base outer h₀) (F : Fr h₀ L s.heap m) (X : (hd.heap_39 w.params).In h₀) (N : News h₀ L s.heap own) (T : Top p loose mean mg mb h₀) (hk : cs.kind = .function)
    (hlt : (hi - lo).toNat < d) (h1 : 0 ≤ lo) (h3 : hi ≤ ds.length) (h4 : ds.length ≤ 20) (h5 : lo < hi) (h8 : 0 < n) (h9 : n < 20) (h10 : dp + (hi - lo).toNat < recursionLimit) (h11 : un + 8 * (hi - lo).toNat < cLine) (h12 : vsl n.toNat ds lo.toNat (hi - lo).toNat < 1048576)
    (ret : ∀ (t : Tok) (h' : Heap) (tk' : Nat), Fr h₀ L h' m → News h₀ L h' own → Q (.int (vsl n.toNat ds lo.toNat (hi - lo).toNat) t) { s with heap := h', toks := tk' }) :
    wpAny (model Challenge.rw_pe0195_01.row.prog w) (ktrTop dp un gd cn cs L a ccd cl outer) (call (.ref f) [.int lo tl, .int hi th]) Q E s :=
  IH (hi - lo).toNat hlt _ _ _ _ _ _ _ _ _ _ _ _ _ _ _ _ _ _ _ _ _ hch B F X N T hk h1 (by omega) h3 h4 (by omega) h8 h9 h10 h11 h12 ret
section
theorem in2_step {w : World} {p : Program} {loose : List Str} {mean : ExcName → Option Value} {mg mb : Str → Option Value} {f : Addr} {n : Int} {ds : List Int} {own : List (Addr × Obj)} {tn : Tok} {D : Addr} {vs : List Value} {k : Nat}
  {name qual : Str} {doc pm ctv : Value} {c' cI cA cN : Addr} {oc oI oA oN : Obj} {cvs : Array Value} {ct : Tok}
  (hfo : (f, fnMade name qual (fnArgs I2) (fnBody I2) (fnScope I2) [(Str.ofString "n", cN), (Str.ofString "inner", cI), (Str.ofString "digits", cA)] doc pm c' ctv) ∈ own)
  (hco : (c', oc) ∈ own) (hcd : oc.data = .fields cvs) (hcq : cvs[1]? = some (.str qual ct))
  (hI : (cI, oI) ∈ own) (dI : oI.data = .cell (some (.ref f))) (hA : (cA, oA) ∈ own) (dA : oA.data = .cell (some (.ref D))) (hN : (cN, oN) ∈ own) (dN : oN.data = .cell (some (.int n tn)))
  (hD : (D, listOf vs.toArray k) ∈ own) (hV : IntsAre vs ds) (hp : ∀ x ∈ ds, 0 ≤ x) : ∀ d, In2Lt w p loose mean mg mb f n ds own d → In2 w p loose mean mg mb f n ds own d := by
  w_top off
  k_with_none
  (k_with "call ref" => (k_here; k_dflt (refine' in2_use ?zqkI ?zqk0 ?zqk1 ?zqk2 ?zqk3 ?zqk4 ?zqk5 ?zqkK ?zqkl ?zqh1 ?zqh3 ?zqh4 ?zqh5 ?zqh8 ?zqh9 ?zqh10 ?zqh11 ?zqh12 ?_; (case zqkI => assumption); (case zqk0 => assumption); (case zqk1 => k_asm); (case zqk2 => k_asm); (case zqk3 => k_asm); (case zqk4 => k_asm); (case zqk5 => k_asm); (case zqkK => exact rfl); (case zqkl => omega); (case zqh1 => omega); (case zqh3 => omega); (case zqh4 => omega); (case zqh5 => omega); (case zqh8 => assumption); (case zqh9 => assumption); (case zqh10 => first | exact room1 (by assumption) (by decide) | exact room0 (by assumption) (by decide) | ktr_room); (case zqh11 => first | exact room1 (by assumption) (by decide) | exact room0 (by assumption) (by decide) | ktr_units); (case zqh12 => assumption)); intro t9 h9 tk9 F9 N9))
  (k_with "eval Name" => (k_here; k_dflt (refine' nameX_F ?zqN ?zqc ?zqm ?zqd ?_ ?zqa ?zqb; (case zqa => rfl); (case zqb => rfl); (case zqN => k_asm); (case zqc => rfl); (case zqm => assumption); (case zqd => assumption); k_whole)))
  (k_with "FnAt" => (k_dflt (exact FnAt.of (by k_asm) (by assumption))))
  (k_with "callWith ref" => (k_here; k_dflt (refine' callWith_F ?zqk1 ?_; (case zqk1 => exact FnAt.of (by k_asm) (by assumption)); k_whole)))
  conv at hfo in fnBody I2 => whnf
  conv at hfo in fnArgs I2 => whnf
  conv at hfo in fnScope I2 => whnf
  intro d IH
  unfold In2
  intro dp un gd cn cs a ccd cl outer A₀ base h₀ L m s Q E lo hi tl th hch B F X N T hk h1 h2 h3 h4 h5 h8 h9 h10 h11 h12 hret
  revert X; k_fill; intro X
  by_cases hd1 : d = 1
  · have hleaf := vsl_one (n := n.toNat) (ds := ds) (lo := lo.toNat) (by omega)
    have hq : decide (lo + 1 = hi) = true := by rw [decide_eq_true_eq]; omega
    refine wpAny_call ?_
    k_dflt (refine' code_nest ?k1 ?k2 ?k3 ?k4 ?k5 ?kA ?kF ?kK ?k6 ?k7 ?k8 ?k9 ?kB ?_ ?c2 ?c3 ?c4 ?c5; (case kA => exact rfl); (case kF => exact rfl); (case kK => assumption); (case k1 => k_asm); (case k2 => k_asm); (case k3 => k_asm); (case k4 => k_asm); (case k5 => k_asm); (case k6 => exact hfo); (case k7 => exact codeRec_news N hco hcd hcq); (case k8 => ktr_room); (case k9 => exact BindsTo.of_eq rfl); (case c5 => decide); (case kB => exact locs rfl); (case c2 => exact rfl); (case c3 => exact rfl); (case c4 => exact rfl); k_whole; intro g' L' h' FG' F' N' B' X' T'; (try dsimp only); (try k_lift B'); (try k_fold))
    k_steps
    · refine endI hret (by assumption) (by assumption) ?_
      subst hd1
      exact hleaf.symm
    · exfalso; omega
  · have hq : decide (lo + 1 = hi) = false := by rw [decide_eq_false_iff_not]; omega
    have hs := vsplit hp h1 h2 h3 h4 (by omega) h8 h9 h12
    have hm := mid_is h2
    obtain ⟨s1, s2, s3, s4, s5, s6, s7⟩ := hs
    refine wpAny_call ?_
    k_dflt (refine' code_nest ?k1 ?k2 ?k3 ?k4 ?k5 ?kA ?kF ?kK ?k6 ?k7 ?k8 ?k9 ?kB ?_ ?c2 ?c3 ?c4 ?c5; (case kA => exact rfl); (case kF => exact rfl); (case kK => assumption); (case k1 => k_asm); (case k2 => k_asm); (case k3 => k_asm); (case k4 => k_asm); (case k5 => k_asm); (case k6 => exact hfo); (case k7 => exact codeRec_news N hco hcd hcq); (case k8 => ktr_room); (case k9 => exact BindsTo.of_eq rfl); (case c5 => decide); (case kB => exact locs rfl); (case c2 => exact rfl); (case c3 => exact rfl); (case c4 => exact rfl); k_whole; intro g' L' h' FG' F' N' B' X' T'; (try dsimp only); (try k_lift B'); (try k_fold))
    k_steps
    · exfalso; omega
    · exact endI hret (by assumption) (by assumption) s7
end

set_option maxHeartbeats 2000000
section
variable {w : World} {dp un : Nat} {gd : Option (List Code)} {cn : Str} {cs : Scope} {a : Addr} {ccd : Value} {cl : List (Str × Addr)} {outer : List Env} {A₀ : Around} {base h₀ : Heap} {L : Addr} {m : Str → Option Value} {news : List (Addr × Obj)} {s : Shared}
  {Q E : Value → Shared → Prop} {p : Program} {loose : List Str} {mean : ExcName → Option Value} {mg mb : Str → Option Value}
theorem in2_go {lo hi n : Int} {tl th tn : Tok} {vs : List Value} {ds : List Int} {k : Nat} {f D : Addr} {own : List (Addr × Obj)}
  {name qual : Str} {doc pm ctv : Value} {c' cI cA cN : Addr} {oc oI oA oN : Obj} {cvs : Array Value} {ct : Tok}
  (hch : CodeHd base 41 37) (B : Below A₀ base outer h₀) (F : Fr h₀ L s.heap m) (X : (hd.heap_39 w.params).In h₀)
  (N : News h₀ L s.heap own) (T : Top p loose mean mg mb h₀) (hk : cs.kind = .function)
  (hfo : (f, fnMade name qual (fnArgs I2) (fnBody I2) (fnScope I2) [(Str.ofString "n", cN), (Str.ofString "inner", cI), (Str.ofString "digits", cA)] doc pm c' ctv) ∈ own) (hco : (c', oc) ∈ own) (hcd : oc.data = .fields cvs) (hcq : cvs[1]? = some (.str qual ct))
  (hI : (cI, oI) ∈ own) (dI : oI.data = .cell (some (.ref f))) (hA : (cA, oA) ∈ own) (dA : oA.data = .cell (some (.ref D))) (hN : (cN, oN) ∈ own) (dN : oN.data = .cell (some (.int n tn)))
  (hD : (D, listOf vs.toArray k) ∈ own) (hV : IntsAre vs ds) (hp : ∀ x ∈ ds, 0 ≤ x)
    (h1 : 0 ≤ lo) (h3 : hi ≤ ds.length) (h4 : ds.length ≤ 20) (h5 : lo < hi) (h8 : 0 < n) (h9 : n < 20) (h10 : dp + (hi - lo).toNat < recursionLimit) (h11 : un + 8 * (hi - lo).toNat < cLine) (h12 : vsl n.toNat ds lo.toNat (hi - lo).toNat < 1048576)
    (ret : ∀ (t : Tok) (h' : Heap) (tk' : Nat), Fr h₀ L h' m → News h₀ L h' own → Q (.int (vsl n.toNat ds lo.toNat (hi - lo).toNat) t) { s with heap := h', toks := tk' }) :
    wpAny (model Challenge.rw_pe0195_01.row.prog w) (ktrTop dp un gd cn cs L a ccd cl outer) (call (.ref f) [.int lo tl, .int hi th]) Q E s :=
  in2_use (d := (hi - lo).toNat + 1) (fun d' _ => in2_of (in2_step hfo hco hcd hcq hI dI hA dA hN dN hD hV hp) d') hch B F X N T hk (by omega) h1 h3 h4 h5 h8 h9 h10 h11 h12 ret
theorem vsl_tr {n : Nat} {ds : List Int} {B : Int} {a b : Nat} (h : val n ds < B) (e : b = ds.length) : vsl n ds (Int.toNat 0) b < B := by
  unfold vsl
  subst e
  rw [show Int.toNat 0 = 0 from rfl, List.drop_zero, List.take_length]
  exact h
theorem vsl_all {n : Nat} {ds : List Int} {b : Nat} (e : b = ds.length) : vsl n ds (Int.toNat 0) b = val n ds := by
  unfold vsl
  subst e
  rw [show Int.toNat 0 = 0 from rfl, List.drop_zero, List.take_length]
section
theorem c_d2iE {n : Int} {D : Addr} {vs : List Value} {ds : List Int} {k : Nat} {t2 : Tok} 
  (B : Below A₀ base outer h₀) (F : Fr h₀ L s.heap m) (X : (hd.heap_39 w.params).In h₀) (N : News h₀ L s.heap ((D, listOf vs.toArray k) :: (37, tabObj #[]) :: news)) (T : Top p loose mean mg mb h₀) (hk : cs.kind = .function)
  (hch : CodeHd base 41 37) (hV : IntsAre vs ds) (hp : ∀ x ∈ ds, 0 ≤ x) (b3 : 0 < n) (b4 : n < 20) (b5 : ds.length ≤ 20) (b6 : val n.toNat ds < 1048576)
  (hd : dp + 40 < recursionLimit) (hu : un + 400 < cLine) (hD : (37 : Nat) < D) (hne : ∀ q ∈ news, q.1 ≠ 37)
  (hret : ∀ (c : Addr) (oc : Obj) (cvs : Array Value) (ct t : Tok) (h' : Heap) (tk' : Nat), Fr h₀ L h' m → News h₀ L h' ((D, listOf vs.toArray k) :: (37, tabObj #[rawInt 47, rawInt 4, .ref c]) :: (c, oc) :: news) → oc.data = .fields cvs → cvs[1]? = some (.str (Str.ofString "_digits2int.<locals>.inner") ct) → AllLt c news → (37 : Nat) < c → @LT.lt Nat _ D c → Q (.int (val n.toNat ds) t) { s with heap := h', toks := tk' }) :
  wpAny (model Challenge.rw_pe0195_01.row.prog w) (ktrTop dp un gd cn cs L a ccd cl outer) (call (.ref 42) [.ref D, .int n t2]) Q E s := by
  w_top off
  k_with_none
  (k_with "call ref" => (k_here; k_dflt (refine' in2_go ?zqk0 ?zqk1 ?zqk2 ?zqk3 ?zqk4 ?zqk5 ?zqkK ?zqmF ?zqco ?zqc1 ?zqc2 ?zqmI ?zqdI ?zqmA ?zqdA ?zqmN ?zqdN ?zqmD ?zqkV ?zqkp ?zqh1 ?zqh3 ?zqh4 ?zqh5 ?zqh8 ?zqh9 ?zqh10 ?zqh11 ?zqh12 ?_; (case zqk0 => assumption); (case zqk1 => k_asm); (case zqk2 => k_asm); (case zqk3 => k_asm); (case zqk4 => k_asm); (case zqk5 => k_asm); (case zqkK => exact rfl); (case zqmF => k_mem); (case zqco => k_mem); (case zqc1 => assumption); (case zqc2 => assumption); (case zqmI => k_mem); (case zqdI => assumption); (case zqmA => k_mem); (case zqdA => assumption); (case zqmN => k_mem); (case zqdN => assumption); (case zqmD => k_mem); (case zqkV => assumption); (case zqkp => assumption); (case zqh1 => omega); (case zqh3 => omega); (case zqh4 => omega); (case zqh5 => omega); (case zqh8 => assumption); (case zqh9 => assumption); (case zqh10 => first | exact room1 (by assumption) (by decide) | exact room0 (by assumption) (by decide) | ktr_room); (case zqh11 => first | exact room1 (by assumption) (by decide) | exact room0 (by assumption) (by decide) | ktr_units); (case zqh12 => exact vsl_tr (a := 0) (by assumption) (by omega))); intro t9 h9 tk9 F9 N9))
  revert X; k_fill; intro X
  have hVl : vs.length = ds.length := hV.length
  refine wpAny_call ?_
  k_dflt (refine' code_defC ?k1 ?k2 ?k3 ?k4 ?k5 ?kA ?kF ?kK ?k6 ?k7 ?k8 ?k9 ?kB ?kD ?_ ?c2 ?c3 ?c4; (case kA => exact rfl); (case kF => exact rfl); (case kK => assumption); (case k1 => k_asm); (case k2 => k_asm); (case k3 => k_asm); (case k4 => k_asm); (case k5 => k_asm); (case k6 => k_is); (case k7 => k_is); (case k8 => ktr_room); (case k9 => exact BindsTo.of_eq rfl); (case kB => exact rfl); (case kD => decide +kernel); (case c2 => exact rfl); (case c3 => exact rfl); (case c4 => exact rfl); k_whole; intro g' L' h' tk' cells' FG' F' N' Y' B' X' T' l1; (try k_lt l1); k_cells Y'; (try simp only [List.cons_append, List.nil_append] at N'); (try dsimp only); (try k_lift B'); (try k_fold))
  obtain ⟨lD, l37, lA⟩ := l1
  k_steps
  · rw [vsl_all (by omega)]
    exact hret _ _ _ _ _ _ _ (by assumption) (cb_drop (by assumption) (List.forall_mem_cons.mpr ⟨by k_mem, List.forall_mem_cons.mpr ⟨by k_mem, List.forall_mem_cons.mpr ⟨by k_mem, fun q hq => by repeat (first | exact hq | apply List.Mem.tail)⟩⟩⟩)) (by assumption) (by assumption) (allLt_le lA (by omega)) (ltN (by omega)) (ltN (by omega))
  · have h0 : ds = [] := List.length_eq_zero_iff.mp (by omega)
    subst h0
    exact hret _ _ _ _ _ _ _ (by assumption) (cb_drop (by assumption) (List.forall_mem_cons.mpr ⟨by k_mem, List.forall_mem_cons.mpr ⟨by k_mem, List.forall_mem_cons.mpr ⟨by k_mem, fun q hq => by repeat (first | exact hq | apply List.Mem.tail)⟩⟩⟩)) (by assumption) (by assumption) (allLt_le lA (by omega)) (ltN (by omega)) (ltN (by omega))
end
section
theorem c_d2iH {n : Int} {D : Addr} {vs : List Value} {ds : List Int} {k : Nat} {t2 : Tok} {c : Addr} {oc : Obj} {cvs : Array Value} {ct : Tok} (hcd : oc.data = .fields cvs) (hcq : cvs[1]? = some (.str (Str.ofString "_digits2int.<locals>.inner") ct))
  (B : Below A₀ base outer h₀) (F : Fr h₀ L s.heap m) (X : (hd.heap_39 w.params).In h₀) (N : News h₀ L s.heap ((D, listOf vs.toArray k) :: (37, tabObj #[rawInt 47, rawInt 4, .ref c]) :: (c, oc) :: news)) (T : Top p loose mean mg mb h₀) (hk : cs.kind = .function)
  (hch : CodeHd base 41 37) (hV : IntsAre vs ds) (hp : ∀ x ∈ ds, 0 ≤ x) (b3 : 0 < n) (b4 : n < 20) (b5 : ds.length ≤ 20) (b6 : val n.toNat ds < 1048576)
  (hd : dp + 40 < recursionLimit) (hu : un + 400 < cLine) (hD : (37 : Nat) < D)
  (hret : ∀ (t : Tok) (h' : Heap) (tk' : Nat), Fr h₀ L h' m → News h₀ L h' ((D, listOf vs.toArray k) :: (37, tabObj #[rawInt 47, rawInt 4, .ref c]) :: (c, oc) :: news) → Q (.int (val n.toNat ds) t) { s with heap := h', toks := tk' }) :
  wpAny (model Challenge.rw_pe0195_01.row.prog w) (ktrTop dp un gd cn cs L a ccd cl outer) (call (.ref 42) [.ref D, .int n t2]) Q E s := by
  w_top off
  k_with_none
  (k_with "call ref" => (k_here; k_dflt (refine' in2_go ?zqk0 ?zqk1 ?zqk2 ?zqk3 ?zqk4 ?zqk5 ?zqkK ?zqmF ?zqco ?zqc1 ?zqc2 ?zqmI ?zqdI ?zqmA ?zqdA ?zqmN ?zqdN ?zqmD ?zqkV ?zqkp ?zqh1 ?zqh3 ?zqh4 ?zqh5 ?zqh8 ?zqh9 ?zqh10 ?zqh11 ?zqh12 ?_; (case zqk0 => assumption); (case zqk1 => k_asm); (case zqk2 => k_asm); (case zqk3 => k_asm); (case zqk4 => k_asm); (case zqk5 => k_asm); (case zqkK => exact rfl); (case zqmF => k_mem); (case zqco => k_mem); (case zqc1 => assumption); (case zqc2 => assumption); (case zqmI => k_mem); (case zqdI => assumption); (case zqmA => k_mem); (case zqdA => assumption); (case zqmN => k_mem); (case zqdN => assumption); (case zqmD => k_mem); (case zqkV => assumption); (case zqkp => assumption); (case zqh1 => omega); (case zqh3 => omega); (case zqh4 => omega); (case zqh5 => omega); (case zqh8 => assumption); (case zqh9 => assumption); (case zqh10 => first | exact room1 (by assumption) (by decide) | exact room0 (by assumption) (by decide) | ktr_room); (case zqh11 => first | exact room1 (by assumption) (by decide) | exact room0 (by assumption) (by decide) | ktr_units); (case zqh12 => exact vsl_tr (a := 0) (by assumption) (by omega))); intro t9 h9 tk9 F9 N9))
  revert X; k_fill; intro X
  have hVl : vs.length = ds.length := hV.length
  refine wpAny_call ?_
  k_dflt (refine' code_defC ?k1 ?k2 ?k3 ?k4 ?k5 ?kA ?kF ?kK ?k6 ?k7 ?k8 ?k9 ?kB ?kD ?_ ?c2 ?c3 ?c4; (case kA => exact rfl); (case kF => exact rfl); (case kK => assumption); (case k1 => k_asm); (case k2 => k_asm); (case k3 => k_asm); (case k4 => k_asm); (case k5 => k_asm); (case k6 => k_is); (case k7 => k_is); (case k8 => ktr_room); (case k9 => exact BindsTo.of_eq rfl); (case kB => exact rfl); (case kD => decide +kernel); (case c2 => exact rfl); (case c3 => exact rfl); (case c4 => exact rfl); k_whole; intro g' L' h' tk' cells' FG' F' N' Y' B' X' T' l1; (try k_lt l1); k_cells Y'; (try simp only [List.cons_append, List.nil_append] at N'); (try dsimp only); (try k_lift B'); (try k_fold))
  obtain ⟨lD, l37, lc, lA⟩ := l1
  k_steps
  · rw [vsl_all (by omega)]
    exact hret _ _ _ (by assumption) (cb_drop (by assumption) (List.forall_mem_cons.mpr ⟨by k_mem, List.forall_mem_cons.mpr ⟨by k_mem, List.forall_mem_cons.mpr ⟨by k_mem, fun q hq => by repeat (first | exact hq | apply List.Mem.tail)⟩⟩⟩))
  · have h0 : ds = [] := List.length_eq_zero_iff.mp (by omega)
    subst h0
    exact hret _ _ _ (by assumption) (cb_drop (by assumption) (List.forall_mem_cons.mpr ⟨by k_mem, List.forall_mem_cons.mpr ⟨by k_mem, List.forall_mem_cons.mpr ⟨by k_mem, fun q hq => by repeat (first | exact hq | apply List.Mem.tail)⟩⟩⟩))
end
end

set_option maxHeartbeats 2000000
section
variable {w : World} {dp un : Nat} {gd : Option (List Code)} {cn : Str} {cs : Scope} {a : Addr} {ccd : Value} {cl : List (Str × Addr)} {outer : List Env} {A₀ : Around} {base h₀ : Heap} {L : Addr} {m : Str → Option Value} {news : List (Addr × Obj)} {s : Shared}
  {Q E : Value → Shared → Prop} {p : Program} {loose : List Str} {mean : ExcName → Option Value} {mg mb : Str → Option Value}
theorem endT {x y x' y' : Int} {r : Addr} {u v : Tok} {k : Nat} {h' : Heap} {tk' : Nat} (hret : ∀ (r : Addr) (u v : Tok) (k : Nat) (h' : Heap) (tk' : Nat), Fr h₀ L h' m → News h₀ L h' ((r, { cls := .type "tuple", data := .seq #[.int x u, .int y v] k }) :: news) → AllLt r news → Q (.ref r) { s with heap := h', toks := tk' }) (F : Fr h₀ L h' m) (N : News h₀ L h' ((r, { cls := .type "tuple", data := .seq #[.int x' u, .int y' v] k }) :: news)) (l : AllLt r news) (e1 : x' = x) (e2 : y' = y) : Q (.ref r) { s with heap := h', toks := tk' } := by
  subst e1 e2; exact hret _ _ _ _ _ _ F N l
theorem c_div2 {x b n : Int} {t1 t2 t3 : Tok} 
  (B : Below A₀ base outer h₀) (F : Fr h₀ L s.heap m) (X : (hd.heap_39 w.params).In h₀) (N : News h₀ L s.heap news) (T : Top p loose mean mg mb h₀) (hk : cs.kind = .function)
  (b1 : 0 ≤ x) (b2 : x < 1099511627776) (b3 : 0 < b) (b4 : b < 1048576) (b5 : 0 ≤ n) 
  (hd : dp + 1 < recursionLimit) (hu : un + 8 < cLine)
  (hret : ∀ (r : Addr) (u v : Tok) (k : Nat) (h' : Heap) (tk' : Nat), Fr h₀ L h' m → News h₀ L h' ((r, { cls := .type "tuple", data := .seq #[.int (x / b) u, .int (x % b) v] k }) :: news) → AllLt r news → Q (.ref r) { s with heap := h', toks := tk' }) :
  wpAny (model Challenge.rw_pe0195_01.row.prog w) (ktrTop dp un gd cn cs L a ccd cl outer) (call (.ref 21) [.int x t1, .int b t2, .int n t3]) Q E s := by
  w_top off
  k_with_none
  revert X; k_fill; intro X
  have hb : Builtin.Int.intBits x ≤ 40 := intBits_le_iff.mpr (by omega)
  have hq : decide ((Builtin.Int.intBits x : Int) - n ≤ 4000) = true := by rw [decide_eq_true_eq]; omega
  refine wpAny_call ?_
  k_dflt cell_enter
  k_steps
  refine endT hret (by assumption) (by assumption) ?_ (Int.fdiv_eq_ediv_of_nonneg _ (by omega)) (Int.fmod_eq_emod_of_nonneg _ (by omega))
  exact allLt_of fun p hp => Heap.lt_size (News.get (by assumption) hp)
end

set_option maxHeartbeats 2000000
theorem ints_get {v : Value} : ∀ {vs : List Value} {ns : List Int}, IntsAre vs ns → ∀ {j : Nat}, vs[j]? = some v → ∃ d t, v = .int d t ∧ ns[j]? = some d
  | _, _, .nil, j, h => by simp at h
  | _, _, .cons i t _, 0, h => by
    simp only [List.getElem?_cons_zero, Option.some.injEq] at h
    exact ⟨i, t, h.symm, by simp⟩
  | _, _, .cons _ _ r, j + 1, h => by
    simp only [List.getElem?_cons_succ] at h ⊢
    exact ints_get r h
theorem take_step {α : Type} {l : List α} {i : Nat} {d : α} (h : l[i]? = some d) : l.take i ++ [d] = l.take (i + 1) := by
  rw [List.take_add_one, h]
  rfl
/-- what a turn of the loop below has to show -/
def RevEnd (h₀ : Heap) (L : Addr) (s₁ : Shared) (qd : Addr) (own : List (Addr × Obj)) (Inv' : Int → List Int → Prop) (xr xd xq : Str) (m₀ : Str → Option Value) (f : Flow) (s' : Shared) : Prop :=
  f = .next ∧ ∃ h' tk' m' r' tr' qv' qs' kq', s' = { s₁ with heap := h', toks := tk' } ∧ Fr h₀ L h' m' ∧ News h₀ L h' ((qd, listOf qv'.toArray kq') :: own) ∧ IntsAre qv' qs' ∧ Inv' r' qs' ∧
        m' xr = some (.int r' tr') ∧ ∀ z, z ≠ xr → z ≠ xd → z ≠ xq → m' z = m₀ z
theorem RevEnd.of {h₀ : Heap} {L : Addr} {s₁ : Shared} {qd : Addr} {own led : List (Addr × Obj)} {Inv' : Int → List Int → Prop} {xr xd xq : Str} {m₀ m' : Str → Option Value} {h' : Heap} {tk' : Nat} {r' : Int} {tr' : Tok} {qv' : List Value} {qs' : List Int} {kq' : Nat}
    (F : Fr h₀ L h' m') (N : News h₀ L h' led) (hs : ∀ q ∈ (qd, listOf qv'.toArray kq') :: own, q ∈ led) (hq : IntsAre qv' qs') (hi : Inv' r' qs') (hr : m' xr = some (.int r' tr')) (hz : ∀ z, z ≠ xr → z ≠ xd → z ≠ xq → m' z = m₀ z) :
    RevEnd h₀ L s₁ qd own Inv' xr xd xq m₀ .next { s₁ with heap := h', toks := tk' } := ⟨rfl, h', tk', m', r', tr', qv', qs', kq', rfl, F, fun q hq => N q (hs q hq), hq, hi, hr, hz⟩
/-- a loop over a reversed list of ints that keeps one int and grows one list of ints -/
theorem rev_loop {prog : Program} {w : World} {A : Around} {E : Value → Shared → Prop} {Q : Flow → Shared → Prop} {s : Shared} {env : Env} {h₀ : Heap} {L I l qd : Addr} {m₀ : Str → Option Value} {body : List Stmt}
    {vs : List Value} {ns : List Int} {k kq₀ : Nat} {rest : List (Addr × Obj)} {r₀ : Int} {t₀ : Tok} (xd xr xq : Str) (Inv : List Int → Int → List Int → Prop)
    (hA : A.handled = none) (hL : env.locals = L) (F : Fr h₀ L s.heap m₀) (N : News h₀ L s.heap ((I, revObj l ((vs.length : Int) - 1)) :: (qd, listOf #[] kq₀) :: rest)) (hl : (l, listOf vs.toArray k) ∈ rest) (hV : IntsAre vs ns)
    (oI : ∀ q ∈ rest, q.1 ≠ I) (oq : ∀ q ∈ rest, q.1 ≠ qd) (oIq : qd ≠ I) (hx1 : xr ≠ xd) (hx2 : xq ≠ xd) (hx3 : xr ≠ xq) (hr : m₀ xr = some (.int r₀ t₀)) (h0 : Inv [] r₀ [])
    (turn : ∀ (own : List (Addr × Obj)) (s₁ : Shared) (d : Int) (td : Tok) (pre : List Int) (r : Int) (tr : Tok) (qv : List Value) (qs : List Int) (kq : Nat) (u : Option Value),
      (∃ h tk, s₁ = { s with heap := h, toks := tk }) → d ∈ ns → pre.length < ns.length → Inv pre r qs → IntsAre qv qs →
      Fr h₀ L s₁.heap (fun y => if y = xd then some (.int d td) else if y = xr then some (.int r tr) else if y = xq then u else m₀ y) → News h₀ L s₁.heap ((qd, listOf qv.toArray kq) :: own) → (∀ q ∈ own, q.1 ≠ qd) →
      wpAny (model prog w) A (execs body env) (RevEnd h₀ L s₁ qd own (Inv (pre ++ [d])) xr xd xq m₀) E s₁)
    (done : ∀ (r : Int) (tr : Tok) (qv : List Value) (qs : List Int) (kq : Nat) (u v : Option Value) (h' : Heap) (tk' : Nat), Inv ns.reverse r qs → IntsAre qv qs → Fr h₀ L h' (fun y => if y = xd then v else if y = xr then some (.int r tr) else if y = xq then u else m₀ y) → News h₀ L h' ((qd, listOf qv.toArray kq) :: rest) → Q .next { s with heap := h', toks := tk' }) :
    wpAny (model prog w) A (pyIter (.ref I)) (fun it s₂ => LoopAtV prog w A h₀ env xd body Q E it s₂) E s := by
  subst hL
  have hI := N (I, revObj l ((vs.length : Int) - 1)) (.head _)
  have hlm := N (l, listOf vs.toArray k) (.tail _ (.tail _ hl))
  have hlI : l ≠ I := oI _ hl
  have hlen : vs.length = ns.length := hV.length
  have fr : ∀ {h : Heap} {m₁ : Str → Option Value} {r : Int} {tr : Tok} {v : Option Value}, m₁ xr = some (.int r tr) → (∀ z, z ≠ xr → z ≠ xd → z ≠ xq → m₁ z = m₀ z) → Fr h₀ env.locals h (fun y => if y = xd then v else m₁ y) →
      Fr h₀ env.locals h (fun y => if y = xd then v else if y = xr then some (.int r tr) else if y = xq then m₁ xq else m₀ y) := by
    intro h m₁ r tr v e1 e2 F₁
    have em : (fun y => if y = xd then v else if y = xr then some (.int r tr) else if y = xq then m₁ xq else m₀ y) = fun y => if y = xd then v else m₁ y := by
      funext y
      by_cases y1 : y = xd
      · simp [y1]
      · by_cases y2 : y = xr
        · subst y2; simp [y1, e1]
        · by_cases y3 : y = xq
          · subst y3; simp [y1, y2]
          · simp [y1, y2, y3, e2 y y2 y1 y3]
    rw [em]; exact F₁
  refine wpAny_pyIter_revIter (l := l) (i := (vs.length : Int) - 1) ⟨_, hI.1, rfl, rfl⟩ ?_
  refine ⟨I, [I, l], [I], vs.toArray.size, _, _, m₀, (qd, listOf #[] kq₀) :: rest, fun i m₁ news₁ => ∃ r tr qv qs kq, news₁ = (qd, listOf qv.toArray kq) :: rest ∧ IntsAre qv qs ∧ Inv (ns.reverse.take i) r qs ∧ m₁ xr = some (.int r tr) ∧ ∀ z, z ≠ xr → z ≠ xd → z ≠ xq → m₁ z = m₀ z,
    rfl, Walks.listRev hA I l hlI vs.toArray, ?_, ?_, ?_, ?_, F, fun q hq => N q (.tail _ hq), ?_, ?_, ?_⟩
  · intro hm
    rcases List.mem_cons.mp hm with e | hm
    · exact hI.2.1 e.symm
    · exact hlm.2.1 (List.mem_singleton.mp hm).symm
  · intro b hb
    rw [List.mem_singleton.mp hb]
    exact hI.2.2
  · intro q hq hm
    have e := List.mem_singleton.mp hm
    rcases List.mem_cons.mp hq with rfl | hq
    · exact oIq e
    · exact oI q hq e
  · refine ⟨Nat.zero_le _, ⟨_, hI.1, rfl, ?_⟩, ⟨_, hlm.1, rfl, k, rfl⟩⟩
    show Data.fields #[.ref l, rawInt ((vs.length : Int) - 1)] = _
    simp
  · exact ⟨r₀, t₀, [], [], kq₀, rfl, .nil, by simpa using h0, hr, fun _ _ _ _ => rfl⟩
  · rintro i v m₁ news₁ s₁ own ⟨h₁, tk₁, rfl⟩ hi hP ⟨r, tr, qv, qs, kq, rfl, hq, hInv, e1, e2⟩ hnw hown hget hall hst F₁ N₁
    have hP' : vs[vs.length - 1 - i]? = some v := by simpa using hP
    have hi' : i < vs.length := by simpa using hi
    obtain ⟨d, td, rfl, hd⟩ := ints_get hV hP'
    have hrev : ns.reverse[i]? = some d := by
      rw [List.getElem?_reverse (by omega), ← hlen]; exact hd
    have tn := turn (own ++ rest) _ d td (ns.reverse.take i) r tr qv qs kq (m₁ xq) ⟨_, _, rfl⟩ (List.mem_of_getElem? hd) (by rw [List.length_take, List.length_reverse]; omega) hInv hq (fr e1 e2 F₁)
      (fun q hq => N₁ q (by
        rcases List.mem_cons.mp hq with rfl | hq
        · exact List.mem_append_right _ (.head _)
        · rcases List.mem_append.mp hq with hq | hq
          · exact List.mem_append_left _ hq
          · exact List.mem_append_right _ (.tail _ hq)))
      (fun q hq => by
        rcases List.mem_append.mp hq with hq | hq
        · rcases List.mem_cons.mp (hown q hq) with e | e
          · rw [e]; exact Ne.symm oIq
          · rw [List.mem_singleton.mp e]; exact oq _ hl
        · exact oq q hq)
    refine wpAny_mono tn (fun f s' hs' => ?_) fun _ _ x => x
    obtain ⟨rfl, h', tk', m', r', tr', qv', qs', kq', rfl, F', N', hq', hI', e1', e2'⟩ := hs'
    refine LoopStepV.next ⟨rfl, h', tk', m', (qd, listOf qv'.toArray kq') :: rest, rfl, F', fun q hq => N' q ?_, ?_, r', tr', qv', qs', kq', rfl, hq', ?_, e1', e2'⟩
    · rcases List.mem_append.mp hq with hq | hq
      · exact .tail _ (List.mem_append_left _ hq)
      · rcases List.mem_cons.mp hq with rfl | hq
        · exact .head _
        · exact .tail _ (List.mem_append_right _ hq)
    · intro q hq hm
      have e := List.mem_singleton.mp hm
      rcases List.mem_cons.mp hq with rfl | hq
      · exact oIq e
      · exact oI q hq e
    · rw [← take_step hrev]; exact hI'
  · rintro h' tk m' news' F' N' _ ⟨r, tr, qv, qs, kq, rfl, hq, hInv, e1, e2⟩
    have hInv' : Inv ns.reverse r qs := by
      rw [List.take_of_length_le (by rw [List.length_reverse, List.size_toArray]; omega)] at hInv
      exact hInv
    have F'' : Fr h₀ env.locals h' (fun y => if y = xd then m' xd else m' y) := by
      have em : (fun y => if y = xd then m' xd else m' y) = m' := by
        funext y
        by_cases y1 : y = xd
        · simp [y1]
        · simp [y1]
      rw [em]; exact F'
    exact done r tr qv qs kq (m' xq) (m' xd) h' tk hInv' hq (fr e1 e2 F'') N'

set_option maxHeartbeats 2000000
/-- the number of digits of n bits, the highest first -/
def horner (n : Nat) (pre : List Int) : Int := pre.foldl (fun acc d => acc * 2 ^ n + d) 0
theorem horner_snoc (n : Nat) (pre : List Int) (d : Int) : horner n (pre ++ [d]) = horner n pre * 2 ^ n + d := by
  unfold horner
  rw [List.foldl_append]
  rfl
theorem horner_rev (n : Nat) : ∀ ds : List Int, horner n ds.reverse = val n ds
  | [] => rfl
  | d :: r => by
    rw [List.reverse_cons, horner_snoc, horner_rev n r, val, Int.mul_comm]
    lia
structure DpInv (n : Nat) (b : Int) (pre : List Int) (r : Int) (qs : List Int) : Prop where
  r1 : r = horner n pre % b
  q1 : val n qs.reverse = horner n pre / b
  len : qs.length = pre.length
  pos : ∀ q ∈ qs, 0 ≤ q
  low : 0 ≤ r
  high : r < b
theorem dp_start {n : Nat} {b : Int} (hb : 0 < b) : DpInv n b [] 0 [] := ⟨by simp [horner], by simp [horner, val], rfl, nofun, Int.le_refl _, hb⟩
theorem dp_step {n : Nat} {b d r : Int} {pre qs : List Int} (hb : 0 < b) (h : DpInv n b pre r qs) (hd : 0 ≤ d) : DpInv n b (pre ++ [d]) ((r * 2 ^ n + d) % b) (qs ++ [(r * 2 ^ n + d) / b]) := by
  have hA := horner_snoc n pre d
  have e : horner n pre * 2 ^ n + d = (r * 2 ^ n + d) + b * (horner n pre / b * 2 ^ n) := by
    have := Int.emod_add_mul_ediv (horner n pre) b
    conv => lhs; rw [← this]
    rw [← h.r1, Int.add_mul, Int.mul_assoc]
    lia
  have hx : 0 ≤ r * 2 ^ n + d := by
    have := Int.mul_nonneg h.low (Int.le_of_lt (two_pos n))
    lia
  refine ⟨?_, ?_, by simp [h.len], ?_, Int.emod_nonneg _ (by lia), Int.emod_lt_of_pos _ hb⟩
  · rw [hA, e, Int.add_mul_emod_self_left]
  · rw [List.reverse_append, List.reverse_cons, List.reverse_nil, List.nil_append, List.cons_append, List.nil_append, val, h.q1, hA, e, Int.add_mul_ediv_left _ _ (by lia), Int.mul_comm (2 ^ n)]
  · intro q hq
    rcases List.mem_append.mp hq with hq | hq
    · exact h.pos q hq
    · rw [List.mem_singleton.mp hq]
      exact Int.ediv_nonneg hx (by lia)
theorem dp_size {n : Nat} {b d r : Int} (h1 : 0 ≤ r) (h2 : r < b) (h3 : b ≤ 1048576) (hd : 0 ≤ d) (hd2 : d < 1048576) (hn : n ≤ 19) : 0 ≤ r * 2 ^ n + d ∧ r * 2 ^ n + d < 1099511627776 := by
  have hp : (2 : Int) ^ n ≤ 2 ^ 19 := by
    have := Nat.pow_le_pow_right (n := 2) (by decide) hn
    exact_mod_cast this
  have h4 := Int.mul_nonneg h1 (Int.le_of_lt (two_pos n))
  have h5 : r * 2 ^ n ≤ 1048576 * 2 ^ 19 := Int.mul_le_mul (by lia) hp (Int.le_of_lt (two_pos n)) (by decide)
  lia
theorem pow_small {n : Nat} (hn : n ≤ 19) : (2 : Int) ^ n ≤ 1048576 := by
  have h : (2 : Int) ^ n ≤ 2 ^ 19 := by
    have := Nat.pow_le_pow_right (n := 2) (by decide) hn
    exact_mod_cast this
  lia
theorem dig_bounds {n : Nat} : ∀ {k : Nat} {x y : Int}, y ∈ dig n k x → 0 ≤ y ∧ y < 2 ^ n
  | 0, _, _, h => nomatch h
  | k + 1, x, y, h => by
    rw [dig] at h
    rcases List.mem_cons.mp h with rfl | h
    · exact ⟨Int.emod_nonneg _ (Int.ne_of_gt (two_pos n)), Int.emod_lt_of_pos _ (two_pos n)⟩
    · exact dig_bounds h
theorem dp_end {n k : Nat} {b r x : Int} {qs : List Int} (h : DpInv n b (dig n k x).reverse r qs) (h1 : 0 ≤ x) (h2 : x < 2 ^ (n * k)) : r = x % b ∧ val n qs.reverse = x / b ∧ qs.length = k := by
  have e := horner_rev n (dig n k x)
  rw [val_dig n k x h1 h2] at e
  refine ⟨by rw [h.r1, e], by rw [h.q1, e], ?_⟩
  rw [h.len, List.length_reverse, dig_length]
open Builtin.Int (intBits) in
theorem bits_facts {x b : Int} (h1 : 0 ≤ x) (h2 : x < 256) (h3 : 0 < b) (h4 : b < 64) : 0 < (intBits b : Int) ∧ (intBits b : Int) < 20 ∧ 0 ≤ ((intBits x : Int) + (intBits b : Int) - 1).fdiv (intBits b : Int) ∧
    ((intBits x : Int) + (intBits b : Int) - 1).fdiv (intBits b : Int) ≤ 20 ∧ (x ≠ 0 → 0 < ((intBits x : Int) + (intBits b : Int) - 1).fdiv (intBits b : Int)) ∧
    x < 2 ^ ((intBits b : Int).toNat * (((intBits x : Int) + (intBits b : Int) - 1).fdiv (intBits b : Int)).toNat) := by
  have hb : intBits b ≤ 6 := intBits_le_iff.mpr (by lia)
  have hb0 : 0 < intBits b := by
    rcases Nat.eq_zero_or_pos (intBits b) with h | h
    · have := (intBits_le_iff (m := 0) (x := b)).mp (by lia)
      simp at this; lia
    · exact h
  have hx : intBits x ≤ 8 := intBits_le_iff.mpr (by lia)
  have hx0 : x ≠ 0 → 0 < intBits x := by
    intro hne
    rcases Nat.eq_zero_or_pos (intBits x) with h | h
    · have := (intBits_le_iff (m := 0) (x := x)).mp (by lia)
      simp at this; lia
    · exact h
  have hxx : x.natAbs < 2 ^ intBits x := intBits_le_iff.mp (Nat.le_refl _)
  generalize intBits b = m at *
  generalize intBits x = k at *
  rw [Int.fdiv_eq_ediv_of_nonneg _ (by lia)]
  have e : ((k : Int) + (m : Int) - 1) / (m : Int) = (((k + m - 1) / m : Nat) : Int) := by
    rw [Int.natCast_ediv]
    congr 1
    lia
  rw [e]
  have hq1 : (k + m - 1) / m ≤ k + m - 1 := Nat.div_le_self _ _
  have hq2 : k ≤ m * ((k + m - 1) / m) := by
    have h5 := Nat.div_add_mod (k + m - 1) m
    have h6 := Nat.mod_lt (k + m - 1) hb0
    lia
  have hq3 : x ≠ 0 → 0 < (k + m - 1) / m := by
    intro hne
    have := hx0 hne
    exact Nat.div_pos (by lia) hb0
  generalize (k + m - 1) / m = q at *
  refine ⟨by lia, by lia, by lia, by lia, ?_, ?_⟩
  · intro hne
    have := hq3 hne
    lia
  · rw [Int.toNat_natCast, Int.toNat_natCast]
    have h7 : (2 : Nat) ^ k ≤ 2 ^ (m * q) := Nat.pow_le_pow_right (by decide) hq2
    have h8 : x.natAbs < 2 ^ (m * q) := Nat.lt_of_lt_of_le hxx h7
    have h9 : (x.natAbs : Int) < ((2 ^ (m * q) : Nat) : Int) := by exact_mod_cast h8
    rw [Int.natCast_pow] at h9
    have : (x.natAbs : Int) = x := by lia
    rw [this] at h9
    exact h9

set_option maxHeartbeats 2000000
theorem ints_snoc {x : Int} {t : Tok} : ∀ {vs : List Value} {ns : List Int}, IntsAre vs ns → IntsAre (vs ++ [.int x t]) (ns ++ [x])
  | _, _, .nil => .cons x t .nil
  | _, _, .cons i u r => .cons i u (ints_snoc r)
theorem ints_rev : ∀ {vs : List Value} {ns : List Int}, IntsAre vs ns → IntsAre vs.reverse ns.reverse
  | _, _, .nil => .nil
  | _, _, .cons i u r => by
    rw [List.reverse_cons, List.reverse_cons]
    exact ints_snoc (ints_rev r)
theorem my_reverse {prog : Program} {w : World} {A : Around} {E : Value → Shared → Prop} {s : Shared} {h₀ : Heap} {L D : Addr} {m : Str → Option Value} {news news' : List (Addr × Obj)} {vs : List Value} {n : Nat} {Q : Value → Shared → Prop}
    (F : Fr h₀ L s.heap m) (N : News h₀ L s.heap news) (U : Upd D (listOf vs.toArray n) (listOf vs.reverse.toArray n) news news') (hz : vs.length ≤ 20)
    (h : ∀ h', Fr h₀ L h' m → News h₀ L h' news' → Q .none { s with heap := h' }) : wpAny (model prog w) A (call (.builtin "list.reverse") [.ref D]) Q E s :=
  kl_reverse (l := vs.reverse) F N (by simp) U (by rw [sizeLine_eq]; simp; omega) h
theorem perm6 {α : Type} {d x1 x2 x3 a b : α} {r : List α} : ∀ q ∈ d :: a :: b :: x1 :: x2 :: x3 :: r, q ∈ d :: x1 :: x2 :: x3 :: a :: b :: r := by
  intro q hq
  simp only [List.mem_cons] at hq ⊢
  rcases hq with h | h | h | h | h | h | h <;> simp only [h, true_or, or_true]
theorem perm6' {α : Type} {d x1 x2 x3 a b : α} {r : List α} : ∀ q ∈ d :: x1 :: x2 :: x3 :: a :: b :: r, q ∈ d :: a :: b :: x1 :: x2 :: x3 :: r := by
  intro q hq
  simp only [List.mem_cons] at hq ⊢
  rcases hq with h | h | h | h | h | h | h <;> simp only [h, true_or, or_true]
theorem perm5 {α : Type} {d x1 x2 x3 a : α} {r : List α} : ∀ q ∈ d :: a :: x1 :: x2 :: x3 :: r, q ∈ d :: x1 :: x2 :: x3 :: a :: r := by
  intro q hq
  simp only [List.mem_cons] at hq ⊢
  rcases hq with h | h | h | h | h | h <;> simp only [h, true_or, or_true]
section
variable {w : World} {dp un : Nat} {gd : Option (List Code)} {cn : Str} {cs : Scope} {a : Addr} {ccd : Value} {cl : List (Str × Addr)} {outer : List Env} {A₀ : Around} {base h₀ : Heap} {L : Addr} {m : Str → Option Value} {news : List (Addr × Obj)} {s : Shared}
  {Q E : Value → Shared → Prop} {p : Program} {loose : List Str} {mean : ExcName → Option Value} {mg mb : Str → Option Value}
theorem c_d2iH' {n : Int} {D : Addr} {vs : List Value} {ds : List Int} {k : Nat} {t2 : Tok} {x1 x2 x3 : Addr × Obj} {c : Addr} {oc : Obj} {cvs : Array Value} {ct : Tok} (hcd : oc.data = .fields cvs) (hcq : cvs[1]? = some (.str (Str.ofString "_digits2int.<locals>.inner") ct))
  (B : Below A₀ base outer h₀) (F : Fr h₀ L s.heap m) (X : (hd.heap_39 w.params).In h₀) (N : News h₀ L s.heap ((D, listOf vs.toArray k) :: x1 :: x2 :: x3 :: (37, tabObj #[rawInt 47, rawInt 4, .ref c]) :: (c, oc) :: news)) (T : Top p loose mean mg mb h₀) (hk : cs.kind = .function)
  (hch : CodeHd base 41 37) (hV : IntsAre vs ds) (hp : ∀ x ∈ ds, 0 ≤ x) (b3 : 0 < n) (b4 : n < 20) (b5 : ds.length ≤ 20) (b6 : val n.toNat ds < 1048576)
  (hd : dp + 40 < recursionLimit) (hu : un + 400 < cLine) (hD : (37 : Nat) < D)
  (hret : ∀ (t : Tok) (h' : Heap) (tk' : Nat), Fr h₀ L h' m → News h₀ L h' ((D, listOf vs.toArray k) :: x1 :: x2 :: x3 :: (37, tabObj #[rawInt 47, rawInt 4, .ref c]) :: (c, oc) :: news) → Q (.int (val n.toNat ds) t) { s with heap := h', toks := tk' }) :
  wpAny (model Challenge.rw_pe0195_01.row.prog w) (ktrTop dp un gd cn cs L a ccd cl outer) (call (.ref 42) [.ref D, .int n t2]) Q E s :=
  c_d2iH (news := x1 :: x2 :: x3 :: news) hcd hcq B F X (cb_drop N perm6) T hk hch hV hp b3 b4 b5 b6 hd hu hD fun t h' tk' F' N' => hret t h' tk' F' (cb_drop N' perm6')
theorem c_d2iE' {n : Int} {D : Addr} {vs : List Value} {ds : List Int} {k : Nat} {t2 : Tok} {x1 x2 x3 : Addr × Obj} 
  (B : Below A₀ base outer h₀) (F : Fr h₀ L s.heap m) (X : (hd.heap_39 w.params).In h₀) (N : News h₀ L s.heap ((D, listOf vs.toArray k) :: x1 :: x2 :: x3 :: (37, tabObj #[]) :: news)) (T : Top p loose mean mg mb h₀) (hk : cs.kind = .function)
  (hch : CodeHd base 41 37) (hV : IntsAre vs ds) (hp : ∀ x ∈ ds, 0 ≤ x) (b3 : 0 < n) (b4 : n < 20) (b5 : ds.length ≤ 20) (b6 : val n.toNat ds < 1048576)
  (hd : dp + 40 < recursionLimit) (hu : un + 400 < cLine) (hD : (37 : Nat) < D) (hne : ∀ q ∈ x1 :: x2 :: x3 :: news, q.1 ≠ 37)
  (hret : ∀ (c : Addr) (oc : Obj) (cvs : Array Value) (ct t : Tok) (h' : Heap) (tk' : Nat), Fr h₀ L h' m → News h₀ L h' ((D, listOf vs.toArray k) :: x1 :: x2 :: x3 :: (37, tabObj #[rawInt 47, rawInt 4, .ref c]) :: (c, oc) :: news) → oc.data = .fields cvs → cvs[1]? = some (.str (Str.ofString "_digits2int.<locals>.inner") ct) → AllLt c (x1 :: x2 :: x3 :: news) → (37 : Nat) < c → @LT.lt Nat _ D c → Q (.int (val n.toNat ds) t) { s with heap := h', toks := tk' }) :
  wpAny (model Challenge.rw_pe0195_01.row.prog w) (ktrTop dp un gd cn cs L a ccd cl outer) (call (.ref 42) [.ref D, .int n t2]) Q E s :=
  c_d2iE (news := x1 :: x2 :: x3 :: news) B F X (cb_drop N perm5) T hk hch hV hp b3 b4 b5 b6 hd hu hD hne fun c oc cvs ct t h' tk' F' N' => hret c oc cvs ct t h' tk' F' (cb_drop N' perm6')
section
theorem c_dpH {x b : Int} {t1 t2 : Tok} {c1 c2 : Addr} {o1 o2 : Obj} {v1 v2 : Array Value} {u1 u2 : Tok}
  (hc1 : o1.data = .fields v1) (hq1 : v1[1]? = some (.str (Str.ofString "_int2digits.<locals>.inner") u1)) (hc2 : o2.data = .fields v2) (hq2 : v2[1]? = some (.str (Str.ofString "_digits2int.<locals>.inner") u2)) (g1 : @LT.lt Nat _ 37 c1) (g2 : @LT.lt Nat _ 37 c2)
  (B : Below A₀ base outer h₀) (F : Fr h₀ L s.heap m) (X : (hd.heap_39 w.params).In h₀) (N : News h₀ L s.heap ((30, tabObj #[rawInt 32, rawInt 4, .ref c1]) :: (c1, o1) :: (37, tabObj #[rawInt 47, rawInt 4, .ref c2]) :: (c2, o2) :: news)) (T : Top p loose mean mg mb h₀) (hk : cs.kind = .function)
  (hch1 : CodeHd base 34 30) (hch2 : CodeHd base 41 37)
  (b1 : 0 ≤ x) (b2 : x < 256) (b3 : 0 < b) (b4 : b < 64)
  (hd : dp + 60 < recursionLimit) (hu : un + 600 < cLine)
  (hret : ∀ (t : Addr) (u v : Tok) (k : Nat) (h' : Heap) (tk' : Nat), Fr h₀ L h' m → News h₀ L h' ((t, { cls := .type "tuple", data := .seq #[.int (x / b) u, .int (x % b) v] k }) :: (30, tabObj #[rawInt 32, rawInt 4, .ref c1]) :: (c1, o1) :: (37, tabObj #[rawInt 47, rawInt 4, .ref c2]) :: (c2, o2) :: news) → AllLt t ((30, tabObj #[rawInt 32, rawInt 4, .ref c1]) :: (c1, o1) :: (37, tabObj #[rawInt 47, rawInt 4, .ref c2]) :: (c2, o2) :: news) → Q (.ref t) { s with heap := h', toks := tk' }) :
  wpAny (model Challenge.rw_pe0195_01.row.prog w) (ktrTop dp un gd cn cs L a ccd cl outer) (call (.ref 49) [.int x t1, .int b t2]) Q E s := by
  w_top off
  k_with_none
  (k_with "call builtin:list.reverse" => (k_here; k_dflt (refine' my_reverse ?zqF ?zqN ?zqU ?zqz ?_; (case zqF => k_asm); (case zqN => k_asm); (case zqU => k_upd); (case zqz => omega)); intro h9 F9 N9))
  (k_with "call ref" => (k_here; (with_reducible show wpAny _ _ (call (Value.ref 35) _) _ _ _); k_dflt (refine' c_i2dH ?zqd1 ?zqd2 ?zqk1 ?zqk2 ?zqk3 ?zqk4 ?zqk5 ?zqkK ?zqk0 ?zqb1 ?zqb2 ?zqb3 ?zqb4 ?zqq0 ?zqq1 ?zqq2 ?zqq3 ?zqhd ?zqhu ?_; (case zqk2 => k_asm); (case zqk4 => k_asm); (case zqk1 => k_asm); (case zqk3 => k_asm); (case zqk5 => k_asm); (case zqkK => exact rfl); (case zqd1 => assumption); (case zqd2 => assumption); (case zqk0 => assumption); (case zqb1 => omega); (case zqb2 => omega); (case zqb3 => omega); (case zqb4 => omega); (case zqq0 => assumption); (case zqq1 => assumption); (case zqq2 => assumption); (case zqq3 => assumption); (case zqhd => first | exact room1 (by assumption) (by decide) | exact room0 (by assumption) (by decide) | ktr_room); (case zqhu => first | exact room1 (by assumption) (by decide) | exact room0 (by assumption) (by decide) | ktr_units)); intro r9 vs9 k9 h9 tk9 hV9 F9 N9 l9 m9 n9))
  (k_with "call ref" => (k_here; (with_reducible show wpAny _ _ (call (Value.ref 21) _) _ _ _); k_dflt (refine' c_div2 ?zqk1 ?zqk2 ?zqk3 ?zqk4 ?zqk5 ?zqkK ?zqb1 ?zqb2 ?zqb3 ?zqb4 ?zqb5 ?zqhd ?zqhu ?_; (case zqk2 => k_asm); (case zqk4 => k_asm); (case zqk1 => k_asm); (case zqk3 => k_asm); (case zqk5 => k_asm); (case zqkK => exact rfl); (case zqb1 => omega); (case zqb2 => omega); (case zqb3 => omega); (case zqb4 => omega); (case zqb5 => omega); (case zqhd => first | exact room1 (by assumption) (by decide) | exact room0 (by assumption) (by decide) | ktr_room); (case zqhu => first | exact room1 (by assumption) (by decide) | exact room0 (by assumption) (by decide) | ktr_units)); intro r9 u9 v9 k9 h9 tk9 F9 N9 l9; (try simp only [AllLt, and_true] at l9)))
  (k_with "call ref" => (k_here; (with_reducible show wpAny _ _ (call (Value.ref 42) _) _ _ _); k_dflt (refine' c_d2iH' ?zqd1 ?zqd2 ?zqk1 ?zqk2 ?zqk3 ?zqk4 ?zqk5 ?zqkK ?zqk0 ?zqkV ?zqkp ?zqb3 ?zqb4 ?zqb5 ?zqb6 ?zqhd ?zqhu ?zqhD ?_; (case zqk2 => k_asm); (case zqk4 => k_asm); (case zqk1 => k_asm); (case zqk3 => k_asm); (case zqk5 => k_asm); (case zqkK => exact rfl); (case zqd1 => assumption); (case zqd2 => assumption); (case zqk0 => assumption); (case zqkV => assumption); (case zqkp => assumption); (case zqb3 => omega); (case zqb4 => omega); (case zqb5 => omega); (case zqb6 => assumption); (case zqhd => first | exact room1 (by assumption) (by decide) | exact room0 (by assumption) (by decide) | ktr_room); (case zqhu => first | exact room1 (by assumption) (by decide) | exact room0 (by assumption) (by decide) | ktr_units); (case zqhD => exact ltN (by omega))); intro t9 h9 tk9 F9 N9))
  revert X; k_fill; intro X
  obtain ⟨bn1, bn2, bq0, bq1, bq2, bq3⟩ := bits_facts b1 b2 b3 b4
  refine wpAny_call ?_
  k_dflt cell_enter
  k_steps
  rename AllLt _ (_ :: _) => l9
  obtain ⟨a1, a2, lr⟩ := l9
  k_dflt (refine' rev_loop (Str.ofString "a_digit") (Str.ofString "r") (Str.ofString "q_digit") (DpInv (Builtin.Int.intBits b : Int).toNat b) ?hA ?hL ?F ?N ?hl ?hV ?oI ?oq ?oIq ?x1 ?x2 ?x3 ?hr ?h0 ?turn ?done)
  case F => k_asm
  case N => k_asm
  case hA => exact rfl
  case hL => exact rfl
  case hl => k_mem
  case hV => assumption
  case oI => k_all
  case oq => k_all
  case oIq => k_ne
  case x1 => decide
  case x2 => decide
  case x3 => decide
  case hr => exact rfl
  case h0 => exact dp_start b3
  case turn =>
    rintro own s₁ d td pre r tr qv qs kq u ⟨h5, tk5, rfl⟩ hd5 hp5 hi5 hv5 F5 N5 ho5
    have db := dig_bounds hd5
    obtain ⟨e1, e2⟩ := dp_size (n := (Builtin.Int.intBits b : Int).toNat) hi5.low hi5.high (by omega) db.1 (Int.lt_of_lt_of_le db.2 (pow_small (by omega))) (by omega)
    have e3 := hi5.low
    have e4 := hi5.high
    rw [dig_length] at hp5
    have e5 : qv.length ≤ 20 := by rw [hv5.length, hi5.len]; omega
    k_steps
    rename News _ _ _ _ => nE
    try simp only [List.push_toArray] at nE
    exact RevEnd.of (by assumption) nE (List.forall_mem_cons.mpr ⟨by k_mem, fun q hq => by repeat (first | exact hq | apply List.Mem.tail)⟩) (ints_snoc hv5) (dp_step b3 hi5 db.1) rfl (fun z z1 z2 z3 => by simp [z1, z2, z3])
  case done =>
    intro r tr qv qs kq u v h5 tk5 hi5 hv5 F5 N5
    obtain ⟨f1, f2, f3⟩ := dp_end hi5 b1 bq3
    have e5 : qv.length ≤ 20 := by rw [hv5.length, f3]; omega
    have hrv := ints_rev hv5
    have e6 : ∀ y ∈ qs.reverse, 0 ≤ y := fun y hy => hi5.pos y (List.mem_reverse.mp hy)
    have e7 : qs.reverse.length ≤ 20 := by rw [List.length_reverse, f3]; omega
    have e8 : val (Builtin.Int.intBits b : Int).toNat qs.reverse < 1048576 := by
      rw [f2]
      have := Int.ediv_le_self b b1
      omega
    k_steps
    subst f1
    rename News _ _ _ _ => nE
    rw [f2] at nE
    exact hret _ _ _ _ _ _ (by assumption) (cb_drop nE (List.forall_mem_cons.mpr ⟨by k_mem, List.forall_mem_cons.mpr ⟨by k_mem, List.forall_mem_cons.mpr ⟨by k_mem, List.forall_mem_cons.mpr ⟨by k_mem, List.forall_mem_cons.mpr ⟨by k_mem, fun q hq => by repeat (first | exact hq | apply List.Mem.tail)⟩⟩⟩⟩⟩)) (And.intro (ltN (by dsimp only; omega)) (And.intro (ltN (by dsimp only; omega)) (And.intro (ltN (by dsimp only; omega)) (And.intro (ltN (by dsimp only; omega)) (allLt_le lr (by omega))))))
end
section
theorem c_dpE {x b : Int} {t1 t2 : Tok} 
  (B : Below A₀ base outer h₀) (F : Fr h₀ L s.heap m) (X : (hd.heap_39 w.params).In h₀) (N : News h₀ L s.heap ((30, tabObj #[]) :: (37, tabObj #[]) :: news)) (T : Top p loose mean mg mb h₀) (hk : cs.kind = .function)
  (hch1 : CodeHd base 34 30) (hch2 : CodeHd base 41 37) (hn30 : ∀ q ∈ news, q.1 ≠ 30) (hn37 : ∀ q ∈ news, q.1 ≠ 37)
  (b1 : 0 ≤ x) (b2 : x < 256) (b3 : 0 < b) (b4 : b < 64)
  (hd : dp + 60 < recursionLimit) (hu : un + 600 < cLine)
  (hret : ∀ (t c1 c2 : Addr) (o1 o2 : Obj) (v1 v2 : Array Value) (u1 u2 : Tok) (u v : Tok) (k : Nat) (h' : Heap) (tk' : Nat), Fr h₀ L h' m → News h₀ L h' ((t, { cls := .type "tuple", data := .seq #[.int (x / b) u, .int (x % b) v] k }) :: (30, tabObj #[rawInt 32, rawInt 4, .ref c1]) :: (c1, o1) :: (37, tabObj #[rawInt 47, rawInt 4, .ref c2]) :: (c2, o2) :: news) → AllLt t ((30, tabObj #[rawInt 32, rawInt 4, .ref c1]) :: (c1, o1) :: (37, tabObj #[rawInt 47, rawInt 4, .ref c2]) :: (c2, o2) :: news) → o1.data = .fields v1 → v1[1]? = some (.str (Str.ofString "_int2digits.<locals>.inner") u1) → o2.data = .fields v2 → v2[1]? = some (.str (Str.ofString "_digits2int.<locals>.inner") u2) → @LT.lt Nat _ 37 c1 → @LT.lt Nat _ 37 c2 → AllLt c1 news → AllLt c2 news → Q (.ref t) { s with heap := h', toks := tk' }) :
  wpAny (model Challenge.rw_pe0195_01.row.prog w) (ktrTop dp un gd cn cs L a ccd cl outer) (call (.ref 49) [.int x t1, .int b t2]) Q E s := by
  w_top off
  k_with_none
  (k_with "call builtin:list.reverse" => (k_here; k_dflt (refine' my_reverse ?zqF ?zqN ?zqU ?zqz ?_; (case zqF => k_asm); (case zqN => k_asm); (case zqU => k_upd); (case zqz => omega)); intro h9 F9 N9))
  (k_with "call ref" => (k_here; (with_reducible show wpAny _ _ (call (Value.ref 35) _) _ _ _); k_dflt (refine' c_i2dE ?zqk1 ?zqk2 ?zqk3 ?zqk4 ?zqk5 ?zqkK ?zqk0 ?zqb1 ?zqb2 ?zqb3 ?zqb4 ?zqq0 ?zqq1 ?zqq2 ?zqq3 ?zqhd ?zqhu ?zqne ?_; (case zqk2 => k_asm); (case zqk4 => k_asm); (case zqk1 => k_asm); (case zqk3 => k_asm); (case zqk5 => k_asm); (case zqkK => exact rfl); (case zqk0 => assumption); (case zqb1 => omega); (case zqb2 => omega); (case zqb3 => omega); (case zqb4 => omega); (case zqq0 => assumption); (case zqq1 => assumption); (case zqq2 => assumption); (case zqq3 => assumption); (case zqhd => first | exact room1 (by assumption) (by decide) | exact room0 (by assumption) (by decide) | ktr_room); (case zqhu => first | exact room1 (by assumption) (by decide) | exact room0 (by assumption) (by decide) | ktr_units); (case zqne => k_all)); intro r9 c9 oc9 cv9 ct9 vs9 k9 h9 tk9 hV9 F9 N9 d9 e9 l9 lc9 m9 n9))
  (k_with "call ref" => (k_here; (with_reducible show wpAny _ _ (call (Value.ref 21) _) _ _ _); k_dflt (refine' c_div2 ?zqk1 ?zqk2 ?zqk3 ?zqk4 ?zqk5 ?zqkK ?zqb1 ?zqb2 ?zqb3 ?zqb4 ?zqb5 ?zqhd ?zqhu ?_; (case zqk2 => k_asm); (case zqk4 => k_asm); (case zqk1 => k_asm); (case zqk3 => k_asm); (case zqk5 => k_asm); (case zqkK => exact rfl); (case zqb1 => omega); (case zqb2 => omega); (case zqb3 => omega); (case zqb4 => omega); (case zqb5 => omega); (case zqhd => first | exact room1 (by assumption) (by decide) | exact room0 (by assumption) (by decide) | ktr_room); (case zqhu => first | exact room1 (by assumption) (by decide) | exact room0 (by assumption) (by decide) | ktr_units)); intro r9 u9 v9 k9 h9 tk9 F9 N9 l9; (try simp only [AllLt, and_true] at l9)))
  (k_with "call ref" => (k_here; (with_reducible show wpAny _ _ (call (Value.ref 42) _) _ _ _); k_dflt (refine' c_d2iE' ?zqk1 ?zqk2 ?zqk3 ?zqk4 ?zqk5 ?zqkK ?zqk0 ?zqkV ?zqkp ?zqb3 ?zqb4 ?zqb5 ?zqb6 ?zqhd ?zqhu ?zqhD ?zqne ?_; (case zqk2 => k_asm); (case zqk4 => k_asm); (case zqk1 => k_asm); (case zqk3 => k_asm); (case zqk5 => k_asm); (case zqkK => exact rfl); (case zqk0 => assumption); (case zqkV => assumption); (case zqkp => assumption); (case zqb3 => omega); (case zqb4 => omega); (case zqb5 => omega); (case zqb6 => assumption); (case zqhd => first | exact room1 (by assumption) (by decide) | exact room0 (by assumption) (by decide) | ktr_room); (case zqhu => first | exact room1 (by assumption) (by decide) | exact room0 (by assumption) (by decide) | ktr_units); (case zqhD => exact ltN (by omega)); (case zqne => k_all)); intro c9 oc9 cv9 ct9 t9 h9 tk9 F9 N9 d9 e9 l9 m9 n9))
  revert X; k_fill; intro X
  obtain ⟨bn1, bn2, bq0, bq1, bq2, bq3⟩ := bits_facts b1 b2 b3 b4
  refine wpAny_call ?_
  k_dflt cell_enter
  k_steps
  rename AllLt _ (_ :: _) => lc9
  obtain ⟨a2, lc⟩ := lc9
  rename AllLt _ (_ :: _) => l9
  obtain ⟨a1, lr⟩ := l9
  k_dflt (refine' rev_loop (Str.ofString "a_digit") (Str.ofString "r") (Str.ofString "q_digit") (DpInv (Builtin.Int.intBits b : Int).toNat b) ?hA ?hL ?F ?N ?hl ?hV ?oI ?oq ?oIq ?x1 ?x2 ?x3 ?hr ?h0 ?turn ?done)
  case F => k_asm
  case N => k_asm
  case hA => exact rfl
  case hL => exact rfl
  case hl => k_mem
  case hV => assumption
  case oI => k_all
  case oq => k_all
  case oIq => k_ne
  case x1 => decide
  case x2 => decide
  case x3 => decide
  case hr => exact rfl
  case h0 => exact dp_start b3
  case turn =>
    rintro own s₁ d td pre r tr qv qs kq u ⟨h5, tk5, rfl⟩ hd5 hp5 hi5 hv5 F5 N5 ho5
    have db := dig_bounds hd5
    obtain ⟨e1, e2⟩ := dp_size (n := (Builtin.Int.intBits b : Int).toNat) hi5.low hi5.high (by omega) db.1 (Int.lt_of_lt_of_le db.2 (pow_small (by omega))) (by omega)
    have e3 := hi5.low
    have e4 := hi5.high
    rw [dig_length] at hp5
    have e5 : qv.length ≤ 20 := by rw [hv5.length, hi5.len]; omega
    k_steps
    rename News _ _ _ _ => nE
    try simp only [List.push_toArray] at nE
    exact RevEnd.of (by assumption) nE (List.forall_mem_cons.mpr ⟨by k_mem, fun q hq => by repeat (first | exact hq | apply List.Mem.tail)⟩) (ints_snoc hv5) (dp_step b3 hi5 db.1) rfl (fun z z1 z2 z3 => by simp [z1, z2, z3])
  case done =>
    intro r tr qv qs kq u v h5 tk5 hi5 hv5 F5 N5
    obtain ⟨f1, f2, f3⟩ := dp_end hi5 b1 bq3
    have e5 : qv.length ≤ 20 := by rw [hv5.length, f3]; omega
    have hrv := ints_rev hv5
    have e6 : ∀ y ∈ qs.reverse, 0 ≤ y := fun y hy => hi5.pos y (List.mem_reverse.mp hy)
    have e7 : qs.reverse.length ≤ 20 := by rw [List.length_reverse, f3]; omega
    have e8 : val (Builtin.Int.intBits b : Int).toNat qs.reverse < 1048576 := by
      rw [f2]
      have := Int.ediv_le_self b b1
      omega
    k_steps
    subst f1
    rename News _ _ _ _ => nE
    rw [f2] at nE
    rename AllLt _ (_ :: _ :: _ :: _) => lz
    exact hret _ _ _ _ _ _ _ _ _ _ _ _ _ _ (by assumption) (cb_drop nE (List.forall_mem_cons.mpr ⟨by k_mem, List.forall_mem_cons.mpr ⟨by k_mem, List.forall_mem_cons.mpr ⟨by k_mem, List.forall_mem_cons.mpr ⟨by k_mem, List.forall_mem_cons.mpr ⟨by k_mem, fun q hq => by repeat (first | exact hq | apply List.Mem.tail)⟩⟩⟩⟩⟩)) (And.intro (ltN (by dsimp only; omega)) (And.intro (ltN (by dsimp only; omega)) (And.intro (ltN (by dsimp only; omega)) (And.intro (ltN (by dsimp only; omega)) (allLt_le lr (by omega)))))) (by assumption) (by assumption) (by assumption) (by assumption) (ltN (by omega)) (ltN (by omega)) lc lz.2.2.2
end
end

set_option maxHeartbeats 2000000
section
variable {w : World} {dp un : Nat} {gd : Option (List Code)} {cn : Str} {cs : Scope} {a : Addr} {ccd : Value} {cl : List (Str × Addr)} {outer : List Env} {A₀ : Around} {base h₀ : Heap} {L : Addr} {m : Str → Option Value} {news : List (Addr × Obj)} {s : Shared}
  {Q E : Value → Shared → Prop} {p : Program} {loose : List Str} {mean : ExcName → Option Value} {mg mb : Str → Option Value}
section
theorem c_idmH {x b : Int} {t1 t2 : Tok} {c1 c2 : Addr} {o1 o2 : Obj} {v1 v2 : Array Value} {u1 u2 : Tok}
  (hc1 : o1.data = .fields v1) (hq1 : v1[1]? = some (.str (Str.ofString "_int2digits.<locals>.inner") u1)) (hc2 : o2.data = .fields v2) (hq2 : v2[1]? = some (.str (Str.ofString "_digits2int.<locals>.inner") u2)) (g1 : @LT.lt Nat _ 37 c1) (g2 : @LT.lt Nat _ 37 c2)
  (B : Below A₀ base outer h₀) (F : Fr h₀ L s.heap m) (X : (hd.heap_39 w.params).In h₀) (N : News h₀ L s.heap ((30, tabObj #[rawInt 32, rawInt 4, .ref c1]) :: (c1, o1) :: (37, tabObj #[rawInt 47, rawInt 4, .ref c2]) :: (c2, o2) :: news)) (T : Top p loose mean mg mb h₀) (hk : cs.kind = .function)
  (hch1 : CodeHd base 34 30) (hch2 : CodeHd base 41 37)
  (b1 : 0 ≤ x) (b2 : x < 256) (b3 : 0 < b) (b4 : b < 64)
  (hd : dp + 80 < recursionLimit) (hu : un + 700 < cLine)
  (hret : ∀ (t : Addr) (u v : Tok) (k : Nat) (h' : Heap) (tk' : Nat), Fr h₀ L h' m → News h₀ L h' ((t, { cls := .type "tuple", data := .seq #[.int (x / b) u, .int (x % b) v] k }) :: (30, tabObj #[rawInt 32, rawInt 4, .ref c1]) :: (c1, o1) :: (37, tabObj #[rawInt 47, rawInt 4, .ref c2]) :: (c2, o2) :: news) → AllLt t ((30, tabObj #[rawInt 32, rawInt 4, .ref c1]) :: (c1, o1) :: (37, tabObj #[rawInt 47, rawInt 4, .ref c2]) :: (c2, o2) :: news) → Q (.ref t) { s with heap := h', toks := tk' }) :
  wpAny (model Challenge.rw_pe0195_01.row.prog w) (ktrTop dp un gd cn cs L a ccd cl outer) (call (.ref 56) [.int x t1, .int b t2]) Q E s := by
  w_top off
  k_with_none
  (k_with "call ref" => (k_here; (with_reducible show wpAny _ _ (call (Value.ref 49) _) _ _ _); k_dflt (refine' c_dpH ?zqd1 ?zqd2 ?zqd3 ?zqd4 ?zqg1 ?zqg2 ?zqk1 ?zqk2 ?zqk3 ?zqk4 ?zqk5 ?zqkK ?zqc1 ?zqc2 ?zqb1 ?zqb2 ?zqb3 ?zqb4 ?zqhd ?zqhu ?_; (case zqk2 => k_asm); (case zqk4 => k_asm); (case zqk1 => k_asm); (case zqk3 => k_asm); (case zqk5 => k_asm); (case zqkK => exact rfl); (case zqd1 => assumption); (case zqd2 => assumption); (case zqd3 => assumption); (case zqd4 => assumption); (case zqg1 => assumption); (case zqg2 => assumption); (case zqc1 => assumption); (case zqc2 => assumption); (case zqb1 => omega); (case zqb2 => omega); (case zqb3 => omega); (case zqb4 => omega); (case zqhd => first | exact room1 (by assumption) (by decide) | exact room0 (by assumption) (by decide) | ktr_room); (case zqhu => first | exact room1 (by assumption) (by decide) | exact room0 (by assumption) (by decide) | ktr_units)); intro t9 u9 v9 k9 h9 tk9 F9 N9 l9))
  revert X; k_fill; intro X
  have q1 : (b == 0) = false := by rw [beq_eq_false_iff_ne]; omega
  have q2 : decide (b < 0) = false := by rw [decide_eq_false_iff_not]; omega
  have q3 : decide (x < 0) = false := by rw [decide_eq_false_iff_not]; omega
  refine wpAny_call ?_
  k_dflt cell_enter
  k_steps
  all_goals first | (exfalso; omega) | exact hret _ _ _ _ _ _ (by assumption) (by assumption) (by assumption)
end
section
theorem c_idmE {x b : Int} {t1 t2 : Tok} 
  (B : Below A₀ base outer h₀) (F : Fr h₀ L s.heap m) (X : (hd.heap_39 w.params).In h₀) (N : News h₀ L s.heap ((30, tabObj #[]) :: (37, tabObj #[]) :: news)) (T : Top p loose mean mg mb h₀) (hk : cs.kind = .function)
  (hch1 : CodeHd base 34 30) (hch2 : CodeHd base 41 37) (hn30 : ∀ q ∈ news, q.1 ≠ 30) (hn37 : ∀ q ∈ news, q.1 ≠ 37)
  (b1 : 0 ≤ x) (b2 : x < 256) (b3 : 0 < b) (b4 : b < 64)
  (hd : dp + 80 < recursionLimit) (hu : un + 700 < cLine)
  (hret : ∀ (t c1 c2 : Addr) (o1 o2 : Obj) (v1 v2 : Array Value) (u1 u2 : Tok) (u v : Tok) (k : Nat) (h' : Heap) (tk' : Nat), Fr h₀ L h' m → News h₀ L h' ((t, { cls := .type "tuple", data := .seq #[.int (x / b) u, .int (x % b) v] k }) :: (30, tabObj #[rawInt 32, rawInt 4, .ref c1]) :: (c1, o1) :: (37, tabObj #[rawInt 47, rawInt 4, .ref c2]) :: (c2, o2) :: news) → AllLt t ((30, tabObj #[rawInt 32, rawInt 4, .ref c1]) :: (c1, o1) :: (37, tabObj #[rawInt 47, rawInt 4, .ref c2]) :: (c2, o2) :: news) → o1.data = .fields v1 → v1[1]? = some (.str (Str.ofString "_int2digits.<locals>.inner") u1) → o2.data = .fields v2 → v2[1]? = some (.str (Str.ofString "_digits2int.<locals>.inner") u2) → @LT.lt Nat _ 37 c1 → @LT.lt Nat _ 37 c2 → AllLt c1 news → AllLt c2 news → Q (.ref t) { s with heap := h', toks := tk' }) :
  wpAny (model Challenge.rw_pe0195_01.row.prog w) (ktrTop dp un gd cn cs L a ccd cl outer) (call (.ref 56) [.int x t1, .int b t2]) Q E s := by
  w_top off
  k_with_none
  (k_with "call ref" => (k_here; (with_reducible show wpAny _ _ (call (Value.ref 49) _) _ _ _); k_dflt (refine' c_dpE ?zqk1 ?zqk2 ?zqk3 ?zqk4 ?zqk5 ?zqkK ?zqc1 ?zqc2 ?zqn1 ?zqn2 ?zqb1 ?zqb2 ?zqb3 ?zqb4 ?zqhd ?zqhu ?_; (case zqk2 => k_asm); (case zqk4 => k_asm); (case zqk1 => k_asm); (case zqk3 => k_asm); (case zqk5 => k_asm); (case zqkK => exact rfl); (case zqc1 => assumption); (case zqc2 => assumption); (case zqn1 => assumption); (case zqn2 => assumption); (case zqb1 => omega); (case zqb2 => omega); (case zqb3 => omega); (case zqb4 => omega); (case zqhd => first | exact room1 (by assumption) (by decide) | exact room0 (by assumption) (by decide) | ktr_room); (case zqhu => first | exact room1 (by assumption) (by decide) | exact room0 (by assumption) (by decide) | ktr_units)); intro t9 c9 e9 o9 p9 v9 w9 u9 x9 y9 z9 k9 h9 tk9 F9 N9 l9 i1 i2 i3 i4 i5 i6 i7 i8))
  revert X; k_fill; intro X
  have q1 : (b == 0) = false := by rw [beq_eq_false_iff_ne]; omega
  have q2 : decide (b < 0) = false := by rw [decide_eq_false_iff_not]; omega
  have q3 : decide (x < 0) = false := by rw [decide_eq_false_iff_not]; omega
  refine wpAny_call ?_
  k_dflt cell_enter
  k_steps
  all_goals first | (exfalso; omega) | exact hret _ _ _ _ _ _ _ _ _ _ _ _ _ _ (by assumption) (by assumption) (by assumption) (by assumption) (by assumption) (by assumption) (by assumption) (by assumption) (by assumption) (by assumption) (by assumption)
end
end
/-- the tables of the two nested defs, as the first call leaves them -/
def HitT (news : List (Addr × Obj)) : Prop := ∃ (c1 c2 : Addr) (o1 o2 : Obj) (v1 v2 : Array Value) (u1 u2 : Tok),
  (30, tabObj #[rawInt 32, rawInt 4, .ref c1]) ∈ news ∧ (c1, o1) ∈ news ∧ (37, tabObj #[rawInt 47, rawInt 4, .ref c2]) ∈ news ∧ (c2, o2) ∈ news ∧
  o1.data = .fields v1 ∧ v1[1]? = some (.str (Str.ofString "_int2digits.<locals>.inner") u1) ∧ o2.data = .fields v2 ∧ v2[1]? = some (.str (Str.ofString "_digits2int.<locals>.inner") u2) ∧ @LT.lt Nat _ 37 c1 ∧ @LT.lt Nat _ 37 c2
theorem HitT.mono {news news' : List (Addr × Obj)} (h : HitT news) (hs : ∀ q ∈ news, q ∈ news') : HitT news' :=
  let ⟨c1, c2, o1, o2, v1, v2, u1, u2, m1, m2, m3, m4, r⟩ := h
  ⟨c1, c2, o1, o2, v1, v2, u1, u2, hs _ m1, hs _ m2, hs _ m3, hs _ m4, r⟩
theorem HitT.cons {q : Addr × Obj} {news : List (Addr × Obj)} (h : HitT news) : HitT (q :: news) := h.mono fun _ hq => .tail _ hq
section
variable {w : World} {dp un : Nat} {gd : Option (List Code)} {cn : Str} {cs : Scope} {a : Addr} {ccd : Value} {cl : List (Str × Addr)} {outer : List Env} {A₀ : Around} {base h₀ : Heap} {L : Addr} {m : Str → Option Value} {news : List (Addr × Obj)} {s : Shared}
  {Q E : Value → Shared → Prop} {p : Program} {loose : List Str} {mean : ExcName → Option Value} {mg mb : Str → Option Value}
theorem c_idm {x b : Int} {t1 t2 : Tok} (hT : HitT news)
  (B : Below A₀ base outer h₀) (F : Fr h₀ L s.heap m) (X : (hd.heap_39 w.params).In h₀) (N : News h₀ L s.heap news) (T : Top p loose mean mg mb h₀) (hk : cs.kind = .function)
  (hch1 : CodeHd base 34 30) (hch2 : CodeHd base 41 37)
  (b1 : 0 ≤ x) (b2 : x < 256) (b3 : 0 < b) (b4 : b < 64)
  (hd : dp + 80 < recursionLimit) (hu : un + 700 < cLine)
  (hret : ∀ (t : Addr) (u v : Tok) (k : Nat) (h' : Heap) (tk' : Nat), Fr h₀ L h' m → News h₀ L h' ((t, { cls := .type "tuple", data := .seq #[.int (x / b) u, .int (x % b) v] k }) :: news) → AllLt t news → Q (.ref t) { s with heap := h', toks := tk' }) :
  wpAny (model Challenge.rw_pe0195_01.row.prog w) (ktrTop dp un gd cn cs L a ccd cl outer) (call (.ref 56) [.int x t1, .int b t2]) Q E s := by
  obtain ⟨c1, c2, o1, o2, v1, v2, u1, u2, m1, m2, m3, m4, e1, e2, e3, e4, g1, g2⟩ := hT
  refine c_idmH e1 e2 e3 e4 g1 g2 B F X (news := news) (fun q hq => N q ?_) T hk hch1 hch2 b1 b2 b3 b4 hd hu fun t u v k h' tk' F' N' l => hret t u v k h' tk' F' (fun q hq => N' q ?_) l.2.2.2.2
  · simp only [List.mem_cons] at hq
    rcases hq with rfl | rfl | rfl | rfl | hq
    · exact m1
    · exact m2
    · exact m3
    · exact m4
    · exact hq
  · rcases List.mem_cons.mp hq with rfl | hq
    · exact .head _
    · exact .tail _ (.tail _ (.tail _ (.tail _ (.tail _ hq))))
end

set_option maxHeartbeats 2000000
/-- the way down, as signs: L is 76, R is 82 -/
def wayL : Nat → Int → Int → List Nat
  | 0, _, _ => []
  | f + 1, l, r => if l = r then [] else if l < r then List.replicate ((r - 1) / l).toNat 76 ++ wayL f l ((r - 1) % l + 1) else List.replicate ((l - 1) / r).toNat 82 ++ wayL f ((l - 1) % r + 1) r
def txt (l : List Nat) : Str := ⟨l.toArray⟩
theorem txt_append (p q : List Nat) : txt p ++ txt q = txt (p ++ q) := by
  apply Str.ext'
  rw [Str.cps_append]
  simp [txt]
theorem txt_length (p : List Nat) : (txt p).length = p.length := by simp [txt, Str.length]
theorem rest_ok {l r : Int} (h1 : 0 < l) (h2 : l < r) : 0 ≤ (r - 1) % l ∧ (r - 1) % l + 1 ≤ l ∧ 0 ≤ (r - 1) / l ∧ (r - 1) / l + ((r - 1) % l + 1) ≤ r ∧ 1 ≤ (r - 1) / l := by
  have e := Int.emod_add_mul_ediv (r - 1) l
  have m0 := Int.emod_nonneg (r - 1) (Int.ne_of_gt h1)
  have m1 := Int.emod_lt_of_pos (r - 1) h1
  have d0 := Int.ediv_nonneg (a := r - 1) (b := l) (by omega) (by omega)
  have d1 : 1 ≤ (r - 1) / l := by
    rcases Int.lt_or_le ((r - 1) / l) 1 with h | h
    · have : (r - 1) / l = 0 := by omega
      rw [this, Int.mul_zero] at e
      omega
    · exact h
  have d2 : (r - 1) / l ≤ l * ((r - 1) / l) := by
    have := Int.mul_le_mul_of_nonneg_right (show (1 : Int) ≤ l by omega) d0
    omega
  generalize (r - 1) % l = m at *
  generalize (r - 1) / l = q at *
  generalize l * q = z at *
  omega
theorem wayL_fuel : ∀ (f g : Nat) (l r : Int), 0 < l → 0 < r → l + r ≤ f + 1 → l + r ≤ g + 1 → wayL f l r = wayL g l r
  | 0, g, l, r, h1, h2, h3, _ => by omega
  | f + 1, 0, l, r, h1, h2, _, h4 => by omega
  | f + 1, g + 1, l, r, h1, h2, h3, h4 => by
    unfold wayL
    split
    · rfl
    · split
      · have k := rest_ok h1 (by assumption)
        rw [wayL_fuel f g l ((r - 1) % l + 1) h1 (by omega) (by omega) (by omega)]
      · have k := rest_ok (l := r) (r := l) h2 (by omega)
        rw [wayL_fuel f g ((l - 1) % r + 1) r (by omega) h2 (by omega) (by omega)]
theorem wayL_lt {l r : Int} (h1 : 0 < l) (h2 : l < r) (h3 : l + r ≤ 64) : wayL 64 l r = List.replicate ((r - 1) / l).toNat 76 ++ wayL 64 l ((r - 1) % l + 1) := by
  have k := rest_ok h1 h2
  have e : wayL 64 l r = if l = r then [] else if l < r then List.replicate ((r - 1) / l).toNat 76 ++ wayL 63 l ((r - 1) % l + 1) else List.replicate ((l - 1) / r).toNat 82 ++ wayL 63 ((l - 1) % r + 1) r := rfl
  rw [e, if_neg (by omega), if_pos h2, wayL_fuel 63 64 l _ h1 (by omega) (by omega) (by omega)]
theorem wayL_gt {l r : Int} (h1 : 0 < r) (h2 : r < l) (h3 : l + r ≤ 64) : wayL 64 l r = List.replicate ((l - 1) / r).toNat 82 ++ wayL 64 ((l - 1) % r + 1) r := by
  have k := rest_ok h1 h2
  have e : wayL 64 l r = if l = r then [] else if l < r then List.replicate ((r - 1) / l).toNat 76 ++ wayL 63 l ((r - 1) % l + 1) else List.replicate ((l - 1) / r).toNat 82 ++ wayL 63 ((l - 1) % r + 1) r := rfl
  rw [e, if_neg (by omega), if_neg (by omega), wayL_fuel 63 64 _ r (by omega) h1 (by omega) (by omega)]
theorem wayStart {l W : Int} (h1 : 0 < l) (h2 : l < W) (h3 : W ≤ 64) : 0 < l ∧ 0 < W - l ∧ l + (W - l) ≤ 64 ∧ ((Str.ofString "").length : Int) + l + (W - l) ≤ 64 ∧ Str.ofString "" ++ txt (wayL 64 l (W - l)) = txt (wayL 64 l (W - l)) := by
  refine ⟨h1, by omega, by omega, ?_, Str.empty_append _⟩
  have : (Str.ofString "").length = 0 := by decide +kernel
  rw [this]
  omega
theorem wayA {l r : Int} {way T : Str} (h1 : 0 < l) (h3 : l + r ≤ 64) (h4 : (way.length : Int) + l + r ≤ 64) (h5 : way ++ txt (wayL 64 l r) = T) (h : l < r) :
    0 < l ∧ 0 < (r - 1) % l + 1 ∧ l + ((r - 1) % l + 1) ≤ 64 ∧ (((way ++ txt (List.replicate ((r - 1) / l).toNat 76)).length : Nat) : Int) + l + ((r - 1) % l + 1) ≤ 64 ∧ way ++ txt (List.replicate ((r - 1) / l).toNat 76) ++ txt (wayL 64 l ((r - 1) % l + 1)) = T := by
  have k := rest_ok h1 h
  refine ⟨h1, by omega, by omega, ?_, ?_⟩
  · rw [Str.length_append, txt_length, List.length_replicate]
    omega
  · rw [Str.append_assoc, txt_append, ← wayL_lt h1 h h3]
    exact h5
theorem wayB {l r : Int} {way T : Str} (h1 : 0 < r) (h3 : l + r ≤ 64) (h4 : (way.length : Int) + l + r ≤ 64) (h5 : way ++ txt (wayL 64 l r) = T) (h : ¬ l < r) (hn : l ≠ r) :
    0 < (l - 1) % r + 1 ∧ 0 < r ∧ (l - 1) % r + 1 + r ≤ 64 ∧ (((way ++ txt (List.replicate ((l - 1) / r).toNat 82)).length : Nat) : Int) + ((l - 1) % r + 1) + r ≤ 64 ∧ way ++ txt (List.replicate ((l - 1) / r).toNat 82) ++ txt (wayL 64 ((l - 1) % r + 1) r) = T := by
  have k := rest_ok (l := r) (r := l) h1 (by omega)
  refine ⟨by omega, h1, by omega, ?_, ?_⟩
  · rw [Str.length_append, txt_length, List.length_replicate]
    omega
  · rw [Str.append_assoc, txt_append, ← wayL_gt h1 (by omega) h3]
    exact h5
theorem wayMA {l r : Int} (h1 : 0 < l) (h : l < r) : (l + ((r - 1) % l + 1)).toNat < (l + r).toNat := by
  have k := rest_ok h1 h
  omega
theorem wayMB {l r : Int} (h1 : 0 < r) (h : ¬ l < r) (hn : l ≠ r) : ((l - 1) % r + 1 + r).toNat < (l + r).toNat := by
  have k := rest_ok (l := r) (r := l) h1 (by omega)
  omega
theorem wayEnd {l r : Int} {way T : Str} (h5 : way ++ txt (wayL 64 l r) = T) (h : l = r) : way = T := by
  have e : wayL 64 l r = [] := by
    show (if l = r then [] else _) = _
    rw [if_pos h]
  rw [e] at h5
  rw [← h5]
  apply Str.ext'
  rw [Str.cps_append]
  simp [txt]
theorem rep_flat (c : Nat) : ∀ k : Nat, (List.replicate k #[c]).foldl (· ++ ·) (#[] : Array Nat) = (List.replicate k c).toArray := by
  intro k
  have h : ∀ (k : Nat) (a : Array Nat), (List.replicate k #[c]).foldl (· ++ ·) a = a ++ (List.replicate k c).toArray := by
    intro k
    induction k with
    | zero => intro a; simp
    | succ k ih =>
      intro a
      rw [List.replicate_succ, List.foldl_cons, ih, List.replicate_succ, Array.append_assoc]
      congr 1
      apply Array.toList_inj.mp
      simp
  rw [h]
  simp
theorem mul_sign {x : Str} {c : Nat} (hx : x = txt [c]) {n : Int} (h0 : 0 ≤ n) : Txt.mul x n = txt (List.replicate n.toNat c) := by
  subst hx
  unfold Txt.mul
  split
  · have : n.toNat = 0 := by omega
    rw [this]
    rfl
  · split
    · rename_i h1 h2
      simp [txt, Str.length] at h2
      subst h2
      rfl
    · show Str.mk ((List.replicate n.toNat #[c]).foldl (· ++ ·) #[]) = Str.mk _
      rw [rep_flat]
section
variable {prog : Program} {w : World} {A : Around} {E : Value → Shared → Prop} {s : Shared} {Q : Value → Shared → Prop}
theorem mul_sign_K {x : Str} {c : Nat} {t u : Tok} {n : Int} (hx : x = txt [c]) (h0 : 0 ≤ n) (h1 : n ≤ 64) (h : ∀ t' k, Q (.str (txt (List.replicate n.toNat c)) t') { s with toks := k }) :
    wpAny (model prog w) A (binaryOp .Mult (.str x t) (.int n u)) Q E s := by
  refine SB.mul (mulOk_of 16 64 (by rw [hx, txt_length, List.length_singleton]; decide) (by omega) (by omega) (by decide) (by decide)) ?_
  rw [mul_sign hx h0]
  exact h
end
theorem add_text_K {prog : Program} {w : World} {A : Around} {E : Value → Shared → Prop} {s : Shared} {Q : Value → Shared → Prop} {x y : Str} {t u : Tok} (hx : x.length ≤ 1000) (hy : y.length ≤ 1000) (h : ∀ t' k, Q (.str (x ++ y) t') { s with toks := k }) :
    wpAny (model prog w) A (binaryOp .Add (.str x t) (.str y u)) Q E s := SB.add h (by rw [sizeLine_eq]; omega)
theorem rep_len {a b : Int} {c : Nat} (h0 : 0 ≤ a) (h1 : a ≤ 64) : (txt (List.replicate (a / b).toNat c)).length ≤ 1000 := by
  have := Int.ediv_le_self b h0
  rw [txt_length, List.length_replicate]
  omega
theorem sign_L : Str.ofString "L" = txt [76] := by decide +kernel
theorem sign_R : Str.ofString "R" = txt [82] := by decide +kernel
theorem quot_le {a b : Int} (h0 : 0 ≤ a) (h1 : a ≤ 64) : a / b ≤ 64 := Int.le_trans (Int.ediv_le_self b h0) h1
section
variable {w : World} {dp un : Nat} {gd : Option (List Code)} {cn : Str} {cs : Scope} {a : Addr} {ccd : Value} {cl : List (Str × Addr)} {outer : List Env} {A₀ : Around} {base h₀ : Heap} {L : Addr} {m : Str → Option Value} {news : List (Addr × Obj)} {s : Shared}
  {Q E : Value → Shared → Prop} {p : Program} {loose : List Str} {mean : ExcName → Option Value} {mg mb : Str → Option Value}
section
theorem c_way {small whole : Int} {t1 t2 : Tok} (hT : HitT news)
  (B : Below A₀ base outer h₀) (F : Fr h₀ L s.heap m) (X : (hd.heap_39 w.params).In h₀) (N : News h₀ L s.heap news) (T : Top p loose mean mg mb h₀) (hk : cs.kind = .function)
  (hch1 : CodeHd base 34 30) (hch2 : CodeHd base 41 37)
  (b1 : 0 < small) (b2 : small < whole) (b3 : whole ≤ 64)
  (hd : dp + 100 < recursionLimit) (hu : un + 800 < cLine)
  (hret : ∀ (t : Tok) (h' : Heap) (tk' : Nat), Fr h₀ L h' m → News h₀ L h' news → Q (.str (txt (wayL 64 small (whole - small))) t) { s with heap := h', toks := tk' }) :
  wpAny (model Challenge.rw_pe0195_01.row.prog w) (ktrTop dp un gd cn cs L a ccd cl outer) (call (.ref 84) [.int small t1, .int whole t2]) Q E s := by
  w_top off
  k_with_none
  (k_with "call ref" => (k_here; (with_reducible show wpAny _ _ (call (Value.ref 56) _) _ _ _); k_dflt (refine' c_idm ?zqhT ?zqk1 ?zqk2 ?zqk3 ?zqk4 ?zqk5 ?zqkK ?zqc1 ?zqc2 ?zqb1 ?zqb2 ?zqb3 ?zqb4 ?zqhd ?zqhu ?_; (case zqk2 => k_asm); (case zqk4 => k_asm); (case zqk1 => k_asm); (case zqk3 => k_asm); (case zqk5 => k_asm); (case zqkK => exact rfl); (case zqhT => repeat (first | assumption | refine HitT.cons ?_)); (case zqc1 => assumption); (case zqc2 => assumption); (case zqb1 => omega); (case zqb2 => omega); (case zqb3 => omega); (case zqb4 => omega); (case zqhd => first | exact room1 (by assumption) (by decide) | exact room0 (by assumption) (by decide) | ktr_room); (case zqhu => first | exact room1 (by assumption) (by decide) | exact room0 (by assumption) (by decide) | ktr_units)); intro t9 u9 v9 k9 h9 tk9 F9 N9 l9; (try simp only [AllLt, and_true] at l9)))
  (k_with "binaryOp Mult str int" => (k_here; k_dflt (refine' mul_sign_K ?zqhx ?zqh0 ?zqh1 ?_; (case zqhx => first | exact sign_L | exact sign_R); (case zqh0 => exact Int.ediv_nonneg (by omega) (by omega)); (case zqh1 => exact quot_le (by omega) (by omega))); intro t9 k9))
  (k_with "binaryOp Add str str" => (k_here; k_dflt (refine' add_text_K ?zqh0 ?zqh1 ?_; (case zqh0 => omega); (case zqh1 => exact rep_len (by omega) (by omega))); intro t9 k9))
  revert X; k_fill; intro X
  refine wpAny_call ?_
  k_dflt cell_enter
  (k_with "exec While Compare cons nil" => k_while (fun _ l r way => 0 < l ∧ 0 < r ∧ l + r ≤ 64 ∧ (way.length : Int) + l + r ≤ 64 ∧ way ++ txt (wayL 64 l r) = txt (wayL 64 small (whole - small))) (fun _ l r way => (l + r).toNat) "left" "right" "way")
  (k_with "state" => first | exact wayStart (by assumption) (by assumption) (by assumption) | exact wayA (by assumption) (by assumption) (by assumption) (by assumption) (by assumption) | exact wayB (by assumption) (by assumption) (by assumption) (by assumption) (by assumption) (by assumption))
  (k_with "measure" => first | exact wayMA (by assumption) (by assumption) | exact wayMB (by assumption) (by assumption) (by assumption))
  k_steps
  refine endS hret (by assumption) (cb_drop (by assumption) fun _ h => List.Mem.tail _ h) ?_
  exact wayEnd (by assumption) (by assumption)
end
end

set_option maxHeartbeats 2000000
/-! a comprehension with one test over a range by twos -/
def Src2 (prog : Program) (w : World) (A : Around) (h₀ : Heap) (L : Addr) (m : Str → Option Value) (env : Env) (ct elt : Expr) (x : Str) (scope : Scope) (cl : List (Str × Addr)) (Fin : Shared → List Value → List (Addr × Obj) → Prop) (xv : Value) (s₁ : Shared) : Prop :=
  ∃ r a b t u v n news, xv = .ref r ∧ A.handled = none ∧ Fr h₀ L s₁.heap m ∧ News h₀ L s₁.heap news ∧ IsRange s₁.heap r a b 2 t u v ∧ Builtin.Range.small a b 2 = true ∧ Builtin.Range.rangeSize a b 2 = ((n : Nat) : Int) ∧ n ≤ sizeLine ∧
    ∀ s₂ : Shared, (∃ h, s₂ = { s₁ with heap := h }) → LCt.CompRestT prog w A h₀ L m env ct elt x scope cl s₂ (fun _ => True) (fun i v => ∃ t, v = .int (a + (i : Int) * 2) t) (Fin s₂) n 0 [] news
section
variable {prog : Program} {w : World} {A : Around} {E : Value → Shared → Prop} {s : Shared} {h₀ : Heap} {L : Addr} {m : Str → Option Value} {env : Env}
theorem range_walks2 {I : Addr} (hh : A.handled = none) (a : Int) (n : Nat) : Walks prog w A I [I] [I] n (fun i v => ∃ t, v = .int (a + (i : Int) * 2) t) (fun i h => IsRangeIter h I (a + (i : Nat) * 2) ((n : Int) - (i : Nat)) 2) :=
  let W : Walks prog w A I [I] [I] n (fun i v => i < n ∧ ∃ t, v = .int (a + i * 2) t) (fun i h => IsRangeIter h I (a + (i : Nat) * 2) ((n : Int) - (i : Nat)) 2) := (Walks.range hh I a 2 n).bound
  { sub := W.sub, frame := W.frame, done := W.done, self := W.self,
    item := fun i s Q E hi st hQ => W.item i s Q E hi st fun v h' tk hP => hQ v h' tk hP.2 }
theorem comp2 {ct elt iter : Expr} {x : Str} {px : Pos} {scope : Scope} {cl : List (Str × Addr)} {pos : Pos} {Q : Value → Shared → Prop} (_F₀ : Fr h₀ L s.heap m)
    (hclos : closureFor scope env = pure cl) (hcell : ∀ y ∈ scope.names, y.2 ≠ .cell) (hkind : scope.kind = .function)
    (hnames : ∀ y ∈ scope.names, y.2 = .local → scope.names.lookup y.1 = some .local) (hx : scope.names.lookup x = some .local)
    (h : wpAny (model prog w) A (eval iter env) (Src2 prog w A h₀ L m env ct elt x scope cl (fun s₂ => LCg.FinE h₀ L m s₂ Q)) E s)
    (hs : ∀ x, foldedSetIterable iter env x = pure x := by intro _; rfl) :
    wpAny (model prog w) A (eval (.ListComp elt [⟨.Name x px, iter, [ct], 0⟩] scope pos) env) Q E s := by
  rw [eval_ListComp]
  refine wpAny_comprehension_free (use := none) rfl hs hclos hkind hnames (wpAny_mono h (fun xv s₁ h₁ => ?_) fun _ _ e => e)
  obtain ⟨r, a, b, t, u, v, n, news, rfl, hh, F, N, hr, hsm, hn, hsz, R⟩ := h₁
  refine wpAny_pyIter_range hr hsm ?_
  refine LCt.block_T (range_walks2 hh a n) hsz (fun i h st => ⟨_, st⟩) (fun i h h' o nw st e e' _ _ _ => by
      have st' : h.get? _ = some _ := st
      show h'.get? _ = some _
      rw [e', ← e]; exact st') hcell hkind hx (by show IsRangeIter _ _ _ _ _; rw [hn]; simpa using Heap.get?_push_size _ rfl) (fun b hb => ?_)
    (F.keeps fun _ _ e => Heap.get?_push_of_some _ e) (N.grown fun _ _ e => Heap.get?_push_of_some _ e) (Nat.ne_of_lt F.ns.lt) (next_is_new F) (fun p hp => Nat.ne_of_lt (Heap.lt_size (N p hp).1)) trivial (R _ ⟨_, rfl⟩) ?_
  · rw [List.mem_singleton.mp hb]
    show s₁.heap.objs.size < (s₁.heap.push _).objs.size
    rw [Heap.size_push]; exact Nat.lt_succ_self _
  · intro D C h tk m' ys news' F' N' o1 hn hC₀ hD₀ hCL hDL hCD offC fin
    refine ⟨m', hn, fun h'' hs'' => fin D h'' tk (F'.change hs'' hCL hC₀) (fun p hp => ?_) o1⟩
    refine ⟨hs''.extBut _ _ ?_ (N' p hp).1, (N' p hp).2⟩
    rcases List.mem_cons.mp hp with rfl | hp
    · exact Ne.symm hCD
    · exact offC p hp
end
/-- the odd numbers below b -/
def odds (n : Nat) : List Int := (List.range n).map fun (i : Nat) => 1 + (i : Int) * 2
theorem mem_odds {n : Nat} {k : Int} (h : k ∈ odds n) : 1 ≤ k ∧ k < 1 + 2 * (n : Int) := by
  obtain ⟨i, hi, rfl⟩ := List.mem_map.mp h
  have := List.mem_range.mp hi
  omega
section
variable {prog : Program} {w : World} {A : Around} {h₀ : Heap} {L : Addr} {m : Str → Option Value} {env : Env} {ct elt : Expr} {x : Str} {scope : Scope} {cl : List (Str × Addr)} {Fin : Shared → List Value → List (Addr × Obj) → Prop} {news : List (Addr × Obj)} {s₁ : Shared}
theorem src2_fold {r : Addr} {b : Int} {t u v : Tok} (G : List Int → Int → List Int) (hh : A.handled = none) (F : Fr h₀ L s₁.heap m) (N : News h₀ L s₁.heap news) (hr : IsRange s₁.heap r 1 b 2 t u v) (hb1 : 1 < b) (hb2 : b ≤ 64)
    (turn : ∀ g k t I oI C oC D m₂ ys l h tk (E' : Value → Shared → Prop), 1 ≤ k → k ≤ 64 → IntsAre ys l → LCg.NsObj oC m₂ → m₂ x = some (.int k t) → Fr h₀ L h m → News h₀ L h ((I, oI) :: (C, oC) :: (D, LCg.lst ys) :: news) → LCg.Off3 I C D news → ((@Ne Nat I C) ∧ (@Ne Nat I D) ∧ (@Ne Nat C D)) →
      wpAny (model prog w) A (isTrue ct (compEnvC scope cl C env) (eval ct (compEnvC scope cl C env))) (fun b s' => if b = true then wpAny (model prog w) A (eval elt (compEnvC scope cl C env)) (LCg.CompEnd h₀ L m { s₁ with heap := h, toks := tk } I oI C oC D (LCg.lst ys) (fun _ => True) (fun y news' => KCiEl news l (G l k) y news')) E' s'
        else LCg.CompEnd h₀ L m { s₁ with heap := h, toks := tk } I oI C oC D (LCg.lst ys) (fun _ => True) (fun _ news' => KCiNo news l (G l k) news') Value.none s') E' { ({ s₁ with heap := g } : Shared) with heap := h, toks := tk })
    (fin : ∀ g ys, IntsAre ys ((odds (b / 2).toNat).foldl G []) → ys.length ≤ 32 → Fin { s₁ with heap := g } ys news) (hg : KPfGrows G) :
    Src2 prog w A h₀ L m env ct elt x scope cl Fin (.ref r) s₁ := by
  have hsize : Builtin.Range.rangeSize 1 b 2 = (((b / 2).toNat : Nat) : Int) := by
    unfold Builtin.Range.rangeSize
    rw [if_pos (by decide), if_pos hb1]
    omega
  refine ⟨r, 1, b, t, u, v, (b / 2).toNat, news, rfl, hh, F, N, hr, ?_, ?_, ?_, ?_⟩
  · unfold Builtin.Range.small
    rw [hsize]
    simp only [Builtin.Range.rangeFitsLong, Bool.and_eq_true, Bool.or_eq_true, decide_eq_true_eq, beq_iff_eq, show (2 : Int) > 0 by decide, if_true]
    omega
  · exact hsize
  · rw [sizeLine_eq]; omega
  · rintro s₂ ⟨g, rfl⟩
    refine kci_rest (ks := odds (b / 2).toNat) G (by simp [odds]) (fun i v hi hv => ?_) (fun k t I oI C oC D m₂ ys l h tk E' hk hy hC hx F N off ne _ => ?_) (fun ys hy hl => fin g ys hy (by omega)) hg
    · obtain ⟨t, e⟩ := hv
      exact ⟨_, t, by simp [odds, hi], e⟩
    · have := mem_odds hk
      exact turn g k t I oI C oC D m₂ ys l h tk E' (by omega) (by omega) hy hC hx F N off ne
end
/-- what the comprehension of _law_inverse keeps -/
def invG (small whole : Int) (l : List Int) (k : Int) : List Int := if small * k % whole = 1 then l ++ [k] else l
theorem invG_yes {small whole k : Int} {l : List Int} (h : (small * k).fmod whole = 1) (hw : 0 < whole) : invG small whole l k = l ++ [k] := by
  rw [Int.fmod_eq_emod_of_nonneg _ (by omega)] at h
  exact if_pos h
theorem invG_no {small whole k : Int} {l : List Int} (h : (small * k).fmod whole ≠ 1) (hw : 0 < whole) : invG small whole l k = l := by
  rw [Int.fmod_eq_emod_of_nonneg _ (by omega)] at h
  exact if_neg h
theorem invG_grows {small whole : Int} : KPfGrows (invG small whole) := by
  intro l k
  unfold invG
  split
  · simp
  · omega
/-- the first of them -/
def inv (small whole : Int) : Int := ((odds (whole / 2).toNat).foldl (invG small whole) []).getD 0 0
section
variable {w : World} {dp un : Nat} {gd : Option (List Code)} {cn : Str} {cs : Scope} {a : Addr} {ccd : Value} {cl : List (Str × Addr)} {outer : List Env} {A₀ : Around} {base h₀ : Heap} {L : Addr} {m : Str → Option Value} {news : List (Addr × Obj)} {s : Shared}
  {Q E : Value → Shared → Prop} {p : Program} {loose : List Str} {mean : ExcName → Option Value} {mg mb : Str → Option Value}
section
theorem c_inv {small whole : Int} {t1 t2 : Tok}
  (B : Below A₀ base outer h₀) (F : Fr h₀ L s.heap m) (X : (hd.heap_39 w.params).In h₀) (N : News h₀ L s.heap news) (T : Top p loose mean mg mb h₀) (hk : cs.kind = .function)
  (b1 : 0 < small) (b2 : small < whole) (b3 : whole ≤ 64)
  (hd : dp + 10 < recursionLimit) (hu : un + 80 < cLine) (hne : 0 < ((odds (whole / 2).toNat).foldl (invG small whole) []).length)
  (hret : ∀ (t : Tok) (h' : Heap) (tk' : Nat), Fr h₀ L h' m → News h₀ L h' news → Q (.int (inv small whole) t) { s with heap := h', toks := tk' }) :
  wpAny (model Challenge.rw_pe0195_01.row.prog w) (ktrTop dp un gd cn cs L a ccd cl outer) (call (.ref 96) [.int small t1, .int whole t2]) Q E s := by
  w_top off
  k_with_none
  (k_with "eval ListComp" => (k_here; k_dflt (refine comp2 (by k_asm) (by with_unfolding_all rfl) (by decide) (by rfl) (by decide) (by rfl) ?_)))
  revert X; k_fill; intro X
  refine wpAny_call ?_
  k_dflt (refine' code_defC ?k1 ?k2 ?k3 ?k4 ?k5 ?kA ?kF ?kK ?k6 ?k7 ?k8 ?k9 ?kB ?kD ?_ ?c2 ?c3 ?c4; (case kA => exact rfl); (case kF => exact rfl); (case kK => assumption); (case k1 => k_asm); (case k2 => k_asm); (case k3 => k_asm); (case k4 => k_asm); (case k5 => k_asm); (case k6 => k_is); (case k7 => k_is); (case k8 => ktr_room); (case k9 => exact BindsTo.of_eq rfl); (case kB => exact rfl); (case kD => decide +kernel); (case c2 => exact rfl); (case c3 => exact rfl); (case c4 => exact rfl); k_whole; intro g' L' h' tk' cells' FG' F' N' Y' B' X' T' l1; (try k_lt l1); k_cells Y'; (try simp only [List.cons_append, List.nil_append] at N'); (try dsimp only); (try k_lift B'); (try k_fold))
  k_steps
  k_dflt (refine' src2_fold (invG small whole) ?hh ?F ?N ?hr ?b1 ?b2 ?turn ?fin invG_grows)
  case hh => exact rfl
  case F => k_asm
  case N => k_asm
  case hr => assumption
  case b1 => omega
  case b2 => omega
  case turn =>
    intro g5 k5 t5 I5 oI5 C5 oC5 D5 m5 ys5 l5 h5 tk5 E5 q1 q2 hy5 hC5 hx5 F5 N5 off5 ne5
    k_steps
    · exact LCg.CompEnd.intro F5 N5 _ (fun _ h => h) off5 trivial (kci_el (invG_yes (by assumption) (by omega)) rfl rfl)
    · exact LCg.CompEnd.intro F5 N5 _ (fun _ h => h) off5 trivial (kci_no (invG_no (by assumption) (by omega)) rfl)
  case fin =>
    intro g5 ys5 hy5 hl5 D5 h5 tk5 F5 N5 off5
    k_steps
    exact endI hret (by assumption) (cb_drop (by assumption) fun _ h => List.Mem.tail _ (List.Mem.tail _ (List.Mem.tail _ h))) rfl
end
end

set_option maxHeartbeats 2000000
open PySem.Builtin PySem.Builtin.Str in
theorem occ_empty {x y : PySem.Str} {lo hi : Nat} (hy : y.length = 0) (h : lo ≤ hi) : ∃ r, occurrences x y lo hi 1 = lo :: r := by
  have h0 : (occurrences x y lo hi 1)[0]? = some lo := by
    rw [StrLaws.occ_eq]
    obtain ⟨k, hk⟩ : ∃ k, hi + 1 - lo = k + 1 := ⟨hi - lo, by omega⟩
    have hs : subAt x y lo = true := by
      rw [StrLaws.subAt_eq, hy, List.take_zero]
      have : y.cps.toList = [] := by
        have : y.cps.size = 0 := hy
        simpa using this
      rw [this]
      rfl
    rw [hk, List.range'_succ, Array.getElem?_toList]
    rw [List.forIn_cons]
    have hb : StrLaws.occBody x y hi 1 lo (#[], lo) = pure (ForInStep.yield (#[lo], lo + y.length)) := by
      unfold StrLaws.occBody
      simp [hs, hy, h]
    rw [hb]
    exact StrLaws.occ_head_keeps x y hi 1 lo _ _ rfl
  cases e : occurrences x y lo hi 1 with
  | nil => rw [e] at h0; cases h0
  | cons a r =>
    rw [e] at h0
    simp only [List.getElem?_cons_zero, Option.some.injEq] at h0
    exact ⟨r, by rw [h0]⟩
open PySem.Builtin PySem.Builtin.Str in
theorem gives_find4 (x y : PySem.Str) (i j : Int) (t u v v' : Tok) : Gives («str.find» ⟨[.str x t, .str y u, .int i v, .int j v'], []⟩) (.int (match occurrences x y (fromIndex x.length i) (min (fromIndex x.length j) x.length) 1 with | k :: _ => (k : Int) | [] => -1)) := by
  show Gives (match occurrences x y (fromIndex x.length i) (min (fromIndex x.length j) x.length) 1 with | k :: _ => retInt k | [] => (do rule "str.find.not-found"; retInt (-1))) _
  cases occurrences x y (fromIndex x.length i) (min (fromIndex x.length j) x.length) 1 with
  | nil => exact .rule (.of_eq rfl)
  | cons k _ => exact .of_eq rfl
theorem find_empty_K {prog : Program} {w : World} {A : Around} {E : Value → Shared → Prop} {s : Shared} {x y : PySem.Str} {t u v v' : Tok} {i j : Int} {Q : Value → Shared → Prop} (hy : (y.length : Int) = 0) (h0 : 0 ≤ i) (h1 : i ≤ j) (h2 : j ≤ x.length)
    (hq : Q (.int i s.toks) { s with toks := s.toks + 1 }) : wpAny (model prog w) A (call (.builtin "str.find") [.str x t, .str y u, .int i v, .int j v']) Q E s := by
  refine call_gives F.slot_str_find (typeIs_str _ _ _) F.entry_str_find (F.args_str_find_4 _ _ _ _) (gives_find4 x y i j t u v v') ?_
  obtain ⟨r, e⟩ := occ_empty (x := x) (y := y) (lo := fromIndex x.length i) (hi := min (fromIndex x.length j) x.length) (by omega) (by unfold fromIndex; split <;> split <;> omega)
  rw [e]
  have hi' : ((fromIndex x.length i : Nat) : Int) = i := by unfold fromIndex; split <;> omega
  show Q (.int ((fromIndex x.length i : Nat) : Int) s.toks) _
  rw [hi']
  exact hq
/-- what _ellipsis_match answers of two parts with dots between -/
def ellR (y1 y2 g : Str) : Bool := (decide ((y1.length : Int) = 0) || Txt.startswith g y1) && (decide ((y2.length : Int) = 0) || Txt.endswith g y2) && decide ((y1.length : Int) + y2.length ≤ g.length)
theorem ell_T {y1 y2 g : Str} (h1 : (y1.length : Int) = 0 ∨ Txt.startswith g y1 = true) (h2 : (y2.length : Int) = 0 ∨ Txt.endswith g y2 = true) (h3 : (y1.length : Int) + y2.length ≤ g.length) : true = ellR y1 y2 g := by
  unfold ellR
  rw [decide_eq_true h3]
  rcases h1 with h1 | h1 <;> rcases h2 with h2 | h2 <;> simp [h1, h2]
theorem ell_F1 {y1 y2 g : Str} (h1 : (y1.length : Int) ≠ 0) (h2 : Txt.startswith g y1 = false) : false = ellR y1 y2 g := by
  unfold ellR
  rw [decide_eq_false h1, h2]
  rfl
theorem ell_F2 {y1 y2 g : Str} (h1 : (y2.length : Int) ≠ 0) (h2 : Txt.endswith g y2 = false) : false = ellR y1 y2 g := by
  unfold ellR
  rw [decide_eq_false h1, h2]
  simp
theorem ell_F3 {y1 y2 g : Str} (h3 : ¬ (y1.length : Int) + y2.length ≤ g.length) : false = ellR y1 y2 g := by
  unfold ellR
  rw [decide_eq_false h3]
  simp
theorem ell_split {prog : Program} {w : World} {A : Around} {E : Value → Shared → Prop} {s : Shared} {h₀ : Heap} {L : Addr} {m : PySem.Str → Option Value} {news : List (Addr × Obj)} {x y y1 y2 : PySem.Str} {t u : Tok} {Q : Value → Shared → Prop}
    (F : Fr h₀ L s.heap m) (N : News h₀ L s.heap news) (hy : (y.length == 0) = false) (hs : Txt.split x y = [y1, y2]) (hl : x.length ≤ 1000)
    (h : ∀ D t1 t2 h' k, Fr h₀ L h' m → News h₀ L h' ((D, listOf #[.str y1 t1, .str y2 t2] 0) :: news) → (∀ p ∈ news, p.1 < D) → Q (.ref D) { s with heap := h', toks := k }) :
    wpAny (model prog w) A (call (.builtin "str.split") [.str x t, .str y u]) Q E s := by
  refine KSpl.split1 F N hy (fun D l h' k e a F' N' lt => ?_) (by rw [sizeLine_eq]; omega)
  rw [hs] at e
  obtain ⟨t1, l1, rfl, e1⟩ := KSpl.cons_of e
  obtain ⟨t2, l2, rfl, e2⟩ := KSpl.cons_of e1
  have := KSpl.nil_of e2
  subst this
  exact h D t1 t2 h' k F' N' lt
theorem unr_end {h₀ h' : Heap} {L I : Addr} {s : Shared} {it : Obj} {R : (Str → Option Value) → List (Addr × Obj) → Prop} {m' : Str → Option Value} {news' : List (Addr × Obj)} {tk : Nat}
    (F : Fr h₀ L h' m') (N : News h₀ L h' ((I, it) :: news')) (l : ∀ p ∈ news', p.1 < I) (r : R m' news') : UnrEnd h₀ L s I it R { s with heap := h', toks := tk } := ⟨h', tk, m', news', rfl, F, N, fun p hp => Nat.ne_of_lt (l p hp), r⟩
section
variable {w : World} {dp un : Nat} {gd : Option (List Code)} {cn : Str} {cs : Scope} {a : Addr} {ccd : Value} {cl : List (Str × Addr)} {outer : List Env} {A₀ : Around} {base h₀ : Heap} {L : Addr} {m : Str → Option Value} {news : List (Addr × Obj)} {s : Shared}
  {Q E : Value → Shared → Prop} {p : Program} {loose : List Str} {mean : ExcName → Option Value} {mg mb : Str → Option Value}
section
theorem c_ell {x y1 y2 g : Str} {t1 t2 : Tok} (hs : Txt.split x (Str.ofString "...") = [y1, y2]) (ho : (Builtin.Str.occurrences x (Str.ofString "...") 0 x.length 1).isEmpty = false) (l1 : y1.length ≤ 64) (l2 : y2.length ≤ 64) (l3 : g.length ≤ 64) (l4 : x.length ≤ 200)
  (B : Below A₀ base outer h₀) (F : Fr h₀ L s.heap m) (X : (hd.heap_39 w.params).In h₀) (N : News h₀ L s.heap news) (T : Top p loose mean mg mb h₀) (hk : cs.kind = .function)
  (hd : dp + 10 < recursionLimit) (hu : un + 80 < cLine)
  (hret : ∀ (h' : Heap) (tk' : Nat), Fr h₀ L h' m → News h₀ L h' news → Q (.bool (ellR y1 y2 g)) { s with heap := h', toks := tk' }) :
  wpAny (model Challenge.rw_pe0195_01.row.prog w) (ktrTop dp un gd cn cs L a ccd cl outer) (call (.ref 77) [.str x t1, .str g t2]) Q E s := by
  w_top off
  k_with_none
  (k_with "call builtin:str.split" => (k_here; k_dflt (refine' ell_split ?zqF ?zqN ?zqhy ?zqhs ?zqhl ?_; (case zqF => k_asm); (case zqN => k_asm); (case zqhy => decide +kernel); (case zqhs => assumption); (case zqhl => omega)); intro D9 t9 u9 h9 k9 F9 N9 l9; (try k_lt l9)))
  (k_with "exec For Name Name cons nil" => (k_here; (rename Fr _ _ _ _ => lF'); (with_unfolding_all refine' For_invVF lF' ?zqk1 ?zqk2 ?_; (case zqk1 => exact rfl); (case zqk2 => exact rfl); k_whole)))
  (k_with "pyIter ref" => (k_here; k_dflt (refine' iter_listUnr ?zqhh ?zqF ?zqN ?zqm ?zqc ?zqd ?_; (case zqhh => exact rfl); (case zqF => k_asm); (case zqN => k_asm); (case zqm => k_mem); (case zqc => exact rfl); (case zqd => exact rfl)); intro I9 l9))
  (k_with "UnrEnd" => (k_here; k_dflt (refine' unr_end ?zqF ?zqN ?zql ?_; (case zqF => k_asm); (case zqN => k_asm); (case zql => assumption)); refine ⟨by k_dflt k_mem, ?_⟩))
  (k_with "call builtin:str.find" => (k_here; k_dflt (refine' find_empty_K ?zqhy ?zqh0 ?zqh1 ?zqh2 ?_; (case zqhy => assumption); (case zqh0 => omega); (case zqh1 => omega); (case zqh2 => omega))))
  revert X; k_fill; intro X
  refine wpAny_call ?_
  k_dflt cell_enter
  k_steps
  all_goals first
    | exact endB hret (by assumption) (cb_drop (by assumption) fun _ h => List.Mem.tail _ (List.Mem.tail _ h)) (ell_F1 (by assumption) (by assumption))
    | exact endB hret (by assumption) (cb_drop (by assumption) fun _ h => List.Mem.tail _ (List.Mem.tail _ h)) (ell_F2 (by assumption) (by assumption))
    | exact endB hret (by assumption) (cb_drop (by assumption) fun _ h => List.Mem.tail _ (List.Mem.tail _ h)) (ell_F3 (by omega))
    | exact endB hret (by assumption) (cb_drop (by assumption) fun _ h => List.Mem.tail _ (List.Mem.tail _ h)) (ell_T (by first | exact Or.inl (by assumption) | exact Or.inr (by assumption)) (by first | exact Or.inl (by assumption) | exact Or.inr (by assumption)) (by omega))
    | skip
end
end

set_option maxHeartbeats 2000000
theorem max3_num {prog : Program} {w : World} {A : Around} {E : Value → Shared → Prop} {s : Shared} {Q : Value → Shared → Prop} {a b c : Value} (hh : A.handled = none) (ha : Flt.NumV a) (hb : Flt.NumV b) (hc : Flt.NumV c)
    (h : ∀ h' tk, (∀ c o, s.heap.get? c = some o → h'.get? c = some o) → Q (if Flt.ltV a b then (if Flt.ltV b c then c else b) else (if Flt.ltV a c then c else a)) { s with heap := h', toks := tk }) :
    wpAny (model prog w) A (call (.builtin "max") [a, b, c]) Q E s := by
  have hT : (s.heap.push { cls := .type "tuple", data := .seq #[a, b, c] }).IsTuple s.heap.objs.size #[a, b, c] := ⟨_, Heap.get?_push_size _ rfl, rfl, 0, rfl⟩
  refine call_max_three (wpAny_pyIter_tuple hT ?_)
  have hsz : (s.heap.push { cls := .type "tuple", data := .seq #[a, b, c] }).objs.size = s.heap.objs.size + 1 := Heap.size_push ..
  refine ⟨_, [_, s.heap.objs.size], [_], _, _, _, _, rfl, Walks.tuple (A := A.in1) hh _ s.heap.objs.size (by rw [hsz]; exact Nat.ne_of_lt (Nat.lt_succ_self _)) #[a, b, c],
    ⟨⟨_, Heap.get?_push_size _ rfl, rfl, rfl⟩, hT.push _⟩, fun d hd => ?_, by simp, Flt.cmpOf_gt #[a, b, c] (by simp [ha, hb, hc]), fun v h' tk hP hk => ?_⟩
  · show d < ((s.heap.push _).push _).objs.size
    rw [Heap.size_push, hsz]
    rcases List.mem_cons.mp hd with rfl | hd
    · rw [hsz]; exact Nat.lt_succ_self _
    · rcases List.mem_cons.mp hd with rfl | hd
      · exact Nat.lt_succ_of_lt (Nat.lt_succ_self _)
      · cases hd
  · have hold : ∀ c o, s.heap.get? c = some o → h'.get? c = some o := fun c o e => by
      refine hk c o (fun hm => ?_) (Heap.get?_push_of_some _ (Heap.get?_push_of_some _ e))
      rcases List.mem_cons.mp hm with e1 | hm
      · have := Heap.lt_size e; rw [e1, hsz] at this; exact Nat.lt_irrefl _ (Nat.lt_of_succ_lt this)
      · cases hm
    have := h h' tk hold
    have hv : v = if Flt.ltV a b then (if Flt.ltV b c then c else b) else (if Flt.ltV a c then c else a) := by
      cases h1 : Flt.ltV a b <;> cases h2 : Flt.ltV b c <;> cases h3 : Flt.ltV a c <;> simp [argBest, h1, h2, h3] at hP <;> simp [hP]
    rw [hv]; exact this
theorem min3_num {prog : Program} {w : World} {A : Around} {E : Value → Shared → Prop} {s : Shared} {Q : Value → Shared → Prop} {a b c : Value} (hh : A.handled = none) (ha : Flt.NumV a) (hb : Flt.NumV b) (hc : Flt.NumV c)
    (h : ∀ h' tk, (∀ c o, s.heap.get? c = some o → h'.get? c = some o) → Q (if Flt.ltV b a then (if Flt.ltV c b then c else b) else (if Flt.ltV c a then c else a)) { s with heap := h', toks := tk }) :
    wpAny (model prog w) A (call (.builtin "min") [a, b, c]) Q E s := by
  have hT : (s.heap.push { cls := .type "tuple", data := .seq #[a, b, c] }).IsTuple s.heap.objs.size #[a, b, c] := ⟨_, Heap.get?_push_size _ rfl, rfl, 0, rfl⟩
  refine call_min_three (wpAny_pyIter_tuple hT ?_)
  have hsz : (s.heap.push { cls := .type "tuple", data := .seq #[a, b, c] }).objs.size = s.heap.objs.size + 1 := Heap.size_push ..
  refine ⟨_, [_, s.heap.objs.size], [_], _, _, _, _, rfl, Walks.tuple (A := A.in1) hh _ s.heap.objs.size (by rw [hsz]; exact Nat.ne_of_lt (Nat.lt_succ_self _)) #[a, b, c],
    ⟨⟨_, Heap.get?_push_size _ rfl, rfl, rfl⟩, hT.push _⟩, fun d hd => ?_, by simp, Flt.cmpOf_lt #[a, b, c] (by simp [ha, hb, hc]), fun v h' tk hP hk => ?_⟩
  · show d < ((s.heap.push _).push _).objs.size
    rw [Heap.size_push, hsz]
    rcases List.mem_cons.mp hd with rfl | hd
    · rw [hsz]; exact Nat.lt_succ_self _
    · rcases List.mem_cons.mp hd with rfl | hd
      · exact Nat.lt_succ_of_lt (Nat.lt_succ_self _)
      · cases hd
  · have hold : ∀ c o, s.heap.get? c = some o → h'.get? c = some o := fun c o e => by
      refine hk c o (fun hm => ?_) (Heap.get?_push_of_some _ (Heap.get?_push_of_some _ e))
      rcases List.mem_cons.mp hm with e1 | hm
      · have := Heap.lt_size e; rw [e1, hsz] at this; exact Nat.lt_irrefl _ (Nat.lt_of_succ_lt this)
      · cases hm
    have := h h' tk hold
    have hv : v = if Flt.ltV b a then (if Flt.ltV c b then c else b) else (if Flt.ltV c a then c else a) := by
      cases h1 : Flt.ltV b a <;> cases h2 : Flt.ltV c b <;> cases h3 : Flt.ltV c a <;> simp [argBest, h1, h2, h3] at hP <;> simp [hP]
    rw [hv]; exact this

def fl (x y : UInt64) : Bool := Float64.cmp x y == some .lt
def mx (x y z : UInt64) : UInt64 := if fl x y then (if fl y z then z else y) else (if fl x z then z else x)
def mn (x y z : UInt64) : UInt64 := if fl y x then (if fl z y then z else y) else (if fl z x then z else x)
section
variable {prog : Program} {w : World} {A : Around} {E : Value → Shared → Prop} {s : Shared} {Q : Value → Shared → Prop} {h₀ : Heap} {L : Addr} {m : Str → Option Value} {news : List (Addr × Obj)} {x y z M : UInt64} {t u v : Tok}
theorem max3_K (hh : A.handled = none) (F : Fr h₀ L s.heap m) (N : News h₀ L s.heap news) (hM : mx x y z = M) (h : ∀ h' tk t', (t' = t ∨ t' = u ∨ t' = v) → Fr h₀ L h' m → News h₀ L h' news → Q (.float M t') { s with heap := h', toks := tk }) :
    wpAny (model prog w) A (call (.builtin "max") [.float x t, .float y u, .float z v]) Q E s := by
  refine max3_num hh (.float _ _) (.float _ _) (.float _ _) fun h' tk kp => ?_
  have k := h h' tk
  subst hM
  unfold mx fl at k
  show Q (if Float64.cmp x y == some .lt then (if Float64.cmp y z == some .lt then .float z v else .float y u) else (if Float64.cmp x z == some .lt then .float z v else .float x t)) _
  split <;> split <;> simp_all
  all_goals first | exact k.1 (F.grownK kp) (N.grown kp) | exact k.2.1 (F.grownK kp) (N.grown kp) | exact k.2.2 (F.grownK kp) (N.grown kp)
theorem min3_K (hh : A.handled = none) (F : Fr h₀ L s.heap m) (N : News h₀ L s.heap news) (hM : mn x y z = M) (h : ∀ h' tk t', (t' = t ∨ t' = u ∨ t' = v) → Fr h₀ L h' m → News h₀ L h' news → Q (.float M t') { s with heap := h', toks := tk }) :
    wpAny (model prog w) A (call (.builtin "min") [.float x t, .float y u, .float z v]) Q E s := by
  refine min3_num hh (.float _ _) (.float _ _) (.float _ _) fun h' tk kp => ?_
  have k := h h' tk
  subst hM
  unfold mn fl at k
  show Q (if Float64.cmp y x == some .lt then (if Float64.cmp z y == some .lt then .float z v else .float y u) else (if Float64.cmp z x == some .lt then .float z v else .float x t)) _
  split <;> split <;> simp_all
  all_goals first | exact k.1 (F.grownK kp) (N.grown kp) | exact k.2.1 (F.grownK kp) (N.grown kp) | exact k.2.2 (F.grownK kp) (N.grown kp)
end
theorem nz_or {t' t u v : Tok} (q : t' = t ∨ t' = u ∨ t' = v) (a : t ≠ 0) (b : u ≠ 0) (c : v ≠ 0) : t' ≠ 0 := by rcases q with rfl | rfl | rfl <;> assumption
section
variable {w : World} {dp un : Nat} {gd : Option (List Code)} {cn : Str} {cs : Scope} {a : Addr} {ccd : Value} {cl : List (Str × Addr)} {outer : List Env} {A₀ : Around} {base h₀ : Heap} {L : Addr} {m : Str → Option Value} {news : List (Addr × Obj)} {s : Shared}
  {Q E : Value → Shared → Prop} {p : Program} {loose : List Str} {mean : ExcName → Option Value} {mg mb : Str → Option Value}
section
/-- the hue that rgb_to_hsv reckons, M the greatest and P the least -/
def rgbHue (r g b M P : UInt64) : UInt64 := (Float64.divmod (Float64.div (if (Float64.cmp r M == some Ordering.eq) = true then Float64.sub (Float64.div (Float64.sub M b) (Float64.sub M P)) (Float64.div (Float64.sub M g) (Float64.sub M P))
  else if (Float64.cmp g M == some Ordering.eq) = true then Float64.sub (Float64.add 4611686018427387904 (Float64.div (Float64.sub M r) (Float64.sub M P))) (Float64.div (Float64.sub M b) (Float64.sub M P))
  else Float64.sub (Float64.add 4616189618054758400 (Float64.div (Float64.sub M g) (Float64.sub M P))) (Float64.div (Float64.sub M r) (Float64.sub M P))) 4618441417868443648) 4607182418800017408).2
theorem rgb1 {r g b M P : UInt64} (h : (Float64.cmp r M == some Ordering.eq) = true) : (Float64.divmod (Float64.div (Float64.sub (Float64.div (Float64.sub M b) (Float64.sub M P)) (Float64.div (Float64.sub M g) (Float64.sub M P))) 4618441417868443648) 4607182418800017408).2 = rgbHue r g b M P := by
  unfold rgbHue; rw [if_pos h]
theorem rgb2 {r g b M P : UInt64} (h0 : (Float64.cmp r M == some Ordering.eq) = false) (h : (Float64.cmp g M == some Ordering.eq) = true) : (Float64.divmod (Float64.div (Float64.sub (Float64.add 4611686018427387904 (Float64.div (Float64.sub M r) (Float64.sub M P))) (Float64.div (Float64.sub M b) (Float64.sub M P))) 4618441417868443648) 4607182418800017408).2 = rgbHue r g b M P := by
  unfold rgbHue; rw [if_neg (by rw [h0]; exact Bool.false_ne_true), if_pos h]
theorem rgb3 {r g b M P : UInt64} (h0 : (Float64.cmp r M == some Ordering.eq) = false) (h : (Float64.cmp g M == some Ordering.eq) = false) : (Float64.divmod (Float64.div (Float64.sub (Float64.add 4616189618054758400 (Float64.div (Float64.sub M g) (Float64.sub M P))) (Float64.div (Float64.sub M r) (Float64.sub M P))) 4618441417868443648) 4607182418800017408).2 = rgbHue r g b M P := by
  unfold rgbHue; rw [if_neg (by rw [h0]; exact Bool.false_ne_true), if_neg (by rw [h]; exact Bool.false_ne_true)]
/-- three tokens that are none of the private ones -/
def Nz (a b c : Nat) : Prop := a ≠ 0 ∧ b ≠ 0 ∧ c ≠ 0
theorem endF3 {x y z x' y' z' : UInt64} {r : Addr} {u1 u2 u3 : Tok} {k : Nat} {h' : Heap} {tk' : Nat} (hret : ∀ (r : Addr) (u1 u2 u3 : Tok) (k : Nat) (h' : Heap) (tk' : Nat), Fr h₀ L h' m → News h₀ L h' ((r, { cls := .type "tuple", data := .seq #[.float x u1, .float y u2, .float z u3] k }) :: news) → (∀ p ∈ news, p.1 < r) → Nz u1 u2 u3 → Q (.ref r) { s with heap := h', toks := tk' })
    (F : Fr h₀ L h' m) (N : News h₀ L h' ((r, { cls := .type "tuple", data := .seq #[.float x' u1, .float y' u2, .float z' u3] k }) :: news)) (l : ∀ p ∈ news, p.1 < r) (e1 : x' = x) (e2 : y' = y) (e3 : z' = z) (nz : Nz u1 u2 u3) : Q (.ref r) { s with heap := h', toks := tk' } := by
  subst e1 e2 e3; exact hret _ _ _ _ _ _ _ F N l nz
theorem c_rgb {r g b M P : UInt64} {t1 t2 t3 : Tok}
  (B : Below A₀ base outer h₀) (F : Fr h₀ L s.heap m) (X : (hd.heap_39 w.params).In h₀) (N : News h₀ L s.heap news) (T : Top p loose mean mg mb h₀) (hk : cs.kind = .function)
  (n1 : t1 ≠ 0) (n2 : t2 ≠ 0) (n3 : t3 ≠ 0) (hM : mx r g b = M) (hP : mn r g b = P) (z1 : (Float64.cmp P M == some Ordering.eq) = false) (z2 : ¬Float64.isZero M = true) (z3 : ¬Float64.isZero (Float64.sub M P) = true)
  (hd : dp + 10 < recursionLimit) (hu : un + 80 < cLine)
  (hret : ∀ (r' : Addr) (u1 u2 u3 : Tok) (k : Nat) (h' : Heap) (tk' : Nat), Fr h₀ L h' m → News h₀ L h' ((r', { cls := .type "tuple", data := .seq #[.float (rgbHue r g b M P) u1, .float (Float64.div (Float64.sub M P) M) u2, .float M u3] k }) :: news) → (∀ p ∈ news, p.1 < r') → Nz u1 u2 u3 → Q (.ref r') { s with heap := h', toks := tk' }) :
  wpAny (model Challenge.rw_pe0195_01.row.prog w) (ktrTop dp un gd cn cs L a ccd cl outer) (call (.ref 63) [.float r t1, .float g t2, .float b t3]) Q E s := by
  w_top off
  k_with_none
  (k_with "execs cons" => (k_here; (with_reducible refine wpAny_execs_cons ?_); try dsimp only))
  (k_with "execs nil" => (k_here; (with_reducible refine wpAny_execs_nil ?_); try dsimp only))
  (k_with "call builtin:max" => (k_here; k_dflt (refine' max3_K ?zqhh ?zqF ?zqN ?zqhM ?_; (case zqhh => exact rfl); (case zqF => k_asm); (case zqN => k_asm); (case zqhM => assumption)); intro h9 tk9 t9 q9 F9 N9))
  (k_with "call builtin:min" => (k_here; k_dflt (refine' min3_K ?zqhh ?zqF ?zqN ?zqhM ?_; (case zqhh => exact rfl); (case zqF => k_asm); (case zqN => k_asm); (case zqhM => assumption)); intro h9 tk9 t9 q9 F9 N9))
  revert X; k_fill; intro X
  refine wpAny_call ?_
  k_dflt cell_enter
  k_steps
  · refine endF3 hret (by assumption) (by assumption) (by assumption) (rgb1 (by assumption)) rfl rfl ?_; (refine ⟨?_, ?_, ?_⟩ <;> (try dsimp only) <;> first | assumption | exact Nat.succ_ne_zero _ | exact nz_or (by assumption) (by assumption) (by assumption) (by assumption))
  · refine endF3 hret (by assumption) (by assumption) (by assumption) (rgb2 (by assumption) (by assumption)) rfl rfl ?_; (refine ⟨?_, ?_, ?_⟩ <;> (try dsimp only) <;> first | assumption | exact Nat.succ_ne_zero _ | exact nz_or (by assumption) (by assumption) (by assumption) (by assumption))
  · refine endF3 hret (by assumption) (by assumption) (by assumption) (rgb3 (by assumption) (by assumption)) rfl rfl ?_; (refine ⟨?_, ?_, ?_⟩ <;> (try dsimp only) <;> first | assumption | exact Nat.succ_ne_zero _ | exact nz_or (by assumption) (by assumption) (by assumption) (by assumption))
end
/-- one of six by a number -/
def pick (k : Int) (a0 a1 a2 a3 a4 a5 : UInt64) : UInt64 := if k = 0 then a0 else if k = 1 then a1 else if k = 2 then a2 else if k = 3 then a3 else if k = 4 then a4 else a5
theorem pick_0 {k : Int} {a0 a1 a2 a3 a4 a5 : UInt64} (h : k = 0) : a0 = pick k a0 a1 a2 a3 a4 a5 := by subst h; rfl
theorem pick_1 {k : Int} {a0 a1 a2 a3 a4 a5 : UInt64} (h : k = 1) : a1 = pick k a0 a1 a2 a3 a4 a5 := by subst h; rfl
theorem pick_2 {k : Int} {a0 a1 a2 a3 a4 a5 : UInt64} (h : k = 2) : a2 = pick k a0 a1 a2 a3 a4 a5 := by subst h; rfl
theorem pick_3 {k : Int} {a0 a1 a2 a3 a4 a5 : UInt64} (h : k = 3) : a3 = pick k a0 a1 a2 a3 a4 a5 := by subst h; rfl
theorem pick_4 {k : Int} {a0 a1 a2 a3 a4 a5 : UInt64} (h : k = 4) : a4 = pick k a0 a1 a2 a3 a4 a5 := by subst h; rfl
theorem pick_5 {k : Int} {a0 a1 a2 a3 a4 a5 : UInt64} (h : k = 5) : a5 = pick k a0 a1 a2 a3 a4 a5 := by subst h; rfl
section
theorem c_hsv {h sa v : UInt64} {t1 t2 t3 : Tok} {i : Int}
  (B : Below A₀ base outer h₀) (F : Fr h₀ L s.heap m) (X : (hd.heap_39 w.params).In h₀) (N : News h₀ L s.heap news) (T : Top p loose mean mg mb h₀) (hk : cs.kind = .function)
  (n3 : t3 ≠ 0) (y1 : (Float64.cmp sa 0 == some Ordering.eq) = false) (y2 : Float64.isNaN (Float64.mul h 4618441417868443648) = false) (y3 : Float64.isInf (Float64.mul h 4618441417868443648) = false) (y4 : Flt.toInt Float64.truncOf (Float64.mul h 4618441417868443648) = i) (y5 : 0 ≤ i) (y6 : i < 1000)
  (hd : dp + 10 < recursionLimit) (hu : un + 80 < cLine)
  (hret : ∀ (r' : Addr) (u1 u2 u3 : Tok) (k : Nat) (h' : Heap) (tk' : Nat), Fr h₀ L h' m → News h₀ L h' ((r', { cls := .type "tuple", data := .seq #[.float (pick ((Flt.toInt Float64.truncOf (Float64.mul h 4618441417868443648)).fmod 6) v (Float64.mul v (Float64.sub 4607182418800017408 (Float64.mul sa (Float64.sub (Float64.mul h 4618441417868443648) (Float64.ofInt (Flt.toInt Float64.truncOf (Float64.mul h 4618441417868443648))))))) (Float64.mul v (Float64.sub 4607182418800017408 sa)) (Float64.mul v (Float64.sub 4607182418800017408 sa)) (Float64.mul v (Float64.sub 4607182418800017408 (Float64.mul sa (Float64.sub 4607182418800017408 (Float64.sub (Float64.mul h 4618441417868443648) (Float64.ofInt (Flt.toInt Float64.truncOf (Float64.mul h 4618441417868443648)))))))) v) u1, .float (pick ((Flt.toInt Float64.truncOf (Float64.mul h 4618441417868443648)).fmod 6) (Float64.mul v (Float64.sub 4607182418800017408 (Float64.mul sa (Float64.sub 4607182418800017408 (Float64.sub (Float64.mul h 4618441417868443648) (Float64.ofInt (Flt.toInt Float64.truncOf (Float64.mul h 4618441417868443648)))))))) v v (Float64.mul v (Float64.sub 4607182418800017408 (Float64.mul sa (Float64.sub (Float64.mul h 4618441417868443648) (Float64.ofInt (Flt.toInt Float64.truncOf (Float64.mul h 4618441417868443648))))))) (Float64.mul v (Float64.sub 4607182418800017408 sa)) (Float64.mul v (Float64.sub 4607182418800017408 sa))) u2, .float (pick ((Flt.toInt Float64.truncOf (Float64.mul h 4618441417868443648)).fmod 6) (Float64.mul v (Float64.sub 4607182418800017408 sa)) (Float64.mul v (Float64.sub 4607182418800017408 sa)) (Float64.mul v (Float64.sub 4607182418800017408 (Float64.mul sa (Float64.sub 4607182418800017408 (Float64.sub (Float64.mul h 4618441417868443648) (Float64.ofInt (Flt.toInt Float64.truncOf (Float64.mul h 4618441417868443648)))))))) v v (Float64.mul v (Float64.sub 4607182418800017408 (Float64.mul sa (Float64.sub (Float64.mul h 4618441417868443648) (Float64.ofInt (Flt.toInt Float64.truncOf (Float64.mul h 4618441417868443648)))))))) u3] k }) :: news) → (∀ p ∈ news, p.1 < r') → Nz u1 u2 u3 → Q (.ref r') { s with heap := h', toks := tk' }) :
  wpAny (model Challenge.rw_pe0195_01.row.prog w) (ktrTop dp un gd cn cs L a ccd cl outer) (call (.ref 70) [.float h t1, .float sa t2, .float v t3]) Q E s := by
  w_top off
  k_with_none
  (k_with "execs cons" => (k_here; (with_reducible refine wpAny_execs_cons ?_); try dsimp only))
  (k_with "execs cons" => (k_here; (with_reducible refine wpAny_execs_cons ?_); try dsimp only))
  revert X; k_fill; intro X
  refine wpAny_call ?_
  k_dflt cell_enter
  k_steps
  · refine endF3 hret (by assumption) (by assumption) (by assumption) (pick_0 (by assumption)) (pick_0 (by assumption)) (pick_0 (by assumption)) ?_; (refine ⟨?_, ?_, ?_⟩ <;> (try dsimp only) <;> first | assumption | exact Nat.succ_ne_zero _ | exact nz_or (by assumption) (by assumption) (by assumption) (by assumption))
  · refine endF3 hret (by assumption) (by assumption) (by assumption) (pick_1 (by assumption)) (pick_1 (by assumption)) (pick_1 (by assumption)) ?_; (refine ⟨?_, ?_, ?_⟩ <;> (try dsimp only) <;> first | assumption | exact Nat.succ_ne_zero _ | exact nz_or (by assumption) (by assumption) (by assumption) (by assumption))
  · refine endF3 hret (by assumption) (by assumption) (by assumption) (pick_2 (by assumption)) (pick_2 (by assumption)) (pick_2 (by assumption)) ?_; (refine ⟨?_, ?_, ?_⟩ <;> (try dsimp only) <;> first | assumption | exact Nat.succ_ne_zero _ | exact nz_or (by assumption) (by assumption) (by assumption) (by assumption))
  · refine endF3 hret (by assumption) (by assumption) (by assumption) (pick_3 (by assumption)) (pick_3 (by assumption)) (pick_3 (by assumption)) ?_; (refine ⟨?_, ?_, ?_⟩ <;> (try dsimp only) <;> first | assumption | exact Nat.succ_ne_zero _ | exact nz_or (by assumption) (by assumption) (by assumption) (by assumption))
  · refine endF3 hret (by assumption) (by assumption) (by assumption) (pick_4 (by assumption)) (pick_4 (by assumption)) (pick_4 (by assumption)) ?_; (refine ⟨?_, ?_, ?_⟩ <;> (try dsimp only) <;> first | assumption | exact Nat.succ_ne_zero _ | exact nz_or (by assumption) (by assumption) (by assumption) (by assumption))
  · refine endF3 hret (by assumption) (by assumption) (by assumption) (pick_5 (by assumption)) (pick_5 (by assumption)) (pick_5 (by assumption)) ?_; (refine ⟨?_, ?_, ?_⟩ <;> (try dsimp only) <;> first | assumption | exact Nat.succ_ne_zero _ | exact nz_or (by assumption) (by assumption) (by assumption) (by assumption))
  · exfalso
    have e := Int.fmod_eq_emod_of_nonneg (Flt.toInt Float64.truncOf (Float64.mul h 4618441417868443648)) (b := 6) (by decide)
    omega
end
end

set_option maxHeartbeats 2000000
/-- what a turn of the loop below has to show: the frame as told, the ledger as it was -/
def LEnd (h₀ : Heap) (L : Addr) (s₁ : Shared) (led : List (Addr × Obj)) (J : (Str → Option Value) → Prop) (Q : Flow → Shared → Prop) (f : Flow) (s' : Shared) : Prop :=
  match f with
  | .ret v => Q (.ret v) s'
  | .brk => Q .next s'
  | _ => ∃ h' tk' m', s' = { s₁ with heap := h', toks := tk' } ∧ Fr h₀ L h' m' ∧ News h₀ L h' led ∧ J m'
theorem LEnd.next {h₀ h' : Heap} {L : Addr} {s₁ : Shared} {led all : List (Addr × Obj)} {J : (Str → Option Value) → Prop} {Q : Flow → Shared → Prop} {m' : Str → Option Value} {tk' : Nat}
    (F : Fr h₀ L h' m') (N : News h₀ L h' all) (hs : ∀ q ∈ led, q ∈ all) (hJ : J m') : LEnd h₀ L s₁ led J Q .next { s₁ with heap := h', toks := tk' } := ⟨h', tk', m', rfl, F, fun q hq => N q (hs q hq), hJ⟩
section
variable {prog : Program} {w : World} {A : Around} {E : Value → Shared → Prop} {Q : Flow → Shared → Prop} {s : Shared} {env : Env} {h₀ : Heap} {L : Addr} {target : Expr} {body : List Stmt}
/-- a loop over a list that the call has made, its frame by an invariant, its ledger unchanged -/
theorem list_loop {ax : Addr} {lo : Obj} {vs : List Value} {n : Nat} {m₀ : Str → Option Value} {news : List (Addr × Obj)} (J : Nat → (Str → Option Value) → Prop)
    (hh : A.handled = none) (hL : env.locals = L) (F : Fr h₀ L s.heap m₀) (N : News h₀ L s.heap news) (hm : (ax, lo) ∈ news) (hc : lo.cls = .type "list") (hd : lo.data = .seq vs.toArray n) (h0 : J 0 m₀)
    (turn : ∀ i v m₁ h tk I it, vs[i]? = some v → J i m₁ → Fr h₀ L h m₁ → News h₀ L h ((I, it) :: news) → (∀ p ∈ news, p.1 < I) →
      wpAny (model prog w) A (assign target env v) (fun _ s₃ => wpAny (model prog w) A (execs body env) (LEnd h₀ L { s with heap := h, toks := tk } ((I, it) :: news) (J (i + 1)) Q) E s₃) E { s with heap := h, toks := tk })
    (done : ∀ m' h' tk', J vs.length m' → Fr h₀ L h' m' → News h₀ L h' news → Q .next { s with heap := h', toks := tk' }) :
    wpAny (model prog w) A (pyIter (.ref ax)) (fun it s₂ => TurnsAt prog w A h₀ env target body Q E it s₂) E s := by
  subst hL
  refine iter_listTurns hh F N hm hc hd fun I lt => ?_
  have key : ∀ (r : List Value) (i : Nat) (m : Str → Option Value), vs.drop i = r → i + r.length = vs.length → J i m → ItemsRest prog w A E h₀ env target body Q s [(I, "list_iterator")] [(ax, lo)] (r.map .val) m news := by
    intro r
    induction r with
    | nil =>
      intro i m _ hl hj
      have e : i = vs.length := by simpa using hl
      subst e
      exact ItemsRest.zero fun h tk F' N' => done m h tk hj F' N'
    | cons v r ih =>
      intro i m hr hl hj
      refine ItemsRest.val fun h tk F' => AllObj.cons fun o _ => AllObj.nil ?_
      intro N'
      have hv : vs[i]? = some v := by
        have := congrArg (fun l => l[0]?) hr
        simpa using this
      have hr' : vs.drop (i + 1) = r := by
        have := congrArg List.tail hr
        simpa using this
      refine wpAny_mono (turn i v m h tk I o hv hj F' N' lt) (fun _ s₃ hb => wpAny_mono hb (fun f s₄ hq => ?_) fun _ _ e => e) fun _ _ e => e
      have fin : (∃ h' tk' m', s₄ = { ({ s with heap := h, toks := tk } : Shared) with heap := h', toks := tk' } ∧ Fr h₀ env.locals h' m' ∧ News h₀ env.locals h' ((I, o) :: news) ∧ J (i + 1) m') → UnrEndW h₀ env.locals { s with heap := h, toks := tk } [(I, o)] (fun m' n' => SubL [(ax, lo)] n' ∧ ItemsRest prog w A E h₀ env target body Q s [(I, "list_iterator")] [(ax, lo)] (r.map .val) m' n') s₄ := by
        rintro ⟨h', tk', m', e, F'', N'', hj'⟩
        refine ⟨h', tk', m', news, e, F'', N'', fun p hp q hq => ?_, And.intro hm trivial, ih (i + 1) m' hr' (by simp at hl; omega) hj'⟩
        rw [List.mem_singleton.mp hq]
        exact Nat.ne_of_lt (lt p hp)
      cases f with
      | ret v => exact hq
      | brk => exact hq
      | next => exact fin hq
      | cont => exact fin hq
  exact key vs 0 m₀ (by simp) (by simp) h0
theorem fr_keep {h : Heap} {m₁ m₀ : Str → Option Value} (names : List Str) (F : Fr h₀ L h m₁) (hj : ∀ y, names.contains y = false → m₁ y = m₀ y) : Fr h₀ L h (fun y => if names.contains y = true then m₁ y else m₀ y) := by
  have e : (fun y => if names.contains y = true then m₁ y else m₀ y) = m₁ := by
    funext y
    cases hy : names.contains y with
    | true => simp
    | false => simp [hj y hy]
  rw [e]; exact F
end

set_option maxHeartbeats 2000000
def loopBody : Stmt → List Stmt
  | .For _ _ b _ _ => b
  | _ => []
def lawDef : Stmt := defAt 19
def lawScope : Scope := fnScope lawDef
def drawnBody : List Stmt := loopBody ((fnBody lawDef).getD 6 default)
def frontBody : List Stmt := loopBody (drawnBody.getD 13 default)
def backBody : List Stmt := loopBody (frontBody.getD 1 default)
abbrev nm (x : String) : Str := Str.ofString x
section
variable {w : World} {dp un : Nat} {gd : Option (List Code)} {cn : Str} {a : Addr} {ccd : Value} {outer : List Env} {A₀ : Around} {base h₀ : Heap} {L : Addr} {m : Str → Option Value} {news : List (Addr × Obj)} {s : Shared}
  {Q : Flow → Shared → Prop} {E : Value → Shared → Prop} {p : Program} {loose : List Str} {mean : ExcName → Option Value} {mg mb : Str → Option Value}
section
theorem pair_body {f b g : Str} {bg bt : Bool} {iv wh ct low under high below : Int} {tf tb tg ti tw tc t3 t4 t5 t6 : Tok} {sp : Addr} {k : Nat}
  (B : Below A₀ base outer h₀) (F : Fr h₀ L s.heap m) (X : (hd.heap_39 w.params).In h₀) (N : News h₀ L s.heap news) (T : Top p loose mean mg mb h₀)
  (e1 : m (nm "begins") = some (.bool bg)) (e2 : m (nm "inverse") = some (.int iv ti)) (e3 : m (nm "wheel") = some (.int wh tw)) (e4 : m (nm "span") = some (.ref sp)) (e5 : m (nm "front") = some (.str f tf)) (e6 : m (nm "back") = some (.str b tb)) (e7 : m (nm "count") = some (.int ct tc)) (e8 : m (nm "way") = some (.str g tg))
  (he : (sp, ({ cls := .type "tuple", data := .seq #[.int low t3, .int under t4, .int high t5, .int below t6] k } : Obj)) ∈ news)
  (b1 : 0 ≤ iv) (c1 : iv ≤ 64) (b2 : 0 ≤ wh) (c2 : wh ≤ 64) (b3 : 0 ≤ low) (c3 : low ≤ 64) (b4 : 0 ≤ under) (c4 : under ≤ 64) (b5 : 0 ≤ high) (c5 : high ≤ 64) (b6 : 0 ≤ below) (c6 : below ≤ 64)
  (hs : Txt.split (f ++ Str.ofString "..." ++ b) (Str.ofString "...") = [f, b]) (ho : (Builtin.Str.occurrences (f ++ Str.ofString "..." ++ b) (Str.ofString "...") 0 (f ++ Str.ofString "..." ++ b).length 1).isEmpty = false)
  (l1 : f.length ≤ 64) (l2 : b.length ≤ 64) (l3 : g.length ≤ 64) (l4 : (f ++ Str.ofString "..." ++ b).length ≤ 200) (l5 : (f ++ Str.ofString "...").length ≤ 100) (l6 : (Str.ofString "...").length = 3)
  (hbt : (decide (low * wh < iv * under) && decide (iv * below < high * wh)) = bt)
  (heq : ellR f b g = (bg && bt && decide ((f.length : Int) + (b.length : Int) ≤ ct)))
  (hd : dp + 20 < recursionLimit) (hu : un + 100 < cLine)
  (hret : ∀ (v : Value) (h' : Heap) (tk' : Nat), Fr h₀ L h' (fun y => if y = nm "due" then some v else m y) → News h₀ L h' news → Q .next { s with heap := h', toks := tk' }) :
  wpAny (model Challenge.rw_pe0195_01.row.prog w) (ktrTop dp un gd cn lawScope L a ccd [] outer) (execs backBody (envX cn lawScope L a ccd [])) Q E s := by
  w_top off
  k_with_none
  (k_with "eval Name" => (k_here; k_dflt (refine' nameX_L ?zqk1 ?zqk2 ?_ ?zqk3 ?zqk4 ?zqk5; (case zqk3 => rfl); (case zqk4 => rfl); (case zqk5 => decide); (case zqk1 => k_asm); (case zqk2 => assumption); k_whole)))
  (k_with "binaryOp Add str str" => (k_here; k_dflt (refine' add_text_K ?zqh0 ?zqh1 ?_; (case zqh0 => omega); (case zqh1 => omega)); intro t9 k9))
  (k_with "call ref" => (k_here; (with_reducible show wpAny _ _ (call (Value.ref 103) _) _ _ _); k_dflt (refine' c_between ?zqk1 ?zqk2 ?zqk3 ?zqk4 ?zqk5 ?zqkK ?zqhe ?zqb1 ?zqb2 ?zqb3 ?zqb4 ?zqb5 ?zqb6 ?zqhd ?zqhu ?_; (case zqk2 => k_asm); (case zqk4 => k_asm); (case zqk1 => k_asm); (case zqk3 => k_asm); (case zqk5 => k_asm); (case zqkK => exact rfl); (case zqhe => k_mem); (case zqb1 => omega); (case zqb2 => omega); (case zqb3 => omega); (case zqb4 => omega); (case zqb5 => omega); (case zqb6 => omega); (case zqhd => first | exact room1 (by assumption) (by decide) | exact room0 (by assumption) (by decide) | ktr_room); (case zqhu => first | exact room1 (by assumption) (by decide) | exact room0 (by assumption) (by decide) | ktr_units)); intro h9 tk9 F9 N9))
  (k_with "call ref" => (k_here; (with_reducible show wpAny _ _ (call (Value.ref 77) _) _ _ _); k_dflt (refine' c_ell ?zqhs ?zqho ?zql1 ?zql2 ?zql3 ?zql4 ?zqk1 ?zqk2 ?zqk3 ?zqk4 ?zqk5 ?zqkK ?zqhd ?zqhu ?_; (case zqhs => assumption); (case zqho => assumption); (case zql1 => omega); (case zql2 => omega); (case zql3 => omega); (case zql4 => omega); (case zqk2 => k_asm); (case zqk4 => k_asm); (case zqk1 => k_asm); (case zqk3 => k_asm); (case zqk5 => k_asm); (case zqkK => exact rfl); (case zqhd => first | exact room1 (by assumption) (by decide) | exact room0 (by assumption) (by decide) | ktr_room); (case zqhu => first | exact room1 (by assumption) (by decide) | exact room0 (by assumption) (by decide) | ktr_units)); intro h9 tk9 F9 N9))
  revert X; k_fill; intro X
  conv in (occs := *) backBody => all_goals whnf
  conv in (occs := *) lawScope => all_goals whnf
  cases bg <;> cases bt
  all_goals (k_steps)
  all_goals first
    | exact hret _ _ _ (by assumption) (by assumption)
    | (exfalso; rename (ellR f b g != _) = true => q; rw [heq] at q; simp [hbt] at q; done)
    | skip
end
end

set_option maxHeartbeats 2000000
def loopTarget : Stmt → Expr
  | .For t _ _ _ _ => t
  | _ => default
def loopIter : Stmt → Expr
  | .For _ i _ _ _ => i
  | _ => default
def loopPos : Stmt → Pos
  | .For _ _ _ _ p => p
  | _ => default
def backLoop : Stmt := frontBody.getD 1 default
theorem backLoop_is : backLoop = .For (loopTarget backLoop) (loopIter backLoop) backBody [] (loopPos backLoop) := rfl
abbrev tup (l : Array Value) (k : Nat) : Obj := { cls := .type "tuple", data := .seq l k }
/-- the pieces as the law has made them -/
structure Pc where
  t : Nat → Addr
  e : Nat → Addr
  sp : Nat → Addr
  wy : Nat → Str
  tw : Nat → Tok
  el : Nat → Nat → Int
  sn : Nat → Nat → Int
  te : Nat → Nat → Tok
  ts : Nat → Nat → Tok
  k1 : Nat → Nat
  k2 : Nat → Nat
  k3 : Nat → Nat
structure PcIn (D : Pc) (pc : Addr) (kp : Nat) (news : List (Addr × Obj)) : Prop where
  list : (pc, listOf [.ref (D.t 0), .ref (D.t 1), .ref (D.t 2), .ref (D.t 3)].toArray kp) ∈ news
  piece : ∀ i, i < 4 → (D.t i, tup #[.str (D.wy i) (D.tw i), .ref (D.e i), .ref (D.sp i)] (D.k1 i)) ∈ news
  elder : ∀ i, i < 4 → (D.e i, tup #[.int (D.el i 0) (D.te i 0), .int (D.el i 1) (D.te i 1), .int (D.el i 2) (D.te i 2), .int (D.el i 3) (D.te i 3)] (D.k2 i)) ∈ news
  span : ∀ i, i < 4 → (D.sp i, tup #[.int (D.sn i 0) (D.ts i 0), .int (D.sn i 1) (D.ts i 1), .int (D.sn i 2) (D.ts i 2), .int (D.sn i 3) (D.ts i 3)] (D.k3 i)) ∈ news
theorem PcIn.mono {D : Pc} {pc : Addr} {kp : Nat} {news news' : List (Addr × Obj)} (h : PcIn D pc kp news) (hs : ∀ q ∈ news, q ∈ news') : PcIn D pc kp news' :=
  ⟨hs _ h.list, fun i hi => hs _ (h.piece i hi), fun i hi => hs _ (h.elder i hi), fun i hi => hs _ (h.span i hi)⟩
def btw (x : Nat → Int) (sm wh : Int) : Bool := decide (x 0 * wh < sm * x 1) && decide (sm * x 3 < x 2 * wh)
/-- what is to be known of two pieces -/
structure PairOk (f b g : Str) (bg bt : Bool) (ct : Int) : Prop where
  hs : Txt.split (f ++ Str.ofString "..." ++ b) (Str.ofString "...") = [f, b]
  ho : (Builtin.Str.occurrences (f ++ Str.ofString "..." ++ b) (Str.ofString "...") 0 (f ++ Str.ofString "..." ++ b).length 1).isEmpty = false
  l1 : f.length ≤ 64
  l2 : b.length ≤ 64
  heq : ellR f b g = (bg && bt && decide ((f.length : Int) + (b.length : Int) ≤ ct))
theorem dots_len : (Str.ofString "...").length = 3 := by decide +kernel
/-- a place where the walk halts -/
def Stop (P : Prop) : Prop := P
theorem stopAt {P : Prop} (h : Stop P) : P := h
def backNames : List Str := [nm "back", nm "another", nm "span", nm "due"]
theorem at4 {v a b c d : Value} {i : Nat} (h : [a, b, c, d][i]? = some v) : (i = 0 ∧ v = a) ∨ (i = 1 ∧ v = b) ∨ (i = 2 ∧ v = c) ∨ (i = 3 ∧ v = d) := by
  match i, h with
  | 0, h => exact .inl ⟨rfl, by simpa using h.symm⟩
  | 1, h => exact .inr (.inl ⟨rfl, by simpa using h.symm⟩)
  | 2, h => exact .inr (.inr (.inl ⟨rfl, by simpa using h.symm⟩))
  | 3, h => exact .inr (.inr (.inr ⟨rfl, by simpa using h.symm⟩))
  | n + 4, h => simp at h
theorem at_ref {D : Pc} {v : Value} {i : Nat} (h : [Value.ref (D.t 0), .ref (D.t 1), .ref (D.t 2), .ref (D.t 3)][i]? = some v) : i < 4 ∧ v = .ref (D.t i) := by
  rcases at4 h with ⟨rfl, rfl⟩ | ⟨rfl, rfl⟩ | ⟨rfl, rfl⟩ | ⟨rfl, rfl⟩ <;> exact ⟨by decide, rfl⟩
section
variable {w : World} {dp un : Nat} {gd : Option (List Code)} {cn : Str} {a : Addr} {ccd : Value} {outer : List Env} {A₀ : Around} {base h₀ : Heap} {L : Addr} {m : Str → Option Value} {news : List (Addr × Obj)} {s : Shared}
  {Q : Flow → Shared → Prop} {E : Value → Shared → Prop} {p : Program} {loose : List Str} {mean : ExcName → Option Value} {mg mb : Str → Option Value}
section
theorem back_loop {D : Pc} {pc : Addr} {kp : Nat} {f g : Str} {bg : Bool} {iv wh ct : Int} {tf tg ti tw tc : Tok}
  (B : Below A₀ base outer h₀) (F : Fr h₀ L s.heap m) (X : (hd.heap_39 w.params).In h₀) (N : News h₀ L s.heap news) (T : Top p loose mean mg mb h₀)
  (e1 : m (nm "begins") = some (.bool bg)) (e2 : m (nm "inverse") = some (.int iv ti)) (e3 : m (nm "wheel") = some (.int wh tw)) (e4 : m (nm "pieces") = some (.ref pc)) (e5 : m (nm "front") = some (.str f tf)) (e7 : m (nm "count") = some (.int ct tc)) (e8 : m (nm "way") = some (.str g tg))
  (hD : PcIn D pc kp news) (b1 : 0 ≤ iv) (c1 : iv ≤ 64) (b2 : 0 ≤ wh) (c2 : wh ≤ 64) (b3 : ∀ i, i < 4 → ∀ j, j < 4 → 0 ≤ D.sn i j ∧ D.sn i j ≤ 64) (l3 : g.length ≤ 64)
  (hok : ∀ i, i < 4 → PairOk f (D.wy i) g bg (btw (D.sn i) iv wh) ct)
  (hd : dp + 20 < recursionLimit) (hu : un + 100 < cLine) (hE : PassesOwn (model Challenge.rw_pe0195_01.row.prog w) (ktrTop dp un gd cn lawScope L a ccd [] outer) (envX cn lawScope L a ccd []) E)
  (hret : ∀ (m' : Str → Option Value) (h' : Heap) (tk' : Nat), (∀ y, backNames.contains y = false → m' y = m y) → Fr h₀ L h' m' → News h₀ L h' news → Q .next { s with heap := h', toks := tk' }) :
  wpAny (model Challenge.rw_pe0195_01.row.prog w) (ktrTop dp un gd cn lawScope L a ccd [] outer) (exec backLoop (envX cn lawScope L a ccd [])) Q E s := by
  w_top off
  k_with_none
  (k_with "eval Name" => (k_here; k_dflt (refine' nameX_L ?zqk1 ?zqk2 ?_ ?zqk3 ?zqk4 ?zqk5; (case zqk3 => rfl); (case zqk4 => rfl); (case zqk5 => decide); (case zqk1 => k_asm); (case zqk2 => assumption); k_whole)))
  (k_with "execs" => (k_here; (with_reducible show wpAny _ _ (execs backBody _) _ _ _); refine stopAt ?_))
  revert X; k_fill; intro X
  rw [backLoop_is]
  conv in (occs := *) loopTarget backLoop => all_goals whnf
  conv in (occs := *) loopIter backLoop => all_goals whnf
  conv in (occs := *) lawScope => all_goals whnf
  dsimp only
  refine For_turns F ?_ (fun _ => rfl) hE
  k_steps
  refine list_loop (L := L) (fun _ m₁ => ∀ y, backNames.contains y = false → m₁ y = m y) rfl rfl F N hD.list rfl rfl (fun _ _ => rfl) ?_ (fun m' h' tk' hj F' N' => hret m' h' tk' hj F' N')
  intro i v m₁ h tk I it hv hj F1 N1 lt
  obtain ⟨hi, rfl⟩ := at_ref hv
  have hp := hD.piece i hi
  have hsp := hD.span i hi
  have ok := hok i hi
  have q1 := (hj (nm "begins") (by decide +kernel)).trans e1
  have q2 := (hj (nm "inverse") (by decide +kernel)).trans e2
  have q3 := (hj (nm "wheel") (by decide +kernel)).trans e3
  have q5 := (hj (nm "front") (by decide +kernel)).trans e5
  have q7 := (hj (nm "count") (by decide +kernel)).trans e7
  have q8 := (hj (nm "way") (by decide +kernel)).trans e8
  generalize D.t i = ta at hp ⊢
  generalize D.sp i = sa at hp hsp ⊢
  generalize D.e i = ea at hp ⊢
  have hT := News.isTup N1 (List.Mem.tail _ hp)
  k_steps
  unfold Stop
  rename Fr _ _ _ _ => F2
  rename News _ _ _ _ => N2
  have z := b3 i hi
  refine pair_body (f := f) (b := D.wy i) (g := g) (bg := bg) (bt := btw (D.sn i) iv wh) B F2 X N2 T q1 q2 q3 rfl q5 rfl q7 q8 (List.Mem.tail _ hsp) b1 c1 b2 c2 (z 0 (by decide)).1 (z 0 (by decide)).2 (z 1 (by decide)).1 (z 1 (by decide)).2 (z 2 (by decide)).1 (z 2 (by decide)).2 (z 3 (by decide)).1 (z 3 (by decide)).2
    ok.hs ok.ho ok.l1 ok.l2 l3 (by rw [Str.length_append, Str.length_append, dots_len]; have := ok.l1; have := ok.l2; omega) (by rw [Str.length_append, dots_len]; have := ok.l1; omega) dots_len rfl ok.heq hd hu ?_
  intro v h3 tk3 F3 N3
  refine LEnd.next F3 N3 (fun _ h => h) (fun y hy => ?_)
  have e := hj y hy
  simp only [backNames, List.contains_cons, List.contains_nil, Bool.or_false, Bool.or_eq_false_iff, beq_eq_false_iff_ne, ne_eq] at hy
  obtain ⟨a1, a2, a3, a4⟩ := hy
  simp only [if_neg a1, if_neg a2, if_neg a3, if_neg a4]
  exact e
end
end

set_option maxHeartbeats 2000000
def frontLoop : Stmt := drawnBody.getD 13 default
def frontFirst : Stmt := frontBody.getD 0 default
theorem frontLoop_is : frontLoop = .For (loopTarget frontLoop) (loopIter frontLoop) [frontFirst, backLoop] [] (loopPos frontLoop) := rfl
def frontNames : List Str := [nm "front", nm "elders", nm "other", nm "begins", nm "back", nm "another", nm "span", nm "due"]
section
variable {w : World} {dp un : Nat} {gd : Option (List Code)} {cn : Str} {a : Addr} {ccd : Value} {outer : List Env} {A₀ : Around} {base h₀ : Heap} {L : Addr} {m : Str → Option Value} {news : List (Addr × Obj)} {s : Shared}
  {Q : Flow → Shared → Prop} {E : Value → Shared → Prop} {p : Program} {loose : List Str} {mean : ExcName → Option Value} {mg mb : Str → Option Value}
section
theorem front_loop {D : Pc} {pc : Addr} {kp : Nat} {g : Str} {sm iv wh ct : Int} {tg ti tw tc tm : Tok}
  (B : Below A₀ base outer h₀) (F : Fr h₀ L s.heap m) (X : (hd.heap_39 w.params).In h₀) (N : News h₀ L s.heap news) (T : Top p loose mean mg mb h₀)
  (e1 : m (nm "small") = some (.int sm tm)) (e2 : m (nm "inverse") = some (.int iv ti)) (e3 : m (nm "wheel") = some (.int wh tw)) (e4 : m (nm "pieces") = some (.ref pc)) (e7 : m (nm "count") = some (.int ct tc)) (e8 : m (nm "way") = some (.str g tg))
  (hD : PcIn D pc kp news) (b0 : 0 ≤ sm) (c0 : sm ≤ 64) (b1 : 0 ≤ iv) (c1 : iv ≤ 64) (b2 : 0 ≤ wh) (c2 : wh ≤ 64) (b3 : ∀ i, i < 4 → ∀ j, j < 4 → 0 ≤ D.sn i j ∧ D.sn i j ≤ 64) (b4 : ∀ i, i < 4 → ∀ j, j < 4 → 0 ≤ D.el i j ∧ D.el i j ≤ 64) (l3 : g.length ≤ 64)
  (hok : ∀ i, i < 4 → ∀ j, j < 4 → PairOk (D.wy i) (D.wy j) g (btw (D.el i) sm wh) (btw (D.sn j) iv wh) ct)
  (hd : dp + 20 < recursionLimit) (hu : un + 100 < cLine) (hE : PassesOwn (model Challenge.rw_pe0195_01.row.prog w) (ktrTop dp un gd cn lawScope L a ccd [] outer) (envX cn lawScope L a ccd []) E)
  (hret : ∀ (m' : Str → Option Value) (h' : Heap) (tk' : Nat), (∀ y, frontNames.contains y = false → m' y = m y) → Fr h₀ L h' m' → News h₀ L h' news → Q .next { s with heap := h', toks := tk' }) :
  wpAny (model Challenge.rw_pe0195_01.row.prog w) (ktrTop dp un gd cn lawScope L a ccd [] outer) (exec frontLoop (envX cn lawScope L a ccd [])) Q E s := by
  w_top off
  k_with_none
  (k_with "eval Name" => (k_here; k_dflt (refine' nameX_L ?zqk1 ?zqk2 ?_ ?zqk3 ?zqk4 ?zqk5; (case zqk3 => rfl); (case zqk4 => rfl); (case zqk5 => decide); (case zqk1 => k_asm); (case zqk2 => assumption); k_whole)))
  (k_with "call ref" => (k_here; (with_reducible show wpAny _ _ (call (Value.ref 103) _) _ _ _); k_dflt (refine' c_between ?zqk1 ?zqk2 ?zqk3 ?zqk4 ?zqk5 ?zqkK ?zqhe ?zqb1 ?zqb2 ?zqb3 ?zqb4 ?zqb5 ?zqb6 ?zqhd ?zqhu ?_; (case zqk2 => k_asm); (case zqk4 => k_asm); (case zqk1 => k_asm); (case zqk3 => k_asm); (case zqk5 => k_asm); (case zqkK => exact rfl); (case zqhe => assumption); (case zqb1 => omega); (case zqb2 => omega); (case zqb3 => omega); (case zqb4 => omega); (case zqb5 => omega); (case zqb6 => omega); (case zqhd => first | exact room1 (by assumption) (by decide) | exact room0 (by assumption) (by decide) | ktr_room); (case zqhu => first | exact room1 (by assumption) (by decide) | exact room0 (by assumption) (by decide) | ktr_units)); intro h9 tk9 F9 N9))
  (k_with "exec For Tuple Name cons nil" => (k_here; (with_reducible show wpAny _ _ (exec backLoop _) _ _ _); refine stopAt ?_))
  revert X; k_fill; intro X
  rw [frontLoop_is]
  conv in (occs := *) loopTarget frontLoop => all_goals whnf
  conv in (occs := *) loopIter frontLoop => all_goals whnf
  conv in (occs := *) frontFirst => all_goals whnf
  have hE' := hE
  conv in (occs := *) lawScope => all_goals whnf
  dsimp only
  refine For_turns F ?_ (fun _ => rfl) hE
  k_steps
  refine list_loop (L := L) (fun _ m₁ => ∀ y, frontNames.contains y = false → m₁ y = m y) rfl rfl F N hD.list rfl rfl (fun _ _ => rfl) ?_ (fun m' h' tk' hj F' N' => hret m' h' tk' hj F' N')
  intro i v m₁ h tk I it hv hj F1 N1 lt
  obtain ⟨hi, rfl⟩ := at_ref hv
  have hp := hD.piece i hi
  have hel := List.Mem.tail (I, it) (hD.elder i hi)
  have z := b4 i hi
  obtain ⟨z0, y0⟩ := z 0 (by decide)
  obtain ⟨z1, y1⟩ := z 1 (by decide)
  obtain ⟨z2, y2⟩ := z 2 (by decide)
  obtain ⟨z3, y3⟩ := z 3 (by decide)
  have q1 := (hj (nm "small") (by decide +kernel)).trans e1
  have q2 := (hj (nm "inverse") (by decide +kernel)).trans e2
  have q3 := (hj (nm "wheel") (by decide +kernel)).trans e3
  have q4 := (hj (nm "pieces") (by decide +kernel)).trans e4
  have q7 := (hj (nm "count") (by decide +kernel)).trans e7
  have q8 := (hj (nm "way") (by decide +kernel)).trans e8
  generalize D.t i = ta at hp ⊢
  generalize hea : D.e i = ea at hp hel ⊢
  have hT := News.isTup N1 (List.Mem.tail _ hp)
  k_steps
  rename Fr _ _ _ _ => F2
  rename News _ _ _ _ => N2
  refine back_loop (D := D) (pc := pc) (kp := kp) (f := D.wy i) (g := g) (bg := btw (D.el i) sm wh) B F2 X N2 T rfl q2 q3 q4 rfl q7 q8 (hD.mono fun _ h => List.Mem.tail _ h) b1 c1 b2 c2 b3 l3 (fun j hj => hok i hi j hj) hd hu hE ?_
  intro m3 h3 tk3 hj3 F3 N3
  k_steps
  refine LEnd.next F3 N3 (fun _ h => h) (fun y hy => ?_)
  have e := hj y hy
  simp only [frontNames, List.contains_cons, List.contains_nil, Bool.or_false, Bool.or_eq_false_iff, beq_eq_false_iff_ne, ne_eq] at hy
  obtain ⟨a1, a2, a3, a4, a5, a6, a7, a8⟩ := hy
  rw [hj3 y (by simp only [backNames, List.contains_cons, List.contains_nil, Bool.or_false, Bool.or_eq_false_iff, beq_eq_false_iff_ne, ne_eq]; exact ⟨a5, a6, a7, a8⟩)]
  simp only [if_neg a1, if_neg a2, if_neg a3, if_neg a4]
  exact e
end
end

set_option maxHeartbeats 2000000
/-! tokens are only ever counted up -/
theorem runs_toks {M : Model} {Γ : Ctx} {p : Pos} {t : Sem Fin} {fs : List Frame} {s s' : Shared} {e : End} (h : Runs M Γ p t fs s e s') : s.toks ≤ s'.toks := by
  induction h <;> first | exact Nat.le_refl _ | assumption | ((try simp only [Shared.setGen] at *); omega)
theorem wakes_toks {M : Model} {Γ : Ctx} {p : Pos} {g : Nat} {r : Resume} {s s' : Shared} {res : GenResult} (h : Wakes M Γ p g r s res s') : s.toks ≤ s'.toks := by
  unfold Wakes at h
  split at h
  · exact h.elim
  · split at h
    · obtain ⟨e, s₁, h1, _, _, rfl⟩ := h
      have z := runs_toks h1; exact z
    · rw [h.2]; exact Nat.le_refl _
    · rw [h.2]; exact Nat.le_refl _
  · obtain ⟨e, s₁, h1, _, _, rfl⟩ := h
    have z := runs_toks h1; exact z
  · rw [h.2]; exact Nat.le_refl _
  · rw [h.2]; exact Nat.le_refl _
theorem wp_toks {α : Type} {M : Model} {Γ : Ctx} (t : Sem α) (n : Nat) {Q : α → Pos → Shared → Prop} {E : Value → Pos → Shared → Prop} : ∀ {p : Pos} {s : Shared}, n ≤ s.toks →
    Sem.wp M Γ t (fun a p' s' => n ≤ s'.toks → Q a p' s') E p s → Sem.wp M Γ t Q E p s := by
  induction t with
  | pure x => exact fun hn h => h hn
  | raise v => exact fun _ h => h
  | unsupported | finish | yield | fork | await | register => exact fun _ h => h
  | rule _ k ih | «at» _ k ih | alloc _ k ih | loadIfAlive _ k ih | point _ k ih | ask k ih | os _ _ k ih | handled _ k ih | newGen _ k ih | stack k ih | thread k ih => exact fun hn h => ih _ hn h
  | fresh k ih => exact fun hn h => ih _ (Nat.le_succ_of_le hn) h
  | load a _ k ih | genState a k ih => exact fun hn ⟨o, ho, h⟩ => ⟨o, ho, ih _ hn h⟩
  | update a _ f k ih | choose _ _ k ih => exact fun hn ⟨ha, h⟩ => ⟨ha, ih _ hn h⟩
  | call c h g l k ih => exact fun hn ⟨r, s', hr, hR⟩ => ⟨r, s', hr, ih _ (Nat.le_trans hn (runs_toks hr)) hR⟩
  | resume g r l k ih => exact fun hn ⟨res, s', hw, h⟩ => ⟨res, s', hw, ih _ (Nat.le_trans hn (wakes_toks hw)) h⟩
theorem wpAny_toks {α : Type} {M : Model} {A : Around} {t : Sem α} {Q : α → Shared → Prop} {E : Value → Shared → Prop} {s : Shared} (h : wpAny M A t (fun a s' => s.toks ≤ s'.toks → Q a s') E s) : wpAny M A t Q E s :=
  fun Γ p hΓ => wp_toks t s.toks (Nat.le_refl _) (h Γ p hΓ)

set_option maxHeartbeats 2000000
/-- no reader has booked a token: the identity of equal values is told -/
abbrev Told (h : Heap) : Prop := ∀ M : Model, Looks M h (nsGet cStatics sharingNotToldKey) none
section
variable {M : Model} {A : Around} {E : Value → Shared → Prop} {s : Shared} {x y : UInt64} {t u : Tok}
theorem notTold {Q : Bool → Shared → Prop} (hb : Told s.heap) (h : Q false s) : wpAny M A (sharingNotTold t) Q E s := by
  unfold sharingNotTold
  refine wpAny_bind (hb M _ _ _ _ (fun _ _ e => e) ?_)
  exact wpAny_pure h
theorem isSame_float {Q : Bool → Shared → Prop} (h0 : t ≠ 0) (h1 : u ≠ 0) (hb : Told s.heap) (hq : ∀ b, Q b s) : wpAny M A (isSame (.float x t) (.float y u)) Q E s := by
  show wpAny M A (isSame.created (x == y && !Float64.isNaN x) t u) Q E s
  unfold isSame.created
  refine wpAny_ite ?_
  split
  · rename_i h
    simp [h0, h1] at h
  refine wpAny_ite ?_
  split
  · exact wpAny_pure (hq _)
  refine wpAny_ite ?_
  split
  · exact wpAny_pure (hq _)
  refine wpAny_bind (notTold hb ?_)
  first | rw [if_neg Bool.false_ne_true] | simp only [Bool.false_eq_true, if_false]
  refine wpAny_bind (notTold hb ?_)
  first | rw [if_neg Bool.false_ne_true] | simp only [Bool.false_eq_true, if_false]
  exact wpAny_bind (wpAny_rule (wpAny_bind (wpAny_askSetting (wpAny_pure (hq _)))))
theorem eqAt_ff (hx : (Float64.cmp x y == some Ordering.eq) = true) (h0 : t ≠ 0) (h1 : u ≠ 0) (hb : Told s.heap) : SeqAt.EqAt A s (.float x t) (.float y u) true := by
  intro prog w E Q h
  unfold eqBool
  show wpAny _ _ (if (Value.float x t == Value.float y u) = true then _ else _) Q E s
  by_cases hab : (Value.float x t == Value.float y u) = true
  · rw [if_pos hab]
    exact wpAny_bind (wpAny_rule (wpAny_pure h))
  · rw [if_neg hab]
    refine wpAny_bind (isSame_float h0 h1 hb fun b => ?_)
    cases b with
    | true => exact wpAny_pure h
    | false => exact wpAny_bind (AutoFloatOps.eq_0 (wpAny_truthy_bool (by rw [hx]; exact h)))
theorem eqAt_fi {n : Int} (hx : (Float64.cmpInt x n == some Ordering.eq) = true) : SeqAt.EqAt A s (.float x t) (.int n u) true := by
  intro prog w E Q h
  unfold eqBool
  refine wpAny_holding ?_
  rw [if_neg (by intro e; exact absurd (eq_of_beq e) (fun e => nomatch e))]
  exact wpAny_bind (eq_fi (wpAny_truthy_bool (by rw [hx]; exact h)))
end
theorem ne3 {A : Around} {s : Shared} {l b : Addr} {v1 v2 v3 w1 w2 w3 : Value} (hl : s.heap.IsTuple l #[v1, v2, v3]) (hb : s.heap.IsTuple b #[w1, w2, w3]) (hu : A.units < cLine)
    (e1 : SeqAt.EqAt A.in1 s v1 w1 true) (e2 : SeqAt.EqAt A.in1 s v2 w2 true) (e3 : SeqAt.EqAt A.in1 s v3 w3 true) : SeqAt.RcNeAt A s (.ref l) (.ref b) false := by
  refine SeqAt.RcNeAt.tuples (e := fun _ => true) hl hb hu fun j h1 h2 => ?_
  match j, h1, h2 with
  | 0, _, _ => exact e1
  | 1, _, _ => exact e2
  | 2, _, _ => exact e3
  | n + 3, h, _ => exact absurd h (by simp)
section
variable {prog : Program} {w : World} {A : Around} {E : Value → Shared → Prop} {s : Shared} {Q : Value → Shared → Prop} {K : Frag} {h₀ : Heap} {L : Addr} {m : Str → Option Value} {news : List (Addr × Obj)} {l b : Addr} {k1 k2 : Nat} {x1 x2 x3 y1 y2 y3 : UInt64} {t1 t2 t3 u1 u2 u3 : Tok}
theorem told_K (F : Fr h₀ L s.heap m) (X : K.In h₀) (e : nsIn K cStatics sharingNotToldKey = some none) : Told s.heap := fun _ => looks_nsIn (X.keeps F.keep) e
theorem isTupleN {items : Array Value} {k : Nat} (N : News h₀ L s.heap news) (hm : (l, ({ cls := .type "tuple", data := .seq items k } : Obj)) ∈ news) : s.heap.IsTuple l items := ⟨_, (N _ hm).1, rfl, k, rfl⟩
/-- three floats by three floats, found equal -/
theorem ne_fff_K (F : Fr h₀ L s.heap m) (X : K.In h₀) (N : News h₀ L s.heap news) (e : nsIn K cStatics sharingNotToldKey = some none)
    (h1 : (l, ({ cls := .type "tuple", data := .seq #[.float x1 t1, .float x2 t2, .float x3 t3] k1 } : Obj)) ∈ news) (h2 : (b, ({ cls := .type "tuple", data := .seq #[.float y1 u1, .float y2 u2, .float y3 u3] k2 } : Obj)) ∈ news) (hu : A.units < cLine)
    (c1 : (Float64.cmp x1 y1 == some Ordering.eq) = true) (c2 : (Float64.cmp x2 y2 == some Ordering.eq) = true) (c3 : (Float64.cmp x3 y3 == some Ordering.eq) = true)
    (n1 : t1 ≠ 0) (n2 : t2 ≠ 0) (n3 : t3 ≠ 0) (z1 : u1 ≠ 0) (z2 : u2 ≠ 0) (z3 : u3 ≠ 0) (h : Q (.bool false) s) : wpAny (model prog w) A (compareOp .NotEq (.ref l) (.ref b)) Q E s :=
  cmp_ofNotEq (ne3 (isTupleN N h1) (isTupleN N h2) hu (eqAt_ff c1 n1 z1 (told_K F X e)) (eqAt_ff c2 n2 z2 (told_K F X e)) (eqAt_ff c3 n3 z3 (told_K F X e)) prog w E Q h)
/-- a float by an int, two floats by two floats, found equal -/
theorem ne_iff_K {n : Int} (F : Fr h₀ L s.heap m) (X : K.In h₀) (N : News h₀ L s.heap news) (e : nsIn K cStatics sharingNotToldKey = some none)
    (h1 : (l, ({ cls := .type "tuple", data := .seq #[.float x1 t1, .float x2 t2, .float x3 t3] k1 } : Obj)) ∈ news) (h2 : (b, ({ cls := .type "tuple", data := .seq #[.int n u1, .float y2 u2, .float y3 u3] k2 } : Obj)) ∈ news) (hu : A.units < cLine)
    (c1 : (Float64.cmpInt x1 n == some Ordering.eq) = true) (c2 : (Float64.cmp x2 y2 == some Ordering.eq) = true) (c3 : (Float64.cmp x3 y3 == some Ordering.eq) = true)
    (n2 : t2 ≠ 0) (n3 : t3 ≠ 0) (z2 : u2 ≠ 0) (z3 : u3 ≠ 0) (h : Q (.bool false) s) : wpAny (model prog w) A (compareOp .NotEq (.ref l) (.ref b)) Q E s :=
  cmp_ofNotEq (ne3 (isTupleN N h1) (isTupleN N h2) hu (eqAt_fi c1) (eqAt_ff c2 n2 z2 (told_K F X e)) (eqAt_ff c3 n3 z3 (told_K F X e)) prog w E Q h)
end

set_option maxHeartbeats 2000000
def hsvI (h : UInt64) : Int := Flt.toInt Float64.truncOf (Float64.mul h 4618441417868443648)
def hsvF (h : UInt64) : UInt64 := Float64.sub (Float64.mul h 4618441417868443648) (Float64.ofInt (hsvI h))
def hsvP (sa v : UInt64) : UInt64 := Float64.mul v (Float64.sub 4607182418800017408 sa)
def hsvQ (sa v f : UInt64) : UInt64 := Float64.mul v (Float64.sub 4607182418800017408 (Float64.mul sa f))
def hsvT (sa v f : UInt64) : UInt64 := Float64.mul v (Float64.sub 4607182418800017408 (Float64.mul sa (Float64.sub 4607182418800017408 f)))
def hsvR (k : Int) (sa v f : UInt64) : UInt64 := pick k v (hsvQ sa v f) (hsvP sa v) (hsvP sa v) (hsvT sa v f) v
def hsvG (k : Int) (sa v f : UInt64) : UInt64 := pick k (hsvT sa v f) v v (hsvQ sa v f) (hsvP sa v) (hsvP sa v)
def hsvB (k : Int) (sa v f : UInt64) : UInt64 := pick k (hsvP sa v) (hsvP sa v) (hsvT sa v f) v v (hsvQ sa v f)
/-- what hsv_to_rgb wants and gives -/
structure HsvOk (h sa v R G B : UInt64) : Prop where
  y1 : (Float64.cmp sa 0 == some Ordering.eq) = false
  y2 : Float64.isNaN (Float64.mul h 4618441417868443648) = false
  y3 : Float64.isInf (Float64.mul h 4618441417868443648) = false
  y5 : 0 ≤ hsvI h
  y6 : hsvI h < 1000
  r : hsvR ((hsvI h).fmod 6) sa v (hsvF h) = R
  g : hsvG ((hsvI h).fmod 6) sa v (hsvF h) = G
  b : hsvB ((hsvI h).fmod 6) sa v (hsvF h) = B
/-- what rgb_to_hsv wants and gives -/
structure RgbOk (r g b U S M : UInt64) : Prop where
  ex : ∃ P, mx r g b = M ∧ mn r g b = P ∧ (Float64.cmp P M == some Ordering.eq) = false ∧ (¬Float64.isZero M = true) ∧ (¬Float64.isZero (Float64.sub M P) = true) ∧ rgbHue r g b M P = U ∧ Float64.div (Float64.sub M P) M = S
section
variable {w : World} {dp un : Nat} {gd : Option (List Code)} {cn : Str} {cs : Scope} {a : Addr} {ccd : Value} {cl : List (Str × Addr)} {outer : List Env} {A₀ : Around} {base h₀ : Heap} {L : Addr} {m : Str → Option Value} {news : List (Addr × Obj)} {s : Shared}
  {Q E : Value → Shared → Prop} {p : Program} {loose : List Str} {mean : ExcName → Option Value} {mg mb : Str → Option Value}
theorem c_hsv2 {h sa v R G B' : UInt64} {t1 t2 t3 : Tok}
  (B : Below A₀ base outer h₀) (F : Fr h₀ L s.heap m) (X : (hd.heap_39 w.params).In h₀) (N : News h₀ L s.heap news) (T : Top p loose mean mg mb h₀) (hk : cs.kind = .function)
  (n3 : t3 ≠ 0) (ok : HsvOk h sa v R G B') (hd : dp + 10 < recursionLimit) (hu : un + 80 < cLine)
  (hret : ∀ (r' : Addr) (u1 u2 u3 : Tok) (k : Nat) (h' : Heap) (tk' : Nat), Fr h₀ L h' m → News h₀ L h' ((r', { cls := .type "tuple", data := .seq #[.float R u1, .float G u2, .float B' u3] k }) :: news) → (∀ p ∈ news, p.1 < r') → Nz u1 u2 u3 → s.toks ≤ tk' → Q (.ref r') { s with heap := h', toks := tk' }) :
  wpAny (model Challenge.rw_pe0195_01.row.prog w) (ktrTop dp un gd cn cs L a ccd cl outer) (call (.ref 70) [.float h t1, .float sa t2, .float v t3]) Q E s := by
  obtain ⟨y1, y2, y3, y5, y6, rfl, rfl, rfl⟩ := ok
  refine wpAny_toks ?_
  exact c_hsv B F X N T hk n3 y1 y2 y3 rfl y5 y6 hd hu hret
theorem c_rgb2 {r g b U S M : UInt64} {t1 t2 t3 : Tok}
  (B : Below A₀ base outer h₀) (F : Fr h₀ L s.heap m) (X : (hd.heap_39 w.params).In h₀) (N : News h₀ L s.heap news) (T : Top p loose mean mg mb h₀) (hk : cs.kind = .function)
  (n1 : t1 ≠ 0) (n2 : t2 ≠ 0) (n3 : t3 ≠ 0) (ok : RgbOk r g b U S M) (hd : dp + 10 < recursionLimit) (hu : un + 80 < cLine)
  (hret : ∀ (r' : Addr) (u1 u2 u3 : Tok) (k : Nat) (h' : Heap) (tk' : Nat), Fr h₀ L h' m → News h₀ L h' ((r', { cls := .type "tuple", data := .seq #[.float U u1, .float S u2, .float M u3] k }) :: news) → (∀ p ∈ news, p.1 < r') → Nz u1 u2 u3 → s.toks ≤ tk' → Q (.ref r') { s with heap := h', toks := tk' }) :
  wpAny (model Challenge.rw_pe0195_01.row.prog w) (ktrTop dp un gd cn cs L a ccd cl outer) (call (.ref 63) [.float r t1, .float g t2, .float b t3]) Q E s := by
  obtain ⟨P, hM, hP, z1, z2, z3, rfl, rfl⟩ := ok.ex
  refine wpAny_toks ?_
  exact c_rgb B F X N T hk n1 n2 n3 hM hP z1 z2 z3 hd hu hret
end

set_option maxHeartbeats 2000000
/-- the numbers of one colour: share a / 8, level b / 8, fraction j / 32 -/
structure Col (a b j c e : Int) : Prop where
  a1 : 1 ≤ a
  a2 : a ≤ 8
  b1 : 1 ≤ b
  b2 : b ≤ 8
  j1 : 1 ≤ j
  j2 : j ≤ 31
  c1 : 1 ≤ c
  c2 : c ≤ 8 * b
  e1 : c ≤ e
  e2 : e ≤ 31 * c
  hc : c = a * b
  he : e = c * j
theorem Col.mk' {a b j : Int} (a1 : 1 ≤ a) (a2 : a ≤ 8) (b1 : 1 ≤ b) (b2 : b ≤ 8) (j1 : 1 ≤ j) (j2 : j ≤ 31) : Col a b j (a * b) (a * b * j) := by
  have h1 : 1 * b ≤ a * b := Int.mul_le_mul_of_nonneg_right a1 (by lia)
  have h2 : a * b ≤ 8 * b := Int.mul_le_mul_of_nonneg_right a2 (by lia)
  generalize hc : a * b = c at h1 h2 ⊢
  have h3 : c * 1 ≤ c * j := Int.mul_le_mul_of_nonneg_left j1 (by lia)
  have h4 : c * j ≤ c * 31 := Int.mul_le_mul_of_nonneg_left j2 (by lia)
  exact ⟨a1, a2, b1, b2, j1, j2, by lia, h2, by lia, by lia, hc.symm, rfl⟩
section
variable {a b j c e : Int}
theorem Col.sw (C : Col a b j c e) : Col a b (32 - j) c (32 * c - e) := by
  obtain ⟨a1, a2, b1, b2, j1, j2, c1, c2, e1, e2, hc, he⟩ := C
  refine ⟨a1, a2, b1, b2, by lia, by lia, c1, c2, by lia, by lia, hc, ?_⟩
  rw [Int.mul_sub, ← he]
  lia
theorem Col.s (C : Col a b j c e) : Float64.div (fx (32 * c)) (fx (256 * b)) = fx (256 * a) := by
  obtain ⟨a1, a2, b1, b2, j1, j2, c1, c2, e1, e2, hc, he⟩ := C
  refine fx_div (small_of (by lia) (by lia)) (small_of (by lia) (by lia)) (small_of (by lia) (by lia)) (by lia) ?_
  have : 256 * b * (256 * a) = 65536 * (a * b) := by
    rw [Int.mul_assoc, Int.mul_left_comm b, ← Int.mul_assoc, Int.mul_comm b a]
    rfl
  rw [this, ← hc]
  lia
theorem Col.full (C : Col a b j c e) : Float64.div (fx (32 * c)) (fx (32 * c)) = fx 2048 := by
  obtain ⟨a1, a2, b1, b2, j1, j2, c1, c2, e1, e2, hc, he⟩ := C
  exact fx_div (small_of (by lia) (by lia)) (small_of (by lia) (by lia)) (small_of (by lia) (by lia)) (by lia) rfl
theorem Col.part (C : Col a b j c e) : Float64.div (fx e) (fx (32 * c)) = fx (64 * j) := by
  obtain ⟨a1, a2, b1, b2, j1, j2, c1, c2, e1, e2, hc, he⟩ := C
  refine fx_div (small_of (by lia) (by lia)) (small_of (by lia) (by lia)) (small_of (by lia) (by lia)) (by lia) ?_
  have : 32 * c * (64 * j) = 2048 * (c * j) := by
    rw [Int.mul_assoc, Int.mul_left_comm c, ← Int.mul_assoc]
    rfl
  rw [this, ← he]
  lia
theorem six_mod {h U : Int} (hh : Small h) (u0 : 0 < U) (u1 : U < 2048) (hu : h = 6 * U ∨ h = 6 * U - 12288) : (Float64.divmod (Float64.div (fx h) 4618441417868443648) 4607182418800017408).2 = fx U := by
  rw [fx_six, fx_one]
  rcases hu with hu | hu
  · rw [fx_div (z := U) hh (small_of (by lia) (by lia)) (small_of (by lia) (by lia)) (by lia) (by lia), fx_mod1 (small_of (by lia) (by lia)) (by lia)]
    congr 1
    lia
  · rw [fx_div (z := U - 2048) hh (small_of (by lia) (by lia)) (small_of (by lia) (by lia)) (by lia) (by lia), fx_mod1 (small_of (by lia) (by lia)) (by lia)]
    congr 1
    lia
theorem beq_fx {x y : Int} (hx : Small x) (hy : Small y) : (Float64.cmp (fx x) (fx y) == some Ordering.eq) = decide (x = y) := by
  rw [fx_cmp hx hy]
  by_cases h : x = y
  · subst h; simp
  · rw [decide_eq_false h]
    have : compare x y ≠ .eq := fun c => h (Int.compare_eq_eq.mp c)
    cases hc : compare x y <;> first | rfl | exact absurd hc this
theorem fl_fx {x y : Int} (hx : Small x) (hy : Small y) : fl (fx x) (fx y) = decide (x < y) := by
  unfold fl
  rw [fx_cmp hx hy]
  by_cases h : x < y
  · rw [Int.compare_eq_lt.mpr h, decide_eq_true h]; rfl
  · rw [decide_eq_false h]
    have : compare x y ≠ .lt := fun c => h (Int.compare_eq_lt.mp c)
    cases hc : compare x y <;> first | rfl | exact absurd hc this
theorem mx_fx {x y z : Int} (hx : Small x) (hy : Small y) (hz : Small z) : mx (fx x) (fx y) (fx z) = fx (if x < y then (if y < z then z else y) else (if x < z then z else x)) := by
  unfold mx
  rw [fl_fx hx hy, fl_fx hy hz, fl_fx hx hz]
  simp only [decide_eq_true_eq]
  split <;> split <;> rfl
theorem mn_fx {x y z : Int} (hx : Small x) (hy : Small y) (hz : Small z) : mn (fx x) (fx y) (fx z) = fx (if y < x then (if z < y then z else y) else (if z < x then z else x)) := by
  unfold mn
  rw [fl_fx hy hx, fl_fx hz hy, fl_fx hz hx]
  simp only [decide_eq_true_eq]
  split <;> split <;> rfl
/-- what rgb_to_hsv reckons of three 2048ths of which M is the greatest and P the least -/
theorem rgb_fx (C : Col a b j c e) {r g d U M P : Int} (hM : M = 256 * b) (hP : P = 256 * b - 32 * c) (sr : 0 ≤ r ∧ r ≤ 2048) (sg : 0 ≤ g ∧ g ≤ 2048) (sd : 0 ≤ d ∧ d ≤ 2048)
    (m1 : (if r < g then (if g < d then d else g) else (if r < d then d else r)) = M) (m2 : (if g < r then (if d < g then d else g) else (if d < r then d else r)) = P)
    (hh : rgbHue (fx r) (fx g) (fx d) (fx M) (fx P) = fx U) : RgbOk (fx r) (fx g) (fx d) (fx U) (fx (256 * a)) (fx (256 * b)) := by
  have hs := C.s
  obtain ⟨a1, a2, b1, b2, j1, j2, c1, c2, e1, e2, hc, he⟩ := C
  have tr : Small r := small_of (by lia) (by lia)
  have tg : Small g := small_of (by lia) (by lia)
  have td : Small d := small_of (by lia) (by lia)
  have tM : Small M := small_of (by lia) (by lia)
  have tP : Small P := small_of (by lia) (by lia)
  refine ⟨fx P, ?_, ?_, ?_, ?_, ?_, ?_, ?_⟩
  · rw [mx_fx tr tg td, m1, hM]
  · rw [mn_fx tr tg td, m2]
  · rw [← hM, beq_fx tP tM]
    exact decide_eq_false (by lia)
  · rw [← hM, fx_isZero tM (by lia)]; exact Bool.false_ne_true
  · rw [← hM, fx_sub tM tP (small_of (by lia) (by lia)), fx_isZero (small_of (by lia) (by lia)) (by lia)]; exact Bool.false_ne_true
  · rw [← hM]; exact hh
  · rw [← hM, fx_sub tM tP (small_of (by lia) (by lia)), show M - P = 32 * c by lia, hM]; exact hs
end
/-- one of six numbers -/
def six (k : Int) (a0 a1 a2 a3 a4 a5 : Int) : Int := if k = 0 then a0 else if k = 1 then a1 else if k = 2 then a2 else if k = 3 then a3 else if k = 4 then a4 else a5
theorem pick_fx (k : Int) (a0 a1 a2 a3 a4 a5 : Int) : pick k (fx a0) (fx a1) (fx a2) (fx a3) (fx a4) (fx a5) = fx (six k a0 a1 a2 a3 a4 a5) := by
  unfold pick six
  repeat (split; rfl)
  rfl
/-- the three colours: V, and three less ones -/
def colR (k b c e : Int) : Int := six k (256 * b) (256 * b - e) (256 * b - 32 * c) (256 * b - 32 * c) (256 * b - (32 * c - e)) (256 * b)
def colG (k b c e : Int) : Int := six k (256 * b - (32 * c - e)) (256 * b) (256 * b) (256 * b - e) (256 * b - 32 * c) (256 * b - 32 * c)
def colB (k b c e : Int) : Int := six k (256 * b - 32 * c) (256 * b - 32 * c) (256 * b - (32 * c - e)) (256 * b) (256 * b) (256 * b - e)
section
variable {a b j c e : Int}
theorem hue_r {M r g d P u v U : Int} (C : Col a b j c e) (sM : Small M) (s1 : Small r) (sg : Small g) (sd : Small d) (hr : r = M) (hPM : M - P = 32 * c) (tP : Small P)
    (h1 : Float64.div (fx (M - d)) (fx (32 * c)) = fx u) (h2 : Float64.div (fx (M - g)) (fx (32 * c)) = fx v) (su : Small u) (sv : Small v) (suv : Small (u - v)) (sc : Small (32 * c)) (s4 : Small (M - d)) (s5 : Small (M - g)) (u0 : 0 < U) (u1 : U < 2048) (hu : u - v = 6 * U ∨ u - v = 6 * U - 12288) :
    rgbHue (fx r) (fx g) (fx d) (fx M) (fx P) = fx U := by
  unfold rgbHue
  rw [if_pos (by rw [beq_fx s1 sM]; exact decide_eq_true hr), fx_sub sM tP (by rw [hPM]; exact sc), hPM, fx_sub sM sd s4, fx_sub sM sg s5, h1, h2, fx_sub su sv suv]
  exact six_mod suv u0 u1 hu
theorem hue_g {M r g d P u v U : Int} (C : Col a b j c e) (sM : Small M) (s1 : Small r) (sg : Small g) (sd : Small d) (hr : r ≠ M) (hg : g = M) (hPM : M - P = 32 * c) (tP : Small P)
    (h1 : Float64.div (fx (M - r)) (fx (32 * c)) = fx u) (h2 : Float64.div (fx (M - d)) (fx (32 * c)) = fx v) (su : Small u) (sv : Small v) (suv : Small (4096 + u - v)) (su4 : Small (4096 + u)) (sc : Small (32 * c)) (s4 : Small (M - d)) (s5 : Small (M - r)) (u0 : 0 < U) (u1 : U < 2048) (hu : 4096 + u - v = 6 * U ∨ 4096 + u - v = 6 * U - 12288) :
    rgbHue (fx r) (fx g) (fx d) (fx M) (fx P) = fx U := by
  unfold rgbHue
  rw [if_neg (by rw [beq_fx s1 sM]; simpa using hr), if_pos (by rw [beq_fx sg sM]; exact decide_eq_true hg), fx_sub sM tP (by rw [hPM]; exact sc), hPM, fx_sub sM sd s4, fx_sub sM s1 s5, h1, h2, fx_two, fx_add (small_of (by decide) (by decide)) su su4, fx_sub su4 sv suv]
  exact six_mod suv u0 u1 hu
theorem hue_d {M r g d P u v U : Int} (C : Col a b j c e) (sM : Small M) (s1 : Small r) (sg : Small g) (sd : Small d) (hr : r ≠ M) (hg : g ≠ M) (hPM : M - P = 32 * c) (tP : Small P)
    (h1 : Float64.div (fx (M - g)) (fx (32 * c)) = fx u) (h2 : Float64.div (fx (M - r)) (fx (32 * c)) = fx v) (su : Small u) (sv : Small v) (suv : Small (8192 + u - v)) (su4 : Small (8192 + u)) (sc : Small (32 * c)) (s4 : Small (M - g)) (s5 : Small (M - r)) (u0 : 0 < U) (u1 : U < 2048) (hu : 8192 + u - v = 6 * U ∨ 8192 + u - v = 6 * U - 12288) :
    rgbHue (fx r) (fx g) (fx d) (fx M) (fx P) = fx U := by
  unfold rgbHue
  rw [if_neg (by rw [beq_fx s1 sM]; simpa using hr), if_neg (by rw [beq_fx sg sM]; simpa using hg), fx_sub sM tP (by rw [hPM]; exact sc), hPM, fx_sub sM sg s4, fx_sub sM s1 s5, h1, h2, fx_four, fx_add (small_of (by decide) (by decide)) su su4, fx_sub su4 sv suv]
  exact six_mod suv u0 u1 hu
theorem col_rgb (C : Col a b j c e) {k U : Int} (k0 : 0 ≤ k) (k1 : k ≤ 5) (hU : 6 * U = 2048 * k + 64 * j) : RgbOk (fx (colR k b c e)) (fx (colG k b c e)) (fx (colB k b c e)) (fx U) (fx (256 * a)) (fx (256 * b)) := by
  have C' := C
  have hf := C.full
  have hp := C.part
  have hq := C.sw.part
  obtain ⟨a1, a2, b1, b2, j1, j2, c1, c2, e1, e2, hc, he⟩ := C'
  have sV : Small (256 * b) := by exact small_of (by lia) (by lia)
  have sP : Small (256 * b - 32 * c) := by exact small_of (by lia) (by lia)
  have sQ : Small (256 * b - e) := by exact small_of (by lia) (by lia)
  have sT : Small (256 * b - (32 * c - e)) := by exact small_of (by lia) (by lia)
  have w1 : 256 * b - (256 * b - 32 * c) = 32 * c := by lia
  have w2 : 256 * b - (256 * b - e) = e := by lia
  have w3 : 256 * b - (256 * b - (32 * c - e)) = 32 * c - e := by lia
  have hk : k = 0 ∨ k = 1 ∨ k = 2 ∨ k = 3 ∨ k = 4 ∨ k = 5 := by lia
  rcases hk with rfl | rfl | rfl | rfl | rfl | rfl
  · refine rgb_fx (r := 256 * b) (g := 256 * b - (32 * c - e)) (d := 256 * b - 32 * c) C rfl rfl (by lia) (by lia) (by lia) (by rw [if_neg (by lia), if_neg (by lia)]) (by rw [if_pos (by lia), if_pos (by lia)]) ?_
    exact hue_r (u := 2048) (v := 64 * (32 - j)) C sV sV sT sP rfl w1 sP (by rw [w1]; exact hf) (by rw [w3]; exact hq) (by exact small_of (by lia) (by lia)) (by exact small_of (by lia) (by lia)) (by exact small_of (by lia) (by lia)) (by exact small_of (by lia) (by lia)) (by exact small_of (by lia) (by lia)) (by exact small_of (by lia) (by lia)) (by lia) (by lia) (by lia)
  · refine rgb_fx (r := 256 * b - e) (g := 256 * b) (d := 256 * b - 32 * c) C rfl rfl (by lia) (by lia) (by lia) (by rw [if_pos (by lia), if_neg (by lia)]) (by rw [if_neg (by lia), if_pos (by lia)]) ?_
    exact hue_g (u := 64 * j) (v := 2048) C sV sQ sV sP (by lia) rfl w1 sP (by rw [w2]; exact hp) (by rw [w1]; exact hf) (by exact small_of (by lia) (by lia)) (by exact small_of (by lia) (by lia)) (by exact small_of (by lia) (by lia)) (by exact small_of (by lia) (by lia)) (by exact small_of (by lia) (by lia)) (by exact small_of (by lia) (by lia)) (by exact small_of (by lia) (by lia)) (by lia) (by lia) (by lia)
  · refine rgb_fx (r := 256 * b - 32 * c) (g := 256 * b) (d := 256 * b - (32 * c - e)) C rfl rfl (by lia) (by lia) (by lia) (by rw [if_pos (by lia), if_neg (by lia)]) (by rw [if_neg (by lia), if_neg (by lia)]) ?_
    exact hue_g (u := 2048) (v := 64 * (32 - j)) C sV sP sV sT (by lia) rfl w1 sP (by rw [w1]; exact hf) (by rw [w3]; exact hq) (by exact small_of (by lia) (by lia)) (by exact small_of (by lia) (by lia)) (by exact small_of (by lia) (by lia)) (by exact small_of (by lia) (by lia)) (by exact small_of (by lia) (by lia)) (by exact small_of (by lia) (by lia)) (by exact small_of (by lia) (by lia)) (by lia) (by lia) (by lia)
  · refine rgb_fx (r := 256 * b - 32 * c) (g := 256 * b - e) (d := 256 * b) C rfl rfl (by lia) (by lia) (by lia) (by rw [if_pos (by lia), if_pos (by lia)]) (by rw [if_neg (by lia), if_neg (by lia)]) ?_
    exact hue_d (u := 64 * j) (v := 2048) C sV sP sQ sV (by lia) (by lia) w1 sP (by rw [w2]; exact hp) (by rw [w1]; exact hf) (by exact small_of (by lia) (by lia)) (by exact small_of (by lia) (by lia)) (by exact small_of (by lia) (by lia)) (by exact small_of (by lia) (by lia)) (by exact small_of (by lia) (by lia)) (by exact small_of (by lia) (by lia)) (by exact small_of (by lia) (by lia)) (by lia) (by lia) (by lia)
  · refine rgb_fx (r := 256 * b - (32 * c - e)) (g := 256 * b - 32 * c) (d := 256 * b) C rfl rfl (by lia) (by lia) (by lia) (by rw [if_neg (by lia), if_pos (by lia)]) (by rw [if_pos (by lia), if_neg (by lia)]) ?_
    exact hue_d (u := 2048) (v := 64 * (32 - j)) C sV sT sP sV (by lia) (by lia) w1 sP (by rw [w1]; exact hf) (by rw [w3]; exact hq) (by exact small_of (by lia) (by lia)) (by exact small_of (by lia) (by lia)) (by exact small_of (by lia) (by lia)) (by exact small_of (by lia) (by lia)) (by exact small_of (by lia) (by lia)) (by exact small_of (by lia) (by lia)) (by exact small_of (by lia) (by lia)) (by lia) (by lia) (by lia)
  · refine rgb_fx (r := 256 * b) (g := 256 * b - 32 * c) (d := 256 * b - e) C rfl rfl (by lia) (by lia) (by lia) (by rw [if_neg (by lia), if_neg (by lia)]) (by rw [if_pos (by lia), if_neg (by lia)]) ?_
    exact hue_r (u := 64 * j) (v := 2048) C sV sV sP sQ rfl w1 sP (by rw [w2]; exact hp) (by rw [w1]; exact hf) (by exact small_of (by lia) (by lia)) (by exact small_of (by lia) (by lia)) (by exact small_of (by lia) (by lia)) (by exact small_of (by lia) (by lia)) (by exact small_of (by lia) (by lia)) (by exact small_of (by lia) (by lia)) (by lia) (by lia) (by lia)
theorem col_hsv (C : Col a b j c e) {X i : Int} (i0 : 0 ≤ i) (i1 : i < 1000) (hX : 6 * X = 2048 * i + 64 * j) : HsvOk (fx X) (fx (256 * a)) (fx (256 * b)) (fx (colR (i % 6) b c e)) (fx (colG (i % 6) b c e)) (fx (colB (i % 6) b c e)) := by
  obtain ⟨a1, a2, b1, b2, j1, j2, c1, c2, e1, e2, hc, he⟩ := C
  have m1 : Float64.mul (fx X) 4618441417868443648 = fx (6 * X) := by
    rw [fx_six]
    exact fx_mul (by exact small_of (by lia) (by lia)) (by exact small_of (by lia) (by lia)) (by exact small_of (by lia) (by lia)) (by lia) (by lia) (by lia)
  have hi : hsvI (fx X) = i := by
    unfold hsvI
    rw [m1, fx_trunc (by exact small_of (by lia) (by lia)) (by lia)]
    lia
  have hF : hsvF (fx X) = fx (64 * j) := by
    unfold hsvF
    rw [m1, hi, fx_ofInt (by exact small_of (by lia) (by lia)), fx_sub (by exact small_of (by lia) (by lia)) (by exact small_of (by lia) (by lia)) (by exact small_of (by lia) (by lia))]
    congr 1
    lia
  have hfm : i.fmod 6 = i % 6 := Int.fmod_eq_emod_of_nonneg i (by decide)
  have hb8 : 256 * b * (256 * a) = 65536 * c := by
    rw [Int.mul_assoc, Int.mul_left_comm b, ← Int.mul_assoc, Int.mul_comm b a, ← hc]
    rfl
  have haj : 256 * a * (64 * j) = 16384 * (a * j) := by
    rw [Int.mul_assoc, Int.mul_left_comm a, ← Int.mul_assoc]
    rfl
  have hbaj : b * (a * j) = e := by rw [he, hc, Int.mul_comm a b, Int.mul_assoc]
  have q1 : 1 * j ≤ a * j := Int.mul_le_mul_of_nonneg_right a1 (by lia)
  have q2 : a * j ≤ 8 * j := Int.mul_le_mul_of_nonneg_right a2 (by lia)
  have hbz : 256 * b * (2048 - 8 * (a * j)) = (256 * b - e) * 2048 := by
    rw [Int.mul_sub, Int.mul_assoc 256 b, Int.mul_assoc 256 b, Int.mul_left_comm b 8, hbaj]
    lia
  have hP : hsvP (fx (256 * a)) (fx (256 * b)) = fx (256 * b - 32 * c) := by
    unfold hsvP
    rw [fx_one, fx_sub (by exact small_of (by lia) (by lia)) (by exact small_of (by lia) (by lia)) (by exact small_of (by lia) (by lia))]
    refine fx_mul (by exact small_of (by lia) (by lia)) (by exact small_of (by lia) (by lia)) (by exact small_of (by lia) (by lia)) (by lia) (by lia) ?_
    rw [Int.mul_sub, hb8]
    lia
  have hQ : hsvQ (fx (256 * a)) (fx (256 * b)) (fx (64 * j)) = fx (256 * b - e) := by
    unfold hsvQ
    rw [fx_mul (z := 8 * (a * j)) (by exact small_of (by lia) (by lia)) (by exact small_of (by lia) (by lia)) (by exact small_of (by lia) (by lia)) (by lia) (by lia) (by rw [haj]; lia), fx_one, fx_sub (by exact small_of (by lia) (by lia)) (by exact small_of (by lia) (by lia)) (by exact small_of (by lia) (by lia))]
    exact fx_mul (by exact small_of (by lia) (by lia)) (by exact small_of (by lia) (by lia)) (by exact small_of (by lia) (by lia)) (by lia) (by lia) hbz
  have hT : hsvT (fx (256 * a)) (fx (256 * b)) (fx (64 * j)) = fx (256 * b - (32 * c - e)) := by
    unfold hsvT
    have ha32 : 256 * a * (2048 - 64 * j) = (256 * a - 8 * (a * j)) * 2048 := by
      rw [Int.mul_sub, haj]
      lia
    have hlast : 256 * b * (2048 - (256 * a - 8 * (a * j))) = (256 * b - (32 * c - e)) * 2048 := by
      rw [Int.mul_sub, Int.mul_sub, hb8, Int.mul_assoc 256 b, Int.mul_assoc 256 b, Int.mul_left_comm b 8, hbaj]
      lia
    rw [fx_one, fx_sub (by exact small_of (by lia) (by lia)) (by exact small_of (by lia) (by lia)) (by exact small_of (by lia) (by lia)), fx_mul (by exact small_of (by lia) (by lia)) (by exact small_of (by lia) (by lia)) (by exact small_of (by lia) (by lia)) (by lia) (by lia) ha32, fx_sub (by exact small_of (by lia) (by lia)) (by exact small_of (by lia) (by lia)) (by exact small_of (by lia) (by lia))]
    exact fx_mul (by exact small_of (by lia) (by lia)) (by exact small_of (by lia) (by lia)) (by exact small_of (by lia) (by lia)) (by lia) (by lia) hlast
  refine ⟨?_, ?_, ?_, ?_, ?_, ?_, ?_, ?_⟩
  · rw [fx_nil, beq_fx (by exact small_of (by lia) (by lia)) (by exact small_of (by lia) (by lia))]
    exact decide_eq_false (by lia)
  · rw [m1]; exact fx_isNaN (by exact small_of (by lia) (by lia))
  · rw [m1]; exact fx_isInf (by exact small_of (by lia) (by lia))
  · rw [hi]; exact i0
  · rw [hi]; exact i1
  · rw [hi, hfm, hF]
    unfold hsvR
    rw [hP, hQ, hT, pick_fx]; rfl
  · rw [hi, hfm, hF]
    unfold hsvG
    rw [hP, hQ, hT, pick_fx]; rfl
  · rw [hi, hfm, hF]
    unfold hsvB
    rw [hP, hQ, hT, pick_fx]; rfl
/-- green and blue exchanged -/
theorem col_swap {k : Int} (k0 : 0 ≤ k) (k1 : k ≤ 5) : colR k b c e = colR (5 - k) b c (32 * c - e) ∧ colB k b c e = colG (5 - k) b c (32 * c - e) ∧ colG k b c e = colB (5 - k) b c (32 * c - e) := by
  have w : 32 * c - (32 * c - e) = e := by lia
  have hk : k = 0 ∨ k = 1 ∨ k = 2 ∨ k = 3 ∨ k = 4 ∨ k = 5 := by lia
  rcases hk with rfl | rfl | rfl | rfl | rfl | rfl <;> (unfold colR colG colB six; simp [w])
end

set_option maxHeartbeats 2000000
/-! a comprehension over a text's signs -/
def SrcS (prog : Program) (w : World) (A : Around) (h₀ : Heap) (L : Addr) (m : Str → Option Value) (env : Env) (elt : Expr) (x : Str) (scope : Scope) (cl : List (Str × Addr)) (Fin : Shared → List Value → List (Addr × Obj) → Prop) (xv : Value) (s₁ : Shared) : Prop :=
  ∃ y t news, xv = .str y t ∧ A.handled = none ∧ Fr h₀ L s₁.heap m ∧ News h₀ L s₁.heap news ∧ y.cps.size ≤ sizeLine ∧
    ∀ s₂ : Shared, (∃ h, s₂ = { s₁ with heap := h }) → LCg.CompRest prog w A h₀ L m env elt x scope cl s₂ (fun _ => True) (SignAt y) (Fin s₂) y.cps.size 0 [] news
section
variable {prog : Program} {w : World} {A : Around} {E : Value → Shared → Prop} {s : Shared} {h₀ : Heap} {L : Addr} {m : Str → Option Value} {env : Env}
theorem compS {elt iter : Expr} {x : Str} {px : Pos} {scope : Scope} {cl : List (Str × Addr)} {pos : Pos} {Q : Value → Shared → Prop} (_F₀ : Fr h₀ L s.heap m)
    (hclos : closureFor scope env = pure cl) (hcell : ∀ y ∈ scope.names, y.2 ≠ .cell) (hkind : scope.kind = .function)
    (hnames : ∀ y ∈ scope.names, y.2 = .local → scope.names.lookup y.1 = some .local) (hx : scope.names.lookup x = some .local)
    (h : wpAny (model prog w) A (eval iter env) (SrcS prog w A h₀ L m env elt x scope cl (fun s₂ => LCg.FinE h₀ L m s₂ Q)) E s)
    (hs : ∀ x, foldedSetIterable iter env x = pure x := by intro _; rfl) :
    wpAny (model prog w) A (eval (.ListComp elt [⟨.Name x px, iter, [], 0⟩] scope pos) env) Q E s := by
  rw [eval_ListComp]
  refine wpAny_comprehension_free (use := none) rfl hs hclos hkind hnames (wpAny_mono h (fun xv s₁ h₁ => ?_) fun _ _ e => e)
  obtain ⟨y, t, news, rfl, hh, F, N, hsz, R⟩ := h₁
  have st : ∀ ty i (h h' : Heap) (o : Obj) (nw : List (Addr × Obj)), Heap.IsStrIter h s₁.heap.objs.size ty y t i → h.get? s₁.heap.objs.size = some o → h'.get? s₁.heap.objs.size = some o → (∀ b o, h₀.get? b = some o → h'.get? b = some o) → News h₀ L h' nw → True → Heap.IsStrIter h' s₁.heap.objs.size ty y t i := by
    intro ty i h h' o nw st e e' _ _ _
    obtain ⟨o', q, r⟩ := st
    rw [e] at q; cases q
    exact ⟨o, e', r⟩
  cases ha : y.cps.all (· < 128)
  · refine wpAny_pyIter_wide ha ?_
    refine LCg.block_U (Walks.strWide hh _ y t) hsz (fun i h st => by obtain ⟨o, e, _⟩ := st; exact ⟨o, e⟩) (st _) hcell hkind hx ⟨_, Heap.get?_push_size _ rfl, rfl, rfl⟩ (fun b hb => ?_)
      (F.keeps fun _ _ e => Heap.get?_push_of_some _ e) (N.grown fun _ _ e => Heap.get?_push_of_some _ e) (Nat.ne_of_lt F.ns.lt) (next_is_new F) (fun p hp => Nat.ne_of_lt (Heap.lt_size (N p hp).1)) trivial (R _ ⟨_, rfl⟩) ?_
    · rw [List.mem_singleton.mp hb]
      show s₁.heap.objs.size < (s₁.heap.push _).objs.size
      rw [Heap.size_push]; exact Nat.lt_succ_self _
    · intro D C h tk m' ys news' F' N' o1 hn hC₀ hD₀ hCL hDL hCD offC fin
      refine ⟨m', hn, fun h'' hs'' => fin D h'' tk (F'.change hs'' hCL hC₀) (fun p hp => ?_) o1⟩
      refine ⟨hs''.extBut _ _ ?_ (N' p hp).1, (N' p hp).2⟩
      rcases List.mem_cons.mp hp with rfl | hp
      · exact Ne.symm hCD
      · exact offC p hp
  · refine wpAny_pyIter_ascii ha ?_
    refine LCg.block_U (Walks.strAscii hh _ y t) hsz (fun i h st => by obtain ⟨o, e, _⟩ := st; exact ⟨o, e⟩) (st _) hcell hkind hx ⟨_, Heap.get?_push_size _ rfl, rfl, rfl⟩ (fun b hb => ?_)
      (F.keeps fun _ _ e => Heap.get?_push_of_some _ e) (N.grown fun _ _ e => Heap.get?_push_of_some _ e) (Nat.ne_of_lt F.ns.lt) (next_is_new F) (fun p hp => Nat.ne_of_lt (Heap.lt_size (N p hp).1)) trivial (R _ ⟨_, rfl⟩) ?_
    · rw [List.mem_singleton.mp hb]
      show s₁.heap.objs.size < (s₁.heap.push _).objs.size
      rw [Heap.size_push]; exact Nat.lt_succ_self _
    · intro D C h tk m' ys news' F' N' o1 hn hC₀ hD₀ hCL hDL hCD offC fin
      refine ⟨m', hn, fun h'' hs'' => fin D h'' tk (F'.change hs'' hCL hC₀) (fun p hp => ?_) o1⟩
      refine ⟨hs''.extBut _ _ ?_ (N' p hp).1, (N' p hp).2⟩
      rcases List.mem_cons.mp hp with rfl | hp
      · exact Ne.symm hCD
      · exact offC p hp
end
/-- a text of one sign -/
def one (c : Nat) : Str := ⟨#[c]⟩
section
variable {prog : Program} {w : World} {A : Around} {h₀ : Heap} {L : Addr} {m : Str → Option Value} {env : Env} {elt : Expr} {x : Str} {scope : Scope} {cl : List (Str × Addr)} {Fin : Shared → List Value → List (Addr × Obj) → Prop} {news : List (Addr × Obj)} {s₁ : Shared}
theorem srcS_map {l : List Nat} {t : Tok} (g : Nat → Str) (hh : A.handled = none) (F : Fr h₀ L s₁.heap m) (N : News h₀ L s₁.heap news) (hl : l.length ≤ 64)
    (turn : ∀ hp c t I oI C oC D m₂ ys h tk (E' : Value → Shared → Prop), c ∈ l → LCg.NsObj oC m₂ → m₂ x = some (.str (one c) t) → Fr h₀ L h m → News h₀ L h ((I, oI) :: (C, oC) :: (D, LCg.lst ys) :: news) → LCg.Off3 I C D news → ((@Ne Nat I C) ∧ (@Ne Nat I D) ∧ (@Ne Nat C D)) →
      wpAny (model prog w) A (eval elt (compEnvC scope cl C env)) (LCg.CompEnd h₀ L m { s₁ with heap := h, toks := tk } I oI C oC D (LCg.lst ys) (fun _ => True) (fun y news' => KCtEl news (g c) y news')) E' { ({ s₁ with heap := hp } : Shared) with heap := h, toks := tk })
    (fin : ∀ hp ys, StrsAre ys (l.map g) → ys.length ≤ 64 → Fin { s₁ with heap := hp } ys news) : SrcS prog w A h₀ L m env elt x scope cl Fin (.str (txt l) t) s₁ := by
  have hsz : (txt l).cps.size = l.length := by simp [txt]
  refine ⟨txt l, t, news, rfl, hh, F, N, by rw [hsz, sizeLine_eq]; omega, ?_⟩
  rintro s₂ ⟨hp, rfl⟩
  rw [hsz]
  have key : ∀ (j i : Nat) (ys : List Value), i + j = l.length → StrsAre ys ((l.take i).map g) → LCg.CompRest prog w A h₀ L m env elt x scope cl { s₁ with heap := hp } (fun _ => True) (SignAt (txt l)) (Fin { s₁ with heap := hp }) j i ys news := by
    intro j
    induction j with
    | zero =>
      intro i ys hi hy
      have e : i = l.length := by omega
      subst e
      rw [List.take_length] at hy
      have len : ∀ {vs : List Value} {zs : List Str}, StrsAre vs zs → vs.length = zs.length := by
        intro vs zs h
        induction h with
        | nil => rfl
        | cons _ _ _ ih => simp [ih]
      exact LCg.CompRest.zero (fin hp ys hy (by rw [len hy, List.length_map]; exact hl))
    | succ j ih =>
      intro i ys hi hy
      refine LCg.CompRest.succ ?_
      intro v I oI C oC D m₂ h tk E' hv hC hx F N off ne
      obtain ⟨c, t, hc, hv'⟩ := hv
      have hc' : l[i]? = some c := by simpa [txt] using hc
      rw [hv'] at hx
      refine wpAny_mono (turn hp c t I oI C oC D m₂ ys h tk E' (List.mem_of_getElem? hc') hC hx F N off ne) (fun y s₂ hq => ?_) fun _ _ e => e
      obtain ⟨h', tk', nw, e, F', N', off', hS, hn, t', hy'⟩ := hq
      rw [hn] at N' off'
      refine ⟨h', tk', news, e, F', N', off', trivial, ?_⟩
      rw [hy']
      refine ih (i + 1) _ (by omega) ?_
      rw [List.take_add_one, hc']
      simpa using kct_snoc hy
  exact key l.length 0 [] (by omega) (by simp only [List.take_zero, List.map_nil]; exact .nil)
end
theorem join_nil_map (g : Nat → Nat) : ∀ l : List Nat, Txt.join (Str.ofString "") (l.map fun c => one (g c)) = txt (l.map g) := by
  intro l
  have h0 : Str.ofString "" = Str.empty := rfl
  have hj : ∀ ys : List Str, Txt.join (Str.ofString "") ys = Str.join (Str.ofString "") ys := fun ys => eq_of_beq (join_plain_closes _ ys)
  rw [hj]
  induction l with
  | nil => rfl
  | cons c r ih =>
    cases r with
    | nil => rfl
    | cons d r' =>
      have e : Str.join (Str.ofString "") (one (g c) :: one (g d) :: r'.map fun c => one (g c)) = one (g c) ++ Str.ofString "" ++ Str.join (Str.ofString "") (one (g d) :: r'.map fun c => one (g c)) := rfl
      simp only [List.map_cons] at ih ⊢
      rw [e, ih]
      apply Str.ext'
      rw [Str.cps_append, Str.cps_append]
      simp [txt, one, h0, Str.empty]
/-- L for R and R for all else -/
def swp (c : Nat) : Nat := if c = 82 then 76 else 82
def swpS (c : Nat) : Str := one (swp c)
theorem swp_yes {c : Nat} (h : (one c == Str.ofString "R") = true) : Str.ofString "L" = swpS c := by
  have e : one c = one 82 := (eq_of_beq h).trans (by decide +kernel)
  have : c = 82 := by
    have := congrArg (fun z : Str => z.cps[0]!) e
    simpa [one] using this
  subst this
  decide +kernel
theorem swp_no {c : Nat} (h : (one c == Str.ofString "R") = false) : Str.ofString "R" = swpS c := by
  have : c ≠ 82 := by
    rintro rfl
    revert h
    decide +kernel
  unfold swpS swp
  rw [if_neg this]
  decide +kernel

set_option maxHeartbeats 2000000
section
variable {prog : Program} {w : World} {A : Around} {E : Value → Shared → Prop} {s : Shared} {t u : Tok} {Q : Value → Shared → Prop}
theorem div_K {a b : Int} {x : UInt64} (hA : A.handled = none) (h0 : b ≠ 0) (hx : qf a b = x) (hi : Float64.isInf x = false) (h : Q (.float x s.toks) { s with toks := s.toks + 1 }) : wpAny (model prog w) A (binaryOp .Div (.int a t) (.int b u)) Q E s := by
  subst hx
  exact Flt.div_ii hA (fun e => absurd e h0) (fun _ e => absurd (hi.symm.trans e) Bool.false_ne_true) (fun _ _ => h)
structure IntOf (y : UInt64) (n : Int) : Prop where
  nan : Float64.isNaN y = false
  inf : Float64.isInf y = false
  is : Flt.toInt Float64.truncOf y = n
theorem intf_K {y : UInt64} {n : Int} (hA : A.handled = none) (hy : IntOf y n) (h : Q (.int n s.toks) { s with toks := s.toks + 1 }) : wpAny (model prog w) A (call (.type "int") [.float y t]) Q E s := by
  obtain ⟨h1, h2, rfl⟩ := hy
  exact Flt.call_int_float3 hA (fun e => absurd (h1.symm.trans e) Bool.false_ne_true) (fun e => absurd (h2.symm.trans e) Bool.false_ne_true) (fun _ => h)
theorem mulfi_K {a x : UInt64} {b : Int} (hb : b.natAbs ≤ 1000) (hx : Float64.mul a (Float64.ofInt b) = x) (h : Q (.float x s.toks) { s with toks := s.toks + 1 }) : wpAny (model prog w) A (binaryOp .Mult (.float a t) (.int b u)) Q E s :=
  mul_fi_fits (Nat.lt_of_le_of_lt hb (Nat.lt_of_lt_of_le (by decide : 1000 < 2 ^ 10) (Nat.pow_le_pow_right (Nat.le_succ 1) (Nat.le_add_left 10 1013)))) (hx ▸ h)
theorem swpS_len : ∀ l : List Nat, ((l.map swpS).map (·.length)).sum = l.length := by
  intro l
  induction l with
  | nil => rfl
  | cons c r ih =>
    simp only [List.map_cons, List.sum_cons, List.length_cons]
    rw [ih]
    have : (swpS c).length = 1 := rfl
    omega
theorem join_K {D : Addr} {ys : List Value} {l : List Nat} {h₀ : Heap} {L : Addr} {news : List (Addr × Obj)} (N : News h₀ L s.heap news) (hm : (D, LCg.lst ys) ∈ news) (hy : StrsAre ys (l.map swpS)) (hl : l.length ≤ 64)
    (h : ∀ t' k, Q (.str (txt (l.map swp)) t') { s with toks := k }) : wpAny (model prog w) A (call (.builtin "str.join") [.str (Str.ofString "") t, .ref D]) Q E s := by
  have h0 : (Str.ofString "").length = 0 := by decide +kernel
  refine join_list (D := D) (items := ys.toArray) ⟨_, (N _ hm).1, rfl, _, rfl⟩ (by simpa using hy) ?_ fun t' k => ?_
  · rw [swpS_len, h0]
    omega
  · have e := join_nil_map swp l
    have e2 : (l.map fun c => one (swp c)) = l.map swpS := rfl
    rw [e2] at e
    rw [e]
    exact h t' k
end

set_option maxHeartbeats 2000000
section
variable {w : World} {dp un : Nat} {gd : Option (List Code)} {cn : Str} {a : Addr} {ccd : Value} {outer : List Env} {A₀ : Around} {base h₀ : Heap} {L : Addr} {m : Str → Option Value} {news : List (Addr × Obj)} {s : Shared}
  {Q : Flow → Shared → Prop} {E : Value → Shared → Prop} {p : Program} {loose : List Str} {mean : ExcName → Option Value} {mg mb : Str → Option Value}
section
def swapStmt : Stmt := drawnBody.getD 11 default
theorem sw_stmt {u sa lv y2 : UInt64} {wh sm2 : Int} {tw tg t1 t2 t3 : Tok} {tr : Addr} {kt : Nat} {l : List Nat}
  (B : Below A₀ base outer h₀) (F : Fr h₀ L s.heap m) (X : (hd.heap_39 w.params).In h₀) (N : News h₀ L s.heap news) (T : Top p loose mean mg mb h₀)
  (e1 : m (nm "turned") = some (.ref tr)) (e2 : m (nm "wheel") = some (.int wh tw)) (e3 : m (nm "way") = some (.str (txt l) tg))
  (ht : (tr, ({ cls := .type "tuple", data := .seq #[.float u t1, .float sa t2, .float lv t3] kt } : Obj)) ∈ news)
  (b1 : 8 ≤ wh) (b2 : wh ≤ 64) (hl : l.length ≤ 64)
  (j1 : Float64.mul u (Float64.ofInt wh) = y2) (j2 : IntOf y2 sm2) (b7 : 0 < sm2) (b8 : sm2 < wh)
  (hw : (txt (wayL 64 sm2 (wh - sm2)) != txt (l.map swp)) = false)
  (hT : HitT news) (hch1 : CodeHd base 34 30) (hch2 : CodeHd base 41 37)
  (hd : dp + 120 < recursionLimit) (hu : un + 1000 < cLine) (hE : PassesOwn (model Challenge.rw_pe0195_01.row.prog w) (ktrTop dp un gd cn lawScope L a ccd [] outer) (envX cn lawScope L a ccd []) E)
  (hret : ∀ (h' : Heap) (tk' : Nat), Fr h₀ L h' m → News h₀ L h' news → Q .next { s with heap := h', toks := tk' }) :
  wpAny (model Challenge.rw_pe0195_01.row.prog w) (ktrTop dp un gd cn lawScope L a ccd [] outer) (exec swapStmt (envX cn lawScope L a ccd [])) Q E s := by
  w_top off
  k_with_none
  (k_with "eval Name" => (k_here; k_dflt (refine' nameX_L ?zqk1 ?zqk2 ?_ ?zqk3 ?zqk4 ?zqk5; (case zqk3 => rfl); (case zqk4 => rfl); (case zqk5 => decide); (case zqk1 => k_asm); (case zqk2 => assumption); k_whole)))
  (k_with "binaryOp Mult float int" => (k_here; k_dflt (refine' mulfi_K ?zqh1 ?zqh2 ?_; (case zqh1 => omega); (case zqh2 => assumption))))
  (k_with "call ref" => (k_here; (with_reducible show wpAny _ _ (call (Value.ref 84) _) _ _ _); k_dflt (refine' c_way ?zqhT ?zqk1 ?zqk2 ?zqk3 ?zqk4 ?zqk5 ?zqkK ?zqc1 ?zqc2 ?zqb1 ?zqb2 ?zqb3 ?zqhd ?zqhu ?_; (case zqk2 => k_asm); (case zqk4 => k_asm); (case zqk1 => k_asm); (case zqk3 => k_asm); (case zqk5 => k_asm); (case zqkK => exact rfl); (case zqhT => repeat (first | assumption | refine HitT.cons ?_)); (case zqc1 => assumption); (case zqc2 => assumption); (case zqb1 => omega); (case zqb2 => omega); (case zqb3 => omega); (case zqhd => first | exact room1 (by assumption) (by decide) | exact room0 (by assumption) (by decide) | ktr_room); (case zqhu => first | exact room1 (by assumption) (by decide) | exact room0 (by assumption) (by decide) | ktr_units)); intro t9 h9 tk9 F9 N9))
  (k_with "call type:int" => (k_here; k_dflt (refine' intf_K ?zqh0 ?zqh1 ?_; (case zqh0 => exact rfl); (case zqh1 => assumption))))
  (k_with "eval ListComp" => (k_here; k_dflt (refine compS (by k_asm) (by with_unfolding_all rfl) (by decide) (by rfl) (by decide) (by rfl) ?_)))
  (k_with "call builtin:str.join" => (k_here; k_dflt (refine' join_K ?zqN ?zqhm ?zqhy ?zqhl ?_; (case zqN => k_asm); (case zqhm => k_mem); (case zqhy => assumption); (case zqhl => assumption)); intro t9 k9))
  revert X; k_fill; intro X
  conv in (occs := *) swapStmt => all_goals whnf
  conv in (occs := *) lawScope => all_goals whnf
  dsimp only
  have hTup := News.isTup N ht
  k_steps
  k_dflt (refine' srcS_map swpS ?hh ?F ?N hl ?turn ?fin)
  case hh => exact rfl
  case F => k_asm
  case N => k_asm
  case turn =>
    intro g5 c5 t5 I5 oI5 C5 oC5 D5 m5 ys5 h5 tk5 E5 q1 hC5 hx5 F5 N5 off5 ne5
    k_steps
    · exact LCg.CompEnd.intro F5 N5 _ (fun _ h => h) off5 trivial (kct_el (swp_yes (by assumption)).symm rfl rfl)
    · exact LCg.CompEnd.intro F5 N5 _ (fun _ h => h) off5 trivial (kct_el (swp_no (by assumption)).symm rfl rfl)
  case fin =>
    intro g5 ys5 hy5 hl5 D5 h5 tk5 F5 N5 off5
    k_steps
    exact hret _ _ F5 fun q hq => N5 q (List.Mem.tail _ hq)
end
end

set_option maxHeartbeats 2000000
theorem rev_txt (l : List Nat) (u : Tok) : Txt.sliceBy (txt l) none none (-1, u) = txt l.reverse := by
  apply Str.ext'
  apply Array.toList_inj.mp
  rw [step_rev_list, txt_length]
  show _ = l.reverse
  apply List.ext_getElem
  · simp
  · intro i h1 h2
    have h3 : i < l.length := by simpa using h1
    rw [List.getElem_map, List.getElem_range, List.getElem_reverse]
    simp [txt, Array.getD, show l.length - 1 - i < l.length by omega]
section
variable {prog : Program} {w : World} {A : Around} {E : Value → Shared → Prop} {s : Shared} {h₀ : Heap} {L : Addr} {m : Str → Option Value} {news : List (Addr × Obj)} {t uk : Tok} {Q : Value → Shared → Prop} {l : List Nat} {value slice : Expr}
theorem slice_rev_K (hF : Fr h₀ L s.heap m) (hN : News h₀ L s.heap news) (hl : l.length ≤ 64) (h : ∀ h' t' c, Fr h₀ L h' m → News h₀ L h' news → Q (.str (txt l.reverse) t') { s with heap := h', toks := c })
    (hs : subscripted slice false (.str (txt l) t) (.ref s.heap.objs.size) = operate [.ref s.heap.objs.size, .str (txt l) t] (getItem (.str (txt l) t) (.ref s.heap.objs.size)) := by with_unfolding_all rfl)
    (ht : ∀ r, letTemporaryGo value (.str (txt l) t) r = pure () := by intro _; with_unfolding_all rfl) :
    wpAny (model prog w) A (subscriptTail value slice (.str (txt l) t) (.ref s.heap.objs.size)) Q E { s with heap := s.heap.push { cls := .type "slice", data := .fields #[.none, .none, .int (-1) uk] } } := by
  refine slice_strK_nn hF hN (by decide) (fun h' t' c F' N' => ?_) hs ht (by rw [txt_length, sizeLine_eq]; omega)
  rw [rev_txt]
  exact h h' t' c F' N'
end
def dst (i : Nat) : Stmt := drawnBody.getD i default
theorem drawnBody_is : drawnBody = [dst 0, dst 1, dst 2, dst 3, dst 4, dst 5, dst 6, dst 7, dst 8, dst 9, dst 10, swapStmt, dst 12, frontLoop] := rfl
def drawnNames : List Str := [nm "parts", nm "red", nm "green", nm "blue", nm "hue", nm "saturation", nm "value", nm "turned", nm "small", nm "inverse", nm "way", nm "count", nm "front", nm "elders", nm "other", nm "begins", nm "back", nm "another", nm "span", nm "due"]
/-- what is to be known of one drawn hue -/
structure DrawnOk (sh lv : UInt64) (wh dr : Int) (x R G B U y x' R2 G2 B2 V2 y2 : UInt64) (sm sm2 : Int) : Prop where
  s1 : (Float64.cmp sh sh == some Ordering.eq) = true
  s2 : (Float64.cmp lv lv == some Ordering.eq) = true
  s3 : (Float64.cmp (Float64.sub 4607182418800017408 U) (Float64.sub 4607182418800017408 U) == some Ordering.eq) = true
  x1 : qf (2 * dr.fmod (4 * wh) + 1) wh = x
  x2 : Float64.isInf x = false
  x3 : HsvOk x sh lv R G B
  x4 : RgbOk R G B U sh lv
  x5 : RgbOk R B G (Float64.sub 4607182418800017408 U) sh lv
  x6 : Float64.mul U (Float64.ofInt wh) = y
  x7 : (Float64.cmpInt y ((2 * dr.fmod (4 * wh) + 1).fmod wh) == some .eq) = true
  i1 : IntOf y sm
  b3 : 0 < sm
  b4 : sm < wh
  i2 : 0 < ((odds (wh / 2).toNat).foldl (invG sm wh) []).length
  b5 : 0 < inv sm wh
  b6 : inv sm wh < wh
  p1 : qf (sm * inv sm wh) wh = x'
  p2 : Float64.isInf x' = false
  p3 : HsvOk x' sh lv R2 G2 B2
  p4 : RgbOk R2 G2 B2 V2 sh lv
  p5 : qf 1 wh = V2
  p6 : Float64.isInf V2 = false
  p7 : (Float64.cmp V2 V2 == some Ordering.eq) = true
  j1 : Float64.mul (Float64.sub 4607182418800017408 U) (Float64.ofInt wh) = y2
  j2 : IntOf y2 sm2
  b7 : 0 < sm2
  b8 : sm2 < wh
  l1 : (wayL 64 sm (wh - sm)).length ≤ 64
  w1 : (txt (wayL 64 (inv sm wh) (wh - inv sm wh)) != txt (wayL 64 sm (wh - sm)).reverse) = false
  w2 : (txt (wayL 64 sm2 (wh - sm2)) != txt ((wayL 64 sm (wh - sm)).map swp)) = false

set_option maxHeartbeats 2000000
section
variable {w : World} {dp un : Nat} {gd : Option (List Code)} {cn : Str} {a : Addr} {ccd : Value} {outer : List Env} {A₀ : Around} {base h₀ : Heap} {L : Addr} {m : Str → Option Value} {news : List (Addr × Obj)} {s : Shared}
  {Q : Flow → Shared → Prop} {E : Value → Shared → Prop} {p : Program} {loose : List Str} {mean : ExcName → Option Value} {mg mb : Str → Option Value}
section
theorem drawn_body {sh lv : UInt64} {wh dr : Int} {tw td ts tl : Tok} {pc : Addr} {kp : Nat} {D : Pc} {x R G B' U y x' R2 G2 B2 V2 y2 : UInt64} {sm sm2 : Int}
  (B : Below A₀ base outer h₀) (F : Fr h₀ L s.heap m) (X : (hd.heap_39 w.params).In h₀) (N : News h₀ L s.heap news) (T : Top p loose mean mg mb h₀)
  (e1 : m (nm "drawn") = some (.int dr td)) (e2 : m (nm "share") = some (.float sh ts)) (e3 : m (nm "wheel") = some (.int wh tw)) (e4 : m (nm "pieces") = some (.ref pc)) (e5 : m (nm "level") = some (.float lv tl))
  (b1 : 8 ≤ wh) (b2 : wh ≤ 64) (w1 : ts ≠ 0) (w2 : tl ≠ 0) (ok : DrawnOk sh lv wh dr x R G B' U y x' R2 G2 B2 V2 y2 sm sm2)
  (hD : PcIn D pc kp news) (d1 : ∀ i, i < 4 → ∀ j, j < 4 → 0 ≤ D.sn i j ∧ D.sn i j ≤ 64) (d2 : ∀ i, i < 4 → ∀ j, j < 4 → 0 ≤ D.el i j ∧ D.el i j ≤ 64)
  (hok : ∀ i, i < 4 → ∀ j, j < 4 → PairOk (D.wy i) (D.wy j) (txt (wayL 64 sm (wh - sm))) (btw (D.el i) sm wh) (btw (D.sn j) (inv sm wh) wh) (subs 64 sm (wh - sm)))
  (hT : HitT news) (hch1 : CodeHd base 34 30) (hch2 : CodeHd base 41 37)
  (hd : dp + 120 < recursionLimit) (hu : un + 1000 < cLine) (hE : PassesOwn (model Challenge.rw_pe0195_01.row.prog w) (ktrTop dp un gd cn lawScope L a ccd [] outer) (envX cn lawScope L a ccd []) E)
  (hret : ∀ (m' : Str → Option Value) (h' : Heap) (tk' : Nat), (∀ y, drawnNames.contains y = false → m' y = m y) → Fr h₀ L h' m' → News h₀ L h' news → Q .next { s with heap := h', toks := tk' }) :
  wpAny (model Challenge.rw_pe0195_01.row.prog w) (ktrTop dp un gd cn lawScope L a ccd [] outer) (execs drawnBody (envX cn lawScope L a ccd [])) Q E s := by
  w_top off
  k_with_none
  (k_with "eval Name" => (k_here; k_dflt (refine' nameX_L ?zqk1 ?zqk2 ?_ ?zqk3 ?zqk4 ?zqk5; (case zqk3 => rfl); (case zqk4 => rfl); (case zqk5 => decide); (case zqk1 => k_asm); (case zqk2 => assumption); k_whole)))
  (k_with "binaryOp Div int int" => (k_here; k_dflt (refine' div_K ?zqh0 ?zqh1 ?zqh2 ?zqh3 ?_; (case zqh0 => exact rfl); (case zqh1 => omega); (case zqh2 => assumption); (case zqh3 => assumption))))
  (k_with "binaryOp Mult float int" => (k_here; k_dflt (refine' mulfi_K ?zqh1 ?zqh2 ?_; (case zqh1 => omega); (case zqh2 => assumption))))
  (k_with "execs cons" => (k_here; (with_reducible refine wpAny_execs_cons ?_); try dsimp only))
  (k_with "execs nil" => (k_here; (with_reducible refine wpAny_execs_nil ?_); try dsimp only))
  (k_with "call ref" => (k_here; (with_reducible show wpAny _ _ (call (Value.ref 70) _) _ _ _); k_dflt (refine' c_hsv2 ?zqk1 ?zqk2 ?zqk3 ?zqk4 ?zqk5 ?zqkK ?zqn3 ?zqok ?zqhd ?zqhu ?_; (case zqk2 => k_asm); (case zqk4 => k_asm); (case zqk1 => k_asm); (case zqk3 => k_asm); (case zqk5 => k_asm); (case zqkK => exact rfl); (case zqn3 => first | assumption | exact Nat.succ_ne_zero _ | (refine Nat.ne_of_gt (Nat.lt_of_lt_of_le (Nat.succ_pos _) ?_); assumption) | omega); (case zqok => assumption); (case zqhd => first | exact room1 (by assumption) (by decide) | exact room0 (by assumption) (by decide) | ktr_room); (case zqhu => first | exact room1 (by assumption) (by decide) | exact room0 (by assumption) (by decide) | ktr_units)); intro r9 u9 v9 w9 k9 h9 tk9 F9 N9 l9 z9 g9; (obtain ⟨z1, z2, z3⟩ := z9); (try dsimp only at g9)))
  (k_with "call ref" => (k_here; (with_reducible show wpAny _ _ (call (Value.ref 63) _) _ _ _); k_dflt (refine' c_rgb2 ?zqk1 ?zqk2 ?zqk3 ?zqk4 ?zqk5 ?zqkK ?zqn1 ?zqn2 ?zqn3 ?zqok ?zqhd ?zqhu ?_; (case zqk2 => k_asm); (case zqk4 => k_asm); (case zqk1 => k_asm); (case zqk3 => k_asm); (case zqk5 => k_asm); (case zqkK => exact rfl); (case zqn1 => first | assumption | exact Nat.succ_ne_zero _ | (refine Nat.ne_of_gt (Nat.lt_of_lt_of_le (Nat.succ_pos _) ?_); assumption) | omega); (case zqn2 => first | assumption | exact Nat.succ_ne_zero _ | (refine Nat.ne_of_gt (Nat.lt_of_lt_of_le (Nat.succ_pos _) ?_); assumption) | omega); (case zqn3 => first | assumption | exact Nat.succ_ne_zero _ | (refine Nat.ne_of_gt (Nat.lt_of_lt_of_le (Nat.succ_pos _) ?_); assumption) | omega); (case zqok => assumption); (case zqhd => first | exact room1 (by assumption) (by decide) | exact room0 (by assumption) (by decide) | ktr_room); (case zqhu => first | exact room1 (by assumption) (by decide) | exact room0 (by assumption) (by decide) | ktr_units)); intro r9 u9 v9 w9 k9 h9 tk9 F9 N9 l9 z9 g9; (obtain ⟨z1, z2, z3⟩ := z9); (try dsimp only at g9)))
  (k_with "call ref" => (k_here; (with_reducible show wpAny _ _ (call (Value.ref 96) _) _ _ _); k_dflt (refine' c_inv ?zqk1 ?zqk2 ?zqk3 ?zqk4 ?zqk5 ?zqkK ?zqb1 ?zqb2 ?zqb3 ?zqhd ?zqhu ?zqne ?_; (case zqk2 => k_asm); (case zqk4 => k_asm); (case zqk1 => k_asm); (case zqk3 => k_asm); (case zqk5 => k_asm); (case zqkK => exact rfl); (case zqb1 => omega); (case zqb2 => omega); (case zqb3 => omega); (case zqne => assumption); (case zqhd => first | exact room1 (by assumption) (by decide) | exact room0 (by assumption) (by decide) | ktr_room); (case zqhu => first | exact room1 (by assumption) (by decide) | exact room0 (by assumption) (by decide) | ktr_units)); intro t9 h9 tk9 F9 N9))
  (k_with "compareOp NotEq ref ref" => (k_here; k_dflt (refine' ne_fff_K ?zqF ?zqX ?zqN ?zqe ?zqh1 ?zqh2 ?zqhu ?zqc1 ?zqc2 ?zqc3 ?zqn1 ?zqn2 ?zqn3 ?zqz1 ?zqz2 ?zqz3 ?_; (case zqN => k_asm); (case zqF => k_asm); (case zqX => k_asm); (case zqe => k_is); (case zqh1 => k_mem); (case zqh2 => k_mem); (case zqhu => first | exact room1 (by assumption) (by decide) | exact room0 (by assumption) (by decide) | ktr_units); (case zqc1 => assumption); (case zqc2 => assumption); (case zqc3 => assumption); (case zqn1 => first | assumption | exact Nat.succ_ne_zero _ | (refine Nat.ne_of_gt (Nat.lt_of_lt_of_le (Nat.succ_pos _) ?_); assumption) | omega); (case zqn2 => first | assumption | exact Nat.succ_ne_zero _ | (refine Nat.ne_of_gt (Nat.lt_of_lt_of_le (Nat.succ_pos _) ?_); assumption) | omega); (case zqn3 => first | assumption | exact Nat.succ_ne_zero _ | (refine Nat.ne_of_gt (Nat.lt_of_lt_of_le (Nat.succ_pos _) ?_); assumption) | omega); (case zqz1 => first | assumption | exact Nat.succ_ne_zero _ | (refine Nat.ne_of_gt (Nat.lt_of_lt_of_le (Nat.succ_pos _) ?_); assumption) | omega); (case zqz2 => first | assumption | exact Nat.succ_ne_zero _ | (refine Nat.ne_of_gt (Nat.lt_of_lt_of_le (Nat.succ_pos _) ?_); assumption) | omega); (case zqz3 => first | assumption | exact Nat.succ_ne_zero _ | (refine Nat.ne_of_gt (Nat.lt_of_lt_of_le (Nat.succ_pos _) ?_); assumption) | omega)); skip))
  (k_with "compareOp NotEq ref ref" => (k_here; k_dflt (refine' ne_iff_K ?zqF ?zqX ?zqN ?zqe ?zqh1 ?zqh2 ?zqhu ?zqc1 ?zqc2 ?zqc3 ?zqn2 ?zqn3 ?zqz2 ?zqz3 ?_; (case zqN => k_asm); (case zqF => k_asm); (case zqX => k_asm); (case zqe => k_is); (case zqh1 => k_mem); (case zqh2 => k_mem); (case zqhu => first | exact room1 (by assumption) (by decide) | exact room0 (by assumption) (by decide) | ktr_units); (case zqc1 => assumption); (case zqc2 => assumption); (case zqc3 => assumption); (case zqn2 => first | assumption | exact Nat.succ_ne_zero _ | (refine Nat.ne_of_gt (Nat.lt_of_lt_of_le (Nat.succ_pos _) ?_); assumption) | omega); (case zqn3 => first | assumption | exact Nat.succ_ne_zero _ | (refine Nat.ne_of_gt (Nat.lt_of_lt_of_le (Nat.succ_pos _) ?_); assumption) | omega); (case zqz2 => first | assumption | exact Nat.succ_ne_zero _ | (refine Nat.ne_of_gt (Nat.lt_of_lt_of_le (Nat.succ_pos _) ?_); assumption) | omega); (case zqz3 => first | assumption | exact Nat.succ_ne_zero _ | (refine Nat.ne_of_gt (Nat.lt_of_lt_of_le (Nat.succ_pos _) ?_); assumption) | omega)); skip))
  (k_with "call ref" => (k_here; (with_reducible show wpAny _ _ (call (Value.ref 84) _) _ _ _); k_dflt (refine' c_way ?zqhT ?zqk1 ?zqk2 ?zqk3 ?zqk4 ?zqk5 ?zqkK ?zqc1 ?zqc2 ?zqb1 ?zqb2 ?zqb3 ?zqhd ?zqhu ?_; (case zqk2 => k_asm); (case zqk4 => k_asm); (case zqk1 => k_asm); (case zqk3 => k_asm); (case zqk5 => k_asm); (case zqkK => exact rfl); (case zqhT => repeat (first | assumption | refine HitT.cons ?_)); (case zqc1 => assumption); (case zqc2 => assumption); (case zqb1 => omega); (case zqb2 => omega); (case zqb3 => omega); (case zqhd => first | exact room1 (by assumption) (by decide) | exact room0 (by assumption) (by decide) | ktr_room); (case zqhu => first | exact room1 (by assumption) (by decide) | exact room0 (by assumption) (by decide) | ktr_units)); intro t9 h9 tk9 F9 N9))
  (k_with "call ref" => (k_here; (with_reducible show wpAny _ _ (call (Value.ref 91) _) _ _ _); k_dflt (refine' c_subs ?zqk1 ?zqk2 ?zqk3 ?zqk4 ?zqk5 ?zqkK ?zqb1 ?zqb2 ?zqb3 ?zqhd ?zqhu ?_; (case zqk2 => k_asm); (case zqk4 => k_asm); (case zqk1 => k_asm); (case zqk3 => k_asm); (case zqk5 => k_asm); (case zqkK => exact rfl); (case zqb1 => omega); (case zqb2 => omega); (case zqb3 => omega); (case zqhd => first | exact room1 (by assumption) (by decide) | exact room0 (by assumption) (by decide) | ktr_room); (case zqhu => first | exact room1 (by assumption) (by decide) | exact room0 (by assumption) (by decide) | ktr_units)); intro t9 h9 tk9 F9 N9))
  (k_with "call type:int" => (k_here; k_dflt (refine' intf_K ?zqh0 ?zqh1 ?_; (case zqh0 => exact rfl); (case zqh1 => assumption))))
  (k_with "subscriptTail Name Slice str ref" => (k_here; (with_reducible rename Fr _ _ _ _ => F'); (with_reducible rename News _ _ _ _ => N'); k_dflt (refine slice_rev_K (s := ⟨_, _, _, _, _⟩) F' N' (by assumption) ?_); intro h9 t9 tk9 F9 N9; (try k_sweep)))
  obtain ⟨s1, s2, s3, x1, x2, x3, x4, x5, x6, x7, i1, b3, b4, i2, b5, b6, p1, p2, p3, p4, p5, p6, p7, j1, j2, b7, b8, l1, q1, q2⟩ := ok
  revert X; k_fill; intro X
  rw [drawnBody_is]
  have hE' := hE
  conv in (occs := *) dst _ => all_goals whnf
  conv in (occs := *) lawScope => all_goals whnf
  dsimp only
  k_steps
  rename Fr _ _ _ _ => F2
  rename News _ _ _ _ => N2
  refine sw_stmt (X := X) (l := wayL 64 sm (wh - sm)) B F2 N2 T rfl e3 rfl (by k_mem) b1 b2 l1 j1 j2 b7 b8 q2 (by repeat (first | assumption | refine HitT.cons ?_)) hch1 hch2 hd hu hE' ?_
  intro h7 tk7 F7 N7
  k_steps
  rename Fr _ _ _ _ => F8
  rename News _ _ _ _ => N8
  refine front_loop (D := D) (pc := pc) (kp := kp) (g := txt (wayL 64 sm (wh - sm))) (sm := sm) (iv := inv sm wh) (wh := wh) (ct := subs 64 sm (wh - sm)) B F8 X N8 T rfl rfl e3 e4 rfl rfl (hD.mono fun q hq => by repeat (first | exact hq | apply List.Mem.tail)) (by omega) (by omega) (by omega) (by omega) (by omega) (by omega) d1 d2 (by rw [txt_length]; exact l1) hok (by omega) (by omega) hE' ?_
  intro m9 h9 tk9 hj9 F9 N9
  k_steps
  refine hret _ _ _ (fun y hy => ?_) F9 (fun q hq => N9 q (by repeat (first | exact hq | apply List.Mem.tail)))
  simp only [drawnNames, List.contains_cons, List.contains_nil, Bool.or_false, Bool.or_eq_false_iff, beq_eq_false_iff_ne, ne_eq] at hy
  obtain ⟨a1, a2, a3, a4, a5, a6, a7, a8, a9, a10, a11, a12, a13, a14, a15, a16, a17, a18, a19, a20⟩ := hy
  rw [hj9 y (by simp only [frontNames, List.contains_cons, List.contains_nil, Bool.or_false, Bool.or_eq_false_iff, beq_eq_false_iff_ne, ne_eq]; exact ⟨a13, a14, a15, a16, a17, a18, a19, a20⟩)]
  simp only [if_neg a1, if_neg a2, if_neg a3, if_neg a4, if_neg a5, if_neg a6, if_neg a7, if_neg a8, if_neg a9, if_neg a10, if_neg a11, if_neg a12]
end
end

set_option maxHeartbeats 2000000
theorem app_fit {l : List Value} (h : l.length ≤ 8) : l.toArray.size ≤ sizeLine := by rw [sizeLine_eq, List.size_toArray]; omega
theorem hitT_here {c1 c2 : Addr} {o1 o2 : Obj} {v1 v2 : Array Value} {u1 u2 : Tok} {news : List (Addr × Obj)} (e1 : o1.data = .fields v1) (e2 : v1[1]? = some (.str (Str.ofString "_int2digits.<locals>.inner") u1)) (e3 : o2.data = .fields v2) (e4 : v2[1]? = some (.str (Str.ofString "_digits2int.<locals>.inner") u2)) (g1 : @LT.lt Nat _ 37 c1) (g2 : @LT.lt Nat _ 37 c2) :
    HitT ((30, tabObj #[rawInt 32, rawInt 4, .ref c1]) :: (c1, o1) :: (37, tabObj #[rawInt 47, rawInt 4, .ref c2]) :: (c2, o2) :: news) :=
  ⟨c1, c2, o1, o2, v1, v2, u1, u2, .head _, .tail _ (.head _), .tail _ (.tail _ (.head _)), .tail _ (.tail _ (.tail _ (.head _))), e1, e2, e3, e4, g1, g2⟩
theorem piece_end {h₀ h : Heap} {L t sp e x9 pc : Addr} {o1 o2 o3 o4 o5 : Obj} {news : List (Addr × Obj)} (N : News h₀ L h ((t, o1) :: (sp, o2) :: (e, o3) :: (x9, o4) :: (pc, o5) :: news)) : News h₀ L h ((pc, o5) :: (t, o1) :: (e, o3) :: (sp, o2) :: news) := cb_drop N fun q hq => by
  simp only [List.mem_cons] at hq ⊢
  rcases hq with h | h | h | h | h <;> simp [h]
theorem piece_endE {h₀ h : Heap} {L t sp e x9 pc : Addr} {o1 o2 o3 o4 o5 : Obj} {q1 q2 q3 q4 : Addr × Obj} {news : List (Addr × Obj)} (N : News h₀ L h ((t, o1) :: (sp, o2) :: (e, o3) :: (x9, o4) :: q1 :: q2 :: q3 :: q4 :: (pc, o5) :: news)) : News h₀ L h ((pc, o5) :: (t, o1) :: (e, o3) :: (sp, o2) :: q1 :: q2 :: q3 :: q4 :: news) := cb_drop N fun q hq => by
  simp only [List.mem_cons] at hq ⊢
  rcases hq with h | h | h | h | h | h | h | h | h <;> simp [h]
def pieceBody : List Stmt := loopBody ((fnBody lawDef).getD 5 default)
def pieceNames : List Str := [nm "m", nm "quotient", nm "one"]
section
variable {w : World} {dp un : Nat} {gd : Option (List Code)} {cn : Str} {a : Addr} {ccd : Value} {outer : List Env} {A₀ : Around} {base h₀ : Heap} {L : Addr} {m : Str → Option Value} {news : List (Addr × Obj)} {s : Shared}
  {Q : Flow → Shared → Prop} {E : Value → Shared → Prop} {p : Program} {loose : List Str} {mean : ExcName → Option Value} {mg mb : Str → Option Value}
section
theorem piece_H {n d : Int} {tn td : Tok} {pc : Addr} {l : List Value} {k : Nat}
  (B : Below A₀ base outer h₀) (F : Fr h₀ L s.heap m) (X : (hd.heap_39 w.params).In h₀) (N : News h₀ L s.heap ((pc, listOf l.toArray k) :: news)) (T : Top p loose mean mg mb h₀)
  (e1 : m (nm "n") = some (.int n tn)) (e2 : m (nm "d") = some (.int d td)) (e3 : m (nm "pieces") = some (.ref pc))
  (hpc : ∀ q ∈ news, q.1 ≠ pc) (hl : l.length ≤ 8)
  (b1 : 0 < n) (b2 : n < d) (b3 : d ≤ 16) (i1 : 0 < ((odds (d / 2).toNat).foldl (invG n d) []).length) (i2 : 0 < inv n d) (i3 : inv n d < d) (i4 : n * inv n d % d = 1) (i5 : 0 ≤ n * inv n d) (i6 : n * inv n d < 256)
  (hT : HitT news) (hch1 : CodeHd base 34 30) (hch2 : CodeHd base 41 37)
  (hd : dp + 120 < recursionLimit) (hu : un + 1000 < cLine)
  (hret : ∀ (t e sp : Addr) (k0 k1 k2 k3 : Nat) (tw a1 a2 a3 a4 c1 c2 c3 c4 : Tok) (m' : Str → Option Value) (h' : Heap) (tk' : Nat), (∀ y, pieceNames.contains y = false → m' y = m y) → Fr h₀ L h' m' →
    News h₀ L h' ((pc, listOf (l ++ [Value.ref t]).toArray k0) :: (t, tup #[.str (txt (wayL 64 n (d - n))) tw, .ref e, .ref sp] k1) :: (e, tup #[.int (n * inv n d / d) a1, .int (inv n d) a2, .int (n - n * inv n d / d) a3, .int (d - inv n d) a4] k2) :: (sp, tup #[.int (n * inv n d / d) c1, .int n c2, .int (inv n d - n * inv n d / d) c3, .int (d - n) c4] k3) :: news) →
    (@LT.lt Nat _ pc t ∧ @LT.lt Nat _ pc e ∧ @LT.lt Nat _ pc sp) → AllLt t news → AllLt e news → AllLt sp news → Q .next { s with heap := h', toks := tk' }) :
  wpAny (model Challenge.rw_pe0195_01.row.prog w) (ktrTop dp un gd cn lawScope L a ccd [] outer) (execs pieceBody (envX cn lawScope L a ccd [])) Q E s := by
  w_top off
  k_with_none
  (k_with "eval Name" => (k_here; k_dflt (refine' nameX_L ?zqk1 ?zqk2 ?_ ?zqk3 ?zqk4 ?zqk5; (case zqk3 => rfl); (case zqk4 => rfl); (case zqk5 => decide); (case zqk1 => k_asm); (case zqk2 => assumption); k_whole)))
  (k_with "execs cons" => (k_here; (with_reducible refine wpAny_execs_cons ?_); try dsimp only))
  (k_with "execs nil" => (k_here; (with_reducible refine wpAny_execs_nil ?_); try dsimp only))
  (k_with "call builtin:list.append" => (k_here; k_dflt (refine' append_K ?zqk1 ?zqk2 ?zqk3 ?_ ?zqz; (case zqk1 => k_asm); (case zqk2 => k_asm); (case zqk3 => k_upd); (case zqz => exact app_fit (by assumption)); k_whole); intro h' F' N'))
  (k_with "call ref" => (k_here; (with_reducible show wpAny _ _ (call (Value.ref 96) _) _ _ _); k_dflt (refine' c_inv ?zqk1 ?zqk2 ?zqk3 ?zqk4 ?zqk5 ?zqkK ?zqb1 ?zqb2 ?zqb3 ?zqhd ?zqhu ?zqne ?_; (case zqk2 => k_asm); (case zqk4 => k_asm); (case zqk1 => k_asm); (case zqk3 => k_asm); (case zqk5 => k_asm); (case zqkK => exact rfl); (case zqb1 => omega); (case zqb2 => omega); (case zqb3 => omega); (case zqne => assumption); (case zqhd => first | exact room1 (by assumption) (by decide) | exact room0 (by assumption) (by decide) | ktr_room); (case zqhu => first | exact room1 (by assumption) (by decide) | exact room0 (by assumption) (by decide) | ktr_units)); intro t9 h9 tk9 F9 N9))
  (k_with "call ref" => (k_here; (with_reducible show wpAny _ _ (call (Value.ref 56) _) _ _ _); k_dflt (refine' c_idm ?zqhT ?zqk1 ?zqk2 ?zqk3 ?zqk4 ?zqk5 ?zqkK ?zqc1 ?zqc2 ?zqb1 ?zqb2 ?zqb3 ?zqb4 ?zqhd ?zqhu ?_; (case zqk2 => k_asm); (case zqk4 => k_asm); (case zqk1 => k_asm); (case zqk3 => k_asm); (case zqk5 => k_asm); (case zqkK => exact rfl); (case zqhT => repeat (first | assumption | refine HitT.cons ?_)); (case zqc1 => assumption); (case zqc2 => assumption); (case zqb1 => assumption); (case zqb2 => assumption); (case zqb3 => omega); (case zqb4 => omega); (case zqhd => first | exact room1 (by assumption) (by decide) | exact room0 (by assumption) (by decide) | ktr_room); (case zqhu => first | exact room1 (by assumption) (by decide) | exact room0 (by assumption) (by decide) | ktr_units)); intro t9 u9 v9 k9 h9 tk9 F9 N9 l9; (try simp only [AllLt, and_true] at l9)))
  (k_with "call ref" => (k_here; (with_reducible show wpAny _ _ (call (Value.ref 84) _) _ _ _); k_dflt (refine' c_way ?zqhT ?zqk1 ?zqk2 ?zqk3 ?zqk4 ?zqk5 ?zqkK ?zqc1 ?zqc2 ?zqb1 ?zqb2 ?zqb3 ?zqhd ?zqhu ?_; (case zqk2 => k_asm); (case zqk4 => k_asm); (case zqk1 => k_asm); (case zqk3 => k_asm); (case zqk5 => k_asm); (case zqkK => exact rfl); (case zqhT => repeat (first | assumption | refine HitT.cons ?_)); (case zqc1 => assumption); (case zqc2 => assumption); (case zqb1 => omega); (case zqb2 => omega); (case zqb3 => omega); (case zqhd => first | exact room1 (by assumption) (by decide) | exact room0 (by assumption) (by decide) | ktr_room); (case zqhu => first | exact room1 (by assumption) (by decide) | exact room0 (by assumption) (by decide) | ktr_units)); intro t9 h9 tk9 F9 N9))
  revert X; k_fill; intro X
  conv in (occs := *) pieceBody => all_goals whnf
  conv in (occs := *) lawScope => all_goals whnf
  k_steps
  all_goals try (exfalso; omega)
  rename Fr _ _ _ _ => F5
  rename News _ _ _ _ => N5
  rename _ < _ ∧ _ < _ ∧ _ < _ ∧ _ < _ ∧ AllLt _ _ => l5
  rename _ < _ ∧ _ < _ ∧ _ < _ ∧ AllLt _ _ => l4
  rename _ < _ ∧ _ < _ ∧ AllLt _ _ => l3
  rw [List.push_toArray] at N5
  refine hret _ _ _ _ _ _ _ _ _ _ _ _ _ _ _ _ _ _ _ (fun y hy => ?_) F5 (piece_end N5) ⟨l5.2.2.2.1, l3.2.1, l4.2.2.1⟩ l5.2.2.2.2 l3.2.2 l4.2.2.2
  simp only [pieceNames, List.contains_cons, List.contains_nil, Bool.or_false, Bool.or_eq_false_iff, beq_eq_false_iff_ne, ne_eq] at hy
  obtain ⟨a1, a2, a3⟩ := hy
  simp only [if_neg a1, if_neg a2, if_neg a3]
end
end
theorem c_idmE' {w : World} {dp un : Nat} {gd : Option (List Code)} {cn : Str} {cs : Scope} {a : Addr} {ccd : Value} {cl : List (Str × Addr)} {outer : List Env} {A₀ : Around} {base h₀ : Heap} {L : Addr} {m : Str → Option Value} {news : List (Addr × Obj)} {s : Shared}
  {Q E : Value → Shared → Prop} {p : Program} {loose : List Str} {mean : ExcName → Option Value} {mg mb : Str → Option Value} {x b : Int} {t1 t2 : Tok} {x1 : Addr × Obj}
  (B : Below A₀ base outer h₀) (F : Fr h₀ L s.heap m) (X : (hd.heap_39 w.params).In h₀) (N : News h₀ L s.heap (x1 :: (30, tabObj #[]) :: (37, tabObj #[]) :: news)) (T : Top p loose mean mg mb h₀) (hk : cs.kind = .function)
  (hch1 : CodeHd base 34 30) (hch2 : CodeHd base 41 37) (hn30 : ∀ q ∈ x1 :: news, q.1 ≠ 30) (hn37 : ∀ q ∈ x1 :: news, q.1 ≠ 37)
  (b1 : 0 ≤ x) (b2 : x < 256) (b3 : 0 < b) (b4 : b < 64)
  (hd : dp + 80 < recursionLimit) (hu : un + 700 < cLine)
  (hret : ∀ (t c1 c2 : Addr) (o1 o2 : Obj) (v1 v2 : Array Value) (u1 u2 : Tok) (u v : Tok) (k : Nat) (h' : Heap) (tk' : Nat), Fr h₀ L h' m → News h₀ L h' ((t, { cls := .type "tuple", data := .seq #[.int (x / b) u, .int (x % b) v] k }) :: (30, tabObj #[rawInt 32, rawInt 4, .ref c1]) :: (c1, o1) :: (37, tabObj #[rawInt 47, rawInt 4, .ref c2]) :: (c2, o2) :: x1 :: news) → AllLt t ((30, tabObj #[rawInt 32, rawInt 4, .ref c1]) :: (c1, o1) :: (37, tabObj #[rawInt 47, rawInt 4, .ref c2]) :: (c2, o2) :: x1 :: news) → o1.data = .fields v1 → v1[1]? = some (.str (Str.ofString "_int2digits.<locals>.inner") u1) → o2.data = .fields v2 → v2[1]? = some (.str (Str.ofString "_digits2int.<locals>.inner") u2) → @LT.lt Nat _ 37 c1 → @LT.lt Nat _ 37 c2 → AllLt c1 (x1 :: news) → AllLt c2 (x1 :: news) → Q (.ref t) { s with heap := h', toks := tk' }) :
  wpAny (model Challenge.rw_pe0195_01.row.prog w) (ktrTop dp un gd cn cs L a ccd cl outer) (call (.ref 56) [.int x t1, .int b t2]) Q E s :=
  c_idmE (news := x1 :: news) B F X (cb_drop N fun q hq => by
    rcases List.mem_cons.mp hq with rfl | hq
    · exact .tail _ (.head _)
    · rcases List.mem_cons.mp hq with rfl | hq
      · exact .tail _ (.tail _ (.head _))
      · rcases List.mem_cons.mp hq with rfl | hq
        · exact .head _
        · exact .tail _ (.tail _ (.tail _ hq))) T hk hch1 hch2 hn30 hn37 b1 b2 b3 b4 hd hu hret
section
variable {w : World} {dp un : Nat} {gd : Option (List Code)} {cn : Str} {a : Addr} {ccd : Value} {outer : List Env} {A₀ : Around} {base h₀ : Heap} {L : Addr} {m : Str → Option Value} {news : List (Addr × Obj)} {s : Shared}
  {Q : Flow → Shared → Prop} {E : Value → Shared → Prop} {p : Program} {loose : List Str} {mean : ExcName → Option Value} {mg mb : Str → Option Value}
section
theorem piece_E {n d : Int} {tn td : Tok} {pc : Addr} {l : List Value} {k : Nat}
  (B : Below A₀ base outer h₀) (F : Fr h₀ L s.heap m) (X : (hd.heap_39 w.params).In h₀) (N : News h₀ L s.heap ((pc, listOf l.toArray k) :: (30, tabObj #[]) :: (37, tabObj #[]) :: news)) (T : Top p loose mean mg mb h₀)
  (e1 : m (nm "n") = some (.int n tn)) (e2 : m (nm "d") = some (.int d td)) (e3 : m (nm "pieces") = some (.ref pc))
  (hpc : ∀ q ∈ news, q.1 ≠ pc) (hl : l.length ≤ 8) (g1 : @LT.lt Nat _ 37 pc) (g2 : ∀ q ∈ news, @LT.lt Nat _ 37 q.1)
  (b1 : 0 < n) (b2 : n < d) (b3 : d ≤ 16) (i1 : 0 < ((odds (d / 2).toNat).foldl (invG n d) []).length) (i2 : 0 < inv n d) (i3 : inv n d < d) (i4 : n * inv n d % d = 1) (i5 : 0 ≤ n * inv n d) (i6 : n * inv n d < 256)
  (hch1 : CodeHd base 34 30) (hch2 : CodeHd base 41 37)
  (hd : dp + 120 < recursionLimit) (hu : un + 1000 < cLine)
  (hret : ∀ (t e sp f1 f2 : Addr) (o1 o2 : Obj) (k0 k1 k2 k3 : Nat) (tw a1 a2 a3 a4 c1 c2 c3 c4 : Tok) (m' : Str → Option Value) (h' : Heap) (tk' : Nat), (∀ y, pieceNames.contains y = false → m' y = m y) → Fr h₀ L h' m' →
    News h₀ L h' ((pc, listOf (l ++ [Value.ref t]).toArray k0) :: (t, tup #[.str (txt (wayL 64 n (d - n))) tw, .ref e, .ref sp] k1) :: (e, tup #[.int (n * inv n d / d) a1, .int (inv n d) a2, .int (n - n * inv n d / d) a3, .int (d - inv n d) a4] k2) :: (sp, tup #[.int (n * inv n d / d) c1, .int n c2, .int (inv n d - n * inv n d / d) c3, .int (d - n) c4] k3) ::
      (30, tabObj #[rawInt 32, rawInt 4, .ref f1]) :: (f1, o1) :: (37, tabObj #[rawInt 47, rawInt 4, .ref f2]) :: (f2, o2) :: news) →
    HitT [(30, tabObj #[rawInt 32, rawInt 4, .ref f1]), (f1, o1), (37, tabObj #[rawInt 47, rawInt 4, .ref f2]), (f2, o2)] →
    (@LT.lt Nat _ pc t ∧ @LT.lt Nat _ pc e ∧ @LT.lt Nat _ pc sp ∧ @LT.lt Nat _ pc f1 ∧ @LT.lt Nat _ pc f2) → (@LT.lt Nat _ f1 t ∧ @LT.lt Nat _ f1 e ∧ @LT.lt Nat _ f1 sp ∧ @LT.lt Nat _ f2 t ∧ @LT.lt Nat _ f2 e ∧ @LT.lt Nat _ f2 sp) → AllLt t news → AllLt e news → AllLt sp news → AllLt f1 news → AllLt f2 news → Q .next { s with heap := h', toks := tk' }) :
  wpAny (model Challenge.rw_pe0195_01.row.prog w) (ktrTop dp un gd cn lawScope L a ccd [] outer) (execs pieceBody (envX cn lawScope L a ccd [])) Q E s := by
  w_top off
  k_with_none
  (k_with "eval Name" => (k_here; k_dflt (refine' nameX_L ?zqk1 ?zqk2 ?_ ?zqk3 ?zqk4 ?zqk5; (case zqk3 => rfl); (case zqk4 => rfl); (case zqk5 => decide); (case zqk1 => k_asm); (case zqk2 => assumption); k_whole)))
  (k_with "execs cons" => (k_here; (with_reducible refine wpAny_execs_cons ?_); try dsimp only))
  (k_with "execs nil" => (k_here; (with_reducible refine wpAny_execs_nil ?_); try dsimp only))
  (k_with "call builtin:list.append" => (k_here; k_dflt (refine' append_K ?zqk1 ?zqk2 ?zqk3 ?_ ?zqz; (case zqk1 => k_asm); (case zqk2 => k_asm); (case zqk3 => k_upd); (case zqz => exact app_fit (by assumption)); k_whole); intro h' F' N'))
  (k_with "call ref" => (k_here; (with_reducible show wpAny _ _ (call (Value.ref 96) _) _ _ _); k_dflt (refine' c_inv ?zqk1 ?zqk2 ?zqk3 ?zqk4 ?zqk5 ?zqkK ?zqb1 ?zqb2 ?zqb3 ?zqhd ?zqhu ?zqne ?_; (case zqk2 => k_asm); (case zqk4 => k_asm); (case zqk1 => k_asm); (case zqk3 => k_asm); (case zqk5 => k_asm); (case zqkK => exact rfl); (case zqb1 => omega); (case zqb2 => omega); (case zqb3 => omega); (case zqne => assumption); (case zqhd => first | exact room1 (by assumption) (by decide) | exact room0 (by assumption) (by decide) | ktr_room); (case zqhu => first | exact room1 (by assumption) (by decide) | exact room0 (by assumption) (by decide) | ktr_units)); intro t9 h9 tk9 F9 N9))
  (k_with "call ref" => (k_here; (with_reducible show wpAny _ _ (call (Value.ref 56) _) _ _ _); k_dflt (refine' c_idmE' ?zqk1 ?zqk2 ?zqk3 ?zqk4 ?zqk5 ?zqkK ?zqc1 ?zqc2 ?zqn1 ?zqn2 ?zqb1 ?zqb2 ?zqb3 ?zqb4 ?zqhd ?zqhu ?_; (case zqk2 => k_asm); (case zqk4 => k_asm); (case zqk1 => k_asm); (case zqk3 => k_asm); (case zqk5 => k_asm); (case zqkK => exact rfl); (case zqc1 => assumption); (case zqc2 => assumption); (case zqn1 => assumption); (case zqn2 => assumption); (case zqb1 => assumption); (case zqb2 => assumption); (case zqb3 => omega); (case zqb4 => omega); (case zqhd => first | exact room1 (by assumption) (by decide) | exact room0 (by assumption) (by decide) | ktr_room); (case zqhu => first | exact room1 (by assumption) (by decide) | exact room0 (by assumption) (by decide) | ktr_units)); intro t9 c9 e9 o9 p9 v9 w9 u9 x9 y9 z9 k9 h9 tk9 F9 N9 l9 i1 i2 i3 i4 i5 i6 i7 i8; (try simp only [AllLt, and_true] at i7 i8); (try simp only [AllLt, and_true] at l9)))
  (k_with "call ref" => (k_here; (with_reducible show wpAny _ _ (call (Value.ref 84) _) _ _ _); k_dflt (refine' c_way ?zqhT ?zqk1 ?zqk2 ?zqk3 ?zqk4 ?zqk5 ?zqkK ?zqc1 ?zqc2 ?zqb1 ?zqb2 ?zqb3 ?zqhd ?zqhu ?_; (case zqk2 => k_asm); (case zqk4 => k_asm); (case zqk1 => k_asm); (case zqk3 => k_asm); (case zqk5 => k_asm); (case zqkK => exact rfl); (case zqhT => repeat (first | assumption | exact hitT_here (by assumption) (by assumption) (by assumption) (by assumption) (by assumption) (by assumption) | refine HitT.cons ?_)); (case zqc1 => assumption); (case zqc2 => assumption); (case zqb1 => omega); (case zqb2 => omega); (case zqb3 => omega); (case zqhd => first | exact room1 (by assumption) (by decide) | exact room0 (by assumption) (by decide) | ktr_room); (case zqhu => first | exact room1 (by assumption) (by decide) | exact room0 (by assumption) (by decide) | ktr_units)); intro t9 h9 tk9 F9 N9))
  revert X; k_fill; intro X
  have hn30 : ∀ q ∈ (pc, listOf l.toArray k) :: news, q.1 ≠ 30 := List.forall_mem_cons.mpr ⟨Nat.ne_of_gt (Nat.lt_trans (by decide) g1), fun q hq => Nat.ne_of_gt (Nat.lt_trans (by decide) (g2 q hq))⟩
  have hn37 : ∀ q ∈ (pc, listOf l.toArray k) :: news, q.1 ≠ 37 := List.forall_mem_cons.mpr ⟨Nat.ne_of_gt g1, fun q hq => Nat.ne_of_gt (g2 q hq)⟩
  conv in (occs := *) pieceBody => all_goals whnf
  conv in (occs := *) lawScope => all_goals whnf
  k_steps
  all_goals try (exfalso; omega)
  rename Fr _ _ _ _ => F5
  rename News _ _ _ _ => N5
  rename _ < _ ∧ _ < _ ∧ _ < _ ∧ _ < _ ∧ _ < _ ∧ _ < _ ∧ _ < _ ∧ _ < _ ∧ AllLt _ _ => l5
  rename _ < _ ∧ _ < _ ∧ _ < _ ∧ _ < _ ∧ _ < _ ∧ _ < _ ∧ _ < _ ∧ AllLt _ _ => l4
  rename _ < _ ∧ _ < _ ∧ _ < _ ∧ _ < _ ∧ _ < _ ∧ _ < _ ∧ AllLt _ _ => l3
  rename _ < _ ∧ AllLt _ _ => j2
  obtain ⟨j2, j3⟩ := j2
  rename _ < _ ∧ AllLt _ _ => j1
  rw [List.push_toArray] at N5
  refine hret _ _ _ _ _ _ _ _ _ _ _ _ _ _ _ _ _ _ _ _ _ _ _ (fun y hy => ?_) F5 (piece_endE N5) (hitT_here (by assumption) (by assumption) (by assumption) (by assumption) (by assumption) (by assumption)) ⟨by omega, by omega, by omega, j1.1, j2⟩ ⟨by omega, by omega, by omega, by omega, by omega, by omega⟩ l5.2.2.2.2.2.2.2.2 l3.2.2.2.2.2.2 l4.2.2.2.2.2.2.2 j1.2 j3
  simp only [pieceNames, List.contains_cons, List.contains_nil, Bool.or_false, Bool.or_eq_false_iff, beq_eq_false_iff_ne, ne_eq] at hy
  obtain ⟨a1, a2, a3⟩ := hy
  simp only [if_neg a1, if_neg a2, if_neg a3]
end
end

set_option maxHeartbeats 2000000
def lst (i : Nat) : Stmt := (fnBody lawDef).getD i default
theorem pcsLoop_is : lst 5 = .For (loopTarget (lst 5)) (loopIter (lst 5)) pieceBody [] (loopPos (lst 5)) := rfl
theorem pull6 {h₀ h : Heap} {L : Addr} {x1 x2 x3 x4 x5 x6 a b c : Addr × Obj} {d : List (Addr × Obj)} (N : News h₀ L h (x1 :: x2 :: x3 :: x4 :: x5 :: x6 :: a :: b :: c :: d)) : News h₀ L h (a :: b :: c :: x1 :: x2 :: x3 :: x4 :: x5 :: x6 :: d) := cb_drop N fun q hq => by
  simp only [List.mem_cons] at hq ⊢
  rcases hq with h | h | h | h | h | h | h | h | h | h <;> simp [h]
theorem swap2 {h₀ h : Heap} {L : Addr} {x a : Addr × Obj} {d : List (Addr × Obj)} (N : News h₀ L h (x :: a :: d)) : News h₀ L h (a :: x :: d) := cb_drop N fun q hq => by
  simp only [List.mem_cons] at hq ⊢
  rcases hq with h | h | h <;> simp [h]
/-- what is to be known of a piece -/
structure PieceOk (n d : Int) : Prop where
  b1 : 0 < n
  b2 : n < d
  b3 : d ≤ 16
  i1 : 0 < ((odds (d / 2).toNat).foldl (invG n d) []).length
  i2 : 0 < inv n d
  i3 : inv n d < d
  i4 : n * inv n d % d = 1
  i5 : 0 ≤ n * inv n d
  i6 : n * inv n d < 256
def pick4 {α : Type} (i : Nat) (a b c d : α) : α := match i with
  | 0 => a
  | 1 => b
  | 2 => c
  | _ => d
def pn (x : Int) (i : Nat) : Int := pick4 i 1 1 3 x
def pd (i : Nat) : Int := pick4 i 2 4 8 16
def pel (n d : Int) (j : Nat) : Int := pick4 j (n * inv n d / d) (inv n d) (n - n * inv n d / d) (d - inv n d)
def psn (n d : Int) (j : Nat) : Int := pick4 j (n * inv n d / d) n (inv n d - n * inv n d / d) (d - n)
def pwy (n d : Int) : Str := txt (wayL 64 n (d - n))
abbrev mkD (x : Int) (t e sp : Nat → Addr) (tw : Nat → Tok) (te ts : Nat → Nat → Tok) (k1 k2 k3 : Nat → Nat) : Pc :=
  { t := t, e := e, sp := sp, wy := fun i => pwy (pn x i) (pd i), tw := tw, el := fun i => pel (pn x i) (pd i), sn := fun i => psn (pn x i) (pd i), te := te, ts := ts, k1 := k1, k2 := k2, k3 := k3 }
theorem case4 {P : Nat → Prop} (h0 : P 0) (h1 : P 1) (h2 : P 2) (h3 : P 3) : ∀ i, i < 4 → P i
  | 0, _ => h0
  | 1, _ => h1
  | 2, _ => h2
  | 3, _ => h3
  | n + 4, h => absurd h (by omega)
theorem turn_S {h₀ h : Heap} {L : Addr} {x1 x2 x3 x4 : Addr × Obj} {d : List (Addr × Obj)} (N : News h₀ L h (x1 :: x2 :: x3 :: x4 :: d)) : News h₀ L h (x2 :: x3 :: x4 :: x1 :: d) := cb_drop N fun q hq => by
  simp only [List.mem_cons] at hq ⊢
  rcases hq with h | h | h | h | h <;> simp [h]
theorem turn_NE {h₀ h : Heap} {L : Addr} {x1 x2 x3 x4 x5 x6 x7 x8 y : Addr × Obj} {d : List (Addr × Obj)} (N : News h₀ L h (x1 :: x2 :: x3 :: x4 :: x5 :: x6 :: x7 :: x8 :: y :: d)) : News h₀ L h ([y] ++ (x1 :: x2 :: x3 :: x4 :: x5 :: x6 :: x7 :: x8 :: d)) := cb_drop N fun q hq => by
  simp only [List.singleton_append, List.mem_cons] at hq ⊢
  rcases hq with h | h | h | h | h | h | h | h | h | h <;> simp [h]
theorem turn_N {h₀ h : Heap} {L : Addr} {x1 x2 x3 x4 x5 : Addr × Obj} {d : List (Addr × Obj)} (N : News h₀ L h (x1 :: x2 :: x3 :: x4 :: x5 :: d)) : News h₀ L h ([x5] ++ (x1 :: x2 :: x3 :: x4 :: d)) := cb_drop N fun q hq => by
  simp only [List.singleton_append, List.mem_cons] at hq ⊢
  rcases hq with h | h | h | h | h | h <;> simp [h]
def pcsNames : List Str := [nm "n", nm "d", nm "m", nm "quotient", nm "one"]
theorem pcs_ne {y : Str} (h : pcsNames.contains y = false) : y ≠ nm "d" ∧ y ≠ nm "n" ∧ pieceNames.contains y = false := by
  simp only [pcsNames, pieceNames, List.contains_cons, List.contains_nil, Bool.or_false, Bool.or_eq_false_iff, beq_eq_false_iff_ne, ne_eq] at h ⊢
  exact ⟨h.2.1, h.1, h.2.2⟩
section
variable {w : World} {dp un : Nat} {gd : Option (List Code)} {cn : Str} {a : Addr} {ccd : Value} {outer : List Env} {A₀ : Around} {base h₀ : Heap} {L : Addr} {m : Str → Option Value} {news : List (Addr × Obj)} {s : Shared}
  {Q : Flow → Shared → Prop} {E : Value → Shared → Prop} {p : Program} {loose : List Str} {mean : ExcName → Option Value} {mg mb : Str → Option Value}
section
abbrev lawA (dp un : Nat) (gd : Option (List Code)) (cn : Str) (L a : Addr) (ccd : Value) (outer : List Env) : Around := ktrTop dp un gd cn lawScope L a ccd [] outer
abbrev lawEnv (cn : Str) (L a : Addr) (ccd : Value) : Env := envX cn lawScope L a ccd []
/-- what is left of the pieces loop -/
abbrev PcsRest (w : World) (dp un : Nat) (gd : Option (List Code)) (cn : Str) (a : Addr) (ccd : Value) (outer : List Env) (h₀ : Heap) (L : Addr) (s : Shared) (Q : Flow → Shared → Prop) (E : Value → Shared → Prop) (I ax : Addr) (lo : Obj) (r : List Itm) (m : Str → Option Value) (news : List (Addr × Obj)) : Prop :=
  ItemsRest Challenge.rw_pe0195_01.row.prog w (lawA dp un gd cn L a ccd outer) E h₀ (lawEnv cn L a ccd) (loopTarget (lst 5)) pieceBody Q s [(I, "list_iterator")] [(ax, lo)] r m news
theorem turn_H {n d : Int} {tn td : Tok} {pc I ax tp : Addr} {lo : Obj} {l : List Value} {k kt : Nat} {rest : List (Addr × Obj)} {r : List Itm}
  (B : Below A₀ base outer h₀) (X : (hd.heap_39 w.params).In h₀) (T : Top p loose mean mg mb h₀)
  (hax : (ax, lo) ∈ rest) (htp : (tp, tup #[.int n tn, .int d td] kt) ∈ rest) (e3 : m (nm "pieces") = some (.ref pc))
  (hpc : ∀ q ∈ rest, q.1 ≠ pc) (hI : ∀ q ∈ rest, q.1 ≠ I) (hIp : I ≠ pc) (hl : l.length ≤ 8) (ok : PieceOk n d)
  (hT : HitT rest) (hch1 : CodeHd base 34 30) (hch2 : CodeHd base 41 37)
  (hd : dp + 120 < recursionLimit) (hu : un + 1000 < cLine)
  (cont : ∀ (t e sp : Addr) (k0 k1 k2 k3 : Nat) (tw a1 a2 a3 a4 c1 c2 c3 c4 : Tok) (m' : Str → Option Value), (∀ y, pcsNames.contains y = false → m' y = m y) →
    (∀ q ∈ (t, tup #[.str (pwy n d) tw, .ref e, .ref sp] k1) :: (e, tup #[.int (pel n d 0) a1, .int (pel n d 1) a2, .int (pel n d 2) a3, .int (pel n d 3) a4] k2) :: (sp, tup #[.int (psn n d 0) c1, .int (psn n d 1) c2, .int (psn n d 2) c3, .int (psn n d 3) c4] k3) :: rest, q.1 ≠ pc ∧ q.1 ≠ I) →
    PcsRest w dp un gd cn a ccd outer h₀ L s Q E I ax lo r m' ((pc, listOf (l ++ [Value.ref t]).toArray k0) :: (t, tup #[.str (pwy n d) tw, .ref e, .ref sp] k1) :: (e, tup #[.int (pel n d 0) a1, .int (pel n d 1) a2, .int (pel n d 2) a3, .int (pel n d 3) a4] k2) :: (sp, tup #[.int (psn n d 0) c1, .int (psn n d 1) c2, .int (psn n d 2) c3, .int (psn n d 3) c4] k3) :: rest)) :
  PcsRest w dp un gd cn a ccd outer h₀ L s Q E I ax lo (.val (.ref tp) :: r) m ((pc, listOf l.toArray k) :: rest) := by
  w_top off
  k_with_none
  (k_with "eval Name" => (k_here; k_dflt (refine' nameX_L ?zqk1 ?zqk2 ?_ ?zqk3 ?zqk4 ?zqk5; (case zqk3 => rfl); (case zqk4 => rfl); (case zqk5 => decide); (case zqk1 => k_asm); (case zqk2 => assumption); k_whole)))
  (k_with "execs cons" => (k_here; (with_reducible refine wpAny_execs_cons ?_); try dsimp only))
  (k_with "execs nil" => (k_here; (with_reducible refine wpAny_execs_nil ?_); try dsimp only))
  (k_with "execs" => (k_here; (with_reducible show wpAny _ _ (execs pieceBody _) _ _ _); refine stopAt ?_))
  refine ItemsRest.val fun h tk F' => AllObj.cons fun o _ => AllObj.nil ?_
  intro N'
  have hTup := News.isTup N' (List.Mem.tail _ (List.Mem.tail _ htp))
  have hI2 : ∀ q ∈ (I, o) :: rest, q.1 ≠ pc := List.forall_mem_cons.mpr ⟨hIp, hpc⟩
  have hT2 : HitT ((I, o) :: rest) := hT.cons
  unfold lawA lawEnv
  conv in (occs := *) loopTarget _ => all_goals whnf
  revert X; k_fill; intro X
  conv in (occs := *) lawScope => all_goals whnf
  k_steps
  unfold Stop
  rename Fr _ _ _ _ => F2
  rename News _ _ _ _ => N2
  refine piece_H (n := n) (d := d) (l := l) (news := (I, o) :: rest) B F2 X (swap2 N2) T rfl rfl e3 hI2 hl ok.b1 ok.b2 ok.b3 ok.i1 ok.i2 ok.i3 ok.i4 ok.i5 ok.i6 hT2 hch1 hch2 hd hu ?_
  intro t e sp k0 k1 k2 k3 tw a1 a2 a3 a4 c1 c2 c3 c4 m' h' tk' hj F3 N3 r1 r2 r3 r4
  refine ⟨h', tk', m', _, rfl, F3, turn_N N3, fun q hq q' hq' => ?_, ⟨List.Mem.tail _ (List.Mem.tail _ (List.Mem.tail _ (List.Mem.tail _ hax))), trivial⟩, cont t e sp k0 k1 k2 k3 tw a1 a2 a3 a4 c1 c2 c3 c4 m' (fun y hy => ?_) (fun q hq => ?_)⟩
  · rw [List.mem_singleton.mp hq']
    rcases List.mem_cons.mp hq with rfl | hq
    · exact Ne.symm hIp
    · rcases List.mem_cons.mp hq with rfl | hq
      · exact Nat.ne_of_gt r2.1
      · rcases List.mem_cons.mp hq with rfl | hq
        · exact Nat.ne_of_gt r3.1
        · rcases List.mem_cons.mp hq with rfl | hq
          · exact Nat.ne_of_gt r4.1
          · exact hI q hq
  · obtain ⟨y1, y2, y3⟩ := pcs_ne hy
    rw [hj y y3]
    exact (if_neg y1).trans (if_neg y2)
  · rcases List.mem_cons.mp hq with rfl | hq
    · exact ⟨Nat.ne_of_gt r1.1, Nat.ne_of_gt r2.1⟩
    · rcases List.mem_cons.mp hq with rfl | hq
      · exact ⟨Nat.ne_of_gt r1.2.1, Nat.ne_of_gt r3.1⟩
      · rcases List.mem_cons.mp hq with rfl | hq
        · exact ⟨Nat.ne_of_gt r1.2.2, Nat.ne_of_gt r4.1⟩
        · exact ⟨hpc q hq, hI q hq⟩
theorem turn_E {n d : Int} {tn td : Tok} {pc I ax tp : Addr} {lo : Obj} {l : List Value} {k kt : Nat} {rest : List (Addr × Obj)} {r : List Itm}
  (B : Below A₀ base outer h₀) (X : (hd.heap_39 w.params).In h₀) (T : Top p loose mean mg mb h₀)
  (hax : (ax, lo) ∈ rest) (htp : (tp, tup #[.int n tn, .int d td] kt) ∈ rest) (e3 : m (nm "pieces") = some (.ref pc))
  (hpc : ∀ q ∈ rest, q.1 ≠ pc) (hI : ∀ q ∈ rest, q.1 ≠ I) (hIp : I ≠ pc) (g1 : @LT.lt Nat _ 37 pc) (g2 : ∀ q ∈ rest, @LT.lt Nat _ 37 q.1) (g3 : @LT.lt Nat _ 37 I) (hl : l.length ≤ 8) (ok : PieceOk n d)
  (hch1 : CodeHd base 34 30) (hch2 : CodeHd base 41 37)
  (hd : dp + 120 < recursionLimit) (hu : un + 1000 < cLine)
  (cont : ∀ (t e sp : Addr) (k0 k1 k2 k3 : Nat) (tw a1 a2 a3 a4 c1 c2 c3 c4 : Tok) (m' : Str → Option Value) (rest' : List (Addr × Obj)), (∀ y, pcsNames.contains y = false → m' y = m y) → (∀ q ∈ rest, q ∈ rest') → HitT rest' →
    (∀ q ∈ (t, tup #[.str (pwy n d) tw, .ref e, .ref sp] k1) :: (e, tup #[.int (pel n d 0) a1, .int (pel n d 1) a2, .int (pel n d 2) a3, .int (pel n d 3) a4] k2) :: (sp, tup #[.int (psn n d 0) c1, .int (psn n d 1) c2, .int (psn n d 2) c3, .int (psn n d 3) c4] k3) :: rest', q.1 ≠ pc ∧ q.1 ≠ I) →
    PcsRest w dp un gd cn a ccd outer h₀ L s Q E I ax lo r m' ((pc, listOf (l ++ [Value.ref t]).toArray k0) :: (t, tup #[.str (pwy n d) tw, .ref e, .ref sp] k1) :: (e, tup #[.int (pel n d 0) a1, .int (pel n d 1) a2, .int (pel n d 2) a3, .int (pel n d 3) a4] k2) :: (sp, tup #[.int (psn n d 0) c1, .int (psn n d 1) c2, .int (psn n d 2) c3, .int (psn n d 3) c4] k3) :: rest')) :
  PcsRest w dp un gd cn a ccd outer h₀ L s Q E I ax lo (.val (.ref tp) :: r) m ((pc, listOf l.toArray k) :: (30, tabObj #[]) :: (37, tabObj #[]) :: rest) := by
  w_top off
  k_with_none
  (k_with "eval Name" => (k_here; k_dflt (refine' nameX_L ?zqk1 ?zqk2 ?_ ?zqk3 ?zqk4 ?zqk5; (case zqk3 => rfl); (case zqk4 => rfl); (case zqk5 => decide); (case zqk1 => k_asm); (case zqk2 => assumption); k_whole)))
  (k_with "execs cons" => (k_here; (with_reducible refine wpAny_execs_cons ?_); try dsimp only))
  (k_with "execs nil" => (k_here; (with_reducible refine wpAny_execs_nil ?_); try dsimp only))
  (k_with "execs" => (k_here; (with_reducible show wpAny _ _ (execs pieceBody _) _ _ _); refine stopAt ?_))
  refine ItemsRest.val fun h tk F' => AllObj.cons fun o _ => AllObj.nil ?_
  intro N'
  have hTup := News.isTup N' (List.Mem.tail _ (List.Mem.tail _ (List.Mem.tail _ (List.Mem.tail _ htp))))
  have hI2 : ∀ q ∈ (I, o) :: rest, q.1 ≠ pc := List.forall_mem_cons.mpr ⟨hIp, hpc⟩
  have g4 : ∀ q ∈ (I, o) :: rest, @LT.lt Nat _ 37 q.1 := List.forall_mem_cons.mpr ⟨g3, g2⟩
  unfold lawA lawEnv
  conv in (occs := *) loopTarget _ => all_goals whnf
  revert X; k_fill; intro X
  conv in (occs := *) lawScope => all_goals whnf
  k_steps
  unfold Stop
  rename Fr _ _ _ _ => F2
  rename News _ _ _ _ => N2
  refine piece_E (n := n) (d := d) (l := l) (news := (I, o) :: rest) B F2 X (turn_S N2) T rfl rfl e3 hI2 hl g1 g4 ok.b1 ok.b2 ok.b3 ok.i1 ok.i2 ok.i3 ok.i4 ok.i5 ok.i6 hch1 hch2 hd hu ?_
  intro t e sp f1 f2 o1 o2 k0 k1 k2 k3 tw a1 a2 a3 a4 c1 c2 c3 c4 m' h' tk' hj F3 N3 hT r1 r2 r3 r4 r5 r6 r7
  have i30 : I ≠ 30 := Nat.ne_of_gt (Nat.lt_trans (by decide) g3)
  have i37 : I ≠ 37 := Nat.ne_of_gt g3
  have p30 : pc ≠ 30 := Nat.ne_of_gt (Nat.lt_trans (by decide) g1)
  have p37 : pc ≠ 37 := Nat.ne_of_gt g1
  have all : ∀ q ∈ (t, tup #[.str (pwy n d) tw, .ref e, .ref sp] k1) :: (e, tup #[.int (pel n d 0) a1, .int (pel n d 1) a2, .int (pel n d 2) a3, .int (pel n d 3) a4] k2) :: (sp, tup #[.int (psn n d 0) c1, .int (psn n d 1) c2, .int (psn n d 2) c3, .int (psn n d 3) c4] k3) ::
      (30, tabObj #[rawInt 32, rawInt 4, .ref f1]) :: (f1, o1) :: (37, tabObj #[rawInt 47, rawInt 4, .ref f2]) :: (f2, o2) :: rest, q.1 ≠ pc ∧ q.1 ≠ I := by
    intro q hq
    simp only [List.mem_cons] at hq
    rcases hq with h | h | h | h | h | h | h | h
    · subst h; exact ⟨Nat.ne_of_gt r1.1, Nat.ne_of_gt r3.1⟩
    · subst h; exact ⟨Nat.ne_of_gt r1.2.1, Nat.ne_of_gt r4.1⟩
    · subst h; exact ⟨Nat.ne_of_gt r1.2.2.1, Nat.ne_of_gt r5.1⟩
    · subst h; exact ⟨Ne.symm p30, Ne.symm i30⟩
    · subst h; exact ⟨Nat.ne_of_gt r1.2.2.2.1, Nat.ne_of_gt r6.1⟩
    · subst h; exact ⟨Ne.symm p37, Ne.symm i37⟩
    · subst h; exact ⟨Nat.ne_of_gt r1.2.2.2.2, Nat.ne_of_gt r7.1⟩
    · exact ⟨hpc q h, hI q h⟩
  refine ⟨h', tk', m', _, rfl, F3, turn_NE N3, fun q hq q' hq' => ?_, ⟨by repeat (first | exact hax | apply List.Mem.tail), trivial⟩, cont t e sp k0 k1 k2 k3 tw a1 a2 a3 a4 c1 c2 c3 c4 m' _ (fun y hy => ?_) (fun q hq => by repeat (first | exact hq | apply List.Mem.tail)) ?_ all⟩
  · rw [List.mem_singleton.mp hq']
    rcases List.mem_cons.mp hq with rfl | hq
    · exact Ne.symm hIp
    · exact (all q hq).2
  · obtain ⟨y1, y2, y3⟩ := pcs_ne hy
    rw [hj y y3]
    exact (if_neg y1).trans (if_neg y2)
  · exact hT.mono fun q hq => by
      simp only [List.mem_cons, List.not_mem_nil, or_false] at hq ⊢
      rcases hq with h | h | h | h <;> simp [h]
theorem pieceOk_a : PieceOk 1 2 := ⟨by decide, by decide, by decide, by decide +kernel, by decide +kernel, by decide +kernel, by decide +kernel, by decide +kernel, by decide +kernel⟩
theorem pieceOk_b : PieceOk 1 4 := ⟨by decide, by decide, by decide, by decide +kernel, by decide +kernel, by decide +kernel, by decide +kernel, by decide +kernel, by decide +kernel⟩
theorem pieceOk_c : PieceOk 3 8 := ⟨by decide, by decide, by decide, by decide +kernel, by decide +kernel, by decide +kernel, by decide +kernel, by decide +kernel, by decide +kernel⟩
theorem pcs_turns {nu pc ax d1 d2 d3 d4 : Addr} {k kn ka q1 q2 q3 q4 : Nat} {x n0 n1 n2 n3 n4 : Int} {u0 u1 u2 u3 u4 v1 v2 v3 v4 v5 v6 v7 v8 : Tok}
  (B : Below A₀ base outer h₀) (F : Fr h₀ L s.heap m) (X : (hd.heap_39 w.params).In h₀)
  (N : News h₀ L s.heap [(ax, listOf #[.ref d1, .ref d2, .ref d3, .ref d4] ka), (d4, tup #[.int x v7, .int 16 v8] q4), (d3, tup #[.int 3 v5, .int 8 v6] q3), (d2, tup #[.int 1 v3, .int 4 v4] q2), (d1, tup #[.int 1 v1, .int 2 v2] q1), (pc, listOf #[] k), (30, tabObj #[]), (37, tabObj #[]), (nu, listOf #[.int n0 u0, .int n1 u1, .int n2 u2, .int n3 u3, .int n4 u4] kn)]) (T : Top p loose mean mg mb h₀)
  (e3 : m (nm "pieces") = some (.ref pc)) (g1 : @LT.lt Nat _ 37 nu) (g2 : @LT.lt Nat _ nu pc) (h1 : @LT.lt Nat _ pc d1) (h2 : @LT.lt Nat _ pc d2) (h3 : @LT.lt Nat _ pc d3) (h4 : @LT.lt Nat _ pc d4) (h5 : @LT.lt Nat _ pc ax)
  (px : PieceOk x 16) (hch1 : CodeHd base 34 30) (hch2 : CodeHd base 41 37)
  (hd : dp + 120 < recursionLimit) (hu : un + 1000 < cLine)
  (hret : ∀ (t e sp : Nat → Addr) (tw : Nat → Tok) (te ts : Nat → Nat → Tok) (k1 k2 k3 : Nat → Nat) (kp : Nat) (news' : List (Addr × Obj)) (m' : Str → Option Value) (h' : Heap) (tk' : Nat), (∀ y, pcsNames.contains y = false → m' y = m y) → Fr h₀ L h' m' → News h₀ L h' news' →
    PcIn (mkD x t e sp tw te ts k1 k2 k3) pc kp news' → HitT news' → (nu, listOf #[.int n0 u0, .int n1 u1, .int n2 u2, .int n3 u3, .int n4 u4] kn) ∈ news' → Q .next { s with heap := h', toks := tk' }) :
  wpAny (model Challenge.rw_pe0195_01.row.prog w) (lawA dp un gd cn L a ccd outer) (pyIter (.ref ax)) (fun it s₂ => TurnsAt Challenge.rw_pe0195_01.row.prog w (lawA dp un gd cn L a ccd outer) h₀ (lawEnv cn L a ccd) (loopTarget (lst 5)) pieceBody Q E it s₂) E s := by
  have N' : News h₀ L s.heap [(pc, listOf #[] k), (30, tabObj #[]), (37, tabObj #[]), (ax, listOf #[.ref d1, .ref d2, .ref d3, .ref d4] ka), (d4, tup #[.int x v7, .int 16 v8] q4), (d3, tup #[.int 3 v5, .int 8 v6] q3), (d2, tup #[.int 1 v3, .int 4 v4] q2), (d1, tup #[.int 1 v1, .int 2 v2] q1), (nu, listOf #[.int n0 u0, .int n1 u1, .int n2 u2, .int n3 u3, .int n4 u4] kn)] := cb_drop N fun q hq => by
    simp only [List.mem_cons, List.not_mem_nil, or_false] at hq ⊢
    rcases hq with h | h | h | h | h | h | h | h | h <;> simp [h]
  refine iter_listTurns (lo := listOf #[.ref d1, .ref d2, .ref d3, .ref d4] ka) (vs := [.ref d1, .ref d2, .ref d3, .ref d4]) rfl F N' (by simp) rfl rfl fun I lt => ?_
  have hI : ∀ q ∈ [(ax, listOf #[.ref d1, .ref d2, .ref d3, .ref d4] ka), (d4, tup #[.int x v7, .int 16 v8] q4), (d3, tup #[.int 3 v5, .int 8 v6] q3), (d2, tup #[.int 1 v3, .int 4 v4] q2), (d1, tup #[.int 1 v1, .int 2 v2] q1), (nu, listOf #[.int n0 u0, .int n1 u1, .int n2 u2, .int n3 u3, .int n4 u4] kn)], q.1 ≠ I := fun q hq => Nat.ne_of_lt (lt q (.tail _ (.tail _ (.tail _ hq))))
  have hIp : I ≠ pc := Nat.ne_of_gt (lt _ (.head _))
  have g3 : @LT.lt Nat _ 37 I := lt _ (.tail _ (.tail _ (.head _)))
  have gp : @LT.lt Nat _ 37 pc := Nat.lt_trans g1 g2
  refine turn_E (l := []) (tp := d1) (tn := v1) (td := v2) (kt := q1) (r := [.val (.ref d2), .val (.ref d3), .val (.ref d4)]) B X T (by simp) (by simp) e3 ?a1 hI hIp gp ?a2 g3 (by simp) pieceOk_a hch1 hch2 hd hu ?_
  case a1 =>
    intro q hq
    simp only [List.mem_cons, List.not_mem_nil, or_false] at hq
    rcases hq with h | h | h | h | h | h <;> subst h
    · exact Nat.ne_of_gt h5
    · exact Nat.ne_of_gt h4
    · exact Nat.ne_of_gt h3
    · exact Nat.ne_of_gt h2
    · exact Nat.ne_of_gt h1
    · exact Nat.ne_of_lt g2
  case a2 =>
    intro q hq
    simp only [List.mem_cons, List.not_mem_nil, or_false] at hq
    rcases hq with h | h | h | h | h | h <;> subst h
    · exact Nat.lt_trans gp h5
    · exact Nat.lt_trans gp h4
    · exact Nat.lt_trans gp h3
    · exact Nat.lt_trans gp h2
    · exact Nat.lt_trans gp h1
    · exact g1
  intro t1 e1 s1 z10 z11 z12 z13 w1 a11 a12 a13 a14 c11 c12 c13 c14 m1 rest' hm1 hsub hT hall1
  refine turn_H (l := [.ref t1]) B X T (.tail _ (.tail _ (.tail _ (hsub _ (by simp))))) (.tail _ (.tail _ (.tail _ (hsub (d2, tup #[.int 1 v3, .int 4 v4] q2) (by simp))))) ((hm1 (nm "pieces") (by decide +kernel)).trans e3) (fun q hq => (hall1 q hq).1) (fun q hq => (hall1 q hq).2) hIp (by simp) pieceOk_b hT.cons.cons.cons hch1 hch2 hd hu ?_
  intro t2 e2 s2 z20 z21 z22 z23 w2 a21 a22 a23 a24 c21 c22 c23 c24 m2 hm2 hall2
  refine turn_H (l := [.ref t1, .ref t2]) B X T (.tail _ (.tail _ (.tail _ (.tail _ (.tail _ (.tail _ (hsub _ (by simp)))))))) (.tail _ (.tail _ (.tail _ (.tail _ (.tail _ (.tail _ (hsub (d3, tup #[.int 3 v5, .int 8 v6] q3) (by simp)))))))) ((hm2 (nm "pieces") (by decide +kernel)).trans ((hm1 (nm "pieces") (by decide +kernel)).trans e3)) (fun q hq => (hall2 q hq).1) (fun q hq => (hall2 q hq).2) hIp (by simp) pieceOk_c hT.cons.cons.cons.cons.cons.cons hch1 hch2 hd hu ?_
  intro t3 e3' s3 z30 z31 z32 z33 w3 a31 a32 a33 a34 c31 c32 c33 c34 m3 hm3 hall3
  refine turn_H (l := [.ref t1, .ref t2, .ref t3]) B X T (.tail _ (.tail _ (.tail _ (.tail _ (.tail _ (.tail _ (.tail _ (.tail _ (.tail _ (hsub _ (by simp))))))))))) (.tail _ (.tail _ (.tail _ (.tail _ (.tail _ (.tail _ (.tail _ (.tail _ (.tail _ (hsub (d4, tup #[.int x v7, .int 16 v8] q4) (by simp))))))))))) ((hm3 (nm "pieces") (by decide +kernel)).trans ((hm2 (nm "pieces") (by decide +kernel)).trans ((hm1 (nm "pieces") (by decide +kernel)).trans e3))) (fun q hq => (hall3 q hq).1) (fun q hq => (hall3 q hq).2) hIp (by simp) px hT.cons.cons.cons.cons.cons.cons.cons.cons.cons hch1 hch2 hd hu ?_
  intro t4 e4 s4 z40 z41 z42 z43 w4 a41 a42 a43 a44 c41 c42 c43 c44 m4 hm4 hall4
  refine ItemsRest.zero fun h tk F5 N5 => ?_
  refine hret (fun i => pick4 i t1 t2 t3 t4) (fun i => pick4 i e1 e2 e3' e4) (fun i => pick4 i s1 s2 s3 s4) (fun i => pick4 i w1 w2 w3 w4)
    (fun i j => pick4 i (pick4 j a11 a12 a13 a14) (pick4 j a21 a22 a23 a24) (pick4 j a31 a32 a33 a34) (pick4 j a41 a42 a43 a44)) (fun i j => pick4 i (pick4 j c11 c12 c13 c14) (pick4 j c21 c22 c23 c24) (pick4 j c31 c32 c33 c34) (pick4 j c41 c42 c43 c44))
    (fun i => pick4 i z11 z21 z31 z41) (fun i => pick4 i z12 z22 z32 z42) (fun i => pick4 i z13 z23 z33 z43) z40 _ m4 h tk (fun y hy => ?_) F5 N5 ⟨?_, ?_, ?_, ?_⟩ ?_ ?_
  · rw [hm4 y hy, hm3 y hy, hm2 y hy, hm1 y hy]
  · exact .head _
  · refine case4 ?_ ?_ ?_ ?_ <;> (repeat (first | exact List.Mem.head _ | apply List.Mem.tail))
  · refine case4 ?_ ?_ ?_ ?_ <;> (repeat (first | exact List.Mem.head _ | apply List.Mem.tail))
  · refine case4 ?_ ?_ ?_ ?_ <;> (repeat (first | exact List.Mem.head _ | apply List.Mem.tail))
  · exact hT.cons.cons.cons.cons.cons.cons.cons.cons.cons.cons.cons.cons.cons
  · iterate 13 (apply List.Mem.tail)
    exact hsub _ (by simp)
end
section
theorem pcs_loop {nu pc : Addr} {k kn : Nat} {n0 n1 n2 n3 n4 : Int} {u0 u1 u2 u3 u4 : Tok}
  (B : Below A₀ base outer h₀) (F : Fr h₀ L s.heap m) (X : (hd.heap_39 w.params).In h₀) (N : News h₀ L s.heap [(pc, listOf #[] k), (30, tabObj #[]), (37, tabObj #[]), (nu, listOf #[.int n0 u0, .int n1 u1, .int n2 u2, .int n3 u3, .int n4 u4] kn)]) (T : Top p loose mean mg mb h₀)
  (e1 : m (nm "numbers") = some (.ref nu)) (e3 : m (nm "pieces") = some (.ref pc)) (g1 : @LT.lt Nat _ 37 nu) (g2 : @LT.lt Nat _ nu pc)
  (px : PieceOk (2 * n2.fmod 8 + 1) 16)
  (hch1 : CodeHd base 34 30) (hch2 : CodeHd base 41 37)
  (hd : dp + 120 < recursionLimit) (hu : un + 1000 < cLine) (hE : PassesOwn (model Challenge.rw_pe0195_01.row.prog w) (ktrTop dp un gd cn lawScope L a ccd [] outer) (envX cn lawScope L a ccd []) E)
  (hret : ∀ (t e sp : Nat → Addr) (tw : Nat → Tok) (te ts : Nat → Nat → Tok) (k1 k2 k3 : Nat → Nat) (kp : Nat) (news' : List (Addr × Obj)) (m' : Str → Option Value) (h' : Heap) (tk' : Nat), (∀ y, pcsNames.contains y = false → m' y = m y) → Fr h₀ L h' m' → News h₀ L h' news' →
    PcIn (mkD (2 * n2.fmod 8 + 1) t e sp tw te ts k1 k2 k3) pc kp news' → HitT news' → (nu, listOf #[.int n0 u0, .int n1 u1, .int n2 u2, .int n3 u3, .int n4 u4] kn) ∈ news' → Q .next { s with heap := h', toks := tk' }) :
  wpAny (model Challenge.rw_pe0195_01.row.prog w) (ktrTop dp un gd cn lawScope L a ccd [] outer) (exec (lst 5) (envX cn lawScope L a ccd [])) Q E s := by
  w_top off
  k_with_none
  (k_with "eval Name" => (k_here; k_dflt (refine' nameX_L ?zqk1 ?zqk2 ?_ ?zqk3 ?zqk4 ?zqk5; (case zqk3 => rfl); (case zqk4 => rfl); (case zqk5 => decide); (case zqk1 => k_asm); (case zqk2 => assumption); k_whole)))
  (k_with "execs cons" => (k_here; (with_reducible refine wpAny_execs_cons ?_); try dsimp only))
  (k_with "execs nil" => (k_here; (with_reducible refine wpAny_execs_nil ?_); try dsimp only))
  (k_with "pyIter ref" => (k_here; refine stopAt ?_))
  revert X; k_fill; intro X
  rw [pcsLoop_is]
  conv in (occs := *) loopIter _ => all_goals whnf
  with_reducible refine For_turns (env := envX cn lawScope L a ccd []) F ?_ ?hs hE
  case hs => exact fun _ => rfl
  conv in (occs := *) lawScope => all_goals whnf
  k_steps
  unfold Stop
  rename Fr _ _ _ _ => F2
  rename News _ _ _ _ => N2
  exact pcs_turns B F2 X N2 T e3 g1 g2 (by omega) (by omega) (by omega) (by omega) (by omega) px hch1 hch2 hd hu hret
end
end

set_option maxHeartbeats 2000000
theorem drawnLoop_is : lst 6 = .For (loopTarget (lst 6)) (loopIter (lst 6)) drawnBody [] (loopPos (lst 6)) := rfl
/-- what is to be known of one drawn number -/
def DrawnAll (D : Pc) (sh lv : UInt64) (wh dr : Int) : Prop := ∃ (x R G B U y x' R2 G2 B2 V2 y2 : UInt64) (sm sm2 : Int), DrawnOk sh lv wh dr x R G B U y x' R2 G2 B2 V2 y2 sm sm2 ∧
  ∀ i, i < 4 → ∀ j, j < 4 → PairOk (D.wy i) (D.wy j) (txt (wayL 64 sm (wh - sm))) (btw (D.el i) sm wh) (btw (D.sn j) (inv sm wh) wh) (subs 64 sm (wh - sm))
def drawnLoopNames : List Str := nm "drawn" :: drawnNames
section
variable {w : World} {dp un : Nat} {gd : Option (List Code)} {cn : Str} {a : Addr} {ccd : Value} {outer : List Env} {A₀ : Around} {base h₀ : Heap} {L : Addr} {m : Str → Option Value} {news : List (Addr × Obj)} {s : Shared}
  {Q : Flow → Shared → Prop} {E : Value → Shared → Prop} {p : Program} {loose : List Str} {mean : ExcName → Option Value} {mg mb : Str → Option Value}
section
theorem at2 {v a b : Value} {i : Nat} (h : [a, b][i]? = some v) : v = a ∨ v = b := by
  match i, h with
  | 0, h => exact .inl (by simpa using h.symm)
  | 1, h => exact .inr (by simpa using h.symm)
  | n + 2, h => simp at h
theorem drawn_turns {sh lv : UInt64} {wh : Int} {tw ts tl : Tok} {ax pc : Addr} {kp ka : Nat} {D : Pc} {n3 n4 : Int} {u3 u4 : Tok}
  (B : Below A₀ base outer h₀) (F : Fr h₀ L s.heap m) (X : (hd.heap_39 w.params).In h₀) (N : News h₀ L s.heap ((ax, listOf #[.int n3 u3, .int n4 u4] ka) :: news)) (T : Top p loose mean mg mb h₀)
  (e2 : m (nm "share") = some (.float sh ts)) (e3 : m (nm "wheel") = some (.int wh tw)) (e4 : m (nm "pieces") = some (.ref pc)) (e5 : m (nm "level") = some (.float lv tl))
  (b1 : 8 ≤ wh) (b2 : wh ≤ 64) (w1 : ts ≠ 0) (w2 : tl ≠ 0) (ok3 : DrawnAll D sh lv wh n3) (ok4 : DrawnAll D sh lv wh n4)
  (hD : PcIn D pc kp news) (d1 : ∀ i, i < 4 → ∀ j, j < 4 → 0 ≤ D.sn i j ∧ D.sn i j ≤ 64) (d2 : ∀ i, i < 4 → ∀ j, j < 4 → 0 ≤ D.el i j ∧ D.el i j ≤ 64)
  (hT : HitT news) (hch1 : CodeHd base 34 30) (hch2 : CodeHd base 41 37)
  (hd : dp + 120 < recursionLimit) (hu : un + 1000 < cLine) (hE : PassesOwn (model Challenge.rw_pe0195_01.row.prog w) (lawA dp un gd cn L a ccd outer) (lawEnv cn L a ccd) E)
  (hret : ∀ (m' : Str → Option Value) (h' : Heap) (tk' : Nat), Fr h₀ L h' m' → News h₀ L h' news → Q .next { s with heap := h', toks := tk' }) :
  wpAny (model Challenge.rw_pe0195_01.row.prog w) (lawA dp un gd cn L a ccd outer) (pyIter (.ref ax)) (fun it s₂ => TurnsAt Challenge.rw_pe0195_01.row.prog w (lawA dp un gd cn L a ccd outer) h₀ (lawEnv cn L a ccd) (loopTarget (lst 6)) drawnBody Q E it s₂) E s := by
  w_top off
  k_with_none
  (k_with "eval Name" => (k_here; k_dflt (refine' nameX_L ?zqk1 ?zqk2 ?_ ?zqk3 ?zqk4 ?zqk5; (case zqk3 => rfl); (case zqk4 => rfl); (case zqk5 => decide); (case zqk1 => k_asm); (case zqk2 => assumption); k_whole)))
  (k_with "execs cons" => (k_here; (with_reducible refine wpAny_execs_cons ?_); try dsimp only))
  (k_with "execs nil" => (k_here; (with_reducible refine wpAny_execs_nil ?_); try dsimp only))
  (k_with "execs" => (k_here; (with_reducible show wpAny _ _ (execs drawnBody _) _ _ _); refine stopAt ?_))
  (k_with "pyIter ref" => (k_here; refine stopAt ?_))
  refine list_loop (L := L) (vs := [.int n3 u3, .int n4 u4]) (lo := listOf #[.int n3 u3, .int n4 u4] ka) (fun _ m₁ => ∀ y, drawnLoopNames.contains y = false → m₁ y = m y) rfl rfl F N (.head _) rfl rfl (fun _ _ => rfl) ?_ (fun m' h' tk' hj F' N' => hret m' h' tk' F' fun q hq => N' q (.tail _ hq))
  intro i v m₁ h tk I it hv hj F1 N1 lt
  have hv' : ∃ n u, v = .int n u ∧ DrawnAll D sh lv wh n := by
    rcases at2 hv with h | h
    · exact ⟨n3, u3, h, ok3⟩
    · exact ⟨n4, u4, h, ok4⟩
  obtain ⟨n, u, rfl, ok⟩ := hv'
  obtain ⟨x, R, G, B', U, y, x', R2, G2, B2, V2, y2, sm, sm2, ok1, ok2⟩ := ok
  have q2 := (hj (nm "share") (by decide +kernel)).trans e2
  have q3 := (hj (nm "wheel") (by decide +kernel)).trans e3
  have q4 := (hj (nm "pieces") (by decide +kernel)).trans e4
  have q5 := (hj (nm "level") (by decide +kernel)).trans e5
  unfold lawA lawEnv at *
  conv in (occs := *) loopTarget _ => all_goals whnf
  revert X; k_fill; intro X
  have hE' := hE
  conv in (occs := *) lawScope => all_goals whnf
  k_steps
  unfold Stop
  rename Fr _ _ _ _ => F2
  rename News _ _ _ _ => N2
  refine drawn_body (D := D) (pc := pc) (kp := kp) B F2 X N2 T rfl q2 q3 q4 q5 b1 b2 w1 w2 ok1 ((hD.mono fun _ h => .tail _ h).mono fun _ h => .tail _ h) d1 d2 ok2 hT.cons.cons hch1 hch2 hd hu hE' ?_
  intro m3 h3 tk3 hj3 F3 N3
  refine LEnd.next F3 N3 (fun _ h => h) (fun y hy => ?_)
  have e := hj y hy
  simp only [drawnLoopNames, List.contains_cons, Bool.or_eq_false_iff, beq_eq_false_iff_ne, ne_eq] at hy
  rw [hj3 y hy.2]
  exact (if_neg hy.1).trans e
theorem drawn_loop {sh lv : UInt64} {wh : Int} {tw ts tl : Tok} {nu pc : Addr} {kp kn : Nat} {D : Pc} {n0 n1 n2 n3 n4 : Int} {u0 u1 u2 u3 u4 : Tok}
  (B : Below A₀ base outer h₀) (F : Fr h₀ L s.heap m) (X : (hd.heap_39 w.params).In h₀) (N : News h₀ L s.heap news) (T : Top p loose mean mg mb h₀)
  (e1 : m (nm "numbers") = some (.ref nu)) (e2 : m (nm "share") = some (.float sh ts)) (e3 : m (nm "wheel") = some (.int wh tw)) (e4 : m (nm "pieces") = some (.ref pc)) (e5 : m (nm "level") = some (.float lv tl))
  (hnu : (nu, listOf #[.int n0 u0, .int n1 u1, .int n2 u2, .int n3 u3, .int n4 u4] kn) ∈ news)
  (b1 : 8 ≤ wh) (b2 : wh ≤ 64) (w1 : ts ≠ 0) (w2 : tl ≠ 0) (ok3 : DrawnAll D sh lv wh n3) (ok4 : DrawnAll D sh lv wh n4)
  (hD : PcIn D pc kp news) (d1 : ∀ i, i < 4 → ∀ j, j < 4 → 0 ≤ D.sn i j ∧ D.sn i j ≤ 64) (d2 : ∀ i, i < 4 → ∀ j, j < 4 → 0 ≤ D.el i j ∧ D.el i j ≤ 64)
  (hT : HitT news) (hch1 : CodeHd base 34 30) (hch2 : CodeHd base 41 37)
  (hd : dp + 120 < recursionLimit) (hu : un + 1000 < cLine) (hE : PassesOwn (model Challenge.rw_pe0195_01.row.prog w) (ktrTop dp un gd cn lawScope L a ccd [] outer) (envX cn lawScope L a ccd []) E)
  (hret : ∀ (m' : Str → Option Value) (h' : Heap) (tk' : Nat), Fr h₀ L h' m' → News h₀ L h' news → Q .next { s with heap := h', toks := tk' }) :
  wpAny (model Challenge.rw_pe0195_01.row.prog w) (ktrTop dp un gd cn lawScope L a ccd [] outer) (exec (lst 6) (envX cn lawScope L a ccd [])) Q E s := by
  w_top off
  k_with_none
  (k_with "eval Name" => (k_here; k_dflt (refine' nameX_L ?zqk1 ?zqk2 ?_ ?zqk3 ?zqk4 ?zqk5; (case zqk3 => rfl); (case zqk4 => rfl); (case zqk5 => decide); (case zqk1 => k_asm); (case zqk2 => assumption); k_whole)))
  (k_with "execs cons" => (k_here; (with_reducible refine wpAny_execs_cons ?_); try dsimp only))
  (k_with "execs nil" => (k_here; (with_reducible refine wpAny_execs_nil ?_); try dsimp only))
  (k_with "execs" => (k_here; (with_reducible show wpAny _ _ (execs drawnBody _) _ _ _); refine stopAt ?_))
  (k_with "pyIter ref" => (k_here; refine stopAt ?_))
  revert X; k_fill; intro X
  rw [drawnLoop_is]
  conv in (occs := *) loopIter _ => all_goals whnf
  have hE' := hE
  with_reducible refine For_turns (env := envX cn lawScope L a ccd []) F ?_ ?hs hE
  case hs => exact fun _ => rfl
  have hl := News.isList N hnu
  conv in (occs := *) lawScope => all_goals whnf
  k_steps
  unfold Stop
  rename Fr _ _ _ _ => F2
  rename News _ _ _ _ => N2
  exact drawn_turns B F2 X N2 T e2 e3 e4 e5 b1 b2 w1 w2 ok3 ok4 hD d1 d2 hT hch1 hch2 hd hu hE' hret
end
end

set_option maxHeartbeats 2000000
theorem ints5 {ws : List Value} {l : List Int} (h : IntsAre ws l) (hl : l.length = 5) : ∃ (n0 n1 n2 n3 n4 : Int) (t0 t1 t2 t3 t4 : Tok), ws = [.int n0 t0, .int n1 t1, .int n2 t2, .int n3 t3, .int n4 t4] := by
  match l, hl with
  | [n0, n1, n2, n3, n4], _ =>
    cases h with | cons _ t0 h => cases h with | cons _ t1 h => cases h with | cons _ t2 h => cases h with | cons _ t3 h => cases h with | cons _ t4 h =>
    cases h
    exact ⟨n0, n1, n2, n3, n4, t0, t1, t2, t3, t4, rfl⟩
theorem five_len (ns : List Int) : (ns.take 5 ++ [2, 20, 2, 5, 11].drop ((ns.take 5).length : Int).toNat).length = 5 := by
  rw [List.length_append, List.length_drop, List.length_take, Int.toNat_natCast]
  show min 5 ns.length + (5 - min 5 ns.length) = 5
  omega
section
variable {w : World} {dp un : Nat} {gd : Option (List Code)} {cn : Str} {a : Addr} {ccd : Value} {outer : List Env} {A₀ : Around} {base h₀ : Heap} {L : Addr} {m : Str → Option Value} {news : List (Addr × Obj)} {s : Shared}
  {Q : Flow → Shared → Prop} {E : Value → Shared → Prop} {p : Program} {loose : List Str} {mean : ExcName → Option Value} {mg mb : Str → Option Value}
section
theorem first_stmt {sc : Addr} {vs : List Value} {ns : List Int}
  (B : Below A₀ base outer h₀) (F : Fr h₀ L s.heap m) (X : (hd.heap_39 w.params).In h₀) (N : News h₀ L s.heap news) (T : Top p loose mean mg mb h₀)
  (e1 : m (nm "script") = some (.ref sc)) (hS : h₀.IsList sc vs.toArray) (hI : IntsAre vs ns) (hn : ns.length ≤ 63)
  (hd : dp + 120 < recursionLimit) (hu : un + 1000 < cLine)
  (hret : ∀ (A : Addr) (n0 n1 n2 n3 n4 : Int) (t0 t1 t2 t3 t4 : Tok) (h' : Heap) (tk' : Nat), Fr h₀ L h' (fun y => if y = nm "numbers" then some (.ref A) else m y) → News h₀ L h' ((A, listOf #[.int n0 t0, .int n1 t1, .int n2 t2, .int n3 t3, .int n4 t4] 0) :: news) → AllLt A news → Q .next { s with heap := h', toks := tk' }) :
  wpAny (model Challenge.rw_pe0195_01.row.prog w) (ktrTop dp un gd cn lawScope L a ccd [] outer) (exec (lst 0) (envX cn lawScope L a ccd [])) Q E s := by
  w_top off
  k_with_none
  (k_with "eval Name" => (k_here; k_dflt (refine' nameX_L ?zqk1 ?zqk2 ?_ ?zqk3 ?zqk4 ?zqk5; (case zqk3 => rfl); (case zqk4 => rfl); (case zqk5 => decide); (case zqk1 => k_asm); (case zqk2 => assumption); k_whole)))
  (k_with "execs cons" => (k_here; (with_reducible refine wpAny_execs_cons ?_); try dsimp only))
  (k_with "execs nil" => (k_here; (with_reducible refine wpAny_execs_nil ?_); try dsimp only))
  (k_with "subscriptTail Name Slice ref ref" => (k_here; (with_reducible show wpAny _ _ (subscriptTail _ (PySem.Expr.Slice _ _ none _) (Value.ref _) (Value.ref _)) _ _ _); k_dflt (refine' kmk_slice_ints ?zqF ?zqN ?zql ?zqp ?zqq ?zqi ?zqm ?zqc ?_ ?zqs ?zqt ?zqz; (case zqF => k_asm); (case zqN => k_asm); (case zql => kmk_list); (case zqp => kmk_part); (case zqq => kmk_part); (case zqi => l_ints); (case zqm => first | (with_reducible exact kmk_upto (by assumption) (by decide)) | (with_reducible exact kmk_from (by l_ints) (by omega))); (case zqc => exact rfl); (case zqs => with_unfolding_all rfl); (case zqt => kmk_pure); (case zqz => kmk_size)); intro D' ws' h' F' N' l1 hI' hC' hL'; (try simp only [Int.reduceNeg, Int.neg_neg, Int.reduceToNat] at hI' hC' hL'); (try k_lt l1); (try k_sweep)))
  revert X; k_fill; intro X
  conv in (occs := *) lst 0 => all_goals whnf
  conv in (occs := *) lawScope => all_goals whnf
  dsimp only
  k_steps
  rename IntsAre _ _ => hI5
  rename Fr _ _ _ _ => F2
  rename News _ _ _ _ => N2
  rename _ < _ ∧ _ < _ ∧ _ < _ ∧ _ < _ ∧ AllLt _ _ => l5
  obtain ⟨n0, n1, n2, n3, n4, t0, t1, t2, t3, t4, rfl⟩ := ints5 hI5 (five_len ns)
  exact hret _ n0 n1 n2 n3 n4 t0 t1 t2 t3 t4 _ _ F2 (cb_drop N2 fun q hq => by
    simp only [List.mem_cons] at hq ⊢
    rcases hq with h | h <;> simp [h]) l5.2.2.2.2
end
end

set_option maxHeartbeats 2000000
def whF (n0 : Int) : Int := 2 ^ (3 + n0.fmod 4).toNat
def shF (n1 : Int) : UInt64 := fx (256 * (n1.fmod 8 + 1))
def lvF (n1 : Int) : UInt64 := fx (256 * ((n1.fmod 64).fdiv 8 + 1))
theorem fmod_range (n : Int) {k : Int} (hk : 0 < k) : 0 ≤ n.fmod k ∧ n.fmod k < k := by
  rw [Int.fmod_eq_emod_of_nonneg _ (Int.le_of_lt hk)]
  exact ⟨Int.emod_nonneg _ (Int.ne_of_gt hk), Int.emod_lt_of_pos _ hk⟩
theorem whF_cases (n0 : Int) : whF n0 = 8 ∨ whF n0 = 16 ∨ whF n0 = 32 ∨ whF n0 = 64 := by
  have h := fmod_range n0 (show (0 : Int) < 4 by decide)
  unfold whF
  have : n0.fmod 4 = 0 ∨ n0.fmod 4 = 1 ∨ n0.fmod 4 = 2 ∨ n0.fmod 4 = 3 := by omega
  rcases this with h | h | h | h <;> rw [h] <;> decide
theorem lv_range (n1 : Int) : 1 ≤ (n1.fmod 64).fdiv 8 + 1 ∧ (n1.fmod 64).fdiv 8 + 1 ≤ 8 := by
  have h := fmod_range n1 (show (0 : Int) < 64 by decide)
  rw [Int.fdiv_eq_ediv_of_nonneg _ (by decide)]
  omega
theorem sh_qf (n1 : Int) : qf (n1.fmod 8 + 1) 8 = shF n1 := by
  have h := fmod_range n1 (show (0 : Int) < 8 by decide)
  exact fx_qf (small_of (by omega) (by omega)) (by omega) (by decide) (by omega)
theorem lv_qf (n1 : Int) : qf ((n1.fmod 64).fdiv 8 + 1) 8 = lvF n1 := by
  have h := lv_range n1
  exact fx_qf (small_of (by omega) (by omega)) (by omega) (by decide) (by omega)
theorem sh_inf (n1 : Int) : Float64.isInf (shF n1) = false := by
  have h := fmod_range n1 (show (0 : Int) < 8 by decide)
  exact fx_isInf (small_of (by omega) (by omega))
theorem lv_inf (n1 : Int) : Float64.isInf (lvF n1) = false := by
  have h := lv_range n1
  exact fx_isInf (small_of (by omega) (by omega))
theorem lawBody_is : fnBody lawDef = [lst 0, lst 1, lst 2, lst 3, lst 4, lst 5, lst 6, lst 7] := rfl
theorem perm4 {h₀ h : Heap} {L : Addr} {a b c d : Addr × Obj} (N : News h₀ L h [a, b, c, d]) : News h₀ L h [a, d, c, b] := cb_drop N fun q hq => by
  simp only [List.mem_cons, List.not_mem_nil, or_false] at hq ⊢
  rcases hq with h | h | h | h <;> simp [h]
section
variable {w : World} {dp un : Nat} {gd : Option (List Code)} {cn : Str} {a : Addr} {ccd : Value} {outer : List Env} {A₀ : Around} {base h₀ : Heap} {L : Addr} {m : Str → Option Value} {news : List (Addr × Obj)} {s : Shared}
  {Q : Flow → Shared → Prop} {E : Value → Shared → Prop} {p : Program} {loose : List Str} {mean : ExcName → Option Value} {mg mb : Str → Option Value}
section
theorem stmt1 {A : Addr} {kn : Nat} {n0 n1 n2 n3 n4 : Int} {t0 t1 t2 t3 t4 : Tok}
  (B : Below A₀ base outer h₀) (F : Fr h₀ L s.heap m) (X : (hd.heap_39 w.params).In h₀) (N : News h₀ L s.heap ((A, listOf #[.int n0 t0, .int n1 t1, .int n2 t2, .int n3 t3, .int n4 t4] kn) :: news)) (T : Top p loose mean mg mb h₀)
  (e1 : m (nm "numbers") = some (.ref A))
  (hd : dp + 120 < recursionLimit) (hu : un + 1000 < cLine)
  (hret : ∀ (tw : Tok) (h' : Heap) (tk' : Nat), Fr h₀ L h' (fun y => if y = nm "wheel" then some (.int (whF n0) tw) else m y) → News h₀ L h' ((A, listOf #[.int n0 t0, .int n1 t1, .int n2 t2, .int n3 t3, .int n4 t4] kn) :: news) → Q .next { s with heap := h', toks := tk' }) :
  wpAny (model Challenge.rw_pe0195_01.row.prog w) (ktrTop dp un gd cn lawScope L a ccd [] outer) (exec (lst 1) (envX cn lawScope L a ccd [])) Q E s := by
  w_top off
  k_with_none
  (k_with "eval Name" => (k_here; k_dflt (refine' nameX_L ?zqk1 ?zqk2 ?_ ?zqk3 ?zqk4 ?zqk5; (case zqk3 => rfl); (case zqk4 => rfl); (case zqk5 => decide); (case zqk1 => k_asm); (case zqk2 => assumption); k_whole)))
  (k_with "binaryOp Div int int" => (k_here; k_dflt (refine' div_K ?zqh0 ?zqh1 ?zqh2 ?zqh3 ?_; (case zqh0 => exact rfl); (case zqh1 => omega); (case zqh2 => first | (with_reducible exact sh_qf _) | (with_reducible exact lv_qf _)); (case zqh3 => first | (with_reducible exact sh_inf _) | (with_reducible exact lv_inf _)))))
  have q1 := fmod_range n0 (show (0 : Int) < 4 by decide)
  have q2 := fmod_range n1 (show (0 : Int) < 8 by decide)
  have q3 := fmod_range n1 (show (0 : Int) < 64 by decide)
  have q4 := lv_range n1
  revert X; k_fill; intro X
  conv in (occs := *) lst _ => all_goals whnf
  conv in (occs := *) lawScope => all_goals whnf
  k_steps
  rename Fr _ _ _ _ => F2
  rename News _ _ _ _ => N2
  exact hret _ _ _ F2 N2
theorem stmt2 {A : Addr} {kn : Nat} {n0 n1 n2 n3 n4 : Int} {t0 t1 t2 t3 t4 : Tok}
  (B : Below A₀ base outer h₀) (F : Fr h₀ L s.heap m) (X : (hd.heap_39 w.params).In h₀) (N : News h₀ L s.heap ((A, listOf #[.int n0 t0, .int n1 t1, .int n2 t2, .int n3 t3, .int n4 t4] kn) :: news)) (T : Top p loose mean mg mb h₀)
  (e1 : m (nm "numbers") = some (.ref A))
  (hd : dp + 120 < recursionLimit) (hu : un + 1000 < cLine)
  (hret : ∀ (tw : Tok) (h' : Heap) (tk' : Nat), tw ≠ 0 → Fr h₀ L h' (fun y => if y = nm "share" then some (.float (shF n1) tw) else m y) → News h₀ L h' ((A, listOf #[.int n0 t0, .int n1 t1, .int n2 t2, .int n3 t3, .int n4 t4] kn) :: news) → Q .next { s with heap := h', toks := tk' }) :
  wpAny (model Challenge.rw_pe0195_01.row.prog w) (ktrTop dp un gd cn lawScope L a ccd [] outer) (exec (lst 2) (envX cn lawScope L a ccd [])) Q E s := by
  w_top off
  k_with_none
  (k_with "eval Name" => (k_here; k_dflt (refine' nameX_L ?zqk1 ?zqk2 ?_ ?zqk3 ?zqk4 ?zqk5; (case zqk3 => rfl); (case zqk4 => rfl); (case zqk5 => decide); (case zqk1 => k_asm); (case zqk2 => assumption); k_whole)))
  (k_with "binaryOp Div int int" => (k_here; k_dflt (refine' div_K ?zqh0 ?zqh1 ?zqh2 ?zqh3 ?_; (case zqh0 => exact rfl); (case zqh1 => omega); (case zqh2 => first | (with_reducible exact sh_qf _) | (with_reducible exact lv_qf _)); (case zqh3 => first | (with_reducible exact sh_inf _) | (with_reducible exact lv_inf _)))))
  have q1 := fmod_range n0 (show (0 : Int) < 4 by decide)
  have q2 := fmod_range n1 (show (0 : Int) < 8 by decide)
  have q3 := fmod_range n1 (show (0 : Int) < 64 by decide)
  have q4 := lv_range n1
  revert X; k_fill; intro X
  conv in (occs := *) lst _ => all_goals whnf
  conv in (occs := *) lawScope => all_goals whnf
  k_steps
  rename Fr _ _ _ _ => F2
  rename News _ _ _ _ => N2
  exact hret _ _ _ (Nat.succ_ne_zero _) F2 N2
theorem stmt3 {A : Addr} {kn : Nat} {n0 n1 n2 n3 n4 : Int} {t0 t1 t2 t3 t4 : Tok}
  (B : Below A₀ base outer h₀) (F : Fr h₀ L s.heap m) (X : (hd.heap_39 w.params).In h₀) (N : News h₀ L s.heap ((A, listOf #[.int n0 t0, .int n1 t1, .int n2 t2, .int n3 t3, .int n4 t4] kn) :: news)) (T : Top p loose mean mg mb h₀)
  (e1 : m (nm "numbers") = some (.ref A))
  (hd : dp + 120 < recursionLimit) (hu : un + 1000 < cLine)
  (hret : ∀ (tw : Tok) (h' : Heap) (tk' : Nat), tw ≠ 0 → Fr h₀ L h' (fun y => if y = nm "level" then some (.float (lvF n1) tw) else m y) → News h₀ L h' ((A, listOf #[.int n0 t0, .int n1 t1, .int n2 t2, .int n3 t3, .int n4 t4] kn) :: news) → Q .next { s with heap := h', toks := tk' }) :
  wpAny (model Challenge.rw_pe0195_01.row.prog w) (ktrTop dp un gd cn lawScope L a ccd [] outer) (exec (lst 3) (envX cn lawScope L a ccd [])) Q E s := by
  w_top off
  k_with_none
  (k_with "eval Name" => (k_here; k_dflt (refine' nameX_L ?zqk1 ?zqk2 ?_ ?zqk3 ?zqk4 ?zqk5; (case zqk3 => rfl); (case zqk4 => rfl); (case zqk5 => decide); (case zqk1 => k_asm); (case zqk2 => assumption); k_whole)))
  (k_with "binaryOp Div int int" => (k_here; k_dflt (refine' div_K ?zqh0 ?zqh1 ?zqh2 ?zqh3 ?_; (case zqh0 => exact rfl); (case zqh1 => omega); (case zqh2 => first | (with_reducible exact sh_qf _) | (with_reducible exact lv_qf _)); (case zqh3 => first | (with_reducible exact sh_inf _) | (with_reducible exact lv_inf _)))))
  have q1 := fmod_range n0 (show (0 : Int) < 4 by decide)
  have q2 := fmod_range n1 (show (0 : Int) < 8 by decide)
  have q3 := fmod_range n1 (show (0 : Int) < 64 by decide)
  have q4 := lv_range n1
  revert X; k_fill; intro X
  conv in (occs := *) lst _ => all_goals whnf
  conv in (occs := *) lawScope => all_goals whnf
  k_steps
  rename Fr _ _ _ _ => F2
  rename News _ _ _ _ => N2
  exact hret _ _ _ (Nat.succ_ne_zero _) F2 N2
theorem stmt4 {A : Addr} {kn : Nat} {n0 n1 n2 n3 n4 : Int} {t0 t1 t2 t3 t4 : Tok}
  (B : Below A₀ base outer h₀) (F : Fr h₀ L s.heap m) (X : (hd.heap_39 w.params).In h₀) (N : News h₀ L s.heap ((A, listOf #[.int n0 t0, .int n1 t1, .int n2 t2, .int n3 t3, .int n4 t4] kn) :: news)) (T : Top p loose mean mg mb h₀)
  (e1 : m (nm "numbers") = some (.ref A))
  (hd : dp + 120 < recursionLimit) (hu : un + 1000 < cLine)
  (hret : ∀ (pc : Addr) (h' : Heap) (tk' : Nat), Fr h₀ L h' (fun y => if y = nm "pieces" then some (.ref pc) else m y) → News h₀ L h' ((pc, listOf #[] 0) :: ((A, listOf #[.int n0 t0, .int n1 t1, .int n2 t2, .int n3 t3, .int n4 t4] kn) :: news)) → AllLt pc ((A, listOf #[.int n0 t0, .int n1 t1, .int n2 t2, .int n3 t3, .int n4 t4] kn) :: news) → Q .next { s with heap := h', toks := tk' }) :
  wpAny (model Challenge.rw_pe0195_01.row.prog w) (ktrTop dp un gd cn lawScope L a ccd [] outer) (exec (lst 4) (envX cn lawScope L a ccd [])) Q E s := by
  w_top off
  k_with_none
  (k_with "eval Name" => (k_here; k_dflt (refine' nameX_L ?zqk1 ?zqk2 ?_ ?zqk3 ?zqk4 ?zqk5; (case zqk3 => rfl); (case zqk4 => rfl); (case zqk5 => decide); (case zqk1 => k_asm); (case zqk2 => assumption); k_whole)))
  (k_with "binaryOp Div int int" => (k_here; k_dflt (refine' div_K ?zqh0 ?zqh1 ?zqh2 ?zqh3 ?_; (case zqh0 => exact rfl); (case zqh1 => omega); (case zqh2 => first | (with_reducible exact sh_qf _) | (with_reducible exact lv_qf _)); (case zqh3 => first | (with_reducible exact sh_inf _) | (with_reducible exact lv_inf _)))))
  have q1 := fmod_range n0 (show (0 : Int) < 4 by decide)
  have q2 := fmod_range n1 (show (0 : Int) < 8 by decide)
  have q3 := fmod_range n1 (show (0 : Int) < 64 by decide)
  have q4 := lv_range n1
  revert X; k_fill; intro X
  conv in (occs := *) lst _ => all_goals whnf
  conv in (occs := *) lawScope => all_goals whnf
  k_steps
  rename Fr _ _ _ _ => F2
  rename News _ _ _ _ => N2
  rename _ < _ ∧ AllLt _ _ => l2
  exact hret _ _ _ F2 N2 l2
theorem stmt7
  (F : Fr h₀ L s.heap m) (N : News h₀ L s.heap news) (hret : Q (.ret (.bool true)) s) :
  wpAny (model Challenge.rw_pe0195_01.row.prog w) (ktrTop dp un gd cn lawScope L a ccd [] outer) (exec (lst 7) (envX cn lawScope L a ccd [])) Q E s := by
  w_top off
  k_with_none
  (k_with "eval Name" => (k_here; k_dflt (refine' nameX_L ?zqk1 ?zqk2 ?_ ?zqk3 ?zqk4 ?zqk5; (case zqk3 => rfl); (case zqk4 => rfl); (case zqk5 => decide); (case zqk1 => k_asm); (case zqk2 => assumption); k_whole)))
  (k_with "binaryOp Div int int" => (k_here; k_dflt (refine' div_K ?zqh0 ?zqh1 ?zqh2 ?zqh3 ?_; (case zqh0 => exact rfl); (case zqh1 => omega); (case zqh2 => first | (with_reducible exact sh_qf _) | (with_reducible exact lv_qf _)); (case zqh3 => first | (with_reducible exact sh_inf _) | (with_reducible exact lv_inf _)))))
  conv in (occs := *) lst _ => all_goals whnf
  conv in (occs := *) lawScope => all_goals whnf
  k_steps
  exact hret
theorem law_body {sc : Addr} {vs : List Value} {ns : List Int}
  (B : Below A₀ base outer h₀) (F : Fr h₀ L s.heap m) (X : (hd.heap_39 w.params).In h₀) (N : News h₀ L s.heap [(37, tabObj #[]), (30, tabObj #[])]) (T : Top p loose mean mg mb h₀)
  (e1 : m (nm "script") = some (.ref sc)) (hS : h₀.IsList sc vs.toArray) (hI : IntsAre vs ns) (hn : ns.length ≤ 63)
  (hch1 : CodeHd base 34 30) (hch2 : CodeHd base 41 37)
  (hall : ∀ (n0 n1 n2 dr : Int) (t e sp : Nat → Addr) (tw : Nat → Tok) (te ts : Nat → Nat → Tok) (k1 k2 k3 : Nat → Nat), DrawnAll (mkD (2 * n2.fmod 8 + 1) t e sp tw te ts k1 k2 k3) (shF n1) (lvF n1) (whF n0) dr)
  (hpx : ∀ n2 : Int, PieceOk (2 * n2.fmod 8 + 1) 16)
  (hbd : ∀ (n2 : Int) (i : Nat), i < 4 → ∀ j, j < 4 → (0 ≤ psn (pn (2 * n2.fmod 8 + 1) i) (pd i) j ∧ psn (pn (2 * n2.fmod 8 + 1) i) (pd i) j ≤ 64) ∧ (0 ≤ pel (pn (2 * n2.fmod 8 + 1) i) (pd i) j ∧ pel (pn (2 * n2.fmod 8 + 1) i) (pd i) j ≤ 64))
  (hd : dp + 120 < recursionLimit) (hu : un + 1000 < cLine) (hE : PassesOwn (model Challenge.rw_pe0195_01.row.prog w) (ktrTop dp un gd cn lawScope L a ccd [] outer) (envX cn lawScope L a ccd []) E)
  (hret : ∀ (m' : Str → Option Value) (h' : Heap) (tk' : Nat) (news' : List (Addr × Obj)), Fr h₀ L h' m' → News h₀ L h' news' → HitT news' → Q (.ret (.bool true)) { s with heap := h', toks := tk' }) :
  wpAny (model Challenge.rw_pe0195_01.row.prog w) (ktrTop dp un gd cn lawScope L a ccd [] outer) (execs (fnBody lawDef) (envX cn lawScope L a ccd [])) Q E s := by
  rw [lawBody_is]
  try dsimp only
  with_reducible refine wpAny_execs_cons ?_
  refine first_stmt B F X N T e1 hS hI hn hd hu ?_
  intro A n0 n1 n2 n3 n4 t0 t1 t2 t3 t4 h' tk' F1 N1 l1
  simp only [AllLt, and_true] at l1
  have hw := whF_cases n0
  try dsimp only
  with_reducible refine wpAny_execs_cons ?_
  refine stmt1 B F1 X N1 T rfl hd hu fun tw h1 tk1 F2 N2 => ?_
  try dsimp only
  with_reducible refine wpAny_execs_cons ?_
  refine stmt2 B F2 X N2 T rfl hd hu fun ts h2 tk2 ne2 F3 N3 => ?_
  try dsimp only
  with_reducible refine wpAny_execs_cons ?_
  refine stmt3 B F3 X N3 T rfl hd hu fun tl h3 tk3 ne3 F4 N4 => ?_
  try dsimp only
  with_reducible refine wpAny_execs_cons ?_
  refine stmt4 B F4 X N4 T rfl hd hu fun pc h4 tk4 F5 N5 l2 => ?_
  simp only [AllLt, and_true] at l2
  try dsimp only
  with_reducible refine wpAny_execs_cons ?_
  with_reducible refine pcs_loop (n0 := n0) (n1 := n1) (n2 := n2) (n3 := n3) (n4 := n4) B F5 X (perm4 N5) T ?e1 ?e3 l1.1 l2.1 (hpx n2) hch1 hch2 hd hu hE ?_
  case e1 => exact rfl
  case e3 => exact rfl
  intro t e sp tw' te ts' k1 k2 k3 kp news' m5 h5 tk5 hm5 F6 N6 hD hT hnu
  try dsimp only
  with_reducible refine wpAny_execs_cons ?_
  have f1 : m5 (nm "numbers") = some (.ref A) := (hm5 (nm "numbers") (by decide +kernel)).trans rfl
  have f2 : m5 (nm "share") = some (.float (shF n1) ts) := (hm5 (nm "share") (by decide +kernel)).trans rfl
  have f3 : m5 (nm "wheel") = some (.int (whF n0) tw) := (hm5 (nm "wheel") (by decide +kernel)).trans rfl
  have f4 : m5 (nm "pieces") = some (.ref pc) := (hm5 (nm "pieces") (by decide +kernel)).trans rfl
  have f5 : m5 (nm "level") = some (.float (lvF n1) tl) := (hm5 (nm "level") (by decide +kernel)).trans rfl
  have g1 : 8 ≤ whF n0 := by omega
  have g2 : whF n0 ≤ 64 := by omega
  with_reducible refine drawn_loop (wh := whF n0) (sh := shF n1) (lv := lvF n1) (D := mkD (2 * n2.fmod 8 + 1) t e sp tw' te ts' k1 k2 k3) (kp := kp) B (by exact F6) X (by exact N6) T f1 f2 f3 f4 f5 hnu g1 g2 ne2 ne3 (hall n0 n1 n2 n3 t e sp tw' te ts' k1 k2 k3) (hall n0 n1 n2 n4 t e sp tw' te ts' k1 k2 k3) hD (fun i hi j hj => (hbd n2 i hi j hj).1) (fun i hi j hj => (hbd n2 i hi j hj).2) hT hch1 hch2 hd hu hE ?_
  intro m6 h6 tk6 F7 N7
  try dsimp only
  with_reducible refine wpAny_execs_cons ?_
  with_reducible refine stmt7 (by exact F7) (by exact N7) ?_
  exact hret _ _ _ _ F7 N7 hT
end
end

set_option maxHeartbeats 2000000
theorem mem_wayL : ∀ (f : Nat) (l r : Int) (c : Nat), c ∈ wayL f l r → c = 76 ∨ c = 82
  | 0, l, r, c, h => by simp [wayL] at h
  | f + 1, l, r, c, h => by
    unfold wayL at h
    split at h
    · cases h
    · split at h
      · rcases List.mem_append.mp h with h | h
        · exact .inl (List.eq_of_mem_replicate h)
        · exact mem_wayL f _ _ c h
      · rcases List.mem_append.mp h with h | h
        · exact .inr (List.eq_of_mem_replicate h)
        · exact mem_wayL f _ _ c h
theorem way_no46 (l r : Int) : 46 ∉ wayL 64 l r := fun h => by
  rcases mem_wayL 64 l r 46 h with h | h <;> cases h
theorem dots_txt : Str.ofString "..." = txt [46, 46, 46] := by decide +kernel
theorem txt_list (l : List Nat) : (txt l).cps.toList = l := rfl
section
variable {f b : List Nat} (hf : 46 ∉ f) (hb : 46 ∉ b)
include hf hb
open PySem.Builtin PySem.Builtin.Str PySem.StrLaws in
theorem at_dots {k : Nat} (h : subAt (txt (f ++ [46, 46, 46] ++ b)) (txt [46, 46, 46]) k = true) : k = f.length := by
  rw [subAt_eq, txt_list, txt_list] at h
  have h' := eq_of_beq h
  rw [txt_length] at h'
  have get : ∀ i, i < 3 → (f ++ [46, 46, 46] ++ b)[k + i]? = some 46 := by
    intro i hi
    have e := congrArg (fun l => l[i]?) h'
    simp only [List.length_cons, List.length_nil, Nat.zero_add, Nat.reduceAdd] at e
    rw [List.getElem?_take_of_lt hi, List.getElem?_drop] at e
    rw [e]
    match i, hi with
    | 0, _ => rfl
    | 1, _ => rfl
    | 2, _ => rfl
  have low : ∀ j, (f ++ [46, 46, 46] ++ b)[j]? = some 46 → f.length ≤ j := by
    intro j hj
    rcases Nat.lt_or_ge j f.length with q | q
    · rw [List.append_assoc, List.getElem?_append_left q] at hj
      exact absurd (List.mem_of_getElem? hj) hf
    · exact q
  have high : ∀ j, (f ++ [46, 46, 46] ++ b)[j]? = some 46 → j < f.length + 3 := by
    intro j hj
    rcases Nat.lt_or_ge j (f.length + 3) with q | q
    · exact q
    · rw [List.getElem?_append_right (by simpa using q)] at hj
      exact absurd (List.mem_of_getElem? hj) hb
  have a1 := low k (get 0 (by decide))
  have a2 := high (k + 2) (get 2 (by decide))
  lia
open PySem.Builtin PySem.Builtin.Str PySem.StrLaws in
theorem sub_dots : subAt (txt (f ++ [46, 46, 46] ++ b)) (txt [46, 46, 46]) f.length = true := by
  rw [subAt_eq, txt_list, txt_list, txt_length]
  have e : (f ++ [46, 46, 46] ++ b).drop f.length = [46, 46, 46] ++ b := by rw [List.append_assoc, List.drop_left]
  rw [e]
  rfl
open PySem.Builtin PySem.Builtin.Str PySem.StrLaws in
theorem occ_dots : occurrences (txt (f ++ [46, 46, 46] ++ b)) (txt [46, 46, 46]) 0 (txt (f ++ [46, 46, 46] ++ b)).length ((txt (f ++ [46, 46, 46] ++ b)).length + 1) = [f.length] := by
  have hl : (txt (f ++ [46, 46, 46] ++ b)).length = f.length + 3 + b.length := by rw [txt_length]; simp; lia
  have hy : (txt [46, 46, 46]).length = 3 := rfl
  have here : At (txt (f ++ [46, 46, 46] ++ b)) (txt [46, 46, 46]) (txt (f ++ [46, 46, 46] ++ b)).length f.length := ⟨by rw [hl, hy]; lia, sub_dots hf hb⟩
  obtain ⟨e, hc, hn⟩ := occ_tight (txt (f ++ [46, 46, 46] ++ b)) (txt [46, 46, 46]) (by rw [hy]; decide)
  generalize occurrences (txt (f ++ [46, 46, 46] ++ b)) (txt [46, 46, 46]) 0 (txt (f ++ [46, 46, 46] ++ b)).length ((txt (f ++ [46, 46, 46] ++ b)).length + 1) = o at hc
  match o, hc with
  | [], hc =>
    have he : e = 0 := hc
    exact absurd here (hn _ (by lia))
  | c :: r, hc =>
    obtain ⟨_, h2, _, h4⟩ := hc
    have hcp := at_dots hf hb h2.2
    match r, h4 with
    | [], _ => rw [hcp]
    | c' :: r', h4 =>
      obtain ⟨g1, g2, _, _⟩ := h4
      have := at_dots hf hb g2.2
      rw [hy] at g1
      lia
theorem glue_dots : txt f ++ Str.ofString "..." ++ txt b = txt (f ++ [46, 46, 46] ++ b) := by rw [dots_txt, txt_append, txt_append]
open PySem.Builtin PySem.Builtin.Str PySem.StrLaws in
theorem split_dots : Txt.split (txt f ++ Str.ofString "..." ++ txt b) (Str.ofString "...") = [txt f, txt b] := by
  rw [glue_dots hf hb, dots_txt]
  have hl : (txt (f ++ [46, 46, 46] ++ b)).length = f.length + 3 + b.length := by rw [txt_length]; simp; lia
  have hy : (txt [46, 46, 46]).length = 3 := rfl
  have hk : PySem.Builtin.Str.strKind (txt [46, 46, 46]) = 1 := by decide +kernel
  have hk2 : 1 ≤ PySem.Builtin.Str.strKind (txt (f ++ [46, 46, 46] ++ b)) := by unfold PySem.Builtin.Str.strKind; split <;> (try split) <;> lia
  unfold Txt.split
  rw [occ_dots hf hb, if_neg (by
    simp only [Bool.or_eq_true, decide_eq_true_eq, not_or]
    rw [hl, hy, hk]
    lia), if_neg (by simp)]
  show [strSub _ 0 f.length, strSub _ (f.length + 3) _] = _
  congr 1
  · apply Str.ext'
    apply Array.toList_inj.mp
    rw [strSub_toList, txt_list, txt_list, List.drop_zero, Nat.sub_zero, List.append_assoc, List.take_left]
  · congr 1
    apply Str.ext'
    apply Array.toList_inj.mp
    rw [strSub_toList, txt_list, txt_list, hl]
    rw [show f.length + 3 = (f ++ [46, 46, 46]).length by simp, List.drop_left]
    rw [List.take_of_length_le (by simp)]
open PySem.Builtin PySem.Builtin.Str PySem.StrLaws in
theorem has_dots : (occurrences (txt f ++ Str.ofString "..." ++ txt b) (Str.ofString "...") 0 (txt f ++ Str.ofString "..." ++ txt b).length 1).isEmpty = false := by
  rw [glue_dots hf hb, dots_txt]
  have hl : (txt (f ++ [46, 46, 46] ++ b)).length = f.length + 3 + b.length := by rw [txt_length]; simp; lia
  have hy : (txt [46, 46, 46]).length = 3 := rfl
  have h := (found_iff (txt (f ++ [46, 46, 46] ++ b)) (txt [46, 46, 46])).mpr ⟨f.length, by rw [hl, hy]; lia, sub_dots hf hb⟩
  simpa using h
end
def preL (f g : List Nat) : Bool := decide (f.length ≤ g.length) && (g.take f.length == f)
def sufL (b g : List Nat) : Bool := decide (b.length ≤ g.length) && ((g.drop (g.length - b.length)).take b.length == b)
open PySem.Builtin PySem.Builtin.Str PySem.StrLaws in
theorem starts_txt (f g : List Nat) : Txt.startswith (txt g) (txt f) = preL f g := by
  unfold Txt.startswith preL
  rw [subAt_eq, txt_list, txt_list, txt_length, txt_length, Nat.zero_add, List.drop_zero]
open PySem.Builtin PySem.Builtin.Str PySem.StrLaws in
theorem ends_txt (b g : List Nat) : Txt.endswith (txt g) (txt b) = sufL b g := by
  unfold Txt.endswith sufL
  rw [subAt_eq, txt_list, txt_list, txt_length, txt_length, Nat.zero_add]
/-- does the way begin so, does it end so -/
def begL (f g : List Nat) : Bool := f.isEmpty || preL f g
def endL (b g : List Nat) : Bool := b.isEmpty || sufL b g
theorem ellR_txt (f b g : List Nat) : ellR (txt f) (txt b) (txt g) = (begL f g && endL b g && decide ((f.length : Int) + (b.length : Int) ≤ (g.length : Int))) := by
  unfold ellR begL endL
  rw [starts_txt, ends_txt, txt_length, txt_length, txt_length]
  have e : ∀ l : List Nat, decide ((l.length : Int) = 0) = l.isEmpty := by
    intro l
    cases l with
    | nil => rfl
    | cons c r =>
      rw [decide_eq_false (by simp only [List.length_cons]; lia)]
      rfl
  rw [e, e]
theorem pair_ok {f b g : List Nat} {bg bt : Bool} {ct : Int} (hf : 46 ∉ f) (hb : 46 ∉ b) (l1 : f.length ≤ 64) (l2 : b.length ≤ 64) (h1 : begL f g = bg) (h2 : endL b g = bt) (h3 : (g.length : Int) = ct) : PairOk (txt f) (txt b) (txt g) bg bt ct where
  hs := split_dots hf hb
  ho := has_dots hf hb
  l1 := by rw [txt_length]; exact l1
  l2 := by rw [txt_length]; exact l2
  heq := by rw [ellR_txt, h1, h2, txt_length, txt_length, h3]

set_option maxHeartbeats 2000000
/-! the finite law, in natural numbers -/
def wayN : Nat → Nat → Nat → List Nat
  | 0, _, _ => []
  | f + 1, l, r => if l = r then [] else if l < r then List.replicate ((r - 1) / l) 76 ++ wayN f l ((r - 1) % l + 1) else List.replicate ((l - 1) / r) 82 ++ wayN f ((l - 1) % r + 1) r
theorem wayL_nat : ∀ (f l r : Nat), 0 < l → 0 < r → wayL f (l : Int) (r : Int) = wayN f l r
  | 0, _, _, _, _ => rfl
  | f + 1, l, r, h1, h2 => by
    have c1 : ((r : Int) - 1) = ((r - 1 : Nat) : Int) := by lia
    have c2 : ((l : Int) - 1) = ((l - 1 : Nat) : Int) := by lia
    unfold wayL wayN
    rw [c1, c2, ← Int.natCast_ediv, ← Int.natCast_ediv, ← Int.natCast_emod, ← Int.natCast_emod]
    have e1 := wayL_nat f l ((r - 1) % l + 1) h1 (by lia)
    have e2 := wayL_nat f ((l - 1) % r + 1) r (by lia) h2
    simp only [Int.natCast_add, Int.natCast_one] at e1 e2
    rw [e1, e2]
    by_cases a : l = r
    · rw [if_pos a, if_pos (by lia)]
    · rw [if_neg a, if_neg (by lia)]
      by_cases b : l < r
      · rw [if_pos b, if_pos (by lia)]; rfl
      · rw [if_neg b, if_neg (by lia)]; rfl
def subsN : Nat → Nat → Nat → Nat
  | 0, _, _ => 0
  | f + 1, l, r => if l = r then 0 else if l < r then 1 + subsN f l (r - l) else 1 + subsN f (l - r) r
theorem subs_nat : ∀ (f l r : Nat), subs f (l : Int) (r : Int) = (subsN f l r : Int)
  | 0, _, _ => rfl
  | f + 1, l, r => by
    unfold subs subsN
    by_cases a : l = r
    · rw [if_pos a, if_pos (by lia)]; rfl
    · rw [if_neg a, if_neg (by lia)]
      by_cases b : l < r
      · rw [if_pos b, if_pos (by lia), show ((r : Int) - l) = ((r - l : Nat) : Int) by lia, subs_nat f l (r - l)]; lia
      · rw [if_neg b, if_neg (by lia), show ((l : Int) - r) = ((l - r : Nat) : Int) by lia, subs_nat f (l - r) r]; lia
def invGN (s w : Nat) (l : List Nat) (k : Nat) : List Nat := if s * k % w = 1 then l ++ [k] else l
def invN (s w : Nat) : Nat := (((List.range (w / 2)).map fun i => 1 + i * 2).foldl (invGN s w) []).getD 0 0
theorem inv_fold (s w : Nat) : ∀ (ks l : List Nat), (ks.map fun k : Nat => (k : Int)).foldl (invG (s : Int) (w : Int)) (l.map fun k : Nat => (k : Int)) = (ks.foldl (invGN s w) l).map fun k : Nat => (k : Int)
  | [], _ => rfl
  | k :: ks, l => by
    rw [List.map_cons, List.foldl_cons, List.foldl_cons]
    have e : invG (s : Int) (w : Int) (l.map fun k : Nat => (k : Int)) (k : Int) = (invGN s w l k).map fun k : Nat => (k : Int) := by
      unfold invG invGN
      by_cases a : s * k % w = 1
      · rw [if_pos a, if_pos (by rw [← Int.natCast_mul, ← Int.natCast_emod, a]; rfl)]; simp
      · rw [if_neg a, if_neg (by rw [← Int.natCast_mul, ← Int.natCast_emod]; lia)]
    rw [e]
    exact inv_fold s w ks _
theorem inv_list (s w : Nat) : (odds ((w : Int) / 2).toNat).foldl (invG (s : Int) (w : Int)) [] = (((List.range (w / 2)).map fun i => 1 + i * 2).foldl (invGN s w) []).map fun k : Nat => (k : Int) := by
  have e : ((w : Int) / 2).toNat = w / 2 := by lia
  have e2 : odds (w / 2) = ((List.range (w / 2)).map fun i => 1 + i * 2).map fun k : Nat => (k : Int) := by
    unfold odds
    rw [List.map_map]
    apply List.map_congr_left
    intro i _
    show (1 : Int) + (i : Int) * 2 = ((1 + i * 2 : Nat) : Int)
    lia
  rw [e, e2]
  exact inv_fold s w _ []
theorem inv_nat (s w : Nat) : inv (s : Int) (w : Int) = (invN s w : Int) := by
  unfold inv invN
  rw [inv_list]
  generalize ((List.range (w / 2)).map fun i => 1 + i * 2).foldl (invGN s w) [] = l
  cases l <;> rfl
theorem inv_some {s w : Nat} (h : 0 < invN s w) : 0 < ((odds ((w : Int) / 2).toNat).foldl (invG (s : Int) (w : Int)) []).length := by
  rw [inv_list, List.length_map]
  unfold invN at h
  generalize ((List.range (w / 2)).map fun i => 1 + i * 2).foldl (invGN s w) [] = l at h ⊢
  cases l with
  | nil => exact absurd h (by simp)
  | cons a r => simp
/-- a piece: the hue, its way, its elders, its span -/
structure PT where
  n : Nat
  d : Nat
  f : List Nat
  e0 : Nat
  e1 : Nat
  e2 : Nat
  e3 : Nat
  s0 : Nat
  s1 : Nat
  s2 : Nat
  s3 : Nat
def pcT : List PT := [
  ⟨1, 2, [], 0, 1, 1, 1, 0, 1, 1, 1⟩,
  ⟨1, 4, [76, 76], 0, 1, 1, 3, 0, 1, 1, 3⟩,
  ⟨3, 8, [76, 82, 76], 1, 3, 2, 5, 1, 3, 2, 5⟩,
  ⟨1, 16, [76, 76, 76, 76, 76, 76, 76, 76, 76, 76, 76, 76, 76, 76], 0, 1, 1, 15, 0, 1, 1, 15⟩,
  ⟨3, 16, [76, 76, 76, 76, 82, 82], 2, 11, 1, 5, 2, 3, 9, 13⟩,
  ⟨5, 16, [76, 76, 82, 82, 82, 82], 4, 13, 1, 3, 4, 5, 9, 11⟩,
  ⟨7, 16, [76, 82, 82, 82, 76], 3, 7, 4, 9, 3, 7, 4, 9⟩,
  ⟨9, 16, [82, 76, 76, 76, 82], 5, 9, 4, 7, 5, 9, 4, 7⟩,
  ⟨11, 16, [82, 82, 76, 76, 76, 76], 2, 3, 9, 13, 2, 11, 1, 5⟩,
  ⟨13, 16, [82, 82, 82, 82, 76, 76], 4, 5, 9, 11, 4, 13, 1, 3⟩,
  ⟨15, 16, [82, 82, 82, 82, 82, 82, 82, 82, 82, 82, 82, 82, 82, 82], 14, 15, 1, 1, 14, 15, 1, 1⟩]
def btwN (a b c d sm wh : Nat) : Bool := decide (a * wh < sm * b) && decide (sm * d < c * wh)
theorem btw_nat {x : Nat → Int} {a b c d : Nat} (h0 : x 0 = (a : Int)) (h1 : x 1 = (b : Int)) (h2 : x 2 = (c : Int)) (h3 : x 3 = (d : Int)) (sm wh : Nat) : btw x (sm : Int) (wh : Int) = btwN a b c d sm wh := by
  unfold btw btwN
  rw [h0, h1, h2, h3]
  simp only [← Int.natCast_mul, Int.ofNat_lt]
def PT.ok (p : PT) : Bool := wayL 64 (p.n : Int) ((p.d : Int) - p.n) == p.f && decide (p.f.length ≤ 64) && decide (pel p.n p.d 0 = p.e0) && decide (pel p.n p.d 1 = p.e1) && decide (pel p.n p.d 2 = p.e2) && decide (pel p.n p.d 3 = p.e3)
  && decide (psn p.n p.d 0 = p.s0) && decide (psn p.n p.d 1 = p.s1) && decide (psn p.n p.d 2 = p.s2) && decide (psn p.n p.d 3 = p.s3)
  && decide (p.e0 ≤ 64) && decide (p.e1 ≤ 64) && decide (p.e2 ≤ 64) && decide (p.e3 ≤ 64) && decide (p.s0 ≤ 64) && decide (p.s1 ≤ 64) && decide (p.s2 ≤ 64) && decide (p.s3 ≤ 64)
theorem pcT_ok : pcT.all PT.ok = true := by decide +kernel
def chkG (wh r : Nat) (g : List Nat) (iv : Nat) : Bool := decide (0 < iv) && decide (iv < wh) && decide (r * iv % wh = 1) && decide (g.length ≤ 64) && (wayN 64 iv (wh - iv) == g.reverse) && (wayN 64 (wh - r) r == g.map swp) && decide (g.length = subsN 64 r (wh - r))
  && pcT.all fun p => (begL p.f g == btwN p.e0 p.e1 p.e2 p.e3 r wh) && (endL p.f g == btwN p.s0 p.s1 p.s2 p.s3 iv wh)
def chk (wh r : Nat) : Bool := chkG wh r (wayN 64 r (wh - r)) (invN r wh)
def chkW (wh : Nat) : Bool := (List.range (wh / 2)).all fun i => chk wh (1 + i * 2)

theorem chk_8 : chkW 8 = true := by decide +kernel

theorem chk_16 : chkW 16 = true := by decide +kernel

theorem chk_32 : chkW 32 = true := by decide +kernel

theorem chk_64 : chkW 64 = true := by decide +kernel

set_option maxHeartbeats 2000000
theorem chk_all {wh r : Nat} (hw : wh = 8 ∨ wh = 16 ∨ wh = 32 ∨ wh = 64) (ho : r % 2 = 1) (hr : r < wh) : chk wh r = true := by
  have key : chkW wh = true → chk wh r = true := by
    intro h
    have q := List.all_eq_true.mp h (r / 2) (List.mem_range.mpr (by lia))
    rw [show 1 + r / 2 * 2 = r by lia] at q
    exact q
  rcases hw with rfl | rfl | rfl | rfl
  · exact key chk_8
  · exact key chk_16
  · exact key chk_32
  · exact key chk_64
/-- a piece as the table has it -/
structure PtOk (p : PT) : Prop where
  w : wayL 64 (p.n : Int) ((p.d : Int) - p.n) = p.f
  l : p.f.length ≤ 64
  e : pel p.n p.d 0 = p.e0 ∧ pel p.n p.d 1 = p.e1 ∧ pel p.n p.d 2 = p.e2 ∧ pel p.n p.d 3 = p.e3
  s : psn p.n p.d 0 = p.s0 ∧ psn p.n p.d 1 = p.s1 ∧ psn p.n p.d 2 = p.s2 ∧ psn p.n p.d 3 = p.s3
  be : p.e0 ≤ 64 ∧ p.e1 ≤ 64 ∧ p.e2 ≤ 64 ∧ p.e3 ≤ 64
  bs : p.s0 ≤ 64 ∧ p.s1 ≤ 64 ∧ p.s2 ≤ 64 ∧ p.s3 ≤ 64
theorem pt_ok {p : PT} (h : p ∈ pcT) : PtOk p := by
  have q := List.all_eq_true.mp pcT_ok p h
  unfold PT.ok at q
  simp only [Bool.and_eq_true, decide_eq_true_eq, beq_iff_eq] at q
  obtain ⟨⟨⟨⟨⟨⟨⟨⟨⟨⟨⟨⟨⟨⟨⟨⟨⟨a, b⟩, c0⟩, c1⟩, c2⟩, c3⟩, d0⟩, d1⟩, d2⟩, d3⟩, x0⟩, x1⟩, x2⟩, x3⟩, y0⟩, y1⟩, y2⟩, y3⟩ := q
  exact ⟨a, b, ⟨c0, c1, c2, c3⟩, ⟨d0, d1, d2, d3⟩, ⟨x0, x1, x2, x3⟩, ⟨y0, y1, y2, y3⟩⟩
/-- what the finite law says of a hue r of wh -/
structure FinOk (wh r : Int) : Prop where
  i2 : 0 < ((odds (wh / 2).toNat).foldl (invG r wh) []).length
  b5 : 0 < inv r wh
  b6 : inv r wh < wh
  one : r * inv r wh % wh = 1
  l1 : (wayL 64 r (wh - r)).length ≤ 64
  w1 : (txt (wayL 64 (inv r wh) (wh - inv r wh)) != txt (wayL 64 r (wh - r)).reverse) = false
  w2 : (txt (wayL 64 (wh - r) (wh - (wh - r))) != txt ((wayL 64 r (wh - r)).map swp)) = false
  pair : ∀ p ∈ pcT, ∀ q ∈ pcT, PairOk (txt p.f) (txt q.f) (txt (wayL 64 r (wh - r))) (btw (pel p.n p.d) r wh) (btw (psn q.n q.d) (inv r wh) wh) (subs 64 r (wh - r))
theorem ne_false {a b : List Nat} (h : a = b) : (txt a != txt b) = false := by rw [h]; exact bne_self_eq_false _
theorem fin_ok {wh r : Nat} (hw : wh = 8 ∨ wh = 16 ∨ wh = 32 ∨ wh = 64) (ho : r % 2 = 1) (hr : r < wh) : FinOk (wh : Int) (r : Int) := by
  have h := chk_all hw ho hr
  unfold chk chkG at h
  simp only [Bool.and_eq_true, decide_eq_true_eq, beq_iff_eq, List.all_eq_true] at h
  obtain ⟨⟨⟨⟨⟨⟨⟨h1, h2⟩, h3⟩, h4⟩, h5⟩, h6⟩, h7⟩, h8⟩ := h
  have r0 : 0 < r := by lia
  have c1 : ((wh : Int) - (r : Int)) = ((wh - r : Nat) : Int) := by lia
  have c2 : ((wh : Int) - (invN r wh : Int)) = ((wh - invN r wh : Nat) : Int) := by lia
  have c3 : ((wh : Int) - ((wh - r : Nat) : Int)) = (r : Int) := by lia
  have e1 : wayL 64 (r : Int) ((wh : Int) - r) = wayN 64 r (wh - r) := by rw [c1]; exact wayL_nat 64 r (wh - r) r0 (by lia)
  refine ⟨inv_some h1, ?_, ?_, ?_, ?_, ?_, ?_, fun p hp q hq => ?_⟩
  · rw [inv_nat]; lia
  · rw [inv_nat]; lia
  · rw [inv_nat, ← Int.natCast_mul, ← Int.natCast_emod, h3]; rfl
  · rw [e1]; exact h4
  · rw [inv_nat, c2, wayL_nat 64 _ _ h1 (by lia), e1]
    exact ne_false h5
  · rw [c1, c3, wayL_nat 64 _ _ (by lia) r0, ← c1, e1]
    exact ne_false h6
  · have P := pt_ok hp
    have R := pt_ok hq
    refine pair_ok (by rw [← P.w]; exact way_no46 _ _) (by rw [← R.w]; exact way_no46 _ _) P.l R.l ?_ ?_ ?_
    · rw [e1, (h8 p hp).1]
      exact (btw_nat P.e.1 P.e.2.1 P.e.2.2.1 P.e.2.2.2 r wh).symm
    · rw [e1, (h8 q hq).2, inv_nat]
      exact (btw_nat R.s.1 R.s.2.1 R.s.2.2.1 R.s.2.2.2 _ wh).symm
    · rw [e1, c1, subs_nat, h7]
/-- the pieces that the third number k makes -/
def pcI (k i : Nat) : Nat := pick4 i 0 1 2 (3 + k)
theorem pc_at {k i : Nat} (hk : k < 8) (hi : i < 4) : ∃ p ∈ pcT, (p.n : Int) = pn (2 * (k : Int) + 1) i ∧ (p.d : Int) = pd i := by
  have hk' : k = 0 ∨ k = 1 ∨ k = 2 ∨ k = 3 ∨ k = 4 ∨ k = 5 ∨ k = 6 ∨ k = 7 := by lia
  have hi' : i = 0 ∨ i = 1 ∨ i = 2 ∨ i = 3 := by lia
  have mem : ∀ j, (h : j < pcT.length) → pcT[j] ∈ pcT := fun j h => List.getElem_mem h
  rcases hi' with rfl | rfl | rfl | rfl
  · exact ⟨_, mem 0 (by decide), rfl, rfl⟩
  · exact ⟨_, mem 1 (by decide), rfl, rfl⟩
  · exact ⟨_, mem 2 (by decide), rfl, rfl⟩
  · rcases hk' with rfl | rfl | rfl | rfl | rfl | rfl | rfl | rfl
    · exact ⟨_, mem 3 (by decide), rfl, rfl⟩
    · exact ⟨_, mem 4 (by decide), rfl, rfl⟩
    · exact ⟨_, mem 5 (by decide), rfl, rfl⟩
    · exact ⟨_, mem 6 (by decide), rfl, rfl⟩
    · exact ⟨_, mem 7 (by decide), rfl, rfl⟩
    · exact ⟨_, mem 8 (by decide), rfl, rfl⟩
    · exact ⟨_, mem 9 (by decide), rfl, rfl⟩
    · exact ⟨_, mem 10 (by decide), rfl, rfl⟩
theorem third (n2 : Int) : ∃ k : Nat, k < 8 ∧ 2 * n2.fmod 8 + 1 = 2 * (k : Int) + 1 := by
  have h := fmod_range n2 (show (0 : Int) < 8 by decide)
  exact ⟨(n2.fmod 8).toNat, by lia, by lia⟩
theorem pc_of (n2 : Int) {i : Nat} (hi : i < 4) : ∃ p ∈ pcT, pn (2 * n2.fmod 8 + 1) i = (p.n : Int) ∧ pd i = (p.d : Int) := by
  obtain ⟨k, hk, e⟩ := third n2
  obtain ⟨p, hp, h1, h2⟩ := pc_at hk hi
  exact ⟨p, hp, by rw [e]; exact h1.symm, h2.symm⟩
theorem hpx_ok (n2 : Int) : PieceOk (2 * n2.fmod 8 + 1) 16 := by
  obtain ⟨k, hk, e⟩ := third n2
  rw [e]
  have hk' : k = 0 ∨ k = 1 ∨ k = 2 ∨ k = 3 ∨ k = 4 ∨ k = 5 ∨ k = 6 ∨ k = 7 := by lia
  rcases hk' with rfl | rfl | rfl | rfl | rfl | rfl | rfl | rfl <;> exact ⟨by decide, by decide, by decide, by decide +kernel, by decide +kernel, by decide +kernel, by decide +kernel, by decide +kernel, by decide +kernel⟩
theorem hbd_ok (n2 : Int) (i : Nat) (hi : i < 4) : ∀ j, j < 4 → (0 ≤ psn (pn (2 * n2.fmod 8 + 1) i) (pd i) j ∧ psn (pn (2 * n2.fmod 8 + 1) i) (pd i) j ≤ 64) ∧ (0 ≤ pel (pn (2 * n2.fmod 8 + 1) i) (pd i) j ∧ pel (pn (2 * n2.fmod 8 + 1) i) (pd i) j ≤ 64) := by
  obtain ⟨p, hp, h1, h2⟩ := pc_of n2 hi
  have P := pt_ok hp
  obtain ⟨a0, a1, a2, a3⟩ := P.e
  obtain ⟨b0, b1, b2, b3⟩ := P.s
  obtain ⟨c0, c1, c2, c3⟩ := P.be
  obtain ⟨d0, d1, d2, d3⟩ := P.bs
  rw [h1, h2]
  refine case4 ?_ ?_ ?_ ?_
  · rw [a0, b0]; lia
  · rw [a1, b1]; lia
  · rw [a2, b2]; lia
  · rw [a3, b3]; lia
/-- parts P of a wheel wh, in 2048ths -/
structure Geo (wh P g X i j U : Int) : Prop where
  g0 : 0 < g
  g1 : g ≤ 256
  gw : g * wh = 2048
  hX : X = P * g
  s : 6 * X = 2048 * i + 64 * j
  i0 : 0 ≤ i
  i1 : i < 1000
  j1 : 1 ≤ j
  j2 : j ≤ 31
  k : 6 * U = 2048 * (i % 6) + 64 * j
  u : U = (P % wh) * g
  u0 : 0 < U
  u1 : U < 2048
  x0 : 0 ≤ X
  x1 : X < 1000000
theorem geo {wh P : Int} (hw : wh = 8 ∨ wh = 16 ∨ wh = 32 ∨ wh = 64) (hP : P % 2 = 1) (h0 : 0 < P) (h1 : P < 64 * wh) : ∃ g X i j U, Geo wh P g X i j U := by
  rcases hw with rfl | rfl | rfl | rfl
  · exact ⟨256, P * 256, 6 * (P * 256) / 2048, 6 * (P * 256) % 2048 / 64, P % 8 * 256, by decide, by decide, by decide, rfl, by lia, by lia, by lia, by lia, by lia, by lia, rfl, by lia, by lia, by lia, by lia⟩
  · exact ⟨128, P * 128, 6 * (P * 128) / 2048, 6 * (P * 128) % 2048 / 64, P % 16 * 128, by decide, by decide, by decide, rfl, by lia, by lia, by lia, by lia, by lia, by lia, rfl, by lia, by lia, by lia, by lia⟩
  · exact ⟨64, P * 64, 6 * (P * 64) / 2048, 6 * (P * 64) % 2048 / 64, P % 32 * 64, by decide, by decide, by decide, rfl, by lia, by lia, by lia, by lia, by lia, by lia, rfl, by lia, by lia, by lia, by lia⟩
  · exact ⟨32, P * 32, 6 * (P * 32) / 2048, 6 * (P * 32) % 2048 / 64, P % 64 * 32, by decide, by decide, by decide, rfl, by lia, by lia, by lia, by lia, by lia, by lia, rfl, by lia, by lia, by lia, by lia⟩

set_option maxHeartbeats 2000000
theorem intOf_fx {z : Int} (hz : Small (2048 * z)) (h0 : 0 ≤ z) : IntOf (fx (2048 * z)) z := by
  refine ⟨fx_isNaN hz, fx_isInf hz, ?_⟩
  rw [fx_trunc hz (by lia)]
  lia
theorem eq_fx {x : Int} (hx : Small x) : (Float64.cmp (fx x) (fx x) == some Ordering.eq) = true := by
  rw [beq_fx hx hx]
  exact decide_eq_true rfl
theorem times_wheel {x wh z : Int} (hx : Small x) (x0 : 0 ≤ x) (w0 : 0 ≤ wh) (w1 : wh ≤ 64) (hz : Small (2048 * z)) (h : x * wh = 2048 * z) : Float64.mul (fx x) (Float64.ofInt wh) = fx (2048 * z) := by
  rw [fx_ofInt (small_of (by lia) (by lia))]
  refine fx_mul hx (small_of (by lia) (by lia)) hz x0 (by lia) ?_
  rw [← Int.mul_assoc, h]
theorem drawn_ok {a b wh r dr : Int} {g X i j U g' X' i' j' U' : Int} (a1 : 1 ≤ a) (a2 : a ≤ 8) (b1 : 1 ≤ b) (b2 : b ≤ 8) (hw : wh = 8 ∨ wh = 16 ∨ wh = 32 ∨ wh = 64)
    (hr : r = (2 * dr.fmod (4 * wh) + 1) % wh) (r0 : 0 < r) (r1 : r < wh) (fin : FinOk wh r)
    (G : Geo wh (2 * dr.fmod (4 * wh) + 1) g X i j U) (G' : Geo wh (r * inv r wh) g' X' i' j' U') (d0 : 0 ≤ dr.fmod (4 * wh)) :
    ∃ (x R Gr B U y x' R2 G2 B2 V2 y2 : UInt64), DrawnOk (fx (256 * a)) (fx (256 * b)) wh dr x R Gr B U y x' R2 G2 B2 V2 y2 r (wh - r) := by
  have C := Col.mk' a1 a2 b1 b2 G.j1 G.j2
  have C' := Col.mk' a1 a2 b1 b2 G'.j1 G'.j2
  have g0 := G.g0
  have g1 := G.g1
  have gw := G.gw
  have u0 := G.u0
  have u1 := G.u1
  have x0 := G.x0
  have x1 := G.x1
  have x0' := G'.x0
  have x1' := G'.x1
  have i0 := G.i0
  have i0' := G'.i0
  have sU : Small U := small_of (by lia) (by lia)
  have sV : Small (2048 - U) := small_of (by lia) (by lia)
  have sg : Small g := small_of (by lia) (by lia)
  have gg : g' = g := by
    have := G'.gw
    rw [← gw] at this
    exact Int.eq_of_mul_eq_mul_right (by lia) this
  have hu : U = r * g := by rw [hr]; exact G.u
  have hu' : U' = g := by rw [G'.u, fin.one, gg, Int.one_mul]
  have m0 : 0 ≤ i % 6 := Int.emod_nonneg _ (by decide)
  have m1 : i % 6 < 6 := Int.emod_lt_of_pos _ (by decide)
  have m0' : 0 ≤ i' % 6 := Int.emod_nonneg _ (by decide)
  have m1' : i' % 6 < 6 := Int.emod_lt_of_pos _ (by decide)
  have hsub : Float64.sub 4607182418800017408 (fx U) = fx (2048 - U) := by rw [fx_one]; exact fx_sub (small_of (by decide) (by decide)) sU sV
  obtain ⟨sw1, sw2, sw3⟩ := col_swap (b := b) (c := a * b) (e := a * b * j) m0 (by lia)
  have hy1 : U * wh = 2048 * r := by rw [hu, Int.mul_assoc, gw, Int.mul_comm]
  have hy2 : (2048 - U) * wh = 2048 * (wh - r) := by rw [Int.sub_mul, hy1, Int.mul_sub]
  have hfm : (2 * dr.fmod (4 * wh) + 1).fmod wh = r := by rw [Int.fmod_eq_emod_of_nonneg _ (by lia), hr]
  have sr : Small (2048 * r) := small_of (by lia) (by lia)
  have sw : Small (2048 * (wh - r)) := small_of (by lia) (by lia)
  have ri : 0 ≤ r * inv r wh := Int.mul_nonneg (by lia) (Int.le_of_lt fin.b5)
  refine ⟨fx X, fx (colR (i % 6) b (a * b) (a * b * j)), fx (colG (i % 6) b (a * b) (a * b * j)), fx (colB (i % 6) b (a * b) (a * b * j)), fx U, fx (2048 * r), fx X', fx (colR (i' % 6) b (a * b) (a * b * j')), fx (colG (i' % 6) b (a * b) (a * b * j')), fx (colB (i' % 6) b (a * b) (a * b * j')), fx g, fx (2048 * (wh - r)), ?_⟩
  refine { s1 := eq_fx (small_of (by lia) (by lia)), s2 := eq_fx (small_of (by lia) (by lia)), s3 := ?_, x1 := ?_, x2 := fx_isInf (small_of (by lia) (by lia)), x3 := col_hsv C G.i0 G.i1 G.s, x4 := col_rgb C m0 (by lia) G.k, x5 := ?_, x6 := ?_, x7 := ?_, i1 := intOf_fx sr (by lia), b3 := r0, b4 := r1, i2 := fin.i2, b5 := fin.b5, b6 := fin.b6, p1 := ?_, p2 := fx_isInf (small_of (by lia) (by lia)), p3 := col_hsv C' G'.i0 G'.i1 G'.s, p4 := ?_, p5 := ?_, p6 := fx_isInf sg, p7 := eq_fx sg, j1 := ?_, j2 := intOf_fx sw (by lia), b7 := by lia, b8 := by lia, l1 := fin.l1, w1 := fin.w1, w2 := fin.w2 }
  · rw [hsub]; exact eq_fx sV
  · exact fx_qf (small_of (by lia) (by lia)) (by lia) (by lia) (by rw [G.hX, Int.mul_assoc, gw])
  · rw [hsub, sw1, sw2, sw3]
    refine col_rgb C.sw (by lia) (by lia) ?_
    have := G.k
    lia
  · exact times_wheel sU (by lia) (by lia) (by lia) sr hy1
  · rw [hfm, fx_cmpInt sr, Int.mul_comm r]
    have : compare (2048 * r) (2048 * r) = .eq := Int.compare_eq_eq.mpr rfl
    rw [this]; rfl
  · exact fx_qf (small_of (by lia) (by lia)) ri (by lia) (by rw [G'.hX, Int.mul_assoc (r * inv r wh) g' wh, G'.gw])
  · have k := G'.k
    rw [← hu']
    exact col_rgb C' m0' (by lia) k
  · exact fx_qf sg (by decide) (by lia) (by rw [Int.one_mul, gw])
  · rw [hsub]
    exact times_wheel sV (by lia) (by lia) (by lia) sw hy2
theorem hall_ok (n0 n1 n2 dr : Int) (t e sp : Nat → Addr) (tw : Nat → Tok) (te ts : Nat → Nat → Tok) (k1 k2 k3 : Nat → Nat) : DrawnAll (mkD (2 * n2.fmod 8 + 1) t e sp tw te ts k1 k2 k3) (shF n1) (lvF n1) (whF n0) dr := by
  have hw := whF_cases n0
  have ha := fmod_range n1 (show (0 : Int) < 8 by decide)
  have hb := lv_range n1
  unfold shF lvF
  generalize whF n0 = wh at hw ⊢
  have hd := fmod_range dr (k := 4 * wh) (by lia)
  have hodd : (2 * dr.fmod (4 * wh) + 1) % wh % 2 = 1 := by
    rcases hw with rfl | rfl | rfl | rfl <;> lia
  have hr0 := Int.emod_nonneg (2 * dr.fmod (4 * wh) + 1) (show wh ≠ 0 by lia)
  have hr1 := Int.emod_lt_of_pos (2 * dr.fmod (4 * wh) + 1) (show 0 < wh by lia)
  obtain ⟨g, X, i, j, U, G⟩ := geo (P := 2 * dr.fmod (4 * wh) + 1) hw (by lia) (by lia) (by lia)
  have hfin : FinOk wh ((2 * dr.fmod (4 * wh) + 1) % wh) := by
    have q := fin_ok (wh := wh.toNat) (r := ((2 * dr.fmod (4 * wh) + 1) % wh).toNat) (by lia) (by lia) (by lia)
    rw [Int.toNat_of_nonneg (show 0 ≤ wh by lia), Int.toNat_of_nonneg hr0] at q
    exact q
  have hl : (2 * dr.fmod (4 * wh) + 1) % wh * inv ((2 * dr.fmod (4 * wh) + 1) % wh) wh < 64 * wh := by
    have b5 := hfin.b5
    have b6 := hfin.b6
    have q : (2 * dr.fmod (4 * wh) + 1) % wh * inv ((2 * dr.fmod (4 * wh) + 1) % wh) wh ≤ (2 * dr.fmod (4 * wh) + 1) % wh * wh := Int.mul_le_mul_of_nonneg_left (by lia) hr0
    have q2 : (2 * dr.fmod (4 * wh) + 1) % wh * wh ≤ 63 * wh := Int.mul_le_mul_of_nonneg_right (by lia) (by lia)
    lia
  have h0 : 0 < (2 * dr.fmod (4 * wh) + 1) % wh := by lia
  have hl0 : 0 < (2 * dr.fmod (4 * wh) + 1) % wh * inv ((2 * dr.fmod (4 * wh) + 1) % wh) wh := Int.mul_pos h0 hfin.b5
  have hone := hfin.one
  have ho2 : (2 * dr.fmod (4 * wh) + 1) % wh * inv ((2 * dr.fmod (4 * wh) + 1) % wh) wh % 2 = 1 := by
    generalize (2 * dr.fmod (4 * wh) + 1) % wh * inv ((2 * dr.fmod (4 * wh) + 1) % wh) wh = z at hone
    rcases hw with rfl | rfl | rfl | rfl <;> lia
  obtain ⟨g', X', i', j', U', G'⟩ := geo hw ho2 hl0 hl
  obtain ⟨x, R, Gr, B, U1, y, x', R2, G2, B2, V2, y2, ok⟩ := drawn_ok (a := n1.fmod 8 + 1) (b := (n1.fmod 64).fdiv 8 + 1) (by lia) (by lia) hb.1 hb.2 hw rfl h0 hr1 hfin G G' hd.1
  refine ⟨x, R, Gr, B, U1, y, x', R2, G2, B2, V2, y2, _, _, ok, fun i hi j hj => ?_⟩
  obtain ⟨p, hp, p1, p2⟩ := pc_of n2 hi
  obtain ⟨q, hq, q1, q2⟩ := pc_of n2 hj
  have k := hfin.pair p hp q hq
  show PairOk (pwy (pn (2 * n2.fmod 8 + 1) i) (pd i)) (pwy (pn (2 * n2.fmod 8 + 1) j) (pd j)) _ (btw (pel (pn (2 * n2.fmod 8 + 1) i) (pd i)) _ _) (btw (psn (pn (2 * n2.fmod 8 + 1) j) (pd j)) _ _) _
  rw [p1, p2, q1, q2]
  unfold pwy
  rw [(pt_ok hp).w, (pt_ok hq).w]
  exact k

set_option maxHeartbeats 2000000
theorem hold : Challenge.rw_pe0195_01.Holds := Mine.hd (by
  k_with_none
  k_go0
  change wpAny (model Challenge.rw_pe0195_01.row.prog _) (ktrTop _ _ _ _ lawScope _ _ _ [] _) (execs (fnBody lawDef) (envX _ lawScope _ _ _ [])) _ _ _
  rename Fr _ _ _ _ => F2
  rename News _ _ _ _ => N2
  rename Top _ _ _ _ _ _ => T2
  rename Below _ _ _ _ => B2
  rename IntsAre _ _ => hI2
  rename Heap.IsList _ _ _ => hS2
  rename CodeHd _ _ _ => hc2
  rename ¬_ < _ => hn2
  with_reducible refine law_body B2 F2 (by assumption) N2 T2 ?e1 hS2 hI2 ?hn hc2 (by assumption) hall_ok hpx_ok hbd_ok ?hd ?hu ?hE ?hret
  case e1 => exact rfl
  case hn => omega
  case hd => decide
  case hu => decide
  case hE => passes_own
  intro m' h' tk' news' F3 N3 hT
  obtain ⟨c1, c2, o1, o2, v1, v2, u1, u2, m1, m2, m3, m4, r⟩ := hT
  refine ⟨?_, GrownAt.of N3 m3, GrownAt.of N3 m1, trivial⟩
  k_steps)
end Mine
theorem PySem.Challenge.cw_pe0195_01_holds : PySem.Challenge.rw_pe0195_01.Holds := by
  exact Mine.hold
