import JvmDerived
import JvmDerived.Pilot.@@N@@Statement
import JvmDerived.Pilot.@@N@@Code
set_option linter.unusedVariables false
set_option linter.unusedSimpArgs false
namespace Jvm.Pilot.@@N@@
open Jvm Jvm.ClassFile Sem Op Lib Jvm.Free Jvm.Stand Jvm.LawKit Jvm.RoadKit Bundle Jvm.Pilot.@@N@@.Jvm.D
def own_QP (r : Option Value) (h0 : Heap) (n0 : Nat) (v : Option Value) (h : Heap) (L : List Loc) : Prop := v = r ∧ Fr n0 L ∧ h = h0
def own_Q0 (n0 : Nat) (v : Option Value) (h : Heap) (L : List Loc) : Prop := v = some (.int 1) ∧ Fr n0 L
section OwnWords
variable {args : Array Value} {s : State}
theorem own_eqI {t : Term} {k : Int32} (h : (Jvm.Cond.eq t (.int k)).value args s none s [] = some true) : t.eval args s none [] s = some (.int k) := by
  obtain ⟨x, y, h1, h2, h3, h4⟩ := cmp_v (Or.inl h)
  obtain rfl : y = .int k := (Option.some.inj h2).symm
  obtain ⟨z, rfl⟩ := h4
  have q := gotT (Cond.eq_ints h1 h2) h
  rw [h1, q]
theorem own_eqR {t u : Term} {b : Addr} (h : (Jvm.Cond.eq t u).value args s none s [] = some true) (hu : u.eval args s none [] s = some (.ref b)) : t.eval args s none [] s = some (.ref b) := by
  obtain ⟨x, y, h1, h2, h3, h4⟩ := cmp_v (Or.inl h)
  obtain rfl : y = .ref b := Option.some.inj (h2.symm.trans hu)
  have q := gotT (eq_R h1 h2 h4.2 h4.1) h
  rw [h1, q]
theorem own_fld {t : Term} {C n d : String} {a : Addr} {v : Value} (ht : t.eval args s none [] s = some (.ref a)) (h : (Term.field t C n d).eval args s none [] s = some v) : Fld s s.heap a C n d v := Fld.start ((fld_at ht).symm.trans h)
end OwnWords
theorem own_staKeep {Z : State} {h h' : Heap} {C n d : String} {v : Value} {ws : List Addr} (F : Sta Z h C n d v) (K : Keep h h' ws) (q : ∀ x ∈ ws, ∀ cell : Cell, h[x]? = some cell → cell.vm.isStatics = false) : Sta Z h' C n d v := by
  obtain ⟨cf, i, k, f, st, cell, h1, h2, h3, h4, h5, h6, h7⟩ := F
  refine ⟨cf, i, k, f, st, cell, h1, h2, h3, h4, K.2.1 st cell h5 (fun z => ?_), h6, h7⟩
  rw [q st z cell h5] at h6; cases h6
def own_mh (q0 : Int64) (q1 : Int64) : Int64 := ((((q0 >>> ((32 : Int32) &&& 0x3f).toInt64) * (q1 >>> ((32 : Int32) &&& 0x3f).toInt64)) + ((((q0 >>> ((32 : Int32) &&& 0x3f).toInt64) * (q1 &&& (4294967295 : Int64))) + ((((q0 &&& (4294967295 : Int64)) * (q1 &&& (4294967295 : Int64))).toUInt64 >>> ((32 : Int32) &&& 0x3f).toInt64.toUInt64).toInt64)) >>> ((32 : Int32) &&& 0x3f).toInt64)) + ((((((q0 >>> ((32 : Int32) &&& 0x3f).toInt64) * (q1 &&& (4294967295 : Int64))) + ((((q0 &&& (4294967295 : Int64)) * (q1 &&& (4294967295 : Int64))).toUInt64 >>> ((32 : Int32) &&& 0x3f).toInt64.toUInt64).toInt64)) &&& (4294967295 : Int64)) + ((q0 &&& (4294967295 : Int64)) * (q1 >>> ((32 : Int32) &&& 0x3f).toInt64))) >>> ((32 : Int32) &&& 0x3f).toInt64))
def own_mix (q0 : Int64) : Int64 := (((((q0 ^^^ ((q0.toUInt64 >>> ((30 : Int32) &&& 0x3f).toInt64.toUInt64).toInt64)) * (-4658895280553007687 : Int64)) ^^^ ((((q0 ^^^ ((q0.toUInt64 >>> ((30 : Int32) &&& 0x3f).toInt64.toUInt64).toInt64)) * (-4658895280553007687 : Int64)).toUInt64 >>> ((27 : Int32) &&& 0x3f).toInt64.toUInt64).toInt64)) * (-7723592293110705685 : Int64)) ^^^ ((((((q0 ^^^ ((q0.toUInt64 >>> ((30 : Int32) &&& 0x3f).toInt64.toUInt64).toInt64)) * (-4658895280553007687 : Int64)) ^^^ ((((q0 ^^^ ((q0.toUInt64 >>> ((30 : Int32) &&& 0x3f).toInt64.toUInt64).toInt64)) * (-4658895280553007687 : Int64)).toUInt64 >>> ((27 : Int32) &&& 0x3f).toInt64.toUInt64).toInt64)) * (-7723592293110705685 : Int64)).toUInt64 >>> ((31 : Int32) &&& 0x3f).toInt64.toUInt64).toInt64))
def own_muh (q0 : Int64) (q1 : Int64) : Int64 := ((((((q0.toUInt64 >>> ((32 : Int32) &&& 0x3f).toInt64.toUInt64).toInt64) * ((q1.toUInt64 >>> ((32 : Int32) &&& 0x3f).toInt64.toUInt64).toInt64)) + ((((q0 &&& (4294967295 : Int64)) * ((q1.toUInt64 >>> ((32 : Int32) &&& 0x3f).toInt64.toUInt64).toInt64)).toUInt64 >>> ((32 : Int32) &&& 0x3f).toInt64.toUInt64).toInt64)) + (((((q0.toUInt64 >>> ((32 : Int32) &&& 0x3f).toInt64.toUInt64).toInt64) * (q1 &&& (4294967295 : Int64))).toUInt64 >>> ((32 : Int32) &&& 0x3f).toInt64.toUInt64).toInt64)) + ((((((((q0 &&& (4294967295 : Int64)) * (q1 &&& (4294967295 : Int64))).toUInt64 >>> ((32 : Int32) &&& 0x3f).toInt64.toUInt64).toInt64) + (((q0 &&& (4294967295 : Int64)) * ((q1.toUInt64 >>> ((32 : Int32) &&& 0x3f).toInt64.toUInt64).toInt64)) &&& (4294967295 : Int64))) + ((((q0.toUInt64 >>> ((32 : Int32) &&& 0x3f).toInt64.toUInt64).toInt64) * (q1 &&& (4294967295 : Int64))) &&& (4294967295 : Int64))).toUInt64 >>> ((32 : Int32) &&& 0x3f).toInt64.toUInt64).toInt64))
def own_nx (z c : Int64) : Int64 := ((own_mh z c) + ((z >>> ((63 : Int32) &&& 0x3f).toInt64) &&& c))
theorem own_s32 : (((32 : Int32)).toBitVec.toNat % 64) = 32 := by decide
theorem own_bnd {a b h1 h2 l1 : Int} (p1 : l1 ≤ a) (p2 : a ≤ h1) (q1 : 0 ≤ b) (q2 : b ≤ h2) : l1 * b ≤ a * b ∧ a * b ≤ h1 * b := ⟨Int.mul_le_mul_of_nonneg_right p1 q1, Int.mul_le_mul_of_nonneg_right p2 q1⟩
theorem own_m64 {w p : Int} (h : (w - p) % 18446744073709551616 = 0) (r : -9223372036854775808 ≤ w ∧ w < 9223372036854775808) (b : -9223372036854775808 ≤ p ∧ p < 9223372036854775808) : w = p := by omega
theorem own_u64 {w p : Int} (h : (w - p) % 18446744073709551616 = 0) (b : 0 ≤ p ∧ p < 18446744073709551616) : w % 18446744073709551616 = p := by omega
theorem own_mm {w p : Int} (h : (w - p) % 18446744073709551616 = 0) : w % 4294967296 = p % 4294967296 := by omega
theorem own_pA {a b : Int} (p1 : -2147483648 ≤ a) (p2 : a ≤ 2147483647) (q1 : 0 ≤ b) (q2 : b ≤ 2147483647) : -4611686018427387904 ≤ a * b ∧ a * b ≤ 4611686018427387904 := by
  have h := own_bnd p1 p2 q1 q2; omega
theorem own_pB {a b : Int} (p1 : -2147483648 ≤ a) (p2 : a ≤ 2147483647) (q1 : 0 ≤ b) (q2 : b ≤ 4294967295) : -9223372034707292160 ≤ a * b ∧ a * b ≤ 9223372030412324865 := by
  have h := own_bnd p1 p2 q1 q2; omega
theorem own_pE {a b : Int} (p1 : 0 ≤ a) (p2 : a ≤ 4294967295) (q1 : 0 ≤ b) (q2 : b ≤ 2147483647) : 0 ≤ a * b ∧ a * b ≤ 9223372030412324865 := by
  have h := own_bnd p1 p2 q1 q2; omega
theorem own_pF {a b : Int} (p1 : 0 ≤ a) (p2 : a ≤ 4294967295) (q1 : 0 ≤ b) (q2 : b ≤ 4294967295) : 0 ≤ a * b ∧ a * b ≤ 18446744065119617025 := by
  have h := own_bnd p1 p2 q1 q2; omega
theorem own_pN {a b : Int} (p2 : a ≤ -1) (q1 : 0 ≤ b) : a * b ≤ -b := by
  have h := Int.mul_le_mul_of_nonneg_right p2 q1; omega
theorem own_pU {a b : Int} (p2 : a ≤ 4294967295) (q1 : 0 ≤ b) : a * b ≤ 4294967295 * b := Int.mul_le_mul_of_nonneg_right p2 q1
theorem own_rT {B F : Int} (hB : -9223372034707292160 ≤ B ∧ B ≤ 9223372030412324865) (hF : 0 ≤ F ∧ F ≤ 18446744065119617025) : -9223372036854775808 ≤ B + F / 4294967296 ∧ B + F / 4294967296 < 9223372036854775808 := by omega
theorem own_rU {T E : Int} (hE : 0 ≤ E ∧ E ≤ 9223372030412324865) : -9223372036854775808 ≤ T % 4294967296 + E ∧ T % 4294967296 + E < 9223372036854775808 := by omega
theorem own_rV {A T : Int} (hA : -4611686018427387904 ≤ A ∧ A ≤ 4611686018427387904) (hT : -9223372036854775808 ≤ T ∧ T < 9223372036854775808) : -9223372036854775808 ≤ A + T / 4294967296 ∧ A + T / 4294967296 < 9223372036854775808 := by omega
theorem own_rW {A T U : Int} (hA : -4611686018427387904 ≤ A ∧ A ≤ 4611686018427387904) (hT : -9223372036854775808 ≤ T ∧ T < 9223372036854775808) (hU : -9223372036854775808 ≤ U ∧ U < 9223372036854775808) : -9223372036854775808 ≤ A + T / 4294967296 + U / 4294967296 ∧ A + T / 4294967296 + U / 4294967296 < 9223372036854775808 := by omega
theorem own_rN {A B E F y1 y2 C : Int} (hC : C = y1 * 4294967296 + y2) (h1 : 0 ≤ y1 ∧ y1 ≤ 2147483647) (h2 : 0 ≤ y2 ∧ y2 ≤ 4294967295) (hA : -4611686018427387904 ≤ A) (hA' : A ≤ -y1) (hB : -9223372034707292160 ≤ B) (hB' : B ≤ -y2) (hE : 0 ≤ E) (hE' : E ≤ 4294967295 * y1) (hF : 0 ≤ F) (hF' : F ≤ 4294967295 * y2) :
    -9223372036854775808 ≤ A + (B + F / 4294967296) / 4294967296 + ((B + F / 4294967296) % 4294967296 + E) / 4294967296 + C ∧ A + (B + F / 4294967296) / 4294967296 + ((B + F / 4294967296) % 4294967296 + E) / 4294967296 + C < 9223372036854775808 := by omega
theorem own_fin1 (A B E F : Int) : A + (B + F / 4294967296) / 4294967296 + ((B + F / 4294967296) % 4294967296 + E) / 4294967296 = A + E / 4294967296 + B / 4294967296 + (F / 4294967296 + E % 4294967296 + B % 4294967296) / 4294967296 := by omega
theorem own_fin2 (A B E F y1 y2 C : Int) (hC : C = y1 * 4294967296 + y2) : A + (B + F / 4294967296) / 4294967296 + ((B + F / 4294967296) % 4294967296 + E) / 4294967296 + C = A + 4294967296 * y1 + E / 4294967296 + (B + 4294967296 * y2) / 4294967296 + (F / 4294967296 + E % 4294967296 + (B + 4294967296 * y2) % 4294967296) / 4294967296 := by omega
theorem own_x1 (Z : Int) (r : -9223372036854775808 ≤ Z ∧ Z < 9223372036854775808) : -2147483648 ≤ Z / 4294967296 ∧ Z / 4294967296 ≤ 2147483647 := by omega
theorem own_xp (Z : Int) (r : 0 ≤ Z ∧ Z < 9223372036854775808) : 0 ≤ Z / 4294967296 ∧ Z / 4294967296 ≤ 2147483647 := by omega
theorem own_x2 (Z : Int) : 0 ≤ Z % 4294967296 ∧ Z % 4294967296 ≤ 4294967295 := by omega
theorem own_xu (Z : Int) (r : -9223372036854775808 ≤ Z ∧ Z < 9223372036854775808) (h : Z < 0) : (Z % 18446744073709551616) / 4294967296 = Z / 4294967296 + 4294967296 := by omega
theorem own_xv (Z : Int) (r : -9223372036854775808 ≤ Z ∧ Z < 9223372036854775808) (h : ¬ Z < 0) : (Z % 18446744073709551616) / 4294967296 = Z / 4294967296 := by omega
theorem own_split (C : Int) : C = C / 4294967296 * 4294967296 + C % 4294967296 := by omega
theorem own_pw32 : ((2 ^ 32 : Nat) : Int) = 4294967296 := by decide
theorem own_shr (x : Int64) : (x >>> ((32 : Int32) &&& 0x3f).toInt64).toInt = x.toInt / 4294967296 := by rw [c_lshr x (32 : Int32) 32 own_s32, own_pw32]
theorem own_ushr (x : Int64) : ((x.toUInt64 >>> ((32 : Int32) &&& 0x3f).toInt64.toUInt64).toInt64).toInt = (x.toInt % 18446744073709551616) / 4294967296 := by rw [c_lushr x (32 : Int32) 32 own_s32 (by decide), own_pw32]
theorem own_msk (x : Int64) : (x &&& (4294967295 : Int64)).toInt = x.toInt % 4294967296 := by rw [c_maskL x (4294967295 : Int64) 32 (by decide) (by decide), own_pw32]
/-- JDK's multiplyHigh, in plain integers -/
theorem own_mhI (z c : Int64) (hc : 0 ≤ c.toInt) : (own_mh z c).toInt = (z.toInt / 4294967296) * (c.toInt / 4294967296) + ((z.toInt / 4294967296) * (c.toInt % 4294967296) + ((z.toInt % 4294967296) * (c.toInt % 4294967296)) / 4294967296) / 4294967296 + (((z.toInt / 4294967296) * (c.toInt % 4294967296) + ((z.toInt % 4294967296) * (c.toInt % 4294967296)) / 4294967296) % 4294967296 + (z.toInt % 4294967296) * (c.toInt / 4294967296)) / 4294967296 := by
  have x1 := own_shr z
  have y1 := own_shr c
  have x2 := own_msk z
  have y2 := own_msk c
  have hx1 := own_x1 _ (rng64 z)
  have hy1 := own_xp _ ⟨hc, (rng64 c).2⟩
  have hx2 := own_x2 z.toInt
  have hy2 := own_x2 c.toInt
  rw [← x1, ← y1, ← x2, ← y2]
  rw [← x1] at hx1
  rw [← y1] at hy1
  rw [← x2] at hx2
  rw [← y2] at hy2
  unfold own_mh
  generalize (z >>> ((32 : Int32) &&& 0x3f).toInt64) = X1 at *
  generalize (c >>> ((32 : Int32) &&& 0x3f).toInt64) = Y1 at *
  generalize (z &&& (4294967295 : Int64)) = X2 at *
  generalize (c &&& (4294967295 : Int64)) = Y2 at *
  have bA := own_pA hx1.1 hx1.2 hy1.1 hy1.2
  have bB := own_pB hx1.1 hx1.2 hy2.1 hy2.2
  have bE := own_pE hx2.1 hx2.2 hy1.1 hy1.2
  have bF := own_pF hx2.1 hx2.2 hy2.1 hy2.2
  have eD : (((X2 * Y2).toUInt64 >>> ((32 : Int32) &&& 0x3f).toInt64.toUInt64).toInt64).toInt = (X2.toInt * Y2.toInt) / 4294967296 := by
    rw [own_ushr, own_u64 (c_lmul X2 Y2) ⟨bF.1, Int.lt_of_le_of_lt bF.2 (by decide)⟩]
  generalize (((X2 * Y2).toUInt64 >>> ((32 : Int32) &&& 0x3f).toInt64.toUInt64).toInt64) = D at *
  have eB : (X1 * Y2).toInt = X1.toInt * Y2.toInt := own_m64 (c_lmul X1 Y2) (rng64 _) ⟨Int.le_trans (by decide) bB.1, Int.lt_of_le_of_lt bB.2 (by decide)⟩
  have eE : (X2 * Y1).toInt = X2.toInt * Y1.toInt := own_m64 (c_lmul X2 Y1) (rng64 _) ⟨Int.le_trans (by decide) bE.1, Int.lt_of_le_of_lt bE.2 (by decide)⟩
  have eA : (X1 * Y1).toInt = X1.toInt * Y1.toInt := own_m64 (c_lmul X1 Y1) (rng64 _) ⟨Int.le_trans (by decide) bA.1, Int.lt_of_le_of_lt bA.2 (by decide)⟩
  have rT := own_rT bB bF
  have eT : (X1 * Y2 + D).toInt = X1.toInt * Y2.toInt + (X2.toInt * Y2.toInt) / 4294967296 := by
    have q := c_ladd (X1 * Y2) D
    rw [eB, eD] at q
    exact own_m64 q (rng64 _) rT
  have eTs := own_shr (X1 * Y2 + D)
  have eTm := own_msk (X1 * Y2 + D)
  rw [eT] at eTs eTm
  generalize ((X1 * Y2 + D) >>> ((32 : Int32) &&& 0x3f).toInt64) = Ts at *
  generalize ((X1 * Y2 + D) &&& (4294967295 : Int64)) = Tm at *
  have rU := own_rU (T := X1.toInt * Y2.toInt + (X2.toInt * Y2.toInt) / 4294967296) bE
  have eU : (Tm + X2 * Y1).toInt = (X1.toInt * Y2.toInt + (X2.toInt * Y2.toInt) / 4294967296) % 4294967296 + X2.toInt * Y1.toInt := by
    have q := c_ladd Tm (X2 * Y1)
    rw [eE, eTm] at q
    exact own_m64 q (rng64 _) rU
  have eUs := own_shr (Tm + X2 * Y1)
  rw [eU] at eUs
  generalize ((Tm + X2 * Y1) >>> ((32 : Int32) &&& 0x3f).toInt64) = Us at *
  have eV : (X1 * Y1 + Ts).toInt = X1.toInt * Y1.toInt + (X1.toInt * Y2.toInt + (X2.toInt * Y2.toInt) / 4294967296) / 4294967296 := by
    have q := c_ladd (X1 * Y1) Ts
    rw [eA, eTs] at q
    exact own_m64 q (rng64 _) (own_rV bA rT)
  have q := c_ladd (X1 * Y1 + Ts) Us
  rw [eV, eUs] at q
  exact own_m64 q (rng64 _) (own_rW bA rT rU)
theorem own_sgn (z c : Int64) : ((z >>> ((63 : Int32) &&& 0x3f).toInt64) &&& c).toInt = if z.toInt < 0 then c.toInt else 0 := by
  have sg := c_lshr z (63 : Int32) 63 (by decide)
  have p63 : ((2 ^ 63 : Nat) : Int) = 9223372036854775808 := by decide
  rw [p63] at sg
  have rz := rng64 z
  have z0 : (0 : Int64).toInt = 0 := rfl
  have z1 : (-1 : Int64).toInt = -1 := rfl
  generalize (z >>> ((63 : Int32) &&& 0x3f).toInt64) = S at *
  split
  · have : S = -1 := Int64.toInt_inj.mp (by rw [z1]; omega)
    rw [this, Int64.and_comm, Int64.and_neg_one]
  · have : S = 0 := Int64.toInt_inj.mp (by rw [z0]; omega)
    rw [this, Int64.zero_and, z0]
theorem own_nxI (z c : Int64) (hc : (0 : Int64) < c) : (own_nx z c).toInt = (((z.toInt % 18446744073709551616) / 4294967296) * (c.toInt / 4294967296)) + ((z.toInt % 4294967296) * (c.toInt / 4294967296)) / 4294967296 + (((z.toInt % 18446744073709551616) / 4294967296) * (c.toInt % 4294967296)) / 4294967296 + (((z.toInt % 4294967296) * (c.toInt % 4294967296)) / 4294967296 + ((z.toInt % 4294967296) * (c.toInt / 4294967296)) % 4294967296 + (((z.toInt % 18446744073709551616) / 4294967296) * (c.toInt % 4294967296)) % 4294967296) / 4294967296 := by
  have z0 : (0 : Int64).toInt = 0 := rfl
  rw [Int64.lt_iff_toInt_lt, z0] at hc
  have rz := rng64 z
  have m := own_mhI z c (Int.le_of_lt hc)
  have s := own_sgn z c
  unfold own_nx
  have q := c_ladd (own_mh z c) ((z >>> ((63 : Int32) &&& 0x3f).toInt64) &&& c)
  have rq := rng64 (own_mh z c + ((z >>> ((63 : Int32) &&& 0x3f).toInt64) &&& c))
  rw [m, s] at q
  by_cases hz : z.toInt < 0
  · rw [if_pos hz] at q
    rw [own_xu _ rz hz, Int.add_mul, Int.add_mul]
    have hy1 := own_xp c.toInt ⟨Int.le_of_lt hc, (rng64 c).2⟩
    have hy2 := own_x2 c.toInt
    have hx1 := own_x1 _ rz
    have hx2 := own_x2 z.toInt
    have hn : z.toInt / 4294967296 ≤ -1 := by omega
    have bA := own_pA hx1.1 hx1.2 hy1.1 hy1.2
    have bB := own_pB hx1.1 hx1.2 hy2.1 hy2.2
    have bE := own_pE hx2.1 hx2.2 hy1.1 hy1.2
    have bF := own_pF hx2.1 hx2.2 hy2.1 hy2.2
    rw [own_m64 q rq (own_rN (own_split c.toInt) hy1 hy2 bA.1 (own_pN hn hy1.1) bB.1 (own_pN hn hy2.1) bE.1 (own_pU hx2.2 hy1.1) bF.1 (own_pU hx2.2 hy2.1))]
    exact own_fin2 _ _ _ _ _ _ _ (own_split c.toInt)
  · rw [if_neg hz, Int.add_zero] at q
    rw [own_xv _ rz hz]
    rw [own_m64 q rq (by rw [← m]; exact rng64 _)]
    exact own_fin1 _ _ _ _
theorem own_t3 {F E B : Int} (hF : 0 ≤ F ∧ F ≤ 18446744065119617025) : (-9223372036854775808 ≤ F / 4294967296 + E % 4294967296 ∧ F / 4294967296 + E % 4294967296 < 9223372036854775808) ∧ (-9223372036854775808 ≤ F / 4294967296 + E % 4294967296 + B % 4294967296 ∧ F / 4294967296 + E % 4294967296 + B % 4294967296 < 9223372036854775808) ∧ (F / 4294967296 + E % 4294967296 + B % 4294967296) % 18446744073709551616 = F / 4294967296 + E % 4294967296 + B % 4294967296 := by omega
theorem own_t4 {A E B T y1 : Int} (hA : 0 ≤ A) (hA' : A ≤ 4294967295 * y1) (h1 : 0 ≤ y1 ∧ y1 ≤ 2147483647) (hE : 0 ≤ E ∧ E ≤ 9223372030412324865) (hB : 0 ≤ B ∧ B ≤ 18446744065119617025) (hT : 0 ≤ T ∧ T ≤ 12884901885) : (-9223372036854775808 ≤ A ∧ A < 9223372036854775808) ∧ (-9223372036854775808 ≤ A + E / 4294967296 ∧ A + E / 4294967296 < 9223372036854775808) ∧ (-9223372036854775808 ≤ A + E / 4294967296 + B / 4294967296 ∧ A + E / 4294967296 + B / 4294967296 < 9223372036854775808) ∧ (-9223372036854775808 ≤ A + E / 4294967296 + B / 4294967296 + T / 4294967296 ∧ A + E / 4294967296 + B / 4294967296 + T / 4294967296 < 9223372036854775808) := by omega
theorem own_t5 {F E B : Int} (hF : 0 ≤ F ∧ F ≤ 18446744065119617025) : 0 ≤ F / 4294967296 + E % 4294967296 + B % 4294967296 ∧ F / 4294967296 + E % 4294967296 + B % 4294967296 ≤ 12884901885 := by omega
theorem own_muhI (z c : Int64) (hc : (0 : Int64) < c) : (own_muh z c).toInt = (((z.toInt % 18446744073709551616) / 4294967296) * (c.toInt / 4294967296)) + ((z.toInt % 4294967296) * (c.toInt / 4294967296)) / 4294967296 + (((z.toInt % 18446744073709551616) / 4294967296) * (c.toInt % 4294967296)) / 4294967296 + (((z.toInt % 4294967296) * (c.toInt % 4294967296)) / 4294967296 + ((z.toInt % 4294967296) * (c.toInt / 4294967296)) % 4294967296 + (((z.toInt % 18446744073709551616) / 4294967296) * (c.toInt % 4294967296)) % 4294967296) / 4294967296 := by
  have z0 : (0 : Int64).toInt = 0 := rfl
  rw [Int64.lt_iff_toInt_lt, z0] at hc
  have hy1 := own_xp c.toInt ⟨Int.le_of_lt hc, (rng64 c).2⟩
  have ec : c.toInt % 18446744073709551616 = c.toInt := by have := rng64 c; omega
  have hx1 : 0 ≤ (z.toInt % 18446744073709551616) / 4294967296 ∧ (z.toInt % 18446744073709551616) / 4294967296 ≤ 4294967295 := by omega
  have hx2 := own_x2 z.toInt
  have hy2 := own_x2 c.toInt
  have x1 := own_ushr z
  have y1 := own_ushr c
  have x2 := own_msk z
  have y2 := own_msk c
  rw [ec] at y1
  rw [← x1, ← y1, ← x2, ← y2]
  rw [← x1] at hx1
  rw [← y1] at hy1
  rw [← x2] at hx2
  rw [← y2] at hy2
  unfold own_muh
  generalize ((z.toUInt64 >>> ((32 : Int32) &&& 0x3f).toInt64.toUInt64).toInt64) = X1 at *
  generalize ((c.toUInt64 >>> ((32 : Int32) &&& 0x3f).toInt64.toUInt64).toInt64) = Y1 at *
  generalize (z &&& (4294967295 : Int64)) = X2 at *
  generalize (c &&& (4294967295 : Int64)) = Y2 at *
  have bA := own_pE hx1.1 hx1.2 hy1.1 hy1.2
  have bB := own_pF hx1.1 hx1.2 hy2.1 hy2.2
  have bE := own_pE hx2.1 hx2.2 hy1.1 hy1.2
  have bF := own_pF hx2.1 hx2.2 hy2.1 hy2.2
  have e1 : (((X2 * Y2).toUInt64 >>> ((32 : Int32) &&& 0x3f).toInt64.toUInt64).toInt64).toInt = (X2.toInt * Y2.toInt) / 4294967296 := by
    rw [own_ushr, own_u64 (c_lmul X2 Y2) ⟨bF.1, Int.lt_of_le_of_lt bF.2 (by decide)⟩]
  have e2 : (((X2 * Y1).toUInt64 >>> ((32 : Int32) &&& 0x3f).toInt64.toUInt64).toInt64).toInt = (X2.toInt * Y1.toInt) / 4294967296 := by
    rw [own_ushr, own_u64 (c_lmul X2 Y1) ⟨bE.1, Int.lt_of_le_of_lt bE.2 (by decide)⟩]
  have e3 : (((X1 * Y2).toUInt64 >>> ((32 : Int32) &&& 0x3f).toInt64.toUInt64).toInt64).toInt = (X1.toInt * Y2.toInt) / 4294967296 := by
    rw [own_ushr, own_u64 (c_lmul X1 Y2) ⟨bB.1, Int.lt_of_le_of_lt bB.2 (by decide)⟩]
  have e4 : ((X2 * Y1) &&& (4294967295 : Int64)).toInt = (X2.toInt * Y1.toInt) % 4294967296 := by rw [own_msk, own_mm (c_lmul X2 Y1)]
  have e5 : ((X1 * Y2) &&& (4294967295 : Int64)).toInt = (X1.toInt * Y2.toInt) % 4294967296 := by rw [own_msk, own_mm (c_lmul X1 Y2)]
  generalize (((X2 * Y2).toUInt64 >>> ((32 : Int32) &&& 0x3f).toInt64.toUInt64).toInt64) = S1 at *
  generalize (((X2 * Y1).toUInt64 >>> ((32 : Int32) &&& 0x3f).toInt64.toUInt64).toInt64) = S2 at *
  generalize (((X1 * Y2).toUInt64 >>> ((32 : Int32) &&& 0x3f).toInt64.toUInt64).toInt64) = S3 at *
  generalize ((X2 * Y1) &&& (4294967295 : Int64)) = M2 at *
  generalize ((X1 * Y2) &&& (4294967295 : Int64)) = M3 at *
  have t3 := own_t3 (F := X2.toInt * Y2.toInt) (E := X2.toInt * Y1.toInt) (B := X1.toInt * Y2.toInt) bF
  have t5 := own_t5 (F := X2.toInt * Y2.toInt) (E := X2.toInt * Y1.toInt) (B := X1.toInt * Y2.toInt) bF
  have a1 : (S1 + M2).toInt = (X2.toInt * Y2.toInt) / 4294967296 + (X2.toInt * Y1.toInt) % 4294967296 := by
    have q := c_ladd S1 M2
    rw [e1, e4] at q
    exact own_m64 q (rng64 _) t3.1
  have a2 : (S1 + M2 + M3).toInt = (X2.toInt * Y2.toInt) / 4294967296 + (X2.toInt * Y1.toInt) % 4294967296 + (X1.toInt * Y2.toInt) % 4294967296 := by
    have q := c_ladd (S1 + M2) M3
    rw [a1, e5] at q
    exact own_m64 q (rng64 _) t3.2.1
  have a3 : (((S1 + M2 + M3).toUInt64 >>> ((32 : Int32) &&& 0x3f).toInt64.toUInt64).toInt64).toInt = ((X2.toInt * Y2.toInt) / 4294967296 + (X2.toInt * Y1.toInt) % 4294967296 + (X1.toInt * Y2.toInt) % 4294967296) / 4294967296 := by
    rw [own_ushr, a2, t3.2.2]
  generalize (((S1 + M2 + M3).toUInt64 >>> ((32 : Int32) &&& 0x3f).toInt64.toUInt64).toInt64) = S4 at *
  have t4 := own_t4 bA.1 (own_pU hx1.2 hy1.1) hy1 bE bB t5
  have b0 : (X1 * Y1).toInt = X1.toInt * Y1.toInt := own_m64 (c_lmul X1 Y1) (rng64 _) t4.1
  have b1 : (X1 * Y1 + S2).toInt = X1.toInt * Y1.toInt + (X2.toInt * Y1.toInt) / 4294967296 := by
    have q := c_ladd (X1 * Y1) S2
    rw [b0, e2] at q
    exact own_m64 q (rng64 _) t4.2.1
  have b2 : (X1 * Y1 + S2 + S3).toInt = X1.toInt * Y1.toInt + (X2.toInt * Y1.toInt) / 4294967296 + (X1.toInt * Y2.toInt) / 4294967296 := by
    have q := c_ladd (X1 * Y1 + S2) S3
    rw [b1, e3] at q
    exact own_m64 q (rng64 _) t4.2.2.1
  have q := c_ladd (X1 * Y1 + S2 + S3) S4
  rw [b2, a3] at q
  exact own_m64 q (rng64 _) t4.2.2.2
theorem own_expand (a b c d : Int) : (a * 4294967296 + b) * (c * 4294967296 + d) = a * c * 18446744073709551616 + (a * d + b * c) * 4294967296 + b * d := by
  rw [Int.add_mul, Int.mul_add, Int.mul_add]
  have e1 : a * 4294967296 * (c * 4294967296) = a * c * 18446744073709551616 := by
    rw [Int.mul_assoc, Int.mul_left_comm 4294967296 c, ← Int.mul_assoc]; rfl
  have e2 : a * 4294967296 * d = a * d * 4294967296 := by rw [Int.mul_assoc, Int.mul_comm 4294967296 d, ← Int.mul_assoc]
  have e3 : b * (c * 4294967296) = b * c * 4294967296 := by rw [← Int.mul_assoc]
  rw [e1, e2, e3]; omega
theorem own_small (u c : Int) (h0 : 0 ≤ u) (h1 : u < 18446744073709551616) (hc : 0 < c) : 0 ≤ ((u / 4294967296) * (c / 4294967296)) + ((u % 4294967296) * (c / 4294967296)) / 4294967296 + ((u / 4294967296) * (c % 4294967296)) / 4294967296 + (((u % 4294967296) * (c % 4294967296)) / 4294967296 + ((u % 4294967296) * (c / 4294967296)) % 4294967296 + ((u / 4294967296) * (c % 4294967296)) % 4294967296) / 4294967296 ∧ ((u / 4294967296) * (c / 4294967296)) + ((u % 4294967296) * (c / 4294967296)) / 4294967296 + ((u / 4294967296) * (c % 4294967296)) / 4294967296 + (((u % 4294967296) * (c % 4294967296)) / 4294967296 + ((u % 4294967296) * (c / 4294967296)) % 4294967296 + ((u / 4294967296) * (c % 4294967296)) % 4294967296) / 4294967296 < c := by
  have ex := own_expand (u / 4294967296) (u % 4294967296) (c / 4294967296) (c % 4294967296)
  have eu : u / 4294967296 * 4294967296 + u % 4294967296 = u := by omega
  have ec : c / 4294967296 * 4294967296 + c % 4294967296 = c := by omega
  rw [eu, ec] at ex
  have up : u * c ≤ 18446744073709551615 * c := Int.mul_le_mul_of_nonneg_right (by omega) (by omega)
  have n1 : 0 ≤ (u / 4294967296) * (c / 4294967296) := Int.mul_nonneg (by omega) (by omega)
  have n2 : 0 ≤ (u % 4294967296) * (c / 4294967296) := Int.mul_nonneg (by omega) (by omega)
  have n3 : 0 ≤ (u / 4294967296) * (c % 4294967296) := Int.mul_nonneg (by omega) (by omega)
  have n4 : 0 ≤ (u % 4294967296) * (c % 4294967296) := Int.mul_nonneg (by omega) (by omega)
  generalize (u / 4294967296) * (c / 4294967296) = A at *
  generalize (u % 4294967296) * (c / 4294967296) = E at *
  generalize (u / 4294967296) * (c % 4294967296) = B at *
  generalize (u % 4294967296) * (c % 4294967296) = F at *
  generalize u * c = G at *
  omega
theorem own_ok1 (z c : Int64) (hc : (0 : Int64) < c) : (own_nx z c) = (own_muh z c) := Int64.toInt_inj.mp ((own_nxI z c hc).trans (own_muhI z c hc).symm)
theorem own_rngI (z c : Int64) (hc : (0 : Int64) < c) : 0 ≤ (own_nx z c).toInt ∧ (own_nx z c).toInt < c.toInt := by
  have z0 : (0 : Int64).toInt = 0 := rfl
  have h := own_small (z.toInt % 18446744073709551616) c.toInt (by omega) (by omega) (by rw [Int64.lt_iff_toInt_lt, z0] at hc; exact hc)
  have e : z.toInt % 18446744073709551616 % 4294967296 = z.toInt % 4294967296 := by omega
  rw [e] at h
  rw [own_nxI z c hc]; exact h
theorem own_ok2 (z c : Int64) (hc : (0 : Int64) < c) : ¬ ((own_nx z c) < (0 : Int64)) := by
  have h := own_rngI z c hc
  have z0 : (0 : Int64).toInt = 0 := rfl
  rw [Int64.lt_iff_toInt_lt, z0]; omega
theorem own_ok3 (z c : Int64) (hc : (0 : Int64) < c) : (own_nx z c) < c := by
  rw [Int64.lt_iff_toInt_lt]; exact (own_rngI z c hc).2
theorem own_cpos {x : Int64} {k : Int32} (h : ¬ ((((x &&& (9223372036854775807 : Int64)).toUInt64 >>> (k &&& 0x3f).toInt64.toUInt64).toInt64) = (0 : Int64))) : (0 : Int64) < (((x &&& (9223372036854775807 : Int64)).toUInt64 >>> (k &&& 0x3f).toInt64.toUInt64).toInt64) := by
  have z0 : (0 : Int64).toInt = 0 := rfl
  have m := c_maskL x (9223372036854775807 : Int64) 63 (by decide) (by decide)
  generalize (x &&& (9223372036854775807 : Int64)) = y at *
  have hy : y.toBitVec.toNat < 2 ^ 63 := by
    have := y.toBitVec.isLt
    have e : y.toInt = y.toBitVec.toInt := rfl
    rw [e, BitVec.toInt_eq_toNat_cond] at m
    split at m <;> omega
  have hs : ((y.toUInt64 >>> (k &&& 0x3f).toInt64.toUInt64).toInt64).toBitVec.toNat < 2 ^ 63 := by
    show (y.toUInt64 >>> (k &&& 0x3f).toInt64.toUInt64).toNat < 2 ^ 63
    rw [UInt64.toNat_shiftRight]
    refine Nat.lt_of_le_of_lt (Nat.shiftRight_le _ _) ?_
    exact hy
  generalize ((y.toUInt64 >>> (k &&& 0x3f).toInt64.toUInt64).toInt64) = w at *
  have hw : w.toInt = w.toBitVec.toNat := by
    show w.toBitVec.toInt = _
    rw [BitVec.toInt_eq_toNat_cond]; split <;> omega
  have hn : ¬ w.toInt = 0 := fun q => h (Int64.toInt_inj.mp (q.trans z0.symm))
  rw [Int64.lt_iff_toInt_lt, z0]; omega
theorem d2_0 : decode jdk_30_method_1_code 0 = .ok (.aload_n 0, 1) := by decide +kernel
theorem d2_1 : decode jdk_30_method_1_code 1 = .ok (.invokespecial 1, 3) := by decide +kernel
theorem d2_4 : decode jdk_30_method_1_code 4 = .ok (.return_, 1) := by decide +kernel
theorem pn_2 : plainName "java/lang/Record" = true := by first | (simp [plainName, overriddenIn]; done) | decide +kernel
theorem d1_0 : decode prog_10_method_1_code 0 = .ok (.aload_n 0, 1) := by decide +kernel
theorem d1_1 : decode prog_10_method_1_code 1 = .ok (.invokespecial 1, 3) := by decide +kernel
theorem pd___V : parseMethodDescriptor "()V" = some ⟨[], none⟩ := by decide +kernel
theorem d1_4 : decode prog_10_method_1_code 4 = .ok (.aload_n 0, 1) := by decide +kernel
theorem d1_5 : decode prog_10_method_1_code 5 = .ok (.lload_n 1, 1) := by decide +kernel
theorem d1_6 : decode prog_10_method_1_code 6 = .ok (.putfield 7, 3) := by decide +kernel
theorem d1_9 : decode prog_10_method_1_code 9 = .ok (.aload_n 0, 1) := by decide +kernel
theorem d1_10 : decode prog_10_method_1_code 10 = .ok (.lload_n 3, 1) := by decide +kernel
theorem d1_11 : decode prog_10_method_1_code 11 = .ok (.putfield 13, 3) := by decide +kernel
theorem d1_14 : decode prog_10_method_1_code 14 = .ok (.return_, 1) := by decide +kernel
theorem pn_1 : plainName "com/example/keys_to_bits/keystobits/Murmur3$Hash128" = true := by first | (simp [plainName, overriddenIn]; done) | decide +kernel
theorem d6_0 : decode prog_10_method_5_code 0 = .ok (.aload_n 0, 1) := by decide +kernel
theorem d6_1 : decode prog_10_method_5_code 1 = .ok (.getfield 7, 3) := by decide +kernel
theorem d6_4 : decode prog_10_method_5_code 4 = .ok (.lreturn, 1) := by decide +kernel
theorem pn_6 : plainName "com/example/keys_to_bits/keystobits/Murmur3$Hash128" = true := by first | (simp [plainName, overriddenIn]; done) | decide +kernel
theorem d5_0 : decode prog_10_method_6_code 0 = .ok (.aload_n 0, 1) := by decide +kernel
theorem d5_1 : decode prog_10_method_6_code 1 = .ok (.getfield 13, 3) := by decide +kernel
theorem d5_4 : decode prog_10_method_6_code 4 = .ok (.lreturn, 1) := by decide +kernel
theorem pn_5 : plainName "com/example/keys_to_bits/keystobits/Murmur3$Hash128" = true := by first | (simp [plainName, overriddenIn]; done) | decide +kernel
theorem d4_0 : decode prog_11_method_1_code 0 = .ok (.aload_n 0, 1) := by decide +kernel
theorem d4_1 : decode prog_11_method_1_code 1 = .ok (.invokespecial 1, 3) := by decide +kernel
theorem d4_4 : decode prog_11_method_1_code 4 = .ok (.aload_n 0, 1) := by decide +kernel
theorem d4_5 : decode prog_11_method_1_code 5 = .ok (.aload_n 1, 1) := by decide +kernel
theorem d4_6 : decode prog_11_method_1_code 6 = .ok (.invokevirtual 7, 3) := by decide +kernel
theorem pd___J : parseMethodDescriptor "()J" = some ⟨[], some .long⟩ := by decide +kernel
theorem d4_9 : decode prog_11_method_1_code 9 = .ok (.putfield 13, 3) := by decide +kernel
theorem d4_12 : decode prog_11_method_1_code 12 = .ok (.aload_n 0, 1) := by decide +kernel
theorem d4_13 : decode prog_11_method_1_code 13 = .ok (.lload_n 2, 1) := by decide +kernel
theorem d4_14 : decode prog_11_method_1_code 14 = .ok (.putfield 19, 3) := by decide +kernel
theorem d4_17 : decode prog_11_method_1_code 17 = .ok (.aload_n 0, 1) := by decide +kernel
theorem d4_18 : decode prog_11_method_1_code 18 = .ok (.aload_n 1, 1) := by decide +kernel
theorem d4_19 : decode prog_11_method_1_code 19 = .ok (.invokevirtual 22, 3) := by decide +kernel
theorem d4_22 : decode prog_11_method_1_code 22 = .ok (.putfield 25, 3) := by decide +kernel
theorem d4_25 : decode prog_11_method_1_code 25 = .ok (.return_, 1) := by decide +kernel
theorem pn_4 : plainName "com/example/keys_to_bits/keystobits/Probes" = true := by first | (simp [plainName, overriddenIn]; done) | decide +kernel
theorem d8_0 : decode jdk_29_method_45_code 0 = .ok (.lload_n 0, 1) := by decide +kernel
theorem d8_1 : decode jdk_29_method_45_code 1 = .ok (.bipush 32, 2) := by decide +kernel
theorem d8_3 : decode jdk_29_method_45_code 3 = .ok (.lshr, 1) := by decide +kernel
theorem d8_4 : decode jdk_29_method_45_code 4 = .ok (.lstore 4, 2) := by decide +kernel
theorem d8_6 : decode jdk_29_method_45_code 6 = .ok (.lload_n 0, 1) := by decide +kernel
theorem d8_7 : decode jdk_29_method_45_code 7 = .ok (.ldc2_w 138, 3) := by decide +kernel
theorem d8_10 : decode jdk_29_method_45_code 10 = .ok (.land, 1) := by decide +kernel
theorem d8_11 : decode jdk_29_method_45_code 11 = .ok (.lstore 6, 2) := by decide +kernel
theorem d8_13 : decode jdk_29_method_45_code 13 = .ok (.lload_n 2, 1) := by decide +kernel
theorem d8_14 : decode jdk_29_method_45_code 14 = .ok (.bipush 32, 2) := by decide +kernel
theorem d8_16 : decode jdk_29_method_45_code 16 = .ok (.lshr, 1) := by decide +kernel
theorem d8_17 : decode jdk_29_method_45_code 17 = .ok (.lstore 8, 2) := by decide +kernel
theorem d8_19 : decode jdk_29_method_45_code 19 = .ok (.lload_n 2, 1) := by decide +kernel
theorem d8_20 : decode jdk_29_method_45_code 20 = .ok (.ldc2_w 138, 3) := by decide +kernel
theorem d8_23 : decode jdk_29_method_45_code 23 = .ok (.land, 1) := by decide +kernel
theorem d8_24 : decode jdk_29_method_45_code 24 = .ok (.lstore 10, 2) := by decide +kernel
theorem d8_26 : decode jdk_29_method_45_code 26 = .ok (.lload 6, 2) := by decide +kernel
theorem d8_28 : decode jdk_29_method_45_code 28 = .ok (.lload 10, 2) := by decide +kernel
theorem d8_30 : decode jdk_29_method_45_code 30 = .ok (.lmul, 1) := by decide +kernel
theorem d8_31 : decode jdk_29_method_45_code 31 = .ok (.lstore 12, 2) := by decide +kernel
theorem d8_33 : decode jdk_29_method_45_code 33 = .ok (.lload 4, 2) := by decide +kernel
theorem d8_35 : decode jdk_29_method_45_code 35 = .ok (.lload 10, 2) := by decide +kernel
theorem d8_37 : decode jdk_29_method_45_code 37 = .ok (.lmul, 1) := by decide +kernel
theorem d8_38 : decode jdk_29_method_45_code 38 = .ok (.lload 12, 2) := by decide +kernel
theorem d8_40 : decode jdk_29_method_45_code 40 = .ok (.bipush 32, 2) := by decide +kernel
theorem d8_42 : decode jdk_29_method_45_code 42 = .ok (.lushr, 1) := by decide +kernel
theorem d8_43 : decode jdk_29_method_45_code 43 = .ok (.ladd, 1) := by decide +kernel
theorem d8_44 : decode jdk_29_method_45_code 44 = .ok (.lstore 14, 2) := by decide +kernel
theorem d8_46 : decode jdk_29_method_45_code 46 = .ok (.lload 14, 2) := by decide +kernel
theorem d8_48 : decode jdk_29_method_45_code 48 = .ok (.ldc2_w 138, 3) := by decide +kernel
theorem d8_51 : decode jdk_29_method_45_code 51 = .ok (.land, 1) := by decide +kernel
theorem d8_52 : decode jdk_29_method_45_code 52 = .ok (.lstore 16, 2) := by decide +kernel
theorem d8_54 : decode jdk_29_method_45_code 54 = .ok (.lload 14, 2) := by decide +kernel
theorem d8_56 : decode jdk_29_method_45_code 56 = .ok (.bipush 32, 2) := by decide +kernel
theorem d8_58 : decode jdk_29_method_45_code 58 = .ok (.lshr, 1) := by decide +kernel
theorem d8_59 : decode jdk_29_method_45_code 59 = .ok (.lstore 18, 2) := by decide +kernel
theorem d8_61 : decode jdk_29_method_45_code 61 = .ok (.lload 16, 2) := by decide +kernel
theorem d8_63 : decode jdk_29_method_45_code 63 = .ok (.lload 6, 2) := by decide +kernel
theorem d8_65 : decode jdk_29_method_45_code 65 = .ok (.lload 8, 2) := by decide +kernel
theorem d8_67 : decode jdk_29_method_45_code 67 = .ok (.lmul, 1) := by decide +kernel
theorem d8_68 : decode jdk_29_method_45_code 68 = .ok (.ladd, 1) := by decide +kernel
theorem d8_69 : decode jdk_29_method_45_code 69 = .ok (.lstore 16, 2) := by decide +kernel
theorem d8_71 : decode jdk_29_method_45_code 71 = .ok (.lload 4, 2) := by decide +kernel
theorem d8_73 : decode jdk_29_method_45_code 73 = .ok (.lload 8, 2) := by decide +kernel
theorem d8_75 : decode jdk_29_method_45_code 75 = .ok (.lmul, 1) := by decide +kernel
theorem d8_76 : decode jdk_29_method_45_code 76 = .ok (.lload 18, 2) := by decide +kernel
theorem d8_78 : decode jdk_29_method_45_code 78 = .ok (.ladd, 1) := by decide +kernel
theorem d8_79 : decode jdk_29_method_45_code 79 = .ok (.lload 16, 2) := by decide +kernel
theorem d8_81 : decode jdk_29_method_45_code 81 = .ok (.bipush 32, 2) := by decide +kernel
theorem d8_83 : decode jdk_29_method_45_code 83 = .ok (.lshr, 1) := by decide +kernel
theorem d8_84 : decode jdk_29_method_45_code 84 = .ok (.ladd, 1) := by decide +kernel
theorem d8_85 : decode jdk_29_method_45_code 85 = .ok (.lreturn, 1) := by decide +kernel
theorem d10_0 : decode method_2_code 0 = .ok (.lload_n 0, 1) := by decide +kernel
theorem d10_1 : decode method_2_code 1 = .ok (.lload_n 0, 1) := by decide +kernel
theorem d10_2 : decode method_2_code 2 = .ok (.bipush 30, 2) := by decide +kernel
theorem d10_4 : decode method_2_code 4 = .ok (.lushr, 1) := by decide +kernel
theorem d10_5 : decode method_2_code 5 = .ok (.lxor, 1) := by decide +kernel
theorem d10_6 : decode method_2_code 6 = .ok (.ldc2_w 7, 3) := by decide +kernel
theorem d10_9 : decode method_2_code 9 = .ok (.lmul, 1) := by decide +kernel
theorem d10_10 : decode method_2_code 10 = .ok (.lstore_n 2, 1) := by decide +kernel
theorem d10_11 : decode method_2_code 11 = .ok (.lload_n 2, 1) := by decide +kernel
theorem d10_12 : decode method_2_code 12 = .ok (.lload_n 2, 1) := by decide +kernel
theorem d10_13 : decode method_2_code 13 = .ok (.bipush 27, 2) := by decide +kernel
theorem d10_15 : decode method_2_code 15 = .ok (.lushr, 1) := by decide +kernel
theorem d10_16 : decode method_2_code 16 = .ok (.lxor, 1) := by decide +kernel
theorem d10_17 : decode method_2_code 17 = .ok (.ldc2_w 9, 3) := by decide +kernel
theorem d10_20 : decode method_2_code 20 = .ok (.lmul, 1) := by decide +kernel
theorem d10_21 : decode method_2_code 21 = .ok (.lstore_n 2, 1) := by decide +kernel
theorem d10_22 : decode method_2_code 22 = .ok (.lload_n 2, 1) := by decide +kernel
theorem d10_23 : decode method_2_code 23 = .ok (.lload_n 2, 1) := by decide +kernel
theorem d10_24 : decode method_2_code 24 = .ok (.bipush 31, 2) := by decide +kernel
theorem d10_26 : decode method_2_code 26 = .ok (.lushr, 1) := by decide +kernel
theorem d10_27 : decode method_2_code 27 = .ok (.lxor, 1) := by decide +kernel
theorem d10_28 : decode method_2_code 28 = .ok (.lreturn, 1) := by decide +kernel
theorem pn_10 : plainName "com/example/keys_to_bits/keystobits/ProbesNextPinLaw" = true := by first | (simp [plainName, overriddenIn]; done) | decide +kernel
theorem d11_0 : decode method_3_code 0 = .ok (.lload_n 0, 1) := by decide +kernel
theorem d11_1 : decode method_3_code 1 = .ok (.ldc2_w 13, 3) := by decide +kernel
theorem d11_4 : decode method_3_code 4 = .ok (.land, 1) := by decide +kernel
theorem d11_5 : decode method_3_code 5 = .ok (.lstore 4, 2) := by decide +kernel
theorem d11_7 : decode method_3_code 7 = .ok (.lload_n 0, 1) := by decide +kernel
theorem d11_8 : decode method_3_code 8 = .ok (.bipush 32, 2) := by decide +kernel
theorem d11_10 : decode method_3_code 10 = .ok (.lushr, 1) := by decide +kernel
theorem d11_11 : decode method_3_code 11 = .ok (.lstore 6, 2) := by decide +kernel
theorem d11_13 : decode method_3_code 13 = .ok (.lload_n 2, 1) := by decide +kernel
theorem d11_14 : decode method_3_code 14 = .ok (.ldc2_w 13, 3) := by decide +kernel
theorem d11_17 : decode method_3_code 17 = .ok (.land, 1) := by decide +kernel
theorem d11_18 : decode method_3_code 18 = .ok (.lstore 8, 2) := by decide +kernel
theorem d11_20 : decode method_3_code 20 = .ok (.lload_n 2, 1) := by decide +kernel
theorem d11_21 : decode method_3_code 21 = .ok (.bipush 32, 2) := by decide +kernel
theorem d11_23 : decode method_3_code 23 = .ok (.lushr, 1) := by decide +kernel
theorem d11_24 : decode method_3_code 24 = .ok (.lstore 10, 2) := by decide +kernel
theorem d11_26 : decode method_3_code 26 = .ok (.lload 4, 2) := by decide +kernel
theorem d11_28 : decode method_3_code 28 = .ok (.lload 8, 2) := by decide +kernel
theorem d11_30 : decode method_3_code 30 = .ok (.lmul, 1) := by decide +kernel
theorem d11_31 : decode method_3_code 31 = .ok (.lstore 12, 2) := by decide +kernel
theorem d11_33 : decode method_3_code 33 = .ok (.lload 4, 2) := by decide +kernel
theorem d11_35 : decode method_3_code 35 = .ok (.lload 10, 2) := by decide +kernel
theorem d11_37 : decode method_3_code 37 = .ok (.lmul, 1) := by decide +kernel
theorem d11_38 : decode method_3_code 38 = .ok (.lstore 14, 2) := by decide +kernel
theorem d11_40 : decode method_3_code 40 = .ok (.lload 6, 2) := by decide +kernel
theorem d11_42 : decode method_3_code 42 = .ok (.lload 8, 2) := by decide +kernel
theorem d11_44 : decode method_3_code 44 = .ok (.lmul, 1) := by decide +kernel
theorem d11_45 : decode method_3_code 45 = .ok (.lstore 16, 2) := by decide +kernel
theorem d11_47 : decode method_3_code 47 = .ok (.lload 6, 2) := by decide +kernel
theorem d11_49 : decode method_3_code 49 = .ok (.lload 10, 2) := by decide +kernel
theorem d11_51 : decode method_3_code 51 = .ok (.lmul, 1) := by decide +kernel
theorem d11_52 : decode method_3_code 52 = .ok (.lstore 18, 2) := by decide +kernel
theorem d11_54 : decode method_3_code 54 = .ok (.lload 12, 2) := by decide +kernel
theorem d11_56 : decode method_3_code 56 = .ok (.bipush 32, 2) := by decide +kernel
theorem d11_58 : decode method_3_code 58 = .ok (.lushr, 1) := by decide +kernel
theorem d11_59 : decode method_3_code 59 = .ok (.lload 14, 2) := by decide +kernel
theorem d11_61 : decode method_3_code 61 = .ok (.ldc2_w 13, 3) := by decide +kernel
theorem d11_64 : decode method_3_code 64 = .ok (.land, 1) := by decide +kernel
theorem d11_65 : decode method_3_code 65 = .ok (.ladd, 1) := by decide +kernel
theorem d11_66 : decode method_3_code 66 = .ok (.lload 16, 2) := by decide +kernel
theorem d11_68 : decode method_3_code 68 = .ok (.ldc2_w 13, 3) := by decide +kernel
theorem d11_71 : decode method_3_code 71 = .ok (.land, 1) := by decide +kernel
theorem d11_72 : decode method_3_code 72 = .ok (.ladd, 1) := by decide +kernel
theorem d11_73 : decode method_3_code 73 = .ok (.lstore 20, 2) := by decide +kernel
theorem d11_75 : decode method_3_code 75 = .ok (.lload 18, 2) := by decide +kernel
theorem d11_77 : decode method_3_code 77 = .ok (.lload 14, 2) := by decide +kernel
theorem d11_79 : decode method_3_code 79 = .ok (.bipush 32, 2) := by decide +kernel
theorem d11_81 : decode method_3_code 81 = .ok (.lushr, 1) := by decide +kernel
theorem d11_82 : decode method_3_code 82 = .ok (.ladd, 1) := by decide +kernel
theorem d11_83 : decode method_3_code 83 = .ok (.lload 16, 2) := by decide +kernel
theorem d11_85 : decode method_3_code 85 = .ok (.bipush 32, 2) := by decide +kernel
theorem d11_87 : decode method_3_code 87 = .ok (.lushr, 1) := by decide +kernel
theorem d11_88 : decode method_3_code 88 = .ok (.ladd, 1) := by decide +kernel
theorem d11_89 : decode method_3_code 89 = .ok (.lload 20, 2) := by decide +kernel
theorem d11_91 : decode method_3_code 91 = .ok (.bipush 32, 2) := by decide +kernel
theorem d11_93 : decode method_3_code 93 = .ok (.lushr, 1) := by decide +kernel
theorem d11_94 : decode method_3_code 94 = .ok (.ladd, 1) := by decide +kernel
theorem d11_95 : decode method_3_code 95 = .ok (.lreturn, 1) := by decide +kernel
theorem pn_11 : plainName "com/example/keys_to_bits/keystobits/ProbesNextPinLaw" = true := by first | (simp [plainName, overriddenIn]; done) | decide +kernel
theorem d7_0 : decode prog_11_method_2_code 0 = .ok (.aload_n 0, 1) := by decide +kernel
theorem d7_1 : decode prog_11_method_2_code 1 = .ok (.getfield 25, 3) := by decide +kernel
theorem d7_4 : decode prog_11_method_2_code 4 = .ok (.lstore_n 1, 1) := by decide +kernel
theorem d7_5 : decode prog_11_method_2_code 5 = .ok (.aload_n 0, 1) := by decide +kernel
theorem d7_6 : decode prog_11_method_2_code 6 = .ok (.lload_n 1, 1) := by decide +kernel
theorem d7_7 : decode prog_11_method_2_code 7 = .ok (.aload_n 0, 1) := by decide +kernel
theorem d7_8 : decode prog_11_method_2_code 8 = .ok (.getfield 13, 3) := by decide +kernel
theorem d7_11 : decode prog_11_method_2_code 11 = .ok (.ladd, 1) := by decide +kernel
theorem d7_12 : decode prog_11_method_2_code 12 = .ok (.putfield 25, 3) := by decide +kernel
theorem d7_15 : decode prog_11_method_2_code 15 = .ok (.lload_n 1, 1) := by decide +kernel
theorem d7_16 : decode prog_11_method_2_code 16 = .ok (.lload_n 1, 1) := by decide +kernel
theorem d7_17 : decode prog_11_method_2_code 17 = .ok (.bipush 30, 2) := by decide +kernel
theorem d7_19 : decode prog_11_method_2_code 19 = .ok (.lushr, 1) := by decide +kernel
theorem d7_20 : decode prog_11_method_2_code 20 = .ok (.lxor, 1) := by decide +kernel
theorem d7_21 : decode prog_11_method_2_code 21 = .ok (.ldc2_w 28, 3) := by decide +kernel
theorem d7_24 : decode prog_11_method_2_code 24 = .ok (.lmul, 1) := by decide +kernel
theorem d7_25 : decode prog_11_method_2_code 25 = .ok (.lstore_n 3, 1) := by decide +kernel
theorem d7_26 : decode prog_11_method_2_code 26 = .ok (.lload_n 3, 1) := by decide +kernel
theorem d7_27 : decode prog_11_method_2_code 27 = .ok (.lload_n 3, 1) := by decide +kernel
theorem d7_28 : decode prog_11_method_2_code 28 = .ok (.bipush 27, 2) := by decide +kernel
theorem d7_30 : decode prog_11_method_2_code 30 = .ok (.lushr, 1) := by decide +kernel
theorem d7_31 : decode prog_11_method_2_code 31 = .ok (.lxor, 1) := by decide +kernel
theorem d7_32 : decode prog_11_method_2_code 32 = .ok (.ldc2_w 30, 3) := by decide +kernel
theorem d7_35 : decode prog_11_method_2_code 35 = .ok (.lmul, 1) := by decide +kernel
theorem d7_36 : decode prog_11_method_2_code 36 = .ok (.lstore_n 3, 1) := by decide +kernel
theorem d7_37 : decode prog_11_method_2_code 37 = .ok (.lload_n 3, 1) := by decide +kernel
theorem d7_38 : decode prog_11_method_2_code 38 = .ok (.lload_n 3, 1) := by decide +kernel
theorem d7_39 : decode prog_11_method_2_code 39 = .ok (.bipush 31, 2) := by decide +kernel
theorem d7_41 : decode prog_11_method_2_code 41 = .ok (.lushr, 1) := by decide +kernel
theorem d7_42 : decode prog_11_method_2_code 42 = .ok (.lxor, 1) := by decide +kernel
theorem d7_43 : decode prog_11_method_2_code 43 = .ok (.lstore_n 3, 1) := by decide +kernel
theorem d7_44 : decode prog_11_method_2_code 44 = .ok (.lload_n 3, 1) := by decide +kernel
theorem d7_45 : decode prog_11_method_2_code 45 = .ok (.aload_n 0, 1) := by decide +kernel
theorem d7_46 : decode prog_11_method_2_code 46 = .ok (.getfield 19, 3) := by decide +kernel
theorem d7_49 : decode prog_11_method_2_code 49 = .ok (.invokestatic 32, 3) := by decide +kernel
theorem pd__JJ_J : parseMethodDescriptor "(JJ)J" = some ⟨[.long, .long], some .long⟩ := by decide +kernel
theorem d7_52 : decode prog_11_method_2_code 52 = .ok (.lload_n 3, 1) := by decide +kernel
theorem d7_53 : decode prog_11_method_2_code 53 = .ok (.bipush 63, 2) := by decide +kernel
theorem d7_55 : decode prog_11_method_2_code 55 = .ok (.lshr, 1) := by decide +kernel
theorem d7_56 : decode prog_11_method_2_code 56 = .ok (.aload_n 0, 1) := by decide +kernel
theorem d7_57 : decode prog_11_method_2_code 57 = .ok (.getfield 19, 3) := by decide +kernel
theorem d7_60 : decode prog_11_method_2_code 60 = .ok (.land, 1) := by decide +kernel
theorem d7_61 : decode prog_11_method_2_code 61 = .ok (.ladd, 1) := by decide +kernel
theorem d7_62 : decode prog_11_method_2_code 62 = .ok (.lreturn, 1) := by decide +kernel
theorem pn_7 : plainName "com/example/keys_to_bits/keystobits/Probes" = true := by first | (simp [plainName, overriddenIn]; done) | decide +kernel
theorem d9_0 : decode method_4_code 0 = .ok (.lload_n 2, 1) := by decide +kernel
theorem d9_1 : decode method_4_code 1 = .ok (.invokestatic 15, 3) := by decide +kernel
theorem pd__J_J : parseMethodDescriptor "(J)J" = some ⟨[.long], some .long⟩ := by decide +kernel
theorem d9_4 : decode method_4_code 4 = .ok (.lload 4, 2) := by decide +kernel
theorem d9_6 : decode method_4_code 6 = .ok (.invokestatic 19, 3) := by decide +kernel
theorem d9_9 : decode method_4_code 9 = .ok (.lstore 6, 2) := by decide +kernel
theorem d9_11 : decode method_4_code 11 = .ok (.lload_n 0, 1) := by decide +kernel
theorem d9_12 : decode method_4_code 12 = .ok (.lload 6, 2) := by decide +kernel
theorem d9_14 : decode method_4_code 14 = .ok (.lcmp, 1) := by decide +kernel
theorem d9_15 : decode method_4_code 15 = .ok (.ifCond .ne 20, 3) := by decide +kernel
theorem d9_18 : decode method_4_code 18 = .ok (.lload_n 0, 1) := by decide +kernel
theorem d9_19 : decode method_4_code 19 = .ok (.lconst 0, 1) := by decide +kernel
theorem d9_20 : decode method_4_code 20 = .ok (.lcmp, 1) := by decide +kernel
theorem d9_21 : decode method_4_code 21 = .ok (.ifCond .lt 14, 3) := by decide +kernel
theorem d9_24 : decode method_4_code 24 = .ok (.lload_n 0, 1) := by decide +kernel
theorem d9_25 : decode method_4_code 25 = .ok (.lload 4, 2) := by decide +kernel
theorem d9_27 : decode method_4_code 27 = .ok (.lcmp, 1) := by decide +kernel
theorem d9_28 : decode method_4_code 28 = .ok (.ifCond .ge 7, 3) := by decide +kernel
theorem d9_31 : decode method_4_code 31 = .ok (.iconst 1, 1) := by decide +kernel
theorem d9_32 : decode method_4_code 32 = .ok (.goto 4, 3) := by decide +kernel
theorem d9_36 : decode method_4_code 36 = .ok (.ireturn, 1) := by decide +kernel
theorem pn_9 : plainName "com/example/keys_to_bits/keystobits/ProbesNextPinLaw" = true := by first | (simp [plainName, overriddenIn]; done) | decide +kernel
theorem pd__JJ_V : parseMethodDescriptor "(JJ)V" = some ⟨[.long, .long], none⟩ := by decide +kernel
theorem pd__Lcom_example_keys_to_bits_keystobits_Murmur3_Hash128_J_V : parseMethodDescriptor "(Lcom/example/keys_to_bits/keystobits/Murmur3$Hash128;J)V" = some ⟨[(.object "com/example/keys_to_bits/keystobits/Murmur3$Hash128"), .long], none⟩ := by decide +kernel
theorem pd__JJJ_Z : parseMethodDescriptor "(JJJ)Z" = some ⟨[.long, .long, .long], some .boolean⟩ := by decide +kernel
theorem pn_0 : plainName "com/example/keys_to_bits/keystobits/ProbesNextPinLaw" = true := by first | (simp [plainName, overriddenIn]; done) | decide +kernel
theorem ef_rmRec (m : MethodId) (x0 : Addr) : entryFrame m #[(.ref x0)] 1 = mkF m 0 #[.val (.ref x0)] [] := by first | (simp [entryFrame, mkF, argsToLocals, Value.category]; done) | rfl
set_option maxRecDepth 65536 in
set_option maxHeartbeats 40000000 in
theorem rmRec (l : Launch) (Z : State) (a0 : Array Value) (hw : ∀ d ∈ tables_1, d.before a0 Z = true) (ws : List Jvm.Cond) (u0 : Addr) (h0 : Heap) (n0 : Nat) (Z0 : n0 ≤ h0.size) :
    MetFree l (⟨"java/lang/Record", "<init>", "()V"⟩ : MethodName) (head1 (Jvm.Cond.code (⟨"java/lang/Record", "<init>", "()V"⟩ : MethodName) jdk_30_method_1_code 1 none :: ws) ({ frames := 1, cells := 0, slots := 0, locals := 12 } : Room)) (fun a U => a = #[(.ref u0)] ∧ Z.Warmed39 U.vm ∧ U.heap = h0) (fun _ _ _ _ _ => True) (fun _ U o U' => ∃ v L, o = .returned v ∧ own_QP none h0 n0 v U'.heap L ∧ FrameEnd U o U' L ({ frames := 1, cells := 0, slots := 0, locals := 12 } : Room).cells ({ frames := 1, cells := 0, slots := 0, locals := 12 } : Room).slots) := by
  refine MetFree.of_bodySF (plainFor_of_name pn_2) hisR ?_
  intro p e s m args below meth c s₁ Bd hml0 hP hK
  obtain ⟨rfl, hZ, hh⟩ := hP
  have hx := Bd.exec
  have hby := Bd.bytes
  have hml : c.maxLocals = 1 := hml0
  have hown : s.vm.findClass "java/lang/Record" = some m.cls := findClass_of_methodNamed Bd.named
  have hnm := (name_of_methodNamed Bd.named Bd.method).1
  have X0 : Stand p l e ({ frames := 1, cells := 0, slots := 0, locals := 12 } : Room) s m #[(.ref u0)] below meth c s₁ [] 0 0 := Stand.of_body Bd
  have e0 : s₁.heap = h0 := by rw [← hh, Bd.state]; rfl
  have N0 := Fr.nil n0
  have pre0 : ∀ t, Steps p.tables e below (s₁.setTop (mkF m 0 #[.val (.ref u0)] [])) t → Steps p.tables e below (s₁.setTop (entryFrame m #[(.ref u0)] 1)) t := fun t k => castTop (ef_rmRec m u0) k
  obtain ⟨T1, X1, e1, st1⟩ := initO X0 hx hZ hown (hw _ (List.mem_of_getElem? (i := 15) rfl)) (hw _ (List.mem_of_getElem? (i := 16) rfl)) (hw _ (List.mem_of_getElem? (i := 17) rfl)) e0 (g := (mkF m 1 #[.val (.ref u0)] [(.ref u0)])) rfl (by rw [hml]; rfl) rfl (hb hby d2_1) (by decide) (W := 0) (by show 2 * 0 + _ ≤ _; exact Nat.le_of_eq rfl) (by decide)
  obtain ⟨fs, hr, hrun, hended, hW, hsame⟩ := X1.leave (v := none) (fun _ => rfl)
  refine ⟨_, _, pre0 _ ?_, hrun, hended, _, _, rfl, ?_, ⟨_, rfl⟩, hW, hsame.mono (by decide) (by decide)⟩
  · show Steps p.tables e below (s₁.setTop (mkF m 0 #[.val (.ref u0)] [])) _
    refine XS.aloadN X0.here hx rfl (hb hby d2_0) rfl rfl ?_
    show Steps p.tables e below (s₁.setTop (mkF m 1 #[.val (.ref u0)] [(.ref u0)])) _
    refine st1 _ ?_
    show Steps p.tables e below (T1.setTop (mkF m 4 #[.val (.ref u0)] [])) _
    exact X1.returnOut hx Bd.returns (hb hby d2_4) hr
  · show own_QP none h0 n0 _ T1.heap _
    rw [e1]
    exact ⟨rfl, N0, rfl⟩

theorem ef_rmHI (m : MethodId) (x0 : Addr) (x1 : Int64) (x2 : Int64) : entryFrame m #[(.ref x0), (.long x1), (.long x2)] 5 = mkF m 0 #[.val (.ref x0), .val (.long x1), .second, .val (.long x2), .second] [] := by first | (simp [entryFrame, mkF, argsToLocals, Value.category]; done) | rfl
def Q_rmHI (Z : State) (u0 : Addr) (q1 : Int64) (q2 : Int64) (h0 : Heap) (n0 : Nat) (v : Option Value) (h : Heap) (L : List Loc) : Prop := (v = none ∧ Fr n0 L ∧ Keep h0 h [u0] ∧ Exa Z h u0 "com/example/keys_to_bits/keystobits/Murmur3$Hash128" ∧ Fld Z h u0 "com/example/keys_to_bits/keystobits/Murmur3$Hash128" "h1" "J" (.long q1) ∧ Fld Z h u0 "com/example/keys_to_bits/keystobits/Murmur3$Hash128" "h2" "J" (.long q2))
set_option maxRecDepth 65536 in
set_option maxHeartbeats 40000000 in
theorem rmHI (l : Launch) (Z : State) (a0 : Array Value) (hw : ∀ d ∈ tables_1, d.before a0 Z = true) (ws : List Jvm.Cond) (u0 : Addr) (q1 : Int64) (q2 : Int64) (h0 : Heap) (n0 : Nat) (Z0 : n0 ≤ h0.size) (P_E_u0 : Exa Z h0 u0 "com/example/keys_to_bits/keystobits/Murmur3$Hash128") (P_F_u0_Murmur3_Hash128_h1 : Fld Z h0 u0 "com/example/keys_to_bits/keystobits/Murmur3$Hash128" "h1" "J" (.long (0 : Int64))) (P_F_u0_Murmur3_Hash128_h2 : Fld Z h0 u0 "com/example/keys_to_bits/keystobits/Murmur3$Hash128" "h2" "J" (.long (0 : Int64))) (g_u0 : n0 ≤ u0) :
    MetFree l (⟨"com/example/keys_to_bits/keystobits/Murmur3$Hash128", "<init>", "(JJ)V"⟩ : MethodName) (head1 (Jvm.Cond.code (⟨"com/example/keys_to_bits/keystobits/Murmur3$Hash128", "<init>", "(JJ)V"⟩ : MethodName) prog_10_method_1_code 5 none :: ws) ({ frames := 2, cells := 0, slots := 0, locals := 24 } : Room)) (fun a U => a = #[(.ref u0), (.long q1), (.long q2)] ∧ Z.Warmed39 U.vm ∧ U.heap = h0) (fun _ _ _ _ _ => True) (fun _ U o U' => ∃ v L, o = .returned v ∧ Q_rmHI Z u0 q1 q2 h0 n0 v U'.heap L ∧ FrameEnd U o U' L ({ frames := 2, cells := 0, slots := 0, locals := 24 } : Room).cells ({ frames := 2, cells := 0, slots := 0, locals := 24 } : Room).slots) := by
  refine MetFree.of_bodySF (plainFor_of_name pn_1) hisR ?_
  intro p e s m args below meth c s₁ Bd hml0 hP hK
  obtain ⟨rfl, hZ, hh⟩ := hP
  have hx := Bd.exec
  have hby := Bd.bytes
  have hml : c.maxLocals = 5 := hml0
  have hown : s.vm.findClass "com/example/keys_to_bits/keystobits/Murmur3$Hash128" = some m.cls := findClass_of_methodNamed Bd.named
  have hnm := (name_of_methodNamed Bd.named Bd.method).1
  have X0 : Stand p l e ({ frames := 2, cells := 0, slots := 0, locals := 24 } : Room) s m #[(.ref u0), (.long q1), (.long q2)] below meth c s₁ [] 0 0 := Stand.of_body Bd
  have e0 : s₁.heap = h0 := by rw [← hh, Bd.state]; rfl
  have N0 := Fr.nil n0
  have pre0 : ∀ t, Steps p.tables e below (s₁.setTop (mkF m 0 #[.val (.ref u0), .val (.long q1), .second, .val (.long q2), .second] [])) t → Steps p.tables e below (s₁.setTop (entryFrame m #[(.ref u0), (.long q1), (.long q2)] 5)) t := fun t k => castTop (ef_rmHI m u0 q1 q2) k
  obtain ⟨_, _, ⟨T1, L1, k1, n1⟩, -, X1, ⟨Lc1, hQ1, l1, y1, z1⟩, st1⟩ := X0.specialBack hx (y := (⟨"java/lang/Record", "<init>", "()V"⟩ : MethodName)) rfl hown (mvT hZ (hw _ (List.mem_of_getElem? (i := 10) rfl))) (mvT hZ (hw _ (List.mem_of_getElem? (i := 11) rfl))) (mvT hZ (hw _ (List.mem_of_getElem? (i := 14) rfl))) (by decide) (backOf (W := 0) (rmRec l Z a0 hw [] u0 h0 n0 Z0 ) hZ (hw _ (List.mem_of_getElem? (i := 14) rfl)) (hw _ (List.mem_of_getElem? (i := 13) rfl)) (by decide) (by decide)) (g := (mkF m 1 #[.val (.ref u0), .val (.long q1), .second, .val (.long q2), .second] [(.ref u0)])) rfl (by rw [hml]; rfl) (Steps.refl _) (a := u0) (argsL := []) (rest := []) (lenOf pd___V rfl) rfl (by show 2 * 0 + _ ≤ _; exact Nat.le_of_eq rfl) (hb hby d1_1) (fun _ _ => ⟨rfl, e0, (by decide : 0 + 0 ≤ _), (by decide : 0 + 0 ≤ _)⟩)
  dsimp only [Pt.U, Pt.locs, Pt.cells, Pt.slots] at X1 l1 y1 z1 st1 hQ1
  subst l1 y1 z1
  obtain ⟨rfl, N1q, e1⟩ := hQ1
  have N1 := Fr.app N0 N1q
  obtain ⟨T2, h2, X2, e2, W2, st2⟩ := putF X1 hx hZ hown (host := "") (Or.inl (hw _ (List.mem_of_getElem? (i := 18) rfl))) Via.refl e1 P_F_u0_Murmur3_Hash128_h1 P_E_u0 (Or.inr ⟨(hw _ (List.mem_of_getElem? (i := 19) rfl)), rfl, hnm⟩) (hw _ (List.mem_of_getElem? (i := 5) rfl)) (ty := .long) (by decide) rfl rfl (g := (mkF m 6 #[.val (.ref u0), .val (.long q1), .second, .val (.long q2), .second] [(.long q1), (.ref u0)])) rfl rfl (hb hby d1_6)
  have f2_ : Fld Z h2 u0 "com/example/keys_to_bits/keystobits/Murmur3$Hash128" "h1" "J" (.long q1) := P_F_u0_Murmur3_Hash128_h1.same W2
  have N3 := Fr.snoc X2 N1 g_u0
  have K4 : Keep h0 h2 [u0] := (Keep.refl h0 [u0]).wr W2 (Or.inl (List.mem_of_getElem? (i := 0) rfl))
  have f5 : Exa Z h2 u0 "com/example/keys_to_bits/keystobits/Murmur3$Hash128" := (P_E_u0.wr W2)
  have f6 : Fld Z h2 u0 "com/example/keys_to_bits/keystobits/Murmur3$Hash128" "h2" "J" (.long (0 : Int64)) := (P_F_u0_Murmur3_Hash128_h2.other W2 (Or.inr (slot_ne (Or.inr (hw _ (List.mem_of_getElem? (i := 21) rfl))) (Or.inr (hw _ (List.mem_of_getElem? (i := 19) rfl))) (by decide) (t := .long) (t' := .long) (by decide) (by decide))))
  obtain ⟨T7, h7, X7, e7, W7, st7⟩ := putF X2 hx hZ hown (host := "") (Or.inl (hw _ (List.mem_of_getElem? (i := 20) rfl))) Via.refl e2 f6 f5 (Or.inr ⟨(hw _ (List.mem_of_getElem? (i := 21) rfl)), rfl, hnm⟩) (hw _ (List.mem_of_getElem? (i := 5) rfl)) (ty := .long) (by decide) rfl rfl (g := (mkF m 11 #[.val (.ref u0), .val (.long q1), .second, .val (.long q2), .second] [(.long q2), (.ref u0)])) rfl rfl (hb hby d1_11)
  have f7_ : Fld Z h7 u0 "com/example/keys_to_bits/keystobits/Murmur3$Hash128" "h2" "J" (.long q2) := f6.same W7
  have N8 := Fr.snoc X7 N3 g_u0
  have K9 : Keep h0 h7 [u0] := K4.wr W7 (Or.inl (List.mem_of_getElem? (i := 0) rfl))
  obtain ⟨fs, hr, hrun, hended, hW, hsame⟩ := X7.leave (v := none) (fun _ => rfl)
  have f10 : Exa Z h7 u0 "com/example/keys_to_bits/keystobits/Murmur3$Hash128" := (f5.wr W7)
  have f11 : Fld Z h7 u0 "com/example/keys_to_bits/keystobits/Murmur3$Hash128" "h1" "J" (.long q1) := (f2_.other W7 (Or.inr (slot_ne (Or.inr (hw _ (List.mem_of_getElem? (i := 19) rfl))) (Or.inr (hw _ (List.mem_of_getElem? (i := 21) rfl))) (by decide) (t := .long) (t' := .long) (by decide) (by decide))))
  refine ⟨_, _, pre0 _ ?_, hrun, hended, _, _, rfl, ?_, ⟨_, rfl⟩, hW, hsame.mono (by decide) (by decide)⟩
  · show Steps p.tables e below (s₁.setTop (mkF m 0 #[.val (.ref u0), .val (.long q1), .second, .val (.long q2), .second] [])) _
    refine XS.aloadN X0.here hx rfl (hb hby d1_0) rfl rfl ?_
    show Steps p.tables e below (s₁.setTop (mkF m 1 #[.val (.ref u0), .val (.long q1), .second, .val (.long q2), .second] [(.ref u0)])) _
    refine st1.trans ?_
    show Steps p.tables e below (T1.setTop (mkF m 4 #[.val (.ref u0), .val (.long q1), .second, .val (.long q2), .second] [])) _
    refine XS.aloadN X1.here hx rfl (hb hby d1_4) rfl rfl ?_
    show Steps p.tables e below (T1.setTop (mkF m 5 #[.val (.ref u0), .val (.long q1), .second, .val (.long q2), .second] [(.ref u0)])) _
    refine XS.lloadN X1.here hx rfl (hb hby d1_5) rfl ?_
    show Steps p.tables e below (T1.setTop (mkF m 6 #[.val (.ref u0), .val (.long q1), .second, .val (.long q2), .second] [(.long q1), (.ref u0)])) _
    refine st2 _ ?_
    show Steps p.tables e below (T2.setTop (mkF m 9 #[.val (.ref u0), .val (.long q1), .second, .val (.long q2), .second] [])) _
    refine XS.aloadN X2.here hx rfl (hb hby d1_9) rfl rfl ?_
    show Steps p.tables e below (T2.setTop (mkF m 10 #[.val (.ref u0), .val (.long q1), .second, .val (.long q2), .second] [(.ref u0)])) _
    refine XS.lloadN X2.here hx rfl (hb hby d1_10) rfl ?_
    show Steps p.tables e below (T2.setTop (mkF m 11 #[.val (.ref u0), .val (.long q1), .second, .val (.long q2), .second] [(.long q2), (.ref u0)])) _
    refine st7 _ ?_
    show Steps p.tables e below (T7.setTop (mkF m 14 #[.val (.ref u0), .val (.long q1), .second, .val (.long q2), .second] [])) _
    exact X7.returnOut hx Bd.returns (hb hby d1_14) hr
  · show Q_rmHI Z u0 q1 q2 h0 n0 _ T7.heap _
    rw [e7]
    exact ⟨rfl, N8, K9, f10, f11, f7_⟩

theorem ef_rmh1 (m : MethodId) (x0 : Addr) : entryFrame m #[(.ref x0)] 1 = mkF m 0 #[.val (.ref x0)] [] := by first | (simp [entryFrame, mkF, argsToLocals, Value.category]; done) | rfl
set_option maxRecDepth 65536 in
set_option maxHeartbeats 40000000 in
theorem rmh1 (l : Launch) (Z : State) (a0 : Array Value) (hw : ∀ d ∈ tables_1, d.before a0 Z = true) (ws : List Jvm.Cond) (u0 : Addr) (va : Int64) (h0 : Heap) (n0 : Nat) (Z0 : n0 ≤ h0.size) (P_F_u0_Murmur3_Hash128_h1 : Fld Z h0 u0 "com/example/keys_to_bits/keystobits/Murmur3$Hash128" "h1" "J" (.long va)) :
    MetFree l (⟨"com/example/keys_to_bits/keystobits/Murmur3$Hash128", "h1", "()J"⟩ : MethodName) (head1 (Jvm.Cond.code (⟨"com/example/keys_to_bits/keystobits/Murmur3$Hash128", "h1", "()J"⟩ : MethodName) prog_10_method_5_code 1 (some .long) :: ws) ({ frames := 0, cells := 0, slots := 0, locals := 0 } : Room)) (fun a U => a = #[(.ref u0)] ∧ Z.Warmed39 U.vm ∧ U.heap = h0) (fun _ _ _ _ _ => True) (fun _ U o U' => ∃ v L, o = .returned v ∧ own_QP (some (.long va)) h0 n0 v U'.heap L ∧ FrameEnd U o U' L ({ frames := 0, cells := 0, slots := 0, locals := 0 } : Room).cells ({ frames := 0, cells := 0, slots := 0, locals := 0 } : Room).slots) := by
  refine MetFree.of_bodySF (plainFor_of_name pn_6) hisR ?_
  intro p e s m args below meth c s₁ Bd hml0 hP hK
  obtain ⟨rfl, hZ, hh⟩ := hP
  have hx := Bd.exec
  have hby := Bd.bytes
  have hml : c.maxLocals = 1 := hml0
  have hown : s.vm.findClass "com/example/keys_to_bits/keystobits/Murmur3$Hash128" = some m.cls := findClass_of_methodNamed Bd.named
  have hnm := (name_of_methodNamed Bd.named Bd.method).1
  have X0 : Stand p l e ({ frames := 0, cells := 0, slots := 0, locals := 0 } : Room) s m #[(.ref u0)] below meth c s₁ [] 0 0 := Stand.of_body Bd
  have e0 : s₁.heap = h0 := by rw [← hh, Bd.state]; rfl
  have N0 := Fr.nil n0
  have pre0 : ∀ t, Steps p.tables e below (s₁.setTop (mkF m 0 #[.val (.ref u0)] [])) t → Steps p.tables e below (s₁.setTop (entryFrame m #[(.ref u0)] 1)) t := fun t k => castTop (ef_rmh1 m u0) k
  obtain ⟨T1, X1, e1, st1⟩ := getF X0 hx hZ hown (host := "") (Or.inl (hw _ (List.mem_of_getElem? (i := 18) rfl))) Via.refl e0 P_F_u0_Murmur3_Hash128_h1 (g := (mkF m 1 #[.val (.ref u0)] [(.ref u0)])) rfl rfl (hb hby d6_1)
  obtain ⟨fs, hr, hrun, hended, hW, hsame⟩ := X1.leave (v := some (.long va)) (fun h => by rw [Bd.returns] at h; cases h)
  refine ⟨_, _, pre0 _ ?_, hrun, hended, _, _, rfl, ?_, ⟨_, rfl⟩, hW, hsame.mono (by decide) (by decide)⟩
  · show Steps p.tables e below (s₁.setTop (mkF m 0 #[.val (.ref u0)] [])) _
    refine XS.aloadN X0.here hx rfl (hb hby d6_0) rfl rfl ?_
    show Steps p.tables e below (s₁.setTop (mkF m 1 #[.val (.ref u0)] [(.ref u0)])) _
    refine st1 _ ?_
    show Steps p.tables e below (T1.setTop (mkF m 4 #[.val (.ref u0)] [(.long va)])) _
    exact retOut X1 hx Bd.returns rfl (Or.inr (Or.inl ⟨rfl, rfl, _, rfl⟩)) (hb hby d6_4) hr
  · show own_QP (some (.long va)) h0 n0 _ T1.heap _
    rw [e1]
    exact ⟨rfl, N0, rfl⟩

theorem ef_rmh2 (m : MethodId) (x0 : Addr) : entryFrame m #[(.ref x0)] 1 = mkF m 0 #[.val (.ref x0)] [] := by first | (simp [entryFrame, mkF, argsToLocals, Value.category]; done) | rfl
set_option maxRecDepth 65536 in
set_option maxHeartbeats 40000000 in
theorem rmh2 (l : Launch) (Z : State) (a0 : Array Value) (hw : ∀ d ∈ tables_1, d.before a0 Z = true) (ws : List Jvm.Cond) (u0 : Addr) (va : Int64) (h0 : Heap) (n0 : Nat) (Z0 : n0 ≤ h0.size) (P_F_u0_Murmur3_Hash128_h2 : Fld Z h0 u0 "com/example/keys_to_bits/keystobits/Murmur3$Hash128" "h2" "J" (.long va)) :
    MetFree l (⟨"com/example/keys_to_bits/keystobits/Murmur3$Hash128", "h2", "()J"⟩ : MethodName) (head1 (Jvm.Cond.code (⟨"com/example/keys_to_bits/keystobits/Murmur3$Hash128", "h2", "()J"⟩ : MethodName) prog_10_method_6_code 1 (some .long) :: ws) ({ frames := 0, cells := 0, slots := 0, locals := 0 } : Room)) (fun a U => a = #[(.ref u0)] ∧ Z.Warmed39 U.vm ∧ U.heap = h0) (fun _ _ _ _ _ => True) (fun _ U o U' => ∃ v L, o = .returned v ∧ own_QP (some (.long va)) h0 n0 v U'.heap L ∧ FrameEnd U o U' L ({ frames := 0, cells := 0, slots := 0, locals := 0 } : Room).cells ({ frames := 0, cells := 0, slots := 0, locals := 0 } : Room).slots) := by
  refine MetFree.of_bodySF (plainFor_of_name pn_5) hisR ?_
  intro p e s m args below meth c s₁ Bd hml0 hP hK
  obtain ⟨rfl, hZ, hh⟩ := hP
  have hx := Bd.exec
  have hby := Bd.bytes
  have hml : c.maxLocals = 1 := hml0
  have hown : s.vm.findClass "com/example/keys_to_bits/keystobits/Murmur3$Hash128" = some m.cls := findClass_of_methodNamed Bd.named
  have hnm := (name_of_methodNamed Bd.named Bd.method).1
  have X0 : Stand p l e ({ frames := 0, cells := 0, slots := 0, locals := 0 } : Room) s m #[(.ref u0)] below meth c s₁ [] 0 0 := Stand.of_body Bd
  have e0 : s₁.heap = h0 := by rw [← hh, Bd.state]; rfl
  have N0 := Fr.nil n0
  have pre0 : ∀ t, Steps p.tables e below (s₁.setTop (mkF m 0 #[.val (.ref u0)] [])) t → Steps p.tables e below (s₁.setTop (entryFrame m #[(.ref u0)] 1)) t := fun t k => castTop (ef_rmh2 m u0) k
  obtain ⟨T1, X1, e1, st1⟩ := getF X0 hx hZ hown (host := "") (Or.inl (hw _ (List.mem_of_getElem? (i := 20) rfl))) Via.refl e0 P_F_u0_Murmur3_Hash128_h2 (g := (mkF m 1 #[.val (.ref u0)] [(.ref u0)])) rfl rfl (hb hby d5_1)
  obtain ⟨fs, hr, hrun, hended, hW, hsame⟩ := X1.leave (v := some (.long va)) (fun h => by rw [Bd.returns] at h; cases h)
  refine ⟨_, _, pre0 _ ?_, hrun, hended, _, _, rfl, ?_, ⟨_, rfl⟩, hW, hsame.mono (by decide) (by decide)⟩
  · show Steps p.tables e below (s₁.setTop (mkF m 0 #[.val (.ref u0)] [])) _
    refine XS.aloadN X0.here hx rfl (hb hby d5_0) rfl rfl ?_
    show Steps p.tables e below (s₁.setTop (mkF m 1 #[.val (.ref u0)] [(.ref u0)])) _
    refine st1 _ ?_
    show Steps p.tables e below (T1.setTop (mkF m 4 #[.val (.ref u0)] [(.long va)])) _
    exact retOut X1 hx Bd.returns rfl (Or.inr (Or.inl ⟨rfl, rfl, _, rfl⟩)) (hb hby d5_4) hr
  · show own_QP (some (.long va)) h0 n0 _ T1.heap _
    rw [e1]
    exact ⟨rfl, N0, rfl⟩

theorem ef_rmPI (m : MethodId) (x0 : Addr) (x1 : Addr) (x2 : Int64) : entryFrame m #[(.ref x0), (.ref x1), (.long x2)] 4 = mkF m 0 #[.val (.ref x0), .val (.ref x1), .val (.long x2), .second] [] := by first | (simp [entryFrame, mkF, argsToLocals, Value.category]; done) | rfl
def Q_rmPI (Z : State) (u0 : Addr) (u1 : Addr) (q2 : Int64) (v1 : Int64) (v2 : Int64) (h0 : Heap) (n0 : Nat) (v : Option Value) (h : Heap) (L : List Loc) : Prop := (v = none ∧ Fr n0 L ∧ Keep h0 h [u0] ∧ Exa Z h u0 "com/example/keys_to_bits/keystobits/Probes" ∧ Fld Z h u0 "com/example/keys_to_bits/keystobits/Probes" "start" "J" (.long v1) ∧ Fld Z h u0 "com/example/keys_to_bits/keystobits/Probes" "step" "J" (.long v2) ∧ Fld Z h u0 "com/example/keys_to_bits/keystobits/Probes" "cells" "J" (.long q2))
set_option maxRecDepth 65536 in
set_option maxHeartbeats 40000000 in
theorem rmPI (l : Launch) (Z : State) (a0 : Array Value) (hw : ∀ d ∈ tables_1, d.before a0 Z = true) (ws : List Jvm.Cond) (u0 : Addr) (u1 : Addr) (q2 : Int64) (v1 : Int64) (v2 : Int64) (h0 : Heap) (n0 : Nat) (Z0 : n0 ≤ h0.size) (P_E_u0 : Exa Z h0 u0 "com/example/keys_to_bits/keystobits/Probes") (P_F_u0_Probes_step : Fld Z h0 u0 "com/example/keys_to_bits/keystobits/Probes" "step" "J" (.long (0 : Int64))) (P_F_u0_Probes_cells : Fld Z h0 u0 "com/example/keys_to_bits/keystobits/Probes" "cells" "J" (.long (0 : Int64))) (P_F_u0_Probes_start : Fld Z h0 u0 "com/example/keys_to_bits/keystobits/Probes" "start" "J" (.long (0 : Int64))) (P_E_u1 : Exa Z h0 u1 "com/example/keys_to_bits/keystobits/Murmur3$Hash128") (P_F_u1_Murmur3_Hash128_h1 : Fld Z h0 u1 "com/example/keys_to_bits/keystobits/Murmur3$Hash128" "h1" "J" (.long v1)) (P_F_u1_Murmur3_Hash128_h2 : Fld Z h0 u1 "com/example/keys_to_bits/keystobits/Murmur3$Hash128" "h2" "J" (.long v2)) (neA : u1 ≠ u0) (g_u0 : n0 ≤ u0) :
    MetFree l (⟨"com/example/keys_to_bits/keystobits/Probes", "<init>", "(Lcom/example/keys_to_bits/keystobits/Murmur3$Hash128;J)V"⟩ : MethodName) (head1 (Jvm.Cond.code (⟨"com/example/keys_to_bits/keystobits/Probes", "<init>", "(Lcom/example/keys_to_bits/keystobits/Murmur3$Hash128;J)V"⟩ : MethodName) prog_11_method_1_code 4 none :: ws) ({ frames := 1, cells := 0, slots := 0, locals := 13 } : Room)) (fun a U => a = #[(.ref u0), (.ref u1), (.long q2)] ∧ Z.Warmed39 U.vm ∧ U.heap = h0) (fun _ _ _ _ _ => True) (fun _ U o U' => ∃ v L, o = .returned v ∧ Q_rmPI Z u0 u1 q2 v1 v2 h0 n0 v U'.heap L ∧ FrameEnd U o U' L ({ frames := 1, cells := 0, slots := 0, locals := 13 } : Room).cells ({ frames := 1, cells := 0, slots := 0, locals := 13 } : Room).slots) := by
  refine MetFree.of_bodySF (plainFor_of_name pn_4) hisR ?_
  intro p e s m args below meth c s₁ Bd hml0 hP hK
  obtain ⟨rfl, hZ, hh⟩ := hP
  have hx := Bd.exec
  have hby := Bd.bytes
  have hml : c.maxLocals = 4 := hml0
  have hown : s.vm.findClass "com/example/keys_to_bits/keystobits/Probes" = some m.cls := findClass_of_methodNamed Bd.named
  have hnm := (name_of_methodNamed Bd.named Bd.method).1
  have X0 : Stand p l e ({ frames := 1, cells := 0, slots := 0, locals := 13 } : Room) s m #[(.ref u0), (.ref u1), (.long q2)] below meth c s₁ [] 0 0 := Stand.of_body Bd
  have e0 : s₁.heap = h0 := by rw [← hh, Bd.state]; rfl
  have N0 := Fr.nil n0
  have pre0 : ∀ t, Steps p.tables e below (s₁.setTop (mkF m 0 #[.val (.ref u0), .val (.ref u1), .val (.long q2), .second] [])) t → Steps p.tables e below (s₁.setTop (entryFrame m #[(.ref u0), (.ref u1), (.long q2)] 4)) t := fun t k => castTop (ef_rmPI m u0 u1 q2) k
  obtain ⟨T1, X1, e1, st1⟩ := initO X0 hx hZ hown (hw _ (List.mem_of_getElem? (i := 25) rfl)) (hw _ (List.mem_of_getElem? (i := 16) rfl)) (hw _ (List.mem_of_getElem? (i := 17) rfl)) e0 (g := (mkF m 1 #[.val (.ref u0), .val (.ref u1), .val (.long q2), .second] [(.ref u0)])) rfl (by rw [hml]; rfl) rfl (hb hby d4_1) (by decide) (W := 0) (by show 2 * 0 + _ ≤ _; exact Nat.le_of_eq rfl) (by decide)
  obtain ⟨cq3, kq3, q3a, q3b, q3c⟩ := isOf hZ e1 P_E_u1
  obtain ⟨_, _, ⟨T2, L2, k2, n2⟩, -, X2, ⟨Lc2, hQ2, l2, y2, z2⟩, st2⟩ := X1.virtualBack hx (y := (⟨"com/example/keys_to_bits/keystobits/Murmur3$Hash128", "h2", "()J"⟩ : MethodName)) (z := (⟨"com/example/keys_to_bits/keystobits/Murmur3$Hash128", "h2", "()J"⟩ : MethodName)) hown (mvT hZ (hw _ (List.mem_of_getElem? (i := 26) rfl))) (mvT hZ (hw _ (List.mem_of_getElem? (i := 27) rfl))) (notFace_of_selects (args := #[]) (mvT hZ (hw _ (List.mem_of_getElem? (i := 29) rfl)))) (mvT hZ (hw _ (List.mem_of_getElem? (i := 29) rfl))) (mvT hZ (hw _ (List.mem_of_getElem? (i := 28) rfl))) (by decide) (backOf (W := 1) (rmh2 l Z a0 hw [] u1 v2 h0 n0 Z0 P_F_u1_Murmur3_Hash128_h2) hZ (hw _ (List.mem_of_getElem? (i := 30) rfl)) (hw _ (List.mem_of_getElem? (i := 6) rfl)) (by decide) (by decide)) q3a q3c (g := (mkF m 6 #[.val (.ref u0), .val (.ref u1), .val (.long q2), .second] [(.ref u1), (.ref u0)])) rfl (by rw [hml]; rfl) (Steps.refl _) (argsL := []) (rest := [(.ref u0)]) (lenOf pd___J rfl) rfl (by show 2 * 0 + _ ≤ _; exact Nat.le_of_eq rfl) (hb hby d4_6) (fun _ _ => ⟨rfl, e1, (by decide : 0 + 0 ≤ _), (by decide : 0 + 0 ≤ _)⟩)
  dsimp only [Pt.U, Pt.locs, Pt.cells, Pt.slots] at X2 l2 y2 z2 st2 hQ2
  subst l2 y2 z2
  obtain ⟨rfl, N2q, e2⟩ := hQ2
  have N2 := Fr.app N0 N2q
  obtain ⟨T4, h4, X4, e4, W4, st4⟩ := putF X2 hx hZ hown (host := "") (Or.inl (hw _ (List.mem_of_getElem? (i := 31) rfl))) Via.refl e2 P_F_u0_Probes_step P_E_u0 (Or.inr ⟨(hw _ (List.mem_of_getElem? (i := 32) rfl)), rfl, hnm⟩) (hw _ (List.mem_of_getElem? (i := 2) rfl)) (ty := .long) (by decide) rfl rfl (g := (mkF m 9 #[.val (.ref u0), .val (.ref u1), .val (.long q2), .second] [(.long v2), (.ref u0)])) rfl rfl (hb hby d4_9)
  have f4_ : Fld Z h4 u0 "com/example/keys_to_bits/keystobits/Probes" "step" "J" (.long v2) := P_F_u0_Probes_step.same W4
  have N5 := Fr.snoc X4 N2 g_u0
  have K6 : Keep h0 h4 [u0] := (Keep.refl h0 [u0]).wr W4 (Or.inl (List.mem_of_getElem? (i := 0) rfl))
  have f7 : Exa Z h4 u0 "com/example/keys_to_bits/keystobits/Probes" := (P_E_u0.wr W4)
  have f8 : Fld Z h4 u0 "com/example/keys_to_bits/keystobits/Probes" "cells" "J" (.long (0 : Int64)) := (P_F_u0_Probes_cells.other W4 (Or.inr (slot_ne (Or.inr (hw _ (List.mem_of_getElem? (i := 34) rfl))) (Or.inr (hw _ (List.mem_of_getElem? (i := 32) rfl))) (by decide) (t := .long) (t' := .long) (by decide) (by decide))))
  obtain ⟨T9, h9, X9, e9, W9, st9⟩ := putF X4 hx hZ hown (host := "") (Or.inl (hw _ (List.mem_of_getElem? (i := 33) rfl))) Via.refl e4 f8 f7 (Or.inr ⟨(hw _ (List.mem_of_getElem? (i := 34) rfl)), rfl, hnm⟩) (hw _ (List.mem_of_getElem? (i := 2) rfl)) (ty := .long) (by decide) rfl rfl (g := (mkF m 14 #[.val (.ref u0), .val (.ref u1), .val (.long q2), .second] [(.long q2), (.ref u0)])) rfl rfl (hb hby d4_14)
  have f9_ : Fld Z h9 u0 "com/example/keys_to_bits/keystobits/Probes" "cells" "J" (.long q2) := f8.same W9
  have N10 := Fr.snoc X9 N5 g_u0
  have K11 : Keep h0 h9 [u0] := K6.wr W9 (Or.inl (List.mem_of_getElem? (i := 0) rfl))
  have f12 : Fld Z h9 u1 "com/example/keys_to_bits/keystobits/Murmur3$Hash128" "h1" "J" (.long v1) := ((P_F_u1_Murmur3_Hash128_h1.other W4 (Or.inl neA)).other W9 (Or.inl neA))
  have f13 : n0 ≤ h9.size := (Nat.le_trans (Nat.le_trans Z0 (Keep.of_wr W4).1) (Keep.of_wr W9).1)
  have f15 : Exa Z h9 u1 "com/example/keys_to_bits/keystobits/Murmur3$Hash128" := ((P_E_u1.wr W4).wr W9)
  obtain ⟨cq16, kq16, q16a, q16b, q16c⟩ := isOf hZ e9 f15
  obtain ⟨_, _, ⟨T14, L14, k14, n14⟩, -, X14, ⟨Lc14, hQ14, l14, y14, z14⟩, st14⟩ := X9.virtualBack hx (y := (⟨"com/example/keys_to_bits/keystobits/Murmur3$Hash128", "h1", "()J"⟩ : MethodName)) (z := (⟨"com/example/keys_to_bits/keystobits/Murmur3$Hash128", "h1", "()J"⟩ : MethodName)) hown (mvT hZ (hw _ (List.mem_of_getElem? (i := 35) rfl))) (mvT hZ (hw _ (List.mem_of_getElem? (i := 36) rfl))) (notFace_of_selects (args := #[]) (mvT hZ (hw _ (List.mem_of_getElem? (i := 38) rfl)))) (mvT hZ (hw _ (List.mem_of_getElem? (i := 38) rfl))) (mvT hZ (hw _ (List.mem_of_getElem? (i := 37) rfl))) (by decide) (backOf (W := 1) (rmh1 l Z a0 hw [] u1 v1 h9 n0 f13 f12) hZ (hw _ (List.mem_of_getElem? (i := 39) rfl)) (hw _ (List.mem_of_getElem? (i := 6) rfl)) (by decide) (by decide)) q16a q16c (g := (mkF m 19 #[.val (.ref u0), .val (.ref u1), .val (.long q2), .second] [(.ref u1), (.ref u0)])) rfl (by rw [hml]; rfl) (Steps.refl _) (argsL := []) (rest := [(.ref u0)]) (lenOf pd___J rfl) rfl (by show 2 * 0 + _ ≤ _; exact Nat.le_of_eq rfl) (hb hby d4_19) (fun _ _ => ⟨rfl, e9, (by decide : 0 + 0 ≤ _), (by decide : 0 + 0 ≤ _)⟩)
  dsimp only [Pt.U, Pt.locs, Pt.cells, Pt.slots] at X14 l14 y14 z14 st14 hQ14
  subst l14 y14 z14
  obtain ⟨rfl, N14q, e14⟩ := hQ14
  have N14 := Fr.app N10 N14q
  have f17 : Exa Z h9 u0 "com/example/keys_to_bits/keystobits/Probes" := (f7.wr W9)
  have f18 : Fld Z h9 u0 "com/example/keys_to_bits/keystobits/Probes" "start" "J" (.long (0 : Int64)) := ((P_F_u0_Probes_start.other W4 (Or.inr (slot_ne (Or.inl (hw _ (List.mem_of_getElem? (i := 41) rfl))) (Or.inr (hw _ (List.mem_of_getElem? (i := 32) rfl))) (by decide) (t := .long) (t' := .long) (by decide) (by decide)))).other W9 (Or.inr (slot_ne (Or.inl (hw _ (List.mem_of_getElem? (i := 41) rfl))) (Or.inr (hw _ (List.mem_of_getElem? (i := 34) rfl))) (by decide) (t := .long) (t' := .long) (by decide) (by decide))))
  obtain ⟨T19, h19, X19, e19, W19, st19⟩ := putF X14 hx hZ hown (host := "") (Or.inl (hw _ (List.mem_of_getElem? (i := 40) rfl))) Via.refl e14 f18 f17 (Or.inl (hw _ (List.mem_of_getElem? (i := 41) rfl))) (hw _ (List.mem_of_getElem? (i := 2) rfl)) (ty := .long) (by decide) rfl rfl (g := (mkF m 22 #[.val (.ref u0), .val (.ref u1), .val (.long q2), .second] [(.long v1), (.ref u0)])) rfl rfl (hb hby d4_22)
  have f19_ : Fld Z h19 u0 "com/example/keys_to_bits/keystobits/Probes" "start" "J" (.long v1) := f18.same W19
  have N20 := Fr.snoc X19 N14 g_u0
  have K21 : Keep h0 h19 [u0] := K11.wr W19 (Or.inl (List.mem_of_getElem? (i := 0) rfl))
  obtain ⟨fs, hr, hrun, hended, hW, hsame⟩ := X19.leave (v := none) (fun _ => rfl)
  have f22 : Exa Z h19 u0 "com/example/keys_to_bits/keystobits/Probes" := (f17.wr W19)
  have f23 : Fld Z h19 u0 "com/example/keys_to_bits/keystobits/Probes" "step" "J" (.long v2) := ((f4_.other W9 (Or.inr (slot_ne (Or.inr (hw _ (List.mem_of_getElem? (i := 32) rfl))) (Or.inr (hw _ (List.mem_of_getElem? (i := 34) rfl))) (by decide) (t := .long) (t' := .long) (by decide) (by decide)))).other W19 (Or.inr (slot_ne (Or.inr (hw _ (List.mem_of_getElem? (i := 32) rfl))) (Or.inl (hw _ (List.mem_of_getElem? (i := 41) rfl))) (by decide) (t := .long) (t' := .long) (by decide) (by decide))))
  have f24 : Fld Z h19 u0 "com/example/keys_to_bits/keystobits/Probes" "cells" "J" (.long q2) := (f9_.other W19 (Or.inr (slot_ne (Or.inr (hw _ (List.mem_of_getElem? (i := 34) rfl))) (Or.inl (hw _ (List.mem_of_getElem? (i := 41) rfl))) (by decide) (t := .long) (t' := .long) (by decide) (by decide))))
  refine ⟨_, _, pre0 _ ?_, hrun, hended, _, _, rfl, ?_, ⟨_, rfl⟩, hW, hsame.mono (by decide) (by decide)⟩
  · show Steps p.tables e below (s₁.setTop (mkF m 0 #[.val (.ref u0), .val (.ref u1), .val (.long q2), .second] [])) _
    refine XS.aloadN X0.here hx rfl (hb hby d4_0) rfl rfl ?_
    show Steps p.tables e below (s₁.setTop (mkF m 1 #[.val (.ref u0), .val (.ref u1), .val (.long q2), .second] [(.ref u0)])) _
    refine st1 _ ?_
    show Steps p.tables e below (T1.setTop (mkF m 4 #[.val (.ref u0), .val (.ref u1), .val (.long q2), .second] [])) _
    refine XS.aloadN X1.here hx rfl (hb hby d4_4) rfl rfl ?_
    show Steps p.tables e below (T1.setTop (mkF m 5 #[.val (.ref u0), .val (.ref u1), .val (.long q2), .second] [(.ref u0)])) _
    refine XS.aloadN X1.here hx rfl (hb hby d4_5) rfl rfl ?_
    show Steps p.tables e below (T1.setTop (mkF m 6 #[.val (.ref u0), .val (.ref u1), .val (.long q2), .second] [(.ref u1), (.ref u0)])) _
    refine st2.trans ?_
    show Steps p.tables e below (T2.setTop (mkF m 9 #[.val (.ref u0), .val (.ref u1), .val (.long q2), .second] [(.long v2), (.ref u0)])) _
    refine st4 _ ?_
    show Steps p.tables e below (T4.setTop (mkF m 12 #[.val (.ref u0), .val (.ref u1), .val (.long q2), .second] [])) _
    refine XS.aloadN X4.here hx rfl (hb hby d4_12) rfl rfl ?_
    show Steps p.tables e below (T4.setTop (mkF m 13 #[.val (.ref u0), .val (.ref u1), .val (.long q2), .second] [(.ref u0)])) _
    refine XS.lloadN X4.here hx rfl (hb hby d4_13) rfl ?_
    show Steps p.tables e below (T4.setTop (mkF m 14 #[.val (.ref u0), .val (.ref u1), .val (.long q2), .second] [(.long q2), (.ref u0)])) _
    refine st9 _ ?_
    show Steps p.tables e below (T9.setTop (mkF m 17 #[.val (.ref u0), .val (.ref u1), .val (.long q2), .second] [])) _
    refine XS.aloadN X9.here hx rfl (hb hby d4_17) rfl rfl ?_
    show Steps p.tables e below (T9.setTop (mkF m 18 #[.val (.ref u0), .val (.ref u1), .val (.long q2), .second] [(.ref u0)])) _
    refine XS.aloadN X9.here hx rfl (hb hby d4_18) rfl rfl ?_
    show Steps p.tables e below (T9.setTop (mkF m 19 #[.val (.ref u0), .val (.ref u1), .val (.long q2), .second] [(.ref u1), (.ref u0)])) _
    refine st14.trans ?_
    show Steps p.tables e below (T14.setTop (mkF m 22 #[.val (.ref u0), .val (.ref u1), .val (.long q2), .second] [(.long v1), (.ref u0)])) _
    refine st19 _ ?_
    show Steps p.tables e below (T19.setTop (mkF m 25 #[.val (.ref u0), .val (.ref u1), .val (.long q2), .second] [])) _
    exact X19.returnOut hx Bd.returns (hb hby d4_25) hr
  · show Q_rmPI Z u0 u1 q2 v1 v2 h0 n0 _ T19.heap _
    rw [e19]
    exact ⟨rfl, N20, K21, f22, f19_, f23, f24⟩

theorem ef_rmMH (m : MethodId) (x0 : Int64) (x1 : Int64) : entryFrame m #[(.long x0), (.long x1)] 20 = mkF m 0 #[.val (.long x0), .second, .val (.long x1), .second, .unset, .unset, .unset, .unset, .unset, .unset, .unset, .unset, .unset, .unset, .unset, .unset, .unset, .unset, .unset, .unset] [] := by first | (simp [entryFrame, mkF, argsToLocals, Value.category]; done) | rfl
set_option maxRecDepth 65536 in
set_option maxHeartbeats 40000000 in
theorem rmMH (l : Launch) (Z : State) (a0 : Array Value) (hw : ∀ d ∈ tables_1, d.before a0 Z = true) (ws : List Jvm.Cond) (q0 : Int64) (q1 : Int64) (h0 : Heap) (n0 : Nat) (Z0 : n0 ≤ h0.size) :
    MetFree l (⟨"java/lang/Math", "multiplyHigh", "(JJ)J"⟩ : MethodName) (head1 (Jvm.Cond.code (⟨"java/lang/Math", "multiplyHigh", "(JJ)J"⟩ : MethodName) jdk_29_method_45_code 20 (some .long) :: ws) ({ frames := 0, cells := 0, slots := 0, locals := 0 } : Room)) (fun a U => a = #[(.long q0), (.long q1)] ∧ Z.Warmed39 U.vm ∧ U.heap = h0) (fun _ _ _ _ _ => True) (fun _ U o U' => ∃ v L, o = .returned v ∧ own_QP (some (.long (own_mh q0 q1))) h0 n0 v U'.heap L ∧ FrameEnd U o U' L ({ frames := 0, cells := 0, slots := 0, locals := 0 } : Room).cells ({ frames := 0, cells := 0, slots := 0, locals := 0 } : Room).slots) := by
  refine MetFree.of_bodySF (Jvm.Free.JP.mathPlain rfl (by decide +kernel)) hisR ?_
  intro p e s m args below meth c s₁ Bd hml0 hP hK
  obtain ⟨rfl, hZ, hh⟩ := hP
  have hx := Bd.exec
  have hby := Bd.bytes
  have hml : c.maxLocals = 20 := hml0
  have hown : s.vm.findClass "java/lang/Math" = some m.cls := findClass_of_methodNamed Bd.named
  have hnm := (name_of_methodNamed Bd.named Bd.method).1
  have X0 : Stand p l e ({ frames := 0, cells := 0, slots := 0, locals := 0 } : Room) s m #[(.long q0), (.long q1)] below meth c s₁ [] 0 0 := Stand.of_body Bd
  have e0 : s₁.heap = h0 := by rw [← hh, Bd.state]; rfl
  have N0 := Fr.nil n0
  have pre0 : ∀ t, Steps p.tables e below (s₁.setTop (mkF m 0 #[.val (.long q0), .second, .val (.long q1), .second, .unset, .unset, .unset, .unset, .unset, .unset, .unset, .unset, .unset, .unset, .unset, .unset, .unset, .unset, .unset, .unset] [])) t → Steps p.tables e below (s₁.setTop (entryFrame m #[(.long q0), (.long q1)] 20)) t := fun t k => castTop (ef_rmMH m q0 q1) k
  obtain ⟨fs, hr, hrun, hended, hW, hsame⟩ := X0.leave (v := some (.long ((((q0 >>> ((32 : Int32) &&& 0x3f).toInt64) * (q1 >>> ((32 : Int32) &&& 0x3f).toInt64)) + ((((q0 >>> ((32 : Int32) &&& 0x3f).toInt64) * (q1 &&& (4294967295 : Int64))) + ((((q0 &&& (4294967295 : Int64)) * (q1 &&& (4294967295 : Int64))).toUInt64 >>> ((32 : Int32) &&& 0x3f).toInt64.toUInt64).toInt64)) >>> ((32 : Int32) &&& 0x3f).toInt64)) + ((((((q0 >>> ((32 : Int32) &&& 0x3f).toInt64) * (q1 &&& (4294967295 : Int64))) + ((((q0 &&& (4294967295 : Int64)) * (q1 &&& (4294967295 : Int64))).toUInt64 >>> ((32 : Int32) &&& 0x3f).toInt64.toUInt64).toInt64)) &&& (4294967295 : Int64)) + ((q0 &&& (4294967295 : Int64)) * (q1 >>> ((32 : Int32) &&& 0x3f).toInt64))) >>> ((32 : Int32) &&& 0x3f).toInt64)))) (fun h => by rw [Bd.returns] at h; cases h)
  refine ⟨_, _, pre0 _ ?_, hrun, hended, _, _, rfl, ?_, ⟨_, rfl⟩, hW, hsame.mono (by decide) (by decide)⟩
  · show Steps p.tables e below (s₁.setTop (mkF m 0 #[.val (.long q0), .second, .val (.long q1), .second, .unset, .unset, .unset, .unset, .unset, .unset, .unset, .unset, .unset, .unset, .unset, .unset, .unset, .unset, .unset, .unset] [])) _
    refine XS.lloadN X0.here hx rfl (hb hby d8_0) rfl ?_
    show Steps p.tables e below (s₁.setTop (mkF m 1 #[.val (.long q0), .second, .val (.long q1), .second, .unset, .unset, .unset, .unset, .unset, .unset, .unset, .unset, .unset, .unset, .unset, .unset, .unset, .unset, .unset, .unset] [(.long q0)])) _
    refine XS.bipush X0.here hx rfl (hb hby d8_1) ?_
    show Steps p.tables e below (s₁.setTop (mkF m 3 #[.val (.long q0), .second, .val (.long q1), .second, .unset, .unset, .unset, .unset, .unset, .unset, .unset, .unset, .unset, .unset, .unset, .unset, .unset, .unset, .unset, .unset] [(.int (32 : Int32)), (.long q0)])) _
    refine XS.lshr X0.here hx rfl (hb hby d8_3) rfl ?_
    show Steps p.tables e below (s₁.setTop (mkF m 4 #[.val (.long q0), .second, .val (.long q1), .second, .unset, .unset, .unset, .unset, .unset, .unset, .unset, .unset, .unset, .unset, .unset, .unset, .unset, .unset, .unset, .unset] [(.long (q0 >>> ((32 : Int32) &&& 0x3f).toInt64))])) _
    refine XS.lstore X0.here hx rfl (hb hby d8_4) rfl (l' := #[.val (.long q0), .second, .val (.long q1), .second, .val (.long (q0 >>> ((32 : Int32) &&& 0x3f).toInt64)), .second, .unset, .unset, .unset, .unset, .unset, .unset, .unset, .unset, .unset, .unset, .unset, .unset, .unset, .unset]) rfl ?_
    show Steps p.tables e below (s₁.setTop (mkF m 6 #[.val (.long q0), .second, .val (.long q1), .second, .val (.long (q0 >>> ((32 : Int32) &&& 0x3f).toInt64)), .second, .unset, .unset, .unset, .unset, .unset, .unset, .unset, .unset, .unset, .unset, .unset, .unset, .unset, .unset] [])) _
    refine XS.lloadN X0.here hx rfl (hb hby d8_6) rfl ?_
    show Steps p.tables e below (s₁.setTop (mkF m 7 #[.val (.long q0), .second, .val (.long q1), .second, .val (.long (q0 >>> ((32 : Int32) &&& 0x3f).toInt64)), .second, .unset, .unset, .unset, .unset, .unset, .unset, .unset, .unset, .unset, .unset, .unset, .unset, .unset, .unset] [(.long q0)])) _
    refine X0.ldc2Long hx hown (mvT hZ (hw _ (List.mem_of_getElem? (i := 53) rfl))) (g := (mkF m 7 #[.val (.long q0), .second, .val (.long q1), .second, .val (.long (q0 >>> ((32 : Int32) &&& 0x3f).toInt64)), .second, .unset, .unset, .unset, .unset, .unset, .unset, .unset, .unset, .unset, .unset, .unset, .unset, .unset, .unset] [(.long q0)])) rfl (hb hby d8_7) _ ?_
    show Steps p.tables e below (s₁.setTop (mkF m 10 #[.val (.long q0), .second, .val (.long q1), .second, .val (.long (q0 >>> ((32 : Int32) &&& 0x3f).toInt64)), .second, .unset, .unset, .unset, .unset, .unset, .unset, .unset, .unset, .unset, .unset, .unset, .unset, .unset, .unset] [(.long (4294967295 : Int64)), (.long q0)])) _
    refine XS.land X0.here hx rfl (hb hby d8_10) rfl ?_
    show Steps p.tables e below (s₁.setTop (mkF m 11 #[.val (.long q0), .second, .val (.long q1), .second, .val (.long (q0 >>> ((32 : Int32) &&& 0x3f).toInt64)), .second, .unset, .unset, .unset, .unset, .unset, .unset, .unset, .unset, .unset, .unset, .unset, .unset, .unset, .unset] [(.long (q0 &&& (4294967295 : Int64)))])) _
    refine XS.lstore X0.here hx rfl (hb hby d8_11) rfl (l' := #[.val (.long q0), .second, .val (.long q1), .second, .val (.long (q0 >>> ((32 : Int32) &&& 0x3f).toInt64)), .second, .val (.long (q0 &&& (4294967295 : Int64))), .second, .unset, .unset, .unset, .unset, .unset, .unset, .unset, .unset, .unset, .unset, .unset, .unset]) rfl ?_
    show Steps p.tables e below (s₁.setTop (mkF m 13 #[.val (.long q0), .second, .val (.long q1), .second, .val (.long (q0 >>> ((32 : Int32) &&& 0x3f).toInt64)), .second, .val (.long (q0 &&& (4294967295 : Int64))), .second, .unset, .unset, .unset, .unset, .unset, .unset, .unset, .unset, .unset, .unset, .unset, .unset] [])) _
    refine XS.lloadN X0.here hx rfl (hb hby d8_13) rfl ?_
    show Steps p.tables e below (s₁.setTop (mkF m 14 #[.val (.long q0), .second, .val (.long q1), .second, .val (.long (q0 >>> ((32 : Int32) &&& 0x3f).toInt64)), .second, .val (.long (q0 &&& (4294967295 : Int64))), .second, .unset, .unset, .unset, .unset, .unset, .unset, .unset, .unset, .unset, .unset, .unset, .unset] [(.long q1)])) _
    refine XS.bipush X0.here hx rfl (hb hby d8_14) ?_
    show Steps p.tables e below (s₁.setTop (mkF m 16 #[.val (.long q0), .second, .val (.long q1), .second, .val (.long (q0 >>> ((32 : Int32) &&& 0x3f).toInt64)), .second, .val (.long (q0 &&& (4294967295 : Int64))), .second, .unset, .unset, .unset, .unset, .unset, .unset, .unset, .unset, .unset, .unset, .unset, .unset] [(.int (32 : Int32)), (.long q1)])) _
    refine XS.lshr X0.here hx rfl (hb hby d8_16) rfl ?_
    show Steps p.tables e below (s₁.setTop (mkF m 17 #[.val (.long q0), .second, .val (.long q1), .second, .val (.long (q0 >>> ((32 : Int32) &&& 0x3f).toInt64)), .second, .val (.long (q0 &&& (4294967295 : Int64))), .second, .unset, .unset, .unset, .unset, .unset, .unset, .unset, .unset, .unset, .unset, .unset, .unset] [(.long (q1 >>> ((32 : Int32) &&& 0x3f).toInt64))])) _
    refine XS.lstore X0.here hx rfl (hb hby d8_17) rfl (l' := #[.val (.long q0), .second, .val (.long q1), .second, .val (.long (q0 >>> ((32 : Int32) &&& 0x3f).toInt64)), .second, .val (.long (q0 &&& (4294967295 : Int64))), .second, .val (.long (q1 >>> ((32 : Int32) &&& 0x3f).toInt64)), .second, .unset, .unset, .unset, .unset, .unset, .unset, .unset, .unset, .unset, .unset]) rfl ?_
    show Steps p.tables e below (s₁.setTop (mkF m 19 #[.val (.long q0), .second, .val (.long q1), .second, .val (.long (q0 >>> ((32 : Int32) &&& 0x3f).toInt64)), .second, .val (.long (q0 &&& (4294967295 : Int64))), .second, .val (.long (q1 >>> ((32 : Int32) &&& 0x3f).toInt64)), .second, .unset, .unset, .unset, .unset, .unset, .unset, .unset, .unset, .unset, .unset] [])) _
    refine XS.lloadN X0.here hx rfl (hb hby d8_19) rfl ?_
    show Steps p.tables e below (s₁.setTop (mkF m 20 #[.val (.long q0), .second, .val (.long q1), .second, .val (.long (q0 >>> ((32 : Int32) &&& 0x3f).toInt64)), .second, .val (.long (q0 &&& (4294967295 : Int64))), .second, .val (.long (q1 >>> ((32 : Int32) &&& 0x3f).toInt64)), .second, .unset, .unset, .unset, .unset, .unset, .unset, .unset, .unset, .unset, .unset] [(.long q1)])) _
    refine X0.ldc2Long hx hown (mvT hZ (hw _ (List.mem_of_getElem? (i := 53) rfl))) (g := (mkF m 20 #[.val (.long q0), .second, .val (.long q1), .second, .val (.long (q0 >>> ((32 : Int32) &&& 0x3f).toInt64)), .second, .val (.long (q0 &&& (4294967295 : Int64))), .second, .val (.long (q1 >>> ((32 : Int32) &&& 0x3f).toInt64)), .second, .unset, .unset, .unset, .unset, .unset, .unset, .unset, .unset, .unset, .unset] [(.long q1)])) rfl (hb hby d8_20) _ ?_
    show Steps p.tables e below (s₁.setTop (mkF m 23 #[.val (.long q0), .second, .val (.long q1), .second, .val (.long (q0 >>> ((32 : Int32) &&& 0x3f).toInt64)), .second, .val (.long (q0 &&& (4294967295 : Int64))), .second, .val (.long (q1 >>> ((32 : Int32) &&& 0x3f).toInt64)), .second, .unset, .unset, .unset, .unset, .unset, .unset, .unset, .unset, .unset, .unset] [(.long (4294967295 : Int64)), (.long q1)])) _
    refine XS.land X0.here hx rfl (hb hby d8_23) rfl ?_
    show Steps p.tables e below (s₁.setTop (mkF m 24 #[.val (.long q0), .second, .val (.long q1), .second, .val (.long (q0 >>> ((32 : Int32) &&& 0x3f).toInt64)), .second, .val (.long (q0 &&& (4294967295 : Int64))), .second, .val (.long (q1 >>> ((32 : Int32) &&& 0x3f).toInt64)), .second, .unset, .unset, .unset, .unset, .unset, .unset, .unset, .unset, .unset, .unset] [(.long (q1 &&& (4294967295 : Int64)))])) _
    refine XS.lstore X0.here hx rfl (hb hby d8_24) rfl (l' := #[.val (.long q0), .second, .val (.long q1), .second, .val (.long (q0 >>> ((32 : Int32) &&& 0x3f).toInt64)), .second, .val (.long (q0 &&& (4294967295 : Int64))), .second, .val (.long (q1 >>> ((32 : Int32) &&& 0x3f).toInt64)), .second, .val (.long (q1 &&& (4294967295 : Int64))), .second, .unset, .unset, .unset, .unset, .unset, .unset, .unset, .unset]) rfl ?_
    show Steps p.tables e below (s₁.setTop (mkF m 26 #[.val (.long q0), .second, .val (.long q1), .second, .val (.long (q0 >>> ((32 : Int32) &&& 0x3f).toInt64)), .second, .val (.long (q0 &&& (4294967295 : Int64))), .second, .val (.long (q1 >>> ((32 : Int32) &&& 0x3f).toInt64)), .second, .val (.long (q1 &&& (4294967295 : Int64))), .second, .unset, .unset, .unset, .unset, .unset, .unset, .unset, .unset] [])) _
    refine XS.lload X0.here hx rfl (hb hby d8_26) rfl ?_
    show Steps p.tables e below (s₁.setTop (mkF m 28 #[.val (.long q0), .second, .val (.long q1), .second, .val (.long (q0 >>> ((32 : Int32) &&& 0x3f).toInt64)), .second, .val (.long (q0 &&& (4294967295 : Int64))), .second, .val (.long (q1 >>> ((32 : Int32) &&& 0x3f).toInt64)), .second, .val (.long (q1 &&& (4294967295 : Int64))), .second, .unset, .unset, .unset, .unset, .unset, .unset, .unset, .unset] [(.long (q0 &&& (4294967295 : Int64)))])) _
    refine XS.lload X0.here hx rfl (hb hby d8_28) rfl ?_
    show Steps p.tables e below (s₁.setTop (mkF m 30 #[.val (.long q0), .second, .val (.long q1), .second, .val (.long (q0 >>> ((32 : Int32) &&& 0x3f).toInt64)), .second, .val (.long (q0 &&& (4294967295 : Int64))), .second, .val (.long (q1 >>> ((32 : Int32) &&& 0x3f).toInt64)), .second, .val (.long (q1 &&& (4294967295 : Int64))), .second, .unset, .unset, .unset, .unset, .unset, .unset, .unset, .unset] [(.long (q1 &&& (4294967295 : Int64))), (.long (q0 &&& (4294967295 : Int64)))])) _
    refine XS.lmul X0.here hx rfl (hb hby d8_30) rfl ?_
    show Steps p.tables e below (s₁.setTop (mkF m 31 #[.val (.long q0), .second, .val (.long q1), .second, .val (.long (q0 >>> ((32 : Int32) &&& 0x3f).toInt64)), .second, .val (.long (q0 &&& (4294967295 : Int64))), .second, .val (.long (q1 >>> ((32 : Int32) &&& 0x3f).toInt64)), .second, .val (.long (q1 &&& (4294967295 : Int64))), .second, .unset, .unset, .unset, .unset, .unset, .unset, .unset, .unset] [(.long ((q0 &&& (4294967295 : Int64)) * (q1 &&& (4294967295 : Int64))))])) _
    refine XS.lstore X0.here hx rfl (hb hby d8_31) rfl (l' := #[.val (.long q0), .second, .val (.long q1), .second, .val (.long (q0 >>> ((32 : Int32) &&& 0x3f).toInt64)), .second, .val (.long (q0 &&& (4294967295 : Int64))), .second, .val (.long (q1 >>> ((32 : Int32) &&& 0x3f).toInt64)), .second, .val (.long (q1 &&& (4294967295 : Int64))), .second, .val (.long ((q0 &&& (4294967295 : Int64)) * (q1 &&& (4294967295 : Int64)))), .second, .unset, .unset, .unset, .unset, .unset, .unset]) rfl ?_
    show Steps p.tables e below (s₁.setTop (mkF m 33 #[.val (.long q0), .second, .val (.long q1), .second, .val (.long (q0 >>> ((32 : Int32) &&& 0x3f).toInt64)), .second, .val (.long (q0 &&& (4294967295 : Int64))), .second, .val (.long (q1 >>> ((32 : Int32) &&& 0x3f).toInt64)), .second, .val (.long (q1 &&& (4294967295 : Int64))), .second, .val (.long ((q0 &&& (4294967295 : Int64)) * (q1 &&& (4294967295 : Int64)))), .second, .unset, .unset, .unset, .unset, .unset, .unset] [])) _
    refine XS.lload X0.here hx rfl (hb hby d8_33) rfl ?_
    show Steps p.tables e below (s₁.setTop (mkF m 35 #[.val (.long q0), .second, .val (.long q1), .second, .val (.long (q0 >>> ((32 : Int32) &&& 0x3f).toInt64)), .second, .val (.long (q0 &&& (4294967295 : Int64))), .second, .val (.long (q1 >>> ((32 : Int32) &&& 0x3f).toInt64)), .second, .val (.long (q1 &&& (4294967295 : Int64))), .second, .val (.long ((q0 &&& (4294967295 : Int64)) * (q1 &&& (4294967295 : Int64)))), .second, .unset, .unset, .unset, .unset, .unset, .unset] [(.long (q0 >>> ((32 : Int32) &&& 0x3f).toInt64))])) _
    refine XS.lload X0.here hx rfl (hb hby d8_35) rfl ?_
    show Steps p.tables e below (s₁.setTop (mkF m 37 #[.val (.long q0), .second, .val (.long q1), .second, .val (.long (q0 >>> ((32 : Int32) &&& 0x3f).toInt64)), .second, .val (.long (q0 &&& (4294967295 : Int64))), .second, .val (.long (q1 >>> ((32 : Int32) &&& 0x3f).toInt64)), .second, .val (.long (q1 &&& (4294967295 : Int64))), .second, .val (.long ((q0 &&& (4294967295 : Int64)) * (q1 &&& (4294967295 : Int64)))), .second, .unset, .unset, .unset, .unset, .unset, .unset] [(.long (q1 &&& (4294967295 : Int64))), (.long (q0 >>> ((32 : Int32) &&& 0x3f).toInt64))])) _
    refine XS.lmul X0.here hx rfl (hb hby d8_37) rfl ?_
    show Steps p.tables e below (s₁.setTop (mkF m 38 #[.val (.long q0), .second, .val (.long q1), .second, .val (.long (q0 >>> ((32 : Int32) &&& 0x3f).toInt64)), .second, .val (.long (q0 &&& (4294967295 : Int64))), .second, .val (.long (q1 >>> ((32 : Int32) &&& 0x3f).toInt64)), .second, .val (.long (q1 &&& (4294967295 : Int64))), .second, .val (.long ((q0 &&& (4294967295 : Int64)) * (q1 &&& (4294967295 : Int64)))), .second, .unset, .unset, .unset, .unset, .unset, .unset] [(.long ((q0 >>> ((32 : Int32) &&& 0x3f).toInt64) * (q1 &&& (4294967295 : Int64))))])) _
    refine XS.lload X0.here hx rfl (hb hby d8_38) rfl ?_
    show Steps p.tables e below (s₁.setTop (mkF m 40 #[.val (.long q0), .second, .val (.long q1), .second, .val (.long (q0 >>> ((32 : Int32) &&& 0x3f).toInt64)), .second, .val (.long (q0 &&& (4294967295 : Int64))), .second, .val (.long (q1 >>> ((32 : Int32) &&& 0x3f).toInt64)), .second, .val (.long (q1 &&& (4294967295 : Int64))), .second, .val (.long ((q0 &&& (4294967295 : Int64)) * (q1 &&& (4294967295 : Int64)))), .second, .unset, .unset, .unset, .unset, .unset, .unset] [(.long ((q0 &&& (4294967295 : Int64)) * (q1 &&& (4294967295 : Int64)))), (.long ((q0 >>> ((32 : Int32) &&& 0x3f).toInt64) * (q1 &&& (4294967295 : Int64))))])) _
    refine XS.bipush X0.here hx rfl (hb hby d8_40) ?_
    show Steps p.tables e below (s₁.setTop (mkF m 42 #[.val (.long q0), .second, .val (.long q1), .second, .val (.long (q0 >>> ((32 : Int32) &&& 0x3f).toInt64)), .second, .val (.long (q0 &&& (4294967295 : Int64))), .second, .val (.long (q1 >>> ((32 : Int32) &&& 0x3f).toInt64)), .second, .val (.long (q1 &&& (4294967295 : Int64))), .second, .val (.long ((q0 &&& (4294967295 : Int64)) * (q1 &&& (4294967295 : Int64)))), .second, .unset, .unset, .unset, .unset, .unset, .unset] [(.int (32 : Int32)), (.long ((q0 &&& (4294967295 : Int64)) * (q1 &&& (4294967295 : Int64)))), (.long ((q0 >>> ((32 : Int32) &&& 0x3f).toInt64) * (q1 &&& (4294967295 : Int64))))])) _
    refine XS.lushr X0.here hx rfl (hb hby d8_42) rfl ?_
    show Steps p.tables e below (s₁.setTop (mkF m 43 #[.val (.long q0), .second, .val (.long q1), .second, .val (.long (q0 >>> ((32 : Int32) &&& 0x3f).toInt64)), .second, .val (.long (q0 &&& (4294967295 : Int64))), .second, .val (.long (q1 >>> ((32 : Int32) &&& 0x3f).toInt64)), .second, .val (.long (q1 &&& (4294967295 : Int64))), .second, .val (.long ((q0 &&& (4294967295 : Int64)) * (q1 &&& (4294967295 : Int64)))), .second, .unset, .unset, .unset, .unset, .unset, .unset] [(.long ((((q0 &&& (4294967295 : Int64)) * (q1 &&& (4294967295 : Int64))).toUInt64 >>> ((32 : Int32) &&& 0x3f).toInt64.toUInt64).toInt64)), (.long ((q0 >>> ((32 : Int32) &&& 0x3f).toInt64) * (q1 &&& (4294967295 : Int64))))])) _
    refine XS.ladd X0.here hx rfl (hb hby d8_43) rfl ?_
    show Steps p.tables e below (s₁.setTop (mkF m 44 #[.val (.long q0), .second, .val (.long q1), .second, .val (.long (q0 >>> ((32 : Int32) &&& 0x3f).toInt64)), .second, .val (.long (q0 &&& (4294967295 : Int64))), .second, .val (.long (q1 >>> ((32 : Int32) &&& 0x3f).toInt64)), .second, .val (.long (q1 &&& (4294967295 : Int64))), .second, .val (.long ((q0 &&& (4294967295 : Int64)) * (q1 &&& (4294967295 : Int64)))), .second, .unset, .unset, .unset, .unset, .unset, .unset] [(.long (((q0 >>> ((32 : Int32) &&& 0x3f).toInt64) * (q1 &&& (4294967295 : Int64))) + ((((q0 &&& (4294967295 : Int64)) * (q1 &&& (4294967295 : Int64))).toUInt64 >>> ((32 : Int32) &&& 0x3f).toInt64.toUInt64).toInt64)))])) _
    refine XS.lstore X0.here hx rfl (hb hby d8_44) rfl (l' := #[.val (.long q0), .second, .val (.long q1), .second, .val (.long (q0 >>> ((32 : Int32) &&& 0x3f).toInt64)), .second, .val (.long (q0 &&& (4294967295 : Int64))), .second, .val (.long (q1 >>> ((32 : Int32) &&& 0x3f).toInt64)), .second, .val (.long (q1 &&& (4294967295 : Int64))), .second, .val (.long ((q0 &&& (4294967295 : Int64)) * (q1 &&& (4294967295 : Int64)))), .second, .val (.long (((q0 >>> ((32 : Int32) &&& 0x3f).toInt64) * (q1 &&& (4294967295 : Int64))) + ((((q0 &&& (4294967295 : Int64)) * (q1 &&& (4294967295 : Int64))).toUInt64 >>> ((32 : Int32) &&& 0x3f).toInt64.toUInt64).toInt64))), .second, .unset, .unset, .unset, .unset]) rfl ?_
    show Steps p.tables e below (s₁.setTop (mkF m 46 #[.val (.long q0), .second, .val (.long q1), .second, .val (.long (q0 >>> ((32 : Int32) &&& 0x3f).toInt64)), .second, .val (.long (q0 &&& (4294967295 : Int64))), .second, .val (.long (q1 >>> ((32 : Int32) &&& 0x3f).toInt64)), .second, .val (.long (q1 &&& (4294967295 : Int64))), .second, .val (.long ((q0 &&& (4294967295 : Int64)) * (q1 &&& (4294967295 : Int64)))), .second, .val (.long (((q0 >>> ((32 : Int32) &&& 0x3f).toInt64) * (q1 &&& (4294967295 : Int64))) + ((((q0 &&& (4294967295 : Int64)) * (q1 &&& (4294967295 : Int64))).toUInt64 >>> ((32 : Int32) &&& 0x3f).toInt64.toUInt64).toInt64))), .second, .unset, .unset, .unset, .unset] [])) _
    refine XS.lload X0.here hx rfl (hb hby d8_46) rfl ?_
    show Steps p.tables e below (s₁.setTop (mkF m 48 #[.val (.long q0), .second, .val (.long q1), .second, .val (.long (q0 >>> ((32 : Int32) &&& 0x3f).toInt64)), .second, .val (.long (q0 &&& (4294967295 : Int64))), .second, .val (.long (q1 >>> ((32 : Int32) &&& 0x3f).toInt64)), .second, .val (.long (q1 &&& (4294967295 : Int64))), .second, .val (.long ((q0 &&& (4294967295 : Int64)) * (q1 &&& (4294967295 : Int64)))), .second, .val (.long (((q0 >>> ((32 : Int32) &&& 0x3f).toInt64) * (q1 &&& (4294967295 : Int64))) + ((((q0 &&& (4294967295 : Int64)) * (q1 &&& (4294967295 : Int64))).toUInt64 >>> ((32 : Int32) &&& 0x3f).toInt64.toUInt64).toInt64))), .second, .unset, .unset, .unset, .unset] [(.long (((q0 >>> ((32 : Int32) &&& 0x3f).toInt64) * (q1 &&& (4294967295 : Int64))) + ((((q0 &&& (4294967295 : Int64)) * (q1 &&& (4294967295 : Int64))).toUInt64 >>> ((32 : Int32) &&& 0x3f).toInt64.toUInt64).toInt64)))])) _
    refine X0.ldc2Long hx hown (mvT hZ (hw _ (List.mem_of_getElem? (i := 53) rfl))) (g := (mkF m 48 #[.val (.long q0), .second, .val (.long q1), .second, .val (.long (q0 >>> ((32 : Int32) &&& 0x3f).toInt64)), .second, .val (.long (q0 &&& (4294967295 : Int64))), .second, .val (.long (q1 >>> ((32 : Int32) &&& 0x3f).toInt64)), .second, .val (.long (q1 &&& (4294967295 : Int64))), .second, .val (.long ((q0 &&& (4294967295 : Int64)) * (q1 &&& (4294967295 : Int64)))), .second, .val (.long (((q0 >>> ((32 : Int32) &&& 0x3f).toInt64) * (q1 &&& (4294967295 : Int64))) + ((((q0 &&& (4294967295 : Int64)) * (q1 &&& (4294967295 : Int64))).toUInt64 >>> ((32 : Int32) &&& 0x3f).toInt64.toUInt64).toInt64))), .second, .unset, .unset, .unset, .unset] [(.long (((q0 >>> ((32 : Int32) &&& 0x3f).toInt64) * (q1 &&& (4294967295 : Int64))) + ((((q0 &&& (4294967295 : Int64)) * (q1 &&& (4294967295 : Int64))).toUInt64 >>> ((32 : Int32) &&& 0x3f).toInt64.toUInt64).toInt64)))])) rfl (hb hby d8_48) _ ?_
    show Steps p.tables e below (s₁.setTop (mkF m 51 #[.val (.long q0), .second, .val (.long q1), .second, .val (.long (q0 >>> ((32 : Int32) &&& 0x3f).toInt64)), .second, .val (.long (q0 &&& (4294967295 : Int64))), .second, .val (.long (q1 >>> ((32 : Int32) &&& 0x3f).toInt64)), .second, .val (.long (q1 &&& (4294967295 : Int64))), .second, .val (.long ((q0 &&& (4294967295 : Int64)) * (q1 &&& (4294967295 : Int64)))), .second, .val (.long (((q0 >>> ((32 : Int32) &&& 0x3f).toInt64) * (q1 &&& (4294967295 : Int64))) + ((((q0 &&& (4294967295 : Int64)) * (q1 &&& (4294967295 : Int64))).toUInt64 >>> ((32 : Int32) &&& 0x3f).toInt64.toUInt64).toInt64))), .second, .unset, .unset, .unset, .unset] [(.long (4294967295 : Int64)), (.long (((q0 >>> ((32 : Int32) &&& 0x3f).toInt64) * (q1 &&& (4294967295 : Int64))) + ((((q0 &&& (4294967295 : Int64)) * (q1 &&& (4294967295 : Int64))).toUInt64 >>> ((32 : Int32) &&& 0x3f).toInt64.toUInt64).toInt64)))])) _
    refine XS.land X0.here hx rfl (hb hby d8_51) rfl ?_
    show Steps p.tables e below (s₁.setTop (mkF m 52 #[.val (.long q0), .second, .val (.long q1), .second, .val (.long (q0 >>> ((32 : Int32) &&& 0x3f).toInt64)), .second, .val (.long (q0 &&& (4294967295 : Int64))), .second, .val (.long (q1 >>> ((32 : Int32) &&& 0x3f).toInt64)), .second, .val (.long (q1 &&& (4294967295 : Int64))), .second, .val (.long ((q0 &&& (4294967295 : Int64)) * (q1 &&& (4294967295 : Int64)))), .second, .val (.long (((q0 >>> ((32 : Int32) &&& 0x3f).toInt64) * (q1 &&& (4294967295 : Int64))) + ((((q0 &&& (4294967295 : Int64)) * (q1 &&& (4294967295 : Int64))).toUInt64 >>> ((32 : Int32) &&& 0x3f).toInt64.toUInt64).toInt64))), .second, .unset, .unset, .unset, .unset] [(.long ((((q0 >>> ((32 : Int32) &&& 0x3f).toInt64) * (q1 &&& (4294967295 : Int64))) + ((((q0 &&& (4294967295 : Int64)) * (q1 &&& (4294967295 : Int64))).toUInt64 >>> ((32 : Int32) &&& 0x3f).toInt64.toUInt64).toInt64)) &&& (4294967295 : Int64)))])) _
    refine XS.lstore X0.here hx rfl (hb hby d8_52) rfl (l' := #[.val (.long q0), .second, .val (.long q1), .second, .val (.long (q0 >>> ((32 : Int32) &&& 0x3f).toInt64)), .second, .val (.long (q0 &&& (4294967295 : Int64))), .second, .val (.long (q1 >>> ((32 : Int32) &&& 0x3f).toInt64)), .second, .val (.long (q1 &&& (4294967295 : Int64))), .second, .val (.long ((q0 &&& (4294967295 : Int64)) * (q1 &&& (4294967295 : Int64)))), .second, .val (.long (((q0 >>> ((32 : Int32) &&& 0x3f).toInt64) * (q1 &&& (4294967295 : Int64))) + ((((q0 &&& (4294967295 : Int64)) * (q1 &&& (4294967295 : Int64))).toUInt64 >>> ((32 : Int32) &&& 0x3f).toInt64.toUInt64).toInt64))), .second, .val (.long ((((q0 >>> ((32 : Int32) &&& 0x3f).toInt64) * (q1 &&& (4294967295 : Int64))) + ((((q0 &&& (4294967295 : Int64)) * (q1 &&& (4294967295 : Int64))).toUInt64 >>> ((32 : Int32) &&& 0x3f).toInt64.toUInt64).toInt64)) &&& (4294967295 : Int64))), .second, .unset, .unset]) rfl ?_
    show Steps p.tables e below (s₁.setTop (mkF m 54 #[.val (.long q0), .second, .val (.long q1), .second, .val (.long (q0 >>> ((32 : Int32) &&& 0x3f).toInt64)), .second, .val (.long (q0 &&& (4294967295 : Int64))), .second, .val (.long (q1 >>> ((32 : Int32) &&& 0x3f).toInt64)), .second, .val (.long (q1 &&& (4294967295 : Int64))), .second, .val (.long ((q0 &&& (4294967295 : Int64)) * (q1 &&& (4294967295 : Int64)))), .second, .val (.long (((q0 >>> ((32 : Int32) &&& 0x3f).toInt64) * (q1 &&& (4294967295 : Int64))) + ((((q0 &&& (4294967295 : Int64)) * (q1 &&& (4294967295 : Int64))).toUInt64 >>> ((32 : Int32) &&& 0x3f).toInt64.toUInt64).toInt64))), .second, .val (.long ((((q0 >>> ((32 : Int32) &&& 0x3f).toInt64) * (q1 &&& (4294967295 : Int64))) + ((((q0 &&& (4294967295 : Int64)) * (q1 &&& (4294967295 : Int64))).toUInt64 >>> ((32 : Int32) &&& 0x3f).toInt64.toUInt64).toInt64)) &&& (4294967295 : Int64))), .second, .unset, .unset] [])) _
    refine XS.lload X0.here hx rfl (hb hby d8_54) rfl ?_
    show Steps p.tables e below (s₁.setTop (mkF m 56 #[.val (.long q0), .second, .val (.long q1), .second, .val (.long (q0 >>> ((32 : Int32) &&& 0x3f).toInt64)), .second, .val (.long (q0 &&& (4294967295 : Int64))), .second, .val (.long (q1 >>> ((32 : Int32) &&& 0x3f).toInt64)), .second, .val (.long (q1 &&& (4294967295 : Int64))), .second, .val (.long ((q0 &&& (4294967295 : Int64)) * (q1 &&& (4294967295 : Int64)))), .second, .val (.long (((q0 >>> ((32 : Int32) &&& 0x3f).toInt64) * (q1 &&& (4294967295 : Int64))) + ((((q0 &&& (4294967295 : Int64)) * (q1 &&& (4294967295 : Int64))).toUInt64 >>> ((32 : Int32) &&& 0x3f).toInt64.toUInt64).toInt64))), .second, .val (.long ((((q0 >>> ((32 : Int32) &&& 0x3f).toInt64) * (q1 &&& (4294967295 : Int64))) + ((((q0 &&& (4294967295 : Int64)) * (q1 &&& (4294967295 : Int64))).toUInt64 >>> ((32 : Int32) &&& 0x3f).toInt64.toUInt64).toInt64)) &&& (4294967295 : Int64))), .second, .unset, .unset] [(.long (((q0 >>> ((32 : Int32) &&& 0x3f).toInt64) * (q1 &&& (4294967295 : Int64))) + ((((q0 &&& (4294967295 : Int64)) * (q1 &&& (4294967295 : Int64))).toUInt64 >>> ((32 : Int32) &&& 0x3f).toInt64.toUInt64).toInt64)))])) _
    refine XS.bipush X0.here hx rfl (hb hby d8_56) ?_
    show Steps p.tables e below (s₁.setTop (mkF m 58 #[.val (.long q0), .second, .val (.long q1), .second, .val (.long (q0 >>> ((32 : Int32) &&& 0x3f).toInt64)), .second, .val (.long (q0 &&& (4294967295 : Int64))), .second, .val (.long (q1 >>> ((32 : Int32) &&& 0x3f).toInt64)), .second, .val (.long (q1 &&& (4294967295 : Int64))), .second, .val (.long ((q0 &&& (4294967295 : Int64)) * (q1 &&& (4294967295 : Int64)))), .second, .val (.long (((q0 >>> ((32 : Int32) &&& 0x3f).toInt64) * (q1 &&& (4294967295 : Int64))) + ((((q0 &&& (4294967295 : Int64)) * (q1 &&& (4294967295 : Int64))).toUInt64 >>> ((32 : Int32) &&& 0x3f).toInt64.toUInt64).toInt64))), .second, .val (.long ((((q0 >>> ((32 : Int32) &&& 0x3f).toInt64) * (q1 &&& (4294967295 : Int64))) + ((((q0 &&& (4294967295 : Int64)) * (q1 &&& (4294967295 : Int64))).toUInt64 >>> ((32 : Int32) &&& 0x3f).toInt64.toUInt64).toInt64)) &&& (4294967295 : Int64))), .second, .unset, .unset] [(.int (32 : Int32)), (.long (((q0 >>> ((32 : Int32) &&& 0x3f).toInt64) * (q1 &&& (4294967295 : Int64))) + ((((q0 &&& (4294967295 : Int64)) * (q1 &&& (4294967295 : Int64))).toUInt64 >>> ((32 : Int32) &&& 0x3f).toInt64.toUInt64).toInt64)))])) _
    refine XS.lshr X0.here hx rfl (hb hby d8_58) rfl ?_
    show Steps p.tables e below (s₁.setTop (mkF m 59 #[.val (.long q0), .second, .val (.long q1), .second, .val (.long (q0 >>> ((32 : Int32) &&& 0x3f).toInt64)), .second, .val (.long (q0 &&& (4294967295 : Int64))), .second, .val (.long (q1 >>> ((32 : Int32) &&& 0x3f).toInt64)), .second, .val (.long (q1 &&& (4294967295 : Int64))), .second, .val (.long ((q0 &&& (4294967295 : Int64)) * (q1 &&& (4294967295 : Int64)))), .second, .val (.long (((q0 >>> ((32 : Int32) &&& 0x3f).toInt64) * (q1 &&& (4294967295 : Int64))) + ((((q0 &&& (4294967295 : Int64)) * (q1 &&& (4294967295 : Int64))).toUInt64 >>> ((32 : Int32) &&& 0x3f).toInt64.toUInt64).toInt64))), .second, .val (.long ((((q0 >>> ((32 : Int32) &&& 0x3f).toInt64) * (q1 &&& (4294967295 : Int64))) + ((((q0 &&& (4294967295 : Int64)) * (q1 &&& (4294967295 : Int64))).toUInt64 >>> ((32 : Int32) &&& 0x3f).toInt64.toUInt64).toInt64)) &&& (4294967295 : Int64))), .second, .unset, .unset] [(.long ((((q0 >>> ((32 : Int32) &&& 0x3f).toInt64) * (q1 &&& (4294967295 : Int64))) + ((((q0 &&& (4294967295 : Int64)) * (q1 &&& (4294967295 : Int64))).toUInt64 >>> ((32 : Int32) &&& 0x3f).toInt64.toUInt64).toInt64)) >>> ((32 : Int32) &&& 0x3f).toInt64))])) _
    refine XS.lstore X0.here hx rfl (hb hby d8_59) rfl (l' := #[.val (.long q0), .second, .val (.long q1), .second, .val (.long (q0 >>> ((32 : Int32) &&& 0x3f).toInt64)), .second, .val (.long (q0 &&& (4294967295 : Int64))), .second, .val (.long (q1 >>> ((32 : Int32) &&& 0x3f).toInt64)), .second, .val (.long (q1 &&& (4294967295 : Int64))), .second, .val (.long ((q0 &&& (4294967295 : Int64)) * (q1 &&& (4294967295 : Int64)))), .second, .val (.long (((q0 >>> ((32 : Int32) &&& 0x3f).toInt64) * (q1 &&& (4294967295 : Int64))) + ((((q0 &&& (4294967295 : Int64)) * (q1 &&& (4294967295 : Int64))).toUInt64 >>> ((32 : Int32) &&& 0x3f).toInt64.toUInt64).toInt64))), .second, .val (.long ((((q0 >>> ((32 : Int32) &&& 0x3f).toInt64) * (q1 &&& (4294967295 : Int64))) + ((((q0 &&& (4294967295 : Int64)) * (q1 &&& (4294967295 : Int64))).toUInt64 >>> ((32 : Int32) &&& 0x3f).toInt64.toUInt64).toInt64)) &&& (4294967295 : Int64))), .second, .val (.long ((((q0 >>> ((32 : Int32) &&& 0x3f).toInt64) * (q1 &&& (4294967295 : Int64))) + ((((q0 &&& (4294967295 : Int64)) * (q1 &&& (4294967295 : Int64))).toUInt64 >>> ((32 : Int32) &&& 0x3f).toInt64.toUInt64).toInt64)) >>> ((32 : Int32) &&& 0x3f).toInt64)), .second]) rfl ?_
    show Steps p.tables e below (s₁.setTop (mkF m 61 #[.val (.long q0), .second, .val (.long q1), .second, .val (.long (q0 >>> ((32 : Int32) &&& 0x3f).toInt64)), .second, .val (.long (q0 &&& (4294967295 : Int64))), .second, .val (.long (q1 >>> ((32 : Int32) &&& 0x3f).toInt64)), .second, .val (.long (q1 &&& (4294967295 : Int64))), .second, .val (.long ((q0 &&& (4294967295 : Int64)) * (q1 &&& (4294967295 : Int64)))), .second, .val (.long (((q0 >>> ((32 : Int32) &&& 0x3f).toInt64) * (q1 &&& (4294967295 : Int64))) + ((((q0 &&& (4294967295 : Int64)) * (q1 &&& (4294967295 : Int64))).toUInt64 >>> ((32 : Int32) &&& 0x3f).toInt64.toUInt64).toInt64))), .second, .val (.long ((((q0 >>> ((32 : Int32) &&& 0x3f).toInt64) * (q1 &&& (4294967295 : Int64))) + ((((q0 &&& (4294967295 : Int64)) * (q1 &&& (4294967295 : Int64))).toUInt64 >>> ((32 : Int32) &&& 0x3f).toInt64.toUInt64).toInt64)) &&& (4294967295 : Int64))), .second, .val (.long ((((q0 >>> ((32 : Int32) &&& 0x3f).toInt64) * (q1 &&& (4294967295 : Int64))) + ((((q0 &&& (4294967295 : Int64)) * (q1 &&& (4294967295 : Int64))).toUInt64 >>> ((32 : Int32) &&& 0x3f).toInt64.toUInt64).toInt64)) >>> ((32 : Int32) &&& 0x3f).toInt64)), .second] [])) _
    refine XS.lload X0.here hx rfl (hb hby d8_61) rfl ?_
    show Steps p.tables e below (s₁.setTop (mkF m 63 #[.val (.long q0), .second, .val (.long q1), .second, .val (.long (q0 >>> ((32 : Int32) &&& 0x3f).toInt64)), .second, .val (.long (q0 &&& (4294967295 : Int64))), .second, .val (.long (q1 >>> ((32 : Int32) &&& 0x3f).toInt64)), .second, .val (.long (q1 &&& (4294967295 : Int64))), .second, .val (.long ((q0 &&& (4294967295 : Int64)) * (q1 &&& (4294967295 : Int64)))), .second, .val (.long (((q0 >>> ((32 : Int32) &&& 0x3f).toInt64) * (q1 &&& (4294967295 : Int64))) + ((((q0 &&& (4294967295 : Int64)) * (q1 &&& (4294967295 : Int64))).toUInt64 >>> ((32 : Int32) &&& 0x3f).toInt64.toUInt64).toInt64))), .second, .val (.long ((((q0 >>> ((32 : Int32) &&& 0x3f).toInt64) * (q1 &&& (4294967295 : Int64))) + ((((q0 &&& (4294967295 : Int64)) * (q1 &&& (4294967295 : Int64))).toUInt64 >>> ((32 : Int32) &&& 0x3f).toInt64.toUInt64).toInt64)) &&& (4294967295 : Int64))), .second, .val (.long ((((q0 >>> ((32 : Int32) &&& 0x3f).toInt64) * (q1 &&& (4294967295 : Int64))) + ((((q0 &&& (4294967295 : Int64)) * (q1 &&& (4294967295 : Int64))).toUInt64 >>> ((32 : Int32) &&& 0x3f).toInt64.toUInt64).toInt64)) >>> ((32 : Int32) &&& 0x3f).toInt64)), .second] [(.long ((((q0 >>> ((32 : Int32) &&& 0x3f).toInt64) * (q1 &&& (4294967295 : Int64))) + ((((q0 &&& (4294967295 : Int64)) * (q1 &&& (4294967295 : Int64))).toUInt64 >>> ((32 : Int32) &&& 0x3f).toInt64.toUInt64).toInt64)) &&& (4294967295 : Int64)))])) _
    refine XS.lload X0.here hx rfl (hb hby d8_63) rfl ?_
    show Steps p.tables e below (s₁.setTop (mkF m 65 #[.val (.long q0), .second, .val (.long q1), .second, .val (.long (q0 >>> ((32 : Int32) &&& 0x3f).toInt64)), .second, .val (.long (q0 &&& (4294967295 : Int64))), .second, .val (.long (q1 >>> ((32 : Int32) &&& 0x3f).toInt64)), .second, .val (.long (q1 &&& (4294967295 : Int64))), .second, .val (.long ((q0 &&& (4294967295 : Int64)) * (q1 &&& (4294967295 : Int64)))), .second, .val (.long (((q0 >>> ((32 : Int32) &&& 0x3f).toInt64) * (q1 &&& (4294967295 : Int64))) + ((((q0 &&& (4294967295 : Int64)) * (q1 &&& (4294967295 : Int64))).toUInt64 >>> ((32 : Int32) &&& 0x3f).toInt64.toUInt64).toInt64))), .second, .val (.long ((((q0 >>> ((32 : Int32) &&& 0x3f).toInt64) * (q1 &&& (4294967295 : Int64))) + ((((q0 &&& (4294967295 : Int64)) * (q1 &&& (4294967295 : Int64))).toUInt64 >>> ((32 : Int32) &&& 0x3f).toInt64.toUInt64).toInt64)) &&& (4294967295 : Int64))), .second, .val (.long ((((q0 >>> ((32 : Int32) &&& 0x3f).toInt64) * (q1 &&& (4294967295 : Int64))) + ((((q0 &&& (4294967295 : Int64)) * (q1 &&& (4294967295 : Int64))).toUInt64 >>> ((32 : Int32) &&& 0x3f).toInt64.toUInt64).toInt64)) >>> ((32 : Int32) &&& 0x3f).toInt64)), .second] [(.long (q0 &&& (4294967295 : Int64))), (.long ((((q0 >>> ((32 : Int32) &&& 0x3f).toInt64) * (q1 &&& (4294967295 : Int64))) + ((((q0 &&& (4294967295 : Int64)) * (q1 &&& (4294967295 : Int64))).toUInt64 >>> ((32 : Int32) &&& 0x3f).toInt64.toUInt64).toInt64)) &&& (4294967295 : Int64)))])) _
    refine XS.lload X0.here hx rfl (hb hby d8_65) rfl ?_
    show Steps p.tables e below (s₁.setTop (mkF m 67 #[.val (.long q0), .second, .val (.long q1), .second, .val (.long (q0 >>> ((32 : Int32) &&& 0x3f).toInt64)), .second, .val (.long (q0 &&& (4294967295 : Int64))), .second, .val (.long (q1 >>> ((32 : Int32) &&& 0x3f).toInt64)), .second, .val (.long (q1 &&& (4294967295 : Int64))), .second, .val (.long ((q0 &&& (4294967295 : Int64)) * (q1 &&& (4294967295 : Int64)))), .second, .val (.long (((q0 >>> ((32 : Int32) &&& 0x3f).toInt64) * (q1 &&& (4294967295 : Int64))) + ((((q0 &&& (4294967295 : Int64)) * (q1 &&& (4294967295 : Int64))).toUInt64 >>> ((32 : Int32) &&& 0x3f).toInt64.toUInt64).toInt64))), .second, .val (.long ((((q0 >>> ((32 : Int32) &&& 0x3f).toInt64) * (q1 &&& (4294967295 : Int64))) + ((((q0 &&& (4294967295 : Int64)) * (q1 &&& (4294967295 : Int64))).toUInt64 >>> ((32 : Int32) &&& 0x3f).toInt64.toUInt64).toInt64)) &&& (4294967295 : Int64))), .second, .val (.long ((((q0 >>> ((32 : Int32) &&& 0x3f).toInt64) * (q1 &&& (4294967295 : Int64))) + ((((q0 &&& (4294967295 : Int64)) * (q1 &&& (4294967295 : Int64))).toUInt64 >>> ((32 : Int32) &&& 0x3f).toInt64.toUInt64).toInt64)) >>> ((32 : Int32) &&& 0x3f).toInt64)), .second] [(.long (q1 >>> ((32 : Int32) &&& 0x3f).toInt64)), (.long (q0 &&& (4294967295 : Int64))), (.long ((((q0 >>> ((32 : Int32) &&& 0x3f).toInt64) * (q1 &&& (4294967295 : Int64))) + ((((q0 &&& (4294967295 : Int64)) * (q1 &&& (4294967295 : Int64))).toUInt64 >>> ((32 : Int32) &&& 0x3f).toInt64.toUInt64).toInt64)) &&& (4294967295 : Int64)))])) _
    refine XS.lmul X0.here hx rfl (hb hby d8_67) rfl ?_
    show Steps p.tables e below (s₁.setTop (mkF m 68 #[.val (.long q0), .second, .val (.long q1), .second, .val (.long (q0 >>> ((32 : Int32) &&& 0x3f).toInt64)), .second, .val (.long (q0 &&& (4294967295 : Int64))), .second, .val (.long (q1 >>> ((32 : Int32) &&& 0x3f).toInt64)), .second, .val (.long (q1 &&& (4294967295 : Int64))), .second, .val (.long ((q0 &&& (4294967295 : Int64)) * (q1 &&& (4294967295 : Int64)))), .second, .val (.long (((q0 >>> ((32 : Int32) &&& 0x3f).toInt64) * (q1 &&& (4294967295 : Int64))) + ((((q0 &&& (4294967295 : Int64)) * (q1 &&& (4294967295 : Int64))).toUInt64 >>> ((32 : Int32) &&& 0x3f).toInt64.toUInt64).toInt64))), .second, .val (.long ((((q0 >>> ((32 : Int32) &&& 0x3f).toInt64) * (q1 &&& (4294967295 : Int64))) + ((((q0 &&& (4294967295 : Int64)) * (q1 &&& (4294967295 : Int64))).toUInt64 >>> ((32 : Int32) &&& 0x3f).toInt64.toUInt64).toInt64)) &&& (4294967295 : Int64))), .second, .val (.long ((((q0 >>> ((32 : Int32) &&& 0x3f).toInt64) * (q1 &&& (4294967295 : Int64))) + ((((q0 &&& (4294967295 : Int64)) * (q1 &&& (4294967295 : Int64))).toUInt64 >>> ((32 : Int32) &&& 0x3f).toInt64.toUInt64).toInt64)) >>> ((32 : Int32) &&& 0x3f).toInt64)), .second] [(.long ((q0 &&& (4294967295 : Int64)) * (q1 >>> ((32 : Int32) &&& 0x3f).toInt64))), (.long ((((q0 >>> ((32 : Int32) &&& 0x3f).toInt64) * (q1 &&& (4294967295 : Int64))) + ((((q0 &&& (4294967295 : Int64)) * (q1 &&& (4294967295 : Int64))).toUInt64 >>> ((32 : Int32) &&& 0x3f).toInt64.toUInt64).toInt64)) &&& (4294967295 : Int64)))])) _
    refine XS.ladd X0.here hx rfl (hb hby d8_68) rfl ?_
    show Steps p.tables e below (s₁.setTop (mkF m 69 #[.val (.long q0), .second, .val (.long q1), .second, .val (.long (q0 >>> ((32 : Int32) &&& 0x3f).toInt64)), .second, .val (.long (q0 &&& (4294967295 : Int64))), .second, .val (.long (q1 >>> ((32 : Int32) &&& 0x3f).toInt64)), .second, .val (.long (q1 &&& (4294967295 : Int64))), .second, .val (.long ((q0 &&& (4294967295 : Int64)) * (q1 &&& (4294967295 : Int64)))), .second, .val (.long (((q0 >>> ((32 : Int32) &&& 0x3f).toInt64) * (q1 &&& (4294967295 : Int64))) + ((((q0 &&& (4294967295 : Int64)) * (q1 &&& (4294967295 : Int64))).toUInt64 >>> ((32 : Int32) &&& 0x3f).toInt64.toUInt64).toInt64))), .second, .val (.long ((((q0 >>> ((32 : Int32) &&& 0x3f).toInt64) * (q1 &&& (4294967295 : Int64))) + ((((q0 &&& (4294967295 : Int64)) * (q1 &&& (4294967295 : Int64))).toUInt64 >>> ((32 : Int32) &&& 0x3f).toInt64.toUInt64).toInt64)) &&& (4294967295 : Int64))), .second, .val (.long ((((q0 >>> ((32 : Int32) &&& 0x3f).toInt64) * (q1 &&& (4294967295 : Int64))) + ((((q0 &&& (4294967295 : Int64)) * (q1 &&& (4294967295 : Int64))).toUInt64 >>> ((32 : Int32) &&& 0x3f).toInt64.toUInt64).toInt64)) >>> ((32 : Int32) &&& 0x3f).toInt64)), .second] [(.long (((((q0 >>> ((32 : Int32) &&& 0x3f).toInt64) * (q1 &&& (4294967295 : Int64))) + ((((q0 &&& (4294967295 : Int64)) * (q1 &&& (4294967295 : Int64))).toUInt64 >>> ((32 : Int32) &&& 0x3f).toInt64.toUInt64).toInt64)) &&& (4294967295 : Int64)) + ((q0 &&& (4294967295 : Int64)) * (q1 >>> ((32 : Int32) &&& 0x3f).toInt64))))])) _
    refine XS.lstore X0.here hx rfl (hb hby d8_69) rfl (l' := #[.val (.long q0), .second, .val (.long q1), .second, .val (.long (q0 >>> ((32 : Int32) &&& 0x3f).toInt64)), .second, .val (.long (q0 &&& (4294967295 : Int64))), .second, .val (.long (q1 >>> ((32 : Int32) &&& 0x3f).toInt64)), .second, .val (.long (q1 &&& (4294967295 : Int64))), .second, .val (.long ((q0 &&& (4294967295 : Int64)) * (q1 &&& (4294967295 : Int64)))), .second, .val (.long (((q0 >>> ((32 : Int32) &&& 0x3f).toInt64) * (q1 &&& (4294967295 : Int64))) + ((((q0 &&& (4294967295 : Int64)) * (q1 &&& (4294967295 : Int64))).toUInt64 >>> ((32 : Int32) &&& 0x3f).toInt64.toUInt64).toInt64))), .second, .val (.long (((((q0 >>> ((32 : Int32) &&& 0x3f).toInt64) * (q1 &&& (4294967295 : Int64))) + ((((q0 &&& (4294967295 : Int64)) * (q1 &&& (4294967295 : Int64))).toUInt64 >>> ((32 : Int32) &&& 0x3f).toInt64.toUInt64).toInt64)) &&& (4294967295 : Int64)) + ((q0 &&& (4294967295 : Int64)) * (q1 >>> ((32 : Int32) &&& 0x3f).toInt64)))), .second, .val (.long ((((q0 >>> ((32 : Int32) &&& 0x3f).toInt64) * (q1 &&& (4294967295 : Int64))) + ((((q0 &&& (4294967295 : Int64)) * (q1 &&& (4294967295 : Int64))).toUInt64 >>> ((32 : Int32) &&& 0x3f).toInt64.toUInt64).toInt64)) >>> ((32 : Int32) &&& 0x3f).toInt64)), .second]) rfl ?_
    show Steps p.tables e below (s₁.setTop (mkF m 71 #[.val (.long q0), .second, .val (.long q1), .second, .val (.long (q0 >>> ((32 : Int32) &&& 0x3f).toInt64)), .second, .val (.long (q0 &&& (4294967295 : Int64))), .second, .val (.long (q1 >>> ((32 : Int32) &&& 0x3f).toInt64)), .second, .val (.long (q1 &&& (4294967295 : Int64))), .second, .val (.long ((q0 &&& (4294967295 : Int64)) * (q1 &&& (4294967295 : Int64)))), .second, .val (.long (((q0 >>> ((32 : Int32) &&& 0x3f).toInt64) * (q1 &&& (4294967295 : Int64))) + ((((q0 &&& (4294967295 : Int64)) * (q1 &&& (4294967295 : Int64))).toUInt64 >>> ((32 : Int32) &&& 0x3f).toInt64.toUInt64).toInt64))), .second, .val (.long (((((q0 >>> ((32 : Int32) &&& 0x3f).toInt64) * (q1 &&& (4294967295 : Int64))) + ((((q0 &&& (4294967295 : Int64)) * (q1 &&& (4294967295 : Int64))).toUInt64 >>> ((32 : Int32) &&& 0x3f).toInt64.toUInt64).toInt64)) &&& (4294967295 : Int64)) + ((q0 &&& (4294967295 : Int64)) * (q1 >>> ((32 : Int32) &&& 0x3f).toInt64)))), .second, .val (.long ((((q0 >>> ((32 : Int32) &&& 0x3f).toInt64) * (q1 &&& (4294967295 : Int64))) + ((((q0 &&& (4294967295 : Int64)) * (q1 &&& (4294967295 : Int64))).toUInt64 >>> ((32 : Int32) &&& 0x3f).toInt64.toUInt64).toInt64)) >>> ((32 : Int32) &&& 0x3f).toInt64)), .second] [])) _
    refine XS.lload X0.here hx rfl (hb hby d8_71) rfl ?_
    show Steps p.tables e below (s₁.setTop (mkF m 73 #[.val (.long q0), .second, .val (.long q1), .second, .val (.long (q0 >>> ((32 : Int32) &&& 0x3f).toInt64)), .second, .val (.long (q0 &&& (4294967295 : Int64))), .second, .val (.long (q1 >>> ((32 : Int32) &&& 0x3f).toInt64)), .second, .val (.long (q1 &&& (4294967295 : Int64))), .second, .val (.long ((q0 &&& (4294967295 : Int64)) * (q1 &&& (4294967295 : Int64)))), .second, .val (.long (((q0 >>> ((32 : Int32) &&& 0x3f).toInt64) * (q1 &&& (4294967295 : Int64))) + ((((q0 &&& (4294967295 : Int64)) * (q1 &&& (4294967295 : Int64))).toUInt64 >>> ((32 : Int32) &&& 0x3f).toInt64.toUInt64).toInt64))), .second, .val (.long (((((q0 >>> ((32 : Int32) &&& 0x3f).toInt64) * (q1 &&& (4294967295 : Int64))) + ((((q0 &&& (4294967295 : Int64)) * (q1 &&& (4294967295 : Int64))).toUInt64 >>> ((32 : Int32) &&& 0x3f).toInt64.toUInt64).toInt64)) &&& (4294967295 : Int64)) + ((q0 &&& (4294967295 : Int64)) * (q1 >>> ((32 : Int32) &&& 0x3f).toInt64)))), .second, .val (.long ((((q0 >>> ((32 : Int32) &&& 0x3f).toInt64) * (q1 &&& (4294967295 : Int64))) + ((((q0 &&& (4294967295 : Int64)) * (q1 &&& (4294967295 : Int64))).toUInt64 >>> ((32 : Int32) &&& 0x3f).toInt64.toUInt64).toInt64)) >>> ((32 : Int32) &&& 0x3f).toInt64)), .second] [(.long (q0 >>> ((32 : Int32) &&& 0x3f).toInt64))])) _
    refine XS.lload X0.here hx rfl (hb hby d8_73) rfl ?_
    show Steps p.tables e below (s₁.setTop (mkF m 75 #[.val (.long q0), .second, .val (.long q1), .second, .val (.long (q0 >>> ((32 : Int32) &&& 0x3f).toInt64)), .second, .val (.long (q0 &&& (4294967295 : Int64))), .second, .val (.long (q1 >>> ((32 : Int32) &&& 0x3f).toInt64)), .second, .val (.long (q1 &&& (4294967295 : Int64))), .second, .val (.long ((q0 &&& (4294967295 : Int64)) * (q1 &&& (4294967295 : Int64)))), .second, .val (.long (((q0 >>> ((32 : Int32) &&& 0x3f).toInt64) * (q1 &&& (4294967295 : Int64))) + ((((q0 &&& (4294967295 : Int64)) * (q1 &&& (4294967295 : Int64))).toUInt64 >>> ((32 : Int32) &&& 0x3f).toInt64.toUInt64).toInt64))), .second, .val (.long (((((q0 >>> ((32 : Int32) &&& 0x3f).toInt64) * (q1 &&& (4294967295 : Int64))) + ((((q0 &&& (4294967295 : Int64)) * (q1 &&& (4294967295 : Int64))).toUInt64 >>> ((32 : Int32) &&& 0x3f).toInt64.toUInt64).toInt64)) &&& (4294967295 : Int64)) + ((q0 &&& (4294967295 : Int64)) * (q1 >>> ((32 : Int32) &&& 0x3f).toInt64)))), .second, .val (.long ((((q0 >>> ((32 : Int32) &&& 0x3f).toInt64) * (q1 &&& (4294967295 : Int64))) + ((((q0 &&& (4294967295 : Int64)) * (q1 &&& (4294967295 : Int64))).toUInt64 >>> ((32 : Int32) &&& 0x3f).toInt64.toUInt64).toInt64)) >>> ((32 : Int32) &&& 0x3f).toInt64)), .second] [(.long (q1 >>> ((32 : Int32) &&& 0x3f).toInt64)), (.long (q0 >>> ((32 : Int32) &&& 0x3f).toInt64))])) _
    refine XS.lmul X0.here hx rfl (hb hby d8_75) rfl ?_
    show Steps p.tables e below (s₁.setTop (mkF m 76 #[.val (.long q0), .second, .val (.long q1), .second, .val (.long (q0 >>> ((32 : Int32) &&& 0x3f).toInt64)), .second, .val (.long (q0 &&& (4294967295 : Int64))), .second, .val (.long (q1 >>> ((32 : Int32) &&& 0x3f).toInt64)), .second, .val (.long (q1 &&& (4294967295 : Int64))), .second, .val (.long ((q0 &&& (4294967295 : Int64)) * (q1 &&& (4294967295 : Int64)))), .second, .val (.long (((q0 >>> ((32 : Int32) &&& 0x3f).toInt64) * (q1 &&& (4294967295 : Int64))) + ((((q0 &&& (4294967295 : Int64)) * (q1 &&& (4294967295 : Int64))).toUInt64 >>> ((32 : Int32) &&& 0x3f).toInt64.toUInt64).toInt64))), .second, .val (.long (((((q0 >>> ((32 : Int32) &&& 0x3f).toInt64) * (q1 &&& (4294967295 : Int64))) + ((((q0 &&& (4294967295 : Int64)) * (q1 &&& (4294967295 : Int64))).toUInt64 >>> ((32 : Int32) &&& 0x3f).toInt64.toUInt64).toInt64)) &&& (4294967295 : Int64)) + ((q0 &&& (4294967295 : Int64)) * (q1 >>> ((32 : Int32) &&& 0x3f).toInt64)))), .second, .val (.long ((((q0 >>> ((32 : Int32) &&& 0x3f).toInt64) * (q1 &&& (4294967295 : Int64))) + ((((q0 &&& (4294967295 : Int64)) * (q1 &&& (4294967295 : Int64))).toUInt64 >>> ((32 : Int32) &&& 0x3f).toInt64.toUInt64).toInt64)) >>> ((32 : Int32) &&& 0x3f).toInt64)), .second] [(.long ((q0 >>> ((32 : Int32) &&& 0x3f).toInt64) * (q1 >>> ((32 : Int32) &&& 0x3f).toInt64)))])) _
    refine XS.lload X0.here hx rfl (hb hby d8_76) rfl ?_
    show Steps p.tables e below (s₁.setTop (mkF m 78 #[.val (.long q0), .second, .val (.long q1), .second, .val (.long (q0 >>> ((32 : Int32) &&& 0x3f).toInt64)), .second, .val (.long (q0 &&& (4294967295 : Int64))), .second, .val (.long (q1 >>> ((32 : Int32) &&& 0x3f).toInt64)), .second, .val (.long (q1 &&& (4294967295 : Int64))), .second, .val (.long ((q0 &&& (4294967295 : Int64)) * (q1 &&& (4294967295 : Int64)))), .second, .val (.long (((q0 >>> ((32 : Int32) &&& 0x3f).toInt64) * (q1 &&& (4294967295 : Int64))) + ((((q0 &&& (4294967295 : Int64)) * (q1 &&& (4294967295 : Int64))).toUInt64 >>> ((32 : Int32) &&& 0x3f).toInt64.toUInt64).toInt64))), .second, .val (.long (((((q0 >>> ((32 : Int32) &&& 0x3f).toInt64) * (q1 &&& (4294967295 : Int64))) + ((((q0 &&& (4294967295 : Int64)) * (q1 &&& (4294967295 : Int64))).toUInt64 >>> ((32 : Int32) &&& 0x3f).toInt64.toUInt64).toInt64)) &&& (4294967295 : Int64)) + ((q0 &&& (4294967295 : Int64)) * (q1 >>> ((32 : Int32) &&& 0x3f).toInt64)))), .second, .val (.long ((((q0 >>> ((32 : Int32) &&& 0x3f).toInt64) * (q1 &&& (4294967295 : Int64))) + ((((q0 &&& (4294967295 : Int64)) * (q1 &&& (4294967295 : Int64))).toUInt64 >>> ((32 : Int32) &&& 0x3f).toInt64.toUInt64).toInt64)) >>> ((32 : Int32) &&& 0x3f).toInt64)), .second] [(.long ((((q0 >>> ((32 : Int32) &&& 0x3f).toInt64) * (q1 &&& (4294967295 : Int64))) + ((((q0 &&& (4294967295 : Int64)) * (q1 &&& (4294967295 : Int64))).toUInt64 >>> ((32 : Int32) &&& 0x3f).toInt64.toUInt64).toInt64)) >>> ((32 : Int32) &&& 0x3f).toInt64)), (.long ((q0 >>> ((32 : Int32) &&& 0x3f).toInt64) * (q1 >>> ((32 : Int32) &&& 0x3f).toInt64)))])) _
    refine XS.ladd X0.here hx rfl (hb hby d8_78) rfl ?_
    show Steps p.tables e below (s₁.setTop (mkF m 79 #[.val (.long q0), .second, .val (.long q1), .second, .val (.long (q0 >>> ((32 : Int32) &&& 0x3f).toInt64)), .second, .val (.long (q0 &&& (4294967295 : Int64))), .second, .val (.long (q1 >>> ((32 : Int32) &&& 0x3f).toInt64)), .second, .val (.long (q1 &&& (4294967295 : Int64))), .second, .val (.long ((q0 &&& (4294967295 : Int64)) * (q1 &&& (4294967295 : Int64)))), .second, .val (.long (((q0 >>> ((32 : Int32) &&& 0x3f).toInt64) * (q1 &&& (4294967295 : Int64))) + ((((q0 &&& (4294967295 : Int64)) * (q1 &&& (4294967295 : Int64))).toUInt64 >>> ((32 : Int32) &&& 0x3f).toInt64.toUInt64).toInt64))), .second, .val (.long (((((q0 >>> ((32 : Int32) &&& 0x3f).toInt64) * (q1 &&& (4294967295 : Int64))) + ((((q0 &&& (4294967295 : Int64)) * (q1 &&& (4294967295 : Int64))).toUInt64 >>> ((32 : Int32) &&& 0x3f).toInt64.toUInt64).toInt64)) &&& (4294967295 : Int64)) + ((q0 &&& (4294967295 : Int64)) * (q1 >>> ((32 : Int32) &&& 0x3f).toInt64)))), .second, .val (.long ((((q0 >>> ((32 : Int32) &&& 0x3f).toInt64) * (q1 &&& (4294967295 : Int64))) + ((((q0 &&& (4294967295 : Int64)) * (q1 &&& (4294967295 : Int64))).toUInt64 >>> ((32 : Int32) &&& 0x3f).toInt64.toUInt64).toInt64)) >>> ((32 : Int32) &&& 0x3f).toInt64)), .second] [(.long (((q0 >>> ((32 : Int32) &&& 0x3f).toInt64) * (q1 >>> ((32 : Int32) &&& 0x3f).toInt64)) + ((((q0 >>> ((32 : Int32) &&& 0x3f).toInt64) * (q1 &&& (4294967295 : Int64))) + ((((q0 &&& (4294967295 : Int64)) * (q1 &&& (4294967295 : Int64))).toUInt64 >>> ((32 : Int32) &&& 0x3f).toInt64.toUInt64).toInt64)) >>> ((32 : Int32) &&& 0x3f).toInt64)))])) _
    refine XS.lload X0.here hx rfl (hb hby d8_79) rfl ?_
    show Steps p.tables e below (s₁.setTop (mkF m 81 #[.val (.long q0), .second, .val (.long q1), .second, .val (.long (q0 >>> ((32 : Int32) &&& 0x3f).toInt64)), .second, .val (.long (q0 &&& (4294967295 : Int64))), .second, .val (.long (q1 >>> ((32 : Int32) &&& 0x3f).toInt64)), .second, .val (.long (q1 &&& (4294967295 : Int64))), .second, .val (.long ((q0 &&& (4294967295 : Int64)) * (q1 &&& (4294967295 : Int64)))), .second, .val (.long (((q0 >>> ((32 : Int32) &&& 0x3f).toInt64) * (q1 &&& (4294967295 : Int64))) + ((((q0 &&& (4294967295 : Int64)) * (q1 &&& (4294967295 : Int64))).toUInt64 >>> ((32 : Int32) &&& 0x3f).toInt64.toUInt64).toInt64))), .second, .val (.long (((((q0 >>> ((32 : Int32) &&& 0x3f).toInt64) * (q1 &&& (4294967295 : Int64))) + ((((q0 &&& (4294967295 : Int64)) * (q1 &&& (4294967295 : Int64))).toUInt64 >>> ((32 : Int32) &&& 0x3f).toInt64.toUInt64).toInt64)) &&& (4294967295 : Int64)) + ((q0 &&& (4294967295 : Int64)) * (q1 >>> ((32 : Int32) &&& 0x3f).toInt64)))), .second, .val (.long ((((q0 >>> ((32 : Int32) &&& 0x3f).toInt64) * (q1 &&& (4294967295 : Int64))) + ((((q0 &&& (4294967295 : Int64)) * (q1 &&& (4294967295 : Int64))).toUInt64 >>> ((32 : Int32) &&& 0x3f).toInt64.toUInt64).toInt64)) >>> ((32 : Int32) &&& 0x3f).toInt64)), .second] [(.long (((((q0 >>> ((32 : Int32) &&& 0x3f).toInt64) * (q1 &&& (4294967295 : Int64))) + ((((q0 &&& (4294967295 : Int64)) * (q1 &&& (4294967295 : Int64))).toUInt64 >>> ((32 : Int32) &&& 0x3f).toInt64.toUInt64).toInt64)) &&& (4294967295 : Int64)) + ((q0 &&& (4294967295 : Int64)) * (q1 >>> ((32 : Int32) &&& 0x3f).toInt64)))), (.long (((q0 >>> ((32 : Int32) &&& 0x3f).toInt64) * (q1 >>> ((32 : Int32) &&& 0x3f).toInt64)) + ((((q0 >>> ((32 : Int32) &&& 0x3f).toInt64) * (q1 &&& (4294967295 : Int64))) + ((((q0 &&& (4294967295 : Int64)) * (q1 &&& (4294967295 : Int64))).toUInt64 >>> ((32 : Int32) &&& 0x3f).toInt64.toUInt64).toInt64)) >>> ((32 : Int32) &&& 0x3f).toInt64)))])) _
    refine XS.bipush X0.here hx rfl (hb hby d8_81) ?_
    show Steps p.tables e below (s₁.setTop (mkF m 83 #[.val (.long q0), .second, .val (.long q1), .second, .val (.long (q0 >>> ((32 : Int32) &&& 0x3f).toInt64)), .second, .val (.long (q0 &&& (4294967295 : Int64))), .second, .val (.long (q1 >>> ((32 : Int32) &&& 0x3f).toInt64)), .second, .val (.long (q1 &&& (4294967295 : Int64))), .second, .val (.long ((q0 &&& (4294967295 : Int64)) * (q1 &&& (4294967295 : Int64)))), .second, .val (.long (((q0 >>> ((32 : Int32) &&& 0x3f).toInt64) * (q1 &&& (4294967295 : Int64))) + ((((q0 &&& (4294967295 : Int64)) * (q1 &&& (4294967295 : Int64))).toUInt64 >>> ((32 : Int32) &&& 0x3f).toInt64.toUInt64).toInt64))), .second, .val (.long (((((q0 >>> ((32 : Int32) &&& 0x3f).toInt64) * (q1 &&& (4294967295 : Int64))) + ((((q0 &&& (4294967295 : Int64)) * (q1 &&& (4294967295 : Int64))).toUInt64 >>> ((32 : Int32) &&& 0x3f).toInt64.toUInt64).toInt64)) &&& (4294967295 : Int64)) + ((q0 &&& (4294967295 : Int64)) * (q1 >>> ((32 : Int32) &&& 0x3f).toInt64)))), .second, .val (.long ((((q0 >>> ((32 : Int32) &&& 0x3f).toInt64) * (q1 &&& (4294967295 : Int64))) + ((((q0 &&& (4294967295 : Int64)) * (q1 &&& (4294967295 : Int64))).toUInt64 >>> ((32 : Int32) &&& 0x3f).toInt64.toUInt64).toInt64)) >>> ((32 : Int32) &&& 0x3f).toInt64)), .second] [(.int (32 : Int32)), (.long (((((q0 >>> ((32 : Int32) &&& 0x3f).toInt64) * (q1 &&& (4294967295 : Int64))) + ((((q0 &&& (4294967295 : Int64)) * (q1 &&& (4294967295 : Int64))).toUInt64 >>> ((32 : Int32) &&& 0x3f).toInt64.toUInt64).toInt64)) &&& (4294967295 : Int64)) + ((q0 &&& (4294967295 : Int64)) * (q1 >>> ((32 : Int32) &&& 0x3f).toInt64)))), (.long (((q0 >>> ((32 : Int32) &&& 0x3f).toInt64) * (q1 >>> ((32 : Int32) &&& 0x3f).toInt64)) + ((((q0 >>> ((32 : Int32) &&& 0x3f).toInt64) * (q1 &&& (4294967295 : Int64))) + ((((q0 &&& (4294967295 : Int64)) * (q1 &&& (4294967295 : Int64))).toUInt64 >>> ((32 : Int32) &&& 0x3f).toInt64.toUInt64).toInt64)) >>> ((32 : Int32) &&& 0x3f).toInt64)))])) _
    refine XS.lshr X0.here hx rfl (hb hby d8_83) rfl ?_
    show Steps p.tables e below (s₁.setTop (mkF m 84 #[.val (.long q0), .second, .val (.long q1), .second, .val (.long (q0 >>> ((32 : Int32) &&& 0x3f).toInt64)), .second, .val (.long (q0 &&& (4294967295 : Int64))), .second, .val (.long (q1 >>> ((32 : Int32) &&& 0x3f).toInt64)), .second, .val (.long (q1 &&& (4294967295 : Int64))), .second, .val (.long ((q0 &&& (4294967295 : Int64)) * (q1 &&& (4294967295 : Int64)))), .second, .val (.long (((q0 >>> ((32 : Int32) &&& 0x3f).toInt64) * (q1 &&& (4294967295 : Int64))) + ((((q0 &&& (4294967295 : Int64)) * (q1 &&& (4294967295 : Int64))).toUInt64 >>> ((32 : Int32) &&& 0x3f).toInt64.toUInt64).toInt64))), .second, .val (.long (((((q0 >>> ((32 : Int32) &&& 0x3f).toInt64) * (q1 &&& (4294967295 : Int64))) + ((((q0 &&& (4294967295 : Int64)) * (q1 &&& (4294967295 : Int64))).toUInt64 >>> ((32 : Int32) &&& 0x3f).toInt64.toUInt64).toInt64)) &&& (4294967295 : Int64)) + ((q0 &&& (4294967295 : Int64)) * (q1 >>> ((32 : Int32) &&& 0x3f).toInt64)))), .second, .val (.long ((((q0 >>> ((32 : Int32) &&& 0x3f).toInt64) * (q1 &&& (4294967295 : Int64))) + ((((q0 &&& (4294967295 : Int64)) * (q1 &&& (4294967295 : Int64))).toUInt64 >>> ((32 : Int32) &&& 0x3f).toInt64.toUInt64).toInt64)) >>> ((32 : Int32) &&& 0x3f).toInt64)), .second] [(.long ((((((q0 >>> ((32 : Int32) &&& 0x3f).toInt64) * (q1 &&& (4294967295 : Int64))) + ((((q0 &&& (4294967295 : Int64)) * (q1 &&& (4294967295 : Int64))).toUInt64 >>> ((32 : Int32) &&& 0x3f).toInt64.toUInt64).toInt64)) &&& (4294967295 : Int64)) + ((q0 &&& (4294967295 : Int64)) * (q1 >>> ((32 : Int32) &&& 0x3f).toInt64))) >>> ((32 : Int32) &&& 0x3f).toInt64)), (.long (((q0 >>> ((32 : Int32) &&& 0x3f).toInt64) * (q1 >>> ((32 : Int32) &&& 0x3f).toInt64)) + ((((q0 >>> ((32 : Int32) &&& 0x3f).toInt64) * (q1 &&& (4294967295 : Int64))) + ((((q0 &&& (4294967295 : Int64)) * (q1 &&& (4294967295 : Int64))).toUInt64 >>> ((32 : Int32) &&& 0x3f).toInt64.toUInt64).toInt64)) >>> ((32 : Int32) &&& 0x3f).toInt64)))])) _
    refine XS.ladd X0.here hx rfl (hb hby d8_84) rfl ?_
    show Steps p.tables e below (s₁.setTop (mkF m 85 #[.val (.long q0), .second, .val (.long q1), .second, .val (.long (q0 >>> ((32 : Int32) &&& 0x3f).toInt64)), .second, .val (.long (q0 &&& (4294967295 : Int64))), .second, .val (.long (q1 >>> ((32 : Int32) &&& 0x3f).toInt64)), .second, .val (.long (q1 &&& (4294967295 : Int64))), .second, .val (.long ((q0 &&& (4294967295 : Int64)) * (q1 &&& (4294967295 : Int64)))), .second, .val (.long (((q0 >>> ((32 : Int32) &&& 0x3f).toInt64) * (q1 &&& (4294967295 : Int64))) + ((((q0 &&& (4294967295 : Int64)) * (q1 &&& (4294967295 : Int64))).toUInt64 >>> ((32 : Int32) &&& 0x3f).toInt64.toUInt64).toInt64))), .second, .val (.long (((((q0 >>> ((32 : Int32) &&& 0x3f).toInt64) * (q1 &&& (4294967295 : Int64))) + ((((q0 &&& (4294967295 : Int64)) * (q1 &&& (4294967295 : Int64))).toUInt64 >>> ((32 : Int32) &&& 0x3f).toInt64.toUInt64).toInt64)) &&& (4294967295 : Int64)) + ((q0 &&& (4294967295 : Int64)) * (q1 >>> ((32 : Int32) &&& 0x3f).toInt64)))), .second, .val (.long ((((q0 >>> ((32 : Int32) &&& 0x3f).toInt64) * (q1 &&& (4294967295 : Int64))) + ((((q0 &&& (4294967295 : Int64)) * (q1 &&& (4294967295 : Int64))).toUInt64 >>> ((32 : Int32) &&& 0x3f).toInt64.toUInt64).toInt64)) >>> ((32 : Int32) &&& 0x3f).toInt64)), .second] [(.long ((((q0 >>> ((32 : Int32) &&& 0x3f).toInt64) * (q1 >>> ((32 : Int32) &&& 0x3f).toInt64)) + ((((q0 >>> ((32 : Int32) &&& 0x3f).toInt64) * (q1 &&& (4294967295 : Int64))) + ((((q0 &&& (4294967295 : Int64)) * (q1 &&& (4294967295 : Int64))).toUInt64 >>> ((32 : Int32) &&& 0x3f).toInt64.toUInt64).toInt64)) >>> ((32 : Int32) &&& 0x3f).toInt64)) + ((((((q0 >>> ((32 : Int32) &&& 0x3f).toInt64) * (q1 &&& (4294967295 : Int64))) + ((((q0 &&& (4294967295 : Int64)) * (q1 &&& (4294967295 : Int64))).toUInt64 >>> ((32 : Int32) &&& 0x3f).toInt64.toUInt64).toInt64)) &&& (4294967295 : Int64)) + ((q0 &&& (4294967295 : Int64)) * (q1 >>> ((32 : Int32) &&& 0x3f).toInt64))) >>> ((32 : Int32) &&& 0x3f).toInt64)))])) _
    exact retOut X0 hx Bd.returns rfl (Or.inr (Or.inl ⟨rfl, rfl, _, rfl⟩)) (hb hby d8_85) hr
  · show own_QP (some (.long (own_mh q0 q1))) h0 n0 _ s₁.heap _
    rw [e0]
    exact ⟨(by first | rfl | simp []), N0, rfl⟩

theorem ef_rmMix (m : MethodId) (x0 : Int64) : entryFrame m #[(.long x0)] 4 = mkF m 0 #[.val (.long x0), .second, .unset, .unset] [] := by first | (simp [entryFrame, mkF, argsToLocals, Value.category]; done) | rfl
set_option maxRecDepth 65536 in
set_option maxHeartbeats 40000000 in
theorem rmMix (l : Launch) (Z : State) (a0 : Array Value) (hw : ∀ d ∈ tables_1, d.before a0 Z = true) (ws : List Jvm.Cond) (q0 : Int64) (h0 : Heap) (n0 : Nat) (Z0 : n0 ≤ h0.size) :
    MetFree l (⟨"com/example/keys_to_bits/keystobits/ProbesNextPinLaw", "mix", "(J)J"⟩ : MethodName) (head1 (Jvm.Cond.code (⟨"com/example/keys_to_bits/keystobits/ProbesNextPinLaw", "mix", "(J)J"⟩ : MethodName) method_2_code 4 (some .long) :: ws) ({ frames := 0, cells := 0, slots := 0, locals := 0 } : Room)) (fun a U => a = #[(.long q0)] ∧ Z.Warmed39 U.vm ∧ U.heap = h0) (fun _ _ _ _ _ => True) (fun _ U o U' => ∃ v L, o = .returned v ∧ own_QP (some (.long (own_mix q0))) h0 n0 v U'.heap L ∧ FrameEnd U o U' L ({ frames := 0, cells := 0, slots := 0, locals := 0 } : Room).cells ({ frames := 0, cells := 0, slots := 0, locals := 0 } : Room).slots) := by
  refine MetFree.of_bodySF (plainFor_of_name pn_10) hisR ?_
  intro p e s m args below meth c s₁ Bd hml0 hP hK
  obtain ⟨rfl, hZ, hh⟩ := hP
  have hx := Bd.exec
  have hby := Bd.bytes
  have hml : c.maxLocals = 4 := hml0
  have hown : s.vm.findClass "com/example/keys_to_bits/keystobits/ProbesNextPinLaw" = some m.cls := findClass_of_methodNamed Bd.named
  have hnm := (name_of_methodNamed Bd.named Bd.method).1
  have X0 : Stand p l e ({ frames := 0, cells := 0, slots := 0, locals := 0 } : Room) s m #[(.long q0)] below meth c s₁ [] 0 0 := Stand.of_body Bd
  have e0 : s₁.heap = h0 := by rw [← hh, Bd.state]; rfl
  have N0 := Fr.nil n0
  have pre0 : ∀ t, Steps p.tables e below (s₁.setTop (mkF m 0 #[.val (.long q0), .second, .unset, .unset] [])) t → Steps p.tables e below (s₁.setTop (entryFrame m #[(.long q0)] 4)) t := fun t k => castTop (ef_rmMix m q0) k
  obtain ⟨fs, hr, hrun, hended, hW, hsame⟩ := X0.leave (v := some (.long (((((q0 ^^^ ((q0.toUInt64 >>> ((30 : Int32) &&& 0x3f).toInt64.toUInt64).toInt64)) * (-4658895280553007687 : Int64)) ^^^ ((((q0 ^^^ ((q0.toUInt64 >>> ((30 : Int32) &&& 0x3f).toInt64.toUInt64).toInt64)) * (-4658895280553007687 : Int64)).toUInt64 >>> ((27 : Int32) &&& 0x3f).toInt64.toUInt64).toInt64)) * (-7723592293110705685 : Int64)) ^^^ ((((((q0 ^^^ ((q0.toUInt64 >>> ((30 : Int32) &&& 0x3f).toInt64.toUInt64).toInt64)) * (-4658895280553007687 : Int64)) ^^^ ((((q0 ^^^ ((q0.toUInt64 >>> ((30 : Int32) &&& 0x3f).toInt64.toUInt64).toInt64)) * (-4658895280553007687 : Int64)).toUInt64 >>> ((27 : Int32) &&& 0x3f).toInt64.toUInt64).toInt64)) * (-7723592293110705685 : Int64)).toUInt64 >>> ((31 : Int32) &&& 0x3f).toInt64.toUInt64).toInt64)))) (fun h => by rw [Bd.returns] at h; cases h)
  refine ⟨_, _, pre0 _ ?_, hrun, hended, _, _, rfl, ?_, ⟨_, rfl⟩, hW, hsame.mono (by decide) (by decide)⟩
  · show Steps p.tables e below (s₁.setTop (mkF m 0 #[.val (.long q0), .second, .unset, .unset] [])) _
    refine XS.lloadN X0.here hx rfl (hb hby d10_0) rfl ?_
    show Steps p.tables e below (s₁.setTop (mkF m 1 #[.val (.long q0), .second, .unset, .unset] [(.long q0)])) _
    refine XS.lloadN X0.here hx rfl (hb hby d10_1) rfl ?_
    show Steps p.tables e below (s₁.setTop (mkF m 2 #[.val (.long q0), .second, .unset, .unset] [(.long q0), (.long q0)])) _
    refine XS.bipush X0.here hx rfl (hb hby d10_2) ?_
    show Steps p.tables e below (s₁.setTop (mkF m 4 #[.val (.long q0), .second, .unset, .unset] [(.int (30 : Int32)), (.long q0), (.long q0)])) _
    refine XS.lushr X0.here hx rfl (hb hby d10_4) rfl ?_
    show Steps p.tables e below (s₁.setTop (mkF m 5 #[.val (.long q0), .second, .unset, .unset] [(.long ((q0.toUInt64 >>> ((30 : Int32) &&& 0x3f).toInt64.toUInt64).toInt64)), (.long q0)])) _
    refine XS.lxor X0.here hx rfl (hb hby d10_5) rfl ?_
    show Steps p.tables e below (s₁.setTop (mkF m 6 #[.val (.long q0), .second, .unset, .unset] [(.long (q0 ^^^ ((q0.toUInt64 >>> ((30 : Int32) &&& 0x3f).toInt64.toUInt64).toInt64)))])) _
    refine X0.ldc2Long hx hown (mvT hZ (hw _ (List.mem_of_getElem? (i := 61) rfl))) (g := (mkF m 6 #[.val (.long q0), .second, .unset, .unset] [(.long (q0 ^^^ ((q0.toUInt64 >>> ((30 : Int32) &&& 0x3f).toInt64.toUInt64).toInt64)))])) rfl (hb hby d10_6) _ ?_
    show Steps p.tables e below (s₁.setTop (mkF m 9 #[.val (.long q0), .second, .unset, .unset] [(.long (-4658895280553007687 : Int64)), (.long (q0 ^^^ ((q0.toUInt64 >>> ((30 : Int32) &&& 0x3f).toInt64.toUInt64).toInt64)))])) _
    refine XS.lmul X0.here hx rfl (hb hby d10_9) rfl ?_
    show Steps p.tables e below (s₁.setTop (mkF m 10 #[.val (.long q0), .second, .unset, .unset] [(.long ((q0 ^^^ ((q0.toUInt64 >>> ((30 : Int32) &&& 0x3f).toInt64.toUInt64).toInt64)) * (-4658895280553007687 : Int64)))])) _
    refine XS.lstoreN X0.here hx rfl (hb hby d10_10) rfl (l' := #[.val (.long q0), .second, .val (.long ((q0 ^^^ ((q0.toUInt64 >>> ((30 : Int32) &&& 0x3f).toInt64.toUInt64).toInt64)) * (-4658895280553007687 : Int64))), .second]) rfl ?_
    show Steps p.tables e below (s₁.setTop (mkF m 11 #[.val (.long q0), .second, .val (.long ((q0 ^^^ ((q0.toUInt64 >>> ((30 : Int32) &&& 0x3f).toInt64.toUInt64).toInt64)) * (-4658895280553007687 : Int64))), .second] [])) _
    refine XS.lloadN X0.here hx rfl (hb hby d10_11) rfl ?_
    show Steps p.tables e below (s₁.setTop (mkF m 12 #[.val (.long q0), .second, .val (.long ((q0 ^^^ ((q0.toUInt64 >>> ((30 : Int32) &&& 0x3f).toInt64.toUInt64).toInt64)) * (-4658895280553007687 : Int64))), .second] [(.long ((q0 ^^^ ((q0.toUInt64 >>> ((30 : Int32) &&& 0x3f).toInt64.toUInt64).toInt64)) * (-4658895280553007687 : Int64)))])) _
    refine XS.lloadN X0.here hx rfl (hb hby d10_12) rfl ?_
    show Steps p.tables e below (s₁.setTop (mkF m 13 #[.val (.long q0), .second, .val (.long ((q0 ^^^ ((q0.toUInt64 >>> ((30 : Int32) &&& 0x3f).toInt64.toUInt64).toInt64)) * (-4658895280553007687 : Int64))), .second] [(.long ((q0 ^^^ ((q0.toUInt64 >>> ((30 : Int32) &&& 0x3f).toInt64.toUInt64).toInt64)) * (-4658895280553007687 : Int64))), (.long ((q0 ^^^ ((q0.toUInt64 >>> ((30 : Int32) &&& 0x3f).toInt64.toUInt64).toInt64)) * (-4658895280553007687 : Int64)))])) _
    refine XS.bipush X0.here hx rfl (hb hby d10_13) ?_
    show Steps p.tables e below (s₁.setTop (mkF m 15 #[.val (.long q0), .second, .val (.long ((q0 ^^^ ((q0.toUInt64 >>> ((30 : Int32) &&& 0x3f).toInt64.toUInt64).toInt64)) * (-4658895280553007687 : Int64))), .second] [(.int (27 : Int32)), (.long ((q0 ^^^ ((q0.toUInt64 >>> ((30 : Int32) &&& 0x3f).toInt64.toUInt64).toInt64)) * (-4658895280553007687 : Int64))), (.long ((q0 ^^^ ((q0.toUInt64 >>> ((30 : Int32) &&& 0x3f).toInt64.toUInt64).toInt64)) * (-4658895280553007687 : Int64)))])) _
    refine XS.lushr X0.here hx rfl (hb hby d10_15) rfl ?_
    show Steps p.tables e below (s₁.setTop (mkF m 16 #[.val (.long q0), .second, .val (.long ((q0 ^^^ ((q0.toUInt64 >>> ((30 : Int32) &&& 0x3f).toInt64.toUInt64).toInt64)) * (-4658895280553007687 : Int64))), .second] [(.long ((((q0 ^^^ ((q0.toUInt64 >>> ((30 : Int32) &&& 0x3f).toInt64.toUInt64).toInt64)) * (-4658895280553007687 : Int64)).toUInt64 >>> ((27 : Int32) &&& 0x3f).toInt64.toUInt64).toInt64)), (.long ((q0 ^^^ ((q0.toUInt64 >>> ((30 : Int32) &&& 0x3f).toInt64.toUInt64).toInt64)) * (-4658895280553007687 : Int64)))])) _
    refine XS.lxor X0.here hx rfl (hb hby d10_16) rfl ?_
    show Steps p.tables e below (s₁.setTop (mkF m 17 #[.val (.long q0), .second, .val (.long ((q0 ^^^ ((q0.toUInt64 >>> ((30 : Int32) &&& 0x3f).toInt64.toUInt64).toInt64)) * (-4658895280553007687 : Int64))), .second] [(.long (((q0 ^^^ ((q0.toUInt64 >>> ((30 : Int32) &&& 0x3f).toInt64.toUInt64).toInt64)) * (-4658895280553007687 : Int64)) ^^^ ((((q0 ^^^ ((q0.toUInt64 >>> ((30 : Int32) &&& 0x3f).toInt64.toUInt64).toInt64)) * (-4658895280553007687 : Int64)).toUInt64 >>> ((27 : Int32) &&& 0x3f).toInt64.toUInt64).toInt64)))])) _
    refine X0.ldc2Long hx hown (mvT hZ (hw _ (List.mem_of_getElem? (i := 62) rfl))) (g := (mkF m 17 #[.val (.long q0), .second, .val (.long ((q0 ^^^ ((q0.toUInt64 >>> ((30 : Int32) &&& 0x3f).toInt64.toUInt64).toInt64)) * (-4658895280553007687 : Int64))), .second] [(.long (((q0 ^^^ ((q0.toUInt64 >>> ((30 : Int32) &&& 0x3f).toInt64.toUInt64).toInt64)) * (-4658895280553007687 : Int64)) ^^^ ((((q0 ^^^ ((q0.toUInt64 >>> ((30 : Int32) &&& 0x3f).toInt64.toUInt64).toInt64)) * (-4658895280553007687 : Int64)).toUInt64 >>> ((27 : Int32) &&& 0x3f).toInt64.toUInt64).toInt64)))])) rfl (hb hby d10_17) _ ?_
    show Steps p.tables e below (s₁.setTop (mkF m 20 #[.val (.long q0), .second, .val (.long ((q0 ^^^ ((q0.toUInt64 >>> ((30 : Int32) &&& 0x3f).toInt64.toUInt64).toInt64)) * (-4658895280553007687 : Int64))), .second] [(.long (-7723592293110705685 : Int64)), (.long (((q0 ^^^ ((q0.toUInt64 >>> ((30 : Int32) &&& 0x3f).toInt64.toUInt64).toInt64)) * (-4658895280553007687 : Int64)) ^^^ ((((q0 ^^^ ((q0.toUInt64 >>> ((30 : Int32) &&& 0x3f).toInt64.toUInt64).toInt64)) * (-4658895280553007687 : Int64)).toUInt64 >>> ((27 : Int32) &&& 0x3f).toInt64.toUInt64).toInt64)))])) _
    refine XS.lmul X0.here hx rfl (hb hby d10_20) rfl ?_
    show Steps p.tables e below (s₁.setTop (mkF m 21 #[.val (.long q0), .second, .val (.long ((q0 ^^^ ((q0.toUInt64 >>> ((30 : Int32) &&& 0x3f).toInt64.toUInt64).toInt64)) * (-4658895280553007687 : Int64))), .second] [(.long ((((q0 ^^^ ((q0.toUInt64 >>> ((30 : Int32) &&& 0x3f).toInt64.toUInt64).toInt64)) * (-4658895280553007687 : Int64)) ^^^ ((((q0 ^^^ ((q0.toUInt64 >>> ((30 : Int32) &&& 0x3f).toInt64.toUInt64).toInt64)) * (-4658895280553007687 : Int64)).toUInt64 >>> ((27 : Int32) &&& 0x3f).toInt64.toUInt64).toInt64)) * (-7723592293110705685 : Int64)))])) _
    refine XS.lstoreN X0.here hx rfl (hb hby d10_21) rfl (l' := #[.val (.long q0), .second, .val (.long ((((q0 ^^^ ((q0.toUInt64 >>> ((30 : Int32) &&& 0x3f).toInt64.toUInt64).toInt64)) * (-4658895280553007687 : Int64)) ^^^ ((((q0 ^^^ ((q0.toUInt64 >>> ((30 : Int32) &&& 0x3f).toInt64.toUInt64).toInt64)) * (-4658895280553007687 : Int64)).toUInt64 >>> ((27 : Int32) &&& 0x3f).toInt64.toUInt64).toInt64)) * (-7723592293110705685 : Int64))), .second]) rfl ?_
    show Steps p.tables e below (s₁.setTop (mkF m 22 #[.val (.long q0), .second, .val (.long ((((q0 ^^^ ((q0.toUInt64 >>> ((30 : Int32) &&& 0x3f).toInt64.toUInt64).toInt64)) * (-4658895280553007687 : Int64)) ^^^ ((((q0 ^^^ ((q0.toUInt64 >>> ((30 : Int32) &&& 0x3f).toInt64.toUInt64).toInt64)) * (-4658895280553007687 : Int64)).toUInt64 >>> ((27 : Int32) &&& 0x3f).toInt64.toUInt64).toInt64)) * (-7723592293110705685 : Int64))), .second] [])) _
    refine XS.lloadN X0.here hx rfl (hb hby d10_22) rfl ?_
    show Steps p.tables e below (s₁.setTop (mkF m 23 #[.val (.long q0), .second, .val (.long ((((q0 ^^^ ((q0.toUInt64 >>> ((30 : Int32) &&& 0x3f).toInt64.toUInt64).toInt64)) * (-4658895280553007687 : Int64)) ^^^ ((((q0 ^^^ ((q0.toUInt64 >>> ((30 : Int32) &&& 0x3f).toInt64.toUInt64).toInt64)) * (-4658895280553007687 : Int64)).toUInt64 >>> ((27 : Int32) &&& 0x3f).toInt64.toUInt64).toInt64)) * (-7723592293110705685 : Int64))), .second] [(.long ((((q0 ^^^ ((q0.toUInt64 >>> ((30 : Int32) &&& 0x3f).toInt64.toUInt64).toInt64)) * (-4658895280553007687 : Int64)) ^^^ ((((q0 ^^^ ((q0.toUInt64 >>> ((30 : Int32) &&& 0x3f).toInt64.toUInt64).toInt64)) * (-4658895280553007687 : Int64)).toUInt64 >>> ((27 : Int32) &&& 0x3f).toInt64.toUInt64).toInt64)) * (-7723592293110705685 : Int64)))])) _
    refine XS.lloadN X0.here hx rfl (hb hby d10_23) rfl ?_
    show Steps p.tables e below (s₁.setTop (mkF m 24 #[.val (.long q0), .second, .val (.long ((((q0 ^^^ ((q0.toUInt64 >>> ((30 : Int32) &&& 0x3f).toInt64.toUInt64).toInt64)) * (-4658895280553007687 : Int64)) ^^^ ((((q0 ^^^ ((q0.toUInt64 >>> ((30 : Int32) &&& 0x3f).toInt64.toUInt64).toInt64)) * (-4658895280553007687 : Int64)).toUInt64 >>> ((27 : Int32) &&& 0x3f).toInt64.toUInt64).toInt64)) * (-7723592293110705685 : Int64))), .second] [(.long ((((q0 ^^^ ((q0.toUInt64 >>> ((30 : Int32) &&& 0x3f).toInt64.toUInt64).toInt64)) * (-4658895280553007687 : Int64)) ^^^ ((((q0 ^^^ ((q0.toUInt64 >>> ((30 : Int32) &&& 0x3f).toInt64.toUInt64).toInt64)) * (-4658895280553007687 : Int64)).toUInt64 >>> ((27 : Int32) &&& 0x3f).toInt64.toUInt64).toInt64)) * (-7723592293110705685 : Int64))), (.long ((((q0 ^^^ ((q0.toUInt64 >>> ((30 : Int32) &&& 0x3f).toInt64.toUInt64).toInt64)) * (-4658895280553007687 : Int64)) ^^^ ((((q0 ^^^ ((q0.toUInt64 >>> ((30 : Int32) &&& 0x3f).toInt64.toUInt64).toInt64)) * (-4658895280553007687 : Int64)).toUInt64 >>> ((27 : Int32) &&& 0x3f).toInt64.toUInt64).toInt64)) * (-7723592293110705685 : Int64)))])) _
    refine XS.bipush X0.here hx rfl (hb hby d10_24) ?_
    show Steps p.tables e below (s₁.setTop (mkF m 26 #[.val (.long q0), .second, .val (.long ((((q0 ^^^ ((q0.toUInt64 >>> ((30 : Int32) &&& 0x3f).toInt64.toUInt64).toInt64)) * (-4658895280553007687 : Int64)) ^^^ ((((q0 ^^^ ((q0.toUInt64 >>> ((30 : Int32) &&& 0x3f).toInt64.toUInt64).toInt64)) * (-4658895280553007687 : Int64)).toUInt64 >>> ((27 : Int32) &&& 0x3f).toInt64.toUInt64).toInt64)) * (-7723592293110705685 : Int64))), .second] [(.int (31 : Int32)), (.long ((((q0 ^^^ ((q0.toUInt64 >>> ((30 : Int32) &&& 0x3f).toInt64.toUInt64).toInt64)) * (-4658895280553007687 : Int64)) ^^^ ((((q0 ^^^ ((q0.toUInt64 >>> ((30 : Int32) &&& 0x3f).toInt64.toUInt64).toInt64)) * (-4658895280553007687 : Int64)).toUInt64 >>> ((27 : Int32) &&& 0x3f).toInt64.toUInt64).toInt64)) * (-7723592293110705685 : Int64))), (.long ((((q0 ^^^ ((q0.toUInt64 >>> ((30 : Int32) &&& 0x3f).toInt64.toUInt64).toInt64)) * (-4658895280553007687 : Int64)) ^^^ ((((q0 ^^^ ((q0.toUInt64 >>> ((30 : Int32) &&& 0x3f).toInt64.toUInt64).toInt64)) * (-4658895280553007687 : Int64)).toUInt64 >>> ((27 : Int32) &&& 0x3f).toInt64.toUInt64).toInt64)) * (-7723592293110705685 : Int64)))])) _
    refine XS.lushr X0.here hx rfl (hb hby d10_26) rfl ?_
    show Steps p.tables e below (s₁.setTop (mkF m 27 #[.val (.long q0), .second, .val (.long ((((q0 ^^^ ((q0.toUInt64 >>> ((30 : Int32) &&& 0x3f).toInt64.toUInt64).toInt64)) * (-4658895280553007687 : Int64)) ^^^ ((((q0 ^^^ ((q0.toUInt64 >>> ((30 : Int32) &&& 0x3f).toInt64.toUInt64).toInt64)) * (-4658895280553007687 : Int64)).toUInt64 >>> ((27 : Int32) &&& 0x3f).toInt64.toUInt64).toInt64)) * (-7723592293110705685 : Int64))), .second] [(.long ((((((q0 ^^^ ((q0.toUInt64 >>> ((30 : Int32) &&& 0x3f).toInt64.toUInt64).toInt64)) * (-4658895280553007687 : Int64)) ^^^ ((((q0 ^^^ ((q0.toUInt64 >>> ((30 : Int32) &&& 0x3f).toInt64.toUInt64).toInt64)) * (-4658895280553007687 : Int64)).toUInt64 >>> ((27 : Int32) &&& 0x3f).toInt64.toUInt64).toInt64)) * (-7723592293110705685 : Int64)).toUInt64 >>> ((31 : Int32) &&& 0x3f).toInt64.toUInt64).toInt64)), (.long ((((q0 ^^^ ((q0.toUInt64 >>> ((30 : Int32) &&& 0x3f).toInt64.toUInt64).toInt64)) * (-4658895280553007687 : Int64)) ^^^ ((((q0 ^^^ ((q0.toUInt64 >>> ((30 : Int32) &&& 0x3f).toInt64.toUInt64).toInt64)) * (-4658895280553007687 : Int64)).toUInt64 >>> ((27 : Int32) &&& 0x3f).toInt64.toUInt64).toInt64)) * (-7723592293110705685 : Int64)))])) _
    refine XS.lxor X0.here hx rfl (hb hby d10_27) rfl ?_
    show Steps p.tables e below (s₁.setTop (mkF m 28 #[.val (.long q0), .second, .val (.long ((((q0 ^^^ ((q0.toUInt64 >>> ((30 : Int32) &&& 0x3f).toInt64.toUInt64).toInt64)) * (-4658895280553007687 : Int64)) ^^^ ((((q0 ^^^ ((q0.toUInt64 >>> ((30 : Int32) &&& 0x3f).toInt64.toUInt64).toInt64)) * (-4658895280553007687 : Int64)).toUInt64 >>> ((27 : Int32) &&& 0x3f).toInt64.toUInt64).toInt64)) * (-7723592293110705685 : Int64))), .second] [(.long (((((q0 ^^^ ((q0.toUInt64 >>> ((30 : Int32) &&& 0x3f).toInt64.toUInt64).toInt64)) * (-4658895280553007687 : Int64)) ^^^ ((((q0 ^^^ ((q0.toUInt64 >>> ((30 : Int32) &&& 0x3f).toInt64.toUInt64).toInt64)) * (-4658895280553007687 : Int64)).toUInt64 >>> ((27 : Int32) &&& 0x3f).toInt64.toUInt64).toInt64)) * (-7723592293110705685 : Int64)) ^^^ ((((((q0 ^^^ ((q0.toUInt64 >>> ((30 : Int32) &&& 0x3f).toInt64.toUInt64).toInt64)) * (-4658895280553007687 : Int64)) ^^^ ((((q0 ^^^ ((q0.toUInt64 >>> ((30 : Int32) &&& 0x3f).toInt64.toUInt64).toInt64)) * (-4658895280553007687 : Int64)).toUInt64 >>> ((27 : Int32) &&& 0x3f).toInt64.toUInt64).toInt64)) * (-7723592293110705685 : Int64)).toUInt64 >>> ((31 : Int32) &&& 0x3f).toInt64.toUInt64).toInt64)))])) _
    exact retOut X0 hx Bd.returns rfl (Or.inr (Or.inl ⟨rfl, rfl, _, rfl⟩)) (hb hby d10_28) hr
  · show own_QP (some (.long (own_mix q0))) h0 n0 _ s₁.heap _
    rw [e0]
    exact ⟨(by first | rfl | simp []), N0, rfl⟩

theorem ef_rmMU (m : MethodId) (x0 : Int64) (x1 : Int64) : entryFrame m #[(.long x0), (.long x1)] 22 = mkF m 0 #[.val (.long x0), .second, .val (.long x1), .second, .unset, .unset, .unset, .unset, .unset, .unset, .unset, .unset, .unset, .unset, .unset, .unset, .unset, .unset, .unset, .unset, .unset, .unset] [] := by first | (simp [entryFrame, mkF, argsToLocals, Value.category]; done) | rfl
set_option maxRecDepth 65536 in
set_option maxHeartbeats 40000000 in
theorem rmMU (l : Launch) (Z : State) (a0 : Array Value) (hw : ∀ d ∈ tables_1, d.before a0 Z = true) (ws : List Jvm.Cond) (q0 : Int64) (q1 : Int64) (h0 : Heap) (n0 : Nat) (Z0 : n0 ≤ h0.size) :
    MetFree l (⟨"com/example/keys_to_bits/keystobits/ProbesNextPinLaw", "mulHighUnsigned", "(JJ)J"⟩ : MethodName) (head1 (Jvm.Cond.code (⟨"com/example/keys_to_bits/keystobits/ProbesNextPinLaw", "mulHighUnsigned", "(JJ)J"⟩ : MethodName) method_3_code 22 (some .long) :: ws) ({ frames := 0, cells := 0, slots := 0, locals := 0 } : Room)) (fun a U => a = #[(.long q0), (.long q1)] ∧ Z.Warmed39 U.vm ∧ U.heap = h0) (fun _ _ _ _ _ => True) (fun _ U o U' => ∃ v L, o = .returned v ∧ own_QP (some (.long (own_muh q0 q1))) h0 n0 v U'.heap L ∧ FrameEnd U o U' L ({ frames := 0, cells := 0, slots := 0, locals := 0 } : Room).cells ({ frames := 0, cells := 0, slots := 0, locals := 0 } : Room).slots) := by
  refine MetFree.of_bodySF (plainFor_of_name pn_11) hisR ?_
  intro p e s m args below meth c s₁ Bd hml0 hP hK
  obtain ⟨rfl, hZ, hh⟩ := hP
  have hx := Bd.exec
  have hby := Bd.bytes
  have hml : c.maxLocals = 22 := hml0
  have hown : s.vm.findClass "com/example/keys_to_bits/keystobits/ProbesNextPinLaw" = some m.cls := findClass_of_methodNamed Bd.named
  have hnm := (name_of_methodNamed Bd.named Bd.method).1
  have X0 : Stand p l e ({ frames := 0, cells := 0, slots := 0, locals := 0 } : Room) s m #[(.long q0), (.long q1)] below meth c s₁ [] 0 0 := Stand.of_body Bd
  have e0 : s₁.heap = h0 := by rw [← hh, Bd.state]; rfl
  have N0 := Fr.nil n0
  have pre0 : ∀ t, Steps p.tables e below (s₁.setTop (mkF m 0 #[.val (.long q0), .second, .val (.long q1), .second, .unset, .unset, .unset, .unset, .unset, .unset, .unset, .unset, .unset, .unset, .unset, .unset, .unset, .unset, .unset, .unset, .unset, .unset] [])) t → Steps p.tables e below (s₁.setTop (entryFrame m #[(.long q0), (.long q1)] 22)) t := fun t k => castTop (ef_rmMU m q0 q1) k
  obtain ⟨fs, hr, hrun, hended, hW, hsame⟩ := X0.leave (v := some (.long ((((((q0.toUInt64 >>> ((32 : Int32) &&& 0x3f).toInt64.toUInt64).toInt64) * ((q1.toUInt64 >>> ((32 : Int32) &&& 0x3f).toInt64.toUInt64).toInt64)) + ((((q0 &&& (4294967295 : Int64)) * ((q1.toUInt64 >>> ((32 : Int32) &&& 0x3f).toInt64.toUInt64).toInt64)).toUInt64 >>> ((32 : Int32) &&& 0x3f).toInt64.toUInt64).toInt64)) + (((((q0.toUInt64 >>> ((32 : Int32) &&& 0x3f).toInt64.toUInt64).toInt64) * (q1 &&& (4294967295 : Int64))).toUInt64 >>> ((32 : Int32) &&& 0x3f).toInt64.toUInt64).toInt64)) + ((((((((q0 &&& (4294967295 : Int64)) * (q1 &&& (4294967295 : Int64))).toUInt64 >>> ((32 : Int32) &&& 0x3f).toInt64.toUInt64).toInt64) + (((q0 &&& (4294967295 : Int64)) * ((q1.toUInt64 >>> ((32 : Int32) &&& 0x3f).toInt64.toUInt64).toInt64)) &&& (4294967295 : Int64))) + ((((q0.toUInt64 >>> ((32 : Int32) &&& 0x3f).toInt64.toUInt64).toInt64) * (q1 &&& (4294967295 : Int64))) &&& (4294967295 : Int64))).toUInt64 >>> ((32 : Int32) &&& 0x3f).toInt64.toUInt64).toInt64)))) (fun h => by rw [Bd.returns] at h; cases h)
  refine ⟨_, _, pre0 _ ?_, hrun, hended, _, _, rfl, ?_, ⟨_, rfl⟩, hW, hsame.mono (by decide) (by decide)⟩
  · show Steps p.tables e below (s₁.setTop (mkF m 0 #[.val (.long q0), .second, .val (.long q1), .second, .unset, .unset, .unset, .unset, .unset, .unset, .unset, .unset, .unset, .unset, .unset, .unset, .unset, .unset, .unset, .unset, .unset, .unset] [])) _
    refine XS.lloadN X0.here hx rfl (hb hby d11_0) rfl ?_
    show Steps p.tables e below (s₁.setTop (mkF m 1 #[.val (.long q0), .second, .val (.long q1), .second, .unset, .unset, .unset, .unset, .unset, .unset, .unset, .unset, .unset, .unset, .unset, .unset, .unset, .unset, .unset, .unset, .unset, .unset] [(.long q0)])) _
    refine X0.ldc2Long hx hown (mvT hZ (hw _ (List.mem_of_getElem? (i := 66) rfl))) (g := (mkF m 1 #[.val (.long q0), .second, .val (.long q1), .second, .unset, .unset, .unset, .unset, .unset, .unset, .unset, .unset, .unset, .unset, .unset, .unset, .unset, .unset, .unset, .unset, .unset, .unset] [(.long q0)])) rfl (hb hby d11_1) _ ?_
    show Steps p.tables e below (s₁.setTop (mkF m 4 #[.val (.long q0), .second, .val (.long q1), .second, .unset, .unset, .unset, .unset, .unset, .unset, .unset, .unset, .unset, .unset, .unset, .unset, .unset, .unset, .unset, .unset, .unset, .unset] [(.long (4294967295 : Int64)), (.long q0)])) _
    refine XS.land X0.here hx rfl (hb hby d11_4) rfl ?_
    show Steps p.tables e below (s₁.setTop (mkF m 5 #[.val (.long q0), .second, .val (.long q1), .second, .unset, .unset, .unset, .unset, .unset, .unset, .unset, .unset, .unset, .unset, .unset, .unset, .unset, .unset, .unset, .unset, .unset, .unset] [(.long (q0 &&& (4294967295 : Int64)))])) _
    refine XS.lstore X0.here hx rfl (hb hby d11_5) rfl (l' := #[.val (.long q0), .second, .val (.long q1), .second, .val (.long (q0 &&& (4294967295 : Int64))), .second, .unset, .unset, .unset, .unset, .unset, .unset, .unset, .unset, .unset, .unset, .unset, .unset, .unset, .unset, .unset, .unset]) rfl ?_
    show Steps p.tables e below (s₁.setTop (mkF m 7 #[.val (.long q0), .second, .val (.long q1), .second, .val (.long (q0 &&& (4294967295 : Int64))), .second, .unset, .unset, .unset, .unset, .unset, .unset, .unset, .unset, .unset, .unset, .unset, .unset, .unset, .unset, .unset, .unset] [])) _
    refine XS.lloadN X0.here hx rfl (hb hby d11_7) rfl ?_
    show Steps p.tables e below (s₁.setTop (mkF m 8 #[.val (.long q0), .second, .val (.long q1), .second, .val (.long (q0 &&& (4294967295 : Int64))), .second, .unset, .unset, .unset, .unset, .unset, .unset, .unset, .unset, .unset, .unset, .unset, .unset, .unset, .unset, .unset, .unset] [(.long q0)])) _
    refine XS.bipush X0.here hx rfl (hb hby d11_8) ?_
    show Steps p.tables e below (s₁.setTop (mkF m 10 #[.val (.long q0), .second, .val (.long q1), .second, .val (.long (q0 &&& (4294967295 : Int64))), .second, .unset, .unset, .unset, .unset, .unset, .unset, .unset, .unset, .unset, .unset, .unset, .unset, .unset, .unset, .unset, .unset] [(.int (32 : Int32)), (.long q0)])) _
    refine XS.lushr X0.here hx rfl (hb hby d11_10) rfl ?_
    show Steps p.tables e below (s₁.setTop (mkF m 11 #[.val (.long q0), .second, .val (.long q1), .second, .val (.long (q0 &&& (4294967295 : Int64))), .second, .unset, .unset, .unset, .unset, .unset, .unset, .unset, .unset, .unset, .unset, .unset, .unset, .unset, .unset, .unset, .unset] [(.long ((q0.toUInt64 >>> ((32 : Int32) &&& 0x3f).toInt64.toUInt64).toInt64))])) _
    refine XS.lstore X0.here hx rfl (hb hby d11_11) rfl (l' := #[.val (.long q0), .second, .val (.long q1), .second, .val (.long (q0 &&& (4294967295 : Int64))), .second, .val (.long ((q0.toUInt64 >>> ((32 : Int32) &&& 0x3f).toInt64.toUInt64).toInt64)), .second, .unset, .unset, .unset, .unset, .unset, .unset, .unset, .unset, .unset, .unset, .unset, .unset, .unset, .unset]) rfl ?_
    show Steps p.tables e below (s₁.setTop (mkF m 13 #[.val (.long q0), .second, .val (.long q1), .second, .val (.long (q0 &&& (4294967295 : Int64))), .second, .val (.long ((q0.toUInt64 >>> ((32 : Int32) &&& 0x3f).toInt64.toUInt64).toInt64)), .second, .unset, .unset, .unset, .unset, .unset, .unset, .unset, .unset, .unset, .unset, .unset, .unset, .unset, .unset] [])) _
    refine XS.lloadN X0.here hx rfl (hb hby d11_13) rfl ?_
    show Steps p.tables e below (s₁.setTop (mkF m 14 #[.val (.long q0), .second, .val (.long q1), .second, .val (.long (q0 &&& (4294967295 : Int64))), .second, .val (.long ((q0.toUInt64 >>> ((32 : Int32) &&& 0x3f).toInt64.toUInt64).toInt64)), .second, .unset, .unset, .unset, .unset, .unset, .unset, .unset, .unset, .unset, .unset, .unset, .unset, .unset, .unset] [(.long q1)])) _
    refine X0.ldc2Long hx hown (mvT hZ (hw _ (List.mem_of_getElem? (i := 66) rfl))) (g := (mkF m 14 #[.val (.long q0), .second, .val (.long q1), .second, .val (.long (q0 &&& (4294967295 : Int64))), .second, .val (.long ((q0.toUInt64 >>> ((32 : Int32) &&& 0x3f).toInt64.toUInt64).toInt64)), .second, .unset, .unset, .unset, .unset, .unset, .unset, .unset, .unset, .unset, .unset, .unset, .unset, .unset, .unset] [(.long q1)])) rfl (hb hby d11_14) _ ?_
    show Steps p.tables e below (s₁.setTop (mkF m 17 #[.val (.long q0), .second, .val (.long q1), .second, .val (.long (q0 &&& (4294967295 : Int64))), .second, .val (.long ((q0.toUInt64 >>> ((32 : Int32) &&& 0x3f).toInt64.toUInt64).toInt64)), .second, .unset, .unset, .unset, .unset, .unset, .unset, .unset, .unset, .unset, .unset, .unset, .unset, .unset, .unset] [(.long (4294967295 : Int64)), (.long q1)])) _
    refine XS.land X0.here hx rfl (hb hby d11_17) rfl ?_
    show Steps p.tables e below (s₁.setTop (mkF m 18 #[.val (.long q0), .second, .val (.long q1), .second, .val (.long (q0 &&& (4294967295 : Int64))), .second, .val (.long ((q0.toUInt64 >>> ((32 : Int32) &&& 0x3f).toInt64.toUInt64).toInt64)), .second, .unset, .unset, .unset, .unset, .unset, .unset, .unset, .unset, .unset, .unset, .unset, .unset, .unset, .unset] [(.long (q1 &&& (4294967295 : Int64)))])) _
    refine XS.lstore X0.here hx rfl (hb hby d11_18) rfl (l' := #[.val (.long q0), .second, .val (.long q1), .second, .val (.long (q0 &&& (4294967295 : Int64))), .second, .val (.long ((q0.toUInt64 >>> ((32 : Int32) &&& 0x3f).toInt64.toUInt64).toInt64)), .second, .val (.long (q1 &&& (4294967295 : Int64))), .second, .unset, .unset, .unset, .unset, .unset, .unset, .unset, .unset, .unset, .unset, .unset, .unset]) rfl ?_
    show Steps p.tables e below (s₁.setTop (mkF m 20 #[.val (.long q0), .second, .val (.long q1), .second, .val (.long (q0 &&& (4294967295 : Int64))), .second, .val (.long ((q0.toUInt64 >>> ((32 : Int32) &&& 0x3f).toInt64.toUInt64).toInt64)), .second, .val (.long (q1 &&& (4294967295 : Int64))), .second, .unset, .unset, .unset, .unset, .unset, .unset, .unset, .unset, .unset, .unset, .unset, .unset] [])) _
    refine XS.lloadN X0.here hx rfl (hb hby d11_20) rfl ?_
    show Steps p.tables e below (s₁.setTop (mkF m 21 #[.val (.long q0), .second, .val (.long q1), .second, .val (.long (q0 &&& (4294967295 : Int64))), .second, .val (.long ((q0.toUInt64 >>> ((32 : Int32) &&& 0x3f).toInt64.toUInt64).toInt64)), .second, .val (.long (q1 &&& (4294967295 : Int64))), .second, .unset, .unset, .unset, .unset, .unset, .unset, .unset, .unset, .unset, .unset, .unset, .unset] [(.long q1)])) _
    refine XS.bipush X0.here hx rfl (hb hby d11_21) ?_
    show Steps p.tables e below (s₁.setTop (mkF m 23 #[.val (.long q0), .second, .val (.long q1), .second, .val (.long (q0 &&& (4294967295 : Int64))), .second, .val (.long ((q0.toUInt64 >>> ((32 : Int32) &&& 0x3f).toInt64.toUInt64).toInt64)), .second, .val (.long (q1 &&& (4294967295 : Int64))), .second, .unset, .unset, .unset, .unset, .unset, .unset, .unset, .unset, .unset, .unset, .unset, .unset] [(.int (32 : Int32)), (.long q1)])) _
    refine XS.lushr X0.here hx rfl (hb hby d11_23) rfl ?_
    show Steps p.tables e below (s₁.setTop (mkF m 24 #[.val (.long q0), .second, .val (.long q1), .second, .val (.long (q0 &&& (4294967295 : Int64))), .second, .val (.long ((q0.toUInt64 >>> ((32 : Int32) &&& 0x3f).toInt64.toUInt64).toInt64)), .second, .val (.long (q1 &&& (4294967295 : Int64))), .second, .unset, .unset, .unset, .unset, .unset, .unset, .unset, .unset, .unset, .unset, .unset, .unset] [(.long ((q1.toUInt64 >>> ((32 : Int32) &&& 0x3f).toInt64.toUInt64).toInt64))])) _
    refine XS.lstore X0.here hx rfl (hb hby d11_24) rfl (l' := #[.val (.long q0), .second, .val (.long q1), .second, .val (.long (q0 &&& (4294967295 : Int64))), .second, .val (.long ((q0.toUInt64 >>> ((32 : Int32) &&& 0x3f).toInt64.toUInt64).toInt64)), .second, .val (.long (q1 &&& (4294967295 : Int64))), .second, .val (.long ((q1.toUInt64 >>> ((32 : Int32) &&& 0x3f).toInt64.toUInt64).toInt64)), .second, .unset, .unset, .unset, .unset, .unset, .unset, .unset, .unset, .unset, .unset]) rfl ?_
    show Steps p.tables e below (s₁.setTop (mkF m 26 #[.val (.long q0), .second, .val (.long q1), .second, .val (.long (q0 &&& (4294967295 : Int64))), .second, .val (.long ((q0.toUInt64 >>> ((32 : Int32) &&& 0x3f).toInt64.toUInt64).toInt64)), .second, .val (.long (q1 &&& (4294967295 : Int64))), .second, .val (.long ((q1.toUInt64 >>> ((32 : Int32) &&& 0x3f).toInt64.toUInt64).toInt64)), .second, .unset, .unset, .unset, .unset, .unset, .unset, .unset, .unset, .unset, .unset] [])) _
    refine XS.lload X0.here hx rfl (hb hby d11_26) rfl ?_
    show Steps p.tables e below (s₁.setTop (mkF m 28 #[.val (.long q0), .second, .val (.long q1), .second, .val (.long (q0 &&& (4294967295 : Int64))), .second, .val (.long ((q0.toUInt64 >>> ((32 : Int32) &&& 0x3f).toInt64.toUInt64).toInt64)), .second, .val (.long (q1 &&& (4294967295 : Int64))), .second, .val (.long ((q1.toUInt64 >>> ((32 : Int32) &&& 0x3f).toInt64.toUInt64).toInt64)), .second, .unset, .unset, .unset, .unset, .unset, .unset, .unset, .unset, .unset, .unset] [(.long (q0 &&& (4294967295 : Int64)))])) _
    refine XS.lload X0.here hx rfl (hb hby d11_28) rfl ?_
    show Steps p.tables e below (s₁.setTop (mkF m 30 #[.val (.long q0), .second, .val (.long q1), .second, .val (.long (q0 &&& (4294967295 : Int64))), .second, .val (.long ((q0.toUInt64 >>> ((32 : Int32) &&& 0x3f).toInt64.toUInt64).toInt64)), .second, .val (.long (q1 &&& (4294967295 : Int64))), .second, .val (.long ((q1.toUInt64 >>> ((32 : Int32) &&& 0x3f).toInt64.toUInt64).toInt64)), .second, .unset, .unset, .unset, .unset, .unset, .unset, .unset, .unset, .unset, .unset] [(.long (q1 &&& (4294967295 : Int64))), (.long (q0 &&& (4294967295 : Int64)))])) _
    refine XS.lmul X0.here hx rfl (hb hby d11_30) rfl ?_
    show Steps p.tables e below (s₁.setTop (mkF m 31 #[.val (.long q0), .second, .val (.long q1), .second, .val (.long (q0 &&& (4294967295 : Int64))), .second, .val (.long ((q0.toUInt64 >>> ((32 : Int32) &&& 0x3f).toInt64.toUInt64).toInt64)), .second, .val (.long (q1 &&& (4294967295 : Int64))), .second, .val (.long ((q1.toUInt64 >>> ((32 : Int32) &&& 0x3f).toInt64.toUInt64).toInt64)), .second, .unset, .unset, .unset, .unset, .unset, .unset, .unset, .unset, .unset, .unset] [(.long ((q0 &&& (4294967295 : Int64)) * (q1 &&& (4294967295 : Int64))))])) _
    refine XS.lstore X0.here hx rfl (hb hby d11_31) rfl (l' := #[.val (.long q0), .second, .val (.long q1), .second, .val (.long (q0 &&& (4294967295 : Int64))), .second, .val (.long ((q0.toUInt64 >>> ((32 : Int32) &&& 0x3f).toInt64.toUInt64).toInt64)), .second, .val (.long (q1 &&& (4294967295 : Int64))), .second, .val (.long ((q1.toUInt64 >>> ((32 : Int32) &&& 0x3f).toInt64.toUInt64).toInt64)), .second, .val (.long ((q0 &&& (4294967295 : Int64)) * (q1 &&& (4294967295 : Int64)))), .second, .unset, .unset, .unset, .unset, .unset, .unset, .unset, .unset]) rfl ?_
    show Steps p.tables e below (s₁.setTop (mkF m 33 #[.val (.long q0), .second, .val (.long q1), .second, .val (.long (q0 &&& (4294967295 : Int64))), .second, .val (.long ((q0.toUInt64 >>> ((32 : Int32) &&& 0x3f).toInt64.toUInt64).toInt64)), .second, .val (.long (q1 &&& (4294967295 : Int64))), .second, .val (.long ((q1.toUInt64 >>> ((32 : Int32) &&& 0x3f).toInt64.toUInt64).toInt64)), .second, .val (.long ((q0 &&& (4294967295 : Int64)) * (q1 &&& (4294967295 : Int64)))), .second, .unset, .unset, .unset, .unset, .unset, .unset, .unset, .unset] [])) _
    refine XS.lload X0.here hx rfl (hb hby d11_33) rfl ?_
    show Steps p.tables e below (s₁.setTop (mkF m 35 #[.val (.long q0), .second, .val (.long q1), .second, .val (.long (q0 &&& (4294967295 : Int64))), .second, .val (.long ((q0.toUInt64 >>> ((32 : Int32) &&& 0x3f).toInt64.toUInt64).toInt64)), .second, .val (.long (q1 &&& (4294967295 : Int64))), .second, .val (.long ((q1.toUInt64 >>> ((32 : Int32) &&& 0x3f).toInt64.toUInt64).toInt64)), .second, .val (.long ((q0 &&& (4294967295 : Int64)) * (q1 &&& (4294967295 : Int64)))), .second, .unset, .unset, .unset, .unset, .unset, .unset, .unset, .unset] [(.long (q0 &&& (4294967295 : Int64)))])) _
    refine XS.lload X0.here hx rfl (hb hby d11_35) rfl ?_
    show Steps p.tables e below (s₁.setTop (mkF m 37 #[.val (.long q0), .second, .val (.long q1), .second, .val (.long (q0 &&& (4294967295 : Int64))), .second, .val (.long ((q0.toUInt64 >>> ((32 : Int32) &&& 0x3f).toInt64.toUInt64).toInt64)), .second, .val (.long (q1 &&& (4294967295 : Int64))), .second, .val (.long ((q1.toUInt64 >>> ((32 : Int32) &&& 0x3f).toInt64.toUInt64).toInt64)), .second, .val (.long ((q0 &&& (4294967295 : Int64)) * (q1 &&& (4294967295 : Int64)))), .second, .unset, .unset, .unset, .unset, .unset, .unset, .unset, .unset] [(.long ((q1.toUInt64 >>> ((32 : Int32) &&& 0x3f).toInt64.toUInt64).toInt64)), (.long (q0 &&& (4294967295 : Int64)))])) _
    refine XS.lmul X0.here hx rfl (hb hby d11_37) rfl ?_
    show Steps p.tables e below (s₁.setTop (mkF m 38 #[.val (.long q0), .second, .val (.long q1), .second, .val (.long (q0 &&& (4294967295 : Int64))), .second, .val (.long ((q0.toUInt64 >>> ((32 : Int32) &&& 0x3f).toInt64.toUInt64).toInt64)), .second, .val (.long (q1 &&& (4294967295 : Int64))), .second, .val (.long ((q1.toUInt64 >>> ((32 : Int32) &&& 0x3f).toInt64.toUInt64).toInt64)), .second, .val (.long ((q0 &&& (4294967295 : Int64)) * (q1 &&& (4294967295 : Int64)))), .second, .unset, .unset, .unset, .unset, .unset, .unset, .unset, .unset] [(.long ((q0 &&& (4294967295 : Int64)) * ((q1.toUInt64 >>> ((32 : Int32) &&& 0x3f).toInt64.toUInt64).toInt64)))])) _
    refine XS.lstore X0.here hx rfl (hb hby d11_38) rfl (l' := #[.val (.long q0), .second, .val (.long q1), .second, .val (.long (q0 &&& (4294967295 : Int64))), .second, .val (.long ((q0.toUInt64 >>> ((32 : Int32) &&& 0x3f).toInt64.toUInt64).toInt64)), .second, .val (.long (q1 &&& (4294967295 : Int64))), .second, .val (.long ((q1.toUInt64 >>> ((32 : Int32) &&& 0x3f).toInt64.toUInt64).toInt64)), .second, .val (.long ((q0 &&& (4294967295 : Int64)) * (q1 &&& (4294967295 : Int64)))), .second, .val (.long ((q0 &&& (4294967295 : Int64)) * ((q1.toUInt64 >>> ((32 : Int32) &&& 0x3f).toInt64.toUInt64).toInt64))), .second, .unset, .unset, .unset, .unset, .unset, .unset]) rfl ?_
    show Steps p.tables e below (s₁.setTop (mkF m 40 #[.val (.long q0), .second, .val (.long q1), .second, .val (.long (q0 &&& (4294967295 : Int64))), .second, .val (.long ((q0.toUInt64 >>> ((32 : Int32) &&& 0x3f).toInt64.toUInt64).toInt64)), .second, .val (.long (q1 &&& (4294967295 : Int64))), .second, .val (.long ((q1.toUInt64 >>> ((32 : Int32) &&& 0x3f).toInt64.toUInt64).toInt64)), .second, .val (.long ((q0 &&& (4294967295 : Int64)) * (q1 &&& (4294967295 : Int64)))), .second, .val (.long ((q0 &&& (4294967295 : Int64)) * ((q1.toUInt64 >>> ((32 : Int32) &&& 0x3f).toInt64.toUInt64).toInt64))), .second, .unset, .unset, .unset, .unset, .unset, .unset] [])) _
    refine XS.lload X0.here hx rfl (hb hby d11_40) rfl ?_
    show Steps p.tables e below (s₁.setTop (mkF m 42 #[.val (.long q0), .second, .val (.long q1), .second, .val (.long (q0 &&& (4294967295 : Int64))), .second, .val (.long ((q0.toUInt64 >>> ((32 : Int32) &&& 0x3f).toInt64.toUInt64).toInt64)), .second, .val (.long (q1 &&& (4294967295 : Int64))), .second, .val (.long ((q1.toUInt64 >>> ((32 : Int32) &&& 0x3f).toInt64.toUInt64).toInt64)), .second, .val (.long ((q0 &&& (4294967295 : Int64)) * (q1 &&& (4294967295 : Int64)))), .second, .val (.long ((q0 &&& (4294967295 : Int64)) * ((q1.toUInt64 >>> ((32 : Int32) &&& 0x3f).toInt64.toUInt64).toInt64))), .second, .unset, .unset, .unset, .unset, .unset, .unset] [(.long ((q0.toUInt64 >>> ((32 : Int32) &&& 0x3f).toInt64.toUInt64).toInt64))])) _
    refine XS.lload X0.here hx rfl (hb hby d11_42) rfl ?_
    show Steps p.tables e below (s₁.setTop (mkF m 44 #[.val (.long q0), .second, .val (.long q1), .second, .val (.long (q0 &&& (4294967295 : Int64))), .second, .val (.long ((q0.toUInt64 >>> ((32 : Int32) &&& 0x3f).toInt64.toUInt64).toInt64)), .second, .val (.long (q1 &&& (4294967295 : Int64))), .second, .val (.long ((q1.toUInt64 >>> ((32 : Int32) &&& 0x3f).toInt64.toUInt64).toInt64)), .second, .val (.long ((q0 &&& (4294967295 : Int64)) * (q1 &&& (4294967295 : Int64)))), .second, .val (.long ((q0 &&& (4294967295 : Int64)) * ((q1.toUInt64 >>> ((32 : Int32) &&& 0x3f).toInt64.toUInt64).toInt64))), .second, .unset, .unset, .unset, .unset, .unset, .unset] [(.long (q1 &&& (4294967295 : Int64))), (.long ((q0.toUInt64 >>> ((32 : Int32) &&& 0x3f).toInt64.toUInt64).toInt64))])) _
    refine XS.lmul X0.here hx rfl (hb hby d11_44) rfl ?_
    show Steps p.tables e below (s₁.setTop (mkF m 45 #[.val (.long q0), .second, .val (.long q1), .second, .val (.long (q0 &&& (4294967295 : Int64))), .second, .val (.long ((q0.toUInt64 >>> ((32 : Int32) &&& 0x3f).toInt64.toUInt64).toInt64)), .second, .val (.long (q1 &&& (4294967295 : Int64))), .second, .val (.long ((q1.toUInt64 >>> ((32 : Int32) &&& 0x3f).toInt64.toUInt64).toInt64)), .second, .val (.long ((q0 &&& (4294967295 : Int64)) * (q1 &&& (4294967295 : Int64)))), .second, .val (.long ((q0 &&& (4294967295 : Int64)) * ((q1.toUInt64 >>> ((32 : Int32) &&& 0x3f).toInt64.toUInt64).toInt64))), .second, .unset, .unset, .unset, .unset, .unset, .unset] [(.long (((q0.toUInt64 >>> ((32 : Int32) &&& 0x3f).toInt64.toUInt64).toInt64) * (q1 &&& (4294967295 : Int64))))])) _
    refine XS.lstore X0.here hx rfl (hb hby d11_45) rfl (l' := #[.val (.long q0), .second, .val (.long q1), .second, .val (.long (q0 &&& (4294967295 : Int64))), .second, .val (.long ((q0.toUInt64 >>> ((32 : Int32) &&& 0x3f).toInt64.toUInt64).toInt64)), .second, .val (.long (q1 &&& (4294967295 : Int64))), .second, .val (.long ((q1.toUInt64 >>> ((32 : Int32) &&& 0x3f).toInt64.toUInt64).toInt64)), .second, .val (.long ((q0 &&& (4294967295 : Int64)) * (q1 &&& (4294967295 : Int64)))), .second, .val (.long ((q0 &&& (4294967295 : Int64)) * ((q1.toUInt64 >>> ((32 : Int32) &&& 0x3f).toInt64.toUInt64).toInt64))), .second, .val (.long (((q0.toUInt64 >>> ((32 : Int32) &&& 0x3f).toInt64.toUInt64).toInt64) * (q1 &&& (4294967295 : Int64)))), .second, .unset, .unset, .unset, .unset]) rfl ?_
    show Steps p.tables e below (s₁.setTop (mkF m 47 #[.val (.long q0), .second, .val (.long q1), .second, .val (.long (q0 &&& (4294967295 : Int64))), .second, .val (.long ((q0.toUInt64 >>> ((32 : Int32) &&& 0x3f).toInt64.toUInt64).toInt64)), .second, .val (.long (q1 &&& (4294967295 : Int64))), .second, .val (.long ((q1.toUInt64 >>> ((32 : Int32) &&& 0x3f).toInt64.toUInt64).toInt64)), .second, .val (.long ((q0 &&& (4294967295 : Int64)) * (q1 &&& (4294967295 : Int64)))), .second, .val (.long ((q0 &&& (4294967295 : Int64)) * ((q1.toUInt64 >>> ((32 : Int32) &&& 0x3f).toInt64.toUInt64).toInt64))), .second, .val (.long (((q0.toUInt64 >>> ((32 : Int32) &&& 0x3f).toInt64.toUInt64).toInt64) * (q1 &&& (4294967295 : Int64)))), .second, .unset, .unset, .unset, .unset] [])) _
    refine XS.lload X0.here hx rfl (hb hby d11_47) rfl ?_
    show Steps p.tables e below (s₁.setTop (mkF m 49 #[.val (.long q0), .second, .val (.long q1), .second, .val (.long (q0 &&& (4294967295 : Int64))), .second, .val (.long ((q0.toUInt64 >>> ((32 : Int32) &&& 0x3f).toInt64.toUInt64).toInt64)), .second, .val (.long (q1 &&& (4294967295 : Int64))), .second, .val (.long ((q1.toUInt64 >>> ((32 : Int32) &&& 0x3f).toInt64.toUInt64).toInt64)), .second, .val (.long ((q0 &&& (4294967295 : Int64)) * (q1 &&& (4294967295 : Int64)))), .second, .val (.long ((q0 &&& (4294967295 : Int64)) * ((q1.toUInt64 >>> ((32 : Int32) &&& 0x3f).toInt64.toUInt64).toInt64))), .second, .val (.long (((q0.toUInt64 >>> ((32 : Int32) &&& 0x3f).toInt64.toUInt64).toInt64) * (q1 &&& (4294967295 : Int64)))), .second, .unset, .unset, .unset, .unset] [(.long ((q0.toUInt64 >>> ((32 : Int32) &&& 0x3f).toInt64.toUInt64).toInt64))])) _
    refine XS.lload X0.here hx rfl (hb hby d11_49) rfl ?_
    show Steps p.tables e below (s₁.setTop (mkF m 51 #[.val (.long q0), .second, .val (.long q1), .second, .val (.long (q0 &&& (4294967295 : Int64))), .second, .val (.long ((q0.toUInt64 >>> ((32 : Int32) &&& 0x3f).toInt64.toUInt64).toInt64)), .second, .val (.long (q1 &&& (4294967295 : Int64))), .second, .val (.long ((q1.toUInt64 >>> ((32 : Int32) &&& 0x3f).toInt64.toUInt64).toInt64)), .second, .val (.long ((q0 &&& (4294967295 : Int64)) * (q1 &&& (4294967295 : Int64)))), .second, .val (.long ((q0 &&& (4294967295 : Int64)) * ((q1.toUInt64 >>> ((32 : Int32) &&& 0x3f).toInt64.toUInt64).toInt64))), .second, .val (.long (((q0.toUInt64 >>> ((32 : Int32) &&& 0x3f).toInt64.toUInt64).toInt64) * (q1 &&& (4294967295 : Int64)))), .second, .unset, .unset, .unset, .unset] [(.long ((q1.toUInt64 >>> ((32 : Int32) &&& 0x3f).toInt64.toUInt64).toInt64)), (.long ((q0.toUInt64 >>> ((32 : Int32) &&& 0x3f).toInt64.toUInt64).toInt64))])) _
    refine XS.lmul X0.here hx rfl (hb hby d11_51) rfl ?_
    show Steps p.tables e below (s₁.setTop (mkF m 52 #[.val (.long q0), .second, .val (.long q1), .second, .val (.long (q0 &&& (4294967295 : Int64))), .second, .val (.long ((q0.toUInt64 >>> ((32 : Int32) &&& 0x3f).toInt64.toUInt64).toInt64)), .second, .val (.long (q1 &&& (4294967295 : Int64))), .second, .val (.long ((q1.toUInt64 >>> ((32 : Int32) &&& 0x3f).toInt64.toUInt64).toInt64)), .second, .val (.long ((q0 &&& (4294967295 : Int64)) * (q1 &&& (4294967295 : Int64)))), .second, .val (.long ((q0 &&& (4294967295 : Int64)) * ((q1.toUInt64 >>> ((32 : Int32) &&& 0x3f).toInt64.toUInt64).toInt64))), .second, .val (.long (((q0.toUInt64 >>> ((32 : Int32) &&& 0x3f).toInt64.toUInt64).toInt64) * (q1 &&& (4294967295 : Int64)))), .second, .unset, .unset, .unset, .unset] [(.long (((q0.toUInt64 >>> ((32 : Int32) &&& 0x3f).toInt64.toUInt64).toInt64) * ((q1.toUInt64 >>> ((32 : Int32) &&& 0x3f).toInt64.toUInt64).toInt64)))])) _
    refine XS.lstore X0.here hx rfl (hb hby d11_52) rfl (l' := #[.val (.long q0), .second, .val (.long q1), .second, .val (.long (q0 &&& (4294967295 : Int64))), .second, .val (.long ((q0.toUInt64 >>> ((32 : Int32) &&& 0x3f).toInt64.toUInt64).toInt64)), .second, .val (.long (q1 &&& (4294967295 : Int64))), .second, .val (.long ((q1.toUInt64 >>> ((32 : Int32) &&& 0x3f).toInt64.toUInt64).toInt64)), .second, .val (.long ((q0 &&& (4294967295 : Int64)) * (q1 &&& (4294967295 : Int64)))), .second, .val (.long ((q0 &&& (4294967295 : Int64)) * ((q1.toUInt64 >>> ((32 : Int32) &&& 0x3f).toInt64.toUInt64).toInt64))), .second, .val (.long (((q0.toUInt64 >>> ((32 : Int32) &&& 0x3f).toInt64.toUInt64).toInt64) * (q1 &&& (4294967295 : Int64)))), .second, .val (.long (((q0.toUInt64 >>> ((32 : Int32) &&& 0x3f).toInt64.toUInt64).toInt64) * ((q1.toUInt64 >>> ((32 : Int32) &&& 0x3f).toInt64.toUInt64).toInt64))), .second, .unset, .unset]) rfl ?_
    show Steps p.tables e below (s₁.setTop (mkF m 54 #[.val (.long q0), .second, .val (.long q1), .second, .val (.long (q0 &&& (4294967295 : Int64))), .second, .val (.long ((q0.toUInt64 >>> ((32 : Int32) &&& 0x3f).toInt64.toUInt64).toInt64)), .second, .val (.long (q1 &&& (4294967295 : Int64))), .second, .val (.long ((q1.toUInt64 >>> ((32 : Int32) &&& 0x3f).toInt64.toUInt64).toInt64)), .second, .val (.long ((q0 &&& (4294967295 : Int64)) * (q1 &&& (4294967295 : Int64)))), .second, .val (.long ((q0 &&& (4294967295 : Int64)) * ((q1.toUInt64 >>> ((32 : Int32) &&& 0x3f).toInt64.toUInt64).toInt64))), .second, .val (.long (((q0.toUInt64 >>> ((32 : Int32) &&& 0x3f).toInt64.toUInt64).toInt64) * (q1 &&& (4294967295 : Int64)))), .second, .val (.long (((q0.toUInt64 >>> ((32 : Int32) &&& 0x3f).toInt64.toUInt64).toInt64) * ((q1.toUInt64 >>> ((32 : Int32) &&& 0x3f).toInt64.toUInt64).toInt64))), .second, .unset, .unset] [])) _
    refine XS.lload X0.here hx rfl (hb hby d11_54) rfl ?_
    show Steps p.tables e below (s₁.setTop (mkF m 56 #[.val (.long q0), .second, .val (.long q1), .second, .val (.long (q0 &&& (4294967295 : Int64))), .second, .val (.long ((q0.toUInt64 >>> ((32 : Int32) &&& 0x3f).toInt64.toUInt64).toInt64)), .second, .val (.long (q1 &&& (4294967295 : Int64))), .second, .val (.long ((q1.toUInt64 >>> ((32 : Int32) &&& 0x3f).toInt64.toUInt64).toInt64)), .second, .val (.long ((q0 &&& (4294967295 : Int64)) * (q1 &&& (4294967295 : Int64)))), .second, .val (.long ((q0 &&& (4294967295 : Int64)) * ((q1.toUInt64 >>> ((32 : Int32) &&& 0x3f).toInt64.toUInt64).toInt64))), .second, .val (.long (((q0.toUInt64 >>> ((32 : Int32) &&& 0x3f).toInt64.toUInt64).toInt64) * (q1 &&& (4294967295 : Int64)))), .second, .val (.long (((q0.toUInt64 >>> ((32 : Int32) &&& 0x3f).toInt64.toUInt64).toInt64) * ((q1.toUInt64 >>> ((32 : Int32) &&& 0x3f).toInt64.toUInt64).toInt64))), .second, .unset, .unset] [(.long ((q0 &&& (4294967295 : Int64)) * (q1 &&& (4294967295 : Int64))))])) _
    refine XS.bipush X0.here hx rfl (hb hby d11_56) ?_
    show Steps p.tables e below (s₁.setTop (mkF m 58 #[.val (.long q0), .second, .val (.long q1), .second, .val (.long (q0 &&& (4294967295 : Int64))), .second, .val (.long ((q0.toUInt64 >>> ((32 : Int32) &&& 0x3f).toInt64.toUInt64).toInt64)), .second, .val (.long (q1 &&& (4294967295 : Int64))), .second, .val (.long ((q1.toUInt64 >>> ((32 : Int32) &&& 0x3f).toInt64.toUInt64).toInt64)), .second, .val (.long ((q0 &&& (4294967295 : Int64)) * (q1 &&& (4294967295 : Int64)))), .second, .val (.long ((q0 &&& (4294967295 : Int64)) * ((q1.toUInt64 >>> ((32 : Int32) &&& 0x3f).toInt64.toUInt64).toInt64))), .second, .val (.long (((q0.toUInt64 >>> ((32 : Int32) &&& 0x3f).toInt64.toUInt64).toInt64) * (q1 &&& (4294967295 : Int64)))), .second, .val (.long (((q0.toUInt64 >>> ((32 : Int32) &&& 0x3f).toInt64.toUInt64).toInt64) * ((q1.toUInt64 >>> ((32 : Int32) &&& 0x3f).toInt64.toUInt64).toInt64))), .second, .unset, .unset] [(.int (32 : Int32)), (.long ((q0 &&& (4294967295 : Int64)) * (q1 &&& (4294967295 : Int64))))])) _
    refine XS.lushr X0.here hx rfl (hb hby d11_58) rfl ?_
    show Steps p.tables e below (s₁.setTop (mkF m 59 #[.val (.long q0), .second, .val (.long q1), .second, .val (.long (q0 &&& (4294967295 : Int64))), .second, .val (.long ((q0.toUInt64 >>> ((32 : Int32) &&& 0x3f).toInt64.toUInt64).toInt64)), .second, .val (.long (q1 &&& (4294967295 : Int64))), .second, .val (.long ((q1.toUInt64 >>> ((32 : Int32) &&& 0x3f).toInt64.toUInt64).toInt64)), .second, .val (.long ((q0 &&& (4294967295 : Int64)) * (q1 &&& (4294967295 : Int64)))), .second, .val (.long ((q0 &&& (4294967295 : Int64)) * ((q1.toUInt64 >>> ((32 : Int32) &&& 0x3f).toInt64.toUInt64).toInt64))), .second, .val (.long (((q0.toUInt64 >>> ((32 : Int32) &&& 0x3f).toInt64.toUInt64).toInt64) * (q1 &&& (4294967295 : Int64)))), .second, .val (.long (((q0.toUInt64 >>> ((32 : Int32) &&& 0x3f).toInt64.toUInt64).toInt64) * ((q1.toUInt64 >>> ((32 : Int32) &&& 0x3f).toInt64.toUInt64).toInt64))), .second, .unset, .unset] [(.long ((((q0 &&& (4294967295 : Int64)) * (q1 &&& (4294967295 : Int64))).toUInt64 >>> ((32 : Int32) &&& 0x3f).toInt64.toUInt64).toInt64))])) _
    refine XS.lload X0.here hx rfl (hb hby d11_59) rfl ?_
    show Steps p.tables e below (s₁.setTop (mkF m 61 #[.val (.long q0), .second, .val (.long q1), .second, .val (.long (q0 &&& (4294967295 : Int64))), .second, .val (.long ((q0.toUInt64 >>> ((32 : Int32) &&& 0x3f).toInt64.toUInt64).toInt64)), .second, .val (.long (q1 &&& (4294967295 : Int64))), .second, .val (.long ((q1.toUInt64 >>> ((32 : Int32) &&& 0x3f).toInt64.toUInt64).toInt64)), .second, .val (.long ((q0 &&& (4294967295 : Int64)) * (q1 &&& (4294967295 : Int64)))), .second, .val (.long ((q0 &&& (4294967295 : Int64)) * ((q1.toUInt64 >>> ((32 : Int32) &&& 0x3f).toInt64.toUInt64).toInt64))), .second, .val (.long (((q0.toUInt64 >>> ((32 : Int32) &&& 0x3f).toInt64.toUInt64).toInt64) * (q1 &&& (4294967295 : Int64)))), .second, .val (.long (((q0.toUInt64 >>> ((32 : Int32) &&& 0x3f).toInt64.toUInt64).toInt64) * ((q1.toUInt64 >>> ((32 : Int32) &&& 0x3f).toInt64.toUInt64).toInt64))), .second, .unset, .unset] [(.long ((q0 &&& (4294967295 : Int64)) * ((q1.toUInt64 >>> ((32 : Int32) &&& 0x3f).toInt64.toUInt64).toInt64))), (.long ((((q0 &&& (4294967295 : Int64)) * (q1 &&& (4294967295 : Int64))).toUInt64 >>> ((32 : Int32) &&& 0x3f).toInt64.toUInt64).toInt64))])) _
    refine X0.ldc2Long hx hown (mvT hZ (hw _ (List.mem_of_getElem? (i := 66) rfl))) (g := (mkF m 61 #[.val (.long q0), .second, .val (.long q1), .second, .val (.long (q0 &&& (4294967295 : Int64))), .second, .val (.long ((q0.toUInt64 >>> ((32 : Int32) &&& 0x3f).toInt64.toUInt64).toInt64)), .second, .val (.long (q1 &&& (4294967295 : Int64))), .second, .val (.long ((q1.toUInt64 >>> ((32 : Int32) &&& 0x3f).toInt64.toUInt64).toInt64)), .second, .val (.long ((q0 &&& (4294967295 : Int64)) * (q1 &&& (4294967295 : Int64)))), .second, .val (.long ((q0 &&& (4294967295 : Int64)) * ((q1.toUInt64 >>> ((32 : Int32) &&& 0x3f).toInt64.toUInt64).toInt64))), .second, .val (.long (((q0.toUInt64 >>> ((32 : Int32) &&& 0x3f).toInt64.toUInt64).toInt64) * (q1 &&& (4294967295 : Int64)))), .second, .val (.long (((q0.toUInt64 >>> ((32 : Int32) &&& 0x3f).toInt64.toUInt64).toInt64) * ((q1.toUInt64 >>> ((32 : Int32) &&& 0x3f).toInt64.toUInt64).toInt64))), .second, .unset, .unset] [(.long ((q0 &&& (4294967295 : Int64)) * ((q1.toUInt64 >>> ((32 : Int32) &&& 0x3f).toInt64.toUInt64).toInt64))), (.long ((((q0 &&& (4294967295 : Int64)) * (q1 &&& (4294967295 : Int64))).toUInt64 >>> ((32 : Int32) &&& 0x3f).toInt64.toUInt64).toInt64))])) rfl (hb hby d11_61) _ ?_
    show Steps p.tables e below (s₁.setTop (mkF m 64 #[.val (.long q0), .second, .val (.long q1), .second, .val (.long (q0 &&& (4294967295 : Int64))), .second, .val (.long ((q0.toUInt64 >>> ((32 : Int32) &&& 0x3f).toInt64.toUInt64).toInt64)), .second, .val (.long (q1 &&& (4294967295 : Int64))), .second, .val (.long ((q1.toUInt64 >>> ((32 : Int32) &&& 0x3f).toInt64.toUInt64).toInt64)), .second, .val (.long ((q0 &&& (4294967295 : Int64)) * (q1 &&& (4294967295 : Int64)))), .second, .val (.long ((q0 &&& (4294967295 : Int64)) * ((q1.toUInt64 >>> ((32 : Int32) &&& 0x3f).toInt64.toUInt64).toInt64))), .second, .val (.long (((q0.toUInt64 >>> ((32 : Int32) &&& 0x3f).toInt64.toUInt64).toInt64) * (q1 &&& (4294967295 : Int64)))), .second, .val (.long (((q0.toUInt64 >>> ((32 : Int32) &&& 0x3f).toInt64.toUInt64).toInt64) * ((q1.toUInt64 >>> ((32 : Int32) &&& 0x3f).toInt64.toUInt64).toInt64))), .second, .unset, .unset] [(.long (4294967295 : Int64)), (.long ((q0 &&& (4294967295 : Int64)) * ((q1.toUInt64 >>> ((32 : Int32) &&& 0x3f).toInt64.toUInt64).toInt64))), (.long ((((q0 &&& (4294967295 : Int64)) * (q1 &&& (4294967295 : Int64))).toUInt64 >>> ((32 : Int32) &&& 0x3f).toInt64.toUInt64).toInt64))])) _
    refine XS.land X0.here hx rfl (hb hby d11_64) rfl ?_
    show Steps p.tables e below (s₁.setTop (mkF m 65 #[.val (.long q0), .second, .val (.long q1), .second, .val (.long (q0 &&& (4294967295 : Int64))), .second, .val (.long ((q0.toUInt64 >>> ((32 : Int32) &&& 0x3f).toInt64.toUInt64).toInt64)), .second, .val (.long (q1 &&& (4294967295 : Int64))), .second, .val (.long ((q1.toUInt64 >>> ((32 : Int32) &&& 0x3f).toInt64.toUInt64).toInt64)), .second, .val (.long ((q0 &&& (4294967295 : Int64)) * (q1 &&& (4294967295 : Int64)))), .second, .val (.long ((q0 &&& (4294967295 : Int64)) * ((q1.toUInt64 >>> ((32 : Int32) &&& 0x3f).toInt64.toUInt64).toInt64))), .second, .val (.long (((q0.toUInt64 >>> ((32 : Int32) &&& 0x3f).toInt64.toUInt64).toInt64) * (q1 &&& (4294967295 : Int64)))), .second, .val (.long (((q0.toUInt64 >>> ((32 : Int32) &&& 0x3f).toInt64.toUInt64).toInt64) * ((q1.toUInt64 >>> ((32 : Int32) &&& 0x3f).toInt64.toUInt64).toInt64))), .second, .unset, .unset] [(.long (((q0 &&& (4294967295 : Int64)) * ((q1.toUInt64 >>> ((32 : Int32) &&& 0x3f).toInt64.toUInt64).toInt64)) &&& (4294967295 : Int64))), (.long ((((q0 &&& (4294967295 : Int64)) * (q1 &&& (4294967295 : Int64))).toUInt64 >>> ((32 : Int32) &&& 0x3f).toInt64.toUInt64).toInt64))])) _
    refine XS.ladd X0.here hx rfl (hb hby d11_65) rfl ?_
    show Steps p.tables e below (s₁.setTop (mkF m 66 #[.val (.long q0), .second, .val (.long q1), .second, .val (.long (q0 &&& (4294967295 : Int64))), .second, .val (.long ((q0.toUInt64 >>> ((32 : Int32) &&& 0x3f).toInt64.toUInt64).toInt64)), .second, .val (.long (q1 &&& (4294967295 : Int64))), .second, .val (.long ((q1.toUInt64 >>> ((32 : Int32) &&& 0x3f).toInt64.toUInt64).toInt64)), .second, .val (.long ((q0 &&& (4294967295 : Int64)) * (q1 &&& (4294967295 : Int64)))), .second, .val (.long ((q0 &&& (4294967295 : Int64)) * ((q1.toUInt64 >>> ((32 : Int32) &&& 0x3f).toInt64.toUInt64).toInt64))), .second, .val (.long (((q0.toUInt64 >>> ((32 : Int32) &&& 0x3f).toInt64.toUInt64).toInt64) * (q1 &&& (4294967295 : Int64)))), .second, .val (.long (((q0.toUInt64 >>> ((32 : Int32) &&& 0x3f).toInt64.toUInt64).toInt64) * ((q1.toUInt64 >>> ((32 : Int32) &&& 0x3f).toInt64.toUInt64).toInt64))), .second, .unset, .unset] [(.long (((((q0 &&& (4294967295 : Int64)) * (q1 &&& (4294967295 : Int64))).toUInt64 >>> ((32 : Int32) &&& 0x3f).toInt64.toUInt64).toInt64) + (((q0 &&& (4294967295 : Int64)) * ((q1.toUInt64 >>> ((32 : Int32) &&& 0x3f).toInt64.toUInt64).toInt64)) &&& (4294967295 : Int64))))])) _
    refine XS.lload X0.here hx rfl (hb hby d11_66) rfl ?_
    show Steps p.tables e below (s₁.setTop (mkF m 68 #[.val (.long q0), .second, .val (.long q1), .second, .val (.long (q0 &&& (4294967295 : Int64))), .second, .val (.long ((q0.toUInt64 >>> ((32 : Int32) &&& 0x3f).toInt64.toUInt64).toInt64)), .second, .val (.long (q1 &&& (4294967295 : Int64))), .second, .val (.long ((q1.toUInt64 >>> ((32 : Int32) &&& 0x3f).toInt64.toUInt64).toInt64)), .second, .val (.long ((q0 &&& (4294967295 : Int64)) * (q1 &&& (4294967295 : Int64)))), .second, .val (.long ((q0 &&& (4294967295 : Int64)) * ((q1.toUInt64 >>> ((32 : Int32) &&& 0x3f).toInt64.toUInt64).toInt64))), .second, .val (.long (((q0.toUInt64 >>> ((32 : Int32) &&& 0x3f).toInt64.toUInt64).toInt64) * (q1 &&& (4294967295 : Int64)))), .second, .val (.long (((q0.toUInt64 >>> ((32 : Int32) &&& 0x3f).toInt64.toUInt64).toInt64) * ((q1.toUInt64 >>> ((32 : Int32) &&& 0x3f).toInt64.toUInt64).toInt64))), .second, .unset, .unset] [(.long (((q0.toUInt64 >>> ((32 : Int32) &&& 0x3f).toInt64.toUInt64).toInt64) * (q1 &&& (4294967295 : Int64)))), (.long (((((q0 &&& (4294967295 : Int64)) * (q1 &&& (4294967295 : Int64))).toUInt64 >>> ((32 : Int32) &&& 0x3f).toInt64.toUInt64).toInt64) + (((q0 &&& (4294967295 : Int64)) * ((q1.toUInt64 >>> ((32 : Int32) &&& 0x3f).toInt64.toUInt64).toInt64)) &&& (4294967295 : Int64))))])) _
    refine X0.ldc2Long hx hown (mvT hZ (hw _ (List.mem_of_getElem? (i := 66) rfl))) (g := (mkF m 68 #[.val (.long q0), .second, .val (.long q1), .second, .val (.long (q0 &&& (4294967295 : Int64))), .second, .val (.long ((q0.toUInt64 >>> ((32 : Int32) &&& 0x3f).toInt64.toUInt64).toInt64)), .second, .val (.long (q1 &&& (4294967295 : Int64))), .second, .val (.long ((q1.toUInt64 >>> ((32 : Int32) &&& 0x3f).toInt64.toUInt64).toInt64)), .second, .val (.long ((q0 &&& (4294967295 : Int64)) * (q1 &&& (4294967295 : Int64)))), .second, .val (.long ((q0 &&& (4294967295 : Int64)) * ((q1.toUInt64 >>> ((32 : Int32) &&& 0x3f).toInt64.toUInt64).toInt64))), .second, .val (.long (((q0.toUInt64 >>> ((32 : Int32) &&& 0x3f).toInt64.toUInt64).toInt64) * (q1 &&& (4294967295 : Int64)))), .second, .val (.long (((q0.toUInt64 >>> ((32 : Int32) &&& 0x3f).toInt64.toUInt64).toInt64) * ((q1.toUInt64 >>> ((32 : Int32) &&& 0x3f).toInt64.toUInt64).toInt64))), .second, .unset, .unset] [(.long (((q0.toUInt64 >>> ((32 : Int32) &&& 0x3f).toInt64.toUInt64).toInt64) * (q1 &&& (4294967295 : Int64)))), (.long (((((q0 &&& (4294967295 : Int64)) * (q1 &&& (4294967295 : Int64))).toUInt64 >>> ((32 : Int32) &&& 0x3f).toInt64.toUInt64).toInt64) + (((q0 &&& (4294967295 : Int64)) * ((q1.toUInt64 >>> ((32 : Int32) &&& 0x3f).toInt64.toUInt64).toInt64)) &&& (4294967295 : Int64))))])) rfl (hb hby d11_68) _ ?_
    show Steps p.tables e below (s₁.setTop (mkF m 71 #[.val (.long q0), .second, .val (.long q1), .second, .val (.long (q0 &&& (4294967295 : Int64))), .second, .val (.long ((q0.toUInt64 >>> ((32 : Int32) &&& 0x3f).toInt64.toUInt64).toInt64)), .second, .val (.long (q1 &&& (4294967295 : Int64))), .second, .val (.long ((q1.toUInt64 >>> ((32 : Int32) &&& 0x3f).toInt64.toUInt64).toInt64)), .second, .val (.long ((q0 &&& (4294967295 : Int64)) * (q1 &&& (4294967295 : Int64)))), .second, .val (.long ((q0 &&& (4294967295 : Int64)) * ((q1.toUInt64 >>> ((32 : Int32) &&& 0x3f).toInt64.toUInt64).toInt64))), .second, .val (.long (((q0.toUInt64 >>> ((32 : Int32) &&& 0x3f).toInt64.toUInt64).toInt64) * (q1 &&& (4294967295 : Int64)))), .second, .val (.long (((q0.toUInt64 >>> ((32 : Int32) &&& 0x3f).toInt64.toUInt64).toInt64) * ((q1.toUInt64 >>> ((32 : Int32) &&& 0x3f).toInt64.toUInt64).toInt64))), .second, .unset, .unset] [(.long (4294967295 : Int64)), (.long (((q0.toUInt64 >>> ((32 : Int32) &&& 0x3f).toInt64.toUInt64).toInt64) * (q1 &&& (4294967295 : Int64)))), (.long (((((q0 &&& (4294967295 : Int64)) * (q1 &&& (4294967295 : Int64))).toUInt64 >>> ((32 : Int32) &&& 0x3f).toInt64.toUInt64).toInt64) + (((q0 &&& (4294967295 : Int64)) * ((q1.toUInt64 >>> ((32 : Int32) &&& 0x3f).toInt64.toUInt64).toInt64)) &&& (4294967295 : Int64))))])) _
    refine XS.land X0.here hx rfl (hb hby d11_71) rfl ?_
    show Steps p.tables e below (s₁.setTop (mkF m 72 #[.val (.long q0), .second, .val (.long q1), .second, .val (.long (q0 &&& (4294967295 : Int64))), .second, .val (.long ((q0.toUInt64 >>> ((32 : Int32) &&& 0x3f).toInt64.toUInt64).toInt64)), .second, .val (.long (q1 &&& (4294967295 : Int64))), .second, .val (.long ((q1.toUInt64 >>> ((32 : Int32) &&& 0x3f).toInt64.toUInt64).toInt64)), .second, .val (.long ((q0 &&& (4294967295 : Int64)) * (q1 &&& (4294967295 : Int64)))), .second, .val (.long ((q0 &&& (4294967295 : Int64)) * ((q1.toUInt64 >>> ((32 : Int32) &&& 0x3f).toInt64.toUInt64).toInt64))), .second, .val (.long (((q0.toUInt64 >>> ((32 : Int32) &&& 0x3f).toInt64.toUInt64).toInt64) * (q1 &&& (4294967295 : Int64)))), .second, .val (.long (((q0.toUInt64 >>> ((32 : Int32) &&& 0x3f).toInt64.toUInt64).toInt64) * ((q1.toUInt64 >>> ((32 : Int32) &&& 0x3f).toInt64.toUInt64).toInt64))), .second, .unset, .unset] [(.long ((((q0.toUInt64 >>> ((32 : Int32) &&& 0x3f).toInt64.toUInt64).toInt64) * (q1 &&& (4294967295 : Int64))) &&& (4294967295 : Int64))), (.long (((((q0 &&& (4294967295 : Int64)) * (q1 &&& (4294967295 : Int64))).toUInt64 >>> ((32 : Int32) &&& 0x3f).toInt64.toUInt64).toInt64) + (((q0 &&& (4294967295 : Int64)) * ((q1.toUInt64 >>> ((32 : Int32) &&& 0x3f).toInt64.toUInt64).toInt64)) &&& (4294967295 : Int64))))])) _
    refine XS.ladd X0.here hx rfl (hb hby d11_72) rfl ?_
    show Steps p.tables e below (s₁.setTop (mkF m 73 #[.val (.long q0), .second, .val (.long q1), .second, .val (.long (q0 &&& (4294967295 : Int64))), .second, .val (.long ((q0.toUInt64 >>> ((32 : Int32) &&& 0x3f).toInt64.toUInt64).toInt64)), .second, .val (.long (q1 &&& (4294967295 : Int64))), .second, .val (.long ((q1.toUInt64 >>> ((32 : Int32) &&& 0x3f).toInt64.toUInt64).toInt64)), .second, .val (.long ((q0 &&& (4294967295 : Int64)) * (q1 &&& (4294967295 : Int64)))), .second, .val (.long ((q0 &&& (4294967295 : Int64)) * ((q1.toUInt64 >>> ((32 : Int32) &&& 0x3f).toInt64.toUInt64).toInt64))), .second, .val (.long (((q0.toUInt64 >>> ((32 : Int32) &&& 0x3f).toInt64.toUInt64).toInt64) * (q1 &&& (4294967295 : Int64)))), .second, .val (.long (((q0.toUInt64 >>> ((32 : Int32) &&& 0x3f).toInt64.toUInt64).toInt64) * ((q1.toUInt64 >>> ((32 : Int32) &&& 0x3f).toInt64.toUInt64).toInt64))), .second, .unset, .unset] [(.long ((((((q0 &&& (4294967295 : Int64)) * (q1 &&& (4294967295 : Int64))).toUInt64 >>> ((32 : Int32) &&& 0x3f).toInt64.toUInt64).toInt64) + (((q0 &&& (4294967295 : Int64)) * ((q1.toUInt64 >>> ((32 : Int32) &&& 0x3f).toInt64.toUInt64).toInt64)) &&& (4294967295 : Int64))) + ((((q0.toUInt64 >>> ((32 : Int32) &&& 0x3f).toInt64.toUInt64).toInt64) * (q1 &&& (4294967295 : Int64))) &&& (4294967295 : Int64))))])) _
    refine XS.lstore X0.here hx rfl (hb hby d11_73) rfl (l' := #[.val (.long q0), .second, .val (.long q1), .second, .val (.long (q0 &&& (4294967295 : Int64))), .second, .val (.long ((q0.toUInt64 >>> ((32 : Int32) &&& 0x3f).toInt64.toUInt64).toInt64)), .second, .val (.long (q1 &&& (4294967295 : Int64))), .second, .val (.long ((q1.toUInt64 >>> ((32 : Int32) &&& 0x3f).toInt64.toUInt64).toInt64)), .second, .val (.long ((q0 &&& (4294967295 : Int64)) * (q1 &&& (4294967295 : Int64)))), .second, .val (.long ((q0 &&& (4294967295 : Int64)) * ((q1.toUInt64 >>> ((32 : Int32) &&& 0x3f).toInt64.toUInt64).toInt64))), .second, .val (.long (((q0.toUInt64 >>> ((32 : Int32) &&& 0x3f).toInt64.toUInt64).toInt64) * (q1 &&& (4294967295 : Int64)))), .second, .val (.long (((q0.toUInt64 >>> ((32 : Int32) &&& 0x3f).toInt64.toUInt64).toInt64) * ((q1.toUInt64 >>> ((32 : Int32) &&& 0x3f).toInt64.toUInt64).toInt64))), .second, .val (.long ((((((q0 &&& (4294967295 : Int64)) * (q1 &&& (4294967295 : Int64))).toUInt64 >>> ((32 : Int32) &&& 0x3f).toInt64.toUInt64).toInt64) + (((q0 &&& (4294967295 : Int64)) * ((q1.toUInt64 >>> ((32 : Int32) &&& 0x3f).toInt64.toUInt64).toInt64)) &&& (4294967295 : Int64))) + ((((q0.toUInt64 >>> ((32 : Int32) &&& 0x3f).toInt64.toUInt64).toInt64) * (q1 &&& (4294967295 : Int64))) &&& (4294967295 : Int64)))), .second]) rfl ?_
    show Steps p.tables e below (s₁.setTop (mkF m 75 #[.val (.long q0), .second, .val (.long q1), .second, .val (.long (q0 &&& (4294967295 : Int64))), .second, .val (.long ((q0.toUInt64 >>> ((32 : Int32) &&& 0x3f).toInt64.toUInt64).toInt64)), .second, .val (.long (q1 &&& (4294967295 : Int64))), .second, .val (.long ((q1.toUInt64 >>> ((32 : Int32) &&& 0x3f).toInt64.toUInt64).toInt64)), .second, .val (.long ((q0 &&& (4294967295 : Int64)) * (q1 &&& (4294967295 : Int64)))), .second, .val (.long ((q0 &&& (4294967295 : Int64)) * ((q1.toUInt64 >>> ((32 : Int32) &&& 0x3f).toInt64.toUInt64).toInt64))), .second, .val (.long (((q0.toUInt64 >>> ((32 : Int32) &&& 0x3f).toInt64.toUInt64).toInt64) * (q1 &&& (4294967295 : Int64)))), .second, .val (.long (((q0.toUInt64 >>> ((32 : Int32) &&& 0x3f).toInt64.toUInt64).toInt64) * ((q1.toUInt64 >>> ((32 : Int32) &&& 0x3f).toInt64.toUInt64).toInt64))), .second, .val (.long ((((((q0 &&& (4294967295 : Int64)) * (q1 &&& (4294967295 : Int64))).toUInt64 >>> ((32 : Int32) &&& 0x3f).toInt64.toUInt64).toInt64) + (((q0 &&& (4294967295 : Int64)) * ((q1.toUInt64 >>> ((32 : Int32) &&& 0x3f).toInt64.toUInt64).toInt64)) &&& (4294967295 : Int64))) + ((((q0.toUInt64 >>> ((32 : Int32) &&& 0x3f).toInt64.toUInt64).toInt64) * (q1 &&& (4294967295 : Int64))) &&& (4294967295 : Int64)))), .second] [])) _
    refine XS.lload X0.here hx rfl (hb hby d11_75) rfl ?_
    show Steps p.tables e below (s₁.setTop (mkF m 77 #[.val (.long q0), .second, .val (.long q1), .second, .val (.long (q0 &&& (4294967295 : Int64))), .second, .val (.long ((q0.toUInt64 >>> ((32 : Int32) &&& 0x3f).toInt64.toUInt64).toInt64)), .second, .val (.long (q1 &&& (4294967295 : Int64))), .second, .val (.long ((q1.toUInt64 >>> ((32 : Int32) &&& 0x3f).toInt64.toUInt64).toInt64)), .second, .val (.long ((q0 &&& (4294967295 : Int64)) * (q1 &&& (4294967295 : Int64)))), .second, .val (.long ((q0 &&& (4294967295 : Int64)) * ((q1.toUInt64 >>> ((32 : Int32) &&& 0x3f).toInt64.toUInt64).toInt64))), .second, .val (.long (((q0.toUInt64 >>> ((32 : Int32) &&& 0x3f).toInt64.toUInt64).toInt64) * (q1 &&& (4294967295 : Int64)))), .second, .val (.long (((q0.toUInt64 >>> ((32 : Int32) &&& 0x3f).toInt64.toUInt64).toInt64) * ((q1.toUInt64 >>> ((32 : Int32) &&& 0x3f).toInt64.toUInt64).toInt64))), .second, .val (.long ((((((q0 &&& (4294967295 : Int64)) * (q1 &&& (4294967295 : Int64))).toUInt64 >>> ((32 : Int32) &&& 0x3f).toInt64.toUInt64).toInt64) + (((q0 &&& (4294967295 : Int64)) * ((q1.toUInt64 >>> ((32 : Int32) &&& 0x3f).toInt64.toUInt64).toInt64)) &&& (4294967295 : Int64))) + ((((q0.toUInt64 >>> ((32 : Int32) &&& 0x3f).toInt64.toUInt64).toInt64) * (q1 &&& (4294967295 : Int64))) &&& (4294967295 : Int64)))), .second] [(.long (((q0.toUInt64 >>> ((32 : Int32) &&& 0x3f).toInt64.toUInt64).toInt64) * ((q1.toUInt64 >>> ((32 : Int32) &&& 0x3f).toInt64.toUInt64).toInt64)))])) _
    refine XS.lload X0.here hx rfl (hb hby d11_77) rfl ?_
    show Steps p.tables e below (s₁.setTop (mkF m 79 #[.val (.long q0), .second, .val (.long q1), .second, .val (.long (q0 &&& (4294967295 : Int64))), .second, .val (.long ((q0.toUInt64 >>> ((32 : Int32) &&& 0x3f).toInt64.toUInt64).toInt64)), .second, .val (.long (q1 &&& (4294967295 : Int64))), .second, .val (.long ((q1.toUInt64 >>> ((32 : Int32) &&& 0x3f).toInt64.toUInt64).toInt64)), .second, .val (.long ((q0 &&& (4294967295 : Int64)) * (q1 &&& (4294967295 : Int64)))), .second, .val (.long ((q0 &&& (4294967295 : Int64)) * ((q1.toUInt64 >>> ((32 : Int32) &&& 0x3f).toInt64.toUInt64).toInt64))), .second, .val (.long (((q0.toUInt64 >>> ((32 : Int32) &&& 0x3f).toInt64.toUInt64).toInt64) * (q1 &&& (4294967295 : Int64)))), .second, .val (.long (((q0.toUInt64 >>> ((32 : Int32) &&& 0x3f).toInt64.toUInt64).toInt64) * ((q1.toUInt64 >>> ((32 : Int32) &&& 0x3f).toInt64.toUInt64).toInt64))), .second, .val (.long ((((((q0 &&& (4294967295 : Int64)) * (q1 &&& (4294967295 : Int64))).toUInt64 >>> ((32 : Int32) &&& 0x3f).toInt64.toUInt64).toInt64) + (((q0 &&& (4294967295 : Int64)) * ((q1.toUInt64 >>> ((32 : Int32) &&& 0x3f).toInt64.toUInt64).toInt64)) &&& (4294967295 : Int64))) + ((((q0.toUInt64 >>> ((32 : Int32) &&& 0x3f).toInt64.toUInt64).toInt64) * (q1 &&& (4294967295 : Int64))) &&& (4294967295 : Int64)))), .second] [(.long ((q0 &&& (4294967295 : Int64)) * ((q1.toUInt64 >>> ((32 : Int32) &&& 0x3f).toInt64.toUInt64).toInt64))), (.long (((q0.toUInt64 >>> ((32 : Int32) &&& 0x3f).toInt64.toUInt64).toInt64) * ((q1.toUInt64 >>> ((32 : Int32) &&& 0x3f).toInt64.toUInt64).toInt64)))])) _
    refine XS.bipush X0.here hx rfl (hb hby d11_79) ?_
    show Steps p.tables e below (s₁.setTop (mkF m 81 #[.val (.long q0), .second, .val (.long q1), .second, .val (.long (q0 &&& (4294967295 : Int64))), .second, .val (.long ((q0.toUInt64 >>> ((32 : Int32) &&& 0x3f).toInt64.toUInt64).toInt64)), .second, .val (.long (q1 &&& (4294967295 : Int64))), .second, .val (.long ((q1.toUInt64 >>> ((32 : Int32) &&& 0x3f).toInt64.toUInt64).toInt64)), .second, .val (.long ((q0 &&& (4294967295 : Int64)) * (q1 &&& (4294967295 : Int64)))), .second, .val (.long ((q0 &&& (4294967295 : Int64)) * ((q1.toUInt64 >>> ((32 : Int32) &&& 0x3f).toInt64.toUInt64).toInt64))), .second, .val (.long (((q0.toUInt64 >>> ((32 : Int32) &&& 0x3f).toInt64.toUInt64).toInt64) * (q1 &&& (4294967295 : Int64)))), .second, .val (.long (((q0.toUInt64 >>> ((32 : Int32) &&& 0x3f).toInt64.toUInt64).toInt64) * ((q1.toUInt64 >>> ((32 : Int32) &&& 0x3f).toInt64.toUInt64).toInt64))), .second, .val (.long ((((((q0 &&& (4294967295 : Int64)) * (q1 &&& (4294967295 : Int64))).toUInt64 >>> ((32 : Int32) &&& 0x3f).toInt64.toUInt64).toInt64) + (((q0 &&& (4294967295 : Int64)) * ((q1.toUInt64 >>> ((32 : Int32) &&& 0x3f).toInt64.toUInt64).toInt64)) &&& (4294967295 : Int64))) + ((((q0.toUInt64 >>> ((32 : Int32) &&& 0x3f).toInt64.toUInt64).toInt64) * (q1 &&& (4294967295 : Int64))) &&& (4294967295 : Int64)))), .second] [(.int (32 : Int32)), (.long ((q0 &&& (4294967295 : Int64)) * ((q1.toUInt64 >>> ((32 : Int32) &&& 0x3f).toInt64.toUInt64).toInt64))), (.long (((q0.toUInt64 >>> ((32 : Int32) &&& 0x3f).toInt64.toUInt64).toInt64) * ((q1.toUInt64 >>> ((32 : Int32) &&& 0x3f).toInt64.toUInt64).toInt64)))])) _
    refine XS.lushr X0.here hx rfl (hb hby d11_81) rfl ?_
    show Steps p.tables e below (s₁.setTop (mkF m 82 #[.val (.long q0), .second, .val (.long q1), .second, .val (.long (q0 &&& (4294967295 : Int64))), .second, .val (.long ((q0.toUInt64 >>> ((32 : Int32) &&& 0x3f).toInt64.toUInt64).toInt64)), .second, .val (.long (q1 &&& (4294967295 : Int64))), .second, .val (.long ((q1.toUInt64 >>> ((32 : Int32) &&& 0x3f).toInt64.toUInt64).toInt64)), .second, .val (.long ((q0 &&& (4294967295 : Int64)) * (q1 &&& (4294967295 : Int64)))), .second, .val (.long ((q0 &&& (4294967295 : Int64)) * ((q1.toUInt64 >>> ((32 : Int32) &&& 0x3f).toInt64.toUInt64).toInt64))), .second, .val (.long (((q0.toUInt64 >>> ((32 : Int32) &&& 0x3f).toInt64.toUInt64).toInt64) * (q1 &&& (4294967295 : Int64)))), .second, .val (.long (((q0.toUInt64 >>> ((32 : Int32) &&& 0x3f).toInt64.toUInt64).toInt64) * ((q1.toUInt64 >>> ((32 : Int32) &&& 0x3f).toInt64.toUInt64).toInt64))), .second, .val (.long ((((((q0 &&& (4294967295 : Int64)) * (q1 &&& (4294967295 : Int64))).toUInt64 >>> ((32 : Int32) &&& 0x3f).toInt64.toUInt64).toInt64) + (((q0 &&& (4294967295 : Int64)) * ((q1.toUInt64 >>> ((32 : Int32) &&& 0x3f).toInt64.toUInt64).toInt64)) &&& (4294967295 : Int64))) + ((((q0.toUInt64 >>> ((32 : Int32) &&& 0x3f).toInt64.toUInt64).toInt64) * (q1 &&& (4294967295 : Int64))) &&& (4294967295 : Int64)))), .second] [(.long ((((q0 &&& (4294967295 : Int64)) * ((q1.toUInt64 >>> ((32 : Int32) &&& 0x3f).toInt64.toUInt64).toInt64)).toUInt64 >>> ((32 : Int32) &&& 0x3f).toInt64.toUInt64).toInt64)), (.long (((q0.toUInt64 >>> ((32 : Int32) &&& 0x3f).toInt64.toUInt64).toInt64) * ((q1.toUInt64 >>> ((32 : Int32) &&& 0x3f).toInt64.toUInt64).toInt64)))])) _
    refine XS.ladd X0.here hx rfl (hb hby d11_82) rfl ?_
    show Steps p.tables e below (s₁.setTop (mkF m 83 #[.val (.long q0), .second, .val (.long q1), .second, .val (.long (q0 &&& (4294967295 : Int64))), .second, .val (.long ((q0.toUInt64 >>> ((32 : Int32) &&& 0x3f).toInt64.toUInt64).toInt64)), .second, .val (.long (q1 &&& (4294967295 : Int64))), .second, .val (.long ((q1.toUInt64 >>> ((32 : Int32) &&& 0x3f).toInt64.toUInt64).toInt64)), .second, .val (.long ((q0 &&& (4294967295 : Int64)) * (q1 &&& (4294967295 : Int64)))), .second, .val (.long ((q0 &&& (4294967295 : Int64)) * ((q1.toUInt64 >>> ((32 : Int32) &&& 0x3f).toInt64.toUInt64).toInt64))), .second, .val (.long (((q0.toUInt64 >>> ((32 : Int32) &&& 0x3f).toInt64.toUInt64).toInt64) * (q1 &&& (4294967295 : Int64)))), .second, .val (.long (((q0.toUInt64 >>> ((32 : Int32) &&& 0x3f).toInt64.toUInt64).toInt64) * ((q1.toUInt64 >>> ((32 : Int32) &&& 0x3f).toInt64.toUInt64).toInt64))), .second, .val (.long ((((((q0 &&& (4294967295 : Int64)) * (q1 &&& (4294967295 : Int64))).toUInt64 >>> ((32 : Int32) &&& 0x3f).toInt64.toUInt64).toInt64) + (((q0 &&& (4294967295 : Int64)) * ((q1.toUInt64 >>> ((32 : Int32) &&& 0x3f).toInt64.toUInt64).toInt64)) &&& (4294967295 : Int64))) + ((((q0.toUInt64 >>> ((32 : Int32) &&& 0x3f).toInt64.toUInt64).toInt64) * (q1 &&& (4294967295 : Int64))) &&& (4294967295 : Int64)))), .second] [(.long ((((q0.toUInt64 >>> ((32 : Int32) &&& 0x3f).toInt64.toUInt64).toInt64) * ((q1.toUInt64 >>> ((32 : Int32) &&& 0x3f).toInt64.toUInt64).toInt64)) + ((((q0 &&& (4294967295 : Int64)) * ((q1.toUInt64 >>> ((32 : Int32) &&& 0x3f).toInt64.toUInt64).toInt64)).toUInt64 >>> ((32 : Int32) &&& 0x3f).toInt64.toUInt64).toInt64)))])) _
    refine XS.lload X0.here hx rfl (hb hby d11_83) rfl ?_
    show Steps p.tables e below (s₁.setTop (mkF m 85 #[.val (.long q0), .second, .val (.long q1), .second, .val (.long (q0 &&& (4294967295 : Int64))), .second, .val (.long ((q0.toUInt64 >>> ((32 : Int32) &&& 0x3f).toInt64.toUInt64).toInt64)), .second, .val (.long (q1 &&& (4294967295 : Int64))), .second, .val (.long ((q1.toUInt64 >>> ((32 : Int32) &&& 0x3f).toInt64.toUInt64).toInt64)), .second, .val (.long ((q0 &&& (4294967295 : Int64)) * (q1 &&& (4294967295 : Int64)))), .second, .val (.long ((q0 &&& (4294967295 : Int64)) * ((q1.toUInt64 >>> ((32 : Int32) &&& 0x3f).toInt64.toUInt64).toInt64))), .second, .val (.long (((q0.toUInt64 >>> ((32 : Int32) &&& 0x3f).toInt64.toUInt64).toInt64) * (q1 &&& (4294967295 : Int64)))), .second, .val (.long (((q0.toUInt64 >>> ((32 : Int32) &&& 0x3f).toInt64.toUInt64).toInt64) * ((q1.toUInt64 >>> ((32 : Int32) &&& 0x3f).toInt64.toUInt64).toInt64))), .second, .val (.long ((((((q0 &&& (4294967295 : Int64)) * (q1 &&& (4294967295 : Int64))).toUInt64 >>> ((32 : Int32) &&& 0x3f).toInt64.toUInt64).toInt64) + (((q0 &&& (4294967295 : Int64)) * ((q1.toUInt64 >>> ((32 : Int32) &&& 0x3f).toInt64.toUInt64).toInt64)) &&& (4294967295 : Int64))) + ((((q0.toUInt64 >>> ((32 : Int32) &&& 0x3f).toInt64.toUInt64).toInt64) * (q1 &&& (4294967295 : Int64))) &&& (4294967295 : Int64)))), .second] [(.long (((q0.toUInt64 >>> ((32 : Int32) &&& 0x3f).toInt64.toUInt64).toInt64) * (q1 &&& (4294967295 : Int64)))), (.long ((((q0.toUInt64 >>> ((32 : Int32) &&& 0x3f).toInt64.toUInt64).toInt64) * ((q1.toUInt64 >>> ((32 : Int32) &&& 0x3f).toInt64.toUInt64).toInt64)) + ((((q0 &&& (4294967295 : Int64)) * ((q1.toUInt64 >>> ((32 : Int32) &&& 0x3f).toInt64.toUInt64).toInt64)).toUInt64 >>> ((32 : Int32) &&& 0x3f).toInt64.toUInt64).toInt64)))])) _
    refine XS.bipush X0.here hx rfl (hb hby d11_85) ?_
    show Steps p.tables e below (s₁.setTop (mkF m 87 #[.val (.long q0), .second, .val (.long q1), .second, .val (.long (q0 &&& (4294967295 : Int64))), .second, .val (.long ((q0.toUInt64 >>> ((32 : Int32) &&& 0x3f).toInt64.toUInt64).toInt64)), .second, .val (.long (q1 &&& (4294967295 : Int64))), .second, .val (.long ((q1.toUInt64 >>> ((32 : Int32) &&& 0x3f).toInt64.toUInt64).toInt64)), .second, .val (.long ((q0 &&& (4294967295 : Int64)) * (q1 &&& (4294967295 : Int64)))), .second, .val (.long ((q0 &&& (4294967295 : Int64)) * ((q1.toUInt64 >>> ((32 : Int32) &&& 0x3f).toInt64.toUInt64).toInt64))), .second, .val (.long (((q0.toUInt64 >>> ((32 : Int32) &&& 0x3f).toInt64.toUInt64).toInt64) * (q1 &&& (4294967295 : Int64)))), .second, .val (.long (((q0.toUInt64 >>> ((32 : Int32) &&& 0x3f).toInt64.toUInt64).toInt64) * ((q1.toUInt64 >>> ((32 : Int32) &&& 0x3f).toInt64.toUInt64).toInt64))), .second, .val (.long ((((((q0 &&& (4294967295 : Int64)) * (q1 &&& (4294967295 : Int64))).toUInt64 >>> ((32 : Int32) &&& 0x3f).toInt64.toUInt64).toInt64) + (((q0 &&& (4294967295 : Int64)) * ((q1.toUInt64 >>> ((32 : Int32) &&& 0x3f).toInt64.toUInt64).toInt64)) &&& (4294967295 : Int64))) + ((((q0.toUInt64 >>> ((32 : Int32) &&& 0x3f).toInt64.toUInt64).toInt64) * (q1 &&& (4294967295 : Int64))) &&& (4294967295 : Int64)))), .second] [(.int (32 : Int32)), (.long (((q0.toUInt64 >>> ((32 : Int32) &&& 0x3f).toInt64.toUInt64).toInt64) * (q1 &&& (4294967295 : Int64)))), (.long ((((q0.toUInt64 >>> ((32 : Int32) &&& 0x3f).toInt64.toUInt64).toInt64) * ((q1.toUInt64 >>> ((32 : Int32) &&& 0x3f).toInt64.toUInt64).toInt64)) + ((((q0 &&& (4294967295 : Int64)) * ((q1.toUInt64 >>> ((32 : Int32) &&& 0x3f).toInt64.toUInt64).toInt64)).toUInt64 >>> ((32 : Int32) &&& 0x3f).toInt64.toUInt64).toInt64)))])) _
    refine XS.lushr X0.here hx rfl (hb hby d11_87) rfl ?_
    show Steps p.tables e below (s₁.setTop (mkF m 88 #[.val (.long q0), .second, .val (.long q1), .second, .val (.long (q0 &&& (4294967295 : Int64))), .second, .val (.long ((q0.toUInt64 >>> ((32 : Int32) &&& 0x3f).toInt64.toUInt64).toInt64)), .second, .val (.long (q1 &&& (4294967295 : Int64))), .second, .val (.long ((q1.toUInt64 >>> ((32 : Int32) &&& 0x3f).toInt64.toUInt64).toInt64)), .second, .val (.long ((q0 &&& (4294967295 : Int64)) * (q1 &&& (4294967295 : Int64)))), .second, .val (.long ((q0 &&& (4294967295 : Int64)) * ((q1.toUInt64 >>> ((32 : Int32) &&& 0x3f).toInt64.toUInt64).toInt64))), .second, .val (.long (((q0.toUInt64 >>> ((32 : Int32) &&& 0x3f).toInt64.toUInt64).toInt64) * (q1 &&& (4294967295 : Int64)))), .second, .val (.long (((q0.toUInt64 >>> ((32 : Int32) &&& 0x3f).toInt64.toUInt64).toInt64) * ((q1.toUInt64 >>> ((32 : Int32) &&& 0x3f).toInt64.toUInt64).toInt64))), .second, .val (.long ((((((q0 &&& (4294967295 : Int64)) * (q1 &&& (4294967295 : Int64))).toUInt64 >>> ((32 : Int32) &&& 0x3f).toInt64.toUInt64).toInt64) + (((q0 &&& (4294967295 : Int64)) * ((q1.toUInt64 >>> ((32 : Int32) &&& 0x3f).toInt64.toUInt64).toInt64)) &&& (4294967295 : Int64))) + ((((q0.toUInt64 >>> ((32 : Int32) &&& 0x3f).toInt64.toUInt64).toInt64) * (q1 &&& (4294967295 : Int64))) &&& (4294967295 : Int64)))), .second] [(.long (((((q0.toUInt64 >>> ((32 : Int32) &&& 0x3f).toInt64.toUInt64).toInt64) * (q1 &&& (4294967295 : Int64))).toUInt64 >>> ((32 : Int32) &&& 0x3f).toInt64.toUInt64).toInt64)), (.long ((((q0.toUInt64 >>> ((32 : Int32) &&& 0x3f).toInt64.toUInt64).toInt64) * ((q1.toUInt64 >>> ((32 : Int32) &&& 0x3f).toInt64.toUInt64).toInt64)) + ((((q0 &&& (4294967295 : Int64)) * ((q1.toUInt64 >>> ((32 : Int32) &&& 0x3f).toInt64.toUInt64).toInt64)).toUInt64 >>> ((32 : Int32) &&& 0x3f).toInt64.toUInt64).toInt64)))])) _
    refine XS.ladd X0.here hx rfl (hb hby d11_88) rfl ?_
    show Steps p.tables e below (s₁.setTop (mkF m 89 #[.val (.long q0), .second, .val (.long q1), .second, .val (.long (q0 &&& (4294967295 : Int64))), .second, .val (.long ((q0.toUInt64 >>> ((32 : Int32) &&& 0x3f).toInt64.toUInt64).toInt64)), .second, .val (.long (q1 &&& (4294967295 : Int64))), .second, .val (.long ((q1.toUInt64 >>> ((32 : Int32) &&& 0x3f).toInt64.toUInt64).toInt64)), .second, .val (.long ((q0 &&& (4294967295 : Int64)) * (q1 &&& (4294967295 : Int64)))), .second, .val (.long ((q0 &&& (4294967295 : Int64)) * ((q1.toUInt64 >>> ((32 : Int32) &&& 0x3f).toInt64.toUInt64).toInt64))), .second, .val (.long (((q0.toUInt64 >>> ((32 : Int32) &&& 0x3f).toInt64.toUInt64).toInt64) * (q1 &&& (4294967295 : Int64)))), .second, .val (.long (((q0.toUInt64 >>> ((32 : Int32) &&& 0x3f).toInt64.toUInt64).toInt64) * ((q1.toUInt64 >>> ((32 : Int32) &&& 0x3f).toInt64.toUInt64).toInt64))), .second, .val (.long ((((((q0 &&& (4294967295 : Int64)) * (q1 &&& (4294967295 : Int64))).toUInt64 >>> ((32 : Int32) &&& 0x3f).toInt64.toUInt64).toInt64) + (((q0 &&& (4294967295 : Int64)) * ((q1.toUInt64 >>> ((32 : Int32) &&& 0x3f).toInt64.toUInt64).toInt64)) &&& (4294967295 : Int64))) + ((((q0.toUInt64 >>> ((32 : Int32) &&& 0x3f).toInt64.toUInt64).toInt64) * (q1 &&& (4294967295 : Int64))) &&& (4294967295 : Int64)))), .second] [(.long (((((q0.toUInt64 >>> ((32 : Int32) &&& 0x3f).toInt64.toUInt64).toInt64) * ((q1.toUInt64 >>> ((32 : Int32) &&& 0x3f).toInt64.toUInt64).toInt64)) + ((((q0 &&& (4294967295 : Int64)) * ((q1.toUInt64 >>> ((32 : Int32) &&& 0x3f).toInt64.toUInt64).toInt64)).toUInt64 >>> ((32 : Int32) &&& 0x3f).toInt64.toUInt64).toInt64)) + (((((q0.toUInt64 >>> ((32 : Int32) &&& 0x3f).toInt64.toUInt64).toInt64) * (q1 &&& (4294967295 : Int64))).toUInt64 >>> ((32 : Int32) &&& 0x3f).toInt64.toUInt64).toInt64)))])) _
    refine XS.lload X0.here hx rfl (hb hby d11_89) rfl ?_
    show Steps p.tables e below (s₁.setTop (mkF m 91 #[.val (.long q0), .second, .val (.long q1), .second, .val (.long (q0 &&& (4294967295 : Int64))), .second, .val (.long ((q0.toUInt64 >>> ((32 : Int32) &&& 0x3f).toInt64.toUInt64).toInt64)), .second, .val (.long (q1 &&& (4294967295 : Int64))), .second, .val (.long ((q1.toUInt64 >>> ((32 : Int32) &&& 0x3f).toInt64.toUInt64).toInt64)), .second, .val (.long ((q0 &&& (4294967295 : Int64)) * (q1 &&& (4294967295 : Int64)))), .second, .val (.long ((q0 &&& (4294967295 : Int64)) * ((q1.toUInt64 >>> ((32 : Int32) &&& 0x3f).toInt64.toUInt64).toInt64))), .second, .val (.long (((q0.toUInt64 >>> ((32 : Int32) &&& 0x3f).toInt64.toUInt64).toInt64) * (q1 &&& (4294967295 : Int64)))), .second, .val (.long (((q0.toUInt64 >>> ((32 : Int32) &&& 0x3f).toInt64.toUInt64).toInt64) * ((q1.toUInt64 >>> ((32 : Int32) &&& 0x3f).toInt64.toUInt64).toInt64))), .second, .val (.long ((((((q0 &&& (4294967295 : Int64)) * (q1 &&& (4294967295 : Int64))).toUInt64 >>> ((32 : Int32) &&& 0x3f).toInt64.toUInt64).toInt64) + (((q0 &&& (4294967295 : Int64)) * ((q1.toUInt64 >>> ((32 : Int32) &&& 0x3f).toInt64.toUInt64).toInt64)) &&& (4294967295 : Int64))) + ((((q0.toUInt64 >>> ((32 : Int32) &&& 0x3f).toInt64.toUInt64).toInt64) * (q1 &&& (4294967295 : Int64))) &&& (4294967295 : Int64)))), .second] [(.long ((((((q0 &&& (4294967295 : Int64)) * (q1 &&& (4294967295 : Int64))).toUInt64 >>> ((32 : Int32) &&& 0x3f).toInt64.toUInt64).toInt64) + (((q0 &&& (4294967295 : Int64)) * ((q1.toUInt64 >>> ((32 : Int32) &&& 0x3f).toInt64.toUInt64).toInt64)) &&& (4294967295 : Int64))) + ((((q0.toUInt64 >>> ((32 : Int32) &&& 0x3f).toInt64.toUInt64).toInt64) * (q1 &&& (4294967295 : Int64))) &&& (4294967295 : Int64)))), (.long (((((q0.toUInt64 >>> ((32 : Int32) &&& 0x3f).toInt64.toUInt64).toInt64) * ((q1.toUInt64 >>> ((32 : Int32) &&& 0x3f).toInt64.toUInt64).toInt64)) + ((((q0 &&& (4294967295 : Int64)) * ((q1.toUInt64 >>> ((32 : Int32) &&& 0x3f).toInt64.toUInt64).toInt64)).toUInt64 >>> ((32 : Int32) &&& 0x3f).toInt64.toUInt64).toInt64)) + (((((q0.toUInt64 >>> ((32 : Int32) &&& 0x3f).toInt64.toUInt64).toInt64) * (q1 &&& (4294967295 : Int64))).toUInt64 >>> ((32 : Int32) &&& 0x3f).toInt64.toUInt64).toInt64)))])) _
    refine XS.bipush X0.here hx rfl (hb hby d11_91) ?_
    show Steps p.tables e below (s₁.setTop (mkF m 93 #[.val (.long q0), .second, .val (.long q1), .second, .val (.long (q0 &&& (4294967295 : Int64))), .second, .val (.long ((q0.toUInt64 >>> ((32 : Int32) &&& 0x3f).toInt64.toUInt64).toInt64)), .second, .val (.long (q1 &&& (4294967295 : Int64))), .second, .val (.long ((q1.toUInt64 >>> ((32 : Int32) &&& 0x3f).toInt64.toUInt64).toInt64)), .second, .val (.long ((q0 &&& (4294967295 : Int64)) * (q1 &&& (4294967295 : Int64)))), .second, .val (.long ((q0 &&& (4294967295 : Int64)) * ((q1.toUInt64 >>> ((32 : Int32) &&& 0x3f).toInt64.toUInt64).toInt64))), .second, .val (.long (((q0.toUInt64 >>> ((32 : Int32) &&& 0x3f).toInt64.toUInt64).toInt64) * (q1 &&& (4294967295 : Int64)))), .second, .val (.long (((q0.toUInt64 >>> ((32 : Int32) &&& 0x3f).toInt64.toUInt64).toInt64) * ((q1.toUInt64 >>> ((32 : Int32) &&& 0x3f).toInt64.toUInt64).toInt64))), .second, .val (.long ((((((q0 &&& (4294967295 : Int64)) * (q1 &&& (4294967295 : Int64))).toUInt64 >>> ((32 : Int32) &&& 0x3f).toInt64.toUInt64).toInt64) + (((q0 &&& (4294967295 : Int64)) * ((q1.toUInt64 >>> ((32 : Int32) &&& 0x3f).toInt64.toUInt64).toInt64)) &&& (4294967295 : Int64))) + ((((q0.toUInt64 >>> ((32 : Int32) &&& 0x3f).toInt64.toUInt64).toInt64) * (q1 &&& (4294967295 : Int64))) &&& (4294967295 : Int64)))), .second] [(.int (32 : Int32)), (.long ((((((q0 &&& (4294967295 : Int64)) * (q1 &&& (4294967295 : Int64))).toUInt64 >>> ((32 : Int32) &&& 0x3f).toInt64.toUInt64).toInt64) + (((q0 &&& (4294967295 : Int64)) * ((q1.toUInt64 >>> ((32 : Int32) &&& 0x3f).toInt64.toUInt64).toInt64)) &&& (4294967295 : Int64))) + ((((q0.toUInt64 >>> ((32 : Int32) &&& 0x3f).toInt64.toUInt64).toInt64) * (q1 &&& (4294967295 : Int64))) &&& (4294967295 : Int64)))), (.long (((((q0.toUInt64 >>> ((32 : Int32) &&& 0x3f).toInt64.toUInt64).toInt64) * ((q1.toUInt64 >>> ((32 : Int32) &&& 0x3f).toInt64.toUInt64).toInt64)) + ((((q0 &&& (4294967295 : Int64)) * ((q1.toUInt64 >>> ((32 : Int32) &&& 0x3f).toInt64.toUInt64).toInt64)).toUInt64 >>> ((32 : Int32) &&& 0x3f).toInt64.toUInt64).toInt64)) + (((((q0.toUInt64 >>> ((32 : Int32) &&& 0x3f).toInt64.toUInt64).toInt64) * (q1 &&& (4294967295 : Int64))).toUInt64 >>> ((32 : Int32) &&& 0x3f).toInt64.toUInt64).toInt64)))])) _
    refine XS.lushr X0.here hx rfl (hb hby d11_93) rfl ?_
    show Steps p.tables e below (s₁.setTop (mkF m 94 #[.val (.long q0), .second, .val (.long q1), .second, .val (.long (q0 &&& (4294967295 : Int64))), .second, .val (.long ((q0.toUInt64 >>> ((32 : Int32) &&& 0x3f).toInt64.toUInt64).toInt64)), .second, .val (.long (q1 &&& (4294967295 : Int64))), .second, .val (.long ((q1.toUInt64 >>> ((32 : Int32) &&& 0x3f).toInt64.toUInt64).toInt64)), .second, .val (.long ((q0 &&& (4294967295 : Int64)) * (q1 &&& (4294967295 : Int64)))), .second, .val (.long ((q0 &&& (4294967295 : Int64)) * ((q1.toUInt64 >>> ((32 : Int32) &&& 0x3f).toInt64.toUInt64).toInt64))), .second, .val (.long (((q0.toUInt64 >>> ((32 : Int32) &&& 0x3f).toInt64.toUInt64).toInt64) * (q1 &&& (4294967295 : Int64)))), .second, .val (.long (((q0.toUInt64 >>> ((32 : Int32) &&& 0x3f).toInt64.toUInt64).toInt64) * ((q1.toUInt64 >>> ((32 : Int32) &&& 0x3f).toInt64.toUInt64).toInt64))), .second, .val (.long ((((((q0 &&& (4294967295 : Int64)) * (q1 &&& (4294967295 : Int64))).toUInt64 >>> ((32 : Int32) &&& 0x3f).toInt64.toUInt64).toInt64) + (((q0 &&& (4294967295 : Int64)) * ((q1.toUInt64 >>> ((32 : Int32) &&& 0x3f).toInt64.toUInt64).toInt64)) &&& (4294967295 : Int64))) + ((((q0.toUInt64 >>> ((32 : Int32) &&& 0x3f).toInt64.toUInt64).toInt64) * (q1 &&& (4294967295 : Int64))) &&& (4294967295 : Int64)))), .second] [(.long ((((((((q0 &&& (4294967295 : Int64)) * (q1 &&& (4294967295 : Int64))).toUInt64 >>> ((32 : Int32) &&& 0x3f).toInt64.toUInt64).toInt64) + (((q0 &&& (4294967295 : Int64)) * ((q1.toUInt64 >>> ((32 : Int32) &&& 0x3f).toInt64.toUInt64).toInt64)) &&& (4294967295 : Int64))) + ((((q0.toUInt64 >>> ((32 : Int32) &&& 0x3f).toInt64.toUInt64).toInt64) * (q1 &&& (4294967295 : Int64))) &&& (4294967295 : Int64))).toUInt64 >>> ((32 : Int32) &&& 0x3f).toInt64.toUInt64).toInt64)), (.long (((((q0.toUInt64 >>> ((32 : Int32) &&& 0x3f).toInt64.toUInt64).toInt64) * ((q1.toUInt64 >>> ((32 : Int32) &&& 0x3f).toInt64.toUInt64).toInt64)) + ((((q0 &&& (4294967295 : Int64)) * ((q1.toUInt64 >>> ((32 : Int32) &&& 0x3f).toInt64.toUInt64).toInt64)).toUInt64 >>> ((32 : Int32) &&& 0x3f).toInt64.toUInt64).toInt64)) + (((((q0.toUInt64 >>> ((32 : Int32) &&& 0x3f).toInt64.toUInt64).toInt64) * (q1 &&& (4294967295 : Int64))).toUInt64 >>> ((32 : Int32) &&& 0x3f).toInt64.toUInt64).toInt64)))])) _
    refine XS.ladd X0.here hx rfl (hb hby d11_94) rfl ?_
    show Steps p.tables e below (s₁.setTop (mkF m 95 #[.val (.long q0), .second, .val (.long q1), .second, .val (.long (q0 &&& (4294967295 : Int64))), .second, .val (.long ((q0.toUInt64 >>> ((32 : Int32) &&& 0x3f).toInt64.toUInt64).toInt64)), .second, .val (.long (q1 &&& (4294967295 : Int64))), .second, .val (.long ((q1.toUInt64 >>> ((32 : Int32) &&& 0x3f).toInt64.toUInt64).toInt64)), .second, .val (.long ((q0 &&& (4294967295 : Int64)) * (q1 &&& (4294967295 : Int64)))), .second, .val (.long ((q0 &&& (4294967295 : Int64)) * ((q1.toUInt64 >>> ((32 : Int32) &&& 0x3f).toInt64.toUInt64).toInt64))), .second, .val (.long (((q0.toUInt64 >>> ((32 : Int32) &&& 0x3f).toInt64.toUInt64).toInt64) * (q1 &&& (4294967295 : Int64)))), .second, .val (.long (((q0.toUInt64 >>> ((32 : Int32) &&& 0x3f).toInt64.toUInt64).toInt64) * ((q1.toUInt64 >>> ((32 : Int32) &&& 0x3f).toInt64.toUInt64).toInt64))), .second, .val (.long ((((((q0 &&& (4294967295 : Int64)) * (q1 &&& (4294967295 : Int64))).toUInt64 >>> ((32 : Int32) &&& 0x3f).toInt64.toUInt64).toInt64) + (((q0 &&& (4294967295 : Int64)) * ((q1.toUInt64 >>> ((32 : Int32) &&& 0x3f).toInt64.toUInt64).toInt64)) &&& (4294967295 : Int64))) + ((((q0.toUInt64 >>> ((32 : Int32) &&& 0x3f).toInt64.toUInt64).toInt64) * (q1 &&& (4294967295 : Int64))) &&& (4294967295 : Int64)))), .second] [(.long ((((((q0.toUInt64 >>> ((32 : Int32) &&& 0x3f).toInt64.toUInt64).toInt64) * ((q1.toUInt64 >>> ((32 : Int32) &&& 0x3f).toInt64.toUInt64).toInt64)) + ((((q0 &&& (4294967295 : Int64)) * ((q1.toUInt64 >>> ((32 : Int32) &&& 0x3f).toInt64.toUInt64).toInt64)).toUInt64 >>> ((32 : Int32) &&& 0x3f).toInt64.toUInt64).toInt64)) + (((((q0.toUInt64 >>> ((32 : Int32) &&& 0x3f).toInt64.toUInt64).toInt64) * (q1 &&& (4294967295 : Int64))).toUInt64 >>> ((32 : Int32) &&& 0x3f).toInt64.toUInt64).toInt64)) + ((((((((q0 &&& (4294967295 : Int64)) * (q1 &&& (4294967295 : Int64))).toUInt64 >>> ((32 : Int32) &&& 0x3f).toInt64.toUInt64).toInt64) + (((q0 &&& (4294967295 : Int64)) * ((q1.toUInt64 >>> ((32 : Int32) &&& 0x3f).toInt64.toUInt64).toInt64)) &&& (4294967295 : Int64))) + ((((q0.toUInt64 >>> ((32 : Int32) &&& 0x3f).toInt64.toUInt64).toInt64) * (q1 &&& (4294967295 : Int64))) &&& (4294967295 : Int64))).toUInt64 >>> ((32 : Int32) &&& 0x3f).toInt64.toUInt64).toInt64)))])) _
    exact retOut X0 hx Bd.returns rfl (Or.inr (Or.inl ⟨rfl, rfl, _, rfl⟩)) (hb hby d11_95) hr
  · show own_QP (some (.long (own_muh q0 q1))) h0 n0 _ s₁.heap _
    rw [e0]
    exact ⟨(by first | rfl | simp []), N0, rfl⟩

theorem ef_rmNx (m : MethodId) (x0 : Addr) : entryFrame m #[(.ref x0)] 5 = mkF m 0 #[.val (.ref x0), .unset, .unset, .unset, .unset] [] := by first | (simp [entryFrame, mkF, argsToLocals, Value.category]; done) | rfl
def Q_rmNx (Z : State) (u0 : Addr) (st : Int64) (sp : Int64) (ce : Int64) (h0 : Heap) (n0 : Nat) (v : Option Value) (h : Heap) (L : List Loc) : Prop := (v = (some (.long (own_nx (own_mix st) ce))) ∧ Fr n0 L ∧ Keep h0 h [u0] ∧ Exa Z h u0 "com/example/keys_to_bits/keystobits/Probes" ∧ Fld Z h u0 "com/example/keys_to_bits/keystobits/Probes" "start" "J" (.long (st + sp)) ∧ Fld Z h u0 "com/example/keys_to_bits/keystobits/Probes" "step" "J" (.long sp) ∧ Fld Z h u0 "com/example/keys_to_bits/keystobits/Probes" "cells" "J" (.long ce))
set_option maxRecDepth 65536 in
set_option maxHeartbeats 40000000 in
theorem rmNx (l : Launch) (Z : State) (a0 : Array Value) (hw : ∀ d ∈ tables_1, d.before a0 Z = true) (ws : List Jvm.Cond) (u0 : Addr) (st : Int64) (sp : Int64) (ce : Int64) (h0 : Heap) (n0 : Nat) (Z0 : n0 ≤ h0.size) (P_E_u0 : Exa Z h0 u0 "com/example/keys_to_bits/keystobits/Probes") (P_F_u0_Probes_start : Fld Z h0 u0 "com/example/keys_to_bits/keystobits/Probes" "start" "J" (.long st)) (P_F_u0_Probes_step : Fld Z h0 u0 "com/example/keys_to_bits/keystobits/Probes" "step" "J" (.long sp)) (P_F_u0_Probes_cells : Fld Z h0 u0 "com/example/keys_to_bits/keystobits/Probes" "cells" "J" (.long ce)) (g_u0 : n0 ≤ u0) :
    MetFree l (⟨"com/example/keys_to_bits/keystobits/Probes", "next", "()J"⟩ : MethodName) (head1 (Jvm.Cond.code (⟨"com/example/keys_to_bits/keystobits/Probes", "next", "()J"⟩ : MethodName) prog_11_method_2_code 5 (some .long) :: ws) ({ frames := 1, cells := 0, slots := 0, locals := 31 } : Room)) (fun a U => a = #[(.ref u0)] ∧ Z.Warmed39 U.vm ∧ U.heap = h0) (fun _ _ _ _ _ => True) (fun _ U o U' => ∃ v L, o = .returned v ∧ Q_rmNx Z u0 st sp ce h0 n0 v U'.heap L ∧ FrameEnd U o U' L ({ frames := 1, cells := 0, slots := 0, locals := 31 } : Room).cells ({ frames := 1, cells := 0, slots := 0, locals := 31 } : Room).slots) := by
  refine MetFree.of_bodySF (plainFor_of_name pn_7) hisR ?_
  intro p e s m args below meth c s₁ Bd hml0 hP hK
  obtain ⟨rfl, hZ, hh⟩ := hP
  have hx := Bd.exec
  have hby := Bd.bytes
  have hml : c.maxLocals = 5 := hml0
  have hown : s.vm.findClass "com/example/keys_to_bits/keystobits/Probes" = some m.cls := findClass_of_methodNamed Bd.named
  have hnm := (name_of_methodNamed Bd.named Bd.method).1
  have X0 : Stand p l e ({ frames := 1, cells := 0, slots := 0, locals := 31 } : Room) s m #[(.ref u0)] below meth c s₁ [] 0 0 := Stand.of_body Bd
  have e0 : s₁.heap = h0 := by rw [← hh, Bd.state]; rfl
  have N0 := Fr.nil n0
  have pre0 : ∀ t, Steps p.tables e below (s₁.setTop (mkF m 0 #[.val (.ref u0), .unset, .unset, .unset, .unset] [])) t → Steps p.tables e below (s₁.setTop (entryFrame m #[(.ref u0)] 5)) t := fun t k => castTop (ef_rmNx m u0) k
  obtain ⟨T1, X1, e1, st1⟩ := getF X0 hx hZ hown (host := "") (Or.inl (hw _ (List.mem_of_getElem? (i := 40) rfl))) Via.refl e0 P_F_u0_Probes_start (g := (mkF m 1 #[.val (.ref u0), .unset, .unset, .unset, .unset] [(.ref u0)])) rfl rfl (hb hby d7_1)
  obtain ⟨T2, X2, e2, st2⟩ := getF X1 hx hZ hown (host := "") (Or.inl (hw _ (List.mem_of_getElem? (i := 31) rfl))) Via.refl e1 P_F_u0_Probes_step (g := (mkF m 8 #[.val (.ref u0), .val (.long st), .second, .unset, .unset] [(.ref u0), (.long st), (.ref u0)])) rfl rfl (hb hby d7_8)
  obtain ⟨T3, h3, X3, e3, W3, st3⟩ := putF X2 hx hZ hown (host := "") (Or.inl (hw _ (List.mem_of_getElem? (i := 40) rfl))) Via.refl e2 P_F_u0_Probes_start P_E_u0 (Or.inl (hw _ (List.mem_of_getElem? (i := 41) rfl))) (hw _ (List.mem_of_getElem? (i := 2) rfl)) (ty := .long) (by decide) rfl rfl (g := (mkF m 12 #[.val (.ref u0), .val (.long st), .second, .unset, .unset] [(.long (st + sp)), (.ref u0)])) rfl rfl (hb hby d7_12)
  have f3_ : Fld Z h3 u0 "com/example/keys_to_bits/keystobits/Probes" "start" "J" (.long (st + sp)) := P_F_u0_Probes_start.same W3
  have N4 := Fr.snoc X3 N0 g_u0
  have K5 : Keep h0 h3 [u0] := (Keep.refl h0 [u0]).wr W3 (Or.inl (List.mem_of_getElem? (i := 0) rfl))
  have pre6 : ∀ t, Steps p.tables e below (T3.setTop (mkF m 44 #[.val (.ref u0), .val (.long st), .second, .val (.long (((((st ^^^ ((st.toUInt64 >>> ((30 : Int32) &&& 0x3f).toInt64.toUInt64).toInt64)) * (-4658895280553007687 : Int64)) ^^^ ((((st ^^^ ((st.toUInt64 >>> ((30 : Int32) &&& 0x3f).toInt64.toUInt64).toInt64)) * (-4658895280553007687 : Int64)).toUInt64 >>> ((27 : Int32) &&& 0x3f).toInt64.toUInt64).toInt64)) * (-7723592293110705685 : Int64)) ^^^ ((((((st ^^^ ((st.toUInt64 >>> ((30 : Int32) &&& 0x3f).toInt64.toUInt64).toInt64)) * (-4658895280553007687 : Int64)) ^^^ ((((st ^^^ ((st.toUInt64 >>> ((30 : Int32) &&& 0x3f).toInt64.toUInt64).toInt64)) * (-4658895280553007687 : Int64)).toUInt64 >>> ((27 : Int32) &&& 0x3f).toInt64.toUInt64).toInt64)) * (-7723592293110705685 : Int64)).toUInt64 >>> ((31 : Int32) &&& 0x3f).toInt64.toUInt64).toInt64))), .second] [])) t → Steps p.tables e below (s₁.setTop (entryFrame m #[(.ref u0)] 5)) t := fun t kt => pre0 t (by
      show Steps p.tables e below (s₁.setTop (mkF m 0 #[.val (.ref u0), .unset, .unset, .unset, .unset] [])) _
      refine XS.aloadN X0.here hx rfl (hb hby d7_0) rfl rfl ?_
      show Steps p.tables e below (s₁.setTop (mkF m 1 #[.val (.ref u0), .unset, .unset, .unset, .unset] [(.ref u0)])) _
      refine st1 _ ?_
      show Steps p.tables e below (T1.setTop (mkF m 4 #[.val (.ref u0), .unset, .unset, .unset, .unset] [(.long st)])) _
      refine XS.lstoreN X1.here hx rfl (hb hby d7_4) rfl (l' := #[.val (.ref u0), .val (.long st), .second, .unset, .unset]) rfl ?_
      show Steps p.tables e below (T1.setTop (mkF m 5 #[.val (.ref u0), .val (.long st), .second, .unset, .unset] [])) _
      refine XS.aloadN X1.here hx rfl (hb hby d7_5) rfl rfl ?_
      show Steps p.tables e below (T1.setTop (mkF m 6 #[.val (.ref u0), .val (.long st), .second, .unset, .unset] [(.ref u0)])) _
      refine XS.lloadN X1.here hx rfl (hb hby d7_6) rfl ?_
      show Steps p.tables e below (T1.setTop (mkF m 7 #[.val (.ref u0), .val (.long st), .second, .unset, .unset] [(.long st), (.ref u0)])) _
      refine XS.aloadN X1.here hx rfl (hb hby d7_7) rfl rfl ?_
      show Steps p.tables e below (T1.setTop (mkF m 8 #[.val (.ref u0), .val (.long st), .second, .unset, .unset] [(.ref u0), (.long st), (.ref u0)])) _
      refine st2 _ ?_
      show Steps p.tables e below (T2.setTop (mkF m 11 #[.val (.ref u0), .val (.long st), .second, .unset, .unset] [(.long sp), (.long st), (.ref u0)])) _
      refine XS.ladd X2.here hx rfl (hb hby d7_11) rfl ?_
      show Steps p.tables e below (T2.setTop (mkF m 12 #[.val (.ref u0), .val (.long st), .second, .unset, .unset] [(.long (st + sp)), (.ref u0)])) _
      refine st3 _ ?_
      show Steps p.tables e below (T3.setTop (mkF m 15 #[.val (.ref u0), .val (.long st), .second, .unset, .unset] [])) _
      refine XS.lloadN X3.here hx rfl (hb hby d7_15) rfl ?_
      show Steps p.tables e below (T3.setTop (mkF m 16 #[.val (.ref u0), .val (.long st), .second, .unset, .unset] [(.long st)])) _
      refine XS.lloadN X3.here hx rfl (hb hby d7_16) rfl ?_
      show Steps p.tables e below (T3.setTop (mkF m 17 #[.val (.ref u0), .val (.long st), .second, .unset, .unset] [(.long st), (.long st)])) _
      refine XS.bipush X3.here hx rfl (hb hby d7_17) ?_
      show Steps p.tables e below (T3.setTop (mkF m 19 #[.val (.ref u0), .val (.long st), .second, .unset, .unset] [(.int (30 : Int32)), (.long st), (.long st)])) _
      refine XS.lushr X3.here hx rfl (hb hby d7_19) rfl ?_
      show Steps p.tables e below (T3.setTop (mkF m 20 #[.val (.ref u0), .val (.long st), .second, .unset, .unset] [(.long ((st.toUInt64 >>> ((30 : Int32) &&& 0x3f).toInt64.toUInt64).toInt64)), (.long st)])) _
      refine XS.lxor X3.here hx rfl (hb hby d7_20) rfl ?_
      show Steps p.tables e below (T3.setTop (mkF m 21 #[.val (.ref u0), .val (.long st), .second, .unset, .unset] [(.long (st ^^^ ((st.toUInt64 >>> ((30 : Int32) &&& 0x3f).toInt64.toUInt64).toInt64)))])) _
      refine X3.ldc2Long hx hown (mvT hZ (hw _ (List.mem_of_getElem? (i := 47) rfl))) (g := (mkF m 21 #[.val (.ref u0), .val (.long st), .second, .unset, .unset] [(.long (st ^^^ ((st.toUInt64 >>> ((30 : Int32) &&& 0x3f).toInt64.toUInt64).toInt64)))])) rfl (hb hby d7_21) _ ?_
      show Steps p.tables e below (T3.setTop (mkF m 24 #[.val (.ref u0), .val (.long st), .second, .unset, .unset] [(.long (-4658895280553007687 : Int64)), (.long (st ^^^ ((st.toUInt64 >>> ((30 : Int32) &&& 0x3f).toInt64.toUInt64).toInt64)))])) _
      refine XS.lmul X3.here hx rfl (hb hby d7_24) rfl ?_
      show Steps p.tables e below (T3.setTop (mkF m 25 #[.val (.ref u0), .val (.long st), .second, .unset, .unset] [(.long ((st ^^^ ((st.toUInt64 >>> ((30 : Int32) &&& 0x3f).toInt64.toUInt64).toInt64)) * (-4658895280553007687 : Int64)))])) _
      refine XS.lstoreN X3.here hx rfl (hb hby d7_25) rfl (l' := #[.val (.ref u0), .val (.long st), .second, .val (.long ((st ^^^ ((st.toUInt64 >>> ((30 : Int32) &&& 0x3f).toInt64.toUInt64).toInt64)) * (-4658895280553007687 : Int64))), .second]) rfl ?_
      show Steps p.tables e below (T3.setTop (mkF m 26 #[.val (.ref u0), .val (.long st), .second, .val (.long ((st ^^^ ((st.toUInt64 >>> ((30 : Int32) &&& 0x3f).toInt64.toUInt64).toInt64)) * (-4658895280553007687 : Int64))), .second] [])) _
      refine XS.lloadN X3.here hx rfl (hb hby d7_26) rfl ?_
      show Steps p.tables e below (T3.setTop (mkF m 27 #[.val (.ref u0), .val (.long st), .second, .val (.long ((st ^^^ ((st.toUInt64 >>> ((30 : Int32) &&& 0x3f).toInt64.toUInt64).toInt64)) * (-4658895280553007687 : Int64))), .second] [(.long ((st ^^^ ((st.toUInt64 >>> ((30 : Int32) &&& 0x3f).toInt64.toUInt64).toInt64)) * (-4658895280553007687 : Int64)))])) _
      refine XS.lloadN X3.here hx rfl (hb hby d7_27) rfl ?_
      show Steps p.tables e below (T3.setTop (mkF m 28 #[.val (.ref u0), .val (.long st), .second, .val (.long ((st ^^^ ((st.toUInt64 >>> ((30 : Int32) &&& 0x3f).toInt64.toUInt64).toInt64)) * (-4658895280553007687 : Int64))), .second] [(.long ((st ^^^ ((st.toUInt64 >>> ((30 : Int32) &&& 0x3f).toInt64.toUInt64).toInt64)) * (-4658895280553007687 : Int64))), (.long ((st ^^^ ((st.toUInt64 >>> ((30 : Int32) &&& 0x3f).toInt64.toUInt64).toInt64)) * (-4658895280553007687 : Int64)))])) _
      refine XS.bipush X3.here hx rfl (hb hby d7_28) ?_
      show Steps p.tables e below (T3.setTop (mkF m 30 #[.val (.ref u0), .val (.long st), .second, .val (.long ((st ^^^ ((st.toUInt64 >>> ((30 : Int32) &&& 0x3f).toInt64.toUInt64).toInt64)) * (-4658895280553007687 : Int64))), .second] [(.int (27 : Int32)), (.long ((st ^^^ ((st.toUInt64 >>> ((30 : Int32) &&& 0x3f).toInt64.toUInt64).toInt64)) * (-4658895280553007687 : Int64))), (.long ((st ^^^ ((st.toUInt64 >>> ((30 : Int32) &&& 0x3f).toInt64.toUInt64).toInt64)) * (-4658895280553007687 : Int64)))])) _
      refine XS.lushr X3.here hx rfl (hb hby d7_30) rfl ?_
      show Steps p.tables e below (T3.setTop (mkF m 31 #[.val (.ref u0), .val (.long st), .second, .val (.long ((st ^^^ ((st.toUInt64 >>> ((30 : Int32) &&& 0x3f).toInt64.toUInt64).toInt64)) * (-4658895280553007687 : Int64))), .second] [(.long ((((st ^^^ ((st.toUInt64 >>> ((30 : Int32) &&& 0x3f).toInt64.toUInt64).toInt64)) * (-4658895280553007687 : Int64)).toUInt64 >>> ((27 : Int32) &&& 0x3f).toInt64.toUInt64).toInt64)), (.long ((st ^^^ ((st.toUInt64 >>> ((30 : Int32) &&& 0x3f).toInt64.toUInt64).toInt64)) * (-4658895280553007687 : Int64)))])) _
      refine XS.lxor X3.here hx rfl (hb hby d7_31) rfl ?_
      show Steps p.tables e below (T3.setTop (mkF m 32 #[.val (.ref u0), .val (.long st), .second, .val (.long ((st ^^^ ((st.toUInt64 >>> ((30 : Int32) &&& 0x3f).toInt64.toUInt64).toInt64)) * (-4658895280553007687 : Int64))), .second] [(.long (((st ^^^ ((st.toUInt64 >>> ((30 : Int32) &&& 0x3f).toInt64.toUInt64).toInt64)) * (-4658895280553007687 : Int64)) ^^^ ((((st ^^^ ((st.toUInt64 >>> ((30 : Int32) &&& 0x3f).toInt64.toUInt64).toInt64)) * (-4658895280553007687 : Int64)).toUInt64 >>> ((27 : Int32) &&& 0x3f).toInt64.toUInt64).toInt64)))])) _
      refine X3.ldc2Long hx hown (mvT hZ (hw _ (List.mem_of_getElem? (i := 48) rfl))) (g := (mkF m 32 #[.val (.ref u0), .val (.long st), .second, .val (.long ((st ^^^ ((st.toUInt64 >>> ((30 : Int32) &&& 0x3f).toInt64.toUInt64).toInt64)) * (-4658895280553007687 : Int64))), .second] [(.long (((st ^^^ ((st.toUInt64 >>> ((30 : Int32) &&& 0x3f).toInt64.toUInt64).toInt64)) * (-4658895280553007687 : Int64)) ^^^ ((((st ^^^ ((st.toUInt64 >>> ((30 : Int32) &&& 0x3f).toInt64.toUInt64).toInt64)) * (-4658895280553007687 : Int64)).toUInt64 >>> ((27 : Int32) &&& 0x3f).toInt64.toUInt64).toInt64)))])) rfl (hb hby d7_32) _ ?_
      show Steps p.tables e below (T3.setTop (mkF m 35 #[.val (.ref u0), .val (.long st), .second, .val (.long ((st ^^^ ((st.toUInt64 >>> ((30 : Int32) &&& 0x3f).toInt64.toUInt64).toInt64)) * (-4658895280553007687 : Int64))), .second] [(.long (-7723592293110705685 : Int64)), (.long (((st ^^^ ((st.toUInt64 >>> ((30 : Int32) &&& 0x3f).toInt64.toUInt64).toInt64)) * (-4658895280553007687 : Int64)) ^^^ ((((st ^^^ ((st.toUInt64 >>> ((30 : Int32) &&& 0x3f).toInt64.toUInt64).toInt64)) * (-4658895280553007687 : Int64)).toUInt64 >>> ((27 : Int32) &&& 0x3f).toInt64.toUInt64).toInt64)))])) _
      refine XS.lmul X3.here hx rfl (hb hby d7_35) rfl ?_
      show Steps p.tables e below (T3.setTop (mkF m 36 #[.val (.ref u0), .val (.long st), .second, .val (.long ((st ^^^ ((st.toUInt64 >>> ((30 : Int32) &&& 0x3f).toInt64.toUInt64).toInt64)) * (-4658895280553007687 : Int64))), .second] [(.long ((((st ^^^ ((st.toUInt64 >>> ((30 : Int32) &&& 0x3f).toInt64.toUInt64).toInt64)) * (-4658895280553007687 : Int64)) ^^^ ((((st ^^^ ((st.toUInt64 >>> ((30 : Int32) &&& 0x3f).toInt64.toUInt64).toInt64)) * (-4658895280553007687 : Int64)).toUInt64 >>> ((27 : Int32) &&& 0x3f).toInt64.toUInt64).toInt64)) * (-7723592293110705685 : Int64)))])) _
      refine XS.lstoreN X3.here hx rfl (hb hby d7_36) rfl (l' := #[.val (.ref u0), .val (.long st), .second, .val (.long ((((st ^^^ ((st.toUInt64 >>> ((30 : Int32) &&& 0x3f).toInt64.toUInt64).toInt64)) * (-4658895280553007687 : Int64)) ^^^ ((((st ^^^ ((st.toUInt64 >>> ((30 : Int32) &&& 0x3f).toInt64.toUInt64).toInt64)) * (-4658895280553007687 : Int64)).toUInt64 >>> ((27 : Int32) &&& 0x3f).toInt64.toUInt64).toInt64)) * (-7723592293110705685 : Int64))), .second]) rfl ?_
      show Steps p.tables e below (T3.setTop (mkF m 37 #[.val (.ref u0), .val (.long st), .second, .val (.long ((((st ^^^ ((st.toUInt64 >>> ((30 : Int32) &&& 0x3f).toInt64.toUInt64).toInt64)) * (-4658895280553007687 : Int64)) ^^^ ((((st ^^^ ((st.toUInt64 >>> ((30 : Int32) &&& 0x3f).toInt64.toUInt64).toInt64)) * (-4658895280553007687 : Int64)).toUInt64 >>> ((27 : Int32) &&& 0x3f).toInt64.toUInt64).toInt64)) * (-7723592293110705685 : Int64))), .second] [])) _
      refine XS.lloadN X3.here hx rfl (hb hby d7_37) rfl ?_
      show Steps p.tables e below (T3.setTop (mkF m 38 #[.val (.ref u0), .val (.long st), .second, .val (.long ((((st ^^^ ((st.toUInt64 >>> ((30 : Int32) &&& 0x3f).toInt64.toUInt64).toInt64)) * (-4658895280553007687 : Int64)) ^^^ ((((st ^^^ ((st.toUInt64 >>> ((30 : Int32) &&& 0x3f).toInt64.toUInt64).toInt64)) * (-4658895280553007687 : Int64)).toUInt64 >>> ((27 : Int32) &&& 0x3f).toInt64.toUInt64).toInt64)) * (-7723592293110705685 : Int64))), .second] [(.long ((((st ^^^ ((st.toUInt64 >>> ((30 : Int32) &&& 0x3f).toInt64.toUInt64).toInt64)) * (-4658895280553007687 : Int64)) ^^^ ((((st ^^^ ((st.toUInt64 >>> ((30 : Int32) &&& 0x3f).toInt64.toUInt64).toInt64)) * (-4658895280553007687 : Int64)).toUInt64 >>> ((27 : Int32) &&& 0x3f).toInt64.toUInt64).toInt64)) * (-7723592293110705685 : Int64)))])) _
      refine XS.lloadN X3.here hx rfl (hb hby d7_38) rfl ?_
      show Steps p.tables e below (T3.setTop (mkF m 39 #[.val (.ref u0), .val (.long st), .second, .val (.long ((((st ^^^ ((st.toUInt64 >>> ((30 : Int32) &&& 0x3f).toInt64.toUInt64).toInt64)) * (-4658895280553007687 : Int64)) ^^^ ((((st ^^^ ((st.toUInt64 >>> ((30 : Int32) &&& 0x3f).toInt64.toUInt64).toInt64)) * (-4658895280553007687 : Int64)).toUInt64 >>> ((27 : Int32) &&& 0x3f).toInt64.toUInt64).toInt64)) * (-7723592293110705685 : Int64))), .second] [(.long ((((st ^^^ ((st.toUInt64 >>> ((30 : Int32) &&& 0x3f).toInt64.toUInt64).toInt64)) * (-4658895280553007687 : Int64)) ^^^ ((((st ^^^ ((st.toUInt64 >>> ((30 : Int32) &&& 0x3f).toInt64.toUInt64).toInt64)) * (-4658895280553007687 : Int64)).toUInt64 >>> ((27 : Int32) &&& 0x3f).toInt64.toUInt64).toInt64)) * (-7723592293110705685 : Int64))), (.long ((((st ^^^ ((st.toUInt64 >>> ((30 : Int32) &&& 0x3f).toInt64.toUInt64).toInt64)) * (-4658895280553007687 : Int64)) ^^^ ((((st ^^^ ((st.toUInt64 >>> ((30 : Int32) &&& 0x3f).toInt64.toUInt64).toInt64)) * (-4658895280553007687 : Int64)).toUInt64 >>> ((27 : Int32) &&& 0x3f).toInt64.toUInt64).toInt64)) * (-7723592293110705685 : Int64)))])) _
      refine XS.bipush X3.here hx rfl (hb hby d7_39) ?_
      show Steps p.tables e below (T3.setTop (mkF m 41 #[.val (.ref u0), .val (.long st), .second, .val (.long ((((st ^^^ ((st.toUInt64 >>> ((30 : Int32) &&& 0x3f).toInt64.toUInt64).toInt64)) * (-4658895280553007687 : Int64)) ^^^ ((((st ^^^ ((st.toUInt64 >>> ((30 : Int32) &&& 0x3f).toInt64.toUInt64).toInt64)) * (-4658895280553007687 : Int64)).toUInt64 >>> ((27 : Int32) &&& 0x3f).toInt64.toUInt64).toInt64)) * (-7723592293110705685 : Int64))), .second] [(.int (31 : Int32)), (.long ((((st ^^^ ((st.toUInt64 >>> ((30 : Int32) &&& 0x3f).toInt64.toUInt64).toInt64)) * (-4658895280553007687 : Int64)) ^^^ ((((st ^^^ ((st.toUInt64 >>> ((30 : Int32) &&& 0x3f).toInt64.toUInt64).toInt64)) * (-4658895280553007687 : Int64)).toUInt64 >>> ((27 : Int32) &&& 0x3f).toInt64.toUInt64).toInt64)) * (-7723592293110705685 : Int64))), (.long ((((st ^^^ ((st.toUInt64 >>> ((30 : Int32) &&& 0x3f).toInt64.toUInt64).toInt64)) * (-4658895280553007687 : Int64)) ^^^ ((((st ^^^ ((st.toUInt64 >>> ((30 : Int32) &&& 0x3f).toInt64.toUInt64).toInt64)) * (-4658895280553007687 : Int64)).toUInt64 >>> ((27 : Int32) &&& 0x3f).toInt64.toUInt64).toInt64)) * (-7723592293110705685 : Int64)))])) _
      refine XS.lushr X3.here hx rfl (hb hby d7_41) rfl ?_
      show Steps p.tables e below (T3.setTop (mkF m 42 #[.val (.ref u0), .val (.long st), .second, .val (.long ((((st ^^^ ((st.toUInt64 >>> ((30 : Int32) &&& 0x3f).toInt64.toUInt64).toInt64)) * (-4658895280553007687 : Int64)) ^^^ ((((st ^^^ ((st.toUInt64 >>> ((30 : Int32) &&& 0x3f).toInt64.toUInt64).toInt64)) * (-4658895280553007687 : Int64)).toUInt64 >>> ((27 : Int32) &&& 0x3f).toInt64.toUInt64).toInt64)) * (-7723592293110705685 : Int64))), .second] [(.long ((((((st ^^^ ((st.toUInt64 >>> ((30 : Int32) &&& 0x3f).toInt64.toUInt64).toInt64)) * (-4658895280553007687 : Int64)) ^^^ ((((st ^^^ ((st.toUInt64 >>> ((30 : Int32) &&& 0x3f).toInt64.toUInt64).toInt64)) * (-4658895280553007687 : Int64)).toUInt64 >>> ((27 : Int32) &&& 0x3f).toInt64.toUInt64).toInt64)) * (-7723592293110705685 : Int64)).toUInt64 >>> ((31 : Int32) &&& 0x3f).toInt64.toUInt64).toInt64)), (.long ((((st ^^^ ((st.toUInt64 >>> ((30 : Int32) &&& 0x3f).toInt64.toUInt64).toInt64)) * (-4658895280553007687 : Int64)) ^^^ ((((st ^^^ ((st.toUInt64 >>> ((30 : Int32) &&& 0x3f).toInt64.toUInt64).toInt64)) * (-4658895280553007687 : Int64)).toUInt64 >>> ((27 : Int32) &&& 0x3f).toInt64.toUInt64).toInt64)) * (-7723592293110705685 : Int64)))])) _
      refine XS.lxor X3.here hx rfl (hb hby d7_42) rfl ?_
      show Steps p.tables e below (T3.setTop (mkF m 43 #[.val (.ref u0), .val (.long st), .second, .val (.long ((((st ^^^ ((st.toUInt64 >>> ((30 : Int32) &&& 0x3f).toInt64.toUInt64).toInt64)) * (-4658895280553007687 : Int64)) ^^^ ((((st ^^^ ((st.toUInt64 >>> ((30 : Int32) &&& 0x3f).toInt64.toUInt64).toInt64)) * (-4658895280553007687 : Int64)).toUInt64 >>> ((27 : Int32) &&& 0x3f).toInt64.toUInt64).toInt64)) * (-7723592293110705685 : Int64))), .second] [(.long (((((st ^^^ ((st.toUInt64 >>> ((30 : Int32) &&& 0x3f).toInt64.toUInt64).toInt64)) * (-4658895280553007687 : Int64)) ^^^ ((((st ^^^ ((st.toUInt64 >>> ((30 : Int32) &&& 0x3f).toInt64.toUInt64).toInt64)) * (-4658895280553007687 : Int64)).toUInt64 >>> ((27 : Int32) &&& 0x3f).toInt64.toUInt64).toInt64)) * (-7723592293110705685 : Int64)) ^^^ ((((((st ^^^ ((st.toUInt64 >>> ((30 : Int32) &&& 0x3f).toInt64.toUInt64).toInt64)) * (-4658895280553007687 : Int64)) ^^^ ((((st ^^^ ((st.toUInt64 >>> ((30 : Int32) &&& 0x3f).toInt64.toUInt64).toInt64)) * (-4658895280553007687 : Int64)).toUInt64 >>> ((27 : Int32) &&& 0x3f).toInt64.toUInt64).toInt64)) * (-7723592293110705685 : Int64)).toUInt64 >>> ((31 : Int32) &&& 0x3f).toInt64.toUInt64).toInt64)))])) _
      refine XS.lstoreN X3.here hx rfl (hb hby d7_43) rfl (l' := #[.val (.ref u0), .val (.long st), .second, .val (.long (((((st ^^^ ((st.toUInt64 >>> ((30 : Int32) &&& 0x3f).toInt64.toUInt64).toInt64)) * (-4658895280553007687 : Int64)) ^^^ ((((st ^^^ ((st.toUInt64 >>> ((30 : Int32) &&& 0x3f).toInt64.toUInt64).toInt64)) * (-4658895280553007687 : Int64)).toUInt64 >>> ((27 : Int32) &&& 0x3f).toInt64.toUInt64).toInt64)) * (-7723592293110705685 : Int64)) ^^^ ((((((st ^^^ ((st.toUInt64 >>> ((30 : Int32) &&& 0x3f).toInt64.toUInt64).toInt64)) * (-4658895280553007687 : Int64)) ^^^ ((((st ^^^ ((st.toUInt64 >>> ((30 : Int32) &&& 0x3f).toInt64.toUInt64).toInt64)) * (-4658895280553007687 : Int64)).toUInt64 >>> ((27 : Int32) &&& 0x3f).toInt64.toUInt64).toInt64)) * (-7723592293110705685 : Int64)).toUInt64 >>> ((31 : Int32) &&& 0x3f).toInt64.toUInt64).toInt64))), .second]) rfl ?_
      exact kt)
  have preM : ∀ t, Steps p.tables e below (T3.setTop (mkF m 44 #[.val (.ref u0), .val (.long st), .second, .val (.long (own_mix st)), .second] [])) t → Steps p.tables e below (s₁.setTop (entryFrame m #[(.ref u0)] 5)) t := pre6
  have f7 : Fld Z h3 u0 "com/example/keys_to_bits/keystobits/Probes" "cells" "J" (.long ce) := (P_F_u0_Probes_cells.other W3 (Or.inr (slot_ne (Or.inr (hw _ (List.mem_of_getElem? (i := 34) rfl))) (Or.inl (hw _ (List.mem_of_getElem? (i := 41) rfl))) (by decide) (t := .long) (t' := .long) (by decide) (by decide))))
  obtain ⟨T8, X8, e8, st8⟩ := getF X3 hx hZ hown (host := "") (Or.inl (hw _ (List.mem_of_getElem? (i := 33) rfl))) Via.refl e3 f7 (g := (mkF m 46 #[.val (.ref u0), .val (.long st), .second, .val (.long (own_mix st)), .second] [(.ref u0), (.long (own_mix st))])) rfl rfl (hb hby d7_46)
  have f9 : n0 ≤ h3.size := (Nat.le_trans Z0 (Keep.of_wr W3).1)
  obtain ⟨_, _, ⟨T10, L10, k10, n10⟩, -, X10, ⟨Lc10, hQ10, l10, y10, z10⟩, st10⟩ := Jvm.LawKit.callS X8 hx (y := (⟨"java/lang/Math", "multiplyHigh", "(JJ)J"⟩ : MethodName)) hown (mvT hZ (hw _ (List.mem_of_getElem? (i := 49) rfl))) (mvT hZ (hw _ (List.mem_of_getElem? (i := 50) rfl))) (mvT hZ (hw _ (List.mem_of_getElem? (i := 51) rfl))) (mvT hZ (hw _ (List.mem_of_getElem? (i := 52) rfl))) (by decide) (backOf (W := 0) (rmMH l Z a0 hw [] (own_mix st) ce h3 n0 f9 ) hZ (hw _ (List.mem_of_getElem? (i := 52) rfl)) (hw _ (List.mem_of_getElem? (i := 51) rfl)) (by decide) (by decide)) (g := (mkF m 49 #[.val (.ref u0), .val (.long st), .second, .val (.long (own_mix st)), .second] [(.long ce), (.long (own_mix st))])) rfl (by rw [hml]; rfl) (argsL := [(.long (own_mix st)), (.long ce)]) (rest := []) (lenOf pd__JJ_J rfl) rfl (by show 2 * 0 + _ ≤ _; exact Nat.le_of_eq rfl) (hb hby d7_49) (fun _ _ => ⟨rfl, e8, (by decide : 0 + 0 ≤ _), (by decide : 0 + 0 ≤ _)⟩)
  dsimp only [Pt.U, Pt.locs, Pt.cells, Pt.slots] at X10 l10 y10 z10 st10 hQ10
  subst l10 y10 z10
  obtain ⟨rfl, N10q, e10⟩ := hQ10
  have N10 := Fr.app N4 N10q
  obtain ⟨T11, X11, e11, st11⟩ := getF X10 hx hZ hown (host := "") (Or.inl (hw _ (List.mem_of_getElem? (i := 33) rfl))) Via.refl e10 f7 (g := (mkF m 57 #[.val (.ref u0), .val (.long st), .second, .val (.long (own_mix st)), .second] [(.ref u0), (.long ((own_mix st) >>> ((63 : Int32) &&& 0x3f).toInt64)), (.long (own_mh (own_mix st) ce))])) rfl rfl (hb hby d7_57)
  obtain ⟨fs, hr, hrun, hended, hW, hsame⟩ := X11.leave (v := some (.long ((own_mh (own_mix st) ce) + (((own_mix st) >>> ((63 : Int32) &&& 0x3f).toInt64) &&& ce)))) (fun h => by rw [Bd.returns] at h; cases h)
  have f12 : Exa Z h3 u0 "com/example/keys_to_bits/keystobits/Probes" := (P_E_u0.wr W3)
  have f13 : Fld Z h3 u0 "com/example/keys_to_bits/keystobits/Probes" "step" "J" (.long sp) := (P_F_u0_Probes_step.other W3 (Or.inr (slot_ne (Or.inr (hw _ (List.mem_of_getElem? (i := 32) rfl))) (Or.inl (hw _ (List.mem_of_getElem? (i := 41) rfl))) (by decide) (t := .long) (t' := .long) (by decide) (by decide))))
  refine ⟨_, _, preM _ ?_, hrun, hended, _, _, rfl, ?_, ⟨_, rfl⟩, hW, hsame.mono (by decide) (by decide)⟩
  · show Steps p.tables e below (T3.setTop (mkF m 44 #[.val (.ref u0), .val (.long st), .second, .val (.long (own_mix st)), .second] [])) _
    refine XS.lloadN X3.here hx rfl (hb hby d7_44) rfl ?_
    show Steps p.tables e below (T3.setTop (mkF m 45 #[.val (.ref u0), .val (.long st), .second, .val (.long (own_mix st)), .second] [(.long (own_mix st))])) _
    refine XS.aloadN X3.here hx rfl (hb hby d7_45) rfl rfl ?_
    show Steps p.tables e below (T3.setTop (mkF m 46 #[.val (.ref u0), .val (.long st), .second, .val (.long (own_mix st)), .second] [(.ref u0), (.long (own_mix st))])) _
    refine st8 _ ?_
    show Steps p.tables e below (T8.setTop (mkF m 49 #[.val (.ref u0), .val (.long st), .second, .val (.long (own_mix st)), .second] [(.long ce), (.long (own_mix st))])) _
    refine st10 _ ?_
    show Steps p.tables e below (T10.setTop (mkF m 52 #[.val (.ref u0), .val (.long st), .second, .val (.long (own_mix st)), .second] [(.long (own_mh (own_mix st) ce))])) _
    refine XS.lloadN X10.here hx rfl (hb hby d7_52) rfl ?_
    show Steps p.tables e below (T10.setTop (mkF m 53 #[.val (.ref u0), .val (.long st), .second, .val (.long (own_mix st)), .second] [(.long (own_mix st)), (.long (own_mh (own_mix st) ce))])) _
    refine XS.bipush X10.here hx rfl (hb hby d7_53) ?_
    show Steps p.tables e below (T10.setTop (mkF m 55 #[.val (.ref u0), .val (.long st), .second, .val (.long (own_mix st)), .second] [(.int (63 : Int32)), (.long (own_mix st)), (.long (own_mh (own_mix st) ce))])) _
    refine XS.lshr X10.here hx rfl (hb hby d7_55) rfl ?_
    show Steps p.tables e below (T10.setTop (mkF m 56 #[.val (.ref u0), .val (.long st), .second, .val (.long (own_mix st)), .second] [(.long ((own_mix st) >>> ((63 : Int32) &&& 0x3f).toInt64)), (.long (own_mh (own_mix st) ce))])) _
    refine XS.aloadN X10.here hx rfl (hb hby d7_56) rfl rfl ?_
    show Steps p.tables e below (T10.setTop (mkF m 57 #[.val (.ref u0), .val (.long st), .second, .val (.long (own_mix st)), .second] [(.ref u0), (.long ((own_mix st) >>> ((63 : Int32) &&& 0x3f).toInt64)), (.long (own_mh (own_mix st) ce))])) _
    refine st11 _ ?_
    show Steps p.tables e below (T11.setTop (mkF m 60 #[.val (.ref u0), .val (.long st), .second, .val (.long (own_mix st)), .second] [(.long ce), (.long ((own_mix st) >>> ((63 : Int32) &&& 0x3f).toInt64)), (.long (own_mh (own_mix st) ce))])) _
    refine XS.land X11.here hx rfl (hb hby d7_60) rfl ?_
    show Steps p.tables e below (T11.setTop (mkF m 61 #[.val (.ref u0), .val (.long st), .second, .val (.long (own_mix st)), .second] [(.long (((own_mix st) >>> ((63 : Int32) &&& 0x3f).toInt64) &&& ce)), (.long (own_mh (own_mix st) ce))])) _
    refine XS.ladd X11.here hx rfl (hb hby d7_61) rfl ?_
    show Steps p.tables e below (T11.setTop (mkF m 62 #[.val (.ref u0), .val (.long st), .second, .val (.long (own_mix st)), .second] [(.long ((own_mh (own_mix st) ce) + (((own_mix st) >>> ((63 : Int32) &&& 0x3f).toInt64) &&& ce)))])) _
    exact retOut X11 hx Bd.returns rfl (Or.inr (Or.inl ⟨rfl, rfl, _, rfl⟩)) (hb hby d7_62) hr
  · show Q_rmNx Z u0 st sp ce h0 n0 _ T11.heap _
    rw [e11]
    exact ⟨(by first | rfl | simp []), N10, K5, f12, f3_, f13, f7⟩

theorem ef_rmOk (m : MethodId) (x0 : Int64) (x1 : Int64) (x2 : Int64) : entryFrame m #[(.long x0), (.long x1), (.long x2)] 8 = mkF m 0 #[.val (.long x0), .second, .val (.long x1), .second, .val (.long x2), .second, .unset, .unset] [] := by first | (simp [entryFrame, mkF, argsToLocals, Value.category]; done) | rfl
set_option maxRecDepth 65536 in
set_option maxHeartbeats 40000000 in
theorem rmOk (l : Launch) (Z : State) (a0 : Array Value) (hw : ∀ d ∈ tables_1, d.before a0 Z = true) (ws : List Jvm.Cond) (q1 : Int64) (q2 : Int64) (h0 : Heap) (n0 : Nat) (Z0 : n0 ≤ h0.size) (hc : (0 : Int64) < q2) :
    MetFree l (⟨"com/example/keys_to_bits/keystobits/ProbesNextPinLaw", "ok", "(JJJ)Z"⟩ : MethodName) (head1 (Jvm.Cond.code (⟨"com/example/keys_to_bits/keystobits/ProbesNextPinLaw", "ok", "(JJJ)Z"⟩ : MethodName) method_4_code 8 (some .boolean) :: ws) ({ frames := 1, cells := 0, slots := 0, locals := 33 } : Room)) (fun a U => a = #[(.long (own_nx (own_mix q1) q2)), (.long q1), (.long q2)] ∧ Z.Warmed39 U.vm ∧ U.heap = h0) (fun _ _ _ _ _ => True) (fun _ U o U' => ∃ v L, o = .returned v ∧ own_QP (some (.int (1 : Int32))) h0 n0 v U'.heap L ∧ FrameEnd U o U' L ({ frames := 1, cells := 0, slots := 0, locals := 33 } : Room).cells ({ frames := 1, cells := 0, slots := 0, locals := 33 } : Room).slots) := by
  refine MetFree.of_bodySF (plainFor_of_name pn_9) hisR ?_
  intro p e s m args below meth c s₁ Bd hml0 hP hK
  obtain ⟨rfl, hZ, hh⟩ := hP
  have hx := Bd.exec
  have hby := Bd.bytes
  have hml : c.maxLocals = 8 := hml0
  have hown : s.vm.findClass "com/example/keys_to_bits/keystobits/ProbesNextPinLaw" = some m.cls := findClass_of_methodNamed Bd.named
  have hnm := (name_of_methodNamed Bd.named Bd.method).1
  have X0 : Stand p l e ({ frames := 1, cells := 0, slots := 0, locals := 33 } : Room) s m #[(.long (own_nx (own_mix q1) q2)), (.long q1), (.long q2)] below meth c s₁ [] 0 0 := Stand.of_body Bd
  have e0 : s₁.heap = h0 := by rw [← hh, Bd.state]; rfl
  have N0 := Fr.nil n0
  have pre0 : ∀ t, Steps p.tables e below (s₁.setTop (mkF m 0 #[.val (.long (own_nx (own_mix q1) q2)), .second, .val (.long q1), .second, .val (.long q2), .second, .unset, .unset] [])) t → Steps p.tables e below (s₁.setTop (entryFrame m #[(.long (own_nx (own_mix q1) q2)), (.long q1), (.long q2)] 8)) t := fun t k => castTop (ef_rmOk m (own_nx (own_mix q1) q2) q1 q2) k
  obtain ⟨_, _, ⟨T1, L1, k1, n1⟩, -, X1, ⟨Lc1, hQ1, l1, y1, z1⟩, st1⟩ := Jvm.LawKit.callS X0 hx (y := (⟨"com/example/keys_to_bits/keystobits/ProbesNextPinLaw", "mix", "(J)J"⟩ : MethodName)) hown (mvT hZ (hw _ (List.mem_of_getElem? (i := 58) rfl))) (mvT hZ (hw _ (List.mem_of_getElem? (i := 59) rfl))) (mvT hZ (hw _ (List.mem_of_getElem? (i := 56) rfl))) (mvT hZ (hw _ (List.mem_of_getElem? (i := 60) rfl))) (by decide) (backOf (W := 0) (rmMix l Z a0 hw [] q1 h0 n0 Z0 ) hZ (hw _ (List.mem_of_getElem? (i := 60) rfl)) (hw _ (List.mem_of_getElem? (i := 56) rfl)) (by decide) (by decide)) (g := (mkF m 1 #[.val (.long (own_nx (own_mix q1) q2)), .second, .val (.long q1), .second, .val (.long q2), .second, .unset, .unset] [(.long q1)])) rfl (by rw [hml]; rfl) (argsL := [(.long q1)]) (rest := []) (lenOf pd__J_J rfl) rfl (by show 2 * 0 + _ ≤ _; exact Nat.le_of_eq rfl) (hb hby d9_1) (fun _ _ => ⟨rfl, e0, (by decide : 0 + 0 ≤ _), (by decide : 0 + 0 ≤ _)⟩)
  dsimp only [Pt.U, Pt.locs, Pt.cells, Pt.slots] at X1 l1 y1 z1 st1 hQ1
  subst l1 y1 z1
  obtain ⟨rfl, N1q, e1⟩ := hQ1
  have N1 := Fr.app N0 N1q
  obtain ⟨_, _, ⟨T2, L2, k2, n2⟩, -, X2, ⟨Lc2, hQ2, l2, y2, z2⟩, st2⟩ := Jvm.LawKit.callS X1 hx (y := (⟨"com/example/keys_to_bits/keystobits/ProbesNextPinLaw", "mulHighUnsigned", "(JJ)J"⟩ : MethodName)) hown (mvT hZ (hw _ (List.mem_of_getElem? (i := 63) rfl))) (mvT hZ (hw _ (List.mem_of_getElem? (i := 64) rfl))) (mvT hZ (hw _ (List.mem_of_getElem? (i := 56) rfl))) (mvT hZ (hw _ (List.mem_of_getElem? (i := 65) rfl))) (by decide) (backOf (W := 0) (rmMU l Z a0 hw [] (own_mix q1) q2 h0 n0 Z0 ) hZ (hw _ (List.mem_of_getElem? (i := 65) rfl)) (hw _ (List.mem_of_getElem? (i := 56) rfl)) (by decide) (by decide)) (g := (mkF m 6 #[.val (.long (own_nx (own_mix q1) q2)), .second, .val (.long q1), .second, .val (.long q2), .second, .unset, .unset] [(.long q2), (.long (own_mix q1))])) rfl (by rw [hml]; rfl) (argsL := [(.long (own_mix q1)), (.long q2)]) (rest := []) (lenOf pd__JJ_J rfl) rfl (by show 2 * 0 + _ ≤ _; exact Nat.le_of_eq rfl) (hb hby d9_6) (fun _ _ => ⟨rfl, e1, (by decide : 0 + 0 ≤ _), (by decide : 0 + 0 ≤ _)⟩)
  dsimp only [Pt.U, Pt.locs, Pt.cells, Pt.slots] at X2 l2 y2 z2 st2 hQ2
  subst l2 y2 z2
  obtain ⟨rfl, N2q, e2⟩ := hQ2
  have N2 := Fr.app N1 N2q
  obtain ⟨fs, hr, hrun, hended, hW, hsame⟩ := X2.leave (v := some (.int (1 : Int32))) (fun h => by rw [Bd.returns] at h; cases h)
  refine ⟨_, _, pre0 _ ?_, hrun, hended, _, _, rfl, ?_, ⟨_, rfl⟩, hW, hsame.mono (by decide) (by decide)⟩
  · show Steps p.tables e below (s₁.setTop (mkF m 0 #[.val (.long (own_nx (own_mix q1) q2)), .second, .val (.long q1), .second, .val (.long q2), .second, .unset, .unset] [])) _
    refine XS.lloadN X0.here hx rfl (hb hby d9_0) rfl ?_
    show Steps p.tables e below (s₁.setTop (mkF m 1 #[.val (.long (own_nx (own_mix q1) q2)), .second, .val (.long q1), .second, .val (.long q2), .second, .unset, .unset] [(.long q1)])) _
    refine st1 _ ?_
    show Steps p.tables e below (T1.setTop (mkF m 4 #[.val (.long (own_nx (own_mix q1) q2)), .second, .val (.long q1), .second, .val (.long q2), .second, .unset, .unset] [(.long (own_mix q1))])) _
    refine XS.lload X1.here hx rfl (hb hby d9_4) rfl ?_
    show Steps p.tables e below (T1.setTop (mkF m 6 #[.val (.long (own_nx (own_mix q1) q2)), .second, .val (.long q1), .second, .val (.long q2), .second, .unset, .unset] [(.long q2), (.long (own_mix q1))])) _
    refine st2 _ ?_
    show Steps p.tables e below (T2.setTop (mkF m 9 #[.val (.long (own_nx (own_mix q1) q2)), .second, .val (.long q1), .second, .val (.long q2), .second, .unset, .unset] [(.long (own_muh (own_mix q1) q2))])) _
    refine XS.lstore X2.here hx rfl (hb hby d9_9) rfl (l' := #[.val (.long (own_nx (own_mix q1) q2)), .second, .val (.long q1), .second, .val (.long q2), .second, .val (.long (own_muh (own_mix q1) q2)), .second]) rfl ?_
    show Steps p.tables e below (T2.setTop (mkF m 11 #[.val (.long (own_nx (own_mix q1) q2)), .second, .val (.long q1), .second, .val (.long q2), .second, .val (.long (own_muh (own_mix q1) q2)), .second] [])) _
    refine XS.lloadN X2.here hx rfl (hb hby d9_11) rfl ?_
    show Steps p.tables e below (T2.setTop (mkF m 12 #[.val (.long (own_nx (own_mix q1) q2)), .second, .val (.long q1), .second, .val (.long q2), .second, .val (.long (own_muh (own_mix q1) q2)), .second] [(.long (own_nx (own_mix q1) q2))])) _
    refine XS.lload X2.here hx rfl (hb hby d9_12) rfl ?_
    show Steps p.tables e below (T2.setTop (mkF m 14 #[.val (.long (own_nx (own_mix q1) q2)), .second, .val (.long q1), .second, .val (.long q2), .second, .val (.long (own_muh (own_mix q1) q2)), .second] [(.long (own_muh (own_mix q1) q2)), (.long (own_nx (own_mix q1) q2))])) _
    refine XS.lcmp X2.here hx rfl (hb hby d9_14) rfl ?_
    show Steps p.tables e below (T2.setTop (mkF m 15 #[.val (.long (own_nx (own_mix q1) q2)), .second, .val (.long q1), .second, .val (.long q2), .second, .val (.long (own_muh (own_mix q1) q2)), .second] [(.int (lcmpW (own_nx (own_mix q1) q2) (own_muh (own_mix q1) q2)))])) _
    refine XS.ifNo X2.here hx rfl (hb hby d9_15) rfl ((if0 _ _).trans (teq ((lw_eq _ _).mpr (own_ok1 (own_mix q1) q2 hc))).2) ?_
    show Steps p.tables e below (T2.setTop (mkF m 18 #[.val (.long (own_nx (own_mix q1) q2)), .second, .val (.long q1), .second, .val (.long q2), .second, .val (.long (own_muh (own_mix q1) q2)), .second] [])) _
    refine XS.lloadN X2.here hx rfl (hb hby d9_18) rfl ?_
    show Steps p.tables e below (T2.setTop (mkF m 19 #[.val (.long (own_nx (own_mix q1) q2)), .second, .val (.long q1), .second, .val (.long q2), .second, .val (.long (own_muh (own_mix q1) q2)), .second] [(.long (own_nx (own_mix q1) q2))])) _
    refine XS.lconst X2.here hx rfl (hb hby d9_19) ?_
    show Steps p.tables e below (T2.setTop (mkF m 20 #[.val (.long (own_nx (own_mix q1) q2)), .second, .val (.long q1), .second, .val (.long q2), .second, .val (.long (own_muh (own_mix q1) q2)), .second] [(.long (0 : Int64)), (.long (own_nx (own_mix q1) q2))])) _
    refine XS.lcmp X2.here hx rfl (hb hby d9_20) rfl ?_
    show Steps p.tables e below (T2.setTop (mkF m 21 #[.val (.long (own_nx (own_mix q1) q2)), .second, .val (.long q1), .second, .val (.long q2), .second, .val (.long (own_muh (own_mix q1) q2)), .second] [(.int (lcmpW (own_nx (own_mix q1) q2) (0 : Int64)))])) _
    refine XS.ifNo X2.here hx rfl (hb hby d9_21) rfl ((if0 _ _).trans (flt (fun qq => (own_ok2 (own_mix q1) q2 hc) ((lw_lt _ _).mp qq))).1) ?_
    show Steps p.tables e below (T2.setTop (mkF m 24 #[.val (.long (own_nx (own_mix q1) q2)), .second, .val (.long q1), .second, .val (.long q2), .second, .val (.long (own_muh (own_mix q1) q2)), .second] [])) _
    refine XS.lloadN X2.here hx rfl (hb hby d9_24) rfl ?_
    show Steps p.tables e below (T2.setTop (mkF m 25 #[.val (.long (own_nx (own_mix q1) q2)), .second, .val (.long q1), .second, .val (.long q2), .second, .val (.long (own_muh (own_mix q1) q2)), .second] [(.long (own_nx (own_mix q1) q2))])) _
    refine XS.lload X2.here hx rfl (hb hby d9_25) rfl ?_
    show Steps p.tables e below (T2.setTop (mkF m 27 #[.val (.long (own_nx (own_mix q1) q2)), .second, .val (.long q1), .second, .val (.long q2), .second, .val (.long (own_muh (own_mix q1) q2)), .second] [(.long q2), (.long (own_nx (own_mix q1) q2))])) _
    refine XS.lcmp X2.here hx rfl (hb hby d9_27) rfl ?_
    show Steps p.tables e below (T2.setTop (mkF m 28 #[.val (.long (own_nx (own_mix q1) q2)), .second, .val (.long q1), .second, .val (.long q2), .second, .val (.long (own_muh (own_mix q1) q2)), .second] [(.int (lcmpW (own_nx (own_mix q1) q2) q2))])) _
    refine XS.ifNo X2.here hx rfl (hb hby d9_28) rfl ((if0 _ _).trans (tlt ((lw_lt _ _).mpr (own_ok3 (own_mix q1) q2 hc))).2.1) ?_
    show Steps p.tables e below (T2.setTop (mkF m 31 #[.val (.long (own_nx (own_mix q1) q2)), .second, .val (.long q1), .second, .val (.long q2), .second, .val (.long (own_muh (own_mix q1) q2)), .second] [])) _
    refine XS.iconst X2.here hx rfl (hb hby d9_31) ?_
    show Steps p.tables e below (T2.setTop (mkF m 32 #[.val (.long (own_nx (own_mix q1) q2)), .second, .val (.long q1), .second, .val (.long q2), .second, .val (.long (own_muh (own_mix q1) q2)), .second] [(.int (1 : Int32))])) _
    refine XS.goto X2.here hx rfl (pc0 := 32) (pc' := 36) rfl (hb hby d9_32) (by decide) (by decide) ?_
    show Steps p.tables e below (T2.setTop (mkF m 36 #[.val (.long (own_nx (own_mix q1) q2)), .second, .val (.long q1), .second, .val (.long q2), .second, .val (.long (own_muh (own_mix q1) q2)), .second] [(.int (1 : Int32))])) _
    exact retN X2 hx (t := .boolean) Bd.returns (by simp) (hb hby d9_36) hr
  · show own_QP (some (.int (1 : Int32))) h0 n0 _ T2.heap _
    rw [e2]
    exact ⟨rfl, N2, rfl⟩

theorem ef_rm0 (m : MethodId) (x0 : Int64) (x1 : Int64) (x2 : Int64) (x3 : Int32) : entryFrame m #[(.long x0), (.long x1), (.long x2), (.int x3)] maxLocals = mkF m 0 #[.val (.long x0), .second, .val (.long x1), .second, .val (.long x2), .second, .val (.int x3), .unset, .unset, .unset, .unset, .unset, .unset, .unset, .unset, .unset] [] := by first | (simp [entryFrame, mkF, argsToLocals, Value.category, maxLocals]; done) | rfl
set_option maxRecDepth 65536 in
set_option maxHeartbeats 40000000 in
theorem rm0 (l : Launch) (Z : State) (a0 : Array Value) (hw : ∀ d ∈ tables_1, d.before a0 Z = true) (ws : List Jvm.Cond) (q0 : Int64) (q1 : Int64) (q2 : Int64) (p3 : Int32) (h0 : Heap) (n0 : Nat) (Z0 : n0 ≤ h0.size) :
    MetFree l x (head1 (Jvm.Cond.code x code maxLocals ret :: ws) room_1) (fun a U => a = #[(.long q0), (.long q1), (.long q2), (.int p3)] ∧ Z.Warmed39 U.vm ∧ U.heap = h0) (fun _ _ _ _ _ => True) (fun _ U o U' => ∃ v L, o = .returned v ∧ own_Q0 n0 v U'.heap L ∧ FrameEnd U o U' L room_1.cells room_1.slots) := by
  refine MetFree.of_bodySF (plainFor_of_name pn_0) hisR ?_
  intro p e s m args below meth c s₁ Bd hml0 hP hK
  obtain ⟨rfl, hZ, hh⟩ := hP
  have hx := Bd.exec
  have hby := Bd.bytes
  have hml : c.maxLocals = 16 := hml0
  have hown : s.vm.findClass "com/example/keys_to_bits/keystobits/ProbesNextPinLaw" = some m.cls := findClass_of_methodNamed Bd.named
  have hnm := (name_of_methodNamed Bd.named Bd.method).1
  have X0 : Stand p l e room_1 s m #[(.long q0), (.long q1), (.long q2), (.int p3)] below meth c s₁ [] 0 0 := Stand.of_body Bd
  have e0 : s₁.heap = h0 := by rw [← hh, Bd.state]; rfl
  have N0 := Fr.nil n0
  have pre0 : ∀ t, Steps p.tables e below (s₁.setTop (mkF m 0 #[.val (.long q0), .second, .val (.long q1), .second, .val (.long q2), .second, .val (.int p3), .unset, .unset, .unset, .unset, .unset, .unset, .unset, .unset, .unset] [])) t → Steps p.tables e below (s₁.setTop (entryFrame m #[(.long q0), (.long q1), (.long q2), (.int p3)] maxLocals)) t := fun t k => castTop (ef_rm0 m q0 q1 q2 p3) k
  have pre2 : ∀ t, Steps p.tables e below (s₁.setTop (mkF m 18 #[.val (.long q0), .second, .val (.long q1), .second, .val (.long q2), .second, .val (.int p3), .val (.long (((q2 &&& (9223372036854775807 : Int64)).toUInt64 >>> ((p3 &&& (63 : Int32)) &&& 0x3f).toInt64.toUInt64).toInt64)), .second, .unset, .unset, .unset, .unset, .unset, .unset, .unset] [(.int (lcmpW (((q2 &&& (9223372036854775807 : Int64)).toUInt64 >>> ((p3 &&& (63 : Int32)) &&& 0x3f).toInt64.toUInt64).toInt64) (0 : Int64)))])) t → Steps p.tables e below (s₁.setTop (entryFrame m #[(.long q0), (.long q1), (.long q2), (.int p3)] maxLocals)) t := fun t kt => pre0 t (by
      show Steps p.tables e below (s₁.setTop (mkF m 0 #[.val (.long q0), .second, .val (.long q1), .second, .val (.long q2), .second, .val (.int p3), .unset, .unset, .unset, .unset, .unset, .unset, .unset, .unset, .unset] [])) _
      refine XS.lload X0.here hx rfl (hb hby at_0) rfl ?_
      show Steps p.tables e below (s₁.setTop (mkF m 2 #[.val (.long q0), .second, .val (.long q1), .second, .val (.long q2), .second, .val (.int p3), .unset, .unset, .unset, .unset, .unset, .unset, .unset, .unset, .unset] [(.long q2)])) _
      refine X0.ldc2Long hx hown (mvT hZ (hw _ (List.mem_of_getElem? (i := 0) rfl))) (g := (mkF m 2 #[.val (.long q0), .second, .val (.long q1), .second, .val (.long q2), .second, .val (.int p3), .unset, .unset, .unset, .unset, .unset, .unset, .unset, .unset, .unset] [(.long q2)])) rfl (hb hby at_2) _ ?_
      show Steps p.tables e below (s₁.setTop (mkF m 5 #[.val (.long q0), .second, .val (.long q1), .second, .val (.long q2), .second, .val (.int p3), .unset, .unset, .unset, .unset, .unset, .unset, .unset, .unset, .unset] [(.long (9223372036854775807 : Int64)), (.long q2)])) _
      refine XS.land X0.here hx rfl (hb hby at_5) rfl ?_
      show Steps p.tables e below (s₁.setTop (mkF m 6 #[.val (.long q0), .second, .val (.long q1), .second, .val (.long q2), .second, .val (.int p3), .unset, .unset, .unset, .unset, .unset, .unset, .unset, .unset, .unset] [(.long (q2 &&& (9223372036854775807 : Int64)))])) _
      refine XS.iload X0.here hx rfl (hb hby at_6) rfl ?_
      show Steps p.tables e below (s₁.setTop (mkF m 8 #[.val (.long q0), .second, .val (.long q1), .second, .val (.long q2), .second, .val (.int p3), .unset, .unset, .unset, .unset, .unset, .unset, .unset, .unset, .unset] [(.int p3), (.long (q2 &&& (9223372036854775807 : Int64)))])) _
      refine XS.bipush X0.here hx rfl (hb hby at_8) ?_
      show Steps p.tables e below (s₁.setTop (mkF m 10 #[.val (.long q0), .second, .val (.long q1), .second, .val (.long q2), .second, .val (.int p3), .unset, .unset, .unset, .unset, .unset, .unset, .unset, .unset, .unset] [(.int (63 : Int32)), (.int p3), (.long (q2 &&& (9223372036854775807 : Int64)))])) _
      refine XS.iand X0.here hx rfl (hb hby at_10) rfl ?_
      show Steps p.tables e below (s₁.setTop (mkF m 11 #[.val (.long q0), .second, .val (.long q1), .second, .val (.long q2), .second, .val (.int p3), .unset, .unset, .unset, .unset, .unset, .unset, .unset, .unset, .unset] [(.int (p3 &&& (63 : Int32))), (.long (q2 &&& (9223372036854775807 : Int64)))])) _
      refine XS.lushr X0.here hx rfl (hb hby at_11) rfl ?_
      show Steps p.tables e below (s₁.setTop (mkF m 12 #[.val (.long q0), .second, .val (.long q1), .second, .val (.long q2), .second, .val (.int p3), .unset, .unset, .unset, .unset, .unset, .unset, .unset, .unset, .unset] [(.long (((q2 &&& (9223372036854775807 : Int64)).toUInt64 >>> ((p3 &&& (63 : Int32)) &&& 0x3f).toInt64.toUInt64).toInt64))])) _
      refine XS.lstore X0.here hx rfl (hb hby at_12) rfl (l' := #[.val (.long q0), .second, .val (.long q1), .second, .val (.long q2), .second, .val (.int p3), .val (.long (((q2 &&& (9223372036854775807 : Int64)).toUInt64 >>> ((p3 &&& (63 : Int32)) &&& 0x3f).toInt64.toUInt64).toInt64)), .second, .unset, .unset, .unset, .unset, .unset, .unset, .unset]) rfl ?_
      show Steps p.tables e below (s₁.setTop (mkF m 14 #[.val (.long q0), .second, .val (.long q1), .second, .val (.long q2), .second, .val (.int p3), .val (.long (((q2 &&& (9223372036854775807 : Int64)).toUInt64 >>> ((p3 &&& (63 : Int32)) &&& 0x3f).toInt64.toUInt64).toInt64)), .second, .unset, .unset, .unset, .unset, .unset, .unset, .unset] [])) _
      refine XS.lload X0.here hx rfl (hb hby at_14) rfl ?_
      show Steps p.tables e below (s₁.setTop (mkF m 16 #[.val (.long q0), .second, .val (.long q1), .second, .val (.long q2), .second, .val (.int p3), .val (.long (((q2 &&& (9223372036854775807 : Int64)).toUInt64 >>> ((p3 &&& (63 : Int32)) &&& 0x3f).toInt64.toUInt64).toInt64)), .second, .unset, .unset, .unset, .unset, .unset, .unset, .unset] [(.long (((q2 &&& (9223372036854775807 : Int64)).toUInt64 >>> ((p3 &&& (63 : Int32)) &&& 0x3f).toInt64.toUInt64).toInt64))])) _
      refine XS.lconst X0.here hx rfl (hb hby at_16) ?_
      show Steps p.tables e below (s₁.setTop (mkF m 17 #[.val (.long q0), .second, .val (.long q1), .second, .val (.long q2), .second, .val (.int p3), .val (.long (((q2 &&& (9223372036854775807 : Int64)).toUInt64 >>> ((p3 &&& (63 : Int32)) &&& 0x3f).toInt64.toUInt64).toInt64)), .second, .unset, .unset, .unset, .unset, .unset, .unset, .unset] [(.long (0 : Int64)), (.long (((q2 &&& (9223372036854775807 : Int64)).toUInt64 >>> ((p3 &&& (63 : Int32)) &&& 0x3f).toInt64.toUInt64).toInt64))])) _
      refine XS.lcmp X0.here hx rfl (hb hby at_17) rfl ?_
      exact kt)
  by_cases hc18_1 : (((q2 &&& (9223372036854775807 : Int64)).toUInt64 >>> ((p3 &&& (63 : Int32)) &&& 0x3f).toInt64.toUInt64).toInt64) = (0 : Int64)
  · obtain ⟨T3, h3, X3, e3, E3, A3, D3, U3, st3⟩ := newO X0 hx hZ hown (hw _ (List.mem_of_getElem? (i := 1) rfl)) (hw _ (List.mem_of_getElem? (i := 2) rfl)) (hw _ (List.mem_of_getElem? (i := 3) rfl)) e0 (g := (mkF m 24 #[.val (.long q0), .second, .val (.long q1), .second, .val (.long q2), .second, .val (.int p3), .val (.long (1 : Int64)), .second, .unset, .unset, .unset, .unset, .unset, .unset, .unset] [])) rfl (hb hby at_24) (by decide) (by decide)
    obtain ⟨b3, g3⟩ : ∃ z, z = h0.size := ⟨_, rfl⟩
    rw [← g3] at A3 D3 U3 st3
    have o3 : n0 ≤ b3 := Nat.le_trans Z0 (Nat.le_of_eq g3.symm)
    have z3 : h0.size ≤ b3 := Nat.le_trans (Keep.refl h0 []).1 (Nat.le_of_eq g3.symm)
    have K3 : Keep h0 h3 [] := (Keep.refl h0 []).ext E3
    have f4 : Fld Z h3 b3 "com/example/keys_to_bits/keystobits/Probes" "step" "J" (.long (0 : Int64)) := D3 (Or.inr (hw _ (List.mem_of_getElem? (i := 32) rfl))) (ty := .long) (by decide)
    have f5 : Fld Z h3 b3 "com/example/keys_to_bits/keystobits/Probes" "cells" "J" (.long (0 : Int64)) := D3 (Or.inr (hw _ (List.mem_of_getElem? (i := 34) rfl))) (ty := .long) (by decide)
    have f6 : Fld Z h3 b3 "com/example/keys_to_bits/keystobits/Probes" "start" "J" (.long (0 : Int64)) := D3 (Or.inl (hw _ (List.mem_of_getElem? (i := 41) rfl))) (ty := .long) (by decide)
    have f7 : n0 ≤ h3.size := (Nat.le_trans Z0 E3.1)
    obtain ⟨T8, h8, X8, e8, E8, A8, D8, U8, st8⟩ := newO X3 hx hZ hown (hw _ (List.mem_of_getElem? (i := 4) rfl)) (hw _ (List.mem_of_getElem? (i := 5) rfl)) (hw _ (List.mem_of_getElem? (i := 6) rfl)) e3 (g := (mkF m 28 #[.val (.long q0), .second, .val (.long q1), .second, .val (.long q2), .second, .val (.int p3), .val (.long (1 : Int64)), .second, .unset, .unset, .unset, .unset, .unset, .unset, .unset] [(.ref b3), (.ref b3)])) rfl (hb hby at_28) (by decide) (by decide)
    obtain ⟨b8, g8⟩ : ∃ z, z = h3.size := ⟨_, rfl⟩
    rw [← g8] at A8 D8 U8 st8
    have ne9 : b3 ≠ b8 := Nat.ne_of_lt (Nat.lt_of_lt_of_le A3.lt (Nat.le_of_eq g8.symm))
    have o8 : n0 ≤ b8 := Nat.le_trans f7 (Nat.le_of_eq g8.symm)
    have z8 : h0.size ≤ b8 := Nat.le_trans K3.1 (Nat.le_of_eq g8.symm)
    have K8 : Keep h0 h8 [] := K3.ext E8
    have f10 : Fld Z h8 b8 "com/example/keys_to_bits/keystobits/Murmur3$Hash128" "h1" "J" (.long (0 : Int64)) := D8 (Or.inr (hw _ (List.mem_of_getElem? (i := 19) rfl))) (ty := .long) (by decide)
    have f11 : Fld Z h8 b8 "com/example/keys_to_bits/keystobits/Murmur3$Hash128" "h2" "J" (.long (0 : Int64)) := D8 (Or.inr (hw _ (List.mem_of_getElem? (i := 21) rfl))) (ty := .long) (by decide)
    have f12 : n0 ≤ h8.size := (Nat.le_trans f7 E8.1)
    obtain ⟨_, _, ⟨T13, L13, k13, n13⟩, -, X13, ⟨Lc13, hQ13, l13, y13, z13⟩, st13⟩ := X8.specialBack hx (y := (⟨"com/example/keys_to_bits/keystobits/Murmur3$Hash128", "<init>", "(JJ)V"⟩ : MethodName)) rfl hown (mvT hZ (hw _ (List.mem_of_getElem? (i := 7) rfl))) (mvT hZ (hw _ (List.mem_of_getElem? (i := 8) rfl))) (mvT hZ (hw _ (List.mem_of_getElem? (i := 9) rfl))) (by decide) (backOf (W := 3) (rmHI l Z a0 hw [] b8 q0 q1 h8 n0 f12 A8 f10 f11 o8) hZ (hw _ (List.mem_of_getElem? (i := 9) rfl)) (hw _ (List.mem_of_getElem? (i := 6) rfl)) (by decide) (by decide)) (g := (mkF m 34 #[.val (.long q0), .second, .val (.long q1), .second, .val (.long q2), .second, .val (.int p3), .val (.long (1 : Int64)), .second, .unset, .unset, .unset, .unset, .unset, .unset, .unset] [(.long q1), (.long q0), (.ref b8), (.ref b8), (.ref b3), (.ref b3)])) rfl (by rw [hml]; rfl) (Steps.refl _) (a := b8) (argsL := [(.long q0), (.long q1)]) (rest := [(.ref b8), (.ref b3), (.ref b3)]) (lenOf pd__JJ_V rfl) rfl (by show 2 * 0 + _ ≤ _; exact Nat.le_of_eq rfl) (hb hby at_34) (fun _ _ => ⟨rfl, e8, (by decide : 2 + 0 ≤ _), (by decide : 5 + 0 ≤ _)⟩)
    dsimp only [Pt.U, Pt.locs, Pt.cells, Pt.slots] at X13 l13 y13 z13 st13 hQ13
    subst l13 y13 z13
    obtain ⟨rfl, N13q, K13, f14, f15, f16⟩ := hQ13
    have KK13 : Keep h0 T13.heap [] := Keep.trans K8 K13 (allS (Or.inr z8) all0)
    have N13 := Fr.app N0 N13q
    have f17 : Exa Z T13.heap b3 "com/example/keys_to_bits/keystobits/Probes" := ((A3.ext E8).keep K13)
    have f18 : Fld Z T13.heap b3 "com/example/keys_to_bits/keystobits/Probes" "step" "J" (.long (0 : Int64)) := ((f4.ext E8).keep K13 (ninS ne9 nin0))
    have f19 : Fld Z T13.heap b3 "com/example/keys_to_bits/keystobits/Probes" "cells" "J" (.long (0 : Int64)) := ((f5.ext E8).keep K13 (ninS ne9 nin0))
    have f20 : Fld Z T13.heap b3 "com/example/keys_to_bits/keystobits/Probes" "start" "J" (.long (0 : Int64)) := ((f6.ext E8).keep K13 (ninS ne9 nin0))
    have f21 : n0 ≤ T13.heap.size := (Nat.le_trans f12 K13.1)
    obtain ⟨_, _, ⟨T22, L22, k22, n22⟩, -, X22, ⟨Lc22, hQ22, l22, y22, z22⟩, st22⟩ := X13.specialBack hx (y := (⟨"com/example/keys_to_bits/keystobits/Probes", "<init>", "(Lcom/example/keys_to_bits/keystobits/Murmur3$Hash128;J)V"⟩ : MethodName)) rfl hown (mvT hZ (hw _ (List.mem_of_getElem? (i := 22) rfl))) (mvT hZ (hw _ (List.mem_of_getElem? (i := 23) rfl))) (mvT hZ (hw _ (List.mem_of_getElem? (i := 24) rfl))) (by decide) (backOf (W := 1) (rmPI l Z a0 hw [] b3 b8 (1 : Int64) q0 q1 T13.heap n0 f21 f17 f18 f19 f20 f14 f15 f16 (Ne.symm ne9) o3) hZ (hw _ (List.mem_of_getElem? (i := 24) rfl)) (hw _ (List.mem_of_getElem? (i := 3) rfl)) (by decide) (by decide)) (g := (mkF m 39 #[.val (.long q0), .second, .val (.long q1), .second, .val (.long q2), .second, .val (.int p3), .val (.long (1 : Int64)), .second, .unset, .unset, .unset, .unset, .unset, .unset, .unset] [(.long (1 : Int64)), (.ref b8), (.ref b3), (.ref b3)])) rfl (by rw [hml]; rfl) (Steps.refl _) (a := b3) (argsL := [(.ref b8), (.long (1 : Int64))]) (rest := [(.ref b3)]) (lenOf pd__Lcom_example_keys_to_bits_keystobits_Murmur3_Hash128_J_V rfl) rfl (by show 2 * 0 + _ ≤ _; exact Nat.le_of_eq rfl) (hb hby at_39) (fun _ _ => ⟨rfl, rfl, (by decide : 2 + 0 ≤ _), (by decide : 5 + 0 ≤ _)⟩)
    dsimp only [Pt.U, Pt.locs, Pt.cells, Pt.slots] at X22 l22 y22 z22 st22 hQ22
    subst l22 y22 z22
    obtain ⟨rfl, N22q, K22, f23, f24, f25, f26⟩ := hQ22
    have KK22 : Keep h0 T22.heap [] := Keep.trans KK13 K22 (allS (Or.inr z3) all0)
    have N22 := Fr.app N13 N22q
    have f27 : n0 ≤ T22.heap.size := (Nat.le_trans f21 K22.1)
    obtain ⟨cq29, kq29, q29a, q29b, q29c⟩ := isOf hZ rfl f23
    obtain ⟨_, _, ⟨T28, L28, k28, n28⟩, -, X28, ⟨Lc28, hQ28, l28, y28, z28⟩, st28⟩ := X22.virtualBack hx (y := (⟨"com/example/keys_to_bits/keystobits/Probes", "next", "()J"⟩ : MethodName)) (z := (⟨"com/example/keys_to_bits/keystobits/Probes", "next", "()J"⟩ : MethodName)) hown (mvT hZ (hw _ (List.mem_of_getElem? (i := 42) rfl))) (mvT hZ (hw _ (List.mem_of_getElem? (i := 43) rfl))) (notFace_of_selects (args := #[]) (mvT hZ (hw _ (List.mem_of_getElem? (i := 45) rfl)))) (mvT hZ (hw _ (List.mem_of_getElem? (i := 45) rfl))) (mvT hZ (hw _ (List.mem_of_getElem? (i := 44) rfl))) (by decide) (backOf (W := 0) (rmNx l Z a0 hw [] b3 q0 q1 (1 : Int64) T22.heap n0 f27 f23 f24 f25 f26 o3) hZ (hw _ (List.mem_of_getElem? (i := 46) rfl)) (hw _ (List.mem_of_getElem? (i := 3) rfl)) (by decide) (by decide)) q29a q29c (g := (mkF m 46 #[.val (.long q0), .second, .val (.long q1), .second, .val (.long q2), .second, .val (.int p3), .val (.long (1 : Int64)), .second, .val (.ref b3), .unset, .unset, .unset, .unset, .unset, .unset] [(.ref b3)])) rfl (by rw [hml]; rfl) (Steps.refl _) (argsL := []) (rest := []) (lenOf pd___J rfl) rfl (by show 2 * 0 + _ ≤ _; exact Nat.le_of_eq rfl) (hb hby at_46) (fun _ _ => ⟨rfl, rfl, (by decide : 2 + 0 ≤ _), (by decide : 5 + 0 ≤ _)⟩)
    dsimp only [Pt.U, Pt.locs, Pt.cells, Pt.slots] at X28 l28 y28 z28 st28 hQ28
    subst l28 y28 z28
    obtain ⟨rfl, N28q, K28, f30, f31, f32, f33⟩ := hQ28
    have KK28 : Keep h0 T28.heap [] := Keep.trans KK22 K28 (allS (Or.inr z3) all0)
    have N28 := Fr.app N22 N28q
    have f34 : n0 ≤ T28.heap.size := (Nat.le_trans f27 K28.1)
    obtain ⟨cq36, kq36, q36a, q36b, q36c⟩ := isOf hZ rfl f30
    obtain ⟨_, _, ⟨T35, L35, k35, n35⟩, -, X35, ⟨Lc35, hQ35, l35, y35, z35⟩, st35⟩ := X28.virtualBack hx (y := (⟨"com/example/keys_to_bits/keystobits/Probes", "next", "()J"⟩ : MethodName)) (z := (⟨"com/example/keys_to_bits/keystobits/Probes", "next", "()J"⟩ : MethodName)) hown (mvT hZ (hw _ (List.mem_of_getElem? (i := 42) rfl))) (mvT hZ (hw _ (List.mem_of_getElem? (i := 43) rfl))) (notFace_of_selects (args := #[]) (mvT hZ (hw _ (List.mem_of_getElem? (i := 45) rfl)))) (mvT hZ (hw _ (List.mem_of_getElem? (i := 45) rfl))) (mvT hZ (hw _ (List.mem_of_getElem? (i := 44) rfl))) (by decide) (backOf (W := 0) (rmNx l Z a0 hw [] b3 (q0 + q1) q1 (1 : Int64) T28.heap n0 f34 f30 f31 f32 f33 o3) hZ (hw _ (List.mem_of_getElem? (i := 46) rfl)) (hw _ (List.mem_of_getElem? (i := 3) rfl)) (by decide) (by decide)) q36a q36c (g := (mkF m 53 #[.val (.long q0), .second, .val (.long q1), .second, .val (.long q2), .second, .val (.int p3), .val (.long (1 : Int64)), .second, .val (.ref b3), .val (.long (own_nx (own_mix q0) (1 : Int64))), .second, .unset, .unset, .unset, .unset] [(.ref b3)])) rfl (by rw [hml]; rfl) (Steps.refl _) (argsL := []) (rest := []) (lenOf pd___J rfl) rfl (by show 2 * 0 + _ ≤ _; exact Nat.le_of_eq rfl) (hb hby at_53) (fun _ _ => ⟨rfl, rfl, (by decide : 2 + 0 ≤ _), (by decide : 5 + 0 ≤ _)⟩)
    dsimp only [Pt.U, Pt.locs, Pt.cells, Pt.slots] at X35 l35 y35 z35 st35 hQ35
    subst l35 y35 z35
    obtain ⟨rfl, N35q, K35, f37, f38, f39, f40⟩ := hQ35
    have KK35 : Keep h0 T35.heap [] := Keep.trans KK28 K35 (allS (Or.inr z3) all0)
    have N35 := Fr.app N28 N35q
    have f41 : n0 ≤ T35.heap.size := (Nat.le_trans f34 K35.1)
    obtain ⟨cq43, kq43, q43a, q43b, q43c⟩ := isOf hZ rfl f37
    obtain ⟨_, _, ⟨T42, L42, k42, n42⟩, -, X42, ⟨Lc42, hQ42, l42, y42, z42⟩, st42⟩ := X35.virtualBack hx (y := (⟨"com/example/keys_to_bits/keystobits/Probes", "next", "()J"⟩ : MethodName)) (z := (⟨"com/example/keys_to_bits/keystobits/Probes", "next", "()J"⟩ : MethodName)) hown (mvT hZ (hw _ (List.mem_of_getElem? (i := 42) rfl))) (mvT hZ (hw _ (List.mem_of_getElem? (i := 43) rfl))) (notFace_of_selects (args := #[]) (mvT hZ (hw _ (List.mem_of_getElem? (i := 45) rfl)))) (mvT hZ (hw _ (List.mem_of_getElem? (i := 45) rfl))) (mvT hZ (hw _ (List.mem_of_getElem? (i := 44) rfl))) (by decide) (backOf (W := 0) (rmNx l Z a0 hw [] b3 ((q0 + q1) + q1) q1 (1 : Int64) T35.heap n0 f41 f37 f38 f39 f40 o3) hZ (hw _ (List.mem_of_getElem? (i := 46) rfl)) (hw _ (List.mem_of_getElem? (i := 3) rfl)) (by decide) (by decide)) q43a q43c (g := (mkF m 60 #[.val (.long q0), .second, .val (.long q1), .second, .val (.long q2), .second, .val (.int p3), .val (.long (1 : Int64)), .second, .val (.ref b3), .val (.long (own_nx (own_mix q0) (1 : Int64))), .second, .val (.long (own_nx (own_mix (q0 + q1)) (1 : Int64))), .second, .unset, .unset] [(.ref b3)])) rfl (by rw [hml]; rfl) (Steps.refl _) (argsL := []) (rest := []) (lenOf pd___J rfl) rfl (by show 2 * 0 + _ ≤ _; exact Nat.le_of_eq rfl) (hb hby at_60) (fun _ _ => ⟨rfl, rfl, (by decide : 2 + 0 ≤ _), (by decide : 5 + 0 ≤ _)⟩)
    dsimp only [Pt.U, Pt.locs, Pt.cells, Pt.slots] at X42 l42 y42 z42 st42 hQ42
    subst l42 y42 z42
    obtain ⟨rfl, N42q, K42, f44, f45, f46, f47⟩ := hQ42
    have KK42 : Keep h0 T42.heap [] := Keep.trans KK35 K42 (allS (Or.inr z3) all0)
    have N42 := Fr.app N35 N42q
    have f48 : n0 ≤ T42.heap.size := (Nat.le_trans f41 K42.1)
    obtain ⟨_, _, ⟨T49, L49, k49, n49⟩, -, X49, ⟨Lc49, hQ49, l49, y49, z49⟩, st49⟩ := Jvm.LawKit.callS X42 hx (y := (⟨"com/example/keys_to_bits/keystobits/ProbesNextPinLaw", "ok", "(JJJ)Z"⟩ : MethodName)) hown (mvT hZ (hw _ (List.mem_of_getElem? (i := 54) rfl))) (mvT hZ (hw _ (List.mem_of_getElem? (i := 55) rfl))) (mvT hZ (hw _ (List.mem_of_getElem? (i := 56) rfl))) (mvT hZ (hw _ (List.mem_of_getElem? (i := 57) rfl))) (by decide) (backOf (W := 0) (rmOk l Z a0 hw [] q0 (1 : Int64) T42.heap n0 f48 (by decide : (0 : Int64) < (1 : Int64))) hZ (hw _ (List.mem_of_getElem? (i := 57) rfl)) (hw _ (List.mem_of_getElem? (i := 56) rfl)) (by decide) (by decide)) (g := (mkF m 70 #[.val (.long q0), .second, .val (.long q1), .second, .val (.long q2), .second, .val (.int p3), .val (.long (1 : Int64)), .second, .val (.ref b3), .val (.long (own_nx (own_mix q0) (1 : Int64))), .second, .val (.long (own_nx (own_mix (q0 + q1)) (1 : Int64))), .second, .val (.long (own_nx (own_mix ((q0 + q1) + q1)) (1 : Int64))), .second] [(.long (1 : Int64)), (.long q0), (.long (own_nx (own_mix q0) (1 : Int64)))])) rfl (by rw [hml]; rfl) (argsL := [(.long (own_nx (own_mix q0) (1 : Int64))), (.long q0), (.long (1 : Int64))]) (rest := []) (lenOf pd__JJJ_Z rfl) rfl (by show 2 * 0 + _ ≤ _; exact Nat.le_of_eq rfl) (hb hby at_70) (fun _ _ => ⟨rfl, rfl, (by decide : 2 + 0 ≤ _), (by decide : 5 + 0 ≤ _)⟩)
    dsimp only [Pt.U, Pt.locs, Pt.cells, Pt.slots] at X49 l49 y49 z49 st49 hQ49
    subst l49 y49 z49
    obtain ⟨rfl, N49q, e49⟩ := hQ49
    have N49 := Fr.app N42 N49q
    obtain ⟨_, _, ⟨T50, L50, k50, n50⟩, -, X50, ⟨Lc50, hQ50, l50, y50, z50⟩, st50⟩ := Jvm.LawKit.callS X49 hx (y := (⟨"com/example/keys_to_bits/keystobits/ProbesNextPinLaw", "ok", "(JJJ)Z"⟩ : MethodName)) hown (mvT hZ (hw _ (List.mem_of_getElem? (i := 54) rfl))) (mvT hZ (hw _ (List.mem_of_getElem? (i := 55) rfl))) (mvT hZ (hw _ (List.mem_of_getElem? (i := 56) rfl))) (mvT hZ (hw _ (List.mem_of_getElem? (i := 57) rfl))) (by decide) (backOf (W := 0) (rmOk l Z a0 hw [] (q0 + q1) (1 : Int64) T42.heap n0 f48 (by decide : (0 : Int64) < (1 : Int64))) hZ (hw _ (List.mem_of_getElem? (i := 57) rfl)) (hw _ (List.mem_of_getElem? (i := 56) rfl)) (by decide) (by decide)) (g := (mkF m 83 #[.val (.long q0), .second, .val (.long q1), .second, .val (.long q2), .second, .val (.int p3), .val (.long (1 : Int64)), .second, .val (.ref b3), .val (.long (own_nx (own_mix q0) (1 : Int64))), .second, .val (.long (own_nx (own_mix (q0 + q1)) (1 : Int64))), .second, .val (.long (own_nx (own_mix ((q0 + q1) + q1)) (1 : Int64))), .second] [(.long (1 : Int64)), (.long (q0 + q1)), (.long (own_nx (own_mix (q0 + q1)) (1 : Int64)))])) rfl (by rw [hml]; rfl) (argsL := [(.long (own_nx (own_mix (q0 + q1)) (1 : Int64))), (.long (q0 + q1)), (.long (1 : Int64))]) (rest := []) (lenOf pd__JJJ_Z rfl) rfl (by show 2 * 0 + _ ≤ _; exact Nat.le_of_eq rfl) (hb hby at_83) (fun _ _ => ⟨rfl, e49, (by decide : 2 + 0 ≤ _), (by decide : 5 + 0 ≤ _)⟩)
    dsimp only [Pt.U, Pt.locs, Pt.cells, Pt.slots] at X50 l50 y50 z50 st50 hQ50
    subst l50 y50 z50
    obtain ⟨rfl, N50q, e50⟩ := hQ50
    have N50 := Fr.app N49 N50q
    obtain ⟨_, _, ⟨T51, L51, k51, n51⟩, -, X51, ⟨Lc51, hQ51, l51, y51, z51⟩, st51⟩ := Jvm.LawKit.callS X50 hx (y := (⟨"com/example/keys_to_bits/keystobits/ProbesNextPinLaw", "ok", "(JJJ)Z"⟩ : MethodName)) hown (mvT hZ (hw _ (List.mem_of_getElem? (i := 54) rfl))) (mvT hZ (hw _ (List.mem_of_getElem? (i := 55) rfl))) (mvT hZ (hw _ (List.mem_of_getElem? (i := 56) rfl))) (mvT hZ (hw _ (List.mem_of_getElem? (i := 57) rfl))) (by decide) (backOf (W := 0) (rmOk l Z a0 hw [] ((q0 + q1) + q1) (1 : Int64) T42.heap n0 f48 (by decide : (0 : Int64) < (1 : Int64))) hZ (hw _ (List.mem_of_getElem? (i := 57) rfl)) (hw _ (List.mem_of_getElem? (i := 56) rfl)) (by decide) (by decide)) (g := (mkF m 98 #[.val (.long q0), .second, .val (.long q1), .second, .val (.long q2), .second, .val (.int p3), .val (.long (1 : Int64)), .second, .val (.ref b3), .val (.long (own_nx (own_mix q0) (1 : Int64))), .second, .val (.long (own_nx (own_mix (q0 + q1)) (1 : Int64))), .second, .val (.long (own_nx (own_mix ((q0 + q1) + q1)) (1 : Int64))), .second] [(.long (1 : Int64)), (.long ((q0 + q1) + q1)), (.long (own_nx (own_mix ((q0 + q1) + q1)) (1 : Int64)))])) rfl (by rw [hml]; rfl) (argsL := [(.long (own_nx (own_mix ((q0 + q1) + q1)) (1 : Int64))), (.long ((q0 + q1) + q1)), (.long (1 : Int64))]) (rest := []) (lenOf pd__JJJ_Z rfl) rfl (by show 2 * 0 + _ ≤ _; exact Nat.le_of_eq rfl) (hb hby at_98) (fun _ _ => ⟨rfl, e50, (by decide : 2 + 0 ≤ _), (by decide : 5 + 0 ≤ _)⟩)
    dsimp only [Pt.U, Pt.locs, Pt.cells, Pt.slots] at X51 l51 y51 z51 st51 hQ51
    subst l51 y51 z51
    obtain ⟨rfl, N51q, e51⟩ := hQ51
    have N51 := Fr.app N50 N51q
    obtain ⟨fs, hr, hrun, hended, hW, hsame⟩ := X51.leave (v := some (.int (1 : Int32))) (fun h => by rw [Bd.returns] at h; cases h)
    refine ⟨_, _, pre2 _ ?_, hrun, hended, _, _, rfl, ?_, ⟨_, rfl⟩, hW, hsame.mono (by decide) (by decide)⟩
    · show Steps p.tables e below (s₁.setTop (mkF m 18 #[.val (.long q0), .second, .val (.long q1), .second, .val (.long q2), .second, .val (.int p3), .val (.long (((q2 &&& (9223372036854775807 : Int64)).toUInt64 >>> ((p3 &&& (63 : Int32)) &&& 0x3f).toInt64.toUInt64).toInt64)), .second, .unset, .unset, .unset, .unset, .unset, .unset, .unset] [(.int (lcmpW (((q2 &&& (9223372036854775807 : Int64)).toUInt64 >>> ((p3 &&& (63 : Int32)) &&& 0x3f).toInt64.toUInt64).toInt64) (0 : Int64)))])) _
      refine XS.ifNo X0.here hx rfl (hb hby at_18) rfl ((if0 _ _).trans (teq ((lw_eq _ _).mpr hc18_1)).2) ?_
      show Steps p.tables e below (s₁.setTop (mkF m 21 #[.val (.long q0), .second, .val (.long q1), .second, .val (.long q2), .second, .val (.int p3), .val (.long (((q2 &&& (9223372036854775807 : Int64)).toUInt64 >>> ((p3 &&& (63 : Int32)) &&& 0x3f).toInt64.toUInt64).toInt64)), .second, .unset, .unset, .unset, .unset, .unset, .unset, .unset] [])) _
      refine XS.lconst X0.here hx rfl (hb hby at_21) ?_
      show Steps p.tables e below (s₁.setTop (mkF m 22 #[.val (.long q0), .second, .val (.long q1), .second, .val (.long q2), .second, .val (.int p3), .val (.long (((q2 &&& (9223372036854775807 : Int64)).toUInt64 >>> ((p3 &&& (63 : Int32)) &&& 0x3f).toInt64.toUInt64).toInt64)), .second, .unset, .unset, .unset, .unset, .unset, .unset, .unset] [(.long (1 : Int64))])) _
      refine XS.lstore X0.here hx rfl (hb hby at_22) rfl (l' := #[.val (.long q0), .second, .val (.long q1), .second, .val (.long q2), .second, .val (.int p3), .val (.long (1 : Int64)), .second, .unset, .unset, .unset, .unset, .unset, .unset, .unset]) rfl ?_
      show Steps p.tables e below (s₁.setTop (mkF m 24 #[.val (.long q0), .second, .val (.long q1), .second, .val (.long q2), .second, .val (.int p3), .val (.long (1 : Int64)), .second, .unset, .unset, .unset, .unset, .unset, .unset, .unset] [])) _
      refine st3 _ ?_
      show Steps p.tables e below (T3.setTop (mkF m 27 #[.val (.long q0), .second, .val (.long q1), .second, .val (.long q2), .second, .val (.int p3), .val (.long (1 : Int64)), .second, .unset, .unset, .unset, .unset, .unset, .unset, .unset] [(.ref b3)])) _
      refine XS.dup X3.here hx rfl (hb hby at_27) rfl rfl ?_
      show Steps p.tables e below (T3.setTop (mkF m 28 #[.val (.long q0), .second, .val (.long q1), .second, .val (.long q2), .second, .val (.int p3), .val (.long (1 : Int64)), .second, .unset, .unset, .unset, .unset, .unset, .unset, .unset] [(.ref b3), (.ref b3)])) _
      refine st8 _ ?_
      show Steps p.tables e below (T8.setTop (mkF m 31 #[.val (.long q0), .second, .val (.long q1), .second, .val (.long q2), .second, .val (.int p3), .val (.long (1 : Int64)), .second, .unset, .unset, .unset, .unset, .unset, .unset, .unset] [(.ref b8), (.ref b3), (.ref b3)])) _
      refine XS.dup X8.here hx rfl (hb hby at_31) rfl rfl ?_
      show Steps p.tables e below (T8.setTop (mkF m 32 #[.val (.long q0), .second, .val (.long q1), .second, .val (.long q2), .second, .val (.int p3), .val (.long (1 : Int64)), .second, .unset, .unset, .unset, .unset, .unset, .unset, .unset] [(.ref b8), (.ref b8), (.ref b3), (.ref b3)])) _
      refine XS.lloadN X8.here hx rfl (hb hby at_32) rfl ?_
      show Steps p.tables e below (T8.setTop (mkF m 33 #[.val (.long q0), .second, .val (.long q1), .second, .val (.long q2), .second, .val (.int p3), .val (.long (1 : Int64)), .second, .unset, .unset, .unset, .unset, .unset, .unset, .unset] [(.long q0), (.ref b8), (.ref b8), (.ref b3), (.ref b3)])) _
      refine XS.lloadN X8.here hx rfl (hb hby at_33) rfl ?_
      show Steps p.tables e below (T8.setTop (mkF m 34 #[.val (.long q0), .second, .val (.long q1), .second, .val (.long q2), .second, .val (.int p3), .val (.long (1 : Int64)), .second, .unset, .unset, .unset, .unset, .unset, .unset, .unset] [(.long q1), (.long q0), (.ref b8), (.ref b8), (.ref b3), (.ref b3)])) _
      refine st13.trans ?_
      show Steps p.tables e below (T13.setTop (mkF m 37 #[.val (.long q0), .second, .val (.long q1), .second, .val (.long q2), .second, .val (.int p3), .val (.long (1 : Int64)), .second, .unset, .unset, .unset, .unset, .unset, .unset, .unset] [(.ref b8), (.ref b3), (.ref b3)])) _
      refine XS.lload X13.here hx rfl (hb hby at_37) rfl ?_
      show Steps p.tables e below (T13.setTop (mkF m 39 #[.val (.long q0), .second, .val (.long q1), .second, .val (.long q2), .second, .val (.int p3), .val (.long (1 : Int64)), .second, .unset, .unset, .unset, .unset, .unset, .unset, .unset] [(.long (1 : Int64)), (.ref b8), (.ref b3), (.ref b3)])) _
      refine st22.trans ?_
      show Steps p.tables e below (T22.setTop (mkF m 42 #[.val (.long q0), .second, .val (.long q1), .second, .val (.long q2), .second, .val (.int p3), .val (.long (1 : Int64)), .second, .unset, .unset, .unset, .unset, .unset, .unset, .unset] [(.ref b3)])) _
      refine XS.astore X22.here hx rfl (hb hby at_42) rfl rfl (l' := #[.val (.long q0), .second, .val (.long q1), .second, .val (.long q2), .second, .val (.int p3), .val (.long (1 : Int64)), .second, .val (.ref b3), .unset, .unset, .unset, .unset, .unset, .unset]) rfl ?_
      show Steps p.tables e below (T22.setTop (mkF m 44 #[.val (.long q0), .second, .val (.long q1), .second, .val (.long q2), .second, .val (.int p3), .val (.long (1 : Int64)), .second, .val (.ref b3), .unset, .unset, .unset, .unset, .unset, .unset] [])) _
      refine XS.aload X22.here hx rfl (hb hby at_44) rfl rfl ?_
      show Steps p.tables e below (T22.setTop (mkF m 46 #[.val (.long q0), .second, .val (.long q1), .second, .val (.long q2), .second, .val (.int p3), .val (.long (1 : Int64)), .second, .val (.ref b3), .unset, .unset, .unset, .unset, .unset, .unset] [(.ref b3)])) _
      refine st28.trans ?_
      show Steps p.tables e below (T28.setTop (mkF m 49 #[.val (.long q0), .second, .val (.long q1), .second, .val (.long q2), .second, .val (.int p3), .val (.long (1 : Int64)), .second, .val (.ref b3), .unset, .unset, .unset, .unset, .unset, .unset] [(.long (own_nx (own_mix q0) (1 : Int64)))])) _
      refine XS.lstore X28.here hx rfl (hb hby at_49) rfl (l' := #[.val (.long q0), .second, .val (.long q1), .second, .val (.long q2), .second, .val (.int p3), .val (.long (1 : Int64)), .second, .val (.ref b3), .val (.long (own_nx (own_mix q0) (1 : Int64))), .second, .unset, .unset, .unset, .unset]) rfl ?_
      show Steps p.tables e below (T28.setTop (mkF m 51 #[.val (.long q0), .second, .val (.long q1), .second, .val (.long q2), .second, .val (.int p3), .val (.long (1 : Int64)), .second, .val (.ref b3), .val (.long (own_nx (own_mix q0) (1 : Int64))), .second, .unset, .unset, .unset, .unset] [])) _
      refine XS.aload X28.here hx rfl (hb hby at_51) rfl rfl ?_
      show Steps p.tables e below (T28.setTop (mkF m 53 #[.val (.long q0), .second, .val (.long q1), .second, .val (.long q2), .second, .val (.int p3), .val (.long (1 : Int64)), .second, .val (.ref b3), .val (.long (own_nx (own_mix q0) (1 : Int64))), .second, .unset, .unset, .unset, .unset] [(.ref b3)])) _
      refine st35.trans ?_
      show Steps p.tables e below (T35.setTop (mkF m 56 #[.val (.long q0), .second, .val (.long q1), .second, .val (.long q2), .second, .val (.int p3), .val (.long (1 : Int64)), .second, .val (.ref b3), .val (.long (own_nx (own_mix q0) (1 : Int64))), .second, .unset, .unset, .unset, .unset] [(.long (own_nx (own_mix (q0 + q1)) (1 : Int64)))])) _
      refine XS.lstore X35.here hx rfl (hb hby at_56) rfl (l' := #[.val (.long q0), .second, .val (.long q1), .second, .val (.long q2), .second, .val (.int p3), .val (.long (1 : Int64)), .second, .val (.ref b3), .val (.long (own_nx (own_mix q0) (1 : Int64))), .second, .val (.long (own_nx (own_mix (q0 + q1)) (1 : Int64))), .second, .unset, .unset]) rfl ?_
      show Steps p.tables e below (T35.setTop (mkF m 58 #[.val (.long q0), .second, .val (.long q1), .second, .val (.long q2), .second, .val (.int p3), .val (.long (1 : Int64)), .second, .val (.ref b3), .val (.long (own_nx (own_mix q0) (1 : Int64))), .second, .val (.long (own_nx (own_mix (q0 + q1)) (1 : Int64))), .second, .unset, .unset] [])) _
      refine XS.aload X35.here hx rfl (hb hby at_58) rfl rfl ?_
      show Steps p.tables e below (T35.setTop (mkF m 60 #[.val (.long q0), .second, .val (.long q1), .second, .val (.long q2), .second, .val (.int p3), .val (.long (1 : Int64)), .second, .val (.ref b3), .val (.long (own_nx (own_mix q0) (1 : Int64))), .second, .val (.long (own_nx (own_mix (q0 + q1)) (1 : Int64))), .second, .unset, .unset] [(.ref b3)])) _
      refine st42.trans ?_
      show Steps p.tables e below (T42.setTop (mkF m 63 #[.val (.long q0), .second, .val (.long q1), .second, .val (.long q2), .second, .val (.int p3), .val (.long (1 : Int64)), .second, .val (.ref b3), .val (.long (own_nx (own_mix q0) (1 : Int64))), .second, .val (.long (own_nx (own_mix (q0 + q1)) (1 : Int64))), .second, .unset, .unset] [(.long (own_nx (own_mix ((q0 + q1) + q1)) (1 : Int64)))])) _
      refine XS.lstore X42.here hx rfl (hb hby at_63) rfl (l' := #[.val (.long q0), .second, .val (.long q1), .second, .val (.long q2), .second, .val (.int p3), .val (.long (1 : Int64)), .second, .val (.ref b3), .val (.long (own_nx (own_mix q0) (1 : Int64))), .second, .val (.long (own_nx (own_mix (q0 + q1)) (1 : Int64))), .second, .val (.long (own_nx (own_mix ((q0 + q1) + q1)) (1 : Int64))), .second]) rfl ?_
      show Steps p.tables e below (T42.setTop (mkF m 65 #[.val (.long q0), .second, .val (.long q1), .second, .val (.long q2), .second, .val (.int p3), .val (.long (1 : Int64)), .second, .val (.ref b3), .val (.long (own_nx (own_mix q0) (1 : Int64))), .second, .val (.long (own_nx (own_mix (q0 + q1)) (1 : Int64))), .second, .val (.long (own_nx (own_mix ((q0 + q1) + q1)) (1 : Int64))), .second] [])) _
      refine XS.lload X42.here hx rfl (hb hby at_65) rfl ?_
      show Steps p.tables e below (T42.setTop (mkF m 67 #[.val (.long q0), .second, .val (.long q1), .second, .val (.long q2), .second, .val (.int p3), .val (.long (1 : Int64)), .second, .val (.ref b3), .val (.long (own_nx (own_mix q0) (1 : Int64))), .second, .val (.long (own_nx (own_mix (q0 + q1)) (1 : Int64))), .second, .val (.long (own_nx (own_mix ((q0 + q1) + q1)) (1 : Int64))), .second] [(.long (own_nx (own_mix q0) (1 : Int64)))])) _
      refine XS.lloadN X42.here hx rfl (hb hby at_67) rfl ?_
      show Steps p.tables e below (T42.setTop (mkF m 68 #[.val (.long q0), .second, .val (.long q1), .second, .val (.long q2), .second, .val (.int p3), .val (.long (1 : Int64)), .second, .val (.ref b3), .val (.long (own_nx (own_mix q0) (1 : Int64))), .second, .val (.long (own_nx (own_mix (q0 + q1)) (1 : Int64))), .second, .val (.long (own_nx (own_mix ((q0 + q1) + q1)) (1 : Int64))), .second] [(.long q0), (.long (own_nx (own_mix q0) (1 : Int64)))])) _
      refine XS.lload X42.here hx rfl (hb hby at_68) rfl ?_
      show Steps p.tables e below (T42.setTop (mkF m 70 #[.val (.long q0), .second, .val (.long q1), .second, .val (.long q2), .second, .val (.int p3), .val (.long (1 : Int64)), .second, .val (.ref b3), .val (.long (own_nx (own_mix q0) (1 : Int64))), .second, .val (.long (own_nx (own_mix (q0 + q1)) (1 : Int64))), .second, .val (.long (own_nx (own_mix ((q0 + q1) + q1)) (1 : Int64))), .second] [(.long (1 : Int64)), (.long q0), (.long (own_nx (own_mix q0) (1 : Int64)))])) _
      refine st49 _ ?_
      show Steps p.tables e below (T49.setTop (mkF m 73 #[.val (.long q0), .second, .val (.long q1), .second, .val (.long q2), .second, .val (.int p3), .val (.long (1 : Int64)), .second, .val (.ref b3), .val (.long (own_nx (own_mix q0) (1 : Int64))), .second, .val (.long (own_nx (own_mix (q0 + q1)) (1 : Int64))), .second, .val (.long (own_nx (own_mix ((q0 + q1) + q1)) (1 : Int64))), .second] [(.int (1 : Int32))])) _
      refine XS.ifNo X49.here hx rfl (hb hby at_73) rfl ((if0 _ _).trans (feq (by decide : ¬ ((1 : Int32) = (0 : Int32)))).1) ?_
      show Steps p.tables e below (T49.setTop (mkF m 76 #[.val (.long q0), .second, .val (.long q1), .second, .val (.long q2), .second, .val (.int p3), .val (.long (1 : Int64)), .second, .val (.ref b3), .val (.long (own_nx (own_mix q0) (1 : Int64))), .second, .val (.long (own_nx (own_mix (q0 + q1)) (1 : Int64))), .second, .val (.long (own_nx (own_mix ((q0 + q1) + q1)) (1 : Int64))), .second] [])) _
      refine XS.lload X49.here hx rfl (hb hby at_76) rfl ?_
      show Steps p.tables e below (T49.setTop (mkF m 78 #[.val (.long q0), .second, .val (.long q1), .second, .val (.long q2), .second, .val (.int p3), .val (.long (1 : Int64)), .second, .val (.ref b3), .val (.long (own_nx (own_mix q0) (1 : Int64))), .second, .val (.long (own_nx (own_mix (q0 + q1)) (1 : Int64))), .second, .val (.long (own_nx (own_mix ((q0 + q1) + q1)) (1 : Int64))), .second] [(.long (own_nx (own_mix (q0 + q1)) (1 : Int64)))])) _
      refine XS.lloadN X49.here hx rfl (hb hby at_78) rfl ?_
      show Steps p.tables e below (T49.setTop (mkF m 79 #[.val (.long q0), .second, .val (.long q1), .second, .val (.long q2), .second, .val (.int p3), .val (.long (1 : Int64)), .second, .val (.ref b3), .val (.long (own_nx (own_mix q0) (1 : Int64))), .second, .val (.long (own_nx (own_mix (q0 + q1)) (1 : Int64))), .second, .val (.long (own_nx (own_mix ((q0 + q1) + q1)) (1 : Int64))), .second] [(.long q0), (.long (own_nx (own_mix (q0 + q1)) (1 : Int64)))])) _
      refine XS.lloadN X49.here hx rfl (hb hby at_79) rfl ?_
      show Steps p.tables e below (T49.setTop (mkF m 80 #[.val (.long q0), .second, .val (.long q1), .second, .val (.long q2), .second, .val (.int p3), .val (.long (1 : Int64)), .second, .val (.ref b3), .val (.long (own_nx (own_mix q0) (1 : Int64))), .second, .val (.long (own_nx (own_mix (q0 + q1)) (1 : Int64))), .second, .val (.long (own_nx (own_mix ((q0 + q1) + q1)) (1 : Int64))), .second] [(.long q1), (.long q0), (.long (own_nx (own_mix (q0 + q1)) (1 : Int64)))])) _
      refine XS.ladd X49.here hx rfl (hb hby at_80) rfl ?_
      show Steps p.tables e below (T49.setTop (mkF m 81 #[.val (.long q0), .second, .val (.long q1), .second, .val (.long q2), .second, .val (.int p3), .val (.long (1 : Int64)), .second, .val (.ref b3), .val (.long (own_nx (own_mix q0) (1 : Int64))), .second, .val (.long (own_nx (own_mix (q0 + q1)) (1 : Int64))), .second, .val (.long (own_nx (own_mix ((q0 + q1) + q1)) (1 : Int64))), .second] [(.long (q0 + q1)), (.long (own_nx (own_mix (q0 + q1)) (1 : Int64)))])) _
      refine XS.lload X49.here hx rfl (hb hby at_81) rfl ?_
      show Steps p.tables e below (T49.setTop (mkF m 83 #[.val (.long q0), .second, .val (.long q1), .second, .val (.long q2), .second, .val (.int p3), .val (.long (1 : Int64)), .second, .val (.ref b3), .val (.long (own_nx (own_mix q0) (1 : Int64))), .second, .val (.long (own_nx (own_mix (q0 + q1)) (1 : Int64))), .second, .val (.long (own_nx (own_mix ((q0 + q1) + q1)) (1 : Int64))), .second] [(.long (1 : Int64)), (.long (q0 + q1)), (.long (own_nx (own_mix (q0 + q1)) (1 : Int64)))])) _
      refine st50 _ ?_
      show Steps p.tables e below (T50.setTop (mkF m 86 #[.val (.long q0), .second, .val (.long q1), .second, .val (.long q2), .second, .val (.int p3), .val (.long (1 : Int64)), .second, .val (.ref b3), .val (.long (own_nx (own_mix q0) (1 : Int64))), .second, .val (.long (own_nx (own_mix (q0 + q1)) (1 : Int64))), .second, .val (.long (own_nx (own_mix ((q0 + q1) + q1)) (1 : Int64))), .second] [(.int (1 : Int32))])) _
      refine XS.ifNo X50.here hx rfl (hb hby at_86) rfl ((if0 _ _).trans (feq (by decide : ¬ ((1 : Int32) = (0 : Int32)))).1) ?_
      show Steps p.tables e below (T50.setTop (mkF m 89 #[.val (.long q0), .second, .val (.long q1), .second, .val (.long q2), .second, .val (.int p3), .val (.long (1 : Int64)), .second, .val (.ref b3), .val (.long (own_nx (own_mix q0) (1 : Int64))), .second, .val (.long (own_nx (own_mix (q0 + q1)) (1 : Int64))), .second, .val (.long (own_nx (own_mix ((q0 + q1) + q1)) (1 : Int64))), .second] [])) _
      refine XS.lload X50.here hx rfl (hb hby at_89) rfl ?_
      show Steps p.tables e below (T50.setTop (mkF m 91 #[.val (.long q0), .second, .val (.long q1), .second, .val (.long q2), .second, .val (.int p3), .val (.long (1 : Int64)), .second, .val (.ref b3), .val (.long (own_nx (own_mix q0) (1 : Int64))), .second, .val (.long (own_nx (own_mix (q0 + q1)) (1 : Int64))), .second, .val (.long (own_nx (own_mix ((q0 + q1) + q1)) (1 : Int64))), .second] [(.long (own_nx (own_mix ((q0 + q1) + q1)) (1 : Int64)))])) _
      refine XS.lloadN X50.here hx rfl (hb hby at_91) rfl ?_
      show Steps p.tables e below (T50.setTop (mkF m 92 #[.val (.long q0), .second, .val (.long q1), .second, .val (.long q2), .second, .val (.int p3), .val (.long (1 : Int64)), .second, .val (.ref b3), .val (.long (own_nx (own_mix q0) (1 : Int64))), .second, .val (.long (own_nx (own_mix (q0 + q1)) (1 : Int64))), .second, .val (.long (own_nx (own_mix ((q0 + q1) + q1)) (1 : Int64))), .second] [(.long q0), (.long (own_nx (own_mix ((q0 + q1) + q1)) (1 : Int64)))])) _
      refine XS.lloadN X50.here hx rfl (hb hby at_92) rfl ?_
      show Steps p.tables e below (T50.setTop (mkF m 93 #[.val (.long q0), .second, .val (.long q1), .second, .val (.long q2), .second, .val (.int p3), .val (.long (1 : Int64)), .second, .val (.ref b3), .val (.long (own_nx (own_mix q0) (1 : Int64))), .second, .val (.long (own_nx (own_mix (q0 + q1)) (1 : Int64))), .second, .val (.long (own_nx (own_mix ((q0 + q1) + q1)) (1 : Int64))), .second] [(.long q1), (.long q0), (.long (own_nx (own_mix ((q0 + q1) + q1)) (1 : Int64)))])) _
      refine XS.ladd X50.here hx rfl (hb hby at_93) rfl ?_
      show Steps p.tables e below (T50.setTop (mkF m 94 #[.val (.long q0), .second, .val (.long q1), .second, .val (.long q2), .second, .val (.int p3), .val (.long (1 : Int64)), .second, .val (.ref b3), .val (.long (own_nx (own_mix q0) (1 : Int64))), .second, .val (.long (own_nx (own_mix (q0 + q1)) (1 : Int64))), .second, .val (.long (own_nx (own_mix ((q0 + q1) + q1)) (1 : Int64))), .second] [(.long (q0 + q1)), (.long (own_nx (own_mix ((q0 + q1) + q1)) (1 : Int64)))])) _
      refine XS.lloadN X50.here hx rfl (hb hby at_94) rfl ?_
      show Steps p.tables e below (T50.setTop (mkF m 95 #[.val (.long q0), .second, .val (.long q1), .second, .val (.long q2), .second, .val (.int p3), .val (.long (1 : Int64)), .second, .val (.ref b3), .val (.long (own_nx (own_mix q0) (1 : Int64))), .second, .val (.long (own_nx (own_mix (q0 + q1)) (1 : Int64))), .second, .val (.long (own_nx (own_mix ((q0 + q1) + q1)) (1 : Int64))), .second] [(.long q1), (.long (q0 + q1)), (.long (own_nx (own_mix ((q0 + q1) + q1)) (1 : Int64)))])) _
      refine XS.ladd X50.here hx rfl (hb hby at_95) rfl ?_
      show Steps p.tables e below (T50.setTop (mkF m 96 #[.val (.long q0), .second, .val (.long q1), .second, .val (.long q2), .second, .val (.int p3), .val (.long (1 : Int64)), .second, .val (.ref b3), .val (.long (own_nx (own_mix q0) (1 : Int64))), .second, .val (.long (own_nx (own_mix (q0 + q1)) (1 : Int64))), .second, .val (.long (own_nx (own_mix ((q0 + q1) + q1)) (1 : Int64))), .second] [(.long ((q0 + q1) + q1)), (.long (own_nx (own_mix ((q0 + q1) + q1)) (1 : Int64)))])) _
      refine XS.lload X50.here hx rfl (hb hby at_96) rfl ?_
      show Steps p.tables e below (T50.setTop (mkF m 98 #[.val (.long q0), .second, .val (.long q1), .second, .val (.long q2), .second, .val (.int p3), .val (.long (1 : Int64)), .second, .val (.ref b3), .val (.long (own_nx (own_mix q0) (1 : Int64))), .second, .val (.long (own_nx (own_mix (q0 + q1)) (1 : Int64))), .second, .val (.long (own_nx (own_mix ((q0 + q1) + q1)) (1 : Int64))), .second] [(.long (1 : Int64)), (.long ((q0 + q1) + q1)), (.long (own_nx (own_mix ((q0 + q1) + q1)) (1 : Int64)))])) _
      refine st51 _ ?_
      show Steps p.tables e below (T51.setTop (mkF m 101 #[.val (.long q0), .second, .val (.long q1), .second, .val (.long q2), .second, .val (.int p3), .val (.long (1 : Int64)), .second, .val (.ref b3), .val (.long (own_nx (own_mix q0) (1 : Int64))), .second, .val (.long (own_nx (own_mix (q0 + q1)) (1 : Int64))), .second, .val (.long (own_nx (own_mix ((q0 + q1) + q1)) (1 : Int64))), .second] [(.int (1 : Int32))])) _
      refine XS.ifNo X51.here hx rfl (hb hby at_101) rfl ((if0 _ _).trans (feq (by decide : ¬ ((1 : Int32) = (0 : Int32)))).1) ?_
      show Steps p.tables e below (T51.setTop (mkF m 104 #[.val (.long q0), .second, .val (.long q1), .second, .val (.long q2), .second, .val (.int p3), .val (.long (1 : Int64)), .second, .val (.ref b3), .val (.long (own_nx (own_mix q0) (1 : Int64))), .second, .val (.long (own_nx (own_mix (q0 + q1)) (1 : Int64))), .second, .val (.long (own_nx (own_mix ((q0 + q1) + q1)) (1 : Int64))), .second] [])) _
      refine XS.iconst X51.here hx rfl (hb hby at_104) ?_
      show Steps p.tables e below (T51.setTop (mkF m 105 #[.val (.long q0), .second, .val (.long q1), .second, .val (.long q2), .second, .val (.int p3), .val (.long (1 : Int64)), .second, .val (.ref b3), .val (.long (own_nx (own_mix q0) (1 : Int64))), .second, .val (.long (own_nx (own_mix (q0 + q1)) (1 : Int64))), .second, .val (.long (own_nx (own_mix ((q0 + q1) + q1)) (1 : Int64))), .second] [(.int (1 : Int32))])) _
      refine XS.goto X51.here hx rfl (pc0 := 105) (pc' := 109) rfl (hb hby at_105) (by decide) (by decide) ?_
      show Steps p.tables e below (T51.setTop (mkF m 109 #[.val (.long q0), .second, .val (.long q1), .second, .val (.long q2), .second, .val (.int p3), .val (.long (1 : Int64)), .second, .val (.ref b3), .val (.long (own_nx (own_mix q0) (1 : Int64))), .second, .val (.long (own_nx (own_mix (q0 + q1)) (1 : Int64))), .second, .val (.long (own_nx (own_mix ((q0 + q1) + q1)) (1 : Int64))), .second] [(.int (1 : Int32))])) _
      exact retN X51 hx (t := .boolean) Bd.returns (by simp) (hb hby at_109) hr
    · show own_Q0 n0 _ T51.heap _
      rw [e51]
      exact ⟨rfl, N51⟩
  · obtain ⟨T52, h52, X52, e52, E52, A52, D52, U52, st52⟩ := newO X0 hx hZ hown (hw _ (List.mem_of_getElem? (i := 1) rfl)) (hw _ (List.mem_of_getElem? (i := 2) rfl)) (hw _ (List.mem_of_getElem? (i := 3) rfl)) e0 (g := (mkF m 24 #[.val (.long q0), .second, .val (.long q1), .second, .val (.long q2), .second, .val (.int p3), .val (.long (((q2 &&& (9223372036854775807 : Int64)).toUInt64 >>> ((p3 &&& (63 : Int32)) &&& 0x3f).toInt64.toUInt64).toInt64)), .second, .unset, .unset, .unset, .unset, .unset, .unset, .unset] [])) rfl (hb hby at_24) (by decide) (by decide)
    obtain ⟨b52, g52⟩ : ∃ z, z = h0.size := ⟨_, rfl⟩
    rw [← g52] at A52 D52 U52 st52
    have o52 : n0 ≤ b52 := Nat.le_trans Z0 (Nat.le_of_eq g52.symm)
    have z52 : h0.size ≤ b52 := Nat.le_trans (Keep.refl h0 []).1 (Nat.le_of_eq g52.symm)
    have K52 : Keep h0 h52 [] := (Keep.refl h0 []).ext E52
    have f53 : Fld Z h52 b52 "com/example/keys_to_bits/keystobits/Probes" "step" "J" (.long (0 : Int64)) := D52 (Or.inr (hw _ (List.mem_of_getElem? (i := 32) rfl))) (ty := .long) (by decide)
    have f54 : Fld Z h52 b52 "com/example/keys_to_bits/keystobits/Probes" "cells" "J" (.long (0 : Int64)) := D52 (Or.inr (hw _ (List.mem_of_getElem? (i := 34) rfl))) (ty := .long) (by decide)
    have f55 : Fld Z h52 b52 "com/example/keys_to_bits/keystobits/Probes" "start" "J" (.long (0 : Int64)) := D52 (Or.inl (hw _ (List.mem_of_getElem? (i := 41) rfl))) (ty := .long) (by decide)
    have f56 : n0 ≤ h52.size := (Nat.le_trans Z0 E52.1)
    obtain ⟨T57, h57, X57, e57, E57, A57, D57, U57, st57⟩ := newO X52 hx hZ hown (hw _ (List.mem_of_getElem? (i := 4) rfl)) (hw _ (List.mem_of_getElem? (i := 5) rfl)) (hw _ (List.mem_of_getElem? (i := 6) rfl)) e52 (g := (mkF m 28 #[.val (.long q0), .second, .val (.long q1), .second, .val (.long q2), .second, .val (.int p3), .val (.long (((q2 &&& (9223372036854775807 : Int64)).toUInt64 >>> ((p3 &&& (63 : Int32)) &&& 0x3f).toInt64.toUInt64).toInt64)), .second, .unset, .unset, .unset, .unset, .unset, .unset, .unset] [(.ref b52), (.ref b52)])) rfl (hb hby at_28) (by decide) (by decide)
    obtain ⟨b57, g57⟩ : ∃ z, z = h52.size := ⟨_, rfl⟩
    rw [← g57] at A57 D57 U57 st57
    have ne58 : b52 ≠ b57 := Nat.ne_of_lt (Nat.lt_of_lt_of_le A52.lt (Nat.le_of_eq g57.symm))
    have o57 : n0 ≤ b57 := Nat.le_trans f56 (Nat.le_of_eq g57.symm)
    have z57 : h0.size ≤ b57 := Nat.le_trans K52.1 (Nat.le_of_eq g57.symm)
    have K57 : Keep h0 h57 [] := K52.ext E57
    have f59 : Fld Z h57 b57 "com/example/keys_to_bits/keystobits/Murmur3$Hash128" "h1" "J" (.long (0 : Int64)) := D57 (Or.inr (hw _ (List.mem_of_getElem? (i := 19) rfl))) (ty := .long) (by decide)
    have f60 : Fld Z h57 b57 "com/example/keys_to_bits/keystobits/Murmur3$Hash128" "h2" "J" (.long (0 : Int64)) := D57 (Or.inr (hw _ (List.mem_of_getElem? (i := 21) rfl))) (ty := .long) (by decide)
    have f61 : n0 ≤ h57.size := (Nat.le_trans f56 E57.1)
    obtain ⟨_, _, ⟨T62, L62, k62, n62⟩, -, X62, ⟨Lc62, hQ62, l62, y62, z62⟩, st62⟩ := X57.specialBack hx (y := (⟨"com/example/keys_to_bits/keystobits/Murmur3$Hash128", "<init>", "(JJ)V"⟩ : MethodName)) rfl hown (mvT hZ (hw _ (List.mem_of_getElem? (i := 7) rfl))) (mvT hZ (hw _ (List.mem_of_getElem? (i := 8) rfl))) (mvT hZ (hw _ (List.mem_of_getElem? (i := 9) rfl))) (by decide) (backOf (W := 3) (rmHI l Z a0 hw [] b57 q0 q1 h57 n0 f61 A57 f59 f60 o57) hZ (hw _ (List.mem_of_getElem? (i := 9) rfl)) (hw _ (List.mem_of_getElem? (i := 6) rfl)) (by decide) (by decide)) (g := (mkF m 34 #[.val (.long q0), .second, .val (.long q1), .second, .val (.long q2), .second, .val (.int p3), .val (.long (((q2 &&& (9223372036854775807 : Int64)).toUInt64 >>> ((p3 &&& (63 : Int32)) &&& 0x3f).toInt64.toUInt64).toInt64)), .second, .unset, .unset, .unset, .unset, .unset, .unset, .unset] [(.long q1), (.long q0), (.ref b57), (.ref b57), (.ref b52), (.ref b52)])) rfl (by rw [hml]; rfl) (Steps.refl _) (a := b57) (argsL := [(.long q0), (.long q1)]) (rest := [(.ref b57), (.ref b52), (.ref b52)]) (lenOf pd__JJ_V rfl) rfl (by show 2 * 0 + _ ≤ _; exact Nat.le_of_eq rfl) (hb hby at_34) (fun _ _ => ⟨rfl, e57, (by decide : 2 + 0 ≤ _), (by decide : 5 + 0 ≤ _)⟩)
    dsimp only [Pt.U, Pt.locs, Pt.cells, Pt.slots] at X62 l62 y62 z62 st62 hQ62
    subst l62 y62 z62
    obtain ⟨rfl, N62q, K62, f63, f64, f65⟩ := hQ62
    have KK62 : Keep h0 T62.heap [] := Keep.trans K57 K62 (allS (Or.inr z57) all0)
    have N62 := Fr.app N0 N62q
    have f66 : Exa Z T62.heap b52 "com/example/keys_to_bits/keystobits/Probes" := ((A52.ext E57).keep K62)
    have f67 : Fld Z T62.heap b52 "com/example/keys_to_bits/keystobits/Probes" "step" "J" (.long (0 : Int64)) := ((f53.ext E57).keep K62 (ninS ne58 nin0))
    have f68 : Fld Z T62.heap b52 "com/example/keys_to_bits/keystobits/Probes" "cells" "J" (.long (0 : Int64)) := ((f54.ext E57).keep K62 (ninS ne58 nin0))
    have f69 : Fld Z T62.heap b52 "com/example/keys_to_bits/keystobits/Probes" "start" "J" (.long (0 : Int64)) := ((f55.ext E57).keep K62 (ninS ne58 nin0))
    have f70 : n0 ≤ T62.heap.size := (Nat.le_trans f61 K62.1)
    obtain ⟨_, _, ⟨T71, L71, k71, n71⟩, -, X71, ⟨Lc71, hQ71, l71, y71, z71⟩, st71⟩ := X62.specialBack hx (y := (⟨"com/example/keys_to_bits/keystobits/Probes", "<init>", "(Lcom/example/keys_to_bits/keystobits/Murmur3$Hash128;J)V"⟩ : MethodName)) rfl hown (mvT hZ (hw _ (List.mem_of_getElem? (i := 22) rfl))) (mvT hZ (hw _ (List.mem_of_getElem? (i := 23) rfl))) (mvT hZ (hw _ (List.mem_of_getElem? (i := 24) rfl))) (by decide) (backOf (W := 1) (rmPI l Z a0 hw [] b52 b57 (((q2 &&& (9223372036854775807 : Int64)).toUInt64 >>> ((p3 &&& (63 : Int32)) &&& 0x3f).toInt64.toUInt64).toInt64) q0 q1 T62.heap n0 f70 f66 f67 f68 f69 f63 f64 f65 (Ne.symm ne58) o52) hZ (hw _ (List.mem_of_getElem? (i := 24) rfl)) (hw _ (List.mem_of_getElem? (i := 3) rfl)) (by decide) (by decide)) (g := (mkF m 39 #[.val (.long q0), .second, .val (.long q1), .second, .val (.long q2), .second, .val (.int p3), .val (.long (((q2 &&& (9223372036854775807 : Int64)).toUInt64 >>> ((p3 &&& (63 : Int32)) &&& 0x3f).toInt64.toUInt64).toInt64)), .second, .unset, .unset, .unset, .unset, .unset, .unset, .unset] [(.long (((q2 &&& (9223372036854775807 : Int64)).toUInt64 >>> ((p3 &&& (63 : Int32)) &&& 0x3f).toInt64.toUInt64).toInt64)), (.ref b57), (.ref b52), (.ref b52)])) rfl (by rw [hml]; rfl) (Steps.refl _) (a := b52) (argsL := [(.ref b57), (.long (((q2 &&& (9223372036854775807 : Int64)).toUInt64 >>> ((p3 &&& (63 : Int32)) &&& 0x3f).toInt64.toUInt64).toInt64))]) (rest := [(.ref b52)]) (lenOf pd__Lcom_example_keys_to_bits_keystobits_Murmur3_Hash128_J_V rfl) rfl (by show 2 * 0 + _ ≤ _; exact Nat.le_of_eq rfl) (hb hby at_39) (fun _ _ => ⟨rfl, rfl, (by decide : 2 + 0 ≤ _), (by decide : 5 + 0 ≤ _)⟩)
    dsimp only [Pt.U, Pt.locs, Pt.cells, Pt.slots] at X71 l71 y71 z71 st71 hQ71
    subst l71 y71 z71
    obtain ⟨rfl, N71q, K71, f72, f73, f74, f75⟩ := hQ71
    have KK71 : Keep h0 T71.heap [] := Keep.trans KK62 K71 (allS (Or.inr z52) all0)
    have N71 := Fr.app N62 N71q
    have f76 : n0 ≤ T71.heap.size := (Nat.le_trans f70 K71.1)
    obtain ⟨cq78, kq78, q78a, q78b, q78c⟩ := isOf hZ rfl f72
    obtain ⟨_, _, ⟨T77, L77, k77, n77⟩, -, X77, ⟨Lc77, hQ77, l77, y77, z77⟩, st77⟩ := X71.virtualBack hx (y := (⟨"com/example/keys_to_bits/keystobits/Probes", "next", "()J"⟩ : MethodName)) (z := (⟨"com/example/keys_to_bits/keystobits/Probes", "next", "()J"⟩ : MethodName)) hown (mvT hZ (hw _ (List.mem_of_getElem? (i := 42) rfl))) (mvT hZ (hw _ (List.mem_of_getElem? (i := 43) rfl))) (notFace_of_selects (args := #[]) (mvT hZ (hw _ (List.mem_of_getElem? (i := 45) rfl)))) (mvT hZ (hw _ (List.mem_of_getElem? (i := 45) rfl))) (mvT hZ (hw _ (List.mem_of_getElem? (i := 44) rfl))) (by decide) (backOf (W := 0) (rmNx l Z a0 hw [] b52 q0 q1 (((q2 &&& (9223372036854775807 : Int64)).toUInt64 >>> ((p3 &&& (63 : Int32)) &&& 0x3f).toInt64.toUInt64).toInt64) T71.heap n0 f76 f72 f73 f74 f75 o52) hZ (hw _ (List.mem_of_getElem? (i := 46) rfl)) (hw _ (List.mem_of_getElem? (i := 3) rfl)) (by decide) (by decide)) q78a q78c (g := (mkF m 46 #[.val (.long q0), .second, .val (.long q1), .second, .val (.long q2), .second, .val (.int p3), .val (.long (((q2 &&& (9223372036854775807 : Int64)).toUInt64 >>> ((p3 &&& (63 : Int32)) &&& 0x3f).toInt64.toUInt64).toInt64)), .second, .val (.ref b52), .unset, .unset, .unset, .unset, .unset, .unset] [(.ref b52)])) rfl (by rw [hml]; rfl) (Steps.refl _) (argsL := []) (rest := []) (lenOf pd___J rfl) rfl (by show 2 * 0 + _ ≤ _; exact Nat.le_of_eq rfl) (hb hby at_46) (fun _ _ => ⟨rfl, rfl, (by decide : 2 + 0 ≤ _), (by decide : 5 + 0 ≤ _)⟩)
    dsimp only [Pt.U, Pt.locs, Pt.cells, Pt.slots] at X77 l77 y77 z77 st77 hQ77
    subst l77 y77 z77
    obtain ⟨rfl, N77q, K77, f79, f80, f81, f82⟩ := hQ77
    have KK77 : Keep h0 T77.heap [] := Keep.trans KK71 K77 (allS (Or.inr z52) all0)
    have N77 := Fr.app N71 N77q
    have f83 : n0 ≤ T77.heap.size := (Nat.le_trans f76 K77.1)
    obtain ⟨cq85, kq85, q85a, q85b, q85c⟩ := isOf hZ rfl f79
    obtain ⟨_, _, ⟨T84, L84, k84, n84⟩, -, X84, ⟨Lc84, hQ84, l84, y84, z84⟩, st84⟩ := X77.virtualBack hx (y := (⟨"com/example/keys_to_bits/keystobits/Probes", "next", "()J"⟩ : MethodName)) (z := (⟨"com/example/keys_to_bits/keystobits/Probes", "next", "()J"⟩ : MethodName)) hown (mvT hZ (hw _ (List.mem_of_getElem? (i := 42) rfl))) (mvT hZ (hw _ (List.mem_of_getElem? (i := 43) rfl))) (notFace_of_selects (args := #[]) (mvT hZ (hw _ (List.mem_of_getElem? (i := 45) rfl)))) (mvT hZ (hw _ (List.mem_of_getElem? (i := 45) rfl))) (mvT hZ (hw _ (List.mem_of_getElem? (i := 44) rfl))) (by decide) (backOf (W := 0) (rmNx l Z a0 hw [] b52 (q0 + q1) q1 (((q2 &&& (9223372036854775807 : Int64)).toUInt64 >>> ((p3 &&& (63 : Int32)) &&& 0x3f).toInt64.toUInt64).toInt64) T77.heap n0 f83 f79 f80 f81 f82 o52) hZ (hw _ (List.mem_of_getElem? (i := 46) rfl)) (hw _ (List.mem_of_getElem? (i := 3) rfl)) (by decide) (by decide)) q85a q85c (g := (mkF m 53 #[.val (.long q0), .second, .val (.long q1), .second, .val (.long q2), .second, .val (.int p3), .val (.long (((q2 &&& (9223372036854775807 : Int64)).toUInt64 >>> ((p3 &&& (63 : Int32)) &&& 0x3f).toInt64.toUInt64).toInt64)), .second, .val (.ref b52), .val (.long (own_nx (own_mix q0) (((q2 &&& (9223372036854775807 : Int64)).toUInt64 >>> ((p3 &&& (63 : Int32)) &&& 0x3f).toInt64.toUInt64).toInt64))), .second, .unset, .unset, .unset, .unset] [(.ref b52)])) rfl (by rw [hml]; rfl) (Steps.refl _) (argsL := []) (rest := []) (lenOf pd___J rfl) rfl (by show 2 * 0 + _ ≤ _; exact Nat.le_of_eq rfl) (hb hby at_53) (fun _ _ => ⟨rfl, rfl, (by decide : 2 + 0 ≤ _), (by decide : 5 + 0 ≤ _)⟩)
    dsimp only [Pt.U, Pt.locs, Pt.cells, Pt.slots] at X84 l84 y84 z84 st84 hQ84
    subst l84 y84 z84
    obtain ⟨rfl, N84q, K84, f86, f87, f88, f89⟩ := hQ84
    have KK84 : Keep h0 T84.heap [] := Keep.trans KK77 K84 (allS (Or.inr z52) all0)
    have N84 := Fr.app N77 N84q
    have f90 : n0 ≤ T84.heap.size := (Nat.le_trans f83 K84.1)
    obtain ⟨cq92, kq92, q92a, q92b, q92c⟩ := isOf hZ rfl f86
    obtain ⟨_, _, ⟨T91, L91, k91, n91⟩, -, X91, ⟨Lc91, hQ91, l91, y91, z91⟩, st91⟩ := X84.virtualBack hx (y := (⟨"com/example/keys_to_bits/keystobits/Probes", "next", "()J"⟩ : MethodName)) (z := (⟨"com/example/keys_to_bits/keystobits/Probes", "next", "()J"⟩ : MethodName)) hown (mvT hZ (hw _ (List.mem_of_getElem? (i := 42) rfl))) (mvT hZ (hw _ (List.mem_of_getElem? (i := 43) rfl))) (notFace_of_selects (args := #[]) (mvT hZ (hw _ (List.mem_of_getElem? (i := 45) rfl)))) (mvT hZ (hw _ (List.mem_of_getElem? (i := 45) rfl))) (mvT hZ (hw _ (List.mem_of_getElem? (i := 44) rfl))) (by decide) (backOf (W := 0) (rmNx l Z a0 hw [] b52 ((q0 + q1) + q1) q1 (((q2 &&& (9223372036854775807 : Int64)).toUInt64 >>> ((p3 &&& (63 : Int32)) &&& 0x3f).toInt64.toUInt64).toInt64) T84.heap n0 f90 f86 f87 f88 f89 o52) hZ (hw _ (List.mem_of_getElem? (i := 46) rfl)) (hw _ (List.mem_of_getElem? (i := 3) rfl)) (by decide) (by decide)) q92a q92c (g := (mkF m 60 #[.val (.long q0), .second, .val (.long q1), .second, .val (.long q2), .second, .val (.int p3), .val (.long (((q2 &&& (9223372036854775807 : Int64)).toUInt64 >>> ((p3 &&& (63 : Int32)) &&& 0x3f).toInt64.toUInt64).toInt64)), .second, .val (.ref b52), .val (.long (own_nx (own_mix q0) (((q2 &&& (9223372036854775807 : Int64)).toUInt64 >>> ((p3 &&& (63 : Int32)) &&& 0x3f).toInt64.toUInt64).toInt64))), .second, .val (.long (own_nx (own_mix (q0 + q1)) (((q2 &&& (9223372036854775807 : Int64)).toUInt64 >>> ((p3 &&& (63 : Int32)) &&& 0x3f).toInt64.toUInt64).toInt64))), .second, .unset, .unset] [(.ref b52)])) rfl (by rw [hml]; rfl) (Steps.refl _) (argsL := []) (rest := []) (lenOf pd___J rfl) rfl (by show 2 * 0 + _ ≤ _; exact Nat.le_of_eq rfl) (hb hby at_60) (fun _ _ => ⟨rfl, rfl, (by decide : 2 + 0 ≤ _), (by decide : 5 + 0 ≤ _)⟩)
    dsimp only [Pt.U, Pt.locs, Pt.cells, Pt.slots] at X91 l91 y91 z91 st91 hQ91
    subst l91 y91 z91
    obtain ⟨rfl, N91q, K91, f93, f94, f95, f96⟩ := hQ91
    have KK91 : Keep h0 T91.heap [] := Keep.trans KK84 K91 (allS (Or.inr z52) all0)
    have N91 := Fr.app N84 N91q
    have f97 : n0 ≤ T91.heap.size := (Nat.le_trans f90 K91.1)
    obtain ⟨_, _, ⟨T98, L98, k98, n98⟩, -, X98, ⟨Lc98, hQ98, l98, y98, z98⟩, st98⟩ := Jvm.LawKit.callS X91 hx (y := (⟨"com/example/keys_to_bits/keystobits/ProbesNextPinLaw", "ok", "(JJJ)Z"⟩ : MethodName)) hown (mvT hZ (hw _ (List.mem_of_getElem? (i := 54) rfl))) (mvT hZ (hw _ (List.mem_of_getElem? (i := 55) rfl))) (mvT hZ (hw _ (List.mem_of_getElem? (i := 56) rfl))) (mvT hZ (hw _ (List.mem_of_getElem? (i := 57) rfl))) (by decide) (backOf (W := 0) (rmOk l Z a0 hw [] q0 (((q2 &&& (9223372036854775807 : Int64)).toUInt64 >>> ((p3 &&& (63 : Int32)) &&& 0x3f).toInt64.toUInt64).toInt64) T91.heap n0 f97 (own_cpos hc18_1)) hZ (hw _ (List.mem_of_getElem? (i := 57) rfl)) (hw _ (List.mem_of_getElem? (i := 56) rfl)) (by decide) (by decide)) (g := (mkF m 70 #[.val (.long q0), .second, .val (.long q1), .second, .val (.long q2), .second, .val (.int p3), .val (.long (((q2 &&& (9223372036854775807 : Int64)).toUInt64 >>> ((p3 &&& (63 : Int32)) &&& 0x3f).toInt64.toUInt64).toInt64)), .second, .val (.ref b52), .val (.long (own_nx (own_mix q0) (((q2 &&& (9223372036854775807 : Int64)).toUInt64 >>> ((p3 &&& (63 : Int32)) &&& 0x3f).toInt64.toUInt64).toInt64))), .second, .val (.long (own_nx (own_mix (q0 + q1)) (((q2 &&& (9223372036854775807 : Int64)).toUInt64 >>> ((p3 &&& (63 : Int32)) &&& 0x3f).toInt64.toUInt64).toInt64))), .second, .val (.long (own_nx (own_mix ((q0 + q1) + q1)) (((q2 &&& (9223372036854775807 : Int64)).toUInt64 >>> ((p3 &&& (63 : Int32)) &&& 0x3f).toInt64.toUInt64).toInt64))), .second] [(.long (((q2 &&& (9223372036854775807 : Int64)).toUInt64 >>> ((p3 &&& (63 : Int32)) &&& 0x3f).toInt64.toUInt64).toInt64)), (.long q0), (.long (own_nx (own_mix q0) (((q2 &&& (9223372036854775807 : Int64)).toUInt64 >>> ((p3 &&& (63 : Int32)) &&& 0x3f).toInt64.toUInt64).toInt64)))])) rfl (by rw [hml]; rfl) (argsL := [(.long (own_nx (own_mix q0) (((q2 &&& (9223372036854775807 : Int64)).toUInt64 >>> ((p3 &&& (63 : Int32)) &&& 0x3f).toInt64.toUInt64).toInt64))), (.long q0), (.long (((q2 &&& (9223372036854775807 : Int64)).toUInt64 >>> ((p3 &&& (63 : Int32)) &&& 0x3f).toInt64.toUInt64).toInt64))]) (rest := []) (lenOf pd__JJJ_Z rfl) rfl (by show 2 * 0 + _ ≤ _; exact Nat.le_of_eq rfl) (hb hby at_70) (fun _ _ => ⟨rfl, rfl, (by decide : 2 + 0 ≤ _), (by decide : 5 + 0 ≤ _)⟩)
    dsimp only [Pt.U, Pt.locs, Pt.cells, Pt.slots] at X98 l98 y98 z98 st98 hQ98
    subst l98 y98 z98
    obtain ⟨rfl, N98q, e98⟩ := hQ98
    have N98 := Fr.app N91 N98q
    obtain ⟨_, _, ⟨T99, L99, k99, n99⟩, -, X99, ⟨Lc99, hQ99, l99, y99, z99⟩, st99⟩ := Jvm.LawKit.callS X98 hx (y := (⟨"com/example/keys_to_bits/keystobits/ProbesNextPinLaw", "ok", "(JJJ)Z"⟩ : MethodName)) hown (mvT hZ (hw _ (List.mem_of_getElem? (i := 54) rfl))) (mvT hZ (hw _ (List.mem_of_getElem? (i := 55) rfl))) (mvT hZ (hw _ (List.mem_of_getElem? (i := 56) rfl))) (mvT hZ (hw _ (List.mem_of_getElem? (i := 57) rfl))) (by decide) (backOf (W := 0) (rmOk l Z a0 hw [] (q0 + q1) (((q2 &&& (9223372036854775807 : Int64)).toUInt64 >>> ((p3 &&& (63 : Int32)) &&& 0x3f).toInt64.toUInt64).toInt64) T91.heap n0 f97 (own_cpos hc18_1)) hZ (hw _ (List.mem_of_getElem? (i := 57) rfl)) (hw _ (List.mem_of_getElem? (i := 56) rfl)) (by decide) (by decide)) (g := (mkF m 83 #[.val (.long q0), .second, .val (.long q1), .second, .val (.long q2), .second, .val (.int p3), .val (.long (((q2 &&& (9223372036854775807 : Int64)).toUInt64 >>> ((p3 &&& (63 : Int32)) &&& 0x3f).toInt64.toUInt64).toInt64)), .second, .val (.ref b52), .val (.long (own_nx (own_mix q0) (((q2 &&& (9223372036854775807 : Int64)).toUInt64 >>> ((p3 &&& (63 : Int32)) &&& 0x3f).toInt64.toUInt64).toInt64))), .second, .val (.long (own_nx (own_mix (q0 + q1)) (((q2 &&& (9223372036854775807 : Int64)).toUInt64 >>> ((p3 &&& (63 : Int32)) &&& 0x3f).toInt64.toUInt64).toInt64))), .second, .val (.long (own_nx (own_mix ((q0 + q1) + q1)) (((q2 &&& (9223372036854775807 : Int64)).toUInt64 >>> ((p3 &&& (63 : Int32)) &&& 0x3f).toInt64.toUInt64).toInt64))), .second] [(.long (((q2 &&& (9223372036854775807 : Int64)).toUInt64 >>> ((p3 &&& (63 : Int32)) &&& 0x3f).toInt64.toUInt64).toInt64)), (.long (q0 + q1)), (.long (own_nx (own_mix (q0 + q1)) (((q2 &&& (9223372036854775807 : Int64)).toUInt64 >>> ((p3 &&& (63 : Int32)) &&& 0x3f).toInt64.toUInt64).toInt64)))])) rfl (by rw [hml]; rfl) (argsL := [(.long (own_nx (own_mix (q0 + q1)) (((q2 &&& (9223372036854775807 : Int64)).toUInt64 >>> ((p3 &&& (63 : Int32)) &&& 0x3f).toInt64.toUInt64).toInt64))), (.long (q0 + q1)), (.long (((q2 &&& (9223372036854775807 : Int64)).toUInt64 >>> ((p3 &&& (63 : Int32)) &&& 0x3f).toInt64.toUInt64).toInt64))]) (rest := []) (lenOf pd__JJJ_Z rfl) rfl (by show 2 * 0 + _ ≤ _; exact Nat.le_of_eq rfl) (hb hby at_83) (fun _ _ => ⟨rfl, e98, (by decide : 2 + 0 ≤ _), (by decide : 5 + 0 ≤ _)⟩)
    dsimp only [Pt.U, Pt.locs, Pt.cells, Pt.slots] at X99 l99 y99 z99 st99 hQ99
    subst l99 y99 z99
    obtain ⟨rfl, N99q, e99⟩ := hQ99
    have N99 := Fr.app N98 N99q
    obtain ⟨_, _, ⟨T100, L100, k100, n100⟩, -, X100, ⟨Lc100, hQ100, l100, y100, z100⟩, st100⟩ := Jvm.LawKit.callS X99 hx (y := (⟨"com/example/keys_to_bits/keystobits/ProbesNextPinLaw", "ok", "(JJJ)Z"⟩ : MethodName)) hown (mvT hZ (hw _ (List.mem_of_getElem? (i := 54) rfl))) (mvT hZ (hw _ (List.mem_of_getElem? (i := 55) rfl))) (mvT hZ (hw _ (List.mem_of_getElem? (i := 56) rfl))) (mvT hZ (hw _ (List.mem_of_getElem? (i := 57) rfl))) (by decide) (backOf (W := 0) (rmOk l Z a0 hw [] ((q0 + q1) + q1) (((q2 &&& (9223372036854775807 : Int64)).toUInt64 >>> ((p3 &&& (63 : Int32)) &&& 0x3f).toInt64.toUInt64).toInt64) T91.heap n0 f97 (own_cpos hc18_1)) hZ (hw _ (List.mem_of_getElem? (i := 57) rfl)) (hw _ (List.mem_of_getElem? (i := 56) rfl)) (by decide) (by decide)) (g := (mkF m 98 #[.val (.long q0), .second, .val (.long q1), .second, .val (.long q2), .second, .val (.int p3), .val (.long (((q2 &&& (9223372036854775807 : Int64)).toUInt64 >>> ((p3 &&& (63 : Int32)) &&& 0x3f).toInt64.toUInt64).toInt64)), .second, .val (.ref b52), .val (.long (own_nx (own_mix q0) (((q2 &&& (9223372036854775807 : Int64)).toUInt64 >>> ((p3 &&& (63 : Int32)) &&& 0x3f).toInt64.toUInt64).toInt64))), .second, .val (.long (own_nx (own_mix (q0 + q1)) (((q2 &&& (9223372036854775807 : Int64)).toUInt64 >>> ((p3 &&& (63 : Int32)) &&& 0x3f).toInt64.toUInt64).toInt64))), .second, .val (.long (own_nx (own_mix ((q0 + q1) + q1)) (((q2 &&& (9223372036854775807 : Int64)).toUInt64 >>> ((p3 &&& (63 : Int32)) &&& 0x3f).toInt64.toUInt64).toInt64))), .second] [(.long (((q2 &&& (9223372036854775807 : Int64)).toUInt64 >>> ((p3 &&& (63 : Int32)) &&& 0x3f).toInt64.toUInt64).toInt64)), (.long ((q0 + q1) + q1)), (.long (own_nx (own_mix ((q0 + q1) + q1)) (((q2 &&& (9223372036854775807 : Int64)).toUInt64 >>> ((p3 &&& (63 : Int32)) &&& 0x3f).toInt64.toUInt64).toInt64)))])) rfl (by rw [hml]; rfl) (argsL := [(.long (own_nx (own_mix ((q0 + q1) + q1)) (((q2 &&& (9223372036854775807 : Int64)).toUInt64 >>> ((p3 &&& (63 : Int32)) &&& 0x3f).toInt64.toUInt64).toInt64))), (.long ((q0 + q1) + q1)), (.long (((q2 &&& (9223372036854775807 : Int64)).toUInt64 >>> ((p3 &&& (63 : Int32)) &&& 0x3f).toInt64.toUInt64).toInt64))]) (rest := []) (lenOf pd__JJJ_Z rfl) rfl (by show 2 * 0 + _ ≤ _; exact Nat.le_of_eq rfl) (hb hby at_98) (fun _ _ => ⟨rfl, e99, (by decide : 2 + 0 ≤ _), (by decide : 5 + 0 ≤ _)⟩)
    dsimp only [Pt.U, Pt.locs, Pt.cells, Pt.slots] at X100 l100 y100 z100 st100 hQ100
    subst l100 y100 z100
    obtain ⟨rfl, N100q, e100⟩ := hQ100
    have N100 := Fr.app N99 N100q
    obtain ⟨fs, hr, hrun, hended, hW, hsame⟩ := X100.leave (v := some (.int (1 : Int32))) (fun h => by rw [Bd.returns] at h; cases h)
    refine ⟨_, _, pre2 _ ?_, hrun, hended, _, _, rfl, ?_, ⟨_, rfl⟩, hW, hsame.mono (by decide) (by decide)⟩
    · show Steps p.tables e below (s₁.setTop (mkF m 18 #[.val (.long q0), .second, .val (.long q1), .second, .val (.long q2), .second, .val (.int p3), .val (.long (((q2 &&& (9223372036854775807 : Int64)).toUInt64 >>> ((p3 &&& (63 : Int32)) &&& 0x3f).toInt64.toUInt64).toInt64)), .second, .unset, .unset, .unset, .unset, .unset, .unset, .unset] [(.int (lcmpW (((q2 &&& (9223372036854775807 : Int64)).toUInt64 >>> ((p3 &&& (63 : Int32)) &&& 0x3f).toInt64.toUInt64).toInt64) (0 : Int64)))])) _
      refine XS.ifYes X0.here hx rfl (pc0 := 18) (pc' := 24) rfl (hb hby at_18) rfl ((if0 _ _).trans (feq (fun qq => hc18_1 ((lw_eq _ _).mp qq))).2) (by decide) (by decide) ?_
      show Steps p.tables e below (s₁.setTop (mkF m 24 #[.val (.long q0), .second, .val (.long q1), .second, .val (.long q2), .second, .val (.int p3), .val (.long (((q2 &&& (9223372036854775807 : Int64)).toUInt64 >>> ((p3 &&& (63 : Int32)) &&& 0x3f).toInt64.toUInt64).toInt64)), .second, .unset, .unset, .unset, .unset, .unset, .unset, .unset] [])) _
      refine st52 _ ?_
      show Steps p.tables e below (T52.setTop (mkF m 27 #[.val (.long q0), .second, .val (.long q1), .second, .val (.long q2), .second, .val (.int p3), .val (.long (((q2 &&& (9223372036854775807 : Int64)).toUInt64 >>> ((p3 &&& (63 : Int32)) &&& 0x3f).toInt64.toUInt64).toInt64)), .second, .unset, .unset, .unset, .unset, .unset, .unset, .unset] [(.ref b52)])) _
      refine XS.dup X52.here hx rfl (hb hby at_27) rfl rfl ?_
      show Steps p.tables e below (T52.setTop (mkF m 28 #[.val (.long q0), .second, .val (.long q1), .second, .val (.long q2), .second, .val (.int p3), .val (.long (((q2 &&& (9223372036854775807 : Int64)).toUInt64 >>> ((p3 &&& (63 : Int32)) &&& 0x3f).toInt64.toUInt64).toInt64)), .second, .unset, .unset, .unset, .unset, .unset, .unset, .unset] [(.ref b52), (.ref b52)])) _
      refine st57 _ ?_
      show Steps p.tables e below (T57.setTop (mkF m 31 #[.val (.long q0), .second, .val (.long q1), .second, .val (.long q2), .second, .val (.int p3), .val (.long (((q2 &&& (9223372036854775807 : Int64)).toUInt64 >>> ((p3 &&& (63 : Int32)) &&& 0x3f).toInt64.toUInt64).toInt64)), .second, .unset, .unset, .unset, .unset, .unset, .unset, .unset] [(.ref b57), (.ref b52), (.ref b52)])) _
      refine XS.dup X57.here hx rfl (hb hby at_31) rfl rfl ?_
      show Steps p.tables e below (T57.setTop (mkF m 32 #[.val (.long q0), .second, .val (.long q1), .second, .val (.long q2), .second, .val (.int p3), .val (.long (((q2 &&& (9223372036854775807 : Int64)).toUInt64 >>> ((p3 &&& (63 : Int32)) &&& 0x3f).toInt64.toUInt64).toInt64)), .second, .unset, .unset, .unset, .unset, .unset, .unset, .unset] [(.ref b57), (.ref b57), (.ref b52), (.ref b52)])) _
      refine XS.lloadN X57.here hx rfl (hb hby at_32) rfl ?_
      show Steps p.tables e below (T57.setTop (mkF m 33 #[.val (.long q0), .second, .val (.long q1), .second, .val (.long q2), .second, .val (.int p3), .val (.long (((q2 &&& (9223372036854775807 : Int64)).toUInt64 >>> ((p3 &&& (63 : Int32)) &&& 0x3f).toInt64.toUInt64).toInt64)), .second, .unset, .unset, .unset, .unset, .unset, .unset, .unset] [(.long q0), (.ref b57), (.ref b57), (.ref b52), (.ref b52)])) _
      refine XS.lloadN X57.here hx rfl (hb hby at_33) rfl ?_
      show Steps p.tables e below (T57.setTop (mkF m 34 #[.val (.long q0), .second, .val (.long q1), .second, .val (.long q2), .second, .val (.int p3), .val (.long (((q2 &&& (9223372036854775807 : Int64)).toUInt64 >>> ((p3 &&& (63 : Int32)) &&& 0x3f).toInt64.toUInt64).toInt64)), .second, .unset, .unset, .unset, .unset, .unset, .unset, .unset] [(.long q1), (.long q0), (.ref b57), (.ref b57), (.ref b52), (.ref b52)])) _
      refine st62.trans ?_
      show Steps p.tables e below (T62.setTop (mkF m 37 #[.val (.long q0), .second, .val (.long q1), .second, .val (.long q2), .second, .val (.int p3), .val (.long (((q2 &&& (9223372036854775807 : Int64)).toUInt64 >>> ((p3 &&& (63 : Int32)) &&& 0x3f).toInt64.toUInt64).toInt64)), .second, .unset, .unset, .unset, .unset, .unset, .unset, .unset] [(.ref b57), (.ref b52), (.ref b52)])) _
      refine XS.lload X62.here hx rfl (hb hby at_37) rfl ?_
      show Steps p.tables e below (T62.setTop (mkF m 39 #[.val (.long q0), .second, .val (.long q1), .second, .val (.long q2), .second, .val (.int p3), .val (.long (((q2 &&& (9223372036854775807 : Int64)).toUInt64 >>> ((p3 &&& (63 : Int32)) &&& 0x3f).toInt64.toUInt64).toInt64)), .second, .unset, .unset, .unset, .unset, .unset, .unset, .unset] [(.long (((q2 &&& (9223372036854775807 : Int64)).toUInt64 >>> ((p3 &&& (63 : Int32)) &&& 0x3f).toInt64.toUInt64).toInt64)), (.ref b57), (.ref b52), (.ref b52)])) _
      refine st71.trans ?_
      show Steps p.tables e below (T71.setTop (mkF m 42 #[.val (.long q0), .second, .val (.long q1), .second, .val (.long q2), .second, .val (.int p3), .val (.long (((q2 &&& (9223372036854775807 : Int64)).toUInt64 >>> ((p3 &&& (63 : Int32)) &&& 0x3f).toInt64.toUInt64).toInt64)), .second, .unset, .unset, .unset, .unset, .unset, .unset, .unset] [(.ref b52)])) _
      refine XS.astore X71.here hx rfl (hb hby at_42) rfl rfl (l' := #[.val (.long q0), .second, .val (.long q1), .second, .val (.long q2), .second, .val (.int p3), .val (.long (((q2 &&& (9223372036854775807 : Int64)).toUInt64 >>> ((p3 &&& (63 : Int32)) &&& 0x3f).toInt64.toUInt64).toInt64)), .second, .val (.ref b52), .unset, .unset, .unset, .unset, .unset, .unset]) rfl ?_
      show Steps p.tables e below (T71.setTop (mkF m 44 #[.val (.long q0), .second, .val (.long q1), .second, .val (.long q2), .second, .val (.int p3), .val (.long (((q2 &&& (9223372036854775807 : Int64)).toUInt64 >>> ((p3 &&& (63 : Int32)) &&& 0x3f).toInt64.toUInt64).toInt64)), .second, .val (.ref b52), .unset, .unset, .unset, .unset, .unset, .unset] [])) _
      refine XS.aload X71.here hx rfl (hb hby at_44) rfl rfl ?_
      show Steps p.tables e below (T71.setTop (mkF m 46 #[.val (.long q0), .second, .val (.long q1), .second, .val (.long q2), .second, .val (.int p3), .val (.long (((q2 &&& (9223372036854775807 : Int64)).toUInt64 >>> ((p3 &&& (63 : Int32)) &&& 0x3f).toInt64.toUInt64).toInt64)), .second, .val (.ref b52), .unset, .unset, .unset, .unset, .unset, .unset] [(.ref b52)])) _
      refine st77.trans ?_
      show Steps p.tables e below (T77.setTop (mkF m 49 #[.val (.long q0), .second, .val (.long q1), .second, .val (.long q2), .second, .val (.int p3), .val (.long (((q2 &&& (9223372036854775807 : Int64)).toUInt64 >>> ((p3 &&& (63 : Int32)) &&& 0x3f).toInt64.toUInt64).toInt64)), .second, .val (.ref b52), .unset, .unset, .unset, .unset, .unset, .unset] [(.long (own_nx (own_mix q0) (((q2 &&& (9223372036854775807 : Int64)).toUInt64 >>> ((p3 &&& (63 : Int32)) &&& 0x3f).toInt64.toUInt64).toInt64)))])) _
      refine XS.lstore X77.here hx rfl (hb hby at_49) rfl (l' := #[.val (.long q0), .second, .val (.long q1), .second, .val (.long q2), .second, .val (.int p3), .val (.long (((q2 &&& (9223372036854775807 : Int64)).toUInt64 >>> ((p3 &&& (63 : Int32)) &&& 0x3f).toInt64.toUInt64).toInt64)), .second, .val (.ref b52), .val (.long (own_nx (own_mix q0) (((q2 &&& (9223372036854775807 : Int64)).toUInt64 >>> ((p3 &&& (63 : Int32)) &&& 0x3f).toInt64.toUInt64).toInt64))), .second, .unset, .unset, .unset, .unset]) rfl ?_
      show Steps p.tables e below (T77.setTop (mkF m 51 #[.val (.long q0), .second, .val (.long q1), .second, .val (.long q2), .second, .val (.int p3), .val (.long (((q2 &&& (9223372036854775807 : Int64)).toUInt64 >>> ((p3 &&& (63 : Int32)) &&& 0x3f).toInt64.toUInt64).toInt64)), .second, .val (.ref b52), .val (.long (own_nx (own_mix q0) (((q2 &&& (9223372036854775807 : Int64)).toUInt64 >>> ((p3 &&& (63 : Int32)) &&& 0x3f).toInt64.toUInt64).toInt64))), .second, .unset, .unset, .unset, .unset] [])) _
      refine XS.aload X77.here hx rfl (hb hby at_51) rfl rfl ?_
      show Steps p.tables e below (T77.setTop (mkF m 53 #[.val (.long q0), .second, .val (.long q1), .second, .val (.long q2), .second, .val (.int p3), .val (.long (((q2 &&& (9223372036854775807 : Int64)).toUInt64 >>> ((p3 &&& (63 : Int32)) &&& 0x3f).toInt64.toUInt64).toInt64)), .second, .val (.ref b52), .val (.long (own_nx (own_mix q0) (((q2 &&& (9223372036854775807 : Int64)).toUInt64 >>> ((p3 &&& (63 : Int32)) &&& 0x3f).toInt64.toUInt64).toInt64))), .second, .unset, .unset, .unset, .unset] [(.ref b52)])) _
      refine st84.trans ?_
      show Steps p.tables e below (T84.setTop (mkF m 56 #[.val (.long q0), .second, .val (.long q1), .second, .val (.long q2), .second, .val (.int p3), .val (.long (((q2 &&& (9223372036854775807 : Int64)).toUInt64 >>> ((p3 &&& (63 : Int32)) &&& 0x3f).toInt64.toUInt64).toInt64)), .second, .val (.ref b52), .val (.long (own_nx (own_mix q0) (((q2 &&& (9223372036854775807 : Int64)).toUInt64 >>> ((p3 &&& (63 : Int32)) &&& 0x3f).toInt64.toUInt64).toInt64))), .second, .unset, .unset, .unset, .unset] [(.long (own_nx (own_mix (q0 + q1)) (((q2 &&& (9223372036854775807 : Int64)).toUInt64 >>> ((p3 &&& (63 : Int32)) &&& 0x3f).toInt64.toUInt64).toInt64)))])) _
      refine XS.lstore X84.here hx rfl (hb hby at_56) rfl (l' := #[.val (.long q0), .second, .val (.long q1), .second, .val (.long q2), .second, .val (.int p3), .val (.long (((q2 &&& (9223372036854775807 : Int64)).toUInt64 >>> ((p3 &&& (63 : Int32)) &&& 0x3f).toInt64.toUInt64).toInt64)), .second, .val (.ref b52), .val (.long (own_nx (own_mix q0) (((q2 &&& (9223372036854775807 : Int64)).toUInt64 >>> ((p3 &&& (63 : Int32)) &&& 0x3f).toInt64.toUInt64).toInt64))), .second, .val (.long (own_nx (own_mix (q0 + q1)) (((q2 &&& (9223372036854775807 : Int64)).toUInt64 >>> ((p3 &&& (63 : Int32)) &&& 0x3f).toInt64.toUInt64).toInt64))), .second, .unset, .unset]) rfl ?_
      show Steps p.tables e below (T84.setTop (mkF m 58 #[.val (.long q0), .second, .val (.long q1), .second, .val (.long q2), .second, .val (.int p3), .val (.long (((q2 &&& (9223372036854775807 : Int64)).toUInt64 >>> ((p3 &&& (63 : Int32)) &&& 0x3f).toInt64.toUInt64).toInt64)), .second, .val (.ref b52), .val (.long (own_nx (own_mix q0) (((q2 &&& (9223372036854775807 : Int64)).toUInt64 >>> ((p3 &&& (63 : Int32)) &&& 0x3f).toInt64.toUInt64).toInt64))), .second, .val (.long (own_nx (own_mix (q0 + q1)) (((q2 &&& (9223372036854775807 : Int64)).toUInt64 >>> ((p3 &&& (63 : Int32)) &&& 0x3f).toInt64.toUInt64).toInt64))), .second, .unset, .unset] [])) _
      refine XS.aload X84.here hx rfl (hb hby at_58) rfl rfl ?_
      show Steps p.tables e below (T84.setTop (mkF m 60 #[.val (.long q0), .second, .val (.long q1), .second, .val (.long q2), .second, .val (.int p3), .val (.long (((q2 &&& (9223372036854775807 : Int64)).toUInt64 >>> ((p3 &&& (63 : Int32)) &&& 0x3f).toInt64.toUInt64).toInt64)), .second, .val (.ref b52), .val (.long (own_nx (own_mix q0) (((q2 &&& (9223372036854775807 : Int64)).toUInt64 >>> ((p3 &&& (63 : Int32)) &&& 0x3f).toInt64.toUInt64).toInt64))), .second, .val (.long (own_nx (own_mix (q0 + q1)) (((q2 &&& (9223372036854775807 : Int64)).toUInt64 >>> ((p3 &&& (63 : Int32)) &&& 0x3f).toInt64.toUInt64).toInt64))), .second, .unset, .unset] [(.ref b52)])) _
      refine st91.trans ?_
      show Steps p.tables e below (T91.setTop (mkF m 63 #[.val (.long q0), .second, .val (.long q1), .second, .val (.long q2), .second, .val (.int p3), .val (.long (((q2 &&& (9223372036854775807 : Int64)).toUInt64 >>> ((p3 &&& (63 : Int32)) &&& 0x3f).toInt64.toUInt64).toInt64)), .second, .val (.ref b52), .val (.long (own_nx (own_mix q0) (((q2 &&& (9223372036854775807 : Int64)).toUInt64 >>> ((p3 &&& (63 : Int32)) &&& 0x3f).toInt64.toUInt64).toInt64))), .second, .val (.long (own_nx (own_mix (q0 + q1)) (((q2 &&& (9223372036854775807 : Int64)).toUInt64 >>> ((p3 &&& (63 : Int32)) &&& 0x3f).toInt64.toUInt64).toInt64))), .second, .unset, .unset] [(.long (own_nx (own_mix ((q0 + q1) + q1)) (((q2 &&& (9223372036854775807 : Int64)).toUInt64 >>> ((p3 &&& (63 : Int32)) &&& 0x3f).toInt64.toUInt64).toInt64)))])) _
      refine XS.lstore X91.here hx rfl (hb hby at_63) rfl (l' := #[.val (.long q0), .second, .val (.long q1), .second, .val (.long q2), .second, .val (.int p3), .val (.long (((q2 &&& (9223372036854775807 : Int64)).toUInt64 >>> ((p3 &&& (63 : Int32)) &&& 0x3f).toInt64.toUInt64).toInt64)), .second, .val (.ref b52), .val (.long (own_nx (own_mix q0) (((q2 &&& (9223372036854775807 : Int64)).toUInt64 >>> ((p3 &&& (63 : Int32)) &&& 0x3f).toInt64.toUInt64).toInt64))), .second, .val (.long (own_nx (own_mix (q0 + q1)) (((q2 &&& (9223372036854775807 : Int64)).toUInt64 >>> ((p3 &&& (63 : Int32)) &&& 0x3f).toInt64.toUInt64).toInt64))), .second, .val (.long (own_nx (own_mix ((q0 + q1) + q1)) (((q2 &&& (9223372036854775807 : Int64)).toUInt64 >>> ((p3 &&& (63 : Int32)) &&& 0x3f).toInt64.toUInt64).toInt64))), .second]) rfl ?_
      show Steps p.tables e below (T91.setTop (mkF m 65 #[.val (.long q0), .second, .val (.long q1), .second, .val (.long q2), .second, .val (.int p3), .val (.long (((q2 &&& (9223372036854775807 : Int64)).toUInt64 >>> ((p3 &&& (63 : Int32)) &&& 0x3f).toInt64.toUInt64).toInt64)), .second, .val (.ref b52), .val (.long (own_nx (own_mix q0) (((q2 &&& (9223372036854775807 : Int64)).toUInt64 >>> ((p3 &&& (63 : Int32)) &&& 0x3f).toInt64.toUInt64).toInt64))), .second, .val (.long (own_nx (own_mix (q0 + q1)) (((q2 &&& (9223372036854775807 : Int64)).toUInt64 >>> ((p3 &&& (63 : Int32)) &&& 0x3f).toInt64.toUInt64).toInt64))), .second, .val (.long (own_nx (own_mix ((q0 + q1) + q1)) (((q2 &&& (9223372036854775807 : Int64)).toUInt64 >>> ((p3 &&& (63 : Int32)) &&& 0x3f).toInt64.toUInt64).toInt64))), .second] [])) _
      refine XS.lload X91.here hx rfl (hb hby at_65) rfl ?_
      show Steps p.tables e below (T91.setTop (mkF m 67 #[.val (.long q0), .second, .val (.long q1), .second, .val (.long q2), .second, .val (.int p3), .val (.long (((q2 &&& (9223372036854775807 : Int64)).toUInt64 >>> ((p3 &&& (63 : Int32)) &&& 0x3f).toInt64.toUInt64).toInt64)), .second, .val (.ref b52), .val (.long (own_nx (own_mix q0) (((q2 &&& (9223372036854775807 : Int64)).toUInt64 >>> ((p3 &&& (63 : Int32)) &&& 0x3f).toInt64.toUInt64).toInt64))), .second, .val (.long (own_nx (own_mix (q0 + q1)) (((q2 &&& (9223372036854775807 : Int64)).toUInt64 >>> ((p3 &&& (63 : Int32)) &&& 0x3f).toInt64.toUInt64).toInt64))), .second, .val (.long (own_nx (own_mix ((q0 + q1) + q1)) (((q2 &&& (9223372036854775807 : Int64)).toUInt64 >>> ((p3 &&& (63 : Int32)) &&& 0x3f).toInt64.toUInt64).toInt64))), .second] [(.long (own_nx (own_mix q0) (((q2 &&& (9223372036854775807 : Int64)).toUInt64 >>> ((p3 &&& (63 : Int32)) &&& 0x3f).toInt64.toUInt64).toInt64)))])) _
      refine XS.lloadN X91.here hx rfl (hb hby at_67) rfl ?_
      show Steps p.tables e below (T91.setTop (mkF m 68 #[.val (.long q0), .second, .val (.long q1), .second, .val (.long q2), .second, .val (.int p3), .val (.long (((q2 &&& (9223372036854775807 : Int64)).toUInt64 >>> ((p3 &&& (63 : Int32)) &&& 0x3f).toInt64.toUInt64).toInt64)), .second, .val (.ref b52), .val (.long (own_nx (own_mix q0) (((q2 &&& (9223372036854775807 : Int64)).toUInt64 >>> ((p3 &&& (63 : Int32)) &&& 0x3f).toInt64.toUInt64).toInt64))), .second, .val (.long (own_nx (own_mix (q0 + q1)) (((q2 &&& (9223372036854775807 : Int64)).toUInt64 >>> ((p3 &&& (63 : Int32)) &&& 0x3f).toInt64.toUInt64).toInt64))), .second, .val (.long (own_nx (own_mix ((q0 + q1) + q1)) (((q2 &&& (9223372036854775807 : Int64)).toUInt64 >>> ((p3 &&& (63 : Int32)) &&& 0x3f).toInt64.toUInt64).toInt64))), .second] [(.long q0), (.long (own_nx (own_mix q0) (((q2 &&& (9223372036854775807 : Int64)).toUInt64 >>> ((p3 &&& (63 : Int32)) &&& 0x3f).toInt64.toUInt64).toInt64)))])) _
      refine XS.lload X91.here hx rfl (hb hby at_68) rfl ?_
      show Steps p.tables e below (T91.setTop (mkF m 70 #[.val (.long q0), .second, .val (.long q1), .second, .val (.long q2), .second, .val (.int p3), .val (.long (((q2 &&& (9223372036854775807 : Int64)).toUInt64 >>> ((p3 &&& (63 : Int32)) &&& 0x3f).toInt64.toUInt64).toInt64)), .second, .val (.ref b52), .val (.long (own_nx (own_mix q0) (((q2 &&& (9223372036854775807 : Int64)).toUInt64 >>> ((p3 &&& (63 : Int32)) &&& 0x3f).toInt64.toUInt64).toInt64))), .second, .val (.long (own_nx (own_mix (q0 + q1)) (((q2 &&& (9223372036854775807 : Int64)).toUInt64 >>> ((p3 &&& (63 : Int32)) &&& 0x3f).toInt64.toUInt64).toInt64))), .second, .val (.long (own_nx (own_mix ((q0 + q1) + q1)) (((q2 &&& (9223372036854775807 : Int64)).toUInt64 >>> ((p3 &&& (63 : Int32)) &&& 0x3f).toInt64.toUInt64).toInt64))), .second] [(.long (((q2 &&& (9223372036854775807 : Int64)).toUInt64 >>> ((p3 &&& (63 : Int32)) &&& 0x3f).toInt64.toUInt64).toInt64)), (.long q0), (.long (own_nx (own_mix q0) (((q2 &&& (9223372036854775807 : Int64)).toUInt64 >>> ((p3 &&& (63 : Int32)) &&& 0x3f).toInt64.toUInt64).toInt64)))])) _
      refine st98 _ ?_
      show Steps p.tables e below (T98.setTop (mkF m 73 #[.val (.long q0), .second, .val (.long q1), .second, .val (.long q2), .second, .val (.int p3), .val (.long (((q2 &&& (9223372036854775807 : Int64)).toUInt64 >>> ((p3 &&& (63 : Int32)) &&& 0x3f).toInt64.toUInt64).toInt64)), .second, .val (.ref b52), .val (.long (own_nx (own_mix q0) (((q2 &&& (9223372036854775807 : Int64)).toUInt64 >>> ((p3 &&& (63 : Int32)) &&& 0x3f).toInt64.toUInt64).toInt64))), .second, .val (.long (own_nx (own_mix (q0 + q1)) (((q2 &&& (9223372036854775807 : Int64)).toUInt64 >>> ((p3 &&& (63 : Int32)) &&& 0x3f).toInt64.toUInt64).toInt64))), .second, .val (.long (own_nx (own_mix ((q0 + q1) + q1)) (((q2 &&& (9223372036854775807 : Int64)).toUInt64 >>> ((p3 &&& (63 : Int32)) &&& 0x3f).toInt64.toUInt64).toInt64))), .second] [(.int (1 : Int32))])) _
      refine XS.ifNo X98.here hx rfl (hb hby at_73) rfl ((if0 _ _).trans (feq (by decide : ¬ ((1 : Int32) = (0 : Int32)))).1) ?_
      show Steps p.tables e below (T98.setTop (mkF m 76 #[.val (.long q0), .second, .val (.long q1), .second, .val (.long q2), .second, .val (.int p3), .val (.long (((q2 &&& (9223372036854775807 : Int64)).toUInt64 >>> ((p3 &&& (63 : Int32)) &&& 0x3f).toInt64.toUInt64).toInt64)), .second, .val (.ref b52), .val (.long (own_nx (own_mix q0) (((q2 &&& (9223372036854775807 : Int64)).toUInt64 >>> ((p3 &&& (63 : Int32)) &&& 0x3f).toInt64.toUInt64).toInt64))), .second, .val (.long (own_nx (own_mix (q0 + q1)) (((q2 &&& (9223372036854775807 : Int64)).toUInt64 >>> ((p3 &&& (63 : Int32)) &&& 0x3f).toInt64.toUInt64).toInt64))), .second, .val (.long (own_nx (own_mix ((q0 + q1) + q1)) (((q2 &&& (9223372036854775807 : Int64)).toUInt64 >>> ((p3 &&& (63 : Int32)) &&& 0x3f).toInt64.toUInt64).toInt64))), .second] [])) _
      refine XS.lload X98.here hx rfl (hb hby at_76) rfl ?_
      show Steps p.tables e below (T98.setTop (mkF m 78 #[.val (.long q0), .second, .val (.long q1), .second, .val (.long q2), .second, .val (.int p3), .val (.long (((q2 &&& (9223372036854775807 : Int64)).toUInt64 >>> ((p3 &&& (63 : Int32)) &&& 0x3f).toInt64.toUInt64).toInt64)), .second, .val (.ref b52), .val (.long (own_nx (own_mix q0) (((q2 &&& (9223372036854775807 : Int64)).toUInt64 >>> ((p3 &&& (63 : Int32)) &&& 0x3f).toInt64.toUInt64).toInt64))), .second, .val (.long (own_nx (own_mix (q0 + q1)) (((q2 &&& (9223372036854775807 : Int64)).toUInt64 >>> ((p3 &&& (63 : Int32)) &&& 0x3f).toInt64.toUInt64).toInt64))), .second, .val (.long (own_nx (own_mix ((q0 + q1) + q1)) (((q2 &&& (9223372036854775807 : Int64)).toUInt64 >>> ((p3 &&& (63 : Int32)) &&& 0x3f).toInt64.toUInt64).toInt64))), .second] [(.long (own_nx (own_mix (q0 + q1)) (((q2 &&& (9223372036854775807 : Int64)).toUInt64 >>> ((p3 &&& (63 : Int32)) &&& 0x3f).toInt64.toUInt64).toInt64)))])) _
      refine XS.lloadN X98.here hx rfl (hb hby at_78) rfl ?_
      show Steps p.tables e below (T98.setTop (mkF m 79 #[.val (.long q0), .second, .val (.long q1), .second, .val (.long q2), .second, .val (.int p3), .val (.long (((q2 &&& (9223372036854775807 : Int64)).toUInt64 >>> ((p3 &&& (63 : Int32)) &&& 0x3f).toInt64.toUInt64).toInt64)), .second, .val (.ref b52), .val (.long (own_nx (own_mix q0) (((q2 &&& (9223372036854775807 : Int64)).toUInt64 >>> ((p3 &&& (63 : Int32)) &&& 0x3f).toInt64.toUInt64).toInt64))), .second, .val (.long (own_nx (own_mix (q0 + q1)) (((q2 &&& (9223372036854775807 : Int64)).toUInt64 >>> ((p3 &&& (63 : Int32)) &&& 0x3f).toInt64.toUInt64).toInt64))), .second, .val (.long (own_nx (own_mix ((q0 + q1) + q1)) (((q2 &&& (9223372036854775807 : Int64)).toUInt64 >>> ((p3 &&& (63 : Int32)) &&& 0x3f).toInt64.toUInt64).toInt64))), .second] [(.long q0), (.long (own_nx (own_mix (q0 + q1)) (((q2 &&& (9223372036854775807 : Int64)).toUInt64 >>> ((p3 &&& (63 : Int32)) &&& 0x3f).toInt64.toUInt64).toInt64)))])) _
      refine XS.lloadN X98.here hx rfl (hb hby at_79) rfl ?_
      show Steps p.tables e below (T98.setTop (mkF m 80 #[.val (.long q0), .second, .val (.long q1), .second, .val (.long q2), .second, .val (.int p3), .val (.long (((q2 &&& (9223372036854775807 : Int64)).toUInt64 >>> ((p3 &&& (63 : Int32)) &&& 0x3f).toInt64.toUInt64).toInt64)), .second, .val (.ref b52), .val (.long (own_nx (own_mix q0) (((q2 &&& (9223372036854775807 : Int64)).toUInt64 >>> ((p3 &&& (63 : Int32)) &&& 0x3f).toInt64.toUInt64).toInt64))), .second, .val (.long (own_nx (own_mix (q0 + q1)) (((q2 &&& (9223372036854775807 : Int64)).toUInt64 >>> ((p3 &&& (63 : Int32)) &&& 0x3f).toInt64.toUInt64).toInt64))), .second, .val (.long (own_nx (own_mix ((q0 + q1) + q1)) (((q2 &&& (9223372036854775807 : Int64)).toUInt64 >>> ((p3 &&& (63 : Int32)) &&& 0x3f).toInt64.toUInt64).toInt64))), .second] [(.long q1), (.long q0), (.long (own_nx (own_mix (q0 + q1)) (((q2 &&& (9223372036854775807 : Int64)).toUInt64 >>> ((p3 &&& (63 : Int32)) &&& 0x3f).toInt64.toUInt64).toInt64)))])) _
      refine XS.ladd X98.here hx rfl (hb hby at_80) rfl ?_
      show Steps p.tables e below (T98.setTop (mkF m 81 #[.val (.long q0), .second, .val (.long q1), .second, .val (.long q2), .second, .val (.int p3), .val (.long (((q2 &&& (9223372036854775807 : Int64)).toUInt64 >>> ((p3 &&& (63 : Int32)) &&& 0x3f).toInt64.toUInt64).toInt64)), .second, .val (.ref b52), .val (.long (own_nx (own_mix q0) (((q2 &&& (9223372036854775807 : Int64)).toUInt64 >>> ((p3 &&& (63 : Int32)) &&& 0x3f).toInt64.toUInt64).toInt64))), .second, .val (.long (own_nx (own_mix (q0 + q1)) (((q2 &&& (9223372036854775807 : Int64)).toUInt64 >>> ((p3 &&& (63 : Int32)) &&& 0x3f).toInt64.toUInt64).toInt64))), .second, .val (.long (own_nx (own_mix ((q0 + q1) + q1)) (((q2 &&& (9223372036854775807 : Int64)).toUInt64 >>> ((p3 &&& (63 : Int32)) &&& 0x3f).toInt64.toUInt64).toInt64))), .second] [(.long (q0 + q1)), (.long (own_nx (own_mix (q0 + q1)) (((q2 &&& (9223372036854775807 : Int64)).toUInt64 >>> ((p3 &&& (63 : Int32)) &&& 0x3f).toInt64.toUInt64).toInt64)))])) _
      refine XS.lload X98.here hx rfl (hb hby at_81) rfl ?_
      show Steps p.tables e below (T98.setTop (mkF m 83 #[.val (.long q0), .second, .val (.long q1), .second, .val (.long q2), .second, .val (.int p3), .val (.long (((q2 &&& (9223372036854775807 : Int64)).toUInt64 >>> ((p3 &&& (63 : Int32)) &&& 0x3f).toInt64.toUInt64).toInt64)), .second, .val (.ref b52), .val (.long (own_nx (own_mix q0) (((q2 &&& (9223372036854775807 : Int64)).toUInt64 >>> ((p3 &&& (63 : Int32)) &&& 0x3f).toInt64.toUInt64).toInt64))), .second, .val (.long (own_nx (own_mix (q0 + q1)) (((q2 &&& (9223372036854775807 : Int64)).toUInt64 >>> ((p3 &&& (63 : Int32)) &&& 0x3f).toInt64.toUInt64).toInt64))), .second, .val (.long (own_nx (own_mix ((q0 + q1) + q1)) (((q2 &&& (9223372036854775807 : Int64)).toUInt64 >>> ((p3 &&& (63 : Int32)) &&& 0x3f).toInt64.toUInt64).toInt64))), .second] [(.long (((q2 &&& (9223372036854775807 : Int64)).toUInt64 >>> ((p3 &&& (63 : Int32)) &&& 0x3f).toInt64.toUInt64).toInt64)), (.long (q0 + q1)), (.long (own_nx (own_mix (q0 + q1)) (((q2 &&& (9223372036854775807 : Int64)).toUInt64 >>> ((p3 &&& (63 : Int32)) &&& 0x3f).toInt64.toUInt64).toInt64)))])) _
      refine st99 _ ?_
      show Steps p.tables e below (T99.setTop (mkF m 86 #[.val (.long q0), .second, .val (.long q1), .second, .val (.long q2), .second, .val (.int p3), .val (.long (((q2 &&& (9223372036854775807 : Int64)).toUInt64 >>> ((p3 &&& (63 : Int32)) &&& 0x3f).toInt64.toUInt64).toInt64)), .second, .val (.ref b52), .val (.long (own_nx (own_mix q0) (((q2 &&& (9223372036854775807 : Int64)).toUInt64 >>> ((p3 &&& (63 : Int32)) &&& 0x3f).toInt64.toUInt64).toInt64))), .second, .val (.long (own_nx (own_mix (q0 + q1)) (((q2 &&& (9223372036854775807 : Int64)).toUInt64 >>> ((p3 &&& (63 : Int32)) &&& 0x3f).toInt64.toUInt64).toInt64))), .second, .val (.long (own_nx (own_mix ((q0 + q1) + q1)) (((q2 &&& (9223372036854775807 : Int64)).toUInt64 >>> ((p3 &&& (63 : Int32)) &&& 0x3f).toInt64.toUInt64).toInt64))), .second] [(.int (1 : Int32))])) _
      refine XS.ifNo X99.here hx rfl (hb hby at_86) rfl ((if0 _ _).trans (feq (by decide : ¬ ((1 : Int32) = (0 : Int32)))).1) ?_
      show Steps p.tables e below (T99.setTop (mkF m 89 #[.val (.long q0), .second, .val (.long q1), .second, .val (.long q2), .second, .val (.int p3), .val (.long (((q2 &&& (9223372036854775807 : Int64)).toUInt64 >>> ((p3 &&& (63 : Int32)) &&& 0x3f).toInt64.toUInt64).toInt64)), .second, .val (.ref b52), .val (.long (own_nx (own_mix q0) (((q2 &&& (9223372036854775807 : Int64)).toUInt64 >>> ((p3 &&& (63 : Int32)) &&& 0x3f).toInt64.toUInt64).toInt64))), .second, .val (.long (own_nx (own_mix (q0 + q1)) (((q2 &&& (9223372036854775807 : Int64)).toUInt64 >>> ((p3 &&& (63 : Int32)) &&& 0x3f).toInt64.toUInt64).toInt64))), .second, .val (.long (own_nx (own_mix ((q0 + q1) + q1)) (((q2 &&& (9223372036854775807 : Int64)).toUInt64 >>> ((p3 &&& (63 : Int32)) &&& 0x3f).toInt64.toUInt64).toInt64))), .second] [])) _
      refine XS.lload X99.here hx rfl (hb hby at_89) rfl ?_
      show Steps p.tables e below (T99.setTop (mkF m 91 #[.val (.long q0), .second, .val (.long q1), .second, .val (.long q2), .second, .val (.int p3), .val (.long (((q2 &&& (9223372036854775807 : Int64)).toUInt64 >>> ((p3 &&& (63 : Int32)) &&& 0x3f).toInt64.toUInt64).toInt64)), .second, .val (.ref b52), .val (.long (own_nx (own_mix q0) (((q2 &&& (9223372036854775807 : Int64)).toUInt64 >>> ((p3 &&& (63 : Int32)) &&& 0x3f).toInt64.toUInt64).toInt64))), .second, .val (.long (own_nx (own_mix (q0 + q1)) (((q2 &&& (9223372036854775807 : Int64)).toUInt64 >>> ((p3 &&& (63 : Int32)) &&& 0x3f).toInt64.toUInt64).toInt64))), .second, .val (.long (own_nx (own_mix ((q0 + q1) + q1)) (((q2 &&& (9223372036854775807 : Int64)).toUInt64 >>> ((p3 &&& (63 : Int32)) &&& 0x3f).toInt64.toUInt64).toInt64))), .second] [(.long (own_nx (own_mix ((q0 + q1) + q1)) (((q2 &&& (9223372036854775807 : Int64)).toUInt64 >>> ((p3 &&& (63 : Int32)) &&& 0x3f).toInt64.toUInt64).toInt64)))])) _
      refine XS.lloadN X99.here hx rfl (hb hby at_91) rfl ?_
      show Steps p.tables e below (T99.setTop (mkF m 92 #[.val (.long q0), .second, .val (.long q1), .second, .val (.long q2), .second, .val (.int p3), .val (.long (((q2 &&& (9223372036854775807 : Int64)).toUInt64 >>> ((p3 &&& (63 : Int32)) &&& 0x3f).toInt64.toUInt64).toInt64)), .second, .val (.ref b52), .val (.long (own_nx (own_mix q0) (((q2 &&& (9223372036854775807 : Int64)).toUInt64 >>> ((p3 &&& (63 : Int32)) &&& 0x3f).toInt64.toUInt64).toInt64))), .second, .val (.long (own_nx (own_mix (q0 + q1)) (((q2 &&& (9223372036854775807 : Int64)).toUInt64 >>> ((p3 &&& (63 : Int32)) &&& 0x3f).toInt64.toUInt64).toInt64))), .second, .val (.long (own_nx (own_mix ((q0 + q1) + q1)) (((q2 &&& (9223372036854775807 : Int64)).toUInt64 >>> ((p3 &&& (63 : Int32)) &&& 0x3f).toInt64.toUInt64).toInt64))), .second] [(.long q0), (.long (own_nx (own_mix ((q0 + q1) + q1)) (((q2 &&& (9223372036854775807 : Int64)).toUInt64 >>> ((p3 &&& (63 : Int32)) &&& 0x3f).toInt64.toUInt64).toInt64)))])) _
      refine XS.lloadN X99.here hx rfl (hb hby at_92) rfl ?_
      show Steps p.tables e below (T99.setTop (mkF m 93 #[.val (.long q0), .second, .val (.long q1), .second, .val (.long q2), .second, .val (.int p3), .val (.long (((q2 &&& (9223372036854775807 : Int64)).toUInt64 >>> ((p3 &&& (63 : Int32)) &&& 0x3f).toInt64.toUInt64).toInt64)), .second, .val (.ref b52), .val (.long (own_nx (own_mix q0) (((q2 &&& (9223372036854775807 : Int64)).toUInt64 >>> ((p3 &&& (63 : Int32)) &&& 0x3f).toInt64.toUInt64).toInt64))), .second, .val (.long (own_nx (own_mix (q0 + q1)) (((q2 &&& (9223372036854775807 : Int64)).toUInt64 >>> ((p3 &&& (63 : Int32)) &&& 0x3f).toInt64.toUInt64).toInt64))), .second, .val (.long (own_nx (own_mix ((q0 + q1) + q1)) (((q2 &&& (9223372036854775807 : Int64)).toUInt64 >>> ((p3 &&& (63 : Int32)) &&& 0x3f).toInt64.toUInt64).toInt64))), .second] [(.long q1), (.long q0), (.long (own_nx (own_mix ((q0 + q1) + q1)) (((q2 &&& (9223372036854775807 : Int64)).toUInt64 >>> ((p3 &&& (63 : Int32)) &&& 0x3f).toInt64.toUInt64).toInt64)))])) _
      refine XS.ladd X99.here hx rfl (hb hby at_93) rfl ?_
      show Steps p.tables e below (T99.setTop (mkF m 94 #[.val (.long q0), .second, .val (.long q1), .second, .val (.long q2), .second, .val (.int p3), .val (.long (((q2 &&& (9223372036854775807 : Int64)).toUInt64 >>> ((p3 &&& (63 : Int32)) &&& 0x3f).toInt64.toUInt64).toInt64)), .second, .val (.ref b52), .val (.long (own_nx (own_mix q0) (((q2 &&& (9223372036854775807 : Int64)).toUInt64 >>> ((p3 &&& (63 : Int32)) &&& 0x3f).toInt64.toUInt64).toInt64))), .second, .val (.long (own_nx (own_mix (q0 + q1)) (((q2 &&& (9223372036854775807 : Int64)).toUInt64 >>> ((p3 &&& (63 : Int32)) &&& 0x3f).toInt64.toUInt64).toInt64))), .second, .val (.long (own_nx (own_mix ((q0 + q1) + q1)) (((q2 &&& (9223372036854775807 : Int64)).toUInt64 >>> ((p3 &&& (63 : Int32)) &&& 0x3f).toInt64.toUInt64).toInt64))), .second] [(.long (q0 + q1)), (.long (own_nx (own_mix ((q0 + q1) + q1)) (((q2 &&& (9223372036854775807 : Int64)).toUInt64 >>> ((p3 &&& (63 : Int32)) &&& 0x3f).toInt64.toUInt64).toInt64)))])) _
      refine XS.lloadN X99.here hx rfl (hb hby at_94) rfl ?_
      show Steps p.tables e below (T99.setTop (mkF m 95 #[.val (.long q0), .second, .val (.long q1), .second, .val (.long q2), .second, .val (.int p3), .val (.long (((q2 &&& (9223372036854775807 : Int64)).toUInt64 >>> ((p3 &&& (63 : Int32)) &&& 0x3f).toInt64.toUInt64).toInt64)), .second, .val (.ref b52), .val (.long (own_nx (own_mix q0) (((q2 &&& (9223372036854775807 : Int64)).toUInt64 >>> ((p3 &&& (63 : Int32)) &&& 0x3f).toInt64.toUInt64).toInt64))), .second, .val (.long (own_nx (own_mix (q0 + q1)) (((q2 &&& (9223372036854775807 : Int64)).toUInt64 >>> ((p3 &&& (63 : Int32)) &&& 0x3f).toInt64.toUInt64).toInt64))), .second, .val (.long (own_nx (own_mix ((q0 + q1) + q1)) (((q2 &&& (9223372036854775807 : Int64)).toUInt64 >>> ((p3 &&& (63 : Int32)) &&& 0x3f).toInt64.toUInt64).toInt64))), .second] [(.long q1), (.long (q0 + q1)), (.long (own_nx (own_mix ((q0 + q1) + q1)) (((q2 &&& (9223372036854775807 : Int64)).toUInt64 >>> ((p3 &&& (63 : Int32)) &&& 0x3f).toInt64.toUInt64).toInt64)))])) _
      refine XS.ladd X99.here hx rfl (hb hby at_95) rfl ?_
      show Steps p.tables e below (T99.setTop (mkF m 96 #[.val (.long q0), .second, .val (.long q1), .second, .val (.long q2), .second, .val (.int p3), .val (.long (((q2 &&& (9223372036854775807 : Int64)).toUInt64 >>> ((p3 &&& (63 : Int32)) &&& 0x3f).toInt64.toUInt64).toInt64)), .second, .val (.ref b52), .val (.long (own_nx (own_mix q0) (((q2 &&& (9223372036854775807 : Int64)).toUInt64 >>> ((p3 &&& (63 : Int32)) &&& 0x3f).toInt64.toUInt64).toInt64))), .second, .val (.long (own_nx (own_mix (q0 + q1)) (((q2 &&& (9223372036854775807 : Int64)).toUInt64 >>> ((p3 &&& (63 : Int32)) &&& 0x3f).toInt64.toUInt64).toInt64))), .second, .val (.long (own_nx (own_mix ((q0 + q1) + q1)) (((q2 &&& (9223372036854775807 : Int64)).toUInt64 >>> ((p3 &&& (63 : Int32)) &&& 0x3f).toInt64.toUInt64).toInt64))), .second] [(.long ((q0 + q1) + q1)), (.long (own_nx (own_mix ((q0 + q1) + q1)) (((q2 &&& (9223372036854775807 : Int64)).toUInt64 >>> ((p3 &&& (63 : Int32)) &&& 0x3f).toInt64.toUInt64).toInt64)))])) _
      refine XS.lload X99.here hx rfl (hb hby at_96) rfl ?_
      show Steps p.tables e below (T99.setTop (mkF m 98 #[.val (.long q0), .second, .val (.long q1), .second, .val (.long q2), .second, .val (.int p3), .val (.long (((q2 &&& (9223372036854775807 : Int64)).toUInt64 >>> ((p3 &&& (63 : Int32)) &&& 0x3f).toInt64.toUInt64).toInt64)), .second, .val (.ref b52), .val (.long (own_nx (own_mix q0) (((q2 &&& (9223372036854775807 : Int64)).toUInt64 >>> ((p3 &&& (63 : Int32)) &&& 0x3f).toInt64.toUInt64).toInt64))), .second, .val (.long (own_nx (own_mix (q0 + q1)) (((q2 &&& (9223372036854775807 : Int64)).toUInt64 >>> ((p3 &&& (63 : Int32)) &&& 0x3f).toInt64.toUInt64).toInt64))), .second, .val (.long (own_nx (own_mix ((q0 + q1) + q1)) (((q2 &&& (9223372036854775807 : Int64)).toUInt64 >>> ((p3 &&& (63 : Int32)) &&& 0x3f).toInt64.toUInt64).toInt64))), .second] [(.long (((q2 &&& (9223372036854775807 : Int64)).toUInt64 >>> ((p3 &&& (63 : Int32)) &&& 0x3f).toInt64.toUInt64).toInt64)), (.long ((q0 + q1) + q1)), (.long (own_nx (own_mix ((q0 + q1) + q1)) (((q2 &&& (9223372036854775807 : Int64)).toUInt64 >>> ((p3 &&& (63 : Int32)) &&& 0x3f).toInt64.toUInt64).toInt64)))])) _
      refine st100 _ ?_
      show Steps p.tables e below (T100.setTop (mkF m 101 #[.val (.long q0), .second, .val (.long q1), .second, .val (.long q2), .second, .val (.int p3), .val (.long (((q2 &&& (9223372036854775807 : Int64)).toUInt64 >>> ((p3 &&& (63 : Int32)) &&& 0x3f).toInt64.toUInt64).toInt64)), .second, .val (.ref b52), .val (.long (own_nx (own_mix q0) (((q2 &&& (9223372036854775807 : Int64)).toUInt64 >>> ((p3 &&& (63 : Int32)) &&& 0x3f).toInt64.toUInt64).toInt64))), .second, .val (.long (own_nx (own_mix (q0 + q1)) (((q2 &&& (9223372036854775807 : Int64)).toUInt64 >>> ((p3 &&& (63 : Int32)) &&& 0x3f).toInt64.toUInt64).toInt64))), .second, .val (.long (own_nx (own_mix ((q0 + q1) + q1)) (((q2 &&& (9223372036854775807 : Int64)).toUInt64 >>> ((p3 &&& (63 : Int32)) &&& 0x3f).toInt64.toUInt64).toInt64))), .second] [(.int (1 : Int32))])) _
      refine XS.ifNo X100.here hx rfl (hb hby at_101) rfl ((if0 _ _).trans (feq (by decide : ¬ ((1 : Int32) = (0 : Int32)))).1) ?_
      show Steps p.tables e below (T100.setTop (mkF m 104 #[.val (.long q0), .second, .val (.long q1), .second, .val (.long q2), .second, .val (.int p3), .val (.long (((q2 &&& (9223372036854775807 : Int64)).toUInt64 >>> ((p3 &&& (63 : Int32)) &&& 0x3f).toInt64.toUInt64).toInt64)), .second, .val (.ref b52), .val (.long (own_nx (own_mix q0) (((q2 &&& (9223372036854775807 : Int64)).toUInt64 >>> ((p3 &&& (63 : Int32)) &&& 0x3f).toInt64.toUInt64).toInt64))), .second, .val (.long (own_nx (own_mix (q0 + q1)) (((q2 &&& (9223372036854775807 : Int64)).toUInt64 >>> ((p3 &&& (63 : Int32)) &&& 0x3f).toInt64.toUInt64).toInt64))), .second, .val (.long (own_nx (own_mix ((q0 + q1) + q1)) (((q2 &&& (9223372036854775807 : Int64)).toUInt64 >>> ((p3 &&& (63 : Int32)) &&& 0x3f).toInt64.toUInt64).toInt64))), .second] [])) _
      refine XS.iconst X100.here hx rfl (hb hby at_104) ?_
      show Steps p.tables e below (T100.setTop (mkF m 105 #[.val (.long q0), .second, .val (.long q1), .second, .val (.long q2), .second, .val (.int p3), .val (.long (((q2 &&& (9223372036854775807 : Int64)).toUInt64 >>> ((p3 &&& (63 : Int32)) &&& 0x3f).toInt64.toUInt64).toInt64)), .second, .val (.ref b52), .val (.long (own_nx (own_mix q0) (((q2 &&& (9223372036854775807 : Int64)).toUInt64 >>> ((p3 &&& (63 : Int32)) &&& 0x3f).toInt64.toUInt64).toInt64))), .second, .val (.long (own_nx (own_mix (q0 + q1)) (((q2 &&& (9223372036854775807 : Int64)).toUInt64 >>> ((p3 &&& (63 : Int32)) &&& 0x3f).toInt64.toUInt64).toInt64))), .second, .val (.long (own_nx (own_mix ((q0 + q1) + q1)) (((q2 &&& (9223372036854775807 : Int64)).toUInt64 >>> ((p3 &&& (63 : Int32)) &&& 0x3f).toInt64.toUInt64).toInt64))), .second] [(.int (1 : Int32))])) _
      refine XS.goto X100.here hx rfl (pc0 := 105) (pc' := 109) rfl (hb hby at_105) (by decide) (by decide) ?_
      show Steps p.tables e below (T100.setTop (mkF m 109 #[.val (.long q0), .second, .val (.long q1), .second, .val (.long q2), .second, .val (.int p3), .val (.long (((q2 &&& (9223372036854775807 : Int64)).toUInt64 >>> ((p3 &&& (63 : Int32)) &&& 0x3f).toInt64.toUInt64).toInt64)), .second, .val (.ref b52), .val (.long (own_nx (own_mix q0) (((q2 &&& (9223372036854775807 : Int64)).toUInt64 >>> ((p3 &&& (63 : Int32)) &&& 0x3f).toInt64.toUInt64).toInt64))), .second, .val (.long (own_nx (own_mix (q0 + q1)) (((q2 &&& (9223372036854775807 : Int64)).toUInt64 >>> ((p3 &&& (63 : Int32)) &&& 0x3f).toInt64.toUInt64).toInt64))), .second, .val (.long (own_nx (own_mix ((q0 + q1) + q1)) (((q2 &&& (9223372036854775807 : Int64)).toUInt64 >>> ((p3 &&& (63 : Int32)) &&& 0x3f).toInt64.toUInt64).toInt64))), .second] [(.int (1 : Int32))])) _
      exact retN X100 hx (t := .boolean) Bd.returns (by simp) (hb hby at_109) hr
    · show own_Q0 n0 _ T100.heap _
      rw [e100]
      exact ⟨rfl, N100⟩

set_option maxRecDepth 65536 in
set_option maxHeartbeats 40000000 in
theorem comes_1 {Post : Tables → Env → Array Value → State → Outcome → State → Prop} (hpost : ∀ tb e args s v u, (limb_1_1.after args s (.returned v) u = true ∧ limb_1_2.after args s (.returned v) u = true ∧ True) → FrameEnd s (.returned v) u (Jvm.fieldLocs frame_1_writes args s ++ Jvm.arrayLocs frame_1_arrays args s ++ Jvm.staticLocs frame_1_statics s) 16 128 → Post tb e args s (.returned v) u) :
    ArmFor flags0 classFile x code maxLocals ret World_1 tables_1 room_1 Calls_1 rest_1 Pre_1 Post := by
  intro l hfl _ _ p e ha hc hk s m args below hf hA hF happ hP
  obtain ⟨hcalls, hrest, hpre⟩ := hP
  obtain ⟨-, -, -, hnamed, -, -, -, hat⟩ := (Spec.applies_iff hf).mp happ
  obtain ⟨hg, hn⟩ := and_e (Cond.before_iff.mp (show (Jvm.Cond.and given_1 narrow_1).before args s = true from hpre))
  obtain ⟨g0, gr1⟩ := and_e hg
  obtain ⟨g1, gr2⟩ := and_e gr1
  obtain ⟨g2, gr3⟩ := and_e gr2
  obtain ⟨g3, g4⟩ := and_e gr3
  have k0 := hn
  obtain ⟨w0, w1, w2, w3, rfl⟩ : ∃ w0 w1 w2 w3 : Value, args = #[w0, w1, w2, w3] := by
    have hs : args.size = 4 := by simpa [Cond.value, given_1] using g0
    obtain ⟨L⟩ := args
    match L, hs with
    | [w0, w1, w2, w3], _ => exact ⟨w0, w1, w2, w3, rfl⟩
  have hw := fun d (hd : d ∈ tables_1) => atoms_spec (ws := Jvm.Cond.code x code maxLocals ret :: tables_1) hat d (List.mem_cons_of_mem _ hd)
  have hfit : Fit s := fun {y c} hc i hi => by
    obtain ⟨ha, rfl⟩ := Array.getElem?_eq_some_iff.mp hc
    have q := List.all_eq_true.mp ((Array.all_eq_true_iff_forall_mem.mp hF) _ (Array.getElem_mem ha)) i (List.mem_range.mpr hi)
    simpa [Array.getElem?_eq_getElem hi] using q
  obtain ⟨i0, ei0⟩ := isL_v g1
  obtain rfl : w0 = (.long i0) := Option.some.inj ei0
  obtain ⟨i1, ei1⟩ := isL_v g2
  obtain rfl : w1 = (.long i1) := Option.some.inj ei1
  obtain ⟨i2, ei2⟩ := isL_v g3
  obtain rfl : w2 = (.long i2) := Option.some.inj ei2
  obtain ⟨i3, ei3⟩ := is_v g4
  obtain rfl : w3 = (.int i3) := Option.some.inj ei3
  obtain ⟨n, o, h1, h2, h3, _, L, rfl, ⟨rfl, N⟩, hq⟩ := rm0 l s _ hw tables_1 i0 i1 i2 i3 s.heap s.heap.size (Nat.le_refl _)  p e ha hc hk s m _ below hf ((Spec.applies_iff_loose hf).mp happ).1 ⟨rfl, State.Warmed39.refl s, rfl⟩ trivial
  refine ⟨n, _, h1, h2, h3, hpost _ _ _ _ _ _ ⟨Cond.after_iff.mpr rfl, Cond.after_iff.mpr (eq_i res_at (Term.int_eval (1)) rfl), trivial⟩ ⟨hq.1, hq.2.1, (hq.2.2.sift fun y hy => Or.inr (N y hy)).mono (by decide) (by decide)⟩⟩
theorem main_1_1 : Claimed_1_1 := comes_1 fun _ _ _ _ _ _ h hF => ⟨h.1, hF⟩
theorem main_1_2 : Claimed_1_2 := comes_1 fun _ _ _ _ _ _ h hF => ⟨h.2.1, hF⟩
end Jvm.Pilot.@@N@@
namespace Jvm.Pilot.@@N@@
open Jvm Jvm.ClassFile Sem Op Lib Jvm.Free Jvm.Stand Jvm.Pilot.@@N@@.Jvm.D
/-! MADE BY PROGRAM (witnessworld.py) out of the Statement's table words and the real class files: 12 classes; the members and pool entries that the words name. The judged class is class 1, her method 4. -/
namespace start1
open Jvm.ClassFile
def u (s : String) : CpInfo := .utf8 (stringToUtf16 s)
/-- a pool by its gaps: so many unusable entries, then the entry; so many at the end -/
def gap : Nat → List CpInfo → List CpInfo
  | 0, r => r
  | n + 1, r => .unusable :: gap n r
def poolList (es : List (Nat × CpInfo)) (last : Nat) : List CpInfo := es.foldr (fun e r => gap e.1 (e.2 :: r)) (gap last [])
def pool (es : List (Nat × CpInfo)) (last : Nat) : Array CpInfo := ⟨poolList es last⟩
def fileOf (pool : Array CpInfo) (this : Nat) (attrs : Array Attribute := #[]) (ms : Array MethodInfo := #[]) (fl : Nat := 33) (sup : Nat := 0) (ifs : Array Nat := #[]) (fds : Array FieldInfo := #[]) : ClassFile where
  minorVersion := 0
  majorVersion := 65
  constantPool := pool
  accessFlags := fl
  thisClass := this
  superClass := sup
  interfaces := ifs
  fields := fds
  methods := ms
  attributes := attrs
def plain (name : String) (sup : Option ClassId) : Class where
  name := name
  kind := .ordinary
  loader := none
  accessFlags := 33
  super := sup
  interfaces := #[]
  cf := none
  fields := #[]
  methods := #[]
  instanceTypes := #[]
  staticTypes := #[]
  resolved := #[]
  callSites := []
  init := .initialized
  statics := none
  mirror := none

def pool0 : Array CpInfo := pool [(5, u "<init>"), (0, u "()V"), (1, .class_ 10), (1, u "java/lang/Object")] 113

def k0c0 : Code := { maxStack := 0, maxLocals := 1, code := object_method_1_code, exceptionTable := #[], attributes := #[] }
def k0m0 : Method := { name := "<init>", desc := "()V", sig := { parameters := [], returnType := none }, accessFlags := 1, code := some k0c0 }
/-- java/lang/Object -/
def k0 : Class := { plain "java/lang/Object" none with
  accessFlags := 33
  interfaces := #[]
  cf := some (fileOf pool0 8 #[] #[{ accessFlags := 1, nameIndex := 5, descriptorIndex := 6, attributes := #[] }] 33 0 #[] #[])
  fields := #[]
  methods := #[k0m0]
  instanceTypes := #[]
  staticTypes := #[]
  resolved := Array.replicate 124 none
  statics := none }

def pool1 : Array CpInfo := pool [(2, .class_ 4), (1, u "java/lang/Object"), (0, u "<init>"), (0, u "()V"), (0, .long 13787848793156543929), (1, .long 10723151780598845931), (1, .class_ 12), (0, u "com/example/keys_to_bits/keystobits/ProbesNextPinLaw"), (0, .long 4294967295), (1, .methodref 11 16), (0, .nameAndType 17 18), (0, u "mix"), (0, u "(J)J"), (0, .methodref 11 20), (0, .nameAndType 21 22), (0, u "mulHighUnsigned"), (0, u "(JJ)J"), (2, .long 9223372036854775807), (1, .class_ 28), (0, u "com/example/keys_to_bits/keystobits/Probes"), (0, .class_ 30), (0, u "com/example/keys_to_bits/keystobits/Murmur3$Hash128"), (0, .methodref 29 32), (0, .nameAndType 5 33), (0, u "(JJ)V"), (0, .methodref 27 35), (0, .nameAndType 5 36), (0, u "(Lcom/example/keys_to_bits/keystobits/Murmur3$Hash128;J)V"), (0, .methodref 27 38), (0, .nameAndType 39 40), (0, u "next"), (0, u "()J"), (0, .methodref 11 42), (0, .nameAndType 43 44), (0, u "ok"), (0, u "(JJJ)Z"), (0, u "M32"), (0, u "J"), (4, u "law"), (0, u "(JJJI)Z")] 6

def k1m0 : Method := { name := "<init>", desc := "()V", sig := { parameters := [], returnType := none }, accessFlags := 1, code := none }
def k1c1 : Code := { maxStack := 5, maxLocals := 4, code := method_2_code, exceptionTable := #[], attributes := #[] }
def k1m1 : Method := { name := "mix", desc := "(J)J", sig := { parameters := [.long], returnType := some .long }, accessFlags := 10, code := some k1c1 }
def k1c2 : Code := { maxStack := 6, maxLocals := 22, code := method_3_code, exceptionTable := #[], attributes := #[] }
def k1m2 : Method := { name := "mulHighUnsigned", desc := "(JJ)J", sig := { parameters := [.long, .long], returnType := some .long }, accessFlags := 10, code := some k1c2 }
def k1c3 : Code := { maxStack := 4, maxLocals := 8, code := method_4_code, exceptionTable := #[], attributes := #[] }
def k1m3 : Method := { name := "ok", desc := "(JJJ)Z", sig := { parameters := [.long, .long, .long], returnType := some .boolean }, accessFlags := 10, code := some k1c3 }
def k1c4 : Code := { maxStack := 8, maxLocals := 16, code := code, exceptionTable := #[], attributes := #[] }
def k1m4 : Method := { name := "law", desc := "(JJJI)Z", sig := { parameters := [.long, .long, .long, .int], returnType := some .boolean }, accessFlags := 9, code := some k1c4 }
/-- com/example/keys_to_bits/keystobits/ProbesNextPinLaw -/
def k1 : Class := { plain "com/example/keys_to_bits/keystobits/ProbesNextPinLaw" (some 0) with
  accessFlags := 49
  interfaces := #[]
  cf := some (fileOf pool1 11 #[] #[{ accessFlags := 1, nameIndex := 5, descriptorIndex := 6, attributes := #[] }, { accessFlags := 10, nameIndex := 17, descriptorIndex := 18, attributes := #[] }, { accessFlags := 10, nameIndex := 21, descriptorIndex := 22, attributes := #[] }, { accessFlags := 10, nameIndex := 43, descriptorIndex := 44, attributes := #[] }, { accessFlags := 9, nameIndex := 51, descriptorIndex := 52, attributes := #[] }] 49 2 #[] #[{ accessFlags := 26, nameIndex := 45, descriptorIndex := 46, attributes := #[] }])
  fields := #[{ name := "M32", type := .long, accessFlags := 26, slot := 0, constantValue := 0 }]
  methods := #[k1m0, k1m1, k1m2, k1m3, k1m4]
  instanceTypes := #[]
  staticTypes := #[.long]
  resolved := Array.replicate 59 none
  statics := none }

def pool2 : Array CpInfo := pool [(1, .methodref 2 3), (0, .class_ 4), (0, .nameAndType 5 6), (0, u "java/lang/Object"), (0, u "<init>"), (0, u "()V"), (0, .methodref 8 9), (0, .class_ 10), (0, .nameAndType 11 12), (0, u "com/example/keys_to_bits/keystobits/Murmur3$Hash128"), (0, u "h2"), (0, u "()J"), (0, .fieldref 14 15), (0, .class_ 16), (0, .nameAndType 17 18), (0, u "com/example/keys_to_bits/keystobits/Probes"), (0, u "step"), (0, u "J"), (0, .fieldref 14 20), (0, .nameAndType 21 18), (0, u "cells"), (0, .methodref 8 23), (0, .nameAndType 24 12), (0, u "h1"), (0, .fieldref 14 26), (0, .nameAndType 27 18), (0, u "start"), (0, .long 13787848793156543929), (1, .long 10723151780598845931), (1, .methodref 33 34), (0, .class_ 35), (0, .nameAndType 36 37), (0, u "java/lang/Math"), (0, u "multiplyHigh"), (0, u "(JJ)J"), (0, u "(Lcom/example/keys_to_bits/keystobits/Murmur3$Hash128;J)V"), (2, u "next")] 6

def k2c0 : Code := { maxStack := 3, maxLocals := 4, code := prog_11_method_1_code, exceptionTable := #[], attributes := #[] }
def k2m0 : Method := { name := "<init>", desc := "(Lcom/example/keys_to_bits/keystobits/Murmur3$Hash128;J)V", sig := { parameters := [(.object "com/example/keys_to_bits/keystobits/Murmur3$Hash128"), .long], returnType := none }, accessFlags := 0, code := some k2c0 }
def k2c1 : Code := { maxStack := 6, maxLocals := 5, code := prog_11_method_2_code, exceptionTable := #[], attributes := #[] }
def k2m1 : Method := { name := "next", desc := "()J", sig := { parameters := [], returnType := some .long }, accessFlags := 0, code := some k2c1 }
/-- com/example/keys_to_bits/keystobits/Probes -/
def k2 : Class := { plain "com/example/keys_to_bits/keystobits/Probes" (some 0) with
  accessFlags := 32
  interfaces := #[]
  cf := some (fileOf pool2 14 #[] #[{ accessFlags := 0, nameIndex := 5, descriptorIndex := 38, attributes := #[] }, { accessFlags := 0, nameIndex := 41, descriptorIndex := 12, attributes := #[] }] 32 2 #[] #[{ accessFlags := 18, nameIndex := 17, descriptorIndex := 18, attributes := #[] }, { accessFlags := 18, nameIndex := 21, descriptorIndex := 18, attributes := #[] }, { accessFlags := 2, nameIndex := 27, descriptorIndex := 18, attributes := #[] }])
  fields := #[{ name := "step", type := .long, accessFlags := 18, slot := 0, constantValue := 0 }, { name := "cells", type := .long, accessFlags := 18, slot := 1, constantValue := 0 }, { name := "start", type := .long, accessFlags := 2, slot := 2, constantValue := 0 }]
  methods := #[k2m0, k2m1]
  instanceTypes := #[.long, .long, .long]
  staticTypes := #[]
  resolved := Array.replicate 48 none
  statics := none }

def pool3 : Array CpInfo := pool [(1, .methodref 2 3), (0, .class_ 4), (0, .nameAndType 5 6), (0, u "java/lang/Object"), (0, u "<init>"), (0, u "()V"), (0, .class_ 8), (0, u "java/lang/Record")] 13

def k3c0 : Code := { maxStack := 1, maxLocals := 1, code := jdk_30_method_1_code, exceptionTable := #[], attributes := #[] }
def k3m0 : Method := { name := "<init>", desc := "()V", sig := { parameters := [], returnType := none }, accessFlags := 4, code := some k3c0 }
/-- java/lang/Record -/
def k3 : Class := { plain "java/lang/Record" (some 0) with
  accessFlags := 1057
  interfaces := #[]
  cf := some (fileOf pool3 7 #[] #[{ accessFlags := 4, nameIndex := 5, descriptorIndex := 6, attributes := #[] }] 1057 2 #[] #[])
  fields := #[]
  methods := #[k3m0]
  instanceTypes := #[]
  staticTypes := #[]
  resolved := Array.replicate 22 none
  statics := none }

def pool4 : Array CpInfo := pool [(1, .methodref 2 3), (0, .class_ 4), (0, .nameAndType 5 6), (0, u "java/lang/Record"), (0, u "<init>"), (0, u "()V"), (0, .fieldref 8 9), (0, .class_ 10), (0, .nameAndType 11 12), (0, u "com/example/keys_to_bits/keystobits/Murmur3$Hash128"), (0, u "h1"), (0, u "J"), (0, .fieldref 8 14), (0, .nameAndType 15 12), (0, u "h2"), (12, u "(JJ)V"), (6, u "()J"), (3, .class_ 40), (0, u "com/example/keys_to_bits/keystobits/Murmur3")] 20

def k4c0 : Code := { maxStack := 3, maxLocals := 5, code := prog_10_method_1_code, exceptionTable := #[], attributes := #[] }
def k4m0 : Method := { name := "<init>", desc := "(JJ)V", sig := { parameters := [.long, .long], returnType := none }, accessFlags := 0, code := some k4c0 }
def k4c1 : Code := { maxStack := 2, maxLocals := 1, code := prog_10_method_5_code, exceptionTable := #[], attributes := #[] }
def k4m1 : Method := { name := "h1", desc := "()J", sig := { parameters := [], returnType := some .long }, accessFlags := 1, code := some k4c1 }
def k4c2 : Code := { maxStack := 2, maxLocals := 1, code := prog_10_method_6_code, exceptionTable := #[], attributes := #[] }
def k4m2 : Method := { name := "h2", desc := "()J", sig := { parameters := [], returnType := some .long }, accessFlags := 1, code := some k4c2 }
/-- com/example/keys_to_bits/keystobits/Murmur3$Hash128 -/
def k4 : Class := { plain "com/example/keys_to_bits/keystobits/Murmur3$Hash128" (some 3) with
  accessFlags := 48
  interfaces := #[]
  cf := some (fileOf pool4 8 #[.nestHost 39] #[{ accessFlags := 0, nameIndex := 5, descriptorIndex := 28, attributes := #[] }, { accessFlags := 1, nameIndex := 11, descriptorIndex := 35, attributes := #[] }, { accessFlags := 1, nameIndex := 15, descriptorIndex := 35, attributes := #[] }] 48 2 #[] #[{ accessFlags := 18, nameIndex := 11, descriptorIndex := 12, attributes := #[] }, { accessFlags := 18, nameIndex := 15, descriptorIndex := 12, attributes := #[] }])
  fields := #[{ name := "h1", type := .long, accessFlags := 18, slot := 0, constantValue := 0 }, { name := "h2", type := .long, accessFlags := 18, slot := 1, constantValue := 0 }]
  methods := #[k4m0, k4m1, k4m2]
  instanceTypes := #[.long, .long]
  staticTypes := #[]
  resolved := Array.replicate 61 none
  statics := none }

def pool5 : Array CpInfo := pool [(1, .class_ 2), (0, u "java/lang/Math"), (1, .class_ 6), (1, u "java/lang/Object"), (0, u "<init>"), (0, u "()V"), (89, .class_ 100), (1, u "java/lang/Math$RandomNumberGeneratorHolder"), (20, u "(JJ)J"), (16, .long 4294967295), (3, u "multiplyHigh"), (29, u "negativeZeroFloatBits"), (0, u "J"), (2, u "negativeZeroDoubleBits"), (68, u "$assertionsDisabled"), (0, u "Z"), (91, u "twoToTheDoubleScaleDown"), (0, u "D"), (4, u "twoToTheDoubleScaleUp"), (9, u "E"), (3, u "PI"), (2, u "TAU"), (2, u "DEGREES_TO_RADIANS"), (0, u "RADIANS_TO_DEGREES")] 94

def k5m0 : Method := { name := "<init>", desc := "()V", sig := { parameters := [], returnType := none }, accessFlags := 2, code := none }
def k5c1 : Code := { maxStack := 6, maxLocals := 20, code := jdk_29_method_45_code, exceptionTable := #[], attributes := #[] }
def k5m1 : Method := { name := "multiplyHigh", desc := "(JJ)J", sig := { parameters := [.long, .long], returnType := some .long }, accessFlags := 9, code := some k5c1 }
/-- java/lang/Math -/
def k5 : Class := { plain "java/lang/Math" (some 0) with
  accessFlags := 49
  interfaces := #[]
  cf := some (fileOf pool5 1 #[.nestMembers #[98]] #[{ accessFlags := 2, nameIndex := 7, descriptorIndex := 8, attributes := #[] }, { accessFlags := 9, nameIndex := 142, descriptorIndex := 121, attributes := #[] }] 49 4 #[] #[{ accessFlags := 25, nameIndex := 354, descriptorIndex := 339, attributes := #[] }, { accessFlags := 25, nameIndex := 358, descriptorIndex := 339, attributes := #[] }, { accessFlags := 25, nameIndex := 361, descriptorIndex := 339, attributes := #[] }, { accessFlags := 26, nameIndex := 364, descriptorIndex := 339, attributes := #[] }, { accessFlags := 26, nameIndex := 365, descriptorIndex := 339, attributes := #[] }, { accessFlags := 26, nameIndex := 172, descriptorIndex := 173, attributes := #[] }, { accessFlags := 26, nameIndex := 176, descriptorIndex := 173, attributes := #[] }, { accessFlags := 8, nameIndex := 344, descriptorIndex := 339, attributes := #[] }, { accessFlags := 8, nameIndex := 338, descriptorIndex := 339, attributes := #[] }, { accessFlags := 4120, nameIndex := 245, descriptorIndex := 246, attributes := #[] }])
  fields := #[{ name := "E", type := .double, accessFlags := 25, slot := 0, constantValue := 0 }, { name := "PI", type := .double, accessFlags := 25, slot := 1, constantValue := 0 }, { name := "TAU", type := .double, accessFlags := 25, slot := 2, constantValue := 0 }, { name := "DEGREES_TO_RADIANS", type := .double, accessFlags := 26, slot := 3, constantValue := 0 }, { name := "RADIANS_TO_DEGREES", type := .double, accessFlags := 26, slot := 4, constantValue := 0 }, { name := "negativeZeroFloatBits", type := .long, accessFlags := 26, slot := 5, constantValue := 0 }, { name := "negativeZeroDoubleBits", type := .long, accessFlags := 26, slot := 6, constantValue := 0 }, { name := "twoToTheDoubleScaleUp", type := .double, accessFlags := 8, slot := 7, constantValue := 0 }, { name := "twoToTheDoubleScaleDown", type := .double, accessFlags := 8, slot := 8, constantValue := 0 }, { name := "$assertionsDisabled", type := .boolean, accessFlags := 4120, slot := 9, constantValue := 0 }]
  methods := #[k5m0, k5m1]
  instanceTypes := #[]
  staticTypes := #[.double, .double, .double, .double, .double, .long, .long, .double, .double, .boolean]
  resolved := Array.replicate 460 none
  statics := none }

def pool6 : Array CpInfo := pool [(1, u "java/lang/Cloneable"), (0, .class_ 1), (0, u "java/lang/Object"), (0, .class_ 3)] 3

/-- java/lang/Cloneable -/
def k6 : Class := { plain "java/lang/Cloneable" (some 0) with
  accessFlags := 1537
  interfaces := #[]
  cf := some (fileOf pool6 2 #[] #[] 1537 4 #[] #[])
  fields := #[]
  methods := #[]
  instanceTypes := #[]
  staticTypes := #[]
  resolved := Array.replicate 8 none
  statics := none }

def pool7 : Array CpInfo := pool [(1, u "java/io/Serializable"), (0, .class_ 1), (0, u "java/lang/Object"), (0, .class_ 3)] 3

/-- java/io/Serializable -/
def k7 : Class := { plain "java/io/Serializable" (some 0) with
  accessFlags := 1537
  interfaces := #[]
  cf := some (fileOf pool7 2 #[] #[] 1537 4 #[] #[])
  fields := #[]
  methods := #[]
  instanceTypes := #[]
  staticTypes := #[]
  resolved := Array.replicate 8 none
  statics := none }

/-- the primitive byte -/
def k8 : Class := { plain "byte" none with kind := .primitive 'B', accessFlags := 0x411 }
/-- [B -/
def k9 : Class := { plain "[B" (some 0) with kind := .array 8 .byte, interfaces := #[6, 7], accessFlags := 1041 }

/-- the primitive int -/
def k10 : Class := { plain "int" none with kind := .primitive 'I', accessFlags := 0x411 }
/-- [I -/
def k11 : Class := { plain "[I" (some 0) with kind := .array 10 .int, interfaces := #[6, 7], accessFlags := 1041 }

def heap : Heap := #[]
def classes : Array Class := #[k0, k1, k2, k3, k4, k5, k6, k7, k8, k9, k10, k11]
def interned : List (Array UInt16 × Addr) := []
def slotsUsed : Nat := 0
def theMethod : MethodId := ⟨1, 4⟩
def args0 : Array Value := #[.long 5, .long 2, .long 100, .int 3]
def aboutOver (below : List Frame) : State where
  vm := { classes := classes, interned := interned.toArray }
  heap := heap
  slotsUsed := slotsUsed
  threads := #[{ frames := .invoking theMethod args0 :: below }]
def below0 : List Frame := [.native { method := ⟨0, 0⟩, args := #[] }]
def about1 : State := aboutOver below0
def p0 : Program := .bare "" "" ""
def e0 : Env := launch0.env 0 0 0
theorem w_frames : about1.frames = Frame.invoking theMethod args0 :: below0 := rfl
set_option maxRecDepth 65536 in
theorem w_args : argsFit about1.vm theMethod args0 = true := by decide +kernel
set_option maxRecDepth 65536 in
theorem w_heap : heapFits about1 = true := by decide +kernel
set_option maxRecDepth 65536 in
theorem w_runnable : about1.curStatus? = some .runnable := by decide +kernel
set_option maxRecDepth 65536 in
theorem w_alone : about1.alone = true := by decide +kernel
set_option maxRecDepth 65536 in
theorem w_named : about1.methodNamed? x = some theMethod := by decide +kernel
set_option maxRecDepth 65536 in
theorem w_hears : about1.hears theMethod below0 = true := by decide +kernel
set_option maxRecDepth 65536 in
theorem w_ripe : about1.ripe theMethod args0 below0 = true := by decide +kernel
theorem w_running : about1.status = .running := rfl
set_option maxRecDepth 65536 in
theorem w_room : about1.hasRoom e0.platform room_1 = true :=
  launch0.hasRoom_least _ room_1 (by decide +kernel) (by decide +kernel) (by decide +kernel) (by decide +kernel) (by decide +kernel) (by decide +kernel)
theorem allAtoms_all (ts : List Jvm.Cond) (a : Array Jvm.Value) (st : Jvm.State) : (allAtoms ts).before a st = ts.all (fun c => c.before a st) := by
  induction ts with
  | nil => rfl
  | cons c t ih =>
    show (Jvm.Cond.and c (allAtoms t)).before a st = _
    rw [Jvm.Cond.before_and, ih, List.all_cons]
def words1 : List Jvm.Cond := Jvm.Cond.code x code maxLocals ret :: tables_1
/-- a 'code' word, met by the world's own term for the bytes: nothing is compared byte by byte -/
theorem code_word {y : MethodName} {bytes : ByteArray} {mx : Nat} {rt : Option FieldType} {a : Array Value} {s : State} {m : MethodId} {meth : Method} {c : Code} (h1 : s.methodNamed? y = some m) (h2 : s.vm.method? m = some meth) (h3 : meth.code = some c) (h4 : c.code = bytes)
    (h5 : (c.maxLocals == mx && c.exceptionTable.isEmpty && decide (c.maxStack ≤ mostOperands) && decide (meth.sig.returnType = rt) && !meth.locks && decide (parseMethodDescriptor y.desc = some meth.sig)) = true) : (Jvm.Cond.code y bytes mx rt).before a s = true := by
  simp only [Bool.and_eq_true, beq_iff_eq, Bool.not_eq_true', decide_eq_true_eq] at h5
  obtain ⟨⟨⟨⟨⟨g1, g2⟩, g3⟩, g4⟩, g5⟩, g6⟩ := h5
  simp [Cond.before, Cond.holds, Cond.value, h1, h2, h3, h4, g1, g2, g3, g4, g5, g6]
def isCode : Jvm.Cond → Bool
  | .code _ _ _ _ => true
  | _ => false
theorem all_split {L : List Jvm.Cond} {P : Jvm.Cond → Bool} (h1 : L.all (fun c => isCode c || P c) = true) (h2 : ∀ c ∈ L.filter isCode, P c = true) : L.all P = true := by
  refine List.all_eq_true.mpr fun c hc => ?_
  have h := List.all_eq_true.mp h1 c hc
  rcases Bool.eq_false_or_eq_true (isCode c) with hi | hi
  · exact h2 c (List.mem_filter.mpr ⟨hc, hi⟩)
  · simpa [hi] using h
set_option maxRecDepth 65536 in
theorem w_c0 : (Jvm.Cond.code x code maxLocals ret).before args0 about1 = true := code_word (m := ⟨1, 4⟩) (meth := k1m4) (c := k1c4) (by decide +kernel) rfl rfl rfl (by decide +kernel)
set_option maxRecDepth 65536 in
theorem w_c1 : (Jvm.Cond.code ({ cls := "com/example/keys_to_bits/keystobits/Murmur3$Hash128", name := "<init>", desc := "(JJ)V" } : Jvm.MethodName) prog_10_method_1_code (5 : Nat) (Option.none : Option Jvm.ClassFile.FieldType)).before args0 about1 = true := code_word (m := ⟨4, 0⟩) (meth := k4m0) (c := k4c0) (by decide +kernel) rfl rfl rfl (by decide +kernel)
set_option maxRecDepth 65536 in
theorem w_c2 : (Jvm.Cond.code ({ cls := "java/lang/Record", name := "<init>", desc := "()V" } : Jvm.MethodName) jdk_30_method_1_code (1 : Nat) (Option.none : Option Jvm.ClassFile.FieldType)).before args0 about1 = true := code_word (m := ⟨3, 0⟩) (meth := k3m0) (c := k3c0) (by decide +kernel) rfl rfl rfl (by decide +kernel)
set_option maxRecDepth 65536 in
theorem w_c3 : (Jvm.Cond.code ({ cls := "java/lang/Object", name := "<init>", desc := "()V" } : Jvm.MethodName) object_method_1_code (1 : Nat) (Option.none : Option Jvm.ClassFile.FieldType)).before args0 about1 = true := code_word (m := ⟨0, 0⟩) (meth := k0m0) (c := k0c0) (by decide +kernel) rfl rfl rfl (by decide +kernel)
set_option maxRecDepth 65536 in
theorem w_c4 : (Jvm.Cond.code ({ cls := "com/example/keys_to_bits/keystobits/Probes", name := "<init>", desc := "(Lcom/example/keys_to_bits/keystobits/Murmur3$Hash128;J)V" } : Jvm.MethodName) prog_11_method_1_code (4 : Nat) (Option.none : Option Jvm.ClassFile.FieldType)).before args0 about1 = true := code_word (m := ⟨2, 0⟩) (meth := k2m0) (c := k2c0) (by decide +kernel) rfl rfl rfl (by decide +kernel)
set_option maxRecDepth 65536 in
theorem w_c5 : (Jvm.Cond.code ({ cls := "com/example/keys_to_bits/keystobits/Murmur3$Hash128", name := "h2", desc := "()J" } : Jvm.MethodName) prog_10_method_6_code (1 : Nat) (Option.some Jvm.ClassFile.FieldType.long)).before args0 about1 = true := code_word (m := ⟨4, 2⟩) (meth := k4m2) (c := k4c2) (by decide +kernel) rfl rfl rfl (by decide +kernel)
set_option maxRecDepth 65536 in
theorem w_c6 : (Jvm.Cond.code ({ cls := "com/example/keys_to_bits/keystobits/Murmur3$Hash128", name := "h1", desc := "()J" } : Jvm.MethodName) prog_10_method_5_code (1 : Nat) (Option.some Jvm.ClassFile.FieldType.long)).before args0 about1 = true := code_word (m := ⟨4, 1⟩) (meth := k4m1) (c := k4c1) (by decide +kernel) rfl rfl rfl (by decide +kernel)
set_option maxRecDepth 65536 in
theorem w_c7 : (Jvm.Cond.code ({ cls := "com/example/keys_to_bits/keystobits/Probes", name := "next", desc := "()J" } : Jvm.MethodName) prog_11_method_2_code (5 : Nat) (Option.some Jvm.ClassFile.FieldType.long)).before args0 about1 = true := code_word (m := ⟨2, 1⟩) (meth := k2m1) (c := k2c1) (by decide +kernel) rfl rfl rfl (by decide +kernel)
set_option maxRecDepth 65536 in
theorem w_c8 : (Jvm.Cond.code ({ cls := "java/lang/Math", name := "multiplyHigh", desc := "(JJ)J" } : Jvm.MethodName) jdk_29_method_45_code (20 : Nat) (Option.some Jvm.ClassFile.FieldType.long)).before args0 about1 = true := code_word (m := ⟨5, 1⟩) (meth := k5m1) (c := k5c1) (by decide +kernel) rfl rfl rfl (by decide +kernel)
set_option maxRecDepth 65536 in
theorem w_c9 : (Jvm.Cond.code ({ cls := "com/example/keys_to_bits/keystobits/ProbesNextPinLaw", name := "ok", desc := "(JJJ)Z" } : Jvm.MethodName) method_4_code (8 : Nat) (Option.some Jvm.ClassFile.FieldType.boolean)).before args0 about1 = true := code_word (m := ⟨1, 3⟩) (meth := k1m3) (c := k1c3) (by decide +kernel) rfl rfl rfl (by decide +kernel)
set_option maxRecDepth 65536 in
theorem w_c10 : (Jvm.Cond.code ({ cls := "com/example/keys_to_bits/keystobits/ProbesNextPinLaw", name := "mix", desc := "(J)J" } : Jvm.MethodName) method_2_code (4 : Nat) (Option.some Jvm.ClassFile.FieldType.long)).before args0 about1 = true := code_word (m := ⟨1, 1⟩) (meth := k1m1) (c := k1c1) (by decide +kernel) rfl rfl rfl (by decide +kernel)
set_option maxRecDepth 65536 in
theorem w_c11 : (Jvm.Cond.code ({ cls := "com/example/keys_to_bits/keystobits/ProbesNextPinLaw", name := "mulHighUnsigned", desc := "(JJ)J" } : Jvm.MethodName) method_3_code (22 : Nat) (Option.some Jvm.ClassFile.FieldType.long)).before args0 about1 = true := code_word (m := ⟨1, 2⟩) (meth := k1m2) (c := k1c2) (by decide +kernel) rfl rfl rfl (by decide +kernel)
def codes1 : List Jvm.Cond := [Jvm.Cond.code x code maxLocals ret, Jvm.Cond.code ({ cls := "com/example/keys_to_bits/keystobits/Murmur3$Hash128", name := "<init>", desc := "(JJ)V" } : Jvm.MethodName) prog_10_method_1_code (5 : Nat) (Option.none : Option Jvm.ClassFile.FieldType), Jvm.Cond.code ({ cls := "java/lang/Record", name := "<init>", desc := "()V" } : Jvm.MethodName) jdk_30_method_1_code (1 : Nat) (Option.none : Option Jvm.ClassFile.FieldType), Jvm.Cond.code ({ cls := "java/lang/Object", name := "<init>", desc := "()V" } : Jvm.MethodName) object_method_1_code (1 : Nat) (Option.none : Option Jvm.ClassFile.FieldType), Jvm.Cond.code ({ cls := "com/example/keys_to_bits/keystobits/Probes", name := "<init>", desc := "(Lcom/example/keys_to_bits/keystobits/Murmur3$Hash128;J)V" } : Jvm.MethodName) prog_11_method_1_code (4 : Nat) (Option.none : Option Jvm.ClassFile.FieldType), Jvm.Cond.code ({ cls := "com/example/keys_to_bits/keystobits/Murmur3$Hash128", name := "h2", desc := "()J" } : Jvm.MethodName) prog_10_method_6_code (1 : Nat) (Option.some Jvm.ClassFile.FieldType.long), Jvm.Cond.code ({ cls := "com/example/keys_to_bits/keystobits/Murmur3$Hash128", name := "h1", desc := "()J" } : Jvm.MethodName) prog_10_method_5_code (1 : Nat) (Option.some Jvm.ClassFile.FieldType.long), Jvm.Cond.code ({ cls := "com/example/keys_to_bits/keystobits/Probes", name := "next", desc := "()J" } : Jvm.MethodName) prog_11_method_2_code (5 : Nat) (Option.some Jvm.ClassFile.FieldType.long), Jvm.Cond.code ({ cls := "java/lang/Math", name := "multiplyHigh", desc := "(JJ)J" } : Jvm.MethodName) jdk_29_method_45_code (20 : Nat) (Option.some Jvm.ClassFile.FieldType.long), Jvm.Cond.code ({ cls := "com/example/keys_to_bits/keystobits/ProbesNextPinLaw", name := "ok", desc := "(JJJ)Z" } : Jvm.MethodName) method_4_code (8 : Nat) (Option.some Jvm.ClassFile.FieldType.boolean), Jvm.Cond.code ({ cls := "com/example/keys_to_bits/keystobits/ProbesNextPinLaw", name := "mix", desc := "(J)J" } : Jvm.MethodName) method_2_code (4 : Nat) (Option.some Jvm.ClassFile.FieldType.long), Jvm.Cond.code ({ cls := "com/example/keys_to_bits/keystobits/ProbesNextPinLaw", name := "mulHighUnsigned", desc := "(JJ)J" } : Jvm.MethodName) method_3_code (22 : Nat) (Option.some Jvm.ClassFile.FieldType.long)]
set_option maxRecDepth 65536 in
theorem codes_eq : words1.filter isCode = codes1 := rfl
theorem w_codes : ∀ c ∈ words1.filter isCode, c.before args0 about1 = true := by
  rw [codes_eq]
  intro c hc
  simp only [codes1, List.mem_cons, List.not_mem_nil, or_false] at hc
  rcases hc with rfl | rfl | rfl | rfl | rfl | rfl | rfl | rfl | rfl | rfl | rfl | rfl
  · exact w_c0
  · exact w_c1
  · exact w_c2
  · exact w_c3
  · exact w_c4
  · exact w_c5
  · exact w_c6
  · exact w_c7
  · exact w_c8
  · exact w_c9
  · exact w_c10
  · exact w_c11
set_option maxRecDepth 65536 in
theorem w_t1 : (words1.take 24).all (fun c => isCode c || c.before args0 about1) = true := by decide +kernel
set_option maxRecDepth 65536 in
theorem w_t2 : ((words1.drop 24).take 24).all (fun c => isCode c || c.before args0 about1) = true := by decide +kernel
set_option maxRecDepth 65536 in
theorem w_t3 : ((words1.drop 24).drop 24).all (fun c => isCode c || c.before args0 about1) = true := by decide +kernel
theorem w_tables : (allAtoms (Jvm.Cond.code x code maxLocals ret :: tables_1)).before args0 about1 = true := by
  rw [allAtoms_all]
  show words1.all (fun c => c.before args0 about1) = true
  refine all_split ?_ w_codes
  rw [← List.take_append_drop 24 words1, List.all_append, w_t1, ← List.take_append_drop 24 (words1.drop 24), List.all_append, w_t2, w_t3]
  rfl
set_option maxRecDepth 65536 in
theorem w_case : (Jvm.Cond.and given_1 narrow_1).before args0 about1 = true := by decide +kernel
theorem w_applies : (headSpec (Jvm.Cond.code x code maxLocals ret :: tables_1) room_1).applies x e0.platform about1 = true :=
  (Spec.applies_iff w_frames).mpr ⟨w_running, w_runnable, w_alone, w_named, w_hears, w_ripe, w_room, w_tables⟩
theorem atStart : AtStart classFile x code maxLocals ret World_1 tables_1 room_1 Calls_1 rest_1 Pre_1 launch0 p0 e0 about1 theMethod args0 below0 :=
  ⟨lists_1, trivial, launch0.admits_env _ _ _, launch0.least_env, fairChoices_fair.cas, fairChoices_fair.clock, w_frames, w_args, w_heap, w_applies, trivial, trivial, w_case⟩
end start1
theorem witness_1 : WitnessClaimed_1 := ⟨start1.p0, start1.e0, start1.about1, start1.theMethod, start1.args0, start1.below0, start1.atStart⟩
end Jvm.Pilot.@@N@@
