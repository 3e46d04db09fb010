/- The decimal logarithm of a small whole number, walked. -/
import Derived.Test.YtaphagdbekmngaaGreatDoorProg
import Derived.WalkKit
import Derived.WalkSpells
import Derived.WalkLawsBesides
import Derived.Laws.FloatArith
import Derived.Laws.Externs
import Derived.Lib.Hide
namespace Go.Proofs.YtaphagdbekmngaaGreatDoor
open Go.RowKit

theorem run54 (x : Nat) (w : World) : (callFunc 54 #[.float .f64 x]).run Tryz.prog w = .ok (.value (.int .u64 (x : Int))) w := by
  rw [run_callFunc_extern Tryz.func54 (by kernel_rfl) (by kernel_rfl) (by kernel_rfl) (show Extern.find Tryz.f54 = some Extern.MathFloatBits.float64bits by kernel_rfl)]
  rfl
theorem run55 (x : Int) (w : World) : (callFunc 55 #[.int .u64 x]).run Tryz.prog w = .ok (.value (.float .f64 x.toNat)) w := by
  rw [run_callFunc_extern Tryz.func55 (by kernel_rfl) (by kernel_rfl) (by kernel_rfl) (show Extern.find Tryz.f55 = some Extern.MathFloatBits.float64frombits by kernel_rfl)]
  rfl

theorem bits_any (x : Nat) (w : World) :
    Calls Tryz.prog 38 #[.float .f64 x] w fun e w' => e = .returned (.int .u64 (x : Int)) ∧ w = w' := by
  have h := run54
  go_enter Tryz.func38, Tryz.ntmps38
  go_wp2
  go_ret
  exact ⟨rfl, rfl⟩
theorem frombits_any (x : Int) (w : World) :
    Calls Tryz.prog 39 #[.int .u64 x] w fun e w' => e = .returned (.float .f64 x.toNat) ∧ w = w' := by
  have h := run55
  go_enter Tryz.func39, Tryz.ntmps39
  go_wp2
  go_ret
  exact ⟨rfl, rfl⟩

theorem isNaN_no (x : Nat) (w : World) (h : (FloatKind.f64.format.order x x != some .eq) = false) :
    Calls Tryz.prog 40 #[.float .f64 x] w fun e w' => e = .returned (.bool false) ∧ w = w' := by
  go_enter Tryz.func40, Tryz.ntmps40
  go_wp2
  go_ret
  exact ⟨rfl, rfl⟩

set_option maxRecDepth 100000 in
theorem abs_any (x : Nat) (w : World) (h : bits .andNot .u64 (x : Int) 9223372036854775808 = (x : Int)) :
    Calls Tryz.prog 106 #[.float .f64 x] w fun e w' => e = .returned (.float .f64 x) ∧ w = w' := by
  have H := Lib.hid h
  clear h
  go_enter Tryz.func106, Tryz.ntmps106
  go_wp2_with fail
  refine (bits_any _ _).mono ?_
  rintro e w' ⟨rfl, rfl⟩
  go_wp2_with fail
  rw [H.out]
  refine (frombits_any _ _).mono ?_
  rintro e w' ⟨rfl, rfl⟩
  go_wp2_with fail
  go_ret
  exact ⟨rfl, rfl⟩

theorem isInf_one (x : Nat) (w : World) (h : (FloatKind.f64.format.order x 9218868437227405311 == some .gt) = false) :
    Calls Tryz.prog 101 #[.float .f64 x, .int .i64 1] w fun e w' => e = .returned (.bool false) ∧ w = w' := by
  have H := Lib.hid h
  clear h
  go_enter Tryz.func101, Tryz.ntmps101
  go_wp2
  go_ret
  exact ⟨by rw [H.out]; rfl, rfl⟩

theorem isInf_zero (x : Nat) (w : World) (h : (FloatKind.f64.format.order x 9218868437227405311 == some .gt) = false) (ha : bits .andNot .u64 (x : Int) 9223372036854775808 = (x : Int)) :
    Calls Tryz.prog 101 #[.float .f64 x, .int .i64 0] w fun e w' => e = .returned (.bool false) ∧ w = w' := by
  have H := Lib.hid h
  have HA := abs_any x w ha
  clear h ha
  go_enter Tryz.func101, Tryz.ntmps101
  go_wp2_with fail
  refine HA.mono ?_
  rintro e w' ⟨rfl, rfl⟩
  go_wp2_with fail
  go_ret
  exact ⟨by rw [H.out]; rfl, rfl⟩

theorem normalize_any (x : Nat) (w : World) (h : (FloatKind.f64.format.order x 4503599627370496 == some .lt) = false) (ha : bits .andNot .u64 (x : Int) 9223372036854775808 = (x : Int)) :
    Calls Tryz.prog 109 #[.float .f64 x] w fun e w' => e = .returned (.tuple #[.float .f64 x, .int .i64 0]) ∧ w = w' := by
  have HA := abs_any x w ha
  clear ha
  go_enter Tryz.func109, Tryz.ntmps109
  go_wp2_with fail
  refine HA.mono ?_
  rintro e w' ⟨rfl, rfl⟩
  go_wp2_with fail
  go_ret2
  exact ⟨rfl, rfl⟩

/-- The fraction's bits, and the exponent, of a normal number. -/
def fracB (x : Nat) : Nat := (bits .or .u64 (bits .andNot .u64 (x : Int) 9218868437227405312) 4602678819172646912).toNat
def expB (x : Nat) : Int := wrap64 (wrap64 (wrap64 (wrap64 (bits .and .u64 ((x : Int) / 4503599627370496) 2047) - 1023) + 1))

set_option maxRecDepth 100000 in
theorem frexp_any (x : Nat) (w : World) (h0 : (FloatKind.f64.format.order x 0 == some .eq) = false) (h1 : (FloatKind.f64.format.order x x != some .eq) = false) (h2 : (FloatKind.f64.format.order x 9218868437227405311 == some .gt) = false)
    (h3 : (FloatKind.f64.format.order x 4503599627370496 == some .lt) = false) (ha : bits .andNot .u64 (x : Int) 9223372036854775808 = (x : Int)) :
    Calls Tryz.prog 107 #[.float .f64 x] w fun e w' => e = .returned (.tuple #[.float .f64 (fracB x), .int .i64 (expB x)]) ∧ w = w' := by
  have I := isInf_zero x w h2 ha
  have J := isNaN_no x w h1
  have N := normalize_any x w h3 ha
  have F := bits_any x w
  clear h1 h2 h3 ha
  go_enter Tryz.func107, Tryz.ntmps107
  go_wp2_with fail
  refine I.mono ?_
  rintro e w' ⟨rfl, rfl⟩
  go_wp2_with fail
  refine J.mono ?_
  rintro e w' ⟨rfl, rfl⟩
  go_wp2_with fail
  refine N.mono ?_
  rintro e w' ⟨rfl, rfl⟩
  go_wp2_with fail
  refine F.mono ?_
  rintro e w' ⟨rfl, rfl⟩
  go_wp2_with fail
  refine (frombits_any _ _).mono ?_
  rintro e w' ⟨rfl, rfl⟩
  go_wp2_with fail
  go_ret2
  exact ⟨rfl, rfl⟩

theorem Frexp_any (x : Nat) (w : World) (h0 : (FloatKind.f64.format.order x 0 == some .eq) = false) (h1 : (FloatKind.f64.format.order x x != some .eq) = false) (h2 : (FloatKind.f64.format.order x 9218868437227405311 == some .gt) = false)
    (h3 : (FloatKind.f64.format.order x 4503599627370496 == some .lt) = false) (ha : bits .andNot .u64 (x : Int) 9223372036854775808 = (x : Int)) :
    Calls Tryz.prog 104 #[.float .f64 x] w fun e w' => e = .returned (.tuple #[.float .f64 (fracB x), .int .i64 (expB x)]) ∧ w = w' := by
  have I := frexp_any x w h0 h1 h2 h3 ha
  clear h0 h1 h2 h3 ha
  go_enter Tryz.func104, Tryz.ntmps104
  go_wp2_with fail
  refine I.mono ?_
  rintro e w' ⟨rfl, rfl⟩
  go_wp2_with fail
  go_ret2
  exact ⟨rfl, rfl⟩

/-- What 'log' reckons behind the reduction. -/
def logTail (f1 kf : Nat) : Option Nat :=
  (floatBits .sub .f64 f1 4607182418800017408).bind fun f =>
  (floatBits .add .f64 4611686018427387904 f).bind fun g47 =>
  (floatBits .quo .f64 f g47).bind fun s =>
  (floatBits .mul .f64 s s).bind fun s2 =>
  (floatBits .mul .f64 s2 s2).bind fun s4 =>
  (floatBits .mul .f64 s4 4594499633228436036).bind fun g59 =>
  (floatBits .add .f64 4595719342595441630 g59).bind fun g60 =>
  (floatBits .mul .f64 s4 g60).bind fun g61 =>
  (floatBits .add .f64 4598818590951641945 g61).bind fun g62 =>
  (floatBits .mul .f64 s4 g62).bind fun g63 =>
  (floatBits .add .f64 4604180019048437139 g63).bind fun g64 =>
  (floatBits .mul .f64 s2 g64).bind fun t1 =>
  (floatBits .mul .f64 s4 4594685411790997151).bind fun g69 =>
  (floatBits .add .f64 4597174411056806063 g69).bind fun g70 =>
  (floatBits .mul .f64 s4 g70).bind fun g71 =>
  (floatBits .add .f64 4600877379321592324 g71).bind fun g72 =>
  (floatBits .mul .f64 s4 g72).bind fun t2 =>
  (floatBits .add .f64 t1 t2).bind fun rr =>
  (floatBits .mul .f64 4602678819172646912 f).bind fun g78 =>
  (floatBits .mul .f64 g78 f).bind fun hq =>
  (floatBits .mul .f64 kf 4604418534311723008).bind fun g82 =>
  (floatBits .add .f64 hq rr).bind fun g87 =>
  (floatBits .mul .f64 s g87).bind fun g88 =>
  (floatBits .mul .f64 kf 4461442080421002358).bind fun g90 =>
  (floatBits .add .f64 g88 g90).bind fun g91 =>
  (floatBits .sub .f64 hq g91).bind fun g92 =>
  (floatBits .sub .f64 g92 f).bind fun g94 =>
  floatBits .sub .f64 g82 g94

set_option maxHeartbeats 1000000 in
set_option maxRecDepth 100000 in
theorem log_yes (x f1 r : Nat) (w : World) (h0 : (FloatKind.f64.format.order x 0 == some .eq) = false) (h1 : (FloatKind.f64.format.order x x != some .eq) = false) (h2 : (FloatKind.f64.format.order x 9218868437227405311 == some .gt) = false)
    (h3 : (FloatKind.f64.format.order x 4503599627370496 == some .lt) = false) (h4 : (FloatKind.f64.format.order x 0 == some .lt) = false) (ha : bits .andNot .u64 (x : Int) 9223372036854775808 = (x : Int))
    (hb : (FloatKind.f64.format.order (fracB x) 4604544271217802189 == some .lt) = true) (hm : floatBits .mul .f64 (fracB x) 4611686018427387904 = some f1)
    (ht : logTail f1 (floatOfInt .f64 (wrap64 (expB x - 1))) = some r) :
    Calls Tryz.prog 96 #[.float .f64 x] w fun e w' => e = .returned (.float .f64 r) ∧ w = w' := by
  have I := isInf_one x w h2
  have J := isNaN_no x w h1
  have N := Frexp_any x w h0 h1 h2 h3 ha
  clear h1 h2 h3 ha
  generalize fracB x = F at *
  generalize expB x = E at *
  simp only [logTail, Option.bind_eq_some_iff] at ht
  obtain ⟨f, h0, g47, h1, s, h2, s2, h3, s4, h4, g59, h5, g60, h6, g61, h7, g62, h8, g63, h9, g64, h10, t1, h11, g69, h12, g70, h13, g71, h14, g72, h15, t2, h16, rr, h17, g78, h18, hq, h19, g82, h20, g87, h21, g88, h22, g90, h23, g91, h24, g92, h25, g94, h26, h27⟩ := ht
  have e0 := fun w => run_float_arith (P := Tryz.prog) w .sub 53 .f64 f1 4607182418800017408 f h0
  have e1 := fun w => run_float_arith (P := Tryz.prog) w .add 53 .f64 4611686018427387904 f g47 h1
  have e2 := fun w => run_float_arith (P := Tryz.prog) w .quo 53 .f64 f g47 s h2
  have e3 := fun w => run_float_arith (P := Tryz.prog) w .mul 53 .f64 s s s2 h3
  have e4 := fun w => run_float_arith (P := Tryz.prog) w .mul 53 .f64 s2 s2 s4 h4
  have e5 := fun w => run_float_arith (P := Tryz.prog) w .mul 53 .f64 s4 4594499633228436036 g59 h5
  have e6 := fun w => run_float_arith (P := Tryz.prog) w .add 53 .f64 4595719342595441630 g59 g60 h6
  have e7 := fun w => run_float_arith (P := Tryz.prog) w .mul 53 .f64 s4 g60 g61 h7
  have e8 := fun w => run_float_arith (P := Tryz.prog) w .add 53 .f64 4598818590951641945 g61 g62 h8
  have e9 := fun w => run_float_arith (P := Tryz.prog) w .mul 53 .f64 s4 g62 g63 h9
  have e10 := fun w => run_float_arith (P := Tryz.prog) w .add 53 .f64 4604180019048437139 g63 g64 h10
  have e11 := fun w => run_float_arith (P := Tryz.prog) w .mul 53 .f64 s2 g64 t1 h11
  have e12 := fun w => run_float_arith (P := Tryz.prog) w .mul 53 .f64 s4 4594685411790997151 g69 h12
  have e13 := fun w => run_float_arith (P := Tryz.prog) w .add 53 .f64 4597174411056806063 g69 g70 h13
  have e14 := fun w => run_float_arith (P := Tryz.prog) w .mul 53 .f64 s4 g70 g71 h14
  have e15 := fun w => run_float_arith (P := Tryz.prog) w .add 53 .f64 4600877379321592324 g71 g72 h15
  have e16 := fun w => run_float_arith (P := Tryz.prog) w .mul 53 .f64 s4 g72 t2 h16
  have e17 := fun w => run_float_arith (P := Tryz.prog) w .add 53 .f64 t1 t2 rr h17
  have e18 := fun w => run_float_arith (P := Tryz.prog) w .mul 53 .f64 4602678819172646912 f g78 h18
  have e19 := fun w => run_float_arith (P := Tryz.prog) w .mul 53 .f64 g78 f hq h19
  have e20 := fun w => run_float_arith (P := Tryz.prog) w .mul 53 .f64 (floatOfInt .f64 (wrap64 (E - 1))) 4604418534311723008 g82 h20
  have e21 := fun w => run_float_arith (P := Tryz.prog) w .add 53 .f64 hq rr g87 h21
  have e22 := fun w => run_float_arith (P := Tryz.prog) w .mul 53 .f64 s g87 g88 h22
  have e23 := fun w => run_float_arith (P := Tryz.prog) w .mul 53 .f64 (floatOfInt .f64 (wrap64 (E - 1))) 4461442080421002358 g90 h23
  have e24 := fun w => run_float_arith (P := Tryz.prog) w .add 53 .f64 g88 g90 g91 h24
  have e25 := fun w => run_float_arith (P := Tryz.prog) w .sub 53 .f64 hq g91 g92 h25
  have e26 := fun w => run_float_arith (P := Tryz.prog) w .sub 53 .f64 g92 f g94 h26
  have e27 := fun w => run_float_arith (P := Tryz.prog) w .sub 53 .f64 g82 g94 r h27
  clear h0 h1 h2 h3 h4 h5 h6 h7 h8 h9 h10 h11 h12 h13 h14 h15 h16 h17 h18 h19 h20 h21 h22 h23 h24 h25 h26 h27
  have em := fun w => run_float_arith (P := Tryz.prog) w .mul 53 .f64 F 4611686018427387904 f1 hm
  clear hm
  go_enter Tryz.func96, Tryz.ntmps96
  go_wp2_with fail
  refine J.mono ?_
  rintro e w' ⟨rfl, rfl⟩
  go_wp2_with fail
  refine I.mono ?_
  rintro e w' ⟨rfl, rfl⟩
  go_wp2_with fail
  refine N.mono ?_
  rintro e w' ⟨rfl, rfl⟩
  go_wp2_with fail
  go_ret
  exact ⟨rfl, rfl⟩
set_option maxHeartbeats 1000000 in
set_option maxRecDepth 100000 in
theorem log_no (x r : Nat) (w : World) (h0 : (FloatKind.f64.format.order x 0 == some .eq) = false) (h1 : (FloatKind.f64.format.order x x != some .eq) = false) (h2 : (FloatKind.f64.format.order x 9218868437227405311 == some .gt) = false)
    (h3 : (FloatKind.f64.format.order x 4503599627370496 == some .lt) = false) (h4 : (FloatKind.f64.format.order x 0 == some .lt) = false) (ha : bits .andNot .u64 (x : Int) 9223372036854775808 = (x : Int))
    (hb : (FloatKind.f64.format.order (fracB x) 4604544271217802189 == some .lt) = false)
    (ht : logTail (fracB x) (floatOfInt .f64 (expB x)) = some r) :
    Calls Tryz.prog 96 #[.float .f64 x] w fun e w' => e = .returned (.float .f64 r) ∧ w = w' := by
  have I := isInf_one x w h2
  have J := isNaN_no x w h1
  have N := Frexp_any x w h0 h1 h2 h3 ha
  clear h1 h2 h3 ha
  generalize fracB x = F at *
  generalize expB x = E at *
  simp only [logTail, Option.bind_eq_some_iff] at ht
  obtain ⟨f, h0, g47, h1, s, h2, s2, h3, s4, h4, g59, h5, g60, h6, g61, h7, g62, h8, g63, h9, g64, h10, t1, h11, g69, h12, g70, h13, g71, h14, g72, h15, t2, h16, rr, h17, g78, h18, hq, h19, g82, h20, g87, h21, g88, h22, g90, h23, g91, h24, g92, h25, g94, h26, h27⟩ := ht
  have e0 := fun w => run_float_arith (P := Tryz.prog) w .sub 53 .f64 F 4607182418800017408 f h0
  have e1 := fun w => run_float_arith (P := Tryz.prog) w .add 53 .f64 4611686018427387904 f g47 h1
  have e2 := fun w => run_float_arith (P := Tryz.prog) w .quo 53 .f64 f g47 s h2
  have e3 := fun w => run_float_arith (P := Tryz.prog) w .mul 53 .f64 s s s2 h3
  have e4 := fun w => run_float_arith (P := Tryz.prog) w .mul 53 .f64 s2 s2 s4 h4
  have e5 := fun w => run_float_arith (P := Tryz.prog) w .mul 53 .f64 s4 4594499633228436036 g59 h5
  have e6 := fun w => run_float_arith (P := Tryz.prog) w .add 53 .f64 4595719342595441630 g59 g60 h6
  have e7 := fun w => run_float_arith (P := Tryz.prog) w .mul 53 .f64 s4 g60 g61 h7
  have e8 := fun w => run_float_arith (P := Tryz.prog) w .add 53 .f64 4598818590951641945 g61 g62 h8
  have e9 := fun w => run_float_arith (P := Tryz.prog) w .mul 53 .f64 s4 g62 g63 h9
  have e10 := fun w => run_float_arith (P := Tryz.prog) w .add 53 .f64 4604180019048437139 g63 g64 h10
  have e11 := fun w => run_float_arith (P := Tryz.prog) w .mul 53 .f64 s2 g64 t1 h11
  have e12 := fun w => run_float_arith (P := Tryz.prog) w .mul 53 .f64 s4 4594685411790997151 g69 h12
  have e13 := fun w => run_float_arith (P := Tryz.prog) w .add 53 .f64 4597174411056806063 g69 g70 h13
  have e14 := fun w => run_float_arith (P := Tryz.prog) w .mul 53 .f64 s4 g70 g71 h14
  have e15 := fun w => run_float_arith (P := Tryz.prog) w .add 53 .f64 4600877379321592324 g71 g72 h15
  have e16 := fun w => run_float_arith (P := Tryz.prog) w .mul 53 .f64 s4 g72 t2 h16
  have e17 := fun w => run_float_arith (P := Tryz.prog) w .add 53 .f64 t1 t2 rr h17
  have e18 := fun w => run_float_arith (P := Tryz.prog) w .mul 53 .f64 4602678819172646912 f g78 h18
  have e19 := fun w => run_float_arith (P := Tryz.prog) w .mul 53 .f64 g78 f hq h19
  have e20 := fun w => run_float_arith (P := Tryz.prog) w .mul 53 .f64 (floatOfInt .f64 E) 4604418534311723008 g82 h20
  have e21 := fun w => run_float_arith (P := Tryz.prog) w .add 53 .f64 hq rr g87 h21
  have e22 := fun w => run_float_arith (P := Tryz.prog) w .mul 53 .f64 s g87 g88 h22
  have e23 := fun w => run_float_arith (P := Tryz.prog) w .mul 53 .f64 (floatOfInt .f64 E) 4461442080421002358 g90 h23
  have e24 := fun w => run_float_arith (P := Tryz.prog) w .add 53 .f64 g88 g90 g91 h24
  have e25 := fun w => run_float_arith (P := Tryz.prog) w .sub 53 .f64 hq g91 g92 h25
  have e26 := fun w => run_float_arith (P := Tryz.prog) w .sub 53 .f64 g92 f g94 h26
  have e27 := fun w => run_float_arith (P := Tryz.prog) w .sub 53 .f64 g82 g94 r h27
  clear h0 h1 h2 h3 h4 h5 h6 h7 h8 h9 h10 h11 h12 h13 h14 h15 h16 h17 h18 h19 h20 h21 h22 h23 h24 h25 h26 h27
  go_enter Tryz.func96, Tryz.ntmps96
  go_wp2_with fail
  refine J.mono ?_
  rintro e w' ⟨rfl, rfl⟩
  go_wp2_with fail
  refine I.mono ?_
  rintro e w' ⟨rfl, rfl⟩
  go_wp2_with fail
  refine N.mono ?_
  rintro e w' ⟨rfl, rfl⟩
  go_wp2_with fail
  go_ret
  exact ⟨rfl, rfl⟩

set_option maxRecDepth 100000 in
theorem log_zero (w : World) : Calls Tryz.prog 96 #[.float .f64 0] w fun e w' => e = .returned (.float .f64 18442240474082181120) ∧ w = w' := by
  have I := isInf_one 0 w (by decide +kernel)
  have J := isNaN_no 0 w (by decide +kernel)
  have h1 : (FloatKind.f64.format.order 0 0 == some .lt) = false := by decide +kernel
  have h2 : (FloatKind.f64.format.order 0 0 == some .eq) = true := by decide +kernel
  go_enter Tryz.func96, Tryz.ntmps96
  go_wp2_with fail
  refine J.mono ?_
  rintro e w' ⟨rfl, rfl⟩
  go_wp2_with fail
  refine I.mono ?_
  rintro e w' ⟨rfl, rfl⟩
  go_wp2_with (first | (go_at_call 39; refine (frombits_any _ _).mono ?_; rintro e w' ⟨rfl, rfl⟩) | go_in)
  go_ret
  exact ⟨rfl, rfl⟩

/-- 'Log10' out of what 'log' gives. -/
theorem Log10_of (x y r : Nat) (w : World) (h : Calls Tryz.prog 96 #[.float .f64 x] w fun e w' => e = .returned (.float .f64 y) ∧ w = w') (hr : floatBits .mul .f64 y 4601495173785380110 = some r) :
    Calls Tryz.prog 41 #[.float .f64 x] w fun e w' => e = .returned (.float .f64 r) ∧ w = w' := by
  have H := Lib.hid h
  clear h
  have em := fun w => run_float_arith (P := Tryz.prog) w .mul 53 .f64 y 4601495173785380110 r hr
  clear hr
  go_enter Tryz.func41, Tryz.ntmps41
  go_wp2_with (first | (go_at_call 96; refine H.out.mono ?_; rintro e w' ⟨rfl, rfl⟩) | go_in)
  go_ret
  exact ⟨rfl, rfl⟩

/-! ### All that is reckoned of a small whole number -/
def logOf (x : Nat) : Option Nat :=
  if (FloatKind.f64.format.order (fracB x) 4604544271217802189 == some .lt) = true then
    (floatBits .mul .f64 (fracB x) 4611686018427387904).bind fun f1 => logTail f1 (floatOfInt .f64 (wrap64 (expB x - 1)))
  else logTail (fracB x) (floatOfInt .f64 (expB x))

/-- What 'log' asks of its argument. -/
def fitB (x : Nat) : Bool :=
  (FloatKind.f64.format.order x 0 == some .eq) == false && (FloatKind.f64.format.order x x != some .eq) == false && (FloatKind.f64.format.order x 9218868437227405311 == some .gt) == false &&
  (FloatKind.f64.format.order x 4503599627370496 == some .lt) == false && (FloatKind.f64.format.order x 0 == some .lt) == false && decide (bits .andNot .u64 (x : Int) 9223372036854775808 = (x : Int))

theorem log_any (x r : Nat) (w : World) (hf : fitB x = true) (hr : logOf x = some r) :
    Calls Tryz.prog 96 #[.float .f64 x] w fun e w' => e = .returned (.float .f64 r) ∧ w = w' := by
  simp only [fitB, Bool.and_eq_true, beq_iff_eq, decide_eq_true_eq] at hf
  obtain ⟨⟨⟨⟨⟨h0, h1⟩, h2⟩, h3⟩, h4⟩, ha⟩ := hf
  unfold logOf at hr
  split at hr
  · rename_i hb
    obtain ⟨f1, hm, ht⟩ := Option.bind_eq_some_iff.1 hr
    exact log_yes x f1 r w h0 h1 h2 h3 h4 ha hb hm ht
  · rename_i hb
    exact log_no x r w h0 h1 h2 h3 h4 ha (by simpa using hb) hr

/-- The bucket's index as a float, of the whole number n (not 0): log10, less the least power, times the buckets of a power. -/
def idxF (n : Nat) : Option (Nat × Nat × Nat) :=
  (logOf (floatOfInt .f64 n)).bind fun y => (floatBits .mul .f64 y 4601495173785380110).bind fun l => (floatBits .sub .f64 l 13844628204490326016).bind fun d =>
    (floatBits .mul .f64 d 4625759767262920704).bind fun b => some (l, d, b)

end Go.Proofs.YtaphagdbekmngaaGreatDoor
