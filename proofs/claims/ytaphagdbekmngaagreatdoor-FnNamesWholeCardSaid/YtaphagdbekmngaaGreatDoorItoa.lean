/- Three small numbers told in decimal: walked. -/
import Derived.Test.YtaphagdbekmngaaGreatDoorSteps
namespace Go.Proofs.YtaphagdbekmngaaGreatDoor
open Go.RowKit Go.Maps

set_option maxRecDepth 100000 in
theorem small_any (d : Nat) (hd : d < 4) (w : World) : Calls Tryz.prog 47 #[.int .i64 d] w fun e w' => e = .returned (.string ⟨#[48 + UInt8.ofNat d]⟩) ∧ w = w' := by
  obtain rfl | rfl | rfl | rfl : d = 0 ∨ d = 1 ∨ d = 2 ∨ d = 3 := by omega
  · go_enter Tryz.func47, Tryz.ntmps47
    go_wp2
    go_ret
    exact ⟨rfl, rfl⟩
  · go_enter Tryz.func47, Tryz.ntmps47
    go_wp2
    go_ret
    exact ⟨rfl, rfl⟩
  · go_enter Tryz.func47, Tryz.ntmps47
    go_wp2
    go_ret
    exact ⟨rfl, rfl⟩
  · go_enter Tryz.func47, Tryz.ntmps47
    go_wp2
    go_ret
    exact ⟨rfl, rfl⟩

set_option maxRecDepth 100000 in
theorem format_any (d : Nat) (hd : d < 4) (w : World) : Calls Tryz.prog 35 #[.int .i64 d, .int .i64 10] w fun e w' => e = .returned (.string ⟨#[48 + UInt8.ofNat d]⟩) ∧ w = w' := by
  have hc := small_any d hd
  go_enter Tryz.func35, Tryz.ntmps35
  go_wp2_with (first | (go_at_call 47; refine (hc _).mono ?_; rintro e w' ⟨rfl, rfl⟩))
  go_ret
  exact ⟨rfl, rfl⟩

set_option maxRecDepth 100000 in
theorem itoa_in (d : Nat) (hd : d < 4) (w : World) : Calls Tryz.prog 17 #[.int .i64 d] w fun e w' => e = .returned (.string ⟨#[48 + UInt8.ofNat d]⟩) ∧ w = w' := by
  have hc := format_any d hd
  go_enter Tryz.func17, Tryz.ntmps17
  go_wp2_with (first | (go_at_call 35; refine (hc _).mono ?_; rintro e w' ⟨rfl, rfl⟩))
  go_ret
  exact ⟨rfl, rfl⟩

set_option maxRecDepth 100000 in
theorem itoa_any (d : Nat) (hd : d < 4) (w : World) : Calls Tryz.prog 9 #[.int .i64 d] w fun e w' => e = .returned (.string ⟨#[48 + UInt8.ofNat d]⟩) ∧ w = w' := by
  have hc := itoa_in d hd
  go_enter Tryz.func9, Tryz.ntmps9
  go_wp2_with (first | (go_at_call 17; refine (hc _).mono ?_; rintro e w' ⟨rfl, rfl⟩))
  go_ret
  exact ⟨rfl, rfl⟩
end Go.Proofs.YtaphagdbekmngaaGreatDoor
