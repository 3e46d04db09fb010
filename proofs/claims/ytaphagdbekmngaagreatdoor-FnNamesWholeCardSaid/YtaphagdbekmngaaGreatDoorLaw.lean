/- The law's function returns true, whatever bytes it is given: walked. -/
import Derived.Test.YtaphagdbekmngaaGreatDoorMade
import Derived.Test.YtaphagdbekmngaaGreatDoorSpec
import Derived.Test.YtaphagdbekmngaaGreatDoorSame
import Derived.Test.YtaphagdbekmngaaGreatDoorWrite
namespace Go.Proofs.YtaphagdbekmngaaGreatDoor
open Go.RowKit Go.Maps Go.Sort

theorem row_below {w w' : World} {base size n : Nat} {e : TypeId} {v : Value} {xs : List Value} (h : w.ownsRow base e size v n xs) (hb : Below w.heap.size w w') : w'.ownsRow base e size v n xs :=
  ⟨h.1, h.2.imp id fun ⟨g, cap, cur, h1, h2, h3, h4⟩ => ⟨g, cap, cur, h1, h2, (hb.block g (lt_of_block h3)).trans h3, h4⟩⟩

theorem after_length (sts : List St) : (after sts).length ≤ sts.length := by
  have : ∀ (l : List St) (acc : List (List UInt8)), (l.foldl step1 acc).length ≤ acc.length + l.length := by
    intro l
    induction l with
    | nil => intro acc; simp
    | cons s l ih =>
      intro acc
      have h1 := ih (step1 acc s)
      have h2 : (step1 acc s).length ≤ acc.length + 1 := by
        unfold step1
        split
        · exact Nat.le_trans (List.length_filter_le _ _) (Nat.le_succ _)
        · split <;> simp
      simp only [List.foldl_cons, List.length_cons]
      omega
  have h := this sts []
  simp only [List.length_nil, Nat.zero_add] at h
  exact h

set_option maxHeartbeats 4000000 in
set_option maxRecDepth 100000 in
theorem law_any (a0 : Option Addr) (len0 cap0 : Nat) (z0 : List Int) (w : World) (h : IsRow .u8 w a0 len0 cap0 z0) :
    Calls Tryz.prog 3 #[.slice a0 len0 cap0] w fun e w' => e = .returned (.bool true) ∧ Below w.heap.size w w' := by
  by_cases hlen : 2147483647 < len0
  · clear h
    go_enter Tryz.func3, Tryz.ntmps3
    go_wp2_with fail
    go_ret
    exact ⟨rfl, Below.refl _ _⟩
  · have H := Lib.hid (steps_any a0 len0 cap0 z0 w h (by omega))
    clear h
    go_enter Tryz.func3, Tryz.ntmps3
    go_wp2_with (first | (go_at_call 4; refine H.out.mono ?_; rintro e w1 ⟨v, sts, rfl, hS, h60, hok, hB⟩; have HS := Lib.hid hS; have HO := Lib.hid hok; have HB := Lib.hid hB; clear hS hok hB) | (go_at_call 6; refine (names_any w1 _ v sts HS.out h60 HO.out).mono ?_; rintro e w2 ⟨v2, rfl, hr2, hB2⟩; have HR2 := Lib.hid hr2; have HB2 := Lib.hid hB2; clear hr2 hB2) | (go_at_call 7; refine (spec_names w2 _ v sts (row_below HS.out HB2.out) h60 HO.out).mono ?_; rintro e w3 ⟨v3, rfl, hr3, hB3⟩; have HR3 := Lib.hid hr3; have HB3 := Lib.hid hB3; clear hr3 hB3) | (go_at_call 5; refine (same_any w3 w1.heap.size w2.heap.size v2 v3 ((after sts).mergeSort (fun x y => decide (x ≤ y))) (by rw [List.length_mergeSort]; exact row_below HR2.out HB3.out) (by rw [List.length_mergeSort]; exact HR3.out) (by rw [List.length_mergeSort]; have := after_length sts; omega)).mono ?_; rintro e w4 ⟨rfl, q, hq⟩; have HQ := Lib.hid hq; clear hq) | (go_at_call 8; refine (sane_true w4).mono ?_; rintro e w5 ⟨rfl, hB5⟩; have HB5 := Lib.hid hB5; clear hB5))
    go_ret
    have b1 := HB.out
    have b2 := b1.trans (HB2.out.mono b1.size)
    have b3 := b2.trans (HB3.out.mono b2.size)
    have hq := HQ.out
    subst hq
    have b4 := b3.trans (show Below w.heap.size w3 (w3.drewN q) from ⟨rfl, rfl, rfl, Nat.le_refl _, fun _ _ => rfl⟩)
    exact ⟨rfl, b4.trans (HB5.out.mono b4.size)⟩
end Go.Proofs.YtaphagdbekmngaaGreatDoor
