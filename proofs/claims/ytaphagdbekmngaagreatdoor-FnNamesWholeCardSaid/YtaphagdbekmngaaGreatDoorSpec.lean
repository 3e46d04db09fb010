/- The names that the specification lists behind steps, and that both lists are the same: walked. -/
import Derived.Test.YtaphagdbekmngaaGreatDoorPlay
import Derived.Test.YtaphagdbekmngaaGreatDoorShelf
namespace Go.Proofs.YtaphagdbekmngaaGreatDoor
open Go.RowKit Go.Maps Go.Sort Go.Shelf Go.Proofs

set_option maxHeartbeats 2000000 in
set_option maxRecDepth 100000 in
theorem spec_names (w : World) (base : Nat) (v : Value) (sts : List St) (hst : StepsAt w base v sts) (hl : sts.length ≤ 60) (hok : ∀ s ∈ sts, StOk s) :
    Calls Tryz.prog 7 #[v] w (SortedOf (after sts) w) := by
  have HP := Lib.hid (play_any w base v sts hst hl hok)
  clear hst hok
  go_enter Tryz.func7, Tryz.ntmps7
  go_wp2_with (first | (go_at_call 15; refine HP.out.mono ?_; rintro e w1 ⟨mb, rfl, P, own, D, n, hI, hB⟩; have hmax := hI.map.size_le; have hfew := hI.few; have HI := Lib.hid hI; have HB := Lib.hid hB; clear hI hB) | (go_at_call 14; refine (callsIn_wide.1 (Tryz.maps_Keys_14 _ _)).mono ?_; rintro e w2 ⟨rfl, rfl⟩) | (go_at_call 13; refine (callsIn_wide.1 (Tryz.slices_Sorted_keys_13_14 mb n D Rp w1 HI.out.map (by unfold maxLen; omega) (by omega))).mono ?_; rintro e w3 ⟨v3, ss, rfl, hS, hrow, hnil, hb⟩))
  go_ret
  have hperm := hS.trans (perm_known HI.out.map HI.out.nodup HI.out.keys).symm
  have hsz := HB.out.size
  exact ⟨v3, rfl, sorted_as hperm (row_low hrow (by simp; omega)), ((HB.out.alloc hsz _)).trans (hb.mono (by simp; omega))⟩
end Go.Proofs.YtaphagdbekmngaaGreatDoor
