/- What merging one histogram into another does to memory, walked. -/
import Derived.Test.YtaphagdbekmngaaGreatDoorHist
import Derived.Deep.MidRow
namespace Go.Proofs.YtaphagdbekmngaaGreatDoor
open Go.RowKit

theorem hist_cells {cls : Cls} {w : World} (h : Typed cls w) {b : Nat} (hb : cls b = 61) :
    (∃ x, w.cell? ⟨b, 27, none⟩ = some (.int .u64 x)) ∧ (∃ x, w.cell? ⟨b, 28, none⟩ = some (.int .u64 x)) ∧ ∃ x, w.cell? ⟨b, 29, none⟩ = some (.float .f64 x) := by
  obtain ⟨arr, ha, g1, g2, ⟨lo, g3⟩, ⟨up, g4⟩, ⟨sm, g5⟩⟩ := h.hist hb
  exact ⟨⟨lo, by rw [cell_at ha]; exact g3⟩, ⟨up, by rw [cell_at ha]; exact g4⟩, ⟨sm, by rw [cell_at ha]; exact g5⟩⟩

theorem index59 (A : Array Value) (k : Nat) (hk : k < 27) (p : Option Addr) (hv : A[k]? = some (.pointer p)) (w : World) :
    (Instr.index 59 (.agg A) (.int .i64 (k : Int))).run Tryz.prog w = .ok (.pointer p) w := by
  simp [Instr.index, run_underlying Tryz.underlying59, asIntOf]
  rw [if_pos hk]
  simp [part, isAgg, run_underlying Tryz.underlying58, hv]

/-- The world goes on from (cls, w) by way of wr. -/
def On (cls : Cls) (w wr : World) : Prop := ∃ c, Evol cls w c wr
/-- .. and a bucket lies at r (and at s). -/
def On2 (cls : Cls) (w wr : World) (r s : Nat) : Prop := ∃ c, Evol cls w c wr ∧ c r = 99 ∧ c s = 99

theorem info59 : (Tryz.prog.info? 59).map (·.size) = some 27 := by kernel_rfl

theorem hist_row {cls : Cls} {w : World} (h : Typed cls w) {b : Nat} (hb : cls b = 61) : ∃ A : Array Value, w.rangeAt b 0 A.toList ∧ A.size = 27 ∧
    ∀ k, k < 27 → A[k]? = some (.pointer none) ∨ ∃ r, A[k]? = some (.pointer (some ⟨r, 0, none⟩)) ∧ cls r = 99 := by
  obtain ⟨arr, ha, g1, g2, _⟩ := h.hist hb
  refine ⟨arr.extract 0 27, World.rangeAt_of_block ha 0 27, by simp [g1], fun k hk => ?_⟩
  have e : (arr.extract 0 27)[k]? = arr[k]? := by
    rw [Array.getElem?_extract]
    simp [g1, hk]
  rw [e]
  exact g2 k hk

set_option maxHeartbeats 2000000 in
set_option maxRecDepth 100000 in
theorem merge_any (cls : Cls) (w : World) (hd hs : Nat) (hT : Typed cls w) (hcd : cls hd = 61) (hcs : cls hs = 61) :
    Calls Tryz.prog 29 #[.pointer (some ⟨hd, 0, none⟩), .pointer (some ⟨hs, 0, none⟩)] w (Goes cls w) := by
  have HD := Lib.hid hcd
  have HS := Lib.hid hcs
  obtain ⟨⟨x0, a0⟩, _, _⟩ := hist_cells hT hcd
  obtain ⟨⟨y0, b0⟩, _, _⟩ := hist_cells hT hcs
  have f0 := hT.free (show cls hd ≠ 0 by omega) 27
  have E0 := Lib.hid ((Evol.refl hT).low hd 27 (IntKind.u64.wrap (x0 + y0)) (.inl rfl) hcd)
  have hlt := Lib.hid (hT.lt (show cls hd ≠ 0 by omega))
  clear hcd hcs hT
  go_enter Tryz.func29, Tryz.ntmps29
  go_wp2_with fail
  go_region
  have E1 := E0.out.drew
  clear E0 a0 b0 f0
  generalize World.drew _ = W1 at E1 ⊢
  obtain ⟨_, ⟨x0, a0⟩, _⟩ := hist_cells E1.typed HD.out
  obtain ⟨_, ⟨y0, b0⟩, _⟩ := hist_cells E1.typed HS.out
  have f0 := E1.typed.free (show cls hd ≠ 0 by rw [HD.out]; decide) 28
  have E0 := Lib.hid (E1.low hd 28 (IntKind.u64.wrap (x0 + y0)) (.inr rfl) HD.out)
  clear E1
  go_wp2_with fail
  go_region
  have E1 := E0.out.drew
  clear E0 a0 b0 f0
  generalize World.drew _ = W2 at E1 ⊢
  obtain ⟨_, _, ⟨x0, a0⟩⟩ := hist_cells E1.typed HD.out
  obtain ⟨_, _, ⟨y0, b0⟩⟩ := hist_cells E1.typed HS.out
  have f0 := E1.typed.free (show cls hd ≠ 0 by rw [HD.out]; decide) 29
  have E0 := Lib.hid (fun z => E1.sum hd z HD.out)
  clear E1
  have hst := store_float
  go_wp2_with fail
  rcases add_run x0 y0 with ⟨r, hr⟩ | ⟨g, hr⟩
  all_goals go_region
  · have E1 := (E0.out r).drew
    clear E0 a0 b0 f0 hr
    generalize World.drew _ = W3 at E1 ⊢
    obtain ⟨A, hA, hAs, hAk⟩ := hist_row E1.typed HS.out
    have hAk' := Lib.hid hAk
    have HT := Lib.hid E1.typed
    have E2 := Lib.hid E1
    have hl3 := Lib.hid (E1.typed.lt (show cls hd ≠ 0 by rw [HD.out]; decide))
    clear E1 hAk
    go_wp2_with (with_reducible refine wpList_load_mid rfl 59 _ rfl hs 0 rfl A.toList _ hA Tryz.underlying59 rfl (by rw [info59]; simp [hAs]) ?_)
    clear hA hAs
    go_loopw [46] (fun i wr => ∃ k : Nat, k ≤ 27 ∧ i = .int .i64 k ∧ On cls W3 wr) (fun i _ => 27 - (intOf i).toNat)
    case atStart => exact ⟨0, Nat.zero_le _, rfl, _, Evol.refl HT.out⟩
    case round =>
      obtain ⟨k, hk, rfl, c, hE⟩ := hrel
      obtain ⟨wo, rfl⟩ : ∃ wo : World, wo = wr := ⟨_, rfl⟩
      by_cases hlk : k < 27
      · have hch : c hd = 61 := by rw [hE.ext hd hl3.out]; exact HD.out
        have k1 : ((k : Int)) < 27 := by omega
        have k0 : (0 : Int) ≤ (k : Int) := by omega
        rcases hAk'.out k hlk with hv | ⟨rs, hv, hrs⟩
        · have hix := index59 A k hlk _ hv
          have HE := Lib.hid hE
          clear hv hE hch
          go_wp2
          go_roundw
          case rel => exact ⟨k + 1, by omega, by go_num, _, HE.out⟩
          case measure => simp [intOf]; omega
        · have hix := index59 A k hlk _ hv
          have hcr : c rs = 99 := by rw [hE.ext rs (HT.out.lt (by omega))]; exact hrs
          clear hv
          obtain ⟨arr, ha, _, hp, _⟩ := hE.typed.hist hch
          rcases hp k hlk with hp | ⟨rd, hp, hrd⟩
          · have cp : wo.cell? ⟨hd, k, none⟩ = some (.pointer none) := by rw [cell_at ha]; exact hp
            have fp := hE.typed.free (show c hd ≠ 0 by omega) k
            have hlt : hd < wo.heap.size := hE.typed.lt (by omega)
            have hn1 : ¬ hd = wo.heap.size := by omega
            have hsl := hE.typed.lt (show c rs ≠ 0 by omega)
            have K := Lib.hid (hE.newBucket hd k hch hlk)
            have KC := Lib.hid hE
            have HC := Lib.hid hcr
            clear ha hp hE hch hcr
            obtain ⟨rd, hrds⟩ : ∃ rd, rd = wo.heap.size := ⟨_, rfl⟩
            have HRB := Lib.hid hrds
            clear hrds
            go_wp2
            have K' := K.out
            clear K
            rw [← HRB.out] at K' ⊢
            generalize hW : World.alloc _ _ = W at K' ⊢
            have HS2 : Hid (On2 cls W3 W rd rs) := by
              obtain ⟨c3, hE3, h99⟩ := K'
              refine Lib.hid ⟨c3, hE3, h99, ?_⟩
              rw [hE3.ext rs (HT.out.lt (by omega))]; exact hrs
            clear K' hW cp fp hlt hn1 hsl
            go_loopw [66] (fun j wq => ∃ m : Nat, m ≤ 18 ∧ j = .int .i64 m ∧ On2 cls W3 wq rd rs) (fun j _ => 18 - (intOf j).toNat)
            case atStart => exact ⟨0, Nat.zero_le _, rfl, HS2.out⟩
            case round =>
              obtain ⟨m, hm, rfl, c2, hE2, hr1, hr2⟩ := hrel
              by_cases hlm : m < 18
              · obtain ⟨x1, a1⟩ := hE2.typed.buck hr1 m hlm
                obtain ⟨y1, b1⟩ := hE2.typed.buck hr2 m hlm
                have f1 := hE2.typed.free (show c2 rd ≠ 0 by omega) m
                have HE2 := Lib.hid hE2
                have Hr1 := Lib.hid hr1
                have Hr2 := Lib.hid hr2
                have g1 : ((m : Int)) < 18 := by omega
                have g0 : (0 : Int) ≤ (m : Int) := by omega
                clear hE2 hr1 hr2
                go_wp2
                go_region
                go_wp2
                go_roundw
                case rel => exact ⟨m + 1, by omega, by go_num, c2, (HE2.out.buck rd m _ Hr1.out).drew, Hr1.out, Hr2.out⟩
                case measure => simp [intOf]; omega
              · have HO := Lib.hid hE2
                clear hE2 hr1 hr2
                go_wp2
                go_roundw
                case rel => exact ⟨k + 1, by omega, by go_num, _, HO.out⟩
                case measure => simp [intOf]; omega
          · have cp : wo.cell? ⟨hd, k, none⟩ = some (.pointer (some ⟨rd, 0, none⟩)) := by rw [cell_at ha]; exact hp
            have HS2 : Hid (On2 cls W3 wo rd rs) := Lib.hid ⟨c, hE, hrd, hcr⟩
            have HE := Lib.hid hE
            clear ha hp hE hch hcr
            go_wp2
            go_loopw [66] (fun j wq => ∃ m : Nat, m ≤ 18 ∧ j = .int .i64 m ∧ On2 cls W3 wq rd rs) (fun j _ => 18 - (intOf j).toNat)
            case atStart => exact ⟨0, Nat.zero_le _, rfl, HS2.out⟩
            case round =>
              obtain ⟨m, hm, rfl, c2, hE2, hr1, hr2⟩ := hrel
              by_cases hlm : m < 18
              · obtain ⟨x1, a1⟩ := hE2.typed.buck hr1 m hlm
                obtain ⟨y1, b1⟩ := hE2.typed.buck hr2 m hlm
                have f1 := hE2.typed.free (show c2 rd ≠ 0 by omega) m
                have HE2 := Lib.hid hE2
                have Hr1 := Lib.hid hr1
                have Hr2 := Lib.hid hr2
                have g1 : ((m : Int)) < 18 := by omega
                have g0 : (0 : Int) ≤ (m : Int) := by omega
                clear hE2 hr1 hr2
                go_wp2
                go_region
                go_wp2
                go_roundw
                case rel => exact ⟨m + 1, by omega, by go_num, c2, (HE2.out.buck rd m _ Hr1.out).drew, Hr1.out, Hr2.out⟩
                case measure => simp [intOf]; omega
              · have HO := Lib.hid hE2
                clear hE2 hr1 hr2
                go_wp2
                go_roundw
                case rel => exact ⟨k + 1, by omega, by go_num, _, HO.out⟩
                case measure => simp [intOf]; omega
      · have HE := Lib.hid hE
        clear hE
        go_wp2
        go_end0
        exact ⟨rfl, _, E2.out.trans HE.out⟩
  · have E1 := (E0.out (g W2.drew)).drew.drew
    clear E0 a0 b0 f0 hr
    generalize World.drew _ = W3 at E1 ⊢
    obtain ⟨A, hA, hAs, hAk⟩ := hist_row E1.typed HS.out
    have hAk' := Lib.hid hAk
    have HT := Lib.hid E1.typed
    have E2 := Lib.hid E1
    have hl3 := Lib.hid (E1.typed.lt (show cls hd ≠ 0 by rw [HD.out]; decide))
    clear E1 hAk
    go_wp2_with (with_reducible refine wpList_load_mid rfl 59 _ rfl hs 0 rfl A.toList _ hA Tryz.underlying59 rfl (by rw [info59]; simp [hAs]) ?_)
    clear hA hAs
    go_loopw [46] (fun i wr => ∃ k : Nat, k ≤ 27 ∧ i = .int .i64 k ∧ On cls W3 wr) (fun i _ => 27 - (intOf i).toNat)
    case atStart => exact ⟨0, Nat.zero_le _, rfl, _, Evol.refl HT.out⟩
    case round =>
      obtain ⟨k, hk, rfl, c, hE⟩ := hrel
      obtain ⟨wo, rfl⟩ : ∃ wo : World, wo = wr := ⟨_, rfl⟩
      by_cases hlk : k < 27
      · have hch : c hd = 61 := by rw [hE.ext hd hl3.out]; exact HD.out
        have k1 : ((k : Int)) < 27 := by omega
        have k0 : (0 : Int) ≤ (k : Int) := by omega
        rcases hAk'.out k hlk with hv | ⟨rs, hv, hrs⟩
        · have hix := index59 A k hlk _ hv
          have HE := Lib.hid hE
          clear hv hE hch
          go_wp2
          go_roundw
          case rel => exact ⟨k + 1, by omega, by go_num, _, HE.out⟩
          case measure => simp [intOf]; omega
        · have hix := index59 A k hlk _ hv
          have hcr : c rs = 99 := by rw [hE.ext rs (HT.out.lt (by omega))]; exact hrs
          clear hv
          obtain ⟨arr, ha, _, hp, _⟩ := hE.typed.hist hch
          rcases hp k hlk with hp | ⟨rd, hp, hrd⟩
          · have cp : wo.cell? ⟨hd, k, none⟩ = some (.pointer none) := by rw [cell_at ha]; exact hp
            have fp := hE.typed.free (show c hd ≠ 0 by omega) k
            have hlt : hd < wo.heap.size := hE.typed.lt (by omega)
            have hn1 : ¬ hd = wo.heap.size := by omega
            have hsl := hE.typed.lt (show c rs ≠ 0 by omega)
            have K := Lib.hid (hE.newBucket hd k hch hlk)
            have KC := Lib.hid hE
            have HC := Lib.hid hcr
            clear ha hp hE hch hcr
            obtain ⟨rd, hrds⟩ : ∃ rd, rd = wo.heap.size := ⟨_, rfl⟩
            have HRB := Lib.hid hrds
            clear hrds
            go_wp2
            have K' := K.out
            clear K
            rw [← HRB.out] at K' ⊢
            generalize hW : World.alloc _ _ = W at K' ⊢
            have HS2 : Hid (On2 cls W3 W rd rs) := by
              obtain ⟨c3, hE3, h99⟩ := K'
              refine Lib.hid ⟨c3, hE3, h99, ?_⟩
              rw [hE3.ext rs (HT.out.lt (by omega))]; exact hrs
            clear K' hW cp fp hlt hn1 hsl
            go_loopw [66] (fun j wq => ∃ m : Nat, m ≤ 18 ∧ j = .int .i64 m ∧ On2 cls W3 wq rd rs) (fun j _ => 18 - (intOf j).toNat)
            case atStart => exact ⟨0, Nat.zero_le _, rfl, HS2.out⟩
            case round =>
              obtain ⟨m, hm, rfl, c2, hE2, hr1, hr2⟩ := hrel
              by_cases hlm : m < 18
              · obtain ⟨x1, a1⟩ := hE2.typed.buck hr1 m hlm
                obtain ⟨y1, b1⟩ := hE2.typed.buck hr2 m hlm
                have f1 := hE2.typed.free (show c2 rd ≠ 0 by omega) m
                have HE2 := Lib.hid hE2
                have Hr1 := Lib.hid hr1
                have Hr2 := Lib.hid hr2
                have g1 : ((m : Int)) < 18 := by omega
                have g0 : (0 : Int) ≤ (m : Int) := by omega
                clear hE2 hr1 hr2
                go_wp2
                go_region
                go_wp2
                go_roundw
                case rel => exact ⟨m + 1, by omega, by go_num, c2, (HE2.out.buck rd m _ Hr1.out).drew, Hr1.out, Hr2.out⟩
                case measure => simp [intOf]; omega
              · have HO := Lib.hid hE2
                clear hE2 hr1 hr2
                go_wp2
                go_roundw
                case rel => exact ⟨k + 1, by omega, by go_num, _, HO.out⟩
                case measure => simp [intOf]; omega
          · have cp : wo.cell? ⟨hd, k, none⟩ = some (.pointer (some ⟨rd, 0, none⟩)) := by rw [cell_at ha]; exact hp
            have HS2 : Hid (On2 cls W3 wo rd rs) := Lib.hid ⟨c, hE, hrd, hcr⟩
            have HE := Lib.hid hE
            clear ha hp hE hch hcr
            go_wp2
            go_loopw [66] (fun j wq => ∃ m : Nat, m ≤ 18 ∧ j = .int .i64 m ∧ On2 cls W3 wq rd rs) (fun j _ => 18 - (intOf j).toNat)
            case atStart => exact ⟨0, Nat.zero_le _, rfl, HS2.out⟩
            case round =>
              obtain ⟨m, hm, rfl, c2, hE2, hr1, hr2⟩ := hrel
              by_cases hlm : m < 18
              · obtain ⟨x1, a1⟩ := hE2.typed.buck hr1 m hlm
                obtain ⟨y1, b1⟩ := hE2.typed.buck hr2 m hlm
                have f1 := hE2.typed.free (show c2 rd ≠ 0 by omega) m
                have HE2 := Lib.hid hE2
                have Hr1 := Lib.hid hr1
                have Hr2 := Lib.hid hr2
                have g1 : ((m : Int)) < 18 := by omega
                have g0 : (0 : Int) ≤ (m : Int) := by omega
                clear hE2 hr1 hr2
                go_wp2
                go_region
                go_wp2
                go_roundw
                case rel => exact ⟨m + 1, by omega, by go_num, c2, (HE2.out.buck rd m _ Hr1.out).drew, Hr1.out, Hr2.out⟩
                case measure => simp [intOf]; omega
              · have HO := Lib.hid hE2
                clear hE2 hr1 hr2
                go_wp2
                go_roundw
                case rel => exact ⟨k + 1, by omega, by go_num, _, HO.out⟩
                case measure => simp [intOf]; omega
      · have HE := Lib.hid hE
        clear hE
        go_wp2
        go_end0
        exact ⟨rfl, _, E2.out.trans HE.out⟩
end Go.Proofs.YtaphagdbekmngaaGreatDoor
