/- The small functions behind telling one counter: walked. -/
import Derived.Test.YtaphagdbekmngaaGreatDoorOset
import Derived.Test.YtaphagdbekmngaaGreatDoorItoa
namespace Go.Proofs.YtaphagdbekmngaaGreatDoor
open Go.RowKit Go.Maps

set_option maxRecDepth 100000 in
theorem family_a (w : World) : Calls Tryz.prog 72 #[.string ⟨#[97]⟩] w fun e w' => e = .returned (.string ⟨#[97]⟩) ∧ w = w' := by
  go_enter Tryz.func72, Tryz.ntmps72
  go_wp2_with (first | (go_at_call 51; refine (idx_any _ _ (-1) _ (by decide +kernel)).mono ?_; rintro e w' ⟨rfl, rfl⟩))
  go_ret
  exact ⟨rfl, rfl⟩

set_option maxRecDepth 100000 in
theorem insert_one (a : Option Addr) (cap : Nat) (f : Value) (w : World) : Calls Tryz.prog 98 #[.slice a 1 cap, .int .i64 0, .int .i64 1, f] w fun e w' => e = .returned (.tuple #[]) ∧ w = w' := by
  go_enter Tryz.func98, Tryz.ntmps98
  go_wp2_with fail
  refine wp_loop_rounds 1 ?_
  rw [rounds_succ]
  go_wp2_with fail
  go_end0
  exact ⟨rfl, rfl⟩

set_option maxRecDepth 100000 in
theorem stable_one (a : Option Addr) (cap : Nat) (f : Value) (w : World) : Calls Tryz.prog 89 #[.slice a 1 cap, .int .i64 1, f] w fun e w' => e = .returned (.tuple #[]) ∧ w = w' := by
  have H := insert_one a cap f
  go_enter Tryz.func89, Tryz.ntmps89
  go_wp2_with fail
  refine wp_loop_rounds 1 ?_
  rw [rounds_succ]
  go_wp2_with (first | (go_at_call 98; refine (H _).mono ?_; rintro e w' ⟨rfl, rfl⟩))
  refine wp_loop_rounds 1 ?_
  rw [rounds_succ]
  go_wp2_with fail
  go_end0
  exact ⟨rfl, rfl⟩

set_option maxRecDepth 100000 in
theorem sort_one (a : Option Addr) (cap : Nat) (f : Value) (w : World) : Calls Tryz.prog 69 #[.slice a 1 cap, f] w fun e w' => e = .returned (.tuple #[]) ∧ w = w' := by
  have H := stable_one a cap f
  go_enter Tryz.func69, Tryz.ntmps69
  go_wp2_with (first | (go_at_call 89; refine (H _).mono ?_; rintro e w' ⟨rfl, rfl⟩))
  go_end0
  exact ⟨rfl, rfl⟩

set_option maxRecDepth 100000 in
theorem meta_no (a b c : Value) (w : World) : Calls Tryz.prog 73 #[a, .bool false, b, c] w fun e w' => e = .returned (.tuple #[]) ∧ w = w' := by
  go_enter Tryz.func73, Tryz.ntmps73
  go_wp2_with fail
  refine bodyPost_ret (results_none rfl _ _ _) rfl ?_
  exact ⟨rfl, rfl⟩

set_option maxRecDepth 100000 in
theorem get_three (b : Nat) (w : World) (hb : w.cell? ⟨b, 0, none⟩ = some (.int .u64 3)) : Calls Tryz.prog 129 #[.pointer (some ⟨b, 0, none⟩)] w fun e w' => e = .returned (.int .u64 3) ∧ w = w' := by
  go_enter Tryz.func129, Tryz.ntmps129
  go_wp2
  go_ret
  exact ⟨rfl, rfl⟩

set_option maxRecDepth 100000 in
theorem type_counter (v : Value) (w : World) : Calls Tryz.prog 128 #[v] w fun e w' => e = .returned (.string ⟨#[99, 111, 117, 110, 116, 101, 114]⟩) ∧ w = w' := by
  go_enter Tryz.func128, Tryz.ntmps128
  go_wp2
  go_ret
  exact ⟨rfl, rfl⟩

theorem small_three (w : World) : Calls Tryz.prog 47 #[.int .i64 3] w fun e w' => e = .returned (.string ⟨#[51]⟩) ∧ w = w' := small_any 3 (by decide) w
set_option maxRecDepth 100000 in
theorem uint_three (w : World) : Calls Tryz.prog 131 #[.int .u64 3, .int .i64 10] w fun e w' => e = .returned (.string ⟨#[51]⟩) ∧ w = w' := by
  go_enter Tryz.func131, Tryz.ntmps131
  go_wp2_with (first | (go_at_call 47; refine (small_three _).mono ?_; rintro e w' ⟨rfl, rfl⟩))
  go_ret
  exact ⟨rfl, rfl⟩
set_option maxRecDepth 100000 in
theorem format_three (w : World) : Calls Tryz.prog 130 #[.int .u64 3, .int .i64 10] w fun e w' => e = .returned (.string ⟨#[51]⟩) ∧ w = w' := by
  go_enter Tryz.func130, Tryz.ntmps130
  go_wp2_with (first | (go_at_call 131; refine (uint_three _).mono ?_; rintro e w' ⟨rfl, rfl⟩))
  go_ret
  exact ⟨rfl, rfl⟩

theorem info5 : (Tryz.prog.info? 5).map (fun i => (i.zero, i.size, i.bytes)) = some (some (.int .u8 0), 1, 1) := by kernel_rfl

/-- A buffer that was empty, written to. -/
def Wrote (B c n : Nat) (xs : List Value) (w : World) (e : Ending) (W : World) : Prop := e = .returned (.tuple #[.int .i64 n, .nilIface]) ∧ ∃ g cap, W.heap[c]? = some (.cells #[.slice (some ⟨g, 0, none⟩) n cap] 106 (0, 0)) ∧ W.ownsRow B 5 1 (.slice (some ⟨g, 0, none⟩) n cap) n xs ∧ Below B w W

set_option maxHeartbeats 1000000 in
set_option maxRecDepth 100000 in
theorem write_any (B c S n cap : Nat) (xs : List Value) (w : World) (hc : w.heap[c]? = some (.cells #[.slice none 0 0] 106 (0, 0))) (hB : B ≤ c) (hn : xs.length = n) (h0 : 0 < n) (h1 : n ≤ 100)
    (hcell : ∀ j u, xs[j]? = some u → w.cell? ((⟨S, 0, none⟩ : Addr).add j) = some u) (hone : ∀ u ∈ xs, u.oneCell' = true) :
    Calls Tryz.prog 212 #[.pointer (some ⟨c, 0, none⟩), .slice (some ⟨S, 0, none⟩) n cap] w (Wrote B c n xs w) := by
  obtain ⟨i0, hi, hz0, hz1, hz2⟩ := info_parts info5
  have c0 : w.cell? ⟨c, 0, none⟩ = some (.slice none 0 0) := by rw [cell_at hc]; rfl
  have hcl := lt_of_block hc
  have HC := Lib.hid hc
  have HX := Lib.hid hcell
  have HO := Lib.hid hone
  have HN := Lib.hid hn
  clear hc hcell hone hn
  go_enter Tryz.func212, Tryz.ntmps212
  go_wp2_with (first | (at_builtin; go_must (refine wpList_append_own_at _ rfl _ _ 22 rfl B 5 i0 (.int .u8 0) 1 1 Tryz.underlying22 hi hz0 hz1 hz2 rfl (by decide) (.slice none 0 0) 0 [] rfl (World.ownsRow_nil _ _ _ _) ⟨S, 0, none⟩ n cap xs rfl (by rw [HN.out]; omega) HX.out HO.out (by unfold maxLen; omega) (by omega) (by omega) ?_); intro v' w2 hown2 hgrow2 hnil2 hloc2; have hown3 := (show w2.ownsRow B 5 1 v' n xs from by simpa using hown2); obtain ⟨g', cap', rfl, hgb, hgl⟩ := hown3.form h0; have hb2 : w2.heap[c]? = _ := (hgrow2.block c hcl (show some c ≠ (Value.slice none 0 0).ownBlock from by simp [Value.ownBlock])).trans HC.out; have x0 : w2.cell? ⟨c, 0, none⟩ = some (.slice none 0 0) := (by rw [cell_at hb2]; rfl); have x1 := free_at hb2 0; have HB2 := Lib.hid hb2; have HG2 := Lib.hid hgrow2; have HO2 := Lib.hid hown3; clear hb2 hgrow2 hown2 hown3 hnil2 hloc2))
  go_ret2
  refine ⟨rfl, g', cap', by rw [heap_setCell_same HB2.out]; rfl, ownsRow_setCell_other HO2.out ?_ _, ((Below.refl B w).grown HG2.out (by omega) (fun k hk => by cases hk)).setCell hB _⟩
  intro e
  obtain ⟨arr, ha⟩ := row_block HO2.out e
  rw [HB2.out] at ha
  simp at ha
end Go.Proofs.YtaphagdbekmngaaGreatDoor
