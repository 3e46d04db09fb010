/- The checks of a metric's name, walked: a name of two small letters, with or without a tag of one digit, is found good. -/
import Derived.Test.YtaphagdbekmngaaGreatDoorShelf
import Derived.WalkKit
import Derived.WalkSpells
import Derived.WalkLawsBesides
import Derived.Lib.Hide
namespace Go.Proofs.YtaphagdbekmngaaGreatDoor
open Go.RowKit

set_option maxHeartbeats 400000 in
theorem isIdent_any (s : ByteArray) (w : World) (h0 : 0 < s.size) (hs : s.size ≤ 100) (hb : ∀ (k : Nat) (h : k < s.size), 97 ≤ (s[k].toNat : Int) ∧ (s[k].toNat : Int) ≤ 122) :
    Calls Tryz.prog 79 #[.string s] w fun e w' => e = .returned (.bool true) ∧ w = w' := by
  have hb' := Lib.hid hb
  clear hb
  have hne : s.toList.isEmpty = false := by
    rw [ByteArray.toList_eq]
    cases hl : s.data.toList with
    | nil => exact absurd (show s.size = 0 from by have h1 : s.data.toList.length = 0 := by rw [hl]; rfl
                                                   simpa using h1) (by omega)
    | cons _ _ => rfl
  go_enter Tryz.func79, Tryz.ntmps79
  go_wp2
  go_loop [3] (fun i => ∃ k : Nat, k ≤ s.size ∧ i = .int .i64 k) (fun i => s.size - (intOf i).toNat)
  case atStart => exact ⟨0, Nat.zero_le _, rfl⟩
  case round =>
    obtain ⟨k, hk, rfl⟩ := hrel
    by_cases hlt : k < s.size
    · obtain ⟨hl, hu⟩ := hb'.out k hlt
      go_wp2
      go_round
      case rel => exact ⟨k + 1, by omega, by go_num⟩
      case measure => simp [intOf]; omega
    · go_wp2
      go_ret
      exact ⟨rfl, rfl⟩

set_option maxHeartbeats 400000 in
theorem validateIdent_any (s : ByteArray) (w : World) (h0 : 0 < s.size) (hs : s.size ≤ 100) (hb : ∀ (k : Nat) (h : k < s.size), 97 ≤ (s[k].toNat : Int) ∧ (s[k].toNat : Int) ≤ 122) :
    Calls Tryz.prog 52 #[.string s] w fun e w' => e = .returned .nilIface ∧ w = w' := by
  have H := isIdent_any s w h0 hs hb
  clear hb
  go_enter Tryz.func52, Tryz.ntmps52
  go_wp2_with (go_at_call 79; refine H.mono ?_; rintro e w' ⟨rfl, rfl⟩)
  go_ret
  exact ⟨rfl, rfl⟩

theorem idx_any (s : ByteArray) (c r : Int) (w : World) (h : Lib.indexByte s.data.toList c.toNat.toUInt8 = r) :
    Calls Tryz.prog 51 #[.string s, .int .u8 c] w fun e w' => e = .returned (.int .i64 r) ∧ w = w' :=
  (Tryz.strings_IndexByte s c w).mono fun e w' ⟨h1, h2⟩ => ⟨by rw [h1, h], h2.symm⟩

theorem ident_one (b : UInt8) (hb : 97 ≤ (b.toNat : Int) ∧ (b.toNat : Int) ≤ 122) (w : World) :
    Calls Tryz.prog 52 #[.string ⟨#[b]⟩] w fun e w' => e = .returned .nilIface ∧ w = w' :=
  validateIdent_any ⟨#[b]⟩ w (Nat.zero_lt_one) (show 1 ≤ 100 by omega) (fun k h => by
    have hk : k = 0 := by have : k < 1 := h; omega
    subst hk; exact hb)
theorem ident_two (a b : UInt8) (ha : 97 ≤ (a.toNat : Int) ∧ (a.toNat : Int) ≤ 122) (hb : 97 ≤ (b.toNat : Int) ∧ (b.toNat : Int) ≤ 122) (w : World) :
    Calls Tryz.prog 52 #[.string ⟨#[a, b]⟩] w fun e w' => e = .returned .nilIface ∧ w = w' :=
  validateIdent_any ⟨#[a, b]⟩ w (show 0 < 2 by omega) (show 2 ≤ 100 by omega) (fun k h => by
    have hk : k = 0 ∨ k = 1 := by have : k < 2 := h; omega
    rcases hk with rfl | rfl
    · exact ha
    · exact hb)

theorem ext_eq (l : List UInt8) (i j : Nat) : (⟨l.toArray⟩ : ByteArray).extract i j = ⟨((l.drop i).take (j - i)).toArray⟩ := by
  apply ByteArray.ext
  rw [ByteArray.data_extract]
  apply Array.ext'
  simp

theorem idx_dq (d : UInt8) (hd : 48 ≤ (d.toNat : Int)) : Lib.indexByte [d, 34] 34 = 1 := by
  have h1 : (d == 34) = false := by
    rw [beq_eq_false_iff_ne]
    rintro rfl
    exact absurd hd (by decide)
  simp [Lib.indexByte, h1]

set_option maxHeartbeats 400000 in
theorem validateTags_any (d : UInt8) (w : World) (hd : 48 ≤ (d.toNat : Int) ∧ (d.toNat : Int) ≤ 57) :
    Calls Tryz.prog 53 #[.string ⟨#[116, 61, 34, d, 34]⟩] w fun e w' => e = .returned .nilIface ∧ w = w' := by
  have x1 := ext_eq [116, 61, 34, d, 34] 0 1
  have x2 := ext_eq [116, 61, 34, d, 34] 2 5
  have x3 := ext_eq [34, d, 34] 1 3
  have x4 := ext_eq [d, 34] 2 2
  simp only [List.drop_succ_cons, List.drop_zero, Nat.reduceSub, List.take_succ_cons, List.take_zero, List.drop_nil, List.take_nil] at x1 x2 x3 x4
  have hi := Lib.hid (idx_dq d hd.1)
  have hq : ((((⟨#[d, 34]⟩ : ByteArray)[0]'(show 0 < 2 by omega)).toNat : Int) == 92) = false := beq_eq_false_iff_ne.2 (by show (d.toNat : Int) ≠ 92; omega)
  obtain ⟨hd1, hd2⟩ := hd
  go_enter Tryz.func53, Tryz.ntmps53
  go_wp2_with fail
  refine wp_loop_rounds 1 ?_
  rw [rounds_succ]
  go_wp2_with fail
  go_step3
  go_wp2_with fail
  refine (idx_any _ _ 1 _ (by rfl)).mono ?_
  rintro e w' ⟨rfl, rfl⟩
  go_wp2_with fail
  refine (ident_one 116 (by decide) _).mono ?_
  rintro e w' ⟨rfl, rfl⟩
  go_wp2_with fail
  go_step3
  go_wp2_with fail
  refine (idx_any _ _ 1 _ hi.out).mono ?_
  rintro e w' ⟨rfl, rfl⟩
  go_wp2_with fail
  refine wp_loop_rounds 1 ?_
  rw [rounds_succ]
  go_wp2_with fail
  rw [Exit.noGoto_ret]
  go_ret
  exact ⟨rfl, rfl⟩
theorem ne123 (a : UInt8) (ha : (a.toNat : Int) ≤ 122) : (a == 123) = false := by
  rw [beq_eq_false_iff_ne]
  rintro rfl
  exact absurd ha (by decide)
theorem idx_no (a b : UInt8) (ha : (a.toNat : Int) ≤ 122) (hb : (b.toNat : Int) ≤ 122) : Lib.indexByte [a, b] 123 = -1 := by
  simp [Lib.indexByte, ne123 a ha, ne123 b hb]
theorem idx_tag (a b : UInt8) (l : List UInt8) (ha : (a.toNat : Int) ≤ 122) (hb : (b.toNat : Int) ≤ 122) : Lib.indexByte (a :: b :: 123 :: l) 123 = 2 := by
  simp [Lib.indexByte, ne123 a ha, ne123 b hb]

set_option maxHeartbeats 400000 in
/-- A NAME OF TWO LETTERS IS GOOD. -/
theorem validate_two (a b : UInt8) (ha : 97 ≤ (a.toNat : Int) ∧ (a.toNat : Int) ≤ 122) (hb : 97 ≤ (b.toNat : Int) ∧ (b.toNat : Int) ≤ 122) (w : World) :
    Calls Tryz.prog 36 #[.string ⟨#[a, b]⟩] w fun e w' => e = .returned .nilIface ∧ w = w' := by
  have hi := Lib.hid (idx_no a b ha.2 hb.2)
  have H := ident_two a b ha hb w
  clear ha hb
  go_enter Tryz.func36, Tryz.ntmps36
  go_wp2_with fail
  refine (idx_any _ _ (-1) _ hi.out).mono ?_
  rintro e w' ⟨rfl, rfl⟩
  go_wp2_with fail
  refine H.mono ?_
  rintro e w' ⟨rfl, rfl⟩
  go_wp2_with fail
  go_ret
  exact ⟨rfl, rfl⟩

set_option maxHeartbeats 400000 in
/-- A NAME OF TWO LETTERS AND A TAG IS GOOD. -/
theorem validate_tag (a b d : UInt8) (ha : 97 ≤ (a.toNat : Int) ∧ (a.toNat : Int) ≤ 122) (hb : 97 ≤ (b.toNat : Int) ∧ (b.toNat : Int) ≤ 122) (hd : 48 ≤ (d.toNat : Int) ∧ (d.toNat : Int) ≤ 57) (w : World) :
    Calls Tryz.prog 36 #[.string ⟨#[a, b, 123, 116, 61, 34, d, 34, 125]⟩] w fun e w' => e = .returned .nilIface ∧ w = w' := by
  have x1 := ext_eq [a, b, 123, 116, 61, 34, d, 34, 125] 0 2
  have x2 := ext_eq [a, b, 123, 116, 61, 34, d, 34, 125] 3 9
  have x3 := ext_eq [116, 61, 34, d, 34, 125] 0 5
  simp only [List.drop_succ_cons, List.drop_zero, Nat.reduceSub, List.take_succ_cons, List.take_zero, List.take_nil] at x1 x2 x3
  have hi := Lib.hid (idx_tag a b [116, 61, 34, d, 34, 125] ha.2 hb.2)
  have H := ident_two a b ha hb w
  have H2 := validateTags_any d w hd
  clear ha hb hd
  go_enter Tryz.func36, Tryz.ntmps36
  go_wp2_with fail
  refine (idx_any _ _ 2 _ hi.out).mono ?_
  rintro e w' ⟨rfl, rfl⟩
  go_wp2_with fail
  refine H.mono ?_
  rintro e w' ⟨rfl, rfl⟩
  go_wp2_with fail
  refine H2.mono ?_
  rintro e w' ⟨rfl, rfl⟩
  go_wp2_with fail
  go_ret
  exact ⟨rfl, rfl⟩

end Go.Proofs.YtaphagdbekmngaaGreatDoor
