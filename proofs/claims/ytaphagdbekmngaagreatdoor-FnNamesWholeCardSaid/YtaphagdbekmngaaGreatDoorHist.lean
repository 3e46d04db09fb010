/- What giving a small whole number to a histogram does to memory, walked. -/
import Derived.Test.YtaphagdbekmngaaGreatDoorNum
import Derived.Test.YtaphagdbekmngaaGreatDoorMet
import Derived.BigRegion
namespace Go.Proofs.YtaphagdbekmngaaGreatDoor
open Go.RowKit

theorem num_facts (n : Nat) (h1 : 1 ≤ n) (h2 : n ≤ 256) : fitB (floatOfInt .f64 n) = true ∧ ∃ y l d b, ∃ i : Nat, logOf (floatOfInt .f64 n) = some y ∧ floatBits .mul .f64 y 4601495173785380110 = some l ∧
    floatBits .sub .f64 l 13844628204490326016 = some d ∧ floatBits .mul .f64 d 4625759767262920704 = some b ∧ (FloatKind.f64.format.order b 0 == some .lt) = false ∧
    ((FloatKind.f64.format.order b 4647257418609197056 == some .gt) || (FloatKind.f64.format.order b 4647257418609197056 == some .eq)) = false ∧ floatToIntVal .f64 b .u64 = some (i : Int) ∧ 1 ≤ i ∧ i < 486 := by
  have h := (List.all_eq_true.1 num_all) (n - 1) (List.mem_range.2 (by omega))
  rw [show n - 1 + 1 = n from by omega] at h
  simp only [numB, Bool.and_eq_true] at h
  refine ⟨h.1, ?_⟩
  have h' := h.2
  clear h
  split at h'
  · rename_i l d b hi
    obtain ⟨y, hy, hi⟩ := Option.bind_eq_some_iff.1 hi
    obtain ⟨l', hl, hi⟩ := Option.bind_eq_some_iff.1 hi
    obtain ⟨d', hd, hi⟩ := Option.bind_eq_some_iff.1 hi
    obtain ⟨b', hb, hi⟩ := Option.bind_eq_some_iff.1 hi
    simp only [Option.some.injEq, Prod.mk.injEq] at hi
    obtain ⟨rfl, rfl, rfl⟩ := hi
    simp only [inB, Bool.and_eq_true, beq_iff_eq] at h'
    obtain ⟨⟨a1, a2⟩, a3⟩ := h'
    split at a3
    · rename_i i hi
      have a4 := of_decide_eq_true a3
      obtain ⟨I, rfl⟩ := Int.eq_ofNat_of_zero_le (show 0 ≤ i by omega)
      exact ⟨y, l', d', b', I, hy, hl, hd, hb, a1, a2, hi, by omega, by omega⟩
    · cases a3
  · cases h'

theorem fit_nan {x : Nat} (h : fitB x = true) : (FloatKind.f64.format.order x x != some .eq) = false ∧ (FloatKind.f64.format.order x 0 == some .lt) = false := by
  simp only [fitB, Bool.and_eq_true, beq_iff_eq, decide_eq_true_eq] at h
  obtain ⟨⟨⟨⟨⟨h0, h1⟩, h2⟩, h3⟩, h4⟩, ha⟩ := h
  exact ⟨h1, h4⟩

theorem good_zeros (cls : Cls) : Good cls 99 #[.int .u64 0, .int .u64 0, .int .u64 0, .int .u64 0, .int .u64 0, .int .u64 0, .int .u64 0, .int .u64 0, .int .u64 0, .int .u64 0, .int .u64 0, .int .u64 0, .int .u64 0, .int .u64 0, .int .u64 0, .int .u64 0, .int .u64 0, .int .u64 0] := by
  have : GoodBuck #[.int .u64 0, .int .u64 0, .int .u64 0, .int .u64 0, .int .u64 0, .int .u64 0, .int .u64 0, .int .u64 0, .int .u64 0, .int .u64 0, .int .u64 0, .int .u64 0, .int .u64 0, .int .u64 0, .int .u64 0, .int .u64 0, .int .u64 0, .int .u64 0] := ⟨rfl, fun i hi => ⟨0, by
    rw [show (#[.int .u64 0, .int .u64 0, .int .u64 0, .int .u64 0, .int .u64 0, .int .u64 0, .int .u64 0, .int .u64 0, .int .u64 0, .int .u64 0, .int .u64 0, .int .u64 0, .int .u64 0, .int .u64 0, .int .u64 0, .int .u64 0, .int .u64 0, .int .u64 0] : Array Value) = Array.replicate 18 (.int .u64 0) from rfl, Array.getElem?_replicate, if_pos hi]⟩⟩
  simpa [Good] using this

theorem setCell_alloc (w : World) (o : Obj) (p : Addr) (v : Value) (h : p.block < w.heap.size) : (w.alloc o).setCell p v = (w.setCell p v).alloc o := by
  unfold World.alloc World.setCell
  simp only
  congr 1
  apply Array.ext_getElem?
  intro k
  rw [Array.getElem?_modify, Array.getElem?_push, Array.getElem?_push, Array.getElem?_modify, Array.size_modify]
  by_cases hk : k = w.heap.size
  · rw [if_neg (by omega), if_pos hk, if_pos hk]
  · rw [if_neg hk, if_neg hk]

/-- A new bucket is laid, and the histogram points to it. -/
theorem Evol.newBucket {c1 c2 : Cls} {w1 w : World} (h : Evol c1 w1 c2 w) (hb k : Nat) (hc : c2 hb = 61) (hk : k < 27) :
    ∃ c3, Evol c1 w1 c3 ((w.setCell ⟨hb, k, none⟩ (.pointer (some ⟨w.heap.size, 0, none⟩))).alloc (.cells #[.int .u64 0, .int .u64 0, .int .u64 0, .int .u64 0, .int .u64 0, .int .u64 0, .int .u64 0, .int .u64 0, .int .u64 0, .int .u64 0, .int .u64 0, .int .u64 0, .int .u64 0, .int .u64 0, .int .u64 0, .int .u64 0, .int .u64 0, .int .u64 0] 99)) ∧ c3 w.heap.size = 99 := by
  have hlt : hb < w.heap.size := h.typed.lt (by omega)
  have h1 := h.new _ 99 (good_zeros c2)
  have h2 := h1.ptr hb k w.heap.size hk (upd_same _ _ _) (by rw [upd_other _ _ _ _ (by omega)]; exact hc)
  rw [setCell_alloc _ _ _ _ (by exact hlt)] at h2
  exact ⟨_, h2, upd_same _ _ _⟩

set_option maxHeartbeats 1000000 in
set_option maxRecDepth 100000 in
theorem update_in (cls : Cls) (w : World) (hb x l d b : Nat) (I : Nat) (hT : Typed cls w) (hc : cls hb = 61)
    (h1 : (FloatKind.f64.format.order x x != some .eq) = false) (h2 : (FloatKind.f64.format.order x 0 == some .lt) = false)
    (hL : ∀ w, Calls Tryz.prog 41 #[.float .f64 x] w fun e w' => e = .returned (.float .f64 l) ∧ w = w')
    (hs : floatBits .sub .f64 l 13844628204490326016 = some d) (hm : floatBits .mul .f64 d 4625759767262920704 = some b)
    (h3 : (FloatKind.f64.format.order b 0 == some .lt) = false)
    (h4 : ((FloatKind.f64.format.order b 4647257418609197056 == some .gt) || (FloatKind.f64.format.order b 4647257418609197056 == some .eq)) = false)
    (h5 : floatToIntVal .f64 b .u64 = some (I : Int)) (h6 : 1 ≤ I) (h7 : I < 486) (h8 : (FloatKind.f64.format.order b (floatOfInt .f64 (I : Int)) == some .eq) = false) :
    Calls Tryz.prog 28 #[.pointer (some ⟨hb, 0, none⟩), .float .f64 x] w (Goes cls w) := by
  have HL := Lib.hid hL
  clear hL
  have J := isNaN_no x w h1
  have e1 := fun w => run_float_arith (P := Tryz.prog) w .sub 53 .f64 l 13844628204490326016 d hs
  have e2 := fun w => run_float_arith (P := Tryz.prog) w .mul 53 .f64 d 4625759767262920704 b hm
  have e3 := fun w => run_convert_float_int (P := Tryz.prog) w 53 98 .f64 .u64 b I (by rw [Tryz.underlying53]; rfl) Tryz.underlying98 h5
  obtain ⟨arr, ha, hg⟩ := hT.hist hc
  obtain ⟨g1, g2, ⟨lo, g3⟩, ⟨up, g4⟩, ⟨sm, g5⟩⟩ := hg
  have c5 : w.cell? ⟨hb, 29, none⟩ = some (.float .f64 sm) := by rw [cell_at ha]; exact g5
  have f5 := hT.free (show cls hb ≠ 0 by omega) 29
  have hst := store_float
  have q1 : I / 18 < 27 := by omega
  have q2 : I % 18 < 18 := by omega
  have q3 : ¬ 29 = I / 18 := by omega
  have q4 : (0 : Int) ≤ (I : Int) % 18 := by omega
  have q5 : (I : Int) % 18 < 18 := by omega
  have q6 : ((I : Int) % 18).toNat = I % 18 := by omega
  have hlt : hb < w.heap.size := hT.lt (by omega)
  have hn1 : ¬ hb = w.heap.size := by omega
  have E0 := Lib.hid (fun y => (Evol.refl hT).sum hb y hc)
  have HC := Lib.hid hc
  clear h1 hs hm h5 h6 g1 g3 g4 g5
  rcases g2 (I / 18) q1 with hp | ⟨rb, hp, hrb⟩
  · have cp : w.cell? ⟨hb, I / 18, none⟩ = some (.pointer none) := by rw [cell_at ha]; exact hp
    have fp := hT.free (show cls hb ≠ 0 by omega) (I / 18)
    clear hp g2 hc hT ha
    obtain ⟨rb, hrbs⟩ : ∃ rb, rb = w.heap.size := ⟨_, rfl⟩
    have HRB := Lib.hid hrbs
    clear hrbs
    rcases add_run sm x with ⟨r, hr⟩ | ⟨g, hr⟩
    · have K := Lib.hid ((E0.out r).newBucket hb (I / 18) HC.out q1)
      go_enter Tryz.func28, Tryz.ntmps28
      go_wp2_with fail
      refine J.mono ?_
      rintro e w' ⟨rfl, rfl⟩
      go_wp2_with fail
      refine (HL.out _).mono ?_
      rintro e w' ⟨rfl, rfl⟩
      go_wp2_with fail
      have K' := K.out
      clear K
      rw [World.size_setCell] at K'
      rw [← HRB.out] at K' ⊢
      generalize hW : World.alloc _ _ = W at K' ⊢
      obtain ⟨c3, hE, h99⟩ := K'
      obtain ⟨v, hv⟩ := hE.typed.buck h99 (I % 18) q2
      have hvf := hE.typed.free (show c3 rb ≠ 0 by omega) (I % 18)
      have HE := Lib.hid (hE.buck rb (I % 18))
      have H99 := Lib.hid h99
      clear hW hE h99 cp fp c5 f5 hr e1 e2 e3 hst E0
      go_region
      go_end0
      exact ⟨rfl, _, (HE.out _ H99.out).drew⟩
    · have K := Lib.hid ((E0.out (g w)).newBucket hb (I / 18) HC.out q1)
      go_enter Tryz.func28, Tryz.ntmps28
      go_wp2_with fail
      refine J.mono ?_
      rintro e w' ⟨rfl, rfl⟩
      go_wp2_with fail
      refine (HL.out _).mono ?_
      rintro e w' ⟨rfl, rfl⟩
      go_wp2_with fail
      have K' := K.out
      clear K
      rw [World.size_setCell] at K'
      rw [← HRB.out] at K' ⊢
      generalize hW : World.alloc _ _ = W at K' ⊢
      obtain ⟨c3, hE, h99⟩ := K'
      obtain ⟨v, hv⟩ := hE.typed.buck h99 (I % 18) q2
      have hvf := hE.typed.free (show c3 rb ≠ 0 by omega) (I % 18)
      have HE := Lib.hid (hE.buck rb (I % 18))
      have H99 := Lib.hid h99
      clear hW hE h99 cp fp c5 f5 hr e1 e2 e3 hst E0
      go_region
      go_end0
      exact ⟨rfl, _, (HE.out _ H99.out).drew.drew⟩
  · have cp : w.cell? ⟨hb, I / 18, none⟩ = some (.pointer (some ⟨rb, 0, none⟩)) := by rw [cell_at ha]; exact hp
    clear hp g2 hc hT ha
    rcases add_run sm x with ⟨r, hr⟩ | ⟨g, hr⟩
    · have K := Lib.hid (show ∃ c3, Evol cls w c3 _ ∧ c3 rb = 99 from ⟨cls, E0.out r, hrb⟩)
      clear hrb
      go_enter Tryz.func28, Tryz.ntmps28
      go_wp2_with fail
      refine J.mono ?_
      rintro e w' ⟨rfl, rfl⟩
      go_wp2_with fail
      refine (HL.out _).mono ?_
      rintro e w' ⟨rfl, rfl⟩
      go_wp2_with fail
      have K' := K.out
      clear K
      generalize hW : World.setCell _ _ _ = W at K' ⊢
      obtain ⟨c3, hE, h99⟩ := K'
      obtain ⟨v, hv⟩ := hE.typed.buck h99 (I % 18) q2
      have hvf := hE.typed.free (show c3 rb ≠ 0 by omega) (I % 18)
      have HE := Lib.hid (hE.buck rb (I % 18))
      have H99 := Lib.hid h99
      clear hW hE h99 cp c5 f5 hr e1 e2 e3 hst E0
      go_region
      go_end0
      exact ⟨rfl, _, (HE.out _ H99.out).drew⟩
    · have K := Lib.hid (show ∃ c3, Evol cls w c3 _ ∧ c3 rb = 99 from ⟨cls, E0.out (g w), hrb⟩)
      clear hrb
      go_enter Tryz.func28, Tryz.ntmps28
      go_wp2_with fail
      refine J.mono ?_
      rintro e w' ⟨rfl, rfl⟩
      go_wp2_with fail
      refine (HL.out _).mono ?_
      rintro e w' ⟨rfl, rfl⟩
      go_wp2_with fail
      have K' := K.out
      clear K
      generalize hW : World.setCell _ _ _ = W at K' ⊢
      obtain ⟨c3, hE, h99⟩ := K'
      obtain ⟨v, hv⟩ := hE.typed.buck h99 (I % 18) q2
      have hvf := hE.typed.free (show c3 rb ≠ 0 by omega) (I % 18)
      have HE := Lib.hid (hE.buck rb (I % 18))
      have H99 := Lib.hid h99
      clear hW hE h99 cp c5 f5 hr e1 e2 e3 hst E0
      go_region
      go_end0
      exact ⟨rfl, _, (HE.out _ H99.out).drew.drew⟩
set_option maxHeartbeats 1000000 in
set_option maxRecDepth 100000 in
theorem update_dec (cls : Cls) (w : World) (hb x l d b : Nat) (I : Nat) (hT : Typed cls w) (hc : cls hb = 61)
    (h1 : (FloatKind.f64.format.order x x != some .eq) = false) (h2 : (FloatKind.f64.format.order x 0 == some .lt) = false)
    (hL : ∀ w, Calls Tryz.prog 41 #[.float .f64 x] w fun e w' => e = .returned (.float .f64 l) ∧ w = w')
    (hs : floatBits .sub .f64 l 13844628204490326016 = some d) (hm : floatBits .mul .f64 d 4625759767262920704 = some b)
    (h3 : (FloatKind.f64.format.order b 0 == some .lt) = false)
    (h4 : ((FloatKind.f64.format.order b 4647257418609197056 == some .gt) || (FloatKind.f64.format.order b 4647257418609197056 == some .eq)) = false)
    (h5 : floatToIntVal .f64 b .u64 = some ((I : Int) + 1)) (h6 : 0 ≤ I) (h7 : I < 486) (h8 : (FloatKind.f64.format.order b (floatOfInt .f64 ((I : Int) + 1)) == some .eq) = true) :
    Calls Tryz.prog 28 #[.pointer (some ⟨hb, 0, none⟩), .float .f64 x] w (Goes cls w) := by
  have HL := Lib.hid hL
  clear hL
  have J := isNaN_no x w h1
  have e1 := fun w => run_float_arith (P := Tryz.prog) w .sub 53 .f64 l 13844628204490326016 d hs
  have e2 := fun w => run_float_arith (P := Tryz.prog) w .mul 53 .f64 d 4625759767262920704 b hm
  have e3 := fun w => run_convert_float_int (P := Tryz.prog) w 53 98 .f64 .u64 b ((I : Int) + 1) (by rw [Tryz.underlying53]; rfl) Tryz.underlying98 h5
  obtain ⟨arr, ha, hg⟩ := hT.hist hc
  obtain ⟨g1, g2, ⟨lo, g3⟩, ⟨up, g4⟩, ⟨sm, g5⟩⟩ := hg
  have c5 : w.cell? ⟨hb, 29, none⟩ = some (.float .f64 sm) := by rw [cell_at ha]; exact g5
  have f5 := hT.free (show cls hb ≠ 0 by omega) 29
  have hst := store_float
  have q1 : I / 18 < 27 := by omega
  have q2 : I % 18 < 18 := by omega
  have q3 : ¬ 29 = I / 18 := by omega
  have q4 : (0 : Int) ≤ (I : Int) % 18 := by omega
  have q5 : (I : Int) % 18 < 18 := by omega
  have q6 : ((I : Int) % 18).toNat = I % 18 := by omega
  have hlt : hb < w.heap.size := hT.lt (by omega)
  have hn1 : ¬ hb = w.heap.size := by omega
  have E0 := Lib.hid (fun y => (Evol.refl hT).sum hb y hc)
  have HC := Lib.hid hc
  clear h1 hs hm h5 h6 g1 g3 g4 g5
  rcases g2 (I / 18) q1 with hp | ⟨rb, hp, hrb⟩
  · have cp : w.cell? ⟨hb, I / 18, none⟩ = some (.pointer none) := by rw [cell_at ha]; exact hp
    have fp := hT.free (show cls hb ≠ 0 by omega) (I / 18)
    clear hp g2 hc hT ha
    obtain ⟨rb, hrbs⟩ : ∃ rb, rb = w.heap.size := ⟨_, rfl⟩
    have HRB := Lib.hid hrbs
    clear hrbs
    rcases add_run sm x with ⟨r, hr⟩ | ⟨g, hr⟩
    · have K := Lib.hid ((E0.out r).newBucket hb (I / 18) HC.out q1)
      go_enter Tryz.func28, Tryz.ntmps28
      go_wp2_with fail
      refine J.mono ?_
      rintro e w' ⟨rfl, rfl⟩
      go_wp2_with fail
      refine (HL.out _).mono ?_
      rintro e w' ⟨rfl, rfl⟩
      go_wp2_with fail
      have K' := K.out
      clear K
      rw [World.size_setCell] at K'
      rw [← HRB.out] at K' ⊢
      generalize hW : World.alloc _ _ = W at K' ⊢
      obtain ⟨c3, hE, h99⟩ := K'
      obtain ⟨v, hv⟩ := hE.typed.buck h99 (I % 18) q2
      have hvf := hE.typed.free (show c3 rb ≠ 0 by omega) (I % 18)
      have HE := Lib.hid (hE.buck rb (I % 18))
      have H99 := Lib.hid h99
      clear hW hE h99 cp fp c5 f5 hr e1 e2 e3 hst E0
      go_region
      go_end0
      exact ⟨rfl, _, (HE.out _ H99.out).drew⟩
    · have K := Lib.hid ((E0.out (g w)).newBucket hb (I / 18) HC.out q1)
      go_enter Tryz.func28, Tryz.ntmps28
      go_wp2_with fail
      refine J.mono ?_
      rintro e w' ⟨rfl, rfl⟩
      go_wp2_with fail
      refine (HL.out _).mono ?_
      rintro e w' ⟨rfl, rfl⟩
      go_wp2_with fail
      have K' := K.out
      clear K
      rw [World.size_setCell] at K'
      rw [← HRB.out] at K' ⊢
      generalize hW : World.alloc _ _ = W at K' ⊢
      obtain ⟨c3, hE, h99⟩ := K'
      obtain ⟨v, hv⟩ := hE.typed.buck h99 (I % 18) q2
      have hvf := hE.typed.free (show c3 rb ≠ 0 by omega) (I % 18)
      have HE := Lib.hid (hE.buck rb (I % 18))
      have H99 := Lib.hid h99
      clear hW hE h99 cp fp c5 f5 hr e1 e2 e3 hst E0
      go_region
      go_end0
      exact ⟨rfl, _, (HE.out _ H99.out).drew.drew⟩
  · have cp : w.cell? ⟨hb, I / 18, none⟩ = some (.pointer (some ⟨rb, 0, none⟩)) := by rw [cell_at ha]; exact hp
    clear hp g2 hc hT ha
    rcases add_run sm x with ⟨r, hr⟩ | ⟨g, hr⟩
    · have K := Lib.hid (show ∃ c3, Evol cls w c3 _ ∧ c3 rb = 99 from ⟨cls, E0.out r, hrb⟩)
      clear hrb
      go_enter Tryz.func28, Tryz.ntmps28
      go_wp2_with fail
      refine J.mono ?_
      rintro e w' ⟨rfl, rfl⟩
      go_wp2_with fail
      refine (HL.out _).mono ?_
      rintro e w' ⟨rfl, rfl⟩
      go_wp2_with fail
      have K' := K.out
      clear K
      generalize hW : World.setCell _ _ _ = W at K' ⊢
      obtain ⟨c3, hE, h99⟩ := K'
      obtain ⟨v, hv⟩ := hE.typed.buck h99 (I % 18) q2
      have hvf := hE.typed.free (show c3 rb ≠ 0 by omega) (I % 18)
      have HE := Lib.hid (hE.buck rb (I % 18))
      have H99 := Lib.hid h99
      clear hW hE h99 cp c5 f5 hr e1 e2 e3 hst E0
      go_region
      go_end0
      exact ⟨rfl, _, (HE.out _ H99.out).drew⟩
    · have K := Lib.hid (show ∃ c3, Evol cls w c3 _ ∧ c3 rb = 99 from ⟨cls, E0.out (g w), hrb⟩)
      clear hrb
      go_enter Tryz.func28, Tryz.ntmps28
      go_wp2_with fail
      refine J.mono ?_
      rintro e w' ⟨rfl, rfl⟩
      go_wp2_with fail
      refine (HL.out _).mono ?_
      rintro e w' ⟨rfl, rfl⟩
      go_wp2_with fail
      have K' := K.out
      clear K
      generalize hW : World.setCell _ _ _ = W at K' ⊢
      obtain ⟨c3, hE, h99⟩ := K'
      obtain ⟨v, hv⟩ := hE.typed.buck h99 (I % 18) q2
      have hvf := hE.typed.free (show c3 rb ≠ 0 by omega) (I % 18)
      have HE := Lib.hid (hE.buck rb (I % 18))
      have H99 := Lib.hid h99
      clear hW hE h99 cp c5 f5 hr e1 e2 e3 hst E0
      go_region
      go_end0
      exact ⟨rfl, _, (HE.out _ H99.out).drew.drew⟩
set_option maxHeartbeats 1000000 in
set_option maxRecDepth 100000 in
theorem update_zero (cls : Cls) (w : World) (hb : Nat) (hT : Typed cls w) (hc : cls hb = 61) :
    Calls Tryz.prog 28 #[.pointer (some ⟨hb, 0, none⟩), .float .f64 0] w (Goes cls w) := by
  have hL : ∀ w, Calls Tryz.prog 41 #[.float .f64 0] w fun e w' => e = .returned (.float .f64 18442240474082181120) ∧ w = w' :=
    fun w => Log10_of 0 _ _ w (log_zero w) (by decide +kernel)
  have HL := Lib.hid hL
  clear hL
  have h2 : (FloatKind.f64.format.order 0 0 == some .lt) = false := by decide +kernel
  have J := isNaN_no 0 w (by decide +kernel)
  have e1 := fun w => run_float_arith (P := Tryz.prog) w .sub 53 .f64 18442240474082181120 13844628204490326016 18442240474082181120 (by decide +kernel)
  have e2 := fun w => run_float_arith (P := Tryz.prog) w .mul 53 .f64 18442240474082181120 4625759767262920704 18442240474082181120 (by decide +kernel)
  have h3 : (FloatKind.f64.format.order 18442240474082181120 0 == some .lt) = true := by decide +kernel
  obtain ⟨arr, ha, hg⟩ := hT.hist hc
  obtain ⟨g1, g2, ⟨lo, g3⟩, ⟨up, g4⟩, ⟨sm, g5⟩⟩ := hg
  have c5 : w.cell? ⟨hb, 29, none⟩ = some (.float .f64 sm) := by rw [cell_at ha]; exact g5
  have c3 : w.cell? ⟨hb, 27, none⟩ = some (.int .u64 lo) := by rw [cell_at ha]; exact g3
  have f5 := hT.free (show cls hb ≠ 0 by omega) 29
  have f3 := hT.free (show cls hb ≠ 0 by omega) 27
  have hst := store_float
  have E0 := Lib.hid (fun y v => ((Evol.refl hT).sum hb y hc).low hb 27 v (.inl rfl) hc)
  clear g1 g2 g3 g4 g5 ha hT hc
  rcases add_run sm 0 with ⟨r, hr⟩ | ⟨g, hr⟩
  · go_enter Tryz.func28, Tryz.ntmps28
    go_wp2_with fail
    refine J.mono ?_
    rintro e w' ⟨rfl, rfl⟩
    go_wp2_with fail
    refine (HL.out _).mono ?_
    rintro e w' ⟨rfl, rfl⟩
    go_wp2_with fail
    go_end0
    exact ⟨rfl, _, E0.out _ _⟩
  · go_enter Tryz.func28, Tryz.ntmps28
    go_wp2_with fail
    refine J.mono ?_
    rintro e w' ⟨rfl, rfl⟩
    go_wp2_with fail
    refine (HL.out _).mono ?_
    rintro e w' ⟨rfl, rfl⟩
    go_wp2_with fail
    go_end0
    exact ⟨rfl, _, (E0.out _ _).drew⟩

/-- A WHOLE NUMBER UP TO 256 IS GIVEN TO A HISTOGRAM. -/
theorem update_any (cls : Cls) (w : World) (hb n : Nat) (hn : n ≤ 256) (hT : Typed cls w) (hc : cls hb = 61) :
    Calls Tryz.prog 28 #[.pointer (some ⟨hb, 0, none⟩), .float .f64 (floatOfInt .f64 n)] w (Goes cls w) := by
  rcases Nat.eq_zero_or_pos n with rfl | h1
  · exact update_zero cls w hb hT hc
  · obtain ⟨hf, y, l, d, b, i, hy, hl, hd, hbb, a1, a2, hi, i1, i2⟩ := num_facts n h1 hn
    obtain ⟨k1, k2⟩ := fit_nan hf
    have hL : ∀ w, Calls Tryz.prog 41 #[.float .f64 (floatOfInt .f64 n)] w fun e w' => e = .returned (.float .f64 l) ∧ w = w' :=
      fun w => Log10_of _ y l w (log_any _ y w hf hy) hl
    cases hc8 : (FloatKind.f64.format.order b (floatOfInt .f64 (i : Int)) == some .eq) with
    | false => exact update_in cls w hb _ l d b i hT hc k1 k2 hL hd hbb a1 a2 hi i1 i2 hc8
    | true =>
      obtain ⟨J, rfl⟩ : ∃ J, i = J + 1 := ⟨i - 1, by omega⟩
      exact update_dec cls w hb _ l d b J hT hc k1 k2 hL hd hbb a1 a2 (by rw [hi]; congr 1) (Nat.zero_le _) (by omega) (by rw [← hc8]; congr 2)

end Go.Proofs.YtaphagdbekmngaaGreatDoor
