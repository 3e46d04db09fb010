/- The set behind steps: walked. -/
import Derived.Test.YtaphagdbekmngaaGreatDoorList
import Derived.Test.YtaphagdbekmngaaGreatDoorMerge
import Derived.Test.YtaphagdbekmngaaGreatDoorSteps
import Derived.Deep.RegionHeld3
namespace Go.Proofs.YtaphagdbekmngaaGreatDoor
open Go.RowKit Go.Maps

set_option maxRecDepth 100000 in
theorem newSet_any (w : World) : Calls Tryz.prog 18 #[] w fun e w' => e = .returned (ptrTo (w.heap.size + 1)) ∧
    (w.alloc (.map #[] 0)).alloc (.cells #[.slice none 0 0, .map (some w.heap.size), .bool false, .slice none 0 0] 68) = w' := by
  have hmm := @run_makeMap Tryz.prog
  go_enter Tryz.func18, Tryz.ntmps18
  go_wp2
  go_ret
  exact ⟨rfl, rfl⟩

theorem inv_new (w : World) : Inv w.heap.size 0 (fun _ => 0) ((w.alloc (.map #[] 0)).alloc (.cells #[.slice none 0 0, .map (some w.heap.size), .bool false, .slice none 0 0] 68)) (w.heap.size + 1) [] (.slice none 0 0) w.heap.size (.map []) 0 := by
  refine ⟨fun b hb => absurd rfl hb, fun b hb => absurd rfl hb, ⟨by omega, Nat.le_refl _⟩, ?_, World.ownsRow_nil _ _ _ _, ?_, Knows.empty, ⟨Nat.le_refl _, Nat.le_refl _⟩, fun e he => by (cases he), List.nodup_nil⟩
  · rw [show w.heap.size + 1 = (w.alloc (.map #[] 0)).heap.size from by simp]
    exact heap_alloc_new _ _
  · exact (World.ownsMap_made w Tryz.prog 9 Rp).alloc _

theorem Inv.drew {B N : Nat} {cls : Cls} {w : World} {sb : Nat} {es : List Ent} {av : Value} {mb : Nat} {D : DataW Unit} {n : Nat} (h : Inv B N cls w sb es av mb D n) : Inv B N cls w.drew sb es av mb D n :=
  ⟨h.typed, h.high, h.base, h.body, h.row, h.map, h.knows, h.few, h.ents, h.nodup⟩

/-- A new block that is not kept track of. -/
theorem Inv.alloc {B N : Nat} {cls : Cls} {w : World} {sb : Nat} {es : List Ent} {av : Value} {mb : Nat} {D : DataW Unit} {n : Nat} (h : Inv B N cls w sb es av mb D n) (o : Obj) : Inv B N cls (w.alloc o) sb es av mb D n :=
  h.evol ((Evol.refl h.typed).alloc o)

/-- The set behind k steps. -/
def SetAt (B : Nat) (w0 : World) (sb k : Nat) (nms : List (List UInt8)) (w : World) : Prop := ∃ cls es av mb D n, Inv B k cls w sb es av mb D n ∧ Below B w0 w ∧ names es = nms

theorem names_got {sts : List St} {k : Nat} (hk : k < sts.length) {a b : List (List UInt8)} (ha : a = after (sts.take k)) {s : St} (hs : s = sts[k]) (h7 : s.kind ≠ 7)
    (hb : b = if s.name ∈ a then a else a ++ [s.name]) : b = after (sts.take (k + 1)) := by
  rw [after_take sts k hk, ← hs, ← ha, hb, step1, if_neg h7]
theorem names_gone {sts : List St} {k : Nat} (hk : k < sts.length) {a b : List (List UInt8)} (ha : a = after (sts.take k)) {s : St} (hs : s = sts[k]) (h7 : s.kind = 7)
    (hb : b = a.filter (· ≠ s.name)) : b = after (sts.take (k + 1)) := by
  rw [after_take sts k hk, ← hs, ← ha, hb, step1, if_pos h7]

theorem Keeps31.cell {w w' : World} (h : Keeps31 w w') {b : Nat} {arr : Array Value} {m : Nat × Nat} (hb : w.heap[b]? = some (.cells arr 31 m)) (o : Nat) : w'.cell? ⟨b, o, none⟩ = w.cell? ⟨b, o, none⟩ := by
  rw [cell_at hb, cell_at ((h b arr m hb).trans hb)]

set_option maxHeartbeats 8000000 in
set_option maxRecDepth 100000 in
theorem set_any (w : World) (base : Nat) (v : Value) (sts : List St) (hst : StepsAt w base v sts) (hl : sts.length ≤ 60) (hok : ∀ s ∈ sts, StOk s) :
    Calls Tryz.prog 11 #[v] w fun e w' => ∃ sb, e = .returned (ptrTo sb) ∧ SetAt w.heap.size w sb sts.length (after sts) w' := by
  obtain ⟨a, cap, rfl⟩ : ∃ a cap, v = .slice a sts.length cap := by
    rcases hst.2 with ⟨rfl, h0⟩ | ⟨g, cap, cur, rfl, _⟩
    · exact ⟨none, 0, by rw [h0]⟩
    · exact ⟨_, cap, rfl⟩
  have HS := Lib.hid hst
  have HOK := Lib.hid hok
  clear hst hok
  go_enter Tryz.func11, Tryz.ntmps11
  go_wp2_with (first | (go_at_call 18; refine (newSet_any _).mono ?_; rintro e w' ⟨rfl, hw'⟩))
  subst hw'
  go_loopw [10] (fun i wr => ∃ k : Nat, k ≤ sts.length ∧ i = .int .i64 k ∧ SetAt w.heap.size w (w.heap.size + 1) k (after (sts.take k)) wr) (fun i _ => sts.length - (intOf i).toNat)
  case atStart =>
    exact ⟨0, Nat.zero_le _, rfl, _, [], _, _, _, _, inv_new w, ((Below.refl _ _).alloc (Nat.le_refl _) _).alloc (by simp) _, rfl⟩
  case round =>
    obtain ⟨k, hk, rfl, cls, es, av, mb, D, n, hI, hB, hN⟩ := hrel
    by_cases hlt : k < sts.length
    · obtain ⟨g, cap', hv, hgl, hbg, hn1, hcm, x0, x1, x2⟩ := HS.out.cells k hlt
      obtain ⟨rfl, -, rfl⟩ : a = some ⟨g, 0, none⟩ ∧ True ∧ cap = cap' := by simpa using hv
      have ok := HOK.out sts[k] (List.getElem_mem hlt)
      have c0 : wr.cell? ⟨g, k * 3, none⟩ = _ := (hB.cell (p := ⟨g, k * 3, none⟩) hgl).trans x0
      have c1 : wr.cell? ⟨g, k * 3 + 1, none⟩ = _ := (hB.cell (p := ⟨g, k * 3 + 1, none⟩) hgl).trans x1
      have c2 : wr.cell? ⟨g, k * 3 + 2, none⟩ = _ := (hB.cell (p := ⟨g, k * 3 + 2, none⟩) hgl).trans x2
      obtain ⟨s, hs⟩ : ∃ s, s = sts[k] := ⟨_, rfl⟩
      rw [← hs] at c0 c1 c2 ok
      have Hs := Lib.hid hs
      have HI := Lib.hid hI
      have HB := Lib.hid hB
      have HN := Lib.hid hN
      unfold maxLen at hcm
      clear hs hI hB hN x0 x1 x2 hv
      obtain hkd | hkd | hkd | hkd | hkd | hkd | hkd | hkd : s.kind = 0 ∨ s.kind = 1 ∨ s.kind = 2 ∨ s.kind = 3 ∨ s.kind = 4 ∨ s.kind = 5 ∨ s.kind = 6 ∨ s.kind = 7 := by have := ok.kind; omega
      · have Hk := Lib.hid hkd
        have Hok := Lib.hid ok
        have hmt : 45 = mtOf s.name := by rw [← ok.fits (by omega), hkd]; rfl
        have Hmt := Lib.hid hmt
        clear hmt
        have hn0 := ok.n
        have hp0 := ok.pos
        rw [hkd] at c0
        replace c0 : wr.cell? ⟨g, k * 3, none⟩ = some (.int .i64 0) := c0
        clear ok hkd hp0
        go_wp2_with fail
        obtain ⟨X, hX⟩ : ∃ X, X = wr.heap.size := ⟨_, rfl⟩
        have hblk := heap_alloc_new wr (Obj.cells #[Value.int IntKind.i64 0, Value.string { data := s.name.toArray }, Value.int IntKind.i64 s.n] 31)
        have hI1 := HI.out.alloc (Obj.cells #[Value.int IntKind.i64 0, Value.string { data := s.name.toArray }, Value.int IntKind.i64 s.n] 31)
        have hB1 := HB.out.alloc HI.out.lt (Obj.cells #[Value.int IntKind.i64 0, Value.string { data := s.name.toArray }, Value.int IntKind.i64 s.n] 31)
        have hsz : (wr.alloc (Obj.cells #[Value.int IntKind.i64 0, Value.string { data := s.name.toArray }, Value.int IntKind.i64 s.n] 31)).heap.size = wr.heap.size + 1 := by simp
        rw [← hX] at hblk hsz ⊢
        have HX := Lib.hid hX
        clear hX
        generalize World.alloc _ _ = W1 at hblk hI1 hB1 hsz ⊢
        have d1 : W1.cell? ⟨X, 1, none⟩ = some (.string ⟨s.name.toArray⟩) := by rw [cell_at hblk]; rfl
        have d2 : W1.cell? ⟨X, 2, none⟩ = some (.int .i64 s.n) := by rw [cell_at hblk]; rfl
        have Hblk := Lib.hid hblk
        have HI1 := Lib.hid hI1
        have HB1 := Lib.hid hB1
        clear hblk hI1 hB1 c0 c1 c2
        go_region_held3 (fun w' => w'.cell? ⟨X, 1, none⟩ = some (.string ⟨s.name.toArray⟩) ∧ w'.cell? ⟨X, 2, none⟩ = some (.int .i64 s.n))
          (first | exact ⟨d1, d2⟩ | exact ⟨f1, f2⟩ | exact ⟨e1, e2⟩ | go_keep)
          (first
            | (go_at_call 19; refine (counter_got HI1.out.drew (by omega) _ (good_len Hok.out.name) Hmt.out (good_validate Hok.out.name)).mono ?_; rintro e w2 ⟨cls2, es2, av2, mb2, D2, n2, b2, rfl, hI2, hc2, hB2, hK2, hN2, hX2⟩; have e1 := (hK2.cell (m := (0, 0)) (b := X) Hblk.out 1).trans d1; have e2 := (hK2.cell (m := (0, 0)) (b := X) Hblk.out 2).trans d2; have HI2 := Lib.hid hI2; have HC2 := Lib.hid hc2; have HB2 := Lib.hid hB2; have HN2 := Lib.hid hN2; have HK2 := Lib.hid hK2; clear hI2 hc2 hB2 hN2 hK2 hX2)
            | (go_at_call 20; refine (counter_add cls2 _ b2 _ HI2.out.typed HC2.out).mono ?_; rintro e w3 ⟨rfl, cls3, hE3⟩; have hbb : w3.heap[X]? = _ := (hE3.keeps31 HI2.out.typed X _ (0, 0) ((HK2.out X _ (0, 0) Hblk.out).trans Hblk.out)).trans ((HK2.out X _ (0, 0) Hblk.out).trans Hblk.out); have f1 : w3.cell? ⟨X, 1, none⟩ = some (.string ⟨s.name.toArray⟩) := (by rw [cell_at hbb]; rfl); have f2 : w3.cell? ⟨X, 2, none⟩ = some (.int .i64 s.n) := (by rw [cell_at hbb]; rfl); have HE3 := Lib.hid hE3; clear hE3 hbb))
        go_wp2_with fail
        go_roundw
        case rel => exact ⟨k + 1, by omega, by go_num, cls3, es2, av2, mb2, D2, n2, HI2.out.evol HE3.out, ((HB1.out.drew).trans HB2.out).trans (HE3.out.below HI2.out.high HI2.out.lt), names_got hlt HN.out Hs.out (by have := Hk.out; omega) HN2.out⟩
        case measure => simp [intOf]; omega
      · have Hk := Lib.hid hkd
        have Hok := Lib.hid ok
        have hmt : 45 = mtOf s.name := by rw [← ok.fits (by omega), hkd]; rfl
        have Hmt := Lib.hid hmt
        clear hmt
        have hn0 := ok.n
        have hp0 := ok.pos
        rw [hkd] at c0
        replace c0 : wr.cell? ⟨g, k * 3, none⟩ = some (.int .i64 1) := c0
        clear ok hkd hp0
        go_wp2_with fail
        obtain ⟨X, hX⟩ : ∃ X, X = wr.heap.size := ⟨_, rfl⟩
        have hblk := heap_alloc_new wr (Obj.cells #[Value.int IntKind.i64 1, Value.string { data := s.name.toArray }, Value.int IntKind.i64 s.n] 31)
        have hI1 := HI.out.alloc (Obj.cells #[Value.int IntKind.i64 1, Value.string { data := s.name.toArray }, Value.int IntKind.i64 s.n] 31)
        have hB1 := HB.out.alloc HI.out.lt (Obj.cells #[Value.int IntKind.i64 1, Value.string { data := s.name.toArray }, Value.int IntKind.i64 s.n] 31)
        have hsz : (wr.alloc (Obj.cells #[Value.int IntKind.i64 1, Value.string { data := s.name.toArray }, Value.int IntKind.i64 s.n] 31)).heap.size = wr.heap.size + 1 := by simp
        rw [← hX] at hblk hsz ⊢
        have HX := Lib.hid hX
        clear hX
        generalize World.alloc _ _ = W1 at hblk hI1 hB1 hsz ⊢
        have d1 : W1.cell? ⟨X, 1, none⟩ = some (.string ⟨s.name.toArray⟩) := by rw [cell_at hblk]; rfl
        have d2 : W1.cell? ⟨X, 2, none⟩ = some (.int .i64 s.n) := by rw [cell_at hblk]; rfl
        have Hblk := Lib.hid hblk
        have HI1 := Lib.hid hI1
        have HB1 := Lib.hid hB1
        clear hblk hI1 hB1 c0 c1 c2
        go_region_held3 (fun w' => w'.cell? ⟨X, 1, none⟩ = some (.string ⟨s.name.toArray⟩) ∧ w'.cell? ⟨X, 2, none⟩ = some (.int .i64 s.n))
          (first | exact ⟨d1, d2⟩ | exact ⟨f1, f2⟩ | exact ⟨e1, e2⟩ | go_keep)
          (first
            | (go_at_call 19; refine (counter_got HI1.out.drew (by omega) _ (good_len Hok.out.name) Hmt.out (good_validate Hok.out.name)).mono ?_; rintro e w2 ⟨cls2, es2, av2, mb2, D2, n2, b2, rfl, hI2, hc2, hB2, hK2, hN2, hX2⟩; have e1 := (hK2.cell (m := (0, 0)) (b := X) Hblk.out 1).trans d1; have e2 := (hK2.cell (m := (0, 0)) (b := X) Hblk.out 2).trans d2; have HI2 := Lib.hid hI2; have HC2 := Lib.hid hc2; have HB2 := Lib.hid hB2; have HN2 := Lib.hid hN2; have HK2 := Lib.hid hK2; clear hI2 hc2 hB2 hN2 hK2 hX2)
            | (go_at_call 21; refine (counter_set cls2 _ b2 _ HI2.out.typed HC2.out).mono ?_; rintro e w3 ⟨rfl, cls3, hE3⟩; have hbb : w3.heap[X]? = _ := (hE3.keeps31 HI2.out.typed X _ (0, 0) ((HK2.out X _ (0, 0) Hblk.out).trans Hblk.out)).trans ((HK2.out X _ (0, 0) Hblk.out).trans Hblk.out); have f1 : w3.cell? ⟨X, 1, none⟩ = some (.string ⟨s.name.toArray⟩) := (by rw [cell_at hbb]; rfl); have f2 : w3.cell? ⟨X, 2, none⟩ = some (.int .i64 s.n) := (by rw [cell_at hbb]; rfl); have HE3 := Lib.hid hE3; clear hE3 hbb))
        go_wp2_with fail
        go_roundw
        case rel => exact ⟨k + 1, by omega, by go_num, cls3, es2, av2, mb2, D2, n2, HI2.out.evol HE3.out, ((HB1.out.drew).trans HB2.out).trans (HE3.out.below HI2.out.high HI2.out.lt), names_got hlt HN.out Hs.out (by have := Hk.out; omega) HN2.out⟩
        case measure => simp [intOf]; omega
      · have Hk := Lib.hid hkd
        have Hok := Lib.hid ok
        have hmt : 50 = mtOf s.name := by rw [← ok.fits (by omega), hkd]; rfl
        have Hmt := Lib.hid hmt
        clear hmt
        have hn0 := ok.n
        have hp0 := ok.pos
        rw [hkd] at c0
        replace c0 : wr.cell? ⟨g, k * 3, none⟩ = some (.int .i64 2) := c0
        clear ok hkd hp0
        go_wp2_with fail
        obtain ⟨X, hX⟩ : ∃ X, X = wr.heap.size := ⟨_, rfl⟩
        have hblk := heap_alloc_new wr (Obj.cells #[Value.int IntKind.i64 2, Value.string { data := s.name.toArray }, Value.int IntKind.i64 s.n] 31)
        have hI1 := HI.out.alloc (Obj.cells #[Value.int IntKind.i64 2, Value.string { data := s.name.toArray }, Value.int IntKind.i64 s.n] 31)
        have hB1 := HB.out.alloc HI.out.lt (Obj.cells #[Value.int IntKind.i64 2, Value.string { data := s.name.toArray }, Value.int IntKind.i64 s.n] 31)
        have hsz : (wr.alloc (Obj.cells #[Value.int IntKind.i64 2, Value.string { data := s.name.toArray }, Value.int IntKind.i64 s.n] 31)).heap.size = wr.heap.size + 1 := by simp
        rw [← hX] at hblk hsz ⊢
        have HX := Lib.hid hX
        clear hX
        generalize World.alloc _ _ = W1 at hblk hI1 hB1 hsz ⊢
        have d1 : W1.cell? ⟨X, 1, none⟩ = some (.string ⟨s.name.toArray⟩) := by rw [cell_at hblk]; rfl
        have d2 : W1.cell? ⟨X, 2, none⟩ = some (.int .i64 s.n) := by rw [cell_at hblk]; rfl
        have Hblk := Lib.hid hblk
        have HI1 := Lib.hid hI1
        have HB1 := Lib.hid hB1
        clear hblk hI1 hB1 c0 c1 c2
        go_region_held3 (fun w' => w'.cell? ⟨X, 1, none⟩ = some (.string ⟨s.name.toArray⟩) ∧ w'.cell? ⟨X, 2, none⟩ = some (.int .i64 s.n))
          (first | exact ⟨d1, d2⟩ | exact ⟨f1, f2⟩ | exact ⟨e1, e2⟩ | go_keep)
          (first
            | (go_at_call 22; refine (float_got HI1.out.drew (by omega) _ (good_len Hok.out.name) Hmt.out (good_validate Hok.out.name)).mono ?_; rintro e w2 ⟨cls2, es2, av2, mb2, D2, n2, b2, rfl, hI2, hc2, hB2, hK2, hN2, hX2⟩; have e1 := (hK2.cell (m := (0, 0)) (b := X) Hblk.out 1).trans d1; have e2 := (hK2.cell (m := (0, 0)) (b := X) Hblk.out 2).trans d2; have HI2 := Lib.hid hI2; have HC2 := Lib.hid hc2; have HB2 := Lib.hid hB2; have HN2 := Lib.hid hN2; have HK2 := Lib.hid hK2; clear hI2 hc2 hB2 hN2 hK2 hX2)
            | (go_at_call 23; refine (fcounter_add cls2 _ b2 _ HI2.out.typed HC2.out).mono ?_; rintro e w3 ⟨rfl, cls3, hE3⟩; have hbb : w3.heap[X]? = _ := (hE3.keeps31 HI2.out.typed X _ (0, 0) ((HK2.out X _ (0, 0) Hblk.out).trans Hblk.out)).trans ((HK2.out X _ (0, 0) Hblk.out).trans Hblk.out); have f1 : w3.cell? ⟨X, 1, none⟩ = some (.string ⟨s.name.toArray⟩) := (by rw [cell_at hbb]; rfl); have f2 : w3.cell? ⟨X, 2, none⟩ = some (.int .i64 s.n) := (by rw [cell_at hbb]; rfl); have HE3 := Lib.hid hE3; clear hE3 hbb))
        go_wp2_with fail
        go_roundw
        case rel => exact ⟨k + 1, by omega, by go_num, cls3, es2, av2, mb2, D2, n2, HI2.out.evol HE3.out, ((HB1.out.drew).trans HB2.out).trans (HE3.out.below HI2.out.high HI2.out.lt), names_got hlt HN.out Hs.out (by have := Hk.out; omega) HN2.out⟩
        case measure => simp [intOf]; omega
      · have Hk := Lib.hid hkd
        have Hok := Lib.hid ok
        have hmt : 54 = mtOf s.name := by rw [← ok.fits (by omega), hkd]; rfl
        have Hmt := Lib.hid hmt
        clear hmt
        have hn0 := ok.n
        have hp0 := ok.pos
        rw [hkd] at c0
        replace c0 : wr.cell? ⟨g, k * 3, none⟩ = some (.int .i64 3) := c0
        clear ok hkd hp0
        go_wp2_with fail
        obtain ⟨X, hX⟩ : ∃ X, X = wr.heap.size := ⟨_, rfl⟩
        have hblk := heap_alloc_new wr (Obj.cells #[Value.int IntKind.i64 3, Value.string { data := s.name.toArray }, Value.int IntKind.i64 s.n] 31)
        have hI1 := HI.out.alloc (Obj.cells #[Value.int IntKind.i64 3, Value.string { data := s.name.toArray }, Value.int IntKind.i64 s.n] 31)
        have hB1 := HB.out.alloc HI.out.lt (Obj.cells #[Value.int IntKind.i64 3, Value.string { data := s.name.toArray }, Value.int IntKind.i64 s.n] 31)
        have hsz : (wr.alloc (Obj.cells #[Value.int IntKind.i64 3, Value.string { data := s.name.toArray }, Value.int IntKind.i64 s.n] 31)).heap.size = wr.heap.size + 1 := by simp
        rw [← hX] at hblk hsz ⊢
        have HX := Lib.hid hX
        clear hX
        generalize World.alloc _ _ = W1 at hblk hI1 hB1 hsz ⊢
        have d1 : W1.cell? ⟨X, 1, none⟩ = some (.string ⟨s.name.toArray⟩) := by rw [cell_at hblk]; rfl
        have d2 : W1.cell? ⟨X, 2, none⟩ = some (.int .i64 s.n) := by rw [cell_at hblk]; rfl
        have Hblk := Lib.hid hblk
        have HI1 := Lib.hid hI1
        have HB1 := Lib.hid hB1
        clear hblk hI1 hB1 c0 c1 c2
        go_region_held3 (fun w' => w'.cell? ⟨X, 1, none⟩ = some (.string ⟨s.name.toArray⟩) ∧ w'.cell? ⟨X, 2, none⟩ = some (.int .i64 s.n))
          (first | exact ⟨d1, d2⟩ | exact ⟨f1, f2⟩ | exact ⟨e1, e2⟩ | go_keep)
          (first
            | (go_at_call 24; refine (gauge_got HI1.out.drew (by omega) _ (good_len Hok.out.name) Hmt.out (good_validate Hok.out.name)).mono ?_; rintro e w2 ⟨cls2, es2, av2, mb2, D2, n2, b2, rfl, hI2, hc2, hB2, hK2, hN2, hX2⟩; have e1 := (hK2.cell (m := (0, 0)) (b := X) Hblk.out 1).trans d1; have e2 := (hK2.cell (m := (0, 0)) (b := X) Hblk.out 2).trans d2; have HI2 := Lib.hid hI2; have HC2 := Lib.hid hc2; have HB2 := Lib.hid hB2; have HN2 := Lib.hid hN2; have HK2 := Lib.hid hK2; clear hI2 hc2 hB2 hN2 hK2 hX2)
            | (go_at_call 25; refine (gauge_set cls2 _ b2 _ HI2.out.typed HC2.out).mono ?_; rintro e w3 ⟨rfl, cls3, hE3⟩; have hbb : w3.heap[X]? = _ := (hE3.keeps31 HI2.out.typed X _ (0, 0) ((HK2.out X _ (0, 0) Hblk.out).trans Hblk.out)).trans ((HK2.out X _ (0, 0) Hblk.out).trans Hblk.out); have f1 : w3.cell? ⟨X, 1, none⟩ = some (.string ⟨s.name.toArray⟩) := (by rw [cell_at hbb]; rfl); have f2 : w3.cell? ⟨X, 2, none⟩ = some (.int .i64 s.n) := (by rw [cell_at hbb]; rfl); have HE3 := Lib.hid hE3; clear hE3 hbb))
        go_wp2_with fail
        go_roundw
        case rel => exact ⟨k + 1, by omega, by go_num, cls3, es2, av2, mb2, D2, n2, HI2.out.evol HE3.out, ((HB1.out.drew).trans HB2.out).trans (HE3.out.below HI2.out.high HI2.out.lt), names_got hlt HN.out Hs.out (by have := Hk.out; omega) HN2.out⟩
        case measure => simp [intOf]; omega
      · have Hk := Lib.hid hkd
        have Hok := Lib.hid ok
        have hmt : 54 = mtOf s.name := by rw [← ok.fits (by omega), hkd]; rfl
        have Hmt := Lib.hid hmt
        clear hmt
        have hn0 := ok.n
        have hp0 := ok.pos
        rw [hkd] at c0
        replace c0 : wr.cell? ⟨g, k * 3, none⟩ = some (.int .i64 4) := c0
        clear ok hkd hp0
        go_wp2_with fail
        obtain ⟨X, hX⟩ : ∃ X, X = wr.heap.size := ⟨_, rfl⟩
        have hblk := heap_alloc_new wr (Obj.cells #[Value.int IntKind.i64 4, Value.string { data := s.name.toArray }, Value.int IntKind.i64 s.n] 31)
        have hI1 := HI.out.alloc (Obj.cells #[Value.int IntKind.i64 4, Value.string { data := s.name.toArray }, Value.int IntKind.i64 s.n] 31)
        have hB1 := HB.out.alloc HI.out.lt (Obj.cells #[Value.int IntKind.i64 4, Value.string { data := s.name.toArray }, Value.int IntKind.i64 s.n] 31)
        have hsz : (wr.alloc (Obj.cells #[Value.int IntKind.i64 4, Value.string { data := s.name.toArray }, Value.int IntKind.i64 s.n] 31)).heap.size = wr.heap.size + 1 := by simp
        rw [← hX] at hblk hsz ⊢
        have HX := Lib.hid hX
        clear hX
        generalize World.alloc _ _ = W1 at hblk hI1 hB1 hsz ⊢
        have d1 : W1.cell? ⟨X, 1, none⟩ = some (.string ⟨s.name.toArray⟩) := by rw [cell_at hblk]; rfl
        have d2 : W1.cell? ⟨X, 2, none⟩ = some (.int .i64 s.n) := by rw [cell_at hblk]; rfl
        have Hblk := Lib.hid hblk
        have HI1 := Lib.hid hI1
        have HB1 := Lib.hid hB1
        clear hblk hI1 hB1 c0 c1 c2
        go_region_held3 (fun w' => w'.cell? ⟨X, 1, none⟩ = some (.string ⟨s.name.toArray⟩) ∧ w'.cell? ⟨X, 2, none⟩ = some (.int .i64 s.n))
          (first | exact ⟨d1, d2⟩ | exact ⟨f1, f2⟩ | exact ⟨e1, e2⟩ | go_keep)
          (first
            | (go_at_call 24; refine (gauge_got HI1.out.drew (by omega) _ (good_len Hok.out.name) Hmt.out (good_validate Hok.out.name)).mono ?_; rintro e w2 ⟨cls2, es2, av2, mb2, D2, n2, b2, rfl, hI2, hc2, hB2, hK2, hN2, hX2⟩; have e1 := (hK2.cell (m := (0, 0)) (b := X) Hblk.out 1).trans d1; have e2 := (hK2.cell (m := (0, 0)) (b := X) Hblk.out 2).trans d2; have HI2 := Lib.hid hI2; have HC2 := Lib.hid hc2; have HB2 := Lib.hid hB2; have HN2 := Lib.hid hN2; have HK2 := Lib.hid hK2; clear hI2 hc2 hB2 hN2 hK2 hX2)
            | (go_at_call 26; refine (gauge_add cls2 _ b2 _ HI2.out.typed HC2.out).mono ?_; rintro e w3 ⟨rfl, cls3, hE3⟩; have hbb : w3.heap[X]? = _ := (hE3.keeps31 HI2.out.typed X _ (0, 0) ((HK2.out X _ (0, 0) Hblk.out).trans Hblk.out)).trans ((HK2.out X _ (0, 0) Hblk.out).trans Hblk.out); have f1 : w3.cell? ⟨X, 1, none⟩ = some (.string ⟨s.name.toArray⟩) := (by rw [cell_at hbb]; rfl); have f2 : w3.cell? ⟨X, 2, none⟩ = some (.int .i64 s.n) := (by rw [cell_at hbb]; rfl); have HE3 := Lib.hid hE3; clear hE3 hbb))
        go_wp2_with fail
        go_roundw
        case rel => exact ⟨k + 1, by omega, by go_num, cls3, es2, av2, mb2, D2, n2, HI2.out.evol HE3.out, ((HB1.out.drew).trans HB2.out).trans (HE3.out.below HI2.out.high HI2.out.lt), names_got hlt HN.out Hs.out (by have := Hk.out; omega) HN2.out⟩
        case measure => simp [intOf]; omega
      · have Hk := Lib.hid hkd
        have Hok := Lib.hid ok
        have hmt : 56 = mtOf s.name := by rw [← ok.fits (by omega), hkd]; rfl
        have Hmt := Lib.hid hmt
        clear hmt
        have hn0 := ok.n
        have hp0 := ok.pos
        rw [hkd] at c0
        replace c0 : wr.cell? ⟨g, k * 3, none⟩ = some (.int .i64 5) := c0
        obtain ⟨m, hm⟩ : ∃ m : Nat, s.n = m := ⟨s.n.toNat, by have := hp0 (.inl hkd); omega⟩
        rw [hm] at c2 hn0
        have Hm := Lib.hid hm
        clear ok hkd hp0 hm
        go_wp2_with fail
        obtain ⟨X, hX⟩ : ∃ X, X = wr.heap.size := ⟨_, rfl⟩
        have hblk := heap_alloc_new wr (Obj.cells #[Value.int IntKind.i64 5, Value.string { data := s.name.toArray }, Value.int IntKind.i64 (m : Int)] 31)
        have hI1 := HI.out.alloc (Obj.cells #[Value.int IntKind.i64 5, Value.string { data := s.name.toArray }, Value.int IntKind.i64 (m : Int)] 31)
        have hB1 := HB.out.alloc HI.out.lt (Obj.cells #[Value.int IntKind.i64 5, Value.string { data := s.name.toArray }, Value.int IntKind.i64 (m : Int)] 31)
        have hsz : (wr.alloc (Obj.cells #[Value.int IntKind.i64 5, Value.string { data := s.name.toArray }, Value.int IntKind.i64 (m : Int)] 31)).heap.size = wr.heap.size + 1 := by simp
        rw [← hX] at hblk hsz ⊢
        have HX := Lib.hid hX
        clear hX
        generalize World.alloc _ _ = W1 at hblk hI1 hB1 hsz ⊢
        have d1 : W1.cell? ⟨X, 1, none⟩ = some (.string ⟨s.name.toArray⟩) := by rw [cell_at hblk]; rfl
        have d2 : W1.cell? ⟨X, 2, none⟩ = some (.int .i64 (m : Int)) := by rw [cell_at hblk]; rfl
        have Hblk := Lib.hid hblk
        have HI1 := Lib.hid hI1
        have HB1 := Lib.hid hB1
        clear hblk hI1 hB1 c0 c1 c2
        go_region_held3 (fun w' => w'.cell? ⟨X, 1, none⟩ = some (.string ⟨s.name.toArray⟩) ∧ w'.cell? ⟨X, 2, none⟩ = some (.int .i64 (m : Int)))
          (first | exact ⟨d1, d2⟩ | exact ⟨f1, f2⟩ | exact ⟨e1, e2⟩ | go_keep)
          (first
            | (go_at_call 27; refine (hist_got HI1.out.drew (by omega) _ (good_len Hok.out.name) Hmt.out (good_validate Hok.out.name)).mono ?_; rintro e w2 ⟨cls2, es2, av2, mb2, D2, n2, b2, rfl, hI2, hc2, hB2, hK2, hN2, hX2⟩; have e1 := (hK2.cell (m := (0, 0)) (b := X) Hblk.out 1).trans d1; have e2 := (hK2.cell (m := (0, 0)) (b := X) Hblk.out 2).trans d2; have HI2 := Lib.hid hI2; have HC2 := Lib.hid hc2; have HB2 := Lib.hid hB2; have HN2 := Lib.hid hN2; have HK2 := Lib.hid hK2; clear hI2 hc2 hB2 hN2 hK2 hX2)
            | (go_at_call 28; refine (update_any cls2 _ b2 _ (by omega) HI2.out.typed HC2.out).mono ?_; rintro e w3 ⟨rfl, cls3, hE3⟩; have hbb : w3.heap[X]? = _ := (hE3.keeps31 HI2.out.typed X _ (0, 0) ((HK2.out X _ (0, 0) Hblk.out).trans Hblk.out)).trans ((HK2.out X _ (0, 0) Hblk.out).trans Hblk.out); have f1 : w3.cell? ⟨X, 1, none⟩ = some (.string ⟨s.name.toArray⟩) := (by rw [cell_at hbb]; rfl); have f2 : w3.cell? ⟨X, 2, none⟩ = some (.int .i64 (m : Int)) := (by rw [cell_at hbb]; rfl); have HE3 := Lib.hid hE3; clear hE3 hbb))
        go_wp2_with fail
        go_roundw
        case rel => exact ⟨k + 1, by omega, by go_num, cls3, es2, av2, mb2, D2, n2, HI2.out.evol HE3.out, ((HB1.out.drew).trans HB2.out).trans (HE3.out.below HI2.out.high HI2.out.lt), names_got hlt HN.out Hs.out (by have := Hk.out; omega) HN2.out⟩
        case measure => simp [intOf]; omega
      · have Hk := Lib.hid hkd
        have Hok := Lib.hid ok
        have hmt : 56 = mtOf s.name := by rw [← ok.fits (by omega), hkd]; rfl
        have Hmt := Lib.hid hmt
        clear hmt
        have hn0 := ok.n
        have hp0 := ok.pos
        rw [hkd] at c0
        replace c0 : wr.cell? ⟨g, k * 3, none⟩ = some (.int .i64 6) := c0
        obtain ⟨m, hm⟩ : ∃ m : Nat, s.n = m := ⟨s.n.toNat, by have := hp0 (.inr hkd); omega⟩
        rw [hm] at c2 hn0
        have Hm := Lib.hid hm
        clear ok hkd hp0 hm
        go_wp2_with fail
        obtain ⟨X, hX⟩ : ∃ X, X = wr.heap.size := ⟨_, rfl⟩
        have hblk := heap_alloc_new wr (Obj.cells #[Value.int IntKind.i64 6, Value.string { data := s.name.toArray }, Value.int IntKind.i64 (m : Int)] 31)
        have hI1 := HI.out.alloc (Obj.cells #[Value.int IntKind.i64 6, Value.string { data := s.name.toArray }, Value.int IntKind.i64 (m : Int)] 31)
        have hB1 := HB.out.alloc HI.out.lt (Obj.cells #[Value.int IntKind.i64 6, Value.string { data := s.name.toArray }, Value.int IntKind.i64 (m : Int)] 31)
        have hsz : (wr.alloc (Obj.cells #[Value.int IntKind.i64 6, Value.string { data := s.name.toArray }, Value.int IntKind.i64 (m : Int)] 31)).heap.size = wr.heap.size + 1 := by simp
        rw [← hX] at hblk hsz ⊢
        have HX := Lib.hid hX
        clear hX
        generalize World.alloc _ _ = W1 at hblk hI1 hB1 hsz ⊢
        have d1 : W1.cell? ⟨X, 1, none⟩ = some (.string ⟨s.name.toArray⟩) := by rw [cell_at hblk]; rfl
        have d2 : W1.cell? ⟨X, 2, none⟩ = some (.int .i64 (m : Int)) := by rw [cell_at hblk]; rfl
        have hlc := good_fresh cls
        rw [show clsOf 56 = 61 from rfl] at hlc
        have hE0 := (Evol.refl hI1.typed).new _ 61 hlc
        have hY := upd_same cls W1.heap.size 61
        rw [hsz] at hE0 hY
        have hu1 : ∀ (cls : Cls) (w : World) (hb : Nat), Typed cls w → cls hb = 61 → Calls Tryz.prog 28 #[.pointer (some ⟨hb, 0, none⟩), .float .f64 (floatOfInt .f64 ((m : Int) + 1))] w (Goes cls w) := fun cls w hb hT hc => by
          have := update_any cls w hb (m + 1) (by omega) hT hc
          rwa [Int.natCast_add] at this
        have hu0 : ∀ (cls : Cls) (w : World) (hb : Nat), Typed cls w → cls hb = 61 → Calls Tryz.prog 28 #[.pointer (some ⟨hb, 0, none⟩), .float .f64 (floatOfInt .f64 (m : Int))] w (Goes cls w) := fun cls w hb hT hc => update_any cls w hb m (by omega) hT hc
        have hX1 : X < W1.heap.size := by omega
        have Hblk := Lib.hid hblk
        have HI1 := Lib.hid hI1
        have HB1 := Lib.hid hB1
        have HE0 := Lib.hid hE0
        have HY := Lib.hid hY
        have Hsz := Lib.hid hsz
        clear hblk hI1 hB1 c0 c1 c2 hlc hE0 hY hsz
        go_wp2_with (first | (go_at_call 28; have hg := HE2; clear hg; refine (hu1 _ _ _ HE2.out.typed HY2.out).mono ?_; rintro e w3 ⟨rfl, cls3, hE3⟩; have hE3' := HE2.out.trans hE3; have hY3 : cls3 (X + 1) = 61 := (by rw [hE3.ext (X + 1) (HE2.out.typed.lt (by have := HY2.out; omega))]; exact HY2.out); have hbb : w3.heap[X]? = _ := (hE3'.keeps31 HI1.out.typed X _ (0, 0) Hblk.out).trans Hblk.out; have g1 : w3.cell? ⟨X, 1, none⟩ = some (.string ⟨s.name.toArray⟩) := (by rw [cell_at hbb]; rfl); have HE3 := Lib.hid hE3'; have HY3 := Lib.hid hY3; clear hE3 hE3' hY3 hbb) | (go_at_call 28; refine (hu0 _ _ _ HE0.out.typed HY.out).mono ?_; rintro e w2 ⟨rfl, cls2, hE2⟩; have hE2' := HE0.out.trans hE2; have hY2 : cls2 (X + 1) = 61 := (by rw [hE2.ext (X + 1) (by have := Hsz.out; simp; omega)]; exact HY.out); have hbb : w2.heap[X]? = _ := (hE2'.keeps31 HI1.out.typed X _ (0, 0) Hblk.out).trans Hblk.out; have f1 : w2.cell? ⟨X, 1, none⟩ = some (.string ⟨s.name.toArray⟩) := (by rw [cell_at hbb]; rfl); have f2 : w2.cell? ⟨X, 2, none⟩ = some (.int .i64 (m : Int)) := (by rw [cell_at hbb]; rfl); have HE2 := Lib.hid hE2'; have HY2 := Lib.hid hY2; clear hE2 hE2' hY2 hbb) | (go_at_call 27; refine (hist_got (HI1.out.evol HE3.out) (by omega) _ (good_len Hok.out.name) Hmt.out (good_validate Hok.out.name)).mono ?_; rintro e w4 ⟨cls4, es4, av4, mb4, D4, n4, b4, rfl, hI4, hc4, hB4, hK4, hN4, hX4⟩; have hY4 : cls4 (X + 1) = 61 := (by rw [hX4 (X + 1) (by have := HY3.out; omega)]; exact HY3.out); have HI4 := Lib.hid hI4; have HC4 := Lib.hid hc4; have HB4 := Lib.hid hB4; have HN4 := Lib.hid hN4; have HY4 := Lib.hid hY4; clear hI4 hc4 hB4 hK4 hN4 hX4 hY4) | (go_at_call 29; refine (merge_any cls4 _ b4 _ HI4.out.typed HC4.out HY4.out).mono ?_; rintro e w5 ⟨rfl, cls5, hE5⟩))
        have HE5 := Lib.hid hE5
        clear hE5
        go_wp2_with fail
        go_roundw
        case rel => exact ⟨k + 1, by omega, by go_num, cls5, es4, av4, mb4, D4, n4, HI4.out.evol HE5.out, ((HB1.out.trans (HE3.out.below HI1.out.high HI1.out.lt)).trans HB4.out).trans (HE5.out.below HI4.out.high HI4.out.lt), names_got hlt HN.out Hs.out (by have := Hk.out; omega) HN4.out⟩
        case measure => simp [intOf]; omega
      · have Hk := Lib.hid hkd
        have Hok := Lib.hid ok
        have hn0 := ok.n
        have hp0 := ok.pos
        rw [hkd] at c0
        replace c0 : wr.cell? ⟨g, k * 3, none⟩ = some (.int .i64 7) := c0
        clear ok hkd hp0
        go_wp2_with fail
        obtain ⟨X, hX⟩ : ∃ X, X = wr.heap.size := ⟨_, rfl⟩
        have hblk := heap_alloc_new wr (Obj.cells #[Value.int IntKind.i64 7, Value.string { data := s.name.toArray }, Value.int IntKind.i64 s.n] 31)
        have hI1 := HI.out.alloc (Obj.cells #[Value.int IntKind.i64 7, Value.string { data := s.name.toArray }, Value.int IntKind.i64 s.n] 31)
        have hB1 := HB.out.alloc HI.out.lt (Obj.cells #[Value.int IntKind.i64 7, Value.string { data := s.name.toArray }, Value.int IntKind.i64 s.n] 31)
        have hsz : (wr.alloc (Obj.cells #[Value.int IntKind.i64 7, Value.string { data := s.name.toArray }, Value.int IntKind.i64 s.n] 31)).heap.size = wr.heap.size + 1 := by simp
        rw [← hX] at hblk hsz ⊢
        have HX := Lib.hid hX
        clear hX
        generalize World.alloc _ _ = W1 at hblk hI1 hB1 hsz ⊢
        have d1 : W1.cell? ⟨X, 1, none⟩ = some (.string ⟨s.name.toArray⟩) := by rw [cell_at hblk]; rfl
        have d2 : W1.cell? ⟨X, 2, none⟩ = some (.int .i64 s.n) := by rw [cell_at hblk]; rfl
        have Hblk := Lib.hid hblk
        have HI1 := Lib.hid hI1
        have HB1 := Lib.hid hB1
        clear hblk hI1 hB1 c0 c1 c2
        refine (unreg_any HI1.out (by omega) _ (good_len Hok.out.name)).mono ?_
        rintro e w2 ⟨bo, rfl, cls2, es2, av2, mb2, D2, n2, hI2, hB2, hK2, hN2⟩
        have HI2 := Lib.hid hI2
        have HB2 := Lib.hid hB2
        have HN2 := Lib.hid hN2
        clear hI2 hB2 hN2 hK2
        go_wp2_with fail
        go_roundw
        case rel => exact ⟨k + 1, by omega, by go_num, cls2, es2, av2, mb2, D2, n2, HI2.out, HB1.out.trans HB2.out, names_gone hlt HN.out Hs.out Hk.out HN2.out⟩
        case measure => simp [intOf]; omega
    · have hkk : k = sts.length := by omega
      subst hkk
      rw [List.take_length] at hN
      have HI := Lib.hid hI
      have HB := Lib.hid hB
      have HN := Lib.hid hN
      clear hI hB hN
      go_wp2_with fail
      go_ret
      exact ⟨_, rfl, cls, es, av, mb, D, n, HI.out, HB.out, HN.out⟩
end Go.Proofs.YtaphagdbekmngaaGreatDoor
