/- Steps told by bytes: walked. -/
import Derived.Test.YtaphagdbekmngaaGreatDoorItoa
import Derived.Deep.AppendLies
import Derived.OpenShut
import Derived.Laws.BytesArg
import Derived.Deep.DeepCutAuto
namespace Go.Proofs.YtaphagdbekmngaaGreatDoor
open Go.RowKit Go.Maps

/-- A slice of numbers that came in: nil, or over a row of cells. -/
def IsRow (k : IntKind) (w : World) (a : Option Addr) (len cap : Nat) (zs : List Int) : Prop :=
  (a = none ∧ len = 0 ∧ cap = 0 ∧ zs = []) ∨
  ∃ x, a = some x ∧ len ≤ cap ∧ cap ≤ maxLen ∧ zs.length = cap ∧ (∀ i, i < zs.length → w.cell? (x.add i) = some (.int k (zs.getD i 0))) ∧ ∀ n ∈ zs, (Lit.int k n).wf = true

theorem add_block (x : Addr) (k : Nat) : (x.add k).block = x.block := by unfold Addr.add; split <;> rfl
theorem IsRow.byte {w : World} {x : Addr} {len cap : Nat} {zs : List Int} (h : IsRow .u8 w (some x) len cap zs) (i : Nat) (hi : i < len) : ∃ n : Nat, n < 256 ∧ w.cell? (x.add i) = some (.int .u8 n) := by
  rcases h with ⟨h, _⟩ | ⟨y, hy, hl, hm, hz, hc, hw⟩
  · cases h
  · obtain rfl : x = y := Option.some.inj hy
    have hiz : i < zs.length := by omega
    have h1 := hc i hiz
    have e : zs.getD i 0 = zs[i] := by simp [List.getD, List.getElem?_eq_getElem hiz]
    have h2 := bounds_u8 (hw zs[i] (List.getElem_mem hiz))
    rw [e] at h1
    exact ⟨zs[i].toNat, by omega, by rw [h1]; congr 2; exact (Int.toNat_of_nonneg h2.1).symm⟩
theorem IsRow.block {w : World} {x : Addr} {len cap : Nat} {zs : List Int} (h : IsRow .u8 w (some x) len cap zs) : len ≤ cap ∧ cap ≤ maxLen ∧ (0 < len → x.block < w.heap.size) := by
  rcases h with ⟨h, _⟩ | ⟨y, hy, hl, hm, hz, hc, hw⟩
  · cases h
  · obtain rfl : x = y := Option.some.inj hy
    refine ⟨hl, hm, fun h0 => ?_⟩
    have := World.block_lt_of_cell? w _ (hc 0 (by omega))
    rwa [add_block] at this

theorem lead_letter (p : Nat) (hp : p < 7) : ∃ L : UInt8, (({ data := #[99, 99, 102, 103, 103, 104, 104] } : ByteArray).extract p 7).extract 0 1 = ⟨#[L]⟩ ∧ letterB L ∧ ∀ t, mtKind p = mtOf (L :: t) := by
  obtain rfl | rfl | rfl | rfl | rfl | rfl | rfl : p = 0 ∨ p = 1 ∨ p = 2 ∨ p = 3 ∨ p = 4 ∨ p = 5 ∨ p = 6 := by omega
  · exact ⟨99, by decide +kernel, by unfold letterB; decide, fun t => rfl⟩
  · exact ⟨99, by decide +kernel, by unfold letterB; decide, fun t => rfl⟩
  · exact ⟨102, by decide +kernel, by unfold letterB; decide, fun t => rfl⟩
  · exact ⟨103, by decide +kernel, by unfold letterB; decide, fun t => rfl⟩
  · exact ⟨103, by decide +kernel, by unfold letterB; decide, fun t => rfl⟩
  · exact ⟨104, by decide +kernel, by unfold letterB; decide, fun t => rfl⟩
  · exact ⟨104, by decide +kernel, by unfold letterB; decide, fun t => rfl⟩

theorem letter2 (r : Nat) (hr : r < 3) : ∃ M : UInt8, strOfNums [97 + (r : Int)] = ⟨#[M]⟩ ∧ letterB M := by
  obtain rfl | rfl | rfl : r = 0 ∨ r = 1 ∨ r = 2 := by omega
  · exact ⟨97, by decide +kernel, by unfold letterB; decide⟩
  · exact ⟨98, by decide +kernel, by unfold letterB; decide⟩
  · exact ⟨99, by decide +kernel, by unfold letterB; decide⟩

theorem conv1 (W : World) (n : Int) : ∀ dst, Tryz.prog.underlying dst = some .string → (convert 22 dst (.slice (some ⟨W.heap.size, 0, none⟩) 1 1)).run Tryz.prog (W.alloc (.cells #[.int .u8 n] 5)).drew = .ok (.string (strOfNums [n])) (W.alloc (.cells #[.int .u8 n] 5)).drew := by
  have hnw := heap_alloc_new W (.cells #[.int .u8 n] 5)
  refine run_convert_bytes_arg (P := Tryz.prog) ((W.alloc (.cells #[.int .u8 n] 5)).drew) 22 5 Tryz.underlying22 Tryz.underlying5 W.heap.size 0 1 1 [n] rfl (fun i hi => ?_)
  obtain rfl : i = 0 := by omega
  exact cell_at (w := W.alloc (.cells #[.int .u8 n] 5)) hnw _

/-- What is known while a step is being made: its variable, the steps made before it, the bytes. -/
structure Now (w W : World) (x : Addr) (k n1 X : Nat) (arr : Array Value) (v : Value) (sts : List St) : Prop where
  blk : W.heap[X]? = some (.cells arr 31 (0, 0))
  low : w.heap.size ≤ X
  below : Below w.heap.size w W
  steps : StepsAt W w.heap.size v sts
  apart : v.ownBlock ≠ some X
  byte : W.cell? ⟨x.block, x.off + (k + 1), none⟩ = some (.int .u8 n1)
  xlt : x.block < w.heap.size

section
variable {w W : World} {x : Addr} {k n1 X : Nat} {arr : Array Value} {v : Value} {sts : List St}
theorem Now.hi (h : Now w W x k n1 X arr v sts) : w.heap.size ≤ W.heap.size := h.below.size
theorem Now.drew (h : Now w W x k n1 X arr v sts) : Now w W.drew x k n1 X arr v sts := ⟨h.blk, h.low, h.below.drew, World.ownsRow.drew h.steps, h.apart, h.byte, h.xlt⟩
theorem Now.alloc (h : Now w W x k n1 X arr v sts) (o : Obj) : Now w (W.alloc o) x k n1 X arr v sts :=
  ⟨(Below.heap_alloc _ _ _ (lt_of_block h.blk)).trans h.blk, h.low, h.below.alloc h.hi _, World.ownsRow.alloc h.steps _, h.apart,
    (World.cell?_of_block (a := ⟨x.block, x.off + (k + 1), none⟩) (Below.heap_alloc _ _ _ (Nat.lt_of_lt_of_le h.xlt h.hi))).trans h.byte, h.xlt⟩
theorem Now.set (h : Now w W x k n1 X arr v sts) (j : Nat) (u : Value) : Now w (W.setCell ⟨X, j, none⟩ u) x k n1 X (arr.setIfInBounds j u) v sts := by
  have hx : x.block ≠ X := by have := h.xlt; have := h.low; omega
  exact ⟨heap_setCell_same h.blk j u, h.low, h.below.setCell h.low _, ownsRow_setCell_other h.steps h.apart _, h.apart, (World.cell?_of_block (a := ⟨x.block, x.off + (k + 1), none⟩) (Below.heap_setCell _ _ _ _ hx)).trans h.byte, h.xlt⟩
theorem Now.at (h : Now w W x k n1 X arr v sts) (j : Nat) : W.cell? ⟨X, j, none⟩ = arr[j]? ∧ W.frozen? ⟨X, j, none⟩ = false := ⟨cell_at h.blk j, free_at h.blk j⟩
end
theorem app2 (a b : UInt8) : (⟨#[a]⟩ : ByteArray) ++ ⟨#[b]⟩ = ⟨#[a, b]⟩ := by
  apply ByteArray.ext
  simp

theorem digit_of (d : Nat) (hd : d < 3) : digitB (48 + UInt8.ofNat d) := by
  obtain rfl | rfl | rfl : d = 0 ∨ d = 1 ∨ d = 2 := by omega
  · unfold digitB; decide
  · unfold digitB; decide
  · unfold digitB; decide

theorem app_tag (a b c : UInt8) : (⟨#[a, b]⟩ : ByteArray) ++ ((⟨#[123, 116, 61, 34]⟩ : ByteArray) ++ ⟨#[c]⟩ ++ ⟨#[34, 125]⟩) = ⟨#[a, b, 123, 116, 61, 34, c, 34, 125]⟩ := by
  apply ByteArray.ext
  simp

theorem info31 : (Tryz.prog.info? 31).map (fun i => (i.zero, i.size, i.bytes)) = some (some (.agg #[.int .i64 0, .string ⟨#[]⟩, .int .i64 0]), 3, 32) := by kernel_rfl

/-- The steps made so far. -/
def MadeAt (w0 : World) (v : Value) (sts : List St) (w : World) : Prop := StepsAt w w0.heap.size v sts ∧ sts.length ≤ 60 ∧ (∀ s ∈ sts, StOk s) ∧ Below w0.heap.size w0 w

def Made (w0 : World) (e : Ending) (w : World) : Prop := ∃ v sts, e = .returned v ∧ MadeAt w0 v sts w

/-- One step more. -/
theorem MadeAt.step {w0 w3 : World} {v' : Value} {sts : List St} (s : St) (hs : StOk s) (hlen : sts.length < 60) (hok : ∀ s ∈ sts, StOk s) (hB : Below w0.heap.size w0 w3) (hown : w3.ownsRow w0.heap.size 31 3 v' (sts.length + 1) (flat sts ++ stCells s)) : MadeAt w0 v' (sts ++ [s]) w3 := by
  refine ⟨?_, by simp; omega, fun t ht => ?_, hB⟩
  · have e : flat (sts ++ [s]) = flat sts ++ stCells s := by simp [flat]
    show w3.ownsRow w0.heap.size 31 3 v' (sts ++ [s]).length (flat (sts ++ [s]))
    rw [e, List.length_append]
    exact hown
  · rcases List.mem_append.1 ht with ht | ht
    · exact hok t ht
    · obtain rfl : t = s := by simpa using ht
      exact hs

theorem new31 (W : World) (a : Addr) (u : Value) (o : Obj) : ((W.setCell a u).alloc o).heap[W.heap.size]? = some o := by
  have := heap_alloc_new (W.setCell a u) o
  rwa [World.size_setCell] at this


set_option maxHeartbeats 16000000 in
set_option maxRecDepth 100000 in
theorem steps_any (a0 : Option Addr) (len0 cap0 : Nat) (z0 : List Int) (w : World) (h0 : IsRow .u8 w a0 len0 cap0 z0) (hlen : len0 ≤ 2147483647) :
    Calls Tryz.prog 4 #[.slice a0 len0 cap0] w (Made w) := by
  have HR := Lib.hid h0
  obtain ⟨i0, hi, hz0, hz1, hz2⟩ := info_parts info31
  clear h0
  go_enter Tryz.func4, Tryz.ntmps4
  go_wp2_with fail
  go_loopw [3, 4] (fun v i wr => ∃ (k : Nat) (sts : List St), i = .int .i64 k ∧ k = 3 * sts.length ∧ MadeAt w v sts wr) (fun _ i _ => 200 - (intOf i).toNat)
  case atStart =>
    exact ⟨0, [], rfl, rfl, World.ownsRow_nil _ _ _ _, by simp, by simp, Below.refl _ _⟩
  case round =>
    obtain ⟨k, sts, rfl, hks, hS, h60, hok, hB⟩ := hrel
    obtain ⟨ao, co, rfl⟩ : ∃ a c, u3 = .slice a sts.length c := by
      rcases hS.2 with ⟨rfl, h0⟩ | ⟨g, cap, cur, rfl, _⟩
      · exact ⟨none, 0, by rw [h0]⟩
      · exact ⟨_, cap, rfl⟩
    by_cases hlt : k + 2 < len0 ∧ sts.length < 60
    · obtain ⟨hlt, hlt2⟩ := hlt
      obtain ⟨x, rfl⟩ : ∃ x, a0 = some x := by
        rcases HR.out with ⟨rfl, h, _⟩ | ⟨x, hx, _⟩
        · omega
        · exact ⟨x, hx⟩
      obtain ⟨hl, hm, hxb⟩ := HR.out.block
      obtain ⟨n0, l0, c0⟩ := HR.out.byte (k) (by omega)
      obtain ⟨n1, l1, c1⟩ := HR.out.byte (k + 1) (by omega)
      obtain ⟨n2, l2, c2⟩ := HR.out.byte (k + 2) (by omega)
      have hxw := hxb (by omega)
      have hsz := hB.size
      have e0 := (hB.cell (p := x.add (k)) (by rw [add_block]; exact hxw)).trans c0
      have e1 := (hB.cell (p := x.add (k + 1)) (by rw [add_block]; exact hxw)).trans c1
      have e2 := (hB.cell (p := x.add (k + 2)) (by rw [add_block]; exact hxw)).trans c2
      have a1 : x.add (k + 1) = ⟨x.block, x.off + (k + 1), none⟩ := by simp [Addr.add]
      have a2 : x.add (k + 2) = ⟨x.block, x.off + (k + 1 + 1), none⟩ := by simp [Addr.add]
      rw [a1] at e1
      rw [a2] at e2
      unfold maxLen at hm
      have hk180 : k < 180 := by omega
      have HKS := Lib.hid hks
      have HS := Lib.hid hS
      have HO := Lib.hid hok
      have HB := Lib.hid hB
      clear hS hok hB c0 c1 c2 hks a1 a2
      obtain ⟨q, hq, hq8⟩ : ∃ q : Nat, (n0 : Int) % 8 = q ∧ q < 8 := ⟨n0 % 8, by omega, by omega⟩
      obtain ⟨p, hp, hp7⟩ : ∃ p : Nat, (n2 : Int) % 7 = p ∧ p < 7 := ⟨n2 % 7, by omega, by omega⟩
      have oldc : ∀ (o : Obj) (y : Nat) (v : Value), wr.cell? ⟨x.block, y, none⟩ = some v → (wr.alloc o).cell? ⟨x.block, y, none⟩ = some v := fun o y v h => (World.cell?_of_block (a := ⟨x.block, y, none⟩) (Below.heap_alloc _ _ _ (Nat.lt_of_lt_of_le hxw hsz))).trans h
      have e1a := fun o => oldc o _ _ e1
      have e2a := fun o => oldc o _ _ e2
      have Oldc := Lib.hid oldc
      clear oldc
      by_cases h7 : q = 7
      · subst h7
        obtain ⟨L, hL, hLb, hLm⟩ := lead_letter p (by omega)
        go_wp2_with fail
        obtain ⟨X, hX⟩ : ∃ X, X = wr.heap.size := ⟨_, rfl⟩
        have hN1 : Now w (wr.alloc (Obj.cells #[Value.int IntKind.i64 7, Value.string ⟨#[L]⟩, Value.int IntKind.i64 n2] 31)) x k n1 X #[Value.int IntKind.i64 7, Value.string ⟨#[L]⟩, Value.int IntKind.i64 n2] (.slice ao sts.length co) sts := ⟨by rw [hX]; exact heap_alloc_new wr _, by omega, HB.out.alloc hsz _, HS.out.alloc _, fun e => by have := (HS.out.lt _ e).2; omega, e1a _, hxw⟩
        rw [← hX]
        clear hX e0 e1 e2 e1a e2a hL
        generalize World.alloc _ _ = W1 at hN1 ⊢
        have HN1 := Lib.hid hN1
        have hXlt := lt_of_block hN1.blk
        have e1b := hN1.byte
        have d1 : W1.cell? ⟨X, 1, none⟩ = some (.string ⟨#[L]⟩) := (hN1.at 1).1
        have f1 := (hN1.at 1).2
        have d1a : ∀ o : Obj, (W1.alloc o).cell? ⟨X, 1, none⟩ = some (.string ⟨#[L]⟩) := fun o => ((HN1.out.alloc o).at 1).1
        have f1a : ∀ o : Obj, (W1.alloc o).frozen? ⟨X, 1, none⟩ = false := fun o => ((HN1.out.alloc o).at 1).2
        clear hN1
        obtain ⟨r, hr, hr3⟩ : ∃ r : Nat, (n1 : Int) % 3 = r ∧ r < 3 := ⟨n1 % 3, by omega, by omega⟩
        obtain ⟨M, hM, hMb⟩ := letter2 r hr3
        have hconv := conv1 W1 (97 + (r : Int)) 9 Tryz.underlying9
        rw [hM] at hconv
        clear hM
        go_region
        rw [app2]
        have hN2 := ((HN1.out.set 1 (.string ⟨#[L, M]⟩)).alloc (.cells #[.int .u8 (97 + (r : Int))] 5)).drew
        generalize World.drew _ = W2 at hN2 ⊢
        replace hN2 : Now w W2 x k n1 X #[Value.int IntKind.i64 7, Value.string ⟨#[L, M]⟩, Value.int IntKind.i64 n2] (.slice ao sts.length co) sts := hN2
        clear hconv d1 f1 d1a f1a e1b HN1
        have HN2 := Lib.hid hN2
        have e1c := hN2.byte
        have d0 : W2.cell? ⟨X, 0, none⟩ = some (.int .i64 7) := (hN2.at 0).1
        have d2 : W2.cell? ⟨X, 2, none⟩ = some (.int .i64 n2) := (hN2.at 2).1
        have f1 := (hN2.at 1).2
        have f2 := (hN2.at 2).2
        have hWs := hN2.hi
        have d1 : W2.cell? ⟨X, 1, none⟩ = some (.string ⟨#[L, M]⟩) := (hN2.at 1).1
        clear hN2
        obtain ⟨d, hd, hd3⟩ : ∃ d : Nat, (n1 : Int) / 9 % 3 = d ∧ d < 3 := ⟨n1 / 9 % 3, by omega, by omega⟩
        go_upto_if 71 with (fail)
        go_cut [] (fun wx => ∃ t, (∀ d, t = some d → digitB d) ∧ Now w wx x k n1 X #[Value.int IntKind.i64 7, Value.string ⟨(nameOf L M t).toArray⟩, Value.int IntKind.i64 n2] (.slice ao sts.length co) sts)
        case first =>
          by_cases h9 : (n1 : Int) / 3 % 3 = 0
          · go_wp2_with fail
            have hw1 : IntKind.i64.wrap ((k : Int) + 1) = (k : Int) + 1 := IntWalk.i64_in _ (by omega)
            have hw2 : (0 : Int) ≤ (k : Int) + 1 := by omega
            have hw3 : (k : Int) + 1 < (len0 : Int) := by omega
            have hw4 : ((k : Int) + 1).toNat = k + 1 := by omega
            have hw5 : IntKind.i64.wrap ((IntKind.u8.wrap ((n1 : Int) / 9)).tmod 3) = (d : Int) := by
              rw [IntWalk.u8_in _ (by omega), Int.tmod_eq_emod_of_nonneg (by omega), hd]
              exact IntWalk.i64_in _ (by omega)
            go_region_law (first | (go_simp; go_at_call 9; refine (itoa_any d (by omega) _).mono ?_; rintro e w' ⟨rfl, rfl⟩))
            all_goals
              rw [app_tag]
              go_wp2_with fail
              go_meet
              exact ⟨some (48 + UInt8.ofNat d), (by intro d' h; cases h; exact digit_of d hd3), (HN2.out.set 1 (.string ⟨#[L, M, 123, 116, 61, 34, 48 + UInt8.ofNat d, 34, 125]⟩)).drew⟩
          · go_wp2_with fail
            go_meet
            exact ⟨none, (by intro d h; cases h), HN2.out⟩
        case rest =>
          obtain ⟨t, ht, hN3⟩ := hcut
          have hfit : mtKind p = mtOf (nameOf L M t) := by cases t <;> exact hLm _
          clear d0 d1 d2 f1 f2 hWs e1c HN2 hLm
          have HN3 := Lib.hid hN3
          have d0 : wc.cell? ⟨X, 0, none⟩ = some (.int .i64 7) := (hN3.at 0).1
          have d1 : wc.cell? ⟨X, 1, none⟩ = some (.string ⟨(nameOf L M t).toArray⟩) := (hN3.at 1).1
          have d2 : wc.cell? ⟨X, 2, none⟩ = some (.int .i64 n2) := (hN3.at 2).1
          have f2 := (hN3.at 2).2
          have hWs := hN3.hi
          clear hN3
          go_wp2_with (first | (at_builtin; go_must (refine wpList_append_own _ rfl _ _ 23 rfl w.heap.size 31 i0 (.agg #[.int .i64 0, .string ⟨#[]⟩, .int .i64 0]) 3 32 Tryz.underlying23 hi hz0 hz1 hz2 rfl (by decide) _ _ _ rfl ((HN3.out.alloc _).steps) ⟨wc.heap.size, 0, none⟩ 1 1 [Value.int IntKind.i64 7, Value.string ⟨(nameOf L M t).toArray⟩, Value.int IntKind.i64 n2] rfl rfl (World.news_of_block (cs := #[Value.int IntKind.i64 7, Value.string ⟨(nameOf L M t).toArray⟩, Value.int IntKind.i64 n2]) (t := 31) (fr := (0, 0)) (heap_alloc_new _ _)) (by simp [Value.oneCell']) (by unfold maxLen; omega) (by omega) (by simp; omega) ?_); intro v' w3 hown3 hgrow3 hnil3; have HO3 := Lib.hid hown3; have HG3 := Lib.hid hgrow3; clear hown3 hgrow3 hnil3))
          go_roundw
          case rel =>
            refine ⟨k + 3, sts ++ [⟨7, (nameOf L M t), n2⟩], by go_num, by have := HKS.out; simp; omega, MadeAt.step ⟨7, (nameOf L M t), n2⟩ ⟨(by show 7 ≤ 7; omega), ⟨L, M, t, hLb, hMb, ht, rfl⟩, (fun h => absurd rfl h), (by show (-100 : Int) ≤ n2 ∧ n2 ≤ (255 : Int); omega), (by show 7 = 5 ∨ 7 = 6 → (0 : Int) ≤ n2; omega)⟩ hlt2 HO.out ((HN3.out.alloc _).below.grown HG3.out (HN3.out.alloc _).hi (fun r hr => ((HN3.out).steps.lt r hr).1)) HO3.out⟩
          case measure => simp [intOf]; omega
      · obtain ⟨L, hL, hLb, hLm⟩ := lead_letter q (by omega)
        go_wp2_with fail
        obtain ⟨X, hX⟩ : ∃ X, X = wr.heap.size := ⟨_, rfl⟩
        have hN1 : Now w (wr.alloc (Obj.cells #[Value.int IntKind.i64 q, Value.string ⟨#[L]⟩, Value.int IntKind.i64 n2] 31)) x k n1 X #[Value.int IntKind.i64 q, Value.string ⟨#[L]⟩, Value.int IntKind.i64 n2] (.slice ao sts.length co) sts := ⟨by rw [hX]; exact heap_alloc_new wr _, by omega, HB.out.alloc hsz _, HS.out.alloc _, fun e => by have := (HS.out.lt _ e).2; omega, e1a _, hxw⟩
        rw [← hX]
        clear hX e0 e1 e2 e1a e2a hL
        generalize World.alloc _ _ = W1 at hN1 ⊢
        have HN1 := Lib.hid hN1
        have hXlt := lt_of_block hN1.blk
        have e1b := hN1.byte
        have d1 : W1.cell? ⟨X, 1, none⟩ = some (.string ⟨#[L]⟩) := (hN1.at 1).1
        have f1 := (hN1.at 1).2
        have d1a : ∀ o : Obj, (W1.alloc o).cell? ⟨X, 1, none⟩ = some (.string ⟨#[L]⟩) := fun o => ((HN1.out.alloc o).at 1).1
        have f1a : ∀ o : Obj, (W1.alloc o).frozen? ⟨X, 1, none⟩ = false := fun o => ((HN1.out.alloc o).at 1).2
        clear hN1
        obtain ⟨r, hr, hr3⟩ : ∃ r : Nat, (n1 : Int) % 3 = r ∧ r < 3 := ⟨n1 % 3, by omega, by omega⟩
        obtain ⟨M, hM, hMb⟩ := letter2 r hr3
        have hconv := conv1 W1 (97 + (r : Int)) 9 Tryz.underlying9
        rw [hM] at hconv
        clear hM
        go_region
        rw [app2]
        have hN2 := ((HN1.out.set 1 (.string ⟨#[L, M]⟩)).alloc (.cells #[.int .u8 (97 + (r : Int))] 5)).drew
        generalize World.drew _ = W2 at hN2 ⊢
        replace hN2 : Now w W2 x k n1 X #[Value.int IntKind.i64 q, Value.string ⟨#[L, M]⟩, Value.int IntKind.i64 n2] (.slice ao sts.length co) sts := hN2
        clear hconv d1 f1 d1a f1a e1b HN1
        have HN2 := Lib.hid hN2
        have e1c := hN2.byte
        have d0 : W2.cell? ⟨X, 0, none⟩ = some (.int .i64 q) := (hN2.at 0).1
        have d2 : W2.cell? ⟨X, 2, none⟩ = some (.int .i64 n2) := (hN2.at 2).1
        have f1 := (hN2.at 1).2
        have f2 := (hN2.at 2).2
        have hWs := hN2.hi
        have d1 : W2.cell? ⟨X, 1, none⟩ = some (.string ⟨#[L, M]⟩) := (hN2.at 1).1
        clear hN2
        obtain ⟨d, hd, hd3⟩ : ∃ d : Nat, (n1 : Int) / 9 % 3 = d ∧ d < 3 := ⟨n1 / 9 % 3, by omega, by omega⟩
        go_upto_if 71 with (fail)
        go_cut [] (fun wx => ∃ t, (∀ d, t = some d → digitB d) ∧ Now w wx x k n1 X #[Value.int IntKind.i64 q, Value.string ⟨(nameOf L M t).toArray⟩, Value.int IntKind.i64 n2] (.slice ao sts.length co) sts)
        case first =>
          by_cases h9 : (n1 : Int) / 3 % 3 = 0
          · go_wp2_with fail
            have hw1 : IntKind.i64.wrap ((k : Int) + 1) = (k : Int) + 1 := IntWalk.i64_in _ (by omega)
            have hw2 : (0 : Int) ≤ (k : Int) + 1 := by omega
            have hw3 : (k : Int) + 1 < (len0 : Int) := by omega
            have hw4 : ((k : Int) + 1).toNat = k + 1 := by omega
            have hw5 : IntKind.i64.wrap ((IntKind.u8.wrap ((n1 : Int) / 9)).tmod 3) = (d : Int) := by
              rw [IntWalk.u8_in _ (by omega), Int.tmod_eq_emod_of_nonneg (by omega), hd]
              exact IntWalk.i64_in _ (by omega)
            go_region_law (first | (go_simp; go_at_call 9; refine (itoa_any d (by omega) _).mono ?_; rintro e w' ⟨rfl, rfl⟩))
            all_goals
              rw [app_tag]
              go_wp2_with fail
              go_meet
              exact ⟨some (48 + UInt8.ofNat d), (by intro d' h; cases h; exact digit_of d hd3), (HN2.out.set 1 (.string ⟨#[L, M, 123, 116, 61, 34, 48 + UInt8.ofNat d, 34, 125]⟩)).drew⟩
          · go_wp2_with fail
            go_meet
            exact ⟨none, (by intro d h; cases h), HN2.out⟩
        case rest =>
          obtain ⟨t, ht, hN3⟩ := hcut
          have hfit : mtKind q = mtOf (nameOf L M t) := by cases t <;> exact hLm _
          clear d0 d1 d2 f1 f2 hWs e1c HN2 hLm
          have HN3 := Lib.hid hN3
          have d0 : wc.cell? ⟨X, 0, none⟩ = some (.int .i64 q) := (hN3.at 0).1
          have d1 : wc.cell? ⟨X, 1, none⟩ = some (.string ⟨(nameOf L M t).toArray⟩) := (hN3.at 1).1
          have d2 : wc.cell? ⟨X, 2, none⟩ = some (.int .i64 n2) := (hN3.at 2).1
          have f2 := (hN3.at 2).2
          have hWs := hN3.hi
          clear hN3
          by_cases hsub : q = 2 ∨ q = 3 ∨ q = 4
          · rcases hsub with rfl | rfl | rfl
            · go_wp2_with (first | (at_builtin; go_must (refine wpList_append_own _ rfl _ _ 23 rfl w.heap.size 31 i0 (.agg #[.int .i64 0, .string ⟨#[]⟩, .int .i64 0]) 3 32 Tryz.underlying23 hi hz0 hz1 hz2 rfl (by decide) _ _ _ rfl (((HN3.out.set 2 (.int .i64 ((n2 : Int) - 100))).alloc _).steps) ⟨wc.heap.size, 0, none⟩ 1 1 [Value.int IntKind.i64 2, Value.string ⟨(nameOf L M t).toArray⟩, Value.int IntKind.i64 ((n2 : Int) - 100)] rfl rfl (World.news_of_block (cs := #[Value.int IntKind.i64 2, Value.string ⟨(nameOf L M t).toArray⟩, Value.int IntKind.i64 ((n2 : Int) - 100)]) (t := 31) (fr := (0, 0)) (new31 _ _ _ _)) (by simp [Value.oneCell']) (by unfold maxLen; omega) (by omega) (by simp; omega) ?_); intro v' w3 hown3 hgrow3 hnil3; have HO3 := Lib.hid hown3; have HG3 := Lib.hid hgrow3; clear hown3 hgrow3 hnil3))
              go_roundw
              case rel =>
                refine ⟨k + 3, sts ++ [⟨2, (nameOf L M t), ((n2 : Int) - 100)⟩], by go_num, by have := HKS.out; simp; omega, MadeAt.step ⟨2, (nameOf L M t), ((n2 : Int) - 100)⟩ ⟨(by show 2 ≤ 7; omega), ⟨L, M, t, hLb, hMb, ht, rfl⟩, (fun _ => hfit), (by show (-100 : Int) ≤ ((n2 : Int) - 100) ∧ ((n2 : Int) - 100) ≤ (255 : Int); omega), (by show 2 = 5 ∨ 2 = 6 → (0 : Int) ≤ ((n2 : Int) - 100); omega)⟩ hlt2 HO.out (((HN3.out.set 2 (.int .i64 ((n2 : Int) - 100))).alloc _).below.grown HG3.out ((HN3.out.set 2 (.int .i64 ((n2 : Int) - 100))).alloc _).hi (fun r hr => (((HN3.out.set 2 (.int .i64 ((n2 : Int) - 100)))).steps.lt r hr).1)) HO3.out⟩
              case measure => simp [intOf]; omega
            · go_wp2_with (first | (at_builtin; go_must (refine wpList_append_own _ rfl _ _ 23 rfl w.heap.size 31 i0 (.agg #[.int .i64 0, .string ⟨#[]⟩, .int .i64 0]) 3 32 Tryz.underlying23 hi hz0 hz1 hz2 rfl (by decide) _ _ _ rfl (((HN3.out.set 2 (.int .i64 ((n2 : Int) - 100))).alloc _).steps) ⟨wc.heap.size, 0, none⟩ 1 1 [Value.int IntKind.i64 3, Value.string ⟨(nameOf L M t).toArray⟩, Value.int IntKind.i64 ((n2 : Int) - 100)] rfl rfl (World.news_of_block (cs := #[Value.int IntKind.i64 3, Value.string ⟨(nameOf L M t).toArray⟩, Value.int IntKind.i64 ((n2 : Int) - 100)]) (t := 31) (fr := (0, 0)) (new31 _ _ _ _)) (by simp [Value.oneCell']) (by unfold maxLen; omega) (by omega) (by simp; omega) ?_); intro v' w3 hown3 hgrow3 hnil3; have HO3 := Lib.hid hown3; have HG3 := Lib.hid hgrow3; clear hown3 hgrow3 hnil3))
              go_roundw
              case rel =>
                refine ⟨k + 3, sts ++ [⟨3, (nameOf L M t), ((n2 : Int) - 100)⟩], by go_num, by have := HKS.out; simp; omega, MadeAt.step ⟨3, (nameOf L M t), ((n2 : Int) - 100)⟩ ⟨(by show 3 ≤ 7; omega), ⟨L, M, t, hLb, hMb, ht, rfl⟩, (fun _ => hfit), (by show (-100 : Int) ≤ ((n2 : Int) - 100) ∧ ((n2 : Int) - 100) ≤ (255 : Int); omega), (by show 3 = 5 ∨ 3 = 6 → (0 : Int) ≤ ((n2 : Int) - 100); omega)⟩ hlt2 HO.out (((HN3.out.set 2 (.int .i64 ((n2 : Int) - 100))).alloc _).below.grown HG3.out ((HN3.out.set 2 (.int .i64 ((n2 : Int) - 100))).alloc _).hi (fun r hr => (((HN3.out.set 2 (.int .i64 ((n2 : Int) - 100)))).steps.lt r hr).1)) HO3.out⟩
              case measure => simp [intOf]; omega
            · go_wp2_with (first | (at_builtin; go_must (refine wpList_append_own _ rfl _ _ 23 rfl w.heap.size 31 i0 (.agg #[.int .i64 0, .string ⟨#[]⟩, .int .i64 0]) 3 32 Tryz.underlying23 hi hz0 hz1 hz2 rfl (by decide) _ _ _ rfl (((HN3.out.set 2 (.int .i64 ((n2 : Int) - 100))).alloc _).steps) ⟨wc.heap.size, 0, none⟩ 1 1 [Value.int IntKind.i64 4, Value.string ⟨(nameOf L M t).toArray⟩, Value.int IntKind.i64 ((n2 : Int) - 100)] rfl rfl (World.news_of_block (cs := #[Value.int IntKind.i64 4, Value.string ⟨(nameOf L M t).toArray⟩, Value.int IntKind.i64 ((n2 : Int) - 100)]) (t := 31) (fr := (0, 0)) (new31 _ _ _ _)) (by simp [Value.oneCell']) (by unfold maxLen; omega) (by omega) (by simp; omega) ?_); intro v' w3 hown3 hgrow3 hnil3; have HO3 := Lib.hid hown3; have HG3 := Lib.hid hgrow3; clear hown3 hgrow3 hnil3))
              go_roundw
              case rel =>
                refine ⟨k + 3, sts ++ [⟨4, (nameOf L M t), ((n2 : Int) - 100)⟩], by go_num, by have := HKS.out; simp; omega, MadeAt.step ⟨4, (nameOf L M t), ((n2 : Int) - 100)⟩ ⟨(by show 4 ≤ 7; omega), ⟨L, M, t, hLb, hMb, ht, rfl⟩, (fun _ => hfit), (by show (-100 : Int) ≤ ((n2 : Int) - 100) ∧ ((n2 : Int) - 100) ≤ (255 : Int); omega), (by show 4 = 5 ∨ 4 = 6 → (0 : Int) ≤ ((n2 : Int) - 100); omega)⟩ hlt2 HO.out (((HN3.out.set 2 (.int .i64 ((n2 : Int) - 100))).alloc _).below.grown HG3.out ((HN3.out.set 2 (.int .i64 ((n2 : Int) - 100))).alloc _).hi (fun r hr => (((HN3.out.set 2 (.int .i64 ((n2 : Int) - 100)))).steps.lt r hr).1)) HO3.out⟩
              case measure => simp [intOf]; omega
          · have hn2 : q ≠ 2 := fun e => hsub (.inl e)
            have hn3 : q ≠ 3 := fun e => hsub (.inr (.inl e))
            have hn4 : q ≠ 4 := fun e => hsub (.inr (.inr e))
            have hi2 : ((q : Int) == 2) = false := by simp; omega
            have hi3 : ((q : Int) == 3) = false := by simp; omega
            have hi4 : ((q : Int) == 4) = false := by simp; omega
            go_wp2_with (first | (at_builtin; go_must (refine wpList_append_own _ rfl _ _ 23 rfl w.heap.size 31 i0 (.agg #[.int .i64 0, .string ⟨#[]⟩, .int .i64 0]) 3 32 Tryz.underlying23 hi hz0 hz1 hz2 rfl (by decide) _ _ _ rfl ((HN3.out.alloc _).steps) ⟨wc.heap.size, 0, none⟩ 1 1 [Value.int IntKind.i64 q, Value.string ⟨(nameOf L M t).toArray⟩, Value.int IntKind.i64 n2] rfl rfl (World.news_of_block (cs := #[Value.int IntKind.i64 q, Value.string ⟨(nameOf L M t).toArray⟩, Value.int IntKind.i64 n2]) (t := 31) (fr := (0, 0)) (heap_alloc_new _ _)) (by simp [Value.oneCell']) (by unfold maxLen; omega) (by omega) (by simp; omega) ?_); intro v' w3 hown3 hgrow3 hnil3; have HO3 := Lib.hid hown3; have HG3 := Lib.hid hgrow3; clear hown3 hgrow3 hnil3))
            go_roundw
            case rel =>
              refine ⟨k + 3, sts ++ [⟨q, (nameOf L M t), n2⟩], by go_num, by have := HKS.out; simp; omega, MadeAt.step ⟨q, (nameOf L M t), n2⟩ ⟨(by show q ≤ 7; omega), ⟨L, M, t, hLb, hMb, ht, rfl⟩, (fun _ => hfit), (by show (-100 : Int) ≤ n2 ∧ n2 ≤ (255 : Int); omega), (by show q = 5 ∨ q = 6 → (0 : Int) ≤ n2; omega)⟩ hlt2 HO.out ((HN3.out.alloc _).below.grown HG3.out (HN3.out.alloc _).hi (fun r hr => ((HN3.out).steps.lt r hr).1)) HO3.out⟩
            case measure => simp [intOf]; omega
    · have HS := Lib.hid hS
      have HO := Lib.hid hok
      have HB := Lib.hid hB
      have hend : ¬ ((k : Int) + 2 < (len0 : Int)) ∨ ¬ ((sts.length : Int) < 60) := by omega
      have hk180 : k ≤ 180 := by omega
      clear hS hok hB hks
      rcases hend with hend | hend
      · go_wp2_with fail
        go_ret
        exact ⟨_, sts, rfl, HS.out, h60, HO.out, HB.out⟩
      · by_cases hc : (k : Int) + 2 < (len0 : Int)
        · go_wp2_with fail
          go_ret
          exact ⟨_, sts, rfl, HS.out, h60, HO.out, HB.out⟩
        · go_wp2_with fail
          go_ret
          exact ⟨_, sts, rfl, HS.out, h60, HO.out, HB.out⟩
end Go.Proofs.YtaphagdbekmngaaGreatDoor
