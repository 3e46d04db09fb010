/- The contracts of Go's library that are used, laid at this program in plain words. Written by the kit's own programs lay-shelf, lay-iter and lay-plain. -/
import Derived.Shelf.Small.Strs
import Derived.Shelf.Slices.Equal
import Derived.Shelf.Slices.Empties2
import Derived.Shelf.SlIter.Nil
import Derived.Shelf.SortM.Plain
import Derived.Shelf.SortM.SortNone
import Derived.Ground.GgzProg
import Derived.Ground.SlgmProg
import Derived.Test.YtaphagdbekmngaaGreatDoorProg
namespace Go.Proofs
open Go.Shelf
def Tryz.lays137_ren : Go.Shelf.Ren := ⟨fun | 137 => 51 | 217 => 78 | 266 => 94 | n => n, fun | 9 => 9 | 5 => 5 | 3 => 3 | n => n, fun | n => n⟩
theorem Tryz.lays137 : Go.Proofs.Lays.n137 Tryz.prog Tryz.lays137_ren := {
  mixed := by kernel_rfl
  f137 := Tryz.func51.trans (congrArg some (by kernel_rfl))
  f217 := Tryz.func78.trans (congrArg some (by kernel_rfl))
  f266 := Tryz.func94.trans (congrArg some (by kernel_rfl))
  t3 := Tryz.underlying3
  a3 := Tryz.isAgg3
  z3 := Tryz.sizeOf3
  v3 := Tryz.zeroValue3
  t5 := Tryz.underlying5
  a5 := Tryz.isAgg5
  z5 := Tryz.sizeOf5
  v5 := Tryz.zeroValue5
  t9 := Tryz.underlying9
  a9 := Tryz.isAgg9
  z9 := Tryz.sizeOf9
  v9 := Tryz.zeroValue9 }
open Go.RowKit in
theorem Tryz.strings_IndexByte (s : ByteArray) (c : Int) (w : World) :
    Calls Tryz.prog 51 #[.string s, .int .u8 c] w fun e w' => e = .returned (.int .i64 (Lib.indexByte s.data.toList c.toNat.toUInt8)) ∧ w' = w := Any.strings_IndexByte Tryz.lays137 s c w
def Tryz.lays193_ren : Go.Shelf.Ren := ⟨fun | 193 => 10 | n => n, fun | 31 => 26 | 9 => 9 | 4 => 4 | 3 => 3 | 0 => 0 | n => n, fun | n => n⟩
theorem Tryz.lays193 : Go.Proofs.Lays.n193 Tryz.prog Tryz.lays193_ren := {
  mixed := by kernel_rfl
  f193 := Tryz.func10.trans (congrArg some (by kernel_rfl))
  t0 := Tryz.underlying0
  a0 := Tryz.isAgg0
  z0 := Tryz.sizeOf0
  v0 := Tryz.zeroValue0
  t3 := Tryz.underlying3
  a3 := Tryz.isAgg3
  z3 := Tryz.sizeOf3
  v3 := Tryz.zeroValue3
  t4 := Tryz.underlying4
  a4 := Tryz.isAgg4
  z4 := Tryz.sizeOf4
  v4 := Tryz.zeroValue4
  t9 := Tryz.underlying9
  a9 := Tryz.isAgg9
  z9 := Tryz.sizeOf9
  v9 := Tryz.zeroValue9
  t31 := Tryz.underlying26
  a31 := Tryz.isAgg26
  z31 := Tryz.sizeOf26
  v31 := Tryz.zeroValue26 }
open Go.RowKit Go.Lib in
theorem Tryz.slices_Equal_string (b1 o1 n c b2 o2 m d : Nat) (xs ys : List ByteArray) (w : World) (hx : n ≤ xs.length) (hy : m ≤ ys.length) (hbig : n ≤ 9223372036854775807) (hbig2 : m ≤ 9223372036854775807) (hc1 : ∀ j, j < xs.length → w.cell? ⟨b1, o1 + j, none⟩ = some (.string (xs.getD j ByteArray.empty))) (hc2 : ∀ j, j < ys.length → w.cell? ⟨b2, o2 + j, none⟩ = some (.string (ys.getD j ByteArray.empty))) :
    Calls Tryz.prog 10 #[.slice (some ⟨b1, o1, none⟩) n c, .slice (some ⟨b2, o2, none⟩) m d] w fun e w' => e = .returned (.bool (decide (xs.take n = ys.take m))) ∧ ∃ q, w' = w.drewN q := Any.slices_Equal_string Tryz.lays193 b1 o1 n c b2 o2 m d xs ys w hx hy hbig hbig2 hc1 hc2
open Go.RowKit Go.Lib in
theorem Tryz.slices_Equal_string_empty (a1 a2 : Option Addr) (c m d : Nat) (w : World) (hbig2 : m ≤ 9223372036854775807) :
    Calls Tryz.prog 10 #[.slice a1 0 c, .slice a2 m d] w fun e w' => e = .returned (.bool (decide (m = 0))) ∧ w' = w := Any.slices_Equal_string_empty Tryz.lays193 a1 a2 c m d w hbig2
open Go.RowKit Go.Lib in
theorem Tryz.slices_Equal_string_lens (a1 a2 : Option Addr) (n c m d : Nat) (w : World) (hnm : n ≠ m) :
    Calls Tryz.prog 10 #[.slice a1 n c, .slice a2 m d] w fun e w' => e = .returned (.bool false) ∧ w' = w := Any.slices_Equal_string_lens Tryz.lays193 a1 a2 n c m d w hnm
def Tryz.keys14_ren : Go.Shelf.Ren := ⟨fun | 7 => 14 | 10 => 33 | n => n, fun | 23 => 40 | 26 => 9 | 3 => 41 | 28 => 38 | 0 => 0 | 27 => 37 | 33 => 63 | 4 => 4 | n => n, fun | n => n⟩
theorem Tryz.keys14 : Go.Proofs.SlLaysZ.n7 Tryz.prog Tryz.keys14_ren := {
  mixed := by kernel_rfl
  f7 := ⟨Tryz.f14.name, by decide, Tryz.func14.trans (congrArg some (by kernel_rfl))⟩
  f10 := ⟨Tryz.f33.name, by decide, Tryz.func33.trans (congrArg some (by kernel_rfl))⟩
  t0 := Tryz.underlying0
  a0 := Tryz.isAgg0
  z0 := Tryz.sizeOf0
  v0 := Tryz.zeroValue0
  t4 := Tryz.underlying4
  a4 := Tryz.isAgg4
  z4 := Tryz.sizeOf4
  v4 := Tryz.zeroValue4
  t23 := Tryz.underlying40
  a23 := Tryz.isAgg40
  z23 := Tryz.sizeOf40
  v23 := Tryz.zeroValue40
  t26 := Tryz.underlying9
  a26 := Tryz.isAgg9
  z26 := Tryz.sizeOf9
  v26 := Tryz.zeroValue9
  t27 := Tryz.underlying37
  a27 := Tryz.isAgg37
  z27 := Tryz.sizeOf37
  v27 := Tryz.zeroValue37
  t28 := Tryz.underlying38
  a28 := Tryz.isAgg38
  z28 := Tryz.sizeOf38
  v28 := Tryz.zeroValue38
  t33 := Tryz.underlying63
  a33 := Tryz.isAgg63
  z33 := Tryz.sizeOf63
  v33 := Tryz.zeroValue63 }
def Tryz.sorted13_ren : Go.Shelf.Ren := ⟨fun | 6 => 13 | 8 => 32 | 9 => 31 | 11 => 45 | 13 => 44 | 12 => 43 | 23 => 67 | 24 => 68 | 14 => 58 | 15 => 59 | 16 => 60 | 17 => 61 | 18 => 62 | 19 => 63 | 20 => 64 | 21 => 65 | 22 => 66 | 25 => 83 | 26 => 84 | 27 => 85 | 28 => 86 | 29 => 87 | 30 => 88 | 31 => 97 | n => n, fun | 26 => 9 | 28 => 38 | 24 => 26 | 0 => 0 | 3 => 3 | 37 => 98 | 48 => 131 | 50 => 49 | 4 => 4 | 40 => 123 | 39 => 122 | 45 => 128 | 5 => 5 | 9 => 9 | 51 => 146 | 55 => 150 | 57 => 154 | 58 => 155 | 33 => 63 | n => n, fun | n => n⟩
theorem Tryz.sorted13 : Go.Proofs.SlLaysZ.n6 Tryz.prog Tryz.sorted13_ren := {
  mixed := by kernel_rfl
  f6 := ⟨Tryz.f13.name, by decide, Tryz.func13.trans (congrArg some (by kernel_rfl))⟩
  f8 := ⟨Tryz.f32.name, by decide, Tryz.func32.trans (congrArg some (by kernel_rfl))⟩
  f11 := ⟨Tryz.f45.name, by decide, Tryz.func45.trans (congrArg some (by kernel_rfl))⟩
  t0 := Tryz.underlying0
  a0 := Tryz.isAgg0
  z0 := Tryz.sizeOf0
  v0 := Tryz.zeroValue0
  t24 := Tryz.underlying26
  a24 := Tryz.isAgg26
  z24 := Tryz.sizeOf26
  v24 := Tryz.zeroValue26
  t26 := Tryz.underlying9
  a26 := Tryz.isAgg9
  z26 := Tryz.sizeOf9
  v26 := Tryz.zeroValue9
  t28 := Tryz.underlying38
  a28 := Tryz.isAgg38
  z28 := Tryz.sizeOf38
  v28 := Tryz.zeroValue38
  i26 := by kernel_rfl }
def Tryz.sort31_ren : Go.Shelf.Ren := ⟨fun | 6 => 31 | 8 => 44 | 9 => 43 | 19 => 67 | 20 => 68 | 21 => 58 | 22 => 59 | 23 => 60 | 24 => 61 | 25 => 62 | 26 => 63 | 27 => 64 | 28 => 65 | 29 => 66 | 36 => 83 | 31 => 84 | 32 => 85 | 37 => 86 | 38 => 87 | 39 => 88 | 41 => 97 | n => n, fun | 27 => 26 | 29 => 9 | 3 => 3 | 32 => 98 | 26 => 26 | 0 => 0 | 44 => 131 | 46 => 49 | 4 => 4 | 36 => 123 | 35 => 122 | 41 => 128 | 5 => 5 | 9 => 9 | 53 => 146 | 57 => 150 | 63 => 154 | 64 => 155 | n => n, fun | n => n⟩
theorem Tryz.sort31 : Go.Proofs.SlLaysM.n6 Tryz.prog Tryz.sort31_ren := {
  mixed := by kernel_rfl
  f6 := ⟨Tryz.f31.name, by decide, Tryz.func31.trans (congrArg some (by kernel_rfl))⟩
  f8 := Tryz.func44.trans (congrArg some (by kernel_rfl))
  f9 := ⟨Tryz.f43.name, by decide, Tryz.func43.trans (congrArg some (by kernel_rfl))⟩
  f19 := Tryz.func67.trans (congrArg some (by kernel_rfl))
  f20 := Tryz.func68.trans (congrArg some (by kernel_rfl))
  f21 := ⟨Tryz.f58.name, by decide, Tryz.func58.trans (congrArg some (by kernel_rfl))⟩
  f22 := ⟨Tryz.f59.name, by decide, Tryz.func59.trans (congrArg some (by kernel_rfl))⟩
  f23 := ⟨Tryz.f60.name, by decide, Tryz.func60.trans (congrArg some (by kernel_rfl))⟩
  f24 := ⟨Tryz.f61.name, by decide, Tryz.func61.trans (congrArg some (by kernel_rfl))⟩
  f25 := ⟨Tryz.f62.name, by decide, Tryz.func62.trans (congrArg some (by kernel_rfl))⟩
  f26 := ⟨Tryz.f63.name, by decide, Tryz.func63.trans (congrArg some (by kernel_rfl))⟩
  f27 := ⟨Tryz.f64.name, by decide, Tryz.func64.trans (congrArg some (by kernel_rfl))⟩
  f28 := ⟨Tryz.f65.name, by decide, Tryz.func65.trans (congrArg some (by kernel_rfl))⟩
  f29 := ⟨Tryz.f66.name, by decide, Tryz.func66.trans (congrArg some (by kernel_rfl))⟩
  f31 := Tryz.func84.trans (congrArg some (by kernel_rfl))
  f32 := Tryz.func85.trans (congrArg some (by kernel_rfl))
  f36 := ⟨Tryz.f83.name, by decide, Tryz.func83.trans (congrArg some (by kernel_rfl))⟩
  f37 := ⟨Tryz.f86.name, by decide, Tryz.func86.trans (congrArg some (by kernel_rfl))⟩
  f38 := ⟨Tryz.f87.name, by decide, Tryz.func87.trans (congrArg some (by kernel_rfl))⟩
  f39 := ⟨Tryz.f88.name, by decide, Tryz.func88.trans (congrArg some (by kernel_rfl))⟩
  f41 := ⟨Tryz.f97.name, by decide, Tryz.func97.trans (congrArg some (by kernel_rfl))⟩
  t0 := Tryz.underlying0
  a0 := Tryz.isAgg0
  z0 := Tryz.sizeOf0
  v0 := Tryz.zeroValue0
  t3 := Tryz.underlying3
  a3 := Tryz.isAgg3
  z3 := Tryz.sizeOf3
  v3 := Tryz.zeroValue3
  t4 := Tryz.underlying4
  a4 := Tryz.isAgg4
  z4 := Tryz.sizeOf4
  v4 := Tryz.zeroValue4
  t5 := Tryz.underlying5
  a5 := Tryz.isAgg5
  z5 := Tryz.sizeOf5
  v5 := Tryz.zeroValue5
  t9 := Tryz.underlying9
  a9 := Tryz.isAgg9
  z9 := Tryz.sizeOf9
  v9 := Tryz.zeroValue9
  t26 := Tryz.underlying26
  a26 := Tryz.isAgg26
  z26 := Tryz.sizeOf26
  v26 := Tryz.zeroValue26
  t27 := Tryz.underlying26
  a27 := Tryz.isAgg26
  z27 := Tryz.sizeOf26
  v27 := Tryz.zeroValue26
  t29 := Tryz.underlying9
  a29 := Tryz.isAgg9
  z29 := Tryz.sizeOf9
  v29 := Tryz.zeroValue9
  t32 := Tryz.underlying98
  a32 := Tryz.isAgg98
  z32 := Tryz.sizeOf98
  v32 := Tryz.zeroValue98
  t35 := Tryz.underlying122
  a35 := Tryz.isAgg122
  z35 := Tryz.sizeOf122
  v35 := Tryz.zeroValue122
  t36 := Tryz.underlying123
  a36 := Tryz.isAgg123
  z36 := Tryz.sizeOf123
  v36 := Tryz.zeroValue123
  t41 := Tryz.underlying128
  a41 := Tryz.isAgg128
  z41 := Tryz.sizeOf128
  v41 := Tryz.zeroValue128
  t44 := Tryz.underlying131
  a44 := Tryz.isAgg131
  z44 := Tryz.sizeOf131
  v44 := Tryz.zeroValue131
  t46 := Tryz.underlying49
  a46 := Tryz.isAgg49
  z46 := Tryz.sizeOf49
  v46 := Tryz.zeroValue49
  t53 := Tryz.underlying146
  a53 := Tryz.isAgg146
  z53 := Tryz.sizeOf146
  v53 := Tryz.zeroValue146
  t57 := Tryz.underlying150
  a57 := Tryz.isAgg150
  z57 := Tryz.sizeOf150
  v57 := Tryz.zeroValue150
  t63 := Tryz.underlying154
  a63 := Tryz.isAgg154
  z63 := Tryz.sizeOf154
  v63 := Tryz.zeroValue154
  t64 := Tryz.underlying155
  a64 := Tryz.isAgg155
  z64 := Tryz.sizeOf155
  v64 := Tryz.zeroValue155 }
open Go.RowKit Go.Maps Go.Sort in
theorem Tryz.sorts13 (m : Nat) : AnyZ.SortsIn Tryz.prog Tryz.sorted13_ren Fence.wide m :=
  ⟨fun blk off cap ss W hH hblk hsz => callsIn_wide.2 (AnyM.slices_Sort_string Tryz.sort31 blk off cap ss W hH hblk hsz),
   fun p cap W => callsIn_wide.2 (AnyM.slices_Sort_string_none Tryz.sort31 p cap W)⟩

open Go.RowKit Go.Maps Go.Sort in
theorem Tryz.maps_Keys_14 (mb : Option Nat) (W : World) : CallsIn Fence.wide 5 Tryz.prog 14 #[.map mb] W fun e w' => e = .returned (.func (.func 33) #[] #[.pointer (some ⟨W.heap.size, 0, none⟩)]) ∧ w' = W.alloc (.cells #[.map mb] 40) :=
  AnyZ.keys_in Tryz.keys14 Fence.wide 5 trivial rfl mb W


open Go.RowKit Go.Maps Go.Sort in
set_option maxHeartbeats 1000000 in
theorem Tryz.slices_Sorted_keys_13_14 {H : Type} (b nn : Nat) (D0 : DataW H) (R : Value → Option (DataW H × List MemPlace)) (w : World) (hown : w.ownsMap Tryz.prog 9 R b nn D0) (hmax : Maps.size D0 ≤ maxLen) (hbytes : Maps.size D0 * 16 ≤ 140737488355328) :
    CallsIn Fence.wide 5 Tryz.prog 13 #[.func (.func 33) #[] #[.pointer (some ⟨w.heap.size, 0, none⟩)]] (w.alloc (.cells #[.map (some b)] 40)) fun e w' => ∃ (v : Value) (ss : List (List UInt8)), e = .returned v ∧ ss.Perm (strKeys D0) ∧
      w'.ownsRow (w.alloc (.cells #[.map (some b)] 40)).heap.size 9 1 v ss.length ((ss.mergeSort (fun x y => decide (x ≤ y))).map encStr) ∧ (v = .slice none 0 0 ↔ ss = []) ∧ Below (w.alloc (.cells #[.map (some b)] 40)).heap.size (w.alloc (.cells #[.map (some b)] 40)) w' := by
  have hbl := hown.lt
  have hseq : SeqGives Fence.wide 2 Tryz.prog 33 #[.pointer (some ⟨w.heap.size, 0, none⟩)] encStr (fun ss => ss.Perm (strKeys D0)) (Maps.size D0) (w.alloc (.cells #[.map (some b)] 40)) :=
    AnyZ.keys_gives (ρ := Tryz.keys14_ren) { Tryz.keys14 with } Fence.wide _ trivial rfl (by omega) w.heap.size b nn D0 _ (by simp) (by simp) (by
      obtain ⟨es, clock, hb, Ft, hs, hD⟩ := hown
      exact ⟨es, clock, (Below.heap_alloc _ _ b hbl).trans hb, Ft, hs, hD⟩)
  exact AnyZ.sorted_in Tryz.sorted13 Fence.wide 5 trivial trivial trivial trivial rfl (by omega) (Tryz.sorts13 _) (enters_of Tryz.func31 (by kernel_rfl) rfl) 33 #[.pointer (some ⟨w.heap.size, 0, none⟩)] trivial (enters_of Tryz.func33 (by kernel_rfl) rfl) _ _ hmax hbytes _ hseq

open Go.RowKit Go.Maps Go.Sort in
set_option maxHeartbeats 1000000 in
theorem Tryz.slices_Sorted_keys_nil_13_14 (w : World) :
    CallsIn Fence.wide 5 Tryz.prog 13 #[.func (.func 33) #[] #[.pointer (some ⟨w.heap.size, 0, none⟩)]] (w.alloc (.cells #[.map none] 40)) fun e w' => ∃ (v : Value) (ss : List (List UInt8)), e = .returned v ∧ ss = [] ∧
      w'.ownsRow (w.alloc (.cells #[.map none] 40)).heap.size 9 1 v ss.length ((ss.mergeSort (fun x y => decide (x ≤ y))).map encStr) ∧ (v = .slice none 0 0 ↔ ss = []) ∧ Below (w.alloc (.cells #[.map none] 40)).heap.size (w.alloc (.cells #[.map none] 40)) w' := by
  have hseq : SeqGives Fence.wide 2 Tryz.prog 33 #[.pointer (some ⟨w.heap.size, 0, none⟩)] encStr (fun ss : List (List UInt8) => ss = []) 0 (w.alloc (.cells #[.map none] 40)) :=
    AnyZ.keys_gives_nil (ρ := Tryz.keys14_ren) { Tryz.keys14 with } Fence.wide _ trivial rfl w.heap.size _ (by simp) (by simp)
  exact AnyZ.sorted_in Tryz.sorted13 Fence.wide 5 trivial trivial trivial trivial rfl (by omega) (Tryz.sorts13 _) (enters_of Tryz.func31 (by kernel_rfl) rfl) 33 #[.pointer (some ⟨w.heap.size, 0, none⟩)] trivial (enters_of Tryz.func33 (by kernel_rfl) rfl) _ 0 (Nat.zero_le _) (by omega) _ hseq



end Go.Proofs
