/- What adding to, and setting, a counter, a counter of floats and a gauge does to memory, walked. -/
import Derived.Test.YtaphagdbekmngaaGreatDoorLog
import Derived.Test.YtaphagdbekmngaaGreatDoorHeap
namespace Go.Proofs.YtaphagdbekmngaaGreatDoor
open Go.RowKit

/-- What an update of a metric does: it returns nothing, and the world goes on as it may. -/
def Goes (cls : Cls) (w : World) (e : Ending) (w' : World) : Prop := e = .returned (.tuple #[]) ∧ ∃ cls', Evol cls w cls' w'

theorem counter_add (cls : Cls) (w : World) (b : Nat) (n : Int) (hT : Typed cls w) (hb : cls b = 84) :
    Calls Tryz.prog 20 #[.pointer (some ⟨b, 0, none⟩), .int .i64 n] w (Goes cls w) := by
  obtain ⟨x, hx⟩ := hT.counter hb
  have hf := hT.free (show cls b ≠ 0 by omega) 0
  have E : ∀ y, Evol cls w cls (w.setCell ⟨b, 0, none⟩ (.int .u64 y)) := fun y => (Evol.refl hT).counter b y hb
  have HE := Lib.hid E
  clear hT hb E
  go_enter Tryz.func20, Tryz.ntmps20
  go_wp2
  go_end0
  exact ⟨rfl, _, HE.out _⟩

theorem counter_set (cls : Cls) (w : World) (b : Nat) (n : Int) (hT : Typed cls w) (hb : cls b = 84) :
    Calls Tryz.prog 21 #[.pointer (some ⟨b, 0, none⟩), .int .u64 n] w (Goes cls w) := by
  obtain ⟨x, hx⟩ := hT.counter hb
  have hf := hT.free (show cls b ≠ 0 by omega) 0
  have E : ∀ y, Evol cls w cls (w.setCell ⟨b, 0, none⟩ (.int .u64 y)) := fun y => (Evol.refl hT).counter b y hb
  have HE := Lib.hid E
  clear hT hb E
  go_enter Tryz.func21, Tryz.ntmps21
  go_wp2
  go_end0
  exact ⟨rfl, _, HE.out _⟩

theorem store_float (w : World) (a : Addr) (k : FloatKind) (b : Nat) (m : Mode) : (store a (.float k b) m).run Tryz.prog w = stored Tryz.prog w a (.float k b) m := run_store Tryz.prog w a _ m rfl

/-- A sum of floats: some float comes; the world is as it was, or one answer has been drawn. -/
theorem add_run (x y : Nat) : (∃ r, ∀ w, (binOp .add 53 (.float .f64 x) (.float .f64 y)).run Tryz.prog w = .ok (.float .f64 r) w) ∨
    ∃ g : World → Nat, ∀ w, (binOp .add 53 (.float .f64 x) (.float .f64 y)).run Tryz.prog w = .ok (.float .f64 (g w)) w.drew := by
  cases h : floatBits .add .f64 x y with
  | some r => exact .inl ⟨r, fun w => run_float_arith w .add 53 .f64 x y r h⟩
  | none =>
    have h' : FloatKind.f64.format.add x y = none := h
    refine .inr ⟨fun w => (Question.nanBits .f64 x y).cut (w.tape w.drawn (.nanBits .f64 x y)), fun w => ?_⟩
    have hf : (Question.nanBits .f64 x y).forced = false := rfl
    simp [binOp, Op.floatArith, h', hf]

theorem fcounter_add (cls : Cls) (w : World) (b : Nat) (n : Nat) (hT : Typed cls w) (hb : cls b = 87) :
    Calls Tryz.prog 23 #[.pointer (some ⟨b, 0, none⟩), .float .f64 n] w (Goes cls w) := by
  obtain ⟨x, hx⟩ := hT.float hb
  have hf := hT.free (show cls b ≠ 0 by omega) 0
  have E : ∀ y, Evol cls w cls (w.setCell ⟨b, 0, none⟩ (.float .f64 y)) := fun y => (Evol.refl hT).float b y hb
  have HE := Lib.hid E
  clear hT hb E
  have hst := store_float
  rcases add_run x n with ⟨r, hr⟩ | ⟨g, hr⟩
  · go_enter Tryz.func23, Tryz.ntmps23
    go_wp2
    go_end0
    exact ⟨rfl, _, HE.out _⟩
  · go_enter Tryz.func23, Tryz.ntmps23
    go_wp2
    go_end0
    exact ⟨rfl, _, (HE.out _).drew⟩

theorem neq_nilFunc (w : World) : (binOp .neq 89 .nilFunc .nilFunc).run Tryz.prog w = .ok (.bool false) w := by kernel_rfl

set_option maxRecDepth 100000 in
theorem gauge_set (cls : Cls) (w : World) (b : Nat) (n : Nat) (hT : Typed cls w) (hb : cls b = 91) :
    Calls Tryz.prog 25 #[.pointer (some ⟨b, 0, none⟩), .float .f64 n] w (Goes cls w) := by
  obtain ⟨x, hx, hx1⟩ := hT.gauge hb
  have hf := hT.free (show cls b ≠ 0 by omega) 0
  have E : ∀ y, Evol cls w cls (w.setCell ⟨b, 0, none⟩ (.int .u64 y)) := fun y => (Evol.refl hT).gauge b y hb
  have HE := Lib.hid E
  clear hT hb E
  have hnn := neq_nilFunc
  go_enter Tryz.func25, Tryz.ntmps25
  go_wp2_with (first | (go_at_call 38; refine (bits_any _ _).mono ?_; rintro e w' ⟨rfl, rfl⟩))
  go_end0
  exact ⟨rfl, _, HE.out _⟩

set_option maxRecDepth 100000 in
theorem gauge_add (cls : Cls) (w : World) (b : Nat) (n : Nat) (hT : Typed cls w) (hb : cls b = 91) :
    Calls Tryz.prog 26 #[.pointer (some ⟨b, 0, none⟩), .float .f64 n] w (Goes cls w) := by
  obtain ⟨x, hx, hx1⟩ := hT.gauge hb
  have hf := hT.free (show cls b ≠ 0 by omega) 0
  have E : ∀ y, Evol cls w cls (w.setCell ⟨b, 0, none⟩ (.int .u64 y)) := fun y => (Evol.refl hT).gauge b y hb
  have HE := Lib.hid E
  clear hT hb E
  have hnn := neq_nilFunc
  rcases add_run x.toNat n with ⟨r, hr⟩ | ⟨g, hr⟩
  · go_enter Tryz.func26, Tryz.ntmps26
    go_wp2_with (first | (go_at_call 38; refine (bits_any _ _).mono ?_; rintro e w' ⟨rfl, rfl⟩) | (go_at_call 39; refine (frombits_any _ _).mono ?_; rintro e w' ⟨rfl, rfl⟩))
    go_end0
    exact ⟨rfl, _, HE.out _⟩
  · go_enter Tryz.func26, Tryz.ntmps26
    go_wp2_with (first | (go_at_call 38; refine (bits_any _ _).mono ?_; rintro e w' ⟨rfl, rfl⟩) | (go_at_call 39; refine (frombits_any _ _).mono ?_; rintro e w' ⟨rfl, rfl⟩))
    go_end0
    exact ⟨rfl, _, (HE.out _).drew⟩
end Go.Proofs.YtaphagdbekmngaaGreatDoor
