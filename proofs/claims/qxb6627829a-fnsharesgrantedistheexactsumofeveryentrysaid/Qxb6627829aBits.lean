/-
  math/bits.Add and Sub over words; what the model answers for Add64 and Sub64, said over Int.
-/
import Derived.Test.Qxb6627829aRows
import Derived.WalkKit
import Derived.WalkSpells
import Derived.WalkLawsBesides
import Derived.Handy
import Derived.Laws.Twins
import Derived.Shelf.Spec.BitsCarry
namespace Go.Proofs.Qxb6627829a
open Go.RowKit

theorem add64 (x y c : Int) (hx : 0 ≤ x) (hy : 0 ≤ y) (hc0 : 0 ≤ c) (hc : c ≤ 1) (w : World) : (callFunc 35 #[.int .u64 x, .int .u64 y, .int .u64 c]).run Try.prog w =
    .ok (.value (.tuple #[.int .u64 ((x + y + c) % 18446744073709551616), .int .u64 ((x + y + c) / 18446744073709551616)])) w := by
  obtain ⟨x, rfl⟩ := Int.eq_ofNat_of_zero_le hx
  obtain ⟨y, rfl⟩ := Int.eq_ofNat_of_zero_le hy
  obtain ⟨c, rfl⟩ := Int.eq_ofNat_of_zero_le hc0
  rw [run_callFunc_extern Try.func35 (by kernel_rfl) (by kernel_rfl) (by kernel_rfl) (e := add64Entry) (by kernel_rfl), run_add64 x y c (by omega) (by omega) (by omega) (by omega)]
  simp only [Result.andThen]

/-- The borrow. -/
def bor (x y : Int) : Int := if x < y then 1 else 0
theorem bor_01 (x y : Int) : 0 ≤ bor x y ∧ bor x y ≤ 1 := by unfold bor; split <;> omega

theorem sub64 (x y b : Int) (hx : 0 ≤ x) (hy : 0 ≤ y) (hy' : y < 18446744073709551616) (hb0 : 0 ≤ b) (hb : b ≤ 1) (w : World) : (callFunc 37 #[.int .u64 x, .int .u64 y, .int .u64 b]).run Try.prog w =
    .ok (.value (.tuple #[.int .u64 ((x - y - b) % 18446744073709551616), .int .u64 (bor x (y + b))])) w := by
  obtain ⟨x, rfl⟩ := Int.eq_ofNat_of_zero_le hx
  obtain ⟨y, rfl⟩ := Int.eq_ofNat_of_zero_le hy
  obtain ⟨b, rfl⟩ := Int.eq_ofNat_of_zero_le hb0
  have e1 : (((x + 18446744073709551616 - y - b) % 18446744073709551616 : Nat) : Int) = ((x : Int) - y - b) % 18446744073709551616 := by omega
  have e2 : ((if x < y + b then 1 else 0 : Nat) : Int) = bor (x : Int) (y + b) := by unfold bor; split <;> split <;> omega
  rw [← e1, ← e2]
  rw [run_callFunc_extern Try.func37 (by kernel_rfl) (by kernel_rfl) (by kernel_rfl) (e := sub64Entry) (by kernel_rfl), run_sub64 x y b (by omega)]
  rfl

/-- The low and the high word of a sum, under names. -/
def lo (x : Int) : Int := x % 18446744073709551616
def hi (x : Int) : Int := x / 18446744073709551616
theorem lo_word (x : Int) : 0 ≤ lo x ∧ lo x ≤ 18446744073709551615 := by unfold lo; omega

set_option maxHeartbeats 400000 in
theorem add_any (x y c : Int) (hx : 0 ≤ x) (hy : 0 ≤ y) (hc0 : 0 ≤ c) (hc : c ≤ 1) (w : World) :
    Calls Try.prog 30 #[.int .u64 x, .int .u64 y, .int .u64 c] w fun e w' => e = .returned (.tuple #[.int .u64 (lo (x + y + c)), .int .u64 (hi (x + y + c))]) ∧ w' = w := by
  have h : ∀ w : World, (callFunc 35 #[.int .u64 x, .int .u64 y, .int .u64 c]).run Try.prog w = .ok (.value (.tuple #[.int .u64 (lo (x + y + c)), .int .u64 (hi (x + y + c))])) w := add64 x y c hx hy hc0 hc
  go_enter Try.func30, Try.ntmps30
  go_wp2
  go_ret2
  exact ⟨rfl, rfl⟩

set_option maxHeartbeats 400000 in
theorem sub_any (x y c : Int) (hx : 0 ≤ x) (hy : 0 ≤ y) (hy' : y ≤ 18446744073709551615) (hc0 : 0 ≤ c) (hc : c ≤ 1) (w : World) :
    Calls Try.prog 33 #[.int .u64 x, .int .u64 y, .int .u64 c] w fun e w' => e = .returned (.tuple #[.int .u64 (lo (x - y - c)), .int .u64 (bor x (y + c))]) ∧ w' = w := by
  have h : ∀ w : World, (callFunc 37 #[.int .u64 x, .int .u64 y, .int .u64 c]).run Try.prog w = .ok (.value (.tuple #[.int .u64 (lo (x - y - c)), .int .u64 (bor x (y + c))])) w := sub64 x y c hx hy (by omega) hc0 hc
  go_enter Try.func33, Try.ntmps33
  go_wp2
  go_ret2
  exact ⟨rfl, rfl⟩

theorem addVV_enters (args : Array Value) (w : World) : (callFunc 27 args).run Try.prog w = .ok (.enter 16 args) w :=
  run_callFunc_twin (twin := Try.f16.name) Try.func27 (by kernel_rfl) (by kernel_rfl) (by kernel_rfl) (by kernel_rfl) Try.func16 (by kernel_rfl) (by kernel_rfl) (by kernel_rfl) args w
theorem subVV_enters (args : Array Value) (w : World) : (callFunc 31 args).run Try.prog w = .ok (.enter 17 args) w :=
  run_callFunc_twin (twin := Try.f17.name) Try.func31 (by kernel_rfl) (by kernel_rfl) (by kernel_rfl) (by kernel_rfl) Try.func17 (by kernel_rfl) (by kernel_rfl) (by kernel_rfl) args w

end Go.Proofs.Qxb6627829a
