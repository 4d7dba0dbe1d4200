/-
  The three functions that measure: each returns a bool; zzBytes' true bounds the two lengths.
-/
import Derived.Test.Qxb6627756aBase
namespace Go.Proofs.Qxb6627756a
open Go.RowKit

/-- What a walk is told of a slice's cells: each of the n holds some string. -/
def Strs (w : World) (a : Option Addr) (n : Nat) : Prop := ∀ i, i < n → ∃ b off s, a = some ⟨b, off, none⟩ ∧ w.cell? ⟨b, off + i, none⟩ = some (.string s)

/-- It returns a bool; if true, then p. -/
def BoolIf (p : Prop) (e : Ending) : Prop := ∃ r, e = .returned (.bool r) ∧ (r = true → p)
theorem BoolIf.no {p : Prop} : BoolIf p (.returned (.bool false)) := ⟨false, rfl, fun h => by cases h⟩
theorem BoolIf.yes {p : Prop} (h : p) : BoolIf p (.returned (.bool true)) := ⟨true, rfl, fun _ => h⟩

theorem View.strs {w : World} {a : Option Addr} {n : Nat} {ss : List ByteArray} (h : View w a n ss) : Strs w a n := by
  obtain ⟨h1, h2⟩ := h
  intro i hi
  rcases h2 with h2 | ⟨b, off, h2, h3⟩
  · omega
  · exact ⟨b, off, _, h2, h3 i hi⟩

set_option maxHeartbeats 1600000 in
theorem size_any (a1 a2 : Option Addr) (n1 n2 c1 c2 : Nat) (w : World) (hm1 : n1 ≤ 1048576) (hm2 : n2 ≤ 1048576) (h1 : Strs w a1 n1) (h2 : Strs w a2 n2) :
    Calls Try.prog 6 #[.slice a1 n1 c1, .slice a2 n2 c2] w fun e w' => BoolIf True e ∧ w' = w := by
  go_enter Try.func6, Try.ntmps6
  go_wp2
  go_loop [5, 6] (fun t i => ∃ (k : Nat) (T : Int), (k : Int) ≤ n1 ∧ 0 ≤ T ∧ T ≤ 1048576 ∧ i = .int .i64 k ∧ t = .int .i64 T) (fun _ i => n1 - (intOf i).toNat)
  case atStart => exact ⟨0, 0, by omega, by omega, by omega, rfl, rfl⟩
  case round =>
    obtain ⟨k, T, hk, hT0, hT1, rfl, rfl⟩ := hrel
    by_cases hlt : k < n1
    · obtain ⟨b, off, s, rfl, hc⟩ := h1 k hlt
      clear h1 h2
      go_wp2
      · go_ret
        exact ⟨BoolIf.no, rfl⟩
      · go_ret
        exact ⟨BoolIf.no, rfl⟩
      · go_round
        case rel => exact ⟨k + 1, T + (16 + s.size), by omega, by omega, by omega, by go_num, by go_num⟩
        case measure => simp [intOf]; omega
    · clear h1
      go_wp2
      go_loop [5, 7] (fun t i => ∃ (k : Nat) (T : Int), (k : Int) ≤ n2 ∧ 0 ≤ T ∧ T ≤ 1048576 ∧ i = .int .i64 k ∧ t = .int .i64 T) (fun _ i => n2 - (intOf i).toNat)
      case atStart => exact ⟨0, T, by omega, by omega, by omega, rfl, rfl⟩
      case round =>
        obtain ⟨k, T, hk, hT0, hT1, rfl, rfl⟩ := hrel
        by_cases hlt : k < n2
        · obtain ⟨b, off, s, rfl, hc⟩ := h2 k hlt
          clear h2
          go_wp2
          · go_ret
            exact ⟨BoolIf.no, rfl⟩
          · go_ret
            exact ⟨BoolIf.no, rfl⟩
          · go_round
            case rel => exact ⟨k + 1, T + (16 + s.size), by omega, by omega, by omega, by go_num, by go_num⟩
            case measure => simp [intOf]; omega
        · clear h2
          go_wp2
          go_ret
          exact ⟨BoolIf.yes trivial, rfl⟩

set_option maxHeartbeats 1600000 in
theorem bytes_any5 (a1 a2 : Option Addr) (n1 n2 c1 c2 : Nat) (w : World) (hm1 : n1 ≤ 9223372036854775807) (hm2 : n2 ≤ 9223372036854775807) (h1 : Strs w a1 n1) (h2 : Strs w a2 n2) :
    Calls Try.prog 5 #[.slice a1 n1 c1, .slice a2 n2 c2] w fun e w' => BoolIf (n1 + n2 ≤ 1048576) e ∧ w' = w := by
  go_enter Try.func5, Try.ntmps5
  by_cases hs1 : n1 ≤ 1048576
  · go_wp2
    go_loop [5, 6] (fun t i => ∃ (k : Nat) (T : Int), (k : Int) ≤ n1 ∧ (n1 : Int) ≤ T ∧ T ≤ 1048576 ∧ i = .int .i64 k ∧ t = .int .i64 T) (fun _ i => n1 - (intOf i).toNat)
    case atStart => exact ⟨0, n1, by omega, by omega, by omega, rfl, rfl⟩
    case round =>
      obtain ⟨k, T, hk, hT0, hT1, rfl, rfl⟩ := hrel
      by_cases hlt : k < n1
      · obtain ⟨b, off, s, rfl, hc⟩ := h1 k hlt
        clear h1 h2
        go_wp2
        · go_ret
          exact ⟨BoolIf.no, rfl⟩
        · go_ret
          exact ⟨BoolIf.no, rfl⟩
        · go_round
          case rel => exact ⟨k + 1, T + s.size, by omega, by omega, by omega, by go_num, by go_num⟩
          case measure => simp [intOf]; omega
      · clear h1
        by_cases hs2 : n2 ≤ 1048576
        · go_wp2
          · go_ret
            exact ⟨BoolIf.no, rfl⟩
          · go_loop [5, 7] (fun t i => ∃ (k : Nat) (T : Int), (k : Int) ≤ n2 ∧ (n1 : Int) + n2 ≤ T ∧ T ≤ 1048576 ∧ i = .int .i64 k ∧ t = .int .i64 T) (fun _ i => n2 - (intOf i).toNat)
            case atStart => exact ⟨0, T + n2, by omega, by omega, by omega, rfl, rfl⟩
            case round =>
              obtain ⟨k, T, hk, hT0, hT1, rfl, rfl⟩ := hrel
              by_cases hlt : k < n2
              · obtain ⟨b, off, s, rfl, hc⟩ := h2 k hlt
                clear h2
                go_wp2
                · go_ret
                  exact ⟨BoolIf.no, rfl⟩
                · go_ret
                  exact ⟨BoolIf.no, rfl⟩
                · go_round
                  case rel => exact ⟨k + 1, T + s.size, by omega, by omega, by omega, by go_num, by go_num⟩
                  case measure => simp [intOf]; omega
              · clear h2
                go_wp2
                go_ret
                exact ⟨BoolIf.yes (by omega), rfl⟩
        · go_wp2
          go_ret
          exact ⟨BoolIf.no, rfl⟩
  · go_wp2
    go_ret
    exact ⟨BoolIf.no, rfl⟩

set_option maxHeartbeats 1600000 in
theorem bytes_any8 (a1 a2 : Option Addr) (n1 n2 c1 c2 : Nat) (w : World) (hm1 : n1 ≤ 9223372036854775807) (hm2 : n2 ≤ 9223372036854775807) (h1 : Strs w a1 n1) (h2 : Strs w a2 n2) :
    Calls Try.prog 8 #[.slice a1 n1 c1, .slice a2 n2 c2] w fun e w' => BoolIf (n1 + n2 ≤ 1048576) e ∧ w' = w := by
  go_enter Try.func8, Try.ntmps8
  by_cases hs1 : n1 ≤ 1048576
  · go_wp2
    go_loop [5, 6] (fun t i => ∃ (k : Nat) (T : Int), (k : Int) ≤ n1 ∧ (n1 : Int) ≤ T ∧ T ≤ 1048576 ∧ i = .int .i64 k ∧ t = .int .i64 T) (fun _ i => n1 - (intOf i).toNat)
    case atStart => exact ⟨0, n1, by omega, by omega, by omega, rfl, rfl⟩
    case round =>
      obtain ⟨k, T, hk, hT0, hT1, rfl, rfl⟩ := hrel
      by_cases hlt : k < n1
      · obtain ⟨b, off, s, rfl, hc⟩ := h1 k hlt
        clear h1 h2
        go_wp2
        · go_ret
          exact ⟨BoolIf.no, rfl⟩
        · go_ret
          exact ⟨BoolIf.no, rfl⟩
        · go_round
          case rel => exact ⟨k + 1, T + s.size, by omega, by omega, by omega, by go_num, by go_num⟩
          case measure => simp [intOf]; omega
      · clear h1
        by_cases hs2 : n2 ≤ 1048576
        · go_wp2
          · go_ret
            exact ⟨BoolIf.no, rfl⟩
          · go_loop [5, 7] (fun t i => ∃ (k : Nat) (T : Int), (k : Int) ≤ n2 ∧ (n1 : Int) + n2 ≤ T ∧ T ≤ 1048576 ∧ i = .int .i64 k ∧ t = .int .i64 T) (fun _ i => n2 - (intOf i).toNat)
            case atStart => exact ⟨0, T + n2, by omega, by omega, by omega, rfl, rfl⟩
            case round =>
              obtain ⟨k, T, hk, hT0, hT1, rfl, rfl⟩ := hrel
              by_cases hlt : k < n2
              · obtain ⟨b, off, s, rfl, hc⟩ := h2 k hlt
                clear h2
                go_wp2
                · go_ret
                  exact ⟨BoolIf.no, rfl⟩
                · go_ret
                  exact ⟨BoolIf.no, rfl⟩
                · go_round
                  case rel => exact ⟨k + 1, T + s.size, by omega, by omega, by omega, by go_num, by go_num⟩
                  case measure => simp [intOf]; omega
              · clear h2
                go_wp2
                go_ret
                exact ⟨BoolIf.yes (by omega), rfl⟩
        · go_wp2
          go_ret
          exact ⟨BoolIf.no, rfl⟩
  · go_wp2
    go_ret
    exact ⟨BoolIf.no, rfl⟩

end Go.Proofs.Qxb6627756a
