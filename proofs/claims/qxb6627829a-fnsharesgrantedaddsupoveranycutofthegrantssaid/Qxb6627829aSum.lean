/-
  zzSum128, zzSignMag, Sign, Bits and the size guards.
-/
import Derived.Test.Qxb6627829aGranted
namespace Go.Proofs.Qxb6627829a
open Go.RowKit

/-- T as a 128-bit two's complement number. -/
def SumIs (H L T : Int) : Prop := L = T % 18446744073709551616 ∧ H = (T / 18446744073709551616) % 18446744073709551616
theorem SumIs.word {H L T : Int} (h : SumIs H L T) : 0 ≤ H ∧ H ≤ 18446744073709551615 ∧ 0 ≤ L ∧ L ≤ 18446744073709551615 := by
  obtain ⟨h1, h2⟩ := h; omega
theorem sum_yes {H L T z : Int} (h : SumIs H L T) (h1 : -9223372036854775808 ≤ z) (h2 : z ≤ 9223372036854775807) (hlt : IntKind.u64.wrap (L + IntKind.u64.wrap z) < L) :
    SumIs (IntKind.u64.wrap (IntKind.u64.wrap (H + IntKind.u64.wrap (z / 9223372036854775808)) + 1)) (IntKind.u64.wrap (L + IntKind.u64.wrap z)) (T + z) := by
  obtain ⟨e1, e2⟩ := h
  simp only [IntKind.wrap_u64] at *
  constructor <;> omega
theorem sum_no {H L T z : Int} (h : SumIs H L T) (h1 : -9223372036854775808 ≤ z) (h2 : z ≤ 9223372036854775807) (hlt : L ≤ IntKind.u64.wrap (L + IntKind.u64.wrap z)) :
    SumIs (IntKind.u64.wrap (IntKind.u64.wrap (H + IntKind.u64.wrap (z / 9223372036854775808)))) (IntKind.u64.wrap (L + IntKind.u64.wrap z)) (T + z) := by
  obtain ⟨e1, e2⟩ := h
  simp only [IntKind.wrap_u64] at *
  constructor <;> omega

def PairIf (p : Int → Int → Prop) (e : Ending) : Prop := ∃ H L, e = .returned (.tuple #[.int .u64 H, .int .u64 L]) ∧ p H L

set_option maxHeartbeats 3200000 in
theorem sum_any (a : Option Addr) (n c : Nat) (rows : List (List Int)) (w : World) {B : Nat} (hv : MV B w a n rows) (hs : Small rows) :
    Calls Try.prog 8 #[.slice a n c] w fun e w' => PairIf (fun H L => SumIs H L (tsum rows n)) e ∧ w' = w := by
  have HV : Hid (MV B w a n rows) := hv
  have HSM : Hid (Small rows) := hs
  have hn : n ≤ 65536 := by have := hs.1; have := hv.1; omega
  clear hv hs
  go_enter Try.func8, Try.ntmps8
  go_wp2
  go_loop [4, 5, 6] (fun v4 v5 v6 => ∃ (k : Nat) (H L : Int), (k : Int) ≤ n ∧ v4 = .int .u64 H ∧ v5 = .int .u64 L ∧ v6 = .int .i64 k ∧ Hid (SumIs H L (tsum rows k))) (fun _ _ v6 => n - (intOf v6).toNat)
  case atStart => exact ⟨0, 0, 0, by omega, rfl, rfl, rfl, ⟨rfl, rfl⟩⟩
  case round =>
    obtain ⟨k, H, L, hk, rfl, rfl, rfl, HS⟩ := hrel
    by_cases hlt : k < n
    · obtain ⟨b, off, rfl, ra, rc, zs, ezs, hcell, hrow⟩ : ∃ b off, a = some ⟨b, off, none⟩ ∧ ∃ ra rc zs, zs = rows.getD k [] ∧ w.cell? ⟨b, off + k, none⟩ = some (.slice ra zs.length rc) ∧
          (zs.length = 0 ∨ ∃ b off, ra = some ⟨b, off, none⟩ ∧ b < B ∧ ∀ j, j < zs.length → w.cell? ⟨b, off + j, none⟩ = some (.int .i64 (zs.getD j 0))) := by
        rcases HV.out.2 with h | ⟨b, off, h, hb, h2⟩
        · omega
        · obtain ⟨v, g1, ra, rc, g2, g3, g4⟩ := h2 k hlt
          exact ⟨b, off, h, ra, rc, _, rfl, by rw [← g2]; exact g1, g4⟩
      have EZ : Hid (zs = rows.getD k []) := ezs
      have hll : zs.length ≤ 131072 := by rw [ezs]; exact HSM.out.2.1 k
      have HBD : Hid (∀ j, -9223372036854775808 ≤ zs.getD j 0 ∧ zs.getD j 0 ≤ 9223372036854775807) := by unfold Hid; rw [ezs]; exact HSM.out.2.2 k
      have HRW : Hid (zs.length = 0 ∨ ∃ b off, ra = some ⟨b, off, none⟩ ∧ b < B ∧ ∀ j, j < zs.length → w.cell? ⟨b, off + j, none⟩ = some (.int .i64 (zs.getD j 0))) := hrow
      clear ezs hrow
      obtain ⟨N, hN⟩ : ∃ N, N = zs.length := ⟨_, rfl⟩
      rw [← hN] at hcell hll HRW
      have EN : Hid (N = zs.length) := hN
      clear hN
      have HS0 : Hid (SumIs H L (tsum rows k + rsum zs 0)) := by unfold Hid; rw [show rsum zs 0 = 0 from rfl, Int.add_zero]; exact HS.out
      have hki : (k : Int) < (n : Int) := by omega
      clear HS
      go_wp2
      go_loop [4, 5, 8] (fun v4 v5 v8 => ∃ (j : Nat) (H L : Int), (j : Int) ≤ N ∧ v4 = .int .u64 H ∧ v5 = .int .u64 L ∧ v8 = .int .i64 j ∧ Hid (SumIs H L (tsum rows k + rsum zs j))) (fun _ _ v8 => N - (intOf v8).toNat)
      case atStart => exact ⟨0, H, L, by omega, rfl, rfl, rfl, HS0⟩
      case round =>
        clear HS0 hcell
        obtain ⟨j, H, L, hj, rfl, rfl, rfl, HS⟩ := hrel
        by_cases hjl : j < N
        · obtain ⟨b2, off2, rfl, hc2⟩ : ∃ b2 off2, ra = some ⟨b2, off2, none⟩ ∧ w.cell? ⟨b2, off2 + j, none⟩ = some (.int .i64 (zs.getD j 0)) := by
            rcases HRW.out with h | ⟨b2, off2, h, h1, h2⟩
            · omega
            · exact ⟨b2, off2, h, h2 j hjl⟩
          obtain ⟨z, ez⟩ : ∃ z, z = zs.getD j 0 := ⟨_, rfl⟩
          rw [← ez] at hc2
          have hzb := HBD.out j
          rw [← ez] at hzb
          have EZJ : Hid (rsum zs (j + 1) = rsum zs j + z) := by unfold Hid; rw [ez]; exact rsum_succ zs j (by rw [← EN.out]; exact hjl)
          have HZB : Hid (-9223372036854775808 ≤ z ∧ z ≤ 9223372036854775807) := hzb
          clear ez hzb
          have hji : (j : Int) < (N : Int) := by omega
          go_wp2
          · go_round
            case rel => exact ⟨j + 1, _, _, by omega, rfl, rfl, by go_num, by unfold Hid; rw [EZJ.out, ← Int.add_assoc]; exact sum_yes HS.out HZB.out.1 HZB.out.2 (by assumption)⟩
            case measure => simp [intOf]; omega
          · go_round
            case rel => exact ⟨j + 1, _, _, by omega, rfl, rfl, by go_num, by unfold Hid; rw [EZJ.out, ← Int.add_assoc]; exact sum_no HS.out HZB.out.1 HZB.out.2 (by first | assumption | omega)⟩
            case measure => simp [intOf]; omega
        · obtain rfl : j = N := by omega
          have HNX : Hid (SumIs H L (tsum rows (k + 1))) := by
            unfold Hid
            rw [tsum_succ rows k (by rw [HV.out.1]; exact hlt), ← EZ.out, ← EN.out]
            exact HS.out
          clear HS
          go_wp2
          go_round
          case rel => exact ⟨k + 1, H, L, by omega, rfl, rfl, by go_num, HNX⟩
          case measure => simp [intOf]; omega
    · obtain rfl : k = n := by omega
      go_wp2
      go_ret2
      exact ⟨⟨H, L, rfl, HS.out⟩, rfl⟩

end Go.Proofs.Qxb6627829a
