/-
  The walk of brackets with Prune's closure.
-/
import Derived.Test.Qxb6627783aClosure
namespace Go.Proofs.Qxb6627783a
open Go.RowKit

/-- Where brackets stands: place k, level l. -/
def BR (d : Int) (zs : List Int) (n k l : Nat) (f : Int) (xs : List Int) : Prop := (k ≤ n → S zs k = ⟨l, false, false⟩) ∧ PR d zs (min k n) l f xs ∧ l ≤ n

theorem BR.start (d : Int) (zs : List Int) (n : Nat) : BR d zs n 0 0 0 [] := ⟨fun _ => rfl, by rw [Nat.zero_min]; exact PR_start d zs, Nat.zero_le _⟩
theorem PR_xs {d : Int} {zs : List Int} {j l : Nat} {f : Int} {xs : List Int} (h : PR d zs j l f xs) (hj : j ≤ zs.length) : xs.length ≤ j := by
  have hM := M_len d zs j hj
  rcases h with ⟨g, _, _, h3, _⟩ | ⟨_, h2, _⟩
  · rw [h3] at hM; simp at hM; omega
  · rw [h2] at hM; exact hM
theorem BR.xs {d : Int} {zs : List Int} {n k l : Nat} {f : Int} {xs : List Int} (h : BR d zs n k l f xs) (hz : zs.length = n) : xs.length ≤ n := by
  have := PR_xs h.2.1 (by omega)
  omega
theorem BR.str {d : Int} {zs : List Int} {n k l E : Nat} {f : Int} {xs : List Int} (h : BR d zs n k l f xs) (hz : zs.length = n) (hk : k < n) (h2 : zs.getD k 0 = 34) (hE : StrEnd zs k E l) : BR d zs n E l f xs := by
  have hs := h.1 (by omega)
  have hp := h.2.1
  rw [Nat.min_eq_left (by omega)] at hp
  subst hz
  exact ⟨hE.2.2.2, PR_str hp hk hs h2 hE, h.2.2⟩
theorem BR.other {d : Int} {zs : List Int} {n k l : Nat} {f : Int} {xs : List Int} (h : BR d zs n k l f xs) (hz : zs.length = n) (hk : k < n) (h1 : ¬ zs.getD k 0 = 34) (h2 : isOpen (zs.getD k 0) = false) (h3 : ¬ (isShut (zs.getD k 0) = true ∧ 0 < l)) : BR d zs n (k + 1) l f xs := by
  have hs := h.1 (by omega)
  have hp := h.2.1
  rw [Nat.min_eq_left (by omega)] at hp
  subst hz
  refine ⟨fun _ => ?_, by rw [Nat.min_eq_left (by omega)]; exact PR_other hp hk hs h2 h3, h.2.2⟩
  rw [S_succ zs k hk, hs]
  unfold nx
  rw [if_neg (by simp), if_neg h1, if_neg (by rw [h2]; simp), if_neg h3]
theorem BR.open {d : Int} {zs : List Int} {n k l : Nat} {f : Int} {xs : List Int} (hd : -9223372036854775808 ≤ d ∧ d ≤ 9223372036854775807) (hn : n ≤ 1048576) (h : BR d zs n k l f xs) (hz : zs.length = n) (hk : k < n) (h1 : ¬ zs.getD k 0 = 34) (h2 : isOpen (zs.getD k 0) = true) :
    BR d zs n (k + 1) (l + 1) (evF d zs k ((l : Int) + 1) f) (evX d zs k ((l : Int) + 1) f xs) ∧ ((l : Int) + 1 = wrap64 (d + 1) → 0 ≤ f ∧ f ≤ k) := by
  have hs := h.1 (by omega)
  have hp := h.2.1
  rw [Nat.min_eq_left (by omega)] at hp
  subst hz
  have hS : S zs (k + 1) = ⟨l + 1, false, false⟩ := by
    rw [S_succ zs k hk, hs]
    unfold nx
    rw [if_neg (by simp), if_neg h1, if_pos h2]
  have hl := S_lv zs (k + 1) hk
  rw [hS] at hl
  exact ⟨⟨fun _ => hS, by rw [Nat.min_eq_left (by omega)]; exact PR_open hd hn hp hk hs h2, by simp at hl; omega⟩, PR_copy hd hn hp hk hs⟩
theorem BR.shut {d : Int} {zs : List Int} {n k l : Nat} {f : Int} {xs : List Int} (hd : -9223372036854775808 ≤ d ∧ d ≤ 9223372036854775807) (hn : n ≤ 1048576) (h : BR d zs n k l f xs) (hz : zs.length = n) (hk : k < n) (h1 : ¬ zs.getD k 0 = 34) (h2 : isOpen (zs.getD k 0) = false) (h3 : isShut (zs.getD k 0) = true) (h4 : 0 < l) :
    BR d zs n (k + 1) (l - 1) (evF d zs k (l : Int) f) (evX d zs k (l : Int) f xs) := by
  have hs := h.1 (by omega)
  have hp := h.2.1
  rw [Nat.min_eq_left (by omega)] at hp
  subst hz
  refine ⟨fun _ => ?_, by rw [Nat.min_eq_left (by omega)]; exact PR_shut hd hn hp hk hs h1 h2 h3 h4, by have := h.2.2; omega⟩
  rw [S_succ zs k hk, hs]
  unfold nx
  rw [if_neg (by simp), if_neg h1, if_neg (by rw [h2]; simp), if_pos ⟨h3, h4⟩]

set_option maxHeartbeats 3200000 in
set_option maxRecDepth 100000 in
theorem brackets_any (B b off n c : Nat) (d : Int) (zs : List Int) (w w0 : World) (hn : n ≤ 1048576) (hnc : n ≤ c) (hd : -9223372036854775808 ≤ d ∧ d ≤ 9223372036854775807) (hz : zs.length = n) (hr : ∀ i, 0 ≤ zs.getD i 0 ∧ zs.getD i 0 ≤ 255)
    (hI : Inv B w0 w (some ⟨b, off, none⟩) n c d 0 []) (hbB : b < B) (hcs : ∀ i, i < n → w0.cell? ⟨b, off + i, none⟩ = some (.int .u8 (zs.getD i 0))) :
    Calls Try.prog 11 #[.slice (some ⟨b, off, none⟩) n c, .func (.func 12) #[] #[.pointer (some ⟨B, 0, none⟩), .pointer (some ⟨B + 1, 0, none⟩), .pointer (some ⟨B + 2, 0, none⟩), .pointer (some ⟨B + 3, 0, none⟩)]] w
      fun e w' => e = .returned (.tuple #[]) ∧ ∃ l f xs, Inv B w0 w' (some ⟨b, off, none⟩) n c d f xs ∧ PR d zs n l f xs := by
  have HC : Hid (∀ i, i < n → w0.cell? ⟨b, off + i, none⟩ = some (.int .u8 (zs.getD i 0))) := hcs
  have HR : Hid (∀ i, 0 ≤ zs.getD i 0 ∧ zs.getD i 0 ≤ 255) := hr
  have HZ : Hid (zs.length = n) := hz
  have HI : Hid (Inv B w0 w (some ⟨b, off, none⟩) n c d 0 []) := hI
  have HD : Hid (-9223372036854775808 ≤ d ∧ d ≤ 9223372036854775807) := hd
  clear hcs hr hz hI hd
  go_enter Try.func11, Try.ntmps11
  go_wp2
  go_loopw [4, 5] (fun v4 v5 wr => ∃ (k l : Nat) (f : Int) (xs : List Int), (k : Int) ≤ n + 2 ∧ v4 = .int .i64 l ∧ v5 = .int .i64 k ∧ Hid (Inv B w0 wr (some ⟨b, off, none⟩) n c d f xs) ∧ Hid (BR d zs n k l f xs)) (fun _ v5 _ => n + 2 - (intOf v5).toNat)
  case atStart => exact ⟨0, 0, 0, [], by omega, rfl, rfl, HI, BR.start d zs n⟩
  case round =>
    obtain ⟨k, l, f, xs, hk, rfl, rfl, HJ, HB⟩ := hrel
    have hln := HB.out.2.2
    by_cases hlt : k < n
    · obtain ⟨z, ez⟩ : ∃ z, z = zs.getD k 0 := ⟨_, rfl⟩
      have hc : wr.cell? ⟨b, off + k, none⟩ = some (.int .u8 z) := by rw [ez]; exact (HJ.out.bel.cell (p := ⟨b, off + k, none⟩) hbB).trans (HC.out k hlt)
      obtain ⟨z0, z1⟩ := HR.out k
      rw [← ez] at z0 z1
      have EZ : Hid (z = zs.getD k 0) := ez
      have hki : (k : Int) < (n : Int) := by omega
      clear ez HI
      rcases kindsF z with hz | hz | hz | hz | hz | hz
      · have b34 : (z == 34) = true := by simp [hz]
        have HQ : Hid (zs.getD k 0 = 34) := by unfold Hid; rw [← EZ.out]; exact hz
        clear hz
        go_wp2_with fail
        refine (stringEnd_any b off n c k l zs wr hn HZ.out HR.out (fun j hj => (HJ.out.bel.cell (p := ⟨b, off + j, none⟩) hbB).trans (HC.out j hj)) hlt (HB.out.1 (by omega)) HQ.out).mono ?_
        rintro e w1 ⟨⟨E, q, rfl, hE⟩, hw⟩
        obtain rfl := hw.symm
        have HE : Hid (BR d zs n E l f xs) := HB.out.str HZ.out hlt HQ.out hE
        have hE1 : k < E := hE.1
        have hE2 : E ≤ n + 2 := by have := hE.2.1; rw [HZ.out] at this; exact this
        clear hE hw
        go_wp2
        go_roundw
        case rel => exact ⟨E, l, _, _, by omega, rfl, by go_num, HJ, HE⟩
        case measure => simp [intOf]; omega
      · have b34 : (z == 34) = false := by simp [hz]
        have b123 : (z == 123) = true := by simp [hz]
        have HQ : Hid (BR d zs n (k + 1) (l + 1) (evF d zs k ((l : Int) + 1) f) (evX d zs k ((l : Int) + 1) f xs) ∧ ((l : Int) + 1 = wrap64 (d + 1) → 0 ≤ f ∧ f ≤ k)) :=
          BR.open HD.out hn HB.out HZ.out hlt (by rw [← EZ.out, hz]; decide) (by rw [← EZ.out, hz]; decide)
        have HX : Hid (xs.length ≤ n) := HB.out.xs HZ.out
        clear hz
        go_wp2_with fail
        refine (closure_any B b off n c k d ((l : Int) + 1) f xs zs wr w0 hlt hn hnc (Nat.le_trans HX.out hn) HZ.out HJ.out hbB HC.out (fun h _ => HQ.out.2 h)).mono ?_
        rintro e w1 ⟨rfl, hJ1⟩
        have HJ1 : Hid _ := hJ1
        clear hJ1
        go_wp2
        go_roundw
        case rel => exact ⟨k + 1, l + 1, _, _, by omega, by go_num, by go_num, HJ1, HQ.out.1⟩
        case measure => simp [intOf]; omega
      · have b34 : (z == 34) = false := by simp [hz]
        have b123 : (z == 123) = false := by simp [hz]
        have b91 : (z == 91) = true := by simp [hz]
        have HQ : Hid (BR d zs n (k + 1) (l + 1) (evF d zs k ((l : Int) + 1) f) (evX d zs k ((l : Int) + 1) f xs) ∧ ((l : Int) + 1 = wrap64 (d + 1) → 0 ≤ f ∧ f ≤ k)) :=
          BR.open HD.out hn HB.out HZ.out hlt (by rw [← EZ.out, hz]; decide) (by rw [← EZ.out, hz]; decide)
        have HX : Hid (xs.length ≤ n) := HB.out.xs HZ.out
        clear hz
        go_wp2_with fail
        refine (closure_any B b off n c k d ((l : Int) + 1) f xs zs wr w0 hlt hn hnc (Nat.le_trans HX.out hn) HZ.out HJ.out hbB HC.out (fun h _ => HQ.out.2 h)).mono ?_
        rintro e w1 ⟨rfl, hJ1⟩
        have HJ1 : Hid _ := hJ1
        clear hJ1
        go_wp2
        go_roundw
        case rel => exact ⟨k + 1, l + 1, _, _, by omega, by go_num, by go_num, HJ1, HQ.out.1⟩
        case measure => simp [intOf]; omega
      · have b34 : (z == 34) = false := by simp [hz]
        have b123 : (z == 123) = false := by simp [hz]
        have b91 : (z == 91) = false := by simp [hz]
        have b125 : (z == 125) = true := by simp [hz]
        have HX : Hid (xs.length ≤ n) := HB.out.xs HZ.out
        by_cases hl0 : 0 < l
        · have HQ : Hid (BR d zs n (k + 1) (l - 1) (evF d zs k (l : Int) f) (evX d zs k (l : Int) f xs)) :=
            BR.shut HD.out hn HB.out HZ.out hlt (by rw [← EZ.out, hz]; decide) (by rw [← EZ.out, hz]; decide) (by rw [← EZ.out, hz]; decide) hl0
          have HO : Hid (isOpen (zs.getD k 0) = false) := by unfold Hid; rw [← EZ.out, hz]; decide
          have hl0' : (0 : Int) < (l : Int) := by omega
          clear hz
          go_wp2_with fail
          refine (closure_any B b off n c k d (l : Int) f xs zs wr w0 hlt hn hnc (Nat.le_trans HX.out hn) HZ.out HJ.out hbB HC.out (fun _ h => by rw [HO.out] at h; cases h)).mono ?_
          rintro e w1 ⟨rfl, hJ1⟩
          have HJ1 : Hid _ := hJ1
          clear hJ1
          go_wp2
          go_roundw
          case rel => exact ⟨k + 1, l - 1, _, _, by omega, by go_num, by go_num, HJ1, HQ⟩
          case measure => simp [intOf]; omega
        · have HQ : Hid (BR d zs n (k + 1) l f xs) := BR.other HB.out HZ.out hlt (by rw [← EZ.out, hz]; decide) (by rw [← EZ.out, hz]; decide) (fun h => hl0 h.2)
          clear hz
          go_wp2
          go_roundw
          case rel => exact ⟨k + 1, l, _, _, by omega, rfl, by go_num, HJ, HQ⟩
          case measure => simp [intOf]; omega
      · have b34 : (z == 34) = false := by simp [hz]
        have b123 : (z == 123) = false := by simp [hz]
        have b91 : (z == 91) = false := by simp [hz]
        have b125 : (z == 125) = false := by simp [hz]
        have b93 : (z == 93) = true := by simp [hz]
        have HX : Hid (xs.length ≤ n) := HB.out.xs HZ.out
        by_cases hl0 : 0 < l
        · have HQ : Hid (BR d zs n (k + 1) (l - 1) (evF d zs k (l : Int) f) (evX d zs k (l : Int) f xs)) :=
            BR.shut HD.out hn HB.out HZ.out hlt (by rw [← EZ.out, hz]; decide) (by rw [← EZ.out, hz]; decide) (by rw [← EZ.out, hz]; decide) hl0
          have HO : Hid (isOpen (zs.getD k 0) = false) := by unfold Hid; rw [← EZ.out, hz]; decide
          have hl0' : (0 : Int) < (l : Int) := by omega
          clear hz
          go_wp2_with fail
          refine (closure_any B b off n c k d (l : Int) f xs zs wr w0 hlt hn hnc (Nat.le_trans HX.out hn) HZ.out HJ.out hbB HC.out (fun _ h => by rw [HO.out] at h; cases h)).mono ?_
          rintro e w1 ⟨rfl, hJ1⟩
          have HJ1 : Hid _ := hJ1
          clear hJ1
          go_wp2
          go_roundw
          case rel => exact ⟨k + 1, l - 1, _, _, by omega, by go_num, by go_num, HJ1, HQ⟩
          case measure => simp [intOf]; omega
        · have HQ : Hid (BR d zs n (k + 1) l f xs) := BR.other HB.out HZ.out hlt (by rw [← EZ.out, hz]; decide) (by rw [← EZ.out, hz]; decide) (fun h => hl0 h.2)
          clear hz
          go_wp2
          go_roundw
          case rel => exact ⟨k + 1, l, _, _, by omega, rfl, by go_num, HJ, HQ⟩
          case measure => simp [intOf]; omega
      · have b34 : (z == 34) = false := by simp [hz]
        have b123 : (z == 123) = false := by simp [hz]
        have b91 : (z == 91) = false := by simp [hz]
        have b125 : (z == 125) = false := by simp [hz]
        have b93 : (z == 93) = false := by simp [hz]
        have HQ : Hid (BR d zs n (k + 1) l f xs) := BR.other HB.out HZ.out hlt (by rw [← EZ.out]; exact hz.1) (by rw [← EZ.out]; simp [isOpen, hz]) (fun h => by rw [← EZ.out] at h; simp [isShut, hz] at h)
        clear hz
        go_wp2
        go_roundw
        case rel => exact ⟨k + 1, l, _, _, by omega, rfl, by go_num, HJ, HQ⟩
        case measure => simp [intOf]; omega
    · go_wp2
      go_end0
      refine ⟨rfl, l, f, xs, HJ.out, ?_⟩
      have := HB.out.2.1
      rw [Nat.min_eq_right (by omega)] at this
      exact this

end Go.Proofs.Qxb6627783a
