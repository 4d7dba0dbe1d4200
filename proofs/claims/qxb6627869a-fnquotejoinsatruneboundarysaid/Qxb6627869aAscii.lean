/-
  zzPrintableASCII and zzQuoteASCII.
-/
import Derived.Test.Qxb6627869aModel
set_option linter.unusedVariables false
namespace Go.Proofs.Qxb6627869a
open Go.RowKit

def Printable (s : ByteArray) : Prop := ∀ j, j < s.size → 32 ≤ byteAt s j ∧ byteAt s j ≤ 126

/-- It returns a bool; if true, then p. -/
def BoolIf (p : Prop) (e : Ending) : Prop := ∃ r, e = .returned (.bool r) ∧ (r = true → p)
theorem BoolIf.no {p : Prop} : BoolIf p (.returned (.bool false)) := ⟨false, rfl, fun h => by cases h⟩
theorem BoolIf.yes {p : Prop} (h : p) : BoolIf p (.returned (.bool true)) := ⟨true, rfl, fun _ => h⟩

set_option maxHeartbeats 1600000 in
theorem printable_any (s : ByteArray) (w : World) (hs : s.size ≤ 1048576) :
    Calls Try.prog 9 #[.string s] w fun e w' => BoolIf (Printable s) e ∧ w' = w := by
  go_enter Try.func9, Try.ntmps9
  go_wp2
  go_loop [3] (fun v3 => ∃ k : Nat, k ≤ s.size ∧ v3 = .int .i64 k ∧ Hid (∀ j, j < k → 32 ≤ byteAt s j ∧ byteAt s j ≤ 126)) (fun v3 => s.size - (intOf v3).toNat)
  case atStart => exact ⟨0, by omega, rfl, fun j h => by omega⟩
  case round =>
    obtain ⟨k, hk, rfl, HK⟩ := hrel
    by_cases hp : k < s.size
    · have hpi : (k : Int) < (s.size : Int) := by omega
      obtain ⟨b0, eb⟩ : ∃ b, b = byteAt s k := ⟨_, rfl⟩
      have h0 : (s[k]'hp).toNat = b0 := by rw [eb]; exact byteAt_eq s k hp
      have HE : Hid (b0 = byteAt s k) := eb
      clear eb
      by_cases e1 : b0 < 32
      · have e1i : (b0 : Int) < 32 := by omega
        go_wp2
        go_ret
        exact ⟨BoolIf.no, rfl⟩
      have e1i : (32 : Int) ≤ (b0 : Int) := by omega
      by_cases e2 : 126 < b0
      · have e2i : (126 : Int) < (b0 : Int) := by omega
        go_wp2
        go_ret
        exact ⟨BoolIf.no, rfl⟩
      have e2i : (b0 : Int) ≤ 126 := by omega
      go_wp2
      go_round
      case rel =>
        refine ⟨k + 1, by omega, by go_num, ?_⟩
        intro j hj
        by_cases h : j < k
        · exact HK.out j h
        · obtain rfl : j = k := by omega
          rw [← HE.out]; omega
      case measure => simp [intOf]; omega
    · have hpi : (s.size : Int) ≤ (k : Int) := by omega
      go_wp2
      go_ret
      exact ⟨BoolIf.yes (fun j hj => HK.out j (by omega)), rfl⟩

theorem step_own2 {B : Nat} {w wr w1 : World} {n m k : Nat} {acc : List UInt8} {news : List Value} {cs : Array Value} (ys : List UInt8) (hk : k = acc.length) (hb : Below B w wr) (hB : B ≤ wr.heap.size) (hm : m = ys.length) (hn : news = Lib.byteCells ys)
    (hown : w1.ownsRow B 5 1 (.slice (some ⟨B, 0, none⟩) (k + m) n) (k + m) (Lib.byteCells acc ++ news)) (hg : (wr.alloc (.cells cs 5)).grownBy w1 (some B)) :
    Hid (Row B n (acc ++ ys) w1) ∧ Hid (Below B w w1) := by
  subst hk
  exact step_own ys hb hB hm hn hown hg
theorem row_more {B n : Nat} {acc : List UInt8} {y : UInt8} {w : World} (h : Row B n (acc ++ [y]) w) : w.ownsRow B 5 1 (.slice (some ⟨B, 0, none⟩) (acc.length + 1) n) (acc.length + 1) (Lib.byteCells (acc ++ [y])) := by
  unfold Row at h
  rw [List.length_append] at h
  exact h

theorem decode_print (s : ByteArray) (k : Nat) (hk : k < s.size) (h : Printable s) : (Utf8.decode s k).1 = byteAt s k ∧ (Utf8.decode s k).2 = 1 := by
  have hb := h k hk
  rw [decode_ascii s k hk (by rw [byteAt_eq s k hk]; omega)]
  exact ⟨byteAt_eq s k hk, rfl⟩

set_option maxHeartbeats 6400000 in
set_option maxRecDepth 100000 in
theorem ascii_walk (s : ByteArray) (w : World) (hs : s.size ≤ 1048576) (hpr : Printable s) :
    Calls Try.prog 10 #[.string s] w fun e w' => e = .returned (.string ⟨(quote s).toArray⟩) ∧ Below w.heap.size w w' := by
  have HPR : Hid (Printable s) := hpr
  clear hpr
  obtain ⟨i0, hi, hz0, hz1, hz2⟩ := info_parts info5
  go_enter Try.func10, Try.ntmps10
  go_wp2_with (at_make; refine wpList_make_own _ rfl (.const (.int .i64 0)) (.tmp 8) 26 rfl w.heap.size 5 i0 (.int .u8 0) 1 Try.underlying26 hi hz0 hz1 .i64 .i64 _ (2 * s.size + 2) rfl rfl ?e0 ?e1 ?e2 ?e3 ?_)
  case e0 => first | omega | go_num
  case e1 => rw [hz2]; omega
  case e2 => unfold maxLen; omega
  case e3 => exact Nat.le_refl _
  intro w0 hown0 hgrow0
  have HB0 : Hid (Below w.heap.size w w0) := (Below.refl _ _).grown hgrow0 (Nat.le_refl _) (fun k h => by cases h)
  have HO0 : Hid (Row w.heap.size (2 * s.size + 2) [] w0) := hown0
  clear hown0 hgrow0
  go_wp2_with (at_builtin; refine wpList_append_fits _ rfl (.tmp 10) (.tmp 11) 26 rfl w.heap.size 5 i0 1 Try.underlying26 hi hz1 w.heap.size (([] : List UInt8).length) (2 * s.size + 2) (Lib.byteCells (([] : List UInt8))) rfl (World.ownsRow.alloc HO0.out _) ⟨w0.heap.size, 0, none⟩ 1 1 [.int .u8 34] rfl rfl (cell_one_new _ _ _) ?c21 ?c31 ?_)
  case c21 => intro u hu; simp at hu; subst hu; rfl
  case c31 => first | omega | (simp only [List.length_nil]; omega)
  intro w1 hown1 hgrow1
  obtain ⟨HR1, HB1⟩ := step_own2 (acc := ([] : List UInt8)) [34] (k := ([] : List UInt8).length) rfl HB0.out (Nat.le_trans (by omega) HB0.out.size) rfl rfl hown1 hgrow1
  clear hown1 hgrow1
  clear HB0 HO0
  go_wp2
  go_loopw [3, 4] (fun v3 v4 wr => ∃ (pos fuel : Nat) (acc : List UInt8), pos ≤ s.size ∧ acc.length ≤ 2 * pos + 1 ∧ v3 = .slice (some ⟨w.heap.size, 0, none⟩) acc.length (2 * s.size + 2) ∧ v4 = .int .i64 pos ∧ Hid (Row w.heap.size (2 * s.size + 2) acc wr) ∧ Hid (Below w.heap.size w wr) ∧ Hid (acc ++ qFrom s fuel pos = 34 :: qFrom s s.size 0) ∧ Hid (s.size ≤ pos + fuel)) (fun _ v4 _ => s.size - (intOf v4).toNat)
  case atStart => exact ⟨0, s.size, [34], by omega, by simp, rfl, rfl, HR1, HB1, rfl, by unfold Hid; omega⟩
  case round =>
    obtain ⟨pos, fuel, acc, hpos, hacc, rfl, rfl, HR, HB, HA, HF⟩ := hrel
    clear HR1 HB1
    by_cases hp : pos < s.size
    · have hpi : (pos : Int) < (s.size : Int) := by omega
      obtain ⟨b0, eb⟩ : ∃ b, b = byteAt s pos := ⟨_, rfl⟩
      have h0 : (s[pos]'hp).toNat = b0 := by rw [eb]; exact byteAt_eq s pos hp
      have HE : Hid (b0 = byteAt s pos) := eb
      have HBD : Hid (32 ≤ b0 ∧ b0 ≤ 126) := by rw [eb]; exact HPR.out pos hp
      have HRO : Hid (∀ ys, runeOut (byteAt s pos : Int) = ys → ∃ f, Hid (acc ++ ys ++ qFrom s f (pos + 1) = 34 :: qFrom s s.size 0) ∧ Hid (s.size ≤ pos + 1 + f)) := by
        intro ys hy
        obtain ⟨hr, hd⟩ := decode_print s pos hp HPR.out
        rw [← hr] at hy
        exact next_acc hp HA.out HF.out hy hd
      have HEN : Hid (Lib.encodeRune (byteAt s pos : Int) = [s.get! pos]) := encodeRune_ascii s pos (by have := HBD.out; omega)
      have hb2 : b0 < 128 := by have := HBD.out; omega
      clear HA HF eb
      by_cases e1 : b0 = 34
      · have HK : Hid (b0 = 34) := e1
        have n34 : ((b0 : Int) == 34) = true := by simp; omega
        clear e1
        obtain ⟨f, HA1, HF1⟩ := HRO.out [92, s.get! pos] (by rw [runeOut_esc (by have := HE.out; have := HK.out; omega), HEN.out]; rfl)
        clear HRO HEN
        go_wp2_with (at_builtin; refine wpList_append_fits _ rfl (.tmp 29) (.tmp 30) 26 rfl w.heap.size 5 i0 1 Try.underlying26 hi hz1 w.heap.size (acc.length) (2 * s.size + 2) (Lib.byteCells (acc)) rfl (World.ownsRow.alloc HR.out _) ⟨wr.heap.size, 0, none⟩ 1 1 [.int .u8 92] rfl rfl (cell_one_new _ _ _) ?c22 ?c32 ?_)
        case c22 => intro u hu; simp at hu; subst hu; rfl
        case c32 => first | omega | (simp only [List.length_nil]; omega)
        intro w2 hown2 hgrow2
        obtain ⟨HR2, HB2⟩ := step_own2 (acc := acc) [92] (k := acc.length) rfl HB.out (Nat.le_trans (by omega) HB.out.size) rfl rfl hown2 hgrow2
        clear hown2 hgrow2
        go_wp2_with (at_builtin; refine wpList_append_fits _ rfl (.tmp 32) (.tmp 36) 26 rfl w.heap.size 5 i0 1 Try.underlying26 hi hz1 w.heap.size (acc.length + 1) (2 * s.size + 2) (Lib.byteCells (acc ++ [92])) rfl (World.ownsRow.alloc (row_more HR2.out) _) ⟨w2.heap.size, 0, none⟩ 1 1 [.int .u8 (b0 : Int)] rfl rfl (cell_one_new _ _ _) ?c23 ?c33 ?_)
        case c23 => intro u hu; simp at hu; subst hu; rfl
        case c33 => first | omega | (simp only [List.length_nil]; omega)
        intro w3 hown3 hgrow3
        obtain ⟨HR3, HB3⟩ := step_own2 (acc := acc ++ [92]) [s.get! pos] (k := acc.length + 1) (by simp) HB2.out (Nat.le_trans (by omega) HB2.out.size) rfl (by rw [cell_byte s pos b0 HE.out]; rfl) hown3 hgrow3
        clear hown3 hgrow3
        go_wp2
        go_roundw
        case rel => exact ⟨pos + 1, f, acc ++ [92] ++ [s.get! pos], by omega, by simp only [List.length_append, List.length_cons, List.length_nil]; omega, by simp, by go_num, HR3, HB3, by rw [List.append_assoc acc]; exact HA1, HF1⟩
        case measure => simp [intOf]; omega
      by_cases e2 : b0 = 92
      · have HK : Hid (b0 = 92) := e2
        have n34 : ((b0 : Int) == 34) = false := by rw [beq_eq_false_iff_ne]; omega
        have n92 : ((b0 : Int) == 92) = true := by simp; omega
        clear e1 e2
        obtain ⟨f, HA1, HF1⟩ := HRO.out [92, s.get! pos] (by rw [runeOut_esc (by have := HE.out; have := HK.out; omega), HEN.out]; rfl)
        clear HRO HEN
        go_wp2_with (at_builtin; refine wpList_append_fits _ rfl (.tmp 29) (.tmp 30) 26 rfl w.heap.size 5 i0 1 Try.underlying26 hi hz1 w.heap.size (acc.length) (2 * s.size + 2) (Lib.byteCells (acc)) rfl (World.ownsRow.alloc HR.out _) ⟨wr.heap.size, 0, none⟩ 1 1 [.int .u8 92] rfl rfl (cell_one_new _ _ _) ?c24 ?c34 ?_)
        case c24 => intro u hu; simp at hu; subst hu; rfl
        case c34 => first | omega | (simp only [List.length_nil]; omega)
        intro w4 hown4 hgrow4
        obtain ⟨HR4, HB4⟩ := step_own2 (acc := acc) [92] (k := acc.length) rfl HB.out (Nat.le_trans (by omega) HB.out.size) rfl rfl hown4 hgrow4
        clear hown4 hgrow4
        go_wp2_with (at_builtin; refine wpList_append_fits _ rfl (.tmp 32) (.tmp 36) 26 rfl w.heap.size 5 i0 1 Try.underlying26 hi hz1 w.heap.size (acc.length + 1) (2 * s.size + 2) (Lib.byteCells (acc ++ [92])) rfl (World.ownsRow.alloc (row_more HR4.out) _) ⟨w4.heap.size, 0, none⟩ 1 1 [.int .u8 (b0 : Int)] rfl rfl (cell_one_new _ _ _) ?c25 ?c35 ?_)
        case c25 => intro u hu; simp at hu; subst hu; rfl
        case c35 => first | omega | (simp only [List.length_nil]; omega)
        intro w5 hown5 hgrow5
        obtain ⟨HR5, HB5⟩ := step_own2 (acc := acc ++ [92]) [s.get! pos] (k := acc.length + 1) (by simp) HB4.out (Nat.le_trans (by omega) HB4.out.size) rfl (by rw [cell_byte s pos b0 HE.out]; rfl) hown5 hgrow5
        clear hown5 hgrow5
        go_wp2
        go_roundw
        case rel => exact ⟨pos + 1, f, acc ++ [92] ++ [s.get! pos], by omega, by simp only [List.length_append, List.length_cons, List.length_nil]; omega, by simp, by go_num, HR5, HB5, by rw [List.append_assoc acc]; exact HA1, HF1⟩
        case measure => simp [intOf]; omega
      have HK : Hid (¬ ((byteAt s pos : Int) = 34 ∨ (byteAt s pos : Int) = 92)) := by unfold Hid; rw [← HE.out]; omega
      have n34 : ((b0 : Int) == 34) = false := by rw [beq_eq_false_iff_ne]; omega
      have n92 : ((b0 : Int) == 92) = false := by rw [beq_eq_false_iff_ne]; omega
      clear e1 e2
      obtain ⟨f, HA1, HF1⟩ := HRO.out [s.get! pos] (by rw [runeOut_plain HK.out (by have := HE.out; have := HBD.out; omega), HEN.out])
      clear HRO HEN
      go_wp2_with (at_builtin; refine wpList_append_fits _ rfl (.tmp 32) (.tmp 36) 26 rfl w.heap.size 5 i0 1 Try.underlying26 hi hz1 w.heap.size (acc.length) (2 * s.size + 2) (Lib.byteCells (acc)) rfl (World.ownsRow.alloc HR.out _) ⟨wr.heap.size, 0, none⟩ 1 1 [.int .u8 (b0 : Int)] rfl rfl (cell_one_new _ _ _) ?c26 ?c36 ?_)
      case c26 => intro u hu; simp at hu; subst hu; rfl
      case c36 => first | omega | (simp only [List.length_nil]; omega)
      intro w6 hown6 hgrow6
      obtain ⟨HR6, HB6⟩ := step_own2 (acc := acc) [s.get! pos] (k := acc.length) rfl HB.out (Nat.le_trans (by omega) HB.out.size) rfl (by rw [cell_byte s pos b0 HE.out]; rfl) hown6 hgrow6
      clear hown6 hgrow6
      go_wp2
      go_roundw
      case rel => exact ⟨pos + 1, f, acc ++ [s.get! pos], by omega, by simp only [List.length_append, List.length_cons, List.length_nil]; omega, by simp, by go_num, HR6, HB6, HA1, HF1⟩
      case measure => simp [intOf]; omega
    · have hpi : (s.size : Int) ≤ (pos : Int) := by omega
      have HQ : Hid (acc ++ [34] = quote s) := by
        have := HA.out
        rw [qFrom_end s fuel pos hp, List.append_nil] at this
        unfold Hid quote
        rw [this]; rfl
      clear HA HF
      go_wp2_with (at_builtin; refine wpList_append_fits _ rfl (.tmp 38) (.tmp 39) 26 rfl w.heap.size 5 i0 1 Try.underlying26 hi hz1 w.heap.size (acc.length) (2 * s.size + 2) (Lib.byteCells (acc)) rfl (World.ownsRow.alloc HR.out _) ⟨wr.heap.size, 0, none⟩ 1 1 [.int .u8 34] rfl rfl (cell_one_new _ _ _) ?c27 ?c37 ?_)
      case c27 => intro u hu; simp at hu; subst hu; rfl
      case c37 => first | omega | (simp only [List.length_nil]; omega)
      intro w7 hown7 hgrow7
      obtain ⟨HR7, HB7⟩ := step_own2 (acc := acc) [34] (k := acc.length) rfl HB.out (Nat.le_trans (by omega) HB.out.size) rfl rfl hown7 hgrow7
      clear hown7 hgrow7
      have HV : Hid (Row w.heap.size (2 * s.size + 2) (quote s) w7) := by rw [← HQ.out]; exact HR7
      have hl : (acc.length + 1 : Nat) = (quote s).length := by rw [← HQ.out]; simp
      have hcv := fun cap => run_convert_bytes_back (P := Try.prog) w7 26 9 5 ⟨w.heap.size, 0, none⟩ cap (quote s) Try.underlying26 Try.underlying5 Try.underlying9 (row_string HV.out)
      rw [← hl] at hcv
      clear hl
      clear HR
      go_wp2
      go_ret
      exact ⟨rfl, HB7.out⟩

end Go.Proofs.Qxb6627869a
