/-
  zzQuoteByteModel: it writes what Quote writes.
-/
import Derived.Test.Qxb6627869aStep
import Derived.Laws.IdiomStrings
import Derived.Maps.AppendAt
import Derived.WalkSmall
set_option linter.unusedVariables false
namespace Go.Proofs.Qxb6627869a
open Go.RowKit

theorem info5 : (Try.prog.info? 5).map (fun i => (i.zero, i.size, i.bytes)) = some (some (.int .u8 0), 1, 1) := by kernel_rfl

theorem cell_three_new (w : World) (a b c : Value) (t : TypeId) : ∀ j u, [a, b, c][j]? = some u → (w.alloc (.cells #[a, b, c] t)).cell? ((⟨w.heap.size, 0, none⟩ : Addr).add j) = some u := by
  intro j u hj
  match j, hj with
  | 0, hj => simp at hj; subst hj; simp [Addr.add]
  | 1, hj => simp at hj; subst hj; simp [Addr.add]
  | 2, hj => simp at hj; subst hj; simp [Addr.add]
  | j + 3, hj => simp at hj

/-- The row that the call made holds the bytes 'acc'. -/
def Row (B : Nat) (n : Nat) (acc : List UInt8) (w : World) : Prop := w.ownsRow B 5 1 (.slice (some ⟨B, 0, none⟩) acc.length n) acc.length (Lib.byteCells acc)

theorem one_cells (ys : List UInt8) : ∀ u ∈ Lib.byteCells ys, u.oneCell' = true := by
  intro u hu
  obtain ⟨_, _, rfl⟩ := List.mem_map.1 hu
  rfl

theorem step_own {B : Nat} {w wr w1 : World} {n m : Nat} {acc : List UInt8} {news : List Value} {cs : Array Value} (ys : List UInt8) (hb : Below B w wr) (hB : B ≤ wr.heap.size) (hm : m = ys.length) (hn : news = Lib.byteCells ys)
    (hown : w1.ownsRow B 5 1 (.slice (some ⟨B, 0, none⟩) (acc.length + m) n) (acc.length + m) (Lib.byteCells acc ++ news)) (hg : (wr.alloc (.cells cs 5)).grownBy w1 (some B)) :
    Hid (Row B n (acc ++ ys) w1) ∧ Hid (Below B w w1) := by
  subst hn
  refine ⟨?_, (hb.alloc hB _).grown hg (by simp; omega) (fun k h => by cases h; exact Nat.le_refl _)⟩
  unfold Hid Row
  rw [Lib.byteCells_append, List.length_append, ← hm]
  exact hown

/-- string(out): the bytes that lie in the row. -/
theorem row_string {B n : Nat} {acc : List UInt8} {w : World} (h : Row B n acc w) : ∀ j (hj : j < acc.length), w.cell? ((⟨B, 0, none⟩ : Addr).add j) = some (.int .u8 (acc[j].toNat : Int)) := by
  intro j hj
  refine World.ownsRow.cells h (g := B) (by rfl) j _ ?_
  simp [Lib.byteCells, hj]

theorem range_step (s : ByteArray) (pos k : Nat) : (List.range (k + 1)).map (fun j => s.get! (pos + j)) = (List.range k).map (fun j => s.get! (pos + j)) ++ [s.get! (pos + k)] := by
  rw [List.range_succ, List.map_append]; rfl

/-- One piece more. -/
theorem next_acc {s : ByteArray} {pos fuel d : Nat} {acc ys T : List UInt8} (hp : pos < s.size) (h : acc ++ qFrom s fuel pos = T) (hf : s.size ≤ pos + fuel) (hy : runeOut (Utf8.decode s pos).1 = ys) (hd : (Utf8.decode s pos).2 = d) :
    ∃ f, Hid (acc ++ ys ++ qFrom s f (pos + d) = T) ∧ Hid (s.size ≤ pos + d + f) := by
  obtain ⟨f, rfl⟩ : ∃ f, fuel = f + 1 := ⟨fuel - 1, by omega⟩
  have h1 := width_pos s pos hp
  rw [qFrom_step s f pos hp, hy, hd] at h
  refine ⟨f, ?_, ?_⟩
  · unfold Hid; rw [List.append_assoc]; exact h
  · unfold Hid; omega
theorem encodeRune_ascii (s : ByteArray) (pos : Nat) (h : byteAt s pos < 128) : Lib.encodeRune (byteAt s pos : Int) = [s.get! pos] := by
  unfold Lib.encodeRune
  rw [Lib.encodeRuneZ_one (by omega) (by omega)]
  simp only [List.map_cons, List.map_nil, toUInt8_byteAt]
theorem cell_byte (s : ByteArray) (i b : Nat) (h : b = byteAt s i) : Value.int .u8 (b : Int) = Value.int .u8 ((s.get! i).toNat : Int) := by rw [h]; rfl

set_option maxHeartbeats 6400000 in
set_option maxRecDepth 100000 in
theorem model_walk (s : ByteArray) (w : World) (hs : s.size ≤ 1048576) :
    Calls Try.prog 7 #[.string s] w fun e w' => e = .returned (.string ⟨(quote s).toArray⟩) ∧ Below w.heap.size w w' := by
  obtain ⟨i0, hi, hz0, hz1, hz2⟩ := info_parts info5
  go_enter Try.func7, Try.ntmps7
  go_wp2_with (at_make; refine wpList_make_own _ rfl (.const (.int .i64 0)) (.tmp 11) 26 rfl w.heap.size 5 i0 (.int .u8 0) 1 Try.underlying26 hi hz0 hz1 .i64 .i64 _ (3 * s.size + 2) rfl rfl ?e0 ?e1 ?e2 ?e3 ?_)
  case e0 => first | omega | go_num
  case e1 => rw [hz2]; omega
  case e2 => unfold maxLen; omega
  case e3 => exact Nat.le_refl _
  intro w0 hown0 hgrow0
  have HB0 : Hid (Below w.heap.size w w0) := (Below.refl _ _).grown hgrow0 (Nat.le_refl _) (fun k h => by cases h)
  have HO0 : Hid (Row w.heap.size (3 * s.size + 2) [] w0) := hown0
  clear hown0 hgrow0
  go_wp2_with (at_builtin; refine wpList_append_fits _ rfl (.tmp 13) (.tmp 14) 26 rfl w.heap.size 5 i0 1 Try.underlying26 hi hz1 w.heap.size (([] : List UInt8)).length (3 * s.size + 2) (Lib.byteCells (([] : List UInt8))) rfl (World.ownsRow.alloc HO0.out _) ⟨w0.heap.size, 0, none⟩ 1 1 [.int .u8 34] rfl rfl (cell_one_new _ _ _) ?c21 ?c31 ?_)
  case c21 => intro u hu; simp at hu; first | (subst hu; rfl) | (rcases hu with rfl | rfl <;> rfl) | (rcases hu with rfl | rfl | rfl <;> rfl)
  case c31 => first | omega | (simp only [List.length_nil]; omega) | (have := hl.out; omega)
  intro w1 hown1 hgrow1
  obtain ⟨HR1, HB1⟩ := step_own (acc := ([] : List UInt8)) [34] HB0.out (Nat.le_trans (by omega) HB0.out.size) rfl rfl hown1 hgrow1
  clear hown1 hgrow1
  clear HB0 HO0
  go_wp2
  go_loopw [3, 4] (fun v3 v4 wr => ∃ (pos fuel : Nat) (acc : List UInt8), pos ≤ s.size ∧ acc.length ≤ 3 * pos + 1 ∧ v3 = .slice (some ⟨w.heap.size, 0, none⟩) acc.length (3 * s.size + 2) ∧ v4 = .int .i64 pos ∧ Hid (Row w.heap.size (3 * s.size + 2) acc wr) ∧ Hid (Below w.heap.size w wr) ∧ Hid (acc ++ qFrom s fuel pos = 34 :: qFrom s s.size 0) ∧ Hid (s.size ≤ pos + fuel)) (fun _ v4 _ => s.size - (intOf v4).toNat)
  case atStart => exact ⟨0, s.size, [34], by omega, by simp, rfl, rfl, HR1, HB1, rfl, by unfold Hid; omega⟩
  case round =>
    obtain ⟨pos, fuel, acc, hpos, hacc, rfl, rfl, HR, HB, HA, HF⟩ := hrel
    clear HR1 HB1
    by_cases hp : pos < s.size
    · have hpi : (pos : Int) < (s.size : Int) := by omega
      have HC : Hid (∀ W : Nat, widthAt s pos = W → ∀ w', Calls Try.prog 15 #[.string s, .int .i64 pos] w' fun e w'' => e = .returned (.int .i64 (W : Int)) ∧ w'' = w') := by
        intro W e w'
        rw [← e]
        exact width_any s pos w' hs hp
      have HP := piece s pos hp
      rcases HP with ⟨hw, hb, hr, hd⟩ | ⟨hw, hb, hr, hd⟩ | ⟨hw1, hw2, hw3, hr, hd⟩
      · have HC0 := HC.out 0 hw
        obtain ⟨f, HA1, HF1⟩ := next_acc hp HA.out HF.out hr hd
        clear HC hw hb hr hd HA HF
        go_wp2_with fail
        refine (HC0 _).mono ?_
        rintro e wx ⟨rfl, rfl⟩
        clear HC0
        go_wp2_with (at_builtin; refine wpList_append_fits _ rfl (.tmp 25) (.tmp 26) 26 rfl w.heap.size 5 i0 1 Try.underlying26 hi hz1 w.heap.size (acc).length (3 * s.size + 2) (Lib.byteCells (acc)) rfl (World.ownsRow.alloc HR.out _) ⟨wx.heap.size, 0, none⟩ 3 3 [.int .u8 239, .int .u8 191, .int .u8 189] rfl rfl (cell_three_new _ _ _ _ _) ?c22 ?c32 ?_)
        case c22 => intro u hu; simp at hu; first | (subst hu; rfl) | (rcases hu with rfl | rfl <;> rfl) | (rcases hu with rfl | rfl | rfl <;> rfl)
        case c32 => first | omega | (simp only [List.length_nil]; omega) | (have := hl.out; omega)
        intro w2 hown2 hgrow2
        obtain ⟨HR2, HB2⟩ := step_own (acc := acc) [239, 191, 189] HB.out (Nat.le_trans (by omega) HB.out.size) rfl rfl hown2 hgrow2
        clear hown2 hgrow2
        go_wp2
        go_roundw
        case rel => exact ⟨pos + 1, f, acc ++ [239, 191, 189], by omega, by simp only [List.length_append, List.length_cons, List.length_nil]; omega, by simp, by go_num, HR2, HB2, HA1, HF1⟩
        case measure => simp [intOf]; omega
      · have HC0 := HC.out 1 hw
        clear HC hw
        obtain ⟨b0, eb⟩ : ∃ b, b = byteAt s pos := ⟨_, rfl⟩
        have h0 : (s[pos]'hp).toNat = b0 := by rw [eb]; exact byteAt_eq s pos hp
        have HE : Hid (b0 = byteAt s pos) := eb
        have HRO : Hid (∀ ys, runeOut (byteAt s pos : Int) = ys → ∃ f, Hid (acc ++ ys ++ qFrom s f (pos + 1) = 34 :: qFrom s s.size 0) ∧ Hid (s.size ≤ pos + 1 + f)) := by
          intro ys hy
          rw [← hr] at hy
          exact next_acc hp HA.out HF.out hy hd
        have HEN : Hid (Lib.encodeRune (byteAt s pos : Int) = [s.get! pos]) := encodeRune_ascii s pos hb
        have hb2 : b0 < 128 := by omega
        clear hr hd HA HF hb eb
        by_cases e1 : b0 = 34
        · have HK : Hid (b0 = 34) := e1
          have n34 : ((b0 : Int) == 34) = true := by simp; omega
          clear e1
          obtain ⟨f, HA1, HF1⟩ := HRO.out [92, s.get! pos] (by rw [runeOut_esc (by have := HE.out; have := HK.out; omega), HEN.out]; rfl)
          clear HRO HEN
          go_wp2_with fail
          refine (HC0 _).mono ?_
          rintro e wx ⟨rfl, rfl⟩
          clear HC0
          go_wp2_with (at_builtin; refine wpList_append_fits _ rfl (.tmp 41) (.tmp 43) 26 rfl w.heap.size 5 i0 1 Try.underlying26 hi hz1 w.heap.size (acc).length (3 * s.size + 2) (Lib.byteCells (acc)) rfl (World.ownsRow.alloc HR.out _) ⟨wx.heap.size, 0, none⟩ 2 2 [.int .u8 92, .int .u8 (b0 : Int)] rfl rfl (cell_two_new _ _ _ _) ?c23 ?c33 ?_)
          case c23 => intro u hu; simp at hu; first | (subst hu; rfl) | (rcases hu with rfl | rfl <;> rfl) | (rcases hu with rfl | rfl | rfl <;> rfl)
          case c33 => first | omega | (simp only [List.length_nil]; omega) | (have := hl.out; omega)
          intro w3 hown3 hgrow3
          obtain ⟨HR3, HB3⟩ := step_own (acc := acc) [92, s.get! pos] HB.out (Nat.le_trans (by omega) HB.out.size) rfl (by rw [cell_byte s pos b0 HE.out]; rfl) hown3 hgrow3
          clear hown3 hgrow3
          go_wp2
          go_roundw
          case rel => exact ⟨pos + 1, f, acc ++ [92, s.get! pos], by omega, by simp only [List.length_append, List.length_cons, List.length_nil]; omega, by simp, by go_num, HR3, HB3, HA1, HF1⟩
          case measure => simp [intOf]; omega
        by_cases e2 : b0 = 92
        · have HK : Hid (b0 = 92) := e2
          have n34 : ((b0 : Int) == 34) = false := by rw [beq_eq_false_iff_ne]; omega
          have n92 : ((b0 : Int) == 92) = true := by simp; omega
          clear e1 e2
          obtain ⟨f, HA1, HF1⟩ := HRO.out [92, s.get! pos] (by rw [runeOut_esc (by have := HE.out; have := HK.out; omega), HEN.out]; rfl)
          clear HRO HEN
          go_wp2_with fail
          refine (HC0 _).mono ?_
          rintro e wx ⟨rfl, rfl⟩
          clear HC0
          go_wp2_with (at_builtin; refine wpList_append_fits _ rfl (.tmp 41) (.tmp 43) 26 rfl w.heap.size 5 i0 1 Try.underlying26 hi hz1 w.heap.size (acc).length (3 * s.size + 2) (Lib.byteCells (acc)) rfl (World.ownsRow.alloc HR.out _) ⟨wx.heap.size, 0, none⟩ 2 2 [.int .u8 92, .int .u8 (b0 : Int)] rfl rfl (cell_two_new _ _ _ _) ?c24 ?c34 ?_)
          case c24 => intro u hu; simp at hu; first | (subst hu; rfl) | (rcases hu with rfl | rfl <;> rfl) | (rcases hu with rfl | rfl | rfl <;> rfl)
          case c34 => first | omega | (simp only [List.length_nil]; omega) | (have := hl.out; omega)
          intro w4 hown4 hgrow4
          obtain ⟨HR4, HB4⟩ := step_own (acc := acc) [92, s.get! pos] HB.out (Nat.le_trans (by omega) HB.out.size) rfl (by rw [cell_byte s pos b0 HE.out]; rfl) hown4 hgrow4
          clear hown4 hgrow4
          go_wp2
          go_roundw
          case rel => exact ⟨pos + 1, f, acc ++ [92, s.get! pos], by omega, by simp only [List.length_append, List.length_cons, List.length_nil]; omega, by simp, by go_num, HR4, HB4, HA1, HF1⟩
          case measure => simp [intOf]; omega
        have HK : Hid (¬ ((byteAt s pos : Int) = 34 ∨ (byteAt s pos : Int) = 92)) := by unfold Hid; rw [← HE.out]; omega
        have n34 : ((b0 : Int) == 34) = false := by rw [beq_eq_false_iff_ne]; omega
        have n92 : ((b0 : Int) == 92) = false := by rw [beq_eq_false_iff_ne]; omega
        clear e1 e2
        by_cases e3 : b0 < 32
        · have e3i : (b0 : Int) < 32 := by omega
          obtain ⟨f, HA1, HF1⟩ := HRO.out [32] (runeOut_ctl HK.out (by have := HE.out; omega))
          clear HRO HEN
          go_wp2_with fail
          refine (HC0 _).mono ?_
          rintro e wx ⟨rfl, rfl⟩
          clear HC0
          go_wp2_with (at_builtin; refine wpList_append_fits _ rfl (.tmp 51) (.tmp 52) 26 rfl w.heap.size 5 i0 1 Try.underlying26 hi hz1 w.heap.size (acc).length (3 * s.size + 2) (Lib.byteCells (acc)) rfl (World.ownsRow.alloc HR.out _) ⟨wx.heap.size, 0, none⟩ 1 1 [.int .u8 32] rfl rfl (cell_one_new _ _ _) ?c25 ?c35 ?_)
          case c25 => intro u hu; simp at hu; first | (subst hu; rfl) | (rcases hu with rfl | rfl <;> rfl) | (rcases hu with rfl | rfl | rfl <;> rfl)
          case c35 => first | omega | (simp only [List.length_nil]; omega) | (have := hl.out; omega)
          intro w5 hown5 hgrow5
          obtain ⟨HR5, HB5⟩ := step_own (acc := acc) [32] HB.out (Nat.le_trans (by omega) HB.out.size) rfl rfl hown5 hgrow5
          clear hown5 hgrow5
          go_wp2
          go_roundw
          case rel => exact ⟨pos + 1, f, acc ++ [32], by omega, by simp only [List.length_append, List.length_cons, List.length_nil]; omega, by simp, by go_num, HR5, HB5, HA1, HF1⟩
          case measure => simp [intOf]; omega
        have e3i : (32 : Int) ≤ (b0 : Int) := by omega
        by_cases e4 : b0 = 127
        · have HK2 : Hid (b0 = 127) := e4
          have n127 : ((b0 : Int) == 127) = true := by simp; omega
          clear e4
          obtain ⟨f, HA1, HF1⟩ := HRO.out [32] (runeOut_ctl HK.out (by have := HE.out; have := HK2.out; omega))
          clear HRO HEN
          go_wp2_with fail
          refine (HC0 _).mono ?_
          rintro e wx ⟨rfl, rfl⟩
          clear HC0
          go_wp2_with (at_builtin; refine wpList_append_fits _ rfl (.tmp 51) (.tmp 52) 26 rfl w.heap.size 5 i0 1 Try.underlying26 hi hz1 w.heap.size (acc).length (3 * s.size + 2) (Lib.byteCells (acc)) rfl (World.ownsRow.alloc HR.out _) ⟨wx.heap.size, 0, none⟩ 1 1 [.int .u8 32] rfl rfl (cell_one_new _ _ _) ?c26 ?c36 ?_)
          case c26 => intro u hu; simp at hu; first | (subst hu; rfl) | (rcases hu with rfl | rfl <;> rfl) | (rcases hu with rfl | rfl | rfl <;> rfl)
          case c36 => first | omega | (simp only [List.length_nil]; omega) | (have := hl.out; omega)
          intro w6 hown6 hgrow6
          obtain ⟨HR6, HB6⟩ := step_own (acc := acc) [32] HB.out (Nat.le_trans (by omega) HB.out.size) rfl rfl hown6 hgrow6
          clear hown6 hgrow6
          go_wp2
          go_roundw
          case rel => exact ⟨pos + 1, f, acc ++ [32], by omega, by simp only [List.length_append, List.length_cons, List.length_nil]; omega, by simp, by go_num, HR6, HB6, HA1, HF1⟩
          case measure => simp [intOf]; omega
        have n127 : ((b0 : Int) == 127) = false := by rw [beq_eq_false_iff_ne]; omega
        have HK2 : Hid (¬ b0 = 127) := e4
        clear e4
        obtain ⟨f, HA1, HF1⟩ := HRO.out [s.get! pos] (by rw [runeOut_plain HK.out (by have := HE.out; have := HK2.out; omega), HEN.out])
        clear HRO HEN
        go_wp2_with fail
        refine (HC0 _).mono ?_
        rintro e wx ⟨rfl, rfl⟩
        clear HC0
        go_wp2_with (at_builtin; refine wpList_append_fits _ rfl (.tmp 54) (.tmp 56) 26 rfl w.heap.size 5 i0 1 Try.underlying26 hi hz1 w.heap.size (acc).length (3 * s.size + 2) (Lib.byteCells (acc)) rfl (World.ownsRow.alloc HR.out _) ⟨wx.heap.size, 0, none⟩ 1 1 [.int .u8 (b0 : Int)] rfl rfl (cell_one_new _ _ _) ?c27 ?c37 ?_)
        case c27 => intro u hu; simp at hu; first | (subst hu; rfl) | (rcases hu with rfl | rfl <;> rfl) | (rcases hu with rfl | rfl | rfl <;> rfl)
        case c37 => first | omega | (simp only [List.length_nil]; omega) | (have := hl.out; omega)
        intro w7 hown7 hgrow7
        obtain ⟨HR7, HB7⟩ := step_own (acc := acc) [s.get! pos] HB.out (Nat.le_trans (by omega) HB.out.size) rfl (by rw [cell_byte s pos b0 HE.out]; rfl) hown7 hgrow7
        clear hown7 hgrow7
        go_wp2
        go_roundw
        case rel => exact ⟨pos + 1, f, acc ++ [s.get! pos], by omega, by simp only [List.length_append, List.length_cons, List.length_nil]; omega, by simp, by go_num, HR7, HB7, HA1, HF1⟩
        case measure => simp [intOf]; omega
      · obtain ⟨W, eW⟩ : ∃ W, W = widthAt s pos := ⟨_, rfl⟩
        rw [← eW] at hw1 hw2 hw3 hr hd
        have HC0 := HC.out W eW.symm
        obtain ⟨f, HA1, HF1⟩ := next_acc hp HA.out HF.out hr hd
        clear HC hr hd HA HF eW
        have n0 : ((W : Int) == 0) = false := by rw [beq_eq_false_iff_ne]; omega
        have n1 : ((W : Int) == 1) = false := by rw [beq_eq_false_iff_ne]; omega
        go_wp2_with fail
        refine (HC0 _).mono ?_
        rintro e wx ⟨rfl, rfl⟩
        clear HC0
        go_wp2
        go_loopw [3, 7] (fun v3 v7 wr => ∃ (k : Nat), k ≤ W ∧ v3 = .slice (some ⟨w.heap.size, 0, none⟩) (acc ++ (List.range k).map (fun j => s.get! (pos + j))).length (3 * s.size + 2) ∧ v7 = .int .i64 k ∧ Hid (Row w.heap.size (3 * s.size + 2) (acc ++ (List.range k).map (fun j => s.get! (pos + j))) wr) ∧ Hid (Below w.heap.size w wr)) (fun _ v7 _ => W - (intOf v7).toNat)
        case atStart => exact ⟨0, by omega, by simp, rfl, by simpa using HR, HB⟩
        case round =>
          obtain ⟨k, hk, rfl, rfl, HR2, HB2⟩ := hrel
          by_cases hkw : k < W
          · have hki : (k : Int) < W := by omega
            have hpk : pos + k < s.size := by omega
            obtain ⟨b0, eb⟩ : ∃ b, b = byteAt s (pos + k) := ⟨_, rfl⟩
            have h0 : (s[pos + k]'hpk).toNat = b0 := by rw [eb]; exact byteAt_eq s (pos + k) hpk
            have hl : Hid ((acc ++ (List.range k).map (fun j => s.get! (pos + j))).length = acc.length + k) := by unfold Hid; simp
            have HE : Hid (b0 = byteAt s (pos + k)) := eb
            clear eb
            obtain ⟨X, eX⟩ : ∃ X, X = acc ++ (List.range k).map (fun j => s.get! (pos + j)) := ⟨_, rfl⟩
            rw [← eX] at hl HR2 ⊢
            have HX : Hid (X = acc ++ (List.range k).map (fun j => s.get! (pos + j))) := eX
            clear eX
            go_wp2_with (at_builtin; refine wpList_append_fits _ rfl (.tmp 65) (.tmp 71) 26 rfl w.heap.size 5 i0 1 Try.underlying26 hi hz1 w.heap.size (X).length (3 * s.size + 2) (Lib.byteCells (X)) rfl (World.ownsRow.alloc HR2.out _) ⟨wr.heap.size, 0, none⟩ 1 1 [.int .u8 (b0 : Int)] rfl rfl (cell_one_new _ _ _) ?c28 ?c38 ?_)
            case c28 => intro u hu; simp at hu; first | (subst hu; rfl) | (rcases hu with rfl | rfl <;> rfl) | (rcases hu with rfl | rfl | rfl <;> rfl)
            case c38 => first | omega | (simp only [List.length_nil]; omega) | (have := hl.out; omega)
            intro w8 hown8 hgrow8
            obtain ⟨HR8, HB8⟩ := step_own (acc := X) [s.get! (pos + k)] HB2.out (Nat.le_trans (by omega) HB2.out.size) rfl (by rw [cell_byte s (pos + k) b0 HE.out]; rfl) hown8 hgrow8
            clear hown8 hgrow8
            go_wp2
            go_roundw
            case rel =>
              refine ⟨k + 1, by omega, ?_, by go_num, ?_, HB8⟩
              · rw [range_step, ← List.append_assoc, ← HX.out]; simp
              · rw [range_step, ← List.append_assoc, ← HX.out]; exact HR8
            case measure => simp [intOf]; omega
          · have ek : k = W := by omega
            subst ek
            go_wp2
            go_roundw
            case rel => exact ⟨pos + k, f, acc ++ (List.range k).map (fun j => s.get! (pos + j)), by omega, by simp only [List.length_append, List.length_map, List.length_range]; omega, rfl, by go_num, HR2, HB2, HA1, HF1⟩
            case measure => simp [intOf]; omega
    · have hpi : (s.size : Int) ≤ (pos : Int) := by omega
      have HQ : Hid (acc ++ [34] = quote s) := by
        have := HA.out
        rw [qFrom_end s fuel pos hp, List.append_nil] at this
        unfold Hid quote
        rw [this]; rfl
      clear HA HF
      go_wp2_with (at_builtin; refine wpList_append_fits _ rfl (.tmp 76) (.tmp 77) 26 rfl w.heap.size 5 i0 1 Try.underlying26 hi hz1 w.heap.size (acc).length (3 * s.size + 2) (Lib.byteCells (acc)) rfl (World.ownsRow.alloc HR.out _) ⟨wr.heap.size, 0, none⟩ 1 1 [.int .u8 34] rfl rfl (cell_one_new _ _ _) ?c29 ?c39 ?_)
      case c29 => intro u hu; simp at hu; first | (subst hu; rfl) | (rcases hu with rfl | rfl <;> rfl) | (rcases hu with rfl | rfl | rfl <;> rfl)
      case c39 => first | omega | (simp only [List.length_nil]; omega) | (have := hl.out; omega)
      intro w9 hown9 hgrow9
      obtain ⟨HR9, HB9⟩ := step_own (acc := acc) [34] HB.out (Nat.le_trans (by omega) HB.out.size) rfl rfl hown9 hgrow9
      clear hown9 hgrow9
      have HV : Hid (Row w.heap.size (3 * s.size + 2) (quote s) w9) := by rw [← HQ.out]; exact HR9
      have hl : (acc.length + 1 : Nat) = (quote s).length := by rw [← HQ.out]; simp
      have hcv := fun cap => run_convert_bytes_back (P := Try.prog) w9 26 9 5 ⟨w.heap.size, 0, none⟩ cap (quote s) Try.underlying26 Try.underlying5 Try.underlying9 (row_string HV.out)
      rw [← hl] at hcv
      clear hl
      clear HR
      go_wp2
      go_ret
      exact ⟨rfl, HB9.out⟩

end Go.Proofs.Qxb6627869a
