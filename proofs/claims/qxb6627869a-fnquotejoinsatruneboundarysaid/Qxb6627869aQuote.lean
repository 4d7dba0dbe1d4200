/-
  sip.Quote: what it writes, for every string of at most 1 MiB.
-/
import Derived.Test.Qxb6627869aShelf
import Derived.WalkKit
import Derived.BigCall
namespace Go.Proofs.Qxb6627869a
open Go.RowKit

/-- What Quote writes for one rune. -/
def runeOut (r : Int) : List UInt8 := if r = 34 ∨ r = 92 then 92 :: Lib.encodeRune r else if r < 32 ∨ r = 127 then [32] else Lib.encodeRune r
def qFrom (s : ByteArray) : Nat → Nat → List UInt8
  | 0, _ => []
  | fuel + 1, pos => if pos < s.size then runeOut (Utf8.decode s pos).1 ++ qFrom s fuel (pos + (Utf8.decode s pos).2) else []
def quote (s : ByteArray) : List UInt8 := 34 :: (qFrom s s.size 0 ++ [34])

theorem width_pos (s : ByteArray) (pos : Nat) (h : pos < s.size) : 1 ≤ (Utf8.decode s pos).2 := by
  by_cases ha : (s[pos]'h).toNat < 128
  · rw [decode_ascii s pos h ha]
    exact Nat.le_refl _
  · exact (decode_high s pos h (by omega)).2

theorem qFrom_end (s : ByteArray) (fuel pos : Nat) (h : ¬ pos < s.size) : qFrom s fuel pos = [] := by
  cases fuel with
  | zero => rfl
  | succ f => simp [qFrom, h]
theorem qFrom_step (s : ByteArray) (f pos : Nat) (h : pos < s.size) : qFrom s (f + 1) pos = runeOut (Utf8.decode s pos).1 ++ qFrom s f (pos + (Utf8.decode s pos).2) := by
  simp [qFrom, h]
theorem runeOut_esc {r : Int} (h : r = 34 ∨ r = 92) : runeOut r = [92] ++ Lib.encodeRune r := by unfold runeOut; rw [if_pos h]; rfl
theorem runeOut_ctl {r : Int} (h : ¬ (r = 34 ∨ r = 92)) (h2 : r < 32 ∨ r = 127) : runeOut r = [32] := by unfold runeOut; rw [if_neg h, if_pos h2]
theorem runeOut_plain {r : Int} (h : ¬ (r = 34 ∨ r = 92)) (h2 : ¬ (r < 32 ∨ r = 127)) : runeOut r = Lib.encodeRune r := by unfold runeOut; rw [if_neg h, if_neg h2]
theorem encodeRune_le (r : Int) : (Lib.encodeRune r).length ≤ 4 := by
  have := (Lib.runeCells_le r)
  rw [Lib.runeCells_length] at this
  omega
theorem runeOut_le (r : Int) : (runeOut r).length ≤ 5 := by
  have := encodeRune_le r
  unfold runeOut
  split
  · simp; omega
  · split
    · simp
    · omega

set_option maxHeartbeats 4000000 in
set_option maxRecDepth 1000000 in
theorem quote_walk (s : ByteArray) (w : World) (hs : s.size ≤ 1048576) :
    Calls Try.prog 6 #[.string s] w fun e w' => e = .returned (.string ⟨(quote s).toArray⟩) ∧ Below w.heap.size w w' := by
  go_enter Try.func6, Try.ntmps6
  go_wp2_with (go_at_call 11; refine (Try.Builder_Grow_fresh w.heap.size w.heap.size (s.size + 2) _ (Nat.le_refl _) ?c1 ?c2 (by omega)).mono ?_)
  case c1 => exact heap_alloc_new w _
  case c2 => simp
  rintro e w1 ⟨rfl, h1, b1⟩
  have hsz1 : w.heap.size < w1.heap.size := by have := b1.size; simp at this; omega
  have HB1 : Hid (Below w.heap.size w w1) := ((Below.refl _ w).alloc (Nat.le_refl _) _).trans b1
  clear b1
  go_wp2_with (go_at_call 12; refine (Try.Builder_WriteByte_k w.heap.size w.heap.size _ 34 _ (Lib.IsBuilderF.of (Or.inr h1)) (by simp) (by omega)).mono ?_)
  rintro e w2 ⟨rfl, h2, b2, _⟩
  have hsz2 : w.heap.size < w2.heap.size := by have := b2.size; omega
  have HB2 : Hid (Below w.heap.size w w2) := HB1.out.trans b2
  clear b2 HB1 h1 hsz1
  go_wp2
  go_loopw [] (fun wr => ∃ (pos fuel : Nat) (acc : List UInt8), Lib.IsBuilderF 28 5 w.heap.size w.heap.size (Lib.byteCells acc) wr ∧ wr.heap[w2.heap.size]? = some (.stringIter s pos) ∧ Below w.heap.size w wr ∧ acc ++ qFrom s fuel pos = 34 :: qFrom s s.size 0 ∧ s.size ≤ pos + fuel ∧ acc.length + 5 * fuel ≤ 5 * s.size + 1) (fun wr => s.size - wr.iterPos w2.heap.size)
  case atStart =>
    refine ⟨0, s.size, [34], Lib.IsBuilderF.alloc (Or.inr h2) _, ?_, HB2.out.alloc (by omega) _, rfl, by omega, by simp only [List.length_cons, List.length_nil]; omega⟩
    have := World.iter_heap w2 s 0
    simpa using this
  case round =>
    obtain ⟨pos, fuel, acc, hI, hit, hbw, hacc, hfu, hal⟩ := hrel
    have hsz : w2.heap.size < wr.heap.size := (Array.getElem?_eq_some_iff.1 hit).1
    have hbK : ¬ w2.heap.size = w.heap.size := by omega
    by_cases hp : pos < s.size
    · obtain ⟨f, rfl⟩ : ∃ f, fuel = f + 1 := ⟨fuel - 1, by omega⟩
      rw [qFrom_step s f pos hp] at hacc
      obtain ⟨r, np, W, hnx, hr0, hr1, hnp, hI2, hit2, hbw2, hsz3, hacc2⟩ : ∃ (r : Int) (np : Nat) (W : World), (∀ ty, (Instr.next (.pointer (some ⟨w2.heap.size, 0, none⟩)) true ty).run Try.prog wr = .ok (.tuple #[.bool true, .int .i64 pos, .int .i32 r]) W) ∧ 0 ≤ r ∧ r ≤ 2147483647 ∧ pos < np ∧
          Lib.IsBuilderF 28 5 w.heap.size w.heap.size (Lib.byteCells acc) W ∧ W.heap[w2.heap.size]? = some (.stringIter s np) ∧ Below w.heap.size w W ∧ w.heap.size ≤ W.heap.size ∧ acc ++ (runeOut r ++ qFrom s f np) = 34 :: qFrom s s.size 0 := by
        have hwd := width_pos s pos hp
        have hd1 := decode_le s pos
        exact ⟨(Utf8.decode s pos).1, pos + (Utf8.decode s pos).2, wr.iterAt w2.heap.size s (pos + (Utf8.decode s pos).2), fun ty => Lib.run_next_any_at wr w2.heap.size s pos ty hit hp, by omega, by omega, by omega,
          hI.iterAt hit _, Lib.iterAt_heap wr w2.heap.size s pos _ hit, Lib.below_iterAt hbw (k := w2.heap.size) (by omega) s _, by rw [Lib.iterAt_size]; omega, hacc⟩
      have HNP : Hid (pos < np ∧ s.size ≤ pos + (f + 1) ∧ acc.length + 5 * (f + 1) ≤ 5 * s.size + 1 ∧ pos < s.size) := ⟨hnp, hfu, hal, hp⟩
      have HI2 : Hid (Lib.IsBuilderF 28 5 w.heap.size w.heap.size (Lib.byteCells acc) W) := hI2
      have HIT : Hid (wr.heap[w2.heap.size]? = some (.stringIter s pos)) := hit
      have HIT2 : Hid (W.heap[w2.heap.size]? = some (.stringIter s np)) := hit2
      have HBW2 : Hid (Below w.heap.size w W) := hbw2
      have HACC : Hid (acc ++ (runeOut r ++ qFrom s f np) = 34 :: qFrom s s.size 0) := hacc2
      have HLA : Hid ((Lib.byteCells acc).length ≤ 10485760) := by unfold Hid; rw [Lib.byteCells_length]; omega
      clear hnp hfu hal hp hI2 hit hit2 hbw2 hacc2 hacc hI hbw h2
      by_cases e1 : r = 34
      · have b1 : (r == 34) = true := by simp [e1]
        have HE : Hid (r = 34) := e1
        clear e1
        go_wp2_with fail
        refine (Try.Builder_WriteByte_k w.heap.size w.heap.size _ 92 _ HI2.out (by have := HLA.out; omega) hsz3).mono ?_
        rintro e W1 ⟨rfl, g1, b1', k1⟩
        have hs1 : w.heap.size ≤ W1.heap.size := by have := b1'.size; omega
        have HG1 : Hid (Lib.IsBuilderF 28 5 w.heap.size w.heap.size (Lib.byteCells acc ++ [.int .u8 92]) W1) := Or.inr g1
        have HBB1 : Hid (Below w.heap.size W W1) := b1'
        have HKK1 : Hid (Lib.OthersKept 5 (some w.heap.size) W W1) := k1
        clear g1 b1' k1
        go_wp2_with fail
        refine (Try.Builder_WriteRune_k w.heap.size w.heap.size _ r (by omega) (by omega) _ HG1.out (by have := HLA.out; rw [List.length_append]; simp only [List.length_cons, List.length_nil]; omega) hs1).mono ?_
        rintro e W2 ⟨rfl, g2, b2', k2⟩
        have HX : Hid (Lib.IsBuilderF 28 5 w.heap.size w.heap.size (Lib.byteCells (acc ++ runeOut r)) W2) := by
          unfold Hid
          rw [runeOut_esc (Or.inl HE.out), ← List.append_assoc, Lib.byteCells_append, Lib.byteCells_append, Lib.byteCells_encodeRune]
          exact Or.inr g2
        have HBB2 : Hid (Below w.heap.size W W2) := HBB1.out.trans b2'
        have HKK2 : Hid (Lib.OthersKept 5 (some w.heap.size) W W2) := HKK1.out.trans k2
        clear g2 b2' k2 HG1 HBB1 HKK1 hs1
        go_wp2
        go_roundw
        case rel =>
          have hn := HNP.out
          have hle := runeOut_le r
          exact ⟨np, f, acc ++ runeOut r, HX.out, (HKK2.out).iter HIT2.out (by omega), HBW2.out.trans (HBB2.out), by rw [List.append_assoc]; exact HACC.out, by omega, by rw [List.length_append]; omega⟩
        case measure =>
          have h1 := HNP.out
          have h2 := HIT.out
          have h3 := (HKK2.out).iter HIT2.out (by omega)
          simp only [World.iterPos, h2, h3]
          omega
      have b1 : (r == 34) = false := by simp [e1]
      by_cases e2 : r = 92
      · have b2 : (r == 92) = true := by simp [e2]
        have HE : Hid (r = 92) := e2
        clear e1 e2
        go_wp2_with fail
        refine (Try.Builder_WriteByte_k w.heap.size w.heap.size _ 92 _ HI2.out (by have := HLA.out; omega) hsz3).mono ?_
        rintro e W1 ⟨rfl, g1, b1', k1⟩
        have hs1 : w.heap.size ≤ W1.heap.size := by have := b1'.size; omega
        have HG1 : Hid (Lib.IsBuilderF 28 5 w.heap.size w.heap.size (Lib.byteCells acc ++ [.int .u8 92]) W1) := Or.inr g1
        have HBB1 : Hid (Below w.heap.size W W1) := b1'
        have HKK1 : Hid (Lib.OthersKept 5 (some w.heap.size) W W1) := k1
        clear g1 b1' k1
        go_wp2_with fail
        refine (Try.Builder_WriteRune_k w.heap.size w.heap.size _ r (by omega) (by omega) _ HG1.out (by have := HLA.out; rw [List.length_append]; simp only [List.length_cons, List.length_nil]; omega) hs1).mono ?_
        rintro e W2 ⟨rfl, g2, b2', k2⟩
        have HX : Hid (Lib.IsBuilderF 28 5 w.heap.size w.heap.size (Lib.byteCells (acc ++ runeOut r)) W2) := by
          unfold Hid
          rw [runeOut_esc (Or.inr HE.out), ← List.append_assoc, Lib.byteCells_append, Lib.byteCells_append, Lib.byteCells_encodeRune]
          exact Or.inr g2
        have HBB2 : Hid (Below w.heap.size W W2) := HBB1.out.trans b2'
        have HKK2 : Hid (Lib.OthersKept 5 (some w.heap.size) W W2) := HKK1.out.trans k2
        clear g2 b2' k2 HG1 HBB1 HKK1 hs1
        go_wp2
        go_roundw
        case rel =>
          have hn := HNP.out
          have hle := runeOut_le r
          exact ⟨np, f, acc ++ runeOut r, HX.out, (HKK2.out).iter HIT2.out (by omega), HBW2.out.trans (HBB2.out), by rw [List.append_assoc]; exact HACC.out, by omega, by rw [List.length_append]; omega⟩
        case measure =>
          have h1 := HNP.out
          have h2 := HIT.out
          have h3 := (HKK2.out).iter HIT2.out (by omega)
          simp only [World.iterPos, h2, h3]
          omega
      have b2 : (r == 92) = false := by simp [e2]
      have HE : Hid (¬ (r = 34 ∨ r = 92)) := fun h => h.elim e1 e2
      clear e1 e2
      by_cases e3 : r < 32
      · have HE2 : Hid (r < 32) := e3
        go_wp2_with fail
        refine (Try.Builder_WriteByte_k w.heap.size w.heap.size _ 32 _ HI2.out (by have := HLA.out; omega) hsz3).mono ?_
        rintro e W2 ⟨rfl, g2, b2', k2⟩
        have HX : Hid (Lib.IsBuilderF 28 5 w.heap.size w.heap.size (Lib.byteCells (acc ++ runeOut r)) W2) := by
          unfold Hid
          rw [runeOut_ctl (HE.out) (Or.inl HE2.out), Lib.byteCells_append]
          exact Or.inr g2
        have HBB2 : Hid (Below w.heap.size W W2) := b2'
        have HKK2 : Hid (Lib.OthersKept 5 (some w.heap.size) W W2) := k2
        clear g2 b2' k2
        go_wp2
        go_roundw
        case rel =>
          have hn := HNP.out
          have hle := runeOut_le r
          exact ⟨np, f, acc ++ runeOut r, HX.out, (HKK2.out).iter HIT2.out (by omega), HBW2.out.trans (HBB2.out), by rw [List.append_assoc]; exact HACC.out, by omega, by rw [List.length_append]; omega⟩
        case measure =>
          have h1 := HNP.out
          have h2 := HIT.out
          have h3 := (HKK2.out).iter HIT2.out (by omega)
          simp only [World.iterPos, h2, h3]
          omega
      by_cases e4 : r = 127
      · have b4 : (r == 127) = true := by simp [e4]
        have HE2 : Hid (r = 127) := e4
        clear e4
        go_wp2_with fail
        refine (Try.Builder_WriteByte_k w.heap.size w.heap.size _ 32 _ HI2.out (by have := HLA.out; omega) hsz3).mono ?_
        rintro e W2 ⟨rfl, g2, b2', k2⟩
        have HX : Hid (Lib.IsBuilderF 28 5 w.heap.size w.heap.size (Lib.byteCells (acc ++ runeOut r)) W2) := by
          unfold Hid
          rw [runeOut_ctl (HE.out) (Or.inr HE2.out), Lib.byteCells_append]
          exact Or.inr g2
        have HBB2 : Hid (Below w.heap.size W W2) := b2'
        have HKK2 : Hid (Lib.OthersKept 5 (some w.heap.size) W W2) := k2
        clear g2 b2' k2
        go_wp2
        go_roundw
        case rel =>
          have hn := HNP.out
          have hle := runeOut_le r
          exact ⟨np, f, acc ++ runeOut r, HX.out, (HKK2.out).iter HIT2.out (by omega), HBW2.out.trans (HBB2.out), by rw [List.append_assoc]; exact HACC.out, by omega, by rw [List.length_append]; omega⟩
        case measure =>
          have h1 := HNP.out
          have h2 := HIT.out
          have h3 := (HKK2.out).iter HIT2.out (by omega)
          simp only [World.iterPos, h2, h3]
          omega
      have b4 : (r == 127) = false := by simp [e4]
      have HE2 : Hid (¬ (r < 32 ∨ r = 127)) := fun h => h.elim e3 e4
      clear e4
      go_wp2_with fail
      refine (Try.Builder_WriteRune_k w.heap.size w.heap.size _ r (by omega) (by omega) _ HI2.out (by have := HLA.out; omega) hsz3).mono ?_
      rintro e W2 ⟨rfl, g2, b2', k2⟩
      have HX : Hid (Lib.IsBuilderF 28 5 w.heap.size w.heap.size (Lib.byteCells (acc ++ runeOut r)) W2) := by
        unfold Hid
        rw [runeOut_plain (HE.out) (HE2.out), Lib.byteCells_append, Lib.byteCells_encodeRune]
        exact Or.inr g2
      have HBB2 : Hid (Below w.heap.size W W2) := b2'
      have HKK2 : Hid (Lib.OthersKept 5 (some w.heap.size) W W2) := k2
      clear g2 b2' k2
      go_wp2
      go_roundw
      case rel =>
        have hn := HNP.out
        have hle := runeOut_le r
        exact ⟨np, f, acc ++ runeOut r, HX.out, (HKK2.out).iter HIT2.out (by omega), HBW2.out.trans (HBB2.out), by rw [List.append_assoc]; exact HACC.out, by omega, by rw [List.length_append]; omega⟩
      case measure =>
        have h1 := HNP.out
        have h2 := HIT.out
        have h3 := (HKK2.out).iter HIT2.out (by omega)
        simp only [World.iterPos, h2, h3]
        omega
    · have hnx : ∀ ty, (Instr.next (.pointer (some ⟨w2.heap.size, 0, none⟩)) true ty).run Try.prog wr = _ := fun ty => Lib.run_next_end_at wr w2.heap.size s pos ty hit hp
      rw [qFrom_end s fuel pos hp, List.append_nil] at hacc
      have HI : Hid (Lib.IsBuilderF 28 5 w.heap.size w.heap.size (Lib.byteCells acc) wr) := hI
      have HBW : Hid (Below w.heap.size w wr) := hbw
      have HACC : Hid (acc ++ [34] = quote s) := by unfold Hid quote; rw [hacc]; rfl
      have HLA : Hid ((Lib.byteCells acc).length ≤ 10485760) := by
        unfold Hid
        rw [Lib.byteCells_length]
        omega
      clear hI hit hbw hacc hfu hal h2
      go_wp2_with fail
      refine (Try.Builder_WriteByte_k w.heap.size w.heap.size _ 34 _ HI.out (by have := HLA.out; omega) (by omega)).mono ?_
      rintro e W1 ⟨rfl, g1, b1, k1⟩
      have hs1 : w.heap.size ≤ W1.heap.size := by have := b1.size; omega
      have HG1 : Hid (Lib.IsBuilderF 28 5 w.heap.size w.heap.size (Lib.byteCells (quote s)) W1) := by
        unfold Hid
        rw [← HACC.out, Lib.byteCells_append]
        exact Or.inr g1
      have HB1 : Hid (Below w.heap.size w W1) := HBW.out.trans b1
      clear g1 b1 k1
      go_wp2_with fail
      refine (Try.Builder_String_any_k w.heap.size w.heap.size (quote s) _ HG1.out hs1).mono ?_
      rintro e W2 ⟨rfl, _, b2, _⟩
      have HB2 : Hid (Below w.heap.size w W2) := HB1.out.trans b2
      clear b2
      go_wp2
      go_ret
      exact ⟨rfl, HB2.out⟩

end Go.Proofs.Qxb6627869a
