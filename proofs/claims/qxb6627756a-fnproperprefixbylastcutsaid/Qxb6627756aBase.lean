/-
  Contracts of the small functions on the roads of both statements: what each returns, read off the strings that its two slices hold.
-/
import Derived.Test.Qxb6627756aRows
import Derived.WalkKit
import Derived.WalkSpells
import Derived.WalkLawsBesides
import Derived.Deep.QuietTactic
import Derived.BigQuiet
import Derived.Handy
namespace Go.Proofs.Qxb6627756a
open Go.RowKit

/-- The slice value '.slice a n _' shows the strings ss in the world w. -/
def View (w : World) (a : Option Addr) (n : Nat) (ss : List ByteArray) : Prop :=
  ss.length = n ∧ (n = 0 ∨ ∃ b off, a = some ⟨b, off, none⟩ ∧ ∀ i, i < n → w.cell? ⟨b, off + i, none⟩ = some (.string (ss.getD i ByteArray.empty)))

/-- Proper prefix, on lists. -/
def pp (p q : List ByteArray) : Bool := decide (p.length < q.length) && decide (q.take p.length = p)
/-- The same strings. -/
def same (p q : List ByteArray) : Bool := decide (p = q)

theorem toList_inj {s t : ByteArray} (h : s.toList = t.toList) : s = t := by
  rw [ByteArray.toList_eq, ByteArray.toList_eq] at h
  cases s; cases t; simp at h; simp [h]
theorem take_step {p q : List ByteArray} {k : Nat} (h : q.take k = p.take k) (hp : k < p.length) (hq : k < q.length) (e : p.getD k ByteArray.empty = q.getD k ByteArray.empty) : q.take (k + 1) = p.take (k + 1) := by
  rw [List.take_succ_eq_append_getElem hp, List.take_succ_eq_append_getElem hq, h]
  simp [List.getD, hp, hq] at e
  rw [e]
theorem ne_at {p q : List ByteArray} {k : Nat} (hp : k < p.length) (e : ¬ p.getD k ByteArray.empty = q.getD k ByteArray.empty) : ¬ q.take p.length = p := by
  intro h
  apply e
  have h2 : (q.take p.length)[k]? = p[k]? := by rw [h]
  rw [List.getElem?_take_of_lt hp] at h2
  simp [List.getD, h2]
theorem pp_no {p q : List ByteArray} {k : Nat} (hp : k < p.length) (e : ¬ p.getD k ByteArray.empty = q.getD k ByteArray.empty) : pp p q = false := by
  simp [pp, ne_at hp e]
theorem pp_yes {p q : List ByteArray} (hl : p.length < q.length) (h : q.take p.length = p.take p.length) : pp p q = true := by
  simp [pp, hl, h]
theorem pp_ge {p q : List ByteArray} (hl : q.length ≤ p.length) : pp p q = false := by
  simp [pp]; omega
theorem same_no {p q : List ByteArray} {k : Nat} (e : ¬ p.getD k ByteArray.empty = q.getD k ByteArray.empty) : same p q = false := by
  simp only [same, decide_eq_false_iff_not]
  intro h; subst h; exact e rfl
theorem same_yes {p q : List ByteArray} (hl : p.length = q.length) (h : q.take p.length = p.take p.length) : same p q = true := by
  rw [List.take_length, List.take_of_length_le (by omega)] at h
  simp [same, h]
theorem same_len {p q : List ByteArray} (hl : ¬ p.length = q.length) : same p q = false := by
  simp only [same, decide_eq_false_iff_not]
  intro h; subst h; exact hl rfl
theorem neg_eq {s t : ByteArray} (h : (!s.toList == t.toList) = true) : ¬ s = t := by
  intro e; subst e; simp at h
theorem neg_ne {s t : ByteArray} (h : (!s.toList == t.toList) = false) : s = t := by
  simp at h; exact toList_inj h

theorem View.drewN {w : World} {a : Option Addr} {n : Nat} {ss : List ByteArray} (h : View w a n ss) (m : Nat) : View (w.drewN m) a n ss := by
  obtain ⟨h1, h2⟩ := h
  refine ⟨h1, ?_⟩
  rcases h2 with h2 | ⟨b, off, h2, h3⟩
  · exact .inl h2
  · exact .inr ⟨b, off, h2, fun i hi => by simpa using h3 i hi⟩

set_option maxHeartbeats 400000 in
theorem prefix_ge (a1 a2 : Option Addr) (n1 n2 c1 c2 : Nat) (w : World) (h : n2 ≤ n1) :
    Calls Try.prog 10 #[.slice a1 n1 c1, .slice a2 n2 c2] w fun e w' => e = .returned (.bool false) ∧ ∃ m, w' = w.drewN m := by
  go_enter Try.func10, Try.ntmps10
  go_wp2
  go_ret
  exact ⟨rfl, 0, rfl⟩

set_option maxHeartbeats 400000 in
theorem prefix_empty (a1 a2 : Option Addr) (n2 c1 c2 : Nat) (w : World) (h : 0 < n2) :
    Calls Try.prog 10 #[.slice a1 0 c1, .slice a2 n2 c2] w fun e w' => e = .returned (.bool true) ∧ ∃ m, w' = w.drewN m := by
  go_enter Try.func10, Try.ntmps10
  go_wp2
  refine wp_loop_rounds 1 ?_
  rw [rounds_succ]
  go_wp2
  go_ret
  exact ⟨rfl, 0, rfl⟩

set_option maxHeartbeats 800000 in
theorem prefix_both (b1 o1 b2 o2 : Nat) (n1 n2 c1 c2 : Nat) (p q : List ByteArray) (w : World) (h : n1 < n2) (hm : n2 ≤ 1048576) (hp : p.length = n1) (hq : q.length = n2)
    (e1 : ∀ i, i < n1 → w.cell? ⟨b1, o1 + i, none⟩ = some (.string (p.getD i ByteArray.empty)))
    (e2 : ∀ i, i < n2 → w.cell? ⟨b2, o2 + i, none⟩ = some (.string (q.getD i ByteArray.empty))) :
    Calls Try.prog 10 #[.slice (some ⟨b1, o1, none⟩) n1 c1, .slice (some ⟨b2, o2, none⟩) n2 c2] w fun e w' => e = .returned (.bool (pp p q)) ∧ ∃ m, w' = w.drewN m := by
  go_enter Try.func10, Try.ntmps10
  go_wp2
  go_loopw [13] (fun i wr => ∃ k m : Nat, k ≤ n1 ∧ i = .int .i64 k ∧ wr = w.drewN m ∧ q.take k = p.take k) (fun i _ => n1 - (intOf i).toNat)
  case atStart => exact ⟨0, 0, Nat.zero_le _, rfl, rfl, rfl⟩
  case round =>
    obtain ⟨k, m, hk, rfl, rfl, ht⟩ := hrel
    have HT : Hid (q.take k = p.take k) := ht
    clear ht
    by_cases hlt : k < n1
    · obtain ⟨s1, hs1⟩ : ∃ s, s = p.getD k ByteArray.empty := ⟨_, rfl⟩
      obtain ⟨s2, hs2⟩ : ∃ s, s = q.getD k ByteArray.empty := ⟨_, rfl⟩
      have g1 := e1 k hlt
      have g2 := e2 k (by omega)
      rw [← hs1] at g1
      rw [← hs2] at g2
      have H1 : Hid (s1 = p.getD k ByteArray.empty) := hs1
      have H2 : Hid (s2 = q.getD k ByteArray.empty) := hs2
      have H3 : Hid (p.length = n1 ∧ q.length = n2) := ⟨hp, hq⟩
      clear hs1 hs2 e1 e2 hp hq
      have hlt1 : (k : Int) < (n1 : Int) := by omega
      have hlt2 : (k : Int) < (n2 : Int) := by omega
      go_wp2
      go_quiet (fail)
      go_wp2
      · go_ret
        have hne : (!s1.toList == s2.toList) = true := by assumption
        have hno := neg_eq hne
        rw [H1.out, H2.out] at hno
        rw [pp_no (by rw [H3.out.1]; exact hlt) hno]
        exact ⟨rfl, m + nq, by simp⟩
      · have hne : (!s1.toList == s2.toList) = false := by assumption
        have hno := neg_ne hne
        rw [H1.out, H2.out] at hno
        go_roundw
        case rel => exact ⟨k + 1, _, by omega, by go_num, rfl, take_step HT.out (by rw [H3.out.1]; exact hlt) (by rw [H3.out.2]; omega) hno⟩
        case measure => simp [intOf]; omega
    · go_wp2
      go_ret
      have hk' : k = p.length := by omega
      have ht := HT.out
      rw [hk'] at ht
      rw [pp_yes (by omega) ht]
      exact ⟨rfl, _, rfl⟩

theorem prefix_any (a1 a2 : Option Addr) (n1 n2 c1 c2 : Nat) (p q : List ByteArray) (w : World) (hm : n2 ≤ 1048576) (h1 : View w a1 n1 p) (h2 : View w a2 n2 q) :
    Calls Try.prog 10 #[.slice a1 n1 c1, .slice a2 n2 c2] w fun e w' => e = .returned (.bool (pp p q)) ∧ ∃ m, w' = w.drewN m := by
  by_cases hge : n2 ≤ n1
  · rw [pp_ge (by rw [h1.1, h2.1]; exact hge)]
    exact prefix_ge a1 a2 n1 n2 c1 c2 w hge
  · rcases h1 with ⟨l1, rfl | ⟨b1, o1, rfl, e1⟩⟩
    · obtain rfl : p = [] := List.eq_nil_of_length_eq_zero l1
      rw [show pp [] q = true from pp_yes (by simp [h2.1]; omega) (by simp)]
      exact prefix_empty a1 a2 n2 c1 c2 w (by omega)
    · rcases h2 with ⟨l2, rfl | ⟨b2, o2, rfl, e2⟩⟩
      · omega
      · exact prefix_both b1 o1 b2 o2 n1 n2 c1 c2 p q w (by omega) hm l1 l2 e1 e2

set_option maxHeartbeats 400000 in
theorem zzprefix_any (a1 a2 : Option Addr) (n1 n2 c1 c2 : Nat) (p q : List ByteArray) (w : World) (hm : n2 ≤ 1048576) (h1 : View w a1 n1 p) (h2 : View w a2 n2 q) :
    Calls Try.prog 7 #[.slice a1 n1 c1, .slice a2 n2 c2] w fun e w' => e = .returned (.bool (pp p q)) ∧ ∃ m, w' = w.drewN m := by
  have hc := prefix_any a1 a2 n1 n2 c1 c2 p q w hm h1 h2
  have HC : Hid (Calls Try.prog 10 #[.slice a1 n1 c1, .slice a2 n2 c2] w fun e w' => e = .returned (.bool (pp p q)) ∧ ∃ m, w' = w.drewN m) := hc
  clear hc
  generalize pp p q = r at HC ⊢
  clear h1 h2
  go_enter Try.func7, Try.ntmps7
  go_wp2_with (go_at_call 10; refine (HC.out).mono ?_; rintro e w' ⟨rfl, m, rfl⟩)
  go_ret
  exact ⟨rfl, _, rfl⟩

/-! ### zzSameTokens -/
set_option maxHeartbeats 400000 in
theorem same_ne (a1 a2 : Option Addr) (n1 n2 c1 c2 : Nat) (w : World) (h : ((n1 : Int) != (n2 : Int)) = true) :
    Calls Try.prog 9 #[.slice a1 n1 c1, .slice a2 n2 c2] w fun e w' => e = .returned (.bool false) ∧ ∃ m, w' = w.drewN m := by
  go_enter Try.func9, Try.ntmps9
  go_wp2
  go_ret
  exact ⟨rfl, 0, rfl⟩

set_option maxHeartbeats 400000 in
theorem same_empty (a1 a2 : Option Addr) (c1 c2 : Nat) (w : World) :
    Calls Try.prog 9 #[.slice a1 0 c1, .slice a2 0 c2] w fun e w' => e = .returned (.bool true) ∧ ∃ m, w' = w.drewN m := by
  go_enter Try.func9, Try.ntmps9
  go_wp2
  refine wp_loop_rounds 1 ?_
  rw [rounds_succ]
  go_wp2
  go_ret
  exact ⟨rfl, 0, rfl⟩

set_option maxHeartbeats 800000 in
theorem same_both (b1 o1 b2 o2 : Nat) (n c1 c2 : Nat) (p q : List ByteArray) (w : World) (hm : n ≤ 1048576) (hp : p.length = n) (hq : q.length = n)
    (e1 : ∀ i, i < n → w.cell? ⟨b1, o1 + i, none⟩ = some (.string (p.getD i ByteArray.empty)))
    (e2 : ∀ i, i < n → w.cell? ⟨b2, o2 + i, none⟩ = some (.string (q.getD i ByteArray.empty))) :
    Calls Try.prog 9 #[.slice (some ⟨b1, o1, none⟩) n c1, .slice (some ⟨b2, o2, none⟩) n c2] w fun e w' => e = .returned (.bool (same p q)) ∧ ∃ m, w' = w.drewN m := by
  go_enter Try.func9, Try.ntmps9
  go_wp2
  go_loopw [5] (fun i wr => ∃ k m : Nat, k ≤ n ∧ i = .int .i64 k ∧ wr = w.drewN m ∧ q.take k = p.take k) (fun i _ => n - (intOf i).toNat)
  case atStart => exact ⟨0, 0, Nat.zero_le _, rfl, rfl, rfl⟩
  case round =>
    obtain ⟨k, m, hk, rfl, rfl, ht⟩ := hrel
    have HT : Hid (q.take k = p.take k) := ht
    clear ht
    by_cases hlt : k < n
    · obtain ⟨s1, hs1⟩ : ∃ s, s = p.getD k ByteArray.empty := ⟨_, rfl⟩
      obtain ⟨s2, hs2⟩ : ∃ s, s = q.getD k ByteArray.empty := ⟨_, rfl⟩
      have g1 := e1 k hlt
      have g2 := e2 k hlt
      rw [← hs1] at g1
      rw [← hs2] at g2
      have H1 : Hid (s1 = p.getD k ByteArray.empty) := hs1
      have H2 : Hid (s2 = q.getD k ByteArray.empty) := hs2
      have H3 : Hid (p.length = n ∧ q.length = n) := ⟨hp, hq⟩
      clear hs1 hs2 e1 e2 hp hq
      have hlt1 : (k : Int) < (n : Int) := by omega
      go_wp2
      go_quiet (fail)
      go_wp2
      · go_ret
        have hne : (!s1.toList == s2.toList) = true := by assumption
        have hno := neg_eq hne
        rw [H1.out, H2.out] at hno
        rw [same_no hno]
        exact ⟨rfl, m + nq, by simp⟩
      · have hne : (!s1.toList == s2.toList) = false := by assumption
        have hno := neg_ne hne
        rw [H1.out, H2.out] at hno
        go_roundw
        case rel => exact ⟨k + 1, _, by omega, by go_num, rfl, take_step HT.out (by rw [H3.out.1]; exact hlt) (by rw [H3.out.2]; omega) hno⟩
        case measure => simp [intOf]; omega
    · go_wp2
      go_ret
      have hk' : k = p.length := by omega
      have ht := HT.out
      rw [hk'] at ht
      rw [same_yes (by omega) ht]
      exact ⟨rfl, _, rfl⟩

theorem same_any (a1 a2 : Option Addr) (n1 n2 c1 c2 : Nat) (p q : List ByteArray) (w : World) (hm : n2 ≤ 1048576) (h1 : View w a1 n1 p) (h2 : View w a2 n2 q) :
    Calls Try.prog 9 #[.slice a1 n1 c1, .slice a2 n2 c2] w fun e w' => e = .returned (.bool (same p q)) ∧ ∃ m, w' = w.drewN m := by
  by_cases hge : n1 = n2
  · subst hge
    rcases h1 with ⟨l1, rfl | ⟨b1, o1, rfl, e1⟩⟩
    · obtain rfl : p = [] := List.eq_nil_of_length_eq_zero l1
      obtain rfl : q = [] := List.eq_nil_of_length_eq_zero h2.1
      rw [show same [] [] = true from same_yes rfl (by simp)]
      exact same_empty a1 a2 c1 c2 w
    · rcases h2 with ⟨l2, rfl | ⟨b2, o2, rfl, e2⟩⟩
      · obtain rfl : p = [] := List.eq_nil_of_length_eq_zero l1
        obtain rfl : q = [] := List.eq_nil_of_length_eq_zero l2
        rw [show same [] [] = true from same_yes rfl (by simp)]
        exact same_empty _ a2 c1 c2 w
      · exact same_both b1 o1 b2 o2 n1 c1 c2 p q w hm l1 l2 e1 e2
  · rw [same_len (by rw [h1.1, h2.1]; exact hge)]
    exact same_ne a1 a2 n1 n2 c1 c2 w (by rw [bne_iff_ne]; omega)

end Go.Proofs.Qxb6627756a
