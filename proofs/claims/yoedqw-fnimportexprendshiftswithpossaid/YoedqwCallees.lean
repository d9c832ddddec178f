/-
  THE CALLEES OF THE THREE LAWS ON parser.ImportExpr, a contract each: the three 'zzBytes_..' guards, Pos, End, String. And the plain facts on int's wrap and on byte strings that the laws want: no Go in sight.
-/
import Derived.Test.YoedqwRows
import Derived.WalkKit
import Derived.WalkSpells
import Derived.ProofKit
import Derived.BigQuiet
import Derived.RowKit3
namespace Go.Proofs.Yoedqw.Callee
open Go.RowKit

/-! ### PLAIN FACTS -/
/-- Within int's range the wrap does nothing. -/
theorem wrap64_in (x : Int) (lo : -9223372036854775808 ≤ x) (hi : x ≤ 9223372036854775807) : wrap64 x = x := by
  unfold wrap64
  omega

/-- Draws turn nothing that was there. -/
theorem grown_drewN {W w' : World} (h : Grown W w') (n : Nat) : Grown W (w'.drewN n) := h

/-- The eight bytes that stand ahead of the name. -/
def head : ByteArray := ⟨#[105, 109, 112, 111, 114, 116, 40, 34]⟩
/-- The two bytes behind it. -/
def tail : ByteArray := ⟨#[34, 41]⟩
/-- What String prints. -/
def printed (s : ByteArray) : ByteArray := head ++ s ++ tail

theorem head_size : head.size = 8 := rfl
theorem tail_size : tail.size = 2 := rfl
theorem head_bytes : (head.toList == [105, 109, 112, 111, 114, 116, 40, 34]) = true := by decide +kernel
theorem tail_bytes : (tail.toList == [34, 41]) = true := by decide +kernel
theorem printed_size (s : ByteArray) : (printed s).size = s.size + 10 := by
  simp only [printed, ByteArray.size_append, head_size, tail_size]
  omega
theorem printed_head (s : ByteArray) : (printed s).extract 0 8 = head := by
  unfold printed
  rw [ByteArray.append_assoc]
  exact ByteArray.extract_append_eq_left head_size.symm
theorem printed_tail (s : ByteArray) : (printed s).extract (s.size + 8) (s.size + 10) = tail := by
  unfold printed
  refine ByteArray.extract_append_eq_right ?_ ?_ <;> simp only [ByteArray.size_append, head_size, tail_size] <;> omega
theorem printed_mid (s : ByteArray) : (printed s).extract 8 (s.size + 8) = s := by
  unfold printed
  have e : s.size + 8 = (head ++ s).size := by simp only [ByteArray.size_append, head_size]; omega
  rw [e, ByteArray.extract_append_size_left]
  exact ByteArray.extract_append_eq_right head_size.symm (by simp only [ByteArray.size_append])

/-! ### THE WALKS -/
/-- 'Pos' reads the third field. -/
theorem pos_any (b : Nat) (p : Int) (w : World) (h2 : w.cell? ⟨b, 2, none⟩ = some (.int .i64 p)) :
    Calls Edqg.prog 9 #[.pointer (some ⟨b, 0, none⟩)] w fun e w' => e = .returned (.int .i64 p) ∧ w' = w := by
  go_enter Edqg.func9, Edqg.ntmps9
  go_wp2
  go_ret
  exact ⟨rfl, rfl⟩

/-- 'String' prints the frame round the first field. -/
theorem string_any (b : Nat) (s : ByteArray) (w : World) (hs : s.size ≤ 1048576) (h0 : w.cell? ⟨b, 0, none⟩ = some (.string s)) :
    Calls Edqg.prog 7 #[.pointer (some ⟨b, 0, none⟩)] w fun e w' => e = .returned (.string (printed s)) ∧ w' = w := by
  go_enter Edqg.func7, Edqg.ntmps7
  go_wp2
  go_ret
  exact ⟨rfl, rfl⟩

/-- 'End': its region draws its order, and only reads. -/
theorem end_wraps (b : Nat) (s : ByteArray) (p : Int) (w : World) (h0 : w.cell? ⟨b, 0, none⟩ = some (.string s)) (h2 : w.cell? ⟨b, 2, none⟩ = some (.int .i64 p)) :
    Calls Edqg.prog 10 #[.pointer (some ⟨b, 0, none⟩)] w fun e w' => e = .returned (.int .i64 (wrap64 (wrap64 (p + 10) + s.size))) ∧ ∃ n, w' = w.drewN n := by
  go_enter Edqg.func10, Edqg.ntmps10
  go_wp2
  go_quiet (fail)
  go_wp2
  go_ret
  exact ⟨rfl, _, rfl⟩

/-- 'End' where no int overflows. -/
theorem end_any (b : Nat) (s : ByteArray) (p : Int) (w : World) (lo : -9223372036854775808 ≤ p) (hi : p + 10 + s.size ≤ 9223372036854775807) (h0 : w.cell? ⟨b, 0, none⟩ = some (.string s)) (h2 : w.cell? ⟨b, 2, none⟩ = some (.int .i64 p)) :
    Calls Edqg.prog 10 #[.pointer (some ⟨b, 0, none⟩)] w fun e w' => e = .returned (.int .i64 (p + 10 + s.size)) ∧ ∃ n, w' = w.drewN n := by
  refine (end_wraps b s p w h0 h2).mono ?_
  rintro e w' ⟨he, hw⟩
  refine ⟨?_, hw⟩
  rw [he, wrap64_in (p + 10) (by omega) (by omega), wrap64_in (p + 10 + s.size) (by omega) (by omega)]

/-- The guard of the first law, at a short name. -/
theorem guard6_yes (s : ByteArray) (a1 a2 a3 a4 : Int) (w : World) (h : s.size ≤ 1048576) :
    Calls Edqg.prog 6 #[.string s, .int .i64 a1, .int .i64 a2, .int .i64 a3, .int .i64 a4] w fun e w' => e = .returned (.bool true) ∧ w' = w := by
  have h' : ¬ (1048576 : Int) < s.size := by omega
  go_enter Edqg.func6, Edqg.ntmps6
  go_wp2
  go_ret
  exact ⟨rfl, rfl⟩
/-- The same guard, at a long name. -/
theorem guard6_no (s : ByteArray) (a1 a2 a3 a4 : Int) (w : World) (h : ¬ s.size ≤ 1048576) :
    Calls Edqg.prog 6 #[.string s, .int .i64 a1, .int .i64 a2, .int .i64 a3, .int .i64 a4] w fun e w' => e = .returned (.bool false) ∧ w' = w := by
  have h' : (1048576 : Int) < s.size := by omega
  go_enter Edqg.func6, Edqg.ntmps6
  go_wp2
  go_ret
  exact ⟨rfl, rfl⟩

/-- The guard of the second law, at a short name. -/
theorem guard8_yes (s : ByteArray) (a1 a2 : Int) (w : World) (h : s.size ≤ 1048576) :
    Calls Edqg.prog 8 #[.string s, .int .i64 a1, .int .i64 a2] w fun e w' => e = .returned (.bool true) ∧ w' = w := by
  have h' : ¬ (1048576 : Int) < s.size := by omega
  go_enter Edqg.func8, Edqg.ntmps8
  go_wp2
  go_ret
  exact ⟨rfl, rfl⟩
/-- The same guard, at a long name. -/
theorem guard8_no (s : ByteArray) (a1 a2 : Int) (w : World) (h : ¬ s.size ≤ 1048576) :
    Calls Edqg.prog 8 #[.string s, .int .i64 a1, .int .i64 a2] w fun e w' => e = .returned (.bool false) ∧ w' = w := by
  have h' : (1048576 : Int) < s.size := by omega
  go_enter Edqg.func8, Edqg.ntmps8
  go_wp2
  go_ret
  exact ⟨rfl, rfl⟩

/-- The guard of the third law, at a short name. -/
theorem guard11_yes (s : ByteArray) (a1 a2 : Int) (w : World) (h : s.size ≤ 1048576) :
    Calls Edqg.prog 11 #[.string s, .int .i64 a1, .int .i64 a2] w fun e w' => e = .returned (.bool true) ∧ w' = w := by
  have h' : ¬ (1048576 : Int) < s.size := by omega
  go_enter Edqg.func11, Edqg.ntmps11
  go_wp2
  go_ret
  exact ⟨rfl, rfl⟩
/-- The same guard, at a long name. -/
theorem guard11_no (s : ByteArray) (a1 a2 : Int) (w : World) (h : ¬ s.size ≤ 1048576) :
    Calls Edqg.prog 11 #[.string s, .int .i64 a1, .int .i64 a2] w fun e w' => e = .returned (.bool false) ∧ w' = w := by
  have h' : (1048576 : Int) < s.size := by omega
  go_enter Edqg.func11, Edqg.ntmps11
  go_wp2
  go_ret
  exact ⟨rfl, rfl⟩

end Go.Proofs.Yoedqw.Callee
