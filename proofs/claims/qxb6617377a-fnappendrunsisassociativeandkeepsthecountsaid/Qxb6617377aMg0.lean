/-
  blockMerge, both arms; the bounds that the laws look at first.
-/
import Derived.Test.Qxb6617377aBm1
import Derived.Test.Qxb6617377aBm2
namespace Go.Proofs.Qxb6617377a
set_option linter.unusedVariables false
set_option linter.unusedSimpArgs false
open Go.RowKit

theorem block_any (a b : Option Addr) (c d : Nat) (L M : List (Int × Int)) (w : World) (hL : L.length ≤ 65536) (hM : M.length ≤ 65536) (ha : Hid (Ro w a L)) (hb : Hid (Ro w b M))
    (h1 : Hid (∀ p ∈ L, -9223372036854775808 ≤ p.2 ∧ p.2 ≤ 9223372036854775807)) (h2 : Hid (∀ p ∈ M, -9223372036854775808 ≤ p.2 ∧ p.2 ≤ 9223372036854775807)) :
    Calls Try.prog 11 #[.slice a L.length c, .slice b M.length d] w fun e w' => ∃ a' c', e = .returned (.slice a' (apR L M).length c') ∧ Ro w' a' (apR L M) ∧ Below w.heap.size w w' := by
  have hok : ∀ p ∈ L ++ M, -9223372036854775808 ≤ p.2 ∧ p.2 ≤ 9223372036854775807 := by
    intro p hp
    rcases List.mem_append.1 hp with h | h
    · exact h1.out p h
    · exact h2.out p h
  have hs := apR_split L M
  have hsl : sI L ≤ L.length := by unfold sI; omega
  have e1 : (L ++ M).take (sI L) = L.take (sI L) := List.take_append_of_le_length hsl
  have e2 : (apR L M).length = sI L + (apR [] ((L ++ M).drop (sI L))).length := by rw [hs, List.length_append, List.length_take]; omega
  rw [e2]
  rw [← e1] at hs
  rw [hs]
  by_cases h0 : L.length = 0
  · exact block_nil a b c d L.length (sI L) M.length L M (L ++ M) _ w rfl (hide (by omega)) (hide (by unfold sI; omega)) (by simp; omega) rfl rfl hL hM ha hb hok rfl
  · exact block_ne a b c d L.length (sI L) M.length L M (L ++ M) _ w rfl (by unfold sI; omega) (by unfold sI; omega) rfl rfl hL hM ha hb hok rfl

theorem zz10_no (a b : Option Addr) (n m c d : Nat) (k : Int) (w : World) (h : ¬ n + m ≤ 1048576) : Calls Try.prog 10 #[.slice a n c, .slice b m d, .int .i64 k] w fun e w' => e = .returned (.bool false) ∧ w' = w := by
  by_cases h1 : n ≤ 1048576
  · by_cases h2 : m ≤ 1048576
    · go_enter Try.func10, Try.ntmps10
      go_wp2
      go_ret
      exact ⟨rfl, rfl⟩
    · go_enter Try.func10, Try.ntmps10
      go_wp2
      go_ret
      exact ⟨rfl, rfl⟩
  · go_enter Try.func10, Try.ntmps10
    go_wp2
    go_ret
    exact ⟨rfl, rfl⟩

theorem zz10_yes (a b : Option Addr) (n m c d : Nat) (k : Int) (w : World) (h : n + m ≤ 1048576) : Calls Try.prog 10 #[.slice a n c, .slice b m d, .int .i64 k] w fun e w' => e = .returned (.bool true) ∧ w' = w := by
  go_enter Try.func10, Try.ntmps10
  go_wp2
  go_ret
  exact ⟨rfl, rfl⟩

theorem zz14_no (a b x : Option Addr) (n m k c d f : Nat) (w : World) (h : ¬ n + m + k ≤ 1048576) : Calls Try.prog 14 #[.slice a n c, .slice b m d, .slice x k f] w fun e w' => e = .returned (.bool false) ∧ w' = w := by
  by_cases h1 : n ≤ 1048576
  · by_cases h2 : m ≤ 1048576
    · by_cases h3 : n + m ≤ 1048576
      · by_cases h4 : k ≤ 1048576
        · go_enter Try.func14, Try.ntmps14
          go_wp2
          go_ret
          exact ⟨rfl, rfl⟩
        · go_enter Try.func14, Try.ntmps14
          go_wp2
          go_ret
          exact ⟨rfl, rfl⟩
      · go_enter Try.func14, Try.ntmps14
        go_wp2
        go_ret
        exact ⟨rfl, rfl⟩
    · go_enter Try.func14, Try.ntmps14
      go_wp2
      go_ret
      exact ⟨rfl, rfl⟩
  · go_enter Try.func14, Try.ntmps14
    go_wp2
    go_ret
    exact ⟨rfl, rfl⟩

theorem zz14_yes (a b x : Option Addr) (n m k c d f : Nat) (w : World) (h : n + m + k ≤ 1048576) : Calls Try.prog 14 #[.slice a n c, .slice b m d, .slice x k f] w fun e w' => e = .returned (.bool true) ∧ w' = w := by
  go_enter Try.func14, Try.ntmps14
  go_wp2
  go_ret
  exact ⟨rfl, rfl⟩

end Go.Proofs.Qxb6617377a
