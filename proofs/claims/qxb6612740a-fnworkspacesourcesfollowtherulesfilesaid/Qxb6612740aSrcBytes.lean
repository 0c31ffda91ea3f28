import Derived.Test.Qxb6612740aRows
import Derived.WalkKit
import Derived.ProofKit
import Derived.WalkSpells
namespace Go.Proofs.Qxb6612740a.srcWalks
open Go.ChangeShapes Go.WideShapes Go.ChangeAt Go.RowKit

/-- Function 8, the bound on total length: at most 1048576 bytes in all: true. -/
theorem bytes_yes (a0 a1 : ByteArray) (a2 a3 : Int) (a4 a5 : ByteArray) (a6 a7 : Int) (w : World) (h : a0.size + a1.size + a4.size + a5.size ≤ 1048576) :
    Calls Try.prog 8 #[.string a0, .string a1, .int .i64 a2, .int .i64 a3, .string a4, .string a5, .int .i64 a6, .int .i64 a7] w fun e w' => e = .returned (.bool true) ∧ w' = w := by
  have h0 : (a0.size : Int) ≤ 1048576 := by omega
  have h1 : (a1.size : Int) ≤ 1048576 := by omega
  have h2 : (a0.size : Int) + a1.size ≤ 1048576 := by omega
  have h4 : (a4.size : Int) ≤ 1048576 := by omega
  have h5 : (a0.size : Int) + a1.size + a4.size ≤ 1048576 := by omega
  have h6 : (a5.size : Int) ≤ 1048576 := by omega
  have h7 : (a0.size : Int) + a1.size + a4.size + a5.size ≤ 1048576 := by omega
  go_enter Try.func8, Try.ntmps8
  go_wp2
  go_ret
  exact ⟨rfl, rfl⟩

/-- Function 8: more than 1048576 bytes in all: false. -/
theorem bytes_no (a0 a1 : ByteArray) (a2 a3 : Int) (a4 a5 : ByteArray) (a6 a7 : Int) (w : World) (h : ¬ a0.size + a1.size + a4.size + a5.size ≤ 1048576) :
    Calls Try.prog 8 #[.string a0, .string a1, .int .i64 a2, .int .i64 a3, .string a4, .string a5, .int .i64 a6, .int .i64 a7] w fun e w' => e = .returned (.bool false) ∧ w' = w := by
  by_cases h0 : (a0.size : Int) ≤ 1048576
  · by_cases h1 : (a1.size : Int) ≤ 1048576
    · by_cases h2 : (a0.size : Int) + a1.size ≤ 1048576
      · by_cases h4 : (a4.size : Int) ≤ 1048576
        · by_cases h5 : (a0.size : Int) + a1.size + a4.size ≤ 1048576
          · by_cases h6 : (a5.size : Int) ≤ 1048576
            · have h7 : 1048576 < (a0.size : Int) + a1.size + a4.size + a5.size := by omega
              clear h
              go_enter Try.func8, Try.ntmps8
              go_wp2
              go_ret
              exact ⟨rfl, rfl⟩
            · have h7 : 1048576 < (a5.size : Int) := by omega
              clear h h6
              go_enter Try.func8, Try.ntmps8
              go_wp2
              go_ret
              exact ⟨rfl, rfl⟩
          · have h7 : 1048576 < (a0.size : Int) + a1.size + a4.size := by omega
            clear h h5
            go_enter Try.func8, Try.ntmps8
            go_wp2
            go_ret
            exact ⟨rfl, rfl⟩
        · have h7 : 1048576 < (a4.size : Int) := by omega
          clear h h4
          go_enter Try.func8, Try.ntmps8
          go_wp2
          go_ret
          exact ⟨rfl, rfl⟩
      · have h7 : 1048576 < (a0.size : Int) + a1.size := by omega
        clear h h2
        go_enter Try.func8, Try.ntmps8
        go_wp2
        go_ret
        exact ⟨rfl, rfl⟩
    · have h7 : 1048576 < (a1.size : Int) := by omega
      clear h h1
      go_enter Try.func8, Try.ntmps8
      go_wp2
      go_ret
      exact ⟨rfl, rfl⟩
  · have h7 : 1048576 < (a0.size : Int) := by omega
    clear h h0
    go_enter Try.func8, Try.ntmps8
    go_wp2
    go_ret
    exact ⟨rfl, rfl⟩

end Go.Proofs.Qxb6612740a.srcWalks
