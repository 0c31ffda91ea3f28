import Derived.Test.Qxb6612740aSrcWorlds
import Derived.Test.Qxb6612740aSrcBytes
import Derived.Lib.Builder
namespace Go.Proofs.Qxb6612740a.srcWalks
open Go.ChangeShapes Go.WideShapes Go.ChangeAt Go.RowKit

/-- A pointer to a File against itself, by '!='. -/
theorem same_file (a : Addr) (w : World) : (binOp .neq 28 (.pointer (some a)) (.pointer (some a))).run Try.prog w = .ok (.bool false) w := by
  have hs : (Try.prog.info? 24).isSome = true := by kernel_rfl
  obtain ⟨j, hj⟩ := Option.isSome_iff_exists.mp hs
  exact Lib.run_neq_ptr_same w a Try.underlying28 hj

/-- More than 1048576 bytes in all: the law returns true at once. -/
theorem law_no (a0 : ByteArray) (a1 : ByteArray) (a2 : Int) (a3 : Int) (a4 : ByteArray) (a5 : ByteArray) (a6 : Int) (a7 : Int) (w : World) (h : ¬ a0.size + a1.size + a4.size + a5.size ≤ 1048576) :
    Calls Try.prog 5 #[.string a0, .string a1, .int .i64 a2, .int .i64 a3, .string a4, .string a5, .int .i64 a6, .int .i64 a7] w fun e w' => e = .returned (.bool true) ∧ Grown w w' := by
  go_enter Try.func5, Try.ntmps5
  go_wp2_with fail
  refine (bytes_no _ _ _ _ _ _ _ _ _ h).mono ?_
  rintro e w' ⟨rfl, rfl⟩
  go_wp2
  go_ret
  exact ⟨rfl, Grown.refl _⟩

-- At most 1048576 bytes in all: the two files are laid, the workspace holds the first, then the second; both answers stand at the end as they were given.
set_option maxRecDepth 100000 in
set_option maxHeartbeats 1000000 in
theorem law_yes (a0 : ByteArray) (a1 : ByteArray) (a2 : Int) (a3 : Int) (a4 : ByteArray) (a5 : ByteArray) (a6 : Int) (a7 : Int) (w : World) (h : a0.size + a1.size + a4.size + a5.size ≤ 1048576) :
    Calls Try.prog 5 #[.string a0, .string a1, .int .i64 a2, .int .i64 a3, .string a4, .string a5, .int .i64 a6, .int .i64 a7] w fun e w' => e = .returned (.bool true) ∧ Grown w w' := by
  have h0 : decide (1048576 < (a0.size : Int)) = false := decide_eq_false (by omega)
  have h1 : decide (1048576 < (a1.size : Int)) = false := decide_eq_false (by omega)
  have h4 : decide (1048576 < (a4.size : Int)) = false := decide_eq_false (by omega)
  have h6 : decide (1048576 < (a5.size : Int)) = false := decide_eq_false (by omega)
  have h7 : decide (1048576 < (a0.size : Int) + a1.size + a4.size + a5.size) = false := decide_eq_false (by omega)
  have hz := ahead_size w a0 a1 a2 a3 a4 a5 a6 a7
  have HZ : Hid _ := hz
  have HR : Hid _ := (cell_of_row _ _ 8 _ _ _ (ahead_rules w a0 a1 a2 a3 a4 a5 a6 a7))
  have HP : Hid _ := (cell_of_row _ _ 0 _ _ _ (ahead_first w a0 a1 a2 a3 a4 a5 a6 a7))
  clear hz
  go_enter Try.func5, Try.ntmps5
  go_wp2_with fail
  refine (bytes_yes _ _ _ _ _ _ _ _ w h).mono ?_
  intro e w' hw
  obtain ⟨rfl, hw2⟩ := hw
  rw [hw2]
  clear hw2 w'
  go_wp2_with (first | (refine wpList_store_row rfl 53 _ _ rfl _ _ rfl rfl 53 _ (heap_new_at _ _ _ (by simp)) (by kernel_rfl) rfl (by simp [Value.oneCell']) ?_; rw [setRow_new_at _ _ _ _ _ (by simp)]) | (refine wpList_load_row rfl 53 _ rfl _ rfl 53 _ (0, 0) _ (heap_new_at _ _ _ (by simp)) Try.underlying53 rfl (by kernel_rfl) ?_))
  refine (zz_gave a0 (w.heap.size + 1 + 1) w.heap.size (ahead w a0 a1 a2 a3 a4 a5 a6 a7) ?hb ?hc HR.out HP.out).mono ?_
  case hb => have := HZ.out; omega
  case hc => have := HZ.out; omega
  clear HZ HR HP
  rintro e w1 ⟨g1, rfl, G1⟩
  have F := first_of w w1 g1 a0 a1 a2 a3 a4 a5 a6 a7 G1
  clear G1 h0 h1 h4 h6 h7
  have f8 := F.free
  have c8 := F.rules
  have HI : Hid ((w1.setCell ⟨w.heap.size + 1 + 1, 8, none⟩ (.pointer (some ⟨w.heap.size + 1, 0, none⟩))).heap[w.heap.size + 1 + 1 + 1]? = some _) := (heap_setCell_other w1 _ _ _ (by show w.heap.size + 1 + 1 + 1 ≠ w.heap.size + 1 + 1; omega)).trans F.input
  have HF : Hid (First w w1 g1 a0 a4) := F
  clear F
  go_wp2_with (refine wpList_load_row rfl 53 _ rfl _ rfl 53 _ (0, 0) _ HI.out Try.underlying53 rfl (by kernel_rfl) ?_)
  have F := HF.out
  refine (zz_gave a4 (w.heap.size + 1 + 1) (w.heap.size + 1) _ ?hb ?hc ?h8 ?h0).mono ?_
  case hb => have := F.lo; have := F.hi; simp [World.setCell]; omega
  case hc => have := F.lo; have := F.hi; simp [World.setCell]; omega
  case h8 => exact second_rules F
  case h0 => exact second_path F
  rintro e w2 ⟨g2, rfl, G2⟩
  have S := second_of w w1 w2 g1 g2 a0 a4 F G2
  clear G2 F HF HI f8 c8
  have z1 := S.hi1
  have z2 := S.hi2
  have p0 := cell_of_row _ _ 0 _ _ _ S.row1
  have p1 := cell_of_row _ _ 1 _ _ _ S.row1
  have p2 := cell_of_row _ _ 2 _ _ _ S.row1
  have p3 := cell_of_row _ _ 3 _ _ _ S.row1
  have q0 := cell_of_row _ _ 0 _ _ _ S.row2
  have q1 := cell_of_row _ _ 1 _ _ _ S.row2
  have q2 := cell_of_row _ _ 2 _ _ _ S.row2
  have q3 := cell_of_row _ _ 3 _ _ _ S.row2
  simp at p0 p1 p2 p3 q0 q1 q2 q3
  have HG : Hid (Grown w w2) := S.grown
  clear S
  have kp := same_file
  go_wp2_with (go_at_call 10; refine (part_any _ _ _ _ _).mono ?_; rintro e w3 ⟨rfl, rfl⟩)
  go_ret
  exact ⟨rfl, (HG.out.alloc _ _).alloc _ _⟩

end Go.Proofs.Qxb6612740a.srcWalks
