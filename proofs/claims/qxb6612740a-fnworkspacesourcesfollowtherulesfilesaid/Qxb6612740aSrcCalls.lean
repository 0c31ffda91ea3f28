import Derived.Test.Qxb6612740aRows
import Derived.WalkKit
import Derived.ProofKit
import Derived.WalkSpells
import Derived.Laws.Rows
namespace Go.Proofs.Qxb6612740a.srcWalks
open Go.ChangeShapes Go.WideShapes Go.ChangeAt Go.RowKit

/-- Function 10, the source's part handed out. -/
theorem part_any (s0 : ByteArray) (p : Option Addr) (n : Int) (s3 : ByteArray) (w : World) :
    Calls Try.prog 10 #[.agg #[.string s0, .pointer p, .int .i64 n, .string s3]] w fun e w' => e = .returned (.string s3) ∧ w' = w.alloc (.cells #[.string s0, .pointer p, .int .i64 n, .string s3] 57) := by
  go_enter Try.func10, Try.ntmps10
  go_wp2
  go_ret
  exact ⟨rfl, rfl⟩

/-- Function 12: one Source of the workspace's part, nothing shortened. -/
theorem source_any (s : ByteArray) (p : Option Addr) (w : World) :
    Calls Try.prog 12 #[.string s, .pointer p] w fun e w' => e = .returned (.agg #[.string s, .pointer p, .int .i64 0, .string ⟨#[119, 111, 114, 107, 115, 112, 97, 99, 101]⟩]) ∧ w' = w.alloc (.cells #[.string s, .pointer p, .int .i64 0, .string ⟨#[119, 111, 114, 107, 115, 112, 97, 99, 101]⟩] 57) := by
  go_enter Try.func12, Try.ntmps12
  go_wp2
  exact bodyPost_ret (v := .agg #[.string s, .pointer p, .int .i64 0, .string ⟨#[119, 111, 114, 107, 115, 112, 97, 99, 101]⟩]) (by simp [results, Try.results12, go_sem]) rfl ⟨rfl, rfl⟩

/-- Function 11: a new slice of one Source: the path of the workspace's rules file, and that file. The workspace lies at block b, its rules file at block c. -/
theorem sources_any (s : ByteArray) (b c : Nat) (w : World) (hb : b < w.heap.size) (hc : c < w.heap.size) (h8 : w.cell? ⟨b, 8, none⟩ = some (.pointer (some ⟨c, 0, none⟩))) (h0 : w.cell? ⟨c, 0, none⟩ = some (.string s)) :
    Calls Try.prog 11 #[.agg #[.pointer none, .pointer (some ⟨b, 0, none⟩), .pointer none, .pointer none, .pointer none, .bool false, .int .i64 0, .pointer none, .pointer none, .int .u64 0, .int .i64 0, .pointer none, .string ⟨#[]⟩, .string ⟨#[]⟩, .string ⟨#[]⟩, .slice none 0 0, .bool false]] w fun e w' =>
      e = .returned (.slice (some ⟨w.heap.size + 2, 0, none⟩) 1 1) ∧ w' = ((w.alloc (.cells #[.pointer none, .pointer (some ⟨b, 0, none⟩), .pointer none, .pointer none, .pointer none, .bool false, .int .i64 0, .pointer none, .pointer none, .int .u64 0, .int .i64 0, .pointer none, .string ⟨#[]⟩, .string ⟨#[]⟩, .string ⟨#[]⟩, .slice none 0 0, .bool false] 53)).alloc (.cells #[.string s, .pointer (some ⟨c, 0, none⟩), .int .i64 0, .string ⟨#[119, 111, 114, 107, 115, 112, 97, 99, 101]⟩] 57)).alloc (.cells #[.string s, .pointer (some ⟨c, 0, none⟩), .int .i64 0, .string ⟨#[119, 111, 114, 107, 115, 112, 97, 99, 101]⟩] 57) := by
  go_enter Try.func11, Try.ntmps11
  go_wp2_with (go_at_call 12; refine (source_any _ _ _).mono ?_; rintro e w' ⟨rfl, rfl⟩)
  go_ret
  exact ⟨rfl, rfl⟩

/-- Function 9: function 11, handed out. -/
theorem zz_any (s : ByteArray) (b c : Nat) (w : World) (hb : b < w.heap.size) (hc : c < w.heap.size) (h8 : w.cell? ⟨b, 8, none⟩ = some (.pointer (some ⟨c, 0, none⟩))) (h0 : w.cell? ⟨c, 0, none⟩ = some (.string s)) :
    Calls Try.prog 9 #[.agg #[.pointer none, .pointer (some ⟨b, 0, none⟩), .pointer none, .pointer none, .pointer none, .bool false, .int .i64 0, .pointer none, .pointer none, .int .u64 0, .int .i64 0, .pointer none, .string ⟨#[]⟩, .string ⟨#[]⟩, .string ⟨#[]⟩, .slice none 0 0, .bool false]] w fun e w' =>
      e = .returned (.slice (some ⟨w.heap.size + 3, 0, none⟩) 1 1) ∧ w' = (((w.alloc (.cells #[.pointer none, .pointer (some ⟨b, 0, none⟩), .pointer none, .pointer none, .pointer none, .bool false, .int .i64 0, .pointer none, .pointer none, .int .u64 0, .int .i64 0, .pointer none, .string ⟨#[]⟩, .string ⟨#[]⟩, .string ⟨#[]⟩, .slice none 0 0, .bool false] 53)).alloc (.cells #[.pointer none, .pointer (some ⟨b, 0, none⟩), .pointer none, .pointer none, .pointer none, .bool false, .int .i64 0, .pointer none, .pointer none, .int .u64 0, .int .i64 0, .pointer none, .string ⟨#[]⟩, .string ⟨#[]⟩, .string ⟨#[]⟩, .slice none 0 0, .bool false] 53)).alloc (.cells #[.string s, .pointer (some ⟨c, 0, none⟩), .int .i64 0, .string ⟨#[119, 111, 114, 107, 115, 112, 97, 99, 101]⟩] 57)).alloc (.cells #[.string s, .pointer (some ⟨c, 0, none⟩), .int .i64 0, .string ⟨#[119, 111, 114, 107, 115, 112, 97, 99, 101]⟩] 57) := by
  go_enter Try.func9, Try.ntmps9
  go_wp2_with (first | (refine wpList_load_row rfl 53 _ rfl w.heap.size rfl 53 _ (0, 0) _ (heap_alloc_new _ _) Try.underlying53 rfl (by kernel_rfl) ?_))
  refine (sources_any s b c _ ?hb ?hc ?h8 ?h0).mono ?_
  case hb => simp; omega
  case hc => simp; omega
  case h8 => rw [World.cell?_alloc_past _ _ _ hb]; exact h8
  case h0 => rw [World.cell?_alloc_past _ _ _ hc]; exact h0
  rintro e w' ⟨rfl, rfl⟩
  go_wp2
  go_ret
  exact ⟨by simp, rfl⟩

end Go.Proofs.Qxb6612740a.srcWalks
