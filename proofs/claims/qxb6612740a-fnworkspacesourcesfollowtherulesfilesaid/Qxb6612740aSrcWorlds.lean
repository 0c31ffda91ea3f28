import Derived.Test.Qxb6612740aSrcCalls
import Derived.Deep.WholeRow
namespace Go.Proofs.Qxb6612740a.srcWalks
open Go.ChangeShapes Go.WideShapes Go.ChangeAt Go.RowKit

/-! ### Small facts on worlds: no Go text in sight -/
theorem heap_new_at (w : World) (o : Obj) (n : Nat) (h : n = w.heap.size) : (w.alloc o).heap[n]? = some o := by subst h; exact heap_alloc_new w o

theorem setRow_new_at (w : World) (c c' : Array Value) (t : TypeId) (n : Nat) (h : n = w.heap.size) : (w.alloc (.cells c t)).setRow n c' = w.alloc (.cells c' t) := by
  subst h; exact World.setRow_alloc_new w c c' t

theorem grown_trans {a b c : World} (h : Grown a b) (k : Grown b c) : Grown a c :=
  ⟨World.keptBut_trans h.1 (World.keptBut_mono (fun _ f => f.elim) k.1), fun x => (k.2.1 x).trans (h.2.1 x), Nat.le_trans h.2.2 k.2.2⟩

/-- What function 9 leaves: a new row of one Source at block g, all else as it was. -/
structure Gave (w w' : World) (g : Nat) (s : ByteArray) (c : Nat) : Prop where
  lo : w.heap.size ≤ g
  hi : g < w'.heap.size
  row : w'.heap[g]? = some (.cells #[.string s, .pointer (some ⟨c, 0, none⟩), .int .i64 0, .string ⟨#[119, 111, 114, 107, 115, 112, 97, 99, 101]⟩] 57 (0, 0))
  old : ∀ k, k < w.heap.size → w'.heap[k]? = w.heap[k]?
  grown : Grown w w'

theorem gave_mk (w : World) (A B C D : Array Value) (s : ByteArray) (c : Nat) (hD : D = #[.string s, .pointer (some ⟨c, 0, none⟩), .int .i64 0, .string ⟨#[119, 111, 114, 107, 115, 112, 97, 99, 101]⟩]) : Gave w ((((w.alloc (.cells A 53)).alloc (.cells B 53)).alloc (.cells C 57)).alloc (.cells D 57)) (w.heap.size + 3) s c := by
  subst hD
  refine ⟨by omega, by simp, heap_new_at _ _ _ (by simp), fun k hk => ?_, (((Grown.refl w).alloc _ _).alloc _ _).alloc _ _ |>.alloc _ _⟩
  rw [heap_alloc_old _ _ (h := by simp; omega), heap_alloc_old _ _ (h := by simp; omega), heap_alloc_old _ _ (h := by simp; omega), heap_alloc_old _ _ (h := hk)]

/-- Function 9, its world under a name. -/
theorem zz_gave (s : ByteArray) (b c : Nat) (w : World) (hb : b < w.heap.size) (hc : c < w.heap.size) (h8 : w.cell? ⟨b, 8, none⟩ = some (.pointer (some ⟨c, 0, none⟩))) (h0 : w.cell? ⟨c, 0, none⟩ = some (.string s)) :
    Calls Try.prog 9 #[.agg #[.pointer none, .pointer (some ⟨b, 0, none⟩), .pointer none, .pointer none, .pointer none, .bool false, .int .i64 0, .pointer none, .pointer none, .int .u64 0, .int .i64 0, .pointer none, .string ⟨#[]⟩, .string ⟨#[]⟩, .string ⟨#[]⟩, .slice none 0 0, .bool false]] w fun e w' => ∃ g, e = .returned (.slice (some ⟨g, 0, none⟩) 1 1) ∧ Gave w w' g s c := by
  refine (zz_any s b c w hb hc h8 h0).mono ?_
  rintro e w' ⟨rfl, rfl⟩
  exact ⟨_, rfl, gave_mk _ _ _ _ _ _ _ rfl⟩

/-- The world ahead of the first call: the two files, the workspace with the first, the input. -/
def ahead (w : World) (a0 a1 : ByteArray) (a2 a3 : Int) (a4 a5 : ByteArray) (a6 a7 : Int) : World :=
  (((w.alloc (.cells #[.string a0, .string a1, .int .i64 a2, .int .i64 a3, .bool false, .string ⟨#[]⟩, .string ⟨#[]⟩] 24)).alloc
    (.cells #[.string a4, .string a5, .int .i64 a6, .int .i64 a7, .bool false, .string ⟨#[]⟩, .string ⟨#[]⟩] 24)).alloc
    (.cells #[.string ⟨#[]⟩, .string ⟨#[]⟩, .string ⟨#[]⟩, .string ⟨#[]⟩, .pointer none, .string ⟨#[]⟩, .pointer none, .slice none 0 0, .pointer (some ⟨w.heap.size, 0, none⟩), .slice none 0 0, .slice none 0 0] 38)).alloc
    (.cells #[.pointer none, .pointer (some ⟨w.heap.size + 1 + 1, 0, none⟩), .pointer none, .pointer none, .pointer none, .bool false, .int .i64 0, .pointer none, .pointer none, .int .u64 0, .int .i64 0, .pointer none, .string ⟨#[]⟩, .string ⟨#[]⟩, .string ⟨#[]⟩, .slice none 0 0, .bool false] 53)

/-- What stands behind the first call. -/
structure First (w w1 : World) (g1 : Nat) (a0 a4 : ByteArray) : Prop where
  grown : Grown w w1
  lo : w.heap.size + 4 ≤ g1
  hi : g1 < w1.heap.size
  row : w1.heap[g1]? = some (.cells #[.string a0, .pointer (some ⟨w.heap.size, 0, none⟩), .int .i64 0, .string ⟨#[119, 111, 114, 107, 115, 112, 97, 99, 101]⟩] 57 (0, 0))
  rules : w1.cell? ⟨w.heap.size + 1 + 1, 8, none⟩ = some (.pointer (some ⟨w.heap.size, 0, none⟩))
  free : w1.frozen? ⟨w.heap.size + 1 + 1, 8, none⟩ = false
  input : w1.heap[w.heap.size + 1 + 1 + 1]? = some (.cells #[.pointer none, .pointer (some ⟨w.heap.size + 1 + 1, 0, none⟩), .pointer none, .pointer none, .pointer none, .bool false, .int .i64 0, .pointer none, .pointer none, .int .u64 0, .int .i64 0, .pointer none, .string ⟨#[]⟩, .string ⟨#[]⟩, .string ⟨#[]⟩, .slice none 0 0, .bool false] 53 (0, 0))
  path : w1.cell? ⟨w.heap.size + 1, 0, none⟩ = some (.string a4)

theorem ahead_size (w : World) (a0 a1 : ByteArray) (a2 a3 : Int) (a4 a5 : ByteArray) (a6 a7 : Int) : (ahead w a0 a1 a2 a3 a4 a5 a6 a7).heap.size = w.heap.size + 4 := by simp [ahead]

theorem ahead_rules (w : World) (a0 a1 : ByteArray) (a2 a3 : Int) (a4 a5 : ByteArray) (a6 a7 : Int) : (ahead w a0 a1 a2 a3 a4 a5 a6 a7).heap[w.heap.size + 1 + 1]? = some (.cells #[.string ⟨#[]⟩, .string ⟨#[]⟩, .string ⟨#[]⟩, .string ⟨#[]⟩, .pointer none, .string ⟨#[]⟩, .pointer none, .slice none 0 0, .pointer (some ⟨w.heap.size, 0, none⟩), .slice none 0 0, .slice none 0 0] 38 (0, 0)) := by
  unfold ahead
  rw [heap_alloc_old _ _ (h := by simp), heap_new_at _ _ _ (by simp)]

theorem ahead_path (w : World) (a0 a1 : ByteArray) (a2 a3 : Int) (a4 a5 : ByteArray) (a6 a7 : Int) : (ahead w a0 a1 a2 a3 a4 a5 a6 a7).heap[w.heap.size + 1]? = some (.cells #[.string a4, .string a5, .int .i64 a6, .int .i64 a7, .bool false, .string ⟨#[]⟩, .string ⟨#[]⟩] 24 (0, 0)) := by
  unfold ahead
  rw [heap_alloc_old _ _ (h := by simp), heap_alloc_old _ _ (h := by simp), heap_new_at _ _ _ (by simp)]

theorem ahead_first (w : World) (a0 a1 : ByteArray) (a2 a3 : Int) (a4 a5 : ByteArray) (a6 a7 : Int) : (ahead w a0 a1 a2 a3 a4 a5 a6 a7).heap[w.heap.size]? = some (.cells #[.string a0, .string a1, .int .i64 a2, .int .i64 a3, .bool false, .string ⟨#[]⟩, .string ⟨#[]⟩] 24 (0, 0)) := by
  unfold ahead
  rw [heap_alloc_old _ _ (h := by simp; omega), heap_alloc_old _ _ (h := by simp; omega), heap_alloc_old _ _ (h := by simp), heap_new_at _ _ _ rfl]

theorem ahead_input (w : World) (a0 a1 : ByteArray) (a2 a3 : Int) (a4 a5 : ByteArray) (a6 a7 : Int) : (ahead w a0 a1 a2 a3 a4 a5 a6 a7).heap[w.heap.size + 1 + 1 + 1]? = some (.cells #[.pointer none, .pointer (some ⟨w.heap.size + 1 + 1, 0, none⟩), .pointer none, .pointer none, .pointer none, .bool false, .int .i64 0, .pointer none, .pointer none, .int .u64 0, .int .i64 0, .pointer none, .string ⟨#[]⟩, .string ⟨#[]⟩, .string ⟨#[]⟩, .slice none 0 0, .bool false] 53 (0, 0)) := by
  unfold ahead
  rw [heap_new_at _ _ _ (by simp)]

theorem first_of (w w1 : World) (g1 : Nat) (a0 a1 : ByteArray) (a2 a3 : Int) (a4 a5 : ByteArray) (a6 a7 : Int) (G : Gave (ahead w a0 a1 a2 a3 a4 a5 a6 a7) w1 g1 a0 w.heap.size) : First w w1 g1 a0 a4 := by
  have hz := ahead_size w a0 a1 a2 a3 a4 a5 a6 a7
  have hr := (G.old (w.heap.size + 1 + 1) (by omega)).trans (ahead_rules w a0 a1 a2 a3 a4 a5 a6 a7)
  have hp := (G.old (w.heap.size + 1) (by omega)).trans (ahead_path w a0 a1 a2 a3 a4 a5 a6 a7)
  have hi := (G.old (w.heap.size + 1 + 1 + 1) (by omega)).trans (ahead_input w a0 a1 a2 a3 a4 a5 a6 a7)
  have hl := G.lo
  have gr : Grown w w1 := grown_trans (((((Grown.refl w).alloc _ _).alloc _ _).alloc _ _).alloc _ _) G.grown
  have c1 : w1.cell? ⟨w.heap.size + 1 + 1, 8, none⟩ = some (.pointer (some ⟨w.heap.size, 0, none⟩)) := by rw [cell_of_row _ _ _ _ _ _ hr]; rfl
  have c2 : w1.cell? ⟨w.heap.size + 1, 0, none⟩ = some (.string a4) := by rw [cell_of_row _ _ _ _ _ _ hp]; rfl
  exact ⟨gr, by omega, G.hi, G.row, c1, frozen_of_row _ _ _ _ _ hr, hi, c2⟩

theorem second_rules {w w1 : World} {g1 : Nat} {a0 a4 : ByteArray} (F : First w w1 g1 a0 a4) : (w1.setCell ⟨w.heap.size + 1 + 1, 8, none⟩ (.pointer (some ⟨w.heap.size + 1, 0, none⟩))).cell? ⟨w.heap.size + 1 + 1, 8, none⟩ = some (.pointer (some ⟨w.heap.size + 1, 0, none⟩)) := by
  exact World.cell?_setCell_same (h := F.rules) ..

theorem second_path {w w1 : World} {g1 : Nat} {a0 a4 : ByteArray} (F : First w w1 g1 a0 a4) : (w1.setCell ⟨w.heap.size + 1 + 1, 8, none⟩ (.pointer (some ⟨w.heap.size + 1, 0, none⟩))).cell? ⟨w.heap.size + 1, 0, none⟩ = some (.string a4) := by
  rw [World.cell?_setCell_other]
  · exact F.path
  · simp

/-- What stands behind the second call: both answers, a row each. -/
structure Second (w w2 : World) (g1 g2 : Nat) (a0 a4 : ByteArray) : Prop where
  grown : Grown w w2
  hi1 : g1 < w2.heap.size
  hi2 : g2 < w2.heap.size
  row1 : w2.heap[g1]? = some (.cells #[.string a0, .pointer (some ⟨w.heap.size, 0, none⟩), .int .i64 0, .string ⟨#[119, 111, 114, 107, 115, 112, 97, 99, 101]⟩] 57 (0, 0))
  row2 : w2.heap[g2]? = some (.cells #[.string a4, .pointer (some ⟨w.heap.size + 1, 0, none⟩), .int .i64 0, .string ⟨#[119, 111, 114, 107, 115, 112, 97, 99, 101]⟩] 57 (0, 0))

theorem second_of (w w1 w2 : World) (g1 g2 : Nat) (a0 a4 : ByteArray) (F : First w w1 g1 a0 a4)
    (G : Gave (w1.setCell ⟨w.heap.size + 1 + 1, 8, none⟩ (.pointer (some ⟨w.heap.size + 1, 0, none⟩))) w2 g2 a4 (w.heap.size + 1)) : Second w w2 g1 g2 a0 a4 := by
  have hz : (w1.setCell ⟨w.heap.size + 1 + 1, 8, none⟩ (.pointer (some ⟨w.heap.size + 1, 0, none⟩))).heap.size = w1.heap.size := by simp [World.setCell]
  have hl := G.lo
  have hh := G.hi
  have hl1 := F.lo
  have hh1 := F.hi
  refine ⟨grown_trans (F.grown.setCell (by show w.heap.size ≤ w.heap.size + 1 + 1; omega) _) G.grown, by omega, hh, ?_, G.row⟩
  rw [G.old g1 (by omega), heap_setCell_other _ _ _ _ (by show g1 ≠ w.heap.size + 1 + 1; omega)]
  exact F.row

end Go.Proofs.Qxb6612740a.srcWalks
