/-
  Laws for the walk: copy into a row just made; what a slice that came in holds.
-/
import Derived.Test.Qxb6617698aAdv
import Derived.Laws.CopyOwn
import Derived.WalkSpells
namespace Go.Proofs.Qxb6617698a
open Go.ChangeShapes Go.WideShapes Go.ChangeAt Go.RowKit

theorem info22 : (Try.prog.info? 22).map (fun i => (i.zero, i.size, i.bytes)) = some (some (.float .f64 0), 1, 8) := by kernel_rfl
theorem info3 : (Try.prog.info? 3).map (fun i => (i.zero, i.size, i.bytes)) = some (some (.int .i64 0), 1, 8) := by kernel_rfl
theorem size22 : (Try.prog.info? 22).map (·.size) = some 1 := by kernel_rfl
theorem size3 : (Try.prog.info? 3).map (·.size) = some 1 := by kernel_rfl

/-- 'copy(dst, src)', dst the whole of a row just made, src of the same length: the row then holds src's cells. -/
theorem copy_run {P : Program} (w : World) (T E ty : TypeId) (hu : P.underlying T = some (.slice E)) (hsz : (P.info? E).map (·.size) = some 1) (n c : Nat) (ad : Addr) (z : Value) (f : Nat → Value) (h1 : ∀ i, (f i).oneCell' = true)
    (hsrc : ∀ i, i < n → (w.alloc (.cells (madeCells #[z] n) E)).cell? (ad.add i) = some (f i)) :
    ∃ w' : World, (Builtin.copy_ #[T, T] ty #[.slice (some ⟨w.heap.size, 0, none⟩) n n, .slice (some ad) n c]).run P (w.alloc (.cells (madeCells #[z] n) E)) = .ok (.int .i64 (n : Int)) w' ∧
      w'.heap.size = w.heap.size + 1 ∧ Below w.heap.size w w' ∧ w'.rowIs w.heap.size E n f := by
  have hl : ((List.range n).map f).length = n := by simp
  have hg : (w.alloc (.cells (madeCells #[z] n) E)).heap[w.heap.size]? = some (.cells (madeCells #[z] n) E (0, 0)) := Deep.blk_alloc_new _ _
  have hr := run_copy_row (P := P) (w.alloc (.cells (madeCells #[z] n) E)) T T ty E w.heap.size 0 n n ad n c (madeCells #[z] n) E ((List.range n).map f) hu hsz hg (by simp)
    (by
      intro j v hj
      have hj' : j < n := by
        obtain ⟨hlt, _⟩ := List.getElem?_eq_some_iff.1 hj
        simpa using hlt
      rw [List.getElem?_map, List.getElem?_range hj'] at hj
      simp only [Option.map_some, Option.some.injEq] at hj
      rw [← hj]; exact hsrc j hj') (by simp [size_madeCells])
    (by
      intro v hv
      obtain ⟨i, _, rfl⟩ := List.mem_map.1 hv
      exact h1 i)
  rw [hl] at hr
  refine ⟨_, hr, by simp, ?_, ?_⟩
  · exact below_setRow ((Below.refl _ _).alloc (Nat.le_refl _) _) (Nat.le_refl _) _
  · refine ⟨_, setRow_heap _ _ _ _ E (0, 0) hg, ?_, ?_⟩
    · simp [size_madeCells]
    · intro i hi
      have hd0 : List.drop n (madeCells #[z] n).toList = [] := List.drop_eq_nil_of_le (by simp [size_madeCells])
      simp [hd0, hi]

theorem src_of {w w1 : World} (hb : Below w.heap.size w w1) {ad : Addr} (hlt : ad.block < w.heap.size) {n : Nat} {f : Nat → Value} (h : ∀ i, i < n → w.cell? (ad.add i) = some (f i)) (o : Obj) :
    ∀ i, i < n → (w1.alloc o).cell? (ad.add i) = some (f i) := by
  intro i hi
  have e : (ad.add i).block = ad.block := by unfold Addr.add; split <;> rfl
  have hs := hb.size
  rw [World.cell?_alloc_lt (w := w1) (o := o) (a := ad.add i) (by rw [e]; omega), hb.cell (by rw [e]; exact hlt)]
  exact h i hi

/-- What the walk is told of a slice that came in: nil; or a row of cells. -/
def View (w : World) (a : Option Addr) (len cap : Nat) (f : Nat → Value) : Prop :=
  (a = none ∧ len = 0 ∧ cap = 0) ∨ ∃ x : Addr, a = some x ∧ len ≤ 9223372036854775807 ∧ ∀ i, i < len → w.cell? (x.add i) = some (f i)

theorem View.le {w : World} {a : Option Addr} {len cap : Nat} {f : Nat → Value} (h : View w a len cap f) : len ≤ 9223372036854775807 := by
  rcases h with ⟨_, h, _⟩ | ⟨x, _, h, _⟩ <;> omega
theorem View.pos {w : World} {a : Option Addr} {len cap : Nat} {f : Nat → Value} (h : View w a len cap f) (hl : 1 ≤ len) :
    ∃ x : Addr, a = some x ∧ x.block < w.heap.size ∧ ∀ i, i < len → w.cell? (x.add i) = some (f i) := by
  rcases h with ⟨_, h, _⟩ | ⟨x, rfl, _, h⟩
  · omega
  · refine ⟨x, rfl, ?_, h⟩
    have h0 := h 0 (by omega)
    have e : x.add 0 = x := by simp [Addr.add]
    rw [e] at h0
    exact block_lt_of_cell h0
end Go.Proofs.Qxb6617698a
