/-
  What the law's own memory holds: nine rows; what the loop's round does to them.
-/
import Derived.Test.Qxb6617698aLaws
namespace Go.Proofs.Qxb6617698a
open Go.ChangeShapes Go.WideShapes Go.ChangeAt Go.RowKit

/-- make, its block and its world under names of their own. -/
theorem make_run {P : Program} (w : World) (T E : TypeId) (z : Value) (bytes : Nat) (ht : P.underlying T = some (.slice E)) (hinfo : (P.info? E).map (fun i => (i.zero, i.size, i.bytes)) = some (some z, 1, bytes)) (hz1 : z.cells = #[z])
    (n : Nat) (hbytes : bytes * n ≤ 281474976710656) (h63 : n ≤ 9223372036854775807) (L : Int) (hL : L = (n : Int)) :
    ∃ (g : Nat) (w' : World), (Instr.makeSlice T (.int .i64 L) (.int .i64 L)).run P w = .ok (.slice (some ⟨g, 0, none⟩) n n) w' ∧ g = w.heap.size ∧ w'.heap.size = g + 1 ∧ Below w.heap.size w w' ∧ w'.rowIs g E n (fun _ => z) := by
  subst hL
  exact ⟨_, _, run_make_row' (P := P) T E z bytes ht hinfo hz1 .i64 .i64 n hbytes h63 w, rfl, by simp, (Below.refl _ _).alloc (Nat.le_refl _) _, World.rowIs_made w z n E⟩

/-- make and copy together. -/
theorem clone_run {P : Program} (w : World) (T E ty : TypeId) (z : Value) (bytes : Nat) (ht : P.underlying T = some (.slice E)) (hinfo : (P.info? E).map (fun i => (i.zero, i.size, i.bytes)) = some (some z, 1, bytes)) (hz1 : z.cells = #[z])
    (n : Nat) (hbytes : bytes * n ≤ 281474976710656) (h63 : n ≤ 9223372036854775807) (hsz : (P.info? E).map (·.size) = some 1) (c : Nat) (ad : Addr) (f : Nat → Value) (h1 : ∀ i, (f i).oneCell' = true)
    (hsrc : ∀ o : Obj, ∀ i, i < n → (w.alloc o).cell? (ad.add i) = some (f i)) :
    ∃ (g : Nat) (w1 w2 : World), (Instr.makeSlice T (.int .i64 (n : Int)) (.int .i64 (n : Int))).run P w = .ok (.slice (some ⟨g, 0, none⟩) n n) w1 ∧
      (Builtin.copy_ #[T, T] ty #[.slice (some ⟨g, 0, none⟩) n n, .slice (some ad) n c]).run P w1 = .ok (.int .i64 (n : Int)) w2 ∧
      g = w.heap.size ∧ w2.heap.size = g + 1 ∧ Below w.heap.size w w2 ∧ w2.rowIs g E n f := by
  obtain ⟨w2, h, hs, hb, hr⟩ := copy_run (P := P) w T E ty ht hsz n c ad z f h1 (hsrc _)
  exact ⟨_, _, w2, run_make_row' (P := P) T E z bytes ht hinfo hz1 .i64 .i64 n hbytes h63 w, h, rfl, hs, hb, hr⟩

theorem row_below {w w' : World} (hb : Below w.heap.size w w') {g : Nat} {E : TypeId} {n : Nat} {f : Nat → Value} (h : w.rowIs g E n f) : w'.rowIs g E n f := h.of_block (hb.block _ h.lt)

def preF (e : Value) (f : Nat → Value) (z : Value) (k i : Nat) : Value := if i = 0 then e else if i ≤ k then f (i - 1) else z
def sufF (f : Nat → Value) (z : Value) (k i : Nat) : Value := if i < k then f i else z
theorem preF_start (e z : Value) (f : Nat → Value) (j : Nat) : (if j = 0 then e else z) = preF e f z 0 j := by
  unfold preF
  by_cases h : j = 0
  · simp [h]
  · simp [h]
theorem sufF_start (z : Value) (f : Nat → Value) (j : Nat) : z = sufF f z 0 j := by simp [sufF]
theorem preF_step (e z : Value) (f : Nat → Value) (k j : Nat) : (if j = k + 1 then f k else preF e f z k j) = preF e f z (k + 1) j := by
  unfold preF
  by_cases h : j = k + 1
  · subst h; simp
  · rw [if_neg h]
    have e1 : (j ≤ k + 1) = (j ≤ k) := by simp; omega
    simp only [e1]
theorem sufF_step (z : Value) (f : Nat → Value) (k j : Nat) : (if j = k then f k else sufF f z k j) = sufF f z (k + 1) j := by
  unfold sufF
  by_cases h : j = k
  · subst h; simp
  · rw [if_neg h]
    have e1 : (j < k + 1) = (j < k) := by simp; omega
    simp only [e1]

structure Apart (g1 g2 g3 g4 g5 g6 g7 g8 g9 : Nat) : Prop where
  a1 : g1 < g2
  a2 : g2 < g3
  a3 : g3 < g4
  a4 : g4 < g5
  a5 : g5 < g6
  a6 : g6 < g7
  a7 : g7 < g8
  a8 : g8 < g9

structure RelL (w : World) (g1 g2 g3 g4 g5 g6 g7 g8 g9 n : Nat) (S U : Nat → Nat) (T : Nat → Int) (eS eU : Nat) (eT : Int) (k : Nat) (wr : World) : Prop where
  low : w.heap.size ≤ g1
  bel : Below w.heap.size w wr
  c1 : wr.rowIs g1 22 n (fun i => .float .f64 (S i))
  c2 : wr.rowIs g2 22 n (fun i => .float .f64 (U i))
  c3 : wr.rowIs g3 3 n (fun i => .int .i64 (T i))
  p1 : wr.rowIs g4 22 (n + 1) (preF (.float .f64 eS) (fun i => .float .f64 (S i)) (.float .f64 0) k)
  p2 : wr.rowIs g5 22 (n + 1) (preF (.float .f64 eU) (fun i => .float .f64 (U i)) (.float .f64 0) k)
  p3 : wr.rowIs g6 3 (n + 1) (preF (.int .i64 eT) (fun i => .int .i64 (T i)) (.int .i64 0) k)
  q1 : wr.rowIs g7 22 (n + 1) (sufF (fun i => .float .f64 (S i)) (.float .f64 0) k)
  q2 : wr.rowIs g8 22 (n + 1) (sufF (fun i => .float .f64 (U i)) (.float .f64 0) k)
  q3 : wr.rowIs g9 3 (n + 1) (sufF (fun i => .int .i64 (T i)) (.int .i64 0) k)

theorem RelL.step {w : World} {g1 g2 g3 g4 g5 g6 g7 g8 g9 n : Nat} {S U : Nat → Nat} {T : Nat → Int} {eS eU : Nat} {eT : Int} {k : Nat} {wr : World} (ap : Apart g1 g2 g3 g4 g5 g6 g7 g8 g9) (h : RelL w g1 g2 g3 g4 g5 g6 g7 g8 g9 n S U T eS eU eT k wr) :
    RelL w g1 g2 g3 g4 g5 g6 g7 g8 g9 n S U T eS eU eT (k + 1) ((((((wr.setCell ⟨g4, k + 1, none⟩ (.float .f64 (S k))).setCell ⟨g5, k + 1, none⟩ (.float .f64 (U k))).setCell ⟨g6, k + 1, none⟩ (.int .i64 (T k))).setCell ⟨g7, k, none⟩ (.float .f64 (S k))).setCell ⟨g8, k, none⟩ (.float .f64 (U k))).setCell ⟨g9, k, none⟩ (.int .i64 (T k))) := by
  obtain ⟨a1, a2, a3, a4, a5, a6, a7, a8⟩ := ap
  have low := h.low
  refine ⟨low, ((((((h.bel.setCell (by dsimp only; omega) _).setCell (by dsimp only; omega) _).setCell (by dsimp only; omega) _).setCell (by dsimp only; omega) _).setCell (by dsimp only; omega) _).setCell (by dsimp only; omega) _), ?_, ?_, ?_, ?_, ?_, ?_, ?_, ?_, ?_⟩
  · exact ((((((h.c1.setOther (by dsimp only; omega) _).setOther (by dsimp only; omega) _).setOther (by dsimp only; omega) _).setOther (by dsimp only; omega) _).setOther (by dsimp only; omega) _).setOther (by dsimp only; omega) _)
  · exact ((((((h.c2.setOther (by dsimp only; omega) _).setOther (by dsimp only; omega) _).setOther (by dsimp only; omega) _).setOther (by dsimp only; omega) _).setOther (by dsimp only; omega) _).setOther (by dsimp only; omega) _)
  · exact ((((((h.c3.setOther (by dsimp only; omega) _).setOther (by dsimp only; omega) _).setOther (by dsimp only; omega) _).setOther (by dsimp only; omega) _).setOther (by dsimp only; omega) _).setOther (by dsimp only; omega) _)
  · exact World.rowIs.congr ((((((h.p1.set (k + 1) _).setOther (by dsimp only; omega) _).setOther (by dsimp only; omega) _).setOther (by dsimp only; omega) _).setOther (by dsimp only; omega) _).setOther (by dsimp only; omega) _) (fun j _ => preF_step _ _ _ k j)
  · exact World.rowIs.congr ((((((h.p2.setOther (by dsimp only; omega) _).set (k + 1) _).setOther (by dsimp only; omega) _).setOther (by dsimp only; omega) _).setOther (by dsimp only; omega) _).setOther (by dsimp only; omega) _) (fun j _ => preF_step _ _ _ k j)
  · exact World.rowIs.congr ((((((h.p3.setOther (by dsimp only; omega) _).setOther (by dsimp only; omega) _).set (k + 1) _).setOther (by dsimp only; omega) _).setOther (by dsimp only; omega) _).setOther (by dsimp only; omega) _) (fun j _ => preF_step _ _ _ k j)
  · exact World.rowIs.congr ((((((h.q1.setOther (by dsimp only; omega) _).setOther (by dsimp only; omega) _).setOther (by dsimp only; omega) _).set (k) _).setOther (by dsimp only; omega) _).setOther (by dsimp only; omega) _) (fun j _ => sufF_step _ _ k j)
  · exact World.rowIs.congr ((((((h.q2.setOther (by dsimp only; omega) _).setOther (by dsimp only; omega) _).setOther (by dsimp only; omega) _).setOther (by dsimp only; omega) _).set (k) _).setOther (by dsimp only; omega) _) (fun j _ => sufF_step _ _ k j)
  · exact World.rowIs.congr ((((((h.q3.setOther (by dsimp only; omega) _).setOther (by dsimp only; omega) _).setOther (by dsimp only; omega) _).setOther (by dsimp only; omega) _).setOther (by dsimp only; omega) _).set (k) _) (fun j _ => sufF_step _ _ k j)

theorem RelL.start {w : World} {g1 g2 g3 g4 g5 g6 g7 g8 g9 n : Nat} {S U : Nat → Nat} {T : Nat → Int} {eS eU : Nat} {eT : Int} {wr : World} (ap : Apart g1 g2 g3 g4 g5 g6 g7 g8 g9) (low : w.heap.size ≤ g1) (bel : Below w.heap.size w wr)
    (c1 : wr.rowIs g1 22 n (fun i => .float .f64 (S i)))
    (c2 : wr.rowIs g2 22 n (fun i => .float .f64 (U i)))
    (c3 : wr.rowIs g3 3 n (fun i => .int .i64 (T i)))
    (p1 : wr.rowIs g4 22 (n + 1) (fun _ => .float .f64 0))
    (p2 : wr.rowIs g5 22 (n + 1) (fun _ => .float .f64 0))
    (p3 : wr.rowIs g6 3 (n + 1) (fun _ => .int .i64 0))
    (q1 : wr.rowIs g7 22 (n + 1) (fun _ => .float .f64 0))
    (q2 : wr.rowIs g8 22 (n + 1) (fun _ => .float .f64 0))
    (q3 : wr.rowIs g9 3 (n + 1) (fun _ => .int .i64 0))
    : RelL w g1 g2 g3 g4 g5 g6 g7 g8 g9 n S U T eS eU eT 0 (((wr.setCell ⟨g4, 0, none⟩ (.float .f64 eS)).setCell ⟨g5, 0, none⟩ (.float .f64 eU)).setCell ⟨g6, 0, none⟩ (.int .i64 eT)) := by
  obtain ⟨a1, a2, a3, a4, a5, a6, a7, a8⟩ := ap
  refine ⟨low, (((bel.setCell (by dsimp only; omega) _).setCell (by dsimp only; omega) _).setCell (by dsimp only; omega) _), ?_, ?_, ?_, ?_, ?_, ?_, ?_, ?_, ?_⟩
  · exact (((c1.setOther (by dsimp only; omega) _).setOther (by dsimp only; omega) _).setOther (by dsimp only; omega) _)
  · exact (((c2.setOther (by dsimp only; omega) _).setOther (by dsimp only; omega) _).setOther (by dsimp only; omega) _)
  · exact (((c3.setOther (by dsimp only; omega) _).setOther (by dsimp only; omega) _).setOther (by dsimp only; omega) _)
  · exact World.rowIs.congr (((p1.set (0) _).setOther (by dsimp only; omega) _).setOther (by dsimp only; omega) _) (fun j _ => preF_start _ _ _ j)
  · exact World.rowIs.congr (((p2.setOther (by dsimp only; omega) _).set (0) _).setOther (by dsimp only; omega) _) (fun j _ => preF_start _ _ _ j)
  · exact World.rowIs.congr (((p3.setOther (by dsimp only; omega) _).setOther (by dsimp only; omega) _).set (0) _) (fun j _ => preF_start _ _ _ j)
  · exact World.rowIs.congr (((q1.setOther (by dsimp only; omega) _).setOther (by dsimp only; omega) _).setOther (by dsimp only; omega) _) (fun j _ => sufF_start _ _ j)
  · exact World.rowIs.congr (((q2.setOther (by dsimp only; omega) _).setOther (by dsimp only; omega) _).setOther (by dsimp only; omega) _) (fun j _ => sufF_start _ _ j)
  · exact World.rowIs.congr (((q3.setOther (by dsimp only; omega) _).setOther (by dsimp only; omega) _).setOther (by dsimp only; omega) _) (fun j _ => sufF_start _ _ j)

/-- An entry put ahead, an entry put behind. -/
def consN {α : Type} (e : α) (f : Nat → α) (i : Nat) : α := if i = 0 then e else f (i - 1)
def snocN {α : Type} (n : Nat) (e : α) (f : Nat → α) (i : Nat) : α := if i = n then e else f i

structure RelE (w : World) (g1 g2 g3 g4 g5 g6 g7 g8 g9 n : Nat) (S U : Nat → Nat) (T : Nat → Int) (eS eU : Nat) (eT : Int) (wr : World) : Prop where
  bel : Below w.heap.size w wr
  c1 : wr.rowIs g1 22 n (fun i => .float .f64 (S i))
  c2 : wr.rowIs g2 22 n (fun i => .float .f64 (U i))
  c3 : wr.rowIs g3 3 n (fun i => .int .i64 (T i))
  p1 : wr.rowIs g4 22 (n + 1) (fun i => .float .f64 (consN eS S i))
  p2 : wr.rowIs g5 22 (n + 1) (fun i => .float .f64 (consN eU U i))
  p3 : wr.rowIs g6 3 (n + 1) (fun i => .int .i64 (consN eT T i))
  q1 : wr.rowIs g7 22 (n + 1) (fun i => .float .f64 (snocN n eS S i))
  q2 : wr.rowIs g8 22 (n + 1) (fun i => .float .f64 (snocN n eU U i))
  q3 : wr.rowIs g9 3 (n + 1) (fun i => .int .i64 (snocN n eT T i))

theorem RelE.next {w : World} {g1 g2 g3 g4 g5 g6 g7 g8 g9 n : Nat} {S U : Nat → Nat} {T : Nat → Int} {eS eU : Nat} {eT : Int} {wr wx : World} (h : RelE w g1 g2 g3 g4 g5 g6 g7 g8 g9 n S U T eS eU eT wr) (hb : Below wr.heap.size wr wx) : RelE w g1 g2 g3 g4 g5 g6 g7 g8 g9 n S U T eS eU eT wx :=
  ⟨h.bel.trans (hb.mono h.bel.size), row_below hb h.c1, row_below hb h.c2, row_below hb h.c3, row_below hb h.p1, row_below hb h.p2, row_below hb h.p3, row_below hb h.q1, row_below hb h.q2, row_below hb h.q3⟩

theorem pre_end {α : Type} (c : α → Value) (z : Value) (e : α) (f : Nat → α) (n j : Nat) (hj : j < n + 1) : preF (c e) (fun i => c (f i)) z n j = c (consN e f j) := by
  unfold preF consN
  by_cases h : j = 0
  · simp [h]
  · rw [if_neg h, if_neg h, if_pos (by omega)]
theorem suf_end {α : Type} (c : α → Value) (z : Value) (e : α) (f : Nat → α) (n j : Nat) (hj : j < n + 1) : (if j = n then c e else sufF (fun i => c (f i)) z n j) = c (snocN n e f j) := by
  unfold sufF snocN
  by_cases h : j = n
  · simp [h]
  · rw [if_neg h, if_neg h, if_pos (by omega)]

theorem RelL.fin {w : World} {g1 g2 g3 g4 g5 g6 g7 g8 g9 n : Nat} {S U : Nat → Nat} {T : Nat → Int} {eS eU : Nat} {eT : Int} {wr : World} (ap : Apart g1 g2 g3 g4 g5 g6 g7 g8 g9) (h : RelL w g1 g2 g3 g4 g5 g6 g7 g8 g9 n S U T eS eU eT n wr) :
    RelE w g1 g2 g3 g4 g5 g6 g7 g8 g9 n S U T eS eU eT (((wr.setCell ⟨g7, n, none⟩ (.float .f64 eS)).setCell ⟨g8, n, none⟩ (.float .f64 eU)).setCell ⟨g9, n, none⟩ (.int .i64 eT)) := by
  obtain ⟨a1, a2, a3, a4, a5, a6, a7, a8⟩ := ap
  have low := h.low
  refine ⟨(((h.bel.setCell (by dsimp only; omega) _).setCell (by dsimp only; omega) _).setCell (by dsimp only; omega) _), ?_, ?_, ?_, ?_, ?_, ?_, ?_, ?_, ?_⟩
  · exact (((h.c1.setOther (by dsimp only; omega) _).setOther (by dsimp only; omega) _).setOther (by dsimp only; omega) _)
  · exact (((h.c2.setOther (by dsimp only; omega) _).setOther (by dsimp only; omega) _).setOther (by dsimp only; omega) _)
  · exact (((h.c3.setOther (by dsimp only; omega) _).setOther (by dsimp only; omega) _).setOther (by dsimp only; omega) _)
  · exact World.rowIs.congr (((h.p1.setOther (by dsimp only; omega) _).setOther (by dsimp only; omega) _).setOther (by dsimp only; omega) _) (fun j hj => pre_end (Value.float .f64) _ _ _ n j hj)
  · exact World.rowIs.congr (((h.p2.setOther (by dsimp only; omega) _).setOther (by dsimp only; omega) _).setOther (by dsimp only; omega) _) (fun j hj => pre_end (Value.float .f64) _ _ _ n j hj)
  · exact World.rowIs.congr (((h.p3.setOther (by dsimp only; omega) _).setOther (by dsimp only; omega) _).setOther (by dsimp only; omega) _) (fun j hj => pre_end (Value.int .i64) _ _ _ n j hj)
  · exact World.rowIs.congr (((h.q1.set (n) _).setOther (by dsimp only; omega) _).setOther (by dsimp only; omega) _) (fun j hj => suf_end (Value.float .f64) _ _ _ n j hj)
  · exact World.rowIs.congr (((h.q2.setOther (by dsimp only; omega) _).set (n) _).setOther (by dsimp only; omega) _) (fun j hj => suf_end (Value.float .f64) _ _ _ n j hj)
  · exact World.rowIs.congr (((h.q3.setOther (by dsimp only; omega) _).setOther (by dsimp only; omega) _).set (n) _) (fun j hj => suf_end (Value.int .i64) _ _ _ n j hj)
end Go.Proofs.Qxb6617698a
