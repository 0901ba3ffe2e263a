/-
  The contracts of (*Adversary).output and (*Adversary).Trusted.
-/
import Derived.Test.Qxb6617698aRows
import Derived.WalkKit
import Derived.ProofKit
namespace Go.Proofs.Qxb6617698a
open Go.ChangeShapes Go.WideShapes Go.ChangeAt Go.RowKit

/-! ### Floats: three comparisons as plain Bools, and a store -/
def fle (a b : Nat) : Bool := FloatKind.f64.format.order a b == some .lt || FloatKind.f64.format.order a b == some .eq
def flt (a b : Nat) : Bool := FloatKind.f64.format.order a b == some .lt
def fge (a b : Nat) : Bool := FloatKind.f64.format.order a b == some .gt || FloatKind.f64.format.order a b == some .eq
theorem bin_leq (t : TypeId) (a b : Nat) : binOp .leq t (.float .f64 a) (.float .f64 b) = pure (.bool (fle a b)) := by simp [binOp, Op.floatCmp, fle]
theorem bin_lss (t : TypeId) (a b : Nat) : binOp .lss t (.float .f64 a) (.float .f64 b) = pure (.bool (flt a b)) := by simp [binOp, Op.floatCmp, flt]
theorem bin_geq (t : TypeId) (a b : Nat) : binOp .geq t (.float .f64 a) (.float .f64 b) = pure (.bool (fge a b)) := by simp [binOp, Op.floatCmp, fge]
theorem run_store_float {P : Program} {w : World} {a : Addr} {m : Mode} (k : FloatKind) (n : Nat) : (store a (.float k n) m).run P w = stored P w a (.float k n) m := run_store P w a _ m rfl
attribute [local go_sem] bin_leq bin_lss bin_geq run_store_float

/-- Does the entry (s, u) cover the instant? -/
def cov (t s u : Nat) : Bool := fle s t && flt t u
theorem cov_tt {t s u : Nat} (h1 : fle s t = true) (h2 : flt t u = true) : cov t s u = true := by simp [cov, h1, h2]
theorem cov_f1 {t s u : Nat} (h1 : fle s t = false) : cov t s u = false := by simp [cov, h1]
theorem cov_f2 {t s u : Nat} (h2 : flt t u = false) : cov t s u = false := by simp [cov, h2]

/-- The five cells of entry i of the row at block E. -/
structure Entries (w : World) (E p n : Nat) (S U : Nat → Nat) (T : Nat → Int) : Prop where
  c0 : ∀ i, i < n → w.cell? ⟨E, i * 5, none⟩ = some (.int .i64 p)
  c1 : ∀ i, i < n → w.cell? ⟨E, i * 5 + 1, none⟩ = some (.float .f64 (S i))
  c2 : ∀ i, i < n → w.cell? ⟨E, i * 5 + 2, none⟩ = some (.float .f64 (U i))
  c3 : ∀ i, i < n → w.cell? ⟨E, i * 5 + 3, none⟩ = some (.int .i64 (T i))
  c4 : ∀ i, i < n → w.cell? ⟨E, i * 5 + 4, none⟩ = some (.slice none 0 0)

/-- What lies behind the adversary at block A. -/
structure Adv (w : World) (A D O E p sf : Nat) (ld : Int) (n : Nat) (S U : Nat → Nat) (T : Nat → Int) : Prop where
  a6 : w.cell? ⟨A, 6, none⟩ = some (.pointer (some ⟨D, 0, none⟩))
  a7 : w.cell? ⟨A, 7, none⟩ = some (.slice (some ⟨O, 0, none⟩) p p)
  d0 : w.cell? ⟨D, 0, none⟩ = some (.float .f64 sf)
  d1 : w.cell? ⟨D, 1, none⟩ = some (.int .i64 ld)
  o : w.cell? ⟨O, p - 1, none⟩ = some (.slice (some ⟨E, 0, none⟩) n n)
  en : Entries w E p n S U T
  lA : A < w.heap.size
  lD : D < w.heap.size
  lO : O < w.heap.size
  lE : E < w.heap.size

def OutSaid (w : World) (t E n : Nat) (S U : Nat → Nat) (e : Ending) (w' : World) : Prop :=
  (∃ i, i < n ∧ cov t (S i) (U i) = true ∧ (∀ j, j < i → cov t (S j) (U j) = false) ∧ e = .returned (.pointer (some ⟨E, i * 5, none⟩)) ∧ Below w.heap.size w w') ∨
  ((∀ j, j < n → cov t (S j) (U j) = false) ∧ e = .returned (.pointer none) ∧ Below w.heap.size w w')

def OutRel (w : World) (t : Nat) (S U : Nat → Nat) (k : Nat) (wr : World) : Prop := (∀ j, j < k → cov t (S j) (U j) = false) ∧ Below w.heap.size w wr

theorem OutRel.step {w : World} {t : Nat} {S U : Nat → Nat} {k : Nat} {wr : World} (h : OutRel w t S U k wr) (hc : cov t (S k) (U k) = false) (o : Obj) : OutRel w t S U (k + 1) (wr.alloc o) :=
  ⟨fun j hj => by by_cases e : j = k
                  · subst e; exact hc
                  · exact h.1 j (by omega), h.2.alloc h.2.size _⟩

set_option maxHeartbeats 400000 in
theorem out_any (w : World) (p t n A D O E sf : Nat) (ld : Int) (S U : Nat → Nat) (T : Nat → Int)
    (hp : 1 ≤ p) (hp2 : p ≤ 65536) (hn : n ≤ 40000) (h : Adv w A D O E p sf ld n S U T) :
    Calls Try.prog 7 #[.pointer (some ⟨A, 0, none⟩), .int .i64 p, .float .f64 t] w (OutSaid w t E n S U) := by
  obtain ⟨_, hA7, _, _, hO, hE, hlA, _, hlO, hlE⟩ := h
  have hp1 : (1 : Int) ≤ p := by omega
  go_enter Try.func7, Try.ntmps7
  go_wp2
  go_loopw [18] (fun i wr => ∃ k : Nat, k ≤ n ∧ i = .int .i64 (k : Int) ∧ OutRel w t S U k wr) (fun i _ => n - (intOf i).toNat)
  case atStart => exact ⟨0, Nat.zero_le _, rfl, fun j hj => absurd hj (Nat.not_lt_zero _), Below.refl _ _⟩
  case round =>
    obtain ⟨k, hk, rfl, hR⟩ := hrel
    have hb := hR.2
    have hsz := hb.size
    have mA : A < wr.heap.size := by omega
    have mO : O < wr.heap.size := by omega
    have mE : E < wr.heap.size := by omega
    have kA : wr.cell? ⟨A, 7, none⟩ = some (.slice (some ⟨O, 0, none⟩) p p) := (hb.cell (by exact hlA)).trans hA7
    have kO : wr.cell? ⟨O, p - 1, none⟩ = some (.slice (some ⟨E, 0, none⟩) n n) := (hb.cell (by exact hlO)).trans hO
    clear hA7 hO
    by_cases hlt : k < n
    · have g0 : wr.cell? ⟨E, k * 5, none⟩ = some (.int .i64 p) := (hb.cell (by exact hlE)).trans (hE.c0 k hlt)
      have g1 : wr.cell? ⟨E, k * 5 + 1, none⟩ = some (.float .f64 (S k)) := (hb.cell (by exact hlE)).trans (hE.c1 k hlt)
      have g2 : wr.cell? ⟨E, k * 5 + 2, none⟩ = some (.float .f64 (U k)) := (hb.cell (by exact hlE)).trans (hE.c2 k hlt)
      have g3 : wr.cell? ⟨E, k * 5 + 3, none⟩ = some (.int .i64 (T k)) := (hb.cell (by exact hlE)).trans (hE.c3 k hlt)
      have g4 : wr.cell? ⟨E, k * 5 + 4, none⟩ = some (.slice none 0 0) := (hb.cell (by exact hlE)).trans (hE.c4 k hlt)
      clear hb hE
      by_cases t1 : fle (S k) t = true
      · by_cases t2 : flt t (U k) = true
        · go_wp2
          go_ret
          exact .inl ⟨k, hlt, cov_tt t1 t2, hR.1, rfl, hR.2.alloc hR.2.size _⟩
        · rw [Bool.not_eq_true] at t2
          go_wp2
          go_roundw
          case rel => exact ⟨k + 1, by omega, by go_num, hR.step (cov_f2 t2) _⟩
          case measure => simp [intOf]; omega
      · rw [Bool.not_eq_true] at t1
        go_wp2
        go_roundw
        case rel => exact ⟨k + 1, by omega, by go_num, hR.step (cov_f1 t1) _⟩
        case measure => simp [intOf]; omega
    · clear hb
      go_wp2
      go_ret
      exact .inr ⟨fun j hj => hR.1 j (by omega), rfl, hR.2⟩

/-- What the detector trusts. -/
def TrustIs (t sf : Nat) (ld p : Int) (n : Nat) (S U : Nat → Nat) (T : Nat → Int) (r : Int) : Prop :=
  (fge t sf = true ∧ r = ld) ∨ (fge t sf = false ∧ ((∃ i, i < n ∧ cov t (S i) (U i) = true ∧ (∀ j, j < i → cov t (S j) (U j) = false) ∧ r = T i) ∨ ((∀ j, j < n → cov t (S j) (U j) = false) ∧ r = p)))
def TrSaid (w : World) (t sf : Nat) (ld p : Int) (n : Nat) (S U : Nat → Nat) (T : Nat → Int) (e : Ending) (w' : World) : Prop :=
  ∃ r : Int, e = .returned (.int .i64 r) ∧ TrustIs t sf ld p n S U T r ∧ Below w.heap.size w w'

set_option maxHeartbeats 400000 in
theorem trusted_any (w : World) (p t n A D O E sf : Nat) (ld : Int) (S U : Nat → Nat) (T : Nat → Int)
    (hp : 1 ≤ p) (hp2 : p ≤ 65536) (hn : n ≤ 40000) (h : Adv w A D O E p sf ld n S U T) :
    Calls Try.prog 6 #[.pointer (some ⟨A, 0, none⟩), .int .i64 p, .float .f64 t] w (TrSaid w t sf ld p n S U T) := by
  have H : Hid (Adv w A D O E p sf ld n S U T) := h
  obtain ⟨hA6, _, hD0, hD1, _, hE, _, _, _, hlE⟩ := h
  by_cases t0 : fge t sf = true
  · go_enter Try.func6, Try.ntmps6
    go_wp2
    go_ret
    exact ⟨ld, rfl, .inl ⟨t0, rfl⟩, Below.refl _ _⟩
  · rw [Bool.not_eq_true] at t0
    go_enter Try.func6, Try.ntmps6
    go_wp2_with fail
    refine (out_any w p t n A D O E sf ld S U T hp hp2 hn H.out).mono ?_
    intro e w' ho
    rcases ho with ⟨i, hi, c1, c2, rfl, hb⟩ | ⟨c, rfl, hb⟩
    · have g3 : w'.cell? ⟨E, i * 5 + 3, none⟩ = some (.int .i64 (T i)) := (hb.cell (by exact hlE)).trans (hE.c3 i hi)
      go_wp2
      go_ret
      exact ⟨T i, rfl, .inr ⟨t0, .inl ⟨i, hi, c1, c2, rfl⟩⟩, hb⟩
    · go_wp2
      go_ret
      exact ⟨p, rfl, .inr ⟨t0, .inr ⟨c, rfl⟩⟩, hb⟩
end Go.Proofs.Qxb6617698a
