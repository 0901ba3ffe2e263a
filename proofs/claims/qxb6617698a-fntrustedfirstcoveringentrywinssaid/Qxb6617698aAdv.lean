/-
  The contract of ZZAdversaryTrust.
-/
import Derived.Test.Qxb6617698aOut
import Derived.Deep.OwnRows
namespace Go.Proofs.Qxb6617698a
open Go.ChangeShapes Go.WideShapes Go.ChangeAt Go.RowKit
attribute [local go_sem] bin_leq bin_lss bin_geq run_store_float

theorem info30 : (Try.prog.info? 30).map (fun i => (i.zero, i.size, i.bytes)) = some (some (.slice none 0 0), 1, 24) := by kernel_rfl
theorem info32 : (Try.prog.info? 32).map (fun i => (i.zero, i.size, i.bytes)) = some (some (.agg #[.int .i64 0, .float .f64 0, .float .f64 0, .int .i64 0, .slice none 0 0]), 5, 56) := by kernel_rfl

def zeroEntry : Array Value := #[.int .i64 0, .float .f64 0, .float .f64 0, .int .i64 0, .slice none 0 0]

theorem make30 (n : Nat) (hn : n ≤ 40000) (w : World) :
    (Instr.makeSlice 30 (.int .i64 (n : Int)) (.int .i64 (n : Int))).run Try.prog w = .ok (.slice (some ⟨w.heap.size, 0, none⟩) n n) (w.alloc (.cells (madeCells zeroEntry (n * 5)) 32)) := by
  obtain ⟨i, hi, hzz⟩ := Option.map_eq_some_iff.1 info32
  simp only [Prod.mk.injEq] at hzz
  obtain ⟨hz, hs, hb⟩ := hzz
  have hr := run_make (P := Try.prog) w 30 32 i _ Try.underlying30 hi hz .i64 .i64 n n (by omega) (Int.le_refl _) (by rw [hb]; omega) (by omega)
  simp only [Int.toNat_natCast, hs] at hr
  exact hr

/-- The cells of the entries' row behind k rounds. -/
def fE (p : Nat) (S U : Nat → Nat) (T : Nat → Int) (k x : Nat) : Value :=
  if x % 5 = 0 then (if x / 5 < k then .int .i64 p else .int .i64 0)
  else if x % 5 = 1 then (if x / 5 < k then .float .f64 (S (x / 5)) else .float .f64 0)
  else if x % 5 = 2 then (if x / 5 < k then .float .f64 (U (x / 5)) else .float .f64 0)
  else if x % 5 = 3 then (if x / 5 < k then .int .i64 (T (x / 5)) else .int .i64 0)
  else .slice none 0 0

theorem made_entries (w : World) (n p : Nat) (S U : Nat → Nat) (T : Nat → Int) : (w.alloc (.cells (madeCells zeroEntry (n * 5)) 32)).rowIs w.heap.size 32 (n * 5) (fE p S U T 0) := by
  refine ⟨_, Deep.blk_alloc_new _ _, size_madeCells _ _, fun i hi => ?_⟩
  have hm : i % 5 = 0 ∨ i % 5 = 1 ∨ i % 5 = 2 ∨ i % 5 = 3 ∨ i % 5 = 4 := by omega
  have e : (madeCells zeroEntry (n * 5))[i]? = some (zeroEntry[i % 5]!) := by
    simp [madeCells, hi]; rfl
  rw [e]
  rcases hm with h | h | h | h | h <;> simp [fE, h, zeroEntry]

structure Rel5 (w : World) (p n : Nat) (S U : Nat → Nat) (T : Nat → Int) (k : Nat) (wr : World) : Prop where
  size : wr.heap.size = w.heap.size + 2
  bel : Below w.heap.size w wr
  outs : wr.rowIs w.heap.size 30 p (fun _ => .slice none 0 0)
  ens : wr.rowIs (w.heap.size + 1) 32 (n * 5) (fE p S U T k)

theorem Rel5.start (w : World) (p n : Nat) (S U : Nat → Nat) (T : Nat → Int) : Rel5 w p n S U T 0 ((w.alloc (.cells (madeCells #[.slice none 0 0] p) 30)).alloc (.cells (madeCells zeroEntry (n * 5)) 32)) := by
  refine ⟨by simp, ((Below.refl _ _).alloc (Nat.le_refl _) _).alloc (by simp) _, (World.rowIs_made w (.slice none 0 0) p 30).alloc _, ?_⟩
  have h := made_entries (w.alloc (.cells (madeCells #[.slice none 0 0] p) 30)) n p S U T
  rwa [World.size_alloc] at h

theorem fE_other (p : Nat) (S U : Nat → Nat) (T : Nat → Int) (k x : Nat) (h : x / 5 ≠ k) : fE p S U T (k + 1) x = fE p S U T k x := by
  unfold fE
  have e : (x / 5 < k + 1) = (x / 5 < k) := by simp; omega
  simp only [e]

theorem Rel5.step {w : World} {p n : Nat} {S U : Nat → Nat} {T : Nat → Int} {k : Nat} {wr : World} (h : Rel5 w p n S U T k wr) :
    Rel5 w p n S U T (k + 1) (((((wr.setCell ⟨w.heap.size + 1, k * 5, none⟩ (.int .i64 p)).setCell ⟨w.heap.size + 1, k * 5 + 1, none⟩ (.float .f64 (S k))).setCell ⟨w.heap.size + 1, k * 5 + 2, none⟩ (.float .f64 (U k))).setCell ⟨w.heap.size + 1, k * 5 + 3, none⟩ (.int .i64 (T k))).setCell ⟨w.heap.size + 1, k * 5 + 4, none⟩ (.slice none 0 0)).drew := by
  obtain ⟨h1, h2, h3, h4⟩ := h
  refine ⟨by simpa using h1, ?_, ?_, ?_⟩
  · exact (((((h2.setCell (by dsimp only; omega) _).setCell (by dsimp only; omega) _).setCell (by dsimp only; omega) _).setCell (by dsimp only; omega) _).setCell (by dsimp only; omega) _).drew
  · exact (((((h3.setOther (by dsimp only; omega) _).setOther (by dsimp only; omega) _).setOther (by dsimp only; omega) _).setOther (by dsimp only; omega) _).setOther (by dsimp only; omega) _).drew
  · refine World.rowIs.drew (World.rowIs.congr (((((h4.set (k * 5) _).set (k * 5 + 1) _).set (k * 5 + 2) _).set (k * 5 + 3) _).set (k * 5 + 4) _) ?_)
    intro x hx
    by_cases e : x / 5 = k
    · have hm : x = k * 5 ∨ x = k * 5 + 1 ∨ x = k * 5 + 2 ∨ x = k * 5 + 3 ∨ x = k * 5 + 4 := by omega
      have d : ∀ r, r < 5 → (k * 5 + r) / 5 = k ∧ (k * 5 + r) % 5 = r := fun r hr => by omega
      rcases hm with rfl | rfl | rfl | rfl | rfl
      · have := d 0 (by omega); simp only [Nat.add_zero] at this; simp [fE, this]
      · simp [fE, d 1 (by omega)]
      · simp [fE, d 2 (by omega)]
      · simp [fE, d 3 (by omega)]
      · simp [fE, d 4 (by omega)]
    · rw [fE_other p S U T k x e]
      rw [if_neg (by omega), if_neg (by omega), if_neg (by omega), if_neg (by omega), if_neg (by omega)]

theorem Rel5.fin {w : World} {p n : Nat} {S U : Nat → Nat} {T : Nat → Int} {wr : World} (hp : 1 ≤ p) (h : Rel5 w p n S U T n wr) (sf : Nat) (ld : Int) :
    Adv (((wr.setCell ⟨w.heap.size, p - 1, none⟩ (.slice (some ⟨w.heap.size + 1, 0, none⟩) n n)).alloc (.cells #[.float .f64 sf, .int .i64 ld, .slice none 0 0] 35)).alloc
      (.cells #[.slice none 0 0, .map none, .float .f64 0, .map none, .slice none 0 0, .bool false, .pointer (some ⟨w.heap.size + 2, 0, none⟩), .slice (some ⟨w.heap.size, 0, none⟩) p p] 40))
      (w.heap.size + 3) (w.heap.size + 2) w.heap.size (w.heap.size + 1) p sf ld n S U T ∧
    Below w.heap.size w (((wr.setCell ⟨w.heap.size, p - 1, none⟩ (.slice (some ⟨w.heap.size + 1, 0, none⟩) n n)).alloc (.cells #[.float .f64 sf, .int .i64 ld, .slice none 0 0] 35)).alloc
      (.cells #[.slice none 0 0, .map none, .float .f64 0, .map none, .slice none 0 0, .bool false, .pointer (some ⟨w.heap.size + 2, 0, none⟩), .slice (some ⟨w.heap.size, 0, none⟩) p p] 40)) := by
  obtain ⟨h1, h2, h3, h4⟩ := h
  have e4 := (h4.setOther (a := ⟨w.heap.size, p - 1, none⟩) (by dsimp only; omega) (.slice (some ⟨w.heap.size + 1, 0, none⟩) n n))
  have e3 := h3.set (p - 1) (.slice (some ⟨w.heap.size + 1, 0, none⟩) n n)
  have s1 : (wr.setCell ⟨w.heap.size, p - 1, none⟩ (.slice (some ⟨w.heap.size + 1, 0, none⟩) n n)).heap.size = w.heap.size + 2 := by simpa using h1
  have b1 : Below w.heap.size w (wr.setCell ⟨w.heap.size, p - 1, none⟩ (.slice (some ⟨w.heap.size + 1, 0, none⟩) n n)) := h2.setCell (by dsimp only; omega) _
  generalize wr.setCell ⟨w.heap.size, p - 1, none⟩ (.slice (some ⟨w.heap.size + 1, 0, none⟩) n n) = w1 at *
  have s2 : (w1.alloc (.cells #[.float .f64 sf, .int .i64 ld, .slice none 0 0] 35)).heap.size = w.heap.size + 3 := by rw [World.size_alloc, s1]
  refine ⟨?_, (b1.alloc (by omega) _).alloc (by omega) _⟩
  have e4' := (e4.alloc (.cells #[.float .f64 sf, .int .i64 ld, .slice none 0 0] 35)).alloc (.cells #[.slice none 0 0, .map none, .float .f64 0, .map none, .slice none 0 0, .bool false, .pointer (some ⟨w.heap.size + 2, 0, none⟩), .slice (some ⟨w.heap.size, 0, none⟩) p p] 40)
  have e3' := (e3.alloc (.cells #[.float .f64 sf, .int .i64 ld, .slice none 0 0] 35)).alloc (.cells #[.slice none 0 0, .map none, .float .f64 0, .map none, .slice none 0 0, .bool false, .pointer (some ⟨w.heap.size + 2, 0, none⟩), .slice (some ⟨w.heap.size, 0, none⟩) p p] 40)
  have d : ∀ i r, r < 5 → (i * 5 + r) / 5 = i ∧ (i * 5 + r) % 5 = r := fun i r hr => by omega
  have d0 : ∀ i, (i * 5) / 5 = i ∧ (i * 5) % 5 = 0 := fun i => by omega
  refine ⟨?_, ?_, ?_, ?_, ?_, ⟨?_, ?_, ?_, ?_, ?_⟩, ?_, ?_, ?_, ?_⟩
  · rw [World.cell?_alloc_at _ _ _ _ s2.symm]; rfl
  · rw [World.cell?_alloc_at _ _ _ _ s2.symm]; rfl
  · rw [World.cell?_alloc_past _ _ _ (by omega), World.cell?_alloc_at _ _ _ _ s1.symm]; rfl
  · rw [World.cell?_alloc_past _ _ _ (by omega), World.cell?_alloc_at _ _ _ _ s1.symm]; rfl
  · rw [e3'.cell (i := p - 1) (by omega)]; simp
  · intro i hi; rw [e4'.cell (i := i * 5) (by omega)]; simp [fE, d0 i, hi]
  · intro i hi; rw [e4'.cell (i := i * 5 + 1) (by omega)]; simp [fE, d i 1 (by omega), hi]
  · intro i hi; rw [e4'.cell (i := i * 5 + 2) (by omega)]; simp [fE, d i 2 (by omega), hi]
  · intro i hi; rw [e4'.cell (i := i * 5 + 3) (by omega)]; simp [fE, d i 3 (by omega), hi]
  · intro i hi; rw [e4'.cell (i := i * 5 + 4) (by omega)]; simp [fE, d i 4 (by omega)]
  · rw [World.size_alloc, s2]; omega
  · rw [World.size_alloc, s2]; omega
  · rw [World.size_alloc, s2]; omega
  · rw [World.size_alloc, s2]; omega

theorem ret_ptr {a b : Nat} (h : a = b) : Ending.returned (.pointer (some ⟨a, 0, none⟩)) = .returned (.pointer (some ⟨b, 0, none⟩)) := by rw [h]

set_option maxHeartbeats 1000000 in
theorem adv_any (w : World) (p sf n bS bU bT : Nat) (ld : Int) (S U : Nat → Nat) (T : Nat → Int) (hp : 1 ≤ p) (hp2 : p ≤ 65536) (hn : n ≤ 40000) (hn0 : 1 ≤ n)
    (hS : ∀ i, i < n → w.cell? ⟨bS, i, none⟩ = some (.float .f64 (S i))) (hU : ∀ i, i < n → w.cell? ⟨bU, i, none⟩ = some (.float .f64 (U i))) (hT : ∀ i, i < n → w.cell? ⟨bT, i, none⟩ = some (.int .i64 (T i)))
    (lS : bS < w.heap.size) (lU : bU < w.heap.size) (lT : bT < w.heap.size) :
    Calls Try.prog 5 #[.int .i64 p, .float .f64 sf, .int .i64 ld, .slice (some ⟨bS, 0, none⟩) n n, .slice (some ⟨bU, 0, none⟩) n n, .slice (some ⟨bT, 0, none⟩) n n] w fun e w' =>
      e = .returned (.pointer (some ⟨w.heap.size + 3, 0, none⟩)) ∧ Adv w' (w.heap.size + 3) (w.heap.size + 2) w.heap.size (w.heap.size + 1) p sf ld n S U T ∧ Below w.heap.size w w' := by
  have hm1 := run_make_row' (P := Try.prog) 29 30 (.slice none 0 0) 24 Try.underlying29 info30 rfl .i64 .i64 p (by omega) (by omega)
  have hm2 := make30 n hn
  have hp1 : (1 : Int) ≤ p := by omega
  have hn1 : (n : Int) ≤ 40000 := by omega
  go_enter Try.func5, Try.ntmps5
  go_wp2
  go_loopw [15] (fun i wr => ∃ k : Nat, k ≤ n ∧ i = .int .i64 (k : Int) ∧ Rel5 w p n S U T k wr) (fun i _ => n - (intOf i).toNat)
  case atStart => exact ⟨0, Nat.zero_le _, rfl, Rel5.start w p n S U T⟩
  case round =>
    obtain ⟨k, hk, rfl, hR⟩ := hrel
    clear hm1 hm2
    by_cases hlt : k < n
    · have g1 : wr.cell? ⟨bS, k, none⟩ = some (.float .f64 (S k)) := (hR.bel.cell (by exact lS)).trans (hS k hlt)
      have g2 : wr.cell? ⟨bU, k, none⟩ = some (.float .f64 (U k)) := (hR.bel.cell (by exact lU)).trans (hU k hlt)
      have g3 : wr.cell? ⟨bT, k, none⟩ = some (.int .i64 (T k)) := (hR.bel.cell (by exact lT)).trans (hT k hlt)
      have e0 := hR.ens.cell (i := k * 5) (by omega)
      have e1 := hR.ens.cell (i := k * 5 + 1) (by omega)
      have e2 := hR.ens.cell (i := k * 5 + 2) (by omega)
      have e3 := hR.ens.cell (i := k * 5 + 3) (by omega)
      have e4 := hR.ens.cell (i := k * 5 + 4) (by omega)
      have f0 := hR.ens.frozen (k * 5)
      have f1 := hR.ens.frozen (k * 5 + 1)
      have f2 := hR.ens.frozen (k * 5 + 2)
      have f3 := hR.ens.frozen (k * 5 + 3)
      have f4 := hR.ens.frozen (k * 5 + 4)
      go_wp2
      go_region
      go_wp2
      go_roundw
      case rel => exact ⟨k + 1, by omega, by go_num, hR.step⟩
      case measure => simp [intOf]; omega
    · have hsz := hR.size
      have o0 := hR.outs.cell (i := p - 1) (by omega)
      have o1 := hR.outs.frozen (p - 1)
      have hkn : Hid (k = n) := (by omega : k = n)
      go_wp2
      go_ret
      exact ⟨ret_ptr (by omega), Rel5.fin hp (hkn.out ▸ hR) sf ld⟩
set_option maxHeartbeats 1000000 in
theorem adv_zero (w : World) (p sf : Nat) (aS aU aT : Option Addr) (cS cU cT : Nat) (ld : Int) (S U : Nat → Nat) (T : Nat → Int) (hp : 1 ≤ p) (hp2 : p ≤ 65536) :
    Calls Try.prog 5 #[.int .i64 p, .float .f64 sf, .int .i64 ld, .slice aS 0 cS, .slice aU 0 cU, .slice aT 0 cT] w fun e w' =>
      e = .returned (.pointer (some ⟨w.heap.size + 3, 0, none⟩)) ∧ Adv w' (w.heap.size + 3) (w.heap.size + 2) w.heap.size (w.heap.size + 1) p sf ld 0 S U T ∧ Below w.heap.size w w' := by
  have hm1 := run_make_row' (P := Try.prog) 29 30 (.slice none 0 0) 24 Try.underlying29 info30 rfl .i64 .i64 p (by omega) (by omega)
  have hm2 : ∀ w : World, (Instr.makeSlice 30 (.int .i64 0) (.int .i64 0)).run Try.prog w = .ok (.slice (some ⟨w.heap.size, 0, none⟩) 0 0) (w.alloc (.cells (madeCells zeroEntry (0 * 5)) 32)) := fun w => make30 0 (by omega) w
  have hp1 : (1 : Int) ≤ p := by omega
  go_enter Try.func5, Try.ntmps5
  go_wp2
  go_loopw [15] (fun i wr => i = .int .i64 0 ∧ Rel5 w p 0 S U T 0 wr) (fun _ _ => 0)
  case atStart => exact ⟨rfl, Rel5.start w p 0 S U T⟩
  case round =>
    obtain ⟨rfl, hR⟩ := hrel
    clear hm1 hm2
    have hsz := hR.size
    have o0 := hR.outs.cell (i := p - 1) (by omega)
    have o1 := hR.outs.frozen (p - 1)
    go_wp2
    go_ret
    exact ⟨ret_ptr (by omega), Rel5.fin hp hR sf ld⟩
end Go.Proofs.Qxb6617698a
