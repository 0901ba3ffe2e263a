/-
  The law's walk where the slices are empty (nil or not).
-/
import Derived.Test.Qxb6617698aPos
import Derived.Deep.DeepCutAuto
namespace Go.Proofs.Qxb6617698a
open Go.ChangeShapes Go.WideShapes Go.ChangeAt Go.RowKit
attribute [local go_sem] bin_leq bin_lss bin_geq run_store_float

structure RelZ (w : World) (g4 g5 g6 g7 g8 g9 : Nat) (S U : Nat → Nat) (T : Nat → Int) (eS eU : Nat) (eT : Int) (wr : World) : Prop where
  bel : Below w.heap.size w wr
  p1 : wr.rowIs g4 22 1 (fun i => .float .f64 (consN eS S i))
  p2 : wr.rowIs g5 22 1 (fun i => .float .f64 (consN eU U i))
  p3 : wr.rowIs g6 3 1 (fun i => .int .i64 (consN eT T i))
  q1 : wr.rowIs g7 22 1 (fun i => .float .f64 (snocN 0 eS S i))
  q2 : wr.rowIs g8 22 1 (fun i => .float .f64 (snocN 0 eU U i))
  q3 : wr.rowIs g9 3 1 (fun i => .int .i64 (snocN 0 eT T i))
theorem RelZ.next {w : World} {g4 g5 g6 g7 g8 g9 : Nat} {S U : Nat → Nat} {T : Nat → Int} {eS eU : Nat} {eT : Int} {wr wx : World} (h : RelZ w g4 g5 g6 g7 g8 g9 S U T eS eU eT wr) (hb : Below wr.heap.size wr wx) : RelZ w g4 g5 g6 g7 g8 g9 S U T eS eU eT wx :=
  ⟨h.bel.trans (hb.mono h.bel.size), row_below hb h.p1, row_below hb h.p2, row_below hb h.p3, row_below hb h.q1, row_below hb h.q2, row_below hb h.q3⟩
theorem one_cons {α : Type} (c : α → Value) (z : Value) (e : α) (f : Nat → α) (j : Nat) (hj : j < 1) : (if j = 0 then c e else z) = c (consN e f j) := by
  obtain rfl : j = 0 := by omega
  simp [consN]
theorem one_snoc {α : Type} (c : α → Value) (z : Value) (e : α) (f : Nat → α) (j : Nat) (hj : j < 1) : (if j = 0 then c e else z) = c (snocN 0 e f j) := by
  obtain rfl : j = 0 := by omega
  simp [snocN]
theorem RelZ.start {w : World} {g4 g5 g6 g7 g8 g9 : Nat} {S U : Nat → Nat} {T : Nat → Int} {eS eU : Nat} {eT : Int} {wr : World} (a4 : g4 < g5) (a5 : g5 < g6) (a6 : g6 < g7) (a7 : g7 < g8) (a8 : g8 < g9) (low : w.heap.size ≤ g4) (bel : Below w.heap.size w wr)
    (p1 : wr.rowIs g4 22 1 (fun _ => .float .f64 0))
    (p2 : wr.rowIs g5 22 1 (fun _ => .float .f64 0))
    (p3 : wr.rowIs g6 3 1 (fun _ => .int .i64 0))
    (q1 : wr.rowIs g7 22 1 (fun _ => .float .f64 0))
    (q2 : wr.rowIs g8 22 1 (fun _ => .float .f64 0))
    (q3 : wr.rowIs g9 3 1 (fun _ => .int .i64 0))
    : RelZ w g4 g5 g6 g7 g8 g9 S U T eS eU eT ((((((wr.setCell ⟨g4, 0, none⟩ (.float .f64 eS)).setCell ⟨g5, 0, none⟩ (.float .f64 eU)).setCell ⟨g6, 0, none⟩ (.int .i64 eT)).setCell ⟨g7, 0, none⟩ (.float .f64 eS)).setCell ⟨g8, 0, none⟩ (.float .f64 eU)).setCell ⟨g9, 0, none⟩ (.int .i64 eT)) := by
  refine ⟨((((((bel.setCell (by dsimp only; omega) _).setCell (by dsimp only; omega) _).setCell (by dsimp only; omega) _).setCell (by dsimp only; omega) _).setCell (by dsimp only; omega) _).setCell (by dsimp only; omega) _), ?_, ?_, ?_, ?_, ?_, ?_⟩
  · exact World.rowIs.congr ((((((p1.set 0 _).setOther (by dsimp only; omega) _).setOther (by dsimp only; omega) _).setOther (by dsimp only; omega) _).setOther (by dsimp only; omega) _).setOther (by dsimp only; omega) _) (fun j hj => one_cons (Value.float .f64) _ _ _ j hj)
  · exact World.rowIs.congr ((((((p2.setOther (by dsimp only; omega) _).set 0 _).setOther (by dsimp only; omega) _).setOther (by dsimp only; omega) _).setOther (by dsimp only; omega) _).setOther (by dsimp only; omega) _) (fun j hj => one_cons (Value.float .f64) _ _ _ j hj)
  · exact World.rowIs.congr ((((((p3.setOther (by dsimp only; omega) _).setOther (by dsimp only; omega) _).set 0 _).setOther (by dsimp only; omega) _).setOther (by dsimp only; omega) _).setOther (by dsimp only; omega) _) (fun j hj => one_cons (Value.int .i64) _ _ _ j hj)
  · exact World.rowIs.congr ((((((q1.setOther (by dsimp only; omega) _).setOther (by dsimp only; omega) _).setOther (by dsimp only; omega) _).set 0 _).setOther (by dsimp only; omega) _).setOther (by dsimp only; omega) _) (fun j hj => one_snoc (Value.float .f64) _ _ _ j hj)
  · exact World.rowIs.congr ((((((q2.setOther (by dsimp only; omega) _).setOther (by dsimp only; omega) _).setOther (by dsimp only; omega) _).setOther (by dsimp only; omega) _).set 0 _).setOther (by dsimp only; omega) _) (fun j hj => one_snoc (Value.float .f64) _ _ _ j hj)
  · exact World.rowIs.congr ((((((q3.setOther (by dsimp only; omega) _).setOther (by dsimp only; omega) _).setOther (by dsimp only; omega) _).setOther (by dsimp only; omega) _).setOther (by dsimp only; omega) _).set 0 _) (fun j hj => one_snoc (Value.int .i64) _ _ _ j hj)

set_option maxRecDepth 100000 in
set_option maxHeartbeats 2000000 in
theorem main_zero (w : World) (p t sf eS eU cS cU cT : Nat) (ld eT : Int) (aS aU aT : Option Addr) (S U : Nat → Nat) (T : Nat → Int) (hp : 1 ≤ p) (hp2 : p ≤ 65536) :
    Calls Try.prog 3 #[.int .i64 p, .float .f64 t, .float .f64 sf, .int .i64 ld, .slice aS 0 cS, .slice aU 0 cU, .slice aT 0 cT, .float .f64 eS, .float .f64 eU, .int .i64 eT] w
      fun e w' => e = .returned (.bool true) ∧ Below w.heap.size w w' := by
  have q23 := fun (w : World) (a : Option Addr) (n c : Nat) => run_neq_slice_nil_any (P := Try.prog) w 23 22 a n c 0 0 Try.underlying23
  have q24 := fun (w : World) (a : Option Addr) (n c : Nat) => run_neq_slice_nil_any (P := Try.prog) w 24 3 a n c 0 0 Try.underlying24
  have m23 : ∀ w : World, (Instr.makeSlice 23 (.int .i64 0) (.int .i64 0)).run Try.prog w = .ok (.slice (some ⟨w.heap.size, 0, none⟩) 0 0) (w.alloc (.cells (madeCells #[.float .f64 0] 0) 22)) :=
    run_make_row' (P := Try.prog) 23 22 (.float .f64 0) 8 Try.underlying23 info22 rfl .i64 .i64 0 (by omega) (by omega)
  have m24 : ∀ w : World, (Instr.makeSlice 24 (.int .i64 0) (.int .i64 0)).run Try.prog w = .ok (.slice (some ⟨w.heap.size, 0, none⟩) 0 0) (w.alloc (.cells (madeCells #[.int .i64 0] 0) 3)) :=
    run_make_row' (P := Try.prog) 24 3 (.int .i64 0) 8 Try.underlying24 info3 rfl .i64 .i64 0 (by omega) (by omega)
  have k23 : ∀ (w : World) (dp sp : Option Addr) (c c' : Nat), (Builtin.copy_ #[23, 23] 3 #[.slice dp 0 c, .slice sp 0 c']).run Try.prog w = .ok (.int .i64 0) w :=
    fun w dp sp c c' => run_copy_none (P := Try.prog) w 23 23 3 22 dp sp 0 c 0 c' Try.underlying23 size22 rfl
  have k24 : ∀ (w : World) (dp sp : Option Addr) (c c' : Nat), (Builtin.copy_ #[24, 24] 3 #[.slice dp 0 c, .slice sp 0 c']).run Try.prog w = .ok (.int .i64 0) w :=
    fun w dp sp c c' => run_copy_none (P := Try.prog) w 24 24 3 3 dp sp 0 c 0 c' Try.underlying24 size3 rfl
  have hp1 : (1 : Int) ≤ p := by omega
  go_enter Try.func3, Try.ntmps3
  go_wp2_with fail
  refine (bytes_any _ _ _ _ _ _ _ _ _ _ _ 0 0 0 _ _ _ (by omega) (by omega) (by omega)).mono ?_
  intro e w' hb
  obtain ⟨b, rfl, rfl⟩ := hb
  cases b with
  | false =>
    go_wp2
    go_ret
    exact ⟨rfl, Below.refl _ _⟩
  | true =>
    go_upto_if 77 with fail
    go_cut [4] (fun v wc => ∃ (a : Option Addr) (c : Nat), v = .slice a 0 c ∧ Below w.heap.size w wc)
    case first => as_aux_lemma =>
      cases aS with
      | none =>
        go_wp2
        go_meet
        case rel => exact ⟨_, _, rfl, Below.refl _ _⟩
      | some x =>
        go_wp2
        go_meet
        case rel => exact ⟨_, _, rfl, (Below.refl _ _).alloc (Nat.le_refl _) _⟩
    case rest =>
      obtain ⟨d4, c4, rfl, h4⟩ := hcut
      go_upto_if 86 with fail
      go_cut [5] (fun v wc => ∃ (a : Option Addr) (c : Nat), v = .slice a 0 c ∧ Below w.heap.size w wc)
      case first => as_aux_lemma =>
        cases aU with
        | none =>
          go_wp2
          go_meet
          case rel => exact ⟨_, _, rfl, h4⟩
        | some x =>
          go_wp2
          go_meet
          case rel => exact ⟨_, _, rfl, (h4).alloc h4.size _⟩
      case rest =>
        obtain ⟨d5, c5, rfl, h5⟩ := hcut
        go_upto_if 95 with fail
        go_cut [6] (fun v wc => ∃ (a : Option Addr) (c : Nat), v = .slice a 0 c ∧ Below w.heap.size w wc)
        case first => as_aux_lemma =>
          cases aT with
          | none =>
            go_wp2
            go_meet
            case rel => exact ⟨_, _, rfl, h5⟩
          | some x =>
            go_wp2
            go_meet
            case rel => exact ⟨_, _, rfl, (h5).alloc h5.size _⟩
        case rest => as_aux_lemma =>
          obtain ⟨d6, c6, rfl, h6⟩ := hcut
          obtain ⟨g4, x4, mg4, eg4, sg4, bg4, rg4⟩ := make_run (P := Try.prog) wc 23 22 (.float .f64 0) 8 Try.underlying23 info22 rfl 1 (by omega) (by omega) 1 (by omega)
          obtain ⟨g5, x5, mg5, eg5, sg5, bg5, rg5⟩ := make_run (P := Try.prog) x4 23 22 (.float .f64 0) 8 Try.underlying23 info22 rfl 1 (by omega) (by omega) 1 (by omega)
          obtain ⟨g6, x6, mg6, eg6, sg6, bg6, rg6⟩ := make_run (P := Try.prog) x5 24 3 (.int .i64 0) 8 Try.underlying24 info3 rfl 1 (by omega) (by omega) 1 (by omega)
          obtain ⟨g7, x7, mg7, eg7, sg7, bg7, rg7⟩ := make_run (P := Try.prog) x6 23 22 (.float .f64 0) 8 Try.underlying23 info22 rfl 1 (by omega) (by omega) 1 (by omega)
          obtain ⟨g8, x8, mg8, eg8, sg8, bg8, rg8⟩ := make_run (P := Try.prog) x7 23 22 (.float .f64 0) 8 Try.underlying23 info22 rfl 1 (by omega) (by omega) 1 (by omega)
          obtain ⟨g9, x9, mg9, eg9, sg9, bg9, rg9⟩ := make_run (P := Try.prog) x8 24 3 (.int .i64 0) 8 Try.underlying24 info3 rfl 1 (by omega) (by omega) 1 (by omega)
          have B9 : Below w.heap.size w x9 := ((((((h6.trans (bg4.mono h6.size)).trans (bg5.mono (by have := h6.size; omega))).trans (bg6.mono (by have := h6.size; omega))).trans (bg7.mono (by have := h6.size; omega))).trans (bg8.mono (by have := h6.size; omega))).trans (bg9.mono (by have := h6.size; omega)))
          have low : w.heap.size ≤ g4 := by have := h6.size; omega
          have a4 : g4 < g5 := by omega
          have a5 : g5 < g6 := by omega
          have a6 : g6 < g7 := by omega
          have a7 : g7 < g8 := by omega
          have a8 : g8 < g9 := by omega
          have R4 := row_below bg9 (row_below bg8 (row_below bg7 (row_below bg6 (row_below bg5 rg4))))
          have R5 := row_below bg9 (row_below bg8 (row_below bg7 (row_below bg6 rg5)))
          have R6 := row_below bg9 (row_below bg8 (row_below bg7 rg6))
          have R7 := row_below bg9 (row_below bg8 rg7)
          have R8 := row_below bg9 rg8
          have E0 := RelZ.start (S := S) (U := U) (T := T) (eS := eS) (eU := eU) (eT := eT) a4 a5 a6 a7 a8 low B9 R4 R5 R6 R7 R8 rg9
          have z4 := R4.cell (i := 0) (by omega)
          have z5 := R5.cell (i := 0) (by omega)
          have z6 := R6.cell (i := 0) (by omega)
          have z7 := R7.cell (i := 0) (by omega)
          have z8 := R8.cell (i := 0) (by omega)
          have z9 := rg9.cell (i := 0) (by omega)
          have y4 := R4.frozen 0
          have y5 := R5.frozen 0
          have y6 := R6.frozen 0
          have y7 := R7.frozen 0
          have y8 := R8.frozen 0
          have y9 := rg9.frozen 0
          clear R4 R5 R6 R7 R8 B9 bg4 bg5 bg6 bg7 bg8 bg9 rg4 rg5 rg6 rg7 rg8 rg9 eg4 eg5 eg6 eg7 eg8 eg9 sg4 sg5 sg6 sg7 sg8 sg9
          go_wp2
          go_loop [31] (fun i => i = .int .i64 0) (fun _ => 0)
          case atStart => rfl
          case round =>
            obtain rfl := hrel
            go_wp2_with fail
            refine (adv_none _ p sf none none none 0 0 0 ld S U T hp hp2).mono ?_
            intro e wa0 ha
            obtain ⟨A, D, O, E, rfl, hadv, hba⟩ := ha
            have E1 := E0.next hba
            clear E0 hba
            go_wp2_with fail
            refine (trusted_any _ p t 0 A D O E sf ld S U T hp hp2 (by omega) hadv).mono ?_
            intro e wb0 ht
            obtain ⟨r0, rfl, Tr0, hbt⟩ := ht
            have E2 := E1.next hbt
            clear E1 hbt hadv
            go_wp2_with fail
            refine (adv_none _ p sf _ _ _ _ _ _ ld S U T hp hp2).mono ?_
            intro e wa1 ha
            obtain ⟨A, D, O, E, rfl, hadv, hba⟩ := ha
            have E3 := E2.next hba
            clear E2 hba
            go_wp2_with fail
            refine (trusted_any _ p t 0 A D O E sf ld S U T hp hp2 (by omega) hadv).mono ?_
            intro e wb1 ht
            obtain ⟨rx, rfl, Trx, hbt⟩ := ht
            have E4 := E3.next hbt
            clear E3 hbt hadv
            go_wp2_with fail
            refine (adv_rows _ p sf 1 g4 g5 g6 ld (consN eS S) (consN eU U) (consN eT T) hp hp2 (by omega) (by omega) E4.p1 E4.p2 E4.p3).mono ?_
            intro e wa2 ha
            obtain ⟨A, D, O, E, rfl, hadv, hba⟩ := ha
            have E5 := E4.next hba
            clear E4 hba
            go_wp2_with fail
            refine (trusted_any _ p t 1 A D O E sf ld (consN eS S) (consN eU U) (consN eT T) hp hp2 (by omega) hadv).mono ?_
            intro e wb2 ht
            obtain ⟨ry, rfl, Tryy, hbt⟩ := ht
            have E6 := E5.next hbt
            clear E5 hbt hadv
            go_wp2_with fail
            refine (adv_rows _ p sf 1 g7 g8 g9 ld (snocN 0 eS S) (snocN 0 eU U) (snocN 0 eT T) hp hp2 (by omega) (by omega) E6.q1 E6.q2 E6.q3).mono ?_
            intro e wa3 ha
            obtain ⟨A, D, O, E, rfl, hadv, hba⟩ := ha
            have E7 := E6.next hba
            clear E6 hba
            go_wp2_with fail
            refine (trusted_any _ p t 1 A D O E sf ld (snocN 0 eS S) (snocN 0 eU U) (snocN 0 eT T) hp hp2 (by omega) hadv).mono ?_
            intro e wb3 ht
            obtain ⟨rz, rfl, Trz, hbt⟩ := ht
            have E8 := E7.next hbt
            clear E7 hbt hadv
            have HB : Hid (Below w.heap.size w wb3) := E8.bel
            clear E8
            by_cases g : fge t sf = true
            · obtain rfl := Tr0.yes g
              obtain rfl := Trx.yes g
              obtain rfl := Tryy.yes g
              obtain rfl := Trz.yes g
              go_wp2
              go_ret
              exact ⟨rfl, HB⟩
            · rw [Bool.not_eq_true] at g
              obtain ⟨h0, hyes, hno⟩ := law_plain g Tr0 Trx Tryy Trz
              clear Tr0 Trx Tryy Trz
              obtain rfl := h0
              by_cases t1 : fle eS t = true
              · by_cases t2 : flt t eU = true
                · obtain ⟨hy, hz⟩ := hyes (cov_tt t1 t2)
                  have hz2 : rz = rx ∨ ((rz == (p : Int)) = false ∧ rx = p ∧ rz = eT) := by
                    rcases hz with h | ⟨hx, h⟩
                    · exact .inl h
                    · by_cases hq : rz = (p : Int)
                      · exact .inl (hq.trans hx.symm)
                      · exact .inr ⟨by simpa using hq, hx, h⟩
                  clear hyes hno hz
                  obtain rfl := hy
                  rcases hz2 with hz | ⟨hq, hx, hz⟩
                  · obtain rfl := hz
                    go_wp2
                    go_ret
                    refine ⟨?_, HB⟩
                    first | rfl | exact ret_bool (by simp)
                  · obtain rfl := hx
                    obtain rfl := hz
                    go_wp2
                    go_ret
                    refine ⟨?_, HB⟩
                    first | rfl | exact ret_bool (by simp)
                · rw [Bool.not_eq_true] at t2
                  obtain ⟨hy, hz⟩ := hno (cov_f2 t2)
                  clear hyes hno
                  obtain rfl := hy
                  obtain rfl := hz
                  go_wp2
                  go_ret
                  refine ⟨?_, HB⟩
                  first | rfl | exact ret_bool (by simp)
              · rw [Bool.not_eq_true] at t1
                obtain ⟨hy, hz⟩ := hno (cov_f1 t1)
                clear hyes hno
                obtain rfl := hy
                obtain rfl := hz
                go_wp2
                go_ret
                refine ⟨?_, HB⟩
                first | rfl | exact ret_bool (by simp)
end Go.Proofs.Qxb6617698a
