/-
  The law's walk where the slices are not empty.
-/
import Derived.Test.Qxb6617698aPlain
import Derived.Test.Qxb6617698aBytes
namespace Go.Proofs.Qxb6617698a
open Go.ChangeShapes Go.WideShapes Go.ChangeAt Go.RowKit
attribute [local go_sem] bin_leq bin_lss bin_geq run_store_float

theorem ret_bool {b : Bool} (h : b = true) : Ending.returned (.bool b) = .returned (.bool true) := by rw [h]

set_option maxRecDepth 100000 in
set_option maxHeartbeats 2000000 in
theorem main_pos (w : World) (p t sf eS eU n cS cU cT : Nat) (ld eT : Int) (xS xU xT : Addr) (S U : Nat → Nat) (T : Nat → Int) (hp : 1 ≤ p) (hp2 : p ≤ 65536) (hn : 1 ≤ n) (hn2 : n ≤ 32768)
    (lS : xS.block < w.heap.size) (hS : ∀ i, i < n → w.cell? (xS.add i) = some (.float .f64 (S i)))
    (lU : xU.block < w.heap.size) (hU : ∀ i, i < n → w.cell? (xU.add i) = some (.float .f64 (U i)))
    (lT : xT.block < w.heap.size) (hT : ∀ i, i < n → w.cell? (xT.add i) = some (.int .i64 (T i))) :
    Calls Try.prog 3 #[.int .i64 p, .float .f64 t, .float .f64 sf, .int .i64 ld, .slice (some xS) n cS, .slice (some xU) n cU, .slice (some xT) n cT, .float .f64 eS, .float .f64 eU, .int .i64 eT] w
      fun e w' => e = .returned (.bool true) ∧ Below w.heap.size w w' := by
  have q23 := fun (w : World) (a : Addr) (n c : Nat) => run_neq_slice_nil_any (P := Try.prog) w 23 22 (some a) n c 0 0 Try.underlying23
  have q24 := fun (w : World) (a : Addr) (n c : Nat) => run_neq_slice_nil_any (P := Try.prog) w 24 3 (some a) n c 0 0 Try.underlying24
  have hp1 : (1 : Int) ≤ p := by omega
  have hnn : ((n : Int) != (n : Int)) = false := by simp
  obtain ⟨g1, v1, w1, m1, c1, e1, s1, b1, r1⟩ := clone_run (P := Try.prog) w 23 22 3 (.float .f64 0) 8 Try.underlying23 info22 rfl n (by omega) (by omega) size22 cS xS (fun i => .float .f64 (S i)) (fun _ => rfl) (src_of (Below.refl _ _) lS hS)
  obtain ⟨g2, v2, w2, m2, c2, e2, s2, b2, r2⟩ := clone_run (P := Try.prog) w1 23 22 3 (.float .f64 0) 8 Try.underlying23 info22 rfl n (by omega) (by omega) size22 cU xU (fun i => .float .f64 (U i)) (fun _ => rfl) (src_of b1 lU hU)
  have B2 := b1.trans (b2.mono (by omega))
  obtain ⟨g3, v3, w3, m3, c3, e3, s3, b3, r3⟩ := clone_run (P := Try.prog) w2 24 3 3 (.int .i64 0) 8 Try.underlying24 info3 rfl n (by omega) (by omega) size3 cT xT (fun i => .int .i64 (T i)) (fun _ => rfl) (src_of B2 lT hT)
  have B3 := B2.trans (b3.mono (by omega))
  obtain ⟨g4, w4, m4, e4, s4, b4, r4⟩ := make_run (P := Try.prog) w3 23 22 (.float .f64 0) 8 Try.underlying23 info22 rfl (n + 1) (by omega) (by omega) ((n : Int) + 1) (by omega)
  have B4 := B3.trans (b4.mono (by omega))
  obtain ⟨g5, w5, m5, e5, s5, b5, r5⟩ := make_run (P := Try.prog) w4 23 22 (.float .f64 0) 8 Try.underlying23 info22 rfl (n + 1) (by omega) (by omega) ((n : Int) + 1) (by omega)
  have B5 := B4.trans (b5.mono (by omega))
  obtain ⟨g6, w6, m6, e6, s6, b6, r6⟩ := make_run (P := Try.prog) w5 24 3 (.int .i64 0) 8 Try.underlying24 info3 rfl (n + 1) (by omega) (by omega) ((n : Int) + 1) (by omega)
  have B6 := B5.trans (b6.mono (by omega))
  obtain ⟨g7, w7, m7, e7, s7, b7, r7⟩ := make_run (P := Try.prog) w6 23 22 (.float .f64 0) 8 Try.underlying23 info22 rfl (n + 1) (by omega) (by omega) ((n : Int) + 1) (by omega)
  have B7 := B6.trans (b7.mono (by omega))
  obtain ⟨g8, w8, m8, e8, s8, b8, r8⟩ := make_run (P := Try.prog) w7 23 22 (.float .f64 0) 8 Try.underlying23 info22 rfl (n + 1) (by omega) (by omega) ((n : Int) + 1) (by omega)
  have B8 := B7.trans (b8.mono (by omega))
  obtain ⟨g9, w9, m9, e9, s9, b9, r9⟩ := make_run (P := Try.prog) w8 24 3 (.int .i64 0) 8 Try.underlying24 info3 rfl (n + 1) (by omega) (by omega) ((n : Int) + 1) (by omega)
  have B9 := B8.trans (b9.mono (by omega))
  have ap : Apart g1 g2 g3 g4 g5 g6 g7 g8 g9 := ⟨by omega, by omega, by omega, by omega, by omega, by omega, by omega, by omega⟩
  have low : w.heap.size ≤ g1 := by omega
  have R1 := row_below b9 (row_below b8 (row_below b7 (row_below b6 (row_below b5 (row_below b4 (row_below b3 (row_below b2 r1)))))))
  have R2 := row_below b9 (row_below b8 (row_below b7 (row_below b6 (row_below b5 (row_below b4 (row_below b3 r2))))))
  have R3 := row_below b9 (row_below b8 (row_below b7 (row_below b6 (row_below b5 (row_below b4 r3)))))
  have R4 := row_below b9 (row_below b8 (row_below b7 (row_below b6 (row_below b5 r4))))
  have R5 := row_below b9 (row_below b8 (row_below b7 (row_below b6 r5)))
  have R6 := row_below b9 (row_below b8 (row_below b7 r6))
  have R7 := row_below b9 (row_below b8 r7)
  have R8 := row_below b9 r8
  have R0 := RelL.start (eS := eS) (eU := eU) (eT := eT) ap low B9 R1 R2 R3 R4 R5 R6 R7 R8 r9
  have z4 := R4.cell (i := 0) (by omega)
  have z5 := R5.cell (i := 0) (by omega)
  have z6 := R6.cell (i := 0) (by omega)
  have y4 := R4.frozen 0
  have y5 := R5.frozen 0
  have y6 := R6.frozen 0
  have HR : Hid (RelL w g1 g2 g3 g4 g5 g6 g7 g8 g9 n S U T eS eU eT 0 _) := R0
  obtain ⟨a1, a2, a3, a4, a5, a6, a7, a8⟩ := id ap
  clear R0 R1 R2 R3 R4 R5 R6 R7 R8 B2 B3 B4 B5 B6 B7 B8 B9 b1 b2 b3 b4 b5 b6 b7 b8 b9 r1 r2 r3 r4 r5 r6 r7 r8 r9 e1 e2 e3 e4 e5 e6 e7 e8 e9 s1 s2 s3 s4 s5 s6 s7 s8 s9 hS hU hT
  go_enter Try.func3, Try.ntmps3
  go_wp2_with fail
  refine (bytes_any _ _ _ _ _ _ _ _ _ _ _ n n n _ _ _ (by omega) (by omega) (by omega)).mono ?_
  intro e w' hb
  obtain ⟨b, rfl, rfl⟩ := hb
  cases b with
  | false =>
    go_wp2
    go_ret
    exact ⟨rfl, Below.refl _ _⟩
  | true =>
    go_wp2
    go_loopw [31] (fun i wr => ∃ k : Nat, k ≤ n ∧ i = .int .i64 (k : Int) ∧ RelL w g1 g2 g3 g4 g5 g6 g7 g8 g9 n S U T eS eU eT k wr) (fun i _ => n - (intOf i).toNat)
    case atStart => exact ⟨0, Nat.zero_le _, rfl, HR⟩
    case round =>
      obtain ⟨k, hk, rfl, hR⟩ := hrel
      clear HR m1 m2 m3 m4 m5 m6 m7 m8 m9 c1 c2 c3 z4 z5 z6 y4 y5 y6
      by_cases hlt : k < n
      · have i1 : wr.cell? ⟨g1, k, none⟩ = some (.float .f64 (S k)) := hR.c1.cell hlt
        have i2 : wr.cell? ⟨g2, k, none⟩ = some (.float .f64 (U k)) := hR.c2.cell hlt
        have i3 : wr.cell? ⟨g3, k, none⟩ = some (.int .i64 (T k)) := hR.c3.cell hlt
        have i4 := hR.p1.cell (i := k + 1) (by omega)
        have i5 := hR.p2.cell (i := k + 1) (by omega)
        have i6 := hR.p3.cell (i := k + 1) (by omega)
        have i7 := hR.q1.cell (i := k) (by omega)
        have i8 := hR.q2.cell (i := k) (by omega)
        have i9 := hR.q3.cell (i := k) (by omega)
        have f4 := hR.p1.frozen (k + 1)
        have f5 := hR.p2.frozen (k + 1)
        have f6 := hR.p3.frozen (k + 1)
        have f7 := hR.q1.frozen k
        have f8 := hR.q2.frozen k
        have f9 := hR.q3.frozen k
        go_wp2
        go_roundw
        case rel => exact ⟨k + 1, by omega, by go_num, hR.step ap⟩
        case measure => simp [intOf]; omega
      · have hkn : k = n := by omega
        have hR' : RelL w g1 g2 g3 g4 g5 g6 g7 g8 g9 n S U T eS eU eT n wr := hkn ▸ hR
        clear hR hkn
        have i7 := hR'.q1.cell (i := n) (by omega)
        have i8 := hR'.q2.cell (i := n) (by omega)
        have i9 := hR'.q3.cell (i := n) (by omega)
        have f7 := hR'.q1.frozen n
        have f8 := hR'.q2.frozen n
        have f9 := hR'.q3.frozen n
        have E0 := hR'.fin ap
        go_wp2_with fail
        refine (adv_none _ p sf none none none 0 0 0 ld S U T hp hp2).mono ?_
        intro e wa0 ha
        obtain ⟨A, D, O, E, rfl, hadv, hba⟩ := ha
        have E1 := E0.next hba
        clear E0 hba
        go_wp2_with fail
        refine (trusted_any _ p t 0 A D O E sf ld S U T hp hp2 (by omega) hadv).mono ?_
        intro e wb0 ht
        obtain ⟨r0, rfl, Tr0, hbt⟩ := ht
        have E2 := E1.next hbt
        clear E1 hbt hadv
        go_wp2_with fail
        refine (adv_rows _ p sf n g1 g2 g3 ld S U T hp hp2 (by omega) hn E2.c1 E2.c2 E2.c3).mono ?_
        intro e wa1 ha
        obtain ⟨A, D, O, E, rfl, hadv, hba⟩ := ha
        have E3 := E2.next hba
        clear E2 hba
        go_wp2_with fail
        refine (trusted_any _ p t n A D O E sf ld S U T hp hp2 (by omega) hadv).mono ?_
        intro e wb1 ht
        obtain ⟨rx, rfl, Trx, hbt⟩ := ht
        have E4 := E3.next hbt
        clear E3 hbt hadv
        go_wp2_with fail
        refine (adv_rows _ p sf (n + 1) g4 g5 g6 ld (consN eS S) (consN eU U) (consN eT T) hp hp2 (by omega) (by omega) E4.p1 E4.p2 E4.p3).mono ?_
        intro e wa2 ha
        obtain ⟨A, D, O, E, rfl, hadv, hba⟩ := ha
        have E5 := E4.next hba
        clear E4 hba
        go_wp2_with fail
        refine (trusted_any _ p t (n + 1) A D O E sf ld (consN eS S) (consN eU U) (consN eT T) hp hp2 (by omega) hadv).mono ?_
        intro e wb2 ht
        obtain ⟨ry, rfl, Tryy, hbt⟩ := ht
        have E6 := E5.next hbt
        clear E5 hbt hadv
        go_wp2_with fail
        refine (adv_rows _ p sf (n + 1) g7 g8 g9 ld (snocN n eS S) (snocN n eU U) (snocN n eT T) hp hp2 (by omega) (by omega) E6.q1 E6.q2 E6.q3).mono ?_
        intro e wa3 ha
        obtain ⟨A, D, O, E, rfl, hadv, hba⟩ := ha
        have E7 := E6.next hba
        clear E6 hba
        go_wp2_with fail
        refine (trusted_any _ p t (n + 1) A D O E sf ld (snocN n eS S) (snocN n eU U) (snocN n eT T) hp hp2 (by omega) hadv).mono ?_
        intro e wb3 ht
        obtain ⟨rz, rfl, Trz, hbt⟩ := ht
        have E8 := E7.next hbt
        clear E7 hbt hadv
        have HB : Hid (Below w.heap.size w wb3) := E8.bel
        clear E8
        by_cases g : fge t sf = true
        · obtain rfl := Tr0.yes g
          obtain rfl := Trx.yes g
          obtain rfl := Tryy.yes g
          obtain rfl := Trz.yes g
          go_wp2
          go_ret
          exact ⟨rfl, HB⟩
        · rw [Bool.not_eq_true] at g
          obtain ⟨h0, hyes, hno⟩ := law_plain g Tr0 Trx Tryy Trz
          clear Tr0 Trx Tryy Trz
          obtain rfl := h0
          by_cases t1 : fle eS t = true
          · by_cases t2 : flt t eU = true
            · obtain ⟨hy, hz⟩ := hyes (cov_tt t1 t2)
              have hz2 : rz = rx ∨ ((rz == (p : Int)) = false ∧ rx = p ∧ rz = eT) := by
                rcases hz with h | ⟨hx, h⟩
                · exact .inl h
                · by_cases hq : rz = (p : Int)
                  · exact .inl (hq.trans hx.symm)
                  · exact .inr ⟨by simpa using hq, hx, h⟩
              clear hyes hno hz
              obtain rfl := hy
              rcases hz2 with hz | ⟨hq, hx, hz⟩
              · obtain rfl := hz
                go_wp2
                go_ret
                refine ⟨?_, HB⟩
                first | rfl | exact ret_bool (by simp)
              · obtain rfl := hx
                obtain rfl := hz
                go_wp2
                go_ret
                refine ⟨?_, HB⟩
                first | rfl | exact ret_bool (by simp)
            · rw [Bool.not_eq_true] at t2
              obtain ⟨hy, hz⟩ := hno (cov_f2 t2)
              clear hyes hno
              obtain rfl := hy
              obtain rfl := hz
              go_wp2
              go_ret
              refine ⟨?_, HB⟩
              first | rfl | exact ret_bool (by simp)
          · rw [Bool.not_eq_true] at t1
            obtain ⟨hy, hz⟩ := hno (cov_f1 t1)
            clear hyes hno
            obtain rfl := hy
            obtain rfl := hz
            go_wp2
            go_ret
            refine ⟨?_, HB⟩
            first | rfl | exact ret_bool (by simp)
end Go.Proofs.Qxb6617698a
