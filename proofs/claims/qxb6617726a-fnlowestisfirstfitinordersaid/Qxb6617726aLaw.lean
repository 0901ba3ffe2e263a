/-
  The law's walk.
-/
import Derived.Test.Qxb6617726aFlat
import Derived.LaidEqlPtr
namespace Go.Proofs.Qxb6617726a
open Go.ChangeShapes Go.WideShapes Go.ChangeAt Go.RowKit Go.Deep

def pz : Pay := ⟨0, 0, 0, 0⟩
def pk (L : List Pay) (k : Nat) : Pay := L.getD k pz
theorem pk_get {L : List Pay} {k : Nat} (h : k < L.length) : pk L k = L[k] := by simp [pk, h]
theorem nth_all (L : List Pay) (p : Pay → Bool) (h : ∀ j, j < L.length → p (pk L j) = false) : ∀ b ∈ L, p b = false := by
  intro b hb
  obtain ⟨j, hj, rfl⟩ := List.getElem_of_mem hb
  rw [← pk_get hj]; exact h j hj
theorem idx_eq (c m : Int) (L : List Pay) (k : Nat) (hk : k < L.length) (h1 : fits c m (pk L k) = true) (h2 : ∀ j, j < k → fits c m (pk L j) = false) : idx c m L = k := by
  unfold idx
  rw [List.findIdx_eq hk]
  refine ⟨by rw [← pk_get hk]; exact h1, fun j hj => by rw [← pk_get (by omega)]; exact h2 j hj⟩
theorem lcs_get (L : List Pay) (k : Nat) (h : k < L.length) : (lcs L)[k]? = some (.int .i64 (pk L k).lc) := by simp [lcs, pk, h]
theorem lms_get (L : List Pay) (k : Nat) (h : k < L.length) : (lms L)[k]? = some (.int .i64 (pk L k).lm) := by simp [lms, pk, h]

theorem fits_tt {c m : Int} {a : Pay} (h1 : c ≤ a.lc) (h2 : m ≤ a.lm) : fits c m a = true := by simp [fits, h1, h2]
theorem fits_f1 {c m : Int} {a : Pay} (h1 : ¬ c ≤ a.lc) : fits c m a = false := by simp [fits, h1]
theorem fits_f2 {c m : Int} {a : Pay} (h2 : ¬ m ≤ a.lm) : fits c m a = false := by simp [fits, h2]

theorem ret_bool {b : Bool} (h : b = true) : Ending.returned (.bool b) = .returned (.bool true) := by rw [h]

theorem some47 : (Try.prog.info? 47).isSome = true := by kernel_rfl
theorem eql_same (w : World) (x : Addr) : (binOp .eql 24 (.pointer (some x)) (.pointer (some x))).run Try.prog w = .ok (.bool true) w := by
  obtain ⟨j, hj⟩ := Option.isSome_iff_exists.1 some47
  exact run_eql_ptr_same w x Try.underlying24 hj

theorem below_drewN (W : World) (n : Nat) : Below W.heap.size W (W.drewN n) := ⟨rfl, rfl, rfl, Nat.le_refl _, fun _ _ => rfl⟩

set_option maxRecDepth 100000 in
set_option maxHeartbeats 2000000 in
theorem law_any (W : World) (T : BT Pay) (c m : Int) (hT : InT W T) (hpos : 1 ≤ sz T) :
    Calls Try.prog 3 #[T.ptr, .int .i64 c, .int .i64 m] W fun e w' => e = .returned (.bool true) ∧ Below W.heap.size W w' := by
  obtain ⟨p0, ep0⟩ := ptr_pointer (T := T)
  have S0 : Hid (Calls Try.prog 4 #[.pointer p0, .int .i64 4096] W (ScanSaid T 4096 W)) := by
    have := scan_any T W 4096 (by omega) (by omega) hT; rwa [ep0] at this
  have BU : Hid (∀ w, Below W.heap.size W w → sz T ≤ 4096 → Calls Try.prog 5 #[.pointer p0, .slice none 0 0, .int .i64 4096] w (BuildSaid W.heap.size w T none 0 [])) := by
    intro w hb hs
    have := build_any W T hT w none 0 0 [] 4096 hb (by omega) (by omega) (by omega) (Own.nil _ _ _); rwa [ep0] at this
  have FL : Hid (∀ w, Below W.heap.size W w → sz T ≤ 4096 → Calls Try.prog 6 #[.pointer p0, .slice none 0 0, .slice none 0 0, .int .i64 4096] w (FlatSaid W.heap.size w T none 0 [] none 0 [])) := by
    intro w hb hs
    have := flat_any W T hT w none none 0 0 0 0 [] [] 4096 hb (by omega) (by omega) (by omega) (by omega) (Own.nil _ _ _) (Own.nil _ _ _) (fun k h _ => rowAt_none h); rwa [ep0] at this
  rw [ep0]
  go_enter Try.func3, Try.ntmps3
  go_wp2_with fail
  refine S0.out.mono ?_
  intro e w0 hs
  obtain ⟨v, rfl, v1, v2, v3, q0, rfl⟩ := hs
  by_cases hv : v < 0
  · go_wp2
    go_ret
    exact ⟨rfl, below_drewN _ _⟩
  · obtain ⟨hsz, hgood⟩ := v3 (by omega)
    have hN : sz T ≤ 4096 := by omega
    clear v3
    go_wp2_with fail
    refine (BU.out _ (below_drewN W q0) hN).mono ?_
    intro e w1 hs
    obtain ⟨T2, p, a1, n1, c1, rfl, hp, hB⟩ := hs
    have B1 : Below W.heap.size W w1 := (below_drewN W q0).trans (hB.fr.below (Nat.le_refl _) (fun k hk => (rowAt_none hk).elim))
    go_wp2_with fail
    refine (FL.out w1 B1 hN).mono ?_
    intro e w2 hs
    obtain ⟨a2, d2, n2, c2, m2, e2, rfl, hF⟩ := hs
    have B2 : Below W.heap.size W w2 := B1.trans (hF.fr.below B1.size (fun k hk => by rcases hk with hk | hk <;> exact (rowAt_none hk).elim))
    obtain rfl : n1 = sz T := by have := hB.len; omega
    obtain rfl : n2 = sz T := by have := hF.len; rw [len_pays] at this; omega
    obtain rfl : m2 = sz T := by have := hF.len2; rw [len_pays] at this; omega
    have ORD : Own w2 W.heap.size 24 a1 (sz T) c1 ([] ++ ptrs T2) := hB.own.kept hF.fr (fun k _ h => by rcases h with h | h <;> exact rowAt_none h)
    have INS : InS w2 T2 := hB.ins.fr hF.fr (fun k h => by rcases h with h | h <;> exact (rowAt_none h).elim)
    have CP := hF.own
    have ME := hF.own2
    have SIM := hB.sim
    clear hB hF BU FL S0
    obtain ⟨g1, rfl⟩ := ORD.pos (by omega)
    obtain ⟨g2, rfl⟩ := CP.pos (by omega)
    obtain ⟨g3, rfl⟩ := ME.pos (by omega)
    have cell2 : ∀ k, k < sz T → w2.cell? ⟨g2, k, none⟩ = some (.int .i64 (pk (pays T) k).lc) := fun k hk => by
      rw [World.ownsRow.cellAt CP k (by omega)]; simpa using lcs_get (pays T) k (by rw [len_pays]; exact hk)
    have cell3 : ∀ k, k < sz T → w2.cell? ⟨g3, k, none⟩ = some (.int .i64 (pk (pays T) k).lm) := fun k hk => by
      rw [World.ownsRow.cellAt ME k (by omega)]; simpa using lms_get (pays T) k (by rw [len_pays]; exact hk)
    have cell1 : ∀ k, k < sz T → w2.cell? ⟨g1, k, none⟩ = (ptrs T2)[k]? := fun k hk => by
      rw [World.ownsRow.cellAt ORD k (by omega)]; simp
    have row1 := (ORD.row (k := g1) ⟨_, rfl, rfl⟩).2.1
    have LOW : Hid (Calls Try.prog 7 #[.pointer p, .int .i64 c, .int .i64 m] w2 fun e w' => e = .returned (lowP c m T2) ∧ Below w2.heap.size w2 w') := zzlow_any c m T2 p hp w2 INS (SIM.good hgood)
    have PE : Hid (pays T2 = pays T) := SIM.pays_eq.symm
    clear ORD CP ME INS SIM hgood hp
    go_wp2
    go_loop [11, 12] (fun want i => ∃ k : Nat, k ≤ sz T ∧ i = .int .i64 (k : Int) ∧ want = .int .i64 (-1) ∧ ∀ j, j < k → fits c m (pk (pays T) j) = false) (fun _ i => sz T - (intOf i).toNat)
    case atStart => exact ⟨0, Nat.zero_le _, rfl, rfl, fun j hj => absurd hj (Nat.not_lt_zero _)⟩
    case round =>
      obtain ⟨k, hk, rfl, rfl, hno0⟩ := hrel
      have hno : Hid (∀ j, j < k → fits c m (pk (pays T) j) = false) := hno0
      clear hno0
      by_cases hlt : k < sz T
      · have i2 := cell2 k hlt
        have i3 := cell3 k hlt
        have i1 := cell1 k hlt
        clear cell1 cell2 cell3
        by_cases f1 : c ≤ (pk (pays T) k).lc
        · by_cases f2 : m ≤ (pk (pays T) k).lm
          · have hix : idx c m (pays T) = k := idx_eq c m (pays T) k (by rw [len_pays]; exact hlt) (fits_tt f1 f2) hno.out
            obtain ⟨x, hx, hpx⟩ : ∃ x, lowP c m T2 = .pointer (some x) ∧ (ptrs T2)[k]? = some (.pointer (some x)) := by
              rcases lowP_idx c m T2 with h | ⟨h, x, hx⟩
              · have hm := h (pk (pays T) k) (by rw [PE.out, pk_get (by rw [len_pays]; exact hlt)]; exact List.getElem_mem _)
                rw [fits_tt f1 f2] at hm; cases hm
              · rw [PE.out, hix, hx] at h
                exact ⟨x, hx, h⟩
            rw [hpx] at i1
            clear hix hpx
            go_wp2_with fail
            refine LOW.out.mono ?_
            rintro e w3 ⟨rfl, b3⟩
            have j1 : w3.cell? ⟨g1, k, none⟩ = some (.pointer (some x)) := (b3.cell (by exact row1)).trans i1
            have HB : Hid (Below W.heap.size W w3) := B2.trans (b3.mono B2.size)
            rw [hx]
            have EQ := eql_same w3 x
            clear hx b3
            go_wp2
            go_ret
            refine ⟨?_, HB.out⟩
            first | rfl | exact ret_bool (by simp)
          · go_wp2
            go_round
            case rel => exact ⟨k + 1, by omega, by go_num, rfl, fun j hj => by
              by_cases e : j = k
              · subst e; exact fits_f2 f2
              · exact hno.out j (by omega)⟩
            case measure => simp [intOf]; omega
        · go_wp2
          go_round
          case rel => exact ⟨k + 1, by omega, by go_num, rfl, fun j hj => by
            by_cases e : j = k
            · subst e; exact fits_f1 f1
            · exact hno.out j (by omega)⟩
          case measure => simp [intOf]; omega
      · have hx : lowP c m T2 = .pointer none := lowP_none c m T2 (by rw [PE.out]; exact nth_all _ _ (fun j hj => hno.out j (by rw [len_pays] at hj; omega)))
        clear cell1 cell2 cell3
        go_wp2_with fail
        refine LOW.out.mono ?_
        rintro e w3 ⟨rfl, b3⟩
        have HB : Hid (Below W.heap.size W w3) := B2.trans (b3.mono B2.size)
        rw [hx]
        clear hx b3
        go_wp2
        go_ret
        refine ⟨?_, HB.out⟩
        first | rfl | exact ret_bool (by simp)

set_option maxRecDepth 100000 in
set_option maxHeartbeats 2000000 in
theorem law_nil (W : World) (c m : Int) :
    Calls Try.prog 3 #[.pointer none, .int .i64 c, .int .i64 m] W fun e w' => e = .returned (.bool true) ∧ Below W.heap.size W w' := by
  have S0 : Hid (Calls Try.prog 4 #[.pointer none, .int .i64 4096] W (ScanSaid .nil 4096 W)) := scan_any .nil W 4096 (by omega) (by omega) trivial
  have BU : Hid (∀ w, Below W.heap.size W w → Calls Try.prog 5 #[.pointer none, .slice none 0 0, .int .i64 4096] w (BuildSaid W.heap.size w .nil none 0 [])) := by
    intro w hb
    exact build_any W .nil trivial w none 0 0 [] 4096 hb (by simp [sz]) (by omega) (by simp [sz]) (Own.nil _ _ _)
  have FL : Hid (∀ w, Below W.heap.size W w → Calls Try.prog 6 #[.pointer none, .slice none 0 0, .slice none 0 0, .int .i64 4096] w (FlatSaid W.heap.size w .nil none 0 [] none 0 [])) := by
    intro w hb
    exact flat_any W .nil trivial w none none 0 0 0 0 [] [] 4096 hb (by simp [sz]) (by omega) (by simp [sz]) (by simp [sz]) (Own.nil _ _ _) (Own.nil _ _ _) (fun k h _ => rowAt_none h)
  go_enter Try.func3, Try.ntmps3
  go_wp2_with fail
  refine S0.out.mono ?_
  intro e w0 hs
  obtain ⟨v, rfl, v1, v2, v3, q0, rfl⟩ := hs
  by_cases hv : v < 0
  · go_wp2
    go_ret
    exact ⟨rfl, below_drewN _ _⟩
  · clear v3
    go_wp2_with fail
    refine (BU.out _ (below_drewN W q0)).mono ?_
    intro e w1 hs
    obtain ⟨T2, p, a1, n1, c1, rfl, hp, hB⟩ := hs
    have B1 : Below W.heap.size W w1 := (below_drewN W q0).trans (hB.fr.below (Nat.le_refl _) (fun k hk => (rowAt_none hk).elim))
    go_wp2_with fail
    refine (FL.out w1 B1).mono ?_
    intro e w2 hs
    obtain ⟨a2, d2, n2, c2, m2, e2, rfl, hF⟩ := hs
    have B2 : Below W.heap.size W w2 := B1.trans (hF.fr.below B1.size (fun k hk => by rcases hk with hk | hk <;> exact (rowAt_none hk).elim))
    obtain rfl : n1 = 0 := by have := hB.len; simpa [sz] using this
    obtain rfl : n2 = 0 := by have := hF.len; simpa [pays] using this
    obtain rfl : m2 = 0 := by have := hF.len2; simpa [pays] using this
    obtain rfl : T2 = .nil := by
      have := hB.sim
      cases T2 with
      | nil => rfl
      | node => exact this.elim
    obtain rfl : p = none := by
      have h : BT.ptr (.nil : BT Pay) = .pointer none := rfl
      rw [h] at hp
      simpa using hp.symm
    have LOW : Hid (Calls Try.prog 7 #[.pointer none, .int .i64 c, .int .i64 m] w2 fun e w' => e = .returned (.pointer none) ∧ Below w2.heap.size w2 w') := zzlow_any c m .nil none rfl w2 trivial trivial
    clear hB hF BU FL S0 hp
    go_wp2
    go_loop [11, 12] (fun want i => i = .int .i64 0 ∧ want = .int .i64 (-1)) (fun _ _ => 0)
    case atStart => exact ⟨rfl, rfl⟩
    case round =>
      obtain ⟨rfl, rfl⟩ := hrel
      go_wp2_with fail
      refine LOW.out.mono ?_
      rintro e w3 ⟨rfl, b3⟩
      have HB : Hid (Below W.heap.size W w3) := B2.trans (b3.mono B2.size)
      clear b3
      go_wp2
      go_ret
      refine ⟨?_, HB.out⟩
      first | rfl | exact ret_bool (by simp)

theorem law_all (W : World) (T : BT Pay) (c m : Int) (hT : InT W T) :
    Calls Try.prog 3 #[T.ptr, .int .i64 c, .int .i64 m] W fun e w' => e = .returned (.bool true) ∧ Below W.heap.size W w' := by
  cases T with
  | nil => exact law_nil W c m
  | node b o a l r => exact law_any W (.node b o a l r) c m hT (by simp only [sz]; omega)
end Go.Proofs.Qxb6617726a
