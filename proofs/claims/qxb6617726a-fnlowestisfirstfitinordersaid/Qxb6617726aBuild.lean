/-
  The contract of lwBuild.
-/
import Derived.Test.Qxb6617726aApp
import Derived.Deep.RegionHeld
namespace Go.Proofs.Qxb6617726a
open Go.ChangeShapes Go.WideShapes Go.ChangeAt Go.RowKit Go.Deep

theorem info24 : (Try.prog.info? 24).map (fun i => (i.zero, i.size, i.bytes)) = some (some (.pointer none), 1, 8) := by kernel_rfl

/-- What lwBuild leaves. -/
structure Built (B : Nat) (w : World) (T : BT Pay) (a : Option Addr) (n : Nat) (xs : List Value) (T2 : BT Pay) (a' : Option Addr) (n' c' : Nat) (w' : World) : Prop where
  len : n' = n + sz T
  sim : Sim T T2
  ins : InS w' T2
  own : Own w' B 24 a' n' c' (xs ++ ptrs T2)
  fr : Fr w w' (rowAt a)
  new : ∀ k, rowAt a' k → rowAt a k ∨ w.heap.size ≤ k

def BuildSaid (B : Nat) (w : World) (T : BT Pay) (a : Option Addr) (n : Nat) (xs : List Value) (e : Ending) (w' : World) : Prop :=
  ∃ (T2 : BT Pay) (p a' : Option Addr) (n' c' : Nat), e = .returned (.tuple #[.pointer p, .slice a' n' c']) ∧ T2.ptr = .pointer p ∧ Built B w T a n xs T2 a' n' c' w'

theorem fr_set {w : World} {g : Nat} (j : Nat) (u : Value) : Fr w (w.setCell ⟨g, j, none⟩ u) (rowAt (some ⟨g, 0, none⟩)) :=
  ⟨rfl, rfl, rfl, by simp, fun k _ hx => Below.heap_setCell _ _ _ _ (fun e => hx ⟨_, rfl, e.symm⟩)⟩
theorem fr_alloc (w : World) (o : Obj) : Fr w (w.alloc o) (fun _ => False) := (Fr.refl w _).alloc o

theorem set_mid (xs ls rs : List Value) (u v : Value) (n : Nat) (h : n = xs.length + ls.length) : ((xs ++ ls ++ [u]) ++ rs).set n v = xs ++ (ls ++ v :: rs) := by
  subst h
  rw [show (xs ++ ls ++ [u]) ++ rs = (xs ++ ls) ++ (u :: rs) from by simp, List.set_append_right _ _ (by simp)]
  simp

/-- The step of lwBuild at a node. -/
theorem built_step {B : Nat} {w w1 w2 w3 : World} {l r L2 R2 : BT Pay} {b o : Nat} {pay : Pay} {a a1 a2 : Option Addr} {n n1 c1 c2 n3 c3 g3 : Nat} {xs : List Value} {p1 p2 : Option Addr}
    (hl : Built B w l a n xs L2 a1 n1 c1 w1) (hp1 : L2.ptr = .pointer p1) (own2 : Own w2 B 24 a2 (n1 + 1) c2 (xs ++ ptrs L2 ++ [.pointer none]))
    (fr2 : Fr (w1.alloc (.cells #[.pointer none] 24)) w2 (rowAt a1)) (new2 : ∀ k, rowAt a2 k → rowAt a1 k ∨ (w1.alloc (.cells #[.pointer none] 24)).heap.size ≤ k)
    (hx : xs.length = n) (hr : Built B w2 r a2 (n1 + 1) (xs ++ ptrs L2 ++ [.pointer none]) R2 (some ⟨g3, 0, none⟩) n3 c3 w3) (hp2 : R2.ptr = .pointer p2) :
    Built B w (.node b o pay l r) a n xs (.node w3.heap.size 0 pay L2 R2) (some ⟨g3, 0, none⟩) n3 c3
      ((w3.alloc (.cells (subC pay (.pointer p1) (.pointer p2)) 47)).setCell ⟨g3, n1, none⟩ (.pointer (some ⟨w3.heap.size, 0, none⟩))) := by
  obtain ⟨len1, sim1, ins1, own1, fr1, new1⟩ := hl
  obtain ⟨len3, sim3, ins3, own3, fr3, new3⟩ := hr
  have row3 := own3.row (k := g3) ⟨_, rfl, rfl⟩
  have s12 := fr2.size
  have s1 := fr1.size
  have s3 := fr3.size
  rw [World.size_alloc] at s12
  have own4 : Own (w3.alloc (.cells (subC pay (.pointer p1) (.pointer p2)) 47)) B 24 (some ⟨g3, 0, none⟩) n3 c3 ((xs ++ ptrs L2 ++ [.pointer none]) ++ ptrs R2) := own3.kept (fr_alloc _ _) (fun _ _ h => h)
  have row4 := own4.row (k := g3) ⟨_, rfl, rfl⟩
  have fr5 : Fr (w3.alloc (.cells (subC pay (.pointer p1) (.pointer p2)) 47)) ((w3.alloc (.cells (subC pay (.pointer p1) (.pointer p2)) 47)).setCell ⟨g3, n1, none⟩ (.pointer (some ⟨w3.heap.size, 0, none⟩))) (rowAt (some ⟨g3, 0, none⟩)) := fr_set _ _
  have x5 : ∀ k, rowAt (some ⟨g3, 0, none⟩) k → ∃ C E, (w3.alloc (.cells (subC pay (.pointer p1) (.pointer p2)) 47)).heap[k]? = some (.cells C E (0, 0)) ∧ E ≠ 47 := by
    intro k hk
    obtain ⟨_, _, C, hC⟩ := own4.row hk
    exact ⟨C, 24, hC, by decide⟩
  have insL : InS ((w3.alloc (.cells (subC pay (.pointer p1) (.pointer p2)) 47)).setCell ⟨g3, n1, none⟩ (.pointer (some ⟨w3.heap.size, 0, none⟩))) L2 := by
    have i1 : InS (w1.alloc (.cells #[.pointer none] 24)) L2 := ins1.fr (fr_alloc _ _) (fun _ h => h.elim)
    have own1' : Own (w1.alloc (.cells #[.pointer none] 24)) B 24 a1 n1 c1 (xs ++ ptrs L2) := own1.kept (fr_alloc _ _) (fun _ _ h => h)
    have i2 : InS w2 L2 := i1.fr fr2 (fun k hk => by obtain ⟨_, _, C, hC⟩ := own1'.row hk; exact ⟨C, 24, hC, by decide⟩)
    have i3 : InS w3 L2 := i2.fr fr3 (fun k hk => by obtain ⟨_, _, C, hC⟩ := own2.row hk; exact ⟨C, 24, hC, by decide⟩)
    exact (i3.fr (fr_alloc _ _) (fun _ h => h.elim)).fr fr5 x5
  have insR : InS ((w3.alloc (.cells (subC pay (.pointer p1) (.pointer p2)) 47)).setCell ⟨g3, n1, none⟩ (.pointer (some ⟨w3.heap.size, 0, none⟩))) R2 := (ins3.fr (fr_alloc _ _) (fun _ h => h.elim)).fr fr5 x5
  refine ⟨by simp only [sz]; omega, ⟨rfl, sim1, sim3⟩, ⟨rfl, ?_, insL, insR⟩, ?_, ?_, ?_⟩
  · rw [hp1, hp2, fr5.block w3.heap.size (by simp) (fun h => by obtain ⟨x, hx, hk⟩ := h; simp only [Option.some.injEq] at hx; subst hx; have := row3.2.1; dsimp only at hk; omega)]
    exact blk_alloc_new _ _
  · have hs := (World.ownsRow.stored own4 n1 (.pointer (some ⟨w3.heap.size, 0, none⟩))).1
    rw [set_mid xs (ptrs L2) (ptrs R2) _ _ n1 (by rw [hx, len_ptrs, ← sim1.sz_eq]; exact len1)] at hs
    exact hs
  · have f1 : Fr w (w1.alloc (.cells #[.pointer none] 24)) (rowAt a) := fr1.alloc _
    have f2 : Fr w w2 (rowAt a) := f1.trans fr2 (fun j hj h => by rcases new1 j h with h | h; exact h; omega)
    have f3 : Fr w w3 (rowAt a) := f2.trans fr3 (fun j hj h => by
      rcases new2 j h with h | h
      · rcases new1 j h with h | h; exact h; omega
      · rw [World.size_alloc] at h; omega)
    refine (f3.alloc _).trans fr5 (fun j hj h => ?_)
    rcases new3 j h with h | h
    · rcases new2 j h with h | h
      · rcases new1 j h with h | h; exact h; omega
      · rw [World.size_alloc] at h; omega
    · omega
  · intro k hk
    rcases new3 k hk with h | h
    · rcases new2 k h with h | h
      · exact new1 k h
      · rw [World.size_alloc] at h; exact .inr (by omega)
    · exact .inr (by omega)

theorem Built.drew {B : Nat} {w : World} {T : BT Pay} {a : Option Addr} {n : Nat} {xs : List Value} {T2 : BT Pay} {a' : Option Addr} {n' c' : Nat} {w' : World} (h : Built B w T a n xs T2 a' n' c' w') : Built B w T a n xs T2 a' n' c' w'.drew :=
  ⟨h.len, h.sim, InS.keep (w := w') (fun _ _ _ => rfl) h.ins, h.own, h.fr.drew, h.new⟩

set_option maxRecDepth 100000 in
set_option maxHeartbeats 2000000 in
theorem build_any (W : World) (T : BT Pay) : InT W T → ∀ (w : World) (a : Option Addr) (n c : Nat) (xs : List Value) (f : Int), Below W.heap.size W w → (sz T : Int) ≤ f → f ≤ 4096 → n + sz T ≤ 4096 → Own w W.heap.size 24 a n c xs →
    Calls Try.prog 5 #[T.ptr, .slice a n c, .int .i64 f] w (BuildSaid W.heap.size w T a n xs) := by
  induction T with
  | nil =>
    intro _ w a n c xs f hb hf1 hf2 hn hown
    show Calls Try.prog 5 #[.pointer none, .slice a n c, .int .i64 f] w _
    go_enter Try.func5, Try.ntmps5
    go_wp2
    go_ret2
    exact ⟨.nil, none, a, n, c, rfl, rfl, rfl, trivial, trivial, by simpa [ptrs] using hown, Fr.refl _ _, fun k h => .inl h⟩
  | node b o pay l r ihl ihr =>
    intro hT w a n c xs f hb hf1 hf2 hn hown
    obtain ⟨k0, k1, k2, k3, k4, k5, hl, hr⟩ := hT
    have hlt : b < W.heap.size := World.block_lt_of_cell? _ _ k0
    simp only [sz] at hf1 hn
    obtain ⟨lp, elp⟩ := ptr_pointer (T := l)
    obtain ⟨rp, erp⟩ := ptr_pointer (T := r)
    have IL : Hid (∀ (w : World) (a : Option Addr) (n c : Nat) (xs : List Value) (f : Int), Below W.heap.size W w → (sz l : Int) ≤ f → f ≤ 4096 → n + sz l ≤ 4096 → Own w W.heap.size 24 a n c xs →
        Calls Try.prog 5 #[.pointer lp, .slice a n c, .int .i64 f] w (BuildSaid W.heap.size w l a n xs)) := by
      have := ihl hl; rwa [elp] at this
    have IR : Hid (∀ (w : World) (a : Option Addr) (n c : Nat) (xs : List Value) (f : Int), Below W.heap.size W w → (sz r : Int) ≤ f → f ≤ 4096 → n + sz r ≤ 4096 → Own w W.heap.size 24 a n c xs →
        Calls Try.prog 5 #[.pointer rp, .slice a n c, .int .i64 f] w (BuildSaid W.heap.size w r a n xs)) := by
      have := ihr hr; rwa [erp] at this
    have c4 : w.cell? ⟨b, o + 4, none⟩ = some (.pointer lp) := (hb.cell (by exact hlt)).trans (by rw [k4, elp])
    obtain ⟨i0, hi, hz0, hz1, hz2⟩ := info_parts info24
    clear ihl ihr
    have hbs := hb.size
    show Calls Try.prog 5 #[.pointer (some ⟨b, o, none⟩), .slice a n c, .int .i64 f] w _
    go_enter Try.func5, Try.ntmps5
    go_wp2_with fail
    refine (IL.out w a n c xs (f - 1) hb (by omega) (by omega) (by omega) hown).mono ?_
    intro e w1 hs
    obtain ⟨L2, p1, a1, n1, c1, rfl, hp1, hL⟩ := hs
    have hlen1 : n1 ≤ 4096 := by have := hL.len; omega
    have B1 : Below W.heap.size W w1 := hb.trans (hL.fr.below hbs (fun k hk => (hown.row hk).1))
    have c5 : w1.cell? ⟨b, o + 5, none⟩ = some (.pointer rp) := (B1.cell (by exact hlt)).trans (by rw [k5, erp])
    go_wp2_with (at_builtin; refine wpList_app rfl (.tmp 35) (.tmp 36) 25 rfl W.heap.size 24 i0 (.pointer none) 8 Try.underlying25 hi hz0 hz1 hz2 rfl a1 n1 c1 (xs ++ ptrs L2) rfl (hL.own.kept (fr_alloc _ _) (fun _ _ h => h)) ⟨w1.heap.size, 0, none⟩ 1 (.pointer none) rfl (cell_new _ _ _) rfl (by unfold maxLen; omega) (by omega) (by have := B1.size; simp; omega) ?_; intro a2 c2 w2 own2 fr2 new2; have B2 : Below W.heap.size W w2 := (B1.alloc B1.size _).trans (fr2.below (by have := B1.size; simp; omega) (fun k hk => (hL.own.row hk).1)); have c6 : w2.cell? ⟨b, o + 5, none⟩ = some (.pointer rp) := (B2.cell (by exact hlt)).trans (by rw [k5, erp]))
    refine (IR.out w2 a2 (n1 + 1) c2 _ (f - 1) B2 (by omega) (by omega) (by have := hL.len; omega) own2).mono ?_
    intro e w3 hs
    obtain ⟨R2, p2, a3, n3, c3, rfl, hp2, hR⟩ := hs
    have hlen3 : n1 + 1 ≤ n3 := by have := hR.len; omega
    have hlen3' : n3 ≤ 4096 := by have := hR.len; have := hL.len; omega
    obtain ⟨g3, rfl⟩ := hR.own.pos (by omega)
    have B3 : Below W.heap.size W w3 := B2.trans (hR.fr.below B2.size (fun k hk => (own2.row hk).1))
    have d0 : w3.cell? ⟨b, o, none⟩ = some (.int .i64 pay.lc) := (B3.cell (by exact hlt)).trans k0
    have d1 : w3.cell? ⟨b, o + 1, none⟩ = some (.int .i64 pay.lm) := (B3.cell (by exact hlt)).trans k1
    have d2 : w3.cell? ⟨b, o + 2, none⟩ = some (.int .i64 pay.mc) := (B3.cell (by exact hlt)).trans k2
    have d3 : w3.cell? ⟨b, o + 3, none⟩ = some (.int .i64 pay.mm) := (B3.cell (by exact hlt)).trans k3
    have hlt3 : b < w3.heap.size := by have := B3.size; omega
    have row3 := (hR.own.row (k := g3) ⟨_, rfl, rfl⟩).2.1
    obtain ⟨u3, hu3⟩ : ∃ u, w3.cell? ⟨g3, n1, none⟩ = some u := by
      have h1 := World.ownsRow.cellAt hR.own n1 (by omega)
      have h2 : n1 < (xs ++ ptrs L2 ++ [Value.pointer none] ++ ptrs R2).length := by rw [hR.own.len]; omega
      exact ⟨_, h1.trans (List.getElem?_eq_getElem h2)⟩
    have fz3 : w3.frozen? ⟨g3, n1, none⟩ = false := World.ownsRow.frozenAt hR.own n1
    have FIN := built_step (b := b) (o := o) (pay := pay) hL hp1 own2 fr2 new2 hown.len hR hp2
    rw [World.setCell_alloc_past _ _ _ _ row3] at FIN
    clear hL hR own2 fr2 new2 B1 B2 B3 hb hown k0 k1 k2 k3 k4 k5 c4 c5
    go_wp2_with fail
    go_region_held (fun w' => w'.cell? ⟨b, o, none⟩ = some (.int .i64 pay.lc) ∧ w'.cell? ⟨b, o + 1, none⟩ = some (.int .i64 pay.lm) ∧ w'.cell? ⟨b, o + 2, none⟩ = some (.int .i64 pay.mc) ∧ w'.cell? ⟨b, o + 3, none⟩ = some (.int .i64 pay.mm)) (go_keep) (first | (go_at_call 8; refine (new_any _ pay p1 p2).mono ?_; rintro e w' ⟨rfl, rfl⟩))
    have fz4 : (w3.alloc (.cells (subC pay (.pointer p1) (.pointer p2)) 47)).frozen? ⟨g3, n1, none⟩ = false := by rw [World.frozen?_alloc_past _ _ _ row3]; exact fz3
    have hn13 : (n1 : Int) < (n3 : Int) := by omega
    go_wp2
    go_ret2
    exact ⟨_, _, _, _, _, rfl, rfl, FIN.drew⟩
end Go.Proofs.Qxb6617726a
