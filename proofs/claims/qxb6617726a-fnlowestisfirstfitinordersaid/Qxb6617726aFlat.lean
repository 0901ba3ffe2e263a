/-
  The contract of lwFlatten.
-/
import Derived.Test.Qxb6617726aBuild
namespace Go.Proofs.Qxb6617726a
open Go.ChangeShapes Go.WideShapes Go.ChangeAt Go.RowKit Go.Deep

theorem info2 : (Try.prog.info? 2).map (fun i => (i.zero, i.size, i.bytes)) = some (some (.int .i64 0), 1, 8) := by kernel_rfl

def lcs (L : List Pay) : List Value := L.map fun p => .int .i64 p.lc
def lms (L : List Pay) : List Value := L.map fun p => .int .i64 p.lm
theorem lcs_app (L M : List Pay) : lcs (L ++ M) = lcs L ++ lcs M := List.map_append
theorem lms_app (L M : List Pay) : lms (L ++ M) = lms L ++ lms M := List.map_append

/-- What is left behind where the payloads L have been appended to two slices. -/
structure Flat (B : Nat) (w : World) (L : List Pay) (a : Option Addr) (n : Nat) (xs : List Value) (d : Option Addr) (m : Nat) (ys : List Value)
    (a' : Option Addr) (n' c' : Nat) (d' : Option Addr) (m' e' : Nat) (w' : World) : Prop where
  len : n' = n + L.length
  len2 : m' = m + L.length
  own : Own w' B 2 a' n' c' (xs ++ lcs L)
  own2 : Own w' B 2 d' m' e' (ys ++ lms L)
  fr : Fr w w' (fun k => rowAt a k ∨ rowAt d k)
  new : ∀ k, rowAt a' k → rowAt a k ∨ w.heap.size ≤ k
  new2 : ∀ k, rowAt d' k → rowAt d k ∨ w.heap.size ≤ k
  apart : ∀ k, rowAt a' k → rowAt d' k → False

theorem Flat.trans {B : Nat} {w w1 w2 : World} {L M : List Pay} {a a1 a2 d d1 d2 : Option Addr} {n n1 n2 m m1 m2 c1 c2 e1 e2 : Nat} {xs ys : List Value}
    (h : Flat B w L a n xs d m ys a1 n1 c1 d1 m1 e1 w1) (k : Flat B w1 M a1 n1 (xs ++ lcs L) d1 m1 (ys ++ lms L) a2 n2 c2 d2 m2 e2 w2) :
    Flat B w (L ++ M) a n xs d m ys a2 n2 c2 d2 m2 e2 w2 := by
  have hs := h.fr.size
  refine ⟨by rw [k.len, h.len, List.length_append]; omega, by rw [k.len2, h.len2, List.length_append]; omega, by rw [lcs_app, ← List.append_assoc]; exact k.own, by rw [lms_app, ← List.append_assoc]; exact k.own2, h.fr.trans k.fr ?_, ?_, ?_, k.apart⟩
  · intro j hj x
    rcases x with x | x
    · rcases h.new j x with y | y
      · exact .inl y
      · omega
    · rcases h.new2 j x with y | y
      · exact .inr y
      · omega
  · intro j x
    rcases k.new j x with y | y
    · exact h.new j y
    · exact .inr (by omega)
  · intro j x
    rcases k.new2 j x with y | y
    · exact h.new2 j y
    · exact .inr (by omega)

theorem Flat.one {B : Nat} {w w2 w3 : World} {pay : Pay} {a a2 d d3 : Option Addr} {n m c e c2 e3 : Nat} {xs ys : List Value} (_oa : Own w B 2 a n c xs) (od : Own w B 2 d m e ys) (ap : ∀ k, rowAt a k → rowAt d k → False)
    (o2 : Own w2 B 2 a2 (n + 1) c2 (xs ++ [.int .i64 pay.lc])) (f2 : Fr (w.alloc (.cells #[.int .i64 pay.lc] 2)) w2 (rowAt a)) (g2 : ∀ k, rowAt a2 k → rowAt a k ∨ (w.alloc (.cells #[.int .i64 pay.lc] 2)).heap.size ≤ k)
    (o3 : Own w3 B 2 d3 (m + 1) e3 (ys ++ [.int .i64 pay.lm])) (f3 : Fr (w2.alloc (.cells #[.int .i64 pay.lm] 2)) w3 (rowAt d)) (g3 : ∀ k, rowAt d3 k → rowAt d k ∨ (w2.alloc (.cells #[.int .i64 pay.lm] 2)).heap.size ≤ k) :
    Flat B w [pay] a n xs d m ys a2 (n + 1) c2 d3 (m + 1) e3 w3 := by
  have s2 := f2.size
  rw [World.size_alloc] at s2
  have off : ∀ k, rowAt a2 k → rowAt d k → False := by
    intro k h1 h2
    have l2 := (od.row h2).2.1
    rcases g2 k h1 with h | h
    · exact ap k h h2
    · rw [World.size_alloc] at h; omega
  refine ⟨rfl, rfl, ?_, o3, ?_, ?_, ?_, ?_⟩
  · have o2' : Own (w2.alloc (.cells #[.int .i64 pay.lm] 2)) B 2 a2 (n + 1) c2 (xs ++ [.int .i64 pay.lc]) := o2.kept (fr_alloc _ _) (fun _ _ h => h)
    exact o2'.kept f3 (fun k h1 h2 => off k h1 h2)
  · have x1 : Fr w (w.alloc (.cells #[.int .i64 pay.lc] 2)) (fun k => rowAt a k ∨ rowAt d k) := (Fr.refl _ _).alloc _
    exact ((x1.trans f2 (fun _ _ h => .inl h)).alloc _).trans f3 (fun _ _ h => .inr h)
  · intro k h
    rcases g2 k h with h | h
    · exact .inl h
    · rw [World.size_alloc] at h; exact .inr (by omega)
  · intro k h
    rcases g3 k h with h | h
    · exact .inl h
    · rw [World.size_alloc] at h; exact .inr (by omega)
  · intro k h1 h2
    have l2 := (o2.row h1).2.1
    rcases g3 k h2 with h | h
    · exact off k h1 h
    · rw [World.size_alloc] at h; omega

theorem Flat.below {B : Nat} {w w' : World} {L : List Pay} {a a' d d' : Option Addr} {n n' m m' c' e' c e : Nat} {xs ys : List Value} (h : Flat B w L a n xs d m ys a' n' c' d' m' e' w') (oa : Own w B 2 a n c xs) (od : Own w B 2 d m e ys) (hB : B ≤ w.heap.size) : Below B w w' :=
  h.fr.below hB (fun k hk => by
    rcases hk with hk | hk
    · exact (oa.row hk).1
    · exact (od.row hk).1)

def FlatSaid (B : Nat) (w : World) (T : BT Pay) (a : Option Addr) (n : Nat) (xs : List Value) (d : Option Addr) (m : Nat) (ys : List Value) (e : Ending) (w' : World) : Prop :=
  ∃ (a' d' : Option Addr) (n' c' m' e' : Nat), e = .returned (.tuple #[.slice a' n' c', .slice d' m' e']) ∧ Flat B w (pays T) a n xs d m ys a' n' c' d' m' e' w'

set_option maxRecDepth 100000 in
set_option maxHeartbeats 2000000 in
theorem flat_any (W : World) (T : BT Pay) : InT W T → ∀ (w : World) (a d : Option Addr) (n c m e : Nat) (xs ys : List Value) (f : Int), Below W.heap.size W w → (sz T : Int) ≤ f → f ≤ 4096 → n + sz T ≤ 4096 → m + sz T ≤ 4096 →
    Own w W.heap.size 2 a n c xs → Own w W.heap.size 2 d m e ys → (∀ k, rowAt a k → rowAt d k → False) →
    Calls Try.prog 6 #[T.ptr, .slice a n c, .slice d m e, .int .i64 f] w (FlatSaid W.heap.size w T a n xs d m ys) := by
  induction T with
  | nil =>
    intro _ w a d n c m e xs ys f hb hf1 hf2 hn hm oa od ap
    show Calls Try.prog 6 #[.pointer none, .slice a n c, .slice d m e, .int .i64 f] w _
    go_enter Try.func6, Try.ntmps6
    go_wp2
    go_ret2
    exact ⟨a, d, n, c, m, e, rfl, rfl, rfl, by simpa [pays, lcs] using oa, by simpa [pays, lms] using od, Fr.refl _ _, fun k h => .inl h, fun k h => .inl h, ap⟩
  | node b o pay l r ihl ihr =>
    intro hT w a d n c m e xs ys f hb hf1 hf2 hn hm oa od ap
    obtain ⟨k0, k1, k2, k3, k4, k5, hl, hr⟩ := hT
    have hlt : b < W.heap.size := World.block_lt_of_cell? _ _ k0
    simp only [sz] at hf1 hn hm
    obtain ⟨lp, elp⟩ := ptr_pointer (T := l)
    obtain ⟨rp, erp⟩ := ptr_pointer (T := r)
    have IL : Hid (∀ (w : World) (a d : Option Addr) (n c m e : Nat) (xs ys : List Value) (f : Int), Below W.heap.size W w → (sz l : Int) ≤ f → f ≤ 4096 → n + sz l ≤ 4096 → m + sz l ≤ 4096 →
        Own w W.heap.size 2 a n c xs → Own w W.heap.size 2 d m e ys → (∀ k, rowAt a k → rowAt d k → False) →
        Calls Try.prog 6 #[.pointer lp, .slice a n c, .slice d m e, .int .i64 f] w (FlatSaid W.heap.size w l a n xs d m ys)) := by
      have := ihl hl; rwa [elp] at this
    have IR : Hid (∀ (w : World) (a d : Option Addr) (n c m e : Nat) (xs ys : List Value) (f : Int), Below W.heap.size W w → (sz r : Int) ≤ f → f ≤ 4096 → n + sz r ≤ 4096 → m + sz r ≤ 4096 →
        Own w W.heap.size 2 a n c xs → Own w W.heap.size 2 d m e ys → (∀ k, rowAt a k → rowAt d k → False) →
        Calls Try.prog 6 #[.pointer rp, .slice a n c, .slice d m e, .int .i64 f] w (FlatSaid W.heap.size w r a n xs d m ys)) := by
      have := ihr hr; rwa [erp] at this
    have c4 : w.cell? ⟨b, o + 4, none⟩ = some (.pointer lp) := (hb.cell (by exact hlt)).trans (by rw [k4, elp])
    obtain ⟨i0, hi, hz0, hz1, hz2⟩ := info_parts info2
    clear ihl ihr
    have hbs := hb.size
    show Calls Try.prog 6 #[.pointer (some ⟨b, o, none⟩), .slice a n c, .slice d m e, .int .i64 f] w _
    go_enter Try.func6, Try.ntmps6
    go_wp2_with fail
    refine (IL.out w a d n c m e xs ys (f - 1) hb (by omega) (by omega) (by omega) (by omega) oa od ap).mono ?_
    intro e1 w1 hs
    obtain ⟨a1, d1, n1, c1, m1, q1, rfl, hL⟩ := hs
    have hlen1 : n1 = n + sz l := by rw [hL.len, len_pays]
    have hlen2 : m1 = m + sz l := by rw [hL.len2, len_pays]
    have bn1 : n1 + 1 + sz r ≤ 4096 := by omega
    have bm1 : m1 + 1 + sz r ≤ 4096 := by omega
    clear hlen1 hlen2
    have B1 : Below W.heap.size W w1 := hb.trans (hL.below oa od hbs)
    have c0 : w1.cell? ⟨b, o, none⟩ = some (.int .i64 pay.lc) := (B1.cell (by exact hlt)).trans k0
    have hB1 := B1.size
    have hlt1 : b < w1.heap.size := by omega
    go_wp2_with (first | (at_builtin; refine wpList_app rfl (.tmp 30) (.tmp 35) 28 rfl W.heap.size 2 i0 (.int .i64 0) 8 Try.underlying28 hi hz0 hz1 hz2 rfl a1 n1 c1 (xs ++ lcs (pays l)) rfl (hL.own.kept (fr_alloc _ _) (fun _ _ h => h)) ⟨w1.heap.size, 0, none⟩ 1 (.int .i64 pay.lc) rfl (cell_new _ _ _) rfl (by unfold maxLen; omega) (by omega) (by simp; omega) ?_; intro a2 c2 w2 own2 fr2 new2; have B2 : Below W.heap.size W w2 := (B1.alloc B1.size _).trans (fr2.below (by simp; omega) (fun k hk => (hL.own.row hk).1)); have hB2 := B2.size; have c6 : w2.cell? ⟨b, o + 1, none⟩ = some (.int .i64 pay.lm) := (B2.cell (by exact hlt)).trans k1; have od2 : Own w2 W.heap.size 2 d1 m1 q1 (ys ++ lms (pays l)) := (hL.own2.kept (fr_alloc _ _) (fun _ _ h => h)).kept fr2 (fun k h1 h2 => hL.apart k h2 h1)) | (at_builtin; refine wpList_app rfl (.tmp 37) (.tmp 42) 28 rfl W.heap.size 2 i0 (.int .i64 0) 8 Try.underlying28 hi hz0 hz1 hz2 rfl d1 m1 q1 (ys ++ lms (pays l)) rfl (od2.kept (fr_alloc _ _) (fun _ _ h => h)) ⟨w2.heap.size, 0, none⟩ 1 (.int .i64 pay.lm) rfl (cell_new _ _ _) rfl (by unfold maxLen; omega) (by omega) (by simp; omega) ?_; intro d3 q3 w3 own3 fr3 new3; have B3 : Below W.heap.size W w3 := (B2.alloc B2.size _).trans (fr3.below (by simp; omega) (fun k hk => (od2.row hk).1)); have c7 : w3.cell? ⟨b, o + 5, none⟩ = some (.pointer rp) := (B3.cell (by exact hlt)).trans (by rw [k5, erp])))
    have F1 := hL.trans (Flat.one (pay := pay) hL.own hL.own2 hL.apart own2 fr2 new2 own3 fr3 new3)
    refine (IR.out w3 a2 d3 (n1 + 1) c2 (m1 + 1) q3 _ _ (f - 1) B3 (by omega) (by omega) (by omega) (by omega) F1.own F1.own2 F1.apart).mono ?_
    intro e4 w4 hs
    obtain ⟨a4, d4, n4, c4', m4, q4, rfl, hR⟩ := hs
    have FIN := F1.trans hR
    go_wp2_with fail
    go_ret2
    refine ⟨_, _, _, _, _, _, rfl, ?_⟩
    have e : pays (.node b o pay l r) = pays l ++ [pay] ++ pays r := by simp [pays]
    rw [e]
    exact FIN
end Go.Proofs.Qxb6617726a
