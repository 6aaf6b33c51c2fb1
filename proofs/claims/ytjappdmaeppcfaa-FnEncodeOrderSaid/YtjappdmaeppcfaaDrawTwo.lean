/-
  Contract: spec.DrawTwoBytes: two slices of at most 60 bytes each; what lay below stands.
-/
import Derived.Test.YtjappdmaeppcfaaDraw
namespace Go.Proofs.Ytjappdmaeppcfaa
open Go.RowKit Go.Lib
set_option linter.unusedVariables false

theorem OB.raise {w : World} {B B' n c : Nat} {A : Option Addr} {l : List UInt8} (h : OB w B A n c l) (hB : B' ≤ B) : OB w B' A n c l := by
  refine ⟨h.1, h.2.1, ?_⟩
  rcases h.2.2 with h0 | ⟨g, cap, cur, hv, hg, r⟩
  · exact .inl h0
  · exact .inr ⟨g, cap, cur, hv, Nat.le_trans hB hg, r⟩

theorem below_grown {B : Nat} {w0 w w' : World} {g : Nat} (h : Below B w0 w) (hg : w.grownBy w' (some g)) (hB : B ≤ w.heap.size) (hgB : B ≤ g) : Below B w0 w' := h.grown hg hB (fun k hk => by cases hk; exact hgB)

set_option maxHeartbeats 4000000 in
set_option maxRecDepth 100000 in
theorem drawTwo (A : Option Addr) (m c : Nat) (l : List UInt8) (w : World) (h : RB w A m l) (hm : m ≤ 140737488355328) :
    Calls Try.prog 10 #[.slice A m c] w fun e w' => ∃ (X Y : Option Addr) (a d b d' : Nat) (xs ys : List UInt8), e = .returned (.tuple #[.slice X a d, .slice Y b d']) ∧ a ≤ 60 ∧ b ≤ 60 ∧ a ≤ d ∧ d ≤ 9223372036854775807 ∧ b ≤ d' ∧ d' ≤ 9223372036854775807 ∧ Hid (RB w' X a xs) ∧ Hid (RB w' Y b ys) ∧ Below w.heap.size w w' := by
  have HA := Lib.hid h
  have HNE : Hid (0 < m → ∀ b o, A = some ⟨b, o, none⟩ → b ≠ w.heap.size) := fun h0 b o e => by
    obtain ⟨b', o', e', hb', _⟩ := h.2 h0
    rw [e] at e'
    injection e' with e'
    injection e' with e1
    omega
  clear h
  go_enter Try.func10, Try.ntmps10
  go_wp2_with fail
  have hR0 : Rd (w.alloc (.cells #[.slice A m c, .int .i64 0] 49)) w.heap.size A m c 0 := heap_alloc_new w _
  have hB0 : Below w.heap.size w (w.alloc (.cells #[.slice A m c, .int .i64 0] 49)) := (Below.refl _ w).alloc (Nat.le_refl _) _
  refine (rdBytes w.heap.size A m c 0 30 l _ hR0 (HA.out.alloc _) HNE.out (by omega) (by omega) hm).mono ?_
  rintro e w1 ⟨X, a, dx, p1, xs, rfl, ha, hp1, hox, hr1, hg1⟩
  have HOx : Hid (OB w1 (w.heap.size + 1) X a dx xs) := by simpa [Hid] using hox
  have HR1 := Lib.hid hr1
  have HB1 := Lib.hid (below_grown hB0 hg1 (by simp) (Nat.le_refl _))
  have HA1 : Hid (RB w1 A m l) := (HA.out.alloc _).grown0 hg1 (fun h0 b o e e' => HNE.out h0 b o e (by injection e' with e'; exact e'.symm))
  have hlx := hox.le
  simp only [maxLen] at hlx
  have hsz1 : w.heap.size + 1 ≤ w1.heap.size := by have := hg1.size; simpa using this
  clear hox hr1 hg1 hR0 hB0
  go_wp2_with fail
  refine (rdPick w.heap.size A m c p1 2 l _ HR1.out HA1.out HNE.out (by omega) (by omega) (by omega) hm).mono ?_
  rintro e w2 ⟨v, rfl, hv, hr2, hg2⟩
  have HOx2 : Hid (OB w2 (w.heap.size + 1) X a dx xs) := HOx.out.kept hg2 (fun b o e e' => by
    have := (HOx.out.block b o e).1
    injection e' with e'
    omega)
  have HR2 := Lib.hid hr2
  have HB2 := Lib.hid (below_grown HB1.out hg2 (by omega) (Nat.le_refl _))
  have HA2 : Hid (RB w2 A m l) := HA1.out.grown0 hg2 (fun h0 b o e e' => HNE.out h0 b o e (by injection e' with e'; exact e'.symm))
  have hsz2 : w.heap.size + 1 ≤ w2.heap.size := Nat.le_trans hsz1 hg2.size
  clear hr2 hg2 HOx HR1 HA1 HB1
  by_cases hv0 : v = 0
  · subst hv0
    have hR3 : Rd (w2.alloc (.cells #[] 5)) w.heap.size A m c (p1 + 1) := HR2.out.alloc _
    go_wp2_with fail
    have em : (a : Int) + 1 = ((a + 1 : Nat) : Int) := by omega
    rw [em]
    refine (rdPick w.heap.size A m c (p1 + 1) (a + 1) l _ hR3 (HA2.out.alloc _) HNE.out (by omega) (by omega) (by omega) hm).mono ?_
    rintro e w3 ⟨t, rfl, ht, hr3, hg3⟩
    have HOx3 : Hid (OB w3 (w.heap.size + 1) X a dx xs) := (HOx2.out.alloc _).kept hg3 (fun b o e e' => by
      have := (HOx2.out.block b o e).1
      injection e' with e'
      omega)
    have HOy3 : Hid (OB w3 w2.heap.size (some ⟨w2.heap.size, 0, none⟩) 0 0 []) := (OB.made w2 _ (Nat.le_refl _) #[] (by simp)).kept hg3 (fun b o e e' => by
      injection e with e; injection e with e1; injection e' with e'; omega)
    have HR3 := Lib.hid hr3
    have HB3 := Lib.hid (below_grown (HB2.out.alloc HB2.out.size (.cells #[] 5)) hg3 (by simp; omega) (Nat.le_refl _))
    have HA3 : Hid (RB w3 A m l) := (HA2.out.alloc _).grown0 hg3 (fun h0 b o e e' => HNE.out h0 b o e (by injection e' with e'; exact e'.symm))
    have hsz3 : w2.heap.size + 1 ≤ w3.heap.size := by have := hg3.size; simpa using this
    have hta : t ≤ a := by omega
    have HT3 := Lib.hid (HOx3.out.rb.to_ hta)
    have hto := fun w => run_to X a dx (t : Int) (by omega) (by omega) w
    simp only [Int.toNat_natCast] at hto
    clear hr3 hg3 hR3 em
    go_wp2_with (at_builtin; refine wpList_appB rfl (.tmp 15) (.tmp 22) rfl w2.heap.size 0 0 (some ⟨w2.heap.size, 0, none⟩) [] rfl HOy3.out X t dx (xs.take t) rfl HT3.out (by omega) (by omega) ?_; intro Y d4 w4 hown4 hg4 hat4; refine Hid.out ?_)
    refine Lib.hid ?_
    simp only [Nat.zero_add, List.nil_append] at hown4 ⊢
    have hxy : ∀ b o, X = some ⟨b, o, none⟩ → b ≠ w2.heap.size := fun b o e => by have := (HOx2.out.block b o e).2; omega
    have HOx4 : Hid (OB w4 (w.heap.size + 1) X a dx xs) := HOx3.out.kept hg4 (fun b o e e' => hxy b o e (by simpa using e'.symm))
    have HO4 := Lib.hid hown4
    have HR4 : Hid (Rd w4 w.heap.size A m c (p1 + 1 + 1)) := HR3.out.kept hg4 (fun e => by simp at e; omega)
    have HB4 := Lib.hid (HOy3.out.grows HB3.out hg4 (by omega) (by omega))
    have HA4 : Hid (RB w4 A m l) := HA3.out.grown0 hg4 (fun h0 b o e e' => by
      obtain ⟨b', o', e2, hb', _⟩ := HA.out.2 h0
      rw [e] at e2
      injection e2 with e2
      injection e2 with e3
      simp at e'
      omega)
    have hsz4 : w2.heap.size + 1 ≤ w4.heap.size := Nat.le_trans hsz3 hg4.size
    have hyb : Hid (∀ b o, Y = some ⟨b, o, none⟩ → w2.heap.size ≤ b) := fun b o e => (HO4.out.block b o e).1
    clear hown4 hg4 hat4 hto
    go_wp2_with fail
    refine (rdBytes w.heap.size A m c (p1 + 1 + 1) 3 l _ HR4.out HA4.out HNE.out (by omega) (by omega) hm).mono ?_
    rintro e w5 ⟨Z, z, dz, p5, zs, rfl, hz, hp5, hoz, hr5, hg5⟩
    have HOx5 : Hid (OB w5 (w.heap.size + 1) X a dx xs) := HOx4.out.kept hg5 (fun b o e e' => by
      have := (HOx4.out.block b o e).1
      injection e' with e'
      omega)
    have HO5 : Hid (OB w5 w2.heap.size Y t d4 (xs.take t)) := HO4.out.kept hg5 (fun b o e e' => by
      have := hyb.out b o e
      injection e' with e'
      omega)
    have HZ5 := Lib.hid hoz.rb
    have HB5 := Lib.hid (below_grown HB4.out hg5 (by omega) (Nat.le_refl _))
    have hsz5 : w2.heap.size + 1 ≤ w5.heap.size := Nat.le_trans hsz4 hg5.size
    clear hoz hr5 hg5
    go_wp2_with (at_builtin; refine wpList_appB rfl (.tmp 25) (.tmp 27) rfl w2.heap.size t d4 Y (xs.take t) rfl HO5.out Z z dz zs rfl HZ5.out (by omega) (by omega) ?_; intro Y6 d6 w6 hown6 hg6 hat6; refine Hid.out ?_)
    refine Lib.hid ?_
    have hle6 := hown6.le
    simp only [maxLen] at hle6
    have HOx6 : Hid (OB w6 (w.heap.size + 1) X a dx xs) := HOx5.out.kept hg6 (fun b o e e' => by
      have h1 := (HOx2.out.block b o e).2
      have h2 := own_row (w0 := w2) HO5.out b e'
      omega)
    have HY6 := Lib.hid hown6.rb
    have HB6 := Lib.hid (HO5.out.grows HB5.out hg6 (by omega) (by omega))
    clear hown6 hg6 hat6
    go_wp2_with fail
    go_ret2
    exact ⟨X, Y6, a, dx, t + z, d6, xs, _, rfl, by omega, by omega, hlx.1, by omega, hle6.1, by omega, HOx6.out.rb, HY6, HB6.out⟩
  · have hv1 : v = 1 := by omega
    subst hv1
    go_wp2_with fail
    refine (rdBytes w.heap.size A m c (p1 + 1) 30 l _ HR2.out HA2.out HNE.out (by omega) (by omega) hm).mono ?_
    rintro e w5 ⟨Z, z, dz, p5, zs, rfl, hz, hp5, hoz, hr5, hg5⟩
    have HOx5 : Hid (OB w5 (w.heap.size + 1) X a dx xs) := HOx2.out.kept hg5 (fun b o e e' => by
      have := (HOx2.out.block b o e).1
      injection e' with e'
      omega)
    have hlz := hoz.le
    simp only [maxLen] at hlz
    have HZ5 := Lib.hid hoz.rb
    have HB5 := Lib.hid (below_grown HB2.out hg5 (by omega) (Nat.le_refl _))
    clear hoz hr5 hg5
    go_wp2_with fail
    go_ret2
    exact ⟨X, Z, a, dx, z, dz, xs, zs, rfl, by omega, by omega, hlx.1, by omega, hlz.1, by omega, HOx5.out.rb, HZ5, HB5.out⟩
end Go.Proofs.Ytjappdmaeppcfaa
