/-
  Contracts: the drawing functions text, DrawDecodeString, DrawTwoTexts: texts of at most 19 bytes.
-/
import Derived.Test.YtnplhpckjcmgmaaDoorPick
namespace Go.Proofs.YtnplhpckjcmgmaaDoor
open Go.RowKit Go.Lib
set_option linter.unusedVariables false

theorem below_grown {B : Nat} {w0 w w' : World} {g : Nat} (h : Below B w0 w) (hg : w.grownBy w' (some g)) (hB : B ≤ w.heap.size) (hgB : B ≤ g) : Below B w0 w' := h.grown hg hB (fun k hk => by cases hk; exact hgB)

def odd9 : Array Value := #[.int .u8 103, .int .u8 71, .int .u8 47, .int .u8 58, .int .u8 64, .int .u8 96, .int .u8 32, .int .u8 0, .int .u8 255]
theorem odd9_at (u : Nat) (h : u < 9) : ∃ c : UInt8, odd9[u]? = some (.int .u8 (c.toNat : Int)) := by
  match u, h with
  | 0, _ => exact ⟨103, rfl⟩
  | 1, _ => exact ⟨71, rfl⟩
  | 2, _ => exact ⟨47, rfl⟩
  | 3, _ => exact ⟨58, rfl⟩
  | 4, _ => exact ⟨64, rfl⟩
  | 5, _ => exact ⟨96, rfl⟩
  | 6, _ => exact ⟨32, rfl⟩
  | 7, _ => exact ⟨0, rfl⟩
  | 8, _ => exact ⟨255, rfl⟩

set_option maxHeartbeats 4000000 in
set_option maxRecDepth 100000 in
/-- (*rd).text. -/
theorem rdText (g : Nat) (A : Option Addr) (m c p : Nat) (l : List UInt8) (w : World) (hR : Rd w g A m c p) (hA : RB w A m l) (hne : 0 < m → ∀ b o, A = some ⟨b, o, none⟩ → b ≠ g) (hp : p ≤ 1000) (hm : m ≤ 140737488355328) :
    Calls Tryd.prog 20 #[.pointer (some ⟨g, 0, none⟩)] w fun e w' => ∃ (X : Option Addr) (n d p' : Nat) (bs : List UInt8), e = .returned (.slice X n d) ∧ n ≤ 20 ∧ p' ≤ p + 100 ∧ OB w' w.heap.size X n d bs ∧ Rd w' g A m c p' ∧ w.grownBy w' (some g) := by
  have HR := Lib.hid hR
  have HA := Lib.hid hA
  have HNE := Lib.hid hne
  have hg : g < w.heap.size := hR.lt
  clear hR hA hne
  have hR1 := HR.out.alloc (.cells #[] 5)
  go_enter Tryd.func20, Tryd.ntmps20
  go_wp2_with fail
  refine (rdPick g A m c p 20 l _ hR1 (HA.out.alloc _) HNE.out (by omega) (by omega) (by omega) hm).mono ?_
  rintro e w1 ⟨n, rfl, hn, hR2, hG⟩
  have HRd := Lib.hid hR2
  have HO1 : Hid (OB w1 w.heap.size (some ⟨w.heap.size, 0, none⟩) 0 0 []) := (OB.made w _ (Nat.le_refl _) #[] (by simp)).kept hG (fun b o e e' => by
    injection e with e; injection e with e1; injection e' with e'; omega)
  have HG1 : Hid (w.grownBy w1 (some g)) := grow_app (grow_alloc (World.grownBy.refl w (some g)) _) hG (fun y hy => Or.inr (by injection hy with hy; exact hy.symm))
  clear hR2 hG hR1
  go_wp2_with fail
  go_loopw [3, 5] (fun v i wr => ∃ (k q : Nat) (X : Option Addr) (d : Nat) (bs : List UInt8), k ≤ n ∧ q ≤ p + 1 + 3 * k ∧ v = .slice X k d ∧ i = .int .i64 k ∧ Hid (OB wr w.heap.size X k d bs) ∧ Hid (Rd wr g A m c q) ∧ Hid (w.grownBy wr (some g))) (fun _ i _ => n - (RowKit.intOf i).toNat)
  case atStart => exact ⟨0, p + 1, _, _, [], Nat.zero_le _, by omega, rfl, rfl, HO1, HRd, HG1⟩
  case round =>
    clear HO1 HRd HG1
    obtain ⟨k, q, X, d, bs, hk, hq, rfl, rfl, ho, hrd, hgr⟩ := hrel
    by_cases hlt : k < n
    · have HAr : Hid (RB wr A m l) := HA.out.grown0 hgr.out (fun hm0 b o e e' => HNE.out hm0 b o e (by injection e' with e'; exact e'.symm))
      go_wp2_with fail
      refine (rdPick g A m c q 22 l _ hrd.out HAr.out HNE.out (by omega) (by omega) (by omega) hm).mono ?_
      rintro e w2 ⟨v, rfl, hv, hR2, hG⟩
      have HRd2 := Lib.hid hR2
      have HO2 : Hid (OB w2 w.heap.size X k d bs) := ho.out.kept hG (fun b o e e' => by
        have := (ho.out.block b o e).1
        injection e' with e'
        omega)
      have HG2 : Hid (w.grownBy w2 (some g)) := grow_app hgr.out hG (fun y hy => Or.inr (by injection hy with hy; exact hy.symm))
      have HA2 : Hid (RB w2 A m l) := HA.out.grown0 HG2.out (fun hm0 b o e e' => HNE.out hm0 b o e (by injection e' with e'; exact e'.symm))
      have hv1 : (v : Int) < 22 := by omega
      clear hR2 hG HAr ho hrd hgr
      go_wp2_with fail
      have hlt2 : v < ({ data := #[48, 49, 50, 51, 52, 53, 54, 55, 56, 57, 97, 98, 99, 100, 101, 102, 65, 66, 67, 68, 69, 70] } : ByteArray).size := hv
      obtain ⟨cx, hcx⟩ : ∃ cx : UInt8, (({ data := #[48, 49, 50, 51, 52, 53, 54, 55, 56, 57, 97, 98, 99, 100, 101, 102, 65, 66, 67, 68, 69, 70] } : ByteArray)[v]'hlt2) = cx := ⟨_, rfl⟩
      rw [hcx]
      clear hcx hlt2
      refine (rdPick g A m c (q + 1) 24 l _ HRd2.out HA2.out HNE.out (by omega) (by omega) (by omega) hm).mono ?_
      rintro e w3 ⟨t, rfl, ht, hR3, hG3⟩
      have HRd3 := Lib.hid hR3
      have HO3 : Hid (OB w3 w.heap.size X k d bs) := HO2.out.kept hG3 (fun b o e e' => by
        have := (HO2.out.block b o e).1
        injection e' with e'
        omega)
      have HG3 : Hid (w.grownBy w3 (some g)) := grow_app HG2.out hG3 (fun y hy => Or.inr (by injection hy with hy; exact hy.symm))
      have HA3 : Hid (RB w3 A m l) := HA.out.grown0 HG3.out (fun hm0 b o e e' => HNE.out hm0 b o e (by injection e' with e'; exact e'.symm))
      have hsz3 : w.heap.size ≤ w3.heap.size := HG3.out.size
      clear hR3 hG3 HO2 HRd2 HG2 HA2
      by_cases ht0 : t = 0
      · subst ht0
        have hR4 : Rd (w3.alloc (.cells #[.int .u8 103, .int .u8 71, .int .u8 47, .int .u8 58, .int .u8 64, .int .u8 96, .int .u8 32, .int .u8 0, .int .u8 255] 5)) g A m c (q + 1 + 1) := HRd3.out.alloc _
        go_wp2_with fail
        refine (rdPick g A m c (q + 1 + 1) 9 l _ hR4 (HA3.out.alloc _) HNE.out (by omega) (by omega) (by omega) hm).mono ?_
        rintro e w4 ⟨u, rfl, hu, hR5, hG4⟩
        have hgw3 : g < w3.heap.size := HRd3.out.lt
        obtain ⟨cy, hcy⟩ := odd9_at u hu
        have hcell : w4.cell? ⟨w3.heap.size, u, none⟩ = some (.int .u8 (cy.toNat : Int)) := by
          have h1 := hG4.block w3.heap.size (by simp) (fun e => by injection e with e; omega)
          have h2 := h1.trans (heap_alloc_new w3 (.cells #[.int .u8 103, .int .u8 71, .int .u8 47, .int .u8 58, .int .u8 64, .int .u8 96, .int .u8 32, .int .u8 0, .int .u8 255] 5))
          rw [Lib.cell_of_heap h2]
          exact hcy
        have HRd4 := Lib.hid hR5
        have HO4 : Hid (OB w4 w.heap.size X k d bs) := (HO3.out.alloc _).kept hG4 (fun b o e e' => by
          have := (HO3.out.block b o e).1
          injection e' with e'
          omega)
        have HG4 : Hid (w.grownBy w4 (some g)) := grow_app (grow_alloc HG3.out _) hG4 (fun y hy => Or.inr (by injection hy with hy; exact hy.symm))
        have hsz4 : w.heap.size ≤ w4.heap.size := HG4.out.size
        have hu1 : (u : Int) < 9 := by omega
        clear hR5 hG4 hR4 hcy HO3 HRd3 HG3 HA3
        · -- the byte is put behind
          go_wp2_with (at_builtin; refine wpList_appB rfl (.tmp 26) (.tmp 28) rfl w.heap.size k d X bs rfl (HO4.out.alloc _) (some ⟨w4.heap.size, 0, none⟩) 1 1 [cy] rfl (RB.one w4 cy) (by omega) (by simp; omega) ?_; intro A5 d5 w5 hown1 hg1 hat1; refine Hid.out ?_)
          refine Lib.hid ?_
          have HO5 := Lib.hid hown1
          have HG5 : Hid (w.grownBy w5 (some g)) := grow_app (grow_alloc HG4.out _) hg1 (fun y hy => Or.inl (own_row HO4.out y hy))
          have HR5 : Hid (Rd w5 g A m c (q + 1 + 1 + 1)) := (HRd4.out.alloc _).kept hg1 (fun e => by have := own_row HO4.out g e; omega)
          clear hown1 hg1 hat1
          go_wp2_with fail
          go_roundw
          case rel => exact ⟨k + 1, q + 1 + 1 + 1, A5, d5, _, by omega, by omega, rfl, by go_num, HO5, HR5, HG5⟩
          case measure => simp [RowKit.intOf]; omega
      · have htb : ((t : Int) == 0) = false := by simp; omega
        · -- the byte is put behind
          go_wp2_with (at_builtin; refine wpList_appB rfl (.tmp 26) (.tmp 28) rfl w.heap.size k d X bs rfl (HO3.out.alloc _) (some ⟨w3.heap.size, 0, none⟩) 1 1 [cx] rfl (RB.one w3 cx) (by omega) (by simp; omega) ?_; intro A5 d5 w5 hown1 hg1 hat1; refine Hid.out ?_)
          refine Lib.hid ?_
          have HO5 := Lib.hid hown1
          have HG5 : Hid (w.grownBy w5 (some g)) := grow_app (grow_alloc HG3.out _) hg1 (fun y hy => Or.inl (own_row HO3.out y hy))
          have HR5 : Hid (Rd w5 g A m c (q + 1 + 1)) := (HRd3.out.alloc _).kept hg1 (fun e => by have := own_row HO3.out g e; omega)
          clear hown1 hg1 hat1
          go_wp2_with fail
          go_roundw
          case rel => exact ⟨k + 1, q + 1 + 1, A5, d5, _, by omega, by omega, rfl, by go_num, HO5, HR5, HG5⟩
          case measure => simp [RowKit.intOf]; omega
    · have hk2 : k = n := by omega
      subst hk2
      go_wp2_with fail
      go_ret
      exact ⟨X, k, d, q, bs, rfl, by omega, by omega, ho.out, hrd.out, hgr.out⟩

set_option maxHeartbeats 1000000 in
set_option maxRecDepth 100000 in
theorem drawText (A : Option Addr) (m c : Nat) (l : List UInt8) (w : World) (h : RB w A m l) (hm : m ≤ 140737488355328) :
    Calls Tryd.prog 13 #[.slice A m c] w fun e w' => ∃ s : ByteArray, e = .returned (.string s) ∧ s.size ≤ 20 ∧ Below w.heap.size w w' := by
  have HA := Lib.hid h
  have HNE : Hid (0 < m → ∀ b o, A = some ⟨b, o, none⟩ → b ≠ w.heap.size) := fun h0 b o e => by
    obtain ⟨b', o', e', hb', _⟩ := h.2 h0
    rw [e] at e'
    injection e' with e'
    injection e' with e1
    omega
  clear h
  have hR0 : Rd (w.alloc (.cells #[.slice A m c, .int .i64 0] 45)) w.heap.size A m c 0 := heap_alloc_new w _
  have hB0 : Below w.heap.size w (w.alloc (.cells #[.slice A m c, .int .i64 0] 45)) := (Below.refl _ w).alloc (Nat.le_refl _) _
  have HR0 := Lib.hid hR0
  clear hR0
  go_enter Tryd.func13, Tryd.ntmps13
  go_wp2_with fail
  refine (rdText w.heap.size A m c 0 l _ HR0.out (HA.out.alloc _) HNE.out (by omega) hm).mono ?_
  rintro e w1 ⟨X, n, d, p1, bs, rfl, hn, hp1, hox, hr1, hg1⟩
  have q := conv hox.rb d
  have HL := Lib.hid hox.len
  have HB1 := Lib.hid (below_grown hB0 hg1 (by simp) (Nat.le_refl _))
  clear hox hr1 hg1 hB0
  go_wp2_with fail
  go_ret
  exact ⟨⟨bs.toArray⟩, rfl, by show bs.toArray.size ≤ 20; rw [List.size_toArray, HL.out]; exact hn, HB1.out⟩

set_option maxHeartbeats 1000000 in
set_option maxRecDepth 100000 in
theorem drawTexts (A : Option Addr) (m c : Nat) (l : List UInt8) (w : World) (h : RB w A m l) (hm : m ≤ 140737488355328) :
    Calls Tryd.prog 12 #[.slice A m c] w fun e w' => ∃ (X Y : Option Addr) (a d b d' : Nat) (xs ys : List UInt8), e = .returned (.tuple #[.slice X a d, .slice Y b d']) ∧ a ≤ 20 ∧ b ≤ 20 ∧ Hid (RB w' X a xs) ∧ Hid (RB w' Y b ys) ∧ Below w.heap.size w w' := by
  have HA := Lib.hid h
  have HNE : Hid (0 < m → ∀ b o, A = some ⟨b, o, none⟩ → b ≠ w.heap.size) := fun h0 b o e => by
    obtain ⟨b', o', e', hb', _⟩ := h.2 h0
    rw [e] at e'
    injection e' with e'
    injection e' with e1
    omega
  clear h
  have hR0 : Rd (w.alloc (.cells #[.slice A m c, .int .i64 0] 45)) w.heap.size A m c 0 := heap_alloc_new w _
  have hB0 : Below w.heap.size w (w.alloc (.cells #[.slice A m c, .int .i64 0] 45)) := (Below.refl _ w).alloc (Nat.le_refl _) _
  have HR0 := Lib.hid hR0
  clear hR0
  go_enter Tryd.func12, Tryd.ntmps12
  go_wp2_with fail
  refine (rdText w.heap.size A m c 0 l _ HR0.out (HA.out.alloc _) HNE.out (by omega) hm).mono ?_
  rintro e w1 ⟨X, a, dx, p1, xs, rfl, ha, hp1, hox, hr1, hg1⟩
  have HOx : Hid (OB w1 (w.heap.size + 1) X a dx xs) := by simpa [Hid] using hox
  have HR1 := Lib.hid hr1
  have HB1 := Lib.hid (below_grown hB0 hg1 (by simp) (Nat.le_refl _))
  have HA1 : Hid (RB w1 A m l) := (HA.out.alloc _).grown0 hg1 (fun h0 b o e e' => HNE.out h0 b o e (by injection e' with e'; exact e'.symm))
  have hsz1 : w.heap.size + 1 ≤ w1.heap.size := by have := hg1.size; simpa using this
  clear hox hr1 hg1 hB0
  go_wp2_with fail
  refine (rdText w.heap.size A m c p1 l _ HR1.out HA1.out HNE.out (by omega) hm).mono ?_
  rintro e w5 ⟨Z, z, dz, p5, zs, rfl, hz, hp5, hoz, hr5, hg5⟩
  have HOx5 : Hid (OB w5 (w.heap.size + 1) X a dx xs) := HOx.out.kept hg5 (fun b o e e' => by
    have := (HOx.out.block b o e).1
    injection e' with e'
    omega)
  have HZ5 := Lib.hid hoz.rb
  have HB5 := Lib.hid (below_grown HB1.out hg5 (by omega) (Nat.le_refl _))
  clear hoz hr5 hg5
  go_wp2_with fail
  go_ret2
  exact ⟨X, Z, a, dx, z, dz, xs, zs, rfl, ha, hz, HOx5.out.rb, HZ5, HB5.out⟩

end Go.Proofs.YtnplhpckjcmgmaaDoor
