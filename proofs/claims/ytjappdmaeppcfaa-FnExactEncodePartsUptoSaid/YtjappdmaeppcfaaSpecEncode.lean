/-
  Contracts of the reference: spec.Digit, spec.Encode.
-/
import Derived.Test.YtjappdmaeppcfaaAppend
import Derived.StillTailTactics
namespace Go.Proofs.Ytjappdmaeppcfaa
open Go.RowKit Go.Lib
set_option linter.unusedVariables false

set_option maxHeartbeats 400000 in
theorem specDigit (x : Int) (h0 : 0 ≤ x) (h1 : x < 16) (w : World) : Calls Try.prog 14 #[.int .u8 x] w fun e w' => e = .returned (.int .u8 ((Hx.digit x.toNat).toNat : Int)) ∧ w = w' := by
  by_cases h : x < 10
  · have hd := Lib.hid (Hex.digit_small x.toNat (by omega))
    go_enter Try.func14, Try.ntmps14
    go_wp2
    go_ret
    exact ⟨ret_int (by rw [hd.out]; omega), rfl⟩
  · have hd := Lib.hid (Hex.digit_great x.toNat (by omega) (by omega))
    go_enter Try.func14, Try.ntmps14
    go_wp2
    go_ret
    exact ⟨ret_int (by rw [hd.out]; omega), rfl⟩

set_option maxHeartbeats 1000000 in
set_option maxRecDepth 100000 in
theorem specEncode (A : Option Addr) (n c : Nat) (l : List UInt8) (w : World) (h : RB w A n l) (hbig : 2 * n ≤ 140737488355328) :
    Calls Try.prog 7 #[.slice A n c] w fun e w' => ∃ A' c', e = .returned (.slice A' (2 * n) c') ∧ OB w' w.heap.size A' (2 * n) c' (Hx.encode l) ∧ Below w.heap.size w w' := by
  have HB := Lib.hid h
  clear h
  go_enter Try.func7, Try.ntmps7
  go_wp2_with fail
  go_loopw [3, 4] (fun v i wr => ∃ (k : Nat) (X : Option Addr) (d : Nat), k ≤ n ∧ v = .slice X (2 * k) d ∧ i = .int .i64 k ∧ Hid (OB wr w.heap.size X (2 * k) d (Hx.encode (l.take k))) ∧ Hid (Below w.heap.size w wr)) (fun _ i _ => n - (intOf i).toNat)
  case atStart => exact ⟨0, _, _, Nat.zero_le _, rfl, rfl, OB.made w _ (Nat.le_refl _) #[] (by simp), (Below.refl _ w).alloc (Nat.le_refl _) _⟩
  case round =>
    obtain ⟨k, X, d, hk, rfl, rfl, ho, hb⟩ := hrel
    by_cases hlt : k < n
    · obtain ⟨b, o, cc, rfl, hbs, hcc, hcell⟩ := HB.out.at_ hlt
      obtain ⟨x, hxk⟩ : ∃ x : Int, x = (cc.toNat : Int) := ⟨_, rfl⟩
      have hcx : wr.cell? ⟨b, o + k, none⟩ = some (.int .u8 x) := by rw [hxk]; exact (hb.out.cell (p := ⟨b, o + k, none⟩) hbs).trans hcell
      have hx0 : 0 ≤ x := by omega
      have hx1 : x < 256 := by have := cc.toNat_lt; omega
      have HX := Lib.hid hxk
      have HC := Lib.hid hcc
      clear hxk hcell hcc
      have hkeep : Hid (∀ (W W' : World) (u : Value), W.grownBy W' (X.map (·.block)) → W.cell? ⟨b, o + k, none⟩ = some u → W'.cell? ⟨b, o + k, none⟩ = some u) := fun W W' u hg hc => hg.cell hc (fun e => by
        have h1 := ho.out.spot
        have h2 := ho.out.block
        cases X with
        | none => cases e
        | some y =>
          obtain ⟨yb, yo, ys⟩ := y
          have h3 := h1 _ rfl
          simp only at h3
          subst h3
          have h4 := (h2 yb yo rfl).1
          simp at e
          omega)
      have p1 : x.tdiv 16 = x / 16 := Int.tdiv_eq_ediv_of_nonneg hx0
      have p2 : x.tmod 16 = x % 16 := Int.tmod_eq_emod_of_nonneg hx0
      have p3 : IntKind.u8.wrap (x / 16) = x / 16 := IntWalk.u8_in _ (by omega)
      have p4 : IntKind.u8.wrap (x % 16) = x % 16 := IntWalk.u8_in _ (by omega)
      have p5 : 0 ≤ x / 16 ∧ x / 16 < 16 := by omega
      have p6 : 0 ≤ x % 16 ∧ x % 16 < 16 := by omega
      have p7 : (k : Int) < (n : Int) := by omega
      have HO1 := Lib.hid ((ho.out.drew).alloc (.cells #[.int .u8 ((Hx.digit (x / 16).toNat).toNat : Int), .int .u8 ((Hx.digit (x % 16).toNat).toNat : Int)] 5))
      have HR1 := Lib.hid (RB.two wr.drew (Hx.digit (x / 16).toNat) (Hx.digit (x % 16).toNat))
      have hsz : Hid (w.heap.size ≤ wr.heap.size) := hb.out.size
      go_wp2_with fail
      go_region_held3 (fun w' => w'.cell? ⟨b, o + k, none⟩ = some (.int .u8 x))
        (first
          | go_keep
          | exact hkeep.out _ _ _ hg1 (by assumption))
        (first
          | (refine step_appB (by rfl) (.tmp 12) (.tmp 25) (by rfl) w.heap.size (2 * k) d X (Hx.encode (l.take k)) (by rfl) (by exact HO1.out) (some ⟨wr.heap.size, 0, none⟩) 2 2 _ (by rfl) (by exact HR1.out) (by omega) (by simp; have := hsz.out; omega) ?_; intro A2 c2 w1 hown1 hg1 hat1)
          | (go_simp; go_at_call 14; refine (specDigit _ (by omega) (by omega) _).mono ?_; rintro e w' ⟨rfl, rfl⟩))
      have hbw1 : Hid (Below w.heap.size w w1) := HO1.out.grows (((hb.out.drew).alloc hb.out.size _)) hg1 (Nat.le_refl _) (by simp; have := hb.out.size; omega)
      have HO2 : Hid (OB w1 w.heap.size A2 (2 * (k + 1)) c2 (Hx.encode (l.take (k + 1)))) := by
        have e := Hex.encode_snoc l k cc HC.out
        have e1 : (x / 16).toNat = cc.toNat / 16 := by have := HX.out; omega
        have e2 : (x % 16).toNat = cc.toNat % 16 := by have := HX.out; omega
        rw [e, ← e1, ← e2, show 2 * (k + 1) = 2 * k + 2 by omega]
        exact hown1
      have e3 : Value.slice A2 (2 * k + 2) c2 = .slice A2 (2 * (k + 1)) c2 := by rw [show 2 * (k + 1) = 2 * k + 2 by omega]
      rw [e3]
      clear hown1 hg1 hat1 HO1 HR1 p1 p2 p3 p4 p5 p6 p7 e3
      go_wp2_with fail
      go_roundw
      case rel => exact ⟨k + 1, A2, c2, by omega, rfl, by go_num, HO2, hbw1⟩
      case measure => simp [intOf]; omega
    · have hk2 : k = n := by omega
      subst hk2
      have e : l.take k = l := by rw [← HB.out.len, List.take_length]
      rw [e] at ho
      clear e
      go_wp2_with fail
      go_ret
      exact ⟨X, d, rfl, ho.out, hb.out⟩

end Go.Proofs.Ytjappdmaeppcfaa
