/-
  Contract: encoding/hex's decoder, its Read.
-/
import Derived.Test.YthldocgabpbgmaaDoorDec
import Derived.Deep.DeepCutAuto
import Derived.Shelf.Abstract
import Derived.Stop.IfaceNil
import Derived.Deep.DrawnRows
import Derived.StillTailTactics
namespace Go.Proofs.YthldocgabpbgmaaDoor
open Go.RowKit Go.Lib
set_option linter.unusedVariables false
attribute [local go_sem ↓] Go.wp_at_zero Go.wp_at_succ

theorem rowP_at (f : Nat → Value) (od : Nat) (l : List UInt8) (i : Nat) (c : UInt8) (h : l[i]? = some c) : Hx.rowP f od l (od + i) = .int .u8 (c.toNat : Int) := by
  have hi := (List.getElem?_eq_some_iff.1 h).1
  unfold Hx.rowP
  rw [if_pos ⟨by omega, by omega⟩, Nat.add_sub_cancel_left, h]
  rfl
theorem rowP_out (f : Nat → Value) (od : Nat) (l : List UInt8) (j : Nat) (h : j < od ∨ od + l.length ≤ j) : Hx.rowP f od l j = f j := by
  unfold Hx.rowP
  rw [if_neg (by omega)]

/-- What lies in the decoder's array behind both copies. -/
theorem rowP_two (g : Nat → Value) (x y : List UInt8) (m : Nat) (hm : x.length = m) (i : Nat) (c : UInt8) (h : (x ++ y)[i]? = some c) : Hx.rowP (Hx.rowP g 3 x) (3 + m) y (3 + 0 + i) = .int .u8 (c.toNat : Int) := by
  rcases Nat.lt_or_ge i m with h1 | h1
  · rw [List.getElem?_append_left (by omega)] at h
    rw [rowP_out _ _ _ _ (.inl (by omega))]
    exact rowP_at g 3 x i c h
  · rw [List.getElem?_append_right (by omega), hm] at h
    have := rowP_at (Hx.rowP g 3 x) (3 + m) y (i - m) c h
    rwa [show 3 + m + (i - m) = 3 + 0 + i by omega] at this

theorem eq_nil_eof (a : Addr) (w : World) : (binOp .eql 46 .nilIface (.iface 57 (.pointer (some a)))).run Tryd.prog w = .ok (.bool false) w :=
  run_eql_iface_nil_left w _ _ Tryd.underlying46

theorem Dec.mk0 {w : World} {a b : Addr} {p d pc m : Nat} {l r : List UInt8} {e : Option Hx.Out} {g : Nat → Value} (hpd : p < d) (hP : Pcs w p pc r) (hr : w.rowIs d 54 1027 g) (g0 : g 0 = .iface 41 (.pointer (some ⟨p, 0, none⟩))) (g1 : g 1 = errV a b e)
    (g2 : g 2 = .slice (some ⟨d, 3, none⟩) m 1024) (hl : l.length = m) (hm : m ≤ 1024) (hc : ∀ i c, l[i]? = some c → g (3 + 0 + i) = .int .u8 (c.toNat : Int)) : Dec w a b p d pc ⟨l, r, e⟩ :=
  ⟨hpd, hP, g, some ⟨d, 3, none⟩, m, 1024, 0, hr, g0, g1, g2, hl, hm, by omega, fun _ => rfl, hc⟩

theorem endOf_wrong (c : UInt8) (h : 15 < Hx.v c) : Hex.endOf [c] = some (.bad c) := by simp [Hex.endOf, h]
theorem endOf_early (c : UInt8) (h : ¬ 15 < Hx.v c) : Hex.endOf [c] = some .odd := by simp only [Hex.endOf]; rw [if_neg h]

theorem cut_one (b o c k : Nat) (hk : k < c) : cutA (some ⟨b, o, none⟩) c k = some ⟨b, o + k, none⟩ := by
  unfold cutA
  rw [if_neg (by omega), Option.map_some, add_at]

/-- A decoder behind a decoding with a wrong byte. -/
theorem Dec.bad {w : World} {a b : Addr} {p d pc : Nat} {r : List UInt8} {g : Nat → Value} {v : Value} (c : UInt8) (hpd : p < d) (hP : Pcs w p pc r) (hr : w.rowIs d 54 1027 g) (g0 : g 0 = .iface 41 (.pointer (some ⟨p, 0, none⟩))) :
    Dec (((w.setCell ⟨d, 2, none⟩ v).setCell ⟨d, 2, none⟩ (.slice none 0 0)).setCell ⟨d, 1, none⟩ (.iface 55 (.int .u8 (c.toNat : Int)))) a b p d pc ⟨[], r, some (.bad c)⟩ :=
  ⟨hpd, hP.kept (S := fun i => i = d) ((((Chg.refl (fun i => i = d) w).set (p := ⟨d, 2, none⟩) rfl _).set (p := ⟨d, 2, none⟩) rfl _).set (p := ⟨d, 1, none⟩) rfl _) (by omega) (fun b hb _ => by omega),
    _, none, 0, 0, 0, ((hr.set 2 _).set 2 _).set 1 _, by simp [g0], by simp [errV], by simp, rfl, by omega, by omega, fun h => absurd h (by omega), fun i c h => by simp at h⟩

/-- A decoder behind a decoding of pairs. -/
theorem Dec.ok {w : World} {a b : Addr} {p d pc m k o L : Nat} {l r : List UInt8} {e : Option Hx.Out} {g : Nat → Value} {X : Option Addr} (hpd : p < d) (hP : Pcs w p pc r) (hr : w.rowIs d 54 1027 g) (g0 : g 0 = .iface 41 (.pointer (some ⟨p, 0, none⟩))) (g1 : g 1 = errV a b e)
    (hm : l.length = m) (hmk : m ≤ k) (hok : o + k ≤ 1024) (hX : 0 < m → X = some ⟨d, 3 + o, none⟩) (hcs : ∀ i c, l[i]? = some c → g (3 + o + i) = .int .u8 (c.toNat : Int)) (hL : 2 * L ≤ m) :
    Dec (w.setCell ⟨d, 2, none⟩ (.slice (cutA X k (2 * L)) (m - 2 * L) (k - 2 * L))) a b p d pc ⟨l.drop (2 * L), r, e⟩ :=
  ⟨hpd, hP.kept (S := fun i => i = d) ((Chg.refl (fun i => i = d) w).set (p := ⟨d, 2, none⟩) rfl _) (by omega) (fun b hb _ => by omega),
    _, cutA X k (2 * L), m - 2 * L, k - 2 * L, o + 2 * L, hr.set 2 _, by simp [g0], by simp [g1], by simp, by simp [hm], by omega, by omega, fun h => by
      rw [hX (by omega), cut_one _ _ _ _ (by omega)]
      congr 2
      omega, fun i c hi => by
      have hi' : l[2 * L + i]? = some c := by rw [← List.getElem?_drop]; exact hi
      rw [if_neg (by omega), ← hcs _ c hi']
      congr 1
      omega⟩

theorem upd_ne (f : Nat → Value) (i : Nat) (v : Value) (j : Nat) (h : j ≠ i) : upd f i v j = f j := by unfold upd; rw [if_neg h]
theorem upd_eq (f : Nat → Value) (i : Nat) (v : Value) : upd f i v i = v := by unfold upd; rw [if_pos rfl]

set_option maxHeartbeats 4000000 in
set_option maxRecDepth 100000 in
theorem decRead (a b : Addr) (p d pc q K : Nat) (f : Nat → Value) (s : Hex.St) (w : World) (hE : ErrAt w a b) (hlo : a.block < p ∧ b.block < p ∧ 1 < p) (hpc : pc ≤ 9223372036854775807) (hD : Dec w a b p d pc s) (hq : w.rowIs q 5 K f) (hdq : d < q) (hK : K ≤ 1024) :
    Calls Tryd.prog 34 #[.pointer (some ⟨d, 0, none⟩), .slice (some ⟨q, 0, none⟩) K K] w fun e w' => e = .returned (.tuple #[.int .i64 ((Hex.step pc K s).1.length : Int), errV a b (told (Hex.step pc K s).2)]) ∧
      Dec w' a b p d pc (Hex.step pc K s).2 ∧ (∃ f', w'.rowIs q 5 K f' ∧ ∀ i c, (Hex.step pc K s).1[i]? = some c → f' i = .int .u8 (c.toNat : Int)) ∧ Chg (fun i => i = p ∨ i = d ∨ i = q) w w' := by
  have HE := Lib.hid hE
  have HQ := Lib.hid hq
  have HD := Lib.hid hD
  obtain ⟨hpd, hP, g, X, m, k, o, hrow, g0, g1, g2, hm, hmk, hok, hX, hcs⟩ := hD
  have c0 : w.cell? ⟨d, 0, none⟩ = some (.iface 41 (.pointer (some ⟨p, 0, none⟩))) := by rw [hrow.cell (by omega), g0]
  have c1 : w.cell? ⟨d, 1, none⟩ = some (errV a b s.e) := by rw [hrow.cell (by omega), g1]
  have c2 : w.cell? ⟨d, 2, none⟩ = some (.slice X m k) := by rw [hrow.cell (by omega), g2]
  have HRow := Lib.hid hrow
  have HP := Lib.hid hP
  have HM := Lib.hid hm
  have HX := Lib.hid hX
  have HCS := Lib.hid hcs
  have G0 := Lib.hid g0
  have G1 := Lib.hid g1
  have hrd := methRead p
  clear hE hq hP hrow g0 g1 g2 hm hX hcs
  go_enter Tryd.func34, Tryd.ntmps34
  go_upto_region 1 with fail
  go_cut [23] (fun s23 wx => s23 = .bool (decide (m < 2 ∧ s.e = none)) ∧ w = wx)
  case first =>
    by_cases hm2 : m < 2
    · cases he : s.e with
      | none =>
        rw [he] at c1
        simp only [errV] at c1
        go_wp2_with fail
        go_meet
        exact ⟨by simp [hm2, he], rfl⟩
      | some E =>
        rw [he] at c1
        cases E <;> (simp only [errV] at c1; go_wp2_with fail; go_meet; exact ⟨by simp [he], rfl⟩)
    · go_wp2_with fail
      go_meet
      exact ⟨by simp [hm2], rfl⟩
  case rest =>
    obtain ⟨rfl, rfl⟩ := hcut
    go_upto_if 23 with fail
    go_cut [] (fun wx => Dec wx a b p d pc (Hex.fill pc s) ∧ Chg (fun i => i = p ∨ i = d) w wx)
    case first =>
      by_cases hgo : m < 2 ∧ s.e = none
      · obtain ⟨hm2, he⟩ := hgo
        rw [he] at c1
        simp only [errV] at c1
        have HE0 := Lib.hid he
        have HM2 := Lib.hid hm2
        have hdec : decide (m < 2 ∧ s.e = none) = true := by simp [hm2, he]
        rw [hdec]
        clear hdec he
        have HR : Hid (RB w.drew X m s.inn) := (sliced_row HM.out HRow.out HCS.out (by omega) X HX.out).drew
        have hall := run_arr d
        go_wp2_with fail
        go_still_tail 8, (by kernel_rfl)
        change wpList _ _ _ _ _ w.drew
        refine wpList_copyB rfl (.tmp 27) (.tmp 31) rfl 54 d 3 1027 1024 1024 g rfl HRow.out.drew X m k s.inn rfl HR.out m (by omega) (by omega) ?_
        intro w1 hr1 hg1
        have HT : Hid (s.inn.take m = s.inn) := by rw [Hid, ← HM.out, List.take_length]
        rw [HT.out] at hr1
        have HC1 : Hid (Chg (fun i => i = p ∨ i = d) w w1) := Chg.ofDrew (Chg.grown hg1 (fun k hk => by injection hk with hk; exact .inr hk.symm))
        have HP1 : Hid (Pcs w1 p pc s.rest) := HP.out.kept (S := fun i => i = d) (Chg.ofDrew (Chg.grown hg1 (fun k hk => by injection hk with hk; exact hk.symm))) (by omega) (fun b hb _ => by omega)
        have HE1 : Hid (ErrAt w1 a b) := HC1.out.err HE.out (by simp; omega) (by simp; omega) (by omega) (by omega)
        have HR1 := Lib.hid hr1
        have e0 : w1.cell? ⟨d, 0, none⟩ = some (.iface 41 (.pointer (some ⟨p, 0, none⟩))) := by rw [hr1.cell (by omega), rowP_out _ _ _ _ (.inl (by omega)), G0.out]
        have hfrom := fun w => run_arr_from d (m : Int) (by omega) (by omega) w
        simp only [Int.toNat_natCast] at hfrom
        clear hr1 hg1 c0 c1 c2
        have HP1d : Hid (Pcs w1.drew p pc s.rest) := HP1.out.kept (S := fun _ => False) (Chg.refl _ w1).drew (fun h => h) (fun _ _ _ h => h)
        have HR1d : Hid (w1.drew.rowIs d 54 1027 (Hx.rowP g 3 s.inn)) := HR1.out.drew
        go_wp2_with fail
        by_cases hne : 0 < s.rest.length
        · -- more is brought
          obtain ⟨kk, hkk⟩ : ∃ kk, kk = Hex.much pc s := ⟨_, rfl⟩
          have HK : Hid (kk = min (min pc s.rest.length) (1024 - m)) := by rw [Hid, hkk]; unfold Hex.much; rw [HM.out]; omega
          have HFL : Hid (Hex.fill pc s = ⟨s.inn ++ s.rest.take kk, s.rest.drop kk, none⟩) := by
            rw [Hid]
            unfold Hex.fill
            rw [if_pos ⟨by rw [HM.out]; exact hm2, HE0.out⟩, if_neg (by intro e; rw [e] at hne; simp at hne), hkk]
          have hk1 : m + kk ≤ 1024 := by have := HK.out; omega
          have HNE := Lib.hid hne
          have HTL : Hid ((s.rest.take kk).length = kk) := by have := HK.out; rw [Hid, List.length_take]; omega
          clear hkk hne
          have hto := fun w => run_arr_to d ((m : Int) + (kk : Int)) (by omega) (by omega) w
          rw [show ((m : Int) + (kk : Int)).toNat = m + kk by omega] at hto
          go_region_with (go_at_call 33; (refine (pcsSome 54 p d (3 + m) 1027 (1024 - m) (1024 - m) kk pc (Hx.rowP g 3 s.inn) s.rest _ HP1d.out HNE.out hpc HR1d.out hpd HK.out (by omega)).mono ?_; rintro e w2 ⟨rfl, hp2, hr2, hc2⟩; have c1x := hr2.cell (i := 1) (by omega); have z1x := hr2.frozen 1; have HP2 := Lib.hid hp2; have HR2 := Lib.hid hr2; have HC2 := Lib.hid hc2; clear hp2 hr2 hc2))
          have HP3 : Hid (Pcs (w2.setCell ⟨d, 1, none⟩ .nilIface) p pc (s.rest.drop kk)) := HP2.out.kept (S := fun i => i = d) (Chg.set (S := fun i => i = d) (Chg.refl _ w2) (p := ⟨d, 1, none⟩) rfl _) (by omega) (fun b hb _ => by omega)
          have HR3 : Hid ((w2.setCell ⟨d, 1, none⟩ .nilIface).rowIs d 54 1027 (upd (Hx.rowP (Hx.rowP g 3 s.inn) (3 + m) (s.rest.take kk)) 1 .nilIface)) := HR2.out.set 1 .nilIface
          have HC3 : Hid (Chg (fun i => i = p ∨ i = d) w (w2.setCell ⟨d, 1, none⟩ .nilIface)) := (HC1.out.trans (HC2.out.ofDrew)).set (p := ⟨d, 1, none⟩) (.inr rfl) _
          clear c1x z1x HP2 HR2 HC2
          generalize w2.setCell ⟨d, 1, none⟩ .nilIface = w3 at *
          have c2x := HR3.out.cell (i := 2) (by omega)
          have z2x := HR3.out.frozen 2
          go_wp2_with fail
          have HP4 : Hid (Pcs (w3.setCell ⟨d, 2, none⟩ (.slice (some ⟨d, 3, none⟩) (m + kk) 1024)) p pc (s.rest.drop kk)) := HP3.out.kept (S := fun i => i = d) (Chg.set (S := fun i => i = d) (Chg.refl _ w3) (p := ⟨d, 2, none⟩) rfl _) (by omega) (fun b hb _ => by omega)
          have HR4 : Hid ((w3.setCell ⟨d, 2, none⟩ (.slice (some ⟨d, 3, none⟩) (m + kk) 1024)).rowIs d 54 1027 (upd (upd (Hx.rowP (Hx.rowP g 3 s.inn) (3 + m) (s.rest.take kk)) 1 .nilIface) 2 (.slice (some ⟨d, 3, none⟩) (m + kk) 1024))) := HR3.out.set 2 _
          have HC4 : Hid (Chg (fun i => i = p ∨ i = d) w (w3.setCell ⟨d, 2, none⟩ (.slice (some ⟨d, 3, none⟩) (m + kk) 1024))) := HC3.out.set (p := ⟨d, 2, none⟩) (.inr rfl) _
          clear c2x z2x HP3 HR3 HC3 hto
          generalize w3.setCell ⟨d, 2, none⟩ (.slice (some ⟨d, 3, none⟩) (m + kk) 1024) = w4 at *
          have c1y : w4.cell? ⟨d, 1, none⟩ = some .nilIface := by rw [HR4.out.cell (by omega), upd_ne _ _ _ _ (by omega), upd_eq]
          have cge : w4.cell? ⟨0, 0, none⟩ = some (.iface 57 (.pointer (some a))) := (HC4.out.err HE.out (by simp; omega) (by simp; omega) (by omega) (by omega)).1.1
          have hcmp := eq_nil_eof a
          go_quiet (fail)
          go_wp2_with fail
          go_meet
          refine ⟨?_, HC4.out.drewN _⟩
          rw [HFL.out]
          refine Dec.drewN (Dec.mk0 (l := s.inn ++ s.rest.take kk) (r := s.rest.drop kk) (e := none) hpd HP4.out HR4.out ?_ ?_ (upd_eq _ _ _) (by have h1 := HM.out; have h2 := HTL.out; rw [List.length_append]; omega) hk1 (fun i c hi => ?_)) _
          · rw [upd_ne _ _ _ _ (by omega), upd_ne _ _ _ _ (by omega), rowP_out _ _ _ _ (.inl (by omega)), rowP_out _ _ _ _ (.inl (by omega)), G0.out]
          · rw [upd_ne _ _ _ _ (by omega), upd_eq]; rfl
          · rw [upd_ne _ _ _ _ (by omega), upd_ne _ _ _ _ (by omega)]
            exact rowP_two g s.inn _ m HM.out i c hi
        · -- the pieces are at their end
          have hr0 : s.rest = [] := List.eq_nil_of_length_eq_zero (by omega)
          have HFL : Hid (Hex.fill pc s = ⟨s.inn, [], Hex.endOf s.inn⟩) := by
            rw [Hid]
            unfold Hex.fill
            rw [if_pos ⟨by rw [HM.out]; exact hm2, HE0.out⟩, if_pos hr0]
          rw [hr0] at HP1d
          have HP1e : Hid (Pcs w1 p pc []) := by rw [Hid, ← hr0]; exact HP1.out
          have HE1d : Hid (ErrAt w1.drew a b) := HE1.out
          have c1x := HR1.out.cell (i := 1) (by omega)
          have z1x := HR1.out.frozen 1
          have c2x := HR1.out.cell (i := 2) (by omega)
          have z2x := HR1.out.frozen 2
          have hto := fun w => run_arr_to d (m : Int) (by omega) (by omega) w
          simp only [Int.toNat_natCast] at hto
          clear hr0 hne HP1
          go_region_with (go_at_call 33; (refine (pcsEnd a b p pc _ _ _ _ HP1d.out HE1d.out).mono ?_; rintro e w2 ⟨rfl, rfl⟩; simp only [errV]))
          go_wp2_with fail
          have HP4 : Hid (Pcs ((w1.setCell ⟨d, 1, none⟩ (.iface 57 (.pointer (some a)))).setCell ⟨d, 2, none⟩ (.slice (some ⟨d, 3, none⟩) m 1024)).drew.drew p pc []) := HP1e.out.kept (S := fun i => i = d) (((((Chg.refl (fun i => i = d) w1).set (p := ⟨d, 1, none⟩) rfl _).set (p := ⟨d, 2, none⟩) rfl _).drew).drew) (by omega) (fun b hb _ => by omega)
          have HR4 : Hid (((w1.setCell ⟨d, 1, none⟩ (.iface 57 (.pointer (some a)))).setCell ⟨d, 2, none⟩ (.slice (some ⟨d, 3, none⟩) m 1024)).drew.drew.rowIs d 54 1027 (upd (upd (Hx.rowP g 3 s.inn) 1 (.iface 57 (.pointer (some a)))) 2 (.slice (some ⟨d, 3, none⟩) m 1024))) := ((HR1.out.set 1 _).set 2 _).drew.drew
          have HC4 : Hid (Chg (fun i => i = p ∨ i = d) w ((w1.setCell ⟨d, 1, none⟩ (.iface 57 (.pointer (some a)))).setCell ⟨d, 2, none⟩ (.slice (some ⟨d, 3, none⟩) m 1024)).drew.drew) := (((HC1.out.set (p := ⟨d, 1, none⟩) (.inr rfl) _).set (p := ⟨d, 2, none⟩) (.inr rfl) _).drew).drew
          clear c1x z1x c2x z2x HP1e HR1 HR1d HE1d HP1d hto HR e0
          generalize ((w1.setCell ⟨d, 1, none⟩ (.iface 57 (.pointer (some a)))).setCell ⟨d, 2, none⟩ (.slice (some ⟨d, 3, none⟩) m 1024)).drew.drew = w4 at *
          have c1y : w4.cell? ⟨d, 1, none⟩ = some (.iface 57 (.pointer (some a))) := by rw [HR4.out.cell (by omega), upd_ne _ _ _ _ (by omega), upd_eq]
          have c2y : w4.cell? ⟨d, 2, none⟩ = some (.slice (some ⟨d, 3, none⟩) m 1024) := by rw [HR4.out.cell (by omega), upd_eq]
          have cge : w4.cell? ⟨0, 0, none⟩ = some (.iface 57 (.pointer (some a))) := (HC4.out.err HE.out (by simp; omega) (by simp; omega) (by omega) (by omega)).1.1
          have hcmp := eq_same a
          have K0 : Hid (upd (upd (Hx.rowP g 3 s.inn) 1 (.iface 57 (.pointer (some a)))) 2 (.slice (some ⟨d, 3, none⟩) m 1024) 0 = .iface 41 (.pointer (some ⟨p, 0, none⟩))) := by
            rw [Hid, upd_ne _ _ _ _ (by omega), upd_ne _ _ _ _ (by omega), rowP_out _ _ _ _ (.inl (by omega)), G0.out]
          have KC : Hid (∀ i c, s.inn[i]? = some c → upd (upd (Hx.rowP g 3 s.inn) 1 (.iface 57 (.pointer (some a)))) 2 (.slice (some ⟨d, 3, none⟩) m 1024) (3 + 0 + i) = .int .u8 (c.toNat : Int)) := fun i c hi => by
            rw [upd_ne _ _ _ _ (by omega), upd_ne _ _ _ _ (by omega)]
            exact rowP_at g 3 s.inn i c hi
          by_cases hm1 : m = 0
          · subst hm1
            have hi0 : s.inn = [] := List.eq_nil_of_length_eq_zero HM.out
            go_quiet (fail)
            go_wp2_with fail
            go_meet
            refine ⟨?_, HC4.out.drewN _⟩
            rw [HFL.out]
            refine Dec.drewN (Dec.mk0 (l := s.inn) (r := []) (e := Hex.endOf s.inn) hpd HP4.out HR4.out K0.out ?_ (upd_eq _ _ _) HM.out (by omega) KC.out) _
            rw [upd_ne _ _ _ _ (by omega), upd_eq, hi0]; rfl
          · obtain rfl : m = 1 := by omega
            obtain ⟨c, hi0⟩ : ∃ c, s.inn = [c] := by
              match h : s.inn, HM.out with
              | [c], _ => exact ⟨c, rfl⟩
            have HI0 := Lib.hid hi0
            have c3y : w4.cell? ⟨d, 3, none⟩ = some (.int .u8 (c.toNat : Int)) := by rw [HR4.out.cell (by omega)]; have := KC.out 0 c (by rw [hi0]; rfl); rw [this]
            have hx0 : 0 ≤ (c.toNat : Int) := by omega
            have hx1 : (c.toNat : Int) < 256 := by have := c.toNat_lt; omega
            clear hi0
            obtain ⟨x, hx⟩ : ∃ x : Int, x = (c.toNat : Int) := ⟨_, rfl⟩
            rw [← hx] at hx0 hx1 c3y
            have sx : x.toNat < Hx.rev.size := by rw [Hx.rev_size]; omega
            have HV : Hid (((Hx.rev[x.toNat]'sx).toNat : Int) = (Hx.v c : Int)) := by
              rw [Hid, Hx.rev_at x hx0 hx1, hx]
              simp
            have HXc := Lib.hid hx
            have z1y : w4.frozen? ⟨d, 1, none⟩ = false := HR4.out.frozen 1
            have cgu : w4.cell? ⟨1, 0, none⟩ = some (.iface 57 (.pointer (some b))) := (HC4.out.err HE.out (by simp; omega) (by simp; omega) (by omega) (by omega)).2.1.1
            clear hx
            go_quiet (fail)
            go_wp2_with fail
            go_quiet (fail)
            go_wp2_with fail
            · -- no digit
              have HVV : Hid (15 < Hx.v c) := by
                have hv : (15 : Int) < ((Hx.rev[x.toNat]'sx).toNat : Int) := by assumption
                rw [HV.out] at hv
                exact (by omega : 15 < Hx.v c)
              generalize hN : w4.drewN _ = w5
              have HR5 : Hid (w5.rowIs d 54 1027 (upd (upd (Hx.rowP g 3 s.inn) 1 (.iface 57 (.pointer (some a)))) 2 (.slice (some ⟨d, 3, none⟩) 1 1024))) := by rw [← hN]; exact HR4.out
              have HP5 : Hid (Pcs w5 p pc []) := by rw [← hN]; exact HP4.out.kept (S := fun _ => False) ((Chg.refl _ w4).drewN _) (fun h => h) (fun _ _ _ h => h)
              have HC5 : Hid (Chg (fun i => i = p ∨ i = d) w w5) := by rw [← hN]; exact HC4.out.drewN _
              have d2y : w5.cell? ⟨d, 2, none⟩ = some (.slice (some ⟨d, 3, none⟩) 1 1024) := by rw [HR5.out.cell (by omega), upd_eq]
              have d1y := HR5.out.cell (i := 1) (by omega)
              have d3y : w5.cell? ⟨d, 3, none⟩ = some (.int .u8 x) := by rw [← hN]; exact c3y
              have y1y : w5.frozen? ⟨d, 1, none⟩ = false := HR5.out.frozen 1
              clear hN c1y c2y cge cgu c3y z1y HR4 HP4 HC4
              go_region
              go_wp2_with fail
              go_meet
              refine ⟨?_, (HC5.out.set (p := ⟨d, 1, none⟩) (.inr rfl) _).drew⟩
              rw [HFL.out]
              refine Dec.drew (Dec.mk0 (l := s.inn) (r := []) (e := Hex.endOf s.inn) hpd (HP5.out.kept (S := fun i => i = d) (Chg.set (S := fun i => i = d) (Chg.refl _ w5) (p := ⟨d, 1, none⟩) rfl _) (by omega) (fun b hb _ => by omega)) (HR5.out.set 1 _) ?_ ?_ ?_ HM.out (by omega) (fun i c hi => ?_))
              · rw [if_neg (by omega)]; exact K0.out
              · rw [if_pos rfl, HI0.out, HXc.out]; rw [endOf_wrong c HVV.out]; rfl
              · rw [if_neg (by omega), upd_eq]
              · rw [if_neg (by omega)]; exact KC.out i c hi
            · -- a digit
              have HVV : Hid (¬ 15 < Hx.v c) := by
                have hv : ((Hx.rev[x.toNat]'sx).toNat : Int) ≤ (15 : Int) := by assumption
                rw [HV.out] at hv
                exact (by omega : ¬ 15 < Hx.v c)
              go_meet
              refine ⟨?_, (HC4.out.drewN _).set (p := ⟨d, 1, none⟩) (.inr rfl) _⟩
              rw [HFL.out]
              refine Dec.mk0 (l := s.inn) (r := []) (e := Hex.endOf s.inn) hpd (HP4.out.kept (S := fun i => i = d) (((Chg.refl (fun i => i = d) w4).drewN _).set (p := ⟨d, 1, none⟩) rfl _) (by omega) (fun b hb _ => by omega)) (World.rowIs.set (w := w4.drewN _) HR4.out 1 _) ?_ ?_ ?_ HM.out (by omega) (fun i c hi => ?_)
              · rw [if_neg (by omega)]; exact K0.out
              · rw [if_pos rfl, HI0.out]; rw [endOf_early c HVV.out]; rfl
              · rw [if_neg (by omega), upd_eq]
              · rw [if_neg (by omega)]; exact KC.out i c hi
      · have HFL : Hid (Hex.fill pc s = s) := by rw [Hid]; unfold Hex.fill; rw [HM.out, if_neg hgo]
        have hdec : decide (m < 2 ∧ s.e = none) = false := by simpa using hgo
        rw [hdec]
        clear hdec
        go_wp2_with fail
        go_meet
        exact ⟨by rw [HFL.out]; exact HD.out, Chg.refl _ _⟩
    case rest =>
      obtain ⟨hD1, hC1⟩ := hcut
      obtain ⟨t, ht⟩ : ∃ t, t = Hex.fill pc s := ⟨_, rfl⟩
      have HST : Hid (Hex.step pc K s = Hex.give K t) := by rw [Hid, ht]; rfl
      rw [← ht] at hD1
      have HQ1 := Lib.hid (hC1.row HQ.out (by omega))
      have HC1 := Lib.hid hC1
      clear ht c0 c1 c2 HRow HP HM HX HCS G0 G1 hrd HD HQ hmk hok hC1
      clear g X m k o
      obtain ⟨_, hP, g, X, m, k, o, hrow, g0, g1, g2, hm, hmk, hok, hX, hcs⟩ := hD1
      have c2 : wc.cell? ⟨d, 2, none⟩ = some (.slice X m k) := by rw [hrow.cell (by omega), g2]
      have HRow := Lib.hid hrow
      have HP := Lib.hid hP
      have HM := Lib.hid hm
      have HX := Lib.hid hX
      have HCS := Lib.hid hcs
      have G0 := Lib.hid g0
      have G1 := Lib.hid g1
      clear hP hrow g0 g1 g2 hm hX hcs
      obtain ⟨P, hP⟩ : ∃ P, P = Hex.pairs K t := ⟨_, rfl⟩
      have HPP : Hid (P = min K (m / 2)) := by rw [Hid, hP]; unfold Hex.pairs; rw [HM.out]
      have HPt := Lib.hid hP
      have hP1 : P ≤ K := by have := HPP.out; omega
      have hP2 : 2 * P ≤ m := by have := HPP.out; omega
      clear hP
      go_upto_if 120 with fail
      go_cut [1] (fun s1 wx => s1 = .slice (some ⟨q, 0, none⟩) P K ∧ wc = wx)
      case first =>
        by_cases hlt : (m : Int) / 2 < (K : Int)
        · have hq := fun w => run_to (some ⟨q, 0, none⟩) K K ((m : Int) / 2) (by omega) (by omega) w
          have HZ : Hid (((m : Int) / 2).toNat = P) := by have := HPP.out; rw [Hid]; omega
          go_wp2_with fail
          go_meet
          exact ⟨by have := HPP.out; congr 1 <;> omega, rfl⟩
        · have hle : (K : Int) ≤ (m : Int) / 2 := by omega
          have HZ : Hid (K = P) := by have := HPP.out; rw [Hid]; omega
          go_wp2_with fail
          go_meet
          exact ⟨by rw [← HZ.out], rfl⟩
      case rest =>
        obtain ⟨rfl, rfl⟩ := hcut
        have HR : Hid (RB wc X (2 * P) (t.inn.take (2 * P))) := (sliced_row HM.out HRow.out HCS.out (by omega) X HX.out).to_ hP2
        have hto := fun w => run_to X m k ((P : Int) * 2) (by omega) (by omega) w
        rw [show ((P : Int) * 2).toNat = 2 * P by omega] at hto
        have HNE : Hid (0 < 2 * P → ∀ bb oo, X = some ⟨bb, oo, none⟩ → q ≠ bb) := fun h0 bb oo e => by
          have := HX.out (by omega)
          rw [e] at this
          injection this with this
          injection this with e1
          omega
        generalize hDD : Hx.decode (t.inn.take (2 * P)) = D
        obtain ⟨D1, D2⟩ := D
        have HDD := Lib.hid hDD
        clear hDD
        have HD1 : Hid (D1.length ≤ P) := by
          have h1 := Hx.decode_len (t.inn.take (2 * P))
          rw [HDD.out, HR.out.1] at h1
          have h2 : D1.length ≤ 2 * P / 2 := h1
          rw [Hid]
          omega
        go_upto_region 15 with (go_at_call 35; refine (hexDecode 5 q 0 P K K f X (2 * P) k (t.inn.take (2 * P)) _ HR.out HQ1.out (by omega) (by omega) HNE.out (by omega) (by omega)).mono ?_; rintro e w5 ⟨rfl, hrow5, hgr5⟩; rw [HDD.out] at hrow5 ⊢)
        have HRow5 : Hid (w5.rowIs d 54 1027 g) := HRow.out.of_block (hgr5.block d HRow.out.lt (by simp; omega))
        have HC5 : Hid (Chg (fun i => i = p ∨ i = d ∨ i = q) w w5) := (HC1.out.mono (fun i hi => by omega)).trans (Chg.grown hgr5 (fun k hk => by injection hk with hk; omega))
        have HP5 : Hid (Pcs w5 p pc t.rest) := HP.out.kept (S := fun i => i = q) (Chg.grown hgr5 (fun k hk => by injection hk with hk; exact hk.symm)) (by omega) (fun b hb _ => by omega)
        have HQ5 := Lib.hid hrow5
        have c2' : w5.cell? ⟨d, 2, none⟩ = some (.slice X m k) := hgr5.cell c2 (by simp; omega)
        have c1' : w5.cell? ⟨d, 1, none⟩ = some (errV a b t.e) := by rw [HRow5.out.cell (by omega), G1.out]
        have z1' : w5.frozen? ⟨d, 1, none⟩ = false := HRow5.out.frozen 1
        have z2' : w5.frozen? ⟨d, 2, none⟩ = false := HRow5.out.frozen 2
        obtain ⟨L, hL⟩ : ∃ L, D1.length = L := ⟨_, rfl⟩
        have HL := Lib.hid hL
        rw [hL]
        have hL1 : L ≤ P := by rw [← hL]; exact HD1.out
        have hfr := fun w => run_from X m k (2 * (L : Int)) (by omega) (by omega) w
        rw [show (2 * (L : Int)).toNat = 2 * L by omega] at hfr
        clear hL hrow5 hgr5 c2 HRow HP HQ1 HC1 HR hto HNE
        have HQf : Hid (∃ f', w5.rowIs q 5 K f' ∧ ∀ i c, D1[i]? = some c → f' i = .int .u8 (c.toNat : Int)) := ⟨_, HQ5.out, fun i c hi => by have := rowP_at f 0 D1 i c hi; rwa [Nat.zero_add] at this⟩
        cases D2 with
        | odd =>
          exfalso
          have := Hex.even_not_odd (t.inn.take (2 * P)) (by rw [List.length_take, HM.out]; omega)
          rw [HDD.out] at this
          exact this rfl
        | bad c =>
          have HG : Hid (Hex.give K t = (D1, ⟨[], t.rest, some (.bad c)⟩)) := by
            rw [Hid]; unfold Hex.give; rw [← HPt.out, HDD.out]
          simp only [errEven]
          have HDec := Lib.hid (Dec.bad (a := a) (b := b) (v := .slice (cutA X k (2 * L)) (m - 2 * L) (k - 2 * L)) c hpd HP5.out HRow5.out G0.out)
          have HCF := Lib.hid (((HC5.out.set (p := ⟨d, 2, none⟩) (.inr (.inl rfl)) (.slice (cutA X k (2 * L)) (m - 2 * L) (k - 2 * L))).set (p := ⟨d, 2, none⟩) (.inr (.inl rfl)) (.slice none 0 0)).set (p := ⟨d, 1, none⟩) (.inr (.inl rfl)) (.iface 55 (.int .u8 (c.toNat : Int))))
          have HQ6 : Hid (∃ f', (((w5.setCell ⟨d, 2, none⟩ (.slice (cutA X k (2 * L)) (m - 2 * L) (k - 2 * L))).setCell ⟨d, 2, none⟩ (.slice none 0 0)).setCell ⟨d, 1, none⟩ (.iface 55 (.int .u8 (c.toNat : Int)))).rowIs q 5 K f' ∧ ∀ i c, D1[i]? = some c → f' i = .int .u8 (c.toNat : Int)) := by
            obtain ⟨f', h1, h2⟩ := HQf.out
            exact ⟨f', ((h1.setOther (by simp; omega) _).setOther (by simp; omega) _).setOther (by simp; omega) _, h2⟩
          go_wp2_with fail
          generalize ((w5.setCell ⟨d, 2, none⟩ (.slice (cutA X k (2 * L)) (m - 2 * L) (k - 2 * L))).setCell ⟨d, 2, none⟩ (.slice none 0 0)).setCell ⟨d, 1, none⟩ (.iface 55 (.int .u8 (c.toNat : Int))) = w6 at *
          have c1x : w6.cell? ⟨d, 1, none⟩ = some (.iface 55 (.int .u8 (c.toNat : Int))) := by
            obtain ⟨_, _, g', X', m', k', o', hr', _, hg1, _⟩ := HDec.out
            rw [hr'.cell (by omega), hg1]
            rfl
          clear c1' c2' z1' z2'
          go_quiet (fail)
          go_wp2_with fail
          go_ret2
          rw [HST.out, HG.out]
          refine ⟨by rw [← HL.out]; rfl, HDec.out.drewN _, ?_, HCF.out.drewN _⟩
          obtain ⟨f', h1, h2⟩ := HQ6.out
          exact ⟨f', h1, h2⟩
        | ok =>
          have HG : Hid (Hex.give K t = (D1, ⟨t.inn.drop (2 * L), t.rest, t.e⟩)) := by
            rw [Hid]; unfold Hex.give; rw [← HPt.out, HDD.out]; simp only [HL.out]
          simp only [errEven]
          have HDec := Lib.hid (Dec.ok (a := a) (b := b) (e := t.e) (l := t.inn) (L := L) hpd HP5.out HRow5.out G0.out G1.out HM.out hmk hok HX.out HCS.out (by omega))
          have HCF := Lib.hid (HC5.out.set (p := ⟨d, 2, none⟩) (.inr (.inl rfl)) (.slice (cutA X k (2 * L)) (m - 2 * L) (k - 2 * L)))
          have HQ6 : Hid (∃ f', (w5.setCell ⟨d, 2, none⟩ (.slice (cutA X k (2 * L)) (m - 2 * L) (k - 2 * L))).rowIs q 5 K f' ∧ ∀ i c, D1[i]? = some c → f' i = .int .u8 (c.toNat : Int)) := by
            obtain ⟨f', h1, h2⟩ := HQf.out
            exact ⟨f', h1.setOther (by simp; omega) _, h2⟩
          by_cases hmL : m - 2 * L < 2
          · have hmL' : (m : Int) - 2 * (L : Int) < 2 := by omega
            go_wp2_with fail
            have HTold : Hid (told ⟨t.inn.drop (2 * L), t.rest, t.e⟩ = t.e) := by
              rw [Hid]; unfold told; rw [if_pos (by rw [List.length_drop, HM.out]; exact hmL)]
            generalize w5.setCell ⟨d, 2, none⟩ (.slice (cutA X k (2 * L)) (m - 2 * L) (k - 2 * L)) = w6 at *
            have c1x : w6.cell? ⟨d, 1, none⟩ = some (errV a b t.e) := by
              obtain ⟨_, _, g', X', m', k', o', hr', _, hg1, _⟩ := HDec.out
              rw [hr'.cell (by omega), hg1]
            clear c1' c2' z1' z2'
            go_quiet (fail)
            go_wp2_with fail
            go_ret2
            rw [HST.out, HG.out]
            refine ⟨?_, HDec.out.drewN _, ?_, HCF.out.drewN _⟩
            · show _ = Ending.returned (.tuple #[.int .i64 (D1.length : Int), errV a b (told ⟨t.inn.drop (2 * L), t.rest, t.e⟩)])
              rw [HTold.out, HL.out]
              rfl
            obtain ⟨f', h1, h2⟩ := HQ6.out
            exact ⟨f', h1, h2⟩
          · have hmL' : (2 : Int) ≤ (m : Int) - 2 * (L : Int) := by omega
            have HTold : Hid (told ⟨t.inn.drop (2 * L), t.rest, t.e⟩ = none) := by
              rw [Hid]; unfold told; rw [if_neg (by rw [List.length_drop, HM.out]; exact hmL)]
            go_wp2_with fail
            go_ret2
            rw [HST.out, HG.out]
            refine ⟨?_, HDec.out, HQ6.out, HCF.out⟩
            show _ = Ending.returned (.tuple #[.int .i64 (D1.length : Int), errV a b (told ⟨t.inn.drop (2 * L), t.rest, t.e⟩)])
            rw [HTold.out, HL.out]
            rfl

end Go.Proofs.YthldocgabpbgmaaDoor
