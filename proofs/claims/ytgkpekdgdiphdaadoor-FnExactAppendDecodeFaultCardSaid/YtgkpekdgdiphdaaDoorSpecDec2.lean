/-
  The contract of the reference's Decode.
-/
import Derived.Test.YtgkpekdgdiphdaaDoorSpecDecode
namespace Go.Proofs.YtgkpekdgdiphdaaDoor
open Go.RowKit Go.Lib
set_option linter.unusedVariables false

set_option maxHeartbeats 4000000 in
set_option maxRecDepth 100000 in
theorem specDecode (A : Option Addr) (n c : Nat) (l : List UInt8) (w : World) (h : RB w A n l) (hbig : n ≤ 140737488355328) :
    Calls Tryd.prog 11 #[.slice A n c] w (SpecOut l w) := by
  have HB := Lib.hid h
  clear h
  have hlen := Lib.hid HB.out.len
  go_enter Tryd.func11, Tryd.ntmps11
  go_wp2_with fail
  go_loopw [4, 5] (fun v i wr => ∃ (k j : Nat) (X : Option Addr) (d : Nat) (pre : List UInt8), 2 * k ≤ n ∧ v = .slice X k d ∧ i = .int .i64 (j : Int) ∧ Hid (j = 2 * k) ∧ Hid (OB wr (w.heap.size + 1) X k d pre) ∧ Hid (Hx.Mid l k pre) ∧ Hid (wr.rowIs w.heap.size 31 3 zeroF) ∧ Hid (Below w.heap.size w wr)) (fun _ i _ => n - (intOf i).toNat)
  case atStart =>
    refine ⟨0, 0, _, _, [], by omega, rfl, rfl, rfl, ?_, Hx.mid_zero l, (zeroF_row w).alloc _, ((Below.refl _ w).alloc (Nat.le_refl _) _).alloc (by simp) _⟩
    have := OB.made (w.alloc (.cells #[.bool false, .bool false, .int .u8 0] 31)) (w.heap.size + 1) (by simp) #[] (by simp)
    simpa [Hid] using this
  case round =>
    obtain ⟨k, j, X, d, pre, hk, rfl, rfl, hj, ho, hmid, hrow, hb⟩ := hrel
    have hjj : j ≤ n := by have := hj.out; omega
    by_cases hlt : j + 1 < n
    · obtain ⟨b, o, cx, rfl, hbs, hlx, hcx0⟩ := HB.out.at_ (k := j) (by omega)
      obtain ⟨b', o', cy, e', _, hly, hcy0⟩ := HB.out.at_ hlt
      obtain ⟨rfl, rfl⟩ : b' = b ∧ o' = o := by
        injection e' with e'
        injection e' with e1 e2
        exact ⟨e1.symm, e2.symm⟩
      have hcx : wr.cell? ⟨b', o' + j, none⟩ = some (.int .u8 (cx.toNat : Int)) := (hb.out.cell (p := ⟨b', o' + j, none⟩) hbs).trans hcx0
      have hcy : wr.cell? ⟨b', o' + (j + 1), none⟩ = some (.int .u8 (cy.toNat : Int)) := (hb.out.cell (p := ⟨b', o' + (j + 1), none⟩) hbs).trans hcy0
      have HP := Lib.hid (show l[2 * k]? = some cx by rw [← hj.out]; exact hlx)
      have HQ := Lib.hid (show l[2 * k + 1]? = some cy by rw [← hj.out]; exact hly)
      clear hlx hly hcx0 hcy0 e'
      by_cases hvx : Hx.v cx ≤ 15
      · by_cases hvy : Hx.v cy ≤ 15
        · obtain ⟨vx, hvx2⟩ : ∃ vx : Int, vx = (Hx.v cx : Int) := ⟨_, rfl⟩
          obtain ⟨vy, hvy2⟩ : ∃ vy : Int, vy = (Hx.v cy : Int) := ⟨_, rfl⟩
          have ex : valI cx = vx := by rw [valI_dig hvx, hvx2]
          have ey : valI cy = vy := by rw [valI_dig hvy, hvy2]
          have gx0 : 0 ≤ vx := by omega
          have gx1 : vx ≤ 15 := by omega
          have gy0 : 0 ≤ vy := by omega
          have gy1 : vy ≤ 15 := by omega
          have p1 : IntKind.i64.wrap (16 * vx) = 16 * vx := IntWalk.i64_in _ (by omega)
          have p2 : IntKind.i64.wrap (16 * vx + vy) = 16 * vx + vy := IntWalk.i64_in _ (by omega)
          have p3 : IntKind.u8.wrap (16 * vx + vy) = 16 * vx + vy := IntWalk.u8_in _ (by omega)
          have p4 : IntKind.i64.wrap ((j : Int) + 1) = (j : Int) + 1 := IntWalk.i64_in _ (by omega)
          have p5 : (0 : Int) ≤ (j : Int) + 1 := by omega
          have p6 : ((j : Int) + 1).toNat = j + 1 := by omega
          have p7 : (j : Int) < (n : Int) := by omega
          have p8 : (j : Int) + 1 < (n : Int) := by omega
          have HV := Lib.hid (show (UInt8.ofNat (Hx.v cx * 16 + Hx.v cy)).toNat = Hx.v cx * 16 + Hx.v cy by rw [UInt8.toNat_ofNat']; omega)
          have eN : ((UInt8.ofNat (Hx.v cx * 16 + Hx.v cy)).toNat : Int) = 16 * vx + vy := by rw [HV.out]; omega
          have HO1 := Lib.hid ((ho.out.drew).alloc (.cells #[.int .u8 (16 * vx + vy)] 5))
          have HR1 : Hid (RB (wr.drew.alloc (.cells #[.int .u8 (16 * vx + vy)] 5)) (some ⟨wr.heap.size, 0, none⟩) 1 [UInt8.ofNat (Hx.v cx * 16 + Hx.v cy)]) := by
            have := RB.one wr.drew (UInt8.ofNat (Hx.v cx * 16 + Hx.v cy))
            rw [eN] at this
            exact this
          have hkeep : Hid (∀ (W W' : World) (i : Nat) (u : Value), W.grownBy W' (X.map (·.block)) → W.cell? ⟨b', i, none⟩ = some u → W'.cell? ⟨b', i, none⟩ = some u) := fun W W' i u hg hc => hg.cell hc (fun e => by
            have h1 := ho.out.spot
            have h2 := ho.out.block
            cases X with
            | none => cases e
            | some y =>
              obtain ⟨yb, yo, ys⟩ := y
              have h3 := h1 _ rfl
              simp only at h3
              subst h3
              have h4 := (h2 yb yo rfl).1
              simp at e
              omega)
          have hsz : Hid (w.heap.size ≤ wr.heap.size) := hb.out.size
          have hsz1 : Hid (w.heap.size + 1 ≤ wr.heap.size) := hrow.out.lt
          have HXV := Lib.hid hvx2
          have HYV := Lib.hid hvy2
          clear hvx2 hvy2 eN
          go_wp2_with (go_at_call 19; refine (value_any _ _).mono ?_; rintro e w' ⟨rfl, rfl⟩)
          go_region_held3 (fun w' => w'.cell? ⟨b', o' + j, none⟩ = some (.int .u8 (cx.toNat : Int)) ∧ w'.cell? ⟨b', o' + (j + 1), none⟩ = some (.int .u8 (cy.toNat : Int)))
            (first
              | go_keep
              | (go_split_ands; exact ⟨hkeep.out _ _ _ _ hg1 (by assumption), hkeep.out _ _ _ _ hg1 (by assumption)⟩))
            (first
              | (refine step_appB (by rfl) (.tmp 30) (.tmp 45) (by rfl) (w.heap.size + 1) k d X pre (by rfl) (by exact HO1.out) (some ⟨wr.heap.size, 0, none⟩) 1 1 _ (by rfl) (by exact HR1.out) (by omega) (by simp; have := hsz1.out; omega) ?_; intro A2 c2 w1 hown1 hg1 hat1)
              | (go_simp; go_at_call 19; refine (value_any _ _).mono ?_; rintro e w' ⟨rfl, rfl⟩))
          have hbw1 : Hid (Below w.heap.size w w1) := HO1.out.grows (((hb.out.drew).alloc hb.out.size _)) hg1 (by omega) (by simp; have := hb.out.size; omega)
          have hrow1 : Hid (w1.rowIs w.heap.size 31 3 zeroF) := (hrow.out.drew.alloc (.cells #[.int .u8 (16 * vx + vy)] 5)).of_block (hg1.block w.heap.size (by simp; have := hsz1.out; omega) (fun e => by
            have h1 := ho.out.spot
            have h2 := ho.out.block
            cases X with
            | none => cases e
            | some y =>
              obtain ⟨yb, yo, ys⟩ := y
              have h3 := h1 _ rfl
              simp only at h3
              subst h3
              have h4 := (h2 yb yo rfl).1
              simp at e
              omega))
          have HO2 := Lib.hid hown1
          have hm1 := Lib.hid (Hx.mid_step hmid.out cx cy HP.out HQ.out (by omega) (by omega))
          clear hown1 hg1 hat1 HO1 HR1 p1 p2 p3 p4 p5 p6 p7 p8 ex ey
          go_wp2_with fail
          have hjj2 := hj.out
          exact ⟨⟨k + 1, j + 2, A2, c2, _, by omega, rfl, by go_num, by unfold Hid; omega, HO2.out, hm1.out, hrow1, hbw1⟩, by simp [intOf]; omega⟩
        · have e := Lib.hid (Hx.mid_bad2 hmid.out cx cy HP.out HQ.out (by omega) (by omega))
          have ex : valI cx = (Hx.v cx : Int) := valI_dig hvx
          have ey : valI cy = -1 := valI_not (by omega)
          have gx : 0 ≤ (Hx.v cx : Int) := by omega
          have r0 := hrow.out.cell (i := 0) (by omega)
          have r1 := hrow.out.cell (i := 1) (by omega)
          have r2 := hrow.out.cell (i := 2) (by omega)
          have rf := hrow.out.frozen
          simp only [zeroF] at r0 r1 r2
          simp at r0 r1 r2
          go_wp2_with (go_at_call 19; refine (value_any _ _).mono ?_; rintro e w' ⟨rfl, rfl⟩)
          go_loop [6] (fun v => ∃ t : Nat, t ≤ 1 ∧ v = .int .i64 ((j + t : Nat) : Int)) (fun v => j + 1 - (intOf v).toNat)
          case atStart => exact ⟨0, by omega, rfl⟩
          case round =>
            obtain ⟨t, ht, rfl⟩ := hrel
            match t, ht with
            | 0, _ =>
              rw [Nat.add_zero]
              go_wp2_with (go_at_call 19; refine (value_any _ _).mono ?_; rintro e w' ⟨rfl, rfl⟩)
              exact ⟨⟨1, by omega, by go_num⟩, by simp [intOf]⟩
            | 1, _ =>
              go_wp2_with (go_at_call 19; refine (value_any _ _).mono ?_; rintro e w' ⟨rfl, rfl⟩)
              go_region
              go_wp2_with fail
              exact bodyPost_ret (v := .tuple #[.slice X k d, .agg #[.bool true, .bool true, .int .u8 (cy.toNat : Int)]]) (by simp [results, Tryd.results11, go_sem, r0, r1, r2]) rfl (specOut_mk e.out ho.out hb.out true true _ rfl rfl rfl).drew
      · have e := Lib.hid (Hx.mid_bad1 hmid.out cx cy HP.out HQ.out (by omega))
        have ex : valI cx = -1 := valI_not (by omega)
        have r0 := hrow.out.cell (i := 0) (by omega)
        have r1 := hrow.out.cell (i := 1) (by omega)
        have r2 := hrow.out.cell (i := 2) (by omega)
        have rf := hrow.out.frozen
        simp only [zeroF] at r0 r1 r2
        simp at r0 r1 r2
        go_wp2_with (go_at_call 19; refine (value_any _ _).mono ?_; rintro e w' ⟨rfl, rfl⟩)
        go_loop [6] (fun v => v = .int .i64 (j : Int)) (fun _ => 0)
        case atStart => rfl
        case round =>
          obtain rfl := hrel
          go_wp2_with (go_at_call 19; refine (value_any _ _).mono ?_; rintro e w' ⟨rfl, rfl⟩)
          go_region
          go_wp2_with fail
          exact bodyPost_ret (v := .tuple #[.slice X k d, .agg #[.bool true, .bool true, .int .u8 (cx.toNat : Int)]]) (by simp [results, Tryd.results11, go_sem, r0, r1, r2]) rfl (specOut_mk e.out ho.out hb.out true true _ rfl rfl rfl).drew
    · have r0 := hrow.out.cell (i := 0) (by omega)
      have r1 := hrow.out.cell (i := 1) (by omega)
      have r2 := hrow.out.cell (i := 2) (by omega)
      have rf := hrow.out.frozen
      simp only [zeroF] at r0 r1 r2
      simp at r0 r1 r2
      by_cases hodd : j + 1 = n
      · obtain ⟨b, o, cx, rfl, hbs, hlx, hcx0⟩ := HB.out.at_ (k := j) (by omega)
        have hcx : wr.cell? ⟨b, o + j, none⟩ = some (.int .u8 (cx.toNat : Int)) := (hb.out.cell (p := ⟨b, o + j, none⟩) hbs).trans hcx0
        have HP := Lib.hid (show l[2 * k]? = some cx by rw [← hj.out]; exact hlx)
        have HL := Lib.hid (show l.length = 2 * k + 1 by rw [hlen.out, ← hodd, hj.out])
        have hjn : j < n := by omega
        clear hlx hcx0 hodd
        by_cases hvx : Hx.v cx ≤ 15
        · have e := Lib.hid (Hx.mid_last_odd hmid.out cx HP.out HL.out (by omega))
          have ex : valI cx = (Hx.v cx : Int) := valI_dig hvx
          have gx : 0 ≤ (Hx.v cx : Int) := by omega
          go_wp2_with (go_at_call 19; refine (value_any _ _).mono ?_; rintro e w' ⟨rfl, rfl⟩)
          go_loop [6] (fun v => ∃ t : Nat, t ≤ 1 ∧ v = .int .i64 ((j + t : Nat) : Int)) (fun v => j + 1 - (intOf v).toNat)
          case atStart => exact ⟨0, by omega, rfl⟩
          case round =>
            obtain ⟨t, ht, rfl⟩ := hrel
            match t, ht with
            | 0, _ =>
              rw [Nat.add_zero]
              go_wp2_with (go_at_call 19; refine (value_any _ _).mono ?_; rintro e w' ⟨rfl, rfl⟩)
              exact ⟨⟨1, by omega, by go_num⟩, by simp [intOf]⟩
            | 1, _ =>
              go_wp2_with (go_at_call 19; refine (value_any _ _).mono ?_; rintro e w' ⟨rfl, rfl⟩)
              exact bodyPost_ret (v := .tuple #[.slice X k d, .agg #[.bool true, .bool false, .int .u8 0]]) (by simp [results, Tryd.results11, go_sem, r0, r1, r2]) rfl (specOut_mk e.out ho.out hb.out true false _ rfl rfl rfl)
        · have e := Lib.hid (Hx.mid_last_bad hmid.out cx HP.out HL.out (by omega))
          have ex : valI cx = -1 := valI_not (by omega)
          go_wp2_with (go_at_call 19; refine (value_any _ _).mono ?_; rintro e w' ⟨rfl, rfl⟩)
          go_loop [6] (fun v => v = .int .i64 (j : Int)) (fun _ => 0)
          case atStart => rfl
          case round =>
            obtain rfl := hrel
            go_wp2_with (go_at_call 19; refine (value_any _ _).mono ?_; rintro e w' ⟨rfl, rfl⟩)
            go_region
            go_wp2_with fail
            exact bodyPost_ret (v := .tuple #[.slice X k d, .agg #[.bool true, .bool true, .int .u8 (cx.toNat : Int)]]) (by simp [results, Tryd.results11, go_sem, r0, r1, r2]) rfl (specOut_mk e.out ho.out hb.out true true _ rfl rfl rfl).drew
      · have e := Lib.hid (Hx.mid_end hmid.out (by rw [hlen.out, ← hj.out]; omega))
        have hjn : n ≤ j := by omega
        clear hodd
        go_wp2_with fail
        go_loop [6] (fun v => v = .int .i64 (j : Int)) (fun _ => 0)
        case atStart => rfl
        case round =>
          obtain rfl := hrel
          go_wp2_with fail
          exact bodyPost_ret (v := .tuple #[.slice X k d, .agg #[.bool false, .bool false, .int .u8 0]]) (by simp [results, Tryd.results11, go_sem, r0, r1, r2]) rfl (specOut_mk e.out ho.out hb.out false false _ rfl rfl rfl)

end Go.Proofs.YtgkpekdgdiphdaaDoor
