/-
  The texts of errors: (encoding/hex.InvalidByteError).Error, for every answer of fmt.Sprintf; (*errors.errorString).Error; impl.FaultText.
-/
import Derived.Test.YtejeoglpcbeaeaaFmtFmt
import Derived.Test.YtejeoglpcbeaeaaFmtDecode
import Derived.Stop.FmtTextKit
import Derived.Stop.Texts
import Derived.WalkSpells
namespace Go.Proofs.YtejeoglpcbeaeaaFmt
open Go.RowKit Go.Lib
open Go.Extern.Stop Go.Stop Go.Extern
set_option linter.unusedVariables false

/-- What fmt.Sprintf is asked: the format; the byte as a rune. -/
def readingU (c : Int) : List (List UInt8) :=
  [[101, 110, 99, 111, 100, 105, 110, 103, 47, 104, 101, 120, 58, 32, 105, 110, 118, 97, 108, 105, 100, 32, 98, 121, 116, 101, 58, 32, 37, 35, 85], Tryf.shapeInt32, digits 8 (c % 18446744073709551616).toNat]

/-- "encoding/hex: invalid byte: " and the byte as '%#U' writes it. -/
def innerText (c : Int) : List UInt8 :=
  [101, 110, 99, 111, 100, 105, 110, 103, 47, 104, 101, 120, 58, 32, 105, 110, 118, 97, 108, 105, 100, 32, 98, 121, 116, 101, 58, 32] ++ FmtText.fmtUnicode { sharp := true } c.toNat

theorem t_parse1 : (FmtText.parse [101, 110, 99, 111, 100, 105, 110, 103, 47, 104, 101, 120, 58, 32, 105, 110, 118, 97, 108, 105, 100, 32, 98, 121, 116, 101, 58, 32, 37, 35, 85]).map FmtText.glue = some [.lit [101, 110, 99, 111, 100, 105, 110, 103, 47, 104, 101, 120, 58, 32, 105, 110, 118, 97, 108, 105, 100, 32, 98, 121, 116, 101, 58, 32], .verb { sharp := true } 85] := by rfl

theorem inner_text (c : Int) (h0 : 0 ≤ c) (h1 : c ≤ 255) : FmtText.text "fmt.Sprintf" (readingU c) = some (innerText c) := by
  have hw : (Lit.int .i32 c).wf = true := by simp [Lit.wf, IntKind.min, IntKind.max, IntKind.signed, IntKind.bits]; omega
  have e : (c % 18446744073709551616).toNat = c.toNat := by omega
  rw [readingU, FmtText.text_sprintf_glued t_parse1 (FmtText.operands_cons (FmtText.operand_int_at (sh := Tryf.shapeInt32) (k := .i32) rfl rfl c hw) FmtText.operands_nil), e]
  simp [FmtText.render, FmtText.printArg, FmtText.scalarArg, FmtText.fits, innerText]

theorem unicode_short : ∀ u : Fin 256, (FmtText.fmtUnicode { sharp := true } u.val).length ≤ 16 := by decide +kernel

/-- The text that is told, as bytes. -/
theorem told_text (F : Interp) (c : Int) (c0 : 0 ≤ c) (c1 : c ≤ 255) : (FmtStop.textOf (F.told "fmt.Sprintf" (readingU c) 0)).data.toList = innerText c := by
  have hu : (FmtText.fmtUnicode { sharp := true } c.toNat).length ≤ 16 := unicode_short ⟨c.toNat, by omega⟩
  have hin := told_string F (inner_text c c0 c1) (by simp [innerText]; omega)
  rw [Go.Kit.textOf_list, hin]

set_option maxHeartbeats 800000 in
theorem errorByte (F : Interp) (c : Int) (w : World) (hF : F.answers w.tape) (h0 : 0 ≤ c) (h1 : c ≤ 255) :
    Calls Tryf.prog 31 #[.int .u8 c] w fun e w' => e = .returned (.string (FmtStop.textOf (F "fmt.Sprintf" (readingU c) 0))) ∧ Below w.heap.size w w' := by
  have hF' := answers_open hF
  go_enter Tryf.func31, Tryf.ntmps31
  go_wp2
  go_ret
  exact ⟨rfl, ((Below.refl _ w).alloc (Nat.le_refl _) _).drew⟩

set_option maxHeartbeats 800000 in
theorem errorLen (a : Addr) (s : ByteArray) (w : World) (hc : w.cell? a = some (.string s)) :
    Calls Tryf.prog 33 #[.pointer (some a)] w fun e w' => e = .returned (.string s) ∧ w = w' := by
  obtain ⟨b, o, p⟩ := a
  go_enter Tryf.func33, Tryf.ntmps33
  go_wp2
  go_ret
  exact ⟨rfl, rfl⟩

theorem methodLen (v : Value) (w : World) : (method 173 44 v "Error").run Tryf.prog w = .ok (33, v) w := by kernel_rfl
theorem methodByte (v : Value) (w : World) : (method 173 42 v "Error").run Tryf.prog w = .ok (31, v) w := by kernel_rfl

/-- The text of what is wrong. -/
def faultOf : Hx.Out → List UInt8
  | .ok => []
  | .bad c => innerText c.toNat
  | .odd => errText

set_option maxHeartbeats 2000000 in
theorem faultText (F : Interp) (s : ByteArray) (w : World) (a : Addr) (hE : ErrAt w a) (hF : F.told.answers w.tape) (hbig : s.size ≤ 562949953421312) :
    Calls Tryf.prog 6 #[.string s] w fun e w' => ∃ t, e = .returned (.string t) ∧ t.data.toList = faultOf (Hx.decode s.data.toList).2 ∧ Below w.heap.size w w' := by
  go_enter Tryf.func6, Tryf.ntmps6
  go_wp2_with fail
  refine (hexDecodeString s _ a hE hbig).mono ?_
  rintro e w1 ⟨c, rfl, hr, hc1, hc2, hb, hsz⟩
  have HE := hE.below hb
  have hT : F.told.answers w1.tape := hb.tape ▸ hF
  cases ho : (Hx.decode s.data.toList).2 with
  | ok =>
    simp only [errOf, Hx.errVal]
    go_wp2_with fail
    go_ret
    exact ⟨_, rfl, by rw [ho]; rfl, hb⟩
  | odd =>
    obtain ⟨t, ht, hl⟩ := HE.2
    have hm := methodLen
    simp only [errOf, Hx.errVal]
    go_wp2_with fail
    refine (errorLen a t _ ht).mono ?_
    rintro e w2 ⟨rfl, rfl⟩
    go_wp2_with fail
    go_ret
    exact ⟨_, rfl, by rw [ho]; exact hl, hb⟩
  | bad x =>
    have hm := methodByte
    have hx := x.toNat_lt
    simp only [errOf, Hx.errVal]
    go_wp2_with fail
    refine (errorByte F.told _ _ hT (by omega) (by omega)).mono ?_
    rintro e w2 ⟨rfl, hb2⟩
    go_wp2_with fail
    go_ret
    refine ⟨_, rfl, ?_, hb.trans (hb2.mono hb.size)⟩
    rw [ho]
    exact told_text F (x.toNat : Int) (by omega) (by omega)

end Go.Proofs.YtejeoglpcbeaeaaFmt
