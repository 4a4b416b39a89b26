/-
  The closed facts for a walk over fmt.Sprintf (function 12) in this dump, and the text of money.Micro.Dollars.
-/
import Derived.Test.Qxb6627960aFmtRows
import Derived.Stop.CallBack
import Derived.Stop.IfaceNil
import Derived.Stop.FmtTextWidths
import Derived.Stop.FmtTextKit
import Derived.Stop.Texts
import Derived.Stop.JoinedTold
namespace Go.Proofs.Qxb6627960aFmt
open Go.RowKit Go.Kit Go.Extern.Stop Go.Stop Go.Extern

theorem call12 (args : Array Value) (w : World) : (callFunc 12 args).run Tryf.prog w = ((FmtStop.sprintf #[9, 66] #[9] args).run Tryf.prog w).andThen fun v w' => .ok (.value v) w' :=
  run_callFunc_extern Tryf.func12 (by kernel_rfl) (by kernel_rfl) (by kernel_rfl) (by kernel_rfl) args w
theorem guardF (name : String) (w : World) : (FmtStop.guard name).run Tryf.prog w = .ok () w := by kernel_rfl
theorem fmt0 : FmtStop.printed? ⟨#[37, 115, 37, 100, 46, 37, 48, 54, 100]⟩ 3 = some [(0, 115, false), (1, 100, false), (2, 100, false)] := by kernel_rfl
theorem fmt0r (w : World) : (FmtDoors.printed ⟨#[37, 115, 37, 100, 46, 37, 48, 54, 100]⟩ 3).run Tryf.prog w = .ok [(0, 115, false), (1, 100, false), (2, 100, false)] w := by kernel_rfl
def shape26 : List UInt8 := [9, 6, 0, 0, 0, 0, 0, 0, 0, 117, 105, 110, 116, 54, 52]
def shape9 : List UInt8 := [12, 6, 0, 0, 0, 0, 0, 0, 0, 115, 116, 114, 105, 110, 103]
theorem op26_100 (name : String) (x : Int) (w : World) : (FmtStop.operand name false 100 false (.iface 26 (.int .u64 x))).run Tryf.prog w = .ok (shape26, Go.Extern.Stop.digits 8 (x % 2 ^ 64).toNat) w := by kernel_rfl
theorem op9_115 (name : String) (x : ByteArray) (w : World) : (FmtStop.operand name false 115 false (.iface 9 (.string x))).run Tryf.prog w = .ok (shape9, FmtStop.pack x.data.toList) w := by kernel_rfl

/-- WHAT fmt IS ASKED by Dollars: the sign's text, the whole dollars, the micro-dollars. -/
def reading (sg : List UInt8) (a b : Int) : List (List UInt8) :=
  [[37, 115, 37, 100, 46, 37, 48, 54, 100], shape9, FmtStop.pack sg, shape26, digits 8 (a % 18446744073709551616).toNat, shape26, digits 8 (b % 18446744073709551616).toNat]

/-- The text: the sign, the dollars, a point, six digits. -/
def dText (sg : List UInt8) (a b : Int) : List UInt8 := sg ++ Lib.itoa a ++ [46] ++ FmtText.zeros 6 b

theorem t_parse : (FmtText.parse [37, 115, 37, 100, 46, 37, 48, 54, 100]).map FmtText.glue = some [.verb {} 115, .verb {} 100, .lit [46], .verb { widPresent := true, wid := 6, zero := true } 100] := by rfl

theorem t_text (sg : List UInt8) (a b : Int) (hs : sg.length < 2 ^ 64) (ha : (Lit.int .u64 a).wf = true) (hb : (Lit.int .u64 b).wf = true) : FmtText.text "fmt.Sprintf" (reading sg a b) = some (dText sg a b) := by
  have h1 := FmtText.operand_str_at (sh := shape9) rfl rfl sg hs
  have h2 := FmtText.operand_int_at (sh := shape26) (k := .u64) rfl rfl a ha
  have h3 := FmtText.operand_int_at (sh := shape26) (k := .u64) rfl rfl b hb
  rw [reading, FmtText.text_sprintf_glued t_parse (FmtText.operands_cons h1 (FmtText.operands_cons h2 (FmtText.operands_cons h3 FmtText.operands_nil)))]
  simp [FmtText.render, FmtText.printArg_s_str, FmtText.printArg_d _ _ ha, FmtText.printArg_d_zero _ 6 _ hb, dText]

theorem told_text (F : Interp) (sg : List UInt8) (a b : Int) (hs : sg.length ≤ 1) (ha : (Lit.int .u64 a).wf = true) (hb : (Lit.int .u64 b).wf = true) :
    FmtStop.textOf (F.told "fmt.Sprintf" (reading sg a b) 0) = ⟨(dText sg a b).toArray⟩ := by
  have hl : (dText sg a b).length < 2 ^ 63 := by
    have l1 := FmtText.itoa_length_le ha
    have l2 := FmtText.zeros_length_le' 6 hb
    simp [dText]
    omega
  have ht := told_string F (t_text sg a b (by omega) ha hb) hl
  rw [← textOf_list] at ht
  rw [← ht]
end Go.Proofs.Qxb6627960aFmt
