/-
  The walks of Micro.String (6) and of FnDollarsAgreesWithStringAndReadsBackToM (3) over the contracts.
-/
import Derived.Test.Qxb6627960aFmtNeg
import Derived.Test.Qxb6627960aFmtShelf
import Derived.Lib.AppendIntMem
namespace Go.Proofs.Qxb6627960aFmt
open Go.RowKit Go.Kit Go.Extern.Stop Go.Stop Go.Extern

set_option maxHeartbeats 400000 in
theorem string_any (m : Int) (w : World) (h0 : -9223372036854775808 ≤ m) (h1 : m ≤ 9223372036854775807) (htab : Lib.TabIs Tryf.prog w "internal/strconv.uint64pow10" .u64 Lib.pow10Tab) :
    Calls Tryf.prog 6 #[.int .i64 m] w fun e w' => e = .returned (.string ⟨(Lib.itoa m).toArray⟩) ∧ Below w.heap.size w w' := by
  go_enter Tryf.func6, Tryf.ntmps6
  go_wp2_with (go_at_call 13; refine (Tryf.strconv_FormatInt_10 m h0 h1 _ htab).mono ?_; rintro e w' ⟨rfl, k, os, rfl⟩)
  go_ret
  exact ⟨rfl, Lib.below_grow _ _ (Nat.le_refl _) _ _⟩

def StrIs (w : World) (m : Int) (T : ByteArray) : Prop :=
  ∀ (cs : Array Value) (t : TypeId), Calls Tryf.prog 6 #[.int .i64 m] (w.alloc (.cells cs t)).drew fun e w' => e = .returned (.string T) ∧ Below w.heap.size w w'
def ParseIs (S : ByteArray) (ng : Bool) (I Fr : ByteArray) : Prop :=
  ∀ w : World, Calls Tryf.prog 7 #[.string S] w fun e w' => e = .returned (.tuple #[.bool ng, .string I, .string Fr, .bool true]) ∧ w' = w
def ValIs (I Fr : ByteArray) (n : Nat) : Prop :=
  ∀ w : World, Calls Tryf.prog 8 #[.string I, .string Fr] w fun e w' => e = .returned (.int .u64 (n : Int)) ∧ w' = w
def JoinIs (ng : Bool) (I Fr O : ByteArray) : Prop :=
  ∀ w : World, Calls Tryf.prog 10 #[.bool ng, .string I, .string Fr] w fun e w' => e = .returned (.string O) ∧ w' = w

set_option maxHeartbeats 1000000 in
theorem agree_pos (m : Int) (n : Nat) (S T I Fr O : ByteArray) (w : World) (h0 : ¬ m < 0)
    (c5 : DollarsIs w.tape m S) (c6 : StrIs w m T) (c7 : ParseIs S false I Fr) (c8 : ValIs I Fr n) (c9 : MagIs m n) (c10 : JoinIs false I Fr O)
    (hT : (O.toList == T.toList) = true) :
    Calls Tryf.prog 3 #[.int .i64 m] w fun e w' => e = .returned (.bool true) ∧ Below w.heap.size w w' := by
  go_enter Tryf.func3, Tryf.ntmps3
  go_wp2_with fail
  refine (c5 _ (by exact rfl)).mono ?_
  rintro e w' ⟨rfl, cs, t, rfl⟩
  go_wp2_with fail
  refine (c6 cs t).mono ?_
  rintro e w2 ⟨rfl, hb⟩
  go_wp2_with fail
  refine (c7 _).mono ?_
  rintro e w' ⟨rfl, rfl⟩
  go_wp2_with fail
  refine (c8 _).mono ?_
  rintro e w' ⟨rfl, rfl⟩
  go_wp2_with fail
  refine (c9 _).mono ?_
  rintro e w' ⟨rfl, rfl⟩
  go_wp2_with fail
  refine (c10 _).mono ?_
  rintro e w' ⟨rfl, rfl⟩
  go_wp2
  go_ret
  exact ⟨rfl, hb⟩

set_option maxHeartbeats 1000000 in
theorem agree_neg (m : Int) (n : Nat) (S T I Fr O : ByteArray) (w : World) (h0 : m < 0)
    (c5 : DollarsIs w.tape m S) (c6 : StrIs w m T) (c7 : ParseIs S true I Fr) (c8 : ValIs I Fr n) (c9 : MagIs m n) (c10 : JoinIs true I Fr O)
    (hT : (O.toList == T.toList) = true) :
    Calls Tryf.prog 3 #[.int .i64 m] w fun e w' => e = .returned (.bool true) ∧ Below w.heap.size w w' := by
  go_enter Tryf.func3, Tryf.ntmps3
  go_wp2_with fail
  refine (c5 _ (by exact rfl)).mono ?_
  rintro e w' ⟨rfl, cs, t, rfl⟩
  go_wp2_with fail
  refine (c6 cs t).mono ?_
  rintro e w2 ⟨rfl, hb⟩
  go_wp2_with fail
  refine (c7 _).mono ?_
  rintro e w' ⟨rfl, rfl⟩
  go_wp2_with fail
  refine (c8 _).mono ?_
  rintro e w' ⟨rfl, rfl⟩
  go_wp2_with fail
  refine (c9 _).mono ?_
  rintro e w' ⟨rfl, rfl⟩
  go_wp2_with fail
  refine (c10 _).mono ?_
  rintro e w' ⟨rfl, rfl⟩
  go_wp2
  go_ret
  exact ⟨rfl, hb⟩

end Go.Proofs.Qxb6627960aFmt
