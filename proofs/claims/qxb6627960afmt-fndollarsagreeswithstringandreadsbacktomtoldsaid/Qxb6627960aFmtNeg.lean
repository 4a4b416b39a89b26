/-
  The walk of FnDollarsOfNegationAddsMinusAndLengthCountsWholeDollars (4) over the contracts.
-/
import Derived.Test.Qxb6627960aFmtWalks
namespace Go.Proofs.Qxb6627960aFmt
open Go.RowKit Go.Kit Go.Extern.Stop Go.Stop Go.Extern

/-- Dollars, at one amount, under one tape. -/
def DollarsIs (t : Nat → Question → Nat) (m : Int) (S : ByteArray) : Prop :=
  ∀ w : World, w.tape = t → Calls Tryf.prog 5 #[.int .i64 m] w fun e w' => e = .returned (.string S) ∧ ∃ (cs : Array Value) (t : TypeId), w' = (w.alloc (.cells cs t)).drew
def MagIs (m : Int) (n : Nat) : Prop := ∀ w : World, Calls Tryf.prog 9 #[.int .i64 m] w fun e w' => e = .returned (.int .u64 (n : Int)) ∧ w' = w
def LenIs (n : Int) (k : Nat) : Prop := ∀ w : World, Calls Tryf.prog 11 #[.int .u64 n] w fun e w' => e = .returned (.int .i64 (k : Int)) ∧ w' = w

set_option maxHeartbeats 400000 in
theorem neg_min (w : World) :
    Calls Tryf.prog 4 #[.int .i64 (-9223372036854775808)] w fun e w' => e = .returned (.bool true) ∧ Grown w w' := by
  go_enter Tryf.func4, Tryf.ntmps4
  go_wp2
  go_ret
  exact ⟨rfl, Grown.refl _⟩

theorem grown2 (w : World) (cs cs' : Array Value) (t t' : TypeId) : Grown w ((w.alloc (.cells cs t)).alloc (.cells cs' t')).drew.drew :=
  (((Grown.refl w).alloc cs t).alloc cs' t').drew.drew

set_option maxHeartbeats 400000 in
theorem neg_pos (m : Int) (n k : Nat) (A B : ByteArray) (w : World) (h0 : 0 < m) (h1 : m ≤ 9223372036854775807)
    (c1 : DollarsIs w.tape m A) (c2 : DollarsIs w.tape (-m) B) (c3 : MagIs m n) (hn : n < 18446744073709551616) (c4 : LenIs ((n : Int) / 1000000) k) (hk : k ≤ 20)
    (hA : ((A.size : Int) != 7 + (k : Int)) = false) (hs : 0 < A.size) (hs' : A.size ≤ 27) (h45 : ((A[0].toNat : Int) == 45) = false)
    (hB : (B.toList == ({ data := #[45] } ++ A : ByteArray).toList) = true) :
    Calls Tryf.prog 4 #[.int .i64 m] w fun e w' => e = .returned (.bool true) ∧ Grown w w' := by
  go_enter Tryf.func4, Tryf.ntmps4
  go_wp2_with fail
  refine (c1 _ (by exact rfl)).mono ?_
  rintro e w' ⟨rfl, cs, t, rfl⟩
  go_wp2_with fail
  refine (c2 _ (by exact rfl)).mono ?_
  rintro e w' ⟨rfl, cs', t', rfl⟩
  go_wp2_with fail
  refine (c3 _).mono ?_
  rintro e w' ⟨rfl, rfl⟩
  go_wp2_with fail
  refine (c4 _).mono ?_
  rintro e w' ⟨rfl, rfl⟩
  go_wp2
  go_ret
  exact ⟨rfl, grown2 w cs cs' t t'⟩

set_option maxHeartbeats 400000 in
theorem neg_neg (m : Int) (n k : Nat) (A B : ByteArray) (w : World) (h0 : m < 0) (h1 : -9223372036854775808 < m)
    (c1 : DollarsIs w.tape m A) (c2 : DollarsIs w.tape (-m) B) (c3 : MagIs m n) (hn : n < 18446744073709551616) (c4 : LenIs ((n : Int) / 1000000) k) (hk : k ≤ 20)
    (hA : ((B.size : Int) != 7 + (k : Int)) = false) (hs : 0 < B.size) (hs' : B.size ≤ 27) (h45 : ((B[0].toNat : Int) == 45) = false)
    (hB : (A.toList == ({ data := #[45] } ++ B : ByteArray).toList) = true) :
    Calls Tryf.prog 4 #[.int .i64 m] w fun e w' => e = .returned (.bool true) ∧ Grown w w' := by
  go_enter Tryf.func4, Tryf.ntmps4
  go_wp2_with fail
  refine (c1 _ (by exact rfl)).mono ?_
  rintro e w' ⟨rfl, cs, t, rfl⟩
  go_wp2_with fail
  refine (c2 _ (by exact rfl)).mono ?_
  rintro e w' ⟨rfl, cs', t', rfl⟩
  go_wp2_with fail
  refine (c3 _).mono ?_
  rintro e w' ⟨rfl, rfl⟩
  go_wp2_with fail
  refine (c4 _).mono ?_
  rintro e w' ⟨rfl, rfl⟩
  go_wp2
  go_ret
  exact ⟨rfl, grown2 w cs cs' t t'⟩

set_option maxHeartbeats 400000 in
theorem neg_zero (A : ByteArray) (w : World)
    (c1 : DollarsIs w.tape 0 A) (c3 : MagIs 0 0) (c4 : LenIs 0 1)
    (hA : ((A.size : Int) != 8) = false) (hs : 0 < A.size) (h45 : ((A[0].toNat : Int) == 45) = false) :
    Calls Tryf.prog 4 #[.int .i64 0] w fun e w' => e = .returned (.bool true) ∧ Grown w w' := by
  go_enter Tryf.func4, Tryf.ntmps4
  go_wp2_with fail
  refine (c1 _ (by exact rfl)).mono ?_
  rintro e w' ⟨rfl, cs, t, rfl⟩
  go_wp2_with fail
  refine (c1 _ (by exact rfl)).mono ?_
  rintro e w' ⟨rfl, cs', t', rfl⟩
  go_wp2_with fail
  refine (c3 _).mono ?_
  rintro e w' ⟨rfl, rfl⟩
  go_wp2_with fail
  refine (c4 _).mono ?_
  rintro e w' ⟨rfl, rfl⟩
  go_wp2
  go_ret
  exact ⟨rfl, grown2 w cs cs' t t'⟩
end Go.Proofs.Qxb6627960aFmt
