/-
  zzModelVerdict (10), zzModelSetting (11), zzAsFinding (12).
-/
import Derived.Test.Qxb6634845aConf
import Derived.Deep.AppendLies
import Derived.Laws.StructEq
namespace Go.Proofs.Qxb6634845a
open Go.RowKit Go.MapKept
set_option linter.unusedVariables false

def sOff : ByteArray := ⟨#[111, 102, 102]⟩
def sBreaking : ByteArray := ⟨#[98, 114, 101, 97, 107, 105, 110, 103]⟩
def sPermitted : ByteArray := ⟨#[112, 101, 114, 109, 105, 116, 116, 101, 100]⟩
def tBreaking : ByteArray := ⟨#[66, 82, 69, 65, 75, 73, 78, 71]⟩
def tPermitted : ByteArray := ⟨#[80, 69, 82, 77, 73, 84, 84, 69, 68]⟩

/-- The verdict under a setting. -/
def verd (s v : ByteArray) : ByteArray := if s = sBreaking then tBreaking else if s = sPermitted then tPermitted else v

theorem bytes_ne {a b : ByteArray} (h : ¬ a = b) : (a.toList == b.toList) = false := by
  rw [← beq_toListBytes]
  cases e : a == b
  · rfl
  · exact absurd ((bytes_beq a b).1 e) h

theorem verdict10 (s v : ByteArray) (w : World) :
    Calls Try.prog 10 #[.string s, .string v] w fun e w' => e = .returned (if s = sOff then .tuple #[.bool false, .string ⟨#[]⟩] else .tuple #[.bool true, .string (verd s v)]) ∧ w' = w := by
  by_cases h1 : s = ⟨#[111, 102, 102]⟩
  · subst h1
    go_enter Try.func10, Try.ntmps10
    go_wp2
    go_ret2
    exact ⟨rfl, rfl⟩
  by_cases h2 : s = ⟨#[98, 114, 101, 97, 107, 105, 110, 103]⟩
  · subst h2
    go_enter Try.func10, Try.ntmps10
    go_wp2
    go_ret2
    exact ⟨rfl, rfl⟩
  by_cases h3 : s = ⟨#[112, 101, 114, 109, 105, 116, 116, 101, 100]⟩
  · subst h3
    go_enter Try.func10, Try.ntmps10
    go_wp2
    go_ret2
    exact ⟨rfl, rfl⟩
  · have e : (if s = sOff then Value.tuple #[.bool false, .string ⟨#[]⟩] else .tuple #[.bool true, .string (verd s v)]) = .tuple #[.bool true, .string v] := by
      unfold verd
      rw [if_neg (show ¬ s = sOff from h1), if_neg (show ¬ s = sBreaking from h2), if_neg (show ¬ s = sPermitted from h3)]
    rw [e]
    have g1 : (s.toList == [111, 102, 102]) = false := by
      rw [← show ByteArray.toList ⟨#[111, 102, 102]⟩ = [111, 102, 102] by kernel_rfl]
      exact bytes_ne h1
    have g2 : (s.toList == [98, 114, 101, 97, 107, 105, 110, 103]) = false := by
      rw [← show ByteArray.toList ⟨#[98, 114, 101, 97, 107, 105, 110, 103]⟩ = [98, 114, 101, 97, 107, 105, 110, 103] by kernel_rfl]
      exact bytes_ne h2
    have g3 : (s.toList == [112, 101, 114, 109, 105, 116, 116, 101, 100]) = false := by
      rw [← show ByteArray.toList ⟨#[112, 101, 114, 109, 105, 116, 116, 101, 100]⟩ = [112, 101, 114, 109, 105, 116, 116, 101, 100] by kernel_rfl]
      exact bytes_ne h3
    go_enter Try.func10, Try.ntmps10
    go_wp2
    go_ret2
    exact ⟨rfl, rfl⟩

/-- The setting that a finding gets. -/
def setOf (rs : ByteArray → Option ByteArray) (cs : ByteArray → ByteArray → Option ByteArray) (c k : ByteArray) : ByteArray := ((cs c k).or (rs k)).getD ⟨#[]⟩

set_option maxHeartbeats 2000000 in
theorem setting11 (a b' : Option Addr) (n nk cap cap2 : Nat) (R V C K L : Nat → ByteArray) (c k : ByteArray) (w : World) (hr : Ru w a n R V) (hk : Kr w b' nk C K L) (hn : n ≤ 4096) (hnk : nk ≤ 4096) :
    Calls Try.prog 11 #[.slice a n cap, .slice b' nk cap2, .string c, .string k] w fun e w' => e = .returned (.string (setOf (lastR R V n) (lastK C K L nk) c k)) ∧ w' = w := by
  go_enter Try.func11, Try.ntmps11
  go_wp2_with fail
  go_loop [9] (fun i => ∃ t : Nat, i = .int .i64 ((t : Int) - 1) ∧ t ≤ nk ∧ Hid (lastK C K L nk c k = lastK C K L t c k)) (fun i => (intOf i + 1).toNat)
  case atStart => exact ⟨nk, by go_num, by omega, rfl⟩
  case round =>
    obtain ⟨t, rfl, ht, HK⟩ := hrel
    cases t with
    | zero =>
      clear hk
      go_wp2_with fail
      go_loop [10] (fun i => ∃ t : Nat, i = .int .i64 ((t : Int) - 1) ∧ t ≤ n ∧ Hid (lastR R V n k = lastR R V t k)) (fun i => (intOf i + 1).toNat)
      case atStart => exact ⟨n, by go_num, by omega, rfl⟩
      case round =>
        obtain ⟨t, rfl, ht, HR⟩ := hrel
        cases t with
        | zero =>
          clear hr
          go_wp2
          go_ret
          refine ⟨?_, rfl⟩
          unfold setOf
          rw [HK.out, HR.out]
          rfl
        | succ t =>
          obtain ⟨b, off, rfl, hc0, hc1⟩ := hr t (by omega)
          clear hr
          have e1 : ((t + 1 : Nat) : Int) - 1 = (t : Int) := by omega
          rw [e1]
          by_cases h1 : R t = k
          · go_wp2
            go_ret
            refine ⟨?_, rfl⟩
            unfold setOf
            rw [HK.out, HR.out, lastR, if_pos h1.symm]
            rfl
          · have g1 := bytes_ne h1
            go_wp2
            go_round
            case rel => exact ⟨t, by go_num, by omega, HR.out.trans (by rw [lastR, if_neg (fun e => h1 e.symm)])⟩
            case measure => simp [intOf]
    | succ t =>
      obtain ⟨b, off, rfl, hc0, hc1, hc2⟩ := hk t (by omega)
      clear hr hk
      have e1 : ((t + 1 : Nat) : Int) - 1 = (t : Int) := by omega
      rw [e1]
      by_cases h1 : C t = c
      · by_cases h2 : K t = k
        · go_wp2
          go_ret
          refine ⟨?_, rfl⟩
          unfold setOf
          rw [HK.out, lastK, if_pos ⟨h1.symm, h2.symm⟩]
          rfl
        · have g1 := bytes_ne h2
          go_wp2
          go_round
          case rel => exact ⟨t, by go_num, by omega, HK.out.trans (by rw [lastK, if_neg (fun e => h2 e.2.symm)])⟩
          case measure => simp [intOf]
      · have g1 := bytes_ne h1
        go_wp2
        go_round
        case rel => exact ⟨t, by go_num, by omega, HK.out.trans (by rw [lastK, if_neg (fun e => h1 e.1.symm)])⟩
        case measure => simp [intOf]

/-- A finding's cells. -/
def fdCells (f : Fd) : Array Value := #[.string f.verdict, .string f.rule, .string f.crd, .string f.version, .string f.path, .string f.detail]

theorem as12 (f : Fd) (v : ByteArray) (w : World) :
    Calls Try.prog 12 #[.agg #[.string f.verdict, .string f.rule, .string f.crd, .string f.version, .string f.path, .string f.detail], .string v] w fun e w' => e = .returned (.agg #[.string v, .string f.rule, .string f.crd, .string f.version, .string f.path, .string f.detail]) ∧
      w' = (w.alloc (.cells #[.string f.verdict, .string f.rule, .string f.crd, .string f.version, .string f.path, .string f.detail] 36)).alloc (.cells #[.string v, .string f.rule, .string f.crd, .string f.version, .string f.path, .string f.detail] 44) := by
  go_enter Try.func12, Try.ntmps12
  go_wp2
  refine bodyPost_ret (v := .agg #[.string v, .string f.rule, .string f.crd, .string f.version, .string f.path, .string f.detail]) (by simp [results, Try.results12, go_sem]) rfl ⟨rfl, rfl⟩
end Go.Proofs.Qxb6634845a
