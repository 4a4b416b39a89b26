/-
  The contracts as the laws take them; a slice of classes that came in, opened.
-/
import Derived.Test.Qxb6627990aSplit
import Derived.ProofKit
import Derived.OpenShut
import Derived.ShutString
import Derived.ChangeOld
import Derived.Below
import Derived.Deep.SlicePairs
namespace Go.Proofs.Qxb6627990a
open Go.ChangeShapes Go.WideShapes Go.ChangeAt Go.RowKit
open Go.ChangeMaps (open_string shut_string)
set_option linter.unusedVariables false

theorem Cl.later {W w : World} {a : Option Addr} {n : Nat} {C V : Nat → ByteArray} (h : Cl W a n C V) (hb : Below W.heap.size W w) : Cl w a n C V := by
  intro i hi
  obtain ⟨b, off, e, h0, h1⟩ := h i hi
  refine ⟨b, off, e, ?_, ?_⟩
  · rw [hb.cell (World.block_lt_of_cell? W _ h0)]; exact h0
  · rw [hb.cell (World.block_lt_of_cell? W _ h1)]; exact h1

theorem Cl.take {w : World} {a : Option Addr} {n k : Nat} {C V : Nat → ByteArray} (h : Cl w a n C V) (hk : k ≤ n) : Cl w a k C V :=
  fun i hi => h i (by omega)

theorem Cl.drop {w : World} {a : Option Addr} {n k : Nat} {C V : Nat → ByteArray} (h : Cl w a n C V) : Cl w (Option.map (fun x => x.add (k * 2)) a) (n - k) (fun i => C (k + i)) (fun i => V (k + i)) := by
  intro i hi
  obtain ⟨b, off, rfl, h0, h1⟩ := h (k + i) (by omega)
  refine ⟨b, off + k * 2, ?_, ?_, ?_⟩
  · show some (Addr.add _ _) = _
    rw [Addr.add_mid]
  · rw [show off + k * 2 + i * 2 = off + (k + i) * 2 by omega]; exact h0
  · rw [show off + k * 2 + i * 2 = off + (k + i) * 2 by omega]; exact h1

theorem Cl.zero {w : World} {a : Option Addr} {C V : Nat → ByteArray} : Cl w a 0 C V := fun i hi => absurd hi (by omega)

theorem buildIs {W : World} (fund tier : ByteArray) (sh : Bool) (a : Option Addr) (n cap : Nat) (C V : Nat → ByteArray) (h : Cl W a n C V) (hn : n ≤ 65537) :
    BuildIs W #[.string fund, .bool sh, .string tier, .slice a n cap] fund tier sh n C V := by
  intro w hb
  have hc := h.later hb
  have key : Calls Try.prog 7 #[.string fund, .bool sh, .string tier, .slice a n cap] w fun e w' => ∃ sp g, e = .returned (.agg (resCells fund sp g n)) ∧ Below w.heap.size w w' ∧ Built w' w.heap.size sh tier n C V sp g := by
    cases sh
    · exact build_no fund tier a n cap C V w hc hn
    · exact build_yes fund tier a n cap C V w hc hn
  refine key.mono ?_
  rintro e w' ⟨sp, g, he, hb2, B⟩
  exact ⟨sp, g, he, hb.trans (hb2.mono hb.size), ⟨Nat.zero_le _, B.lies, B.rows, B.shadow⟩⟩

theorem actionIs {W : World} (fund tier : ByteArray) (sh : Bool) (n : Nat) (C V : Nat → ByteArray) (hn : n ≤ 65537) : ActionIs W fund tier sh n C V := by
  intro w sp g hb B
  refine (action_any fund tier sh n g 0 sp C V w hn B).mono ?_
  rintro e w' ⟨he, hb2⟩
  exact ⟨he, hb.trans (hb2.mono hb.size)⟩

/-- A slice of classes that came in, opened. -/
theorem open_classes {H : Type} {enc : TypeId × Value → H} {W : World} {a : Option Addr} {len cap : Nat} {d : DataW H} {ps : List MemPlace}
    (h : DataW.Trod enc Try.prog W 0 (fun _ => true) true 22 (.slice a len cap) d ps) : ∃ C V, Cl W a len C V ∧ len ≤ cap := by
  obtain ⟨fuel, hf⟩ := h
  rcases Go.Deep.open_slice_pairs Try.underlying22 Try.underlying26 (by kernel_rfl) rfl rfl (by kernel_rfl) (by kernel_rfl) hf with ⟨hcs, _⟩ | ⟨x, l, c, m, n, V0, V1, D0, D1, P0, P1, hcs, _, hl, hm, hmm, _, hx⟩
  · simp [Value.cells] at hcs
    obtain ⟨rfl, rfl, rfl⟩ := hcs
    exact ⟨fun _ => ⟨#[]⟩, fun _ => ⟨#[]⟩, Cl.zero, Nat.le_refl _⟩
  · simp [Value.cells] at hcs
    obtain ⟨rfl, rfl, rfl⟩ := hcs
    simp at hmm
    subst hmm
    have each : ∀ i, i < len → ∃ q : ByteArray × ByteArray, V0 i = .string q.1 ∧ V1 i = .string q.2 := by
      intro i hi
      obtain ⟨_, _, g0, g1⟩ := hx i (by omega)
      obtain ⟨s0, e0, _, _⟩ := DataW.trod_string Try.underlying9 g0
      obtain ⟨s1, e1, _, _⟩ := DataW.trod_string Try.underlying9 g1
      exact ⟨(s0, s1), by simpa using e0, by simpa using e1⟩
    obtain ⟨q, hq⟩ := Go.Deep.choose_lt each
    refine ⟨fun i => (q i).1, fun i => (q i).2, ?_, hl⟩
    intro i hi
    obtain ⟨c0, c1, _, _⟩ := hx i (by omega)
    obtain ⟨b, off, spot⟩ := x
    have hspot : spot = none := by
      obtain ⟨c0', _, _, _⟩ := hx 0 (by omega)
      simpa [Addr.add] using World.cell?_spot c0'
    subst hspot
    rw [Addr.add_mid] at c0 c1
    exact ⟨b, off, rfl, by rw [c0, (hq i hi).1], by rw [show off + i * 2 + 1 = off + (i * 2 + 1) by omega, c1, (hq i hi).2]⟩
end Go.Proofs.Qxb6627990a
