/-
  The slices that came in, opened.
-/
import Derived.Test.Qxb6634845aContr
import Derived.ProofKit
import Derived.OpenShut
import Derived.ShutString
import Derived.ChangeOld
import Derived.Deep.SlicePairs
namespace Go.Proofs.Qxb6634845a
open Go.ChangeShapes Go.WideShapes Go.ChangeAt Go.RowKit
set_option linter.unusedVariables false

/-- A slice of structs whose k fields are all strings, opened at every element. -/
theorem open_strs {H : Type} {enc : TypeId × Value → H} {W : World} {t e k : Nat} {fs : Array Field} {a : Option Addr} {len cap : Nat} {d : DataW H} {ps : List MemPlace}
    (ht : Try.prog.underlying t = some (.slice e)) (he : Try.prog.underlying e = some (.struct fs)) (ce : Try.prog.cellsOf e = k) (h9 : Try.prog.cellsOf 9 = 1) (hk : 0 < k)
    (hof : ∀ j, j < k → ∃ f, fs[j]? = some f ∧ f.offset = j ∧ f.type = 9)
    (h : DataW.Trod enc Try.prog W 0 (fun _ => true) true t (.slice a len cap) d ps) :
    ∃ S : Nat → Nat → ByteArray, ∀ i, i < len → ∃ b off, a = some ⟨b, off, none⟩ ∧ ∀ j, j < k → W.cell? ⟨b, off + i * k + j, none⟩ = some (.string (S i j)) := by
  obtain ⟨fuel, hf⟩ := h
  rcases Go.Deep.open_slice ht hf with ⟨hcs, _⟩ | ⟨x, l, c, m, n, D, Pl, hcs, _, hl, hm, hmm, _, hx⟩
  · simp [Value.cells] at hcs
    obtain ⟨rfl, rfl, rfl⟩ := hcs
    exact ⟨fun _ _ => ⟨#[]⟩, fun i hi => absurd hi (by omega)⟩
  · simp [Value.cells] at hcs
    obtain ⟨rfl, rfl, rfl⟩ := hcs
    simp at hmm
    subst hmm
    have each : ∀ i, i < len → ∃ S : Nat → ByteArray, ∀ j, j < k → W.cell? ((x.add (i * k)).add j) = some (.string (S j)) := by
      intro i hi
      obtain ⟨cs', h1, h2⟩ := hx i (by omega)
      rw [ce] at h1
      obtain ⟨_, hlen, hcell⟩ := World.cells?_some h1
      obtain ⟨xs, n', _, _, _, _, hfl⟩ := DataW.trod_struct he h2
      have one : ∀ j, j < k → ∃ s : ByteArray, W.cell? ((x.add (i * k)).add j) = some (.string s) := by
        intro j hj
        obtain ⟨f, hf1, hf2, hf3⟩ := hof j hj
        have g := hfl j f hf1
        rw [hf2, hf3, h9] at g
        have hjl : j < cs'.length := by omega
        have e1 : (cs'.drop j).take 1 = [cs'[j]] := by
          rw [List.drop_eq_getElem_cons hjl]; rfl
        rw [e1] at g
        rcases hxj : xs[j]? with _ | y
        · exfalso
          rename_i hxl _
          have hjs : j < fs.size := (Array.getElem?_eq_some_iff.1 hf1).1
          rw [List.getElem?_eq_none_iff] at hxj
          omega
        · rw [hxj] at g
          obtain ⟨s, hs, _, _⟩ := DataW.trod_string Try.underlying9 g
          refine ⟨s, ?_⟩
          rw [hcell j hj, List.getElem?_eq_getElem hjl]
          simp at hs
          rw [hs]
      obtain ⟨S, hS⟩ := Go.Deep.choose_lt one
      exact ⟨S, hS⟩
    obtain ⟨S, hS⟩ := Go.Deep.choose_lt each
    refine ⟨S, fun i hi => ?_⟩
    obtain ⟨b, off, spot⟩ := x
    have hspot : spot = none := by
      have := hS 0 (by omega) 0 hk
      simpa [Addr.add] using World.cell?_spot this
    subst hspot
    refine ⟨b, off, rfl, fun j hj => ?_⟩
    have := hS i hi j hj
    rwa [Addr.add_mid, Addr.add_mid] at this

theorem open_rules {H : Type} {enc : TypeId × Value → H} {W : World} {a : Option Addr} {len cap : Nat} {d : DataW H} {ps : List MemPlace}
    (h : DataW.Trod enc Try.prog W 0 (fun _ => true) true 22 (.slice a len cap) d ps) : ∃ R V, Ru W a len R V := by
  obtain ⟨S, hS⟩ := open_strs (k := 2) Try.underlying22 Try.underlying48 (by kernel_rfl) (by kernel_rfl) (by omega) (fun j hj => by
    match j, hj with
    | 0, _ => exact ⟨_, rfl, rfl, rfl⟩
    | 1, _ => exact ⟨_, rfl, rfl, rfl⟩) h
  refine ⟨fun i => S i 0, fun i => S i 1, fun i hi => ?_⟩
  obtain ⟨b, off, e, hc⟩ := hS i hi
  exact ⟨b, off, e, hc 0 (by omega), hc 1 (by omega)⟩

theorem open_crds {H : Type} {enc : TypeId × Value → H} {W : World} {a : Option Addr} {len cap : Nat} {d : DataW H} {ps : List MemPlace}
    (h : DataW.Trod enc Try.prog W 0 (fun _ => true) true 23 (.slice a len cap) d ps) : ∃ C K L, Kr W a len C K L := by
  obtain ⟨S, hS⟩ := open_strs (k := 3) Try.underlying23 Try.underlying50 (by kernel_rfl) (by kernel_rfl) (by omega) (fun j hj => by
    match j, hj with
    | 0, _ => exact ⟨_, rfl, rfl, rfl⟩
    | 1, _ => exact ⟨_, rfl, rfl, rfl⟩
    | 2, _ => exact ⟨_, rfl, rfl, rfl⟩) h
  refine ⟨fun i => S i 0, fun i => S i 1, fun i => S i 2, fun i hi => ?_⟩
  obtain ⟨b, off, e, hc⟩ := hS i hi
  exact ⟨b, off, e, hc 0 (by omega), hc 1 (by omega), hc 2 (by omega)⟩

theorem open_finds {H : Type} {enc : TypeId × Value → H} {W : World} {a : Option Addr} {len cap : Nat} {d : DataW H} {ps : List MemPlace}
    (h : DataW.Trod enc Try.prog W 0 (fun _ => true) true 24 (.slice a len cap) d ps) : ∃ F, Fs W a len F := by
  obtain ⟨S, hS⟩ := open_strs (k := 6) Try.underlying24 Try.underlying36 (by kernel_rfl) (by kernel_rfl) (by omega) (fun j hj => by
    match j, hj with
    | 0, _ => exact ⟨_, rfl, rfl, rfl⟩
    | 1, _ => exact ⟨_, rfl, rfl, rfl⟩
    | 2, _ => exact ⟨_, rfl, rfl, rfl⟩
    | 3, _ => exact ⟨_, rfl, rfl, rfl⟩
    | 4, _ => exact ⟨_, rfl, rfl, rfl⟩
    | 5, _ => exact ⟨_, rfl, rfl, rfl⟩) h
  refine ⟨fun i => ⟨S i 0, S i 1, S i 2, S i 3, S i 4, S i 5⟩, fun i hi => ?_⟩
  obtain ⟨b, off, e, hc⟩ := hS i hi
  exact ⟨b, off, e, hc 0 (by omega), hc 1 (by omega), hc 2 (by omega), hc 3 (by omega), hc 4 (by omega), hc 5 (by omega)⟩
end Go.Proofs.Qxb6634845a
