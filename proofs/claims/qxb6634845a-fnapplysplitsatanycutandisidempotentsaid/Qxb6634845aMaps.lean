/-
  Maps from strings that the call made: what they hold, as a function; lookup, update, make.
-/
import Derived.Test.Qxb6634845aBounds
import Derived.MapKept
import Derived.Carry
namespace Go.Proofs.Qxb6634845a
open Go.RowKit Go.MapKept
set_option linter.unusedVariables false

/-- Block r of the world is a map from strings that holds just f. -/
def MapIs (w : World) (r : Nat) (f : ByteArray → Option Value) : Prop :=
  ∃ es clock, w.heap[r]? = some (.map es clock) ∧ Stamped es clock ∧ (∀ x ∈ es.toList, IsKey .string x.key) ∧ ∀ k v, f k = some v ↔ ∃ e ∈ es.toList, e.key = .string k ∧ e.val = v

theorem MapIs.lt {w : World} {r : Nat} {f : ByteArray → Option Value} (h : MapIs w r f) : r < w.heap.size := by
  obtain ⟨es, clock, hb, _⟩ := h
  exact (Array.getElem?_eq_some_iff.1 hb).1

theorem MapIs.of_block {w w' : World} {r : Nat} {f : ByteArray → Option Value} (h : MapIs w r f) (hb : w'.heap[r]? = w.heap[r]?) : MapIs w' r f := by
  obtain ⟨es, clock, h1, h2⟩ := h
  exact ⟨es, clock, hb.trans h1, h2⟩

theorem MapIs.later {w w' : World} {r B : Nat} {f : ByteArray → Option Value} (h : MapIs w r f) (hb : Below B w w') (hB : r < B) : MapIs w' r f :=
  h.of_block (hb.block r hB)

theorem MapIs.made (w : World) : MapIs (w.alloc (.map #[] 0)) w.heap.size (fun _ => none) :=
  ⟨#[], 0, (heap_alloc w _).1, stamped_empty 0, by simp, by simp⟩

theorem isKey_string (k : ByteArray) : IsKey .string (.string k) := trivial

/-- What a lookup answers. -/
def looked (c : Bool) (z : Value) (o : Option Value) : Value :=
  match c, o with
  | true, some v => .tuple #[v, .bool true]
  | true, none => .tuple #[z, .bool false]
  | false, some v => v
  | false, none => z

theorem MapIs.lookup {P : Program} {t kt et : TypeId} {w : World} {r : Nat} {f : ByteArray → Option Value} {z : Value} (h : MapIs w r f) (hm : P.underlying t = some (.map kt et)) (hd : P.underlying kt = some .string)
    (hz : (zeroValue et).run P w = .ok z w) (k : ByteArray) (c : Bool) : (Instr.lookup t (.map (some r)) (.string k) c).run P w = .ok (looked c z (f k)) w := by
  obtain ⟨es, clock, hb, hs, hks, hf⟩ := h
  have hk := isKey_string k
  rcases findNow_spec hk es.toList 0 hks with ⟨h1, h2⟩ | ⟨j, e, h1, h2, h3⟩
  · have : f k = none := by
      cases hh : f k with
      | none => rfl
      | some v =>
        obtain ⟨e, he, he1, _⟩ := (hf k v).1 hh
        exact absurd he1 (h2 e he)
    rw [this]
    cases c <;> simp [Instr.lookup, run_underlying hm, MapKept.run_getObj_map hb, run_checkKey hd hk, run_findKey hd h1, hz, Result.andThen, looked]
  · have : f k = some e.val := (hf k e.val).2 ⟨e, List.mem_of_getElem? h2, h3, rfl⟩
    rw [this]
    cases c <;> simp [Instr.lookup, run_underlying hm, MapKept.run_getObj_map hb, run_checkKey hd hk, run_findKey hd h1, Result.andThen, looked]

theorem lookup_nil {P : Program} {t kt et : TypeId} {w : World} {z : Value} (hm : P.underlying t = some (.map kt et)) (hd : P.underlying kt = some .string)
    (hz : (zeroValue et).run P w = .ok z w) (k : ByteArray) (c : Bool) : (Instr.lookup t (.map none) (.string k) c).run P w = .ok (looked c z none) w := by
  have hk := isKey_string k
  have h1 : Instr.findNow .string (.string k) [] 0 = some none := rfl
  cases c <;> simp [Instr.lookup, run_underlying hm, run_checkKey hd hk, run_findKey hd h1, hz, Result.andThen, looked]

/-- A map's block put anew: all else as it was. -/
def Turned (w w' : World) (r : Nat) : Prop := ∃ es clock es' clock', w.heap[r]? = some (.map es clock) ∧ w' = { w with heap := w.heap.setIfInBounds r (.map es' clock') }

theorem Turned.block {w w' : World} {r k : Nat} (h : Turned w w' r) (hk : k ≠ r) : w'.heap[k]? = w.heap[k]? := by
  obtain ⟨es, clock, es', clock', hb, rfl⟩ := h
  exact (heap_set hb).2 k hk

theorem Turned.size {w w' : World} {r : Nat} (h : Turned w w' r) : w'.heap.size = w.heap.size := by
  obtain ⟨es, clock, es', clock', hb, rfl⟩ := h
  simp

theorem Turned.cell {w w' : World} {r : Nat} {a : Addr} {v : Value} (h : Turned w w' r) (hc : w.cell? a = some v) : w'.cell? a = some v := by
  have hne : a.block ≠ r := by
    intro e
    obtain ⟨es, clock, es', clock', hb, rfl⟩ := h
    subst e
    unfold World.cell? at hc
    simp [hb] at hc
  rw [World.cell?_of_block (w := w) (h.block hne)]
  exact hc

theorem Turned.below {w w' a : World} {r B : Nat} (h : Turned w w' r) (hb : Below B a w) (hr : B ≤ r) : Below B a w' := by
  refine hb.trans ?_
  have hs := h.size
  have hbl := fun k (hk : k < B) => h.block (k := k) (by omega)
  obtain ⟨es, clock, es', clock', hb, rfl⟩ := h
  exact ⟨rfl, rfl, rfl, by omega, hbl⟩

theorem mem_modify {es : Array MapEntry} {j : Nat} {e0 : MapEntry} (g : MapEntry → MapEntry) (hj : es[j]? = some e0) (e : MapEntry) :
    e ∈ (es.modify j g).toList ↔ e = g e0 ∨ ∃ i, i ≠ j ∧ es[i]? = some e := by
  rw [List.mem_iff_getElem?]
  constructor
  · rintro ⟨i, hi⟩
    rw [Array.getElem?_toList, Array.getElem?_modify] at hi
    split at hi
    · rename_i hij
      subst hij
      rw [hj] at hi
      simp at hi
      exact .inl hi.symm
    · rename_i hij
      exact .inr ⟨i, fun q => hij q.symm, hi⟩
  · rintro (rfl | ⟨i, hij, hi⟩)
    · refine ⟨j, ?_⟩
      rw [Array.getElem?_toList, Array.getElem?_modify, if_pos rfl, hj]; rfl
    · refine ⟨i, ?_⟩
      rw [Array.getElem?_toList, Array.getElem?_modify, if_neg (Ne.symm hij), hi]

/-- One key set. -/
def setKey (f : ByteArray → Option Value) (k : ByteArray) (v : Value) (k' : ByteArray) : Option Value := if k' = k then some v else f k'

theorem apart {es : Array MapEntry} {clock : Nat} (hs : Stamped es clock) {i j : Nat} {x y : MapEntry} (hi : es[i]? = some x) (hj : es[j]? = some y) (hij : i ≠ j) : x.key ≠ y.key := by
  have hp := ((stamped_iff es clock).1 hs).2.2
  have hil : i < es.toList.length := by have := (Array.getElem?_eq_some_iff.1 hi).1; simpa using this
  have hjl : j < es.toList.length := by have := (Array.getElem?_eq_some_iff.1 hj).1; simpa using this
  have ex : es.toList[i] = x := by
    have := (Array.getElem?_eq_some_iff.1 hi).2; simpa using this
  have ey : es.toList[j] = y := by
    have := (Array.getElem?_eq_some_iff.1 hj).2; simpa using this
  rw [List.pairwise_iff_getElem] at hp
  rcases Nat.lt_or_gt_of_ne hij with h | h
  · have := hp i j hil hjl h
    rwa [ex, ey] at this
  · have := hp j i hjl hil h
    rw [ex, ey] at this
    exact fun q => this q.symm

theorem MapIs.update {P : Program} {t kt et : TypeId} {w : World} {r : Nat} {f : ByteArray → Option Value} (h : MapIs w r f) (hm : P.underlying t = some (.map kt et)) (hd : P.underlying kt = some .string) (k : ByteArray) (v : Value) :
    ∃ w', (∀ q, (Instr.mapUpdate t (.map (some r)) (.string k) v).run P (w.drewN q) = .ok () (w'.drewN q)) ∧ MapIs w' r (setKey f k v) ∧ Turned w w' r := by
  obtain ⟨es, clock, hb, hs, hks, hf⟩ := h
  have hk := isKey_string k
  have hbq : ∀ q, (w.drewN q).heap[r]? = some (.map es clock) := fun _ => hb
  rcases findNow_spec hk es.toList 0 hks with ⟨h1, h2⟩ | ⟨j, e, h1, h2, h3⟩
  · refine ⟨{ w with heap := w.heap.setIfInBounds r (.map (es.push { key := .string k, val := v, born := clock }) (clock + 1)) }, fun q => ?_, ⟨_, _, (heap_set hb).1, stamped_push hs h2, ?_, ?_⟩, ⟨es, clock, _, _, hb, rfl⟩⟩
    · simp [Instr.mapUpdate, run_underlying hm, MapKept.run_getObj_map (hbq q), run_checkKey hd hk, run_findKey hd h1, MapKept.run_setObj_map _ (hbq q), Result.andThen]
      rfl
    · intro x hx
      simp only [Array.toList_push, List.mem_append, List.mem_singleton] at hx
      rcases hx with hx | rfl
      · exact hks x hx
      · exact hk
    · intro k' v'
      simp only [setKey, Array.toList_push, List.mem_append, List.mem_singleton]
      by_cases hkk : k' = k
      · subst hkk
        simp only [if_pos, Option.some.injEq]
        constructor
        · rintro rfl
          exact ⟨_, .inr rfl, rfl, rfl⟩
        · rintro ⟨e, he | rfl, he1, rfl⟩
          · exact absurd he1 (h2 e he)
          · rfl
      · rw [if_neg hkk, hf]
        constructor
        · rintro ⟨e, he, he1, he2⟩
          exact ⟨e, .inl he, he1, he2⟩
        · rintro ⟨e, he | rfl, he1, he2⟩
          · exact ⟨e, he, he1, he2⟩
          · simp at he1
            exact absurd he1.symm hkk
  · have hj : es[j]? = some e := by simpa using h2
    have hkey : ∀ e', es[j]? = some e' → ({ e' with key := .string k, val := v } : MapEntry).key = e'.key := fun e' he' => by rw [hj] at he'; cases he'; exact h3.symm
    refine ⟨{ w with heap := w.heap.setIfInBounds r (.map (es.modify j fun e => { e with key := .string k, val := v }) clock) }, fun q => ?_, ⟨_, _, (heap_set hb).1, stamped_modify hs _ _ (fun _ _ => rfl) (fun e' _ he' => hkey e' he'), isKey_modify hks _ _ hkey, ?_⟩, ⟨es, clock, _, _, hb, rfl⟩⟩
    · simp [Instr.mapUpdate, run_underlying hm, MapKept.run_getObj_map (hbq q), run_checkKey hd hk, run_findKey hd h1, hj, h3, run_keyThatStays hk, MapKept.run_setObj_map _ (hbq q), Result.andThen]
      rfl
    · intro k' v'
      simp only [setKey]
      by_cases hkk : k' = k
      · subst hkk
        simp only [if_pos, Option.some.injEq]
        constructor
        · rintro rfl
          exact ⟨_, (mem_modify _ hj _).2 (.inl rfl), rfl, rfl⟩
        · rintro ⟨e', he', he1, rfl⟩
          rcases (mem_modify _ hj _).1 he' with rfl | ⟨i, hij, hi⟩
          · rfl
          · exact absurd (he1.trans h3.symm) (apart hs hi hj hij)
      · rw [if_neg hkk, hf]
        constructor
        · rintro ⟨e', he', he1, he2⟩
          obtain ⟨i, hi⟩ := List.mem_iff_getElem?.1 he'
          rw [Array.getElem?_toList] at hi
          refine ⟨e', (mem_modify _ hj _).2 (.inr ⟨i, ?_, hi⟩), he1, he2⟩
          rintro rfl
          rw [hj] at hi
          cases hi
          rw [h3] at he1
          simp at he1
          exact hkk he1.symm
        · rintro ⟨e', he', he1, he2⟩
          rcases (mem_modify _ hj _).1 he' with rfl | ⟨i, hij, hi⟩
          · simp at he1
            exact absurd he1.symm hkk
          · refine ⟨e', ?_, he1, he2⟩
            exact List.mem_of_getElem? (by rw [Array.getElem?_toList]; exact hi)
end Go.Proofs.Qxb6634845a
