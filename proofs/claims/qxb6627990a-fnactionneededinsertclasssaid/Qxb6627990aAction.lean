/-
  (Result).ActionNeeded (8), at what zzBuild hands back.
-/
import Derived.Test.Qxb6627990aBuild
namespace Go.Proofs.Qxb6627990a
open Go.RowKit
set_option linter.unusedVariables false

theorem clsCells_length (c v : ByteArray) : (clsCells c v).length = 20 := rfl
theorem clsCells_one (c v : ByteArray) : (clsCells c v).all (fun u => u.oneCell') = true := rfl
theorem clsCells_last (c v : ByteArray) : (clsCells c v)[19]? = some (.string v) := rfl

/-- A verdict that does not stand; a tier that calls for action: as the walk writes the tests. -/
def bad (v : ByteArray) : Bool := !v.toList == [115, 116, 97, 110, 100, 115]
def calls (t : ByteArray) : Bool := !t.toList == [110, 111, 110, 101]
/-- Some class among the first n does not stand. -/
def anyBad (n : Nat) (V : Nat → ByteArray) : Bool := (List.range n).any fun i => bad (V i)

theorem anyBad_true {n : Nat} {V : Nat → ByteArray} {k : Nat} (hk : k < n) (h : bad (V k) = true) : anyBad n V = true :=
  List.any_eq_true.2 ⟨k, List.mem_range.2 hk, h⟩
theorem anyBad_false {n : Nat} {V : Nat → ByteArray} (h : ∀ i, i < n → bad (V i) = false) : anyBad n V = false := by
  unfold anyBad
  rw [List.any_eq_false]
  intro i hi
  rw [h i (List.mem_range.1 hi)]
  decide

/-- A class stored into a block of its own. -/
theorem store_fresh (wr : World) (c v : ByteArray) (Z : Array Value) (hZ : Z.size = 20) :
    ∃ W2, Sem.run Try.prog (storeCells ⟨wr.heap.size, 0, none⟩ (clsCells c v)) (wr.alloc (.cells Z 54)) = .ok () W2 ∧ (∀ B a, Below B a wr → B ≤ wr.heap.size → Below B a W2) ∧ W2.cell? ⟨wr.heap.size, 19, none⟩ = some (.string v) := by
  have ht : (wr.alloc (.cells Z 54)).there wr.heap.size 0 20 := there_new wr Z 54 0 0 20 _ rfl (by omega)
  have hr := run_storeCells_cells (P := Try.prog) wr.heap.size 0 (clsCells c v) 0 (wr.alloc (.cells Z 54)) (fun j hj => (ht j hj).1) (fun j hj => (ht j hj).2) (fun u hu => List.all_eq_true.1 (clsCells_one c v) u hu)
  refine ⟨wr.alloc (.cells (putAt Z 0 (clsCells c v)) 54), ?_, ?_, ?_⟩
  · rw [hr]
    have := setCells_alloc wr 54 (clsCells c v) Z 0 0 wr.heap.size rfl
    exact congrArg (Result.ok ()) this
  · intro B a h hB
    exact h.alloc hB _
  · rw [World.cell?_alloc_at _ _ _ _ rfl]
    exact putAt_in (clsCells c v) Z 0 19 _ (clsCells_last c v) (by omega)

set_option maxHeartbeats 1000000 in
theorem action_no (fund tier : ByteArray) (n g hh : Nat) (C V : Nat → ByteArray) (w : World) (hg : g < w.heap.size) (hn : n ≤ 65537)
    (hrows : ∀ i, i < n → w.rangeAt g (i * 20) (clsCells (C i) (V i))) :
    Calls Try.prog 8 #[.agg (resCells fund (.pointer none) g n)] w fun e w' => e = .returned (.bool (anyBad n V)) ∧ Below w.heap.size w w' := by
  unfold resCells
  go_enter Try.func8, Try.ntmps8
  go_wp2_with fail
  go_loopw [19] (fun i wr => ∃ k : Nat, i = .int .i64 k ∧ k ≤ n ∧ Below w.heap.size w wr ∧ Hid (∀ i, i < k → bad (V i) = false)) (fun i _ => n - (intOf i).toNat)
  case atStart => exact ⟨0, rfl, by omega, (Below.refl _ w).alloc (Nat.le_refl _) _, fun i hi => absurd hi (by omega)⟩
  case round =>
    obtain ⟨k, rfl, hk, hb, HB⟩ := hrel
    skip
    by_cases hlt : k < n
    · have hr : wr.rangeAt g (k * 20) (clsCells (C k) (V k)) := fun t u htu => by
        rw [hb.cell (p := ⟨g, k * 20 + t, none⟩) hg]; exact hrows k hlt t u htu
      clear hrows
      have hsz := hb.size
      obtain ⟨W2, hst, hbw, hcl⟩ := store_fresh wr (C k) (V k) #[Value.string { data := #[] }, Value.int IntKind.i64 0, Value.int IntKind.u64 0, Value.int IntKind.i64 0, Value.int IntKind.u64 0, Value.int IntKind.i64 0, Value.int IntKind.u64 0, Value.int IntKind.i64 0, Value.int IntKind.u64 0, Value.int IntKind.i64 0, Value.int IntKind.u64 0, Value.int IntKind.i64 0, Value.int IntKind.u64 0, Value.pointer none, Value.int IntKind.i32 0, Value.pointer none, Value.int IntKind.i32 0, Value.pointer none, Value.int IntKind.i32 0, Value.string { data := #[] }] rfl
      have hb2 := hbw _ _ hb hsz
      clear hbw
      by_cases hbad : bad (V k) = true
      · have HT : Hid (anyBad n V = true) := anyBad_true hlt hbad
        unfold bad at hbad
        go_wp2_with (refine wpList_load_mid rfl 54 _ rfl g (k * 20) rfl (clsCells (C k) (V k)) _ hr Try.underlying54 rfl (by kernel_rfl) ?_)
        go_ret
        refine ⟨?_, hb2⟩
        rw [HT.out]; rfl
      · have hbad' : bad (V k) = false := by simpa using hbad
        have HF : Hid (∀ i, i < k + 1 → bad (V i) = false) := by
          intro i hi
          by_cases hik : i < k
          · exact HB.out i hik
          · obtain rfl : i = k := by omega
            exact hbad'
        clear hbad
        unfold bad at hbad'
        go_wp2_with (refine wpList_load_mid rfl 54 _ rfl g (k * 20) rfl (clsCells (C k) (V k)) _ hr Try.underlying54 rfl (by kernel_rfl) ?_)
        exact ⟨⟨k + 1, by go_num, by omega, hb2, HF⟩, by simp [intOf]; omega⟩
    · obtain rfl : k = n := by omega
      have HF : Hid (anyBad k V = false) := anyBad_false HB.out
      clear hrows
      go_wp2
      go_ret
      refine ⟨?_, hb⟩
      rw [HF.out]; rfl

set_option maxHeartbeats 1000000 in
theorem action_none (fund tier : ByteArray) (n g hh : Nat) (C V : Nat → ByteArray) (w : World) (hg : g < w.heap.size) (hn : n ≤ 65537)
    (ht : w.cell? ⟨hh, 5, none⟩ = some (.string tier)) (hcalls : calls tier = false)
    (hrows : ∀ i, i < n → w.rangeAt g (i * 20) (clsCells (C i) (V i))) :
    Calls Try.prog 8 #[.agg (resCells fund (.pointer (some ⟨hh, 0, none⟩)) g n)] w fun e w' => e = .returned (.bool (anyBad n V)) ∧ Below w.heap.size w w' := by
  unfold resCells
  have hhb := World.block_lt_of_cell? w _ ht
  unfold calls at hcalls
  go_enter Try.func8, Try.ntmps8
  go_wp2_with fail
  go_loopw [19] (fun i wr => ∃ k : Nat, i = .int .i64 k ∧ k ≤ n ∧ Below w.heap.size w wr ∧ Hid (∀ i, i < k → bad (V i) = false)) (fun i _ => n - (intOf i).toNat)
  case atStart => exact ⟨0, rfl, by omega, (Below.refl _ w).alloc (Nat.le_refl _) _, fun i hi => absurd hi (by omega)⟩
  case round =>
    obtain ⟨k, rfl, hk, hb, HB⟩ := hrel
    clear ht hcalls hhb
    by_cases hlt : k < n
    · have hr : wr.rangeAt g (k * 20) (clsCells (C k) (V k)) := fun t u htu => by
        rw [hb.cell (p := ⟨g, k * 20 + t, none⟩) hg]; exact hrows k hlt t u htu
      clear hrows
      have hsz := hb.size
      obtain ⟨W2, hst, hbw, hcl⟩ := store_fresh wr (C k) (V k) #[Value.string { data := #[] }, Value.int IntKind.i64 0, Value.int IntKind.u64 0, Value.int IntKind.i64 0, Value.int IntKind.u64 0, Value.int IntKind.i64 0, Value.int IntKind.u64 0, Value.int IntKind.i64 0, Value.int IntKind.u64 0, Value.int IntKind.i64 0, Value.int IntKind.u64 0, Value.int IntKind.i64 0, Value.int IntKind.u64 0, Value.pointer none, Value.int IntKind.i32 0, Value.pointer none, Value.int IntKind.i32 0, Value.pointer none, Value.int IntKind.i32 0, Value.string { data := #[] }] rfl
      have hb2 := hbw _ _ hb hsz
      clear hbw
      by_cases hbad : bad (V k) = true
      · have HT : Hid (anyBad n V = true) := anyBad_true hlt hbad
        unfold bad at hbad
        go_wp2_with (refine wpList_load_mid rfl 54 _ rfl g (k * 20) rfl (clsCells (C k) (V k)) _ hr Try.underlying54 rfl (by kernel_rfl) ?_)
        go_ret
        refine ⟨?_, hb2⟩
        rw [HT.out]; rfl
      · have hbad' : bad (V k) = false := by simpa using hbad
        have HF : Hid (∀ i, i < k + 1 → bad (V i) = false) := by
          intro i hi
          by_cases hik : i < k
          · exact HB.out i hik
          · obtain rfl : i = k := by omega
            exact hbad'
        clear hbad
        unfold bad at hbad'
        go_wp2_with (refine wpList_load_mid rfl 54 _ rfl g (k * 20) rfl (clsCells (C k) (V k)) _ hr Try.underlying54 rfl (by kernel_rfl) ?_)
        exact ⟨⟨k + 1, by go_num, by omega, hb2, HF⟩, by simp [intOf]; omega⟩
    · obtain rfl : k = n := by omega
      have HF : Hid (anyBad k V = false) := anyBad_false HB.out
      clear hrows
      go_wp2
      go_ret
      refine ⟨?_, hb⟩
      rw [HF.out]; rfl

set_option maxHeartbeats 1000000 in
theorem action_calls (fund tier : ByteArray) (n g hh : Nat) (w : World)
    (ht : w.cell? ⟨hh, 5, none⟩ = some (.string tier)) (hcalls : calls tier = true) :
    Calls Try.prog 8 #[.agg (resCells fund (.pointer (some ⟨hh, 0, none⟩)) g n)] w fun e w' => e = .returned (.bool true) ∧ Below w.heap.size w w' := by
  unfold resCells
  have hhb := World.block_lt_of_cell? w _ ht
  unfold calls at hcalls
  go_enter Try.func8, Try.ntmps8
  go_wp2
  go_ret
  exact ⟨rfl, (Below.refl _ w).alloc (Nat.le_refl _) _⟩

/-- What ActionNeeded answers of what zzBuild makes of these. -/
def needs (sh : Bool) (tier : ByteArray) (n : Nat) (V : Nat → ByteArray) : Bool := (sh && calls tier) || anyBad n V

theorem action_any (fund tier : ByteArray) (sh : Bool) (n g B : Nat) (sp : Value) (C V : Nat → ByteArray) (w : World) (hn : n ≤ 65537) (hB : Built w B sh tier n C V sp g) :
    Calls Try.prog 8 #[.agg (resCells fund sp g n)] w fun e w' => e = .returned (.bool (needs sh tier n V)) ∧ Below w.heap.size w w' := by
  unfold needs
  rcases hB.shadow with ⟨rfl, rfl⟩ | ⟨rfl, h, rfl, hcell⟩
  · rw [Bool.false_and, Bool.false_or]
    exact action_no fund tier n g 0 C V w hB.lies hn hB.rows
  · rw [Bool.true_and]
    cases hc : calls tier
    · rw [Bool.false_or]
      exact action_none fund tier n g h C V w hB.lies hn hcell hc hB.rows
    · rw [Bool.true_or]
      exact action_calls fund tier n g h w hcell hc
end Go.Proofs.Qxb6627990a
