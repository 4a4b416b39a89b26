/-
  zzBuild (7).
-/
import Derived.Test.Qxb6627990aBounds
import Derived.Deep.RegionHeld3
import Derived.Deep.MidRow
import Derived.Deep.DrawnRows
import Derived.Deep.Slices
namespace Go.Proofs.Qxb6627990a
open Go.RowKit
set_option linter.unusedVariables false

theorem info54 : ∃ i z, Try.prog.info? 54 = some i ∧ i.zero = some z ∧ i.size = 20 ∧ i.bytes = 176 := by
  have h : (Try.prog.info? 54).map (fun i => (i.zero.isSome, i.size, i.bytes)) = some (true, 20, 176) := by kernel_rfl
  obtain ⟨i, hi, hh⟩ := Option.map_eq_some_iff.1 h
  simp only [Prod.mk.injEq] at hh
  obtain ⟨h1, h2, h3⟩ := hh
  obtain ⟨z, hz⟩ := Option.isSome_iff_exists.1 h1
  exact ⟨i, z, hi, hz, h2, h3⟩

theorem make38 (n : Nat) (hn : n ≤ 65537) : ∃ Z : Array Value, Z.size = n * 20 ∧ ∀ w : World, (Instr.makeSlice 38 (.int .i64 (n : Int)) (.int .i64 (n : Int))).run Try.prog w = .ok (.slice (some ⟨w.heap.size, 0, none⟩) n n) (w.alloc (.cells Z 54)) := by
  obtain ⟨i, z, hi, hz, hs, hb⟩ := info54
  refine ⟨madeCells z.cells (n * 20), size_madeCells _ _, fun w => ?_⟩
  have := run_make (P := Try.prog) w 38 54 i z Try.underlying38 hi hz .i64 .i64 n n (by omega) (Int.le_refl _) (by rw [hb]; omega) (by omega)
  rw [hs] at this
  simpa using this


/-- Cells laid into an array from a place on. -/
def putAt (Z : Array Value) : Nat → List Value → Array Value
  | _, [] => Z
  | o, v :: r => putAt (Z.setIfInBounds o v) (o + 1) r

theorem putAt_size (cs : List Value) : ∀ (Z : Array Value) (o : Nat), (putAt Z o cs).size = Z.size := by
  induction cs with
  | nil => intro Z o; rfl
  | cons v r ih => intro Z o; rw [putAt, ih, Array.size_setIfInBounds]

theorem putAt_out (cs : List Value) : ∀ (Z : Array Value) (o x : Nat), (x < o ∨ o + cs.length ≤ x) → (putAt Z o cs)[x]? = Z[x]? := by
  induction cs with
  | nil => intro Z o x _; rfl
  | cons v r ih =>
    intro Z o x h
    rw [putAt, ih _ _ _ (by simp at h; omega), Array.getElem?_setIfInBounds_ne (by simp at h; omega)]

theorem putAt_in (cs : List Value) : ∀ (Z : Array Value) (o j : Nat) (v : Value), cs[j]? = some v → o + j < Z.size → (putAt Z o cs)[o + j]? = some v := by
  induction cs with
  | nil => intro Z o j v h; simp at h
  | cons u r ih =>
    intro Z o j v h hj
    rw [putAt]
    cases j with
    | zero =>
      rw [putAt_out _ _ _ _ (by omega)]
      simp at h
      subst h
      exact Array.getElem?_setIfInBounds_self_of_lt hj
    | succ j =>
      have := ih (Z.setIfInBounds o u) (o + 1) j v (by simpa using h) (by rw [Array.size_setIfInBounds]; omega)
      rwa [show o + 1 + j = o + (j + 1) by omega] at this

theorem setCells_alloc (W : World) (t : TypeId) (cs : List Value) : ∀ (Z : Array Value) (o q g : Nat), g = W.heap.size → ((W.alloc (.cells Z t)).drewN q).setCells g o cs = (W.alloc (.cells (putAt Z o cs) t)).drewN q := by
  induction cs with
  | nil => intro Z o q g _; rfl
  | cons v r ih =>
    intro Z o q g hg
    rw [World.setCells, putAt, ← ih _ _ _ _ hg]
    congr 1
    show ((W.alloc (.cells Z t)).setCell ⟨g, o, none⟩ v).drewN q = _
    rw [World.setCell_alloc_at _ _ _ _ _ hg]

/-- A block of cells laid last: its cells are there and may be written. -/
theorem there_new (W : World) (Z : Array Value) (t : TypeId) (q o n g : Nat) (hg : g = W.heap.size) (h : o + n ≤ Z.size) : ((W.alloc (.cells Z t)).drewN q).there g o n := by
  intro j hj
  constructor
  · show ((W.alloc (.cells Z t)).cell? ⟨g, o + j, none⟩).isSome = true
    rw [World.cell?_alloc_at _ _ _ _ hg, Array.getElem?_eq_getElem (show o + j < Z.size by omega)]; rfl
  · exact World.frozen?_alloc_at _ _ _ _ hg

/-- A pointer's block and place; the cells of a struct. -/
def pBlk : Value → Nat
  | .pointer (some a) => a.block
  | _ => 0
def pOff : Value → Nat
  | .pointer (some a) => a.off
  | _ => 0
def pPlain : Value → Bool
  | .pointer (some a) => a.spot.isNone
  | _ => false
def vCells : Value → List Value
  | .agg cs => cs.toList
  | _ => []

/-- A class (twenty cells) stored: by one law, at the operation itself. -/
theorem wp_store20 (dst : Option Tmp) (x y : Operand) (ty : TypeId) (pos : String) (after : Array Edge) (a : Act) (w : World) (K : Act → World → Prop) (Q : Exit → Act → World → Prop)
    (h0 : pPlain (a.eval x) = true) (hl : (vCells (a.eval y)).length = 20) (ht : w.there (pBlk (a.eval x)) (pOff (a.eval x)) 20) (h1 : (vCells (a.eval y)).all (fun v => v.oneCell') = true) :
    Oper.wp Try.prog { dst := dst, op := .store 54 x y, type := ty, pos := pos, after := after, guard := none } a w K Q = K (a.put dst undef) (w.setCells (pBlk (a.eval x)) (pOff (a.eval x)) (vCells (a.eval y))) := by
  have hi : (Try.prog.info? 54).map (·.size) = some 20 := by kernel_rfl
  generalize hx : a.eval x = p at *
  generalize hy : a.eval y = v at *
  cases p <;> simp [pPlain] at h0
  rename_i ad
  cases ad <;> simp at h0
  rename_i ad
  obtain ⟨b, o, sp⟩ := ad
  simp at h0
  subst h0
  cases v <;> simp [vCells] at hl
  rename_i cs
  have hr := run_storeAt_mid (P := Try.prog) w b o 54 cs (by simpa [pBlk, pOff, hl] using ht) (by rw [hi, hl]) (by simpa [vCells, Array.all_toList] using h1)
  unfold Oper.wp execOp
  simp only [hx, hy, hr, Sem.run_bind, Sem.run_pure, Result.andThen_ok]
  rfl

theorem cell_old (W : World) (o : Obj) (x : Addr) (v : Value) (h : W.cell? x = some v) : (W.alloc o).cell? x = some v := by
  rw [World.cell?_alloc_lt _ _ _ (World.block_lt_of_cell? W _ h)]; exact h

/-- The cells of a class that zzBuild lays. -/
def clsCells (c v : ByteArray) : List Value := [Value.string c, Value.int IntKind.i64 0, Value.int IntKind.u64 0, Value.int IntKind.i64 0, Value.int IntKind.u64 0, Value.int IntKind.i64 0, Value.int IntKind.u64 0, Value.int IntKind.i64 0, Value.int IntKind.u64 0, Value.int IntKind.i64 0, Value.int IntKind.u64 0, Value.int IntKind.i64 0, Value.int IntKind.u64 0, Value.pointer none, Value.int IntKind.i32 0, Value.pointer none, Value.int IntKind.i32 0, Value.pointer none, Value.int IntKind.i32 0, Value.string v]

/-- The cells of the result that zzBuild hands back. -/
def resCells (fund : ByteArray) (sp : Value) (g n : Nat) : Array Value := #[Value.string fund, Value.int IntKind.u64 0, Value.int IntKind.i64 0, Value.pointer none, Value.int IntKind.i32 0, Value.slice none 0 0, Value.int IntKind.i64 0, Value.int IntKind.u64 0, Value.int IntKind.i64 0, Value.int IntKind.u64 0, Value.int IntKind.i64 0, Value.int IntKind.u64 0, sp, Value.pointer none, Value.slice (some ⟨g, 0, none⟩) n n]

theorem setCell_drewN (w : World) (q : Nat) (a : Addr) (v : Value) : (w.drewN q).setCell a v = (w.setCell a v).drewN q := rfl

/-- WHAT zzBuild HANDS BACK, in the world behind it: the classes lie in block g; the shadow, where there is one, names the tier. -/
structure Built (w' : World) (B : Nat) (sh : Bool) (tier : ByteArray) (n : Nat) (C V : Nat → ByteArray) (sp : Value) (g : Nat) : Prop where
  above : B ≤ g
  lies : g < w'.heap.size
  rows : ∀ i, i < n → w'.rangeAt g (i * 20) (clsCells (C i) (V i))
  shadow : (sh = false ∧ sp = .pointer none) ∨ (sh = true ∧ ∃ h, sp = .pointer (some ⟨h, 0, none⟩) ∧ w'.cell? ⟨h, 5, none⟩ = some (.string tier))

theorem below_drewN {B q : Nat} {a w : World} (h : Below B a w) : Below B a (w.drewN q) := ⟨h.os, h.tape, h.output, h.size, h.block⟩
theorem below3 (w : World) (o1 o2 o3 : Obj) (q : Nat) : Below w.heap.size w ((((w.alloc o1).alloc o2).alloc o3).drewN q) :=
  below_drewN ((((Below.refl _ w).alloc (Nat.le_refl _) _).alloc (by simp) _).alloc (by simp; omega) _)
theorem below4 (w : World) (o1 o2 o3 o4 : Obj) (q : Nat) : Below w.heap.size w (((((w.alloc o1).alloc o2).alloc o3).alloc o4).drewN q) :=
  below_drewN (((((Below.refl _ w).alloc (Nat.le_refl _) _).alloc (by simp) _).alloc (by simp; omega) _).alloc (by simp; omega) _)

attribute [local go_sem ↓] Go.wp_at_zero Go.wp_at_succ wp_store20
attribute [local go_sem] Value.oneCell' pBlk pOff pPlain vCells setCell_drewN
set_option maxHeartbeats 2000000 in
theorem build_no (fund tier : ByteArray) (a : Option Addr) (n cap : Nat) (C V : Nat → ByteArray) (w : World) (hc : Cl w a n C V) (hn : n ≤ 65537) :
    Calls Try.prog 7 #[.string fund, .bool false, .string tier, .slice a n cap] w fun e w' => ∃ sp g, e = .returned (.agg (resCells fund sp g n)) ∧ Below w.heap.size w w' ∧ Built w' w.heap.size false tier n C V sp g := by
  obtain ⟨Z, hZ, hmk⟩ := make38 n hn
  go_enter Try.func7, Try.ntmps7
  go_wp2_with fail
  go_loopw [11] (fun i wr => ∃ (j q : Nat) (Zr : Array Value), i = .int .i64 j ∧ j ≤ n ∧ Hid (Zr.size = n * 20) ∧ Hid (∀ i, i < j → ∀ t u, (clsCells (C i) (V i))[t]? = some u → Zr[i * 20 + t]? = some u) ∧
      Hid (wr = (((w.alloc (.cells #[Value.string { data := #[] }, Value.int IntKind.u64 0, Value.int IntKind.i64 0, Value.pointer none, Value.int IntKind.i32 0, Value.slice none 0 0, Value.int IntKind.i64 0, Value.int IntKind.u64 0, Value.int IntKind.i64 0, Value.int IntKind.u64 0, Value.int IntKind.i64 0, Value.int IntKind.u64 0, Value.pointer none, Value.pointer none, Value.slice none 0 0] 40)).alloc (.cells #[Value.string fund, Value.int IntKind.u64 0, Value.int IntKind.i64 0, Value.pointer none, Value.int IntKind.i32 0, Value.slice none 0 0, Value.int IntKind.i64 0, Value.int IntKind.u64 0, Value.int IntKind.i64 0, Value.int IntKind.u64 0, Value.int IntKind.i64 0, Value.int IntKind.u64 0, Value.pointer none, Value.pointer none, Value.slice none 0 0] 40)).alloc (.cells Zr 54)).drewN q)) (fun i _ => n - (intOf i).toNat)
  case atStart => exact ⟨0, 0, Z, rfl, by omega, hZ, fun i hi => absurd hi (by omega), rfl⟩
  case round =>
    obtain ⟨j, q, Zr, rfl, hj, hZr, hV, HW⟩ := hrel
    clear hmk hZ
    by_cases hlt : j < n
    · obtain ⟨b, off, rfl, hc0', hc1'⟩ := hc j hlt
      clear hc
      have hj0 : (0 : Int) ≤ (j : Int) := by omega
      have hj1 : (j : Int) < (n : Int) := by omega
      have hth : wr.there (w.heap.size + 1 + 1) (j * 20) 20 := by
        rw [HW.out]; exact there_new _ _ _ _ _ _ _ (by simp) (by rw [hZr.out]; omega)
      have hth' : wr.drew.there (w.heap.size + 1 + 1) (j * 20) 20 := hth
      have hc0 : wr.cell? ⟨b, off + j * 2, none⟩ = some (.string (C j)) := by
        rw [HW.out]; exact cell_old _ _ _ _ (cell_old _ _ _ _ (cell_old _ _ _ _ hc0'))
      have hc1 : wr.cell? ⟨b, off + j * 2 + 1, none⟩ = some (.string (V j)) := by
        rw [HW.out]; exact cell_old _ _ _ _ (cell_old _ _ _ _ (cell_old _ _ _ _ hc1'))
      clear hc0' hc1'
      go_wp2_with fail
      go_region
      all_goals
        go_wp2
        refine ⟨⟨j + 1, q + 1, putAt Zr (j * 20) (clsCells (C j) (V j)), by go_num, by omega, ?_, ?_, ?_⟩, ?_⟩
        · show _ = _; rw [putAt_size]; exact hZr.out
        · intro i hi t u htu
          have ht : t < 20 := (List.getElem?_eq_some_iff.1 htu).1
          by_cases hij : i < j
          · rw [putAt_out _ _ _ _ (by omega)]; exact hV.out i hij t u htu
          · obtain rfl : i = j := by omega
            exact putAt_in _ _ _ t _ htu (by rw [hZr.out]; omega)
        · show wr.drew.setCells _ _ (clsCells (C j) (V j)) = _
          rw [HW.out]
          exact setCells_alloc _ _ _ _ _ (q + 1) _ (by simp)
        · simp [intOf]; omega
    · have hjn : j = n := by omega
      subst hjn
      have hW2 := HW.out
      subst hW2
      clear HW hc
      go_wp2
      refine bodyPost_ret (v := .agg (resCells fund (.pointer none) (w.heap.size + 1 + 1) j)) (by simp [results, Try.results7, go_sem, resCells]) rfl ⟨(.pointer none), (w.heap.size + 1 + 1), rfl, (below3 _ _ _ _ _), ?_⟩
      refine ⟨by omega, by simp, ?_, Or.inl ⟨rfl, rfl⟩⟩
      intro i hi t u htu
      have := hV.out i hi t u htu
      simp [go_sem]
      exact this

set_option maxHeartbeats 2000000 in
theorem build_yes (fund tier : ByteArray) (a : Option Addr) (n cap : Nat) (C V : Nat → ByteArray) (w : World) (hc : Cl w a n C V) (hn : n ≤ 65537) :
    Calls Try.prog 7 #[.string fund, .bool true, .string tier, .slice a n cap] w fun e w' => ∃ sp g, e = .returned (.agg (resCells fund sp g n)) ∧ Below w.heap.size w w' ∧ Built w' w.heap.size true tier n C V sp g := by
  obtain ⟨Z, hZ, hmk⟩ := make38 n hn
  go_enter Try.func7, Try.ntmps7
  go_wp2_with fail
  go_loopw [11] (fun i wr => ∃ (j q : Nat) (Zr : Array Value), i = .int .i64 j ∧ j ≤ n ∧ Hid (Zr.size = n * 20) ∧ Hid (∀ i, i < j → ∀ t u, (clsCells (C i) (V i))[t]? = some u → Zr[i * 20 + t]? = some u) ∧
      Hid (wr = ((((w.alloc (.cells #[Value.string { data := #[] }, Value.int IntKind.u64 0, Value.int IntKind.i64 0, Value.pointer none, Value.int IntKind.i32 0, Value.slice none 0 0, Value.int IntKind.i64 0, Value.int IntKind.u64 0, Value.int IntKind.i64 0, Value.int IntKind.u64 0, Value.int IntKind.i64 0, Value.int IntKind.u64 0, Value.pointer none, Value.pointer none, Value.slice none 0 0] 40)).alloc (.cells #[Value.string fund, Value.int IntKind.u64 0, Value.int IntKind.i64 0, Value.pointer none, Value.int IntKind.i32 0, Value.slice none 0 0, Value.int IntKind.i64 0, Value.int IntKind.u64 0, Value.int IntKind.i64 0, Value.int IntKind.u64 0, Value.int IntKind.i64 0, Value.int IntKind.u64 0, Value.pointer (some ⟨w.heap.size + 1 + 1, 0, none⟩), Value.pointer none, Value.slice none 0 0] 40)).alloc (.cells #[Value.int IntKind.i64 0, Value.int IntKind.u64 0, Value.int IntKind.i64 0, Value.int IntKind.u64 0, Value.int IntKind.i32 0, Value.string tier] 48)).alloc (.cells Zr 54)).drewN q)) (fun i _ => n - (intOf i).toNat)
  case atStart => exact ⟨0, 0, Z, rfl, by omega, hZ, fun i hi => absurd hi (by omega), rfl⟩
  case round =>
    obtain ⟨j, q, Zr, rfl, hj, hZr, hV, HW⟩ := hrel
    clear hmk hZ
    by_cases hlt : j < n
    · obtain ⟨b, off, rfl, hc0', hc1'⟩ := hc j hlt
      clear hc
      have hj0 : (0 : Int) ≤ (j : Int) := by omega
      have hj1 : (j : Int) < (n : Int) := by omega
      have hth : wr.there (w.heap.size + 1 + 1 + 1) (j * 20) 20 := by
        rw [HW.out]; exact there_new _ _ _ _ _ _ _ (by simp) (by rw [hZr.out]; omega)
      have hth' : wr.drew.there (w.heap.size + 1 + 1 + 1) (j * 20) 20 := hth
      have hc0 : wr.cell? ⟨b, off + j * 2, none⟩ = some (.string (C j)) := by
        rw [HW.out]; exact cell_old _ _ _ _ (cell_old _ _ _ _ (cell_old _ _ _ _ (cell_old _ _ _ _ hc0')))
      have hc1 : wr.cell? ⟨b, off + j * 2 + 1, none⟩ = some (.string (V j)) := by
        rw [HW.out]; exact cell_old _ _ _ _ (cell_old _ _ _ _ (cell_old _ _ _ _ (cell_old _ _ _ _ hc1')))
      clear hc0' hc1'
      go_wp2_with fail
      go_region
      all_goals
        go_wp2
        refine ⟨⟨j + 1, q + 1, putAt Zr (j * 20) (clsCells (C j) (V j)), by go_num, by omega, ?_, ?_, ?_⟩, ?_⟩
        · show _ = _; rw [putAt_size]; exact hZr.out
        · intro i hi t u htu
          have ht : t < 20 := (List.getElem?_eq_some_iff.1 htu).1
          by_cases hij : i < j
          · rw [putAt_out _ _ _ _ (by omega)]; exact hV.out i hij t u htu
          · obtain rfl : i = j := by omega
            exact putAt_in _ _ _ t _ htu (by rw [hZr.out]; omega)
        · show wr.drew.setCells _ _ (clsCells (C j) (V j)) = _
          rw [HW.out]
          exact setCells_alloc _ _ _ _ _ (q + 1) _ (by simp)
        · simp [intOf]; omega
    · have hjn : j = n := by omega
      subst hjn
      have hW2 := HW.out
      subst hW2
      clear HW hc
      go_wp2
      refine bodyPost_ret (v := .agg (resCells fund (.pointer (some ⟨w.heap.size + 1 + 1, 0, none⟩)) (w.heap.size + 1 + 1 + 1) j)) (by simp [results, Try.results7, go_sem, resCells]) rfl ⟨(.pointer (some ⟨w.heap.size + 1 + 1, 0, none⟩)), (w.heap.size + 1 + 1 + 1), rfl, (below4 _ _ _ _ _ _), ?_⟩
      refine ⟨by omega, by simp, ?_, Or.inr ⟨rfl, _, rfl, by simp [go_sem]⟩⟩
      intro i hi t u htu
      have := hV.out i hi t u htu
      simp [go_sem]
      exact this

end Go.Proofs.Qxb6627990a
