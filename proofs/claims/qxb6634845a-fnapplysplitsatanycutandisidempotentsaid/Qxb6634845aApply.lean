/-
  (Config).Apply (8).
-/
import Derived.Test.Qxb6634845aFinds
namespace Go.Proofs.Qxb6634845a
open Go.RowKit Go.MapKept
set_option linter.unusedVariables false

/-- A finding of a list. -/
def nth (L : List Fd) (i : Nat) : Fd := L.getD i ⟨⟨#[]⟩, ⟨#[]⟩, ⟨#[]⟩, ⟨#[]⟩, ⟨#[]⟩, ⟨#[]⟩⟩

theorem prefF_snoc (L : List Fd) (x : Fd) : prefF (nth (L ++ [x])) (L.length + 1) = prefF (nth L) L.length ++ fdList x := by
  rw [prefF]
  congr 1
  · refine prefF_congr fun i hi => ?_
    unfold nth
    rw [List.getD_eq_getElem?_getD, List.getD_eq_getElem?_getD, List.getElem?_append_left hi]
  · unfold nth
    rw [List.getD_eq_getElem?_getD, List.getElem?_append_right (Nat.le_refl _)]
    simp

/-- One finding under a setting. -/
def put1 (f : Fd) (s : ByteArray) : Fd := { f with verdict := verd s f.verdict }
def one (st : ByteArray → ByteArray → ByteArray) (f : Fd) : List Fd := if st f.crd f.rule = sOff then [] else [put1 f (st f.crd f.rule)]
/-- What Apply keeps of the first k. -/
def applyL (st : ByteArray → ByteArray → ByteArray) (F : Nat → Fd) : Nat → List Fd
  | 0 => []
  | k + 1 => applyL st F k ++ one st (F k)

theorem one_le (st : ByteArray → ByteArray → ByteArray) (f : Fd) : (one st f).length ≤ 1 := by
  unfold one
  split <;> simp

theorem applyL_le (st : ByteArray → ByteArray → ByteArray) (F : Nat → Fd) (k : Nat) : (applyL st F k).length ≤ k := by
  induction k with
  | zero => exact Nat.le_refl _
  | succ k ih =>
    have := one_le st (F k)
    rw [applyL, List.length_append]
    omega

/-- The three lookups of a round. -/
theorem conf_look {w : World} {x1 x2 : Option Nat} {r2 : Nat} {rs : ByteArray → Option ByteArray} {cs : ByteArray → ByteArray → Option ByteArray} (hR : RulesIs w (.map x1) r2 rs) (hC : CrdsIs w (.map x2) cs) (c k : ByteArray) :
    ∃ (y : Option Nat) (s1 s2 : ByteArray) (ok : Bool), ∀ W : World, (∀ i, i < w.heap.size → W.heap[i]? = w.heap[i]?) →
      Sem.run Try.prog (Instr.lookup 28 (.map x2) (.string c) false) W = .ok (.agg #[.map y]) W ∧
      Sem.run Try.prog (Instr.lookup 27 (.map y) (.string k) true) W = .ok (.tuple #[.string s1, .bool ok]) W ∧
      Sem.run Try.prog (Instr.lookup 27 (.map x1) (.string k) false) W = .ok (.string s2) W ∧
      setOf rs cs c k = if ok = true then s1 else s2 := by
  have z53 : ∀ W, (zeroValue 53).run Try.prog W = .ok (.agg #[.map none]) W := fun W => by simp [go_sem]
  have z51 : ∀ W, (zeroValue 51).run Try.prog W = .ok (.string ⟨#[]⟩) W := fun W => by simp [go_sem]
  -- the rules
  have hr : ∃ s2 : ByteArray, (rs k).getD ⟨#[]⟩ = s2 ∧ ∀ W : World, (∀ i, i < w.heap.size → W.heap[i]? = w.heap[i]?) → Sem.run Try.prog (Instr.lookup 27 (.map x1) (.string k) false) W = .ok (.string s2) W := by
    rcases hR with ⟨e, h0⟩ | ⟨r, e, _, hm⟩
    · cases e
      refine ⟨⟨#[]⟩, by rw [h0]; rfl, fun W _ => ?_⟩
      exact lookup_nil Try.underlying27 Try.underlying41 (z51 W) k false
    · cases e
      refine ⟨(rs k).getD ⟨#[]⟩, rfl, fun W hW => ?_⟩
      have := (hm.of_block (hW r hm.lt)).lookup (P := Try.prog) Try.underlying27 Try.underlying41 (z51 W) k false
      rw [this]
      unfold strs
      cases rs k <;> rfl
  obtain ⟨s2, hs2, l3⟩ := hr
  -- the CRD's own
  have hc : ∃ (y : Option Nat) (s1 : ByteArray) (ok : Bool), (cs c k = if ok = true then some s1 else none) ∧ ∀ W : World, (∀ i, i < w.heap.size → W.heap[i]? = w.heap[i]?) →
      Sem.run Try.prog (Instr.lookup 28 (.map x2) (.string c) false) W = .ok (.agg #[.map y]) W ∧ Sem.run Try.prog (Instr.lookup 27 (.map y) (.string k) true) W = .ok (.tuple #[.string s1, .bool ok]) W := by
    rcases hC with ⟨e, h0⟩ | ⟨r, sub, e, hm⟩
    · cases e
      refine ⟨none, ⟨#[]⟩, false, by rw [h0]; rfl, fun W _ => ⟨?_, ?_⟩⟩
      · exact lookup_nil Try.underlying28 Try.underlying9 (z53 W) c false
      · exact lookup_nil Try.underlying27 Try.underlying41 (z51 W) k true
    · cases e
      rcases hsb : sub c with _ | g
      · refine ⟨none, ⟨#[]⟩, false, by rw [hm.away c hsb]; rfl, fun W hW => ⟨?_, ?_⟩⟩
        · have := (hm.top.of_block (hW r hm.top.lt)).lookup (P := Try.prog) Try.underlying28 Try.underlying9 (z53 W) c false
          rw [this, hsb]
          rfl
        · exact lookup_nil Try.underlying27 Try.underlying41 (z51 W) k true
      · have hg := hm.there c g hsb
        have ht : ∀ W : World, (∀ i, i < w.heap.size → W.heap[i]? = w.heap[i]?) → Sem.run Try.prog (Instr.lookup 28 (.map (some r)) (.string c) false) W = .ok (.agg #[.map (some g)]) W := fun W hW => by
          have := (hm.top.of_block (hW r hm.top.lt)).lookup (P := Try.prog) Try.underlying28 Try.underlying9 (z53 W) c false
          rw [this, hsb]
          rfl
        have hl := fun (W : World) (hW : ∀ i, i < w.heap.size → W.heap[i]? = w.heap[i]?) => (hg.of_block (hW g hg.lt)).lookup (P := Try.prog) Try.underlying27 Try.underlying41 (z51 W) k true
        rcases hck : cs c k with _ | s
        · refine ⟨some g, ⟨#[]⟩, false, rfl, fun W hW => ⟨ht W hW, ?_⟩⟩
          rw [hl W hW]
          unfold strs
          rw [hck]
          rfl
        · refine ⟨some g, s, true, rfl, fun W hW => ⟨ht W hW, ?_⟩⟩
          rw [hl W hW]
          unfold strs
          rw [hck]
          rfl
  obtain ⟨y, s1, ok, hcs, l12⟩ := hc
  refine ⟨y, s1, s2, ok, fun W hW => ⟨(l12 W hW).1, (l12 W hW).2, l3 W hW, ?_⟩⟩
  unfold setOf
  rw [hcs]
  cases ok
  · rw [← hs2]; rfl
  · rfl

theorem run_field53 (y : Option Nat) (W : World) : Sem.run Try.prog (Instr.field 53 (.agg #[.map y]) 0) W = .ok (.map y) W := by
  unfold Instr.field
  simp [run_underlying Try.underlying53, go_sem]
  rfl

theorem news2 (W : World) (o1 : Obj) (f : Fd) : ∀ j u, (fdList f)[j]? = some u →
    ((W.alloc o1).alloc (.cells #[.string f.verdict, .string f.rule, .string f.crd, .string f.version, .string f.path, .string f.detail] 44)).cell? (Addr.add ⟨W.heap.size + 1, 0, none⟩ j) = some u := by
  have e : W.heap.size + 1 = (W.alloc o1).heap.size := by simp
  rw [e]
  exact World.news_of_block (cs := #[.string f.verdict, .string f.rule, .string f.crd, .string f.version, .string f.path, .string f.detail]) (t := 44) (fr := (0, 0)) (heap_alloc_new _ _)

set_option maxRecDepth 100000 in
set_option maxHeartbeats 8000000 in
theorem apply8 (x1 x2 : Option Nat) (r2 : Nat) (a : Option Addr) (n cap : Nat) (F : Nat → Fd) (rs : ByteArray → Option ByteArray) (cs : ByteArray → ByteArray → Option ByteArray) (w : World)
    (hR : RulesIs w (.map x1) r2 rs) (hC : CrdsIs w (.map x2) cs) (hf : Fs w a n F) (hn : n ≤ 4096) :
    Calls Try.prog 8 #[.agg #[.map x1, .map x2], .slice a n cap] w fun e w' => ∃ v, e = .returned v ∧ Below w.heap.size w w' ∧
      w'.ownsRow (w.heap.size + 1) 44 6 v (applyL (setOf rs cs) F n).length (prefF (nth (applyL (setOf rs cs) F n)) (applyL (setOf rs cs) F n).length) := by
  have hlook := conf_look hR hC
  have HL : Hid (∀ c k, ∃ (y : Option Nat) (s1 s2 : ByteArray) (ok : Bool), ∀ W : World, (∀ i, i < w.heap.size → W.heap[i]? = w.heap[i]?) →
      Sem.run Try.prog (Instr.lookup 28 (.map x2) (.string c) false) W = .ok (.agg #[.map y]) W ∧
      Sem.run Try.prog (Instr.lookup 27 (.map y) (.string k) true) W = .ok (.tuple #[.string s1, .bool ok]) W ∧
      Sem.run Try.prog (Instr.lookup 27 (.map x1) (.string k) false) W = .ok (.string s2) W ∧
      setOf rs cs c k = if ok = true then s1 else s2) := hlook
  clear hlook hR hC
  go_enter Try.func8, Try.ntmps8
  go_wp2_with fail
  go_loopw [5, 12] (fun v i wr => ∃ j : Nat, i = .int .i64 j ∧ j ≤ n ∧ wr.ownsRow (w.heap.size + 1) 44 6 v (applyL (setOf rs cs) F j).length (prefF (nth (applyL (setOf rs cs) F j)) (applyL (setOf rs cs) F j).length) ∧ Below (w.heap.size + 1) (w.alloc (.cells #[.map x1, .map x2] 30)) wr) (fun _ i _ => n - (intOf i).toNat)
  case atStart =>
    exact ⟨0, rfl, by omega, World.ownsRow_nil _ _ _ _, Below.refl _ _⟩
  case round =>
    obtain ⟨j, rfl, hj, ho, hb⟩ := hrel
    have hbw : Below w.heap.size w wr := ((Below.refl _ w).alloc (Nat.le_refl _) _).trans (hb.mono (by omega))
    by_cases hlt : j < n
    · obtain ⟨b, off, rfl, hc0', hc1', hc2', hc3', hc4', hc5'⟩ := hf j hlt
      have hc0 := (hbw.cell (World.block_lt_of_cell? w _ hc0')).trans hc0'
      have hc1 := (hbw.cell (World.block_lt_of_cell? w _ hc1')).trans hc1'
      have hc2 := (hbw.cell (World.block_lt_of_cell? w _ hc2')).trans hc2'
      have hc3 := (hbw.cell (World.block_lt_of_cell? w _ hc3')).trans hc3'
      have hc4 := (hbw.cell (World.block_lt_of_cell? w _ hc4')).trans hc4'
      have hc5 := (hbw.cell (World.block_lt_of_cell? w _ hc5')).trans hc5'
      clear hc0' hc1' hc2' hc3' hc4' hc5' hf
      have hm0 : wr.cell? ⟨w.heap.size, 0, none⟩ = some (.map x1) := by
        rw [hb.cell (p := ⟨w.heap.size, 0, none⟩) (by show w.heap.size < w.heap.size + 1; omega)]; simp [go_sem]
      have hm1 : wr.cell? ⟨w.heap.size, 1, none⟩ = some (.map x2) := by
        rw [hb.cell (p := ⟨w.heap.size, 1, none⟩) (by show w.heap.size < w.heap.size + 1; omega)]; simp [go_sem]
      have hlw : w.heap.size < wr.heap.size := World.block_lt_of_cell? wr _ hm0
      have HA : Hid (applyL (setOf rs cs) F (j + 1) = applyL (setOf rs cs) F j ++ one (setOf rs cs) (F j)) := rfl
      have HLE := applyL_le (setOf rs cs) F j
      generalize applyL (setOf rs cs) F j = L at ho HA HLE
      generalize F j = f at *
      obtain ⟨y, s1, s2, ok, hlk⟩ := HL.out f.crd f.rule
      obtain ⟨l1, l2, l3, hset⟩ := hlk (wr.alloc (.cells #[.string f.verdict, .string f.rule, .string f.crd, .string f.version, .string f.path, .string f.detail] 44)) (fun i hi => by
        rw [Below.heap_alloc _ _ _ (by have := hbw.size; omega)]; exact hbw.block i hi)
      have lfd : Sem.run Try.prog (Instr.field 53 (.agg #[.map y]) 0) (wr.alloc (.cells #[.string f.verdict, .string f.rule, .string f.crd, .string f.version, .string f.path, .string f.detail] 44)) = .ok (.map y) (wr.alloc (.cells #[.string f.verdict, .string f.rule, .string f.crd, .string f.version, .string f.path, .string f.detail] 44)) := run_field53 _ _
      clear hlk HL
      have HSET : Hid (setOf rs cs f.crd f.rule = if ok = true then s1 else s2) := hset
      clear hset
      have hj0 : (0 : Int) ≤ (j : Int) := by omega
      have hj1 : (j : Int) < (n : Int) := by omega
      cases ok
      · by_cases h1 : s2 = ⟨#[111, 102, 102]⟩
        · subst h1
          go_wp2_with fail
          have HE : applyL (setOf rs cs) F (j + 1) = L := by
            rw [HA.out]; unfold one; rw [HSET.out]; simp [sOff]
          have hb2 := hb.alloc (by omega : w.heap.size + 1 ≤ wr.heap.size) (.cells #[.string f.verdict, .string f.rule, .string f.crd, .string f.version, .string f.path, .string f.detail] 44)
          go_roundw
          case rel => first | exact ⟨j + 1, by go_num, by omega, by rw [HE]; exact ho.alloc _, hb2⟩ | ((repeat apply Exists.intro); exact ⟨⟨j + 1, by go_num, by omega, by rw [HE]; exact ho.alloc _, hb2⟩, rfl⟩)
          case measure => simp [intOf]; omega
        by_cases h2 : s2 = ⟨#[98, 114, 101, 97, 107, 105, 110, 103]⟩
        · subst h2
          have HN := show Hid (_) from news2 wr (.cells #[.string (({ f with verdict := ⟨#[66, 82, 69, 65, 75, 73, 78, 71]⟩ } : Fd)).verdict, .string f.rule, .string f.crd, .string f.version, .string f.path, .string f.detail] 44) (({ f with verdict := ⟨#[66, 82, 69, 65, 75, 73, 78, 71]⟩ } : Fd))
          have HE : Hid (applyL (setOf rs cs) F (j + 1) = L ++ [({ f with verdict := ⟨#[66, 82, 69, 65, 75, 73, 78, 71]⟩ } : Fd)]) := by
            show _ = _
            rw [HA.out]; unfold one; rw [HSET.out]; simp [sOff, put1, verd, sBreaking, tBreaking]
          have hbz : w.heap.size + 1 ≤ wr.heap.size := by omega
          go_wp2_with (at_builtin; refine app44 rfl _ _ rfl (w.heap.size + 1) _ L.length (prefF (nth L) L.length) rfl ((ho.alloc _).alloc _) ⟨wr.heap.size + 1, 0, none⟩ 1 (({ f with verdict := ⟨#[66, 82, 69, 65, 75, 73, 78, 71]⟩ } : Fd)) rfl HN.out (by omega) (by simp; omega) ?_; intro g cap2 w2 hown2 hbel)
          have hb2 := hbel _ ((hb.alloc hbz _).alloc (by simp; omega) _)
          have HO : w2.ownsRow (w.heap.size + 1) 44 6 (.slice (some ⟨g, 0, none⟩) (L.length + 1) cap2) (L ++ [({ f with verdict := ⟨#[66, 82, 69, 65, 75, 73, 78, 71]⟩ } : Fd)]).length (prefF (nth (L ++ [({ f with verdict := ⟨#[66, 82, 69, 65, 75, 73, 78, 71]⟩ } : Fd)])) (L ++ [({ f with verdict := ⟨#[66, 82, 69, 65, 75, 73, 78, 71]⟩ } : Fd)]).length) := by
            rw [List.length_append, List.length_singleton, prefF_snoc]; exact hown2
          go_roundw
          case rel => first | exact ⟨j + 1, by go_num, by omega, by rw [HE.out]; exact HO, hb2⟩ | ((repeat apply Exists.intro); exact ⟨⟨j + 1, by go_num, by omega, by rw [HE.out]; exact HO, hb2⟩, rfl⟩)
          case measure => simp [intOf]; omega
        by_cases h3 : s2 = ⟨#[112, 101, 114, 109, 105, 116, 116, 101, 100]⟩
        · subst h3
          have HN := show Hid (_) from news2 wr (.cells #[.string (({ f with verdict := ⟨#[80, 69, 82, 77, 73, 84, 84, 69, 68]⟩ } : Fd)).verdict, .string f.rule, .string f.crd, .string f.version, .string f.path, .string f.detail] 44) (({ f with verdict := ⟨#[80, 69, 82, 77, 73, 84, 84, 69, 68]⟩ } : Fd))
          have HE : Hid (applyL (setOf rs cs) F (j + 1) = L ++ [({ f with verdict := ⟨#[80, 69, 82, 77, 73, 84, 84, 69, 68]⟩ } : Fd)]) := by
            show _ = _
            rw [HA.out]; unfold one; rw [HSET.out]; simp [sOff, put1, verd, sBreaking, sPermitted, tPermitted]
          have hbz : w.heap.size + 1 ≤ wr.heap.size := by omega
          go_wp2_with (at_builtin; refine app44 rfl _ _ rfl (w.heap.size + 1) _ L.length (prefF (nth L) L.length) rfl ((ho.alloc _).alloc _) ⟨wr.heap.size + 1, 0, none⟩ 1 (({ f with verdict := ⟨#[80, 69, 82, 77, 73, 84, 84, 69, 68]⟩ } : Fd)) rfl HN.out (by omega) (by simp; omega) ?_; intro g cap2 w2 hown2 hbel)
          have hb2 := hbel _ ((hb.alloc hbz _).alloc (by simp; omega) _)
          have HO : w2.ownsRow (w.heap.size + 1) 44 6 (.slice (some ⟨g, 0, none⟩) (L.length + 1) cap2) (L ++ [({ f with verdict := ⟨#[80, 69, 82, 77, 73, 84, 84, 69, 68]⟩ } : Fd)]).length (prefF (nth (L ++ [({ f with verdict := ⟨#[80, 69, 82, 77, 73, 84, 84, 69, 68]⟩ } : Fd)])) (L ++ [({ f with verdict := ⟨#[80, 69, 82, 77, 73, 84, 84, 69, 68]⟩ } : Fd)]).length) := by
            rw [List.length_append, List.length_singleton, prefF_snoc]; exact hown2
          go_roundw
          case rel => first | exact ⟨j + 1, by go_num, by omega, by rw [HE.out]; exact HO, hb2⟩ | ((repeat apply Exists.intro); exact ⟨⟨j + 1, by go_num, by omega, by rw [HE.out]; exact HO, hb2⟩, rfl⟩)
          case measure => simp [intOf]; omega
        · have g1 : (s2.toList == [111, 102, 102]) = false := by
            rw [← show ByteArray.toList ⟨#[111, 102, 102]⟩ = [111, 102, 102] by kernel_rfl]
            exact bytes_ne h1
          have g2 : (s2.toList == [98, 114, 101, 97, 107, 105, 110, 103]) = false := by
            rw [← show ByteArray.toList ⟨#[98, 114, 101, 97, 107, 105, 110, 103]⟩ = [98, 114, 101, 97, 107, 105, 110, 103] by kernel_rfl]
            exact bytes_ne h2
          have g3 : (s2.toList == [112, 101, 114, 109, 105, 116, 116, 101, 100]) = false := by
            rw [← show ByteArray.toList ⟨#[112, 101, 114, 109, 105, 116, 116, 101, 100]⟩ = [112, 101, 114, 109, 105, 116, 116, 101, 100] by kernel_rfl]
            exact bytes_ne h3
          have HN := show Hid (_) from news2 wr (.cells #[.string (f).verdict, .string f.rule, .string f.crd, .string f.version, .string f.path, .string f.detail] 44) (f)
          have HE : Hid (applyL (setOf rs cs) F (j + 1) = L ++ [f]) := by
            show _ = _
            rw [HA.out]; unfold one; rw [HSET.out]; simp [sOff, put1, verd, sBreaking, sPermitted, h1, h2, h3]
          have hbz : w.heap.size + 1 ≤ wr.heap.size := by omega
          go_wp2_with (at_builtin; refine app44 rfl _ _ rfl (w.heap.size + 1) _ L.length (prefF (nth L) L.length) rfl ((ho.alloc _).alloc _) ⟨wr.heap.size + 1, 0, none⟩ 1 (f) rfl HN.out (by omega) (by simp; omega) ?_; intro g cap2 w2 hown2 hbel)
          have hb2 := hbel _ ((hb.alloc hbz _).alloc (by simp; omega) _)
          have HO : w2.ownsRow (w.heap.size + 1) 44 6 (.slice (some ⟨g, 0, none⟩) (L.length + 1) cap2) (L ++ [f]).length (prefF (nth (L ++ [f])) (L ++ [f]).length) := by
            rw [List.length_append, List.length_singleton, prefF_snoc]; exact hown2
          go_roundw
          case rel => first | exact ⟨j + 1, by go_num, by omega, by rw [HE.out]; exact HO, hb2⟩ | ((repeat apply Exists.intro); exact ⟨⟨j + 1, by go_num, by omega, by rw [HE.out]; exact HO, hb2⟩, rfl⟩)
          case measure => simp [intOf]; omega
      · by_cases h1 : s1 = ⟨#[111, 102, 102]⟩
        · subst h1
          go_wp2_with fail
          have HE : applyL (setOf rs cs) F (j + 1) = L := by
            rw [HA.out]; unfold one; rw [HSET.out]; simp [sOff]
          have hb2 := hb.alloc (by omega : w.heap.size + 1 ≤ wr.heap.size) (.cells #[.string f.verdict, .string f.rule, .string f.crd, .string f.version, .string f.path, .string f.detail] 44)
          go_roundw
          case rel => first | exact ⟨j + 1, by go_num, by omega, by rw [HE]; exact ho.alloc _, hb2⟩ | ((repeat apply Exists.intro); exact ⟨⟨j + 1, by go_num, by omega, by rw [HE]; exact ho.alloc _, hb2⟩, rfl⟩)
          case measure => simp [intOf]; omega
        by_cases h2 : s1 = ⟨#[98, 114, 101, 97, 107, 105, 110, 103]⟩
        · subst h2
          have HN := show Hid (_) from news2 wr (.cells #[.string (({ f with verdict := ⟨#[66, 82, 69, 65, 75, 73, 78, 71]⟩ } : Fd)).verdict, .string f.rule, .string f.crd, .string f.version, .string f.path, .string f.detail] 44) (({ f with verdict := ⟨#[66, 82, 69, 65, 75, 73, 78, 71]⟩ } : Fd))
          have HE : Hid (applyL (setOf rs cs) F (j + 1) = L ++ [({ f with verdict := ⟨#[66, 82, 69, 65, 75, 73, 78, 71]⟩ } : Fd)]) := by
            show _ = _
            rw [HA.out]; unfold one; rw [HSET.out]; simp [sOff, put1, verd, sBreaking, tBreaking]
          have hbz : w.heap.size + 1 ≤ wr.heap.size := by omega
          go_wp2_with (at_builtin; refine app44 rfl _ _ rfl (w.heap.size + 1) _ L.length (prefF (nth L) L.length) rfl ((ho.alloc _).alloc _) ⟨wr.heap.size + 1, 0, none⟩ 1 (({ f with verdict := ⟨#[66, 82, 69, 65, 75, 73, 78, 71]⟩ } : Fd)) rfl HN.out (by omega) (by simp; omega) ?_; intro g cap2 w2 hown2 hbel)
          have hb2 := hbel _ ((hb.alloc hbz _).alloc (by simp; omega) _)
          have HO : w2.ownsRow (w.heap.size + 1) 44 6 (.slice (some ⟨g, 0, none⟩) (L.length + 1) cap2) (L ++ [({ f with verdict := ⟨#[66, 82, 69, 65, 75, 73, 78, 71]⟩ } : Fd)]).length (prefF (nth (L ++ [({ f with verdict := ⟨#[66, 82, 69, 65, 75, 73, 78, 71]⟩ } : Fd)])) (L ++ [({ f with verdict := ⟨#[66, 82, 69, 65, 75, 73, 78, 71]⟩ } : Fd)]).length) := by
            rw [List.length_append, List.length_singleton, prefF_snoc]; exact hown2
          go_roundw
          case rel => first | exact ⟨j + 1, by go_num, by omega, by rw [HE.out]; exact HO, hb2⟩ | ((repeat apply Exists.intro); exact ⟨⟨j + 1, by go_num, by omega, by rw [HE.out]; exact HO, hb2⟩, rfl⟩)
          case measure => simp [intOf]; omega
        by_cases h3 : s1 = ⟨#[112, 101, 114, 109, 105, 116, 116, 101, 100]⟩
        · subst h3
          have HN := show Hid (_) from news2 wr (.cells #[.string (({ f with verdict := ⟨#[80, 69, 82, 77, 73, 84, 84, 69, 68]⟩ } : Fd)).verdict, .string f.rule, .string f.crd, .string f.version, .string f.path, .string f.detail] 44) (({ f with verdict := ⟨#[80, 69, 82, 77, 73, 84, 84, 69, 68]⟩ } : Fd))
          have HE : Hid (applyL (setOf rs cs) F (j + 1) = L ++ [({ f with verdict := ⟨#[80, 69, 82, 77, 73, 84, 84, 69, 68]⟩ } : Fd)]) := by
            show _ = _
            rw [HA.out]; unfold one; rw [HSET.out]; simp [sOff, put1, verd, sBreaking, sPermitted, tPermitted]
          have hbz : w.heap.size + 1 ≤ wr.heap.size := by omega
          go_wp2_with (at_builtin; refine app44 rfl _ _ rfl (w.heap.size + 1) _ L.length (prefF (nth L) L.length) rfl ((ho.alloc _).alloc _) ⟨wr.heap.size + 1, 0, none⟩ 1 (({ f with verdict := ⟨#[80, 69, 82, 77, 73, 84, 84, 69, 68]⟩ } : Fd)) rfl HN.out (by omega) (by simp; omega) ?_; intro g cap2 w2 hown2 hbel)
          have hb2 := hbel _ ((hb.alloc hbz _).alloc (by simp; omega) _)
          have HO : w2.ownsRow (w.heap.size + 1) 44 6 (.slice (some ⟨g, 0, none⟩) (L.length + 1) cap2) (L ++ [({ f with verdict := ⟨#[80, 69, 82, 77, 73, 84, 84, 69, 68]⟩ } : Fd)]).length (prefF (nth (L ++ [({ f with verdict := ⟨#[80, 69, 82, 77, 73, 84, 84, 69, 68]⟩ } : Fd)])) (L ++ [({ f with verdict := ⟨#[80, 69, 82, 77, 73, 84, 84, 69, 68]⟩ } : Fd)]).length) := by
            rw [List.length_append, List.length_singleton, prefF_snoc]; exact hown2
          go_roundw
          case rel => first | exact ⟨j + 1, by go_num, by omega, by rw [HE.out]; exact HO, hb2⟩ | ((repeat apply Exists.intro); exact ⟨⟨j + 1, by go_num, by omega, by rw [HE.out]; exact HO, hb2⟩, rfl⟩)
          case measure => simp [intOf]; omega
        · have g1 : (s1.toList == [111, 102, 102]) = false := by
            rw [← show ByteArray.toList ⟨#[111, 102, 102]⟩ = [111, 102, 102] by kernel_rfl]
            exact bytes_ne h1
          have g2 : (s1.toList == [98, 114, 101, 97, 107, 105, 110, 103]) = false := by
            rw [← show ByteArray.toList ⟨#[98, 114, 101, 97, 107, 105, 110, 103]⟩ = [98, 114, 101, 97, 107, 105, 110, 103] by kernel_rfl]
            exact bytes_ne h2
          have g3 : (s1.toList == [112, 101, 114, 109, 105, 116, 116, 101, 100]) = false := by
            rw [← show ByteArray.toList ⟨#[112, 101, 114, 109, 105, 116, 116, 101, 100]⟩ = [112, 101, 114, 109, 105, 116, 116, 101, 100] by kernel_rfl]
            exact bytes_ne h3
          have HN := show Hid (_) from news2 wr (.cells #[.string (f).verdict, .string f.rule, .string f.crd, .string f.version, .string f.path, .string f.detail] 44) (f)
          have HE : Hid (applyL (setOf rs cs) F (j + 1) = L ++ [f]) := by
            show _ = _
            rw [HA.out]; unfold one; rw [HSET.out]; simp [sOff, put1, verd, sBreaking, sPermitted, h1, h2, h3]
          have hbz : w.heap.size + 1 ≤ wr.heap.size := by omega
          go_wp2_with (at_builtin; refine app44 rfl _ _ rfl (w.heap.size + 1) _ L.length (prefF (nth L) L.length) rfl ((ho.alloc _).alloc _) ⟨wr.heap.size + 1, 0, none⟩ 1 (f) rfl HN.out (by omega) (by simp; omega) ?_; intro g cap2 w2 hown2 hbel)
          have hb2 := hbel _ ((hb.alloc hbz _).alloc (by simp; omega) _)
          have HO : w2.ownsRow (w.heap.size + 1) 44 6 (.slice (some ⟨g, 0, none⟩) (L.length + 1) cap2) (L ++ [f]).length (prefF (nth (L ++ [f])) (L ++ [f]).length) := by
            rw [List.length_append, List.length_singleton, prefF_snoc]; exact hown2
          go_roundw
          case rel => first | exact ⟨j + 1, by go_num, by omega, by rw [HE.out]; exact HO, hb2⟩ | ((repeat apply Exists.intro); exact ⟨⟨j + 1, by go_num, by omega, by rw [HE.out]; exact HO, hb2⟩, rfl⟩)
          case measure => simp [intOf]; omega
    · obtain rfl : j = n := by omega
      go_wp2
      go_ret
      exact ⟨_, rfl, hbw, ho⟩
end Go.Proofs.Qxb6634845a
