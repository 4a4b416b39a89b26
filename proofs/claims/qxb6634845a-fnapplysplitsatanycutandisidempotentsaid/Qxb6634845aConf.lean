/-
  zzBuildConfig (7).
-/
import Derived.Test.Qxb6634845aMaps
import Derived.Deep.RegionHeld3
import Derived.Deep.MidRow
import Derived.Deep.DrawnRows
namespace Go.Proofs.Qxb6634845a
open Go.RowKit Go.MapKept
set_option linter.unusedVariables false

/-- The value of the last of the first j rows for rule k. -/
def lastR (R V : Nat → ByteArray) : Nat → ByteArray → Option ByteArray
  | 0, _ => none
  | j + 1, k => if k = R j then some (V j) else lastR R V j k

/-- .. for CRD c and rule k. -/
def lastK (C K L : Nat → ByteArray) : Nat → ByteArray → ByteArray → Option ByteArray
  | 0, _, _ => none
  | j + 1, c, k => if c = C j ∧ k = K j then some (L j) else lastK C K L j c k

def strs (f : ByteArray → Option ByteArray) (k : ByteArray) : Option Value := (f k).map .string

/-- A cell that may be written. -/
structure At (w : World) (b o : Nat) (v : Value) : Prop where
  cell : w.cell? ⟨b, o, none⟩ = some v
  free : w.frozen? ⟨b, o, none⟩ = false

theorem At.lt {w : World} {b o : Nat} {v : Value} (h : At w b o v) : b < w.heap.size := World.block_lt_of_cell? w _ h.cell
theorem At.of_block {w w' : World} {b o : Nat} {v : Value} (h : At w b o v) (e : w'.heap[b]? = w.heap[b]?) : At w' b o v :=
  ⟨(World.cell?_of_block (w := w) (a := ⟨b, o, none⟩) e).trans h.cell, (World.frozen?_of_block (w := w) (a := ⟨b, o, none⟩) e).trans h.free⟩
theorem At.later {w w' : World} {b o B : Nat} {v : Value} (h : At w b o v) (hb : Below B w w') (hB : b < B) : At w' b o v := h.of_block (hb.block b hB)
theorem At.turned {w w' : World} {b o r : Nat} {v : Value} (h : At w b o v) (ht : Turned w w' r) : At w' b o v := by
  refine h.of_block (ht.block fun e => ?_)
  obtain ⟨es, clock, es', clock', hb, rfl⟩ := ht
  subst e
  have := h.cell
  unfold World.cell? at this
  simp [hb] at this

theorem At.alloc {w : World} {b o : Nat} {v : Value} (h : At w b o v) (ob : Obj) : At (w.alloc ob) b o v := h.of_block (Below.heap_alloc w ob b h.lt)
theorem At.put {w : World} {b o : Nat} {v : Value} (h : At w b o v) (u : Value) : At (w.setCell ⟨b, o, none⟩ u) b o u := ⟨World.cell?_setCell_same w _ u h.cell, by rw [World.frozen?_setCell]; exact h.free⟩
theorem At.other {w : World} {b o : Nat} {v : Value} (h : At w b o v) (b2 o2 : Nat) (u : Value) (hne : b2 ≠ b ∨ o2 ≠ o) : At (w.setCell ⟨b2, o2, none⟩ u) b o v :=
  ⟨(World.cell?_setCell_other w ⟨b2, o2, none⟩ ⟨b, o, none⟩ u (by intro e; simp at e; omega)).trans h.cell, by rw [World.frozen?_setCell]; exact h.free⟩
theorem At.drew {w : World} {b o : Nat} {v : Value} (h : At w b o v) : At w.drew b o v := ⟨h.1, h.2⟩

/-- The two blocks of zzBuildConfig: her result, and her local c. -/
structure Cfg (w : World) (B : Nat) (m1 m2 : Value) : Prop where
  r0 : At w B 0 (.map none)
  r1 : At w B 1 (.map none)
  c0 : At w (B + 1) 0 m1
  c1 : At w (B + 1) 1 m2

theorem Cfg.turned {w w' : World} {B r : Nat} {m1 m2 : Value} (h : Cfg w B m1 m2) (ht : Turned w w' r) : Cfg w' B m1 m2 := ⟨h.r0.turned ht, h.r1.turned ht, h.c0.turned ht, h.c1.turned ht⟩

theorem lastR_succ (R V : Nat → ByteArray) (j : Nat) : setKey (strs (lastR R V j)) (R j) (.string (V j)) = strs (lastR R V (j + 1)) := by
  funext k
  unfold setKey strs
  rw [lastR]
  by_cases h : k = R j
  · rw [if_pos h, if_pos h]; rfl
  · rw [if_neg h, if_neg h]

theorem MapIs.made' (w : World) (g : Nat) (hg : g = w.heap.size) : MapIs (w.alloc (.map #[] 0)) g (fun _ => none) := by
  subst hg; exact MapIs.made w

theorem Cfg.drew {w : World} {B : Nat} {m1 m2 : Value} (h : Cfg w B m1 m2) : Cfg w.drew B m1 m2 := ⟨h.r0.drew, h.r1.drew, h.c0.drew, h.c1.drew⟩
theorem Cfg.alloc {w : World} {B : Nat} {m1 m2 : Value} (h : Cfg w B m1 m2) (ob : Obj) : Cfg (w.alloc ob) B m1 m2 := ⟨h.r0.alloc ob, h.r1.alloc ob, h.c0.alloc ob, h.c1.alloc ob⟩

/-- The map of the CRDs: block r2; CRD c's rules lie in block 'sub c'. -/
structure Two (w : World) (r2 : Nat) (sub : ByteArray → Option Nat) (cs : ByteArray → ByteArray → Option ByteArray) : Prop where
  top : MapIs w r2 (fun c => (sub c).map fun b => .agg #[.map (some b)])
  above : ∀ c b, sub c = some b → r2 < b
  inj : ∀ c c' b, sub c = some b → sub c' = some b → c = c'
  there : ∀ c b, sub c = some b → MapIs w b (strs (cs c))
  away : ∀ c, sub c = none → ∀ k, cs c k = none

/-- The rules' map, or nil where there are none. -/
def RulesIs (w : World) (m : Value) (r2 : Nat) (f : ByteArray → Option ByteArray) : Prop :=
  (m = .map none ∧ ∀ k, f k = none) ∨ ∃ r, m = .map (some r) ∧ r < r2 ∧ MapIs w r (strs f)

def CrdsIs (w : World) (m : Value) (cs : ByteArray → ByteArray → Option ByteArray) : Prop :=
  (m = .map none ∧ ∀ c k, cs c k = none) ∨ ∃ r2 sub, m = .map (some r2) ∧ Two w r2 sub cs

theorem RulesIs.one {w : World} {m : Value} {r2 : Nat} {f : ByteArray → Option ByteArray} (h : RulesIs w m r2 f) : ∃ x, m = .map x := by
  rcases h with ⟨rfl, _⟩ | ⟨r, rfl, _⟩ <;> exact ⟨_, rfl⟩

theorem RulesIs.of_blocks {w w' : World} {m : Value} {r2 r2' : Nat} {f : ByteArray → Option ByteArray} (h : RulesIs w m r2 f) (hb : ∀ k, k < r2 → w'.heap[k]? = w.heap[k]?) (hr : r2 ≤ r2') : RulesIs w' m r2' f := by
  rcases h with h | ⟨r, rfl, hlt, hm⟩
  · exact .inl h
  · exact .inr ⟨r, rfl, by omega, hm.of_block (hb r hlt)⟩

theorem lastK_other (C K L : Nat → ByteArray) (t : Nat) (c : ByteArray) (h : c ≠ C t) : lastK C K L (t + 1) c = lastK C K L t c := by
  funext k
  rw [lastK, if_neg (fun e => h e.1)]

theorem lastK_same (C K L : Nat → ByteArray) (t : Nat) : strs (lastK C K L (t + 1) (C t)) = setKey (strs (lastK C K L t (C t))) (K t) (.string (L t)) := by
  funext k
  unfold setKey strs
  rw [lastK]
  by_cases h : k = K t
  · rw [if_pos h, if_pos ⟨rfl, h⟩]; rfl
  · rw [if_neg h, if_neg (fun e => h e.2)]

theorem Two.step {wr W1 w3 w4 : World} {r2 t g : Nat} {sub : ByteArray → Option Nat} {C K L : Nat → ByteArray} (h : Two wr r2 sub (lastK C K L t)) (hW : ∀ k, k < wr.heap.size → W1.heap[k]? = wr.heap[k]?)
    (hg : sub (C t) = some g ∨ (sub (C t) = none ∧ wr.heap.size ≤ g)) (u1 : Turned W1 w3 g) (m3 : MapIs w3 g (setKey (strs (lastK C K L t (C t))) (K t) (.string (L t)))) (u2 : Turned w3 w4 r2)
    (m4 : MapIs w4 r2 (setKey (fun c => (sub c).map fun b => .agg #[.map (some b)]) (C t) (.agg #[.map (some g)]))) : Two w4 r2 (fun c => if c = C t then some g else sub c) (lastK C K L (t + 1)) := by
  have hr := h.top.lt
  have hgr : r2 < g := by
    rcases hg with hg | hg
    · exact h.above _ _ hg
    · omega
  have hne : ∀ c b, c ≠ C t → sub c = some b → b ≠ g := by
    rintro c b hc hb rfl
    rcases hg with hg | hg
    · exact hc (h.inj _ _ _ hb hg)
    · have := (h.there c b hb).lt
      omega
  refine ⟨?_, ?_, ?_, ?_, ?_⟩
  · have e : (fun c => (if c = C t then some g else sub c).map fun b => Value.agg #[.map (some b)]) = setKey (fun c => (sub c).map fun b => .agg #[.map (some b)]) (C t) (.agg #[.map (some g)]) := by
      funext c
      unfold setKey
      by_cases hc : c = C t
      · rw [if_pos hc, if_pos hc]; rfl
      · rw [if_neg hc, if_neg hc]
    rw [e]
    exact m4
  · intro c b hb
    by_cases hc : c = C t
    · rw [if_pos hc] at hb; cases hb; exact hgr
    · rw [if_neg hc] at hb; exact h.above _ _ hb
  · intro c c' b hb hb'
    by_cases hc : c = C t
    · by_cases hc' : c' = C t
      · rw [hc, hc']
      · rw [if_pos hc] at hb; rw [if_neg hc'] at hb'; cases hb
        exact absurd rfl (hne c' g hc' hb')
    · by_cases hc' : c' = C t
      · rw [if_neg hc] at hb; rw [if_pos hc'] at hb'; cases hb'
        exact absurd rfl (hne c g hc hb)
      · rw [if_neg hc] at hb; rw [if_neg hc'] at hb'
        exact h.inj _ _ _ hb hb'
  · intro c b hb
    by_cases hc : c = C t
    · rw [if_pos hc] at hb; cases hb
      subst hc
      rw [lastK_same]
      exact m3.of_block (u2.block (by omega))
    · rw [if_neg hc] at hb
      rw [lastK_other _ _ _ _ _ hc]
      have hm := h.there c b hb
      have := h.above c b hb
      exact hm.of_block ((u2.block (by omega)).trans ((u1.block (hne c b hc hb)).trans (hW b hm.lt)))
  · intro c hc k
    by_cases hcc : c = C t
    · rw [if_pos hcc] at hc; cases hc
    · rw [if_neg hcc] at hc
      rw [lastK_other _ _ _ _ _ hcc]
      exact h.away c hc k

theorem MapIs.ne {w : World} {r b o : Nat} {f : ByteArray → Option Value} {v : Value} (h : MapIs w r f) (ha : At w b o v) : r ≠ b := by
  rintro rfl
  obtain ⟨es, clock, hbk, _⟩ := h
  have := ha.cell
  unfold World.cell? at this
  simp [hbk] at this

theorem Two.put2 {w : World} {r2 b : Nat} {u v x : Value} {sub : ByteArray → Option Nat} {cs : ByteArray → ByteArray → Option ByteArray} (h : Two w r2 sub cs) (ha : At w b 0 x) (o1 o2 : Nat) : Two ((w.setCell ⟨b, o1, none⟩ u).setCell ⟨b, o2, none⟩ v) r2 sub cs := by
  have key : ∀ r f, MapIs w r f → MapIs ((w.setCell ⟨b, o1, none⟩ u).setCell ⟨b, o2, none⟩ v) r f := fun r f hm => by
    have := hm.ne ha
    exact hm.of_block (by rw [Below.heap_setCell _ _ _ _ this, Below.heap_setCell _ _ _ _ this])
  exact ⟨key _ _ h.top, h.above, h.inj, fun c b hb => key _ _ (h.there c b hb), h.away⟩

theorem RulesIs.put2 {w : World} {m : Value} {r2 r2' b : Nat} {u v x : Value} {f : ByteArray → Option ByteArray} (h : RulesIs w m r2 f) (ha : At w b 0 x) (o1 o2 : Nat) (hr : r2 ≤ r2') : RulesIs ((w.setCell ⟨b, o1, none⟩ u).setCell ⟨b, o2, none⟩ v) m r2' f := by
  rcases h with h | ⟨r, hr1, hr2, hr3⟩
  · exact .inl h
  · have := hr3.ne ha
    exact .inr ⟨r, hr1, by omega, hr3.of_block (by rw [Below.heap_setCell _ _ _ _ this, Below.heap_setCell _ _ _ _ this])⟩

set_option maxRecDepth 100000 in
set_option maxHeartbeats 4000000 in
theorem conf_rules (a b' : Option Addr) (n nk cap cap2 : Nat) (R V C K L : Nat → ByteArray) (w : World) (hr : Ru w a n R V) (hk : Kr w b' nk C K L) (hn : n ≤ 4096) (hnk : nk ≤ 4096) (h0 : 0 < n) :
    Calls Try.prog 7 #[.slice a n cap, .slice b' nk cap2] w fun e w' => ∃ m1 m2, e = .returned (.agg #[m1, m2]) ∧ Below w.heap.size w w' ∧ RulesIs w' m1 w'.heap.size (lastR R V n) ∧ CrdsIs w' m2 (lastK C K L nk) := by
  have hmm := @run_makeMap Try.prog
  have hrm : ∀ {w' : World}, Below w.heap.size w w' → Ru w' a n R V := fun {w'} hb i hi => by
    obtain ⟨b, off, e, h0, h1⟩ := hr i hi
    exact ⟨b, off, e, (hb.cell (World.block_lt_of_cell? w _ h0)).trans h0, (hb.cell (World.block_lt_of_cell? w _ h1)).trans h1⟩
  go_enter Try.func7, Try.ntmps7
  go_wp2_with fail
  go_loopw [6] (fun i wr => ∃ j : Nat, i = .int .i64 j ∧ j ≤ n ∧ Below w.heap.size w wr ∧ Cfg wr w.heap.size (.map (some (w.heap.size + 1 + 1))) (.map none) ∧ MapIs wr (w.heap.size + 1 + 1) (strs (lastR R V j))) (fun i _ => n - (intOf i).toNat)
  case atStart =>
    refine ⟨0, rfl, by omega, ?_, ⟨⟨by simp [go_sem], by simp [go_sem]⟩, ⟨by simp [go_sem], by simp [go_sem]⟩, ⟨by simp [go_sem], by simp [go_sem]⟩, ⟨by simp [go_sem], by simp [go_sem]⟩⟩, ?_⟩
    · exact (((Below.refl _ w).alloc (Nat.le_refl _) _).alloc (by simp) _).alloc (by simp; omega) _
    · exact MapIs.made' _ _ (by simp)
  case round =>
    obtain ⟨j, rfl, hj, hb, hcf, hmp⟩ := hrel
    clear hmm
    by_cases hlt : j < n
    · obtain ⟨b, off, rfl, hc0, hc1⟩ := hrm hb j hlt
      clear hr hk hrm
      have hj0 : (0 : Int) ≤ (j : Int) := by omega
      have hj1 : (j : Int) < (n : Int) := by omega
      obtain ⟨w2, hup, hmp2, htu⟩ := hmp.update Try.underlying27 Try.underlying41 (R j) (.string (V j))
      have hcc := hcf.c0.cell
      have e1 : Sem.run Try.prog (Instr.mapUpdate 27 (.map (some (w.heap.size + 1 + 1))) (.string (R j)) (.string (V j))) wr.drew = .ok () w2.drew := hup 1
      have hd0 := htu.cell hc0
      have hd1 := htu.cell hc1
      have hdc := htu.cell hcc
      go_wp2_with fail
      go_region_held3 (fun w' => w'.cell? ⟨w.heap.size + 1, 0, none⟩ = some (.map (some (w.heap.size + 1 + 1))) ∧ w'.cell? ⟨b, off + j * 2, none⟩ = some (.string (R j)) ∧ w'.cell? ⟨b, off + j * 2 + 1, none⟩ = some (.string (V j))) (go_keep) (fail)
      all_goals
        go_wp2
        exact ⟨⟨j + 1, by go_num, by omega, (htu.below hb (by omega)).drew, (hcf.turned htu).drew, by rw [← lastR_succ]; exact hmp2⟩, by simp [intOf]; omega⟩
    · obtain rfl : j = n := by omega
      have hm1 : RulesIs wr (.map (some (w.heap.size + 1 + 1))) wr.heap.size (lastR R V j) := .inr ⟨_, rfl, hmp.lt, hmp⟩
      generalize Value.map (some (w.heap.size + 1 + 1)) = m1 at hm1 hcf ⊢
      clear hmp hr hrm
      have hmm := @run_makeMap Try.prog
      by_cases hk0 : nk = 0
      · subst hk0
        have hs0 := hcf.c0.cell
        have hs1 := hcf.c1.cell
        have hs2 := hcf.r0.cell
        have hs3 := hcf.r1.cell
        have hs4 := hcf.r0.free
        have hs5 := hcf.r1.free
        obtain ⟨x1, rfl⟩ := hm1.one
        go_wp2
        have A0 := (hcf.r0.put (.map x1)).other w.heap.size 1 (.map none) (.inr (by omega))
        have A1 := (hcf.r1.other w.heap.size 0 (.map x1) (.inr (by omega))).put (.map none)
        have q0 := A0.cell
        have q1 := A1.cell
        refine bodyPost_ret (v := .agg #[.map x1, .map none]) (by simp [results, Try.results7, go_sem, q0, q1]) rfl ⟨_, _, rfl, (hb.setCell (Nat.le_refl _) _).setCell (Nat.le_refl _) _, ?_, .inl ⟨rfl, fun _ _ => rfl⟩⟩
        exact hm1.put2 hcf.r0 0 1 (by simp [World.setCell])
      · have D0 := hcf.c1.alloc (.map #[] 0)
        have hs1 := D0.cell
        have hs2 := D0.free
        have hk1 : 0 < nk := by omega
        have hB1 := hcf.c1.lt
        rename World => wo
        go_wp2_with fail
        go_loopw [7] (fun i wr' => ∃ (t : Nat) (sub : ByteArray → Option Nat), i = .int .i64 t ∧ t ≤ nk ∧ Below w.heap.size w wr' ∧ Cfg wr' w.heap.size m1 (.map (some wo.heap.size)) ∧ RulesIs wr' m1 wo.heap.size (lastR R V j) ∧ Two wr' wo.heap.size sub (lastK C K L t)) (fun i _ => nk - (intOf i).toNat)
        case atStart =>
          refine ⟨0, fun _ => none, rfl, by omega, (hb.setCell (p := ⟨w.heap.size + 1, 1, none⟩) (by show w.heap.size ≤ w.heap.size + 1; omega) _).alloc (by simp [World.setCell]; omega) _, ⟨?_, ?_, ?_, ?_⟩, ?_, ⟨?_, ?_, ?_, ?_, ?_⟩⟩
          · exact (hcf.r0.other _ _ _ (.inl (by omega))).alloc _
          · exact (hcf.r1.other _ _ _ (.inl (by omega))).alloc _
          · exact (hcf.c0.other _ _ _ (.inr (by omega))).alloc _
          · exact (hcf.c1.put _).alloc _
          · rcases hm1 with h | ⟨r, hr1, hr2, hr3⟩
            · exact .inl h
            · refine .inr ⟨r, hr1, hr2, hr3.of_block ?_⟩
              have := hr3.ne hcf.c0
              rw [Below.heap_alloc _ _ _ (by simp [World.setCell]; omega), Below.heap_setCell _ _ _ _ this]
          · exact MapIs.made' _ _ (by simp [World.setCell])
          · intro c b h; cases h
          · intro c c' b h; cases h
          · intro c b h; cases h
          · intro c h k; rfl
        case round =>
          obtain ⟨t, sub, rfl, ht, hb2, hcf2, hru, hcr⟩ := hrel
          clear D0 hs1 hs2
          by_cases hlt2 : t < nk
          · obtain ⟨b, off, rfl, hc0', hc1', hc2'⟩ := hk t hlt2
            have hc0 := (hb2.cell (World.block_lt_of_cell? w _ hc0')).trans hc0'
            have hc1 := (hb2.cell (World.block_lt_of_cell? w _ hc1')).trans hc1'
            have hc2 := (hb2.cell (World.block_lt_of_cell? w _ hc2')).trans hc2'
            clear hc0' hc1' hc2' hk hm1 hcf
            have hj0 : (0 : Int) ≤ (t : Int) := by omega
            have hj1 : (t : Int) < (nk : Int) := by omega
            have hcc := hcf2.c1.cell
            rcases hsb : sub (C t) with _ | g
            · have look : ∀ W, MapIs W wo.heap.size (fun c => (sub c).map fun b => .agg #[.map (some b)]) → Sem.run Try.prog (Instr.lookup 28 (.map (some wo.heap.size)) (.string (C t)) false) W = .ok (.agg #[.map none]) W := by
                intro W hW
                have := hW.lookup (P := Try.prog) Try.underlying28 Try.underlying9 (z := .agg #[.map none]) (by simp [go_sem]) (C t) false
                rw [hsb] at this
                exact this
              have l1 := look wr.drew hcr.top
              have l2 := look (wr.alloc (.cells #[.map none] 53)).drew (hcr.top.of_block (Below.heap_alloc _ _ _ hcr.top.lt))
              clear look
              have heq : Sem.run Try.prog (binOp .eql 27 (.map none) (.map none)) (wr.alloc (.cells #[.map none] 53)).drew = .ok (.bool true) (wr.alloc (.cells #[.map none] 53)).drew := run_eql_map_nil _ 27 _ _ none Try.underlying27
              go_wp2_with fail
              go_region_held3 (fun w' => w'.cell? ⟨w.heap.size + 1, 1, none⟩ = some (.map (some wo.heap.size)) ∧ w'.cell? ⟨b, off + t * 3, none⟩ = some (.string (C t))) (go_keep) (fail)
              all_goals
                go_wp2_with fail
                clear l1 l2 heq hcc
                obtain ⟨W1, hW1⟩ : ∃ W, W = (wr.alloc (Obj.cells #[Value.map (some (wr.heap.size + 1))] 53)).alloc (Obj.map #[] 0) := ⟨_, rfl⟩
                have F1 : Below w.heap.size w W1 := by rw [hW1]; exact (hb2.alloc hb2.size _).alloc (by have := hb2.size; simp; omega) _
                have F2 : Cfg W1 w.heap.size m1 (.map (some wo.heap.size)) := by rw [hW1]; exact (hcf2.alloc _).alloc _
                have F3 : W1.cell? ⟨wr.heap.size, 0, none⟩ = some (.map (some (wr.heap.size + 1))) := by rw [hW1]; simp [go_sem]
                have F4 : ∀ k, k < wr.heap.size → W1.heap[k]? = wr.heap[k]? := by
                  intro k hk; rw [hW1, Below.heap_alloc _ _ _ (by simp; omega), Below.heap_alloc _ _ _ hk]
                have F5 : MapIs W1 (wr.heap.size + 1) (strs (lastK C K L t (C t))) := by
                  rw [hW1, show strs (lastK C K L t (C t)) = fun _ => none from funext fun k => by unfold strs; rw [hcr.away _ hsb]; rfl]
                  exact MapIs.made' _ _ (by simp)
                have F6 : sub (C t) = some (wr.heap.size + 1) ∨ (sub (C t) = none ∧ wr.heap.size ≤ wr.heap.size + 1) := .inr ⟨hsb, by omega⟩
                have FZ : w.heap.size ≤ wr.heap.size + 1 := by have := hb2.size; omega
                rw [← hW1]
                clear hW1
                generalize wr.heap.size + 1 = g at F3 F5 F6 FZ ⊢
                have d0 := (World.cell?_of_block (w := wr) (a := ⟨b, off + t * 3, none⟩) (F4 b (World.block_lt_of_cell? wr _ hc0))).trans hc0
                have d1 := (World.cell?_of_block (w := wr) (a := ⟨b, off + t * 3 + 1, none⟩) (F4 b (World.block_lt_of_cell? wr _ hc0))).trans hc1
                have d2 := (World.cell?_of_block (w := wr) (a := ⟨b, off + t * 3 + 2, none⟩) (F4 b (World.block_lt_of_cell? wr _ hc0))).trans hc2
                obtain ⟨w3, hup, m3, u1⟩ := F5.update Try.underlying27 Try.underlying41 (K t) (.string (L t))
                have e1 : Sem.run Try.prog (Instr.mapUpdate 27 (.map (some g)) (.string (K t)) (.string (L t))) W1.drew.drew = .ok () w3.drew.drew := hup 2
                have i0 := u1.cell d0
                have i1 := u1.cell d1
                have i2 := u1.cell d2
                have i3 := u1.cell F3
                have hgne : wo.heap.size ≠ g := by
                  rcases F6 with h | h
                  · have := hcr.above _ _ h; omega
                  · have := hcr.top.lt; omega
                have F8 : MapIs w3 wo.heap.size (fun c => (sub c).map fun b => .agg #[.map (some b)]) := hcr.top.of_block ((u1.block hgne).trans (F4 _ hcr.top.lt))
                have G2 := F2.turned u1
                have i4 := G2.c1.cell
                obtain ⟨w4, hup2, m4, u2⟩ := F8.update Try.underlying28 Try.underlying9 (C t) (.agg #[.map (some g)])
                have e2 : Sem.run Try.prog (Instr.mapUpdate 28 (.map (some wo.heap.size)) (.string (C t)) (.agg #[.map (some g)])) w3.drew.drew.drew = .ok () w4.drew.drew.drew := hup2 3
                have k0 := u2.cell i0
                have k1 := u2.cell i3
                have k2 := u2.cell i4
                have G3 := G2.turned u2
                have G4 := hcr.step F4 F6 u1 m3 u2 m4
                have G5 := u2.below (u1.below F1 FZ) hb.size
                have hgk : ∀ k, k < wo.heap.size → k ≠ g := by
                  intro k hk
                  rcases F6 with h | h
                  · have := hcr.above _ _ h; omega
                  · have := hcr.top.lt; omega
                have G6 : RulesIs w4 m1 wo.heap.size (lastR R V j) := hru.of_blocks (fun k hk => (u2.block (by omega)).trans ((u1.block (hgk k hk)).trans (F4 k (by have := hcr.top.lt; omega)))) (Nat.le_refl _)
                clear hgk
                have H2 : Hid (Cfg w4 w.heap.size m1 (.map (some wo.heap.size))) := G3
                have H4 : Hid (Two w4 wo.heap.size (fun c => if c = C t then some g else sub c) (lastK C K L (t + 1))) := G4
                have H6 : Hid (RulesIs w4 m1 wo.heap.size (lastR R V j)) := G6
                clear G3 G4 G6 hup hup2 m3 m4 u1 u2 F1 F2 F5 F6 F8 G2 hcr hru hcf2 hc0 hc1 hc2 hsb F4
                go_region_held3 (fun w' => w'.cell? ⟨wr.heap.size, 0, none⟩ = some (.map (some g)) ∧ w'.cell? ⟨b, off + t * 3 + 1, none⟩ = some (.string (K t)) ∧ w'.cell? ⟨b, off + t * 3 + 2, none⟩ = some (.string (L t))) (go_keep) (fail)
                all_goals
                  go_wp2_with fail
                  go_region_held3 (fun w' => w'.cell? ⟨w.heap.size + 1, 1, none⟩ = some (.map (some wo.heap.size)) ∧ w'.cell? ⟨b, off + t * 3, none⟩ = some (.string (C t)) ∧ w'.cell? ⟨wr.heap.size, 0, none⟩ = some (.map (some g))) (go_keep) (fail)
                  all_goals
                    go_wp2
                    exact ⟨⟨t + 1, _, by go_num, by omega, G5.drew.drew.drew, H2.out.drew.drew.drew, H6.out, ⟨H4.out.1, H4.out.2, H4.out.3, H4.out.4, H4.out.5⟩⟩, by simp [intOf]; omega⟩
            · have look : ∀ W, MapIs W wo.heap.size (fun c => (sub c).map fun b => .agg #[.map (some b)]) → Sem.run Try.prog (Instr.lookup 28 (.map (some wo.heap.size)) (.string (C t)) false) W = .ok (.agg #[.map (some g)]) W := by
                intro W hW
                have := hW.lookup (P := Try.prog) Try.underlying28 Try.underlying9 (z := .agg #[.map none]) (by simp [go_sem]) (C t) false
                rw [hsb] at this
                exact this
              have l1 := look wr.drew hcr.top
              have l2 := look (wr.alloc (.cells #[.map none] 53)).drew (hcr.top.of_block (Below.heap_alloc _ _ _ hcr.top.lt))
              clear look
              have heq : Sem.run Try.prog (binOp .eql 27 (.map (some g)) (.map none)) (wr.alloc (.cells #[.map (some g)] 53)).drew = .ok (.bool false) (wr.alloc (.cells #[.map (some g)] 53)).drew := run_eql_map_nil _ 27 _ _ (some g) Try.underlying27
              go_wp2_with fail
              go_region_held3 (fun w' => w'.cell? ⟨w.heap.size + 1, 1, none⟩ = some (.map (some wo.heap.size)) ∧ w'.cell? ⟨b, off + t * 3, none⟩ = some (.string (C t))) (go_keep) (fail)
              all_goals
                go_wp2_with fail
                clear l1 l2 heq hcc
                obtain ⟨W1, hW1⟩ : ∃ W, W = wr.alloc (Obj.cells #[Value.map (some g)] 53) := ⟨_, rfl⟩
                have F1 : Below w.heap.size w W1 := by rw [hW1]; exact hb2.alloc hb2.size _
                have F2 : Cfg W1 w.heap.size m1 (.map (some wo.heap.size)) := by rw [hW1]; exact hcf2.alloc _
                have F3 : W1.cell? ⟨wr.heap.size, 0, none⟩ = some (.map (some g)) := by rw [hW1]; simp [go_sem]
                have F4 : ∀ k, k < wr.heap.size → W1.heap[k]? = wr.heap[k]? := by
                  intro k hk; rw [hW1, Below.heap_alloc _ _ _ hk]
                have F5 : MapIs W1 g (strs (lastK C K L t (C t))) := by
                  rw [hW1]; exact (hcr.there _ _ hsb).of_block (Below.heap_alloc _ _ _ (hcr.there _ _ hsb).lt)
                have F6 : sub (C t) = some g ∨ (sub (C t) = none ∧ wr.heap.size ≤ g) := .inl hsb
                have FZ : w.heap.size ≤ g := by have := hcr.above _ _ hsb; have := hb.size; omega
                rw [← hW1]
                clear hW1
                have d0 := (World.cell?_of_block (w := wr) (a := ⟨b, off + t * 3, none⟩) (F4 b (World.block_lt_of_cell? wr _ hc0))).trans hc0
                have d1 := (World.cell?_of_block (w := wr) (a := ⟨b, off + t * 3 + 1, none⟩) (F4 b (World.block_lt_of_cell? wr _ hc0))).trans hc1
                have d2 := (World.cell?_of_block (w := wr) (a := ⟨b, off + t * 3 + 2, none⟩) (F4 b (World.block_lt_of_cell? wr _ hc0))).trans hc2
                obtain ⟨w3, hup, m3, u1⟩ := F5.update Try.underlying27 Try.underlying41 (K t) (.string (L t))
                have e1 : Sem.run Try.prog (Instr.mapUpdate 27 (.map (some g)) (.string (K t)) (.string (L t))) W1.drew.drew = .ok () w3.drew.drew := hup 2
                have i0 := u1.cell d0
                have i1 := u1.cell d1
                have i2 := u1.cell d2
                have i3 := u1.cell F3
                have hgne : wo.heap.size ≠ g := by
                  rcases F6 with h | h
                  · have := hcr.above _ _ h; omega
                  · have := hcr.top.lt; omega
                have F8 : MapIs w3 wo.heap.size (fun c => (sub c).map fun b => .agg #[.map (some b)]) := hcr.top.of_block ((u1.block hgne).trans (F4 _ hcr.top.lt))
                have G2 := F2.turned u1
                have i4 := G2.c1.cell
                obtain ⟨w4, hup2, m4, u2⟩ := F8.update Try.underlying28 Try.underlying9 (C t) (.agg #[.map (some g)])
                have e2 : Sem.run Try.prog (Instr.mapUpdate 28 (.map (some wo.heap.size)) (.string (C t)) (.agg #[.map (some g)])) w3.drew.drew.drew = .ok () w4.drew.drew.drew := hup2 3
                have k0 := u2.cell i0
                have k1 := u2.cell i3
                have k2 := u2.cell i4
                have G3 := G2.turned u2
                have G4 := hcr.step F4 F6 u1 m3 u2 m4
                have G5 := u2.below (u1.below F1 FZ) hb.size
                have hgk : ∀ k, k < wo.heap.size → k ≠ g := by
                  intro k hk
                  rcases F6 with h | h
                  · have := hcr.above _ _ h; omega
                  · have := hcr.top.lt; omega
                have G6 : RulesIs w4 m1 wo.heap.size (lastR R V j) := hru.of_blocks (fun k hk => (u2.block (by omega)).trans ((u1.block (hgk k hk)).trans (F4 k (by have := hcr.top.lt; omega)))) (Nat.le_refl _)
                clear hgk
                have H2 : Hid (Cfg w4 w.heap.size m1 (.map (some wo.heap.size))) := G3
                have H4 : Hid (Two w4 wo.heap.size (fun c => if c = C t then some g else sub c) (lastK C K L (t + 1))) := G4
                have H6 : Hid (RulesIs w4 m1 wo.heap.size (lastR R V j)) := G6
                clear G3 G4 G6 hup hup2 m3 m4 u1 u2 F1 F2 F5 F6 F8 G2 hcr hru hcf2 hc0 hc1 hc2 hsb F4
                go_region_held3 (fun w' => w'.cell? ⟨wr.heap.size, 0, none⟩ = some (.map (some g)) ∧ w'.cell? ⟨b, off + t * 3 + 1, none⟩ = some (.string (K t)) ∧ w'.cell? ⟨b, off + t * 3 + 2, none⟩ = some (.string (L t))) (go_keep) (fail)
                all_goals
                  go_wp2_with fail
                  go_region_held3 (fun w' => w'.cell? ⟨w.heap.size + 1, 1, none⟩ = some (.map (some wo.heap.size)) ∧ w'.cell? ⟨b, off + t * 3, none⟩ = some (.string (C t)) ∧ w'.cell? ⟨wr.heap.size, 0, none⟩ = some (.map (some g))) (go_keep) (fail)
                  all_goals
                    go_wp2
                    exact ⟨⟨t + 1, _, by go_num, by omega, G5.drew.drew.drew, H2.out.drew.drew.drew, H6.out, ⟨H4.out.1, H4.out.2, H4.out.3, H4.out.4, H4.out.5⟩⟩, by simp [intOf]; omega⟩
          · obtain rfl : t = nk := by omega
            have hs0 := hcf2.c0.cell
            have hs1 := hcf2.c1.cell
            have hs2 := hcf2.r0.cell
            have hs3 := hcf2.r1.cell
            have hs4 := hcf2.r0.free
            have hs5 := hcf2.r1.free
            obtain ⟨x1, rfl⟩ := hru.one
            clear hmm
            go_wp2
            have A0 := (hcf2.r0.put (.map x1)).other w.heap.size 1 (.map (some wo.heap.size)) (.inr (by omega))
            have A1 := (hcf2.r1.other w.heap.size 0 (.map x1) (.inr (by omega))).put (.map (some wo.heap.size))
            have q0 := A0.cell
            have q1 := A1.cell
            refine bodyPost_ret (v := .agg #[.map x1, .map (some wo.heap.size)]) (by simp [results, Try.results7, go_sem, q0, q1]) rfl ⟨_, _, rfl, (hb2.setCell (Nat.le_refl _) _).setCell (Nat.le_refl _) _, ?_, .inr ⟨_, sub, rfl, ?_⟩⟩
            · exact hru.put2 hcf2.r0 0 1 (by have := hcr.top.lt; simp [World.setCell]; omega)
            · exact hcr.put2 hcf2.r0 0 1


set_option maxRecDepth 100000 in
set_option maxHeartbeats 4000000 in
theorem conf_none (a b' : Option Addr) (nk cap cap2 : Nat) (R V C K L : Nat → ByteArray) (w : World) (hk : Kr w b' nk C K L) (hnk : nk ≤ 4096) :
    Calls Try.prog 7 #[.slice a 0 cap, .slice b' nk cap2] w fun e w' => ∃ m1 m2, e = .returned (.agg #[m1, m2]) ∧ Below w.heap.size w w' ∧ RulesIs w' m1 w'.heap.size (lastR R V 0) ∧ CrdsIs w' m2 (lastK C K L nk) := by
  have hmm := @run_makeMap Try.prog
  have hb0 : Below w.heap.size w ((w.alloc (Obj.cells #[Value.map none, Value.map none] 30)).alloc (Obj.cells #[Value.map none, Value.map none] 30)) := ((Below.refl _ w).alloc (Nat.le_refl _) _).alloc (by simp) _
  by_cases hk0 : nk = 0
  · subst hk0
    go_enter Try.func7, Try.ntmps7
    go_wp2
    refine bodyPost_ret (v := .agg #[.map none, .map none]) (by simp [results, Try.results7, go_sem]) rfl ⟨_, _, rfl, hb0, .inl ⟨rfl, fun _ => rfl⟩, .inl ⟨rfl, fun _ _ => rfl⟩⟩
  · have hk1 : 0 < nk := by omega
    go_enter Try.func7, Try.ntmps7
    go_wp2_with fail
    go_loopw [7] (fun i wr' => ∃ (t : Nat) (sub : ByteArray → Option Nat), i = .int .i64 t ∧ t ≤ nk ∧ Below w.heap.size w wr' ∧ Cfg wr' w.heap.size (.map none) (.map (some (w.heap.size + 1 + 1))) ∧ RulesIs wr' (.map none) (w.heap.size + 1 + 1) (lastR R V 0) ∧ Two wr' (w.heap.size + 1 + 1) sub (lastK C K L t)) (fun i _ => nk - (intOf i).toNat)
    case atStart =>
      refine ⟨0, fun _ => none, rfl, by omega, ?_, ⟨⟨by simp [go_sem], by simp [go_sem]⟩, ⟨by simp [go_sem], by simp [go_sem]⟩, ⟨by simp [go_sem], by simp [go_sem]⟩, ⟨by simp [go_sem], by simp [go_sem]⟩⟩, .inl ⟨rfl, fun _ => rfl⟩, ⟨MapIs.made' _ _ (by simp), ?_, ?_, ?_, ?_⟩⟩
      · exact (((Below.refl _ w).alloc (Nat.le_refl _) _).alloc (by simp) _).alloc (by simp; omega) _
      · intro c b h; cases h
      · intro c c' b h; cases h
      · intro c b h; cases h
      · intro c h k; rfl
    case round =>
      obtain ⟨t, sub, rfl, ht, hb2, hcf2, hru, hcr⟩ := hrel
      clear hb0
      by_cases hlt2 : t < nk
      · obtain ⟨b, off, rfl, hc0', hc1', hc2'⟩ := hk t hlt2
        have hc0 := (hb2.cell (World.block_lt_of_cell? w _ hc0')).trans hc0'
        have hc1 := (hb2.cell (World.block_lt_of_cell? w _ hc1')).trans hc1'
        have hc2 := (hb2.cell (World.block_lt_of_cell? w _ hc2')).trans hc2'
        clear hc0' hc1' hc2' hk
        have hj0 : (0 : Int) ≤ (t : Int) := by omega
        have hj1 : (t : Int) < (nk : Int) := by omega
        have hcc := hcf2.c1.cell
        rcases hsb : sub (C t) with _ | g
        · have look : ∀ W, MapIs W (w.heap.size + 1 + 1) (fun c => (sub c).map fun b => .agg #[.map (some b)]) → Sem.run Try.prog (Instr.lookup 28 (.map (some (w.heap.size + 1 + 1))) (.string (C t)) false) W = .ok (.agg #[.map none]) W := by
            intro W hW
            have := hW.lookup (P := Try.prog) Try.underlying28 Try.underlying9 (z := .agg #[.map none]) (by simp [go_sem]) (C t) false
            rw [hsb] at this
            exact this
          have l1 := look wr.drew hcr.top
          have l2 := look (wr.alloc (.cells #[.map none] 53)).drew (hcr.top.of_block (Below.heap_alloc _ _ _ hcr.top.lt))
          clear look
          have heq : Sem.run Try.prog (binOp .eql 27 (.map none) (.map none)) (wr.alloc (.cells #[.map none] 53)).drew = .ok (.bool true) (wr.alloc (.cells #[.map none] 53)).drew := run_eql_map_nil _ 27 _ _ none Try.underlying27
          go_wp2_with fail
          go_region_held3 (fun w' => w'.cell? ⟨w.heap.size + 1, 1, none⟩ = some (.map (some (w.heap.size + 1 + 1))) ∧ w'.cell? ⟨b, off + t * 3, none⟩ = some (.string (C t))) (go_keep) (fail)
          all_goals
            go_wp2_with fail
            clear l1 l2 heq hcc
            obtain ⟨W1, hW1⟩ : ∃ W, W = (wr.alloc (Obj.cells #[Value.map (some (wr.heap.size + 1))] 53)).alloc (Obj.map #[] 0) := ⟨_, rfl⟩
            have F1 : Below w.heap.size w W1 := by rw [hW1]; exact (hb2.alloc hb2.size _).alloc (by have := hb2.size; simp; omega) _
            have F2 : Cfg W1 w.heap.size (.map none) (.map (some (w.heap.size + 1 + 1))) := by rw [hW1]; exact (hcf2.alloc _).alloc _
            have F3 : W1.cell? ⟨wr.heap.size, 0, none⟩ = some (.map (some (wr.heap.size + 1))) := by rw [hW1]; simp [go_sem]
            have F4 : ∀ k, k < wr.heap.size → W1.heap[k]? = wr.heap[k]? := by
              intro k hk; rw [hW1, Below.heap_alloc _ _ _ (by simp; omega), Below.heap_alloc _ _ _ hk]
            have F5 : MapIs W1 (wr.heap.size + 1) (strs (lastK C K L t (C t))) := by
              rw [hW1, show strs (lastK C K L t (C t)) = fun _ => none from funext fun k => by unfold strs; rw [hcr.away _ hsb]; rfl]
              exact MapIs.made' _ _ (by simp)
            have F6 : sub (C t) = some (wr.heap.size + 1) ∨ (sub (C t) = none ∧ wr.heap.size ≤ wr.heap.size + 1) := .inr ⟨hsb, by omega⟩
            have FZ : w.heap.size ≤ wr.heap.size + 1 := by have := hb2.size; omega
            rw [← hW1]
            clear hW1
            generalize wr.heap.size + 1 = g at F3 F5 F6 FZ ⊢
            have d0 := (World.cell?_of_block (w := wr) (a := ⟨b, off + t * 3, none⟩) (F4 b (World.block_lt_of_cell? wr _ hc0))).trans hc0
            have d1 := (World.cell?_of_block (w := wr) (a := ⟨b, off + t * 3 + 1, none⟩) (F4 b (World.block_lt_of_cell? wr _ hc0))).trans hc1
            have d2 := (World.cell?_of_block (w := wr) (a := ⟨b, off + t * 3 + 2, none⟩) (F4 b (World.block_lt_of_cell? wr _ hc0))).trans hc2
            obtain ⟨w3, hup, m3, u1⟩ := F5.update Try.underlying27 Try.underlying41 (K t) (.string (L t))
            have e1 : Sem.run Try.prog (Instr.mapUpdate 27 (.map (some g)) (.string (K t)) (.string (L t))) W1.drew.drew = .ok () w3.drew.drew := hup 2
            have i0 := u1.cell d0
            have i1 := u1.cell d1
            have i2 := u1.cell d2
            have i3 := u1.cell F3
            have hgne : (w.heap.size + 1 + 1) ≠ g := by
              rcases F6 with h | h
              · have := hcr.above _ _ h; omega
              · have := hcr.top.lt; omega
            have F8 : MapIs w3 (w.heap.size + 1 + 1) (fun c => (sub c).map fun b => .agg #[.map (some b)]) := hcr.top.of_block ((u1.block hgne).trans (F4 _ hcr.top.lt))
            have G2 := F2.turned u1
            have i4 := G2.c1.cell
            obtain ⟨w4, hup2, m4, u2⟩ := F8.update Try.underlying28 Try.underlying9 (C t) (.agg #[.map (some g)])
            have e2 : Sem.run Try.prog (Instr.mapUpdate 28 (.map (some (w.heap.size + 1 + 1))) (.string (C t)) (.agg #[.map (some g)])) w3.drew.drew.drew = .ok () w4.drew.drew.drew := hup2 3
            have k0 := u2.cell i0
            have k1 := u2.cell i3
            have k2 := u2.cell i4
            have G3 := G2.turned u2
            have G4 := hcr.step F4 F6 u1 m3 u2 m4
            have G5 := u2.below (u1.below F1 FZ) (by omega)
            have hgk : ∀ k, k < (w.heap.size + 1 + 1) → k ≠ g := by
              intro k hk
              rcases F6 with h | h
              · have := hcr.above _ _ h; omega
              · have := hcr.top.lt; omega
            have G6 : RulesIs w4 (.map none) (w.heap.size + 1 + 1) (lastR R V 0) := hru.of_blocks (fun k hk => (u2.block (by omega)).trans ((u1.block (hgk k hk)).trans (F4 k (by have := hcr.top.lt; omega)))) (Nat.le_refl _)
            clear hgk
            have H2 : Hid (Cfg w4 w.heap.size (.map none) (.map (some (w.heap.size + 1 + 1)))) := G3
            have H4 : Hid (Two w4 (w.heap.size + 1 + 1) (fun c => if c = C t then some g else sub c) (lastK C K L (t + 1))) := G4
            have H6 : Hid (RulesIs w4 (.map none) (w.heap.size + 1 + 1) (lastR R V 0)) := G6
            clear G3 G4 G6 hup hup2 m3 m4 u1 u2 F1 F2 F5 F6 F8 G2 hcr hru hcf2 hc0 hc1 hc2 hsb F4
            go_region_held3 (fun w' => w'.cell? ⟨wr.heap.size, 0, none⟩ = some (.map (some g)) ∧ w'.cell? ⟨b, off + t * 3 + 1, none⟩ = some (.string (K t)) ∧ w'.cell? ⟨b, off + t * 3 + 2, none⟩ = some (.string (L t))) (go_keep) (fail)
            all_goals
              go_wp2_with fail
              go_region_held3 (fun w' => w'.cell? ⟨w.heap.size + 1, 1, none⟩ = some (.map (some (w.heap.size + 1 + 1))) ∧ w'.cell? ⟨b, off + t * 3, none⟩ = some (.string (C t)) ∧ w'.cell? ⟨wr.heap.size, 0, none⟩ = some (.map (some g))) (go_keep) (fail)
              all_goals
                go_wp2
                exact ⟨⟨t + 1, _, by go_num, by omega, G5.drew.drew.drew, H2.out.drew.drew.drew, H6.out, ⟨H4.out.1, H4.out.2, H4.out.3, H4.out.4, H4.out.5⟩⟩, by simp [intOf]; omega⟩
        · have look : ∀ W, MapIs W (w.heap.size + 1 + 1) (fun c => (sub c).map fun b => .agg #[.map (some b)]) → Sem.run Try.prog (Instr.lookup 28 (.map (some (w.heap.size + 1 + 1))) (.string (C t)) false) W = .ok (.agg #[.map (some g)]) W := by
            intro W hW
            have := hW.lookup (P := Try.prog) Try.underlying28 Try.underlying9 (z := .agg #[.map none]) (by simp [go_sem]) (C t) false
            rw [hsb] at this
            exact this
          have l1 := look wr.drew hcr.top
          have l2 := look (wr.alloc (.cells #[.map none] 53)).drew (hcr.top.of_block (Below.heap_alloc _ _ _ hcr.top.lt))
          clear look
          have heq : Sem.run Try.prog (binOp .eql 27 (.map (some g)) (.map none)) (wr.alloc (.cells #[.map (some g)] 53)).drew = .ok (.bool false) (wr.alloc (.cells #[.map (some g)] 53)).drew := run_eql_map_nil _ 27 _ _ (some g) Try.underlying27
          go_wp2_with fail
          go_region_held3 (fun w' => w'.cell? ⟨w.heap.size + 1, 1, none⟩ = some (.map (some (w.heap.size + 1 + 1))) ∧ w'.cell? ⟨b, off + t * 3, none⟩ = some (.string (C t))) (go_keep) (fail)
          all_goals
            go_wp2_with fail
            clear l1 l2 heq hcc
            obtain ⟨W1, hW1⟩ : ∃ W, W = wr.alloc (Obj.cells #[Value.map (some g)] 53) := ⟨_, rfl⟩
            have F1 : Below w.heap.size w W1 := by rw [hW1]; exact hb2.alloc hb2.size _
            have F2 : Cfg W1 w.heap.size (.map none) (.map (some (w.heap.size + 1 + 1))) := by rw [hW1]; exact hcf2.alloc _
            have F3 : W1.cell? ⟨wr.heap.size, 0, none⟩ = some (.map (some g)) := by rw [hW1]; simp [go_sem]
            have F4 : ∀ k, k < wr.heap.size → W1.heap[k]? = wr.heap[k]? := by
              intro k hk; rw [hW1, Below.heap_alloc _ _ _ hk]
            have F5 : MapIs W1 g (strs (lastK C K L t (C t))) := by
              rw [hW1]; exact (hcr.there _ _ hsb).of_block (Below.heap_alloc _ _ _ (hcr.there _ _ hsb).lt)
            have F6 : sub (C t) = some g ∨ (sub (C t) = none ∧ wr.heap.size ≤ g) := .inl hsb
            have FZ : w.heap.size ≤ g := by have := hcr.above _ _ hsb; omega
            rw [← hW1]
            clear hW1
            have d0 := (World.cell?_of_block (w := wr) (a := ⟨b, off + t * 3, none⟩) (F4 b (World.block_lt_of_cell? wr _ hc0))).trans hc0
            have d1 := (World.cell?_of_block (w := wr) (a := ⟨b, off + t * 3 + 1, none⟩) (F4 b (World.block_lt_of_cell? wr _ hc0))).trans hc1
            have d2 := (World.cell?_of_block (w := wr) (a := ⟨b, off + t * 3 + 2, none⟩) (F4 b (World.block_lt_of_cell? wr _ hc0))).trans hc2
            obtain ⟨w3, hup, m3, u1⟩ := F5.update Try.underlying27 Try.underlying41 (K t) (.string (L t))
            have e1 : Sem.run Try.prog (Instr.mapUpdate 27 (.map (some g)) (.string (K t)) (.string (L t))) W1.drew.drew = .ok () w3.drew.drew := hup 2
            have i0 := u1.cell d0
            have i1 := u1.cell d1
            have i2 := u1.cell d2
            have i3 := u1.cell F3
            have hgne : (w.heap.size + 1 + 1) ≠ g := by
              rcases F6 with h | h
              · have := hcr.above _ _ h; omega
              · have := hcr.top.lt; omega
            have F8 : MapIs w3 (w.heap.size + 1 + 1) (fun c => (sub c).map fun b => .agg #[.map (some b)]) := hcr.top.of_block ((u1.block hgne).trans (F4 _ hcr.top.lt))
            have G2 := F2.turned u1
            have i4 := G2.c1.cell
            obtain ⟨w4, hup2, m4, u2⟩ := F8.update Try.underlying28 Try.underlying9 (C t) (.agg #[.map (some g)])
            have e2 : Sem.run Try.prog (Instr.mapUpdate 28 (.map (some (w.heap.size + 1 + 1))) (.string (C t)) (.agg #[.map (some g)])) w3.drew.drew.drew = .ok () w4.drew.drew.drew := hup2 3
            have k0 := u2.cell i0
            have k1 := u2.cell i3
            have k2 := u2.cell i4
            have G3 := G2.turned u2
            have G4 := hcr.step F4 F6 u1 m3 u2 m4
            have G5 := u2.below (u1.below F1 FZ) (by omega)
            have hgk : ∀ k, k < (w.heap.size + 1 + 1) → k ≠ g := by
              intro k hk
              rcases F6 with h | h
              · have := hcr.above _ _ h; omega
              · have := hcr.top.lt; omega
            have G6 : RulesIs w4 (.map none) (w.heap.size + 1 + 1) (lastR R V 0) := hru.of_blocks (fun k hk => (u2.block (by omega)).trans ((u1.block (hgk k hk)).trans (F4 k (by have := hcr.top.lt; omega)))) (Nat.le_refl _)
            clear hgk
            have H2 : Hid (Cfg w4 w.heap.size (.map none) (.map (some (w.heap.size + 1 + 1)))) := G3
            have H4 : Hid (Two w4 (w.heap.size + 1 + 1) (fun c => if c = C t then some g else sub c) (lastK C K L (t + 1))) := G4
            have H6 : Hid (RulesIs w4 (.map none) (w.heap.size + 1 + 1) (lastR R V 0)) := G6
            clear G3 G4 G6 hup hup2 m3 m4 u1 u2 F1 F2 F5 F6 F8 G2 hcr hru hcf2 hc0 hc1 hc2 hsb F4
            go_region_held3 (fun w' => w'.cell? ⟨wr.heap.size, 0, none⟩ = some (.map (some g)) ∧ w'.cell? ⟨b, off + t * 3 + 1, none⟩ = some (.string (K t)) ∧ w'.cell? ⟨b, off + t * 3 + 2, none⟩ = some (.string (L t))) (go_keep) (fail)
            all_goals
              go_wp2_with fail
              go_region_held3 (fun w' => w'.cell? ⟨w.heap.size + 1, 1, none⟩ = some (.map (some (w.heap.size + 1 + 1))) ∧ w'.cell? ⟨b, off + t * 3, none⟩ = some (.string (C t)) ∧ w'.cell? ⟨wr.heap.size, 0, none⟩ = some (.map (some g))) (go_keep) (fail)
              all_goals
                go_wp2
                exact ⟨⟨t + 1, _, by go_num, by omega, G5.drew.drew.drew, H2.out.drew.drew.drew, H6.out, ⟨H4.out.1, H4.out.2, H4.out.3, H4.out.4, H4.out.5⟩⟩, by simp [intOf]; omega⟩
      · obtain rfl : t = nk := by omega
        have hs0 := hcf2.c0.cell
        have hs1 := hcf2.c1.cell
        have hs2 := hcf2.r0.cell
        have hs3 := hcf2.r1.cell
        have hs4 := hcf2.r0.free
        have hs5 := hcf2.r1.free
        clear hmm
        go_wp2
        have A0 := (hcf2.r0.put (.map none)).other w.heap.size 1 (.map (some (w.heap.size + 1 + 1))) (.inr (by omega))
        have A1 := (hcf2.r1.other w.heap.size 0 (.map none) (.inr (by omega))).put (.map (some (w.heap.size + 1 + 1)))
        have q0 := A0.cell
        have q1 := A1.cell
        refine bodyPost_ret (v := .agg #[.map none, .map (some (w.heap.size + 1 + 1))]) (by simp [results, Try.results7, go_sem, q0, q1]) rfl ⟨_, _, rfl, (hb2.setCell (Nat.le_refl _) _).setCell (Nat.le_refl _) _, ?_, .inr ⟨_, sub, rfl, ?_⟩⟩
        · exact hru.put2 hcf2.r0 0 1 (by have := hcr.top.lt; simp [World.setCell]; omega)
        · exact hcr.put2 hcf2.r0 0 1
end Go.Proofs.Qxb6634845a
