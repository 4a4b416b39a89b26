/-
  zzBuildFindings (9).
-/
import Derived.Test.Qxb6634845aModel
namespace Go.Proofs.Qxb6634845a
open Go.RowKit Go.MapKept
set_option linter.unusedVariables false

/-- The cells of a finding, and of the first k. -/
def fdList (f : Fd) : List Value := [.string f.verdict, .string f.rule, .string f.crd, .string f.version, .string f.path, .string f.detail]
def prefF (F : Nat → Fd) : Nat → List Value
  | 0 => []
  | k + 1 => prefF F k ++ fdList (F k)

theorem prefF_length (F : Nat → Fd) (k : Nat) : (prefF F k).length = k * 6 := by
  induction k with
  | zero => rfl
  | succ k ih => rw [prefF, List.length_append, ih]; simp [fdList]; omega

theorem prefF_get (F : Nat → Fd) (k i d : Nat) (h : i < k) (hd : d < 6) : (prefF F k)[i * 6 + d]? = (fdList (F i))[d]? := by
  induction k with
  | zero => omega
  | succ k ih =>
    have hl := prefF_length F k
    rw [prefF]
    by_cases hi : i < k
    · rw [List.getElem?_append_left (by omega)]
      exact ih hi
    · obtain rfl : i = k := by omega
      rw [List.getElem?_append_right (by omega), hl, show i * 6 + d - i * 6 = d by omega]

theorem prefF_congr {F G : Nat → Fd} {k : Nat} (h : ∀ i, i < k → F i = G i) : prefF F k = prefF G k := by
  induction k with
  | zero => rfl
  | succ k ih => rw [prefF, prefF, ih (fun i hi => h i (by omega)), h k (by omega)]

/-- A row of findings that the call owns, as the contracts take it. -/
theorem Fs.of_owns {w : World} {B : Nat} {v : Value} {n : Nat} {F : Nat → Fd} (h : w.ownsRow B 44 6 v n (prefF F n)) : ∃ a cap, v = .slice a n cap ∧ Fs w a n F := by
  rcases h.2 with ⟨rfl, rfl⟩ | ⟨g, cap, cur, rfl, _, hg, _, _, hsz, htk⟩
  · exact ⟨none, 0, rfl, fun i hi => absurd hi (by omega)⟩
  · have key : ∀ i d u, i < n → d < 6 → (fdList (F i))[d]? = some u → w.cell? ⟨g, i * 6 + d, none⟩ = some u := by
      intro i d u hi hd hu
      rw [cell_of_row w g (i * 6 + d) cur 44 (0, 0) hg]
      have := prefF_get F n i d hi hd
      rw [hu, ← htk, List.getElem?_take_of_lt (by omega)] at this
      simpa using this
    refine ⟨_, _, rfl, fun i hi => ⟨g, 0, rfl, ?_, ?_, ?_, ?_, ?_, ?_⟩⟩
    all_goals rw [Nat.zero_add]
    · exact key i 0 _ hi (by omega) rfl
    · exact key i 1 _ hi (by omega) rfl
    · exact key i 2 _ hi (by omega) rfl
    · exact key i 3 _ hi (by omega) rfl
    · exact key i 4 _ hi (by omega) rfl
    · exact key i 5 _ hi (by omega) rfl

theorem Fs.later {W w : World} {a : Option Addr} {n : Nat} {F : Nat → Fd} (h : Fs W a n F) (hb : Below W.heap.size W w) : Fs w a n F := by
  intro i hi
  obtain ⟨b, off, e, h0, h1, h2, h3, h4, h5⟩ := h i hi
  exact ⟨b, off, e, (hb.cell (World.block_lt_of_cell? W _ h0)).trans h0, (hb.cell (World.block_lt_of_cell? W _ h1)).trans h1, (hb.cell (World.block_lt_of_cell? W _ h2)).trans h2, (hb.cell (World.block_lt_of_cell? W _ h3)).trans h3, (hb.cell (World.block_lt_of_cell? W _ h4)).trans h4, (hb.cell (World.block_lt_of_cell? W _ h5)).trans h5⟩

theorem info44 : ∃ i z, Try.prog.info? 44 = some i ∧ i.zero = some z ∧ i.size = 6 ∧ i.bytes = 96 ∧ z.cells.size = 6 := by
  have h : (Try.prog.info? 44).map (fun i => (i.zero.map (·.cells.size), i.size, i.bytes)) = some (some 6, 6, 96) := by kernel_rfl
  obtain ⟨i, hi, hh⟩ := Option.map_eq_some_iff.1 h
  simp only [Prod.mk.injEq] at hh
  obtain ⟨h1, h2, h3⟩ := hh
  obtain ⟨z, hz, hzs⟩ := Option.map_eq_some_iff.1 h1
  exact ⟨i, z, hi, hz, h2, h3, hzs⟩

theorem fdList_one (f : Fd) : ∀ u ∈ fdList f, u.oneCell' = true := by
  intro u hu
  simp [fdList] at hu
  rcases hu with rfl | rfl | rfl | rfl | rfl | rfl <;> rfl

/-- append of one finding onto a row that the call owns, at a step of a region that draws. -/
theorem step44 {w : World} {ops : Array Oper} {o : Oper} {a : Act} {K : Act → World → Prop} {Q : Exit → Act → World → Prop} {E : Prop} (hgd : o.guard = none) (s x : Operand)
    (ho : o.op = .call { callee := .builtin .append, args := #[s, x], argTypes := #[32, 32] })
    (B : Nat) (v : Value) (n : Nat) (xs : List Value) (hs : a.eval s = v) (hown : w.ownsRow B 44 6 v n xs)
    (ad : Addr) (c : Nat) (f : Fd) (hx : a.eval x = .slice (some ad) 1 c) (h0 : ∀ j u, (fdList f)[j]? = some u → w.cell? (ad.add j) = some u)
    (hn : n ≤ 65536) (hbase : B ≤ w.heap.size)
    (h : ∀ g cap w', w'.ownsRow B 44 6 (.slice (some ⟨g, 0, none⟩) (n + 1) cap) (n + 1) (xs ++ fdList f) → (∀ W, Below B W w → Below B W w') → K (a.put o.dst (.slice (some ⟨g, 0, none⟩) (n + 1) cap)) w') :
    if Region.wanted o (yielded ops a.tmps) = true then Oper.wp Try.prog o a w K Q else E := by
  obtain ⟨i, z, hi, hz, hsz, hby, hzs⟩ := info44
  refine step_append_lies w hgd s x 32 ho B 44 i z 6 96 Try.underlying32 hi hz hsz hby hzs (by omega) v n xs hs hown ad 1 c (fdList f) hx rfl h0 (fdList_one f) (by omega) (by unfold maxLen; omega) (by omega) hbase _ rfl ?_
  intro g cap w' h1 h2 h3 h4
  refine h g cap w' h1 (fun W hb => hb.grown h2 hbase (fun k hk => ?_))
  rcases hown.2 with ⟨rfl, _⟩ | ⟨g', cap', cur, rfl, hB, _⟩
  · cases hk
  · simp [Value.ownBlock] at hk
    omega

/-- .. in a plain region. -/
theorem app44 {w : World} {ops : Array Oper} {rest : List Oper} {o : Oper} {a : Act} {Q : Exit → Act → World → Prop} (hgd : o.guard = none) (s x : Operand)
    (ho : o.op = .call { callee := .builtin .append, args := #[s, x], argTypes := #[32, 32] })
    (B : Nat) (v : Value) (n : Nat) (xs : List Value) (hs : a.eval s = v) (hown : w.ownsRow B 44 6 v n xs)
    (ad : Addr) (c : Nat) (f : Fd) (hx : a.eval x = .slice (some ad) 1 c) (h0 : ∀ j u, (fdList f)[j]? = some u → w.cell? (ad.add j) = some u)
    (hn : n ≤ 65536) (hbase : B ≤ w.heap.size)
    (h : ∀ g cap w', w'.ownsRow B 44 6 (.slice (some ⟨g, 0, none⟩) (n + 1) cap) (n + 1) (xs ++ fdList f) → (∀ W, Below B W w → Below B W w') → wpList Try.prog ops Q rest (a.put o.dst (.slice (some ⟨g, 0, none⟩) (n + 1) cap)) w') : wpList Try.prog ops Q (o :: rest) a w := by
  obtain ⟨i, z, hi, hz, hsz, hby, hzs⟩ := info44
  refine wpList_append_lies w hgd s x 32 ho B 44 i z 6 96 Try.underlying32 hi hz hsz hby hzs (by omega) v n xs hs hown ad 1 c (fdList f) hx rfl h0 (fdList_one f) (by omega) (by unfold maxLen; omega) (by omega) hbase _ rfl ?_
  intro g cap w' h1 h2 h3 h4
  refine h g cap w' h1 (fun W hb => hb.grown h2 hbase (fun k hk => ?_))
  rcases hown.2 with ⟨rfl, _⟩ | ⟨g', cap', cur, rfl, hB, _⟩
  · cases hk
  · simp [Value.ownBlock] at hk
    omega

/-- 'make([]check.Finding, 0, n)'. -/
theorem make32 (w : World) (n : Nat) (hn : n ≤ 65536) : ∃ w', (Instr.makeSlice 32 (.int .i64 0) (.int .i64 (n : Int))).run Try.prog w = .ok (.slice (some ⟨w.heap.size, 0, none⟩) 0 n) w' ∧
    w'.ownsRow w.heap.size 44 6 (.slice (some ⟨w.heap.size, 0, none⟩) 0 n) 0 [] ∧ Below w.heap.size w w' := by
  obtain ⟨i, z, hi, hz, hsz, hby, hzs⟩ := info44
  obtain ⟨w', h1, h2, h3⟩ := run_make_own (P := Try.prog) w w.heap.size 32 44 i z 6 Try.underlying32 hi hz hsz .i64 .i64 n (by rw [hby]; omega) (by unfold maxLen; omega) (Nat.le_refl _)
  exact ⟨w', by simpa using h1, h2, (Below.refl _ w).grown h3 (Nat.le_refl _) (fun k hk => by cases hk)⟩

theorem cell_old (W : World) (o : Obj) (x : Addr) (v : Value) (h : W.cell? x = some v) : (W.alloc o).cell? x = some v := by
  rw [World.cell?_alloc_lt _ _ _ (World.block_lt_of_cell? W _ h)]; exact h
theorem cell_old3 (W : World) (o1 o2 o3 : Obj) (x : Addr) (v : Value) (h : W.cell? x = some v) : (((W.alloc o1).alloc o2).alloc o3).drew.cell? x = some v :=
  cell_old _ _ _ _ (cell_old _ _ _ _ (cell_old _ _ _ _ h))

theorem news3 (W : World) (o1 o2 : Obj) (f : Fd) : ∀ j u, (fdList f)[j]? = some u →
    (((W.alloc o1).alloc o2).alloc (.cells #[.string f.verdict, .string f.rule, .string f.crd, .string f.version, .string f.path, .string f.detail] 44)).drew.cell? (Addr.add ⟨W.heap.size + 1 + 1, 0, none⟩ j) = some u := by
  have e : W.heap.size + 1 + 1 = ((W.alloc o1).alloc o2).heap.size := by simp
  rw [e]
  exact World.news_of_block (cs := #[.string f.verdict, .string f.rule, .string f.crd, .string f.version, .string f.path, .string f.detail]) (t := 44) (fr := (0, 0)) (heap_alloc_new _ _)

set_option maxRecDepth 100000 in
set_option maxHeartbeats 4000000 in
theorem finds9 (c : Option Addr) (nf cap lo hi : Nat) (F : Nat → Fd) (w : World) (hf : Fs w c nf F) (hnf : nf ≤ 4096) (hlo : lo ≤ hi) (hhi : hi ≤ nf) :
    Calls Try.prog 9 #[.slice c nf cap, .int .i64 lo, .int .i64 hi] w fun e w' => ∃ v, e = .returned v ∧ Below w.heap.size w w' ∧ w'.ownsRow w.heap.size 44 6 v (hi - lo) (prefF (fun i => F (lo + i)) (hi - lo)) := by
  obtain ⟨w1, hmk', hown, hb1⟩ := make32 w (hi - lo) (by omega)
  have hmk : (Instr.makeSlice 32 (.int .i64 0) (.int .i64 ((hi : Int) - (lo : Int)))).run Try.prog w = .ok (.slice (some ⟨w.heap.size, 0, none⟩) 0 (hi - lo)) w1 := by
    rw [show (hi : Int) - (lo : Int) = ((hi - lo : Nat) : Int) by omega]; exact hmk'
  clear hmk'
  go_enter Try.func9, Try.ntmps9
  go_wp2_with fail
  go_loopw [7, 8] (fun v i wr => ∃ j : Nat, i = .int .i64 ((lo + j : Nat) : Int) ∧ j ≤ hi - lo ∧ wr.ownsRow w.heap.size 44 6 v j (prefF (fun i => F (lo + i)) j) ∧ Below w.heap.size w wr) (fun _ i _ => hi - (intOf i).toNat)
  case atStart => exact ⟨0, rfl, by omega, hown, hb1⟩
  case round =>
    obtain ⟨j, rfl, hj, ho, hb⟩ := hrel
    clear hmk hown hb1
    by_cases hlt : lo + j < hi
    · obtain ⟨b, off, rfl, hc0', hc1', hc2', hc3', hc4', hc5'⟩ := hf (lo + j) (by omega)
      have hl : b < w.heap.size := World.block_lt_of_cell? w _ hc0'
      have hc0 := (hb.cell (World.block_lt_of_cell? w _ hc0')).trans hc0'
      have hc1 := (hb.cell (World.block_lt_of_cell? w _ hc1')).trans hc1'
      have hc2 := (hb.cell (World.block_lt_of_cell? w _ hc2')).trans hc2'
      have hc3 := (hb.cell (World.block_lt_of_cell? w _ hc3')).trans hc3'
      have hc4 := (hb.cell (World.block_lt_of_cell? w _ hc4')).trans hc4'
      have hc5 := (hb.cell (World.block_lt_of_cell? w _ hc5')).trans hc5'
      clear hc0' hc1' hc2' hc3' hc4' hc5' hf
      have HP : Hid (prefF (fun i => F (lo + i)) (j + 1) = prefF (fun i => F (lo + i)) j ++ fdList (F (lo + j))) := rfl
      obtain ⟨k, hkk⟩ : ∃ k, k = lo + j := ⟨_, rfl⟩
      have HKK : Hid (k = lo + j) := hkk
      rw [← hkk] at hlt hc0 hc1 hc2 hc3 hc4 hc5 HP ⊢
      clear hkk
      have hj0 : (0 : Int) ≤ (k : Int) := by omega
      have hj1 : (k : Int) < (nf : Int) := by omega
      have hj2 : (k : Int) < (hi : Int) := by omega
      generalize F k = f at *
      have hsz := hb.size
      have HN := show Hid (_) from news3 wr (.cells #[.string f.verdict, .string f.rule, .string f.crd, .string f.version, .string f.path, .string f.detail] 36) (.cells #[.string f.verdict, .string f.rule, .string f.crd, .string f.version, .string f.path, .string f.detail] 44) f
      go_wp2_with fail
      go_region_held3 (fun w' => w'.cell? ⟨b, off + k * 6, none⟩ = some (.string f.verdict) ∧ w'.cell? ⟨b, off + k * 6 + 1, none⟩ = some (.string f.rule) ∧ w'.cell? ⟨b, off + k * 6 + 2, none⟩ = some (.string f.crd) ∧ w'.cell? ⟨b, off + k * 6 + 3, none⟩ = some (.string f.version) ∧ w'.cell? ⟨b, off + k * 6 + 4, none⟩ = some (.string f.path) ∧ w'.cell? ⟨b, off + k * 6 + 5, none⟩ = some (.string f.detail))
        (first
          | exact ⟨cell_old3 _ _ _ _ _ _ hc0, cell_old3 _ _ _ _ _ _ hc1, cell_old3 _ _ _ _ _ _ hc2, cell_old3 _ _ _ _ _ _ hc3, cell_old3 _ _ _ _ _ _ hc4, cell_old3 _ _ _ _ _ _ hc5⟩
          | go_keep
          | exact ⟨(Below.cell (p := ⟨b, off + k * 6, none⟩) (hbel _ (Below.refl _ _)) hl).trans (cell_old3 _ _ _ _ _ _ hc0), (Below.cell (p := ⟨b, off + k * 6 + 1, none⟩) (hbel _ (Below.refl _ _)) hl).trans (cell_old3 _ _ _ _ _ _ hc1), (Below.cell (p := ⟨b, off + k * 6 + 2, none⟩) (hbel _ (Below.refl _ _)) hl).trans (cell_old3 _ _ _ _ _ _ hc2), (Below.cell (p := ⟨b, off + k * 6 + 3, none⟩) (hbel _ (Below.refl _ _)) hl).trans (cell_old3 _ _ _ _ _ _ hc3), (Below.cell (p := ⟨b, off + k * 6 + 4, none⟩) (hbel _ (Below.refl _ _)) hl).trans (cell_old3 _ _ _ _ _ _ hc4), (Below.cell (p := ⟨b, off + k * 6 + 5, none⟩) (hbel _ (Below.refl _ _)) hl).trans (cell_old3 _ _ _ _ _ _ hc5)⟩)
        ((first
          | (go_at_call 12; refine (as12 f f.verdict _).mono ?_; rintro e w' ⟨rfl, rfl⟩)
          | (refine step44 (by rfl) _ _ (by rfl) w.heap.size _ j (prefF (fun i => F (lo + i)) j) (by rfl) ((((ho.alloc _).alloc _).alloc _).drew) ⟨wr.heap.size + 1 + 1, 0, none⟩ 1 f (by rfl) HN.out (by omega) (by simp; omega) ?_; intro g cap2 w2 hown2 hbel)))
      all_goals
        have hb2 := hbel w ((((hb.alloc hsz _).alloc (by simp; omega) _).alloc (by simp; omega) _).drew)
        go_wp2
        have hk3 := HKK.out
        refine ⟨⟨j + 1, by rw [hk3]; simp; omega, by omega, by rw [HP.out]; exact hown2, hb2⟩, by simp [intOf]; omega⟩
    · obtain rfl : j = hi - lo := by omega
      go_wp2
      go_ret
      exact ⟨_, rfl, hb, ho⟩
end Go.Proofs.Qxb6634845a
