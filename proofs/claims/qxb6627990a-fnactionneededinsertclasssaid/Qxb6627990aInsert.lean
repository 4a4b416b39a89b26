/-
  FnActionNeededInsertClass (3): the walk.
-/
import Derived.Test.Qxb6627990aOpen
import Derived.Deep.AppendLies
namespace Go.Proofs.Qxb6627990a
open Go.RowKit
set_option linter.unusedVariables false

/-- The first k classes, as pairs; the cells that they take. -/
def pref (C V : Nat → ByteArray) : Nat → List Value
  | 0 => []
  | k + 1 => pref C V k ++ [.string (C k), .string (V k)]

theorem pref_length (C V : Nat → ByteArray) (k : Nat) : (pref C V k).length = k * 2 := by
  induction k with
  | zero => rfl
  | succ k ih => rw [pref, List.length_append, ih]; simp; omega

theorem pref_get (C V : Nat → ByteArray) (k i : Nat) (h : i < k) : (pref C V k)[i * 2]? = some (.string (C i)) ∧ (pref C V k)[i * 2 + 1]? = some (.string (V i)) := by
  induction k with
  | zero => omega
  | succ k ih =>
    have hl := pref_length C V k
    rw [pref]
    by_cases hi : i < k
    · rw [List.getElem?_append_left (by omega), List.getElem?_append_left (by omega)]
      exact ih hi
    · obtain rfl : i = k := by omega
      rw [List.getElem?_append_right (by omega), List.getElem?_append_right (by omega), hl]
      simp

/-- A row of classes that the call owns, as the contracts take it. -/
theorem Cl.of_owns {w : World} {B : Nat} {v : Value} {n : Nat} {C V : Nat → ByteArray} (h : w.ownsRow B 26 2 v n (pref C V n)) : ∃ a cap, v = .slice a n cap ∧ Cl w a n C V := by
  rcases h.2 with ⟨rfl, rfl⟩ | ⟨g, cap, cur, rfl, _, hg, _, _, hsz, htk⟩
  · exact ⟨none, 0, rfl, Cl.zero⟩
  · refine ⟨_, _, rfl, fun i hi => ⟨g, 0, rfl, ?_, ?_⟩⟩
    · rw [Nat.zero_add, cell_of_row w g (i * 2) cur 26 (0, 0) hg]
      have := (pref_get C V n i hi).1
      rw [← htk, List.getElem?_take_of_lt (by omega)] at this
      simpa using this
    · rw [Nat.zero_add, cell_of_row w g (i * 2 + 1) cur 26 (0, 0) hg]
      have := (pref_get C V n i hi).2
      rw [← htk, List.getElem?_take_of_lt (by omega)] at this
      simpa using this

theorem info26 : ∃ i z, Try.prog.info? 26 = some i ∧ i.zero = some z ∧ i.size = 2 ∧ i.bytes = 32 ∧ z.cells.size = 2 := by
  have h : (Try.prog.info? 26).map (fun i => (i.zero.map (·.cells.size), i.size, i.bytes)) = some (some 2, 2, 32) := by kernel_rfl
  obtain ⟨i, hi, hh⟩ := Option.map_eq_some_iff.1 h
  simp only [Prod.mk.injEq] at hh
  obtain ⟨h1, h2, h3⟩ := hh
  obtain ⟨z, hz, hzs⟩ := Option.map_eq_some_iff.1 h1
  exact ⟨i, z, hi, hz, h2, h3, hzs⟩

/-- append of one class onto a row that the call owns. -/
theorem app26 {w : World} {ops : Array Oper} {rest : List Oper} {o : Oper} {a : Act} {Q : Exit → Act → World → Prop} (hgd : o.guard = none) (s x : Operand)
    (ho : o.op = .call { callee := .builtin .append, args := #[s, x], argTypes := #[22, 22] })
    (B : Nat) (v : Value) (n : Nat) (xs : List Value) (hs : a.eval s = v) (hown : w.ownsRow B 26 2 v n xs)
    (ad : Addr) (c : Nat) (c0 c1 : ByteArray) (hx : a.eval x = .slice (some ad) 1 c) (h0 : ∀ j u, [Value.string c0, Value.string c1][j]? = some u → w.cell? (ad.add j) = some u)
    (hn : n ≤ 65536) (hbase : B ≤ w.heap.size)
    (h : ∀ g cap w', w'.ownsRow B 26 2 (.slice (some ⟨g, 0, none⟩) (n + 1) cap) (n + 1) (xs ++ [.string c0, .string c1]) → (∀ W, Below B W w → Below B W w') → wpList Try.prog ops Q rest (a.put o.dst (.slice (some ⟨g, 0, none⟩) (n + 1) cap)) w') : wpList Try.prog ops Q (o :: rest) a w := by
  obtain ⟨i, z, hi, hz, hsz, hby, hzs⟩ := info26
  refine wpList_append_lies w hgd s x 22 ho B 26 i z 2 32 Try.underlying22 hi hz hsz hby hzs (by omega) v n xs hs hown ad 1 c [.string c0, .string c1] hx rfl h0 (by intro u hu; simp at hu; rcases hu with rfl | rfl <;> rfl) (by omega) (by unfold maxLen; omega) (by omega) hbase _ rfl ?_
  intro g cap w' h1 h2 h3 h4
  refine h g cap w' h1 (fun W hb => hb.grown h2 hbase (fun k hk => ?_))
  rcases hown.2 with ⟨rfl, _⟩ | ⟨g', cap', cur, rfl, hB, _⟩
  · cases hk
  · simp [Value.ownBlock] at hk
    omega

/-- 'make([]ClassIn, 0, n+1)'. -/
theorem make22 (w : World) (n : Nat) (hn : n ≤ 65536) : ∃ w', (Instr.makeSlice 22 (.int .i64 0) (.int .i64 ((n : Int) + 1))).run Try.prog w = .ok (.slice (some ⟨w.heap.size, 0, none⟩) 0 (n + 1)) w' ∧
    w'.ownsRow w.heap.size 26 2 (.slice (some ⟨w.heap.size, 0, none⟩) 0 (n + 1)) 0 [] ∧ Below w.heap.size w w' := by
  obtain ⟨i, z, hi, hz, hsz, hby, hzs⟩ := info26
  obtain ⟨w', h1, h2, h3⟩ := run_make_own (P := Try.prog) w w.heap.size 22 26 i z 2 Try.underlying22 hi hz hsz .i64 .i64 (n + 1) (by rw [hby]; omega) (by unfold maxLen; omega) (Nat.le_refl _)
  exact ⟨w', by simpa using h1, h2, (Below.refl _ w).grown h3 (Nat.le_refl _) (fun k hk => by cases hk)⟩

theorem resCells_size (fund : ByteArray) (sp : Value) (g n : Nat) : (resCells fund sp g n).size = 15 := rfl

theorem Built.one {w : World} {B : Nat} {sh : Bool} {tier : ByteArray} {n : Nat} {C V : Nat → ByteArray} {sp : Value} {g : Nat} (h : Built w B sh tier n C V sp g) : sp.oneCell' = true := by
  rcases h.shadow with ⟨_, rfl⟩ | ⟨_, h, rfl, _⟩ <;> rfl

theorem Built.later {w w' : World} {B : Nat} {sh : Bool} {tier : ByteArray} {n : Nat} {C V : Nat → ByteArray} {sp : Value} {g : Nat} (h : Built w B sh tier n C V sp g) (hb : Below w.heap.size w w') : Built w' B sh tier n C V sp g := by
  refine ⟨h.above, Nat.lt_of_lt_of_le h.lies hb.size, fun i hi t u htu => ?_, ?_⟩
  · rw [hb.cell (p := ⟨g, i * 20 + t, none⟩) h.lies]; exact h.rows i hi t u htu
  · rcases h.shadow with h1 | ⟨h1, hh, h2, h3⟩
    · exact .inl h1
    · exact .inr ⟨h1, hh, h2, by rw [hb.cell (World.block_lt_of_cell? w _ h3)]; exact h3⟩

/-- A result stored into a block of its own. -/
theorem store_res (wr : World) (fund : ByteArray) (sp : Value) (g n : Nat) (hsp : sp.oneCell' = true) (Z : Array Value) (hZ : Z.size = 15) :
    ∃ W2, Sem.run Try.prog (storeCells ⟨wr.heap.size, 0, none⟩ (resCells fund sp g n).toList) (wr.alloc (.cells Z 40)) = .ok () W2 ∧ Below wr.heap.size wr W2 ∧ W2.rangeAt wr.heap.size 0 (resCells fund sp g n).toList ∧ wr.heap.size < W2.heap.size := by
  have ht : (wr.alloc (.cells Z 40)).there wr.heap.size 0 15 := there_new wr Z 40 0 0 15 _ rfl (by omega)
  have h1 : ∀ u ∈ (resCells fund sp g n).toList, u.oneCell' = true := by
    intro u hu
    simp [resCells] at hu
    rcases hu with rfl | rfl | rfl | rfl | rfl | rfl | rfl | rfl | rfl | rfl | rfl | rfl | rfl | rfl | rfl <;> first | rfl | exact hsp
  have hr := run_storeCells_cells (P := Try.prog) wr.heap.size 0 (resCells fund sp g n).toList 0 (wr.alloc (.cells Z 40)) (fun j hj => (ht j hj).1) (fun j hj => (ht j hj).2) h1
  refine ⟨(wr.alloc (.cells Z 40)).setCells wr.heap.size 0 (resCells fund sp g n).toList, hr, ?_, ?_, ?_⟩
  · have := setCells_alloc wr 40 (resCells fund sp g n).toList Z 0 0 wr.heap.size rfl
    have e : (wr.alloc (.cells Z 40)).setCells wr.heap.size 0 (resCells fund sp g n).toList = wr.alloc (.cells (putAt Z 0 (resCells fund sp g n).toList) 40) := this
    rw [e]
    exact (Below.refl _ wr).alloc (Nat.le_refl _) _
  · exact World.rangeAt_setCells_same _ _ _ _ ht
  · have := setCells_alloc wr 40 (resCells fund sp g n).toList Z 0 0 wr.heap.size rfl
    have e : (wr.alloc (.cells Z 40)).setCells wr.heap.size 0 (resCells fund sp g n).toList = wr.alloc (.cells (putAt Z 0 (resCells fund sp g n).toList) 40) := this
    rw [e]
    simp

/-- A result read back. -/
theorem load_res {w : World} {ops : Array Oper} {rest : List Oper} {op : Oper} {a : Act} {Q : Exit → Act → World → Prop} (hgd : op.guard = none) (x : Operand) (ho : op.op = .load 40 x)
    (b : Nat) (hx : a.eval x = .pointer (some ⟨b, 0, none⟩)) (fund : ByteArray) (sp : Value) (g n : Nat) (hc : w.rangeAt b 0 (resCells fund sp g n).toList)
    (h : wpList Try.prog ops Q rest (a.put op.dst (.agg (resCells fund sp g n))) w) : wpList Try.prog ops Q (op :: rest) a w :=
  wpList_load_mid hgd 40 x ho b 0 hx (resCells fund sp g n).toList _ hc Try.underlying40 rfl (by kernel_rfl) h

theorem rangeAt_later {w w' : World} {b o : Nat} {cs : List Value} (h : w.rangeAt b o cs) (hb : Below w.heap.size w w') : w'.rangeAt b o cs := by
  intro j v hv
  have h1 := h j v hv
  rw [hb.cell (World.block_lt_of_cell? w _ h1)]; exact h1

def Bytes5 (w : World) (args : Array Value) : Prop := Calls Try.prog 5 args w fun e w' => IsBool e ∧ w' = w

set_option maxHeartbeats 1000000 in
theorem insert_core (fund tier name verdict : ByteArray) (sh : Bool) (a : Option Addr) (n cap at' : Nat) (C V C' V' : Nat → ByteArray) (w : World)
    (c5 : Bytes5 w #[.string fund, .bool sh, .string tier, .slice a n cap, .int .i64 at', .string name, .string verdict])
    (c6 : Over6 w #[.string fund, .string tier, .string name, .string verdict, .slice a n cap])
    (h1 : fund.size ≤ 65536) (h2 : tier.size ≤ 65536) (h1' : name.size ≤ 65536) (h2' : verdict.size ≤ 65536) (h3 : n ≤ 65536) (hk : at' ≤ n) (hc : Cl w a n C V)
    (hl : ∀ i, i < at' → C' i = C i ∧ V' i = V i) (hm : C' at' = name ∧ V' at' = verdict) (hr : ∀ i, at' ≤ i → i < n → C' (i + 1) = C i ∧ V' (i + 1) = V i)
    (hlaw : needs sh tier (n + 1) V' = (needs sh tier n V || bad verdict)) :
    Calls Try.prog 3 #[.string fund, .bool sh, .string tier, .slice a n cap, .int .i64 at', .string name, .string verdict] w fun e w' => e = .returned (.bool true) ∧ Below w.heap.size w w' := by
  have HL : Hid (∀ i, i < at' → C' i = C i ∧ V' i = V i) := hl
  have HM : Hid (C' at' = name ∧ V' at' = verdict) := hm
  have HR : Hid (∀ i, at' ≤ i → i < n → C' (i + 1) = C i ∧ V' (i + 1) = V i) := hr
  have HLaw : Hid (needs sh tier (n + 1) V' = (needs sh tier n V || bad verdict)) := hlaw
  clear hl hm hr hlaw
  have g1 : ¬ (65536 : Int) < (fund.size : Int) := by omega
  have g2 : ¬ (65536 : Int) < (tier.size : Int) := by omega
  have g3 : ¬ (65536 : Int) < (name.size : Int) := by omega
  have g4 : ¬ (65536 : Int) < (verdict.size : Int) := by omega
  have g5 : ¬ (65536 : Int) < (n : Int) := by omega
  have g6 : ¬ (at' : Int) < 0 := by omega
  have g7 : ¬ n < at' := by omega
  go_enter Try.func3, Try.ntmps3
  go_wp2_with fail
  refine (c5 : Calls ..).mono ?_
  rintro e w' ⟨hb | hb, hw⟩
  · subst hb hw
    go_wp2_with fail
    refine (c6 : Calls ..).mono ?_
    rintro e w' ⟨hb | hb, q, hw⟩
    · subst hb hw
      go_wp2_with fail
      go_ret
      exact ⟨rfl, below_drewN (Below.refl _ _)⟩
    · subst hb hw
      obtain ⟨w1, hmk, hown, hb1⟩ := make22 (w'.drewN q) n h3
      clear c5 c6
      go_wp2_with fail
      go_loopw [15, 16] (fun v i wr => ∃ j : Nat, i = .int .i64 j ∧ j ≤ at' ∧ wr.ownsRow w'.heap.size 26 2 v j (pref C' V' j) ∧ Below w'.heap.size w' wr) (fun _ i _ => at' - (intOf i).toNat)
      case atStart => exact ⟨0, rfl, by omega, hown, (below_drewN (q := q) (Below.refl _ w')).trans hb1⟩
      case round =>
        obtain ⟨j, rfl, hj, ho, hb⟩ := hrel
        clear hmk hown hb1
        by_cases hlt : j < at'
        · obtain ⟨b, off, rfl, hc0', hc1'⟩ := hc j (by omega)
          have hc0 : wr.cell? ⟨b, off + j * 2, none⟩ = some (.string (C j)) := by rw [hb.cell (World.block_lt_of_cell? w' _ hc0')]; exact hc0'
          have hc1 : wr.cell? ⟨b, off + j * 2 + 1, none⟩ = some (.string (V j)) := by rw [hb.cell (World.block_lt_of_cell? w' _ hc1')]; exact hc1'
          have hE := HL.out j hlt
          have HE : Hid (pref C' V' (j + 1) = pref C' V' j ++ [.string (C j), .string (V j)]) := by show pref C' V' j ++ _ = _; rw [hE.1, hE.2]
          clear hc0' hc1' hE hc
          have hsz := hb.size
          go_wp2_with (at_builtin; refine app26 rfl _ _ rfl w'.heap.size _ j (pref C' V' j) rfl (ho.alloc _) ⟨wr.heap.size, 0, none⟩ 1 (C j) (V j) rfl (World.news_of_block (heap_alloc_new wr _)) (by omega) (by simp; omega) ?_; intro g cap2 w2 hown2 hbel)
          have hb2 := hbel w' (hb.alloc hsz _)
          go_roundw
          case rel => first | exact ⟨j + 1, by go_num, by omega, by rw [HE.out]; exact hown2, hb2⟩ | ((repeat apply Exists.intro); exact ⟨⟨j + 1, by go_num, by omega, by rw [HE.out]; exact hown2, hb2⟩, rfl⟩)
          case measure => simp [intOf]; omega
        · obtain rfl : j = at' := by omega
          have HE : Hid (pref C' V' (j + 1) = pref C' V' j ++ [.string name, .string verdict]) := by show pref C' V' j ++ _ = _; rw [HM.out.1, HM.out.2]
          have hsz := hb.size
          go_wp2_with (at_builtin; refine app26 rfl _ _ rfl w'.heap.size _ j (pref C' V' j) rfl (ho.alloc _) ⟨wr.heap.size, 0, none⟩ 1 name verdict rfl (World.news_of_block (heap_alloc_new wr _)) (by omega) (by simp; omega) ?_; intro g cap2 w2 hown2 hbel)
          have hb2 := hbel w' (hb.alloc hsz _)
          go_loopw [15, 17] (fun v i wr => ∃ t : Nat, i = .int .i64 t ∧ j ≤ t ∧ t ≤ n ∧ wr.ownsRow w'.heap.size 26 2 v (t + 1) (pref C' V' (t + 1)) ∧ Below w'.heap.size w' wr) (fun _ i _ => n - (intOf i).toNat)
          case atStart => exact ⟨j, rfl, by omega, by omega, by rw [HE.out]; exact hown2, hb2⟩
          case round =>
            obtain ⟨t, rfl, ht0, ht, ho3, hb3⟩ := hrel
            clear ho hb hown2 hb2 hbel HE hsz
            by_cases hlt3 : t < n
            · obtain ⟨b, off, rfl, hc0', hc1'⟩ := hc t (by omega)
              have hc0 : wr.cell? ⟨b, off + t * 2, none⟩ = some (.string (C t)) := by rw [hb3.cell (World.block_lt_of_cell? w' _ hc0')]; exact hc0'
              have hc1 : wr.cell? ⟨b, off + t * 2 + 1, none⟩ = some (.string (V t)) := by rw [hb3.cell (World.block_lt_of_cell? w' _ hc1')]; exact hc1'
              have hE := HR.out t ht0 hlt3
              have HE : Hid (pref C' V' (t + 1 + 1) = pref C' V' (t + 1) ++ [.string (C t), .string (V t)]) := by show pref C' V' (t + 1) ++ _ = _; rw [hE.1, hE.2]
              clear hc0' hc1' hE hc
              have hsz := hb3.size
              go_wp2_with (at_builtin; refine app26 rfl _ _ rfl w'.heap.size _ (t + 1) (pref C' V' (t + 1)) rfl (ho3.alloc _) ⟨wr.heap.size, 0, none⟩ 1 (C t) (V t) rfl (World.news_of_block (heap_alloc_new wr _)) (by omega) (by simp; omega) ?_; intro g3 cap3 w3 hown3 hbel3)
              have hb4 := hbel3 w' (hb3.alloc hsz _)
              go_roundw
              case rel => first | exact ⟨t + 1, by go_num, by omega, by omega, by rw [HE.out]; exact hown3, hb4⟩ | ((repeat apply Exists.intro); exact ⟨⟨t + 1, by go_num, by omega, by omega, by rw [HE.out]; exact hown3, hb4⟩, rfl⟩)
              case measure => simp [intOf]; omega
            · obtain rfl : t = n := by omega
              obtain ⟨a2, cap2', rfl, hcl2⟩ := Cl.of_owns ho3
              go_wp2_with fail
              refine (buildIs fund tier sh a t cap C V (hc.later hb3) (by omega) _ (Below.refl _ _)).mono ?_
              rintro e w3 ⟨sp, g3, rfl, hb4, B1⟩
              have hrs := resCells_size fund sp g3 t
              obtain ⟨W2, hst, hb5, hr5, hz5⟩ := store_res w3 fund sp g3 t B1.one #[Value.string { data := #[] }, Value.int IntKind.u64 0, Value.int IntKind.i64 0, Value.pointer none, Value.int IntKind.i32 0, Value.slice none 0 0, Value.int IntKind.i64 0, Value.int IntKind.u64 0, Value.int IntKind.i64 0, Value.int IntKind.u64 0, Value.int IntKind.i64 0, Value.int IntKind.u64 0, Value.pointer none, Value.pointer none, Value.slice none 0 0] rfl
              go_wp2_with fail
              have hwr2 : Below wr.heap.size wr W2 := hb4.trans (hb5.mono hb4.size)
              refine (buildIs fund tier sh a2 (t + 1) cap2' C' V' (hcl2.later hwr2) (by omega) _ (Below.refl _ _)).mono ?_
              rintro e w5 ⟨sp2, g5, rfl, hb6, B2⟩
              have hrs2 := resCells_size fund sp2 g5 (t + 1)
              obtain ⟨W4, hst2, hb7, hr7, hz7⟩ := store_res w5 fund sp2 g5 (t + 1) B2.one #[Value.string { data := #[] }, Value.int IntKind.u64 0, Value.int IntKind.i64 0, Value.pointer none, Value.int IntKind.i32 0, Value.slice none 0 0, Value.int IntKind.i64 0, Value.int IntKind.u64 0, Value.int IntKind.i64 0, Value.int IntKind.u64 0, Value.int IntKind.i64 0, Value.int IntKind.u64 0, Value.pointer none, Value.pointer none, Value.slice none 0 0] rfl
              have h24 : Below W2.heap.size W2 W4 := hb6.trans (hb7.mono hb6.size)
              have rr1 : W4.rangeAt w3.heap.size 0 (resCells fund sp g3 t).toList := rangeAt_later hr5 h24
              have B1' := B1.later (hb5.trans (h24.mono hb5.size))
              clear hst hrs
              go_wp2_with (refine load_res rfl _ rfl w3.heap.size rfl fund sp g3 t rr1 ?_)
              refine (actionIs fund tier sh t C V (by omega) _ _ _ (Below.refl _ _) B1').mono ?_
              rintro e w6 ⟨rfl, hb8⟩
              have rr2 : w6.rangeAt w5.heap.size 0 (resCells fund sp2 g5 (t + 1)).toList := rangeAt_later hr7 hb8
              have B2' := B2.later (hb7.trans (hb8.mono hb7.size))
              have hwr4 : Below w'.heap.size w' w6 := hb3.trans ((hwr2.trans ((h24.trans (hb8.mono h24.size)).mono hwr2.size)).mono hb3.size)
              have hlaw := HLaw.out
              clear HL HM HR HLaw hst2 hrs2 rr1 hr5 hr7 B1 B1' B2 hb4 hb5 hb6 hb7 hb8 hwr2 h24 hc hcl2 ho3 hb3
              generalize needs sh tier t V = r1 at hlaw ⊢
              generalize hbv : bad verdict = bv at hlaw
              unfold bad at hbv
              cases r1 <;> cases bv <;> simp at hlaw
              all_goals
                have HLaw := show Hid (_ = _) from hlaw
                clear hlaw
                go_wp2_with (refine load_res rfl _ rfl w5.heap.size rfl fund sp2 g5 (t + 1) rr2 ?_)
                refine (actionIs fund tier sh (t + 1) C' V' (by omega) _ _ _ (Below.refl _ _) B2').mono ?_
                rintro e w7 ⟨rfl, hb9⟩
                rw [HLaw.out]
                go_wp2
                go_ret
                exact ⟨rfl, hwr4.trans (hb9.mono hwr4.size)⟩
  · subst hb hw
    go_wp2_with fail
    go_ret
    exact ⟨rfl, Below.refl _ _⟩
end Go.Proofs.Qxb6627990a
