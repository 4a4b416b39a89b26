/-
  FnApplyMatchesLayeredModel (3): the walk.
-/
import Derived.Test.Qxb6634845aContr
namespace Go.Proofs.Qxb6634845a
open Go.RowKit Go.MapKept
set_option linter.unusedVariables false

def As12 (w : World) (f : Fd) (v : ByteArray) : Prop :=
  Calls Try.prog 12 #[.agg #[.string f.verdict, .string f.rule, .string f.crd, .string f.version, .string f.path, .string f.detail], .string v] w fun e w' =>
    e = .returned (.agg #[.string v, .string f.rule, .string f.crd, .string f.version, .string f.path, .string f.detail]) ∧ Below w.heap.size w w'

theorem as12is (f : Fd) (v : ByteArray) (w : World) : As12 w f v := by
  refine (as12 f v w).mono ?_
  rintro e w' ⟨rfl, rfl⟩
  exact ⟨rfl, ((Below.refl _ w).alloc (Nat.le_refl _) _).alloc (by simp) _⟩

set_option maxRecDepth 100000 in
set_option maxHeartbeats 8000000 in
theorem match_core (a b' c : Option Addr) (n nk nf cap cap2 cap3 : Nat) (R V C K L : Nat → ByteArray) (F : Nat → Fd) (w : World) (hr : Ru w a n R V) (hk : Kr w b' nk C K L) (hf : Fs w c nf F)
    (c5 : BytesIs 5 w #[.slice a n cap, .slice b' nk cap2, .slice c nf cap3]) (c6 : WithinIs w #[.slice a n cap, .slice b' nk cap2, .slice c nf cap3])
    (hn : n ≤ 4096) (hnk : nk ≤ 4096) (hnf : nf ≤ 4096) :
    Calls Try.prog 3 #[.slice a n cap, .slice b' nk cap2, .slice c nf cap3] w fun e w' => e = .returned (.bool true) ∧ Below w.heap.size w w' := by
  have g1 : ¬ (4096 : Int) < (n : Int) := by omega
  have g2 : ¬ (4096 : Int) < (nk : Int) := by omega
  have g3 : ¬ (4096 : Int) < (nf : Int) := by omega
  go_enter Try.func3, Try.ntmps3
  go_wp2_with fail
  refine (c5 : Calls ..).mono ?_
  rintro e w' ⟨hb | hb, hw⟩
  · subst hb hw
    go_wp2_with fail
    refine (c6 : Calls ..).mono ?_
    rintro e w6 ⟨hb | hb, hb6⟩
    · subst hb
      clear c5 c6
      go_wp2_with fail
      refine (confIs a b' n nk cap cap2 R V C K L w6 (hr.later hb6) (hk.later hb6) hn hnk : Calls ..).mono ?_
      rintro e w7 ⟨x1, x2, rfl, hb7, hcf⟩
      have hb67 : Below w'.heap.size w' w7 := hb6.trans (hb7.mono hb6.size)
      go_wp2_with fail
      obtain ⟨w8, hw8⟩ : ∃ W, W = w7.alloc (Obj.cells #[Value.map x1, Value.map x2] 30) := ⟨_, rfl⟩
      have hb8 : Below w'.heap.size w' w8 := by rw [hw8]; exact hb67.alloc hb67.size _
      have hcf8 : Conf w8 x1 x2 (lastR R V n) (lastK C K L nk) := by rw [hw8]; exact hcf.later ((Below.refl _ _).alloc (Nat.le_refl _) _)
      have hs0 : w8.cell? ⟨w7.heap.size, 0, none⟩ = some (.map x1) := by rw [hw8]; simp [go_sem]
      have hs1 : w8.cell? ⟨w7.heap.size, 1, none⟩ = some (.map x2) := by rw [hw8]; simp [go_sem]
      rw [← hw8]
      have hl8 : w7.heap.size < w8.heap.size := World.block_lt_of_cell? w8 _ hs0
      clear hw8 hcf hb67 hb7 hb6
      have c9 : FindsIs w8.drew #[.slice c nf cap3, .int .i64 0, .int .i64 nf] nf F := by
        simpa using findsIs c nf cap3 0 nf F w8.drew (hf.later hb8.drew) hnf (by omega) (Nat.le_refl _)
      have hcf8' : Conf w8.drew x1 x2 (lastR R V n) (lastK C K L nk) := hcf8.later (Below.refl _ w8).drew
      go_region_held3 (fun w' => w'.cell? ⟨w7.heap.size, 0, none⟩ = some (.map x1) ∧ w'.cell? ⟨w7.heap.size, 1, none⟩ = some (.map x2))
        (first
          | exact ⟨(hb10.cell (p := ⟨w7.heap.size, 0, none⟩) (Nat.lt_of_lt_of_le hl8 hb9.size)).trans ((hb9.cell (p := ⟨w7.heap.size, 0, none⟩) hl8).trans hs0), (hb10.cell (p := ⟨w7.heap.size, 1, none⟩) (Nat.lt_of_lt_of_le hl8 hb9.size)).trans ((hb9.cell (p := ⟨w7.heap.size, 1, none⟩) hl8).trans hs1)⟩
          | exact ⟨(hb9.cell (p := ⟨w7.heap.size, 0, none⟩) hl8).trans hs0, (hb9.cell (p := ⟨w7.heap.size, 1, none⟩) hl8).trans hs1⟩
          | go_keep)
        ((first
          | (go_at_call 9; refine (c9 : Calls ..).mono ?_; rintro e w9 ⟨a9, cap9, rfl, hb9, hf9⟩)
          | (go_at_call 8; refine (applyIs (hcf8'.later hb9) _ _ _ F hf9 hnf : Calls ..).mono ?_; rintro e w10 ⟨ag, capg, rfl, hb10, hfg⟩)))
      have hb10' : Below w'.heap.size w' w10 := hb8.trans (((Below.refl _ w8).drew.trans (Below.trans hb9 (hb10.mono hb9.size))).mono hb8.size)
      have HS : Hid (∀ W, Below w10.heap.size w10 W → ∀ c k, SetIs W #[.slice a n cap, .slice b' nk cap2, .string c, .string k] (setOf (lastR R V n) (lastK C K L nk) c k)) := fun W hW c k =>
        setting11 a b' n nk cap cap2 R V C K L c k W (hr.later (hb10'.trans (hW.mono hb10'.size))) (hk.later (hb10'.trans (hW.mono hb10'.size))) hn hnk
      generalize setOf (lastR R V n) (lastK C K L nk) = st at HS hfg ⊢
      clear c9 hcf8 hcf8' hs0 hs1 hl8 hf9 hr hk hb8 hb9 hb10
      go_wp2_with fail
      go_loopw [9, 10] (fun z i wr => ∃ t : Nat, z = .int .i64 ((applyL st F t).length : Int) ∧ i = .int .i64 t ∧ t ≤ nf ∧ Below w10.heap.size w10 wr) (fun _ i _ => nf - (intOf i).toNat)
      case atStart => exact ⟨0, rfl, rfl, by omega, Below.refl _ _⟩
      case round =>
        obtain ⟨t, rfl, rfl, ht, hbr⟩ := hrel
        have hbw : Below w'.heap.size w' wr := hb10'.trans (hbr.mono hb10'.size)
        by_cases hlt : t < nf
        · obtain ⟨b, off, rfl, hc0, hc1, hc2, hc3, hc4, hc5⟩ := hf.later hbw t hlt
          clear hf
          have hj0 : (0 : Int) ≤ (t : Int) := by omega
          have hj1 : (t : Int) < (nf : Int) := by omega
          have hsz := hbr.size
          by_cases hoff : st (F t).crd (F t).rule = sOff
          · have HLen : Hid ((applyL st F (t + 1)).length = (applyL st F t).length) := by show _ = _; rw [applyL_skip st F t hoff]
            clear hfg
            generalize F t = f at *
            have hset := HS.out (wr.alloc (.cells #[.string f.verdict, .string f.rule, .string f.crd, .string f.version, .string f.path, .string f.detail] 36)).drew (hbr.alloc hsz _).drew f.crd f.rule
            rw [hoff] at hset
            have hvd : VerdIs (wr.alloc (.cells #[.string f.verdict, .string f.rule, .string f.crd, .string f.version, .string f.path, .string f.detail] 36)).drew #[.string sOff, .string f.verdict] (.tuple #[.bool false, .string ⟨#[]⟩]) := by
              have := verdict10 sOff f.verdict (wr.alloc (.cells #[.string f.verdict, .string f.rule, .string f.crd, .string f.version, .string f.path, .string f.detail] 36)).drew
              rw [if_pos rfl] at this
              exact this
            go_wp2_with fail
            go_region_held3 (fun w' => w'.cell? ⟨wr.heap.size, 0, none⟩ = some (.string f.verdict) ∧ w'.cell? ⟨wr.heap.size, 1, none⟩ = some (.string f.rule) ∧ w'.cell? ⟨wr.heap.size, 2, none⟩ = some (.string f.crd) ∧ w'.cell? ⟨wr.heap.size, 3, none⟩ = some (.string f.version) ∧ w'.cell? ⟨wr.heap.size, 4, none⟩ = some (.string f.path) ∧ w'.cell? ⟨wr.heap.size, 5, none⟩ = some (.string f.detail)) (go_keep)
              ((first
                | (go_at_call 11; refine (hset : Calls ..).mono ?_; rintro e w11 ⟨rfl, rfl⟩)
                | (go_at_call 10; refine (hvd : Calls ..).mono ?_; rintro e w12 ⟨rfl, rfl⟩)))
            all_goals
              go_wp2_with fail
              go_roundw
              case rel => first | exact ⟨t + 1, by rw [HLen.out], by go_num, by omega, (hbr.alloc hsz _).drew⟩ | ((repeat apply Exists.intro); exact ⟨⟨t + 1, by rw [HLen.out], by go_num, by omega, (hbr.alloc hsz _).drew⟩, rfl⟩)
              case measure => simp [intOf]; omega
          · obtain ⟨q1, q2, q3⟩ := applyL_next st F t nf hlt hoff
            have HLen : Hid ((applyL st F (t + 1)).length = (applyL st F t).length + 1) := q3
            have HN : Hid (nth (applyL st F nf) (applyL st F t).length = put1 (F t) (st (F t).crd (F t).rule)) := q2
            clear q2 q3
            obtain ⟨gb, gof, hag, p0, p1, p2, p3, p4, p5⟩ := hfg _ q1
            rw [HN.out] at p0 p1 p2 p3 p4 p5
            clear hfg HN
            subst hag
            have hset' := HS.out (wr.alloc (.cells (fdCells (F t)) 36)).drew (hbr.alloc hsz _).drew (F t).crd (F t).rule
            clear HS
            obtain ⟨s, hs⟩ : ∃ s, s = st (F t).crd (F t).rule := ⟨_, rfl⟩
            rw [← hs] at hset' hoff p0 p1 p2 p3 p4 p5
            clear hs
            generalize F t = f at *
            have hset : SetIs (wr.alloc (.cells #[.string f.verdict, .string f.rule, .string f.crd, .string f.version, .string f.path, .string f.detail] 36)).drew #[.slice a n cap, .slice b' nk cap2, .string f.crd, .string f.rule] s := hset'
            clear hset'
            have hvd : VerdIs (wr.alloc (.cells #[.string f.verdict, .string f.rule, .string f.crd, .string f.version, .string f.path, .string f.detail] 36)).drew #[.string s, .string f.verdict] (.tuple #[.bool true, .string (verd s f.verdict)]) := by
              have := verdict10 s f.verdict (wr.alloc (.cells #[.string f.verdict, .string f.rule, .string f.crd, .string f.version, .string f.path, .string f.detail] 36)).drew
              rw [if_neg hoff] at this
              exact this
            clear hoff
            have hmle := applyL_le st F nf
            generalize hLt : (applyL st F t).length = Lt at *
            generalize hm : (applyL st F nf).length = m at *
            have e0 : wr.cell? ⟨gb, gof + Lt * 6, none⟩ = some (.string (verd s f.verdict)) := (hbr.cell (World.block_lt_of_cell? w10 _ p0)).trans p0
            have e1 : wr.cell? ⟨gb, gof + Lt * 6 + 1, none⟩ = some (.string f.rule) := (hbr.cell (World.block_lt_of_cell? w10 _ p1)).trans p1
            have e2 : wr.cell? ⟨gb, gof + Lt * 6 + 2, none⟩ = some (.string f.crd) := (hbr.cell (World.block_lt_of_cell? w10 _ p2)).trans p2
            have e3 : wr.cell? ⟨gb, gof + Lt * 6 + 3, none⟩ = some (.string f.version) := (hbr.cell (World.block_lt_of_cell? w10 _ p3)).trans p3
            have e4 : wr.cell? ⟨gb, gof + Lt * 6 + 4, none⟩ = some (.string f.path) := (hbr.cell (World.block_lt_of_cell? w10 _ p4)).trans p4
            have e5 : wr.cell? ⟨gb, gof + Lt * 6 + 5, none⟩ = some (.string f.detail) := (hbr.cell (World.block_lt_of_cell? w10 _ p5)).trans p5
            clear p0 p1 p2 p3 p4 p5
            have hgl : gb < wr.heap.size := World.block_lt_of_cell? wr _ e0
            have hL0 : (0 : Int) ≤ (Lt : Int) := by omega
            have hL1 : (Lt : Int) < (m : Int) := by omega
            have hL2 : ¬ (m : Int) ≤ (Lt : Int) := by omega
            go_wp2_with fail
            go_region_held3 (fun w' => w'.cell? ⟨wr.heap.size, 0, none⟩ = some (.string f.verdict) ∧ w'.cell? ⟨wr.heap.size, 1, none⟩ = some (.string f.rule) ∧ w'.cell? ⟨wr.heap.size, 2, none⟩ = some (.string f.crd) ∧ w'.cell? ⟨wr.heap.size, 3, none⟩ = some (.string f.version) ∧ w'.cell? ⟨wr.heap.size, 4, none⟩ = some (.string f.path) ∧ w'.cell? ⟨wr.heap.size, 5, none⟩ = some (.string f.detail)) (go_keep)
              ((first
                | (go_at_call 11; refine (hset : Calls ..).mono ?_; rintro e w11 ⟨rfl, rfl⟩)
                | (go_at_call 10; refine (hvd : Calls ..).mono ?_; rintro e w12 ⟨rfl, rfl⟩)))
            all_goals
              clear hset hvd
              go_wp2_with fail
              obtain ⟨w13, hw13⟩ : ∃ W, W = (wr.alloc (Obj.cells #[Value.string f.verdict, Value.string f.rule, Value.string f.crd, Value.string f.version, Value.string f.path, Value.string f.detail] 36)).drew := ⟨_, rfl⟩
              have f0 : w13.cell? ⟨wr.heap.size, 0, none⟩ = some (.string f.verdict) := by rw [hw13]; simp [go_sem]
              have f1 : w13.cell? ⟨wr.heap.size, 1, none⟩ = some (.string f.rule) := by rw [hw13]; simp [go_sem]
              have f2 : w13.cell? ⟨wr.heap.size, 2, none⟩ = some (.string f.crd) := by rw [hw13]; simp [go_sem]
              have f3 : w13.cell? ⟨wr.heap.size, 3, none⟩ = some (.string f.version) := by rw [hw13]; simp [go_sem]
              have f4 : w13.cell? ⟨wr.heap.size, 4, none⟩ = some (.string f.path) := by rw [hw13]; simp [go_sem]
              have f5 : w13.cell? ⟨wr.heap.size, 5, none⟩ = some (.string f.detail) := by rw [hw13]; simp [go_sem]
              replace e0 : w13.cell? ⟨gb, gof + Lt * 6, none⟩ = some (.string (verd s f.verdict)) := by rw [hw13]; exact cell_old _ _ _ _ e0
              replace e1 : w13.cell? ⟨gb, gof + Lt * 6 + 1, none⟩ = some (.string f.rule) := by rw [hw13]; exact cell_old _ _ _ _ e1
              replace e2 : w13.cell? ⟨gb, gof + Lt * 6 + 2, none⟩ = some (.string f.crd) := by rw [hw13]; exact cell_old _ _ _ _ e2
              replace e3 : w13.cell? ⟨gb, gof + Lt * 6 + 3, none⟩ = some (.string f.version) := by rw [hw13]; exact cell_old _ _ _ _ e3
              replace e4 : w13.cell? ⟨gb, gof + Lt * 6 + 4, none⟩ = some (.string f.path) := by rw [hw13]; exact cell_old _ _ _ _ e4
              replace e5 : w13.cell? ⟨gb, gof + Lt * 6 + 5, none⟩ = some (.string f.detail) := by rw [hw13]; exact cell_old _ _ _ _ e5
              have hb13 : Below w10.heap.size w10 w13 := by rw [hw13]; exact (hbr.alloc hsz _).drew
              have hk2 : wr.heap.size < w13.heap.size := World.block_lt_of_cell? w13 _ f0
              have hk1 : gb < w13.heap.size := by omega
              rw [← hw13]
              clear hw13
              have c12 := as12is f (verd s f.verdict) w13.drew
              clear hc0 hc1 hc2 hc3 hc4 hc5
              go_region_held3 (fun w' => w'.cell? ⟨gb, gof + Lt * 6, none⟩ = some (.string (verd s f.verdict)) ∧ w'.cell? ⟨gb, gof + Lt * 6 + 1, none⟩ = some (.string f.rule) ∧ w'.cell? ⟨gb, gof + Lt * 6 + 2, none⟩ = some (.string f.crd) ∧ w'.cell? ⟨gb, gof + Lt * 6 + 3, none⟩ = some (.string f.version) ∧ w'.cell? ⟨gb, gof + Lt * 6 + 4, none⟩ = some (.string f.path) ∧ w'.cell? ⟨gb, gof + Lt * 6 + 5, none⟩ = some (.string f.detail) ∧ w'.cell? ⟨wr.heap.size, 0, none⟩ = some (.string f.verdict) ∧ w'.cell? ⟨wr.heap.size, 1, none⟩ = some (.string f.rule) ∧ w'.cell? ⟨wr.heap.size, 2, none⟩ = some (.string f.crd) ∧ w'.cell? ⟨wr.heap.size, 3, none⟩ = some (.string f.version) ∧ w'.cell? ⟨wr.heap.size, 4, none⟩ = some (.string f.path) ∧ w'.cell? ⟨wr.heap.size, 5, none⟩ = some (.string f.detail))
                (first
                  | exact ⟨(hb12.cell (p := ⟨gb, gof + Lt * 6, none⟩) hk1).trans e0, (hb12.cell (p := ⟨gb, gof + Lt * 6 + 1, none⟩) hk1).trans e1, (hb12.cell (p := ⟨gb, gof + Lt * 6 + 2, none⟩) hk1).trans e2, (hb12.cell (p := ⟨gb, gof + Lt * 6 + 3, none⟩) hk1).trans e3, (hb12.cell (p := ⟨gb, gof + Lt * 6 + 4, none⟩) hk1).trans e4, (hb12.cell (p := ⟨gb, gof + Lt * 6 + 5, none⟩) hk1).trans e5, (hb12.cell (p := ⟨wr.heap.size, 0, none⟩) hk2).trans f0, (hb12.cell (p := ⟨wr.heap.size, 1, none⟩) hk2).trans f1, (hb12.cell (p := ⟨wr.heap.size, 2, none⟩) hk2).trans f2, (hb12.cell (p := ⟨wr.heap.size, 3, none⟩) hk2).trans f3, (hb12.cell (p := ⟨wr.heap.size, 4, none⟩) hk2).trans f4, (hb12.cell (p := ⟨wr.heap.size, 5, none⟩) hk2).trans f5⟩
                  | go_keep)
                ((first | (go_at_call 12; refine (c12 : Calls ..).mono ?_; rintro e w14 ⟨rfl, hb12⟩)))
              all_goals
                have hb14 : Below w10.heap.size w10 w14 := hb13.trans (((Below.refl _ w13).drew.trans hb12).mono hb13.size)
                go_wp2_with fail
                go_roundw
                case rel => first | exact ⟨t + 1, by rw [HLen.out]; first | done | rfl | go_num, by go_num, by omega, hb14⟩ | ((repeat apply Exists.intro); exact ⟨⟨t + 1, by rw [HLen.out]; first | done | rfl | go_num, by go_num, by omega, hb14⟩, rfl⟩)
                case measure => simp [intOf]; omega
        · obtain rfl : t = nf := by omega
          go_wp2
          go_ret
          exact ⟨rfl, hbw⟩
    · subst hb
      go_wp2_with fail
      go_ret
      exact ⟨rfl, hb6⟩
  · subst hb hw
    go_wp2_with fail
    go_ret
    exact ⟨rfl, Below.refl _ _⟩
end Go.Proofs.Qxb6634845a
