/-
  FnApplySplitsAtAnyCutAndIsIdempotent (4): the plain law and the walk.
-/
import Derived.Test.Qxb6634845aContr
namespace Go.Proofs.Qxb6634845a
open Go.RowKit Go.MapKept
set_option linter.unusedVariables false

theorem applyL_split (st : ByteArray → ByteArray → ByteArray) (F : Nat → Fd) (k m : Nat) : applyL st F (k + m) = applyL st F k ++ applyL st (fun i => F (k + i)) m := by
  induction m with
  | zero => simp [applyL]
  | succ m ih => rw [← Nat.add_assoc, applyL, applyL, ih, List.append_assoc]

theorem nth_left (A B : List Fd) (i : Nat) (h : i < A.length) : nth (A ++ B) i = nth A i := by
  unfold nth
  rw [List.getD_eq_getElem?_getD, List.getD_eq_getElem?_getD, List.getElem?_append_left h]

theorem nth_right (A B : List Fd) (i : Nat) : nth (A ++ B) (A.length + i) = nth B i := by
  unfold nth
  rw [List.getD_eq_getElem?_getD, List.getD_eq_getElem?_getD, List.getElem?_append_right (by omega), show A.length + i - A.length = i by omega]

theorem applyL_take (st : ByteArray → ByteArray → ByteArray) (L : List Fd) (k : Nat) (h : k ≤ L.length) : applyL st (nth L) k = (L.take k).flatMap (one st) := by
  induction k with
  | zero => rfl
  | succ k ih =>
    have hk : k < L.length := by omega
    rw [applyL, ih (by omega), List.take_succ_eq_append_getElem hk, List.flatMap_append]
    congr 1
    simp [nth, List.getD_eq_getElem?_getD, List.getElem?_eq_getElem hk]

theorem verd_idem (s v : ByteArray) : verd s (verd s v) = verd s v := by
  unfold verd
  split
  · rfl
  · split <;> rfl

theorem one_idem (st : ByteArray → ByteArray → ByteArray) (f : Fd) : (one st f).flatMap (one st) = one st f := by
  unfold one
  by_cases h : st f.crd f.rule = sOff
  · rw [if_pos h]; rfl
  · rw [if_neg h]
    simp only [List.flatMap_cons, List.flatMap_nil, List.append_nil]
    show (if st f.crd f.rule = sOff then [] else [put1 (put1 f (st f.crd f.rule)) (st f.crd f.rule)]) = _
    rw [if_neg h]
    unfold put1
    rw [verd_idem]

theorem applyL_flat (st : ByteArray → ByteArray → ByteArray) (F : Nat → Fd) (n : Nat) : (applyL st F n).flatMap (one st) = applyL st F n := by
  induction n with
  | zero => rfl
  | succ n ih => rw [applyL, List.flatMap_append, ih, one_idem]

/-- Applied again, it changes nothing. -/
theorem applyL_idem (st : ByteArray → ByteArray → ByteArray) (F : Nat → Fd) (n : Nat) : applyL st (nth (applyL st F n)) (applyL st F n).length = applyL st F n := by
  rw [applyL_take st _ _ (Nat.le_refl _), List.take_length, applyL_flat]

set_option maxRecDepth 100000 in
set_option maxHeartbeats 16000000 in
theorem split_core (a b' c : Option Addr) (n nk nf cut cap cap2 cap3 : Nat) (R V C K L : Nat → ByteArray) (F : Nat → Fd) (w : World) (hr : Ru w a n R V) (hk : Kr w b' nk C K L) (hf : Fs w c nf F)
    (c5 : BytesIs 13 w #[.slice a n cap, .slice b' nk cap2, .slice c nf cap3, .int .i64 cut]) (c6 : WithinIs w #[.slice a n cap, .slice b' nk cap2, .slice c nf cap3])
    (hn : n ≤ 4096) (hnk : nk ≤ 4096) (hnf : nf ≤ 4096) (hcut : cut ≤ nf) :
    Calls Try.prog 4 #[.slice a n cap, .slice b' nk cap2, .slice c nf cap3, .int .i64 cut] w fun e w' => e = .returned (.bool true) ∧ Below w.heap.size w w' := by
  have g1 : ¬ (4096 : Int) < (n : Int) := by omega
  have g2 : ¬ (4096 : Int) < (nk : Int) := by omega
  have g3 : ¬ (4096 : Int) < (nf : Int) := by omega
  have g4 : ¬ (cut : Int) < 0 := by omega
  have g5 : ¬ (nf : Int) < (cut : Int) := by omega
  have g6 : ¬ nf < cut := by omega
  go_enter Try.func4, Try.ntmps4
  go_wp2_with fail
  refine (c5 : Calls ..).mono ?_
  rintro e w' ⟨hb | hb, hw⟩
  · subst hb hw
    go_wp2_with fail
    refine (c6 : Calls ..).mono ?_
    rintro e w6 ⟨hb | hb, hb6⟩
    · subst hb
      clear c5 c6
      go_wp2_with fail
      refine (confIs a b' n nk cap cap2 R V C K L w6 (hr.later hb6) (hk.later hb6) hn hnk : Calls ..).mono ?_
      rintro e w7 ⟨x1, x2, rfl, hb7, hcf⟩
      have hb67 : Below w'.heap.size w' w7 := hb6.trans (hb7.mono hb6.size)
      go_wp2_with fail
      obtain ⟨w8, hw8⟩ : ∃ W, W = w7.alloc (Obj.cells #[Value.map x1, Value.map x2] 30) := ⟨_, rfl⟩
      have hb8 : Below w'.heap.size w' w8 := by rw [hw8]; exact hb67.alloc hb67.size _
      have hcfw8 : Conf w8 x1 x2 (lastR R V n) (lastK C K L nk) := by rw [hw8]; exact hcf.later ((Below.refl _ _).alloc (Nat.le_refl _) _)
      have hs0w8 : w8.cell? ⟨w7.heap.size, 0, none⟩ = some (.map x1) := by rw [hw8]; simp [go_sem]
      have hs1w8 : w8.cell? ⟨w7.heap.size, 1, none⟩ = some (.map x2) := by rw [hw8]; simp [go_sem]
      rw [← hw8]
      have hlw8 : w7.heap.size < w8.heap.size := World.block_lt_of_cell? w8 _ hs0w8
      clear hw8 hcf hb67 hb7 hb6
      have c9A : FindsIs w8.drew #[.slice c nf cap3, .int .i64 0, .int .i64 nf] nf F := by
        simpa using findsIs c nf cap3 0 nf F w8.drew (hf.later hb8.drew) hnf (by omega) (Nat.le_refl _)
      have hcfA' : Conf w8.drew x1 x2 (lastR R V n) (lastK C K L nk) := hcfw8.later (Below.refl _ w8).drew
      go_region_held3 (fun w' => w'.cell? ⟨w7.heap.size, 0, none⟩ = some (.map x1) ∧ w'.cell? ⟨w7.heap.size, 1, none⟩ = some (.map x2))
        (first
          | exact ⟨(hbA.cell (p := ⟨w7.heap.size, 0, none⟩) (Nat.lt_of_lt_of_le hlw8 hbAa.size)).trans ((hbAa.cell (p := ⟨w7.heap.size, 0, none⟩) hlw8).trans hs0w8), (hbA.cell (p := ⟨w7.heap.size, 1, none⟩) (Nat.lt_of_lt_of_le hlw8 hbAa.size)).trans ((hbAa.cell (p := ⟨w7.heap.size, 1, none⟩) hlw8).trans hs1w8)⟩
          | exact ⟨(hbAa.cell (p := ⟨w7.heap.size, 0, none⟩) hlw8).trans hs0w8, (hbAa.cell (p := ⟨w7.heap.size, 1, none⟩) hlw8).trans hs1w8⟩
          | go_keep)
        ((first
          | (go_at_call 9; refine (c9A : Calls ..).mono ?_; rintro e wAa ⟨aAa, capAa, rfl, hbAa, hfAa⟩)
          | (go_at_call 8; refine (applyIs (hcfA'.later hbAa) _ _ _ F hfAa (by omega) : Calls ..).mono ?_; rintro e wA ⟨aA, capA, rfl, hbA, hfA⟩)))
      have hwA : Below w8.heap.size w8 wA := (Below.refl _ w8).drew.trans (Below.trans hbAa (hbA.mono hbAa.size))
      have hcfwA := hcfw8.later hwA
      have hlwA : w7.heap.size < wA.heap.size := Nat.lt_of_lt_of_le hlw8 hwA.size
      have hs0wA := (hwA.cell (p := ⟨w7.heap.size, 0, none⟩) hlw8).trans hs0w8
      have hs1wA := (hwA.cell (p := ⟨w7.heap.size, 1, none⟩) hlw8).trans hs1w8
      clear c9A hcfA' hbA hbAa hfAa
      have hbA' : Below w'.heap.size w' wA := hb8.trans (hwA.mono hb8.size)
      go_wp2_with fail
      clear hcfw8 hs0w8 hs1w8
      have c9B : FindsIs wA.drew #[.slice c nf cap3, .int .i64 0, .int .i64 cut] cut F := by
        simpa using findsIs c nf cap3 0 cut F wA.drew (hf.later hbA'.drew) hnf (by omega) hcut
      have hcfB' : Conf wA.drew x1 x2 (lastR R V n) (lastK C K L nk) := hcfwA.later (Below.refl _ wA).drew
      go_region_held3 (fun w' => w'.cell? ⟨w7.heap.size, 0, none⟩ = some (.map x1) ∧ w'.cell? ⟨w7.heap.size, 1, none⟩ = some (.map x2))
        (first
          | exact ⟨(hbB.cell (p := ⟨w7.heap.size, 0, none⟩) (Nat.lt_of_lt_of_le hlwA hbBa.size)).trans ((hbBa.cell (p := ⟨w7.heap.size, 0, none⟩) hlwA).trans hs0wA), (hbB.cell (p := ⟨w7.heap.size, 1, none⟩) (Nat.lt_of_lt_of_le hlwA hbBa.size)).trans ((hbBa.cell (p := ⟨w7.heap.size, 1, none⟩) hlwA).trans hs1wA)⟩
          | exact ⟨(hbBa.cell (p := ⟨w7.heap.size, 0, none⟩) hlwA).trans hs0wA, (hbBa.cell (p := ⟨w7.heap.size, 1, none⟩) hlwA).trans hs1wA⟩
          | go_keep)
        ((first
          | (go_at_call 9; refine (c9B : Calls ..).mono ?_; rintro e wBa ⟨aBa, capBa, rfl, hbBa, hfBa⟩)
          | (go_at_call 8; refine (applyIs (hcfB'.later hbBa) _ _ _ F hfBa (by omega) : Calls ..).mono ?_; rintro e wB ⟨aB, capB, rfl, hbB, hfB⟩)))
      have hwB : Below wA.heap.size wA wB := (Below.refl _ wA).drew.trans (Below.trans hbBa (hbB.mono hbBa.size))
      have hcfwB := hcfwA.later hwB
      have hlwB : w7.heap.size < wB.heap.size := Nat.lt_of_lt_of_le hlwA hwB.size
      have hs0wB := (hwB.cell (p := ⟨w7.heap.size, 0, none⟩) hlwA).trans hs0wA
      have hs1wB := (hwB.cell (p := ⟨w7.heap.size, 1, none⟩) hlwA).trans hs1wA
      clear c9B hcfB' hbB hbBa hfBa
      have hbB' : Below w'.heap.size w' wB := hbA'.trans (hwB.mono hbA'.size)
      go_wp2_with fail
      clear hcfwA hs0wA hs1wA
      have c9D : FindsIs wB.drew #[.slice c nf cap3, .int .i64 cut, .int .i64 nf] (nf - cut) (fun i => F (cut + i)) := by
        exact findsIs c nf cap3 cut nf F wB.drew (hf.later hbB'.drew) hnf hcut (Nat.le_refl _)
      have hcfD' : Conf wB.drew x1 x2 (lastR R V n) (lastK C K L nk) := hcfwB.later (Below.refl _ wB).drew
      go_region_held3 (fun w' => w'.cell? ⟨w7.heap.size, 0, none⟩ = some (.map x1) ∧ w'.cell? ⟨w7.heap.size, 1, none⟩ = some (.map x2))
        (first
          | exact ⟨(hbD.cell (p := ⟨w7.heap.size, 0, none⟩) (Nat.lt_of_lt_of_le hlwB hbDa.size)).trans ((hbDa.cell (p := ⟨w7.heap.size, 0, none⟩) hlwB).trans hs0wB), (hbD.cell (p := ⟨w7.heap.size, 1, none⟩) (Nat.lt_of_lt_of_le hlwB hbDa.size)).trans ((hbDa.cell (p := ⟨w7.heap.size, 1, none⟩) hlwB).trans hs1wB)⟩
          | exact ⟨(hbDa.cell (p := ⟨w7.heap.size, 0, none⟩) hlwB).trans hs0wB, (hbDa.cell (p := ⟨w7.heap.size, 1, none⟩) hlwB).trans hs1wB⟩
          | go_keep)
        ((first
          | (go_at_call 9; refine (c9D : Calls ..).mono ?_; rintro e wDa ⟨aDa, capDa, rfl, hbDa, hfDa⟩)
          | (go_at_call 8; refine (applyIs (hcfD'.later hbDa) _ _ _ (fun i => F (cut + i)) hfDa (by omega) : Calls ..).mono ?_; rintro e wD ⟨aD, capD, rfl, hbD, hfD⟩)))
      have hwD : Below wB.heap.size wB wD := (Below.refl _ wB).drew.trans (Below.trans hbDa (hbD.mono hbDa.size))
      have hcfwD := hcfwB.later hwD
      have hlwD : w7.heap.size < wD.heap.size := Nat.lt_of_lt_of_le hlwB hwD.size
      have hs0wD := (hwD.cell (p := ⟨w7.heap.size, 0, none⟩) hlwB).trans hs0wB
      have hs1wD := (hwD.cell (p := ⟨w7.heap.size, 1, none⟩) hlwB).trans hs1wB
      clear c9D hcfD' hbD hbDa hfDa
      have hbD' : Below w'.heap.size w' wD := hbB'.trans (hwD.mono hbB'.size)
      have hfW := hfA.later (hwB.trans (hwD.mono hwB.size))
      have hfL := hfB.later hwD
      have hfR := hfD
      clear hfA hfB hfD hcfwB hs0wB hs1wB hlwA hlwB hwA hwB hwD hbA' hbB' hb8 hlw8
      have HS : Hid (∀ W, Below wD.heap.size wD W → ∀ c k, SetIs W #[.slice a n cap, .slice b' nk cap2, .string c, .string k] (setOf (lastR R V n) (lastK C K L nk) c k)) := fun W hW c k =>
        setting11 a b' n nk cap cap2 R V C K L c k W (hr.later (hbD'.trans (hW.mono hbD'.size))) (hk.later (hbD'.trans (hW.mono hbD'.size))) hn hnk
      have HAP : Hid (∀ W, Below wD.heap.size wD W → ∀ ax nx capx G, Fs W ax nx G → nx ≤ 4096 → ApplyIs W #[.agg #[.map x1, .map x2], .slice ax nx capx] (applyL (setOf (lastR R V n) (lastK C K L nk)) G nx)) := fun W hW ax nx capx G hG hnx => applyIs (hcfwD.later hW) ax nx capx G hG hnx
      generalize setOf (lastR R V n) (lastK C K L nk) = st at HS HAP hfW hfL hfR ⊢
      clear hcfwD hr hk
      have HSP : applyL st F nf = applyL st F cut ++ applyL st (fun i => F (cut + i)) (nf - cut) := by
        rw [← applyL_split, show cut + (nf - cut) = nf by omega]
      have HLT : Hid (∀ i, i < (applyL st F cut).length → nth (applyL st F nf) i = nth (applyL st F cut) i) := fun i hi => by rw [HSP]; exact nth_left _ _ i hi
      have HRT : Hid (∀ i, nth (applyL st F nf) ((applyL st F cut).length + i) = nth (applyL st (fun i => F (cut + i)) (nf - cut)) i) := fun i => by rw [HSP]; exact nth_right _ _ i
      have HID : Hid (applyL st (nth (applyL st F nf)) (applyL st F nf).length = applyL st F nf) := applyL_idem st F nf
      have HLEN : Hid ((applyL st F nf).length = (applyL st F cut).length + (applyL st (fun i => F (cut + i)) (nf - cut)).length) := by show _ = _; rw [HSP, List.length_append]
      clear HSP
      have hle := applyL_le st F nf
      have hlen := HLEN.out
      obtain ⟨LR, hLR⟩ : ∃ l, l = applyL st (fun i => F (cut + i)) (nf - cut) := ⟨_, rfl⟩
      obtain ⟨LL, hLL⟩ : ∃ l, l = applyL st F cut := ⟨_, rfl⟩
      obtain ⟨LW, hLW⟩ : ∃ l, l = applyL st F nf := ⟨_, rfl⟩
      have HLW : Hid (LW = applyL st F nf) := hLW
      rw [← hLR, ← hLL, ← hLW] at hlen
      rw [← hLR] at HRT hfR ⊢
      rw [← hLL] at HLT HRT hfL ⊢
      rw [← hLW] at HLT HRT HID hfW hle ⊢
      clear hLR hLL hLW HLEN
      have HLN : Hid (LW.length = LL.length + LR.length) := hlen
      have hz1 : LL.length ≤ 4096 := by omega
      have hz2 : LR.length ≤ 4096 := by omega
      have hz3 : LW.length ≤ 4096 := by omega
      have hsum : (LL.length : Int) + (LR.length : Int) = (LW.length : Int) := by omega
      clear hlen
      go_wp2_with fail
      clear hsum
      go_loopw [13] (fun i wr => ∃ t : Nat, i = .int .i64 t ∧ t ≤ LL.length ∧ Below wD.heap.size wD wr) (fun i _ => LL.length - (intOf i).toNat)
      case atStart => exact ⟨0, rfl, by omega, Below.refl _ _⟩
      case round =>
        obtain ⟨t, rfl, ht, hbr⟩ := hrel
        by_cases hlt : t < LL.length
        · have hln := HLN.out
          obtain ⟨bw, ow, haw, p0, p1, p2, p3, p4, p5⟩ := hfW t (by omega)
          obtain ⟨bx, ox, hax, q0, q1, q2, q3, q4, q5⟩ := hfL t hlt
          rw [HLT.out t hlt] at p0 p1 p2 p3 p4 p5
          subst haw hax
          clear hfW hfL hfR hf HLT HRT HID HS HAP HLW
          generalize nth LL t = f at *
          have hj0 : (0 : Int) ≤ (t : Int) := by omega
          have hj1 : (t : Int) < (LL.length : Int) := by omega
          have hj2 : (t : Int) < (LW.length : Int) := by omega
          clear hln HLN
          generalize LW.length = mW at *
          generalize LL.length = mL at *
          generalize LR.length = mR at *
          have e0 : wr.cell? ⟨bw, ow + t * 6, none⟩ = some (.string f.verdict) := (hbr.cell (World.block_lt_of_cell? wD _ p0)).trans p0
          have e1 : wr.cell? ⟨bw, ow + t * 6 + 1, none⟩ = some (.string f.rule) := (hbr.cell (World.block_lt_of_cell? wD _ p1)).trans p1
          have e2 : wr.cell? ⟨bw, ow + t * 6 + 2, none⟩ = some (.string f.crd) := (hbr.cell (World.block_lt_of_cell? wD _ p2)).trans p2
          have e3 : wr.cell? ⟨bw, ow + t * 6 + 3, none⟩ = some (.string f.version) := (hbr.cell (World.block_lt_of_cell? wD _ p3)).trans p3
          have e4 : wr.cell? ⟨bw, ow + t * 6 + 4, none⟩ = some (.string f.path) := (hbr.cell (World.block_lt_of_cell? wD _ p4)).trans p4
          have e5 : wr.cell? ⟨bw, ow + t * 6 + 5, none⟩ = some (.string f.detail) := (hbr.cell (World.block_lt_of_cell? wD _ p5)).trans p5
          have f0 : wr.cell? ⟨bx, ox + t * 6, none⟩ = some (.string f.verdict) := (hbr.cell (World.block_lt_of_cell? wD _ q0)).trans q0
          have f1 : wr.cell? ⟨bx, ox + t * 6 + 1, none⟩ = some (.string f.rule) := (hbr.cell (World.block_lt_of_cell? wD _ q1)).trans q1
          have f2 : wr.cell? ⟨bx, ox + t * 6 + 2, none⟩ = some (.string f.crd) := (hbr.cell (World.block_lt_of_cell? wD _ q2)).trans q2
          have f3 : wr.cell? ⟨bx, ox + t * 6 + 3, none⟩ = some (.string f.version) := (hbr.cell (World.block_lt_of_cell? wD _ q3)).trans q3
          have f4 : wr.cell? ⟨bx, ox + t * 6 + 4, none⟩ = some (.string f.path) := (hbr.cell (World.block_lt_of_cell? wD _ q4)).trans q4
          have f5 : wr.cell? ⟨bx, ox + t * 6 + 5, none⟩ = some (.string f.detail) := (hbr.cell (World.block_lt_of_cell? wD _ q5)).trans q5
          clear p0 p1 p2 p3 p4 p5 q0 q1 q2 q3 q4 q5
          go_wp2_with fail
          go_region_held3 (fun w' => w'.cell? ⟨bw, ow + t * 6, none⟩ = some (.string f.verdict) ∧ w'.cell? ⟨bw, ow + t * 6 + 1, none⟩ = some (.string f.rule) ∧ w'.cell? ⟨bw, ow + t * 6 + 2, none⟩ = some (.string f.crd) ∧ w'.cell? ⟨bw, ow + t * 6 + 3, none⟩ = some (.string f.version) ∧ w'.cell? ⟨bw, ow + t * 6 + 4, none⟩ = some (.string f.path) ∧ w'.cell? ⟨bw, ow + t * 6 + 5, none⟩ = some (.string f.detail) ∧ w'.cell? ⟨bx, ox + t * 6, none⟩ = some (.string f.verdict) ∧ w'.cell? ⟨bx, ox + t * 6 + 1, none⟩ = some (.string f.rule) ∧ w'.cell? ⟨bx, ox + t * 6 + 2, none⟩ = some (.string f.crd) ∧ w'.cell? ⟨bx, ox + t * 6 + 3, none⟩ = some (.string f.version) ∧ w'.cell? ⟨bx, ox + t * 6 + 4, none⟩ = some (.string f.path) ∧ w'.cell? ⟨bx, ox + t * 6 + 5, none⟩ = some (.string f.detail)) (go_keep) (fail)
          all_goals
            go_wp2_with fail
            go_roundw
            case rel => first | exact ⟨t + 1, by go_num, by omega, hbr.drew⟩ | ((repeat apply Exists.intro); exact ⟨⟨t + 1, by go_num, by omega, hbr.drew⟩, rfl⟩)
            case measure => simp [intOf]; omega
        · go_wp2_with fail
          go_loopw [14] (fun i wr => ∃ t : Nat, i = .int .i64 t ∧ t ≤ LR.length ∧ Below wD.heap.size wD wr) (fun i _ => LR.length - (intOf i).toNat)
          case atStart => exact ⟨0, rfl, by omega, hbr⟩
          case round =>
            clear hbr ht hlt
            obtain ⟨t, rfl, ht, hbr⟩ := hrel
            by_cases hlt : t < LR.length
            · have hln := HLN.out
              obtain ⟨bw, ow, haw, p0, p1, p2, p3, p4, p5⟩ := hfW (LL.length + t) (by omega)
              obtain ⟨bx, ox, hax, q0, q1, q2, q3, q4, q5⟩ := hfR t hlt
              rw [HRT.out t] at p0 p1 p2 p3 p4 p5
              subst haw hax
              clear hfW hfL hfR hf HLT HRT HID HS HAP HLW
              generalize nth LR t = f at *
              have hj0 : (0 : Int) ≤ (t : Int) := by omega
              have hj1 : (t : Int) < (LR.length : Int) := by omega
              obtain ⟨kk, hkk⟩ : ∃ kk, kk = LL.length + t := ⟨_, rfl⟩
              have hj2 : (0 : Int) ≤ (kk : Int) := by omega
              have hj3 : (kk : Int) < (LW.length : Int) := by omega
              have hwr : IntKind.i64.wrap ((LL.length : Int) + (t : Int)) = (kk : Int) := by
                rw [IntKind.wrap_i64]; omega
              rw [← hkk] at p0 p1 p2 p3 p4 p5
              clear hkk
              clear hln HLN
              generalize LW.length = mW at *
              generalize LL.length = mL at *
              generalize LR.length = mR at *
              have e0 : wr.cell? ⟨bw, ow + kk * 6, none⟩ = some (.string f.verdict) := (hbr.cell (World.block_lt_of_cell? wD _ p0)).trans p0
              have e1 : wr.cell? ⟨bw, ow + kk * 6 + 1, none⟩ = some (.string f.rule) := (hbr.cell (World.block_lt_of_cell? wD _ p1)).trans p1
              have e2 : wr.cell? ⟨bw, ow + kk * 6 + 2, none⟩ = some (.string f.crd) := (hbr.cell (World.block_lt_of_cell? wD _ p2)).trans p2
              have e3 : wr.cell? ⟨bw, ow + kk * 6 + 3, none⟩ = some (.string f.version) := (hbr.cell (World.block_lt_of_cell? wD _ p3)).trans p3
              have e4 : wr.cell? ⟨bw, ow + kk * 6 + 4, none⟩ = some (.string f.path) := (hbr.cell (World.block_lt_of_cell? wD _ p4)).trans p4
              have e5 : wr.cell? ⟨bw, ow + kk * 6 + 5, none⟩ = some (.string f.detail) := (hbr.cell (World.block_lt_of_cell? wD _ p5)).trans p5
              have f0 : wr.cell? ⟨bx, ox + t * 6, none⟩ = some (.string f.verdict) := (hbr.cell (World.block_lt_of_cell? wD _ q0)).trans q0
              have f1 : wr.cell? ⟨bx, ox + t * 6 + 1, none⟩ = some (.string f.rule) := (hbr.cell (World.block_lt_of_cell? wD _ q1)).trans q1
              have f2 : wr.cell? ⟨bx, ox + t * 6 + 2, none⟩ = some (.string f.crd) := (hbr.cell (World.block_lt_of_cell? wD _ q2)).trans q2
              have f3 : wr.cell? ⟨bx, ox + t * 6 + 3, none⟩ = some (.string f.version) := (hbr.cell (World.block_lt_of_cell? wD _ q3)).trans q3
              have f4 : wr.cell? ⟨bx, ox + t * 6 + 4, none⟩ = some (.string f.path) := (hbr.cell (World.block_lt_of_cell? wD _ q4)).trans q4
              have f5 : wr.cell? ⟨bx, ox + t * 6 + 5, none⟩ = some (.string f.detail) := (hbr.cell (World.block_lt_of_cell? wD _ q5)).trans q5
              clear p0 p1 p2 p3 p4 p5 q0 q1 q2 q3 q4 q5
              go_wp2_with fail
              go_region_held3 (fun w' => w'.cell? ⟨bw, ow + kk * 6, none⟩ = some (.string f.verdict) ∧ w'.cell? ⟨bw, ow + kk * 6 + 1, none⟩ = some (.string f.rule) ∧ w'.cell? ⟨bw, ow + kk * 6 + 2, none⟩ = some (.string f.crd) ∧ w'.cell? ⟨bw, ow + kk * 6 + 3, none⟩ = some (.string f.version) ∧ w'.cell? ⟨bw, ow + kk * 6 + 4, none⟩ = some (.string f.path) ∧ w'.cell? ⟨bw, ow + kk * 6 + 5, none⟩ = some (.string f.detail) ∧ w'.cell? ⟨bx, ox + t * 6, none⟩ = some (.string f.verdict) ∧ w'.cell? ⟨bx, ox + t * 6 + 1, none⟩ = some (.string f.rule) ∧ w'.cell? ⟨bx, ox + t * 6 + 2, none⟩ = some (.string f.crd) ∧ w'.cell? ⟨bx, ox + t * 6 + 3, none⟩ = some (.string f.version) ∧ w'.cell? ⟨bx, ox + t * 6 + 4, none⟩ = some (.string f.path) ∧ w'.cell? ⟨bx, ox + t * 6 + 5, none⟩ = some (.string f.detail)) (go_keep) (fail)
              all_goals
                go_wp2_with fail
                go_roundw
                case rel => first | exact ⟨t + 1, by go_num, by omega, hbr.drew⟩ | ((repeat apply Exists.intro); exact ⟨⟨t + 1, by go_num, by omega, hbr.drew⟩, rfl⟩)
                case measure => simp [intOf]; omega
            · go_wp2_with fail
              go_loopw [15, 16] (fun z i wr => ∃ t kc : Nat, z = .int .i64 kc ∧ i = .int .i64 t ∧ t ≤ nf ∧ Hid (kc = (applyL st F t).length) ∧ Below wD.heap.size wD wr) (fun _ i _ => nf - (intOf i).toNat)
              case atStart => exact ⟨0, 0, rfl, rfl, by omega, rfl, hbr⟩
              case round =>
                clear hbr ht hlt
                obtain ⟨t, kc, rfl, rfl, ht, HKC, hbr⟩ := hrel
                have hbw : Below w'.heap.size w' wr := hbD'.trans (hbr.mono hbD'.size)
                by_cases hlt : t < nf
                · obtain ⟨b, off, rfl, hc0, hc1, hc2, hc3, hc4, hc5⟩ := hf.later hbw t hlt
                  clear hf hfW hfL hfR hc0 hc3 hc4 hc5
                  have hj0 : (0 : Int) ≤ (t : Int) := by omega
                  have hj1 : (t : Int) < (nf : Int) := by omega
                  have hkc : kc ≤ t := by rw [HKC.out]; exact applyL_le st F t
                  by_cases hoff : st (F t).crd (F t).rule = sOff
                  · have HL : Hid (kc = (applyL st F (t + 1)).length) := by show _ = _; rw [applyL_skip st F t hoff]; exact HKC.out
                    have hset := HS.out wr.drew hbr.drew (F t).crd (F t).rule
                    rw [hoff] at hset
                    unfold sOff at hset
                    clear hoff
                    generalize F t = f at *
                    go_wp2_with fail
                    go_region_held3 (fun w' => w'.cell? ⟨b, off + t * 6 + 1, none⟩ = some (.string f.rule) ∧ w'.cell? ⟨b, off + t * 6 + 2, none⟩ = some (.string f.crd)) (go_keep)
                      ((first | (go_at_call 11; refine (hset : Calls ..).mono ?_; rintro e w11 ⟨rfl, rfl⟩)))
                    all_goals
                      clear hset
                      go_wp2_with fail
                      go_roundw
                      case rel => first | exact ⟨t + 1, kc, by go_num, by go_num, by omega, HL, hbr.drew⟩ | ((repeat apply Exists.intro); exact ⟨⟨t + 1, kc, by go_num, by go_num, by omega, HL, hbr.drew⟩, rfl⟩)
                      case measure => simp [intOf]; omega
                  · have HL : Hid (kc + 1 = (applyL st F (t + 1)).length) := by
                      show _ = _
                      rw [(applyL_next st F t (t + 1) (by omega) hoff).2.2, ← HKC.out]
                    have hset := HS.out wr.drew hbr.drew (F t).crd (F t).rule
                    have g9 : ((st (F t).crd (F t).rule).toList == [111, 102, 102]) = false := by
                      rw [← show ByteArray.toList ⟨#[111, 102, 102]⟩ = [111, 102, 102] by kernel_rfl]
                      exact bytes_ne hoff
                    generalize st (F t).crd (F t).rule = s at *
                    clear hoff
                    generalize F t = f at *
                    go_wp2_with fail
                    go_region_held3 (fun w' => w'.cell? ⟨b, off + t * 6 + 1, none⟩ = some (.string f.rule) ∧ w'.cell? ⟨b, off + t * 6 + 2, none⟩ = some (.string f.crd)) (go_keep)
                      ((first | (go_at_call 11; refine (hset : Calls ..).mono ?_; rintro e w11 ⟨rfl, rfl⟩)))
                    all_goals
                      clear hset
                      go_wp2_with fail
                      go_roundw
                      case rel => first | exact ⟨t + 1, kc + 1, by go_num, by go_num, by omega, HL, hbr.drew⟩ | ((repeat apply Exists.intro); exact ⟨⟨t + 1, kc + 1, by go_num, by go_num, by omega, HL, hbr.drew⟩, rfl⟩)
                      case measure => simp [intOf]; omega
                · obtain rfl : t = nf := by omega
                  have hkc : kc = LW.length := by rw [HKC.out, HLW.out]
                  subst hkc
                  have cag := HAP.out wr hbr aA LW.length capA (nth LW) (hfW.later hbr) hz3
                  rw [HID.out] at cag
                  have u0 := (hbr.cell (p := ⟨w7.heap.size, 0, none⟩) hlwD).trans hs0wD
                  have u1 := (hbr.cell (p := ⟨w7.heap.size, 1, none⟩) hlwD).trans hs1wD
                  go_wp2_with fail
                  refine (cag : Calls ..).mono ?_
                  rintro e wZ ⟨aZ, capZ, rfl, hbZ, hfZ⟩
                  have hbZ' : Below w'.heap.size w' wZ := hbw.trans (hbZ.mono hbw.size)
                  have hfWZ := hfW.later (hbr.trans (hbZ.mono hbr.size))
                  clear cag u0 u1 HS HAP HID HKC HLW HLT HRT hf hfW hfL hfR hs0wD hs1wD hlwD hbr hbw hbD' hbZ
                  go_wp2_with fail
                  go_loopw [18] (fun i wr => ∃ t : Nat, i = .int .i64 t ∧ t ≤ LW.length ∧ Below wZ.heap.size wZ wr) (fun i _ => LW.length - (intOf i).toNat)
                  case atStart => exact ⟨0, rfl, by omega, Below.refl _ _⟩
                  case round =>
                    obtain ⟨t, rfl, ht, hbr⟩ := hrel
                    by_cases hlt : t < LW.length
                    · obtain ⟨bw, ow, haw, p0, p1, p2, p3, p4, p5⟩ := hfZ t hlt
                      obtain ⟨bx, ox, hax, q0, q1, q2, q3, q4, q5⟩ := hfWZ t hlt
                      subst haw hax
                      clear hfZ hfWZ
                      generalize nth LW t = f at *
                      have hj0 : (0 : Int) ≤ (t : Int) := by omega
                      have hj1 : (t : Int) < (LW.length : Int) := by omega
                      generalize LW.length = mW at *
                      have e0 : wr.cell? ⟨bw, ow + t * 6, none⟩ = some (.string f.verdict) := (hbr.cell (World.block_lt_of_cell? wZ _ p0)).trans p0
                      have e1 : wr.cell? ⟨bw, ow + t * 6 + 1, none⟩ = some (.string f.rule) := (hbr.cell (World.block_lt_of_cell? wZ _ p1)).trans p1
                      have e2 : wr.cell? ⟨bw, ow + t * 6 + 2, none⟩ = some (.string f.crd) := (hbr.cell (World.block_lt_of_cell? wZ _ p2)).trans p2
                      have e3 : wr.cell? ⟨bw, ow + t * 6 + 3, none⟩ = some (.string f.version) := (hbr.cell (World.block_lt_of_cell? wZ _ p3)).trans p3
                      have e4 : wr.cell? ⟨bw, ow + t * 6 + 4, none⟩ = some (.string f.path) := (hbr.cell (World.block_lt_of_cell? wZ _ p4)).trans p4
                      have e5 : wr.cell? ⟨bw, ow + t * 6 + 5, none⟩ = some (.string f.detail) := (hbr.cell (World.block_lt_of_cell? wZ _ p5)).trans p5
                      have f0 : wr.cell? ⟨bx, ox + t * 6, none⟩ = some (.string f.verdict) := (hbr.cell (World.block_lt_of_cell? wZ _ q0)).trans q0
                      have f1 : wr.cell? ⟨bx, ox + t * 6 + 1, none⟩ = some (.string f.rule) := (hbr.cell (World.block_lt_of_cell? wZ _ q1)).trans q1
                      have f2 : wr.cell? ⟨bx, ox + t * 6 + 2, none⟩ = some (.string f.crd) := (hbr.cell (World.block_lt_of_cell? wZ _ q2)).trans q2
                      have f3 : wr.cell? ⟨bx, ox + t * 6 + 3, none⟩ = some (.string f.version) := (hbr.cell (World.block_lt_of_cell? wZ _ q3)).trans q3
                      have f4 : wr.cell? ⟨bx, ox + t * 6 + 4, none⟩ = some (.string f.path) := (hbr.cell (World.block_lt_of_cell? wZ _ q4)).trans q4
                      have f5 : wr.cell? ⟨bx, ox + t * 6 + 5, none⟩ = some (.string f.detail) := (hbr.cell (World.block_lt_of_cell? wZ _ q5)).trans q5
                      clear p0 p1 p2 p3 p4 p5 q0 q1 q2 q3 q4 q5
                      go_wp2_with fail
                      go_region_held3 (fun w' => w'.cell? ⟨bw, ow + t * 6, none⟩ = some (.string f.verdict) ∧ w'.cell? ⟨bw, ow + t * 6 + 1, none⟩ = some (.string f.rule) ∧ w'.cell? ⟨bw, ow + t * 6 + 2, none⟩ = some (.string f.crd) ∧ w'.cell? ⟨bw, ow + t * 6 + 3, none⟩ = some (.string f.version) ∧ w'.cell? ⟨bw, ow + t * 6 + 4, none⟩ = some (.string f.path) ∧ w'.cell? ⟨bw, ow + t * 6 + 5, none⟩ = some (.string f.detail) ∧ w'.cell? ⟨bx, ox + t * 6, none⟩ = some (.string f.verdict) ∧ w'.cell? ⟨bx, ox + t * 6 + 1, none⟩ = some (.string f.rule) ∧ w'.cell? ⟨bx, ox + t * 6 + 2, none⟩ = some (.string f.crd) ∧ w'.cell? ⟨bx, ox + t * 6 + 3, none⟩ = some (.string f.version) ∧ w'.cell? ⟨bx, ox + t * 6 + 4, none⟩ = some (.string f.path) ∧ w'.cell? ⟨bx, ox + t * 6 + 5, none⟩ = some (.string f.detail)) (go_keep) (fail)
                      all_goals
                        go_wp2_with fail
                        go_roundw
                        case rel => first | exact ⟨t + 1, by go_num, by omega, hbr.drew⟩ | ((repeat apply Exists.intro); exact ⟨⟨t + 1, by go_num, by omega, hbr.drew⟩, rfl⟩)
                        case measure => simp [intOf]; omega
                    · go_wp2
                      go_ret
                      exact ⟨rfl, hbZ'.trans (hbr.mono hbZ'.size)⟩
    · subst hb
      go_wp2_with fail
      go_ret
      exact ⟨rfl, hb6⟩
  · subst hb hw
    go_wp2_with fail
    go_ret
    exact ⟨rfl, Below.refl _ _⟩
end Go.Proofs.Qxb6634845a
