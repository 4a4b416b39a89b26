/-
  The contracts as the laws take them; the plain law on lists.
-/
import Derived.Test.Qxb6634845aApply
import Derived.Test.Qxb6634845aWithin
namespace Go.Proofs.Qxb6634845a
open Go.RowKit Go.MapKept
set_option linter.unusedVariables false

theorem Ru.later {W w : World} {a : Option Addr} {n : Nat} {R V : Nat → ByteArray} (h : Ru W a n R V) (hb : Below W.heap.size W w) : Ru w a n R V := by
  intro i hi
  obtain ⟨b, off, e, h0, h1⟩ := h i hi
  exact ⟨b, off, e, (hb.cell (World.block_lt_of_cell? W _ h0)).trans h0, (hb.cell (World.block_lt_of_cell? W _ h1)).trans h1⟩

theorem Kr.later {W w : World} {a : Option Addr} {n : Nat} {C K L : Nat → ByteArray} (h : Kr W a n C K L) (hb : Below W.heap.size W w) : Kr w a n C K L := by
  intro i hi
  obtain ⟨b, off, e, h0, h1, h2⟩ := h i hi
  exact ⟨b, off, e, (hb.cell (World.block_lt_of_cell? W _ h0)).trans h0, (hb.cell (World.block_lt_of_cell? W _ h1)).trans h1, (hb.cell (World.block_lt_of_cell? W _ h2)).trans h2⟩

/-- The configuration, as Apply takes it. -/
structure Conf (w : World) (x1 x2 : Option Nat) (rs : ByteArray → Option ByteArray) (cs : ByteArray → ByteArray → Option ByteArray) : Prop where
  rules : RulesIs w (.map x1) w.heap.size rs
  crds : CrdsIs w (.map x2) cs

theorem Conf.later {w w' : World} {x1 x2 : Option Nat} {rs : ByteArray → Option ByteArray} {cs : ByteArray → ByteArray → Option ByteArray} (h : Conf w x1 x2 rs cs) (hb : Below w.heap.size w w') : Conf w' x1 x2 rs cs := by
  refine ⟨h.rules.of_blocks (fun k hk => hb.block k hk) hb.size, ?_⟩
  rcases h.crds with h | ⟨r2, sub, e, h⟩
  · exact .inl h
  · have key : ∀ r f, MapIs w r f → MapIs w' r f := fun r f hm => hm.later hb hm.lt
    exact .inr ⟨r2, sub, e, ⟨key _ _ h.top, h.above, h.inj, fun c b hb => key _ _ (h.there c b hb), h.away⟩⟩

def FindsIs (w : World) (args : Array Value) (m : Nat) (G : Nat → Fd) : Prop :=
  Calls Try.prog 9 args w fun e w' => ∃ a cap, e = .returned (.slice a m cap) ∧ Below w.heap.size w w' ∧ Fs w' a m G

theorem findsIs (c : Option Addr) (nf cap lo hi : Nat) (F : Nat → Fd) (w : World) (hf : Fs w c nf F) (hnf : nf ≤ 4096) (hlo : lo ≤ hi) (hhi : hi ≤ nf) :
    FindsIs w #[.slice c nf cap, .int .i64 lo, .int .i64 hi] (hi - lo) (fun i => F (lo + i)) := by
  refine (finds9 c nf cap lo hi F w hf hnf hlo hhi).mono ?_
  rintro e w' ⟨v, rfl, hb, ho⟩
  obtain ⟨a, cap, rfl, h⟩ := Fs.of_owns ho
  exact ⟨a, cap, rfl, hb, h⟩

def ApplyIs (w : World) (args : Array Value) (L : List Fd) : Prop :=
  Calls Try.prog 8 args w fun e w' => ∃ a cap, e = .returned (.slice a L.length cap) ∧ Below w.heap.size w w' ∧ Fs w' a L.length (nth L)

theorem applyIs {x1 x2 : Option Nat} {rs : ByteArray → Option ByteArray} {cs : ByteArray → ByteArray → Option ByteArray} {w : World} (h : Conf w x1 x2 rs cs) (a : Option Addr) (n cap : Nat) (F : Nat → Fd) (hf : Fs w a n F) (hn : n ≤ 4096) :
    ApplyIs w #[.agg #[.map x1, .map x2], .slice a n cap] (applyL (setOf rs cs) F n) := by
  refine (apply8 x1 x2 w.heap.size a n cap F rs cs w h.rules h.crds hf hn).mono ?_
  rintro e w' ⟨v, rfl, hb, ho⟩
  obtain ⟨a, cap, rfl, h⟩ := Fs.of_owns ho
  exact ⟨a, cap, rfl, hb, h⟩

def ConfIs (w : World) (args : Array Value) (rs : ByteArray → Option ByteArray) (cs : ByteArray → ByteArray → Option ByteArray) : Prop :=
  Calls Try.prog 7 args w fun e w' => ∃ x1 x2, e = .returned (.agg #[.map x1, .map x2]) ∧ Below w.heap.size w w' ∧ Conf w' x1 x2 rs cs

theorem confIs (a b' : Option Addr) (n nk cap cap2 : Nat) (R V C K L : Nat → ByteArray) (w : World) (hr : Ru w a n R V) (hk : Kr w b' nk C K L) (hn : n ≤ 4096) (hnk : nk ≤ 4096) :
    ConfIs w #[.slice a n cap, .slice b' nk cap2] (lastR R V n) (lastK C K L nk) := by
  have key : Calls Try.prog 7 #[.slice a n cap, .slice b' nk cap2] w fun e w' => ∃ m1 m2, e = .returned (.agg #[m1, m2]) ∧ Below w.heap.size w w' ∧ RulesIs w' m1 w'.heap.size (lastR R V n) ∧ CrdsIs w' m2 (lastK C K L nk) := by
    by_cases h0 : 0 < n
    · exact conf_rules a b' n nk cap cap2 R V C K L w hr hk hn hnk h0
    · obtain rfl : n = 0 := by omega
      exact conf_none a b' nk cap cap2 R V C K L w hk hnk
  refine key.mono ?_
  rintro e w' ⟨m1, m2, rfl, hb, h1, h2⟩
  obtain ⟨x1, rfl⟩ := h1.one
  have : ∃ x2, m2 = .map x2 := by
    rcases h2 with ⟨rfl, _⟩ | ⟨r2, sub, rfl, _⟩ <;> exact ⟨_, rfl⟩
  obtain ⟨x2, rfl⟩ := this
  exact ⟨x1, x2, rfl, hb, h1, h2⟩

def SetIs (w : World) (args : Array Value) (s : ByteArray) : Prop := Calls Try.prog 11 args w fun e w' => e = .returned (.string s) ∧ w' = w
def VerdIs (w : World) (args : Array Value) (v : Value) : Prop := Calls Try.prog 10 args w fun e w' => e = .returned v ∧ w' = w
def BytesIs (f : Nat) (w : World) (args : Array Value) : Prop := Calls Try.prog f args w fun e w' => IsBool e ∧ w' = w
def WithinIs (w : World) (args : Array Value) : Prop := Calls Try.prog 6 args w fun e w' => IsBool e ∧ Below w.heap.size w w'

/-! The plain law on lists. -/

theorem applyL_prefix (st : ByteArray → ByteArray → ByteArray) (F : Nat → Fd) (t n : Nat) (h : t ≤ n) : ∃ r, applyL st F n = applyL st F t ++ r := by
  induction n with
  | zero => obtain rfl : t = 0 := by omega
            exact ⟨[], by simp⟩
  | succ n ih =>
    by_cases e : t = n + 1
    · exact ⟨[], by rw [e]; simp⟩
    · obtain ⟨r, hr⟩ := ih (by omega)
      exact ⟨r ++ one st (F n), by rw [applyL, hr, List.append_assoc]⟩

theorem applyL_next (st : ByteArray → ByteArray → ByteArray) (F : Nat → Fd) (t n : Nat) (h : t < n) (hk : st (F t).crd (F t).rule ≠ sOff) :
    (applyL st F t).length < (applyL st F n).length ∧ nth (applyL st F n) (applyL st F t).length = put1 (F t) (st (F t).crd (F t).rule) ∧ (applyL st F (t + 1)).length = (applyL st F t).length + 1 := by
  obtain ⟨r, hr⟩ := applyL_prefix st F (t + 1) n (by omega)
  have e : applyL st F (t + 1) = applyL st F t ++ [put1 (F t) (st (F t).crd (F t).rule)] := by
    rw [applyL, one, if_neg hk]
  refine ⟨?_, ?_, ?_⟩
  · rw [hr, e]; simp
  · rw [hr, e]; unfold nth; simp [List.getD_eq_getElem?_getD]
  · rw [e]; simp

theorem applyL_skip (st : ByteArray → ByteArray → ByteArray) (F : Nat → Fd) (t : Nat) (hk : st (F t).crd (F t).rule = sOff) : applyL st F (t + 1) = applyL st F t := by
  rw [applyL, one, if_pos hk, List.append_nil]
end Go.Proofs.Qxb6634845a
