import PyProof.Rows.All
import Wide.All
import OpenK.AllK
import Wide.FinOn
import PyProof.Rows.TupTab
import PySem.Challenge.RW_bw0036_01
set_option Elab.async false
set_option maxRecDepth 100000

/- part Hd -/
section
open PySem PySem.W PyProof.Rows
namespace Mine
set_option maxHeartbeats 8000000 in
open_top hd for PySem.Challenge.rw_bw0036_01
end Mine
end

/- part Ar -/
section
open PySem PySem.W PyProof.Rows PySem.Calls PySem.Spec
namespace Mine

section
variable {prog : Program} {w : World} {A : Around} {E : Value → Shared → Prop} {s : Shared} {Q : Value → Shared → Prop}
theorem my_mod {a b : Int} {t u : Tok} (hb : 0 < b) (h : ∀ r, r = a % b → 0 ≤ r → r < b → Q (.int r s.toks) { s with toks := s.toks + 1 }) :
    wpAny (model prog w) A (binaryOp .Mod (.int a t) (.int b u)) Q E s :=
  mod_int' (by omega) (by
    rw [Int.fmod_eq_emod_of_nonneg _ (by omega)]
    exact h _ rfl (Int.emod_nonneg _ (by omega)) (Int.emod_lt_of_pos _ hb))
theorem my_fdiv {a b : Int} {t u : Tok} (hb : 0 < b) (hb2 : b < 1000000) (h : ∀ r, r = a / b → (0 ≤ a → 0 ≤ r ∧ r ≤ a) → Q (.int r s.toks) { s with toks := s.toks + 1 }) :
    wpAny (model prog w) A (binaryOp .FloorDiv (.int a t) (.int b u)) Q E s :=
  floordiv_int (by omega) (by
    rw [Int.fdiv_eq_ediv_of_nonneg _ (by omega)]
    exact h _ rfl fun ha => ⟨Int.ediv_nonneg ha (by omega), Int.ediv_le_self _ ha⟩) (Or.inl (PyProof.noPylong_small (by omega)))
theorem my_mulL {a b : Int} {t u : Tok} (ha : a.natAbs < 2 ^ 62) (h : Q (.int (a * b) s.toks) { s with toks := s.toks + 1 }) :
    wpAny (model prog w) A (binaryOp .Mult (.int a t) (.int b u)) Q E s :=
  mul_int h (PySem.IntMulOk.of_left (PySem.intBits_le_64 (by omega) (by omega)))
theorem my_mulR {a b : Int} {t u : Tok} (ha : b.natAbs < 2 ^ 62) (h : Q (.int (a * b) s.toks) { s with toks := s.toks + 1 }) :
    wpAny (model prog w) A (binaryOp .Mult (.int a t) (.int b u)) Q E s :=
  mul_int h (PySem.IntMulOk.of_right (PySem.intBits_le_64 (by omega) (by omega)))
theorem my_pow2 {a : Int} {t u : Tok} (ha : a.natAbs < 2 ^ 62) (h : Q (.int (a ^ 2) s.toks) { s with toks := s.toks + 1 }) :
    wpAny (model prog w) A (binaryOp .Pow (.int a t) (.int 2 u)) Q E s := pow_int_small (by decide) (by decide) (by omega) h
theorem my_pow3 {a : Int} {t u : Tok} (ha : a.natAbs < 2 ^ 62) (h : Q (.int (a ^ 3) s.toks) { s with toks := s.toks + 1 }) :
    wpAny (model prog w) A (binaryOp .Pow (.int a t) (.int 3 u)) Q E s := pow_int_small (by decide) (by decide) (by omega) h
theorem my_pow4 {a : Int} {t u : Tok} (ha : a.natAbs < 2 ^ 62) (h : Q (.int (a ^ 4) s.toks) { s with toks := s.toks + 1 }) :
    wpAny (model prog w) A (binaryOp .Pow (.int a t) (.int 4 u)) Q E s := pow_int_small (by decide) (by decide) (by omega) h
end
theorem newsC {h₀ h : Heap} {L : Addr} {news news' : List (Addr × Obj)} {p : Addr × Obj} (N : News h₀ L h news) (N' : News h₀ L h news') (hp : p ∈ news) : News h₀ L h (p :: news') := by
  intro q hq
  rcases List.mem_cons.mp hq with rfl | hq
  · exact N _ hp
  · exact N' _ hq
theorem newsTail {h₀ h : Heap} {L : Addr} {news : List (Addr × Obj)} {p : Addr × Obj} (N : News h₀ L h (p :: news)) : News h₀ L h news := fun q hq => N q (List.mem_cons_of_mem _ hq)
theorem newsIn {h₀ h : Heap} {L : Addr} {news news' : List (Addr × Obj)} (_N : News h₀ L h news') (hs : ∀ p ∈ news, p ∈ news') : ∀ p ∈ news, p ∈ news' := hs
theorem newsSub {h₀ h : Heap} {L : Addr} {news news' : List (Addr × Obj)} (N : News h₀ L h news') (hs : ∀ p ∈ news, p ∈ news') : News h₀ L h news := fun p hp => N p (hs p hp)
end Mine
namespace Mine
/-- the walk stops here: the step is made by hand -/
def Halt (P : Prop) : Prop := P
theorem halt {P : Prop} (h : Halt P) : P := h
theorem Halt.go {P : Prop} (h : P) : Halt P := h
end Mine
end

/- part Nt -/
section
namespace Mine
def InvJ (a n lm low hm high : Int) : Prop :=
  0 ≤ low ∧ low < high ∧ 1 < high ∧ high ≤ n ∧ (lm * a - low) % n = 0 ∧ (hm * a - high) % n = 0 ∧ ∃ u v : Int, u * low + v * high = 1

theorem inv_start {a n : Int} (h0 : 0 ≤ a) (h1 : a < n) (hn : 1 < n) (hc : ∃ u v : Int, u * a + v * n = 1) {r : Int} (hr : r = a % n) : InvJ a n 1 r 0 n := by
  have e : a % n = a := Int.emod_eq_of_lt h0 h1
  rw [e] at hr
  subst hr
  refine ⟨h0, h1, hn, Int.le_refl _, by simp, by simp, hc⟩

theorem inv_bnd {a n lm low hm high : Int} (h : InvJ a n lm low hm high) : 0 ≤ low ∧ low < high ∧ high ≤ n := ⟨h.1, h.2.1, h.2.2.2.1⟩

theorem inv_turn {a n lm low hm high r : Int} (h : InvJ a n lm low hm high) (hl : 1 < low) (hr : r = high / low) :
    InvJ a n (hm - lm * r) (high - low * r) lm low ∧ (high - low * r).toNat < low.toNat := by
  obtain ⟨h1, h2, h3, h4, h5, h6, u, v, h7⟩ := h
  have e : high - low * r = high % low := by
    subst hr
    have := Int.mul_ediv_add_emod high low
    omega
  have m0 : 0 ≤ high % low := Int.emod_nonneg _ (by omega)
  have m1 : high % low < low := Int.emod_lt_of_pos _ (by omega)
  refine ⟨⟨by omega, by omega, hl, by omega, ?_, h5, v, u + v * r, ?_⟩, by omega⟩
  · have d5 := Int.dvd_of_emod_eq_zero h5
    have d6 := Int.dvd_of_emod_eq_zero h6
    have : (hm - lm * r) * a - (high - low * r) = (hm * a - high) - (lm * a - low) * r := by grind
    rw [this]
    exact Int.emod_eq_zero_of_dvd (Int.dvd_sub d6 (Int.dvd_trans d5 (Int.dvd_mul_right _ r)))
  · grind

theorem inv_end {a n lm low hm high : Int} (h : InvJ a n lm low hm high) (hl : ¬ 1 < low) {r : Int} (hr : r = lm % n) : r * a % n = 1 := by
  obtain ⟨h1, h2, h3, h4, h5, h6, u, v, h7⟩ := h
  have hlow : low = 1 := by
    rcases (show low = 0 ∨ low = 1 by omega) with e | e
    · subst e
      simp at h7
      have : high ∣ 1 := ⟨v, by rw [Int.mul_comm]; exact h7.symm⟩
      have := Int.le_of_dvd (by omega) this
      omega
    · exact e
  subst hlow
  subst hr
  have d5 := Int.dvd_of_emod_eq_zero h5
  have e0 : lm % n * a % n = lm * a % n := by
    rw [Int.mul_emod, Int.emod_emod_of_dvd _ (Int.dvd_refl n), ← Int.mul_emod]
  rw [e0]
  have : lm * a = 1 + (lm * a - 1) := by omega
  rw [this, Int.add_emod, h5]
  simp
  exact Int.emod_eq_of_lt (by omega) (by omega)
end Mine
end

/- part Cur -/
section
namespace Mine

def DblEq (P A x y z X Y Z : Int) : Prop :=
  (y = 0 → X = 0 ∧ Y = 0 ∧ Z = 0) ∧ (y ≠ 0 → ∃ q S M, q = y ^ 2 % P ∧ S = 4 * x * q % P ∧ M = (3 * x ^ 2 + A * z ^ 4) % P ∧ X = (M ^ 2 - 2 * S) % P ∧ Y = (M * (S - X) - 8 * q ^ 2) % P ∧ Z = 2 * y * z % P)

def JAddEq (P A x1 y1 z1 x2 y2 z2 X Y Z : Int) : Prop :=
  (y1 = 0 → X = x2 ∧ Y = y2 ∧ Z = z2) ∧ (y1 ≠ 0 → y2 = 0 → X = x1 ∧ Y = y1 ∧ Z = z1) ∧
  (y1 ≠ 0 → y2 ≠ 0 → ∃ U1 U2 S1 S2, U1 = x1 * z2 ^ 2 % P ∧ U2 = x2 * z1 ^ 2 % P ∧ S1 = y1 * z2 ^ 3 % P ∧ S2 = y2 * z1 ^ 3 % P ∧
    (U1 = U2 → S1 ≠ S2 → X = 0 ∧ Y = 0 ∧ Z = 1) ∧ (U1 = U2 → S1 = S2 → DblEq P A x1 y1 z1 X Y Z) ∧
    (U1 ≠ U2 → ∃ H2 H3 V, H2 = (U2 - U1) * (U2 - U1) % P ∧ H3 = (U2 - U1) * H2 % P ∧ V = U1 * H2 % P ∧
      X = ((S2 - S1) ^ 2 - H3 - 2 * V) % P ∧ Y = ((S2 - S1) * (V - X) - S1 * H3) % P ∧ Z = (U2 - U1) * z1 * z2 % P))

/-- congruent by P -/
def Cg (P a b : Int) : Prop := P ∣ a - b
namespace Cg
variable {P a b c d : Int}
theorem refl (P a : Int) : Cg P a a := by unfold Cg; rw [Int.sub_self]; exact Int.dvd_zero P
theorem of_eq (h : a = b) : Cg P a b := h ▸ refl P a
theorem symm (h : Cg P a b) : Cg P b a := by
  unfold Cg at *
  have := Int.dvd_neg.mpr h
  rwa [Int.neg_sub] at this
theorem trans (h : Cg P a b) (h' : Cg P b c) : Cg P a c := by
  unfold Cg at *
  have := Int.dvd_add h h'
  rwa [show a - b + (b - c) = a - c by omega] at this
theorem add (h : Cg P a b) (h' : Cg P c d) : Cg P (a + c) (b + d) := by
  unfold Cg at *
  have := Int.dvd_add h h'
  rwa [show a - b + (c - d) = a + c - (b + d) by omega] at this
theorem sub (h : Cg P a b) (h' : Cg P c d) : Cg P (a - c) (b - d) := by
  unfold Cg at *
  have := Int.dvd_sub h h'
  rwa [show a - b - (c - d) = a - c - (b - d) by omega] at this
theorem mul (h : Cg P a b) (h' : Cg P c d) : Cg P (a * c) (b * d) := by
  unfold Cg at *
  have h1 : P ∣ (a - b) * c := Int.dvd_trans h (Int.dvd_mul_right _ _)
  have h2 : P ∣ (c - d) * b := Int.dvd_trans h' (Int.dvd_mul_right _ _)
  have := Int.dvd_add h1 h2
  rwa [show (a - b) * c + (c - d) * b = a * c - b * d by grind] at this
theorem pow (h : Cg P a b) : ∀ n : Nat, Cg P (a ^ n) (b ^ n)
  | 0 => by simpa using refl P 1
  | n + 1 => by rw [Int.pow_succ, Int.pow_succ]; exact mul (pow h n) h
theorem mod (P a : Int) : Cg P (a % P) a := by
  unfold Cg
  have := Int.mul_ediv_add_emod a P
  exact ⟨-(a / P), by rw [Int.mul_neg]; omega⟩
theorem modE {r : Int} (h : r = a % P) : Cg P r a := h ▸ mod P a
theorem iff_mod : Cg P a b ↔ (a - b) % P = 0 := ⟨fun h => Int.emod_eq_zero_of_dvd h, fun h => Int.dvd_of_emod_eq_zero h⟩
theorem eq (h : Cg P a b) (h1 : 0 ≤ a) (h2 : a < P) (h3 : 0 ≤ b) (h4 : b < P) : a = b := by
  unfold Cg at h
  have e : a % P = b % P := Int.emod_eq_emod_iff_emod_sub_eq_zero.mpr (Int.emod_eq_zero_of_dvd h)
  rwa [Int.emod_eq_of_lt h1 h2, Int.emod_eq_of_lt h3 h4] at e
end Cg

/-- P is prime, so to say: what is not nought has an inverse -/
def Pr (P : Int) : Prop := 1 < P ∧ ∀ z, 0 < z → z < P → ∃ u v : Int, u * z + v * P = 1
theorem Pr.bez {P z : Int} (h : Pr P) (hz : z ≠ 0) (h0 : 0 ≤ z) (h1 : z < P) : ∃ u v : Int, u * z + v * P = 1 := h.2 z (by omega) h1
theorem Pr.inv {P z : Int} (h : Pr P) (hz : ¬ Cg P z 0) : ∃ u, Cg P (u * z) 1 := by
  have hp := h.1
  have h0 := Int.emod_nonneg z (show P ≠ 0 by omega)
  have h1 := Int.emod_lt_of_pos z (show 0 < P by omega)
  have hne : z % P ≠ 0 := fun e => hz (by rw [Cg.iff_mod]; simpa using e)
  obtain ⟨u, v, e⟩ := h.2 (z % P) (by omega) h1
  refine ⟨u, (Cg.mul (Cg.refl P u) (Cg.mod P z).symm).trans ⟨-v, ?_⟩⟩
  grind
theorem Pr.mul_ne {P a b : Int} (h : Pr P) (ha : ¬ Cg P a 0) (hb : ¬ Cg P b 0) : ¬ Cg P (a * b) 0 := by
  intro hab
  obtain ⟨u, hu⟩ := h.inv ha
  refine hb ?_
  have h1 := Cg.mul (Cg.refl P u) hab
  have h2 := Cg.mul hu (Cg.refl P b)
  have h3 : Cg P (1 * b) (u * 0) := h2.symm.trans ((Cg.of_eq (by grind)).trans h1)
  simpa using h3
theorem Pr.pow_ne {P a : Int} (h : Pr P) (ha : ¬ Cg P a 0) : ∀ n : Nat, ¬ Cg P (a ^ n) 0
  | 0 => by
    intro e
    have hp := h.1
    unfold Cg at e
    simp at e
    have := Int.le_of_dvd (by omega) e
    omega
  | n + 1 => by rw [Int.pow_succ]; exact h.mul_ne (Pr.pow_ne h ha n) ha
theorem Pr.cancel {P a b c : Int} (h : Pr P) (hc : ¬ Cg P c 0) (e : Cg P (a * c) (b * c)) : Cg P a b := by
  obtain ⟨u, hu⟩ := h.inv hc
  have h1 := Cg.mul e (Cg.refl P u)
  have h2 := Cg.mul (Cg.refl P a) hu
  have h3 := Cg.mul (Cg.refl P b) hu
  have h4 : Cg P (a * 1) (b * 1) := h2.symm.trans ((Cg.of_eq (by grind)).trans (h1.trans ((Cg.of_eq (by grind)).trans h3)))
  simpa using h4
theorem ne_of {P a : Int} (h0 : 0 ≤ a) (h1 : a < P) (h : a ≠ 0) : ¬ Cg P a 0 := fun e => h (e.eq h0 h1 (by omega) (by omega))

structure Rep (P : Int) (X Y : Nat → Int) (k : Nat) (x y z : Int) : Prop where
  bx : 0 ≤ x ∧ x < P
  byy : 0 ≤ y ∧ y < P
  bz : 0 ≤ z ∧ z < P
  zero : k = 0 → x = 0 ∧ y = 0
  some : k ≠ 0 → y ≠ 0 ∧ z ≠ 0 ∧ Cg P x (X k * z ^ 2) ∧ Cg P y (Y k * z ^ 3)

structure Grp (P A : Int) (N : Nat) (X Y : Nat → Int) : Prop where
  pr : Pr P
  P3 : 2 < P
  P2 : P < 128
  A1 : 0 ≤ A
  A2 : A < 128
  N1 : 30 < N
  N2 : N < 128
  npr : Pr (N : Int)
  bx : ∀ i, 0 ≤ X i ∧ X i < P
  byy : ∀ i, 0 ≤ Y i ∧ Y i < P
  x0 : X 0 = 0
  y0 : Y 0 = 0
  ynz : ∀ i, i < N → i ≠ 0 → Y i ≠ 0
  inj : ∀ i j, i < N → j < N → X i = X j → Y i = Y j → i = j
  neg : ∀ i, i < N → X ((N - i) % N) = X i ∧ Y ((N - i) % N) = (P - Y i) % P
  opp : ∀ i j, i < N → j < N → i ≠ 0 → j ≠ 0 → X i = X j → Y i ≠ Y j → (i + j) % N = 0
  dbl : ∀ i, i < N → i ≠ 0 → (i + i) % N ≠ 0 ∧ Cg P ((3 * X i ^ 2 + A) ^ 2) ((X ((i + i) % N) + 2 * X i) * (2 * Y i) ^ 2) ∧ Cg P ((Y ((i + i) % N) + Y i) * (2 * Y i)) ((3 * X i ^ 2 + A) * (X i - X ((i + i) % N)))
  add : ∀ i j, i < N → j < N → i ≠ 0 → j ≠ 0 → X i ≠ X j → (i + j) % N ≠ 0 ∧ Cg P ((Y j - Y i) ^ 2) ((X ((i + j) % N) + X i + X j) * (X j - X i) ^ 2) ∧ Cg P ((Y ((i + j) % N) + Y i) * (X j - X i)) ((Y j - Y i) * (X i - X ((i + j) % N)))

section
variable {P A : Int} {N : Nat} {X Y : Nat → Int}
theorem Rep.aff (G : Grp P A N X Y) {i : Nat} (hi : i < N) : Rep P X Y i (X i) (Y i) 1 where
  bx := G.bx i
  byy := G.byy i
  bz := ⟨by decide, G.pr.1⟩
  zero := by intro h; subst h; exact ⟨G.x0, G.y0⟩
  some := fun h => ⟨G.ynz i hi h, by decide, Cg.of_eq (by simp), Cg.of_eq (by simp)⟩
theorem Grp.two_ne (G : Grp P A N X Y) : ¬ Cg P 2 0 := by
  intro h
  have := Int.le_of_dvd (by omega) (show P ∣ 2 by simpa [Cg] using h)
  have := G.P3
  omega
theorem Rep.dbl (G : Grp P A N X Y) {k : Nat} (hk : k < N) {x y z x' y' z' : Int} (R : Rep P X Y k x y z) (D : DblEq P A x y z x' y' z') : Rep P X Y ((k + k) % N) x' y' z' := by
  have h2 := G.two_ne
  have hp := G.pr.1
  by_cases hk0 : k = 0
  · subst hk0
    obtain ⟨e1, e2⟩ := R.zero rfl
    obtain ⟨rfl, rfl, rfl⟩ := D.1 e2
    have : (0 + 0) % N = 0 := by simp
    rw [this]
    exact ⟨⟨by omega, by omega⟩, ⟨by omega, by omega⟩, ⟨by omega, by omega⟩, fun _ => ⟨rfl, rfl⟩, fun h => absurd rfl h⟩
  · obtain ⟨hy, hz, cx, cy⟩ := R.some hk0
    obtain ⟨q, S, M, hq, hS, hM, rfl, rfl, rfl⟩ := D.2 hy
    obtain ⟨hne, c1, c2⟩ := G.dbl k hk hk0
    have hzz : ¬ Cg P z 0 := ne_of R.bz.1 R.bz.2 hz
    have hyk : ¬ Cg P (Y k) 0 := ne_of (G.byy k).1 (G.byy k).2 (G.ynz k hk hk0)
    have hkk : (k + k) % N < N := Nat.mod_lt _ (by omega)
    generalize (k + k) % N = K at *
    generalize hxk : X k = xk at *
    generalize hyk' : Y k = yk at *
    generalize hX : X K = xx at *
    generalize hY : Y K = yy at *
    have mM : Cg P M ((3 * xk ^ 2 + A) * z ^ 4) := (Cg.modE hM).trans ((Cg.add (Cg.mul (Cg.refl P 3) (cx.pow 2)) (Cg.refl P (A * z ^ 4))).trans (Cg.of_eq (by grind)))
    have mq : Cg P q (yk ^ 2 * z ^ 6) := (Cg.modE hq).trans ((cy.pow 2).trans (Cg.of_eq (by grind)))
    have mS : Cg P S (4 * xk * yk ^ 2 * z ^ 8) := (Cg.modE hS).trans ((Cg.mul (Cg.mul (Cg.refl P 4) cx) mq).trans (Cg.of_eq (by grind)))
    -- x' and y' by the point K
    have mZ : Cg P (2 * y * z % P) (2 * yk * z ^ 4) := (Cg.mod P _).trans ((Cg.mul (Cg.mul (Cg.refl P 2) cy) (Cg.refl P z)).trans (Cg.of_eq (by grind)))
    have mX : Cg P ((M ^ 2 - 2 * S) % P) (xx * (2 * yk * z ^ 4) ^ 2) := by
      refine (Cg.mod P _).trans ((Cg.sub (mM.pow 2) (Cg.mul (Cg.refl P 2) mS)).trans ?_)
      have h := Cg.mul c1 (Cg.refl P (z ^ 8))
      refine Cg.trans (Cg.of_eq ?_) ((Cg.sub h (Cg.refl P (8 * xk * yk ^ 2 * z ^ 8))).trans (Cg.of_eq ?_))
      · grind
      · grind
    have mY : Cg P ((M * (S - (M ^ 2 - 2 * S) % P) - 8 * q ^ 2) % P) (yy * (2 * yk * z ^ 4) ^ 3) := by
      refine (Cg.mod P _).trans ((Cg.sub (Cg.mul mM (Cg.sub mS mX)) (Cg.mul (Cg.refl P 8) (mq.pow 2))).trans ?_)
      have h := Cg.mul c2 (Cg.refl P (4 * yk ^ 2 * z ^ 12))
      refine Cg.trans (Cg.of_eq ?_) ((Cg.sub h.symm (Cg.refl P (8 * yk ^ 4 * z ^ 12))).trans (Cg.of_eq ?_))
      · grind
      · grind
    have nz : ¬ Cg P (2 * yk * z ^ 4) 0 := G.pr.mul_ne (G.pr.mul_ne h2 hyk) (G.pr.pow_ne hzz 4)
    have nyy : ¬ Cg P yy 0 := by rw [← hY]; exact ne_of (G.byy K).1 (G.byy K).2 (G.ynz K hkk hne)
    refine ⟨⟨Int.emod_nonneg _ (by omega), Int.emod_lt_of_pos _ (by omega)⟩, ⟨Int.emod_nonneg _ (by omega), Int.emod_lt_of_pos _ (by omega)⟩, ⟨Int.emod_nonneg _ (by omega), Int.emod_lt_of_pos _ (by omega)⟩, fun h => absurd h hne, fun _ => ⟨fun e => ?_, fun e => ?_, ?_, ?_⟩⟩
    · rw [e] at mY
      exact G.pr.mul_ne nyy (G.pr.pow_ne nz 3) mY.symm
    · rw [e] at mZ
      exact nz mZ.symm
    · rw [hX]
      exact mX.trans (Cg.mul (Cg.refl P xx) (mZ.symm.pow 2))
    · rw [hY]
      exact mY.trans (Cg.mul (Cg.refl P yy) (mZ.symm.pow 3))

theorem Rep.jadd (G : Grp P A N X Y) {k j : Nat} (hk : k < N) (hj : j < N) {x y z x' y' z' : Int} (R : Rep P X Y k x y z) (D : JAddEq P A x y z (X j) (Y j) 1 x' y' z') : Rep P X Y ((k + j) % N) x' y' z' := by
  have hp := G.pr.1
  by_cases hk0 : k = 0
  · subst hk0
    obtain ⟨e1, e2⟩ := R.zero rfl
    obtain ⟨rfl, rfl, rfl⟩ := D.1 e2
    rw [Nat.zero_add, Nat.mod_eq_of_lt hj]
    exact Rep.aff G hj
  obtain ⟨hy, hz, cx, cy⟩ := R.some hk0
  by_cases hj0 : j = 0
  · subst hj0
    obtain ⟨rfl, rfl, rfl⟩ := D.2.1 hy G.y0
    rw [Nat.add_zero, Nat.mod_eq_of_lt hk]
    exact R
  have hyj : Y j ≠ 0 := G.ynz j hj hj0
  obtain ⟨U1, U2, S1, S2, hU1, hU2, hS1, hS2, d1, d2, d3⟩ := D.2.2 hy hyj
  have hzz : ¬ Cg P z 0 := ne_of R.bz.1 R.bz.2 hz
  have z2 : ¬ Cg P (z ^ 2) 0 := G.pr.pow_ne hzz 2
  have z3 : ¬ Cg P (z ^ 3) 0 := G.pr.pow_ne hzz 3
  have mU1 : Cg P U1 (X k * z ^ 2) := (Cg.modE hU1).trans ((Cg.of_eq (by grind)).trans cx)
  have mU2 : Cg P U2 (X j * z ^ 2) := Cg.modE hU2
  have mS1 : Cg P S1 (Y k * z ^ 3) := (Cg.modE hS1).trans ((Cg.of_eq (by grind)).trans cy)
  have mS2 : Cg P S2 (Y j * z ^ 3) := Cg.modE hS2
  have bm : ∀ {r a : Int}, r = a % P → 0 ≤ r ∧ r < P := fun h => ⟨h ▸ Int.emod_nonneg _ (by omega), h ▸ Int.emod_lt_of_pos _ (by omega)⟩
  have iU : U1 = U2 ↔ X k = X j := by
    constructor
    · intro h
      rw [h] at mU1
      exact (G.pr.cancel z2 (mU1.symm.trans mU2)).eq (G.bx k).1 (G.bx k).2 (G.bx j).1 (G.bx j).2
    · intro h
      rw [h] at mU1
      exact (mU1.trans mU2.symm).eq (bm hU1).1 (bm hU1).2 (bm hU2).1 (bm hU2).2
  have iS : S1 = S2 ↔ Y k = Y j := by
    constructor
    · intro h
      rw [h] at mS1
      exact (G.pr.cancel z3 (mS1.symm.trans mS2)).eq (G.byy k).1 (G.byy k).2 (G.byy j).1 (G.byy j).2
    · intro h
      rw [h] at mS1
      exact (mS1.trans mS2.symm).eq (bm hS1).1 (bm hS1).2 (bm hS2).1 (bm hS2).2
  by_cases eU : U1 = U2
  · by_cases eS : S1 = S2
    · have := G.inj k j hk hj (iU.mp eU) (iS.mp eS)
      subst this
      exact Rep.dbl G hk R (d2 eU eS)
    · obtain ⟨rfl, rfl, rfl⟩ := d1 eU eS
      rw [G.opp k j hk hj hk0 hj0 (iU.mp eU) (fun e => eS (iS.mpr e))]
      exact ⟨⟨by omega, by omega⟩, ⟨by omega, by omega⟩, ⟨by omega, by omega⟩, fun _ => ⟨rfl, rfl⟩, fun h => absurd rfl h⟩
  · obtain ⟨H2, H3, V, hH2, hH3, hV, rfl, rfl, rfl⟩ := d3 eU
    have hne' : X k ≠ X j := fun e => eU (iU.mpr e)
    obtain ⟨hne, c1, c2⟩ := G.add k j hk hj hk0 hj0 hne'
    have hkk : (k + j) % N < N := Nat.mod_lt _ (by omega)
    have hd : ¬ Cg P (X j - X k) 0 := by
      intro h
      refine hne' ?_
      have : Cg P (X k) (X j) := by
        have := Cg.symm (h.add (Cg.refl P (X k)))
        simpa using this
      exact this.eq (G.bx k).1 (G.bx k).2 (G.bx j).1 (G.bx j).2
    generalize (k + j) % N = K at *
    generalize hxk : X k = xk at *
    generalize hyk' : Y k = yk at *
    generalize hxj : X j = xj at *
    generalize hyj' : Y j = yj at *
    generalize hX : X K = xx at *
    generalize hY : Y K = yy at *
    have mH : Cg P (U2 - U1) ((xj - xk) * z ^ 2) := (Cg.sub mU2 mU1).trans (Cg.of_eq (by grind))
    have mR : Cg P (S2 - S1) ((yj - yk) * z ^ 3) := (Cg.sub mS2 mS1).trans (Cg.of_eq (by grind))
    have mH2 : Cg P H2 ((xj - xk) ^ 2 * z ^ 4) := (Cg.modE hH2).trans ((Cg.mul mH mH).trans (Cg.of_eq (by grind)))
    have mH3 : Cg P H3 ((xj - xk) ^ 3 * z ^ 6) := (Cg.modE hH3).trans ((Cg.mul mH mH2).trans (Cg.of_eq (by grind)))
    have mV : Cg P V (xk * (xj - xk) ^ 2 * z ^ 6) := (Cg.modE hV).trans ((Cg.mul mU1 mH2).trans (Cg.of_eq (by grind)))
    have mZ : Cg P ((U2 - U1) * z * 1 % P) ((xj - xk) * z ^ 3) := (Cg.mod P _).trans ((Cg.mul (Cg.mul mH (Cg.refl P z)) (Cg.refl P 1)).trans (Cg.of_eq (by grind)))
    have mX : Cg P (((S2 - S1) ^ 2 - H3 - 2 * V) % P) (xx * ((xj - xk) * z ^ 3) ^ 2) := by
      refine (Cg.mod P _).trans ((Cg.sub (Cg.sub (mR.pow 2) mH3) (Cg.mul (Cg.refl P 2) mV)).trans ?_)
      have h := Cg.mul c1 (Cg.refl P (z ^ 6))
      refine Cg.trans (Cg.of_eq ?_) ((Cg.sub h (Cg.refl P ((xj - xk) ^ 3 * z ^ 6 + 2 * (xk * (xj - xk) ^ 2 * z ^ 6)))).trans (Cg.of_eq ?_))
      · grind
      · grind
    have mY : Cg P (((S2 - S1) * (V - ((S2 - S1) ^ 2 - H3 - 2 * V) % P) - S1 * H3) % P) (yy * ((xj - xk) * z ^ 3) ^ 3) := by
      refine (Cg.mod P _).trans ((Cg.sub (Cg.mul mR (Cg.sub mV mX)) (Cg.mul mS1 mH3)).trans ?_)
      have h := Cg.mul c2 (Cg.refl P ((xj - xk) ^ 2 * z ^ 9))
      refine Cg.trans (Cg.of_eq ?_) ((Cg.sub h.symm (Cg.refl P (yk * (xj - xk) ^ 3 * z ^ 9))).trans (Cg.of_eq ?_))
      · grind
      · grind
    have nz : ¬ Cg P ((xj - xk) * z ^ 3) 0 := G.pr.mul_ne hd z3
    have nyy : ¬ Cg P yy 0 := by rw [← hY]; exact ne_of (G.byy K).1 (G.byy K).2 (G.ynz K hkk hne)
    refine ⟨⟨Int.emod_nonneg _ (by omega), Int.emod_lt_of_pos _ (by omega)⟩, ⟨Int.emod_nonneg _ (by omega), Int.emod_lt_of_pos _ (by omega)⟩, ⟨Int.emod_nonneg _ (by omega), Int.emod_lt_of_pos _ (by omega)⟩, fun h => absurd h hne, fun _ => ⟨fun e => ?_, fun e => ?_, ?_, ?_⟩⟩
    · rw [e] at mY
      exact G.pr.mul_ne nyy (G.pr.pow_ne nz 3) mY.symm
    · rw [e] at mZ
      exact nz mZ.symm
    · rw [hX]
      exact mX.trans (Cg.mul (Cg.refl P xx) (mZ.symm.pow 2))
    · rw [hY]
      exact mY.trans (Cg.mul (Cg.refl P yy) (mZ.symm.pow 3))

theorem Rep.fromJ (G : Grp P A N X Y) {k : Nat} {x y z i : Int} (R : Rep P X Y k x y z) (h0 : z = 0 → i = 0) (h1 : z ≠ 0 → i * z % P = 1) : x * i ^ 2 % P = X k ∧ y * i ^ 3 % P = Y k := by
  have hp := G.pr.1
  by_cases hk0 : k = 0
  · subst hk0
    obtain ⟨rfl, rfl⟩ := R.zero rfl
    rw [G.x0, G.y0]
    simp
  · obtain ⟨hy, hz, cx, cy⟩ := R.some hk0
    have e := Cg.mod P (i * z)
    rw [h1 hz] at e
    have e' := e.symm
    refine ⟨Cg.eq ((Cg.mod P _).trans ((Cg.mul cx (Cg.refl P (i ^ 2))).trans ((Cg.of_eq ?_).trans ((Cg.mul (Cg.refl P (X k)) (e'.pow 2)).trans (Cg.of_eq ?_))))) (Int.emod_nonneg _ (by omega)) (Int.emod_lt_of_pos _ (by omega)) (G.bx k).1 (G.bx k).2,
      Cg.eq ((Cg.mod P _).trans ((Cg.mul cy (Cg.refl P (i ^ 3))).trans ((Cg.of_eq ?_).trans ((Cg.mul (Cg.refl P (Y k)) (e'.pow 3)).trans (Cg.of_eq ?_))))) (Int.emod_nonneg _ (by omega)) (Int.emod_lt_of_pos _ (by omega)) (G.byy k).1 (G.byy k).2⟩
    · grind
    · simp
    · grind
    · simp

theorem Rep.cast {k k' : Nat} {x y z : Int} (R : Rep P X Y k x y z) (h : k = k') : Rep P X Y k' x y z := h ▸ R
theorem Rep.inf (G : Grp P A N X Y) {k : Nat} (h : k = 0) : Rep P X Y k 0 0 1 := by
  have := G.pr.1
  subst h
  exact ⟨⟨by omega, by omega⟩, ⟨by omega, by omega⟩, ⟨by omega, by omega⟩, fun _ => ⟨rfl, rfl⟩, fun h => absurd rfl h⟩
theorem jm_zero (G : Grp P A N X Y) {i : Nat} (hi : i < N) {n : Int} (h : Y i = 0 ∨ n = 0) : Rep P X Y (i * n.toNat % N) 0 0 1 := by
  refine Rep.inf G ?_
  rcases h with h | h
  · have : i = 0 := Classical.byContradiction fun hn => G.ynz i hi hn h
    subst this
    simp
  · subst h
    simp
theorem jm_one (G : Grp P A N X Y) {i : Nat} (hi : i < N) {n : Int} (h : n = 1) : Rep P X Y (i * n.toNat % N) (X i) (Y i) 1 := by
  refine (Rep.aff G hi).cast ?_
  subst h
  simp [Nat.mod_eq_of_lt hi]
theorem jm_even (G : Grp P A N X Y) {i : Nat} {n r x y z x' y' z' : Int} (h0 : 0 ≤ n) (hr : r = n / 2) (he : n % 2 = 0) (R : Rep P X Y (i * r.toNat % N) x y z) (D : DblEq P A x y z x' y' z') :
    Rep P X Y (i * n.toNat % N) x' y' z' := by
  have hN := G.N1
  refine (Rep.dbl G (Nat.mod_lt _ (by omega)) R D).cast ?_
  rw [← Nat.add_mod]
  congr 1
  have : n.toNat = r.toNat + r.toNat := by omega
  rw [this, Nat.mul_add]
theorem jm_odd (G : Grp P A N X Y) {i : Nat} (hi : i < N) {n r x y z x' y' z' x'' y'' z'' : Int} (h0 : 0 ≤ n) (hr : r = n / 2) (he : n % 2 = 1) (R : Rep P X Y (i * r.toNat % N) x y z) (D : DblEq P A x y z x' y' z')
    (J : JAddEq P A x' y' z' (X i) (Y i) 1 x'' y'' z'') : Rep P X Y (i * n.toNat % N) x'' y'' z'' := by
  have hN := G.N1
  have R2 := Rep.dbl G (Nat.mod_lt _ (by omega)) R D
  refine (Rep.jadd G (Nat.mod_lt _ (by omega)) hi R2 J).cast ?_
  rw [← Nat.add_mod, ← Nat.mod_add_mod, Nat.mod_mod, Nat.mod_add_mod]
  congr 1
  have : n.toNat = r.toNat + r.toNat + 1 := by omega
  rw [this, Nat.mul_add, Nat.mul_add, Nat.mul_one]

theorem neg_of (G : Grp P A N X Y) {K : Nat} {r : Int} (hr : r = (P - Y K) % P) (hK : K < N) : X K = X ((N - K) % N) ∧ r = Y ((N - K) % N) := by
  have h := G.neg K hK
  exact ⟨h.1.symm, hr.trans h.2.symm⟩
theorem hid_end {d x n N : Nat} (hn : n < N) (hx : x < N) : 1 * n % N = n ∧ (1 * x % N + d * n % N) % N = (x + d * n) % N := by
  rw [Nat.one_mul, Nat.one_mul, Nat.mod_eq_of_lt hn, Nat.mod_eq_of_lt hx, Nat.add_mod_mod]
  exact ⟨rfl, rfl⟩
end
end Mine
end

/- part Grp -/
section
namespace Mine
def ck (P xi yi xj yj xk yk : Nat) : Bool :=
  cond (Nat.beq xi xj) (and (Nat.beq yk 0) (not (Nat.beq yi yj)))
    (and (not (Nat.beq yk 0))
      (and (Nat.beq (Nat.mod (Nat.mul (Nat.sub (Nat.add yj P) yi) (Nat.sub (Nat.add yj P) yi)) P) (Nat.mod (Nat.mul (Nat.add (Nat.add xk xi) xj) (Nat.mul (Nat.sub (Nat.add xj P) xi) (Nat.sub (Nat.add xj P) xi))) P))
        (Nat.beq (Nat.mod (Nat.mul (Nat.add yk yi) (Nat.sub (Nat.add xj P) xi)) P) (Nat.mod (Nat.mul (Nat.sub (Nat.add yj P) yi) (Nat.sub (Nat.add xi P) xk)) P))))
def ckRow (P xi yi : Nat) : List (Nat × Nat) → List (Nat × Nat) → Bool
  | [], _ => true
  | _ :: _, [] => false
  | (xj, yj) :: js, (xk, yk) :: ks => and (ck P xi yi xj yj xk yk) (ckRow P xi yi js ks)
def ckAll (P : Nat) : List (Nat × Nat) → List (Nat × Nat) → Bool
  | [], _ => true
  | (xi, yi) :: rest, ks => and (ckRow P xi yi rest ks) (ckAll P rest ks.tail.tail)
def ckD (P A xi yi xk yk : Nat) : Bool :=
  and (not (Nat.beq yk 0)) (and (Nat.beq (Nat.mod (Nat.mul (Nat.add (Nat.mul 3 (Nat.mul xi xi)) A) (Nat.add (Nat.mul 3 (Nat.mul xi xi)) A)) P) (Nat.mod (Nat.mul (Nat.add xk (Nat.mul 2 xi)) (Nat.mul (Nat.mul 2 yi) (Nat.mul 2 yi))) P))
    (Nat.beq (Nat.mod (Nat.mul (Nat.add yk yi) (Nat.mul 2 yi)) P) (Nat.mod (Nat.mul (Nat.add (Nat.mul 3 (Nat.mul xi xi)) A) (Nat.sub (Nat.add xi P) xk)) P)))
def ckDbl (P A : Nat) : List (Nat × Nat) → List (Nat × Nat) → Bool
  | [], _ => true
  | (xi, yi) :: rest, ks => and (ckD P A xi yi (ks.getD 0 (0, 0)).1 (ks.getD 0 (0, 0)).2) (ckDbl P A rest ks.tail.tail)
def ckNeg (P : Nat) : List (Nat × Nat) → List (Nat × Nat) → Bool
  | [], _ => true
  | (xi, yi) :: rest, ks => and (and (Nat.beq (ks.getD 0 (0, 0)).1 xi) (Nat.beq (ks.getD 0 (0, 0)).2 (Nat.sub P yi))) (ckNeg P rest ks.tail)
def ckInv (P : Nat) : Nat → Bool
  | 0 => true
  | n + 1 => and (Nat.beq (Nat.mod (Nat.mul (Nat.pow (n + 1) (Nat.sub P 2)) (n + 1)) P) 1) (ckInv P n)

theorem tail_getD {α : Type} (l : List α) (n : Nat) (d : α) : l.tail.getD n d = l.getD (n + 1) d := by
  cases l <;> simp
theorem ckRow_spec {P xi yi : Nat} : ∀ {js ks : List (Nat × Nat)}, ckRow P xi yi js ks = true → ∀ b, b < js.length → ck P xi yi (js.getD b (0, 0)).1 (js.getD b (0, 0)).2 (ks.getD b (0, 0)).1 (ks.getD b (0, 0)).2 = true
  | [], _, _, b, hb => absurd hb (Nat.not_lt_zero _)
  | _ :: _, [], h, _, _ => by simp [ckRow] at h
  | (xj, yj) :: js, (xk, yk) :: ks, h, b, hb => by
    simp only [ckRow, Bool.and_eq_true] at h
    cases b with
    | zero => simpa using h.1
    | succ b => simpa using ckRow_spec h.2 b (by simpa using hb)
theorem ckAll_spec {P : Nat} : ∀ {cur ks : List (Nat × Nat)}, ckAll P cur ks = true → ∀ a b, a < b → b < cur.length →
    ck P (cur.getD a (0, 0)).1 (cur.getD a (0, 0)).2 (cur.getD b (0, 0)).1 (cur.getD b (0, 0)).2 (ks.getD (a + b - 1) (0, 0)).1 (ks.getD (a + b - 1) (0, 0)).2 = true
  | [], _, _, _, b, _, hb => absurd hb (Nat.not_lt_zero _)
  | (xi, yi) :: rest, ks, h, a, b, hab, hb => by
    simp only [ckAll, Bool.and_eq_true] at h
    obtain ⟨b, rfl⟩ : ∃ c, b = c + 1 := ⟨b - 1, by omega⟩
    cases a with
    | zero => simpa using ckRow_spec h.1 b (by simpa using hb)
    | succ a =>
      have := ckAll_spec h.2 a b (by omega) (by simpa using hb)
      rw [tail_getD, tail_getD] at this
      have e : a + b - 1 + 1 + 1 = a + 1 + (b + 1) - 1 := by omega
      rw [e] at this
      simpa using this
theorem ckDbl_spec {P A : Nat} : ∀ {cur ks : List (Nat × Nat)}, ckDbl P A cur ks = true → ∀ a, a < cur.length →
    ckD P A (cur.getD a (0, 0)).1 (cur.getD a (0, 0)).2 (ks.getD (a + a) (0, 0)).1 (ks.getD (a + a) (0, 0)).2 = true
  | [], _, _, a, hb => absurd hb (Nat.not_lt_zero _)
  | (xi, yi) :: rest, ks, h, a, hb => by
    simp only [ckDbl, Bool.and_eq_true] at h
    cases a with
    | zero => simpa using h.1
    | succ a =>
      have := ckDbl_spec h.2 a (by simpa using hb)
      rw [tail_getD, tail_getD] at this
      have e : a + a + 1 + 1 = a + 1 + (a + 1) := by omega
      rw [e] at this
      simpa using this
theorem ckNeg_spec {P : Nat} : ∀ {cur ks : List (Nat × Nat)}, ckNeg P cur ks = true → ∀ a, a < cur.length →
    (ks.getD a (0, 0)).1 = (cur.getD a (0, 0)).1 ∧ (ks.getD a (0, 0)).2 = P - (cur.getD a (0, 0)).2
  | [], _, _, a, hb => absurd hb (Nat.not_lt_zero _)
  | (xi, yi) :: rest, ks, h, a, hb => by
    simp only [ckNeg, Bool.and_eq_true] at h
    cases a with
    | zero =>
      have h1 := Nat.eq_of_beq_eq_true h.1.1
      have h2 := Nat.eq_of_beq_eq_true h.1.2
      exact ⟨by simpa using h1, by simpa using h2⟩
    | succ a =>
      have := ckNeg_spec h.2 a (by simpa using hb)
      rw [tail_getD] at this
      simpa using this
theorem cg_of_mod {P a b : Nat} (h : a % P = b % P) : Cg (P : Int) a b := by
  unfold Cg
  refine Int.dvd_of_emod_eq_zero (Int.emod_eq_emod_iff_emod_sub_eq_zero.mp ?_)
  exact_mod_cast h
theorem cg_sub {P a b : Nat} (h : b ≤ a + P) : Cg (P : Int) ((a + P - b : Nat) : Int) ((a : Int) - b) := ⟨1, by omega⟩
theorem ckInv_spec {P : Nat} (hP : 2 < P) : ∀ {n : Nat}, ckInv P n = true → ∀ z, 0 < z → z ≤ n → z ^ (P - 2) * z % P = 1
  | 0, _, z, h0, h1 => by omega
  | n + 1, h, z, h0, h1 => by
    simp only [ckInv, Bool.and_eq_true] at h
    rcases Nat.lt_or_ge z (n + 1) with h' | h'
    · exact ckInv_spec hP h.2 z h0 (by omega)
    · have : z = n + 1 := by omega
      subst this
      exact Nat.eq_of_beq_eq_true h.1
theorem pr_of {P : Nat} (hP : 2 < P) (h : ckInv P (P - 1) = true) : Pr (P : Int) := by
  refine ⟨by omega, fun z h0 h1 => ?_⟩
  obtain ⟨m, rfl⟩ : ∃ m : Nat, z = m := ⟨z.toNat, by omega⟩
  have e := ckInv_spec hP h m (by omega) (by omega)
  have e2 := Nat.div_add_mod (m ^ (P - 2) * m) P
  rw [e] at e2
  refine ⟨((m ^ (P - 2) : Nat) : Int), -((m ^ (P - 2) * m / P : Nat) : Int), ?_⟩
  have e3 : ((m ^ (P - 2) * m : Nat) : Int) = (P : Int) * ((m ^ (P - 2) * m / P : Nat) : Int) + 1 := by exact_mod_cast e2.symm
  rw [Int.natCast_mul] at e3
  rw [Int.neg_mul, Int.mul_comm _ (P : Int)]
  omega

section
variable {P A N : Nat} {E : List (Nat × Nat)}
abbrev tX (E : List (Nat × Nat)) (i : Nat) : Int := ((E.getD i (0, 0)).1 : Int)
abbrev tY (E : List (Nat × Nat)) (i : Nat) : Int := ((E.getD i (0, 0)).2 : Int)
structure Tab (P A N : Nat) (E : List (Nat × Nat)) : Prop where
  len : E.length = N
  n30 : 30 < N
  n128 : N < 128
  p2 : 2 < P
  p128 : P < 128
  a128 : A < 128
  e0 : E.getD 0 (0, 0) = (0, 0)
  pr : ckInv P (P - 1) = true
  npr : ckInv N (N - 1) = true
  bd : (E.all fun e => Nat.ble (e.1 + 1) P && Nat.ble (e.2 + 1) P) = true
  ynz : (E.tail.all fun e => Nat.ble 1 e.2) = true
  add : ckAll P E.tail (List.append E E).tail.tail.tail = true
  dbl : ckDbl P A E.tail (List.append E E).tail.tail = true
  neg : ckNeg P E.tail E.tail.reverse = true
theorem twice {N : Nat} {E : List (Nat × Nat)} (hl : E.length = N) {i : Nat} (h : i < N + N) : (List.append E E).getD i (0, 0) = E.getD (i % N) (0, 0) := by
  show (E ++ E).getD i (0, 0) = _
  rw [List.getD_eq_getElem?_getD, List.getD_eq_getElem?_getD]
  rcases Nat.lt_or_ge i N with h' | h'
  · rw [List.getElem?_append_left (by omega), Nat.mod_eq_of_lt h']
  · rw [List.getElem?_append_right (by omega), hl]
    have : i % N = i - N := by
      rw [Nat.mod_eq_sub_mod h', Nat.mod_eq_of_lt (by omega)]
    rw [this]
theorem Tab.bnd (T : Tab P A N E) (i : Nat) : (E.getD i (0, 0)).1 < P ∧ (E.getD i (0, 0)).2 < P := by
  have hp := T.p2
  rcases Nat.lt_or_ge i E.length with h | h
  · have hb := List.all_eq_true.mp T.bd (E[i]) (List.getElem_mem h)
    simp only [Bool.and_eq_true] at hb
    have h1 := Nat.le_of_ble_eq_true hb.1
    have h2 := Nat.le_of_ble_eq_true hb.2
    rw [List.getD_eq_getElem?_getD, List.getElem?_eq_getElem h]
    exact ⟨h1, h2⟩
  · rw [List.getD_eq_getElem?_getD, List.getElem?_eq_none h]
    exact ⟨by simp; omega, by simp; omega⟩
theorem Tab.yne (T : Tab P A N E) (i : Nat) (hi : i < N) (h0 : i ≠ 0) : (E.getD i (0, 0)).2 ≠ 0 := by
  have hl := T.len
  obtain ⟨i, rfl⟩ : ∃ j, i = j + 1 := ⟨i - 1, by omega⟩
  have hlt : i < E.tail.length := by rw [List.length_tail]; omega
  have hb := List.all_eq_true.mp T.ynz (E.tail[i]) (List.getElem_mem hlt)
  have h1 := Nat.le_of_ble_eq_true hb
  rw [← tail_getD, List.getD_eq_getElem?_getD, List.getElem?_eq_getElem hlt]
  show (E.tail[i]).2 ≠ 0
  omega
theorem Tab.ck (T : Tab P A N E) {i j : Nat} (h0 : i ≠ 0) (hij : i < j) (hj : j < N) :
    ck P (E.getD i (0, 0)).1 (E.getD i (0, 0)).2 (E.getD j (0, 0)).1 (E.getD j (0, 0)).2 (E.getD ((i + j) % N) (0, 0)).1 (E.getD ((i + j) % N) (0, 0)).2 = true := by
  have hl := T.len
  have h := ckAll_spec T.add (i - 1) (j - 1) (by omega) (by rw [List.length_tail]; omega)
  rw [tail_getD, tail_getD, tail_getD, tail_getD, tail_getD] at h
  have e1 : i - 1 + 1 = i := by omega
  have e2 : j - 1 + 1 = j := by omega
  have e3 : i - 1 + (j - 1) - 1 + 1 + 1 + 1 = i + j := by omega
  rw [e1, e2, e3, twice hl (by omega)] at h
  exact h
theorem Tab.lt (T : Tab P A N E) {i j : Nat} (h0 : i ≠ 0) (hij : i < j) (hj : j < N) :
    (tX E i = tX E j → tY E i ≠ tY E j ∧ (i + j) % N = 0) ∧
    (tX E i ≠ tX E j → (i + j) % N ≠ 0 ∧ Cg P ((tY E j - tY E i) ^ 2) ((tX E ((i + j) % N) + tX E i + tX E j) * (tX E j - tX E i) ^ 2) ∧ Cg P ((tY E ((i + j) % N) + tY E i) * (tX E j - tX E i)) ((tY E j - tY E i) * (tX E i - tX E ((i + j) % N)))) := by
  have h := T.ck h0 hij hj
  have bi := T.bnd i
  have bj := T.bnd j
  have bk := T.bnd ((i + j) % N)
  have hN := T.n30
  have hK : (i + j) % N < N := Nat.mod_lt _ (by omega)
  have hy0 : (E.getD ((i + j) % N) (0, 0)).2 = 0 ↔ (i + j) % N = 0 := by
    constructor
    · intro e
      refine Classical.byContradiction fun hn => ?_
      exact T.yne _ hK hn e
    · intro e
      rw [e, T.e0]
  simp only [tX, tY]
  generalize (E.getD i (0, 0)) = a at *
  generalize (E.getD j (0, 0)) = b at *
  generalize (E.getD ((i + j) % N) (0, 0)) = c at *
  obtain ⟨xi, yi⟩ := a
  obtain ⟨xj, yj⟩ := b
  obtain ⟨xk, yk⟩ := c
  simp only at *
  unfold Mine.ck at h
  by_cases hx : xi = xj
  · have hb : Nat.beq xi xj = true := by rw [hx]; exact Nat.beq_refl xj
    rw [hb, cond_true, Bool.and_eq_true] at h
    refine ⟨fun _ => ⟨fun hy => ?_, hy0.mp (Nat.eq_of_beq_eq_true h.1)⟩, fun hne => absurd (by exact_mod_cast hx) hne⟩
    have : yi = yj := by exact_mod_cast hy
    rw [this, Nat.beq_refl] at h
    simp at h
  · have hb : Nat.beq xi xj = false := by
      cases e : Nat.beq xi xj with
      | false => rfl
      | true => exact absurd (Nat.eq_of_beq_eq_true e) hx
    rw [hb, cond_false, Bool.and_eq_true, Bool.and_eq_true] at h
    refine ⟨fun e => absurd (by exact_mod_cast e) hx, fun _ => ⟨fun e => ?_, ?_, ?_⟩⟩
    · have := hy0.mpr e
      rw [this] at h
      simp at h
    · have h1 := cg_of_mod (Nat.eq_of_beq_eq_true h.2.1)
      have sR := cg_sub (P := P) (a := yj) (b := yi) (by omega)
      have sH := cg_sub (P := P) (a := xj) (b := xi) (by omega)
      change Cg (P : Int) (((yj + P - yi) * (yj + P - yi) : Nat) : Int) (((xk + xi + xj) * ((xj + P - xi) * (xj + P - xi)) : Nat) : Int) at h1
      rw [Int.natCast_mul, Int.natCast_mul, Int.natCast_mul, Int.natCast_add, Int.natCast_add] at h1
      refine Cg.trans (Cg.of_eq (by grind)) ((Cg.mul sR sR).symm.trans (h1.trans ((Cg.mul (Cg.refl _ _) (Cg.mul sH sH)).trans (Cg.of_eq (by grind)))))
    · have h1 := cg_of_mod (Nat.eq_of_beq_eq_true h.2.2)
      have sR := cg_sub (P := P) (a := yj) (b := yi) (by omega)
      have sH := cg_sub (P := P) (a := xj) (b := xi) (by omega)
      have sK := cg_sub (P := P) (a := xi) (b := xk) (by omega)
      change Cg (P : Int) (((yk + yi) * (xj + P - xi) : Nat) : Int) (((yj + P - yi) * (xi + P - xk) : Nat) : Int) at h1
      rw [Int.natCast_mul, Int.natCast_mul, Int.natCast_add] at h1
      exact (Cg.mul (Cg.refl _ _) sH).symm.trans (h1.trans (Cg.mul sR sK))
theorem Tab.dbl' (T : Tab P A N E) {i : Nat} (h0 : i ≠ 0) (hi : i < N) :
    (i + i) % N ≠ 0 ∧ Cg P ((3 * tX E i ^ 2 + A) ^ 2) ((tX E ((i + i) % N) + 2 * tX E i) * (2 * tY E i) ^ 2) ∧ Cg P ((tY E ((i + i) % N) + tY E i) * (2 * tY E i)) ((3 * tX E i ^ 2 + A) * (tX E i - tX E ((i + i) % N))) := by
  have hl := T.len
  have h := ckDbl_spec T.dbl (i - 1) (by rw [List.length_tail]; omega)
  rw [tail_getD, tail_getD, tail_getD] at h
  have e1 : i - 1 + 1 = i := by omega
  have e3 : i - 1 + (i - 1) + 1 + 1 = i + i := by omega
  rw [e1, e3, twice hl (by omega)] at h
  have bi := T.bnd i
  have bk := T.bnd ((i + i) % N)
  have hz : (i + i) % N = 0 → (E.getD ((i + i) % N) (0, 0)).2 = 0 := by
    intro e
    rw [e, T.e0]
  simp only [tX, tY]
  generalize (E.getD i (0, 0)) = a at *
  generalize (E.getD ((i + i) % N) (0, 0)) = c at *
  obtain ⟨xi, yi⟩ := a
  obtain ⟨xk, yk⟩ := c
  simp only at *
  unfold ckD at h
  rw [Bool.and_eq_true, Bool.and_eq_true] at h
  refine ⟨fun e => ?_, ?_, ?_⟩
  · have := hz e
    rw [this] at h
    simp at h
  · have h1 := cg_of_mod (Nat.eq_of_beq_eq_true h.2.1)
    change Cg (P : Int) (((3 * (xi * xi) + A) * (3 * (xi * xi) + A) : Nat) : Int) (((xk + 2 * xi) * ((2 * yi) * (2 * yi)) : Nat) : Int) at h1
    simp only [Int.natCast_mul, Int.natCast_add] at h1
    exact Cg.trans (Cg.of_eq (by grind)) (h1.trans (Cg.of_eq (by grind)))
  · have h1 := cg_of_mod (Nat.eq_of_beq_eq_true h.2.2)
    have sK := cg_sub (P := P) (a := xi) (b := xk) (by omega)
    change Cg (P : Int) (((yk + yi) * (2 * yi) : Nat) : Int) (((3 * (xi * xi) + A) * (xi + P - xk) : Nat) : Int) at h1
    rw [Int.natCast_mul (3 * (xi * xi) + A)] at h1
    simp only [Int.natCast_mul (yk + yi), Int.natCast_mul 2, Int.natCast_mul 3, Int.natCast_mul xi, Int.natCast_add yk, Int.natCast_add (3 * (xi * xi))] at h1
    exact Cg.trans (Cg.of_eq (by grind)) (h1.trans ((Cg.mul (Cg.refl _ _) sK).trans (Cg.of_eq (by grind))))
theorem Tab.grp (T : Tab P A N E) : Grp (P : Int) (A : Int) N (tX E) (tY E) where
  pr := pr_of T.p2 T.pr
  P3 := by have := T.p2; omega
  P2 := by have := T.p128; omega
  A1 := by omega
  A2 := by have := T.a128; omega
  N1 := T.n30
  N2 := T.n128
  npr := pr_of (by have := T.n30; omega) T.npr
  bx := fun i => by have := T.bnd i; simp only [tX]; omega
  byy := fun i => by have := T.bnd i; simp only [tY]; omega
  x0 := by simp only [tX]; rw [T.e0]; rfl
  y0 := by simp only [tY]; rw [T.e0]; rfl
  ynz := fun i hi h0 => by have := T.yne i hi h0; simp only [tY]; omega
  inj := fun i j hi hj hx hy => by
    have y0 : tY E 0 = 0 := by simp only [tY]; rw [T.e0]; rfl
    have ynz : ∀ i, i < N → i ≠ 0 → tY E i ≠ 0 := fun i hi h0 => by have := T.yne i hi h0; simp only [tY]; omega
    by_cases hi0 : i = 0
    · subst hi0
      refine Classical.byContradiction fun hn => ynz j hj (fun e => hn e.symm) ?_
      rw [← hy, y0]
    by_cases hj0 : j = 0
    · subst hj0
      exact absurd (hy.trans y0) (ynz i hi hi0)
    rcases Nat.lt_trichotomy i j with h | h | h
    · exact absurd hy ((T.lt hi0 h hj).1 hx).1
    · exact h
    · exact absurd hy.symm ((T.lt hj0 h hi).1 hx.symm).1
  neg := fun i hi => by
    have hl := T.len
    have hN := T.n30
    have hp := T.p2
    by_cases hi0 : i = 0
    · subst hi0
      have e : (N - 0) % N = 0 := by simp
      rw [e]
      refine ⟨rfl, ?_⟩
      simp only [tY]
      rw [T.e0]
      simp
    · have h := ckNeg_spec T.neg (i - 1) (by rw [List.length_tail]; omega)
      have e0 : (N - i) % N = N - i := Nat.mod_eq_of_lt (by omega)
      have e1 : i - 1 + 1 = i := by omega
      rw [tail_getD, e1] at h
      have e2 : E.tail.reverse.getD (i - 1) (0, 0) = E.getD (N - i) (0, 0) := by
        rw [List.getD_eq_getElem?_getD, List.getElem?_reverse (by rw [List.length_tail]; omega), ← List.getD_eq_getElem?_getD, tail_getD, List.length_tail]
        congr 1
        omega
      rw [e2] at h
      rw [e0]
      have b := T.bnd i
      have y := T.yne i hi hi0
      simp only [tX, tY]
      rw [h.1, h.2]
      refine ⟨rfl, ?_⟩
      rw [Int.emod_eq_of_lt (by omega) (by omega)]
      omega
  opp := fun i j hi hj hi0 hj0 hx hy => by
    rcases Nat.lt_trichotomy i j with h | h | h
    · exact ((T.lt hi0 h hj).1 hx).2
    · subst h
      exact absurd rfl hy
    · rw [Nat.add_comm]
      exact ((T.lt hj0 h hi).1 hx.symm).2
  dbl := fun i hi hi0 => T.dbl' hi0 hi
  add := fun i j hi hj hi0 hj0 hx => by
    rcases Nat.lt_trichotomy i j with h | h | h
    · exact (T.lt hi0 h hj).2 hx
    · subst h
      exact absurd rfl hx
    · have := (T.lt hj0 h hi).2 (fun e => hx e.symm)
      rw [Nat.add_comm j i] at this
      obtain ⟨a, b, c⟩ := this
      refine ⟨a, (Cg.of_eq ?_).trans (b.trans (Cg.of_eq ?_)), ?_⟩
      · grind
      · grind
      · have c' := Cg.sub (Cg.sub (Cg.refl (P : Int) 0) c) (Cg.refl (P : Int) ((tY E j - tY E i) * (tX E j - tX E i)))
        refine (Cg.of_eq ?_).trans (c'.trans (Cg.of_eq ?_))
        · grind
        · grind
end
end Mine
end

/- part TabG -/
section
namespace Mine
/-- a curve of the law's, told by its numbers -/
def Cv (P N A Gx Gy : Int) : Prop := ∃ (n : Nat) (X Y : Nat → Int), N = n ∧ Grp P A n X Y ∧ Gx = X 1 ∧ Gy = Y 1
def E0 : List (Nat × Nat) := [(0, 0), (1, 2), (16, 10), (22, 24), (24, 30), (26, 8), (5, 2), (25, 29), (30, 8), (9, 22), (4, 6), (14, 22), (18, 10), (6, 23), (28, 21), (11, 30), (7, 6), (20, 6), (17, 24), (27, 1), (8, 9), (23, 7), (23, 24), (8, 22), (27, 30), (17, 7), (20, 25), (7, 25), (11, 1), (28, 10), (6, 8), (18, 21), (14, 9), (4, 25), (9, 9), (30, 23), (25, 2), (5, 29), (26, 23), (24, 1), (22, 7), (16, 21), (1, 29)]
def E1 : List (Nat × Nat) := [(0, 0), (2, 31), (7, 36), (35, 22), (21, 25), (12, 31), (29, 12), (25, 25), (32, 3), (20, 3), (42, 36), (40, 18), (37, 7), (13, 22), (34, 3), (38, 22), (38, 21), (34, 40), (13, 21), (37, 36), (40, 25), (42, 7), (20, 40), (32, 40), (25, 18), (29, 31), (12, 12), (21, 18), (35, 21), (7, 7), (2, 12)]
def E2 : List (Nat × Nat) := [(0, 0), (2, 38), (13, 42), (26, 8), (30, 40), (20, 16), (14, 34), (8, 7), (37, 21), (28, 25), (24, 16), (18, 21), (29, 31), (9, 10), (5, 17), (42, 27), (22, 32), (35, 2), (31, 21), (31, 22), (35, 41), (22, 11), (42, 16), (5, 26), (9, 33), (29, 12), (18, 22), (24, 27), (28, 18), (37, 22), (8, 36), (14, 9), (20, 27), (30, 3), (26, 35), (13, 1), (2, 5)]
def E3 : List (Nat × Nat) := [(0, 0), (2, 22), (52, 7), (62, 63), (25, 17), (46, 40), (11, 20), (16, 63), (21, 42), (13, 44), (56, 4), (24, 30), (14, 65), (55, 17), (5, 20), (53, 12), (26, 30), (54, 50), (66, 26), (38, 26), (51, 47), (12, 44), (23, 39), (58, 22), (7, 45), (47, 39), (6, 42), (17, 37), (49, 65), (63, 12), (42, 23), (48, 7), (64, 39), (34, 60), (40, 25), (18, 12), (61, 40), (30, 41), (27, 40), (4, 65), (4, 2), (27, 27), (30, 26), (61, 27), (18, 55), (40, 42), (34, 7), (64, 28), (48, 60), (42, 44), (63, 55), (49, 2), (17, 30), (6, 25), (47, 28), (7, 22), (58, 45), (23, 28), (12, 23), (51, 20), (38, 41), (66, 41), (54, 17), (26, 37), (53, 55), (5, 47), (55, 50), (14, 2), (24, 37), (56, 63), (13, 23), (21, 25), (16, 4), (11, 47), (46, 27), (25, 50), (62, 4), (52, 60), (2, 45)]
def E4 : List (Nat × Nat) := [(0, 0), (2, 55), (13, 51), (25, 63), (50, 39), (30, 66), (39, 19), (6, 34), (7, 55), (58, 12), (40, 34), (17, 15), (3, 37), (51, 23), (61, 56), (26, 15), (12, 51), (21, 33), (42, 16), (59, 19), (27, 56), (35, 8), (22, 8), (44, 37), (54, 63), (36, 48), (24, 52), (55, 4), (66, 66), (5, 23), (10, 8), (11, 23), (41, 39), (38, 1), (46, 11), (20, 30), (43, 28), (43, 39), (20, 37), (46, 56), (38, 66), (41, 28), (11, 44), (10, 59), (5, 44), (66, 1), (55, 63), (24, 15), (36, 19), (54, 4), (44, 30), (22, 59), (35, 59), (27, 11), (59, 48), (42, 51), (21, 34), (12, 16), (26, 52), (61, 11), (51, 44), (3, 30), (17, 52), (40, 33), (58, 55), (7, 12), (6, 33), (39, 48), (30, 1), (50, 28), (25, 4), (13, 16), (2, 12)]
def E5 : List (Nat × Nat) := [(0, 0), (1, 18), (60, 10), (15, 8), (49, 5), (42, 54), (59, 12), (61, 10), (43, 35), (37, 69), (26, 19), (18, 54), (12, 47), (39, 47), (9, 5), (63, 63), (19, 25), (75, 41), (21, 74), (68, 63), (29, 8), (6, 12), (45, 19), (35, 71), (66, 41), (28, 32), (17, 41), (14, 67), (74, 35), (23, 18), (55, 61), (41, 35), (8, 60), (27, 63), (27, 16), (8, 19), (41, 44), (55, 18), (23, 61), (74, 44), (14, 12), (17, 38), (28, 47), (66, 38), (35, 8), (45, 60), (6, 67), (29, 71), (68, 16), (21, 5), (75, 38), (19, 54), (63, 16), (9, 74), (39, 32), (12, 32), (18, 25), (26, 60), (37, 10), (43, 44), (61, 69), (59, 67), (42, 25), (49, 74), (15, 71), (60, 69), (1, 61)]
def E6 : List (Nat × Nat) := [(0, 0), (1, 2), (43, 6), (66, 52), (57, 40), (53, 53), (51, 31), (28, 25), (75, 52), (24, 70), (72, 56), (17, 27), (44, 74), (38, 72), (34, 53), (49, 10), (40, 31), (5, 72), (4, 64), (71, 26), (58, 71), (30, 71), (67, 48), (31, 13), (56, 70), (41, 6), (22, 67), (74, 73), (76, 56), (46, 13), (36, 7), (13, 64), (50, 74), (78, 9), (32, 67), (55, 2), (23, 77), (25, 67), (10, 23), (12, 25), (9, 10), (70, 8), (21, 10), (54, 40), (64, 5), (2, 13), (39, 54), (47, 39), (62, 64), (62, 15), (47, 40), (39, 25), (2, 66), (64, 74), (54, 39), (21, 69), (70, 71), (9, 69), (12, 54), (10, 56), (25, 12), (23, 2), (55, 77), (32, 12), (78, 70), (50, 5), (13, 15), (36, 72), (46, 66), (76, 23), (74, 6), (22, 12), (41, 73), (56, 9), (31, 66), (67, 31), (30, 8), (58, 8), (71, 53), (4, 15), (5, 7), (40, 48), (49, 69), (34, 26), (38, 7), (44, 5), (17, 52), (72, 23), (24, 9), (75, 27), (28, 54), (51, 48), (53, 26), (57, 39), (66, 27), (43, 73), (1, 77)]
def E7 : List (Nat × Nat) := [(0, 0), (1, 32), (34, 24), (72, 16), (80, 18), (71, 64), (86, 38), (110, 38), (2, 53), (57, 62), (85, 50), (8, 30), (17, 27), (58, 89), (69, 27), (99, 91), (100, 3), (70, 19), (28, 78), (107, 32), (19, 95), (24, 78), (106, 12), (88, 39), (47, 84), (87, 53), (41, 100), (79, 64), (4, 84), (112, 76), (93, 94), (52, 91), (104, 63), (38, 74), (25, 30), (116, 94), (12, 46), (39, 12), (82, 24), (75, 49), (11, 103), (60, 19), (101, 46), (46, 76), (3, 62), (94, 97), (103, 36), (123, 18), (21, 39), (14, 46), (32, 3), (51, 109), (76, 43), (67, 65), (91, 50), (96, 76), (18, 39), (84, 16), (124, 108), (109, 115), (98, 111), (122, 3), (45, 94), (78, 50), (78, 77), (45, 33), (122, 124), (98, 16), (109, 12), (124, 19), (84, 111), (18, 88), (96, 51), (91, 77), (67, 62), (76, 84), (51, 18), (32, 124), (14, 81), (21, 88), (123, 109), (103, 91), (94, 30), (3, 65), (46, 51), (101, 81), (60, 108), (11, 24), (75, 78), (82, 103), (39, 115), (12, 81), (116, 33), (25, 97), (38, 53), (104, 64), (52, 36), (93, 33), (112, 51), (4, 43), (79, 63), (41, 27), (87, 74), (47, 43), (88, 88), (106, 115), (24, 49), (19, 32), (107, 95), (28, 49), (70, 108), (100, 124), (99, 36), (69, 100), (58, 38), (17, 100), (8, 97), (85, 77), (57, 65), (2, 74), (110, 89), (86, 89), (71, 63), (80, 109), (72, 111), (34, 103), (1, 95)]
def E8 : List (Nat × Nat) := [(0, 0), (1, 2), (70, 105), (53, 121), (61, 17), (73, 107), (43, 32), (55, 32), (18, 45), (81, 87), (126, 16), (49, 80), (34, 119), (29, 95), (11, 119), (116, 113), (40, 73), (99, 28), (87, 97), (107, 2), (19, 125), (2, 97), (5, 126), (66, 15), (121, 101), (21, 45), (82, 8), (117, 107), (13, 101), (62, 98), (106, 93), (93, 113), (64, 20), (88, 82), (42, 80), (109, 93), (3, 41), (27, 126), (124, 105), (38, 30), (60, 22), (103, 28), (57, 41), (30, 98), (31, 87), (36, 47), (45, 14), (16, 17), (111, 15), (67, 41), (89, 73), (50, 110), (120, 26), (15, 40), (108, 16), (35, 98), (77, 15), (83, 121), (52, 99), (95, 1), (118, 6), (125, 73), (39, 93), (20, 16), (20, 111), (39, 34), (125, 54), (118, 121), (95, 126), (52, 28), (83, 6), (77, 112), (35, 29), (108, 111), (15, 87), (120, 101), (50, 17), (89, 54), (67, 86), (111, 112), (16, 110), (45, 113), (36, 80), (31, 40), (30, 29), (57, 86), (103, 99), (60, 105), (38, 97), (124, 22), (27, 1), (3, 86), (109, 34), (42, 47), (88, 45), (64, 107), (93, 14), (106, 34), (62, 29), (13, 26), (117, 20), (82, 119), (21, 82), (121, 26), (66, 112), (5, 1), (2, 30), (19, 2), (107, 125), (87, 30), (99, 99), (40, 54), (116, 14), (11, 8), (29, 32), (34, 8), (49, 47), (126, 111), (81, 40), (18, 82), (55, 95), (43, 95), (73, 20), (61, 110), (53, 6), (70, 22), (1, 125)]
theorem tab0 : Tab 31 0 43 E0 := ⟨by decide +kernel, by decide +kernel, by decide +kernel, by decide +kernel, by decide +kernel, by decide +kernel, by decide +kernel, by decide +kernel, by decide +kernel, by decide +kernel, by decide +kernel, by decide +kernel, by decide +kernel, by decide +kernel⟩
theorem cv0 : Cv 31 43 0 1 2 := ⟨43, _, _, rfl, tab0.grp, by decide +kernel, by decide +kernel⟩
theorem tab1 : Tab 43 0 31 E1 := ⟨by decide +kernel, by decide +kernel, by decide +kernel, by decide +kernel, by decide +kernel, by decide +kernel, by decide +kernel, by decide +kernel, by decide +kernel, by decide +kernel, by decide +kernel, by decide +kernel, by decide +kernel, by decide +kernel⟩
theorem cv1 : Cv 43 31 0 2 31 := ⟨31, _, _, rfl, tab1.grp, by decide +kernel, by decide +kernel⟩
theorem tab2 : Tab 43 6 37 E2 := ⟨by decide +kernel, by decide +kernel, by decide +kernel, by decide +kernel, by decide +kernel, by decide +kernel, by decide +kernel, by decide +kernel, by decide +kernel, by decide +kernel, by decide +kernel, by decide +kernel, by decide +kernel, by decide +kernel⟩
theorem cv2 : Cv 43 37 6 2 38 := ⟨37, _, _, rfl, tab2.grp, by decide +kernel, by decide +kernel⟩
theorem tab3 : Tab 67 0 79 E3 := ⟨by decide +kernel, by decide +kernel, by decide +kernel, by decide +kernel, by decide +kernel, by decide +kernel, by decide +kernel, by decide +kernel, by decide +kernel, by decide +kernel, by decide +kernel, by decide +kernel, by decide +kernel, by decide +kernel⟩
theorem cv3 : Cv 67 79 0 2 22 := ⟨79, _, _, rfl, tab3.grp, by decide +kernel, by decide +kernel⟩
theorem tab4 : Tab 67 0 73 E4 := ⟨by decide +kernel, by decide +kernel, by decide +kernel, by decide +kernel, by decide +kernel, by decide +kernel, by decide +kernel, by decide +kernel, by decide +kernel, by decide +kernel, by decide +kernel, by decide +kernel, by decide +kernel, by decide +kernel⟩
theorem cv4 : Cv 67 73 0 2 55 := ⟨73, _, _, rfl, tab4.grp, by decide +kernel, by decide +kernel⟩
theorem tab5 : Tab 79 0 67 E5 := ⟨by decide +kernel, by decide +kernel, by decide +kernel, by decide +kernel, by decide +kernel, by decide +kernel, by decide +kernel, by decide +kernel, by decide +kernel, by decide +kernel, by decide +kernel, by decide +kernel, by decide +kernel, by decide +kernel⟩
theorem cv5 : Cv 79 67 0 1 18 := ⟨67, _, _, rfl, tab5.grp, by decide +kernel, by decide +kernel⟩
theorem tab6 : Tab 79 0 97 E6 := ⟨by decide +kernel, by decide +kernel, by decide +kernel, by decide +kernel, by decide +kernel, by decide +kernel, by decide +kernel, by decide +kernel, by decide +kernel, by decide +kernel, by decide +kernel, by decide +kernel, by decide +kernel, by decide +kernel⟩
theorem cv6 : Cv 79 97 0 1 2 := ⟨97, _, _, rfl, tab6.grp, by decide +kernel, by decide +kernel⟩
theorem tab7 : Tab 127 0 127 E7 := ⟨by decide +kernel, by decide +kernel, by decide +kernel, by decide +kernel, by decide +kernel, by decide +kernel, by decide +kernel, by decide +kernel, by decide +kernel, by decide +kernel, by decide +kernel, by decide +kernel, by decide +kernel, by decide +kernel⟩
theorem cv7 : Cv 127 127 0 1 32 := ⟨127, _, _, rfl, tab7.grp, by decide +kernel, by decide +kernel⟩
theorem tab8 : Tab 127 0 127 E8 := ⟨by decide +kernel, by decide +kernel, by decide +kernel, by decide +kernel, by decide +kernel, by decide +kernel, by decide +kernel, by decide +kernel, by decide +kernel, by decide +kernel, by decide +kernel, by decide +kernel, by decide +kernel, by decide +kernel⟩
theorem cv8 : Cv 127 127 0 1 2 := ⟨127, _, _, rfl, tab8.grp, by decide +kernel, by decide +kernel⟩
end Mine
end

/- part My -/
section
open PySem PySem.W PyProof.Rows PySem.Calls PySem.Spec
namespace Mine
section
variable {prog : Program} {w : World} {A : Around} {E : Value → Shared → Prop} {s : Shared} {h₀ : Heap} {L C : Addr} {m : PySem.Str → Option Value} {news : List (Addr × Obj)} {value slice : PySem.Expr} {Q : Value → Shared → Prop}
theorem my_slice4 {a1 a2 a3 a4 a5 a6 : Value} {c : Nat} {u : Tok} (F : Fr h₀ L s.heap m) (N : News h₀ L s.heap news) (hm : (C, ({ cls := .type "tuple", data := .seq #[a1, a2, a3, a4, a5, a6] c } : Obj)) ∈ news)
    (h : ∀ D h', Fr h₀ L h' m → News h₀ L h' ((D, ({ cls := .type "tuple", data := .seq #[a5, a6] 0 } : Obj)) :: news) → Q (.ref D) { s with heap := h' })
    (hs : subscripted slice false (.ref C) (.ref s.heap.objs.size) = operate [.ref s.heap.objs.size, .ref C] (getItem (.ref C) (.ref s.heap.objs.size)))
    (hg : ∀ r, letTemporaryGo value (.ref C) r = pure ()) :
    wpAny (model prog w) A (subscriptTail value slice (.ref C) (.ref s.heap.objs.size)) Q E { s with heap := s.heap.push { cls := .type "slice", data := .fields #[.int 4 u, .none, .none] } } :=
  slice_tuple_from (a := 4) F N (N.isTup hm) (by decide) (show 4 ≤ 6 by decide) (fun h' F' N' => h _ h' F' N') hs hg
end
end Mine
end

/- part Dct -/
section
open PySem PySem.W PyProof.Rows PySem.Calls
namespace Mine
section
variable {prog : Program} {w : World} {K : Type} [DecidableEq K] {knd : HeapKind prog w K} {A : Around} {E : Value → Shared → Prop} {s : Shared}

theorem dictSetDefault_heap {d a : Addr} {xs : List (K × Addr × Value)} {k : K} {v : Value} {Q : Value → Shared → Prop} (hu : knd.room A) (hkey : knd.is s.heap k a) (hm : s.heap.DictOfH knd d xs) (hnew : k ∉ xs.map (·.1))
    (hQ : ∀ h', h'.DictOfH knd d (xs ++ [(k, a, v)]) → Heap.SameBut d s.heap h' → Q v { s with heap := h', toks := s.toks + knd.draws k })
    (hsz : xs.length ≤ sizeLine) :
    wpAny (model prog w) A (dictSetDefault d (.ref a) v) Q E s := by
  obtain ⟨o, es, ep, ho, hc, hd, he, his, hn⟩ := hm
  unfold dictSetDefault
  try with_reducible refine wpAny_holding ?_
  refine wpAny_bind (knd.pyHash hu hkey ?_)
  refine wpAny_bind (wpAny_dictFind_heap (s := { s with toks := s.toks + knd.draws k }) hu hkey ho hd he his hn ?_ ?_)
  · intro hno
    refine wpAny_bind (wpAny_rule (wpAny_bind (wpAny_updateDictKeys (hz := by have e := size_of_entries he; omega) (s := { s with toks := s.toks + knd.draws k }) ho hd (wpAny_pure (hQ _ ⟨_, _, ep + 1, Heap.get?_update_self _ ho (Obj.isFreed_of_dict (Obj.data_mapDictKeys hd _)),
      hc.mapDictKeys _, Obj.data_mapDictKeys hd _, ?_, ?_, ?_⟩ (Heap.SameBut.update ..))))))
    · simp [he, entryOfKey]
    · intro x hx
      rcases List.mem_append.mp hx with hx | hx
      · exact knd.keeps (his x hx) ho hd (Heap.SameBut.update ..)
      · simp only [List.mem_singleton] at hx
        subst hx
        exact knd.keeps hkey ho hd (Heap.SameBut.update ..)
    · rw [List.map_append, List.nodup_append]
      refine ⟨hn, by simp, ?_⟩
      intro x hx y hy
      simp only [List.map_cons, List.map_nil, List.mem_singleton] at hy
      subst hy
      exact fun e => hnew (e ▸ hx)
  · intro j p hj
    exact absurd (List.mem_map.mpr ⟨(k, p), List.mem_of_getElem? hj, rfl⟩) hnew

theorem meetsH_setdefault (knd : HeapKind prog w K) (d a : Addr) (hd : (d == sysModules) = false) (v : Value) :
    MeetsIn prog w (Builtin.«dict.setdefault» ⟨[.ref d, .ref a, v], []⟩) (fun A R s => knd.room A.in1 ∧ ∃ (k : K) (xs : List (K × Addr × Value)), knd.is s.heap k a ∧ s.heap.DictOfH knd d xs ∧ k ∉ xs.map (·.1) ∧ xs.length ≤ sizeLine ∧
      ∀ h', h'.DictOfH knd d (xs ++ [(k, a, v)]) → Heap.SameBut d s.heap h' → R (.ok (.ret v)) { s with heap := h', toks := s.toks + knd.draws k }) :=
  .of_wp fun A R s ⟨hu, k, xs, hkey, hm, hnew, hz, h⟩ => by
    unfold Builtin.«dict.setdefault»
    refine wpAny_bind ?_
    unfold Builtin.Dict.keyAndDefault
    refine wpAny_bind (wpAny_notOrdered_dict hm.typeIs ?_)
    show wpAny _ _ (pure (d, Value.ref a, some v)) _ _ s
    refine wpAny_pure ?_
    show wpAny _ _ (if (d == sysModules) = true then _ else (dictSetDefault d (.ref a) v >>= _)) _ _ s
    rw [if_neg (by rw [hd]; exact Bool.false_ne_true)]
    exact wpAny_bind (dictSetDefault_heap hu hkey hm hnew (fun h' hm' hs' => wpAny_pure ⟨v, rfl, h h' hm' hs'⟩) hz)
end

/-- the table of small steps: X j, Y j under j, for every j below k -/
def Sm (prog : Program) (w : World) (X Y : Nat → Int) (news : List (Addr × Obj)) (d : Addr) (k : Nat) : Prop :=
  (d == sysModules) = false ∧ ∃ (o : Obj) (es : Array DictEntry) (ep : Nat) (xs : List (List Int × Addr × Value)), (d, o) ∈ news ∧ o.ExactDict ∧ o.data = .dict es ep ∧ es.toList = xs.map (entryOfKey (tupleKind (intKind prog w))) ∧ xs.length = k ∧
    (∀ j, j < k → ∃ a t, xs[j]? = some ([X j, Y j], a, .int (j : Int) t)) ∧ (∀ x ∈ xs, ∃ ok, (x.2.1, ok) ∈ news ∧ TupKeyObj (intKind prog w) x.1 ok)

section
variable {prog : Program} {w : World} {X Y : Nat → Int} {news : List (Addr × Obj)} {d a : Addr} {k NN : Nat} {P Ac : Int} {h₀ : Heap} {L : Addr} {m : PySem.Str → Option Value} {A : Around} {E : Value → Shared → Prop} {s : Shared}

theorem Sm.sub {news' : List (Addr × Obj)} (S : Sm prog w X Y news d k) (hs : ∀ p ∈ news, p ∈ news') : Sm prog w X Y news' d k :=
  let ⟨lo, o, es, ep, xs, hm, hc, hd, he, hl, hj, hk⟩ := S
  ⟨lo, o, es, ep, xs, hs _ hm, hc, hd, he, hl, hj, fun x hx => let ⟨ok, hmk, t⟩ := hk x hx; ⟨ok, hs _ hmk, t⟩⟩
theorem Sm.sub2 {news' : List (Addr × Obj)} (S : Sm prog w X Y news d k) (hs : ∀ p ∈ news, p.2.cls ≠ .type "range_iterator" → p ∈ news') : Sm prog w X Y news' d k :=
  let ⟨lo, o, es, ep, xs, hm, hc, hd, he, hl, hj, hk⟩ := S
  ⟨lo, o, es, ep, xs, hs _ hm (by rw [show (_ : Addr × Obj).2.cls = Value.type "dict" from hc.1]; decide), hc, hd, he, hl, hj, fun x hx => let ⟨ok, hmk, t⟩ := hk x hx; ⟨ok, hs _ hmk (by rw [show (_ : Addr × Obj).2.cls = Value.type "tuple" from t.1]; decide), t⟩⟩
theorem Sm.new2 {K' : Type} [DecidableEq K'] {knd' : KeyKind prog w K'} {o : Obj} (hm : (d, o) ∈ news) (lo : (d == sysModules) = false) (hd : o.IsDictOf knd' []) : Sm prog w X Y news d 0 := by
  obtain ⟨es, ep, hc, hdat, _, hp, _⟩ := hd
  have he : es.toList = [] := List.length_eq_zero_iff.mp hp.length
  exact ⟨lo, o, es, ep, [], hm, hc, hdat, he, rfl, fun j hj => absurd hj (Nat.not_lt_zero _), fun x hx => by simp at hx⟩
theorem Sm.new {c : Nat} (hm : (d, ({ cls := .type "dict", data := .dict #[] c } : Obj)) ∈ news) (lo : (d == sysModules) = false) : Sm prog w X Y news d 0 :=
  ⟨lo, _, #[], c, [], hm, ⟨rfl, rfl, rfl⟩, rfl, rfl, rfl, fun j hj => absurd hj (Nat.not_lt_zero _), fun x hx => by simp at hx⟩
theorem keyObj {x y : Int} {t u : Tok} {c : Nat} : TupKeyObj (intKind prog w) [x, y] ({ cls := .type "tuple", data := .seq #[.int x t, .int y u] c } : Obj) :=
  ⟨rfl, _, _, rfl, .cons (intKind_is _ _ _ _) (.cons (intKind_is _ _ _ _) .nil)⟩
/-- what the table holds -/
theorem Sm.of (G : Grp P Ac NN X Y) (S : Sm prog w X Y news d k) (hk : k ≤ NN) {h : Heap} (N : News h₀ L h news) : ∃ xs : List (List Int × Addr × Value), h.DictOfH (tupleKind (intKind prog w)) d xs ∧ xs.length = k ∧
    (∀ i, i < NN → (k ≤ i → atKey xs [X i, Y i] = none ∧ [X i, Y i] ∉ xs.map (·.1)) ∧ (i < k → ∃ b t, atKey xs [X i, Y i] = some (b, .int (i : Int) t))) := by
  obtain ⟨lo, o, es, ep, xs, hm, hc, hd, he, hl, hj, hks⟩ := S
  have hkey : ∀ j x, xs[j]? = some x → j < k ∧ x.1 = [X j, Y j] := by
    intro j x hx
    have hlt : j < k := by rw [← hl]; exact (List.getElem?_eq_some_iff.mp hx).1
    obtain ⟨b, t, e⟩ := hj j hlt
    rw [e] at hx
    cases hx
    exact ⟨hlt, rfl⟩
  have hn : (xs.map (·.1)).Nodup := by
    refine List.pairwise_iff_getElem.mpr ?_
    intro i j hi hj' hij e
    simp only [List.length_map] at hi hj'
    simp only [List.getElem_map] at e
    have h1 := hkey i xs[i] (List.getElem?_eq_getElem hi)
    have h2 := hkey j xs[j] (List.getElem?_eq_getElem hj')
    rw [h1.2, h2.2] at e
    simp only [List.cons.injEq, and_true] at e
    have := G.inj i j (by omega) (by omega) e.1 e.2
    omega
  refine ⟨xs, ⟨o, es, ep, N.get hm, hc, hd, he, fun x hx => let ⟨_, hmk, t⟩ := hks x hx; t.key (N.get hmk), hn⟩, hl, fun i hi => ⟨fun hki => ?_, fun hik => ?_⟩⟩
  · have hno : ∀ (j : Nat) (p : Addr × Value), xs[j]? ≠ some ([X i, Y i], p) := by
      intro j p e
      have h1 := hkey j _ e
      simp only [List.cons.injEq, and_true] at h1
      have := G.inj i j hi (by omega) h1.2.1 h1.2.2
      omega
    exact ⟨atKey_none_of_get hno, not_mem_keys_of_get hno⟩
  · obtain ⟨b, t, e⟩ := hj i hik
    exact ⟨b, t, atKey_of_get hn e⟩
theorem Sm.room {A : Around} (hu : A.units + 1 < cLine) : (tupleKind (intKind prog w)).room A.in1 := tupleKind_room_in1 hu

theorem sm_in {i : Nat} {t u : Tok} {c : Nat} {Q : Value → Shared → Prop} (G : Grp P Ac NN X Y) (hu : A.units + 1 < cLine) (N : News h₀ L s.heap news) (S : Sm prog w X Y news d k) (hk : k ≤ NN) (hi : i < NN)
    (hm : (a, ({ cls := .type "tuple", data := .seq #[.int (X i) t, .int (Y i) u] c } : Obj)) ∈ news) (h : ∀ tk, Q (.bool (decide (i < k))) { s with toks := tk }) :
    wpAny (model prog w) A (compareOp .In (.ref a) (.ref d)) Q E s := by
  obtain ⟨xs, hD, hl, hx⟩ := S.of G hk N
  refine wpAny_in_heap (Sm.room hu) (keyObj.key (N.get hm)) S.1 hD ?_
  rcases Nat.lt_or_ge i k with h' | h'
  · obtain ⟨b, t, e⟩ := (hx i hi).2 h'
    rw [e]
    have := h (s.toks + (tupleKind (intKind prog w)).draws [X i, Y i])
    rw [decide_eq_true h'] at this
    exact this
  · rw [((hx i hi).1 h').1]
    have := h (s.toks + (tupleKind (intKind prog w)).draws [X i, Y i])
    rw [decide_eq_false (by omega)] at this
    exact this
theorem sm_item {i : Nat} {t u : Tok} {c : Nat} {value slice : PySem.Expr} {Q : Value → Shared → Prop} (G : Grp P Ac NN X Y) (hu : A.units + 1 < cLine) (N : News h₀ L s.heap news) (S : Sm prog w X Y news d k) (hk : k ≤ NN) (hi : i < k)
    (hm : (a, ({ cls := .type "tuple", data := .seq #[.int (X i) t, .int (Y i) u] c } : Obj)) ∈ news) (h : ∀ t tk, Q (.int (i : Int) t) { s with toks := tk })
    (hs : subscripted slice false (.ref d) (.ref a) = operate [.ref d, .ref a] (getItem (.ref d) (.ref a))) (hg : ∀ r, letTemporaryGo value (.ref d) r = pure ()) :
    wpAny (model prog w) A (subscriptTail value slice (.ref d) (.ref a)) Q E s := by
  obtain ⟨xs, hD, hl, hx⟩ := S.of G hk N
  obtain ⟨b, t, e⟩ := (hx i (by omega)).2 hi
  exact subscriptTail_builtin hD.typeIs slot_dict_getitem.lookup (wpAny_getItem_heap (Sm.room hu) (keyObj.key (N.get hm)) hD e (h _ _)) hs hg
theorem sm_setdefault {t u tn : Tok} {c : Nat} {Q : Value → Shared → Prop} (G : Grp P Ac NN X Y) (hu : A.units + 1 < cLine) (F : Fr h₀ L s.heap m) (N : News h₀ L s.heap news) (S : Sm prog w X Y news d k) (hk : k < NN)
    (hm : (a, ({ cls := .type "tuple", data := .seq #[.int (X k) t, .int (Y k) u] c } : Obj)) ∈ news)
    (h : ∀ h' tk news', Fr h₀ L h' m → News h₀ L h' news' → Sm prog w X Y news' d (k + 1) → (∀ p ∈ news, (p.1 ≠ d ∨ p.2.cls ≠ .type "dict") → p ∈ news') → Q (.int (k : Int) tn) { s with heap := h', toks := tk }) :
    wpAny (model prog w) A (call (.builtin "dict.setdefault") [.ref d, .ref a, .int (k : Int) tn]) Q E s := by
  obtain ⟨xs, hD, hl, hx⟩ := S.of G (Nat.le_of_lt hk) N
  have hN := G.N2
  have hnew := ((hx k hk).1 (Nat.le_refl _)).2
  refine call_meetsIn PySem.F.slot_dict_setdefault hD.typeIs PySem.F.entry_dict_setdefault (PySem.F.args_dict_setdefault_3 _ _ _) (meetsH_setdefault (tupleKind (intKind prog w)) d a S.1 _)
    ⟨Sm.room hu, _, xs, keyObj.key (N.get hm), hD, hnew, by rw [hl, sizeLine_eq]; omega, fun h' hD' hs => ?_⟩
  obtain ⟨lo, o, es, ep, xs', hmd, hc, hd, he, hl', hj, hks⟩ := S
  obtain ⟨o', es', ep', ho', hc', hd', he', _, hn'⟩ := hD'
  -- the two lists of entries are one
  obtain ⟨o₂, es₂, ep₂, ho₂, _, hd₂, he₂, _, _⟩ := hD
  have eo : o₂ = o := Option.some.inj (ho₂.symm.trans (N.get hmd))
  subst eo
  rw [hd] at hd₂
  cases hd₂
  have hne : ∀ p ∈ news, p.2.cls ≠ .type "dict" → p.1 ≠ d := by
    intro p hp hcl e
    have h1 := N.get (a := p.1) (o := p.2) hp
    rw [e, N.get hmd] at h1
    cases h1
    exact hcl hc.1
  have keep : ∀ p ∈ news, p.1 ≠ d → p ∈ news.map fun p => if p.1 = d then (d, o') else p := fun p hp hpd => List.mem_map.mpr ⟨p, hp, by simp [hpd]⟩
  have hcl : ∀ {b : Addr} {ob : Obj} {ks : List Int}, (b, ob) ∈ news → TupKeyObj (intKind prog w) ks ob → b ≠ d := fun hb t => hne _ hb (by rw [show (_ : Addr × Obj).2.cls = Value.type "tuple" from t.1]; decide)
  refine h h' _ (news.map fun p => if p.1 = d then (d, o') else p) (F.change hs (N _ hmd).2.1 (N.fresh hmd)) (N.replace hs ho') ?_ fun p hp hcp => keep p hp (hcp.elim id (hne p hp))
  refine ⟨lo, o', es', ep', xs' ++ [([X k, Y k], a, .int (k : Int) tn)], List.mem_map.mpr ⟨(d, o₂), hmd, by simp⟩, hc', hd', ?_, by simp [hl'], ?_, ?_⟩
  · rw [he', List.map_append, List.map_append, ← he₂, he]
  · intro j hjk
    rcases Nat.lt_or_ge j k with h' | h'
    · obtain ⟨b, t, e⟩ := hj j h'
      exact ⟨b, t, by rw [List.getElem?_append_left (by omega)]; exact e⟩
    · have : j = k := by omega
      subst this
      exact ⟨a, tn, by rw [List.getElem?_append_right (by omega), hl']; simp⟩
  · intro x hx
    rcases List.mem_append.mp hx with hx | hx
    · obtain ⟨ok, hmk, t⟩ := hks x hx
      exact ⟨ok, keep _ hmk (hcl hmk t), t⟩
    · simp only [List.mem_singleton] at hx
      subst hx
      exact ⟨_, keep _ hm (hcl hm (keyObj (prog := prog) (w := w))), keyObj⟩
end

section
variable {prog : Program} {w : World} {A : Around} {E : Value → Shared → Prop} {s : Shared} {env : Env} {h₀ : Heap} {x : PySem.Str} {body : List Stmt} {Q : Flow → Shared → Prop}
/-- what a turn leaves -/
def RgEnd (h₀ : Heap) (L : Addr) (J : (PySem.Str → Option Value) → List (Addr × Obj) → Prop) (I : Addr) (oI : Obj) (s₁ s₂ : Shared) : Prop :=
  ∃ h' tk m' news' nx, s₂ = { s₁ with heap := h', toks := tk } ∧ Fr h₀ L h' m' ∧ News h₀ L h' news' ∧ (∀ p ∈ nx, p ∈ news') ∧ (I, oI) ∈ news' ∧ J m' nx
def RgPost (h₀ : Heap) (L : Addr) (J : (PySem.Str → Option Value) → List (Addr × Obj) → Prop) (I : Addr) (oI : Obj) (s₁ : Shared) (Q : Flow → Shared → Prop) (f : Flow) (s₂ : Shared) : Prop :=
  match f with
  | .ret v => Q (.ret v) s₂
  | .brk => Q .next s₂
  | _ => RgEnd h₀ L J I oI s₁ s₂
theorem my_range {r : Addr} {a₀ b₀ : Int} {t₀ u₀ v₀ : Tok} {n : Nat} {m₀ : PySem.Str → Option Value} {news : List (Addr × Obj)} (J : Nat → (PySem.Str → Option Value) → List (Addr × Obj) → Prop)
    (hh : A.handled = none) (hr : IsRange s.heap r a₀ b₀ 1 t₀ u₀ v₀) (hsmall : Builtin.Range.small a₀ b₀ 1 = true) (hn : Builtin.Range.rangeSize a₀ b₀ 1 = (n : Int)) (F : Fr h₀ env.locals s.heap m₀) (N : News h₀ env.locals s.heap news) (hj : J 0 m₀ news)
    (hcls : ∀ i m nx, J i m nx → ∀ p ∈ nx, p.2.cls ≠ .type "range_iterator" ∨ p ∈ news)
    (turn : ∀ i t m₁ news₁ h tk I oI, i < n → J i m₁ news₁ → oI.cls = .type "range_iterator" → Fr h₀ env.locals h (fun y => if y = x then some (.int (a₀ + (i : Int)) t) else m₁ y) → News h₀ env.locals h ((I, oI) :: news₁) →
      wpAny (model prog w) A (execs body env) (RgPost h₀ env.locals (J (i + 1)) I oI { s with heap := h, toks := tk } Q) E { s with heap := h, toks := tk })
    (done : ∀ m₁ news₁ h tk, J n m₁ news₁ → Fr h₀ env.locals h m₁ → News h₀ env.locals h news₁ → Q .next { s with heap := h, toks := tk }) :
    wpAny (model prog w) A (pyIter (.ref r)) (fun it s₂ => LoopAtV prog w A h₀ env x body Q E it s₂) E s := by
  refine wpAny_pyIter_range hr hsmall ?_
  have W : Walks prog w A s.heap.objs.size [s.heap.objs.size] [s.heap.objs.size] n (fun i v => i < n ∧ ∃ t, v = .int (a₀ + i * 1) t)
      (fun i h => IsRangeIter h s.heap.objs.size (a₀ + (i : Nat) * 1) ((n : Int) - (i : Nat)) 1) := (Walks.range hh _ a₀ 1 n).bound
  refine ⟨_, _, _, n, _, _, m₀, news, J, rfl, W, ?_, ?_, ?_, (by show IsRangeIter _ _ _ _ _; rw [hn]; simpa using Heap.get?_push_size _ rfl), F.push _, (fun p hp => ⟨Heap.get?_push_of_some _ (N p hp).1, (N p hp).2⟩), hj, ?_, ?_⟩
  · intro hm
    exact absurd F.ns.lt ((List.mem_singleton.mp hm) ▸ Nat.lt_irrefl _)
  · intro b hb
    rw [List.mem_singleton.mp hb]
    exact next_is_new F
  · intro p hp hI
    exact absurd (Heap.lt_size (N p hp).1) ((List.mem_singleton.mp hI) ▸ Nat.lt_irrefl _)
  · rintro i v m₁ news₁ s₁ own ⟨hh', tk', rfl⟩ hin ⟨_, t, rfl⟩ hJ hoff hown hget hfp hst F₁ N₁
    have hI0 : h₀.get? s.heap.objs.size = none := next_is_new F
    obtain ⟨oI, hoI, hIcl⟩ : ∃ oI : Obj, hh'.get? s.heap.objs.size = some oI ∧ oI.cls = .type "range_iterator" := ⟨_, hst, rfl⟩
    have hIown := hfp s.heap.objs.size (List.mem_singleton.mpr rfl) hI0 _ hoI
    have e1 : a₀ + (i : Int) * 1 = a₀ + (i : Int) := by omega
    rw [e1] at F₁
    have N₂ : News h₀ env.locals hh' ((s.heap.objs.size, oI) :: news₁) := fun p hp => by
      rcases List.mem_cons.mp hp with rfl | hp
      · exact N₁ _ (List.mem_append.mpr (.inl hIown))
      · exact N₁ _ (List.mem_append.mpr (.inr hp))
    refine wpAny_mono (turn i t m₁ news₁ hh' tk' _ oI hin hJ hIcl F₁ N₂) (fun f s₂ p => ?_) fun _ _ e => e
    have fin : RgEnd h₀ env.locals (J (i + 1)) s.heap.objs.size oI { s with heap := hh', toks := tk' } s₂ → LoopStepU h₀ env.locals [s.heap.objs.size] own (J (i + 1)) { s with heap := hh', toks := tk' } .next s₂ := by
      rintro ⟨h', tk, m', news', nx, e, F', N', hnx, hI, hm⟩
      refine ⟨rfl, h', tk, m', nx, e, F', fun p hp => ?_, fun p hp hq => ?_, hm⟩
      · rcases List.mem_append.mp hp with hp | hp
        · have hp1 := List.mem_singleton.mp (hown p hp)
          have hp2 := hget p hp
          rw [hp1] at hp2
          have hp3 := Option.some.inj (hp2.symm.trans hoI)
          have : p = (s.heap.objs.size, oI) := Prod.ext hp1 hp3
          rw [this]
          exact N' _ hI
        · exact N' _ (hnx p hp)
      · have hp1 := List.mem_singleton.mp hq
        have hp2 := (N' _ (hnx p hp)).1
        have hp3 := (N' _ hI).1
        rw [hp1] at hp2
        have hp4 := Option.some.inj (hp2.symm.trans hp3)
        rcases hcls _ _ _ hm p hp with hc | hc
        · exact hc (by rw [hp4]; exact hIcl)
        · exact absurd (Heap.lt_size (N p hc).1) (by rw [hp1]; exact Nat.lt_irrefl _)
    cases f with
    | ret v => exact .ret p
    | brk => exact .brk p
    | next => exact .next (fin p)
    | cont => exact .cont (fin p)
  · rintro h' tk m' news' F' N' _ hJ
    exact done m' news' h' tk hJ F' N'
theorem RgEnd.intro {L : Addr} {J : (PySem.Str → Option Value) → List (Addr × Obj) → Prop} {m' : PySem.Str → Option Value} {news' nx : List (Addr × Obj)} {I : Addr} {oI : Obj} {s₁ : Shared} {h' : Heap} {tk : Nat} (F : Fr h₀ L h' m') (N : News h₀ L h' news')
    (hn : ∀ p ∈ nx, p ∈ news') (hI : (I, oI) ∈ news') (hj : J m' nx) : RgEnd h₀ L J I oI s₁ { s₁ with heap := h', toks := tk } := ⟨h', tk, m', news', nx, rfl, F, N, hn, hI, hj⟩
end

section
variable {prog : Program} {w : World} {X Y : Nat → Int} {news : List (Addr × Obj)} {d a : Addr} {k NN : Nat} {P Ac : Int} {h₀ : Heap} {L : Addr} {m : PySem.Str → Option Value} {A : Around} {E : Value → Shared → Prop} {s : Shared}
theorem sm_method {pl : Sem Bool} {Q : Value × List Value → Shared → Prop} (N : News h₀ L s.heap news) (S : Sm prog w X Y news d k) (h : Q (.builtin "dict.setdefault", [.ref d]) s) :
    wpAny (model prog w) A (getMethod (.ref d) (PySem.Str.ofString "setdefault") pl) Q E s := by
  obtain ⟨lo, o, es, ep, xs, hm, hc, hd, he, hl, hj, hks⟩ := S
  have ho := N.get hm
  exact getMethod_builtin (T := "dict") ⟨o, ho, hc.1⟩ PySem.F.plainAttrs_dict PySem.F.slot_dict_setdefault PySem.F.type_dict_setdefault (fun b e => by injection e with e; subst e; exact ⟨o, ho, hc.2.1⟩) h
theorem smN {h : Heap} {news' : List (Addr × Obj)} (_N : News h₀ L h news') (S : Sm prog w X Y news d k) (hs : ∀ p ∈ news, p ∈ news') : Sm prog w X Y news' d k := S.sub hs
theorem newsBase {h : Heap} {p : Addr × Obj} {l base : List (Addr × Obj)} (_N : News h₀ L h (p :: l)) (hb : ∀ q ∈ base, q ∈ l) : ∀ q ∈ p :: base, q ∈ p :: l := by
  intro q hq
  rcases List.mem_cons.mp hq with rfl | hq
  · exact .head _
  · exact .tail _ (hb q hq)
theorem allLt_mem {d : Addr} : ∀ {l : List (Addr × Obj)}, AllLt d l → ∀ p ∈ l, p.1 < d
  | [], _, p, hp => by simp at hp
  | q :: l, h, p, hp => by
    rcases List.mem_cons.mp hp with rfl | hp
    · exact h.1
    · exact allLt_mem h.2 p hp
theorem bases {C D d : Addr} {oD oC : Obj} (h1 : D < d) (h2 : C < d) (h3 : AllLt d news) : ∀ p ∈ (D, oD) :: (C, oC) :: news, p.1 ≠ d := by
  intro p hp
  rcases List.mem_cons.mp hp with rfl | hp
  · exact Nat.ne_of_lt h1
  · rcases List.mem_cons.mp hp with rfl | hp
    · exact Nat.ne_of_lt h2
    · exact Nat.ne_of_lt (allLt_mem h3 p hp)
theorem map_is {m : PySem.Str → Option Value} {a : PySem.Str} {v : Value} (h : m a = some v) : m = fun y => if y = a then some v else m y := by
  funext y
  by_cases e : y = a
  · subst e; simp [h]
  · simp [e]

def Jf1 (prog : Program) (w : World) (X Y : Nat → Int) (d C D : Addr) (base L0 : List (Addr × Obj)) (i : Nat) (m : PySem.Str → Option Value) (nx : List (Addr × Obj)) : Prop :=
  ∃ (W : Addr) (t u : Tok) (cw : Nat) (ks : List (Addr × Obj)), nx = (W, ({ cls := .type "tuple", data := .seq #[.int (X i) t, .int (Y i) u] cw } : Obj)) :: ks ∧ Sm prog w X Y ks d i ∧ (∀ p ∈ base, p ∈ ks) ∧
    (∀ p ∈ ks, p.2.cls ≠ .type "range_iterator" ∨ p ∈ L0) ∧ m (PySem.Str.ofString "small") = some (.ref d) ∧ m (PySem.Str.ofString "now") = some (.ref W) ∧ m (PySem.Str.ofString "curve") = some (.ref C) ∧ m (PySem.Str.ofString "point") = some (.ref D)
theorem Jf1.cls {C D : Addr} {base L0 nx : List (Addr × Obj)} {i : Nat} (h : Jf1 prog w X Y d C D base L0 i m nx) : ∀ p ∈ nx, p.2.cls ≠ .type "range_iterator" ∨ p ∈ L0 := by
  obtain ⟨W, t, u, cw, ks, rfl, S, hb, hc, _⟩ := h
  intro p hp
  rcases List.mem_cons.mp hp with rfl | hp
  · exact .inl (show Value.type "tuple" ≠ Value.type "range_iterator" by decide)
  · exact hc p hp
theorem Jf1.next {C D W : Addr} {base L0 news' : List (Addr × Obj)} {i K cw : Nat} {t u : Tok} (hW : (W, ({ cls := .type "tuple", data := .seq #[.int (X K) t, .int (Y K) u] cw } : Obj)) ∈ news') (hK : K = i + 1) (S : Sm prog w X Y news' d (i + 1)) (hb : ∀ p ∈ base, p ∈ news') (hL : ∀ p ∈ base, p ∈ L0)
    (h1 : m (PySem.Str.ofString "small") = some (.ref d)) (h2 : m (PySem.Str.ofString "now") = some (.ref W)) (h3 : m (PySem.Str.ofString "curve") = some (.ref C)) (h4 : m (PySem.Str.ofString "point") = some (.ref D)) :
    ∃ nx, (∀ p ∈ nx, p ∈ news') ∧ Jf1 prog w X Y d C D base L0 (i + 1) m nx := by
  subst hK
  refine ⟨(W, ({ cls := .type "tuple", data := .seq #[.int (X (i + 1)) t, .int (Y (i + 1)) u] cw } : Obj)) :: (news'.filter (fun p => decide (p.2.cls ≠ .type "range_iterator")) ++ base), ?_, W, t, u, cw, _, rfl, ?_, ?_, ?_, h1, h2, h3, h4⟩
  · intro p hp
    rcases List.mem_cons.mp hp with rfl | hp
    · exact hW
    · rcases List.mem_append.mp hp with hp | hp
      · exact (List.mem_filter.mp hp).1
      · exact hb p hp
  · exact S.sub2 fun p hp hc => List.mem_append.mpr (.inl (List.mem_filter.mpr ⟨hp, by simpa using hc⟩))
  · exact fun p hp => List.mem_append.mpr (.inr hp)
  · intro p hp
    rcases List.mem_append.mp hp with hp | hp
    · exact .inl (by simpa using (List.mem_filter.mp hp).2)
    · exact .inr (hL p hp)

def Jf2 (prog : Program) (w : World) (X Y : Nat → Int) (d C Bk : Addr) (NN i : Nat) (base L0 : List (Addr × Obj)) (n : Nat) (m : PySem.Str → Option Value) (nx : List (Addr × Obj)) : Prop :=
  ∃ (V : Addr) (e : Nat) (t u : Tok) (cv : Nat) (ks : List (Addr × Obj)), e + 12 * n = i ∧ nx = (V, ({ cls := .type "tuple", data := .seq #[.int (X e) t, .int (Y e) u] cv } : Obj)) :: ks ∧ Sm prog w X Y ks d 12 ∧ (∀ p ∈ base, p ∈ ks) ∧
    (∀ p ∈ ks, p.2.cls ≠ .type "range_iterator" ∨ p ∈ L0) ∧ m (PySem.Str.ofString "small") = some (.ref d) ∧ m (PySem.Str.ofString "point") = some (.ref V) ∧ m (PySem.Str.ofString "curve") = some (.ref C) ∧ m (PySem.Str.ofString "back") = some (.ref Bk)
theorem Jf2.cls {C Bk : Addr} {base L0 nx : List (Addr × Obj)} {i n : Nat} (h : Jf2 prog w X Y d C Bk NN i base L0 n m nx) : ∀ p ∈ nx, p.2.cls ≠ .type "range_iterator" ∨ p ∈ L0 := by
  obtain ⟨V, e, t, u, cv, ks, _, rfl, S, hb, hc, _⟩ := h
  intro p hp
  rcases List.mem_cons.mp hp with rfl | hp
  · exact .inl (show Value.type "tuple" ≠ Value.type "range_iterator" by decide)
  · exact hc p hp
theorem Jf2.next {C Bk V : Addr} {base L0 news' : List (Addr × Obj)} {i n e cv : Nat} {t u : Tok} (hV : (V, ({ cls := .type "tuple", data := .seq #[.int (X e) t, .int (Y e) u] cv } : Obj)) ∈ news') (he : e + 12 * n = i) (S : Sm prog w X Y news' d 12) (hb : ∀ p ∈ base, p ∈ news') (hL : ∀ p ∈ base, p ∈ L0)
    (h1 : m (PySem.Str.ofString "small") = some (.ref d)) (h2 : m (PySem.Str.ofString "point") = some (.ref V)) (h3 : m (PySem.Str.ofString "curve") = some (.ref C)) (h4 : m (PySem.Str.ofString "back") = some (.ref Bk)) :
    ∃ nx, (∀ p ∈ nx, p ∈ news') ∧ Jf2 prog w X Y d C Bk NN i base L0 n m nx := by
  refine ⟨(V, ({ cls := .type "tuple", data := .seq #[.int (X e) t, .int (Y e) u] cv } : Obj)) :: (news'.filter (fun p => decide (p.2.cls ≠ .type "range_iterator")) ++ base), ?_, V, e, t, u, cv, _, he, rfl, ?_, ?_, ?_, h1, h2, h3, h4⟩
  · intro p hp
    rcases List.mem_cons.mp hp with rfl | hp
    · exact hV
    · rcases List.mem_append.mp hp with hp | hp
      · exact (List.mem_filter.mp hp).1
      · exact hb p hp
  · exact S.sub2 fun p hp hc => List.mem_append.mpr (.inl (List.mem_filter.mpr ⟨hp, by simpa using hc⟩))
  · exact fun p hp => List.mem_append.mpr (.inr hp)
  · intro p hp
    rcases List.mem_append.mp hp with hp | hp
    · exact .inl (by simpa using (List.mem_filter.mp hp).2)
    · exact .inr (hL p hp)
theorem Jf1.fin {C D W I : Addr} {oI : Obj} {base L0 news' : List (Addr × Obj)} {i K cw : Nat} {t u : Tok} {h : Heap} {s₁ : Shared} {tk : Nat} (F : Fr h₀ L h m) (N : News h₀ L h news') (h2 : m (PySem.Str.ofString "now") = some (.ref W))
    (hW : (W, ({ cls := .type "tuple", data := .seq #[.int (X K) t, .int (Y K) u] cw } : Obj)) ∈ news') (hK : K = i + 1) (S : Sm prog w X Y news' d (i + 1)) (hb : ∀ p ∈ base, p ∈ news') (hL : ∀ p ∈ base, p ∈ L0)
    (h1 : m (PySem.Str.ofString "small") = some (.ref d)) (h3 : m (PySem.Str.ofString "curve") = some (.ref C)) (h4 : m (PySem.Str.ofString "point") = some (.ref D)) (hI : (I, oI) ∈ news') :
    RgEnd h₀ L (Jf1 prog w X Y d C D base L0 (i + 1)) I oI s₁ { s₁ with heap := h, toks := tk } := by
  obtain ⟨nx, hx1, hx2⟩ := Jf1.next hW hK S hb hL h1 h2 h3 h4
  exact RgEnd.intro F N hx1 hI hx2
theorem Jf2.fin {C Bk V I : Addr} {oI : Obj} {base L0 news' : List (Addr × Obj)} {i n e cv : Nat} {t u : Tok} {h : Heap} {s₁ : Shared} {tk : Nat} (F : Fr h₀ L h m) (N : News h₀ L h news') (h2 : m (PySem.Str.ofString "point") = some (.ref V))
    (hV : (V, ({ cls := .type "tuple", data := .seq #[.int (X e) t, .int (Y e) u] cv } : Obj)) ∈ news') (he : e + 12 * n = i) (S : Sm prog w X Y news' d 12) (hb : ∀ p ∈ base, p ∈ news') (hL : ∀ p ∈ base, p ∈ L0)
    (h1 : m (PySem.Str.ofString "small") = some (.ref d)) (h3 : m (PySem.Str.ofString "curve") = some (.ref C)) (h4 : m (PySem.Str.ofString "back") = some (.ref Bk)) (hI : (I, oI) ∈ news') :
    RgEnd h₀ L (Jf2 prog w X Y d C Bk NN i base L0 n) I oI s₁ { s₁ with heap := h, toks := tk } := by
  obtain ⟨nx, hx1, hx2⟩ := Jf2.next (NN := NN) hV he S hb hL h1 h2 h3 h4
  exact RgEnd.intro F N hx1 hI hx2
end

section
variable {prog : Program} {w : World} {A : Around} {E : Value → Shared → Prop} {s : Shared} {env : Env} {h₀ : Heap} {x : PySem.Str} {body : List Stmt} {Q : Flow → Shared → Prop}
theorem my_range2 {X Y : Nat → Int} {d C D Bk : Addr} {oB : Obj} {i NN c : Nat} {t1 t2 : Tok} {l base : List (Addr × Obj)} {r : Addr} {a₀ b₀ : Int} {t₀ u₀ v₀ : Tok} {n : Nat} {m₀ : PySem.Str → Option Value}
    (hh : A.handled = none) (hr : IsRange s.heap r a₀ b₀ 1 t₀ u₀ v₀) (hsmall : Builtin.Range.small a₀ b₀ 1 = true) (hn : Builtin.Range.rangeSize a₀ b₀ 1 = (n : Int)) (F : Fr h₀ env.locals s.heap m₀) (N : News h₀ env.locals s.heap ((Bk, oB) :: l))
    (hD : (D, ({ cls := .type "tuple", data := .seq #[.int (X i) t1, .int (Y i) t2] c } : Obj)) ∈ l) (S : Sm prog w X Y l d 12) (hb : ∀ q ∈ base, q ∈ l)
    (f1 : m₀ (PySem.Str.ofString "small") = some (.ref d)) (f2 : m₀ (PySem.Str.ofString "point") = some (.ref D)) (f3 : m₀ (PySem.Str.ofString "curve") = some (.ref C)) (f4 : m₀ (PySem.Str.ofString "back") = some (.ref Bk))
    (turn : ∀ (k : Nat) (t : Tok) (m₁ : PySem.Str → Option Value) (h : Heap) (tk : Nat) (I : Addr) (oI : Obj) (V : Addr) (e : Nat) (tx ty : Tok) (cv : Nat) (ks : List (Addr × Obj)), k < n → e + 12 * k = i → oI.cls = .type "range_iterator" → Sm prog w X Y ks d 12 → (∀ p ∈ (Bk, oB) :: base, p ∈ ks) →
      m₁ (PySem.Str.ofString "small") = some (.ref d) → m₁ (PySem.Str.ofString "point") = some (.ref V) → m₁ (PySem.Str.ofString "curve") = some (.ref C) → m₁ (PySem.Str.ofString "back") = some (.ref Bk) →
      Fr h₀ env.locals h (fun y => if y = x then some (.int (a₀ + (k : Int)) t) else m₁ y) → News h₀ env.locals h ((I, oI) :: (V, ({ cls := .type "tuple", data := .seq #[.int (X e) tx, .int (Y e) ty] cv } : Obj)) :: ks) →
      wpAny (model prog w) A (execs body env) (RgPost h₀ env.locals (Jf2 prog w X Y d C Bk NN i ((Bk, oB) :: base) ((D, ({ cls := .type "tuple", data := .seq #[.int (X i) t1, .int (Y i) t2] c } : Obj)) :: (Bk, oB) :: l) (k + 1)) I oI { s with heap := h, toks := tk } Q) E { s with heap := h, toks := tk })
    (done : ∀ (m₁ : PySem.Str → Option Value) (h : Heap) (tk e : Nat), e + 12 * n = i → Q .next { s with heap := h, toks := tk }) :
    wpAny (model prog w) A (pyIter (.ref r)) (fun it s₂ => LoopAtV prog w A h₀ env x body Q E it s₂) E s := by
  refine my_range (Jf2 prog w X Y d C Bk NN i ((Bk, oB) :: base) ((D, ({ cls := .type "tuple", data := .seq #[.int (X i) t1, .int (Y i) t2] c } : Obj)) :: (Bk, oB) :: l)) hh hr hsmall hn F (newsC N N (.tail _ hD)) ?_ (fun i m nx h => Jf2.cls h) ?_ ?_
  · exact ⟨D, i, t1, t2, c, (Bk, oB) :: l, by omega, rfl, S.sub fun p hp => .tail _ hp, newsBase N hb, fun p hp => .inr (.tail _ hp), f1, f2, f3, f4⟩
  · rintro k t m₁ news₁ h tk I oI hk ⟨V, e, tx, ty, cv, ks, he, rfl, S', hb', hc', e1, e2, e3, e4⟩ hoI F' N'
    exact turn k t m₁ h tk I oI V e tx ty cv ks hk he hoI S' hb' e1 e2 e3 e4 F' N'
  · rintro m₁ news₁ h tk ⟨V, e, tx, ty, cv, ks, he, _⟩ F' N'
    exact done m₁ h tk e he
end
end Mine
end

/- part My2 -/
section
open PySem PySem.W PyProof.Rows PySem.Calls
namespace Mine
section
variable {prog : Program} {w : World} {A : Around} {E : Value → Shared → Prop} {s : Shared} {h₀ : Heap} {L a b : Addr} {news : List (Addr × Obj)} {Q : Value → Shared → Prop}
theorem belowList {Ab : Around} {base h' : Heap} {outer : List Env} {l : Addr} {vs : Array Value} (_B : Below Ab base outer h') (hl : base.IsList l vs) : base.IsList l vs := hl
theorem newsOne {h : Heap} {p : Addr × Obj} (N : News h₀ L h news) (hp : p ∈ news) : News h₀ L h [p] := fun q hq => by
  rw [List.mem_singleton.mp hq]
  exact N _ hp
theorem eq_pt {x1 y1 x2 y2 : Int} {t1 t2 t3 t4 : Tok} {c1 c2 : Nat} (hu : A.units < cLine) (N : News h₀ L s.heap news) (h1 : (a, ({ cls := .type "tuple", data := .seq #[.int x1 t1, .int y1 t2] c1 } : Obj)) ∈ news)
    (h2 : (b, ({ cls := .type "tuple", data := .seq #[.int x2 t3, .int y2 t4] c2 } : Obj)) ∈ news) (h : Q (.bool (decide ([x1, y1] = [x2, y2]))) s) : wpAny (model prog w) A (compareOp .Eq (.ref a) (.ref b)) Q E s := by
  have hx : IsTupleKey (intKind prog w) s.heap [x1, y1] a := keyObj.key (N.get h1)
  have hy : IsTupleKey (intKind prog w) s.heap [x2, y2] b := keyObj.key (N.get h2)
  exact wpAny_richCompare_same_room (op := .Eq) hx.typeIs hy.typeIs F.slot_tuple_eq
      (wpAny_call_entry F.slot_tuple_eq hx.typeIs F.entry_tuple_eq (tuple_eq_tree hx hy ⟨_, rfl, (fun e => nomatch e), h⟩) (F.args_tuple_eq_2 _ _)) hu

theorem pick9 {value slice : PySem.Expr} {l : Addr} {vs : List Value} {r : Int} {u : Tok} (N : News h₀ L s.heap news) (hl : s.heap.IsList l vs.toArray) (h0 : 0 ≤ r) (h9 : r < 9)
    (hall : ∀ j : Nat, j < 9 → ∃ (C : Addr) (P N A B Gx Gy : Int) (c1 c2 c3 c4 c5 c6 : Tok) (cc : Nat), vs[j]? = some (.ref C) ∧ (C, ({ cls := .type "tuple", data := .seq #[.int P c1, .int N c2, .int A c3, .int B c4, .int Gx c5, .int Gy c6] cc } : Obj)) ∈ news ∧ Cv P N A Gx Gy)
    (h : ∀ (C : Addr) (P Ac B : Int) (NN : Nat) (X Y : Nat → Int) (c1 c2 c3 c4 c5 c6 : Tok) (cc : Nat), Grp P Ac NN X Y →
      (C, ({ cls := .type "tuple", data := .seq #[.int P c1, .int (NN : Int) c2, .int Ac c3, .int B c4, .int (X 1) c5, .int (Y 1) c6] cc } : Obj)) ∈ news → Q (.ref C) s)
    (hs : subscripted slice false (.ref l) (.int r u) = operate [.ref l, .int r u] (getItem (.ref l) (.int r u))) :
    wpAny (model prog w) A (subscriptTail value slice (.ref l) (.int r u)) Q E s := by
  obtain ⟨C, P, Nn, Ac, B, Gx, Gy, c1, c2, c3, c4, c5, c6, cc, hv, hm, n, X, Y, rfl, G, rfl, rfl⟩ := hall r.toNat (by omega)
  exact tail_any hl.typeIs slot_list_getitem.lookup (wpAny_getItem_list hl h0 (by omega) (by simpa using hv) (h C P Ac B n X Y c1 c2 c3 c4 c5 c6 cc G hm)) hs
end

section
variable {P Ac : Int} {N : Nat} {X Y : Nat → Int}
theorem pt_eq (G : Grp P Ac N X Y) {i j : Nat} (hi : i < N) (hj : j < N) : [X i, Y i] = [X j, Y j] ↔ i = j := by
  constructor
  · intro h
    simp only [List.cons.injEq, and_true] at h
    exact G.inj i j hi hj h.1 h.2
  · rintro rfl; rfl
theorem pt_zero (G : Grp P Ac N X Y) {i : Nat} (hi : i < N) : [X i, Y i] = [0, 0] ↔ i = 0 := by
  have := pt_eq G hi (show 0 < N by have := G.N1; omega)
  rw [G.x0, G.y0] at this
  exact this

theorem cg_nat {N a : Nat} : Cg (N : Int) ((a % N : Nat) : Int) (a : Int) := by
  rw [Int.natCast_emod]
  exact Cg.mod _ _
theorem cg_lt {N a b : Nat} (h : Cg (N : Int) a b) (ha : a < N) (hb : b < N) : a = b := by
  have := h.eq (by omega) (by omega) (by omega) (by omega)
  omega
/-- what comes off: b less x -/
theorem cg_op {N b x : Nat} (hN : 0 < N) : Cg (N : Int) (((b + (N - x % N) % N) % N : Nat) : Int) ((b : Int) - (x : Int)) := by
  refine cg_nat.trans ?_
  rw [Int.natCast_add]
  refine Cg.add (Cg.refl _ _) ?_
  refine cg_nat.trans ?_
  have hlt : x % N < N := Nat.mod_lt _ hN
  have h1 : ((N - x % N : Nat) : Int) = (N : Int) - ((x % N : Nat) : Int) := by omega
  rw [h1]
  have h2 : Cg (N : Int) ((N : Int) - ((x % N : Nat) : Int)) (0 - (x : Int)) := Cg.sub ⟨1, by omega⟩ cg_nat
  simpa using h2
/-- the hidden sum: (a, b) hides t under d -/
def Hid (N d a b : Nat) (t : Int) : Prop := a < N ∧ b < N ∧ Cg (N : Int) (b : Int) (t + d * a)
theorem Hid.opened {N d a b : Nat} {t n : Int} (hN : 0 < N) (H : Hid N d a b t) (hn : n.toNat = d) : Cg (N : Int) (((b + (N - a * n.toNat % N) % N) % N : Nat) : Int) t := by
  refine (cg_op hN).trans ((Cg.sub H.2.2 (Cg.refl _ _)).trans (Cg.of_eq ?_))
  rw [hn, Int.natCast_mul]
  grind
theorem Hid.zero {N d : Nat} (hN : 0 < N) : Hid N d 0 0 0 := ⟨hN, hN, Cg.of_eq (by simp)⟩
theorem Hid.add {N d a b a' b' : Nat} {t t' : Int} (hN : 0 < N) (H : Hid N d a b t) (H' : Hid N d a' b' t') : Hid N d ((a + a') % N) ((b + b') % N) (t + t') := by
  refine ⟨Nat.mod_lt _ hN, Nat.mod_lt _ hN, ?_⟩
  refine cg_nat.trans ?_
  rw [Int.natCast_add]
  refine (Cg.add H.2.2 H'.2.2).trans ?_
  have h : Cg (N : Int) ((d : Int) * (((a + a') % N : Nat) : Int)) ((d : Int) * ((a + a' : Nat) : Int)) := Cg.mul (Cg.refl _ _) cg_nat
  refine Cg.trans (Cg.of_eq ?_) (Cg.add (Cg.refl _ (t + t')) h.symm)
  rw [Int.natCast_add]
  grind
theorem Hid.of {N d : Nat} {x n : Int} (hN : 0 < N) (hx0 : 0 ≤ x) (hn0 : 0 ≤ n) (hn : n < N) : Hid N d n.toNat ((x.toNat + d * n.toNat) % N) x := by
  refine ⟨by omega, Nat.mod_lt _ hN, cg_nat.trans (Cg.of_eq ?_)⟩
  rw [Int.natCast_add, Int.natCast_mul]
  omega
theorem Hid.mul {N d a b : Nat} {t c : Int} (hN : 0 < N) (H : Hid N d a b t) (hc : 0 ≤ c) : Hid N d (a * c.toNat % N) (b * c.toNat % N) (t * c) := by
  refine ⟨Nat.mod_lt _ hN, Nat.mod_lt _ hN, ?_⟩
  have ec : ((c.toNat : Nat) : Int) = c := by omega
  refine cg_nat.trans ?_
  rw [Int.natCast_mul, ec]
  refine (Cg.mul H.2.2 (Cg.refl _ c)).trans ?_
  have h : Cg (N : Int) ((d : Int) * ((a * c.toNat % N : Nat) : Int)) ((d : Int) * ((a * c.toNat : Nat) : Int)) := Cg.mul (Cg.refl _ _) cg_nat
  refine Cg.trans (Cg.of_eq ?_) (Cg.add (Cg.refl _ (t * c)) h.symm)
  rw [Int.natCast_mul, ec]
  grind
theorem cg_int {N k : Nat} {t : Int} (h : Cg (N : Int) (k : Int) t) (hk : k < N) (h0 : 0 ≤ t) (h1 : t < N) : (k : Int) = t := h.eq (by omega) (by omega) h0 h1
theorem cg_mod {N k : Nat} {t : Int} (hN : 0 < N) (h : Cg (N : Int) (k : Int) t) (hk : k < N) : (k : Int) = t % N :=
  (h.trans (Cg.mod _ t).symm).eq (by omega) (by omega) (Int.emod_nonneg _ (by omega)) (Int.emod_lt_of_pos _ (by omega))
/-- way 2: another first point, another second -/
theorem fresh_ne {N d a b : Nat} {n : Int} (hp : Pr (N : Int)) (ha : a < N) (hb : b < N) (hn0 : 0 < n) (hn1 : n < N) (hd0 : 0 < d) (hd : d < N) :
    (a + n.toNat) % N ≠ a ∧ (b + ((0 : Int).toNat + d * n.toNat) % N) % N ≠ b := by
  have hN := hp.1
  have en : ((n.toNat : Nat) : Int) = n := by omega
  have hnn : ¬ Cg (N : Int) n 0 := ne_of (by omega) hn1 (by omega)
  have hdd : ¬ Cg (N : Int) (d : Int) 0 := ne_of (by omega) (by omega) (by omega)
  constructor
  · intro e
    have h := cg_nat (N := N) (a := a + n.toNat)
    rw [e, Int.natCast_add, en] at h
    have h2 := Cg.sub h.symm (Cg.refl (N : Int) (a : Int))
    exact hnn ((Cg.of_eq (by omega)).trans (h2.trans (Cg.of_eq (by omega))))
  · intro e
    have h := cg_nat (N := N) (a := b + ((0 : Int).toNat + d * n.toNat) % N)
    rw [e, Int.natCast_add] at h
    have h3 := cg_nat (N := N) (a := (0 : Int).toNat + d * n.toNat)
    rw [Int.natCast_add, Int.natCast_mul, en] at h3
    have h2 := Cg.sub (h.symm) (Cg.refl (N : Int) (b : Int))
    have h4 : Cg (N : Int) ((d : Int) * n) 0 := by
      have h5 := h3.symm.trans ((Cg.of_eq (by omega)).trans (h2.trans (Cg.of_eq (show (b : Int) - b = 0 by omega))))
      exact (Cg.of_eq (by simp)).trans h5
    exact hp.mul_ne hdd hnn h4
/-- way 3: by another secret the same sum only where there is no first point -/
theorem wrong_iff {N d a b : Nat} {t n v : Int} (hp : Pr (N : Int)) (H : Hid N d a b t) (hn : n.toNat = d) (hn0 : 0 ≤ n) (hd : d < N) (hv0 : 0 ≤ v) (hv1 : v < N) (hne : v ≠ n) :
    (b + (N - a * v.toNat % N) % N) % N = (b + (N - a * n.toNat % N) % N) % N ↔ a = 0 := by
  have hN := hp.1
  have hN0 : 0 < N := by omega
  constructor
  · intro e
    have h1 := cg_op (N := N) (b := b) (x := a * v.toNat) hN0
    have h2 := cg_op (N := N) (b := b) (x := a * n.toNat) hN0
    rw [e] at h1
    have h3 := h1.symm.trans h2
    have ev : ((v.toNat : Nat) : Int) = v := by omega
    have en : ((n.toNat : Nat) : Int) = n := by omega
    rw [Int.natCast_mul, Int.natCast_mul, ev, en] at h3
    have h4 : Cg (N : Int) ((a : Int) * (n - v)) 0 := by
      have h5 := Cg.sub h3 (Cg.refl (N : Int) ((b : Int) - a * n))
      exact (Cg.of_eq (by grind)).trans (h5.trans (Cg.of_eq (by omega)))
    refine Classical.byContradiction fun ha => ?_
    have ha' : ¬ Cg (N : Int) (a : Int) 0 := ne_of (by omega) (by have := H.1; omega) (by omega)
    have hw : ¬ Cg (N : Int) (n - v) 0 := by
      intro h
      have h6 : Cg (N : Int) n v := by
        have := Cg.add h (Cg.refl (N : Int) v)
        exact (Cg.of_eq (by omega)).trans (this.trans (Cg.of_eq (by omega)))
      exact hne (h6.eq hn0 (by omega) hv0 hv1).symm
    exact hp.mul_ne ha' hw h4
  · rintro rfl
    simp
end
end Mine
end

/- part My3 -/
section
open PySem PySem.W PyProof.Rows PySem.Calls
namespace Mine
def Jf3 (X Y : Nat → Int) (NN d : Nat) (C Sh : Addr) (oC oS : Obj) (v1 v2 v3 v4 v5 v6 : Value) (k : Nat) (m : PySem.Str → Option Value) (nx : List (Addr × Obj)) : Prop :=
  ∃ (Wp W1 W2 : Addr) (a b : Nat) (tot : Int) (t1 t2 t3 t4 tt : Tok) (cw c1 c2 : Nat),
    nx = [(Wp, ({ cls := .type "tuple", data := .seq #[.ref W1, .ref W2] cw } : Obj)), (W1, ({ cls := .type "tuple", data := .seq #[.int (X a) t1, .int (Y a) t2] c1 } : Obj)), (W2, ({ cls := .type "tuple", data := .seq #[.int (X b) t3, .int (Y b) t4] c2 } : Obj)), (C, oC), (Sh, oS)] ∧
    Hid NN d a b tot ∧ 0 ≤ tot ∧ tot ≤ 3 * (k : Int) ∧ m (PySem.Str.ofString "total") = some (.int tot tt) ∧ m (PySem.Str.ofString "whole") = some (.ref Wp) ∧
    m (PySem.Str.ofString "curve") = some v1 ∧ m (PySem.Str.ofString "order") = some v2 ∧ m (PySem.Str.ofString "way") = some v3 ∧ m (PySem.Str.ofString "secret") = some v4 ∧ m (PySem.Str.ofString "shown") = some v5 ∧ m (PySem.Str.ofString "script") = some v6
section
variable {prog : Program} {w : World} {A : Around} {E : Value → Shared → Prop} {s : Shared} {env : Env} {h₀ : Heap} {x : PySem.Str} {body : List Stmt} {Q : Flow → Shared → Prop}
theorem my_range3 {X Y : Nat → Int} {P Ac : Int} {NN : Nat} {sec : Int} {C Sh Wp₀ W1₀ W2₀ : Addr} {oC oS : Obj} {ta tb tc td te ts : Tok} {cw₀ c1₀ c2₀ : Nat} {v1 v2 v3 v5 v6 : Value} {l : List (Addr × Obj)} {r : Addr} {a₀ b₀ : Int} {t₀ u₀ v₀ : Tok} {n : Nat} {m₀ : PySem.Str → Option Value}
    (G : Grp P Ac NN X Y)
    (hh : A.handled = none) (hr : IsRange s.heap r a₀ b₀ 1 t₀ u₀ v₀) (hsmall : Builtin.Range.small a₀ b₀ 1 = true) (hn : Builtin.Range.rangeSize a₀ b₀ 1 = (n : Int)) (F : Fr h₀ env.locals s.heap m₀) (N : News h₀ env.locals s.heap l)
    (hW : (Wp₀, ({ cls := .type "tuple", data := .seq #[.ref W1₀, .ref W2₀] cw₀ } : Obj)) ∈ l) (h1 : (W1₀, ({ cls := .type "tuple", data := .seq #[.int 0 ta, .int 0 tb] c1₀ } : Obj)) ∈ l) (h2 : (W2₀, ({ cls := .type "tuple", data := .seq #[.int 0 tc, .int 0 td] c2₀ } : Obj)) ∈ l)
    (hC : (C, oC) ∈ l) (hS : (Sh, oS) ∈ l) (cC : oC.cls = .type "tuple") (cS : oS.cls = .type "tuple")
    (f1 : m₀ (PySem.Str.ofString "total") = some (.int 0 te)) (f2 : m₀ (PySem.Str.ofString "whole") = some (.ref Wp₀)) (f3 : m₀ (PySem.Str.ofString "curve") = some v1) (f4 : m₀ (PySem.Str.ofString "order") = some v2)
    (f5 : m₀ (PySem.Str.ofString "way") = some v3) (f6 : m₀ (PySem.Str.ofString "secret") = some (.int sec ts)) (f7 : m₀ (PySem.Str.ofString "shown") = some v5) (f8 : m₀ (PySem.Str.ofString "script") = some v6)
    (turn : ∀ (k : Nat) (t : Tok) (m₁ : PySem.Str → Option Value) (h : Heap) (tk : Nat) (I : Addr) (oI : Obj) (Wp W1 W2 : Addr) (a b : Nat) (tot : Int) (t1 t2 t3 t4 tt : Tok) (cw c1 c2 : Nat), k < n → Hid NN sec.toNat a b tot → 0 ≤ tot → tot ≤ 3 * (k : Int) →
      m₁ (PySem.Str.ofString "total") = some (.int tot tt) → m₁ (PySem.Str.ofString "whole") = some (.ref Wp) → m₁ (PySem.Str.ofString "curve") = some v1 → m₁ (PySem.Str.ofString "order") = some v2 → m₁ (PySem.Str.ofString "way") = some v3 → m₁ (PySem.Str.ofString "secret") = some (.int sec ts) → m₁ (PySem.Str.ofString "shown") = some v5 → m₁ (PySem.Str.ofString "script") = some v6 →
      Fr h₀ env.locals h (fun y => if y = x then some (.int (a₀ + (k : Int)) t) else m₁ y) →
      News h₀ env.locals h [(I, oI), (Wp, ({ cls := .type "tuple", data := .seq #[.ref W1, .ref W2] cw } : Obj)), (W1, ({ cls := .type "tuple", data := .seq #[.int (X a) t1, .int (Y a) t2] c1 } : Obj)), (W2, ({ cls := .type "tuple", data := .seq #[.int (X b) t3, .int (Y b) t4] c2 } : Obj)), (C, oC), (Sh, oS)] →
      wpAny (model prog w) A (execs body env) (RgPost h₀ env.locals (Jf3 X Y NN sec.toNat C Sh oC oS v1 v2 v3 (.int sec ts) v5 v6 (k + 1)) I oI { s with heap := h, toks := tk } Q) E { s with heap := h, toks := tk })
    (done : ∀ (m₁ : PySem.Str → Option Value) (h : Heap) (tk : Nat) (Wp W1 W2 : Addr) (a b : Nat) (tot : Int) (t1 t2 t3 t4 tt : Tok) (cw c1 c2 : Nat), Hid NN sec.toNat a b tot → 0 ≤ tot → tot ≤ 3 * (n : Int) →
      m₁ (PySem.Str.ofString "total") = some (.int tot tt) → m₁ (PySem.Str.ofString "whole") = some (.ref Wp) → m₁ (PySem.Str.ofString "curve") = some v1 → m₁ (PySem.Str.ofString "order") = some v2 → m₁ (PySem.Str.ofString "way") = some v3 → m₁ (PySem.Str.ofString "secret") = some (.int sec ts) → m₁ (PySem.Str.ofString "shown") = some v5 → m₁ (PySem.Str.ofString "script") = some v6 →
      Fr h₀ env.locals h m₁ →
      News h₀ env.locals h [(Wp, ({ cls := .type "tuple", data := .seq #[.ref W1, .ref W2] cw } : Obj)), (W1, ({ cls := .type "tuple", data := .seq #[.int (X a) t1, .int (Y a) t2] c1 } : Obj)), (W2, ({ cls := .type "tuple", data := .seq #[.int (X b) t3, .int (Y b) t4] c2 } : Obj)), (C, oC), (Sh, oS)] →
      Q .next { s with heap := h, toks := tk }) :
    wpAny (model prog w) A (pyIter (.ref r)) (fun it s₂ => LoopAtV prog w A h₀ env x body Q E it s₂) E s := by
  have hN0 : 0 < NN := by have := G.N1; omega
  have h1' : (W1₀, ({ cls := .type "tuple", data := .seq #[.int (X 0) ta, .int (Y 0) tb] c1₀ } : Obj)) ∈ l := by rw [G.x0, G.y0]; exact h1
  have h2' : (W2₀, ({ cls := .type "tuple", data := .seq #[.int (X 0) tc, .int (Y 0) td] c2₀ } : Obj)) ∈ l := by rw [G.x0, G.y0]; exact h2
  have N2 := newsC N (newsC N (newsC N (newsC N (newsC N (newsSub N (news := []) fun p hp => nomatch hp) hS) hC) h2') h1') hW
  refine my_range (Jf3 X Y NN sec.toNat C Sh oC oS v1 v2 v3 (.int sec ts) v5 v6) hh hr hsmall hn F N2 ?_ ?_ ?_ ?_
  · exact ⟨Wp₀, W1₀, W2₀, 0, 0, 0, ta, tb, tc, td, te, cw₀, c1₀, c2₀, rfl, Hid.zero hN0, by omega, by omega, f1, f2, f3, f4, f5, f6, f7, f8⟩
  · rintro i m nx ⟨Wp, W1, W2, a, b, tot, t1, t2, t3, t4, tt, cw, c1, c2, rfl, _⟩ p hp
    refine .inl ?_
    have T : Value.type "tuple" ≠ Value.type "range_iterator" := by decide
    simp only [List.mem_cons, List.not_mem_nil, or_false] at hp
    rcases hp with rfl | rfl | rfl | rfl | rfl
    · exact T
    · exact T
    · exact T
    · exact cC ▸ T
    · exact cS ▸ T
  · rintro k t m₁ news₁ h tk I oI hk ⟨Wp, W1, W2, a, b, tot, t1, t2, t3, t4, tt, cw, c1, c2, rfl, H, g1, g2, e1, e2, e3, e4, e5, e6, e7, e8⟩ hoI F' N'
    exact turn k t m₁ h tk I oI Wp W1 W2 a b tot t1 t2 t3 t4 tt cw c1 c2 hk H g1 g2 e1 e2 e3 e4 e5 e6 e7 e8 F' N'
  · rintro m₁ news₁ h tk ⟨Wp, W1, W2, a, b, tot, t1, t2, t3, t4, tt, cw, c1, c2, rfl, H, g1, g2, e1, e2, e3, e4, e5, e6, e7, e8⟩ F' N'
    exact done m₁ h tk Wp W1 W2 a b tot t1 t2 t3 t4 tt cw c1 c2 H g1 g2 e1 e2 e3 e4 e5 e6 e7 e8 F' N'
theorem Jf3.fin {X Y : Nat → Int} {NN d : Nat} {C Sh Wp W1 W2 I : Addr} {oC oS oI : Obj} {v1 v2 v3 v4 v5 v6 : Value} {k a b : Nat} {tot : Int} {t1 t2 t3 t4 tt : Tok} {cw c1 c2 : Nat} {L : Addr} {m : PySem.Str → Option Value} {news' : List (Addr × Obj)} {h : Heap} {s₁ : Shared} {tk : Nat}
    (F : Fr h₀ L h m) (N : News h₀ L h news') (e2 : m (PySem.Str.ofString "whole") = some (.ref Wp)) (e1 : m (PySem.Str.ofString "total") = some (.int tot tt))
    (hW : (Wp, ({ cls := .type "tuple", data := .seq #[.ref W1, .ref W2] cw } : Obj)) ∈ news') (h1 : (W1, ({ cls := .type "tuple", data := .seq #[.int (X a) t1, .int (Y a) t2] c1 } : Obj)) ∈ news') (h2 : (W2, ({ cls := .type "tuple", data := .seq #[.int (X b) t3, .int (Y b) t4] c2 } : Obj)) ∈ news')
    (hC : (C, oC) ∈ news') (hS : (Sh, oS) ∈ news') (hI : (I, oI) ∈ news') (H : Hid NN d a b tot) (g1 : 0 ≤ tot) (g2 : tot ≤ 3 * ((k + 1 : Nat) : Int))
    (e3 : m (PySem.Str.ofString "curve") = some v1) (e4 : m (PySem.Str.ofString "order") = some v2) (e5 : m (PySem.Str.ofString "way") = some v3) (e6 : m (PySem.Str.ofString "secret") = some v4) (e7 : m (PySem.Str.ofString "shown") = some v5) (e8 : m (PySem.Str.ofString "script") = some v6) :
    RgEnd h₀ L (Jf3 X Y NN d C Sh oC oS v1 v2 v3 v4 v5 v6 (k + 1)) I oI s₁ { s₁ with heap := h, toks := tk } := by
  refine RgEnd.intro F N ?_ hI ⟨Wp, W1, W2, a, b, tot, t1, t2, t3, t4, tt, cw, c1, c2, rfl, H, g1, g2, e1, e2, e3, e4, e5, e6, e7, e8⟩
  intro p hp
  simp only [List.mem_cons, List.not_mem_nil, or_false] at hp
  rcases hp with rfl | rfl | rfl | rfl | rfl <;> assumption
end

section
variable {prog : Program} {w : World} {A : Around} {E : Value → Shared → Prop} {s : Shared} {h₀ : Heap} {L a b : Addr} {news : List (Addr × Obj)} {Q : Value → Shared → Prop}
theorem eq_intT {x y : Int} {t u : Tok} (e : x = y) (h : Q (.bool true) s) : wpAny (model prog w) A (compareOp .Eq (.int x t) (.int y u)) Q E s :=
  eq_int (by rw [beq_iff_eq.mpr e]; exact h)
theorem eq_boolT {x y : Bool} (e : x = y) (h : Q (.bool true) s) : wpAny (model prog w) A (compareOp .Eq (.bool x) (.bool y)) Q E s :=
  eq_bool (by rw [beq_iff_eq.mpr e]; exact h)
theorem eq_ptIs {x1 y1 x2 y2 : Int} {t1 t2 t3 t4 : Tok} {c1 c2 : Nat} {r : Bool} (hu : A.units < cLine) (N : News h₀ L s.heap news) (h1 : (a, ({ cls := .type "tuple", data := .seq #[.int x1 t1, .int y1 t2] c1 } : Obj)) ∈ news)
    (h2 : (b, ({ cls := .type "tuple", data := .seq #[.int x2 t3, .int y2 t4] c2 } : Obj)) ∈ news) (e : decide ([x1, y1] = [x2, y2]) = r) (h : Q (.bool r) s) : wpAny (model prog w) A (compareOp .Eq (.ref a) (.ref b)) Q E s :=
  eq_pt hu N h1 h2 (by rw [e]; exact h)
end
section
variable {P Ac : Int} {N : Nat} {X Y : Nat → Int}
theorem pt_no (G : Grp P Ac N X Y) {i j : Nat} (h : i ≠ j) (hi : i < N) (hj : j < N) : decide ([X i, Y i] = [X j, Y j]) = false := decide_eq_false fun e => h ((pt_eq G hi hj).mp e)
theorem pt_yes {i j : Nat} (h : i = j) : decide ([X i, Y i] = [X j, Y j]) = true := by subst h; exact decide_eq_true rfl
theorem wrong_ne {n s r v : Int} (hv : v = (s + 1 + r) % n) (hr0 : 0 ≤ r) (hr1 : r < n - 1) (hs0 : 0 ≤ s) (hs1 : s < n) : v ≠ s := by
  subst hv
  rcases (show s + 1 + r < n ∨ n ≤ s + 1 + r by omega) with h | h
  · rw [Int.emod_eq_of_lt (by omega) h]; omega
  · have e : (s + 1 + r) % n = s + 1 + r - n := by
      rw [← Int.sub_emod_right (s + 1 + r) n, Int.emod_eq_of_lt (by omega) (by omega)]
    rw [e]; omega
theorem way0 {d a b : Nat} {t n : Int} (hN : 0 < N) (H : Hid N d a b t) (hn : n.toNat = d) (h0 : 0 ≤ t) (h1 : t < N) : (((b + (N - a * n.toNat % N) % N) % N : Nat) : Int) = t :=
  cg_int (H.opened hN hn) (Nat.mod_lt _ hN) h0 h1
theorem way1 {d a b : Nat} {t n c r : Int} (hN : 0 < N) (H : Hid N d a b t) (hn : n.toNat = d) (hc : 0 ≤ c) (hr : r = t * c % (N : Int)) : (((b * c.toNat % N + (N - (a * c.toNat % N) * n.toNat % N) % N) % N : Nat) : Int) = r :=
  (cg_mod hN ((H.mul hN hc).opened hN hn) (Nat.mod_lt _ hN)).trans hr.symm
theorem way2 {d a b : Nat} {t n k : Int} (hN : 0 < N) (H : Hid N d a b t) (hn : n.toNat = d) (hk0 : 0 ≤ k) (hk1 : k < N) :
    ((b + ((0 : Int).toNat + d * k.toNat) % N) % N + (N - ((a + k.toNat) % N) * n.toNat % N) % N) % N = (b + (N - a * n.toNat % N) % N) % N :=
  cg_lt (((H.add hN (Hid.of (x := 0) hN (by omega) hk0 hk1)).opened hN hn).trans ((Cg.of_eq (by omega)).trans (H.opened hN hn).symm)) (Nat.mod_lt _ hN) (Nat.mod_lt _ hN)
theorem way3a (G : Grp P Ac N X Y) {d a b : Nat} {t n v : Int} (hN : 0 < N) (H : Hid N d a b t) (hn : n.toNat = d) (hn0 : 0 ≤ n) (hd : d < N) (hv0 : 0 ≤ v) (hv1 : v < N) (hne : v ≠ n) :
    decide ([X ((b + (N - a * v.toNat % N) % N) % N), Y ((b + (N - a * v.toNat % N) % N) % N)] = [X ((b + (N - a * n.toNat % N) % N) % N), Y ((b + (N - a * n.toNat % N) % N) % N)]) = decide (a = 0) :=
  decide_eq_decide.mpr ((pt_eq G (Nat.mod_lt _ hN) (Nat.mod_lt _ hN)).trans (wrong_iff G.npr H hn hn0 hd hv0 hv1 hne))
theorem way3b (G : Grp P Ac N X Y) {a : Nat} (ha : a < N) : decide ([X a, Y a] = [0, 0]) = decide (a = 0) := decide_eq_decide.mpr (pt_zero G ha)
end
end Mine
end

/- part C2 -/
section
open PySem PySem.W PyProof.Rows PySem.Calls PySem.Spec
namespace Mine

local macro_rules | `(tactic| walk_at "binaryOp Mod int int") => `(tactic| (k_here; (with_reducible refine my_mod ?kbe ?_); (case kbe => omega); intro r' hr' h0' h1'))
local macro_rules | `(tactic| walk_at "binaryOp FloorDiv int int") => `(tactic| (k_here; (with_reducible refine my_fdiv ?kbe ?kbf ?_); (case kbe => omega); (case kbf => omega); intro r' hr' hd'))
local macro_rules | `(tactic| walk_at "binaryOp Mult int int") => `(tactic| (k_here; first | ((with_reducible refine my_mulL ?kbe ?_); (case kbe => omega)) | ((with_reducible refine my_mulR ?kbe ?_); (case kbe => omega))))
local macro_rules | `(tactic| walk_at "binaryOp Pow int int") => `(tactic| (k_here; first | ((with_reducible refine my_pow2 ?kbe ?_); (case kbe => omega)) | ((with_reducible refine my_pow3 ?kbe ?_); (case kbe => omega)) | ((with_reducible refine my_pow4 ?kbe ?_); (case kbe => omega))))
set_option maxHeartbeats 8000000 in
theorem c_dbl {w : World} {mean : ExcName → Option Value} {mg mb : PySem.Str → Option Value}
  {dp un : Nat} {gd : Option (List Code)} {cn : PySem.Str} {cs : Scope} {a : Addr} {ccd : Value} {cl : List (PySem.Str × Addr)} {outer : List Env} {A₀ : Around} {base h₀ : Heap} {L : Addr} {m : PySem.Str → Option Value} {s : Shared} {Q E : Value → Shared → Prop} {news : List (Addr × Obj)}
  {D : Addr} {x y z : Int} {t1 t2 t3 : Tok} {c : Nat} {C : Addr} {P N A B Gx Gy : Int} {cP cN cA cB cGx cGy : Tok} {cc : Nat}
  (B₀ : Below A₀ base outer h₀) (F₀ : Fr h₀ L s.heap m) (X₀ : (hd.heap_39 w.params).In h₀) (N₀ : News h₀ L s.heap news)
  (T₀ : Top hd.view_39 (looseW hd.view_39 []) mean mg mb h₀) (hk : cs.kind = .function) (hdp : dp + 1 < recursionLimit) (hun : un + 8 < cLine)
  (hm1 : (D, ({ cls := .type "tuple", data := .seq #[.int x t1, .int y t2, .int z t3] c } : Obj)) ∈ news)
  (hm2 : (C, ({ cls := .type "tuple", data := .seq #[.int P cP, .int N cN, .int A cA, .int B cB, .int Gx cGx, .int Gy cGy] cc } : Obj)) ∈ news)
  (hP0 : 1 < P) (hP1 : P < 128) (hA0 : 0 ≤ A) (hA1 : A < 128) (hx0 : 0 ≤ x) (hx1 : x < P) (hy0 : 0 ≤ y) (hy1 : y < P) (hz0 : 0 ≤ z) (hz1 : z < P)
  (hret : ∀ (D' : Addr) (X Y Z : Int) (u1 u2 u3 : Tok) (c' : Nat) (h' : Heap) (tk' : Nat) (news' : List (Addr × Obj)), ((0 ≤ X ∧ X < P ∧ 0 ≤ Y ∧ Y < P ∧ 0 ≤ Z ∧ Z < P) ∧ DblEq P A x y z X Y Z) → Fr h₀ L h' m → News h₀ L h' news' → (D', ({ cls := .type "tuple", data := .seq #[.int X u1, .int Y u2, .int Z u3] c' } : Obj)) ∈ news' → (∀ p ∈ news, p ∈ news') → Q (.ref D') { s with heap := h', toks := tk' }) :
  wpAny (model PySem.Challenge.rw_bw0036_01.row.prog w) (ktrTop dp un gd cn cs L a ccd cl outer) (call (.ref 35) [.ref D, .ref C]) Q E s := by
  have N₁ := newsC N₀ (newsC N₀ (N₀) hm2) hm1
  clear N₀ hm1 hm2
  revert X₀; k_fill; intro X₀
  refine wpAny_call ?_
  k_dflt cell_enter
  k_steps
  · refine' hret _ _ _ _ _ _ _ _ _ _ _ ?post1 (by assumption) (by assumption) ?mem1 ?sub1
    case mem1 => k_mem
    case sub1 => kcj_all
    case post1 =>
      refine ⟨by omega, ?_⟩
      unfold DblEq
      subst_vars
      exact ⟨fun h => absurd h (by assumption), fun _ => ⟨_, _, _, rfl, rfl, rfl, rfl, rfl, rfl⟩⟩
  · refine' hret _ _ _ _ _ _ _ _ _ _ _ ?post2 (by assumption) (by assumption) ?mem2 ?sub2
    case mem2 => k_mem
    case sub2 => kcj_all
    case post2 =>
      refine ⟨by omega, ?_⟩
      unfold DblEq
      exact ⟨fun _ => ⟨rfl, rfl, rfl⟩, fun h => absurd (by assumption) h⟩
local macro_rules | `(tactic| walk_at "call ref") => `(tactic| (k_here; (with_reducible show wpAny _ _ (call (Value.ref 35) [Value.ref _, Value.ref _]) _ _ _); k_dflt (refine' c_dbl ?kB ?kF ?kX ?kN ?kT ?kK ?kd ?ku ?km0 ?km1 ?kh0 ?kh1 ?kh2 ?kh3 ?kh4 ?kh5 ?kh6 ?kh7 ?kh8 ?kh9 ?_; (case kB => k_asm); (case kF => k_asm); (case kX => k_asm); (case kN => k_asm); (case kT => k_asm); (case kK => first | exact rfl | assumption); (case kd => ktr_room); (case ku => ktr_units); (case km0 => k_mem); (case km1 => k_mem); (case kh0 => omega); (case kh1 => omega); (case kh2 => omega); (case kh3 => omega); (case kh4 => omega); (case kh5 => omega); (case kh6 => omega); (case kh7 => omega); (case kh8 => omega); (case kh9 => omega)); intro D' x0' x1' x2' u0' u1' u2' c' h' tk' news' post' F' N' mem' sub'; (have N'' := newsC N' (newsSub N' sub') mem'); clear N' mem' sub'; (obtain ⟨⟨_, _, _, _, _, _⟩, post'⟩ := post'); (try dsimp only)))
set_option maxHeartbeats 8000000 in
theorem c_jadd {w : World} {mean : ExcName → Option Value} {mg mb : PySem.Str → Option Value}
  {dp un : Nat} {gd : Option (List Code)} {cn : PySem.Str} {cs : Scope} {a : Addr} {ccd : Value} {cl : List (PySem.Str × Addr)} {outer : List Env} {A₀ : Around} {base h₀ : Heap} {L : Addr} {m : PySem.Str → Option Value} {s : Shared} {Q E : Value → Shared → Prop} {news : List (Addr × Obj)}
  {D D2 : Addr} {x1 y1 z1 x2 y2 z2 : Int} {t1 t2 t3 t4 t5 t6 : Tok} {c c2 : Nat} {C : Addr} {P N A B Gx Gy : Int} {cP cN cA cB cGx cGy : Tok} {cc : Nat}
  (B₀ : Below A₀ base outer h₀) (F₀ : Fr h₀ L s.heap m) (X₀ : (hd.heap_39 w.params).In h₀) (N₀ : News h₀ L s.heap news)
  (T₀ : Top hd.view_39 (looseW hd.view_39 []) mean mg mb h₀) (hk : cs.kind = .function) (hdp : dp + 2 < recursionLimit) (hun : un + 16 < cLine)
  (hm1 : (D, ({ cls := .type "tuple", data := .seq #[.int x1 t1, .int y1 t2, .int z1 t3] c } : Obj)) ∈ news)
  (hm2 : (D2, ({ cls := .type "tuple", data := .seq #[.int x2 t4, .int y2 t5, .int z2 t6] c2 } : Obj)) ∈ news)
  (hm3 : (C, ({ cls := .type "tuple", data := .seq #[.int P cP, .int N cN, .int A cA, .int B cB, .int Gx cGx, .int Gy cGy] cc } : Obj)) ∈ news)
  (hP0 : 1 < P) (hP1 : P < 128) (hA0 : 0 ≤ A) (hA1 : A < 128) (hx0 : 0 ≤ x1) (hx1 : x1 < P) (hy0 : 0 ≤ y1) (hy1 : y1 < P) (hz0 : 0 ≤ z1) (hz1 : z1 < P) (hx2 : 0 ≤ x2) (hx3 : x2 < P) (hy2 : 0 ≤ y2) (hy3 : y2 < P) (hz2 : 0 ≤ z2) (hz3 : z2 < P)
  (hret : ∀ (D' : Addr) (X Y Z : Int) (u1 u2 u3 : Tok) (c' : Nat) (h' : Heap) (tk' : Nat) (news' : List (Addr × Obj)), ((0 ≤ X ∧ X < P ∧ 0 ≤ Y ∧ Y < P ∧ 0 ≤ Z ∧ Z < P) ∧ JAddEq P A x1 y1 z1 x2 y2 z2 X Y Z) → Fr h₀ L h' m → News h₀ L h' news' → (D', ({ cls := .type "tuple", data := .seq #[.int X u1, .int Y u2, .int Z u3] c' } : Obj)) ∈ news' → (∀ p ∈ news, p ∈ news') → Q (.ref D') { s with heap := h', toks := tk' }) :
  wpAny (model PySem.Challenge.rw_bw0036_01.row.prog w) (ktrTop dp un gd cn cs L a ccd cl outer) (call (.ref 42) [.ref D, .ref D2, .ref C]) Q E s := by
  have N₁ := newsC N₀ (newsC N₀ (newsC N₀ (N₀) hm3) hm2) hm1
  clear N₀ hm1 hm2 hm3
  revert X₀; k_fill; intro X₀
  refine wpAny_call ?_
  k_dflt cell_enter
  k_steps
  · refine' hret _ _ _ _ _ _ _ _ _ _ _ ?post3 (by assumption) (by assumption) ?mem3 ?sub3
    case mem3 => k_mem
    case sub3 => kcj_all
    case post3 =>
      refine ⟨by omega, ?_⟩
      unfold JAddEq
      subst_vars
      exact ⟨fun h => absurd h (by assumption), fun _ h => absurd h (by assumption), fun _ _ => ⟨_, _, _, _, rfl, rfl, rfl, rfl, fun _ _ => ⟨rfl, rfl, rfl⟩, fun _ h => absurd h (by assumption), fun h => absurd (by assumption) h⟩⟩
  · refine' hret _ _ _ _ _ _ _ _ _ _ _ ?post4 (by assumption) (by assumption) ?mem4 ?sub4
    case mem4 => k_mem
    case sub4 => kcj_all
    case post4 =>
      refine ⟨by omega, ?_⟩
      unfold JAddEq
      subst_vars
      exact ⟨fun h => absurd h (by assumption), fun _ h => absurd h (by assumption), fun _ _ => ⟨_, _, _, _, rfl, rfl, rfl, rfl, fun _ h => absurd (by assumption) h, fun _ _ => (by assumption), fun h => absurd (by assumption) h⟩⟩
  · refine' hret _ _ _ _ _ _ _ _ _ _ _ ?post5 (by assumption) (by assumption) ?mem5 ?sub5
    case mem5 => k_mem
    case sub5 => kcj_all
    case post5 =>
      refine ⟨by omega, ?_⟩
      unfold JAddEq
      subst_vars
      exact ⟨fun h => absurd h (by assumption), fun _ h => absurd h (by assumption), fun _ _ => ⟨_, _, _, _, rfl, rfl, rfl, rfl, fun h => absurd h (by assumption), fun h => absurd h (by assumption), fun _ => ⟨_, _, _, rfl, rfl, rfl, rfl, rfl, rfl⟩⟩⟩
  · refine' hret _ _ _ _ _ _ _ _ _ _ _ ?post6 (by assumption) (by assumption) ?mem6 ?sub6
    case mem6 => k_mem
    case sub6 => kcj_all
    case post6 =>
      refine ⟨by omega, ?_⟩
      unfold JAddEq
      exact ⟨fun h => absurd h (by assumption), fun _ _ => ⟨rfl, rfl, rfl⟩, fun _ h => absurd (by assumption) h⟩
  · refine' hret _ _ _ _ _ _ _ _ _ _ _ ?post7 (by assumption) (by assumption) ?mem7 ?sub7
    case mem7 => k_mem
    case sub7 => kcj_all
    case post7 =>
      refine ⟨by omega, ?_⟩
      unfold JAddEq
      exact ⟨fun _ => ⟨rfl, rfl, rfl⟩, fun h => absurd (by assumption) h, fun h => absurd (by assumption) h⟩

end Mine
end

/- part C3 -/
section
open PySem PySem.W PyProof.Rows PySem.Calls PySem.Spec
namespace Mine

local macro_rules | `(tactic| walk_at "binaryOp Mod int int") => `(tactic| (k_here; (with_reducible refine my_mod ?kbe ?_); (case kbe => omega); intro r' hr' h0' h1'))
local macro_rules | `(tactic| walk_at "binaryOp FloorDiv int int") => `(tactic| (k_here; (with_reducible refine my_fdiv ?kbe ?kbf ?_); (case kbe => omega); (case kbf => omega); intro r' hr' hd'))
local macro_rules | `(tactic| walk_at "binaryOp Mult int int") => `(tactic| (k_here; first | ((with_reducible refine my_mulL ?kbe ?_); (case kbe => omega)) | ((with_reducible refine my_mulR ?kbe ?_); (case kbe => omega))))
local macro_rules | `(tactic| walk_at "binaryOp Pow int int") => `(tactic| (k_here; first | ((with_reducible refine my_pow2 ?kbe ?_); (case kbe => omega)) | ((with_reducible refine my_pow3 ?kbe ?_); (case kbe => omega)) | ((with_reducible refine my_pow4 ?kbe ?_); (case kbe => omega))))

local macro_rules | `(tactic| walk_at "binaryOp FloorDiv int int") => `(tactic| (k_here; (have hJ' := inv_bnd (by assumption)); (with_reducible refine my_fdiv ?kbe ?kbf ?_); (case kbe => omega); (case kbf => omega); intro r' hr' hd'))
set_option maxHeartbeats 8000000 in
theorem c_inv {w : World} {mean : ExcName → Option Value} {mg mb : PySem.Str → Option Value}
  {dp un : Nat} {gd : Option (List Code)} {cn : PySem.Str} {cs : Scope} {a : Addr} {ccd : Value} {cl : List (PySem.Str × Addr)} {outer : List Env} {A₀ : Around} {base h₀ : Heap} {L : Addr} {m : PySem.Str → Option Value} {s : Shared} {Q E : Value → Shared → Prop} {news : List (Addr × Obj)}
  {x n : Int} {t1 t2 : Tok}
  (B₀ : Below A₀ base outer h₀) (F₀ : Fr h₀ L s.heap m) (X₀ : (hd.heap_39 w.params).In h₀) (N₀ : News h₀ L s.heap news)
  (T₀ : Top hd.view_39 (looseW hd.view_39 []) mean mg mb h₀) (hk : cs.kind = .function) (hdp : dp + 1 < recursionLimit) (hun : un + 8 < cLine)
  (hn0 : 1 < n) (hn1 : n < 128) (hx0 : 0 ≤ x) (hx1 : x < n) (hc : x ≠ 0 → ∃ u v : Int, u * x + v * n = 1)
  (hret : ∀ (r : Int) (u1 : Tok) (h' : Heap) (tk' : Nat) (news' : List (Addr × Obj)), 0 ≤ r → r < n → (x = 0 → r = 0) → (x ≠ 0 → r * x % n = 1) → Fr h₀ L h' m → News h₀ L h' news' → (∀ p ∈ news, p ∈ news') → Q (.int r u1) { s with heap := h', toks := tk' }) :
  wpAny (model PySem.Challenge.rw_bw0036_01.row.prog w) (ktrTop dp un gd cn cs L a ccd cl outer) (call (.ref 21) [.int x t1, .int n t2]) Q E s := by
  revert X₀; k_fill; intro X₀
  refine wpAny_call ?_
  k_dflt cell_enter
  k_with "exec While Compare cons nil" => k_while (fun _ lm low hm high => InvJ x n lm low hm high) (fun _ lm low hm high => low.toNat) "lm" "low" "hm" "high"
  k_with "state" => exact inv_start (by assumption) (by assumption) (by assumption) (hc (by assumption)) (by assumption)
  k_with "state" => exact (inv_turn (by assumption) (by assumption) (by assumption)).1
  k_with "measure" => exact (inv_turn (by assumption) (by assumption) (by assumption)).2
  k_steps
  · refine' hret _ _ _ _ _ (by omega) (by omega) (fun _ => rfl) (fun h => absurd (by assumption) h) (by assumption) (by assumption) ?sub1
    case sub1 => kcj_all
  · refine' hret _ _ _ _ _ (by omega) (by omega) (fun h => absurd h (by assumption)) (fun _ => inv_end (by assumption) (by assumption) (by assumption)) (by assumption) (by assumption) ?sub2
    case sub2 => kcj_all
  k_with_none

end Mine
end

/- part C4 -/
section
open PySem PySem.W PyProof.Rows PySem.Calls PySem.Spec
namespace Mine

local macro_rules | `(tactic| walk_at "binaryOp Mod int int") => `(tactic| (k_here; (with_reducible refine my_mod ?kbe ?_); (case kbe => omega); intro r' hr' h0' h1'))
local macro_rules | `(tactic| walk_at "binaryOp FloorDiv int int") => `(tactic| (k_here; (with_reducible refine my_fdiv ?kbe ?kbf ?_); (case kbe => omega); (case kbf => omega); intro r' hr' hd'))
local macro_rules | `(tactic| walk_at "binaryOp Mult int int") => `(tactic| (k_here; first | ((with_reducible refine my_mulL ?kbe ?_); (case kbe => omega)) | ((with_reducible refine my_mulR ?kbe ?_); (case kbe => omega))))
local macro_rules | `(tactic| walk_at "binaryOp Pow int int") => `(tactic| (k_here; first | ((with_reducible refine my_pow2 ?kbe ?_); (case kbe => omega)) | ((with_reducible refine my_pow3 ?kbe ?_); (case kbe => omega)) | ((with_reducible refine my_pow4 ?kbe ?_); (case kbe => omega))))
set_option maxHeartbeats 8000000 in
theorem c_toJac {w : World} {mean : ExcName → Option Value} {mg mb : PySem.Str → Option Value}
  {dp un : Nat} {gd : Option (List Code)} {cn : PySem.Str} {cs : Scope} {a : Addr} {ccd : Value} {cl : List (PySem.Str × Addr)} {outer : List Env} {A₀ : Around} {base h₀ : Heap} {L : Addr} {m : PySem.Str → Option Value} {s : Shared} {Q E : Value → Shared → Prop} {news : List (Addr × Obj)}
  {D : Addr} {x y : Int} {t1 t2 : Tok} {c : Nat}
  (B₀ : Below A₀ base outer h₀) (F₀ : Fr h₀ L s.heap m) (X₀ : (hd.heap_39 w.params).In h₀) (N₀ : News h₀ L s.heap news)
  (T₀ : Top hd.view_39 (looseW hd.view_39 []) mean mg mb h₀) (hk : cs.kind = .function) (hdp : dp + 1 < recursionLimit) (hun : un + 8 < cLine)
  (hm1 : (D, ({ cls := .type "tuple", data := .seq #[.int x t1, .int y t2] c } : Obj)) ∈ news)
  (hret : ∀ (D' : Addr) (u1 u2 u3 : Tok) (c' : Nat) (h' : Heap) (tk' : Nat) (news' : List (Addr × Obj)), Fr h₀ L h' m → News h₀ L h' news' → (D', ({ cls := .type "tuple", data := .seq #[.int x u1, .int y u2, .int 1 u3] c' } : Obj)) ∈ news' → (∀ p ∈ news, p ∈ news') → Q (.ref D') { s with heap := h', toks := tk' }) :
  wpAny (model PySem.Challenge.rw_bw0036_01.row.prog w) (ktrTop dp un gd cn cs L a ccd cl outer) (call (.ref 28) [.ref D]) Q E s := by
  have N₁ := newsC N₀ (N₀) hm1
  clear N₀ hm1
  revert X₀; k_fill; intro X₀
  refine wpAny_call ?_
  k_dflt cell_enter
  k_steps
  refine' hret _ _ _ _ _ _ _ _ (by assumption) (by assumption) ?mem1 ?sub1
  case mem1 => k_mem
  case sub1 => kcj_all
local macro_rules | `(tactic| walk_at "call ref") => `(tactic| (k_here; (with_reducible show wpAny _ _ (call (Value.ref 21) [Value.int _ _, Value.int _ _]) _ _ _); k_dflt (refine' c_inv ?kB ?kF ?kX ?kN ?kT ?kK ?kd ?ku  ?kh0 ?kh1 ?kh2 ?kh3 ?kh4 ?_; (case kB => k_asm); (case kF => k_asm); (case kX => k_asm); (case kN => k_asm); (case kT => k_asm); (case kK => first | exact rfl | assumption); (case kd => ktr_room); (case ku => ktr_units); (case kh0 => omega); (case kh1 => omega); (case kh2 => omega); (case kh3 => omega); (case kh4 => exact fun hz9 => Pr.bez (by assumption) hz9 (by omega) (by omega))); intro r' u1' h' tk' news' p0' p1' p2' p3' F' N' sub'; (have N'' := newsSub N' sub'); clear N' sub'; (try dsimp only)))

def FrEq (P x y z X Y : Int) : Prop := ∃ i : Int, (z = 0 → i = 0) ∧ (z ≠ 0 → i * z % P = 1) ∧ X = x * i ^ 2 % P ∧ Y = y * i ^ 3 % P
set_option maxHeartbeats 8000000 in
theorem c_fromJ {w : World} {mean : ExcName → Option Value} {mg mb : PySem.Str → Option Value}
  {dp un : Nat} {gd : Option (List Code)} {cn : PySem.Str} {cs : Scope} {a : Addr} {ccd : Value} {cl : List (PySem.Str × Addr)} {outer : List Env} {A₀ : Around} {base h₀ : Heap} {L : Addr} {m : PySem.Str → Option Value} {s : Shared} {Q E : Value → Shared → Prop} {news : List (Addr × Obj)}
  {D : Addr} {x y z : Int} {t1 t2 t3 : Tok} {c : Nat} {C : Addr} {P N A B Gx Gy : Int} {cP cN cA cB cGx cGy : Tok} {cc : Nat}
  (B₀ : Below A₀ base outer h₀) (F₀ : Fr h₀ L s.heap m) (X₀ : (hd.heap_39 w.params).In h₀) (N₀ : News h₀ L s.heap news)
  (T₀ : Top hd.view_39 (looseW hd.view_39 []) mean mg mb h₀) (hk : cs.kind = .function) (hdp : dp + 2 < recursionLimit) (hun : un + 16 < cLine)
  (hm1 : (D, ({ cls := .type "tuple", data := .seq #[.int x t1, .int y t2, .int z t3] c } : Obj)) ∈ news)
  (hm2 : (C, ({ cls := .type "tuple", data := .seq #[.int P cP, .int N cN, .int A cA, .int B cB, .int Gx cGx, .int Gy cGy] cc } : Obj)) ∈ news)
  (hP : Pr P) (hP1 : P < 128) (hx0 : 0 ≤ x) (hx1 : x < P) (hy0 : 0 ≤ y) (hy1 : y < P) (hz0 : 0 ≤ z) (hz1 : z < P)
  (hret : ∀ (D' : Addr) (X Y : Int) (u1 u2 : Tok) (c' : Nat) (h' : Heap) (tk' : Nat) (news' : List (Addr × Obj)), FrEq P x y z X Y → Fr h₀ L h' m → News h₀ L h' news' → (D', ({ cls := .type "tuple", data := .seq #[.int X u1, .int Y u2] c' } : Obj)) ∈ news' → (∀ p ∈ news, p ∈ news') → Q (.ref D') { s with heap := h', toks := tk' }) :
  wpAny (model PySem.Challenge.rw_bw0036_01.row.prog w) (ktrTop dp un gd cn cs L a ccd cl outer) (call (.ref 49) [.ref D, .ref C]) Q E s := by
  have N₁ := newsC N₀ (newsC N₀ (N₀) hm2) hm1
  clear N₀ hm1 hm2
  revert X₀; k_fill; intro X₀
  have hP0 := hP.1
  refine wpAny_call ?_
  k_dflt cell_enter
  k_steps
  · refine' hret _ _ _ _ _ _ _ _ _ ?post1 (by assumption) (by assumption) ?mem1 ?sub1
    case mem1 => k_mem
    case sub1 => kcj_all
    case post1 =>
      exact ⟨_, by assumption, by assumption, by assumption, by assumption⟩

end Mine
end

/- part C5 -/
section
open PySem PySem.W PyProof.Rows PySem.Calls PySem.Spec
namespace Mine

local macro_rules | `(tactic| walk_at "binaryOp Mod int int") => `(tactic| (k_here; (with_reducible refine my_mod ?kbe ?_); (case kbe => omega); intro r' hr' h0' h1'))
local macro_rules | `(tactic| walk_at "binaryOp FloorDiv int int") => `(tactic| (k_here; (with_reducible refine my_fdiv ?kbe ?kbf ?_); (case kbe => omega); (case kbf => omega); intro r' hr' hd'))
local macro_rules | `(tactic| walk_at "binaryOp Mult int int") => `(tactic| (k_here; first | ((with_reducible refine my_mulL ?kbe ?_); (case kbe => omega)) | ((with_reducible refine my_mulR ?kbe ?_); (case kbe => omega))))
local macro_rules | `(tactic| walk_at "binaryOp Pow int int") => `(tactic| (k_here; first | ((with_reducible refine my_pow2 ?kbe ?_); (case kbe => omega)) | ((with_reducible refine my_pow3 ?kbe ?_); (case kbe => omega)) | ((with_reducible refine my_pow4 ?kbe ?_); (case kbe => omega))))
def JMul (w : World) (mean : ExcName → Option Value) (mg mb : PySem.Str → Option Value) (P N A B Gx Gy : Int) (NN : Nat) (X Y : Nat → Int) (i e : Nat) : Prop :=
  ∀ {dp un : Nat} {gd : Option (List Code)} {cn : PySem.Str} {cs : Scope} {a : Addr} {ccd : Value} {cl : List (PySem.Str × Addr)} {outer : List Env} {A₀ : Around} {base h₀ : Heap} {L : Addr} {m : PySem.Str → Option Value} {s : Shared} {Q E : Value → Shared → Prop} {news : List (Addr × Obj)}
  {D : Addr} {t1 t2 t3 : Tok} {c : Nat} {n : Int} {tn : Tok} {C : Addr} {cP cN cA cB cGx cGy : Tok} {cc : Nat}
  (B₀ : Below A₀ base outer h₀) (F₀ : Fr h₀ L s.heap m) (X₀ : (hd.heap_39 w.params).In h₀) (N₀ : News h₀ L s.heap news)
  (T₀ : Top hd.view_39 (looseW hd.view_39 []) mean mg mb h₀) (hk : cs.kind = .function) (hdp : dp + e + 3 < recursionLimit) (hun : un + 8 * (e + 3) < cLine)
  (hm1 : (D, ({ cls := .type "tuple", data := .seq #[.int (X i) t1, .int (Y i) t2, .int 1 t3] c } : Obj)) ∈ news)
  (hm2 : (C, ({ cls := .type "tuple", data := .seq #[.int P cP, .int N cN, .int A cA, .int B cB, .int Gx cGx, .int Gy cGy] cc } : Obj)) ∈ news)
  (hn0 : 0 ≤ n) (hn1 : n < 2 ^ e) (hn2 : n < N)
  (hret : ∀ (D' : Addr) (x y z : Int) (u1 u2 u3 : Tok) (c' : Nat) (h' : Heap) (tk' : Nat) (news' : List (Addr × Obj)), ((0 ≤ x ∧ x < P ∧ 0 ≤ y ∧ y < P ∧ 0 ≤ z ∧ z < P) ∧ Rep P X Y (i * n.toNat % NN) x y z) → Fr h₀ L h' m → News h₀ L h' news' → (D', ({ cls := .type "tuple", data := .seq #[.int x u1, .int y u2, .int z u3] c' } : Obj)) ∈ news' → (∀ p ∈ news, p ∈ news') → Q (.ref D') { s with heap := h', toks := tk' }),
  wpAny (model PySem.Challenge.rw_bw0036_01.row.prog w) (ktrTop dp un gd cn cs L a ccd cl outer) (call (.ref 56) [.ref D, .int n tn, .ref C]) Q E s

theorem jmul_use {w : World} {mean : ExcName → Option Value} {mg mb : PySem.Str → Option Value} {P N A B Gx Gy : Int} {NN : Nat} {X Y : Nat → Int} {i e : Nat} (H : JMul w mean mg mb P N A B Gx Gy NN X Y i e)
{dp un : Nat} {gd : Option (List Code)} {cn : PySem.Str} {cs : Scope} {a : Addr} {ccd : Value} {cl : List (PySem.Str × Addr)} {outer : List Env} {A₀ : Around} {base h₀ : Heap} {L : Addr} {m : PySem.Str → Option Value} {s : Shared} {Q E : Value → Shared → Prop} {news : List (Addr × Obj)}
  {D : Addr} {t1 t2 t3 : Tok} {c : Nat} {n : Int} {tn : Tok} {C : Addr} {cP cN cA cB cGx cGy : Tok} {cc : Nat}
  (B₀ : Below A₀ base outer h₀) (F₀ : Fr h₀ L s.heap m) (X₀ : (hd.heap_39 w.params).In h₀) (N₀ : News h₀ L s.heap news)
  (T₀ : Top hd.view_39 (looseW hd.view_39 []) mean mg mb h₀) (hk : cs.kind = .function) (hdp : dp + e + 3 < recursionLimit) (hun : un + 8 * (e + 3) < cLine)
  (hm1 : (D, ({ cls := .type "tuple", data := .seq #[.int (X i) t1, .int (Y i) t2, .int 1 t3] c } : Obj)) ∈ news)
  (hm2 : (C, ({ cls := .type "tuple", data := .seq #[.int P cP, .int N cN, .int A cA, .int B cB, .int Gx cGx, .int Gy cGy] cc } : Obj)) ∈ news)
  (hn0 : 0 ≤ n) (hn1 : n < 2 ^ e) (hn2 : n < N)
  (hret : ∀ (D' : Addr) (x y z : Int) (u1 u2 u3 : Tok) (c' : Nat) (h' : Heap) (tk' : Nat) (news' : List (Addr × Obj)), ((0 ≤ x ∧ x < P ∧ 0 ≤ y ∧ y < P ∧ 0 ≤ z ∧ z < P) ∧ Rep P X Y (i * n.toNat % NN) x y z) → Fr h₀ L h' m → News h₀ L h' news' → (D', ({ cls := .type "tuple", data := .seq #[.int x u1, .int y u2, .int z u3] c' } : Obj)) ∈ news' → (∀ p ∈ news, p ∈ news') → Q (.ref D') { s with heap := h', toks := tk' }) :
  wpAny (model PySem.Challenge.rw_bw0036_01.row.prog w) (ktrTop dp un gd cn cs L a ccd cl outer) (call (.ref 56) [.ref D, .int n tn, .ref C]) Q E s :=
  H B₀ F₀ X₀ N₀ T₀ hk hdp hun hm1 hm2 hn0 hn1 hn2 hret
local macro_rules | `(tactic| walk_at "call ref") => `(tactic| (k_here; (with_reducible show wpAny _ _ (call (Value.ref 35) [Value.ref _, Value.ref _]) _ _ _); k_dflt (refine' c_dbl ?kB ?kF ?kX ?kN ?kT ?kK ?kd ?ku ?km0 ?km1 ?kh0 ?kh1 ?kh2 ?kh3 ?kh4 ?kh5 ?kh6 ?kh7 ?kh8 ?kh9 ?_; (case kB => k_asm); (case kF => k_asm); (case kX => k_asm); (case kN => k_asm); (case kT => k_asm); (case kK => first | exact rfl | assumption); (case kd => ktr_room); (case ku => ktr_units); (case km0 => k_mem); (case km1 => k_mem); (case kh0 => omega); (case kh1 => omega); (case kh2 => omega); (case kh3 => omega); (case kh4 => omega); (case kh5 => omega); (case kh6 => omega); (case kh7 => omega); (case kh8 => omega); (case kh9 => omega)); intro D' x0' x1' x2' u0' u1' u2' c' h' tk' news' post' F' N' mem' sub'; (have N'' := newsC N' (newsSub N' sub') mem'); clear N' mem' sub'; (obtain ⟨⟨_, _, _, _, _, _⟩, post'⟩ := post'); (try dsimp only)))
local macro_rules | `(tactic| walk_at "call ref") => `(tactic| (k_here; (with_reducible show wpAny _ _ (call (Value.ref 42) [Value.ref _, Value.ref _, Value.ref _]) _ _ _); k_dflt (refine' c_jadd ?kB ?kF ?kX ?kN ?kT ?kK ?kd ?ku ?km0 ?km1 ?km2 ?kh0 ?kh1 ?kh2 ?kh3 ?kh4 ?kh5 ?kh6 ?kh7 ?kh8 ?kh9 ?kh10 ?kh11 ?kh12 ?kh13 ?kh14 ?kh15 ?_; (case kB => k_asm); (case kF => k_asm); (case kX => k_asm); (case kN => k_asm); (case kT => k_asm); (case kK => first | exact rfl | assumption); (case kd => ktr_room); (case ku => ktr_units); (case km0 => k_mem); (case km1 => k_mem); (case km2 => k_mem); (case kh0 => omega); (case kh1 => omega); (case kh2 => omega); (case kh3 => omega); (case kh4 => omega); (case kh5 => omega); (case kh6 => omega); (case kh7 => omega); (case kh8 => omega); (case kh9 => omega); (case kh10 => omega); (case kh11 => omega); (case kh12 => omega); (case kh13 => omega); (case kh14 => omega); (case kh15 => omega)); intro D' x0' x1' x2' u0' u1' u2' c' h' tk' news' post' F' N' mem' sub'; (have N'' := newsC N' (newsSub N' sub') mem'); clear N' mem' sub'; (obtain ⟨⟨_, _, _, _, _, _⟩, post'⟩ := post'); (try dsimp only)))
local macro_rules | `(tactic| walk_at "call ref") => `(tactic| (k_here; (with_reducible show wpAny _ _ (call (Value.ref 56) [Value.ref _, Value.int _ _, Value.ref _]) _ _ _); k_dflt (refine' jmul_use ?kH ?kB ?kF ?kX ?kN ?kT ?kK ?kd ?ku ?km1 ?km2 ?kh1 ?kh2 ?kh3 ?_; (case kH => assumption); (case kB => k_asm); (case kF => k_asm); (case kX => k_asm); (case kN => k_asm); (case kT => k_asm); (case kK => first | exact rfl | assumption); (case kd => ktr_room); (case ku => ktr_units); (case km1 => k_mem); (case km2 => k_mem); (case kh1 => omega); (case kh2 => omega); (case kh3 => omega)); intro D' x0' x1' x2' u0' u1' u2' c' h' tk' news' post' F' N' mem' sub'; (have N'' := newsC N' (newsSub N' sub') mem'); clear N' mem' sub'; (obtain ⟨⟨_, _, _, _, _, _⟩, post'⟩ := post'); (try dsimp only)))

set_option maxHeartbeats 8000000 in
theorem jmul_step {w : World} {mean : ExcName → Option Value} {mg mb : PySem.Str → Option Value} {P N A B Gx Gy : Int} {NN : Nat} {X Y : Nat → Int} {i e : Nat} (G : Grp P A NN X Y) (hN : N = NN) (hi : i < NN)
   (H : JMul w mean mg mb P N A B Gx Gy NN X Y i e) : JMul w mean mg mb P N A B Gx Gy NN X Y i (e + 1) := by
  unfold JMul
  intro dp un gd cn cs a ccd cl outer A₀ base h₀ L m s Q E news D t1 t2 t3 c n tn C cP cN cA cB cGx cGy cc B₀ F₀ X₀ N₀ T₀ hk hdp hun hm1 hm2 hn0 hn1 hn2 hret
  have N₁ := newsC N₀ (newsC N₀ N₀ hm2) hm1
  clear N₀ hm1 hm2
  have hn1' : n < 2 * 2 ^ e := by rw [Int.pow_succ] at hn1; omega
  have hP0 := G.pr.1
  have hP1 := G.P2
  have hA0 := G.A1
  have hA1 := G.A2
  have hx := G.bx i
  have hy := G.byy i
  revert X₀; k_fill; intro X₀
  refine wpAny_call ?_
  k_dflt cell_enter
  k_steps
  · refine' hret _ _ _ _ _ _ _ _ _ _ _ ?post1 (by assumption) (by assumption) ?mem1 ?sub1
    case mem1 => k_mem
    case sub1 => kcj_all
    case post1 =>
      exact ⟨by omega, jm_zero G hi (.inl (by assumption))⟩
  · refine' hret _ _ _ _ _ _ _ _ _ _ _ ?post2 (by assumption) (by assumption) ?mem2 ?sub2
    case mem2 => k_mem
    case sub2 => kcj_all
    case post2 =>
      exact ⟨by omega, jm_zero G hi (.inr (by assumption))⟩
  · refine' hret _ _ _ _ _ _ _ _ _ _ _ ?post3 (by assumption) (by assumption) ?mem3 ?sub3
    case mem3 => k_mem
    case sub3 => kcj_all
    case post3 =>
      exact ⟨by omega, jm_one G hi (by assumption)⟩
  · refine' hret _ _ _ _ _ _ _ _ _ _ _ ?post4 (by assumption) (by assumption) ?mem4 ?sub4
    case mem4 => k_mem
    case sub4 => kcj_all
    case post4 =>
      exact ⟨by omega, jm_even G (by omega) (by assumption) (by omega) (by assumption) (by assumption)⟩
  · refine' hret _ _ _ _ _ _ _ _ _ _ _ ?post5 (by assumption) (by assumption) ?mem5 ?sub5
    case mem5 => k_mem
    case sub5 => kcj_all
    case post5 =>
      exact ⟨by omega, jm_odd G hi (by omega) (by assumption) (by omega) (by assumption) (by assumption) (by assumption)⟩
  · exfalso
    omega

set_option maxHeartbeats 8000000 in
theorem jmul_base {w : World} {mean : ExcName → Option Value} {mg mb : PySem.Str → Option Value} {P N A B Gx Gy : Int} {NN : Nat} {X Y : Nat → Int} {i : Nat} (G : Grp P A NN X Y) (hN : N = NN) (hi : i < NN) :
   JMul w mean mg mb P N A B Gx Gy NN X Y i 0 := by
  unfold JMul
  intro dp un gd cn cs a ccd cl outer A₀ base h₀ L m s Q E news D t1 t2 t3 c n tn C cP cN cA cB cGx cGy cc B₀ F₀ X₀ N₀ T₀ hk hdp hun hm1 hm2 hn0 hn1 hn2 hret
  have N₁ := newsC N₀ (newsC N₀ N₀ hm2) hm1
  clear N₀ hm1 hm2
  have hn1' : n = 0 := by rw [Int.pow_zero] at hn1; omega
  have hP0 := G.pr.1
  have hP1 := G.P2
  revert X₀; k_fill; intro X₀
  refine wpAny_call ?_
  k_dflt cell_enter
  k_steps
  · refine' hret _ _ _ _ _ _ _ _ _ _ _ ?post6 (by assumption) (by assumption) ?mem6 ?sub6
    case mem6 => k_mem
    case sub6 => kcj_all
    case post6 =>
      exact ⟨by omega, jm_zero G hi (.inl (by assumption))⟩
  · refine' hret _ _ _ _ _ _ _ _ _ _ _ ?post7 (by assumption) (by assumption) ?mem7 ?sub7
    case mem7 => k_mem
    case sub7 => kcj_all
    case post7 =>
      exact ⟨by omega, jm_zero G hi (.inr (by omega))⟩
  · exfalso
    omega
theorem jmul_all {w : World} {mean : ExcName → Option Value} {mg mb : PySem.Str → Option Value} {P N A B Gx Gy : Int} {NN : Nat} {X Y : Nat → Int} {i : Nat} (G : Grp P A NN X Y) (hN : N = NN) (hi : i < NN) :
   ∀ e, JMul w mean mg mb P N A B Gx Gy NN X Y i e
  | 0 => jmul_base G hN hi
  | e + 1 => jmul_step G hN hi (jmul_all G hN hi e)

end Mine
end

/- part C6 -/
section
open PySem PySem.W PyProof.Rows PySem.Calls PySem.Spec
namespace Mine

local macro_rules | `(tactic| walk_at "binaryOp Mod int int") => `(tactic| (k_here; (with_reducible refine my_mod ?kbe ?_); (case kbe => omega); intro r' hr' h0' h1'))
local macro_rules | `(tactic| walk_at "binaryOp FloorDiv int int") => `(tactic| (k_here; (with_reducible refine my_fdiv ?kbe ?kbf ?_); (case kbe => omega); (case kbf => omega); intro r' hr' hd'))
local macro_rules | `(tactic| walk_at "binaryOp Mult int int") => `(tactic| (k_here; first | ((with_reducible refine my_mulL ?kbe ?_); (case kbe => omega)) | ((with_reducible refine my_mulR ?kbe ?_); (case kbe => omega))))
local macro_rules | `(tactic| walk_at "binaryOp Pow int int") => `(tactic| (k_here; first | ((with_reducible refine my_pow2 ?kbe ?_); (case kbe => omega)) | ((with_reducible refine my_pow3 ?kbe ?_); (case kbe => omega)) | ((with_reducible refine my_pow4 ?kbe ?_); (case kbe => omega))))
local macro_rules | `(tactic| walk_at "call ref") => `(tactic| (k_here; (with_reducible show wpAny _ _ (call (Value.ref 28) [Value.ref _]) _ _ _); k_dflt (refine' c_toJac ?kB ?kF ?kX ?kN ?kT ?kK ?kd ?ku ?km0  ?_; (case kB => k_asm); (case kF => k_asm); (case kX => k_asm); (case kN => k_asm); (case kT => k_asm); (case kK => first | exact rfl | assumption); (case kd => ktr_room); (case ku => ktr_units); (case km0 => k_mem)); intro D'  u0' u1' u2' c' h' tk' news'  F' N' mem' sub'; (have N'' := newsC N' (newsSub N' sub') mem'); clear N' mem' sub'; (try dsimp only)))
local macro_rules | `(tactic| walk_at "call ref") => `(tactic| (k_here; (with_reducible show wpAny _ _ (call (Value.ref 56) [Value.ref _, Value.int _ _, Value.ref _]) _ _ _); k_dflt (refine' jmul_use (jmul_all ?kG ?kN2 ?ki 7) ?kB ?kF ?kX ?kN ?kT ?kK ?kd ?ku ?km1 ?km2 ?kh1 ?kh2 ?kh3 ?_; (case kG => assumption); (case kB => k_asm); (case kF => k_asm); (case kX => k_asm); (case kN => k_asm); (case kT => k_asm); (case kK => first | exact rfl | assumption); (case kd => ktr_room); (case ku => ktr_units); (case km1 => k_mem); (case km2 => k_mem); (case kN2 => assumption); (case ki => assumption); (case kh1 => omega); (case kh2 => omega); (case kh3 => omega)); intro D' x0' x1' x2' u0' u1' u2' c' h' tk' news' post' F' N' mem' sub'; (have N'' := newsC N' (newsSub N' sub') mem'); clear N' mem' sub'; (obtain ⟨⟨_, _, _, _, _, _⟩, post'⟩ := post'); (try dsimp only)))
local macro_rules | `(tactic| walk_at "call ref") => `(tactic| (k_here; (with_reducible show wpAny _ _ (call (Value.ref 49) [Value.ref _, Value.ref _]) _ _ _); k_dflt (refine' c_fromJ ?kB ?kF ?kX ?kN ?kT ?kK ?kd ?ku ?km0 ?km1 ?kh0 ?kh1 ?kh2 ?kh3 ?kh4 ?kh5 ?kh6 ?kh7 ?_; (case kB => k_asm); (case kF => k_asm); (case kX => k_asm); (case kN => k_asm); (case kT => k_asm); (case kK => first | exact rfl | assumption); (case kd => ktr_room); (case ku => ktr_units); (case kh0 => assumption); (case km0 => k_mem); (case km1 => k_mem); (case kh1 => omega); (case kh2 => omega); (case kh3 => omega); (case kh4 => omega); (case kh5 => omega); (case kh6 => omega); (case kh7 => omega)); intro D' x0' x1' u0' u1' c' h' tk' news' post' F' N' mem' sub'; (have N'' := newsC N' (newsSub N' sub') mem'); clear N' mem' sub'; (try dsimp only)))
local macro_rules | `(tactic| walk_at "call ref") => `(tactic| (k_here; (with_reducible show wpAny _ _ (call (Value.ref 42) [Value.ref _, Value.ref _, Value.ref _]) _ _ _); k_dflt (refine' c_jadd ?kB ?kF ?kX ?kN ?kT ?kK ?kd ?ku ?km0 ?km1 ?km2 ?kh0 ?kh1 ?kh2 ?kh3 ?kh4 ?kh5 ?kh6 ?kh7 ?kh8 ?kh9 ?kh10 ?kh11 ?kh12 ?kh13 ?kh14 ?kh15 ?_; (case kB => k_asm); (case kF => k_asm); (case kX => k_asm); (case kN => k_asm); (case kT => k_asm); (case kK => first | exact rfl | assumption); (case kd => ktr_room); (case ku => ktr_units); (case km0 => k_mem); (case km1 => k_mem); (case km2 => k_mem); (case kh0 => omega); (case kh1 => omega); (case kh2 => omega); (case kh3 => omega); (case kh4 => omega); (case kh5 => omega); (case kh6 => omega); (case kh7 => omega); (case kh8 => omega); (case kh9 => omega); (case kh10 => omega); (case kh11 => omega); (case kh12 => omega); (case kh13 => omega); (case kh14 => omega); (case kh15 => omega)); intro D' x0' x1' x2' u0' u1' u2' c' h' tk' news' post' F' N' mem' sub'; (have N'' := newsC N' (newsSub N' sub') mem'); clear N' mem' sub'; (obtain ⟨⟨_, _, _, _, _, _⟩, post'⟩ := post'); (try dsimp only)))

theorem mul_end {P A : Int} {NN : Nat} {X Y : Nat → Int} (G : Grp P A NN X Y) {K : Nat} {x y z u v : Int} (R : Rep P X Y K x y z) (F : FrEq P x y z u v) : u = X K ∧ v = Y K := by
  obtain ⟨i, h0, h1, rfl, rfl⟩ := F
  exact Rep.fromJ G R h0 h1
theorem add_end {P A : Int} {NN : Nat} {X Y : Nat → Int} (G : Grp P A NN X Y) {i j : Nat} (hi : i < NN) (hj : j < NN) {x y z u v : Int} (J : JAddEq P A (X i) (Y i) 1 (X j) (Y j) 1 x y z) (F : FrEq P x y z u v) : u = X ((i + j) % NN) ∧ v = Y ((i + j) % NN) :=
  mul_end G (Rep.jadd G hi hj (Rep.aff G hi) J) F
set_option maxHeartbeats 8000000 in
theorem c_mul {w : World} {mean : ExcName → Option Value} {mg mb : PySem.Str → Option Value}
  {dp un : Nat} {gd : Option (List Code)} {cn : PySem.Str} {cs : Scope} {a : Addr} {ccd : Value} {cl : List (PySem.Str × Addr)} {outer : List Env} {A₀ : Around} {base h₀ : Heap} {L : Addr} {m : PySem.Str → Option Value} {s : Shared} {Q E : Value → Shared → Prop} {news : List (Addr × Obj)}
  {D : Addr} {X Y : Nat → Int} {NN i : Nat} {n : Int} {t1 t2 tn : Tok} {c : Nat} {C : Addr} {P N A B Gx Gy : Int} {cP cN cA cB cGx cGy : Tok} {cc : Nat}
  (B₀ : Below A₀ base outer h₀) (F₀ : Fr h₀ L s.heap m) (X₀ : (hd.heap_39 w.params).In h₀) (N₀ : News h₀ L s.heap news)
  (T₀ : Top hd.view_39 (looseW hd.view_39 []) mean mg mb h₀) (hk : cs.kind = .function) (hdp : dp + 12 < recursionLimit) (hun : un + 96 < cLine)
  (hm1 : (D, ({ cls := .type "tuple", data := .seq #[.int (X i) t1, .int (Y i) t2] c } : Obj)) ∈ news)
  (hm2 : (C, ({ cls := .type "tuple", data := .seq #[.int P cP, .int N cN, .int A cA, .int B cB, .int Gx cGx, .int Gy cGy] cc } : Obj)) ∈ news)
  (G : Grp P A NN X Y) (hN : N = NN) (hi : i < NN) (hn0 : 0 ≤ n) (hn1 : n < N)
  (hret : ∀ (D' : Addr) (x y : Int) (u1 u2 : Tok) (c' : Nat) (h' : Heap) (tk' : Nat) (news' : List (Addr × Obj)), (x = X (i * n.toNat % NN) ∧ y = Y (i * n.toNat % NN)) → Fr h₀ L h' m → News h₀ L h' news' → (D', ({ cls := .type "tuple", data := .seq #[.int x u1, .int y u2] c' } : Obj)) ∈ news' → (∀ p ∈ news, p ∈ news') → Q (.ref D') { s with heap := h', toks := tk' }) :
  wpAny (model PySem.Challenge.rw_bw0036_01.row.prog w) (ktrTop dp un gd cn cs L a ccd cl outer) (call (.ref 63) [.ref D, .int n tn, .ref C]) Q E s := by
  have N₁ := newsC N₀ (newsC N₀ (N₀) hm2) hm1
  clear N₀ hm1 hm2
  revert X₀; k_fill; intro X₀
  have hP := G.pr
  have hP0 := hP.1
  have hP1 := G.P2
  have hA0 := G.A1
  have hA1 := G.A2
  have hN2 := G.N2
  have bx := G.bx i
  have by' := G.byy i
  refine wpAny_call ?_
  k_dflt cell_enter
  k_steps
  · refine' hret _ _ _ _ _ _ _ _ _ ?post1 (by assumption) (by assumption) ?mem1 ?sub1
    case mem1 => k_mem
    case sub1 => kcj_all
    case post1 =>
      exact mul_end G (by assumption) (by assumption)
set_option maxHeartbeats 8000000 in
theorem c_add {w : World} {mean : ExcName → Option Value} {mg mb : PySem.Str → Option Value}
  {dp un : Nat} {gd : Option (List Code)} {cn : PySem.Str} {cs : Scope} {a : Addr} {ccd : Value} {cl : List (PySem.Str × Addr)} {outer : List Env} {A₀ : Around} {base h₀ : Heap} {L : Addr} {m : PySem.Str → Option Value} {s : Shared} {Q E : Value → Shared → Prop} {news : List (Addr × Obj)}
  {D D2 : Addr} {X Y : Nat → Int} {NN i j : Nat} {t1 t2 t3 t4 : Tok} {c c2 : Nat} {C : Addr} {P N A B Gx Gy : Int} {cP cN cA cB cGx cGy : Tok} {cc : Nat}
  (B₀ : Below A₀ base outer h₀) (F₀ : Fr h₀ L s.heap m) (X₀ : (hd.heap_39 w.params).In h₀) (N₀ : News h₀ L s.heap news)
  (T₀ : Top hd.view_39 (looseW hd.view_39 []) mean mg mb h₀) (hk : cs.kind = .function) (hdp : dp + 12 < recursionLimit) (hun : un + 96 < cLine)
  (hm1 : (D, ({ cls := .type "tuple", data := .seq #[.int (X i) t1, .int (Y i) t2] c } : Obj)) ∈ news)
  (hm2 : (D2, ({ cls := .type "tuple", data := .seq #[.int (X j) t3, .int (Y j) t4] c2 } : Obj)) ∈ news)
  (hm3 : (C, ({ cls := .type "tuple", data := .seq #[.int P cP, .int N cN, .int A cA, .int B cB, .int Gx cGx, .int Gy cGy] cc } : Obj)) ∈ news)
  (G : Grp P A NN X Y) (hN : N = NN) (hi : i < NN) (hj : j < NN)
  (hret : ∀ (D' : Addr) (x y : Int) (u1 u2 : Tok) (c' : Nat) (h' : Heap) (tk' : Nat) (news' : List (Addr × Obj)), (x = X ((i + j) % NN) ∧ y = Y ((i + j) % NN)) → Fr h₀ L h' m → News h₀ L h' news' → (D', ({ cls := .type "tuple", data := .seq #[.int x u1, .int y u2] c' } : Obj)) ∈ news' → (∀ p ∈ news, p ∈ news') → Q (.ref D') { s with heap := h', toks := tk' }) :
  wpAny (model PySem.Challenge.rw_bw0036_01.row.prog w) (ktrTop dp un gd cn cs L a ccd cl outer) (call (.ref 70) [.ref D, .ref D2, .ref C]) Q E s := by
  have N₁ := newsC N₀ (newsC N₀ (newsC N₀ (N₀) hm3) hm2) hm1
  clear N₀ hm1 hm2 hm3
  revert X₀; k_fill; intro X₀
  have hP := G.pr
  have hP0 := hP.1
  have hP1 := G.P2
  have hA0 := G.A1
  have hA1 := G.A2
  have hN2 := G.N2
  have bx := G.bx i
  have by' := G.byy i
  have bx2 := G.bx j
  have by2 := G.byy j
  refine wpAny_call ?_
  k_dflt cell_enter
  k_steps
  · refine' hret _ _ _ _ _ _ _ _ _ ?post2 (by assumption) (by assumption) ?mem2 ?sub2
    case mem2 => k_mem
    case sub2 => kcj_all
    case post2 =>
      exact add_end G hi hj (by assumption) (by assumption)

end Mine
end

/- part C7 -/
section
open PySem PySem.W PyProof.Rows PySem.Calls PySem.Spec
namespace Mine

local macro_rules | `(tactic| walk_at "binaryOp Mod int int") => `(tactic| (k_here; (with_reducible refine my_mod ?kbe ?_); (case kbe => omega); intro r' hr' h0' h1'))
local macro_rules | `(tactic| walk_at "binaryOp FloorDiv int int") => `(tactic| (k_here; (with_reducible refine my_fdiv ?kbe ?kbf ?_); (case kbe => omega); (case kbf => omega); intro r' hr' hd'))
local macro_rules | `(tactic| walk_at "binaryOp Mult int int") => `(tactic| (k_here; first | ((with_reducible refine my_mulL ?kbe ?_); (case kbe => omega)) | ((with_reducible refine my_mulR ?kbe ?_); (case kbe => omega))))
local macro_rules | `(tactic| walk_at "binaryOp Pow int int") => `(tactic| (k_here; first | ((with_reducible refine my_pow2 ?kbe ?_); (case kbe => omega)) | ((with_reducible refine my_pow3 ?kbe ?_); (case kbe => omega)) | ((with_reducible refine my_pow4 ?kbe ?_); (case kbe => omega))))
set_option maxHeartbeats 8000000 in
theorem c_at {w : World} {mean : ExcName → Option Value} {mg mb : PySem.Str → Option Value}
  {dp un : Nat} {gd : Option (List Code)} {cn : PySem.Str} {cs : Scope} {a : Addr} {ccd : Value} {cl : List (PySem.Str × Addr)} {outer : List Env} {A₀ : Around} {base h₀ : Heap} {L : Addr} {m : PySem.Str → Option Value} {s : Shared} {Q E : Value → Shared → Prop} {news : List (Addr × Obj)}
  {l : Addr} {vs : List Value} {ns : List Int} {k : Int} {tk : Tok}
  (B₀ : Below A₀ base outer h₀) (F₀ : Fr h₀ L s.heap m) (X₀ : (hd.heap_39 w.params).In h₀) (N₀ : News h₀ L s.heap news)
  (T₀ : Top hd.view_39 (looseW hd.view_39 []) mean mg mb h₀) (hk : cs.kind = .function) (hdp : dp + 1 < recursionLimit) (hun : un + 8 < cLine)
  (hl : base.IsList l vs.toArray) (hi : IntsAre vs ns) (hlen : ns.length < 64) (hk0 : 0 ≤ k) (hk1 : k < 100)
  (hret : ∀ (r : Int) (u1 : Tok) (h' : Heap) (tk' : Nat) (news' : List (Addr × Obj)), Fr h₀ L h' m → News h₀ L h' news' → (∀ p ∈ news, p ∈ news') → Q (.int r u1) { s with heap := h', toks := tk' }) :
  wpAny (model PySem.Challenge.rw_bw0036_01.row.prog w) (ktrTop dp un gd cn cs L a ccd cl outer) (call (.ref 84) [.ref l, .int k tk]) Q E s := by
  revert X₀; k_fill; intro X₀
  refine wpAny_call ?_
  k_dflt cell_enter
  k_steps
  all_goals first
    | exact hret _ _ _ _ _ (by assumption) (by assumption) (fun _ h => h)
set_option maxHeartbeats 8000000 in
theorem c_addG {w : World} {mean : ExcName → Option Value} {mg mb : PySem.Str → Option Value}
  {dp un : Nat} {gd : Option (List Code)} {cn : PySem.Str} {cs : Scope} {a : Addr} {ccd : Value} {cl : List (PySem.Str × Addr)} {outer : List Env} {A₀ : Around} {base h₀ : Heap} {L : Addr} {m : PySem.Str → Option Value} {s : Shared} {Q E : Value → Shared → Prop} {news : List (Addr × Obj)}
  {D D2 : Addr} {X Y : Nat → Int} {NN i j : Nat} {x1 y1 x2 y2 : Int} {t1 t2 t3 t4 : Tok} {c c2 : Nat} {C : Addr} {P N A B Gx Gy : Int} {cP cN cA cB cGx cGy : Tok} {cc : Nat}
  (B₀ : Below A₀ base outer h₀) (F₀ : Fr h₀ L s.heap m) (X₀ : (hd.heap_39 w.params).In h₀) (N₀ : News h₀ L s.heap news)
  (T₀ : Top hd.view_39 (looseW hd.view_39 []) mean mg mb h₀) (hk : cs.kind = .function) (hdp : dp + 12 < recursionLimit) (hun : un + 96 < cLine)
  (hm1 : (D, ({ cls := .type "tuple", data := .seq #[.int x1 t1, .int y1 t2] c } : Obj)) ∈ news)
  (hm2 : (D2, ({ cls := .type "tuple", data := .seq #[.int x2 t3, .int y2 t4] c2 } : Obj)) ∈ news)
  (hm3 : (C, ({ cls := .type "tuple", data := .seq #[.int P cP, .int N cN, .int A cA, .int B cB, .int Gx cGx, .int Gy cGy] cc } : Obj)) ∈ news)
  (G : Grp P A NN X Y) (hN : N = NN) (h1 : x1 = X i ∧ y1 = Y i) (h2 : x2 = X j ∧ y2 = Y j) (hi : i < NN) (hj : j < NN)
  (hret : ∀ (D' : Addr) (x y : Int) (u1 u2 : Tok) (c' : Nat) (h' : Heap) (tk' : Nat) (news' : List (Addr × Obj)), (x = X ((i + j) % NN) ∧ y = Y ((i + j) % NN)) → Fr h₀ L h' m → News h₀ L h' news' → (D', ({ cls := .type "tuple", data := .seq #[.int x u1, .int y u2] c' } : Obj)) ∈ news' → (∀ p ∈ news, p ∈ news') → Q (.ref D') { s with heap := h', toks := tk' }) :
  wpAny (model PySem.Challenge.rw_bw0036_01.row.prog w) (ktrTop dp un gd cn cs L a ccd cl outer) (call (.ref 70) [.ref D, .ref D2, .ref C]) Q E s := by
  obtain ⟨rfl, rfl⟩ := h1
  obtain ⟨rfl, rfl⟩ := h2
  exact c_add B₀ F₀ X₀ N₀ T₀ hk hdp hun hm1 hm2 hm3 G hN hi hj hret
local macro_rules | `(tactic| walk_at "call ref") => `(tactic| (k_here; (with_reducible show wpAny _ _ (call (Value.ref 63) [Value.ref _, Value.int _ _, Value.ref _]) _ _ _); k_dflt (refine' c_mul ?kB ?kF ?kX ?kN ?kT ?kK ?kd ?ku ?km0 ?km1 ?kh0 ?kh1 ?kh2 ?kh3 ?kh4 ?_; (case kB => k_asm); (case kF => k_asm); (case kX => k_asm); (case kN => k_asm); (case kT => k_asm); (case kK => first | exact rfl | assumption); (case kd => ktr_room); (case ku => ktr_units); (case kh0 => assumption); (case kh1 => assumption); (case km0 => k_mem); (case km1 => k_mem); (case kh2 => first | assumption | exact Nat.mod_lt _ (by omega) | omega); (case kh3 => omega); (case kh4 => omega)); intro D' x0' x1' u0' u1' c' h' tk' news' post' F' N' mem' sub'; (have N'' := newsC N' (newsSub N' sub') mem'); clear N' mem' sub'; (obtain ⟨hx9, hy9⟩ := post'; subst hx9; subst hy9); (try dsimp only)))
local macro_rules | `(tactic| walk_at "call ref") => `(tactic| (k_here; (with_reducible show wpAny _ _ (call (Value.ref 70) [Value.ref _, Value.ref _, Value.ref _]) _ _ _); k_dflt (refine' c_add ?kB ?kF ?kX ?kN ?kT ?kK ?kd ?ku ?km0 ?km1 ?km2 ?kh0 ?kh1 ?kh2 ?kh3 ?_; (case kB => k_asm); (case kF => k_asm); (case kX => k_asm); (case kN => k_asm); (case kT => k_asm); (case kK => first | exact rfl | assumption); (case kd => ktr_room); (case ku => ktr_units); (case kh0 => assumption); (case kh1 => assumption); (case km0 => k_mem); (case km1 => k_mem); (case km2 => k_mem); (case kh2 => first | assumption | exact Nat.mod_lt _ (by omega) | omega); (case kh3 => first | assumption | exact Nat.mod_lt _ (by omega) | omega)); intro D' x0' x1' u0' u1' c' h' tk' news' post' F' N' mem' sub'; (have N'' := newsC N' (newsSub N' sub') mem'); clear N' mem' sub'; (obtain ⟨hx9, hy9⟩ := post'; subst hx9; subst hy9); (try dsimp only)))
local macro_rules | `(tactic| walk_at "subscriptTail Name Slice ref ref") => `(tactic| (k_here; k_dflt (refine' my_slice4 ?F ?N ?m ?_ ?s ?t; (case F => k_asm); (case N => k_asm); (case m => k_mem); (case s => with_unfolding_all rfl); (case t => (intro _; with_unfolding_all rfl))); intro D' h' F' N'; (try k_sweep)))
set_option maxHeartbeats 8000000 in
theorem c_hidden {w : World} {mean : ExcName → Option Value} {mg mb : PySem.Str → Option Value}
  {dp un : Nat} {gd : Option (List Code)} {cn : PySem.Str} {cs : Scope} {a : Addr} {ccd : Value} {cl : List (PySem.Str × Addr)} {outer : List Env} {A₀ : Around} {base h₀ : Heap} {L : Addr} {m : PySem.Str → Option Value} {s : Shared} {Q E : Value → Shared → Prop} {news : List (Addr × Obj)}
  {D : Addr} {d : Nat} {x n : Int} {t1 t2 tx tn : Tok} {c : Nat} {C : Addr} {P N A B : Int} {cP cN cA cB cGx cGy : Tok} {cc : Nat} {X Y : Nat → Int} {NN : Nat}
  (B₀ : Below A₀ base outer h₀) (F₀ : Fr h₀ L s.heap m) (X₀ : (hd.heap_39 w.params).In h₀) (N₀ : News h₀ L s.heap news)
  (T₀ : Top hd.view_39 (looseW hd.view_39 []) mean mg mb h₀) (hk : cs.kind = .function) (hdp : dp + 15 < recursionLimit) (hun : un + 120 < cLine)
  (hm1 : (D, ({ cls := .type "tuple", data := .seq #[.int (X d) t1, .int (Y d) t2] c } : Obj)) ∈ news)
  (hm2 : (C, ({ cls := .type "tuple", data := .seq #[.int P cP, .int N cN, .int A cA, .int B cB, .int (X 1) cGx, .int (Y 1) cGy] cc } : Obj)) ∈ news)
  (G : Grp P A NN X Y) (hN : N = NN) (hd : d < NN) (hx0 : 0 ≤ x) (hx1 : x < N) (hn0 : 0 ≤ n) (hn1 : n < N)
  (hret : ∀ (R R1 R2 : Addr) (K1 K2 : Nat) (u1 u2 u3 u4 : Tok) (c' c1' c2' : Nat) (h' : Heap) (tk' : Nat) (news' : List (Addr × Obj)), (K1 = n.toNat ∧ K2 = (x.toNat + d * n.toNat) % NN) → Fr h₀ L h' m → News h₀ L h' news' → (R, ({ cls := .type "tuple", data := .seq #[.ref R1, .ref R2] c' } : Obj)) ∈ news' → (R1, ({ cls := .type "tuple", data := .seq #[.int (X K1) u1, .int (Y K1) u2] c1' } : Obj)) ∈ news' → (R2, ({ cls := .type "tuple", data := .seq #[.int (X K2) u3, .int (Y K2) u4] c2' } : Obj)) ∈ news' → (∀ p ∈ news, p ∈ news') → Q (.ref R) { s with heap := h', toks := tk' }) :
  wpAny (model PySem.Challenge.rw_bw0036_01.row.prog w) (ktrTop dp un gd cn cs L a ccd cl outer) (call (.ref 91) [.int x tx, .int n tn, .ref D, .ref C]) Q E s := by
  have N₁ := newsC N₀ (newsC N₀ (N₀) hm2) hm1
  clear N₀ hm1 hm2
  revert X₀; k_fill; intro X₀
  have hP := G.pr
  have hP0 := hP.1
  have hP1 := G.P2
  have hA0 := G.A1
  have hA1 := G.A2
  have hN1 := G.N1
  have hN2 := G.N2
  refine wpAny_call ?_
  k_dflt cell_enter
  k_steps
  · refine' hret _ _ _ _ _ _ _ _ _ _ _ _ _ _ _ ?post (by assumption) (by assumption) ?m0 ?m1 ?m2 ?sub
    case m0 => k_mem
    case m1 => k_mem
    case m2 => k_mem
    case sub => kcj_all
    case post => exact hid_end (by omega) (by omega)
set_option maxHeartbeats 8000000 in
theorem c_together {w : World} {mean : ExcName → Option Value} {mg mb : PySem.Str → Option Value}
  {dp un : Nat} {gd : Option (List Code)} {cn : PySem.Str} {cs : Scope} {a : Addr} {ccd : Value} {cl : List (PySem.Str × Addr)} {outer : List Env} {A₀ : Around} {base h₀ : Heap} {L : Addr} {m : PySem.Str → Option Value} {s : Shared} {Q E : Value → Shared → Prop} {news : List (Addr × Obj)}
  {W W1 W2 V V1 V2 : Addr} {a1 b1 a2 b2 : Nat} {t1 t2 t3 t4 t5 t6 t7 t8 : Tok} {c1 c2 c3 c4 c5 c6 : Nat} {C : Addr} {P N A B : Int} {cP cN cA cB cGx cGy : Tok} {cc : Nat} {X Y : Nat → Int} {NN : Nat}
  (B₀ : Below A₀ base outer h₀) (F₀ : Fr h₀ L s.heap m) (X₀ : (hd.heap_39 w.params).In h₀) (N₀ : News h₀ L s.heap news)
  (T₀ : Top hd.view_39 (looseW hd.view_39 []) mean mg mb h₀) (hk : cs.kind = .function) (hdp : dp + 15 < recursionLimit) (hun : un + 120 < cLine)
  (hm1 : (W, ({ cls := .type "tuple", data := .seq #[.ref W1, .ref W2] c1 } : Obj)) ∈ news)
  (hm2 : (W1, ({ cls := .type "tuple", data := .seq #[.int (X a1) t1, .int (Y a1) t2] c2 } : Obj)) ∈ news)
  (hm3 : (W2, ({ cls := .type "tuple", data := .seq #[.int (X b1) t3, .int (Y b1) t4] c3 } : Obj)) ∈ news)
  (hm4 : (V, ({ cls := .type "tuple", data := .seq #[.ref V1, .ref V2] c4 } : Obj)) ∈ news)
  (hm5 : (V1, ({ cls := .type "tuple", data := .seq #[.int (X a2) t5, .int (Y a2) t6] c5 } : Obj)) ∈ news)
  (hm6 : (V2, ({ cls := .type "tuple", data := .seq #[.int (X b2) t7, .int (Y b2) t8] c6 } : Obj)) ∈ news)
  (hm7 : (C, ({ cls := .type "tuple", data := .seq #[.int P cP, .int N cN, .int A cA, .int B cB, .int (X 1) cGx, .int (Y 1) cGy] cc } : Obj)) ∈ news)
  (G : Grp P A NN X Y) (hN : N = NN) (ha1 : a1 < NN) (hb1 : b1 < NN) (ha2 : a2 < NN) (hb2 : b2 < NN)
  (hret : ∀ (R R1 R2 : Addr) (K1 K2 : Nat) (u1 u2 u3 u4 : Tok) (c' c1' c2' : Nat) (h' : Heap) (tk' : Nat) (news' : List (Addr × Obj)), (K1 = (a1 + a2) % NN ∧ K2 = (b1 + b2) % NN) → Fr h₀ L h' m → News h₀ L h' news' → (R, ({ cls := .type "tuple", data := .seq #[.ref R1, .ref R2] c' } : Obj)) ∈ news' → (R1, ({ cls := .type "tuple", data := .seq #[.int (X K1) u1, .int (Y K1) u2] c1' } : Obj)) ∈ news' → (R2, ({ cls := .type "tuple", data := .seq #[.int (X K2) u3, .int (Y K2) u4] c2' } : Obj)) ∈ news' → (∀ p ∈ news, p ∈ news') → Q (.ref R) { s with heap := h', toks := tk' }) :
  wpAny (model PySem.Challenge.rw_bw0036_01.row.prog w) (ktrTop dp un gd cn cs L a ccd cl outer) (call (.ref 98) [.ref W, .ref V, .ref C]) Q E s := by
  have N₁ := newsC N₀ (newsC N₀ (newsC N₀ (newsC N₀ (newsC N₀ (newsC N₀ (newsC N₀ (N₀) hm7) hm6) hm5) hm4) hm3) hm2) hm1
  clear N₀ hm1 hm2 hm3 hm4 hm5 hm6 hm7
  revert X₀; k_fill; intro X₀
  have hP := G.pr
  have hP0 := hP.1
  have hP1 := G.P2
  have hA0 := G.A1
  have hA1 := G.A2
  have hN1 := G.N1
  have hN2 := G.N2
  refine wpAny_call ?_
  k_dflt cell_enter
  k_steps
  · refine' hret _ _ _ _ _ _ _ _ _ _ _ _ _ _ _ ?post (by assumption) (by assumption) ?m0 ?m1 ?m2 ?sub
    case m0 => k_mem
    case m1 => k_mem
    case m2 => k_mem
    case sub => kcj_all
    case post => exact ⟨rfl, rfl⟩
local macro_rules | `(tactic| walk_at "call ref") => `(tactic| (k_here; (with_reducible show wpAny _ _ (call (Value.ref 70) [Value.ref _, Value.ref _, Value.ref _]) _ _ _); k_dflt (refine' c_addG ?kB ?kF ?kX ?kN ?kT ?kK ?kd ?ku ?km0 ?km1 ?km2 ?kh0 ?kh1 ?kh2 ?kh3 ?kh4 ?kh5 ?_; (case kB => k_asm); (case kF => k_asm); (case kX => k_asm); (case kN => k_asm); (case kT => k_asm); (case kK => first | exact rfl | assumption); (case kd => ktr_room); (case ku => ktr_units); (case kh0 => assumption); (case kh1 => assumption); (case km0 => k_mem); (case km1 => k_mem); (case km2 => k_mem); (case kh2 => exact ⟨rfl, rfl⟩); (case kh3 => exact neg_of (by assumption) (by assumption) (Nat.mod_lt _ (by omega))); (case kh4 => first | assumption | exact Nat.mod_lt _ (by omega) | omega); (case kh5 => first | assumption | exact Nat.mod_lt _ (by omega) | omega)); intro D' x0' x1' u0' u1' c' h' tk' news' post' F' N' mem' sub'; (have N'' := newsC N' (newsSub N' sub') mem'); clear N' mem' sub'; (obtain ⟨hx9, hy9⟩ := post'; subst hx9; subst hy9); (try dsimp only)))
set_option maxHeartbeats 8000000 in
theorem c_opened {w : World} {mean : ExcName → Option Value} {mg mb : PySem.Str → Option Value}
  {dp un : Nat} {gd : Option (List Code)} {cn : PySem.Str} {cs : Scope} {a : Addr} {ccd : Value} {cl : List (PySem.Str × Addr)} {outer : List Env} {A₀ : Around} {base h₀ : Heap} {L : Addr} {m : PySem.Str → Option Value} {s : Shared} {Q E : Value → Shared → Prop} {news : List (Addr × Obj)}
  {W W1 W2 : Addr} {a1 b1 : Nat} {n : Int} {t1 t2 t3 t4 tn : Tok} {c1 c2 c3 : Nat} {C : Addr} {P N A B : Int} {cP cN cA cB cGx cGy : Tok} {cc : Nat} {X Y : Nat → Int} {NN : Nat}
  (B₀ : Below A₀ base outer h₀) (F₀ : Fr h₀ L s.heap m) (X₀ : (hd.heap_39 w.params).In h₀) (N₀ : News h₀ L s.heap news)
  (T₀ : Top hd.view_39 (looseW hd.view_39 []) mean mg mb h₀) (hk : cs.kind = .function) (hdp : dp + 15 < recursionLimit) (hun : un + 120 < cLine)
  (hm1 : (W, ({ cls := .type "tuple", data := .seq #[.ref W1, .ref W2] c1 } : Obj)) ∈ news)
  (hm2 : (W1, ({ cls := .type "tuple", data := .seq #[.int (X a1) t1, .int (Y a1) t2] c2 } : Obj)) ∈ news)
  (hm3 : (W2, ({ cls := .type "tuple", data := .seq #[.int (X b1) t3, .int (Y b1) t4] c3 } : Obj)) ∈ news)
  (hm4 : (C, ({ cls := .type "tuple", data := .seq #[.int P cP, .int N cN, .int A cA, .int B cB, .int (X 1) cGx, .int (Y 1) cGy] cc } : Obj)) ∈ news)
  (G : Grp P A NN X Y) (hN : N = NN) (ha1 : a1 < NN) (hb1 : b1 < NN) (hn0 : 0 ≤ n) (hn1 : n < N)
  (hret : ∀ (R : Addr) (K : Nat) (u1 u2 : Tok) (c' : Nat) (h' : Heap) (tk' : Nat) (news' : List (Addr × Obj)), (K = (b1 + (NN - a1 * n.toNat % NN) % NN) % NN) → Fr h₀ L h' m → News h₀ L h' news' → (R, ({ cls := .type "tuple", data := .seq #[.int (X K) u1, .int (Y K) u2] c' } : Obj)) ∈ news' → (∀ p ∈ news, p ∈ news') → Q (.ref R) { s with heap := h', toks := tk' }) :
  wpAny (model PySem.Challenge.rw_bw0036_01.row.prog w) (ktrTop dp un gd cn cs L a ccd cl outer) (call (.ref 105) [.ref W, .int n tn, .ref C]) Q E s := by
  have N₁ := newsC N₀ (newsC N₀ (newsC N₀ (newsC N₀ (N₀) hm4) hm3) hm2) hm1
  clear N₀ hm1 hm2 hm3 hm4
  revert X₀; k_fill; intro X₀
  have hP := G.pr
  have hP0 := hP.1
  have hP1 := G.P2
  have hA0 := G.A1
  have hA1 := G.A2
  have hN1 := G.N1
  have hN2 := G.N2
  refine wpAny_call ?_
  k_dflt cell_enter
  k_steps
  · refine' hret _ _ _ _ _ _ _ _ ?post (by assumption) (by assumption) ?m0 ?sub
    case m0 => k_mem
    case sub => kcj_all
    case post => rfl

end Mine
end

/- part C8 -/
section
open PySem PySem.W PyProof.Rows PySem.Calls PySem.Spec
namespace Mine

local macro_rules | `(tactic| walk_at "binaryOp Mod int int") => `(tactic| (k_here; (with_reducible refine my_mod ?kbe ?_); (case kbe => omega); intro r' hr' h0' h1'))
local macro_rules | `(tactic| walk_at "binaryOp FloorDiv int int") => `(tactic| (k_here; (with_reducible refine my_fdiv ?kbe ?kbf ?_); (case kbe => omega); (case kbf => omega); intro r' hr' hd'))
local macro_rules | `(tactic| walk_at "binaryOp Mult int int") => `(tactic| (k_here; first | ((with_reducible refine my_mulL ?kbe ?_); (case kbe => omega)) | ((with_reducible refine my_mulR ?kbe ?_); (case kbe => omega))))
local macro_rules | `(tactic| walk_at "binaryOp Pow int int") => `(tactic| (k_here; first | ((with_reducible refine my_pow2 ?kbe ?_); (case kbe => omega)) | ((with_reducible refine my_pow3 ?kbe ?_); (case kbe => omega)) | ((with_reducible refine my_pow4 ?kbe ?_); (case kbe => omega))))
local macro_rules | `(tactic| walk_at "call ref") => `(tactic| (k_here; (with_reducible show wpAny _ _ (call (Value.ref 70) [Value.ref _, Value.ref _, Value.ref _]) _ _ _); k_dflt (refine' c_add ?kB ?kF ?kX ?kN ?kT ?kK ?kd ?ku ?km0 ?km1 ?km2 ?kh0 ?kh1 ?kh2 ?kh3 ?_; (case kB => k_asm); (case kF => k_asm); (case kX => k_asm); (case kN => k_asm); (case kT => k_asm); (case kK => first | exact rfl | assumption); (case kd => ktr_room); (case ku => ktr_units); (case kh0 => assumption); (case kh1 => assumption); (case km0 => k_mem); (case km1 => k_mem); (case km2 => k_mem); (case kh2 => first | assumption | exact Nat.mod_lt _ (by omega) | omega); (case kh3 => first | assumption | exact Nat.mod_lt _ (by omega) | omega)); intro D' x0' x1' u0' u1' c' h' tk' news' post' F' N' mem' sub'; (have N'' := newsC N' (newsSub N' sub') mem'); clear N' mem' sub'; (obtain ⟨hx9, hy9⟩ := post'; subst hx9; subst hy9); (try dsimp only)))
local macro_rules | `(tactic| walk_at "subscriptTail Name Slice ref ref") => `(tactic| (k_here; k_dflt (refine' my_slice4 ?F ?N ?m ?_ ?s ?t; (case F => k_asm); (case N => k_asm); (case m => k_mem); (case s => with_unfolding_all rfl); (case t => (intro _; with_unfolding_all rfl))); intro D' h' F' N'; (try k_sweep)))

local macro_rules | `(tactic| walk_at "exec For Name Call cons nil") => `(tactic| (k_here; (rename Fr _ _ _ _ => lF'); (with_unfolding_all refine' For_invVF lF' ?k1 ?k2 ?_; (case k1 => exact rfl); (case k2 => exact rfl); k_whole)))
local macro_rules | `(tactic| walk_at "pyIter ref") => `(tactic| (k_here; refine halt ?_))
local macro_rules | `(tactic| walk_at "getMethod ref") => `(tactic| (k_here; k_dflt (refine' sm_method ?N ?S ?_; (case N => k_asm); (case S => assumption))))
local macro_rules | `(tactic| walk_at "call builtin:dict.setdefault") => `(tactic| (k_here; refine halt ?_))
local macro_rules | `(tactic| walk_at "RgPost") => `(tactic| (dsimp only [RgPost]))
local macro_rules | `(tactic| walk_at "RgEnd") => `(tactic| (refine halt ?_))
local macro_rules | `(tactic| walk_at "compareOp In ref ref") => `(tactic| (k_here; k_dflt (refine' sm_in ?G ?u ?N ?S ?k ?i ?m ?_; (case G => assumption); (case u => ktr_units); (case N => k_asm); (case S => assumption); (case m => k_mem); (case k => omega); (case i => omega)); intro tk'))
local macro_rules | `(tactic| walk_at "subscriptTail Name Name ref ref") => `(tactic| (k_here; k_dflt (refine' sm_item ?G ?u ?N ?S ?k ?i ?m ?_ ?s ?g; (case G => assumption); (case u => ktr_units); (case N => k_asm); (case S => assumption); (case m => k_mem); (case k => omega); (case i => omega); (case s => with_unfolding_all rfl); (case g => (intro _; with_unfolding_all rfl))); intro t' tk'))
local macro_rules | `(tactic| walk_at "call ref") => `(tactic| (k_here; (with_reducible show wpAny _ _ (call (Value.ref 70) [Value.ref _, Value.ref _, Value.ref _]) _ _ _); k_dflt (refine' c_addG ?kB ?kF ?kX ?kN ?kT ?kK ?kd ?ku ?km0 ?km1 ?km2 ?kh0 ?kh1 ?kh2 ?kh3 ?kh4 ?kh5 ?_; (case kB => k_asm); (case kF => k_asm); (case kX => k_asm); (case kN => k_asm); (case kT => k_asm); (case kK => first | exact rfl | assumption); (case kd => ktr_room); (case ku => ktr_units); (case kh0 => assumption); (case kh1 => assumption); (case km0 => k_mem); (case km1 => k_mem); (case km2 => k_mem); (case kh2 => exact ⟨rfl, rfl⟩); (case kh3 => exact neg_of (by assumption) (by assumption) (by omega)); (case kh4 => first | assumption | exact Nat.mod_lt _ (by omega) | omega); (case kh5 => first | assumption | exact Nat.mod_lt _ (by omega) | omega)); intro D' x0' x1' u0' u1' c' h' tk' news' post' F' N' mem' sub'; (have N'' := newsC N' (newsSub N' sub') mem'); clear N' mem' sub'; (obtain ⟨hx9, hy9⟩ := post'; subst hx9; subst hy9); (try dsimp only)))
set_option maxHeartbeats 8000000 in
theorem c_found {w : World} {mean : ExcName → Option Value} {mg mb : PySem.Str → Option Value}
  {dp un : Nat} {gd : Option (List Code)} {cn : PySem.Str} {cs : Scope} {a : Addr} {ccd : Value} {cl : List (PySem.Str × Addr)} {outer : List Env} {A₀ : Around} {base h₀ : Heap} {L : Addr} {m : PySem.Str → Option Value} {s : Shared} {Q E : Value → Shared → Prop} {news : List (Addr × Obj)}
  {D : Addr} {i : Nat} {t1 t2 : Tok} {c : Nat} {C : Addr} {P N A B : Int} {cP cN cA cB cGx cGy : Tok} {cc : Nat} {X Y : Nat → Int} {NN : Nat}
  (B₀ : Below A₀ base outer h₀) (F₀ : Fr h₀ L s.heap m) (X₀ : (hd.heap_39 w.params).In h₀) (N₀ : News h₀ L s.heap news)
  (T₀ : Top hd.view_39 (looseW hd.view_39 []) mean mg mb h₀) (hk : cs.kind = .function) (hdp : dp + 15 < recursionLimit) (hun : un + 120 < cLine)
  (hm1 : (D, ({ cls := .type "tuple", data := .seq #[.int (X i) t1, .int (Y i) t2] c } : Obj)) ∈ news)
  (hm2 : (C, ({ cls := .type "tuple", data := .seq #[.int P cP, .int N cN, .int A cA, .int B cB, .int (X 1) cGx, .int (Y 1) cGy] cc } : Obj)) ∈ news)
  (G : Grp P A NN X Y) (hN : N = NN) (hi : i < NN)
  (hret : ∀ (u1 : Tok) (h' : Heap) (tk' : Nat) (news' : List (Addr × Obj)), Fr h₀ L h' m → News h₀ L h' news' → (∀ p ∈ news, p ∈ news') → Q (.int (i : Int) u1) { s with heap := h', toks := tk' }) :
  wpAny (model PySem.Challenge.rw_bw0036_01.row.prog w) (ktrTop dp un gd cn cs L a ccd cl outer) (call (.ref 112) [.ref D, .ref C]) Q E s := by
  have N₁ := newsC N₀ (newsC N₀ (N₀) hm2) hm1
  clear N₀ hm1 hm2
  revert X₀; k_fill; intro X₀
  have hP := G.pr
  have hP0 := hP.1
  have hP1 := G.P2
  have hA0 := G.A1
  have hA1 := G.A2
  have hN1 := G.N1
  have hN2 := G.N2
  refine wpAny_call ?_
  k_dflt cell_enter
  k_steps
  refine Halt.go ?_
  rename Fr _ _ _ _ => F1
  rename News _ _ _ _ => N1
  rename IsRange _ _ _ _ _ _ _ _ => R1
  rename (_ == sysModules) = false => lo1
  rename Obj.IsDictOf (PySem.strKind _ _) _ [] => hs1
  rename (_ < _ ∧ _ < _ ∧ AllLt _ _) => hlt
  obtain ⟨hltD, hltC, hltN⟩ := hlt
  have hbd := bases (oD := ({ cls := .type "tuple", data := .seq #[.int (X i) t1, .int (Y i) t2] c } : Obj)) (oC := ({ cls := .type "tuple", data := .seq #[.int P cP, .int N cN, .int A cA, .int B cB, .int (X 1) cGx, .int (Y 1) cGy] cc } : Obj)) hltD hltC hltN
  have N2 := newsTail N1
  clear N1
  with_unfolding_all refine' my_range (Jf1 PySem.Challenge.rw_bw0036_01.row.prog w X Y _ C D ((D, ({ cls := .type "tuple", data := .seq #[.int (X i) t1, .int (Y i) t2] c } : Obj)) :: (C, ({ cls := .type "tuple", data := .seq #[.int P cP, .int N cN, .int A cA, .int B cB, .int (X 1) cGx, .int (Y 1) cGy] cc } : Obj)) :: news) _) (by rfl) R1 (by decide) (n := 12) (by rfl) F1 N2 ?J0 (fun i m nx h => Jf1.cls h) ?turn ?done
  case J0 =>
    refine ⟨_, _, _, _, _, by rw [G.x0, G.y0], Sm.new2 (List.Mem.head _) lo1 hs1, fun p hp => List.mem_cons_of_mem _ hp, fun p hp => .inr (List.mem_cons_of_mem _ hp), by rfl, by rfl, by rfl, by rfl⟩
  case turn =>
    clear F1 N2 R1 lo1 hs1
    rintro k t m₁ news₁ h tk I oI hk12 ⟨W, tx, ty, cw, ks, rfl, S, hb, hc, e1, e2, e3, e4⟩ hoI F Nn
    rw [map_is e1, map_is e2, map_is e3, map_is e4, Int.zero_add] at F
    dsimp only at F
    have N3 := newsC Nn (newsC Nn (newsC Nn (newsC Nn Nn (.tail _ (.tail _ (hb _ (.head _))))) (.tail _ (.tail _ (hb _ (.tail _ (.head _)))))) (.tail _ (.head _))) (.head _)
    clear Nn
    have S3 := smN N3 S fun p hp => .tail _ (.tail _ (.tail _ (.tail _ (.tail _ (.tail _ hp)))))
    clear S
    (try k_fold)
    k_steps
    refine Halt.go ?_
    have TD : Value.type "tuple" ≠ Value.type "dict" := by decide
    k_dflt (refine' sm_setdefault G ?u1 F N3 S3 ?hk1 (.tail _ (.head _)) ?_)
    case u1 => ktr_units
    case hk1 => omega
    intro h5 tk5 news5 F5 N5 S5 keep
    have hb5 : ∀ p ∈ ((D, ({ cls := .type "tuple", data := .seq #[.int (X i) t1, .int (Y i) t2] c } : Obj)) :: (C, ({ cls := .type "tuple", data := .seq #[.int P cP, .int N cN, .int A cA, .int B cB, .int (X 1) cGx, .int (Y 1) cGy] cc } : Obj)) :: news), p ∈ news5 := fun p hp => keep p (.tail _ (.tail _ (.tail _ (.tail _ (.tail _ (.tail _ (hb p hp))))))) (.inl (hbd p hp))
    have N6 := newsC N5 (newsC N5 (newsC N5 N5 (hb5 _ (.tail _ (.head _)))) (keep _ (.tail _ (.head _)) (.inr TD))) (keep _ (.head _) (.inr (by rw [hoI]; decide)))
    clear N5 N3 F keep S3
    (try dsimp only)
    k_steps
    refine Halt.go ?_
    rename Fr _ _ _ _ => F7
    rename News _ _ _ _ => N7
    rw [Nat.mod_eq_of_lt (show k + 1 < NN by omega)] at N7
    have hs7 : ∀ p ∈ news5, p ∈ _ := newsIn N7 (by kcj_all)
    k_dflt (refine' Jf1.fin F7 N7 (by rfl) ?hW rfl (smN N7 S5 hs7) (fun p hp => hs7 _ (hb5 p hp)) (fun p hp => .tail _ (.tail _ hp)) (by rfl) (by rfl) (by rfl) ?hI)
    case hW => k_mem
    case hI => k_mem
  case done =>
    clear F1 N2 R1 lo1 hs1
    rintro m₁ news₁ h tk ⟨W, tx, ty, cw, ks, rfl, S, hb, hc, e1, e2, e3, e4⟩ F Nn
    rw [map_is e1, map_is e2, map_is e3, map_is e4] at F
    dsimp only at F
    have N3 := newsC Nn (newsC Nn (newsC Nn Nn (.tail _ (hb _ (.head _)))) (.tail _ (hb _ (.tail _ (.head _))))) (.head _)
    have S3 := smN N3 S fun p hp => .tail _ (.tail _ (.tail _ (.tail _ hp)))
    have hb3 := newsIn N3 (news := (D, ({ cls := .type "tuple", data := .seq #[.int (X i) t1, .int (Y i) t2] c } : Obj)) :: (C, ({ cls := .type "tuple", data := .seq #[.int P cP, .int N cN, .int A cA, .int B cB, .int (X 1) cGx, .int (Y 1) cGy] cc } : Obj)) :: news) fun p hp => .tail _ (.tail _ (.tail _ (.tail _ (hb p hp))))
    clear Nn S
    (try dsimp only)
    (try k_fold)
    k_steps
    refine Halt.go ?_
    rename Fr _ _ _ _ => F8
    rename News _ _ _ _ => N8
    rename IsRange _ _ _ _ _ _ _ _ => R8
    have hb8 := newsBase N8 hb3
    with_unfolding_all refine' my_range2 (NN := NN) (by rfl) R8 (by decide) (n := 11) (by rfl) F8 N8 (.tail _ (.tail _ (.head _))) S3 hb3 (by rfl) (by rfl) (by rfl) (by rfl) ?turn2 ?done2
    case turn2 =>
      clear F8 R8 S3
      rintro k t m₂ h2 tk2 I oI V e tx2 ty2 cv2 ks2 hk11 he hoI S hb2 e1 e2 e3 e4 F Nn
      rw [map_is e1, map_is e2, map_is e3, map_is e4, Int.zero_add] at F
      dsimp only at F
      have N3 := newsC Nn (newsC Nn (newsC Nn (newsC Nn Nn (.tail _ (.tail _ (hb2 _ (.tail _ (.tail _ (.head _))))))) (.tail _ (.tail _ (hb2 _ (.head _))))) (.tail _ (.head _))) (.head _)
      have S3 := smN N3 S fun p hp => .tail _ (.tail _ (.tail _ (.tail _ (.tail _ (.tail _ hp)))))
      have hb3' := newsIn N3 fun p hp => .tail _ (.tail _ (.tail _ (.tail _ (.tail _ (.tail _ (hb2 p hp))))))
      clear Nn
      (try k_fold)
      k_steps
      · have hei : ((e : Int) + 12 * (k : Int)) = (i : Int) := by omega
        rw [hei]
        refine' hret _ _ _ _ (by assumption) (by assumption) ?sub1
        case sub1 => exact fun p hp => .tail _ (.tail _ (.tail _ (.tail _ (.tail _ (.tail _ (hb2 p (.tail _ (.tail _ (.tail _ hp)))))))))
      · refine Halt.go ?_
        rename Fr _ _ _ _ => F11
        rename News _ _ _ _ => N11
        have hee : (e + (NN - 12) % NN) % NN = e - 12 := by
          rw [Nat.mod_eq_of_lt (show NN - 12 < NN by omega), show e + (NN - 12) = (e - 12) + NN by omega, Nat.add_mod_right, Nat.mod_eq_of_lt (by omega)]
        rw [hee] at N11
        have hs11 : ∀ p ∈ ks2, p ∈ _ := newsIn N11 (by kcj_all)
        k_dflt (refine' Jf2.fin F11 N11 (by rfl) ?hV ?he (S.sub hs11) (fun p hp => hs11 _ (hb2 p hp)) (fun p hp => ?hL) (by rfl) (by rfl) (by rfl) ?hI)
        case hV => k_mem
        case hI => k_mem
        case he => omega
        case hL => exact .tail _ (hb8 p hp)
    case done2 =>
      rintro m₂ h2 tk2 e he
      exfalso
      omega

end Mine
end

/- part C9 -/
section
open PySem PySem.W PyProof.Rows PySem.Calls PySem.Spec
namespace Mine
set_option maxHeartbeats 8000000 in
theorem c_curves {w : World} {mean : ExcName → Option Value} {mg mb : PySem.Str → Option Value}
  {dp un : Nat} {gd : Option (List Code)} {cn : PySem.Str} {cs : Scope} {a : Addr} {ccd : Value} {cl : List (PySem.Str × Addr)} {outer : List Env} {A₀ : Around} {base h₀ : Heap} {L : Addr} {m : PySem.Str → Option Value} {s : Shared} {Q E : Value → Shared → Prop} {news : List (Addr × Obj)}
  
  (B₀ : Below A₀ base outer h₀) (F₀ : Fr h₀ L s.heap m) (X₀ : (hd.heap_39 w.params).In h₀) (N₀ : News h₀ L s.heap news)
  (T₀ : Top hd.view_39 (looseW hd.view_39 []) mean mg mb h₀) (hk : cs.kind = .function) (hdp : dp + 2 < recursionLimit) (hun : un + 16 < cLine)
  (hret : ∀ (R : Addr) (vs : List Value) (c' : Nat) (h' : Heap) (tk' : Nat) (news' : List (Addr × Obj)), Fr h₀ L h' m → News h₀ L h' news' → (R, listOf vs.toArray c') ∈ news' → (∀ j : Nat, j < 9 → ∃ (C : Addr) (P N A B Gx Gy : Int) (c1 c2 c3 c4 c5 c6 : Tok) (cc : Nat), vs[j]? = some (.ref C) ∧ (C, ({ cls := .type "tuple", data := .seq #[.int P c1, .int N c2, .int A c3, .int B c4, .int Gx c5, .int Gy c6] cc } : Obj)) ∈ news' ∧ Cv P N A Gx Gy) → (∀ p ∈ news, p ∈ news') → Q (.ref R) { s with heap := h', toks := tk' }) :
  wpAny (model PySem.Challenge.rw_bw0036_01.row.prog w) (ktrTop dp un gd cn cs L a ccd cl outer) (call (.ref 77) []) Q E s := by
  revert X₀; k_fill; intro X₀
  refine wpAny_call ?_
  k_dflt cell_enter
  k_steps
  refine' hret _ _ _ _ _ _ (by assumption) (by assumption) ?mem ?hall ?sub
  case mem => k_mem
  case sub => kcj_all
  case hall =>
    intro j hj
    match j, hj with
    | 0, _ => exact ⟨_, _, _, _, _, _, _, _, _, _, _, _, _, _, rfl, by k_mem, cv0⟩
    | 1, _ => exact ⟨_, _, _, _, _, _, _, _, _, _, _, _, _, _, rfl, by k_mem, cv1⟩
    | 2, _ => exact ⟨_, _, _, _, _, _, _, _, _, _, _, _, _, _, rfl, by k_mem, cv2⟩
    | 3, _ => exact ⟨_, _, _, _, _, _, _, _, _, _, _, _, _, _, rfl, by k_mem, cv3⟩
    | 4, _ => exact ⟨_, _, _, _, _, _, _, _, _, _, _, _, _, _, rfl, by k_mem, cv4⟩
    | 5, _ => exact ⟨_, _, _, _, _, _, _, _, _, _, _, _, _, _, rfl, by k_mem, cv5⟩
    | 6, _ => exact ⟨_, _, _, _, _, _, _, _, _, _, _, _, _, _, rfl, by k_mem, cv6⟩
    | 7, _ => exact ⟨_, _, _, _, _, _, _, _, _, _, _, _, _, _, rfl, by k_mem, cv7⟩
    | 8, _ => exact ⟨_, _, _, _, _, _, _, _, _, _, _, _, _, _, rfl, by k_mem, cv8⟩
    | n + 9, h => omega

end Mine
end

/- part L1 -/
section
open PySem PySem.W PyProof.Rows PySem.Calls PySem.Spec
namespace Mine

local macro_rules | `(tactic| walk_at "binaryOp Mod int int") => `(tactic| (k_here; (with_reducible refine my_mod ?kbe ?_); (case kbe => omega); intro r' hr' h0' h1'))
local macro_rules | `(tactic| walk_at "binaryOp FloorDiv int int") => `(tactic| (k_here; (with_reducible refine my_fdiv ?kbe ?kbf ?_); (case kbe => omega); (case kbf => omega); intro r' hr' hd'))
local macro_rules | `(tactic| walk_at "binaryOp Mult int int") => `(tactic| (k_here; first | ((with_reducible refine my_mulL ?kbe ?_); (case kbe => omega)) | ((with_reducible refine my_mulR ?kbe ?_); (case kbe => omega))))
local macro_rules | `(tactic| walk_at "binaryOp Pow int int") => `(tactic| (k_here; first | ((with_reducible refine my_pow2 ?kbe ?_); (case kbe => omega)) | ((with_reducible refine my_pow3 ?kbe ?_); (case kbe => omega)) | ((with_reducible refine my_pow4 ?kbe ?_); (case kbe => omega))))
local macro_rules | `(tactic| walk_at "call ref") => `(tactic| (k_here; k_dflt (refine halt ?_)))
local macro_rules | `(tactic| walk_at "call ref") => `(tactic| (k_here; (with_reducible show wpAny _ _ (call (Value.ref 63) [Value.ref _, Value.int _ _, Value.ref _]) _ _ _); k_dflt (refine' c_mul ?kB ?kF ?kX ?kN ?kT ?kK ?kd ?ku ?km0 ?km1 ?kh0 ?kh1 ?kh2 ?kh3 ?kh4 ?_; (case kB => k_asm); (case kF => k_asm); (case kX => k_asm); (case kN => k_asm); (case kT => k_asm); (case kK => first | exact rfl | assumption); (case kd => ktr_room); (case ku => ktr_units); (case kh0 => assumption); (case kh1 => assumption); (case km0 => k_mem); (case km1 => k_mem); (case kh2 => first | assumption | exact Nat.mod_lt _ (by omega) | omega); (case kh3 => omega); (case kh4 => omega)); intro D' x0' x1' u0' u1' c' h' tk' news' post' F' N' mem' sub'; (have N'' := newsC N' (newsSub N' sub') mem'); clear N' mem' sub'; (obtain ⟨hx9, hy9⟩ := post'; subst hx9; subst hy9); (try dsimp only)))
local macro_rules | `(tactic| walk_at "subscriptTail Name Slice ref ref") => `(tactic| (k_here; k_dflt (refine' my_slice4 ?F ?N ?m ?_ ?s ?t; (case F => k_asm); (case N => k_asm); (case m => k_mem); (case s => with_unfolding_all rfl); (case t => (intro _; with_unfolding_all rfl))); intro D' h' F' N'; (try k_sweep)))
local macro_rules | `(tactic| walk_at "call ref") => `(tactic| (k_here; (with_reducible show wpAny _ _ (call (Value.ref 84) [Value.ref _, Value.int _ _]) _ _ _); k_dflt (refine' c_at ?kB ?kF ?kX ?kN ?kT ?kK ?kd ?ku  ?kh0 ?kh1 ?kh2 ?kh3 ?kh4 ?_; (case kB => k_asm); (case kF => k_asm); (case kX => k_asm); (case kN => k_asm); (case kT => k_asm); (case kK => first | exact rfl | assumption); (case kd => ktr_room); (case ku => ktr_units); (case kh0 => with_reducible assumption); (case kh1 => with_reducible assumption); (case kh2 => omega); (case kh3 => omega); (case kh4 => omega)); intro r' u1' h' tk' news'  F' N' sub'; (have N'' := newsSub N' sub'); clear N' sub'; (try dsimp only)))
local macro_rules | `(tactic| walk_at "call ref") => `(tactic| (k_here; (with_reducible show wpAny _ _ (call (Value.ref 91) [Value.int _ _, Value.int _ _, Value.ref _, Value.ref _]) _ _ _); k_dflt (refine' c_hidden ?kB ?kF ?kX ?kN ?kT ?kK ?kd ?ku ?km0 ?km1 ?kh0 ?kh1 ?kh2 ?kh3 ?kh4 ?kh5 ?kh6 ?_; (case kB => k_asm); (case kF => k_asm); (case kX => k_asm); (case kN => k_asm); (case kT => k_asm); (case kK => first | exact rfl | assumption); (case kd => ktr_room); (case ku => ktr_units); (case kh0 => assumption); (case kh1 => assumption); (case km0 => k_mem); (case km1 => k_mem); (case kh2 => first | assumption | exact Nat.mod_lt _ (by omega) | omega); (case kh3 => omega); (case kh4 => omega); (case kh5 => omega); (case kh6 => omega)); intro R' R1' R2' K1' K2' u1' u2' u3' u4' c' c1' c2' h' tk' news' post' F' N' m0' m1' m2' sub'; (have N'' := newsC N' (newsC N' (newsC N' (newsSub N' sub') m2') m1') m0'); clear N' m0' m1' m2' sub'; (obtain ⟨hK1', hK2'⟩ := post'); subst hK1'; subst hK2'; (try dsimp only)))
local macro_rules | `(tactic| walk_at "call ref") => `(tactic| (k_here; (with_reducible show wpAny _ _ (call (Value.ref 98) [Value.ref _, Value.ref _, Value.ref _]) _ _ _); k_dflt (refine' c_together ?kB ?kF ?kX ?kN ?kT ?kK ?kd ?ku ?km0 ?km1 ?km2 ?km3 ?km4 ?km5 ?km6 ?kh0 ?kh1 ?kh2 ?kh3 ?kh4 ?kh5 ?_; (case kB => k_asm); (case kF => k_asm); (case kX => k_asm); (case kN => k_asm); (case kT => k_asm); (case kK => first | exact rfl | assumption); (case kd => ktr_room); (case ku => ktr_units); (case kh0 => assumption); (case kh1 => assumption); (case km0 => k_mem); (case km1 => k_mem); (case km2 => k_mem); (case km3 => k_mem); (case km4 => k_mem); (case km5 => k_mem); (case km6 => k_mem); (case kh2 => first | assumption | exact Nat.mod_lt _ (by omega) | omega); (case kh3 => first | assumption | exact Nat.mod_lt _ (by omega) | omega); (case kh4 => first | assumption | exact Nat.mod_lt _ (by omega) | omega); (case kh5 => first | assumption | exact Nat.mod_lt _ (by omega) | omega)); intro R' R1' R2' K1' K2' u1' u2' u3' u4' c' c1' c2' h' tk' news' post' F' N' m0' m1' m2' sub'; (have N'' := newsC N' (newsC N' (newsC N' (newsSub N' sub') m2') m1') m0'); clear N' m0' m1' m2' sub'; (obtain ⟨hK1', hK2'⟩ := post'); subst hK1'; subst hK2'; (try dsimp only)))
local macro_rules | `(tactic| walk_at "call ref") => `(tactic| (k_here; (with_reducible show wpAny _ _ (call (Value.ref 105) [Value.ref _, Value.int _ _, Value.ref _]) _ _ _); k_dflt (refine' c_opened ?kB ?kF ?kX ?kN ?kT ?kK ?kd ?ku ?km0 ?km1 ?km2 ?km3 ?kh0 ?kh1 ?kh2 ?kh3 ?kh4 ?kh5 ?_; (case kB => k_asm); (case kF => k_asm); (case kX => k_asm); (case kN => k_asm); (case kT => k_asm); (case kK => first | exact rfl | assumption); (case kd => ktr_room); (case ku => ktr_units); (case kh0 => assumption); (case kh1 => assumption); (case km0 => k_mem); (case km1 => k_mem); (case km2 => k_mem); (case km3 => k_mem); (case kh2 => first | assumption | exact Nat.mod_lt _ (by omega) | omega); (case kh3 => first | assumption | exact Nat.mod_lt _ (by omega) | omega); (case kh4 => omega); (case kh5 => omega)); intro R' K' u1' u2' c' h' tk' news' post' F' N' m0' sub'; (have N'' := newsC N' (newsSub N' sub') m0'); clear N' m0' sub'; subst post'; (try dsimp only)))
local macro_rules | `(tactic| walk_at "call ref") => `(tactic| (k_here; (with_reducible show wpAny _ _ (call (Value.ref 112) [Value.ref _, Value.ref _]) _ _ _); k_dflt (refine' c_found ?kB ?kF ?kX ?kN ?kT ?kK ?kd ?ku ?km0 ?km1 ?kh0 ?kh1 ?kh2 ?_; (case kB => k_asm); (case kF => k_asm); (case kX => k_asm); (case kN => k_asm); (case kT => k_asm); (case kK => first | exact rfl | assumption); (case kd => ktr_room); (case ku => ktr_units); (case kh0 => assumption); (case kh1 => assumption); (case km0 => k_mem); (case km1 => k_mem); (case kh2 => first | assumption | exact Nat.mod_lt _ (by omega) | omega)); intro u1' h' tk' news' F' N' sub'; (have N'' := newsSub N' sub'); clear N' sub'; (try dsimp only)))

local macro_rules | `(tactic| walk_at "eval Call") => `(tactic| (k_here; k_dflt (refine Call_ ?_)))
local macro_rules | `(tactic| walk_at "call ref") => `(tactic| (k_here; (with_reducible show wpAny _ _ (call (Value.ref 77) _) _ _ _); k_dflt (refine' c_curves ?kB ?kF ?kX ?kN ?kT ?kK ?kd ?ku ?_; (case kB => k_asm); (case kF => k_asm); (case kX => k_asm); (case kN => k_asm); (case kT => k_asm); (case kK => first | exact rfl | assumption); (case kd => ktr_room); (case ku => ktr_units)); intro R' vs' c' h' tk' news' F' N' m0' hall' sub'; (try dsimp only)))
local macro_rules | `(tactic| walk_at "exec For Name Call cons nil") => `(tactic| (k_here; (rename Fr _ _ _ _ => lF'); (with_unfolding_all refine' For_invVF lF' ?k1 ?k2 ?_; (case k1 => exact rfl); (case k2 => exact rfl); k_whole)))
local macro_rules | `(tactic| walk_at "pyIter ref") => `(tactic| (k_here; refine halt ?_))
local macro_rules | `(tactic| walk_at "subscriptTail Name BinOp ref int") => `(tactic| (k_here; refine halt ?_))
local macro_rules | `(tactic| walk_at "subscriptTail Call") => `(tactic| (k_here; refine halt ?_))
local macro_rules | `(tactic| walk_at "RgPost") => `(tactic| (dsimp only [RgPost]))
local macro_rules | `(tactic| walk_at "RgEnd") => `(tactic| (refine halt ?_))
local macro_rules | `(tactic| walk_at "compareOp Eq ref ref") => `(tactic| (k_here; refine halt ?_))
local macro_rules | `(tactic| walk_at "compareOp Eq bool bool") => `(tactic| (k_here; refine halt ?_))
local macro_rules | `(tactic| walk_at "compareOp Eq int int") => `(tactic| (k_here; (with_reducible show wpAny _ _ (compareOp _ (Value.int (Nat.cast _) _) _) _ _ _); refine halt ?_))

set_option maxHeartbeats 8000000 in
theorem main : PySem.Challenge.rw_bw0036_01.Holds := hd (by
  k_go0
  rename Heap.IsList _ _ _ => hL9
  rename Below _ _ _ _ => K9
  have hL10 := belowList K9 hL9
  (all_goals try k_fold)
  k_steps
  refine Halt.go ?_
  rename News _ _ _ _ => N1
  rename (_ ∈ _) => m0
  rename (∀ j : Nat, j < 9 → _) => hall
  k_dflt (refine' pick9 N1 (N1.isList m0) (by assumption) (by assumption) hall ?_ (by with_unfolding_all rfl))
  intro C P Ac B NN X Y c1 c2 c3 c4 c5 c6 cc G hC
  have N2 := newsOne N1 hC
  clear N1 m0 hall hC
  have hN : (NN : Int) = (NN : Int) := rfl
  have hP := G.pr
  have hP0 := hP.1
  have hP1 := G.P2
  have hN1 := G.N1
  have hN2 := G.N2
  have hN0 : 0 < NN := by omega
  k_steps
  refine Halt.go ?_
  rename Fr _ _ _ _ => F3
  rename News _ _ _ _ => N3
  rename IsRange _ _ _ _ _ _ _ _ => R3
  rw [Nat.one_mul, Nat.mod_eq_of_lt] at N3
  rotate_left
  · omega
  with_unfolding_all refine' my_range3 G (by rfl) R3 (small_one (by omega) (by omega) (by omega) (by omega)) (rangeSize_nat _ _) F3 N3 (.tail _ (.head _)) (.tail _ (.tail _ (.tail _ (.head _)))) (.tail _ (.tail _ (.head _))) (C := C) (.tail _ (.tail _ (.tail _ (.tail _ (.tail _ (.tail _ (.tail _ (.head _)))))))) (.tail _ (.tail _ (.tail _ (.tail _ (.head _))))) (by rfl) (by rfl) (by rfl) (by rfl) (by rfl) (by rfl) (by rfl) (by rfl) (by rfl) (by rfl) ?turn ?done
  case turn =>
    clear F3 N3 R3
    rintro k t m₁ h tk I oI Wp W1 W2 a b tot t1 t2 t3 t4 tt cw c1' c2' hk H g1 g2 e1 e2 e3 e4 e5 e6 e7 e8 F Nn
    rw [map_is e1, map_is e2, map_is e3, map_is e4, map_is e5, map_is e6, map_is e7, map_is e8, Int.zero_add] at F
    dsimp only at F
    have ha := H.1
    have hb := H.2.1
    (try k_fold)
    k_steps
    refine Halt.go ?_
    rename Fr _ _ _ _ => F5
    rename News _ _ _ _ => N5
    k_dflt (refine' Jf3.fin F5 N5 (by rfl) (by rfl) ?m1 ?m2 ?m3 ?m4 ?m5 ?m6 (Hid.add hN0 H (Hid.of hN0 ?x0 ?n0 ?n1)) ?g1 ?g2 (by rfl) (by rfl) (by rfl) (by rfl) (by rfl) (by rfl))
    case m1 => k_mem
    case m2 => k_mem
    case m3 => k_mem
    case m4 => k_mem
    case m5 => k_mem
    case m6 => k_mem
    all_goals omega
  case done =>
    clear F3 N3 R3
    rintro m₁ h tk Wp W1 W2 a b tot t1 t2 t3 t4 tt cw c1' c2' H g1 g2 e1 e2 e3 e4 e5 e6 e7 e8 F Nn
    rw [map_is e1, map_is e2, map_is e3, map_is e4, map_is e5, map_is e6, map_is e7, map_is e8] at F
    dsimp only at F
    have ha := H.1
    have hb := H.2.1
    have g3 : tot ≤ 12 := by omega
    (try dsimp only)
    (try k_fold)
    k_steps
    · refine Halt.go ?_
      k_dflt (refine eq_intT (way0 hN0 H rfl g1 (by omega)) ?_)
      k_steps
    · refine Halt.go ?_
      k_dflt (refine eq_intT (way1 hN0 H rfl (by omega) (by assumption)) ?_)
      k_steps
    · refine Halt.go ?_
      (k_dflt (refine' eq_ptIs ?u21 ?N21 ?m21 ?mm21 ?e21 ?_))
      case u21 => ktr_units
      case N21 => k_asm
      case m21 => k_mem
      case mm21 => k_mem
      case e21 => exact pt_no G (fresh_ne (d := 1) G.npr ha hb (by omega) (by omega) (by omega) (by omega)).1 (Nat.mod_lt _ hN0) ha
      k_steps
      refine Halt.go ?_
      (k_dflt (refine' eq_ptIs ?u22 ?N22 ?m22 ?mm22 ?e22 ?_))
      case u22 => ktr_units
      case N22 => k_asm
      case m22 => k_mem
      case mm22 => k_mem
      case e22 => exact pt_no G (fresh_ne G.npr ha hb (by omega) (by omega) (by omega) (by omega)).2 (Nat.mod_lt _ hN0) hb
      k_steps
      refine Halt.go ?_
      (k_dflt (refine' eq_ptIs ?u23 ?N23 ?m23 ?mm23 ?e23 ?_))
      case u23 => ktr_units
      case N23 => k_asm
      case m23 => k_mem
      case mm23 => k_mem
      case e23 => exact pt_yes (way2 hN0 H rfl (by omega) (by omega))
      k_steps
    · refine Halt.go ?_
      (k_dflt (refine' eq_ptIs ?u24 ?N24 ?m24 ?mm24 ?e24 ?_))
      case u24 => ktr_units
      case N24 => k_asm
      case m24 => k_mem
      case mm24 => k_mem
      case e24 => exact way3a G hN0 H rfl (by omega) (by omega) (by omega) (by omega) (wrong_ne (by assumption) (by omega) (by omega) (by omega) (by omega))
      k_steps
      refine Halt.go ?_
      (k_dflt (refine' eq_ptIs ?u25 ?N25 ?m25 ?mm25 ?e25 ?_))
      case u25 => ktr_units
      case N25 => k_asm
      case m25 => k_mem
      case mm25 => k_mem
      case e25 => exact way3b G ha
      k_steps
      refine Halt.go ?_
      k_dflt (refine eq_boolT rfl ?_)
      k_steps
  all_goals (try k_data)
  trace_state)

end Mine
end

theorem PySem.Challenge.cw_bw0036_01_holds : PySem.Challenge.rw_bw0036_01.Holds :=
  Mine.main
