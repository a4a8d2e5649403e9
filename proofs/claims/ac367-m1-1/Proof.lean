import JvmDerived
import JvmDerived.Pilot.@@N@@Statement
import JvmDerived.Pilot.@@N@@Code
set_option linter.unusedVariables false
set_option linter.unusedSimpArgs false
namespace Jvm.RoadKit
open Sem ClassFile Op Lib Jvm.Stand Jvm.Free Jvm.LawKit
section New
variable {p : Program} {l : Launch} {e : Env} {R : Room} {s : State} {m : MethodId} {args : Array Value} {below : List Frame} {meth : Method} {c : Code} {T : State} {locs : List Loc} {cells slots : Nat}
theorem retI (X : Stand p l e R s m args below meth c T locs cells slots) (hx : p.tables.exec = Jvm.exec) {pc : Nat} {Ls : Array Slot} {z : Int32} {rest : List Value} (hret : meth.sig.returnType = some .int) (hd : decode c.code pc = .ok (.ireturn, 1)) {fs : List Frame}
    (hl : ∀ (f : JFrame) (acts : List Action), f.method = m → f.locked = none → f.entered = [] → (doReturn e (T.setTop f) acts (some (.int z))).1 = T.setFrames fs) : Steps p.tables e below (T.setTop (mkF m pc Ls (.int z :: rest))) (T.setFrames fs) := by
  have hm' : T.vm.method? m = some meth := X.method'
  have hn : narrow .int (.int z) = .int z := rfl
  show Steps p.tables e below (T.setTop { method := m, pc := pc, locals := Ls, stack := _ :: rest, locked := none }) _
  jvm_step X.here [X.here.top, hx, hd, hm', hret, hn]
  first | (intro acts; rw [hl _ acts rfl rfl rfl]) | rw [hl _ _ rfl rfl rfl]
  exact Steps.refl _
end New
end Jvm.RoadKit
namespace JOwnF
open Jvm.FP.Core
abbrev k9 : UInt64 := 4606281698874543309
abbrev k10 : UInt64 := 4621819117588971520
abbrev U (n : Nat) : Nat := unitsOf b64 n
def Pos (a : UInt64) : Prop := a.toNat < 2047 * 2 ^ 52
theorem pow63 : (2 : Nat) ^ 63 = 9223372036854775808 := by decide +kernel
theorem pow52 : (2 : Nat) ^ 52 = 4503599627370496 := by decide +kernel
theorem Pos.mod {a : UInt64} (h : Pos a) : a.toNat % 2 ^ 63 = a.toNat := by
  unfold Pos at h; rw [pow52] at h; rw [pow63]; omega
theorem pos_fin {a : UInt64} (h : Pos a) : ∃ c q, val64 a = .fin false c q ∧ fits b64 (.fin false c q) ∧ inUnits c q b64.qmin = U a.toNat := by
  have h1 : mag b64 a.toNat = a.toNat := by rw [mag_toNat64, h.mod]
  have h2 : mag b64 a.toNat < infBits b64 := by rw [h1, infBits_b64]; unfold Pos at h; rw [pow52] at h; omega
  obtain ⟨s, c, q, e1, e2, e3⟩ := fin_of_mag good_b64 h2
  have e4 : val64 a = .fin s c q := e1
  have hs := sign_bits (Or.inl ⟨c, q, e4⟩)
  have : s = false := by
    cases s with
    | false => rfl
    | true => have := hs.mp rfl; unfold Pos at h; rw [pow52] at h; rw [pow63] at this; omega
  subst this
  rw [h1] at e3
  exact ⟨c, q, e4, e2, e3⟩
theorem rr_lt {r : UInt64} {A B : Nat} {e : Int} (h : val64 r = roundRatio b64 false A B e) : r.toNat < 2 ^ 63 := by
  have hs : (∃ c q, val64 r = .fin false c q) ∨ val64 r = .inf false := by
    rcases roundRatio_cases b64 false A B e with ⟨c, q, g⟩ | g
    · exact Or.inl ⟨c, q, h.trans g⟩
    · exact Or.inr (h.trans g)
  have := sign_bits hs
  apply Nat.lt_of_not_le
  intro q
  exact absurd (this.mpr q) (by decide)
theorem rr_mag {r : UInt64} (h : r.toNat < 2 ^ 63) : mag b64 r.toNat = r.toNat := by rw [mag_toNat64, Nat.mod_eq_of_lt h]
theorem mul_rr {a b : UInt64} (ha : Pos a) (hb : Pos b) : ∃ A e, val64 (dmul a b) = roundRatio b64 false A 1 e ∧ 2 * b64.qmin ≤ e ∧ inUnits A e (2 * b64.qmin) = U a.toNat * U b.toNat := by
  obtain ⟨c, q, a1, a2, a3⟩ := pos_fin ha
  obtain ⟨d, r, b1, b2, b3⟩ := pos_fin hb
  obtain ⟨p1, p2, p3⟩ := product_units a2 b2
  refine ⟨c * d, q + r, ?_, p2, ?_⟩
  · rw [val64_dmul, a1, b1, p1]; rfl
  · rw [p3]; show inUnits c q b64.qmin * inUnits d r b64.qmin = _; rw [a3, b3]
theorem e1074 : (b64.qmin - 2 * b64.qmin).toNat = 1074 := by rw [qmin_b64]; decide
theorem mul_lt {a b : UInt64} (ha : Pos a) (hb : Pos b) : (dmul a b).toNat < 2 ^ 63 := by
  obtain ⟨A, e, h1, -⟩ := mul_rr ha hb
  exact rr_lt h1
theorem mul_le {a b : UInt64} {m : Nat} (ha : Pos a) (hb : Pos b) (h : U a.toNat * U b.toNat ≤ U m * 2 ^ 1074) : (dmul a b).toNat ≤ m := by
  obtain ⟨A, e, h1, h2, h3⟩ := mul_rr ha hb
  have := mag_le good_b64 (m := m) (e0 := 2 * b64.qmin) h1 (by decide) (by rw [qmin_b64]; decide) h2 (by rw [h3, e1074, Nat.mul_one]; exact h)
  rwa [rr_mag (rr_lt h1)] at this
theorem mul_ge {a b : UInt64} {m : Nat} (ha : Pos a) (hb : Pos b) (hm : m ≤ 2047 * 2 ^ 52) (h : U m * 2 ^ 1074 ≤ U a.toNat * U b.toNat) : m ≤ (dmul a b).toNat := by
  obtain ⟨A, e, h1, h2, h3⟩ := mul_rr ha hb
  have := mag_ge good_b64 (m := m) (e0 := 2 * b64.qmin) h1 (by decide) (by rw [qmin_b64]; decide) h2 (by rw [infBits_b64]; rw [pow52] at hm; omega) (by rw [h3, e1074, Nat.mul_one]; exact h)
  rwa [rr_mag (rr_lt h1)] at this
theorem div_rr {a b : UInt64} (ha : Pos a) (hb : Pos b) (h0 : 0 < U b.toNat) : ∃ A B e, 0 < B ∧ val64 (ddiv a b) = roundRatio b64 false A B e ∧ 2 * b64.qmin ≤ e ∧ ∃ P : Nat, 0 < P ∧ B * P = U b.toNat ∧ inUnits A e (2 * b64.qmin) * P = U a.toNat * 2 ^ 1074 * 2 ^ 1074 := by
  obtain ⟨c, q, a1, a2, a3⟩ := pos_fin ha
  obtain ⟨d, r, b1, b2, b3⟩ := pos_fin hb
  have hd : 0 < d := by
    apply Nat.pos_of_ne_zero
    rintro rfl
    rw [← b3] at h0; unfold inUnits at h0; rw [Nat.zero_mul] at h0; exact absurd h0 (by decide)
  have q1 := a2.2.1
  have r1 := b2.2.1
  have r2 := b2.2.2.1
  have eM : b64.qmax = 971 := by decide
  rw [qmin_b64] at q1 r1
  rw [eM] at r2
  refine ⟨c, d, q - r, hd, ?_, by rw [qmin_b64]; omega, 2 ^ (r - b64.qmin).toNat, Nat.two_pow_pos _, b3, ?_⟩
  · rw [val64_ddiv, a1, b1]; show (if d = 0 then _ else _) = _; rw [if_neg (by omega)]; rfl
  · rw [← a3]; unfold inUnits
    rw [Nat.mul_assoc, ← Nat.pow_add, Nat.mul_assoc, Nat.mul_assoc, ← Nat.pow_add, ← Nat.pow_add, qmin_b64]
    congr 2
    omega
theorem div_lt {a b : UInt64} (ha : Pos a) (hb : Pos b) (h0 : 0 < U b.toNat) : (ddiv a b).toNat < 2 ^ 63 := by
  obtain ⟨A, B, e, -, h1, -⟩ := div_rr ha hb h0
  exact rr_lt h1
theorem div_le {a b : UInt64} {m : Nat} (ha : Pos a) (hb : Pos b) (h0 : 0 < U b.toNat) (h : U a.toNat * 2 ^ 1074 ≤ U m * U b.toNat) : (ddiv a b).toNat ≤ m := by
  obtain ⟨A, B, e, hB, h1, h2, P, hP, h3, h4⟩ := div_rr ha hb h0
  have := mag_le good_b64 (m := m) (e0 := 2 * b64.qmin) h1 hB (by rw [qmin_b64]; decide) h2 (by
    rw [e1074]
    refine Nat.le_of_mul_le_mul_right (c := P) ?_ hP
    rw [h4, Nat.mul_assoc (U m * 2 ^ 1074), h3, Nat.mul_right_comm (U m)]
    exact Nat.mul_le_mul_right _ h)
  rwa [rr_mag (rr_lt h1)] at this
theorem div_ge {a b : UInt64} {m : Nat} (ha : Pos a) (hb : Pos b) (h0 : 0 < U b.toNat) (hm : m ≤ 2047 * 2 ^ 52) (h : U m * U b.toNat ≤ U a.toNat * 2 ^ 1074) : m ≤ (ddiv a b).toNat := by
  obtain ⟨A, B, e, hB, h1, h2, P, hP, h3, h4⟩ := div_rr ha hb h0
  have := mag_ge good_b64 (m := m) (e0 := 2 * b64.qmin) h1 hB (by rw [qmin_b64]; decide) h2 (by rw [infBits_b64]; rw [pow52] at hm; omega) (by
    rw [e1074]
    refine Nat.le_of_mul_le_mul_right (c := P) ?_ hP
    rw [h4, Nat.mul_assoc (U m * 2 ^ 1074), h3, Nat.mul_right_comm (U m)]
    exact Nat.mul_le_mul_right _ h)
  rwa [rr_mag (rr_lt h1)] at this
theorem U_start {K : Nat} (h : 1 ≤ K) : U (K * 2 ^ 52) = 2 ^ 52 * 2 ^ (K - 1) := by
  have := unitsOf_start (f := b64) h
  rwa [tails_b64] at this
theorem U_mono {m k : Nat} (h : m ≤ k) : U m ≤ U k := unitsOf_le_iff.mpr h
theorem U_k9 : U k9.toNat = 8106479329266893 * 2 ^ 1021 := by decide +kernel
theorem U_k10 : U k10.toNat = 5 * 2 ^ 1075 := by decide +kernel
theorem pos_k9 : Pos k9 := by unfold Pos; decide +kernel
theorem pos_k10 : Pos k10 := by unfold Pos; decide +kernel
theorem U_pred {a : Nat} (h : 2 * 2 ^ 52 ≤ a) : U a * 8106479329266893 ≤ U (a - 1) * 2 ^ 53 := by
  have e53 : (2 : Nat) ^ 53 = 9007199254740992 := by decide +kernel
  rw [pow52] at h
  show unitsOf b64 a * _ ≤ unitsOf b64 (a - 1) * _
  unfold unitsOf
  rw [tails_b64, pow52, e53, if_neg (by omega), if_neg (by omega)]
  by_cases t : a % 4503599627370496 = 0
  · rw [show (a - 1) / 4503599627370496 - 1 = a / 4503599627370496 - 2 by omega, show (a - 1) % 4503599627370496 = 4503599627370495 by omega, t]
    rw [show a / 4503599627370496 - 1 = (a / 4503599627370496 - 2) + 1 by omega, Nat.pow_succ]
    generalize 2 ^ (a / 4503599627370496 - 2) = Q
    rw [Nat.add_zero, Nat.mul_comm Q 2, ← Nat.mul_assoc, Nat.mul_right_comm, Nat.mul_right_comm _ Q]
    exact Nat.mul_le_mul_right Q (by decide +kernel)
  · rw [show (a - 1) / 4503599627370496 - 1 = a / 4503599627370496 - 1 by omega, show (a - 1) % 4503599627370496 = a % 4503599627370496 - 1 by omega]
    generalize 2 ^ (a / 4503599627370496 - 1) = Q
    have hb : a % 4503599627370496 < 4503599627370496 := Nat.mod_lt _ (by decide)
    generalize a % 4503599627370496 = x at t hb
    rw [Nat.mul_right_comm, Nat.mul_right_comm _ Q]
    refine Nat.mul_le_mul_right Q ?_
    obtain ⟨y, rfl⟩ := Nat.exists_eq_succ_of_ne_zero t
    rw [Nat.succ_sub_one, Nat.add_succ, Nat.succ_mul, show (9007199254740992 : Nat) = 8106479329266893 + 900719925474099 by decide +kernel, Nat.mul_add]
    refine Nat.add_le_add_left ?_ _
    exact Nat.le_trans (by decide +kernel) (Nat.mul_le_mul_right 900719925474099 (Nat.le_add_right 4503599627370496 y))
/-- one step: times 0.9 -/
theorem step {a : UInt64} {K : Nat} (hK : 1 ≤ K) (ha : Pos a) (h : (K + 1) * 2 ^ 52 ≤ a.toNat) : (dmul a k9).toNat < a.toNat ∧ K * 2 ^ 52 ≤ (dmul a k9).toNat := by
  have hK2 : K ≤ 2047 := by unfold Pos at ha; rw [pow52] at ha h; omega
  constructor
  · have : (dmul a k9).toNat ≤ a.toNat - 1 := mul_le ha pos_k9 (by
      rw [U_k9, ← Nat.mul_assoc, show (2 : Nat) ^ 1074 = 2 ^ 53 * 2 ^ 1021 by rw [← Nat.pow_add], ← Nat.mul_assoc]
      exact Nat.mul_le_mul_right _ (U_pred (Nat.le_trans (Nat.mul_le_mul_right _ (show 2 ≤ K + 1 by omega)) h)))
    rw [pow52] at h
    omega
  · refine mul_ge ha pos_k9 (Nat.mul_le_mul_right _ hK2) ?_
    rw [U_start hK, U_k9]
    have h1 := U_mono h
    rw [U_start (by omega), show K + 1 - 1 = K by omega] at h1
    have e : 2 ^ 52 * 2 ^ (K - 1) * 2 ^ 1074 = 2 ^ 52 * 2 ^ K * (2 ^ 52 * 2 ^ 1021) := by
      rw [← Nat.pow_add, ← Nat.pow_add, ← Nat.pow_add, ← Nat.pow_add, ← Nat.pow_add]; congr 1; omega
    rw [e]
    exact Nat.mul_le_mul h1 (Nat.mul_le_mul_right _ (by decide +kernel))
def it (x : UInt64) : Nat → UInt64
  | 0 => x
  | k + 1 => dmul (it x k) k9
theorem it_bd {x : UInt64} (hx : Pos x) (h : 979 * 2 ^ 52 ≤ x.toNat) : ∀ k, k ≤ 900 → Pos (it x k) ∧ (979 - k) * 2 ^ 52 ≤ (it x k).toNat ∧ (it x k).toNat ≤ x.toNat := by
  intro k
  induction k with
  | zero => intro _; exact ⟨hx, h, Nat.le_refl _⟩
  | succ k ih =>
    intro hk
    obtain ⟨p1, p2, p3⟩ := ih (by omega)
    have s := step (K := 979 - (k + 1)) (by omega) p1 (by rw [show 979 - (k + 1) + 1 = 979 - k by omega]; exact p2)
    refine ⟨?_, s.2, ?_⟩
    · show (dmul (it x k) k9).toNat < _
      unfold Pos at p1; omega
    · show (dmul (it x k) k9).toNat ≤ _
      omega
theorem it_lt {x : UInt64} (hx : Pos x) (h : 979 * 2 ^ 52 ≤ x.toNat) (k : Nat) (hk : k ≤ 899) : (it x (k + 1)).toNat < (it x k).toNat := by
  obtain ⟨p1, p2, p3⟩ := it_bd hx h k (by omega)
  exact (step (K := 979 - (k + 1)) (by omega) p1 (by rw [show 979 - (k + 1) + 1 = 979 - k by omega]; exact p2)).1
theorem i2d_pos {v : Int32} (h : 0 < v.toInt) : Pos (i2d v) ∧ 1023 * 2 ^ 52 ≤ (i2d v).toNat ∧ (i2d v).toNat < 1056 * 2 ^ 52 := by
  have hl : (i2d v).toNat < 2 ^ 63 := by
    have e : val64 (i2d v) = roundRatio b64 false v.toInt.natAbs 1 0 := by
      rw [val64_i2d]
      show round b64 (.fin (decide (v.toInt < 0)) v.toInt.natAbs 0) = _
      rw [decide_eq_false (by omega)]; rfl
    exact rr_lt e
  have e := Nat.mod_eq_of_lt hl
  have m := i2d_mag v
  have b := i2d_big (v := v) (by omega)
  rw [e] at m b
  refine ⟨?_, b.1, m⟩
  unfold Pos
  rw [pow52] at m ⊢; omega
theorem quo {x y : Int32} (hx : 0 < x.toInt) (hy : 0 < y.toInt) : Pos (ddiv (i2d x) (i2d y)) ∧ 983 * 2 ^ 52 ≤ (ddiv (i2d x) (i2d y)).toNat := by
  obtain ⟨x1, x2, x3⟩ := i2d_pos hx
  obtain ⟨y1, y2, y3⟩ := i2d_pos hy
  have a1 := U_mono x2
  have a2 := U_mono (Nat.le_of_lt x3)
  have b1 := U_mono y2
  have b2 := U_mono (Nat.le_of_lt y3)
  rw [U_start (by decide)] at a1 a2 b1 b2
  have h0 : 0 < U (i2d y).toNat := Nat.lt_of_lt_of_le (by decide +kernel) b1
  constructor
  · have : (ddiv (i2d x) (i2d y)).toNat ≤ 1056 * 2 ^ 52 := div_le x1 y1 h0 (by
      rw [U_start (by decide)]
      exact Nat.le_trans (Nat.mul_le_mul_right _ a2) (Nat.le_trans (by decide +kernel) (Nat.mul_le_mul_left _ b1)))
    unfold Pos
    rw [pow52] at this ⊢; omega
  · refine div_ge x1 y1 h0 (by decide +kernel) ?_
    rw [U_start (by decide)]
    exact Nat.le_trans (Nat.mul_le_mul_left _ b2) (Nat.le_trans (by decide +kernel) (Nat.mul_le_mul_right _ a1))
theorem tenth {a : UInt64} (ha : Pos a) (h : 983 * 2 ^ 52 ≤ a.toNat) : Pos (ddiv a k10) ∧ 979 * 2 ^ 52 ≤ (ddiv a k10).toNat := by
  have h0 : 0 < U k10.toNat := by rw [U_k10]; decide +kernel
  have a1 := U_mono h
  rw [U_start (by decide)] at a1
  constructor
  · have : (ddiv a k10).toNat ≤ a.toNat := div_le ha pos_k10 h0 (Nat.mul_le_mul_left _ (by rw [U_k10]; decide +kernel))
    unfold Pos at ha ⊢; omega
  · refine div_ge ha pos_k10 h0 (by decide +kernel) ?_
    rw [U_start (by decide), U_k10]
    exact Nat.le_trans (by decide +kernel) (Nat.mul_le_mul_right _ a1)
theorem Pos.key {a : UInt64} (h : Pos a) : key b64 a.toNat = (a.toNat : Int) := by
  have h' := h
  unfold Pos at h; rw [pow52] at h
  unfold Jvm.FP.Core.key
  rw [mag_toNat64, h'.mod, half_b64, pow63, decide_eq_false (by omega)]; rfl
theorem Pos.fin {a : UInt64} (h : Pos a) : DFin a := by
  rw [fin_bits, h.mod]; unfold Pos at h; rw [pow52] at h; omega
theorem Pos.nn {a : UInt64} (h : Pos a) : val64 a ≠ .nan := by
  obtain ⟨c, q, e, -⟩ := pos_fin h
  rw [e]; exact Datum.noConfusion
theorem cmp_pos {a b : UInt64} (ha : Pos a) (hb : Pos b) : dcmp a b = some (compare (a.toNat : Int) (b.toNat : Int)) := by
  have := cmp_key good_b64 (m := a.toNat) (n := b.toNat) (lt_full64 a) (lt_full64 b) ha.nn hb.nn
  rw [ha.key, hb.key] at this
  exact this
theorem cmp_lt {a b : UInt64} (ha : Pos a) (hb : Pos b) (h : a.toNat < b.toNat) : dcmp a b = some .lt := by
  rw [cmp_pos ha hb, show compare (a.toNat : Int) (b.toNat : Int) = .lt from Int.compare_eq_lt.mpr (by omega)]
theorem cmp_gt {a b : UInt64} (ha : Pos a) (hb : Pos b) (h : b.toNat < a.toNat) : dcmp a b = some .gt := by
  rw [cmp_pos ha hb, show compare (a.toNat : Int) (b.toNat : Int) = .gt from Int.compare_eq_gt.mpr (by omega)]
theorem cmp_eq {a b : UInt64} (ha : Pos a) (hb : Pos b) (h : a.toNat = b.toNat) : dcmp a b = some .eq := by
  rw [cmp_pos ha hb, show compare (a.toNat : Int) (b.toNat : Int) = .eq from Int.compare_eq_eq.mpr (by omega)]
theorem pos_0 : Pos dconst0 := by unfold Pos; decide +kernel
end JOwnF
namespace Jvm.Pilot.@@N@@
open Jvm Jvm.ClassFile Sem Op Lib Jvm.Free Jvm.Stand Jvm.LawKit Jvm.RoadKit Bundle Jvm.Pilot.@@N@@.Jvm.D
-- from the state st the run ends, and Q holds of what it leaves
def GoalS (tb : Tables) (e : Env) (below : List Frame) (s : State) (kc ks : Nat) (Q : Option Value → Heap → List Loc → Prop) (st : State) : Prop :=
  ∃ s₂ o, Steps tb e below st s₂ ∧ s₂.status = .running ∧ Ended s₂ below o ∧ ∃ v L, o = .returned v ∧ Q v s₂.heap L ∧ FrameEnd s o s₂ L kc ks
theorem GoalS.lift {tb : Tables} {e : Env} {below : List Frame} {s : State} {kc ks : Nat} {Q : Option Value → Heap → List Loc → Prop} {A B : State}
    (h : ∀ t, Steps tb e below B t → Steps tb e below A t) (g : GoalS tb e below s kc ks Q B) : GoalS tb e below s kc ks Q A := by
  obtain ⟨s₂, o, h1, h2⟩ := g
  exact ⟨s₂, o, h _ h1, h2⟩
-- an array of n places of which place i holds f i
def AV (Z : State) (h : Heap) (a : Addr) (k : ClassId) (ty : FieldType) (n : Nat) (f : Nat → Value) : Prop := ∃ c : Cell, Arr Z h a c ty ∧ c.cls = k ∧ c.slots.size = n ∧ n < 2147483648 ∧ ∀ i, i < n → c.slots[i]? = some (f i)
def updI (f : Nat → Int32) (j : Nat) (v : Int32) : Nat → Int32 := fun i => if i = j then v else f i
def updJ (f : Nat → Int64) (j : Nat) (v : Int64) : Nat → Int64 := fun i => if i = j then v else f i
def updR (f : Nat → Value) (j : Nat) (v : Value) : Nat → Value := fun i => if i = j then v else f i
section Own
variable {Z : State} {h h' : Heap} {a b : Addr} {k : ClassId} {ty : FieldType} {n : Nat} {f g : Nat → Value} {ws : List Addr} {v : Value} {sl : Nat}
theorem AV.lt (F : AV Z h a k ty n f) : a < h.size := by obtain ⟨c, A, -⟩ := F; exact A.lt
theorem AV.ext (F : AV Z h a k ty n f) (E : Ext h h') : AV Z h' a k ty n f := by obtain ⟨c, A, r⟩ := F; exact ⟨c, A.ext E, r⟩
theorem AV.other (F : AV Z h b k ty n f) (W : Wr h h' a sl v) (q : b ≠ a) : AV Z h' b k ty n f := by obtain ⟨c, A, r⟩ := F; exact ⟨c, A.other W q, r⟩
theorem AV.keep (F : AV Z h a k ty n f) (K : Keep h h' ws) (q : a ∉ ws) : AV Z h' a k ty n f := by obtain ⟨c, A, r⟩ := F; exact ⟨c, ⟨K.2.1 a c A.1 q, A.2⟩, r⟩
theorem AV.new {z : Int32} (A : Arr Z h a (newA k ty z) ty) (q : ¬ z < 0) (hn : z.toNatClampNeg = n) (hb : n < 2147483648) : AV Z h a k ty n (fun _ => defaultValue ty) :=
  ⟨_, A, rfl, (sz_new _ _ _).trans hn, hb, fun i hi => by simp [newA, hn, hi]⟩
theorem Exa.ns {C : String} (F : Exa Z h a C) : ∀ cell : Cell, h[a]? = some cell → cell.vm.isStatics = false := fun cell hc => by
  obtain ⟨c, _, h1, -, -, h4, -⟩ := F
  cases h1.symm.trans hc; exact h4
theorem AV.ns (F : AV Z h a k ty n f) : ∀ cell : Cell, h[a]? = some cell → cell.vm.isStatics = false := fun cell hc => by
  obtain ⟨c, A, -⟩ := F
  cases A.1.symm.trans hc; exact A.plain
theorem StaKeep {C nm d : String} (F : Sta Z h C nm d v) (K : Keep h h' ws) (q : ∀ x ∈ ws, ∀ cell : Cell, h[x]? = some cell → cell.vm.isStatics = false) : Sta Z h' C nm d v := by
  obtain ⟨cf, i, kk, ff, st, cell, h1, h2, h3, h4, h5, h6, h7⟩ := F
  exact ⟨cf, i, kk, ff, st, cell, h1, h2, h3, h4, K.2.1 st cell h5 (fun u => by rw [q st u cell h5] at h6; cases h6), h6, h7⟩
theorem AV.arv {z : Int32} {vs : List Value} {dv : Value} (F : AV Z h a k ty n f) (hz : ¬ z < 0) (hn : z.toNatClampNeg = n) (e : ∀ i, i < n → f i = vs.getD i dv) (hf : ∀ i, i < n → fits ty (f i) = true) : Arv Z h a k ty z vs dv := by
  obtain ⟨c, A, r1, r2, r3, r4⟩ := F
  exact ⟨c, A, r1, r2.trans hn.symm, hz, fun i hi => (r4 i (r2 ▸ hi)).trans (congrArg some (e i (r2 ▸ hi))), fun i hi => by rw [← e i (r2 ▸ hi)]; exact hf i (r2 ▸ hi)⟩
theorem AV.inb {c : Cell} {j : Int32} (S : c.slots.size = n) (q : ¬ j < 0 ∧ j.toNatClampNeg < n) : ¬ (j < 0 ∨ c.slots.size ≤ j.toNatClampNeg) := fun u => u.elim q.1 fun w => by omega
theorem AV.inx {j : Int32} (q : ¬ j < 0 ∧ j.toNatClampNeg < n) : j.toNatClampNeg < n := q.2
theorem AV.conv (F : AV Z h a k ty n f) (e : ∀ i, i < n → f i = g i) : AV Z h a k ty n g := by
  obtain ⟨c, A, r1, r2, r3, r4⟩ := F; exact ⟨c, A, r1, r2, r3, fun i hi => (r4 i hi).trans (congrArg some (e i hi))⟩
theorem AV.putR {j : Nat} (F : AV Z h a k ty n f) (W : Wr h h' a j v) (hj : j < n) : AV Z h' a k ty n (updR f j v) := by
  obtain ⟨c, A, r1, r2, r3, r4⟩ := F
  refine ⟨_, A.same W, r1, (sz_set _ _ _).trans r2, r3, fun i hi => ?_⟩
  by_cases q : i = j
  · subst q; simp [Cell.setSlot, updR, r2, hi]
  · have q' : j ≠ i := fun u => q u.symm
    simp only [Cell.setSlot, updR, if_neg q]; rw [Array.getElem?_setIfInBounds_ne q']; exact r4 i hi
theorem AV.putI {j : Nat} {f : Nat → Int32} {v : Int32} (F : AV Z h a k ty n (fun i => Value.int (f i))) (W : Wr h h' a j (.int v)) (hj : j < n) : AV Z h' a k ty n (fun i => Value.int (updI f j v i)) :=
  (F.putR W hj).conv fun i _ => by simp only [updR, updI]; split <;> rfl
theorem AV.putJ {j : Nat} {f : Nat → Int64} {v : Int64} (F : AV Z h a k ty n (fun i => Value.long (f i))) (W : Wr h h' a j (.long v)) (hj : j < n) : AV Z h' a k ty n (fun i => Value.long (updJ f j v i)) :=
  (F.putR W hj).conv fun i _ => by simp only [updR, updJ]; split <;> rfl
end Own


theorem own_fn {x : UInt64} (h : JOwnF.Pos x) : Jvm.Free.Fl.NoNaN64 x := (Jvm.Free.Fl.fin64_core.mpr h.fin).noNaN
theorem own_i1 {i p : Int32} (h0 : 0 ≤ i.toInt) (h : i < p) : (i + (1 : Int32)).toInt = i.toInt + 1 := by
  have a := c_iadd i 1
  have r := rng32 (i + 1)
  have rp := rng32 p
  have e1 : (1 : Int32).toInt = 1 := rfl
  rw [Int32.lt_iff_toInt_lt] at h
  omega
theorem own_n1 {i p : Int32} (h0 : 0 ≤ i.toInt) (h : i < p) : (i + (1 : Int32)).toNatClampNeg = i.toNatClampNeg + 1 := by
  have e := own_i1 h0 h
  show (i + (1 : Int32)).toInt.toNat = i.toInt.toNat + 1
  omega
theorem own_l0 {i p : Int32} (h0 : 0 ≤ i.toInt) (h : i < p) : 0 ≤ (i + (1 : Int32)).toInt := by rw [own_i1 h0 h]; omega
theorem own_l1 {i p : Int32} (h0 : 0 ≤ i.toInt) (h : i < p) : (i + (1 : Int32)).toInt ≤ p.toInt := by
  rw [own_i1 h0 h]; rw [Int32.lt_iff_toInt_lt] at h; omega
theorem own_l2 {i p : Int32} {y r : UInt64} (h0 : 0 ≤ i.toInt) (h : i < p) (hr : r = JOwnF.it y i.toNatClampNeg) : FP.dmul r (4606281698874543309 : UInt64) = JOwnF.it y (i + (1 : Int32)).toNatClampNeg := by
  rw [own_n1 h0 h, hr]; rfl
theorem own_l3 {i p : Int32} (h0 : 0 ≤ i.toInt) (h : i < p) : (p.toInt - (i + (1 : Int32)).toInt).toNat < (p.toInt - i.toInt).toNat := by
  rw [own_i1 h0 h]; rw [Int32.lt_iff_toInt_lt] at h; omega
theorem own_lx {i p : Int32} {y r : UInt64} (h1 : i.toInt ≤ p.toInt) (h : ¬ i < p) (hr : r = JOwnF.it y i.toNatClampNeg) : r = JOwnF.it y p.toNatClampNeg := by
  rw [Int32.lt_iff_toInt_lt] at h
  rw [hr, show i = p from Int32.toInt_inj.mp (by omega)]
theorem own_nm {i p : Int32} {x r : UInt64} (hP : JOwnF.Pos x) (hL : 983 * 2 ^ 52 ≤ x.toNat) (hp : p.toInt ≤ 37) (h0 : 0 ≤ i.toInt) (h : i < p) (hr : r = JOwnF.it (FP.ddiv x JOwnF.k10) i.toNatClampNeg) : Jvm.Free.Fl.NoNaN64 (FP.dmul r (4606281698874543309 : UInt64)) := by
  have t := JOwnF.tenth hP hL
  rw [own_l2 h0 h hr]
  rw [Int32.lt_iff_toInt_lt] at h
  refine own_fn (JOwnF.it_bd t.1 t.2 _ ?_).1
  have e := own_i1 (p := p) h0 (by rw [Int32.lt_iff_toInt_lt]; exact h)
  show (i + (1 : Int32)).toInt.toNat ≤ 900
  omega
theorem own_dn (b : Int32) : 2 ≤ ((b &&& (1048575 : Int32)) + (2 : Int32)).toInt ∧ ((b &&& (1048575 : Int32)) + (2 : Int32)).toInt ≤ 1048577 := by
  have e : (b &&& (1048575 : Int32)).toInt = b.toInt % (2 ^ 20 : Nat) := c_mask b 1048575 20 (by decide) (by decide)
  have a := c_iadd (b &&& (1048575 : Int32)) 2
  have r := rng32 ((b &&& (1048575 : Int32)) + 2)
  have e2 : (2 : Int32).toInt = 2 := rfl
  omega
theorem own_d1 {d : Int32} (h : 2 ≤ d.toInt ∧ d.toInt ≤ 1048577) : (d - (1 : Int32)).toInt = d.toInt - 1 := by
  have a := c_isub d 1
  have r := rng32 (d - 1)
  have e1 : (1 : Int32).toInt = 1 := rfl
  omega
theorem own_dz {d : Int32} (h : 2 ≤ d.toInt ∧ d.toInt ≤ 1048577) : (d - (1 : Int32)) ≠ 0 := fun q => by
  have e := own_d1 h
  rw [q] at e
  have e0 : (0 : Int32).toInt = 0 := rfl
  omega
theorem own_nmr {d a : Int32} (h : 2 ≤ d.toInt ∧ d.toInt ≤ 1048577) : 0 < (((a &&& (2147483647 : Int32)) % (d - (1 : Int32))) + (1 : Int32)).toInt := by
  have e := own_d1 h
  have h1 : 0 ≤ (a &&& (2147483647 : Int32)).toInt := (c_andS a (2147483647 : Int32)).2.2 (by decide)
  have q := (c_iremV (a &&& (2147483647 : Int32)) (d - (1 : Int32))).1 h1 (by omega)
  have s := c_iadd ((a &&& (2147483647 : Int32)) % (d - (1 : Int32))) 1
  have r := rng32 (((a &&& (2147483647 : Int32)) % (d - (1 : Int32))) + 1)
  have e1 : (1 : Int32).toInt = 1 := rfl
  omega
theorem own_t (x : Int32) : 0 ≤ ((x &&& (2147483647 : Int32)) % (37 : Int32)).toInt ∧ ((x &&& (2147483647 : Int32)) % (37 : Int32)).toInt ≤ 36 := by
  have h1 : 0 ≤ (x &&& (2147483647 : Int32)).toInt := (c_andS x (2147483647 : Int32)).2.2 (by decide)
  have h2 := (c_irem (x &&& (2147483647 : Int32)) (37 : Int32) 37 rfl).1 h1
  omega
theorem own_t1 {t : Int32} (h : 0 ≤ t.toInt ∧ t.toInt ≤ 36) : 0 ≤ (t + (1 : Int32)).toInt ∧ (t + (1 : Int32)).toInt ≤ 37 ∧ (t + (1 : Int32)).toNatClampNeg = t.toNatClampNeg + 1 := by
  have e := own_i1 (i := t) (p := 37) h.1 (by rw [Int32.lt_iff_toInt_lt]; have : (37 : Int32).toInt = 37 := rfl; omega)
  refine ⟨by omega, by omega, ?_⟩
  show (t + (1 : Int32)).toInt.toNat = t.toInt.toNat + 1
  omega
theorem own_tn {x : UInt64} {t : Int32} (hP : JOwnF.Pos x) (hL : 983 * 2 ^ 52 ≤ x.toNat) (ht : 0 ≤ t.toInt ∧ t.toInt ≤ 36) : t.toNatClampNeg ≤ 36 := by show t.toInt.toNat ≤ 36; omega
theorem own_nx {x : UInt64} {t : Int32} (hP : JOwnF.Pos x) (hL : 983 * 2 ^ 52 ≤ x.toNat) (ht : 0 ≤ t.toInt ∧ t.toInt ≤ 36) : JOwnF.it (FP.ddiv x (4621819117588971520 : UInt64)) (t + (1 : Int32)).toNatClampNeg = FP.dmul (JOwnF.it (FP.ddiv x (4621819117588971520 : UInt64)) t.toNatClampNeg) (4606281698874543309 : UInt64) := by
  rw [(own_t1 ht).2.2]; rfl
theorem own_pn {x : UInt64} {t : Int32} (hP : JOwnF.Pos x) (hL : 983 * 2 ^ 52 ≤ x.toNat) (ht : 0 ≤ t.toInt ∧ t.toInt ≤ 36) : JOwnF.Pos (JOwnF.it (FP.ddiv x (4621819117588971520 : UInt64)) (t + (1 : Int32)).toNatClampNeg) := by
  have q := JOwnF.tenth hP hL
  have n := own_tn hP hL ht
  rw [(own_t1 ht).2.2]
  exact (JOwnF.it_bd q.1 q.2 _ (by omega)).1
theorem own_pcu {x : UInt64} {t : Int32} (hP : JOwnF.Pos x) (hL : 983 * 2 ^ 52 ≤ x.toNat) (ht : 0 ≤ t.toInt ∧ t.toInt ≤ 36) : JOwnF.Pos (JOwnF.it (FP.ddiv x (4621819117588971520 : UInt64)) t.toNatClampNeg) := by
  have q := JOwnF.tenth hP hL
  have n := own_tn hP hL ht
  exact (JOwnF.it_bd q.1 q.2 _ (by omega)).1
theorem own_c105 {x : UInt64} {t : Int32} (hP : JOwnF.Pos x) (hL : 983 * 2 ^ 52 ≤ x.toNat) (ht : 0 ≤ t.toInt ∧ t.toInt ≤ 36) : cmpValue (FP.dcmp (JOwnF.it (FP.ddiv x (4621819117588971520 : UInt64)) t.toNatClampNeg) FP.dconst0) .l = 1 := by
  have q := JOwnF.tenth hP hL
  have n := own_tn hP hL ht
  have b := JOwnF.it_bd q.1 q.2 t.toNatClampNeg (by omega)
  have g : 1 * 2 ^ 52 ≤ (979 - t.toNatClampNeg) * 2 ^ 52 := Nat.mul_le_mul_right _ (by omega)
  have z : (FP.dconst0).toNat = 0 := by decide +kernel
  have y : 0 < 1 * 2 ^ 52 := by decide +kernel
  have e : FP.dcmp (JOwnF.it (FP.ddiv x (4621819117588971520 : UInt64)) t.toNatClampNeg) FP.dconst0 = some .gt := JOwnF.cmp_gt b.1 JOwnF.pos_0 (by rw [z]; exact Nat.lt_of_lt_of_le y (Nat.le_trans g b.2.1))
  rw [e]; rfl
theorem own_c113 {x : UInt64} {t : Int32} (hP : JOwnF.Pos x) (hL : 983 * 2 ^ 52 ≤ x.toNat) (ht : 0 ≤ t.toInt ∧ t.toInt ≤ 36) : ¬ (0 : Int32) < cmpValue (FP.dcmp (JOwnF.it (FP.ddiv x (4621819117588971520 : UInt64)) t.toNatClampNeg) (JOwnF.it (FP.ddiv x (4621819117588971520 : UInt64)) ((0 : Int32)).toNatClampNeg)) .g := by
  have q := JOwnF.tenth hP hL
  have n := own_tn hP hL ht
  have b := JOwnF.it_bd q.1 q.2 t.toNatClampNeg (by omega)
  rw [show ((0 : Int32)).toNatClampNeg = 0 from rfl]
  show ¬ (0 : Int32) < cmpValue (FP.dcmp (JOwnF.it (FP.ddiv x JOwnF.k10) t.toNatClampNeg) (FP.ddiv x JOwnF.k10)) .g
  rcases Nat.lt_or_eq_of_le b.2.2 with g | g
  · have e : FP.dcmp (JOwnF.it (FP.ddiv x JOwnF.k10) t.toNatClampNeg) (FP.ddiv x JOwnF.k10) = some .lt := JOwnF.cmp_lt b.1 q.1 g
    rw [e]; decide
  · have e : FP.dcmp (JOwnF.it (FP.ddiv x JOwnF.k10) t.toNatClampNeg) (FP.ddiv x JOwnF.k10) = some .eq := JOwnF.cmp_eq b.1 q.1 g
    rw [e]; decide
theorem own_c121 {x : UInt64} {t : Int32} (hP : JOwnF.Pos x) (hL : 983 * 2 ^ 52 ≤ x.toNat) (ht : 0 ≤ t.toInt ∧ t.toInt ≤ 36) : cmpValue (FP.dcmp (JOwnF.it (FP.ddiv x (4621819117588971520 : UInt64)) (t + (1 : Int32)).toNatClampNeg) (JOwnF.it (FP.ddiv x (4621819117588971520 : UInt64)) t.toNatClampNeg)) .g = -1 := by
  have q := JOwnF.tenth hP hL
  have n := own_tn hP hL ht
  have g := JOwnF.it_lt q.1 q.2 t.toNatClampNeg (by omega)
  have p1 := own_pn hP hL ht
  have p2 := own_pcu hP hL ht
  rw [(own_t1 ht).2.2] at p1 ⊢
  have e : FP.dcmp (JOwnF.it (FP.ddiv x (4621819117588971520 : UInt64)) (t.toNatClampNeg + 1)) (JOwnF.it (FP.ddiv x (4621819117588971520 : UInt64)) t.toNatClampNeg) = some .lt := JOwnF.cmp_lt p1 p2 g
  rw [e]; rfl

theorem d1_0 : decode prog_17_method_21_code 0 = .ok (.dload_n 0, 1) := by decide +kernel
theorem d1_1 : decode prog_17_method_21_code 1 = .ok (.ldc2_w 134, 3) := by decide +kernel
theorem d1_4 : decode prog_17_method_21_code 4 = .ok (.ddiv, 1) := by decide +kernel
theorem d1_5 : decode prog_17_method_21_code 5 = .ok (.dstore_n 3, 1) := by decide +kernel
theorem d1_6 : decode prog_17_method_21_code 6 = .ok (.iconst 0, 1) := by decide +kernel
theorem d1_7 : decode prog_17_method_21_code 7 = .ok (.istore 5, 2) := by decide +kernel
theorem d1_9 : decode prog_17_method_21_code 9 = .ok (.iload 5, 2) := by decide +kernel
theorem d1_11 : decode prog_17_method_21_code 11 = .ok (.iload_n 2, 1) := by decide +kernel
theorem d1_12 : decode prog_17_method_21_code 12 = .ok (.if_icmp .ge 15, 3) := by decide +kernel
theorem d1_15 : decode prog_17_method_21_code 15 = .ok (.dload_n 3, 1) := by decide +kernel
theorem d1_16 : decode prog_17_method_21_code 16 = .ok (.ldc2_w 136, 3) := by decide +kernel
theorem d1_19 : decode prog_17_method_21_code 19 = .ok (.dmul, 1) := by decide +kernel
theorem d1_20 : decode prog_17_method_21_code 20 = .ok (.dstore_n 3, 1) := by decide +kernel
theorem d1_21 : decode prog_17_method_21_code 21 = .ok (.iinc 5 1, 3) := by decide +kernel
theorem d1_24 : decode prog_17_method_21_code 24 = .ok (.goto (-15), 3) := by decide +kernel
theorem d1_27 : decode prog_17_method_21_code 27 = .ok (.dload_n 3, 1) := by decide +kernel
theorem d1_28 : decode prog_17_method_21_code 28 = .ok (.dreturn, 1) := by decide +kernel
theorem pn_0 : plainName "com/example/bit1/bit1/GrowingBloomFilter" = true := by first | (simp [plainName, overriddenIn]; done) | decide +kernel
theorem ef_rmst (m : MethodId) (x1 : UInt64) (p2 : Int32) : entryFrame m #[(.double x1), (.int p2)] 6 = mkF m 0 #[.val (.double x1), .second, .val (.int p2), .unset, .unset, .unset] [] := by first | (simp [entryFrame, mkF, argsToLocals, Value.category]; done) | rfl
def Qst (Z : State) (x1 : UInt64) (p2 : Int32) (h0 : Heap) (n0 : Nat) (v : Option Value) (h : Heap) (L : List Loc) : Prop := v = some (.double (JOwnF.it (FP.ddiv x1 (4621819117588971520 : UInt64)) (p2).toNatClampNeg)) ∧ Fr n0 L ∧ h = h0
set_option maxRecDepth 65536 in
set_option maxHeartbeats 40000000 in
theorem rmst (l : Launch) (Z : State) (a0 : Array Value) (hw : ∀ d ∈ tables_1, d.before a0 Z = true) (ws : List Jvm.Cond) (x1 : UInt64) (p2 : Int32) (h0 : Heap) (n0 : Nat) (Z0 : n0 ≤ h0.size) (hPo : JOwnF.Pos x1) (hL : 983 * 2 ^ 52 ≤ x1.toNat) (ht : 0 ≤ p2.toInt ∧ p2.toInt ≤ 37) :
    MetFree l (⟨"com/example/bit1/bit1/GrowingBloomFilter", "stageRate", "(DI)D"⟩ : MethodName) (head1 (Jvm.Cond.code (⟨"com/example/bit1/bit1/GrowingBloomFilter", "stageRate", "(DI)D"⟩ : MethodName) prog_17_method_21_code 6 (some .double) :: ws) ({ frames := 0, cells := 0, slots := 0, locals := 0 } : Room)) (fun a U => a = #[(.double x1), (.int p2)] ∧ Z.Warmed39 U.vm ∧ U.heap = h0) (fun _ _ _ _ _ => True) (fun _ U o U' => ∃ v L, o = .returned v ∧ Qst Z x1 p2 h0 n0 v U'.heap L ∧ FrameEnd U o U' L ({ frames := 0, cells := 0, slots := 0, locals := 0 } : Room).cells ({ frames := 0, cells := 0, slots := 0, locals := 0 } : Room).slots) := by
  refine MetFree.of_bodySF (plainFor_of_name pn_0) hisR ?_
  intro p e s m args below meth c s₁ Bd hml0 hP hK
  obtain ⟨rfl, hZ, hh⟩ := hP
  have hx := Bd.exec
  have hby := Bd.bytes
  have hml : c.maxLocals = 6 := hml0
  have hown : s.vm.findClass "com/example/bit1/bit1/GrowingBloomFilter" = some m.cls := findClass_of_methodNamed Bd.named
  have hnm := (name_of_methodNamed Bd.named Bd.method).1
  have X0 : Stand p l e ({ frames := 0, cells := 0, slots := 0, locals := 0 } : Room) s m #[(.double x1), (.int p2)] below meth c s₁ [] 0 0 := Stand.of_body Bd
  have e0 : s₁.heap = h0 := by rw [← hh, Bd.state]; rfl
  have N0 := Fr.nil n0
  show GoalS p.tables e below s ({ frames := 0, cells := 0, slots := 0, locals := 0 } : Room).cells ({ frames := 0, cells := 0, slots := 0, locals := 0 } : Room).slots (Qst Z x1 p2 h0 n0) (s₁.setTop (entryFrame m #[(.double x1), (.int p2)] 6))
  refine GoalS.lift (B := s₁.setTop (mkF m 0 #[.val (.double x1), .second, .val (.int p2), .unset, .unset, .unset] [])) (fun t k => castTop (ef_rmst m x1 p2) k) ?_
  have K0 : Keep h0 h0 [] := Keep.refl _ _
  refine GoalS.lift (B := (s₁.setTop (mkF m 9 #[.val (.double x1), .second, .val (.int p2), .val (.double (FP.ddiv x1 (4621819117588971520 : UInt64))), .second, .val (.int (0 : Int32))] []))) (fun t k => ?_) ?_
  · show Steps p.tables e below (s₁.setTop (mkF m 0 #[.val (.double x1), .second, .val (.int p2), .unset, .unset, .unset] [])) _
    refine XS.dloadN X0.here hx rfl (hb hby d1_0) rfl ?_
    show Steps p.tables e below (s₁.setTop (mkF m 1 #[.val (.double x1), .second, .val (.int p2), .unset, .unset, .unset] [(.double x1)])) _
    refine X0.ldc2DoubleC hx hown (mvT hZ (hw _ (List.mem_of_getElem? (i := 6) rfl))) (g := (mkF m 1 #[.val (.double x1), .second, .val (.int p2), .unset, .unset, .unset] [(.double x1)])) rfl (hb hby d1_1) _ ?_
    show Steps p.tables e below (s₁.setTop (mkF m 4 #[.val (.double x1), .second, .val (.int p2), .unset, .unset, .unset] [(.double (4621819117588971520 : UInt64)), (.double x1)])) _
    refine XS.ddivS X0.here hx rfl (hb hby d1_4) rfl (own_fn (JOwnF.tenth hPo hL).1) rfl ?_
    show Steps p.tables e below (s₁.setTop (mkF m 5 #[.val (.double x1), .second, .val (.int p2), .unset, .unset, .unset] [(.double (FP.ddiv x1 (4621819117588971520 : UInt64)))])) _
    refine XS.dstoreN X0.here hx rfl (hb hby d1_5) rfl (l' := #[.val (.double x1), .second, .val (.int p2), .val (.double (FP.ddiv x1 (4621819117588971520 : UInt64))), .second, .unset]) rfl ?_
    show Steps p.tables e below (s₁.setTop (mkF m 6 #[.val (.double x1), .second, .val (.int p2), .val (.double (FP.ddiv x1 (4621819117588971520 : UInt64))), .second, .unset] [])) _
    refine XS.iconst X0.here hx rfl (hb hby d1_6) ?_
    show Steps p.tables e below (s₁.setTop (mkF m 7 #[.val (.double x1), .second, .val (.int p2), .val (.double (FP.ddiv x1 (4621819117588971520 : UInt64))), .second, .unset] [(.int (0 : Int32))])) _
    refine XS.istore X0.here hx rfl (hb hby d1_7) rfl (l' := #[.val (.double x1), .second, .val (.int p2), .val (.double (FP.ddiv x1 (4621819117588971520 : UInt64))), .second, .val (.int (0 : Int32))]) rfl ?_
    show Steps p.tables e below (s₁.setTop (mkF m 9 #[.val (.double x1), .second, .val (.int p2), .val (.double (FP.ddiv x1 (4621819117588971520 : UInt64))), .second, .val (.int (0 : Int32))] [])) _
    exact k
  have LP1 : ∀ (kk : Nat) (rv : UInt64) (iv : Int32), (0 ≤ iv.toInt) → (iv.toInt ≤ p2.toInt) → (rv = JOwnF.it (FP.ddiv x1 (4621819117588971520 : UInt64)) iv.toNatClampNeg) → (kk = (p2.toInt - iv.toInt).toNat) → GoalS p.tables e below s ({ frames := 0, cells := 0, slots := 0, locals := 0 } : Room).cells ({ frames := 0, cells := 0, slots := 0, locals := 0 } : Room).slots (Qst Z x1 p2 h0 n0) (s₁.setTop (mkF m 9 #[.val (.double x1), .second, .val (.int p2), .val (.double rv), .second, .val (.int iv)] [])) := by
    intro kk
    induction kk using Nat.strongRecOn with
    | ind kk ih =>
    intro rv iv hi0 hi1 hrv hkk
    refine GoalS.lift (B := (s₁.setTop (mkF m 12 #[.val (.double x1), .second, .val (.int p2), .val (.double rv), .second, .val (.int iv)] [(.int p2), (.int iv)]))) (fun t k => ?_) ?_
    · show Steps p.tables e below (s₁.setTop (mkF m 9 #[.val (.double x1), .second, .val (.int p2), .val (.double rv), .second, .val (.int iv)] [])) _
      refine XS.iload X0.here hx rfl (hb hby d1_9) rfl ?_
      show Steps p.tables e below (s₁.setTop (mkF m 11 #[.val (.double x1), .second, .val (.int p2), .val (.double rv), .second, .val (.int iv)] [(.int iv)])) _
      refine XS.iloadN X0.here hx rfl (hb hby d1_11) rfl ?_
      show Steps p.tables e below (s₁.setTop (mkF m 12 #[.val (.double x1), .second, .val (.int p2), .val (.double rv), .second, .val (.int iv)] [(.int p2), (.int iv)])) _
      exact k
    by_cases hc12_3 : iv < p2
    · refine GoalS.lift (B := (s₁.setTop (mkF m 9 #[.val (.double x1), .second, .val (.int p2), .val (.double (FP.dmul rv (4606281698874543309 : UInt64))), .second, .val (.int (iv + (1 : Int32)))] []))) (fun t k => ?_) ?_
      · show Steps p.tables e below (s₁.setTop (mkF m 12 #[.val (.double x1), .second, .val (.int p2), .val (.double rv), .second, .val (.int iv)] [(.int p2), (.int iv)])) _
        refine XS.icmpNo X0.here hx rfl (hb hby d1_12) rfl ((tlt hc12_3).2.1) ?_
        show Steps p.tables e below (s₁.setTop (mkF m 15 #[.val (.double x1), .second, .val (.int p2), .val (.double rv), .second, .val (.int iv)] [])) _
        refine XS.dloadN X0.here hx rfl (hb hby d1_15) rfl ?_
        show Steps p.tables e below (s₁.setTop (mkF m 16 #[.val (.double x1), .second, .val (.int p2), .val (.double rv), .second, .val (.int iv)] [(.double rv)])) _
        refine X0.ldc2DoubleC hx hown (mvT hZ (hw _ (List.mem_of_getElem? (i := 7) rfl))) (g := (mkF m 16 #[.val (.double x1), .second, .val (.int p2), .val (.double rv), .second, .val (.int iv)] [(.double rv)])) rfl (hb hby d1_16) _ ?_
        show Steps p.tables e below (s₁.setTop (mkF m 19 #[.val (.double x1), .second, .val (.int p2), .val (.double rv), .second, .val (.int iv)] [(.double (4606281698874543309 : UInt64)), (.double rv)])) _
        refine XS.dmulS X0.here hx rfl (hb hby d1_19) rfl (own_nm hPo hL ht.2 hi0 hc12_3 hrv) rfl ?_
        show Steps p.tables e below (s₁.setTop (mkF m 20 #[.val (.double x1), .second, .val (.int p2), .val (.double rv), .second, .val (.int iv)] [(.double (FP.dmul rv (4606281698874543309 : UInt64)))])) _
        refine XS.dstoreN X0.here hx rfl (hb hby d1_20) rfl (l' := #[.val (.double x1), .second, .val (.int p2), .val (.double (FP.dmul rv (4606281698874543309 : UInt64))), .second, .val (.int iv)]) rfl ?_
        show Steps p.tables e below (s₁.setTop (mkF m 21 #[.val (.double x1), .second, .val (.int p2), .val (.double (FP.dmul rv (4606281698874543309 : UInt64))), .second, .val (.int iv)] [])) _
        refine XS.iinc X0.here hx rfl (hb hby d1_21) rfl (l' := #[.val (.double x1), .second, .val (.int p2), .val (.double (FP.dmul rv (4606281698874543309 : UInt64))), .second, .val (.int (iv + (1 : Int32)))]) rfl ?_
        show Steps p.tables e below (s₁.setTop (mkF m 24 #[.val (.double x1), .second, .val (.int p2), .val (.double (FP.dmul rv (4606281698874543309 : UInt64))), .second, .val (.int (iv + (1 : Int32)))] [])) _
        refine XS.goto X0.here hx rfl (pc0 := 24) (pc' := 9) rfl (hb hby d1_24) (by decide) (by decide) ?_
        show Steps p.tables e below (s₁.setTop (mkF m 9 #[.val (.double x1), .second, .val (.int p2), .val (.double (FP.dmul rv (4606281698874543309 : UInt64))), .second, .val (.int (iv + (1 : Int32)))] [])) _
        exact k
      exact ih ((p2.toInt - (iv + (1 : Int32)).toInt).toNat) (by rw [hkk]; exact own_l3 hi0 hc12_3) (FP.dmul rv (4606281698874543309 : UInt64)) (iv + (1 : Int32)) (own_l0 hi0 hc12_3) (own_l1 hi0 hc12_3) (own_l2 hi0 hc12_3 hrv) rfl
    · obtain ⟨fs, hr, hrun, hended, hW, hsame⟩ := X0.leave (v := some (.double rv)) (fun h => by rw [Bd.returns] at h; cases h)
      refine ⟨_, _, ?_, hrun, hended, _, _, rfl, ?_, ⟨_, rfl⟩, hW, hsame.mono (by decide) (by decide)⟩
      · show Steps p.tables e below (s₁.setTop (mkF m 12 #[.val (.double x1), .second, .val (.int p2), .val (.double rv), .second, .val (.int iv)] [(.int p2), (.int iv)])) _
        refine XS.icmpYes X0.here hx rfl (pc0 := 12) (pc' := 27) rfl (hb hby d1_12) rfl ((flt hc12_3).2.1) (by decide) (by decide) ?_
        show Steps p.tables e below (s₁.setTop (mkF m 27 #[.val (.double x1), .second, .val (.int p2), .val (.double rv), .second, .val (.int iv)] [])) _
        refine XS.dloadN X0.here hx rfl (hb hby d1_27) rfl ?_
        show Steps p.tables e below (s₁.setTop (mkF m 28 #[.val (.double x1), .second, .val (.int p2), .val (.double rv), .second, .val (.int iv)] [(.double rv)])) _
        exact retOut X0 hx Bd.returns rfl (Or.inr (Or.inr (Or.inl ⟨rfl, rfl, _, rfl⟩))) (hb hby d1_28) hr
      · show Qst Z x1 p2 h0 n0 _ s₁.heap _
        exact ⟨(congrArg (fun z => some (Value.double z)) (own_lx hi1 hc12_3 hrv)), N0, e0⟩
  exact LP1 ((p2.toInt - ((0 : Int32)).toInt).toNat) (FP.ddiv x1 (4621819117588971520 : UInt64)) (0 : Int32) (by decide) ht.1 rfl rfl
theorem pn_1 : plainName "com/example/bit1/bit1/GrowingBloomFilterStageRatePinLaw" = true := by first | (simp [plainName, overriddenIn]; done) | decide +kernel
theorem pd_0 : parseMethodDescriptor "(DI)D" = some ⟨[.double, .int], some .double⟩ := by decide +kernel
theorem ef_rm0 (m : MethodId) (p1 : Int32) (p2 : Int32) (p3 : Int32) : entryFrame m #[(.int p1), (.int p2), (.int p3)] maxLocals = mkF m 0 #[.val (.int p1), .val (.int p2), .val (.int p3), .unset, .unset, .unset, .unset, .unset, .unset, .unset, .unset, .unset, .unset, .unset, .unset, .unset, .unset] [] := by first | (simp [entryFrame, mkF, argsToLocals, Value.category, maxLocals]; done) | rfl
def Q0 (Z : State) (p1 : Int32) (p2 : Int32) (p3 : Int32) (h0 : Heap) (n0 : Nat) (v : Option Value) (h : Heap) (L : List Loc) : Prop := v = some (.int (1 : Int32)) ∧ Fr n0 L
set_option maxRecDepth 65536 in
set_option maxHeartbeats 40000000 in
theorem rm0 (l : Launch) (Z : State) (a0 : Array Value) (hw : ∀ d ∈ tables_1, d.before a0 Z = true) (ws : List Jvm.Cond) (p1 : Int32) (p2 : Int32) (p3 : Int32) (h0 : Heap) (n0 : Nat) (Z0 : n0 ≤ h0.size) :
    MetFree l x (head1 (Jvm.Cond.code x code maxLocals ret :: ws) room_1) (fun a U => a = #[(.int p1), (.int p2), (.int p3)] ∧ Z.Warmed39 U.vm ∧ U.heap = h0) (fun _ _ _ _ _ => True) (fun _ U o U' => ∃ v L, o = .returned v ∧ Q0 Z p1 p2 p3 h0 n0 v U'.heap L ∧ FrameEnd U o U' L 0 0) := by
  refine MetFree.of_bodySF (plainFor_of_name pn_1) hisR ?_
  intro p e s m args below meth c s₁ Bd hml0 hP hK
  obtain ⟨rfl, hZ, hh⟩ := hP
  have hx := Bd.exec
  have hby := Bd.bytes
  have hml : c.maxLocals = 17 := hml0
  have hown : s.vm.findClass "com/example/bit1/bit1/GrowingBloomFilterStageRatePinLaw" = some m.cls := findClass_of_methodNamed Bd.named
  have hnm := (name_of_methodNamed Bd.named Bd.method).1
  have X0 : Stand p l e room_1 s m #[(.int p1), (.int p2), (.int p3)] below meth c s₁ [] 0 0 := Stand.of_body Bd
  have e0 : s₁.heap = h0 := by rw [← hh, Bd.state]; rfl
  have N0 := Fr.nil n0
  show GoalS p.tables e below s 0 0 (Q0 Z p1 p2 p3 h0 n0) (s₁.setTop (entryFrame m #[(.int p1), (.int p2), (.int p3)] maxLocals))
  refine GoalS.lift (B := s₁.setTop (mkF m 0 #[.val (.int p1), .val (.int p2), .val (.int p3), .unset, .unset, .unset, .unset, .unset, .unset, .unset, .unset, .unset, .unset, .unset, .unset, .unset, .unset] [])) (fun t k => castTop (ef_rm0 m p1 p2 p3) k) ?_
  obtain ⟨dn, hdn⟩ : ∃ z : Int32, z = ((p2 &&& (1048575 : Int32)) + (2 : Int32)) := ⟨_, rfl⟩
  refine GoalS.lift (B := (s₁.setTop (mkF m 6 #[.val (.int p1), .val (.int p2), .val (.int p3), .unset, .unset, .unset, .unset, .unset, .unset, .unset, .unset, .unset, .unset, .unset, .unset, .unset, .unset] [(.int dn)]))) (fun t k => ?_) ?_
  · show Steps p.tables e below (s₁.setTop (mkF m 0 #[.val (.int p1), .val (.int p2), .val (.int p3), .unset, .unset, .unset, .unset, .unset, .unset, .unset, .unset, .unset, .unset, .unset, .unset, .unset, .unset] [])) _
    refine XS.iloadN X0.here hx rfl (hb hby at_0) rfl ?_
    show Steps p.tables e below (s₁.setTop (mkF m 1 #[.val (.int p1), .val (.int p2), .val (.int p3), .unset, .unset, .unset, .unset, .unset, .unset, .unset, .unset, .unset, .unset, .unset, .unset, .unset, .unset] [(.int p2)])) _
    refine X0.ldcInt hx hown (mvT hZ (hw _ (List.mem_of_getElem? (i := 0) rfl))) (g := (mkF m 1 #[.val (.int p1), .val (.int p2), .val (.int p3), .unset, .unset, .unset, .unset, .unset, .unset, .unset, .unset, .unset, .unset, .unset, .unset, .unset, .unset] [(.int p2)])) rfl (hb hby at_1) _ ?_
    show Steps p.tables e below (s₁.setTop (mkF m 3 #[.val (.int p1), .val (.int p2), .val (.int p3), .unset, .unset, .unset, .unset, .unset, .unset, .unset, .unset, .unset, .unset, .unset, .unset, .unset, .unset] [(.int (1048575 : Int32)), (.int p2)])) _
    refine XS.iand X0.here hx rfl (hb hby at_3) rfl ?_
    show Steps p.tables e below (s₁.setTop (mkF m 4 #[.val (.int p1), .val (.int p2), .val (.int p3), .unset, .unset, .unset, .unset, .unset, .unset, .unset, .unset, .unset, .unset, .unset, .unset, .unset, .unset] [(.int (p2 &&& (1048575 : Int32)))])) _
    refine XS.iconst X0.here hx rfl (hb hby at_4) ?_
    show Steps p.tables e below (s₁.setTop (mkF m 5 #[.val (.int p1), .val (.int p2), .val (.int p3), .unset, .unset, .unset, .unset, .unset, .unset, .unset, .unset, .unset, .unset, .unset, .unset, .unset, .unset] [(.int (2 : Int32)), (.int (p2 &&& (1048575 : Int32)))])) _
    refine XS.iadd X0.here hx rfl (hb hby at_5) rfl ?_
    rw [hdn] at k
    exact k
  have hd2 : 2 ≤ dn.toInt ∧ dn.toInt ≤ 1048577 := by rw [hdn]; exact own_dn p2
  have hdn0 : 0 < dn.toInt := by omega
  obtain ⟨nm, hnm1⟩ : ∃ z : Int32, z = (((p1 &&& (2147483647 : Int32)) % (dn - (1 : Int32))) + (1 : Int32)) := ⟨_, rfl⟩
  refine GoalS.lift (B := (s₁.setTop (mkF m 17 #[.val (.int p1), .val (.int p2), .val (.int p3), .val (.int dn), .unset, .unset, .unset, .unset, .unset, .unset, .unset, .unset, .unset, .unset, .unset, .unset, .unset] [(.int nm)]))) (fun t k => ?_) ?_
  · show Steps p.tables e below (s₁.setTop (mkF m 6 #[.val (.int p1), .val (.int p2), .val (.int p3), .unset, .unset, .unset, .unset, .unset, .unset, .unset, .unset, .unset, .unset, .unset, .unset, .unset, .unset] [(.int dn)])) _
    refine XS.istoreN X0.here hx rfl (hb hby at_6) rfl (l' := #[.val (.int p1), .val (.int p2), .val (.int p3), .val (.int dn), .unset, .unset, .unset, .unset, .unset, .unset, .unset, .unset, .unset, .unset, .unset, .unset, .unset]) rfl ?_
    show Steps p.tables e below (s₁.setTop (mkF m 7 #[.val (.int p1), .val (.int p2), .val (.int p3), .val (.int dn), .unset, .unset, .unset, .unset, .unset, .unset, .unset, .unset, .unset, .unset, .unset, .unset, .unset] [])) _
    refine XS.iloadN X0.here hx rfl (hb hby at_7) rfl ?_
    show Steps p.tables e below (s₁.setTop (mkF m 8 #[.val (.int p1), .val (.int p2), .val (.int p3), .val (.int dn), .unset, .unset, .unset, .unset, .unset, .unset, .unset, .unset, .unset, .unset, .unset, .unset, .unset] [(.int p1)])) _
    refine X0.ldcInt hx hown (mvT hZ (hw _ (List.mem_of_getElem? (i := 1) rfl))) (g := (mkF m 8 #[.val (.int p1), .val (.int p2), .val (.int p3), .val (.int dn), .unset, .unset, .unset, .unset, .unset, .unset, .unset, .unset, .unset, .unset, .unset, .unset, .unset] [(.int p1)])) rfl (hb hby at_8) _ ?_
    show Steps p.tables e below (s₁.setTop (mkF m 10 #[.val (.int p1), .val (.int p2), .val (.int p3), .val (.int dn), .unset, .unset, .unset, .unset, .unset, .unset, .unset, .unset, .unset, .unset, .unset, .unset, .unset] [(.int (2147483647 : Int32)), (.int p1)])) _
    refine XS.iand X0.here hx rfl (hb hby at_10) rfl ?_
    show Steps p.tables e below (s₁.setTop (mkF m 11 #[.val (.int p1), .val (.int p2), .val (.int p3), .val (.int dn), .unset, .unset, .unset, .unset, .unset, .unset, .unset, .unset, .unset, .unset, .unset, .unset, .unset] [(.int (p1 &&& (2147483647 : Int32)))])) _
    refine XS.iloadN X0.here hx rfl (hb hby at_11) rfl ?_
    show Steps p.tables e below (s₁.setTop (mkF m 12 #[.val (.int p1), .val (.int p2), .val (.int p3), .val (.int dn), .unset, .unset, .unset, .unset, .unset, .unset, .unset, .unset, .unset, .unset, .unset, .unset, .unset] [(.int dn), (.int (p1 &&& (2147483647 : Int32)))])) _
    refine XS.iconst X0.here hx rfl (hb hby at_12) ?_
    show Steps p.tables e below (s₁.setTop (mkF m 13 #[.val (.int p1), .val (.int p2), .val (.int p3), .val (.int dn), .unset, .unset, .unset, .unset, .unset, .unset, .unset, .unset, .unset, .unset, .unset, .unset, .unset] [(.int (1 : Int32)), (.int dn), (.int (p1 &&& (2147483647 : Int32)))])) _
    refine XS.isub X0.here hx rfl (hb hby at_13) rfl ?_
    show Steps p.tables e below (s₁.setTop (mkF m 14 #[.val (.int p1), .val (.int p2), .val (.int p3), .val (.int dn), .unset, .unset, .unset, .unset, .unset, .unset, .unset, .unset, .unset, .unset, .unset, .unset, .unset] [(.int (dn - (1 : Int32))), (.int (p1 &&& (2147483647 : Int32)))])) _
    refine iremM X0 hx rfl (hb hby at_14) rfl (own_dz hd2) ?_
    show Steps p.tables e below (s₁.setTop (mkF m 15 #[.val (.int p1), .val (.int p2), .val (.int p3), .val (.int dn), .unset, .unset, .unset, .unset, .unset, .unset, .unset, .unset, .unset, .unset, .unset, .unset, .unset] [(.int ((p1 &&& (2147483647 : Int32)) % (dn - (1 : Int32))))])) _
    refine XS.iconst X0.here hx rfl (hb hby at_15) ?_
    show Steps p.tables e below (s₁.setTop (mkF m 16 #[.val (.int p1), .val (.int p2), .val (.int p3), .val (.int dn), .unset, .unset, .unset, .unset, .unset, .unset, .unset, .unset, .unset, .unset, .unset, .unset, .unset] [(.int (1 : Int32)), (.int ((p1 &&& (2147483647 : Int32)) % (dn - (1 : Int32))))])) _
    refine XS.iadd X0.here hx rfl (hb hby at_16) rfl ?_
    rw [hnm1] at k
    exact k
  have hnm0 : 0 < nm.toInt := by rw [hnm1]; exact own_nmr hd2
  obtain ⟨px, hpx⟩ : ∃ z : UInt64, z = (FP.ddiv (FP.i2d nm) (FP.i2d dn)) := ⟨_, rfl⟩
  refine GoalS.lift (B := (s₁.setTop (mkF m 25 #[.val (.int p1), .val (.int p2), .val (.int p3), .val (.int dn), .val (.int nm), .unset, .unset, .unset, .unset, .unset, .unset, .unset, .unset, .unset, .unset, .unset, .unset] [(.double px)]))) (fun t k => ?_) ?_
  · show Steps p.tables e below (s₁.setTop (mkF m 17 #[.val (.int p1), .val (.int p2), .val (.int p3), .val (.int dn), .unset, .unset, .unset, .unset, .unset, .unset, .unset, .unset, .unset, .unset, .unset, .unset, .unset] [(.int nm)])) _
    refine XS.istore X0.here hx rfl (hb hby at_17) rfl (l' := #[.val (.int p1), .val (.int p2), .val (.int p3), .val (.int dn), .val (.int nm), .unset, .unset, .unset, .unset, .unset, .unset, .unset, .unset, .unset, .unset, .unset, .unset]) rfl ?_
    show Steps p.tables e below (s₁.setTop (mkF m 19 #[.val (.int p1), .val (.int p2), .val (.int p3), .val (.int dn), .val (.int nm), .unset, .unset, .unset, .unset, .unset, .unset, .unset, .unset, .unset, .unset, .unset, .unset] [])) _
    refine XS.iload X0.here hx rfl (hb hby at_19) rfl ?_
    show Steps p.tables e below (s₁.setTop (mkF m 21 #[.val (.int p1), .val (.int p2), .val (.int p3), .val (.int dn), .val (.int nm), .unset, .unset, .unset, .unset, .unset, .unset, .unset, .unset, .unset, .unset, .unset, .unset] [(.int nm)])) _
    refine XS.i2dS X0.here hx rfl (hb hby at_21) rfl rfl ?_
    show Steps p.tables e below (s₁.setTop (mkF m 22 #[.val (.int p1), .val (.int p2), .val (.int p3), .val (.int dn), .val (.int nm), .unset, .unset, .unset, .unset, .unset, .unset, .unset, .unset, .unset, .unset, .unset, .unset] [(.double (FP.i2d nm))])) _
    refine XS.iloadN X0.here hx rfl (hb hby at_22) rfl ?_
    show Steps p.tables e below (s₁.setTop (mkF m 23 #[.val (.int p1), .val (.int p2), .val (.int p3), .val (.int dn), .val (.int nm), .unset, .unset, .unset, .unset, .unset, .unset, .unset, .unset, .unset, .unset, .unset, .unset] [(.int dn), (.double (FP.i2d nm))])) _
    refine XS.i2dS X0.here hx rfl (hb hby at_23) rfl rfl ?_
    show Steps p.tables e below (s₁.setTop (mkF m 24 #[.val (.int p1), .val (.int p2), .val (.int p3), .val (.int dn), .val (.int nm), .unset, .unset, .unset, .unset, .unset, .unset, .unset, .unset, .unset, .unset, .unset, .unset] [(.double (FP.i2d dn)), (.double (FP.i2d nm))])) _
    refine XS.ddivS X0.here hx rfl (hb hby at_24) rfl (own_fn (JOwnF.quo hnm0 hdn0).1) rfl ?_
    rw [hpx] at k
    exact k
  have hP : JOwnF.Pos px := by rw [hpx]; exact (JOwnF.quo hnm0 hdn0).1
  have hL : 983 * 2 ^ 52 ≤ px.toNat := by rw [hpx]; exact (JOwnF.quo hnm0 hdn0).2
  obtain ⟨tt, htt⟩ : ∃ z : Int32, z = ((p3 &&& (2147483647 : Int32)) % (37 : Int32)) := ⟨_, rfl⟩
  refine GoalS.lift (B := (s₁.setTop (mkF m 34 #[.val (.int p1), .val (.int p2), .val (.int p3), .val (.int dn), .val (.int nm), .val (.double px), .second, .unset, .unset, .unset, .unset, .unset, .unset, .unset, .unset, .unset, .unset] [(.int tt)]))) (fun t k => ?_) ?_
  · show Steps p.tables e below (s₁.setTop (mkF m 25 #[.val (.int p1), .val (.int p2), .val (.int p3), .val (.int dn), .val (.int nm), .unset, .unset, .unset, .unset, .unset, .unset, .unset, .unset, .unset, .unset, .unset, .unset] [(.double px)])) _
    refine XS.dstore X0.here hx rfl (hb hby at_25) rfl (l' := #[.val (.int p1), .val (.int p2), .val (.int p3), .val (.int dn), .val (.int nm), .val (.double px), .second, .unset, .unset, .unset, .unset, .unset, .unset, .unset, .unset, .unset, .unset]) rfl ?_
    show Steps p.tables e below (s₁.setTop (mkF m 27 #[.val (.int p1), .val (.int p2), .val (.int p3), .val (.int dn), .val (.int nm), .val (.double px), .second, .unset, .unset, .unset, .unset, .unset, .unset, .unset, .unset, .unset, .unset] [])) _
    refine XS.iloadN X0.here hx rfl (hb hby at_27) rfl ?_
    show Steps p.tables e below (s₁.setTop (mkF m 28 #[.val (.int p1), .val (.int p2), .val (.int p3), .val (.int dn), .val (.int nm), .val (.double px), .second, .unset, .unset, .unset, .unset, .unset, .unset, .unset, .unset, .unset, .unset] [(.int p3)])) _
    refine X0.ldcInt hx hown (mvT hZ (hw _ (List.mem_of_getElem? (i := 1) rfl))) (g := (mkF m 28 #[.val (.int p1), .val (.int p2), .val (.int p3), .val (.int dn), .val (.int nm), .val (.double px), .second, .unset, .unset, .unset, .unset, .unset, .unset, .unset, .unset, .unset, .unset] [(.int p3)])) rfl (hb hby at_28) _ ?_
    show Steps p.tables e below (s₁.setTop (mkF m 30 #[.val (.int p1), .val (.int p2), .val (.int p3), .val (.int dn), .val (.int nm), .val (.double px), .second, .unset, .unset, .unset, .unset, .unset, .unset, .unset, .unset, .unset, .unset] [(.int (2147483647 : Int32)), (.int p3)])) _
    refine XS.iand X0.here hx rfl (hb hby at_30) rfl ?_
    show Steps p.tables e below (s₁.setTop (mkF m 31 #[.val (.int p1), .val (.int p2), .val (.int p3), .val (.int dn), .val (.int nm), .val (.double px), .second, .unset, .unset, .unset, .unset, .unset, .unset, .unset, .unset, .unset, .unset] [(.int (p3 &&& (2147483647 : Int32)))])) _
    refine XS.bipush X0.here hx rfl (hb hby at_31) ?_
    show Steps p.tables e below (s₁.setTop (mkF m 33 #[.val (.int p1), .val (.int p2), .val (.int p3), .val (.int dn), .val (.int nm), .val (.double px), .second, .unset, .unset, .unset, .unset, .unset, .unset, .unset, .unset, .unset, .unset] [(.int (37 : Int32)), (.int (p3 &&& (2147483647 : Int32)))])) _
    refine iremM X0 hx rfl (hb hby at_33) rfl (by decide) ?_
    rw [htt] at k
    exact k
  have ht : 0 ≤ tt.toInt ∧ tt.toInt ≤ 36 := by rw [htt]; exact own_t p3
  obtain ⟨_, _, ⟨T1, L1, k1, n1⟩, -, X1, ⟨Lc1, hQ1, l1, y1, z1⟩, st1⟩ := Jvm.LawKit.callS X0 hx (y := (⟨"com/example/bit1/bit1/GrowingBloomFilter", "stageRate", "(DI)D"⟩ : MethodName)) hown (mvT hZ (hw _ (List.mem_of_getElem? (i := 2) rfl))) (mvT hZ (hw _ (List.mem_of_getElem? (i := 3) rfl))) (mvT hZ (hw _ (List.mem_of_getElem? (i := 4) rfl))) (mvT hZ (hw _ (List.mem_of_getElem? (i := 5) rfl))) (by decide) (backOf (W := 0) (rmst l Z a0 hw [] px (0 : Int32) h0 n0 Z0 hP hL ⟨by decide, by decide⟩) hZ (hw _ (List.mem_of_getElem? (i := 5) rfl)) (hw _ (List.mem_of_getElem? (i := 4) rfl)) (by decide) (by decide)) (g := (mkF m 39 #[.val (.int p1), .val (.int p2), .val (.int p3), .val (.int dn), .val (.int nm), .val (.double px), .second, .val (.int tt), .unset, .unset, .unset, .unset, .unset, .unset, .unset, .unset, .unset] [(.int (0 : Int32)), (.double px)])) rfl (by rw [hml]; rfl) (argsL := [(.double px), (.int (0 : Int32))]) (rest := []) (lenOf pd_0 rfl) rfl (by show 2 * 0 + _ ≤ _; exact Nat.le_of_eq rfl) (hb hby at_39) (fun _ _ => ⟨rfl, e0, (by decide : 0 + 0 ≤ _), (by decide : 0 + 0 ≤ _)⟩)
  dsimp only [Pt.U, Pt.locs, Pt.cells, Pt.slots] at X1 l1 y1 z1 st1 hQ1
  subst y1 z1
  obtain ⟨rfl, N1q, eq1⟩ := hQ1
  have N1 : Fr n0 L1 := by rw [l1]; exact Fr.app N0 N1q
  obtain ⟨_, _, ⟨T2, L2, k2, n2⟩, -, X2, ⟨Lc2, hQ2, l2, y2, z2⟩, st2⟩ := Jvm.LawKit.callS X1 hx (y := (⟨"com/example/bit1/bit1/GrowingBloomFilter", "stageRate", "(DI)D"⟩ : MethodName)) hown (mvT hZ (hw _ (List.mem_of_getElem? (i := 2) rfl))) (mvT hZ (hw _ (List.mem_of_getElem? (i := 3) rfl))) (mvT hZ (hw _ (List.mem_of_getElem? (i := 4) rfl))) (mvT hZ (hw _ (List.mem_of_getElem? (i := 5) rfl))) (by decide) (backOf (W := 0) (rmst l Z a0 hw [] px tt h0 n0 Z0 hP hL ⟨ht.1, by omega⟩) hZ (hw _ (List.mem_of_getElem? (i := 5) rfl)) (hw _ (List.mem_of_getElem? (i := 4) rfl)) (by decide) (by decide)) (g := (mkF m 48 #[.val (.int p1), .val (.int p2), .val (.int p3), .val (.int dn), .val (.int nm), .val (.double px), .second, .val (.int tt), .val (.double (JOwnF.it (FP.ddiv px (4621819117588971520 : UInt64)) ((0 : Int32)).toNatClampNeg)), .second, .unset, .unset, .unset, .unset, .unset, .unset, .unset] [(.int tt), (.double px)])) rfl (by rw [hml]; rfl) (argsL := [(.double px), (.int tt)]) (rest := []) (lenOf pd_0 rfl) rfl (by show 2 * 0 + _ ≤ _; exact Nat.le_of_eq rfl) (hb hby at_48) (fun _ _ => ⟨rfl, eq1, (by decide : 0 + 0 ≤ _), (by decide : 0 + 0 ≤ _)⟩)
  dsimp only [Pt.U, Pt.locs, Pt.cells, Pt.slots] at X2 l2 y2 z2 st2 hQ2
  subst y2 z2
  obtain ⟨rfl, N2q, eq2⟩ := hQ2
  have N2 : Fr n0 L2 := by rw [l2]; exact Fr.app N1 N2q
  obtain ⟨_, _, ⟨T3, L3, k3, n3⟩, -, X3, ⟨Lc3, hQ3, l3, y3, z3⟩, st3⟩ := Jvm.LawKit.callS X2 hx (y := (⟨"com/example/bit1/bit1/GrowingBloomFilter", "stageRate", "(DI)D"⟩ : MethodName)) hown (mvT hZ (hw _ (List.mem_of_getElem? (i := 2) rfl))) (mvT hZ (hw _ (List.mem_of_getElem? (i := 3) rfl))) (mvT hZ (hw _ (List.mem_of_getElem? (i := 4) rfl))) (mvT hZ (hw _ (List.mem_of_getElem? (i := 5) rfl))) (by decide) (backOf (W := 0) (rmst l Z a0 hw [] px (tt + (1 : Int32)) h0 n0 Z0 hP hL ⟨(own_t1 ht).1, (own_t1 ht).2.1⟩) hZ (hw _ (List.mem_of_getElem? (i := 5) rfl)) (hw _ (List.mem_of_getElem? (i := 4) rfl)) (by decide) (by decide)) (g := (mkF m 59 #[.val (.int p1), .val (.int p2), .val (.int p3), .val (.int dn), .val (.int nm), .val (.double px), .second, .val (.int tt), .val (.double (JOwnF.it (FP.ddiv px (4621819117588971520 : UInt64)) ((0 : Int32)).toNatClampNeg)), .second, .val (.double (JOwnF.it (FP.ddiv px (4621819117588971520 : UInt64)) (tt).toNatClampNeg)), .second, .unset, .unset, .unset, .unset, .unset] [(.int (tt + (1 : Int32))), (.double px)])) rfl (by rw [hml]; rfl) (argsL := [(.double px), (.int (tt + (1 : Int32)))]) (rest := []) (lenOf pd_0 rfl) rfl (by show 2 * 0 + _ ≤ _; exact Nat.le_of_eq rfl) (hb hby at_59) (fun _ _ => ⟨rfl, eq2, (by decide : 0 + 0 ≤ _), (by decide : 0 + 0 ≤ _)⟩)
  dsimp only [Pt.U, Pt.locs, Pt.cells, Pt.slots] at X3 l3 y3 z3 st3 hQ3
  subst y3 z3
  obtain ⟨rfl, N3q, eq3⟩ := hQ3
  have N3 : Fr n0 L3 := by rw [l3]; exact Fr.app N2 N3q
  obtain ⟨fs, hr, hrun, hended, hW, hsame⟩ := X3.leave (v := some (.int (1 : Int32))) (fun h => by rw [Bd.returns] at h; cases h)
  refine ⟨_, _, ?_, hrun, hended, _, _, rfl, ?_, ⟨_, rfl⟩, hW, hsame.mono (by decide) (by decide)⟩
  · show Steps p.tables e below (s₁.setTop (mkF m 34 #[.val (.int p1), .val (.int p2), .val (.int p3), .val (.int dn), .val (.int nm), .val (.double px), .second, .unset, .unset, .unset, .unset, .unset, .unset, .unset, .unset, .unset, .unset] [(.int tt)])) _
    refine XS.istore X0.here hx rfl (hb hby at_34) rfl (l' := #[.val (.int p1), .val (.int p2), .val (.int p3), .val (.int dn), .val (.int nm), .val (.double px), .second, .val (.int tt), .unset, .unset, .unset, .unset, .unset, .unset, .unset, .unset, .unset]) rfl ?_
    show Steps p.tables e below (s₁.setTop (mkF m 36 #[.val (.int p1), .val (.int p2), .val (.int p3), .val (.int dn), .val (.int nm), .val (.double px), .second, .val (.int tt), .unset, .unset, .unset, .unset, .unset, .unset, .unset, .unset, .unset] [])) _
    refine XS.dload X0.here hx rfl (hb hby at_36) rfl ?_
    show Steps p.tables e below (s₁.setTop (mkF m 38 #[.val (.int p1), .val (.int p2), .val (.int p3), .val (.int dn), .val (.int nm), .val (.double px), .second, .val (.int tt), .unset, .unset, .unset, .unset, .unset, .unset, .unset, .unset, .unset] [(.double px)])) _
    refine XS.iconst X0.here hx rfl (hb hby at_38) ?_
    show Steps p.tables e below (s₁.setTop (mkF m 39 #[.val (.int p1), .val (.int p2), .val (.int p3), .val (.int dn), .val (.int nm), .val (.double px), .second, .val (.int tt), .unset, .unset, .unset, .unset, .unset, .unset, .unset, .unset, .unset] [(.int (0 : Int32)), (.double px)])) _
    refine st1 _ ?_
    show Steps p.tables e below (T1.setTop (mkF m 42 #[.val (.int p1), .val (.int p2), .val (.int p3), .val (.int dn), .val (.int nm), .val (.double px), .second, .val (.int tt), .unset, .unset, .unset, .unset, .unset, .unset, .unset, .unset, .unset] [(.double (JOwnF.it (FP.ddiv px (4621819117588971520 : UInt64)) ((0 : Int32)).toNatClampNeg))])) _
    refine XS.dstore X1.here hx rfl (hb hby at_42) rfl (l' := #[.val (.int p1), .val (.int p2), .val (.int p3), .val (.int dn), .val (.int nm), .val (.double px), .second, .val (.int tt), .val (.double (JOwnF.it (FP.ddiv px (4621819117588971520 : UInt64)) ((0 : Int32)).toNatClampNeg)), .second, .unset, .unset, .unset, .unset, .unset, .unset, .unset]) rfl ?_
    show Steps p.tables e below (T1.setTop (mkF m 44 #[.val (.int p1), .val (.int p2), .val (.int p3), .val (.int dn), .val (.int nm), .val (.double px), .second, .val (.int tt), .val (.double (JOwnF.it (FP.ddiv px (4621819117588971520 : UInt64)) ((0 : Int32)).toNatClampNeg)), .second, .unset, .unset, .unset, .unset, .unset, .unset, .unset] [])) _
    refine XS.dload X1.here hx rfl (hb hby at_44) rfl ?_
    show Steps p.tables e below (T1.setTop (mkF m 46 #[.val (.int p1), .val (.int p2), .val (.int p3), .val (.int dn), .val (.int nm), .val (.double px), .second, .val (.int tt), .val (.double (JOwnF.it (FP.ddiv px (4621819117588971520 : UInt64)) ((0 : Int32)).toNatClampNeg)), .second, .unset, .unset, .unset, .unset, .unset, .unset, .unset] [(.double px)])) _
    refine XS.iload X1.here hx rfl (hb hby at_46) rfl ?_
    show Steps p.tables e below (T1.setTop (mkF m 48 #[.val (.int p1), .val (.int p2), .val (.int p3), .val (.int dn), .val (.int nm), .val (.double px), .second, .val (.int tt), .val (.double (JOwnF.it (FP.ddiv px (4621819117588971520 : UInt64)) ((0 : Int32)).toNatClampNeg)), .second, .unset, .unset, .unset, .unset, .unset, .unset, .unset] [(.int tt), (.double px)])) _
    refine st2 _ ?_
    show Steps p.tables e below (T2.setTop (mkF m 51 #[.val (.int p1), .val (.int p2), .val (.int p3), .val (.int dn), .val (.int nm), .val (.double px), .second, .val (.int tt), .val (.double (JOwnF.it (FP.ddiv px (4621819117588971520 : UInt64)) ((0 : Int32)).toNatClampNeg)), .second, .unset, .unset, .unset, .unset, .unset, .unset, .unset] [(.double (JOwnF.it (FP.ddiv px (4621819117588971520 : UInt64)) (tt).toNatClampNeg))])) _
    refine XS.dstore X2.here hx rfl (hb hby at_51) rfl (l' := #[.val (.int p1), .val (.int p2), .val (.int p3), .val (.int dn), .val (.int nm), .val (.double px), .second, .val (.int tt), .val (.double (JOwnF.it (FP.ddiv px (4621819117588971520 : UInt64)) ((0 : Int32)).toNatClampNeg)), .second, .val (.double (JOwnF.it (FP.ddiv px (4621819117588971520 : UInt64)) (tt).toNatClampNeg)), .second, .unset, .unset, .unset, .unset, .unset]) rfl ?_
    show Steps p.tables e below (T2.setTop (mkF m 53 #[.val (.int p1), .val (.int p2), .val (.int p3), .val (.int dn), .val (.int nm), .val (.double px), .second, .val (.int tt), .val (.double (JOwnF.it (FP.ddiv px (4621819117588971520 : UInt64)) ((0 : Int32)).toNatClampNeg)), .second, .val (.double (JOwnF.it (FP.ddiv px (4621819117588971520 : UInt64)) (tt).toNatClampNeg)), .second, .unset, .unset, .unset, .unset, .unset] [])) _
    refine XS.dload X2.here hx rfl (hb hby at_53) rfl ?_
    show Steps p.tables e below (T2.setTop (mkF m 55 #[.val (.int p1), .val (.int p2), .val (.int p3), .val (.int dn), .val (.int nm), .val (.double px), .second, .val (.int tt), .val (.double (JOwnF.it (FP.ddiv px (4621819117588971520 : UInt64)) ((0 : Int32)).toNatClampNeg)), .second, .val (.double (JOwnF.it (FP.ddiv px (4621819117588971520 : UInt64)) (tt).toNatClampNeg)), .second, .unset, .unset, .unset, .unset, .unset] [(.double px)])) _
    refine XS.iload X2.here hx rfl (hb hby at_55) rfl ?_
    show Steps p.tables e below (T2.setTop (mkF m 57 #[.val (.int p1), .val (.int p2), .val (.int p3), .val (.int dn), .val (.int nm), .val (.double px), .second, .val (.int tt), .val (.double (JOwnF.it (FP.ddiv px (4621819117588971520 : UInt64)) ((0 : Int32)).toNatClampNeg)), .second, .val (.double (JOwnF.it (FP.ddiv px (4621819117588971520 : UInt64)) (tt).toNatClampNeg)), .second, .unset, .unset, .unset, .unset, .unset] [(.int tt), (.double px)])) _
    refine XS.iconst X2.here hx rfl (hb hby at_57) ?_
    show Steps p.tables e below (T2.setTop (mkF m 58 #[.val (.int p1), .val (.int p2), .val (.int p3), .val (.int dn), .val (.int nm), .val (.double px), .second, .val (.int tt), .val (.double (JOwnF.it (FP.ddiv px (4621819117588971520 : UInt64)) ((0 : Int32)).toNatClampNeg)), .second, .val (.double (JOwnF.it (FP.ddiv px (4621819117588971520 : UInt64)) (tt).toNatClampNeg)), .second, .unset, .unset, .unset, .unset, .unset] [(.int (1 : Int32)), (.int tt), (.double px)])) _
    refine XS.iadd X2.here hx rfl (hb hby at_58) rfl ?_
    show Steps p.tables e below (T2.setTop (mkF m 59 #[.val (.int p1), .val (.int p2), .val (.int p3), .val (.int dn), .val (.int nm), .val (.double px), .second, .val (.int tt), .val (.double (JOwnF.it (FP.ddiv px (4621819117588971520 : UInt64)) ((0 : Int32)).toNatClampNeg)), .second, .val (.double (JOwnF.it (FP.ddiv px (4621819117588971520 : UInt64)) (tt).toNatClampNeg)), .second, .unset, .unset, .unset, .unset, .unset] [(.int (tt + (1 : Int32))), (.double px)])) _
    refine st3 _ ?_
    show Steps p.tables e below (T3.setTop (mkF m 62 #[.val (.int p1), .val (.int p2), .val (.int p3), .val (.int dn), .val (.int nm), .val (.double px), .second, .val (.int tt), .val (.double (JOwnF.it (FP.ddiv px (4621819117588971520 : UInt64)) ((0 : Int32)).toNatClampNeg)), .second, .val (.double (JOwnF.it (FP.ddiv px (4621819117588971520 : UInt64)) (tt).toNatClampNeg)), .second, .unset, .unset, .unset, .unset, .unset] [(.double (JOwnF.it (FP.ddiv px (4621819117588971520 : UInt64)) ((tt + (1 : Int32))).toNatClampNeg))])) _
    refine XS.dstore X3.here hx rfl (hb hby at_62) rfl (l' := #[.val (.int p1), .val (.int p2), .val (.int p3), .val (.int dn), .val (.int nm), .val (.double px), .second, .val (.int tt), .val (.double (JOwnF.it (FP.ddiv px (4621819117588971520 : UInt64)) ((0 : Int32)).toNatClampNeg)), .second, .val (.double (JOwnF.it (FP.ddiv px (4621819117588971520 : UInt64)) (tt).toNatClampNeg)), .second, .val (.double (JOwnF.it (FP.ddiv px (4621819117588971520 : UInt64)) ((tt + (1 : Int32))).toNatClampNeg)), .second, .unset, .unset, .unset]) rfl ?_
    show Steps p.tables e below (T3.setTop (mkF m 64 #[.val (.int p1), .val (.int p2), .val (.int p3), .val (.int dn), .val (.int nm), .val (.double px), .second, .val (.int tt), .val (.double (JOwnF.it (FP.ddiv px (4621819117588971520 : UInt64)) ((0 : Int32)).toNatClampNeg)), .second, .val (.double (JOwnF.it (FP.ddiv px (4621819117588971520 : UInt64)) (tt).toNatClampNeg)), .second, .val (.double (JOwnF.it (FP.ddiv px (4621819117588971520 : UInt64)) ((tt + (1 : Int32))).toNatClampNeg)), .second, .unset, .unset, .unset] [])) _
    refine XS.dload X3.here hx rfl (hb hby at_64) rfl ?_
    show Steps p.tables e below (T3.setTop (mkF m 66 #[.val (.int p1), .val (.int p2), .val (.int p3), .val (.int dn), .val (.int nm), .val (.double px), .second, .val (.int tt), .val (.double (JOwnF.it (FP.ddiv px (4621819117588971520 : UInt64)) ((0 : Int32)).toNatClampNeg)), .second, .val (.double (JOwnF.it (FP.ddiv px (4621819117588971520 : UInt64)) (tt).toNatClampNeg)), .second, .val (.double (JOwnF.it (FP.ddiv px (4621819117588971520 : UInt64)) ((tt + (1 : Int32))).toNatClampNeg)), .second, .unset, .unset, .unset] [(.double (JOwnF.it (FP.ddiv px (4621819117588971520 : UInt64)) ((0 : Int32)).toNatClampNeg))])) _
    refine XS.dload X3.here hx rfl (hb hby at_66) rfl ?_
    show Steps p.tables e below (T3.setTop (mkF m 68 #[.val (.int p1), .val (.int p2), .val (.int p3), .val (.int dn), .val (.int nm), .val (.double px), .second, .val (.int tt), .val (.double (JOwnF.it (FP.ddiv px (4621819117588971520 : UInt64)) ((0 : Int32)).toNatClampNeg)), .second, .val (.double (JOwnF.it (FP.ddiv px (4621819117588971520 : UInt64)) (tt).toNatClampNeg)), .second, .val (.double (JOwnF.it (FP.ddiv px (4621819117588971520 : UInt64)) ((tt + (1 : Int32))).toNatClampNeg)), .second, .unset, .unset, .unset] [(.double px), (.double (JOwnF.it (FP.ddiv px (4621819117588971520 : UInt64)) ((0 : Int32)).toNatClampNeg))])) _
    refine X3.ldc2DoubleC hx hown (mvT hZ (hw _ (List.mem_of_getElem? (i := 8) rfl))) (g := (mkF m 68 #[.val (.int p1), .val (.int p2), .val (.int p3), .val (.int dn), .val (.int nm), .val (.double px), .second, .val (.int tt), .val (.double (JOwnF.it (FP.ddiv px (4621819117588971520 : UInt64)) ((0 : Int32)).toNatClampNeg)), .second, .val (.double (JOwnF.it (FP.ddiv px (4621819117588971520 : UInt64)) (tt).toNatClampNeg)), .second, .val (.double (JOwnF.it (FP.ddiv px (4621819117588971520 : UInt64)) ((tt + (1 : Int32))).toNatClampNeg)), .second, .unset, .unset, .unset] [(.double px), (.double (JOwnF.it (FP.ddiv px (4621819117588971520 : UInt64)) ((0 : Int32)).toNatClampNeg))])) rfl (hb hby at_68) _ ?_
    show Steps p.tables e below (T3.setTop (mkF m 71 #[.val (.int p1), .val (.int p2), .val (.int p3), .val (.int dn), .val (.int nm), .val (.double px), .second, .val (.int tt), .val (.double (JOwnF.it (FP.ddiv px (4621819117588971520 : UInt64)) ((0 : Int32)).toNatClampNeg)), .second, .val (.double (JOwnF.it (FP.ddiv px (4621819117588971520 : UInt64)) (tt).toNatClampNeg)), .second, .val (.double (JOwnF.it (FP.ddiv px (4621819117588971520 : UInt64)) ((tt + (1 : Int32))).toNatClampNeg)), .second, .unset, .unset, .unset] [(.double (4621819117588971520 : UInt64)), (.double px), (.double (JOwnF.it (FP.ddiv px (4621819117588971520 : UInt64)) ((0 : Int32)).toNatClampNeg))])) _
    refine XS.ddivS X3.here hx rfl (hb hby at_71) rfl (own_fn (JOwnF.tenth hP hL).1) rfl ?_
    show Steps p.tables e below (T3.setTop (mkF m 72 #[.val (.int p1), .val (.int p2), .val (.int p3), .val (.int dn), .val (.int nm), .val (.double px), .second, .val (.int tt), .val (.double (JOwnF.it (FP.ddiv px (4621819117588971520 : UInt64)) ((0 : Int32)).toNatClampNeg)), .second, .val (.double (JOwnF.it (FP.ddiv px (4621819117588971520 : UInt64)) (tt).toNatClampNeg)), .second, .val (.double (JOwnF.it (FP.ddiv px (4621819117588971520 : UInt64)) ((tt + (1 : Int32))).toNatClampNeg)), .second, .unset, .unset, .unset] [(.double (FP.ddiv px (4621819117588971520 : UInt64))), (.double (JOwnF.it (FP.ddiv px (4621819117588971520 : UInt64)) ((0 : Int32)).toNatClampNeg))])) _
    refine XS.dcmpS X3.here hx rfl (hb hby at_72) rfl (v := (0 : Int32)) (dcmpV_eq rfl (own_fn (JOwnF.tenth hP hL).1) .l) ?_
    show Steps p.tables e below (T3.setTop (mkF m 73 #[.val (.int p1), .val (.int p2), .val (.int p3), .val (.int dn), .val (.int nm), .val (.double px), .second, .val (.int tt), .val (.double (JOwnF.it (FP.ddiv px (4621819117588971520 : UInt64)) ((0 : Int32)).toNatClampNeg)), .second, .val (.double (JOwnF.it (FP.ddiv px (4621819117588971520 : UInt64)) (tt).toNatClampNeg)), .second, .val (.double (JOwnF.it (FP.ddiv px (4621819117588971520 : UInt64)) ((tt + (1 : Int32))).toNatClampNeg)), .second, .unset, .unset, .unset] [(.int (0 : Int32))])) _
    refine XS.ifNo X3.here hx rfl (hb hby at_73) rfl ((if0 _ _).trans (teq (by decide : (0 : Int32) = (0 : Int32))).2) ?_
    show Steps p.tables e below (T3.setTop (mkF m 76 #[.val (.int p1), .val (.int p2), .val (.int p3), .val (.int dn), .val (.int nm), .val (.double px), .second, .val (.int tt), .val (.double (JOwnF.it (FP.ddiv px (4621819117588971520 : UInt64)) ((0 : Int32)).toNatClampNeg)), .second, .val (.double (JOwnF.it (FP.ddiv px (4621819117588971520 : UInt64)) (tt).toNatClampNeg)), .second, .val (.double (JOwnF.it (FP.ddiv px (4621819117588971520 : UInt64)) ((tt + (1 : Int32))).toNatClampNeg)), .second, .unset, .unset, .unset] [])) _
    refine XS.iconst X3.here hx rfl (hb hby at_76) ?_
    show Steps p.tables e below (T3.setTop (mkF m 77 #[.val (.int p1), .val (.int p2), .val (.int p3), .val (.int dn), .val (.int nm), .val (.double px), .second, .val (.int tt), .val (.double (JOwnF.it (FP.ddiv px (4621819117588971520 : UInt64)) ((0 : Int32)).toNatClampNeg)), .second, .val (.double (JOwnF.it (FP.ddiv px (4621819117588971520 : UInt64)) (tt).toNatClampNeg)), .second, .val (.double (JOwnF.it (FP.ddiv px (4621819117588971520 : UInt64)) ((tt + (1 : Int32))).toNatClampNeg)), .second, .unset, .unset, .unset] [(.int (1 : Int32))])) _
    refine XS.goto X3.here hx rfl (pc0 := 77) (pc' := 81) rfl (hb hby at_77) (by decide) (by decide) ?_
    show Steps p.tables e below (T3.setTop (mkF m 81 #[.val (.int p1), .val (.int p2), .val (.int p3), .val (.int dn), .val (.int nm), .val (.double px), .second, .val (.int tt), .val (.double (JOwnF.it (FP.ddiv px (4621819117588971520 : UInt64)) ((0 : Int32)).toNatClampNeg)), .second, .val (.double (JOwnF.it (FP.ddiv px (4621819117588971520 : UInt64)) (tt).toNatClampNeg)), .second, .val (.double (JOwnF.it (FP.ddiv px (4621819117588971520 : UInt64)) ((tt + (1 : Int32))).toNatClampNeg)), .second, .unset, .unset, .unset] [(.int (1 : Int32))])) _
    refine XS.istore X3.here hx rfl (hb hby at_81) rfl (l' := #[.val (.int p1), .val (.int p2), .val (.int p3), .val (.int dn), .val (.int nm), .val (.double px), .second, .val (.int tt), .val (.double (JOwnF.it (FP.ddiv px (4621819117588971520 : UInt64)) ((0 : Int32)).toNatClampNeg)), .second, .val (.double (JOwnF.it (FP.ddiv px (4621819117588971520 : UInt64)) (tt).toNatClampNeg)), .second, .val (.double (JOwnF.it (FP.ddiv px (4621819117588971520 : UInt64)) ((tt + (1 : Int32))).toNatClampNeg)), .second, .val (.int (1 : Int32)), .unset, .unset]) rfl ?_
    show Steps p.tables e below (T3.setTop (mkF m 83 #[.val (.int p1), .val (.int p2), .val (.int p3), .val (.int dn), .val (.int nm), .val (.double px), .second, .val (.int tt), .val (.double (JOwnF.it (FP.ddiv px (4621819117588971520 : UInt64)) ((0 : Int32)).toNatClampNeg)), .second, .val (.double (JOwnF.it (FP.ddiv px (4621819117588971520 : UInt64)) (tt).toNatClampNeg)), .second, .val (.double (JOwnF.it (FP.ddiv px (4621819117588971520 : UInt64)) ((tt + (1 : Int32))).toNatClampNeg)), .second, .val (.int (1 : Int32)), .unset, .unset] [])) _
    refine XS.dload X3.here hx rfl (hb hby at_83) rfl ?_
    show Steps p.tables e below (T3.setTop (mkF m 85 #[.val (.int p1), .val (.int p2), .val (.int p3), .val (.int dn), .val (.int nm), .val (.double px), .second, .val (.int tt), .val (.double (JOwnF.it (FP.ddiv px (4621819117588971520 : UInt64)) ((0 : Int32)).toNatClampNeg)), .second, .val (.double (JOwnF.it (FP.ddiv px (4621819117588971520 : UInt64)) (tt).toNatClampNeg)), .second, .val (.double (JOwnF.it (FP.ddiv px (4621819117588971520 : UInt64)) ((tt + (1 : Int32))).toNatClampNeg)), .second, .val (.int (1 : Int32)), .unset, .unset] [(.double (JOwnF.it (FP.ddiv px (4621819117588971520 : UInt64)) ((tt + (1 : Int32))).toNatClampNeg))])) _
    refine XS.dload X3.here hx rfl (hb hby at_85) rfl ?_
    show Steps p.tables e below (T3.setTop (mkF m 87 #[.val (.int p1), .val (.int p2), .val (.int p3), .val (.int dn), .val (.int nm), .val (.double px), .second, .val (.int tt), .val (.double (JOwnF.it (FP.ddiv px (4621819117588971520 : UInt64)) ((0 : Int32)).toNatClampNeg)), .second, .val (.double (JOwnF.it (FP.ddiv px (4621819117588971520 : UInt64)) (tt).toNatClampNeg)), .second, .val (.double (JOwnF.it (FP.ddiv px (4621819117588971520 : UInt64)) ((tt + (1 : Int32))).toNatClampNeg)), .second, .val (.int (1 : Int32)), .unset, .unset] [(.double (JOwnF.it (FP.ddiv px (4621819117588971520 : UInt64)) (tt).toNatClampNeg)), (.double (JOwnF.it (FP.ddiv px (4621819117588971520 : UInt64)) ((tt + (1 : Int32))).toNatClampNeg))])) _
    refine X3.ldc2DoubleC hx hown (mvT hZ (hw _ (List.mem_of_getElem? (i := 9) rfl))) (g := (mkF m 87 #[.val (.int p1), .val (.int p2), .val (.int p3), .val (.int dn), .val (.int nm), .val (.double px), .second, .val (.int tt), .val (.double (JOwnF.it (FP.ddiv px (4621819117588971520 : UInt64)) ((0 : Int32)).toNatClampNeg)), .second, .val (.double (JOwnF.it (FP.ddiv px (4621819117588971520 : UInt64)) (tt).toNatClampNeg)), .second, .val (.double (JOwnF.it (FP.ddiv px (4621819117588971520 : UInt64)) ((tt + (1 : Int32))).toNatClampNeg)), .second, .val (.int (1 : Int32)), .unset, .unset] [(.double (JOwnF.it (FP.ddiv px (4621819117588971520 : UInt64)) (tt).toNatClampNeg)), (.double (JOwnF.it (FP.ddiv px (4621819117588971520 : UInt64)) ((tt + (1 : Int32))).toNatClampNeg))])) rfl (hb hby at_87) _ ?_
    show Steps p.tables e below (T3.setTop (mkF m 90 #[.val (.int p1), .val (.int p2), .val (.int p3), .val (.int dn), .val (.int nm), .val (.double px), .second, .val (.int tt), .val (.double (JOwnF.it (FP.ddiv px (4621819117588971520 : UInt64)) ((0 : Int32)).toNatClampNeg)), .second, .val (.double (JOwnF.it (FP.ddiv px (4621819117588971520 : UInt64)) (tt).toNatClampNeg)), .second, .val (.double (JOwnF.it (FP.ddiv px (4621819117588971520 : UInt64)) ((tt + (1 : Int32))).toNatClampNeg)), .second, .val (.int (1 : Int32)), .unset, .unset] [(.double (4606281698874543309 : UInt64)), (.double (JOwnF.it (FP.ddiv px (4621819117588971520 : UInt64)) (tt).toNatClampNeg)), (.double (JOwnF.it (FP.ddiv px (4621819117588971520 : UInt64)) ((tt + (1 : Int32))).toNatClampNeg))])) _
    refine XS.dmulS X3.here hx rfl (hb hby at_90) rfl (by rw [← own_nx hP hL ht]; exact own_fn (own_pn hP hL ht)) rfl ?_
    show Steps p.tables e below (T3.setTop (mkF m 91 #[.val (.int p1), .val (.int p2), .val (.int p3), .val (.int dn), .val (.int nm), .val (.double px), .second, .val (.int tt), .val (.double (JOwnF.it (FP.ddiv px (4621819117588971520 : UInt64)) ((0 : Int32)).toNatClampNeg)), .second, .val (.double (JOwnF.it (FP.ddiv px (4621819117588971520 : UInt64)) (tt).toNatClampNeg)), .second, .val (.double (JOwnF.it (FP.ddiv px (4621819117588971520 : UInt64)) ((tt + (1 : Int32))).toNatClampNeg)), .second, .val (.int (1 : Int32)), .unset, .unset] [(.double (FP.dmul (JOwnF.it (FP.ddiv px (4621819117588971520 : UInt64)) (tt).toNatClampNeg) (4606281698874543309 : UInt64))), (.double (JOwnF.it (FP.ddiv px (4621819117588971520 : UInt64)) ((tt + (1 : Int32))).toNatClampNeg))])) _
    refine XS.dcmpS X3.here hx rfl (hb hby at_91) rfl (v := (0 : Int32)) (dcmpV_eq (own_nx hP hL ht) (own_fn (own_pn hP hL ht)) .l) ?_
    show Steps p.tables e below (T3.setTop (mkF m 92 #[.val (.int p1), .val (.int p2), .val (.int p3), .val (.int dn), .val (.int nm), .val (.double px), .second, .val (.int tt), .val (.double (JOwnF.it (FP.ddiv px (4621819117588971520 : UInt64)) ((0 : Int32)).toNatClampNeg)), .second, .val (.double (JOwnF.it (FP.ddiv px (4621819117588971520 : UInt64)) (tt).toNatClampNeg)), .second, .val (.double (JOwnF.it (FP.ddiv px (4621819117588971520 : UInt64)) ((tt + (1 : Int32))).toNatClampNeg)), .second, .val (.int (1 : Int32)), .unset, .unset] [(.int (0 : Int32))])) _
    refine XS.ifNo X3.here hx rfl (hb hby at_92) rfl ((if0 _ _).trans (teq (by decide : (0 : Int32) = (0 : Int32))).2) ?_
    show Steps p.tables e below (T3.setTop (mkF m 95 #[.val (.int p1), .val (.int p2), .val (.int p3), .val (.int dn), .val (.int nm), .val (.double px), .second, .val (.int tt), .val (.double (JOwnF.it (FP.ddiv px (4621819117588971520 : UInt64)) ((0 : Int32)).toNatClampNeg)), .second, .val (.double (JOwnF.it (FP.ddiv px (4621819117588971520 : UInt64)) (tt).toNatClampNeg)), .second, .val (.double (JOwnF.it (FP.ddiv px (4621819117588971520 : UInt64)) ((tt + (1 : Int32))).toNatClampNeg)), .second, .val (.int (1 : Int32)), .unset, .unset] [])) _
    refine XS.iconst X3.here hx rfl (hb hby at_95) ?_
    show Steps p.tables e below (T3.setTop (mkF m 96 #[.val (.int p1), .val (.int p2), .val (.int p3), .val (.int dn), .val (.int nm), .val (.double px), .second, .val (.int tt), .val (.double (JOwnF.it (FP.ddiv px (4621819117588971520 : UInt64)) ((0 : Int32)).toNatClampNeg)), .second, .val (.double (JOwnF.it (FP.ddiv px (4621819117588971520 : UInt64)) (tt).toNatClampNeg)), .second, .val (.double (JOwnF.it (FP.ddiv px (4621819117588971520 : UInt64)) ((tt + (1 : Int32))).toNatClampNeg)), .second, .val (.int (1 : Int32)), .unset, .unset] [(.int (1 : Int32))])) _
    refine XS.goto X3.here hx rfl (pc0 := 96) (pc' := 100) rfl (hb hby at_96) (by decide) (by decide) ?_
    show Steps p.tables e below (T3.setTop (mkF m 100 #[.val (.int p1), .val (.int p2), .val (.int p3), .val (.int dn), .val (.int nm), .val (.double px), .second, .val (.int tt), .val (.double (JOwnF.it (FP.ddiv px (4621819117588971520 : UInt64)) ((0 : Int32)).toNatClampNeg)), .second, .val (.double (JOwnF.it (FP.ddiv px (4621819117588971520 : UInt64)) (tt).toNatClampNeg)), .second, .val (.double (JOwnF.it (FP.ddiv px (4621819117588971520 : UInt64)) ((tt + (1 : Int32))).toNatClampNeg)), .second, .val (.int (1 : Int32)), .unset, .unset] [(.int (1 : Int32))])) _
    refine XS.istore X3.here hx rfl (hb hby at_100) rfl (l' := #[.val (.int p1), .val (.int p2), .val (.int p3), .val (.int dn), .val (.int nm), .val (.double px), .second, .val (.int tt), .val (.double (JOwnF.it (FP.ddiv px (4621819117588971520 : UInt64)) ((0 : Int32)).toNatClampNeg)), .second, .val (.double (JOwnF.it (FP.ddiv px (4621819117588971520 : UInt64)) (tt).toNatClampNeg)), .second, .val (.double (JOwnF.it (FP.ddiv px (4621819117588971520 : UInt64)) ((tt + (1 : Int32))).toNatClampNeg)), .second, .val (.int (1 : Int32)), .val (.int (1 : Int32)), .unset]) rfl ?_
    show Steps p.tables e below (T3.setTop (mkF m 102 #[.val (.int p1), .val (.int p2), .val (.int p3), .val (.int dn), .val (.int nm), .val (.double px), .second, .val (.int tt), .val (.double (JOwnF.it (FP.ddiv px (4621819117588971520 : UInt64)) ((0 : Int32)).toNatClampNeg)), .second, .val (.double (JOwnF.it (FP.ddiv px (4621819117588971520 : UInt64)) (tt).toNatClampNeg)), .second, .val (.double (JOwnF.it (FP.ddiv px (4621819117588971520 : UInt64)) ((tt + (1 : Int32))).toNatClampNeg)), .second, .val (.int (1 : Int32)), .val (.int (1 : Int32)), .unset] [])) _
    refine XS.dload X3.here hx rfl (hb hby at_102) rfl ?_
    show Steps p.tables e below (T3.setTop (mkF m 104 #[.val (.int p1), .val (.int p2), .val (.int p3), .val (.int dn), .val (.int nm), .val (.double px), .second, .val (.int tt), .val (.double (JOwnF.it (FP.ddiv px (4621819117588971520 : UInt64)) ((0 : Int32)).toNatClampNeg)), .second, .val (.double (JOwnF.it (FP.ddiv px (4621819117588971520 : UInt64)) (tt).toNatClampNeg)), .second, .val (.double (JOwnF.it (FP.ddiv px (4621819117588971520 : UInt64)) ((tt + (1 : Int32))).toNatClampNeg)), .second, .val (.int (1 : Int32)), .val (.int (1 : Int32)), .unset] [(.double (JOwnF.it (FP.ddiv px (4621819117588971520 : UInt64)) (tt).toNatClampNeg))])) _
    refine XS.dconst0 X3.here hx rfl (hb hby at_104) rfl ?_
    show Steps p.tables e below (T3.setTop (mkF m 105 #[.val (.int p1), .val (.int p2), .val (.int p3), .val (.int dn), .val (.int nm), .val (.double px), .second, .val (.int tt), .val (.double (JOwnF.it (FP.ddiv px (4621819117588971520 : UInt64)) ((0 : Int32)).toNatClampNeg)), .second, .val (.double (JOwnF.it (FP.ddiv px (4621819117588971520 : UInt64)) (tt).toNatClampNeg)), .second, .val (.double (JOwnF.it (FP.ddiv px (4621819117588971520 : UInt64)) ((tt + (1 : Int32))).toNatClampNeg)), .second, .val (.int (1 : Int32)), .val (.int (1 : Int32)), .unset] [(.double FP.dconst0), (.double (JOwnF.it (FP.ddiv px (4621819117588971520 : UInt64)) (tt).toNatClampNeg))])) _
    refine XS.dcmpS X3.here hx rfl (hb hby at_105) rfl (v := (1 : Int32)) (own_c105 hP hL ht) ?_
    show Steps p.tables e below (T3.setTop (mkF m 106 #[.val (.int p1), .val (.int p2), .val (.int p3), .val (.int dn), .val (.int nm), .val (.double px), .second, .val (.int tt), .val (.double (JOwnF.it (FP.ddiv px (4621819117588971520 : UInt64)) ((0 : Int32)).toNatClampNeg)), .second, .val (.double (JOwnF.it (FP.ddiv px (4621819117588971520 : UInt64)) (tt).toNatClampNeg)), .second, .val (.double (JOwnF.it (FP.ddiv px (4621819117588971520 : UInt64)) ((tt + (1 : Int32))).toNatClampNeg)), .second, .val (.int (1 : Int32)), .val (.int (1 : Int32)), .unset] [(.int (1 : Int32))])) _
    refine XS.ifNo X3.here hx rfl (hb hby at_106) rfl ((if0 _ _).trans (tlt (by decide : (0 : Int32) < (1 : Int32))).2.2.2) ?_
    show Steps p.tables e below (T3.setTop (mkF m 109 #[.val (.int p1), .val (.int p2), .val (.int p3), .val (.int dn), .val (.int nm), .val (.double px), .second, .val (.int tt), .val (.double (JOwnF.it (FP.ddiv px (4621819117588971520 : UInt64)) ((0 : Int32)).toNatClampNeg)), .second, .val (.double (JOwnF.it (FP.ddiv px (4621819117588971520 : UInt64)) (tt).toNatClampNeg)), .second, .val (.double (JOwnF.it (FP.ddiv px (4621819117588971520 : UInt64)) ((tt + (1 : Int32))).toNatClampNeg)), .second, .val (.int (1 : Int32)), .val (.int (1 : Int32)), .unset] [])) _
    refine XS.dload X3.here hx rfl (hb hby at_109) rfl ?_
    show Steps p.tables e below (T3.setTop (mkF m 111 #[.val (.int p1), .val (.int p2), .val (.int p3), .val (.int dn), .val (.int nm), .val (.double px), .second, .val (.int tt), .val (.double (JOwnF.it (FP.ddiv px (4621819117588971520 : UInt64)) ((0 : Int32)).toNatClampNeg)), .second, .val (.double (JOwnF.it (FP.ddiv px (4621819117588971520 : UInt64)) (tt).toNatClampNeg)), .second, .val (.double (JOwnF.it (FP.ddiv px (4621819117588971520 : UInt64)) ((tt + (1 : Int32))).toNatClampNeg)), .second, .val (.int (1 : Int32)), .val (.int (1 : Int32)), .unset] [(.double (JOwnF.it (FP.ddiv px (4621819117588971520 : UInt64)) (tt).toNatClampNeg))])) _
    refine XS.dload X3.here hx rfl (hb hby at_111) rfl ?_
    show Steps p.tables e below (T3.setTop (mkF m 113 #[.val (.int p1), .val (.int p2), .val (.int p3), .val (.int dn), .val (.int nm), .val (.double px), .second, .val (.int tt), .val (.double (JOwnF.it (FP.ddiv px (4621819117588971520 : UInt64)) ((0 : Int32)).toNatClampNeg)), .second, .val (.double (JOwnF.it (FP.ddiv px (4621819117588971520 : UInt64)) (tt).toNatClampNeg)), .second, .val (.double (JOwnF.it (FP.ddiv px (4621819117588971520 : UInt64)) ((tt + (1 : Int32))).toNatClampNeg)), .second, .val (.int (1 : Int32)), .val (.int (1 : Int32)), .unset] [(.double (JOwnF.it (FP.ddiv px (4621819117588971520 : UInt64)) ((0 : Int32)).toNatClampNeg)), (.double (JOwnF.it (FP.ddiv px (4621819117588971520 : UInt64)) (tt).toNatClampNeg))])) _
    refine XS.dcmpS X3.here hx rfl (hb hby at_113) rfl (v := (cmpValue (FP.dcmp (JOwnF.it (FP.ddiv px (4621819117588971520 : UInt64)) (tt).toNatClampNeg) (JOwnF.it (FP.ddiv px (4621819117588971520 : UInt64)) ((0 : Int32)).toNatClampNeg)) .g)) rfl ?_
    show Steps p.tables e below (T3.setTop (mkF m 114 #[.val (.int p1), .val (.int p2), .val (.int p3), .val (.int dn), .val (.int nm), .val (.double px), .second, .val (.int tt), .val (.double (JOwnF.it (FP.ddiv px (4621819117588971520 : UInt64)) ((0 : Int32)).toNatClampNeg)), .second, .val (.double (JOwnF.it (FP.ddiv px (4621819117588971520 : UInt64)) (tt).toNatClampNeg)), .second, .val (.double (JOwnF.it (FP.ddiv px (4621819117588971520 : UInt64)) ((tt + (1 : Int32))).toNatClampNeg)), .second, .val (.int (1 : Int32)), .val (.int (1 : Int32)), .unset] [(.int (cmpValue (FP.dcmp (JOwnF.it (FP.ddiv px (4621819117588971520 : UInt64)) (tt).toNatClampNeg) (JOwnF.it (FP.ddiv px (4621819117588971520 : UInt64)) ((0 : Int32)).toNatClampNeg)) .g))])) _
    refine XS.ifNo X3.here hx rfl (hb hby at_114) rfl ((if0 _ _).trans (flt (own_c113 hP hL ht : ¬ ((0 : Int32) < (cmpValue (FP.dcmp (JOwnF.it (FP.ddiv px (4621819117588971520 : UInt64)) (tt).toNatClampNeg) (JOwnF.it (FP.ddiv px (4621819117588971520 : UInt64)) ((0 : Int32)).toNatClampNeg)) .g)))).2.2.1) ?_
    show Steps p.tables e below (T3.setTop (mkF m 117 #[.val (.int p1), .val (.int p2), .val (.int p3), .val (.int dn), .val (.int nm), .val (.double px), .second, .val (.int tt), .val (.double (JOwnF.it (FP.ddiv px (4621819117588971520 : UInt64)) ((0 : Int32)).toNatClampNeg)), .second, .val (.double (JOwnF.it (FP.ddiv px (4621819117588971520 : UInt64)) (tt).toNatClampNeg)), .second, .val (.double (JOwnF.it (FP.ddiv px (4621819117588971520 : UInt64)) ((tt + (1 : Int32))).toNatClampNeg)), .second, .val (.int (1 : Int32)), .val (.int (1 : Int32)), .unset] [])) _
    refine XS.dload X3.here hx rfl (hb hby at_117) rfl ?_
    show Steps p.tables e below (T3.setTop (mkF m 119 #[.val (.int p1), .val (.int p2), .val (.int p3), .val (.int dn), .val (.int nm), .val (.double px), .second, .val (.int tt), .val (.double (JOwnF.it (FP.ddiv px (4621819117588971520 : UInt64)) ((0 : Int32)).toNatClampNeg)), .second, .val (.double (JOwnF.it (FP.ddiv px (4621819117588971520 : UInt64)) (tt).toNatClampNeg)), .second, .val (.double (JOwnF.it (FP.ddiv px (4621819117588971520 : UInt64)) ((tt + (1 : Int32))).toNatClampNeg)), .second, .val (.int (1 : Int32)), .val (.int (1 : Int32)), .unset] [(.double (JOwnF.it (FP.ddiv px (4621819117588971520 : UInt64)) ((tt + (1 : Int32))).toNatClampNeg))])) _
    refine XS.dload X3.here hx rfl (hb hby at_119) rfl ?_
    show Steps p.tables e below (T3.setTop (mkF m 121 #[.val (.int p1), .val (.int p2), .val (.int p3), .val (.int dn), .val (.int nm), .val (.double px), .second, .val (.int tt), .val (.double (JOwnF.it (FP.ddiv px (4621819117588971520 : UInt64)) ((0 : Int32)).toNatClampNeg)), .second, .val (.double (JOwnF.it (FP.ddiv px (4621819117588971520 : UInt64)) (tt).toNatClampNeg)), .second, .val (.double (JOwnF.it (FP.ddiv px (4621819117588971520 : UInt64)) ((tt + (1 : Int32))).toNatClampNeg)), .second, .val (.int (1 : Int32)), .val (.int (1 : Int32)), .unset] [(.double (JOwnF.it (FP.ddiv px (4621819117588971520 : UInt64)) (tt).toNatClampNeg)), (.double (JOwnF.it (FP.ddiv px (4621819117588971520 : UInt64)) ((tt + (1 : Int32))).toNatClampNeg))])) _
    refine XS.dcmpS X3.here hx rfl (hb hby at_121) rfl (v := (-1 : Int32)) (own_c121 hP hL ht) ?_
    show Steps p.tables e below (T3.setTop (mkF m 122 #[.val (.int p1), .val (.int p2), .val (.int p3), .val (.int dn), .val (.int nm), .val (.double px), .second, .val (.int tt), .val (.double (JOwnF.it (FP.ddiv px (4621819117588971520 : UInt64)) ((0 : Int32)).toNatClampNeg)), .second, .val (.double (JOwnF.it (FP.ddiv px (4621819117588971520 : UInt64)) (tt).toNatClampNeg)), .second, .val (.double (JOwnF.it (FP.ddiv px (4621819117588971520 : UInt64)) ((tt + (1 : Int32))).toNatClampNeg)), .second, .val (.int (1 : Int32)), .val (.int (1 : Int32)), .unset] [(.int (-1 : Int32))])) _
    refine XS.ifNo X3.here hx rfl (hb hby at_122) rfl ((if0 _ _).trans (tlt (by decide : (-1 : Int32) < (0 : Int32))).2.1) ?_
    show Steps p.tables e below (T3.setTop (mkF m 125 #[.val (.int p1), .val (.int p2), .val (.int p3), .val (.int dn), .val (.int nm), .val (.double px), .second, .val (.int tt), .val (.double (JOwnF.it (FP.ddiv px (4621819117588971520 : UInt64)) ((0 : Int32)).toNatClampNeg)), .second, .val (.double (JOwnF.it (FP.ddiv px (4621819117588971520 : UInt64)) (tt).toNatClampNeg)), .second, .val (.double (JOwnF.it (FP.ddiv px (4621819117588971520 : UInt64)) ((tt + (1 : Int32))).toNatClampNeg)), .second, .val (.int (1 : Int32)), .val (.int (1 : Int32)), .unset] [])) _
    refine XS.iconst X3.here hx rfl (hb hby at_125) ?_
    show Steps p.tables e below (T3.setTop (mkF m 126 #[.val (.int p1), .val (.int p2), .val (.int p3), .val (.int dn), .val (.int nm), .val (.double px), .second, .val (.int tt), .val (.double (JOwnF.it (FP.ddiv px (4621819117588971520 : UInt64)) ((0 : Int32)).toNatClampNeg)), .second, .val (.double (JOwnF.it (FP.ddiv px (4621819117588971520 : UInt64)) (tt).toNatClampNeg)), .second, .val (.double (JOwnF.it (FP.ddiv px (4621819117588971520 : UInt64)) ((tt + (1 : Int32))).toNatClampNeg)), .second, .val (.int (1 : Int32)), .val (.int (1 : Int32)), .unset] [(.int (1 : Int32))])) _
    refine XS.goto X3.here hx rfl (pc0 := 126) (pc' := 130) rfl (hb hby at_126) (by decide) (by decide) ?_
    show Steps p.tables e below (T3.setTop (mkF m 130 #[.val (.int p1), .val (.int p2), .val (.int p3), .val (.int dn), .val (.int nm), .val (.double px), .second, .val (.int tt), .val (.double (JOwnF.it (FP.ddiv px (4621819117588971520 : UInt64)) ((0 : Int32)).toNatClampNeg)), .second, .val (.double (JOwnF.it (FP.ddiv px (4621819117588971520 : UInt64)) (tt).toNatClampNeg)), .second, .val (.double (JOwnF.it (FP.ddiv px (4621819117588971520 : UInt64)) ((tt + (1 : Int32))).toNatClampNeg)), .second, .val (.int (1 : Int32)), .val (.int (1 : Int32)), .unset] [(.int (1 : Int32))])) _
    refine XS.istore X3.here hx rfl (hb hby at_130) rfl (l' := #[.val (.int p1), .val (.int p2), .val (.int p3), .val (.int dn), .val (.int nm), .val (.double px), .second, .val (.int tt), .val (.double (JOwnF.it (FP.ddiv px (4621819117588971520 : UInt64)) ((0 : Int32)).toNatClampNeg)), .second, .val (.double (JOwnF.it (FP.ddiv px (4621819117588971520 : UInt64)) (tt).toNatClampNeg)), .second, .val (.double (JOwnF.it (FP.ddiv px (4621819117588971520 : UInt64)) ((tt + (1 : Int32))).toNatClampNeg)), .second, .val (.int (1 : Int32)), .val (.int (1 : Int32)), .val (.int (1 : Int32))]) rfl ?_
    show Steps p.tables e below (T3.setTop (mkF m 132 #[.val (.int p1), .val (.int p2), .val (.int p3), .val (.int dn), .val (.int nm), .val (.double px), .second, .val (.int tt), .val (.double (JOwnF.it (FP.ddiv px (4621819117588971520 : UInt64)) ((0 : Int32)).toNatClampNeg)), .second, .val (.double (JOwnF.it (FP.ddiv px (4621819117588971520 : UInt64)) (tt).toNatClampNeg)), .second, .val (.double (JOwnF.it (FP.ddiv px (4621819117588971520 : UInt64)) ((tt + (1 : Int32))).toNatClampNeg)), .second, .val (.int (1 : Int32)), .val (.int (1 : Int32)), .val (.int (1 : Int32))] [])) _
    refine XS.iload X3.here hx rfl (hb hby at_132) rfl ?_
    show Steps p.tables e below (T3.setTop (mkF m 134 #[.val (.int p1), .val (.int p2), .val (.int p3), .val (.int dn), .val (.int nm), .val (.double px), .second, .val (.int tt), .val (.double (JOwnF.it (FP.ddiv px (4621819117588971520 : UInt64)) ((0 : Int32)).toNatClampNeg)), .second, .val (.double (JOwnF.it (FP.ddiv px (4621819117588971520 : UInt64)) (tt).toNatClampNeg)), .second, .val (.double (JOwnF.it (FP.ddiv px (4621819117588971520 : UInt64)) ((tt + (1 : Int32))).toNatClampNeg)), .second, .val (.int (1 : Int32)), .val (.int (1 : Int32)), .val (.int (1 : Int32))] [(.int (1 : Int32))])) _
    refine XS.ifNo X3.here hx rfl (hb hby at_134) rfl ((if0 _ _).trans (feq (by decide : ¬ ((1 : Int32) = (0 : Int32)))).1) ?_
    show Steps p.tables e below (T3.setTop (mkF m 137 #[.val (.int p1), .val (.int p2), .val (.int p3), .val (.int dn), .val (.int nm), .val (.double px), .second, .val (.int tt), .val (.double (JOwnF.it (FP.ddiv px (4621819117588971520 : UInt64)) ((0 : Int32)).toNatClampNeg)), .second, .val (.double (JOwnF.it (FP.ddiv px (4621819117588971520 : UInt64)) (tt).toNatClampNeg)), .second, .val (.double (JOwnF.it (FP.ddiv px (4621819117588971520 : UInt64)) ((tt + (1 : Int32))).toNatClampNeg)), .second, .val (.int (1 : Int32)), .val (.int (1 : Int32)), .val (.int (1 : Int32))] [])) _
    refine XS.iload X3.here hx rfl (hb hby at_137) rfl ?_
    show Steps p.tables e below (T3.setTop (mkF m 139 #[.val (.int p1), .val (.int p2), .val (.int p3), .val (.int dn), .val (.int nm), .val (.double px), .second, .val (.int tt), .val (.double (JOwnF.it (FP.ddiv px (4621819117588971520 : UInt64)) ((0 : Int32)).toNatClampNeg)), .second, .val (.double (JOwnF.it (FP.ddiv px (4621819117588971520 : UInt64)) (tt).toNatClampNeg)), .second, .val (.double (JOwnF.it (FP.ddiv px (4621819117588971520 : UInt64)) ((tt + (1 : Int32))).toNatClampNeg)), .second, .val (.int (1 : Int32)), .val (.int (1 : Int32)), .val (.int (1 : Int32))] [(.int (1 : Int32))])) _
    refine XS.ifNo X3.here hx rfl (hb hby at_139) rfl ((if0 _ _).trans (feq (by decide : ¬ ((1 : Int32) = (0 : Int32)))).1) ?_
    show Steps p.tables e below (T3.setTop (mkF m 142 #[.val (.int p1), .val (.int p2), .val (.int p3), .val (.int dn), .val (.int nm), .val (.double px), .second, .val (.int tt), .val (.double (JOwnF.it (FP.ddiv px (4621819117588971520 : UInt64)) ((0 : Int32)).toNatClampNeg)), .second, .val (.double (JOwnF.it (FP.ddiv px (4621819117588971520 : UInt64)) (tt).toNatClampNeg)), .second, .val (.double (JOwnF.it (FP.ddiv px (4621819117588971520 : UInt64)) ((tt + (1 : Int32))).toNatClampNeg)), .second, .val (.int (1 : Int32)), .val (.int (1 : Int32)), .val (.int (1 : Int32))] [])) _
    refine XS.iload X3.here hx rfl (hb hby at_142) rfl ?_
    show Steps p.tables e below (T3.setTop (mkF m 144 #[.val (.int p1), .val (.int p2), .val (.int p3), .val (.int dn), .val (.int nm), .val (.double px), .second, .val (.int tt), .val (.double (JOwnF.it (FP.ddiv px (4621819117588971520 : UInt64)) ((0 : Int32)).toNatClampNeg)), .second, .val (.double (JOwnF.it (FP.ddiv px (4621819117588971520 : UInt64)) (tt).toNatClampNeg)), .second, .val (.double (JOwnF.it (FP.ddiv px (4621819117588971520 : UInt64)) ((tt + (1 : Int32))).toNatClampNeg)), .second, .val (.int (1 : Int32)), .val (.int (1 : Int32)), .val (.int (1 : Int32))] [(.int (1 : Int32))])) _
    refine XS.ifNo X3.here hx rfl (hb hby at_144) rfl ((if0 _ _).trans (feq (by decide : ¬ ((1 : Int32) = (0 : Int32)))).1) ?_
    show Steps p.tables e below (T3.setTop (mkF m 147 #[.val (.int p1), .val (.int p2), .val (.int p3), .val (.int dn), .val (.int nm), .val (.double px), .second, .val (.int tt), .val (.double (JOwnF.it (FP.ddiv px (4621819117588971520 : UInt64)) ((0 : Int32)).toNatClampNeg)), .second, .val (.double (JOwnF.it (FP.ddiv px (4621819117588971520 : UInt64)) (tt).toNatClampNeg)), .second, .val (.double (JOwnF.it (FP.ddiv px (4621819117588971520 : UInt64)) ((tt + (1 : Int32))).toNatClampNeg)), .second, .val (.int (1 : Int32)), .val (.int (1 : Int32)), .val (.int (1 : Int32))] [])) _
    refine XS.iconst X3.here hx rfl (hb hby at_147) ?_
    show Steps p.tables e below (T3.setTop (mkF m 148 #[.val (.int p1), .val (.int p2), .val (.int p3), .val (.int dn), .val (.int nm), .val (.double px), .second, .val (.int tt), .val (.double (JOwnF.it (FP.ddiv px (4621819117588971520 : UInt64)) ((0 : Int32)).toNatClampNeg)), .second, .val (.double (JOwnF.it (FP.ddiv px (4621819117588971520 : UInt64)) (tt).toNatClampNeg)), .second, .val (.double (JOwnF.it (FP.ddiv px (4621819117588971520 : UInt64)) ((tt + (1 : Int32))).toNatClampNeg)), .second, .val (.int (1 : Int32)), .val (.int (1 : Int32)), .val (.int (1 : Int32))] [(.int (1 : Int32))])) _
    refine XS.goto X3.here hx rfl (pc0 := 148) (pc' := 152) rfl (hb hby at_148) (by decide) (by decide) ?_
    show Steps p.tables e below (T3.setTop (mkF m 152 #[.val (.int p1), .val (.int p2), .val (.int p3), .val (.int dn), .val (.int nm), .val (.double px), .second, .val (.int tt), .val (.double (JOwnF.it (FP.ddiv px (4621819117588971520 : UInt64)) ((0 : Int32)).toNatClampNeg)), .second, .val (.double (JOwnF.it (FP.ddiv px (4621819117588971520 : UInt64)) (tt).toNatClampNeg)), .second, .val (.double (JOwnF.it (FP.ddiv px (4621819117588971520 : UInt64)) ((tt + (1 : Int32))).toNatClampNeg)), .second, .val (.int (1 : Int32)), .val (.int (1 : Int32)), .val (.int (1 : Int32))] [(.int (1 : Int32))])) _
    exact retN X3 hx (t := .boolean) Bd.returns (by simp) (hb hby at_152) hr
  · exact ⟨rfl, N3⟩
set_option maxRecDepth 65536 in
set_option maxHeartbeats 40000000 in
theorem comes_1 {Post : Tables → Env → Array Value → State → Outcome → State → Prop} (hpost : ∀ tb e args s v u, (limb_1_1.after args s (.returned v) u = true ∧ limb_1_2.after args s (.returned v) u = true ∧ True) → FrameEnd s (.returned v) u (Jvm.fieldLocs frame_1_writes args s ++ Jvm.arrayLocs frame_1_arrays args s ++ Jvm.staticLocs frame_1_statics s) 0 0 → Post tb e args s (.returned v) u) :
    ArmFor flags0 classFile x code maxLocals ret World_1 tables_1 room_1 Calls_1 rest_1 Pre_1 Post := by
  intro l hfl _ _ p e ha hc hk s m args below hf hA hF happ hP
  obtain ⟨hcalls, hrest, hpre⟩ := hP
  obtain ⟨-, -, -, hnamed, -, -, -, hat⟩ := (Spec.applies_iff hf).mp happ
  obtain ⟨hg, hn⟩ := and_e (Cond.before_iff.mp (show (Jvm.Cond.and given_1 narrow_1).before args s = true from hpre))
  obtain ⟨g1, g2⟩ := and_e hg
  obtain ⟨g3, g4⟩ := and_e g2
  obtain ⟨g5, g6⟩ := and_e g4
  obtain ⟨w0, w1, w2, rfl⟩ : ∃ w0 w1 w2 : Value, args = #[w0, w1, w2] := by
    have hs : args.size = 3 := by simpa [Cond.value, given_1] using g1
    obtain ⟨L⟩ := args
    match L, hs with
    | [w0, w1, w2], _ => exact ⟨w0, w1, w2, rfl⟩
  have hw := fun d (hd : d ∈ tables_1) => atoms_spec (ws := Jvm.Cond.code x code maxLocals ret :: tables_1) hat d (List.mem_cons_of_mem _ hd)
  have hfit : Fit s := fun {y c} hc i hi => by
    obtain ⟨ha, rfl⟩ := Array.getElem?_eq_some_iff.mp hc
    have q := List.all_eq_true.mp ((Array.all_eq_true_iff_forall_mem.mp hF) _ (Array.getElem_mem ha)) i (List.mem_range.mpr hi)
    simpa [Array.getElem?_eq_getElem hi] using q
  obtain ⟨i0, ei0⟩ := is_v g3
  obtain rfl : w0 = (.int i0) := Option.some.inj ei0
  obtain ⟨i1, ei1⟩ := is_v g5
  obtain rfl : w1 = (.int i1) := Option.some.inj ei1
  obtain ⟨i2, ei2⟩ := is_v g6
  obtain rfl : w2 = (.int i2) := Option.some.inj ei2
  obtain ⟨n, o, h1, h2, h3, _, L, rfl, ⟨rfl, N⟩, hq⟩ := rm0 l s _ hw tables_1 i0 i1 i2  s.heap s.heap.size (Nat.le_refl _)  p e ha hc hk s m _ below hf ((Spec.applies_iff_loose hf).mp happ).1 ⟨rfl, State.Warmed39.refl s, rfl⟩ trivial
  refine ⟨n, _, h1, h2, h3, hpost _ _ _ _ _ _ ⟨Cond.after_iff.mpr rfl, Cond.after_iff.mpr (eq_i res_at (Term.int_eval (1)) rfl), trivial⟩ ⟨hq.1, hq.2.1, (hq.2.2.sift fun y hy => Or.inr (N y hy)).mono (by decide) (by decide)⟩⟩
theorem main_1_1 : Claimed_1_1 := comes_1 fun _ _ _ _ _ _ h hF => ⟨h.1, hF⟩
theorem main_1_2 : Claimed_1_2 := comes_1 fun _ _ _ _ _ _ h hF => ⟨h.2.1, hF⟩
end Jvm.Pilot.@@N@@
namespace Jvm.Pilot.@@N@@
open Jvm Jvm.ClassFile Sem Op Lib Jvm.Free Jvm.Stand Jvm.Pilot.@@N@@.Jvm.D
/-! MADE BY PROGRAM (witnessworld.py) out of the Statement's table words and the real class files: 10 classes; the members and pool entries that the words name. The judged class is class 1, her method 1. -/
namespace start1
open Jvm.ClassFile
def u (s : String) : CpInfo := .utf8 (stringToUtf16 s)
/-- a pool by its gaps: so many unusable entries, then the entry; so many at the end -/
def gap : Nat → List CpInfo → List CpInfo
  | 0, r => r
  | n + 1, r => .unusable :: gap n r
def poolList (es : List (Nat × CpInfo)) (last : Nat) : List CpInfo := es.foldr (fun e r => gap e.1 (e.2 :: r)) (gap last [])
def pool (es : List (Nat × CpInfo)) (last : Nat) : Array CpInfo := ⟨poolList es last⟩
def fileOf (pool : Array CpInfo) (this : Nat) (attrs : Array Attribute := #[]) (ms : Array MethodInfo := #[]) (fl : Nat := 33) (sup : Nat := 0) (ifs : Array Nat := #[]) (fds : Array FieldInfo := #[]) : ClassFile where
  minorVersion := 0
  majorVersion := 65
  constantPool := pool
  accessFlags := fl
  thisClass := this
  superClass := sup
  interfaces := ifs
  fields := fds
  methods := ms
  attributes := attrs
def plain (name : String) (sup : Option ClassId) : Class where
  name := name
  kind := .ordinary
  loader := none
  accessFlags := 33
  super := sup
  interfaces := #[]
  cf := none
  fields := #[]
  methods := #[]
  instanceTypes := #[]
  staticTypes := #[]
  resolved := #[]
  callSites := []
  init := .initialized
  statics := none
  mirror := none

def pool0 : Array CpInfo := pool [(5, u "<init>"), (0, u "()V"), (1, .class_ 10), (1, u "java/lang/Object")] 113

def k0m0 : Method := { name := "<init>", desc := "()V", sig := { parameters := [], returnType := none }, accessFlags := 1, code := none }
/-- java/lang/Object -/
def k0 : Class := { plain "java/lang/Object" none with
  accessFlags := 33
  interfaces := #[]
  cf := some (fileOf pool0 8 #[] #[{ accessFlags := 1, nameIndex := 5, descriptorIndex := 6, attributes := #[] }] 33 0 #[] #[])
  fields := #[]
  methods := #[k0m0]
  instanceTypes := #[]
  staticTypes := #[]
  resolved := Array.replicate 124 none
  statics := none }

def pool1 : Array CpInfo := pool [(2, .class_ 4), (1, u "java/lang/Object"), (0, u "<init>"), (0, u "()V"), (0, .integer 1048575), (0, .integer 2147483647), (0, .methodref 10 11), (0, .class_ 12), (0, .nameAndType 13 14), (0, u "com/example/bit1/bit1/GrowingBloomFilter"), (0, u "stageRate"), (0, u "(DI)D"), (0, .double 4621819117588971520), (1, .double 4606281698874543309), (1, .class_ 20), (0, u "com/example/bit1/bit1/GrowingBloomFilterStageRatePinLaw"), (2, u "law"), (0, u "(III)Z")] 3

def k1m0 : Method := { name := "<init>", desc := "()V", sig := { parameters := [], returnType := none }, accessFlags := 2, code := none }
def k1c1 : Code := { maxStack := 6, maxLocals := 17, code := code, exceptionTable := #[], attributes := #[] }
def k1m1 : Method := { name := "law", desc := "(III)Z", sig := { parameters := [.int, .int, .int], returnType := some .boolean }, accessFlags := 9, code := some k1c1 }
/-- com/example/bit1/bit1/GrowingBloomFilterStageRatePinLaw -/
def k1 : Class := { plain "com/example/bit1/bit1/GrowingBloomFilterStageRatePinLaw" (some 0) with
  accessFlags := 49
  interfaces := #[]
  cf := some (fileOf pool1 19 #[] #[{ accessFlags := 2, nameIndex := 5, descriptorIndex := 6, attributes := #[] }, { accessFlags := 9, nameIndex := 23, descriptorIndex := 24, attributes := #[] }] 49 2 #[] #[])
  fields := #[]
  methods := #[k1m0, k1m1]
  instanceTypes := #[]
  staticTypes := #[]
  resolved := Array.replicate 28 none
  statics := none }

def pool2 : Array CpInfo := pool [(20, .class_ 22), (1, u "com/example/bit1/bit1/Filter"), (33, .class_ 57), (0, u "java/lang/Object")] 18

/-- com/example/bit1/bit1/Filter -/
def k2 : Class := { plain "com/example/bit1/bit1/Filter" (some 0) with
  accessFlags := 1537
  interfaces := #[]
  cf := some (fileOf pool2 20 #[] #[] 1537 56 #[] #[])
  fields := #[]
  methods := #[]
  instanceTypes := #[]
  staticTypes := #[]
  resolved := Array.replicate 76 none
  statics := none }

def pool3 : Array CpInfo := pool [(2, .class_ 4), (1, u "com/example/bit1/bit1/GrowingBloomFilter"), (16, .class_ 23), (1, u "java/lang/Object"), (3, u "growth"), (0, u "Ljava/lang/Object;"), (2, u "expectedKeys"), (0, u "J"), (2, u "falsePositiveRate"), (0, u "D"), (2, u "forOneThread"), (0, u "Z"), (7, u "keysAdded"), (0, u "Lcom/example/bit1/bit1/KeyCount;"), (0, .class_ 51), (0, u "com/example/bit1/bit1/GrowingBloomFilter$Stage"), (5, u "[Lcom/example/bit1/bit1/GrowingBloomFilter$Stage;"), (2, u "stages"), (73, .double 4621819117588971520), (1, .double 4606281698874543309), (7, u "stageRate"), (0, u "(DI)D"), (67, .class_ 214), (0, u "com/example/bit1/bit1/Filter"), (0, u "FIRST_STAGE_SHARE"), (0, u "I"), (2, u "GROWTH"), (0, u "TIGHTENING")] 44

def k3c0 : Code := { maxStack := 4, maxLocals := 6, code := prog_17_method_21_code, exceptionTable := #[], attributes := #[] }
def k3m0 : Method := { name := "stageRate", desc := "(DI)D", sig := { parameters := [.double, .int], returnType := some .double }, accessFlags := 8, code := some k3c0 }
/-- com/example/bit1/bit1/GrowingBloomFilter -/
def k3 : Class := { plain "com/example/bit1/bit1/GrowingBloomFilter" (some 0) with
  accessFlags := 49
  interfaces := #[2]
  cf := some (fileOf pool3 2 #[.nestMembers #[50]] #[{ accessFlags := 8, nameIndex := 144, descriptorIndex := 145, attributes := #[] }] 49 21 #[213] #[{ accessFlags := 26, nameIndex := 215, descriptorIndex := 216, attributes := #[] }, { accessFlags := 26, nameIndex := 219, descriptorIndex := 32, attributes := #[] }, { accessFlags := 26, nameIndex := 220, descriptorIndex := 36, attributes := #[] }, { accessFlags := 18, nameIndex := 31, descriptorIndex := 32, attributes := #[] }, { accessFlags := 18, nameIndex := 35, descriptorIndex := 36, attributes := #[] }, { accessFlags := 18, nameIndex := 39, descriptorIndex := 40, attributes := #[] }, { accessFlags := 18, nameIndex := 48, descriptorIndex := 49, attributes := #[] }, { accessFlags := 18, nameIndex := 27, descriptorIndex := 28, attributes := #[] }, { accessFlags := 66, nameIndex := 60, descriptorIndex := 57, attributes := #[] }])
  fields := #[{ name := "FIRST_STAGE_SHARE", type := .int, accessFlags := 26, slot := 0, constantValue := 0 }, { name := "GROWTH", type := .long, accessFlags := 26, slot := 1, constantValue := 0 }, { name := "TIGHTENING", type := .double, accessFlags := 26, slot := 2, constantValue := 0 }, { name := "expectedKeys", type := .long, accessFlags := 18, slot := 0, constantValue := 0 }, { name := "falsePositiveRate", type := .double, accessFlags := 18, slot := 1, constantValue := 0 }, { name := "forOneThread", type := .boolean, accessFlags := 18, slot := 2, constantValue := 0 }, { name := "keysAdded", type := (.object "com/example/bit1/bit1/KeyCount"), accessFlags := 18, slot := 3, constantValue := 0 }, { name := "growth", type := (.object "java/lang/Object"), accessFlags := 18, slot := 4, constantValue := 0 }, { name := "stages", type := (.array (.object "com/example/bit1/bit1/GrowingBloomFilter$Stage")), accessFlags := 66, slot := 5, constantValue := 0 }]
  methods := #[k3m0]
  instanceTypes := #[.long, .double, .boolean, (.object "com/example/bit1/bit1/KeyCount"), (.object "java/lang/Object"), (.array (.object "com/example/bit1/bit1/GrowingBloomFilter$Stage"))]
  staticTypes := #[.int, .long, .double]
  resolved := Array.replicate 265 none
  statics := none }

def pool4 : Array CpInfo := pool [(1, u "java/lang/Cloneable"), (0, .class_ 1), (0, u "java/lang/Object"), (0, .class_ 3)] 3

/-- java/lang/Cloneable -/
def k4 : Class := { plain "java/lang/Cloneable" (some 0) with
  accessFlags := 1537
  interfaces := #[]
  cf := some (fileOf pool4 2 #[] #[] 1537 4 #[] #[])
  fields := #[]
  methods := #[]
  instanceTypes := #[]
  staticTypes := #[]
  resolved := Array.replicate 8 none
  statics := none }

def pool5 : Array CpInfo := pool [(1, u "java/io/Serializable"), (0, .class_ 1), (0, u "java/lang/Object"), (0, .class_ 3)] 3

/-- java/io/Serializable -/
def k5 : Class := { plain "java/io/Serializable" (some 0) with
  accessFlags := 1537
  interfaces := #[]
  cf := some (fileOf pool5 2 #[] #[] 1537 4 #[] #[])
  fields := #[]
  methods := #[]
  instanceTypes := #[]
  staticTypes := #[]
  resolved := Array.replicate 8 none
  statics := none }

/-- the primitive byte -/
def k6 : Class := { plain "byte" none with kind := .primitive 'B', accessFlags := 0x411 }
/-- [B -/
def k7 : Class := { plain "[B" (some 0) with kind := .array 6 .byte, interfaces := #[4, 5], accessFlags := 1041 }

/-- the primitive int -/
def k8 : Class := { plain "int" none with kind := .primitive 'I', accessFlags := 0x411 }
/-- [I -/
def k9 : Class := { plain "[I" (some 0) with kind := .array 8 .int, interfaces := #[4, 5], accessFlags := 1041 }

def heap : Heap := #[]
def classes : Array Class := #[k0, k1, k2, k3, k4, k5, k6, k7, k8, k9]
def interned : List (Array UInt16 × Addr) := []
def slotsUsed : Nat := 0
def theMethod : MethodId := ⟨1, 1⟩
def args0 : Array Value := #[.int 5, .int 6, .int 7]
def aboutOver (below : List Frame) : State where
  vm := { classes := classes, interned := interned.toArray }
  heap := heap
  slotsUsed := slotsUsed
  threads := #[{ frames := .invoking theMethod args0 :: below }]
def below0 : List Frame := [.native { method := ⟨0, 0⟩, args := #[] }]
def about1 : State := aboutOver below0
def p0 : Program := .bare "" "" ""
def e0 : Env := launch0.env 0 0 0
theorem w_frames : about1.frames = Frame.invoking theMethod args0 :: below0 := rfl
set_option maxRecDepth 65536 in
theorem w_args : argsFit about1.vm theMethod args0 = true := by decide +kernel
set_option maxRecDepth 65536 in
theorem w_heap : heapFits about1 = true := by decide +kernel
set_option maxRecDepth 65536 in
theorem w_runnable : about1.curStatus? = some .runnable := by decide +kernel
set_option maxRecDepth 65536 in
theorem w_alone : about1.alone = true := by decide +kernel
set_option maxRecDepth 65536 in
theorem w_named : about1.methodNamed? x = some theMethod := by decide +kernel
set_option maxRecDepth 65536 in
theorem w_hears : about1.hears theMethod below0 = true := by decide +kernel
set_option maxRecDepth 65536 in
theorem w_ripe : about1.ripe theMethod args0 below0 = true := by decide +kernel
theorem w_running : about1.status = .running := rfl
set_option maxRecDepth 65536 in
theorem w_room : about1.hasRoom e0.platform room_1 = true :=
  launch0.hasRoom_least _ room_1 (by decide +kernel) (by decide +kernel) (by decide +kernel) (by decide +kernel) (by decide +kernel) (by decide +kernel)
theorem allAtoms_all (ts : List Jvm.Cond) (a : Array Jvm.Value) (st : Jvm.State) : (allAtoms ts).before a st = ts.all (fun c => c.before a st) := by
  induction ts with
  | nil => rfl
  | cons c t ih =>
    show (Jvm.Cond.and c (allAtoms t)).before a st = _
    rw [Jvm.Cond.before_and, ih, List.all_cons]
def words1 : List Jvm.Cond := Jvm.Cond.code x code maxLocals ret :: tables_1
/-- a 'code' word, met by the world's own term for the bytes: nothing is compared byte by byte -/
theorem code_word {y : MethodName} {bytes : ByteArray} {mx : Nat} {rt : Option FieldType} {a : Array Value} {s : State} {m : MethodId} {meth : Method} {c : Code} (h1 : s.methodNamed? y = some m) (h2 : s.vm.method? m = some meth) (h3 : meth.code = some c) (h4 : c.code = bytes)
    (h5 : (c.maxLocals == mx && c.exceptionTable.isEmpty && decide (c.maxStack ≤ mostOperands) && decide (meth.sig.returnType = rt) && !meth.locks && decide (parseMethodDescriptor y.desc = some meth.sig)) = true) : (Jvm.Cond.code y bytes mx rt).before a s = true := by
  simp only [Bool.and_eq_true, beq_iff_eq, Bool.not_eq_true', decide_eq_true_eq] at h5
  obtain ⟨⟨⟨⟨⟨g1, g2⟩, g3⟩, g4⟩, g5⟩, g6⟩ := h5
  simp [Cond.before, Cond.holds, Cond.value, h1, h2, h3, h4, g1, g2, g3, g4, g5, g6]
def isCode : Jvm.Cond → Bool
  | .code _ _ _ _ => true
  | _ => false
theorem all_split {L : List Jvm.Cond} {P : Jvm.Cond → Bool} (h1 : L.all (fun c => isCode c || P c) = true) (h2 : ∀ c ∈ L.filter isCode, P c = true) : L.all P = true := by
  refine List.all_eq_true.mpr fun c hc => ?_
  have h := List.all_eq_true.mp h1 c hc
  rcases Bool.eq_false_or_eq_true (isCode c) with hi | hi
  · exact h2 c (List.mem_filter.mpr ⟨hc, hi⟩)
  · simpa [hi] using h
set_option maxRecDepth 65536 in
theorem w_c0 : (Jvm.Cond.code x code maxLocals ret).before args0 about1 = true := code_word (m := ⟨1, 1⟩) (meth := k1m1) (c := k1c1) (by decide +kernel) rfl rfl rfl (by decide +kernel)
set_option maxRecDepth 65536 in
theorem w_c1 : (Jvm.Cond.code ({ cls := "com/example/bit1/bit1/GrowingBloomFilter", name := "stageRate", desc := "(DI)D" } : Jvm.MethodName) prog_17_method_21_code (6 : Nat) (Option.some Jvm.ClassFile.FieldType.double)).before args0 about1 = true := code_word (m := ⟨3, 0⟩) (meth := k3m0) (c := k3c0) (by decide +kernel) rfl rfl rfl (by decide +kernel)
def codes1 : List Jvm.Cond := [Jvm.Cond.code x code maxLocals ret, Jvm.Cond.code ({ cls := "com/example/bit1/bit1/GrowingBloomFilter", name := "stageRate", desc := "(DI)D" } : Jvm.MethodName) prog_17_method_21_code (6 : Nat) (Option.some Jvm.ClassFile.FieldType.double)]
set_option maxRecDepth 65536 in
theorem codes_eq : words1.filter isCode = codes1 := rfl
theorem w_codes : ∀ c ∈ words1.filter isCode, c.before args0 about1 = true := by
  rw [codes_eq]
  intro c hc
  simp only [codes1, List.mem_cons, List.not_mem_nil, or_false] at hc
  rcases hc with rfl | rfl
  · exact w_c0
  · exact w_c1
set_option maxRecDepth 65536 in
theorem w_t1 : words1.all (fun c => isCode c || c.before args0 about1) = true := by decide +kernel
theorem w_tables : (allAtoms (Jvm.Cond.code x code maxLocals ret :: tables_1)).before args0 about1 = true := by
  rw [allAtoms_all]
  show words1.all (fun c => c.before args0 about1) = true
  refine all_split ?_ w_codes
  rw [w_t1]
set_option maxRecDepth 65536 in
theorem w_case : (Jvm.Cond.and given_1 narrow_1).before args0 about1 = true := by decide +kernel
theorem w_applies : (headSpec (Jvm.Cond.code x code maxLocals ret :: tables_1) room_1).applies x e0.platform about1 = true :=
  (Spec.applies_iff w_frames).mpr ⟨w_running, w_runnable, w_alone, w_named, w_hears, w_ripe, w_room, w_tables⟩
theorem atStart : AtStart classFile x code maxLocals ret World_1 tables_1 room_1 Calls_1 rest_1 Pre_1 launch0 p0 e0 about1 theMethod args0 below0 :=
  ⟨lists_1, trivial, launch0.admits_env _ _ _, launch0.least_env, fairChoices_fair.cas, fairChoices_fair.clock, w_frames, w_args, w_heap, w_applies, trivial, trivial, w_case⟩
end start1
theorem witness_1 : WitnessClaimed_1 := ⟨start1.p0, start1.e0, start1.about1, start1.theMethod, start1.args0, start1.below0, start1.atStart⟩
end Jvm.Pilot.@@N@@
