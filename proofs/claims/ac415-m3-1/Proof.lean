import JvmDerived
import JvmDerived.Pilot.@@N@@Statement
import JvmDerived.Pilot.@@N@@Code
set_option linter.unusedVariables false
set_option linter.unusedSimpArgs false
namespace Jvm.RoadKit
open Sem ClassFile Op Lib Jvm.Stand Jvm.Free Jvm.LawKit
section New
variable {p : Program} {l : Launch} {e : Env} {R : Room} {s : State} {m : MethodId} {args : Array Value} {below : List Frame} {meth : Method} {c : Code} {T : State} {locs : List Loc} {cells slots : Nat}
theorem retI (X : Stand p l e R s m args below meth c T locs cells slots) (hx : p.tables.exec = Jvm.exec) {pc : Nat} {Ls : Array Slot} {z : Int32} {rest : List Value} (hret : meth.sig.returnType = some .int) (hd : decode c.code pc = .ok (.ireturn, 1)) {fs : List Frame}
    (hl : ∀ (f : JFrame) (acts : List Action), f.method = m → f.locked = none → f.entered = [] → (doReturn e (T.setTop f) acts (some (.int z))).1 = T.setFrames fs) : Steps p.tables e below (T.setTop (mkF m pc Ls (.int z :: rest))) (T.setFrames fs) := by
  have hm' : T.vm.method? m = some meth := X.method'
  have hn : narrow .int (.int z) = .int z := rfl
  show Steps p.tables e below (T.setTop { method := m, pc := pc, locals := Ls, stack := _ :: rest, locked := none }) _
  jvm_step X.here [X.here.top, hx, hd, hm', hret, hn]
  first | (intro acts; rw [hl _ acts rfl rfl rfl]) | rw [hl _ _ rfl rfl rfl]
  exact Steps.refl _
end New
end Jvm.RoadKit
namespace Jvm.Pilot.@@N@@
open Jvm Jvm.ClassFile Sem Op Lib Jvm.Free Jvm.Stand Jvm.LawKit Jvm.RoadKit Bundle Jvm.Pilot.@@N@@.Jvm.D
-- from the state st the run ends, and Q holds of what it leaves
def GoalS (tb : Tables) (e : Env) (below : List Frame) (s : State) (kc ks : Nat) (Q : Option Value → Heap → List Loc → Prop) (st : State) : Prop :=
  ∃ s₂ o, Steps tb e below st s₂ ∧ s₂.status = .running ∧ Ended s₂ below o ∧ ∃ v L, o = .returned v ∧ Q v s₂.heap L ∧ FrameEnd s o s₂ L kc ks
theorem GoalS.lift {tb : Tables} {e : Env} {below : List Frame} {s : State} {kc ks : Nat} {Q : Option Value → Heap → List Loc → Prop} {A B : State}
    (h : ∀ t, Steps tb e below B t → Steps tb e below A t) (g : GoalS tb e below s kc ks Q B) : GoalS tb e below s kc ks Q A := by
  obtain ⟨s₂, o, h1, h2⟩ := g
  exact ⟨s₂, o, h _ h1, h2⟩
-- an array of n places of which place i holds f i
def AV (Z : State) (h : Heap) (a : Addr) (k : ClassId) (ty : FieldType) (n : Nat) (f : Nat → Value) : Prop := ∃ c : Cell, Arr Z h a c ty ∧ c.cls = k ∧ c.slots.size = n ∧ n < 2147483648 ∧ ∀ i, i < n → c.slots[i]? = some (f i)
def updI (f : Nat → Int32) (j : Nat) (v : Int32) : Nat → Int32 := fun i => if i = j then v else f i
def updJ (f : Nat → Int64) (j : Nat) (v : Int64) : Nat → Int64 := fun i => if i = j then v else f i
def updR (f : Nat → Value) (j : Nat) (v : Value) : Nat → Value := fun i => if i = j then v else f i
section Own
variable {Z : State} {h h' : Heap} {a b : Addr} {k : ClassId} {ty : FieldType} {n : Nat} {f g : Nat → Value} {ws : List Addr} {v : Value} {sl : Nat}
theorem AV.lt (F : AV Z h a k ty n f) : a < h.size := by obtain ⟨c, A, -⟩ := F; exact A.lt
theorem AV.ext (F : AV Z h a k ty n f) (E : Ext h h') : AV Z h' a k ty n f := by obtain ⟨c, A, r⟩ := F; exact ⟨c, A.ext E, r⟩
theorem AV.other (F : AV Z h b k ty n f) (W : Wr h h' a sl v) (q : b ≠ a) : AV Z h' b k ty n f := by obtain ⟨c, A, r⟩ := F; exact ⟨c, A.other W q, r⟩
theorem AV.keep (F : AV Z h a k ty n f) (K : Keep h h' ws) (q : a ∉ ws) : AV Z h' a k ty n f := by obtain ⟨c, A, r⟩ := F; exact ⟨c, ⟨K.2.1 a c A.1 q, A.2⟩, r⟩
theorem AV.new {z : Int32} (A : Arr Z h a (newA k ty z) ty) (q : ¬ z < 0) (hn : z.toNatClampNeg = n) (hb : n < 2147483648) : AV Z h a k ty n (fun _ => defaultValue ty) :=
  ⟨_, A, rfl, (sz_new _ _ _).trans hn, hb, fun i hi => by simp [newA, hn, hi]⟩
theorem AV.inb {c : Cell} {j : Int32} (S : c.slots.size = n) (q : ¬ j < 0 ∧ j.toNatClampNeg < n) : ¬ (j < 0 ∨ c.slots.size ≤ j.toNatClampNeg) := fun u => u.elim q.1 fun w => by omega
theorem AV.inx {j : Int32} (q : ¬ j < 0 ∧ j.toNatClampNeg < n) : j.toNatClampNeg < n := q.2
theorem AV.conv (F : AV Z h a k ty n f) (e : ∀ i, i < n → f i = g i) : AV Z h a k ty n g := by
  obtain ⟨c, A, r1, r2, r3, r4⟩ := F; exact ⟨c, A, r1, r2, r3, fun i hi => (r4 i hi).trans (congrArg some (e i hi))⟩
theorem AV.putR {j : Nat} (F : AV Z h a k ty n f) (W : Wr h h' a j v) (hj : j < n) : AV Z h' a k ty n (updR f j v) := by
  obtain ⟨c, A, r1, r2, r3, r4⟩ := F
  refine ⟨_, A.same W, r1, (sz_set _ _ _).trans r2, r3, fun i hi => ?_⟩
  by_cases q : i = j
  · subst q; simp [Cell.setSlot, updR, r2, hi]
  · have q' : j ≠ i := fun u => q u.symm
    simp only [Cell.setSlot, updR, if_neg q]; rw [Array.getElem?_setIfInBounds_ne q']; exact r4 i hi
theorem AV.putI {j : Nat} {f : Nat → Int32} {v : Int32} (F : AV Z h a k ty n (fun i => Value.int (f i))) (W : Wr h h' a j (.int v)) (hj : j < n) : AV Z h' a k ty n (fun i => Value.int (updI f j v i)) :=
  (F.putR W hj).conv fun i _ => by simp only [updR, updI]; split <;> rfl
theorem AV.putJ {j : Nat} {f : Nat → Int64} {v : Int64} (F : AV Z h a k ty n (fun i => Value.long (f i))) (W : Wr h h' a j (.long v)) (hj : j < n) : AV Z h' a k ty n (fun i => Value.long (updJ f j v i)) :=
  (F.putR W hj).conv fun i _ => by simp only [updR, updJ]; split <;> rfl
end Own

def own_bit (f : Nat → Int32) (q : Nat) : Bool := (f (q / 8)).toBitVec.getLsbD (7 - q % 8)
def own_mask (B N : Int32) : Int32 := (((((255 : Int32)).toUInt32 >>> (B &&& 31).toUInt32).toInt32) &&& (((((255 : Int32)).toUInt32 >>> ((B + N) &&& 31).toUInt32).toInt32) ^^^ (-1 : Int32)))
theorem own_mask_bit : ∀ (B : Fin 8) (N : Fin 9) (k : Fin 8), (own_mask (Int32.ofNat B.1) (Int32.ofNat N.1)).toBitVec.getLsbD k.1 = decide (B.1 ≤ 7 - k.1 ∧ 7 - k.1 < B.1 + N.1) := by decide +kernel
theorem own_b8 (x : Int32) {k : Nat} (h : k < 8) : (x.toInt8.toInt32).toBitVec.getLsbD k = x.toBitVec.getLsbD k := by
  rw [Int8.toBitVec_toInt32, Int32.toBitVec_toInt8, BitVec.getLsbD_signExtend, if_pos h, BitVec.getLsbD_signExtend, if_pos (show k < 32 by omega)]
  simp [h, show k < 32 by omega]
theorem own_set {f : Nat → Int32} {X n : Nat} (hb : X % 8 + n ≤ 8) {v : Int32} (hv : v = ((f (X / 8) ||| own_mask (Int32.ofNat (X % 8)) (Int32.ofNat n)).toInt8.toInt32).toInt8.toInt32) (q : Nat) : own_bit (updI f (X / 8) v) q = (own_bit f q || decide (X ≤ q ∧ q < X + n)) := by
  unfold own_bit updI
  have hk : 7 - q % 8 < 8 := by omega
  by_cases h : q / 8 = X / 8
  · rw [if_pos h, hv, own_b8 _ hk, own_b8 _ hk, Int32.toBitVec_or, BitVec.getLsbD_or, h]
    have := own_mask_bit ⟨X % 8, by omega⟩ ⟨n, by omega⟩ ⟨7 - q % 8, hk⟩
    rw [this]
    congr 1
    have e : 7 - (7 - q % 8) = q % 8 := by omega
    simp only [e]
    apply decide_eq_decide.mpr
    omega
  · rw [if_neg h]
    have : ¬ (X ≤ q ∧ q < X + n) := by omega
    simp [this]
theorem own_lt {a n : Nat} (hn : n < 4096) (ha : a < 4096) : (Int32.ofNat a < Int32.ofNat n) ↔ a < n := by
  rw [Int32.lt_iff_toInt_lt, Int32.toInt_ofNat_of_lt (by omega), Int32.toInt_ofNat_of_lt (by omega)]; omega
theorem own_add (a b : Nat) : Int32.ofNat a + Int32.ofNat b = Int32.ofNat (a + b) := by rw [Int32.ofNat_add]
theorem own_mul (a b : Nat) : Int32.ofNat a * Int32.ofNat b = Int32.ofNat (a * b) := by rw [Int32.ofNat_mul]
theorem own_sub {a b : Nat} (h : b ≤ a) : Int32.ofNat a - Int32.ofNat b = Int32.ofNat (a - b) := by
  rw [show a = (a - b) + b by omega, Int32.ofNat_add, Int32.add_sub_cancel, Nat.add_sub_cancel]
theorem own_nat {x : Int32} {N : Nat} (h : x = Int32.ofNat N) (hN : N < 4096) : ¬ x < 0 ∧ x.toNatClampNeg = N := by
  have e : x.toInt = N := by rw [h, Int32.toInt_ofNat_of_lt (by omega)]
  have e0 : (0 : Int32).toInt = 0 := rfl
  refine ⟨by rw [Int32.lt_iff_toInt_lt]; omega, ?_⟩
  show x.toInt.toNat = N
  omega
theorem own_ofI {x : Int32} {N : Nat} (h : x.toInt = N) (hN : N < 4096) : x = Int32.ofNat N := by
  apply Int32.toInt_inj.mp
  rw [Int32.toInt_ofNat_of_lt (by omega)]; exact h
theorem own_and7 {X : Nat} (h : X < 4096) : Int32.ofNat X &&& (7 : Int32) = Int32.ofNat (X % 8) := by
  have e : (Int32.ofNat X &&& 7).toInt = (Int32.ofNat X).toInt % (2 ^ 3 : Nat) := c_mask _ 7 3 (by decide) (by decide)
  rw [Int32.toInt_ofNat_of_lt (by omega)] at e
  exact own_ofI (by omega) (by omega)
theorem own_shr3 {X : Nat} (h : X < 4096) : Int32.ofNat X >>> ((3 : Int32) &&& 31) = Int32.ofNat (X / 8) := by
  have e := c_ishr (Int32.ofNat X) 3 3 (by decide)
  rw [Int32.toInt_ofNat_of_lt (by omega)] at e
  exact own_ofI (by omega) (by omega)
theorem own_div {a b : Nat} (ha : a < 4096) (hb : b < 4096) (h0 : 0 < b) : Int32.ofNat a / Int32.ofNat b = Int32.ofNat (a / b) := by
  have hle : a / b ≤ a := Nat.div_le_self a b
  have e := (c_idiv (Int32.ofNat a) (Int32.ofNat b) b (Int32.toInt_ofNat_of_lt (by omega)) (fun q => by
    have := congrArg Int32.toInt q
    rw [Int32.toInt_ofNat_of_lt (by omega)] at this
    have e1 : (-1 : Int32).toInt = -1 := rfl
    omega)).1 (by rw [Int32.toInt_ofNat_of_lt (by omega)]; omega)
  rw [Int32.toInt_ofNat_of_lt (by omega)] at e
  exact own_ofI (by rw [e]; exact (Int.natCast_ediv a b).symm) (by omega)
-- what the row shows: up to the place U, and the run [A, X)
def own_is (g : Nat → Int32) (L P U q : Nat) : Bool := decide (L ≤ q ∧ q < U ∧ g ((q - L) / P) ≠ 0)
theorem own_skip {g : Nat → Int32} {L P I q : Nat} (hP : 0 < P) (h : g I = 0) : own_is g L P (L + (I + 1) * P) q = own_is g L P (L + I * P) q := by
  unfold own_is
  apply decide_eq_decide.mpr
  rw [Nat.add_mul, Nat.one_mul]
  constructor
  · rintro ⟨h1, h2, h3⟩
    refine ⟨h1, ?_, h3⟩
    apply Nat.lt_of_not_le
    intro u
    apply h3
    have : (q - L) / P = I := by
      apply Nat.div_eq_of_lt_le
      · omega
      · rw [Nat.add_mul]; omega
    rw [this]; exact h
  · rintro ⟨h1, h2, h3⟩
    exact ⟨h1, by omega, h3⟩
theorem own_run {g : Nat → Int32} {L P I J q : Nat} (hP : 0 < P) (hIJ : I ≤ J) (h : ∀ t, I ≤ t → t < J → g t ≠ 0) : (own_is g L P (L + I * P) q || decide (L + I * P ≤ q ∧ q < L + J * P)) = own_is g L P (L + J * P) q := by
  have hm : I * P ≤ J * P := Nat.mul_le_mul_right P hIJ
  unfold own_is
  rw [← Bool.decide_or]
  apply decide_eq_decide.mpr
  constructor
  · rintro (⟨h1, h2, h3⟩ | ⟨h1, h2⟩)
    · exact ⟨h1, by omega, h3⟩
    · refine ⟨by omega, h2, h _ ?_ ?_⟩
      · exact (Nat.le_div_iff_mul_le hP).mpr (by omega)
      · exact (Nat.div_lt_iff_lt_mul hP).mpr (by omega)
  · rintro ⟨h1, h2, h3⟩
    by_cases c : q < L + I * P
    · exact Or.inl ⟨h1, c, h3⟩
    · exact Or.inr ⟨by omega, h2⟩
theorem own_min {X E n : Nat} {r : Int32} (hX : X < E) (hE : E < 4096) (hr : r = (if (Int32.ofNat E - Int32.ofNat X) < ((8 : Int32) - Int32.ofNat (X % 8)) then (Int32.ofNat E - Int32.ofNat X) else ((8 : Int32) - Int32.ofNat (X % 8)))) : ∃ n : Nat, r = Int32.ofNat n ∧ 1 ≤ n ∧ X % 8 + n ≤ 8 ∧ X + n ≤ E := by
  rw [own_sub (by omega), show (8 : Int32) = Int32.ofNat 8 from rfl, own_sub (by omega)] at hr
  by_cases h : E - X < 8 - X % 8
  · rw [if_pos ((own_lt (by omega) (by omega)).mpr h)] at hr
    exact ⟨E - X, hr, by omega, by omega, by omega⟩
  · rw [if_neg (fun u => h ((own_lt (by omega) (by omega)).mp u))] at hr
    exact ⟨8 - X % 8, hr, by omega, by omega, by omega⟩


theorem own_ix {x : Int32} {X : Nat} (h : x = Int32.ofNat X) (hX : X < 4096) : (x >>> ((3 : Int32) &&& 31)) = Int32.ofNat (X / 8) := by rw [h, own_shr3 hX]
theorem own_up8 {f f' : Nat → Int32} {x r : Int32} {X n : Nat} (e : f' = updI f (x >>> ((3 : Int32) &&& 31)).toNatClampNeg ((((f (x >>> ((3 : Int32) &&& 31)).toNatClampNeg) ||| own_mask (x &&& (7 : Int32)) r).toInt8.toInt32).toInt8.toInt32)) (hx : x = Int32.ofNat X) (hX : X < 4096) (hr : r = Int32.ofNat n) (hb : X % 8 + n ≤ 8) (q : Nat) : own_bit f' q = (own_bit f q || decide (X ≤ q ∧ q < X + n)) := by
  rw [e, (own_nat (own_ix hx hX) (by omega)).2]
  exact own_set hb (by rw [hx, own_and7 hX, hr]) q
theorem own_nbl {Wd : Nat} {p1 : Int32} (h : p1 = Int32.ofNat Wd) (hW : Wd ≤ 78) : ((p1 + (7 : Int32)) / (8 : Int32)) = Int32.ofNat ((Wd + 7) / 8) := by
  rw [h, show (7 : Int32) = Int32.ofNat 7 from rfl, own_add, show (8 : Int32) = Int32.ofNat 8 from rfl, own_div (by omega) (by omega) (by omega)]

theorem own_g0 : ∀ i : Nat, (fun _ => (0 : Int32)) i = 0 ∨ (fun _ => (0 : Int32)) i = 1 := fun _ => Or.inl rfl
theorem own_one (x : Int32) : (x &&& (1 : Int32)) = 0 ∨ (x &&& (1 : Int32)) = 1 := by
  have h : (x &&& 1).toInt = x.toInt % (2 ^ 1 : Nat) := c_mask x 1 1 (by decide) (by decide)
  rcases (show (x &&& 1).toInt = 0 ∨ (x &&& 1).toInt = 1 by omega) with q | q
  · exact Or.inl (Int32.toInt_inj.mp q)
  · exact Or.inr (Int32.toInt_inj.mp q)
theorem own_gu {f : Nat → Int32} (j : Nat) (x : Int32) (h : ∀ i, f i = 0 ∨ f i = 1) : ∀ i, updI f j (x &&& (1 : Int32)) i = 0 ∨ updI f j (x &&& (1 : Int32)) i = 1 := fun i => by
  unfold updI
  split
  · exact own_one x
  · exact h i
theorem own_nums {p2 p3 p4 lf pp en wi : Int32} (h1 : lf = (p2 &&& (15 : Int32))) (h2 : pp = ((1 : Int32) + (p3 &&& (7 : Int32)))) (h3 : en = (lf + ((6 : Int32) * pp))) (h4 : wi = (en + (p4 &&& (15 : Int32)))) :
    ∃ L P W : Nat, (wi = Int32.ofNat W ∧ lf = Int32.ofNat L ∧ pp = Int32.ofNat P ∧ en = Int32.ofNat (L + 6 * P)) ∧ (L ≤ 15 ∧ 1 ≤ P ∧ P ≤ 8 ∧ L + 6 * P ≤ W ∧ W ≤ 78) := by
  have a1 : (p2 &&& 15).toInt = p2.toInt % (2 ^ 4 : Nat) := c_mask p2 15 4 (by decide) (by decide)
  have a2 : (p3 &&& 7).toInt = p3.toInt % (2 ^ 3 : Nat) := c_mask p3 7 3 (by decide) (by decide)
  have a3 : (p4 &&& 15).toInt = p4.toInt % (2 ^ 4 : Nat) := c_mask p4 15 4 (by decide) (by decide)
  have b1 : lf = Int32.ofNat (p2.toInt % 16).toNat := own_ofI (by rw [h1]; omega) (by omega)
  have b2 : (p3 &&& (7 : Int32)) = Int32.ofNat (p3.toInt % 8).toNat := own_ofI (by omega) (by omega)
  have b3 : (p4 &&& (15 : Int32)) = Int32.ofNat (p4.toInt % 16).toNat := own_ofI (by omega) (by omega)
  have b4 : pp = Int32.ofNat (1 + (p3.toInt % 8).toNat) := by rw [h2, b2, show (1 : Int32) = Int32.ofNat 1 from rfl, own_add]
  have b5 : en = Int32.ofNat ((p2.toInt % 16).toNat + 6 * (1 + (p3.toInt % 8).toNat)) := by rw [h3, b1, b4, show (6 : Int32) = Int32.ofNat 6 from rfl, own_mul, own_add]
  exact ⟨_, _, (p2.toInt % 16).toNat + 6 * (1 + (p3.toInt % 8).toNat) + (p4.toInt % 16).toNat, ⟨by rw [h4, b5, b3, own_add], b1, b4, b5⟩, by omega, by omega, by omega, by omega, by omega⟩
theorem own_nz8 {x bv : Int32} {n : Nat} (h : x = Int32.ofNat n) (e : bv = x) (h0 : 1 ≤ n) (hn : n < 500) : bv * (8 : Int32) ≠ 0 := fun q => by
  rw [e, h, show (8 : Int32) = Int32.ofNat 8 from rfl, own_mul] at q
  have := congrArg Int32.toInt q
  rw [Int32.toInt_ofNat_of_lt (by omega)] at this
  have e0 : (0 : Int32).toInt = 0 := rfl
  omega
theorem own_ppnz {x : Int32} {n : Nat} (h : x = Int32.ofNat n) (h0 : 1 ≤ n) (hn : n < 500) : x ≠ 0 := fun q => by
  rw [h] at q
  have := congrArg Int32.toInt q
  rw [Int32.toInt_ofNat_of_lt (by omega)] at this
  have e0 : (0 : Int32).toInt = 0 := rfl
  omega
theorem own_q {p qq bv : Int32} {n : Nat} (h : qq = ((p &&& (2147483647 : Int32)) % (bv * (8 : Int32)))) (hb : bv = Int32.ofNat n) (h0 : 1 ≤ n) (hn : n < 500) : ∃ Q : Nat, qq = Int32.ofNat Q ∧ Q < 8 * n := by
  have h1 : 0 ≤ (p &&& (2147483647 : Int32)).toInt := (c_andS p (2147483647 : Int32)).2.2 (by decide)
  have e : (bv * (8 : Int32)).toInt = ((n * 8 : Nat) : Int) := by rw [hb, show (8 : Int32) = Int32.ofNat 8 from rfl, own_mul, Int32.toInt_ofNat_of_lt (by omega)]
  have h2 := (c_iremV (p &&& (2147483647 : Int32)) (bv * (8 : Int32))).1 h1 (by omega)
  rw [← h] at h2
  exact ⟨qq.toInt.toNat, own_ofI (by omega) (by omega), by omega⟩
theorem own_ltx {x y : Int32} {a b : Nat} (hx : x = Int32.ofNat a) (hy : y = Int32.ofNat b) (ha : a < 4096) (hb : b < 4096) : x < y ↔ a < b := by rw [hx, hy]; exact own_lt hb ha
theorem own_idx {qq lf pp en : Int32} {Q L P : Nat} (hq : qq = Int32.ofNat Q) (hl : lf = Int32.ofNat L) (hp : pp = Int32.ofNat P) (he : en = Int32.ofNat (L + 6 * P)) (h1 : ¬ qq < lf) (h2 : qq < en) (hL : L ≤ 15) (hP : 1 ≤ P ∧ P ≤ 8) (hQ : Q < 800) : ((qq - lf) / pp).toNatClampNeg = (Q - L) / P ∧ ¬ ((qq - lf) / pp) < 0 ∧ True ∧ ((qq - lf) / pp).toNatClampNeg < 6 := by
  rw [own_ltx hq hl (by omega) (by omega)] at h1
  rw [own_ltx hq he (by omega) (by omega)] at h2
  have e : (qq - lf) / pp = Int32.ofNat ((Q - L) / P) := by rw [hq, hl, hp, own_sub (by omega), own_div (by omega) (by omega) (by omega)]
  have hd : (Q - L) / P < 6 := (Nat.div_lt_iff_lt_mul (by omega)).mpr (by omega)
  have := own_nat e (by omega)
  exact ⟨this.2, this.1, trivial, by rw [this.2]; exact hd⟩
theorem own_read {f g : Nat → Int32} {L P U Q : Nat} {qq i : Int32} (hQ : qq = Int32.ofNat Q) (hb : Q < 800) (hi : i = (if (((f ((qq >>> ((3 : Int32) &&& 31))).toNatClampNeg) >>> (((7 : Int32) - (qq &&& (7 : Int32))) &&& 31)) &&& (1 : Int32)) = (0 : Int32) then (0 : Int32) else (1 : Int32))) (hr : own_bit f Q = own_is g L P U Q) : i = if own_is g L P U Q then 1 else 0 := by
  rw [← hr, hi, (own_nat (own_ix hQ (by omega)) (by omega)).2, hQ, own_and7 (by omega), show (7 : Int32) = Int32.ofNat 7 from rfl, own_sub (by omega)]
  unfold own_bit
  generalize f (Q / 8) = x
  have hk : 7 - Q % 8 < 8 := by omega
  generalize 7 - Q % 8 = k at hk
  have e := c_ishr x (Int32.ofNat k) k (by show (BitVec.ofNat 32 k).toNat % 32 = k; rw [BitVec.toNat_ofNat]; omega)
  have e1 : ((x >>> (Int32.ofNat k &&& 31)) &&& 1).toInt = (x >>> (Int32.ofNat k &&& 31)).toInt % (2 ^ 1 : Nat) := c_mask _ 1 1 (by decide) (by decide)
  have e2 : x.toBitVec.getLsbD k = decide (x.toInt / (2 ^ k : Nat) % 2 = 1) := by
    rw [BitVec.getLsbD, Nat.testBit_eq_decide_div_mod_eq]
    apply decide_eq_decide.mpr
    show _ ↔ x.toBitVec.toInt / _ % 2 = 1
    rw [BitVec.toInt_eq_toNat_cond]
    generalize x.toBitVec.toNat = y
    rcases (show k = 0 ∨ k = 1 ∨ k = 2 ∨ k = 3 ∨ k = 4 ∨ k = 5 ∨ k = 6 ∨ k = 7 by omega) with rfl | rfl | rfl | rfl | rfl | rfl | rfl | rfl <;> (split <;> simp <;> omega)
  rw [e2]
  have e0 : (0 : Int32).toInt = 0 := rfl
  by_cases h : x.toInt / (2 ^ k : Nat) % 2 = 1
  · rw [if_neg, if_pos (by simpa using h)]
    intro u
    have := congrArg Int32.toInt u
    rw [e1, e] at this
    omega
  · rw [if_pos, if_neg (by simpa using h)]
    apply Int32.toInt_inj.mp
    rw [e1, e]
    omega
theorem own_out {g : Nat → Int32} {L P Q : Nat} {i : Int32} (h : i = if own_is g L P (L + 6 * P) Q then 1 else 0) (o : Q < L ∨ ¬ Q < L + 6 * P) : i = 0 := by
  rw [h, if_neg]
  unfold own_is
  intro u
  have := of_decide_eq_true u
  omega
theorem own_in {g : Nat → Int32} {L P Q n : Nat} {i : Int32} (h : i = if own_is g L P (L + 6 * P) Q then 1 else 0) (hg : g n = 0 ∨ g n = 1) (hn : n = (Q - L) / P) (h1 : ¬ Q < L) (h2 : Q < L + 6 * P) : i = g n := by
  subst hn
  rw [h]
  unfold own_is
  rcases hg with q | q
  · rw [if_neg, q]
    intro u
    exact (of_decide_eq_true u).2.2 q
  · rw [if_pos, q]
    apply decide_eq_true
    exact ⟨by omega, h2, by rw [q]; decide⟩

theorem d2_0 : decode jdk_29_method_69_code 0 = .ok (.iload_n 0, 1) := by decide +kernel
theorem d2_1 : decode jdk_29_method_69_code 1 = .ok (.iload_n 1, 1) := by decide +kernel
theorem d2_2 : decode jdk_29_method_69_code 2 = .ok (.if_icmp .gt 7, 3) := by decide +kernel
theorem d2_5 : decode jdk_29_method_69_code 5 = .ok (.iload_n 0, 1) := by decide +kernel
theorem d2_6 : decode jdk_29_method_69_code 6 = .ok (.goto 4, 3) := by decide +kernel
theorem d2_9 : decode jdk_29_method_69_code 9 = .ok (.iload_n 1, 1) := by decide +kernel
theorem d2_10 : decode jdk_29_method_69_code 10 = .ok (.ireturn, 1) := by decide +kernel
theorem ef_rm2 (m : MethodId) (p1 : Int32) (p2 : Int32) : entryFrame m #[(.int p1), (.int p2)] 2 = mkF m 0 #[.val (.int p1), .val (.int p2)] [] := by first | (simp [entryFrame, mkF, argsToLocals, Value.category]; done) | rfl
def Q2 (Z : State) (p1 : Int32) (p2 : Int32) (h0 : Heap) (n0 : Nat) (v : Option Value) (h : Heap) (L : List Loc) : Prop := ∃ r : Int32, v = some (.int r) ∧ r = (if p2 < p1 then p2 else p1) ∧ Fr n0 L ∧ h = h0
set_option maxRecDepth 65536 in
set_option maxHeartbeats 40000000 in
theorem rm2 (l : Launch) (Z : State) (a0 : Array Value) (hw : ∀ d ∈ tables_1, d.before a0 Z = true) (ws : List Jvm.Cond) (p1 : Int32) (p2 : Int32) (h0 : Heap) (n0 : Nat) (Z0 : n0 ≤ h0.size) :
    MetFree l (⟨"java/lang/Math", "min", "(II)I"⟩ : MethodName) (head1 (Jvm.Cond.code (⟨"java/lang/Math", "min", "(II)I"⟩ : MethodName) jdk_29_method_69_code 2 (some .int) :: ws) ({ frames := 0, cells := 0, slots := 0, locals := 0 } : Room)) (fun a U => a = #[(.int p1), (.int p2)] ∧ Z.Warmed39 U.vm ∧ U.heap = h0) (fun _ _ _ _ _ => True) (fun _ U o U' => ∃ v L, o = .returned v ∧ Q2 Z p1 p2 h0 n0 v U'.heap L ∧ FrameEnd U o U' L ({ frames := 0, cells := 0, slots := 0, locals := 0 } : Room).cells ({ frames := 0, cells := 0, slots := 0, locals := 0 } : Room).slots) := by
  refine MetFree.of_bodySF (Jvm.Free.JP.mathPlain rfl (by decide +kernel)) hisR ?_
  intro p e s m args below meth c s₁ Bd hml0 hP hK
  obtain ⟨rfl, hZ, hh⟩ := hP
  have hx := Bd.exec
  have hby := Bd.bytes
  have hml : c.maxLocals = 2 := hml0
  have hown : s.vm.findClass "java/lang/Math" = some m.cls := findClass_of_methodNamed Bd.named
  have hnm := (name_of_methodNamed Bd.named Bd.method).1
  have X0 : Stand p l e ({ frames := 0, cells := 0, slots := 0, locals := 0 } : Room) s m #[(.int p1), (.int p2)] below meth c s₁ [] 0 0 := Stand.of_body Bd
  have e0 : s₁.heap = h0 := by rw [← hh, Bd.state]; rfl
  have N0 := Fr.nil n0
  show GoalS p.tables e below s ({ frames := 0, cells := 0, slots := 0, locals := 0 } : Room).cells ({ frames := 0, cells := 0, slots := 0, locals := 0 } : Room).slots (Q2 Z p1 p2 h0 n0) (s₁.setTop (entryFrame m #[(.int p1), (.int p2)] 2))
  refine GoalS.lift (B := s₁.setTop (mkF m 0 #[.val (.int p1), .val (.int p2)] [])) (fun t k => castTop (ef_rm2 m p1 p2) k) ?_
  have K0 : Keep h0 h0 [] := Keep.refl _ _
  refine GoalS.lift (B := (s₁.setTop (mkF m 2 #[.val (.int p1), .val (.int p2)] [(.int p2), (.int p1)]))) (fun t k => ?_) ?_
  · show Steps p.tables e below (s₁.setTop (mkF m 0 #[.val (.int p1), .val (.int p2)] [])) _
    refine XS.iloadN X0.here hx rfl (hb hby d2_0) rfl ?_
    show Steps p.tables e below (s₁.setTop (mkF m 1 #[.val (.int p1), .val (.int p2)] [(.int p1)])) _
    refine XS.iloadN X0.here hx rfl (hb hby d2_1) rfl ?_
    show Steps p.tables e below (s₁.setTop (mkF m 2 #[.val (.int p1), .val (.int p2)] [(.int p2), (.int p1)])) _
    exact k
  by_cases hc2_1 : p2 < p1
  · obtain ⟨fs, hr, hrun, hended, hW, hsame⟩ := X0.leave (v := some (.int p2)) (fun h => by rw [Bd.returns] at h; cases h)
    refine ⟨_, _, ?_, hrun, hended, _, _, rfl, ?_, ⟨_, rfl⟩, hW, hsame.mono (by decide) (by decide)⟩
    · show Steps p.tables e below (s₁.setTop (mkF m 2 #[.val (.int p1), .val (.int p2)] [(.int p2), (.int p1)])) _
      refine XS.icmpYes X0.here hx rfl (pc0 := 2) (pc' := 9) rfl (hb hby d2_2) rfl ((tlt hc2_1).2.2.1) (by decide) (by decide) ?_
      show Steps p.tables e below (s₁.setTop (mkF m 9 #[.val (.int p1), .val (.int p2)] [])) _
      refine XS.iloadN X0.here hx rfl (hb hby d2_9) rfl ?_
      show Steps p.tables e below (s₁.setTop (mkF m 10 #[.val (.int p1), .val (.int p2)] [(.int p2)])) _
      exact retI X0 hx Bd.returns (hb hby d2_10) hr
    · show Q2 Z p1 p2 h0 n0 _ s₁.heap _
      exact ⟨_, rfl, (by simp only [if_pos hc2_1]), N0, e0⟩
  · obtain ⟨fs, hr, hrun, hended, hW, hsame⟩ := X0.leave (v := some (.int p1)) (fun h => by rw [Bd.returns] at h; cases h)
    refine ⟨_, _, ?_, hrun, hended, _, _, rfl, ?_, ⟨_, rfl⟩, hW, hsame.mono (by decide) (by decide)⟩
    · show Steps p.tables e below (s₁.setTop (mkF m 2 #[.val (.int p1), .val (.int p2)] [(.int p2), (.int p1)])) _
      refine XS.icmpNo X0.here hx rfl (hb hby d2_2) rfl ((flt hc2_1).2.2.1) ?_
      show Steps p.tables e below (s₁.setTop (mkF m 5 #[.val (.int p1), .val (.int p2)] [])) _
      refine XS.iloadN X0.here hx rfl (hb hby d2_5) rfl ?_
      show Steps p.tables e below (s₁.setTop (mkF m 6 #[.val (.int p1), .val (.int p2)] [(.int p1)])) _
      refine XS.goto X0.here hx rfl (pc0 := 6) (pc' := 10) rfl (hb hby d2_6) (by decide) (by decide) ?_
      show Steps p.tables e below (s₁.setTop (mkF m 10 #[.val (.int p1), .val (.int p2)] [(.int p1)])) _
      exact retI X0 hx Bd.returns (hb hby d2_10) hr
    · show Q2 Z p1 p2 h0 n0 _ s₁.heap _
      exact ⟨_, rfl, (by simp only [if_neg hc2_1]), N0, e0⟩
theorem d1_0 : decode prog_104_method_2_code 0 = .ok (.iload_n 0, 1) := by decide +kernel
theorem d1_1 : decode prog_104_method_2_code 1 = .ok (.bipush 7, 2) := by decide +kernel
theorem d1_3 : decode prog_104_method_2_code 3 = .ok (.iadd, 1) := by decide +kernel
theorem d1_4 : decode prog_104_method_2_code 4 = .ok (.bipush 8, 2) := by decide +kernel
theorem d1_6 : decode prog_104_method_2_code 6 = .ok (.idiv, 1) := by decide +kernel
theorem d1_7 : decode prog_104_method_2_code 7 = .ok (.newarray .byte, 2) := by decide +kernel
theorem d1_9 : decode prog_104_method_2_code 9 = .ok (.astore 4, 2) := by decide +kernel
theorem d1_11 : decode prog_104_method_2_code 11 = .ok (.iconst 0, 1) := by decide +kernel
theorem d1_12 : decode prog_104_method_2_code 12 = .ok (.istore 5, 2) := by decide +kernel
theorem d1_14 : decode prog_104_method_2_code 14 = .ok (.iload 5, 2) := by decide +kernel
theorem d1_16 : decode prog_104_method_2_code 16 = .ok (.aload_n 2, 1) := by decide +kernel
theorem d1_17 : decode prog_104_method_2_code 17 = .ok (.arraylength, 1) := by decide +kernel
theorem d1_18 : decode prog_104_method_2_code 18 = .ok (.if_icmp .ge 133, 3) := by decide +kernel
theorem d1_21 : decode prog_104_method_2_code 21 = .ok (.aload_n 2, 1) := by decide +kernel
theorem d1_22 : decode prog_104_method_2_code 22 = .ok (.iload 5, 2) := by decide +kernel
theorem d1_24 : decode prog_104_method_2_code 24 = .ok (.baload, 1) := by decide +kernel
theorem d1_25 : decode prog_104_method_2_code 25 = .ok (.ifCond .ne 9, 3) := by decide +kernel
theorem d1_28 : decode prog_104_method_2_code 28 = .ok (.iinc 5 1, 3) := by decide +kernel
theorem d1_31 : decode prog_104_method_2_code 31 = .ok (.goto (-17), 3) := by decide +kernel
theorem d1_34 : decode prog_104_method_2_code 34 = .ok (.iload 5, 2) := by decide +kernel
theorem d1_36 : decode prog_104_method_2_code 36 = .ok (.iconst 1, 1) := by decide +kernel
theorem d1_37 : decode prog_104_method_2_code 37 = .ok (.iadd, 1) := by decide +kernel
theorem d1_38 : decode prog_104_method_2_code 38 = .ok (.istore 6, 2) := by decide +kernel
theorem d1_40 : decode prog_104_method_2_code 40 = .ok (.iload 6, 2) := by decide +kernel
theorem d1_42 : decode prog_104_method_2_code 42 = .ok (.aload_n 2, 1) := by decide +kernel
theorem d1_43 : decode prog_104_method_2_code 43 = .ok (.arraylength, 1) := by decide +kernel
theorem d1_44 : decode prog_104_method_2_code 44 = .ok (.if_icmp .ge 16, 3) := by decide +kernel
theorem d1_47 : decode prog_104_method_2_code 47 = .ok (.aload_n 2, 1) := by decide +kernel
theorem d1_48 : decode prog_104_method_2_code 48 = .ok (.iload 6, 2) := by decide +kernel
theorem d1_50 : decode prog_104_method_2_code 50 = .ok (.baload, 1) := by decide +kernel
theorem d1_51 : decode prog_104_method_2_code 51 = .ok (.ifCond .eq 9, 3) := by decide +kernel
theorem d1_54 : decode prog_104_method_2_code 54 = .ok (.iinc 6 1, 3) := by decide +kernel
theorem d1_57 : decode prog_104_method_2_code 57 = .ok (.goto (-17), 3) := by decide +kernel
theorem d1_60 : decode prog_104_method_2_code 60 = .ok (.iload_n 1, 1) := by decide +kernel
theorem d1_61 : decode prog_104_method_2_code 61 = .ok (.iload 6, 2) := by decide +kernel
theorem d1_63 : decode prog_104_method_2_code 63 = .ok (.iload_n 3, 1) := by decide +kernel
theorem d1_64 : decode prog_104_method_2_code 64 = .ok (.imul, 1) := by decide +kernel
theorem d1_65 : decode prog_104_method_2_code 65 = .ok (.iadd, 1) := by decide +kernel
theorem d1_66 : decode prog_104_method_2_code 66 = .ok (.istore 7, 2) := by decide +kernel
theorem d1_68 : decode prog_104_method_2_code 68 = .ok (.iload_n 1, 1) := by decide +kernel
theorem d1_69 : decode prog_104_method_2_code 69 = .ok (.iload 5, 2) := by decide +kernel
theorem d1_71 : decode prog_104_method_2_code 71 = .ok (.iload_n 3, 1) := by decide +kernel
theorem d1_72 : decode prog_104_method_2_code 72 = .ok (.imul, 1) := by decide +kernel
theorem d1_73 : decode prog_104_method_2_code 73 = .ok (.iadd, 1) := by decide +kernel
theorem d1_74 : decode prog_104_method_2_code 74 = .ok (.istore 8, 2) := by decide +kernel
theorem d1_76 : decode prog_104_method_2_code 76 = .ok (.iload 8, 2) := by decide +kernel
theorem d1_78 : decode prog_104_method_2_code 78 = .ok (.iload 7, 2) := by decide +kernel
theorem d1_80 : decode prog_104_method_2_code 80 = .ok (.if_icmp .ge 64, 3) := by decide +kernel
theorem d1_83 : decode prog_104_method_2_code 83 = .ok (.iload 8, 2) := by decide +kernel
theorem d1_85 : decode prog_104_method_2_code 85 = .ok (.bipush 7, 2) := by decide +kernel
theorem d1_87 : decode prog_104_method_2_code 87 = .ok (.iand, 1) := by decide +kernel
theorem d1_88 : decode prog_104_method_2_code 88 = .ok (.istore 9, 2) := by decide +kernel
theorem d1_90 : decode prog_104_method_2_code 90 = .ok (.bipush 8, 2) := by decide +kernel
theorem d1_92 : decode prog_104_method_2_code 92 = .ok (.iload 9, 2) := by decide +kernel
theorem d1_94 : decode prog_104_method_2_code 94 = .ok (.isub, 1) := by decide +kernel
theorem d1_95 : decode prog_104_method_2_code 95 = .ok (.iload 7, 2) := by decide +kernel
theorem d1_97 : decode prog_104_method_2_code 97 = .ok (.iload 8, 2) := by decide +kernel
theorem d1_99 : decode prog_104_method_2_code 99 = .ok (.isub, 1) := by decide +kernel
theorem d1_100 : decode prog_104_method_2_code 100 = .ok (.invokestatic 7, 3) := by decide +kernel
theorem d1_103 : decode prog_104_method_2_code 103 = .ok (.istore 10, 2) := by decide +kernel
theorem d1_105 : decode prog_104_method_2_code 105 = .ok (.aload 4, 2) := by decide +kernel
theorem d1_107 : decode prog_104_method_2_code 107 = .ok (.iload 8, 2) := by decide +kernel
theorem d1_109 : decode prog_104_method_2_code 109 = .ok (.iconst 3, 1) := by decide +kernel
theorem d1_110 : decode prog_104_method_2_code 110 = .ok (.ishr, 1) := by decide +kernel
theorem d1_111 : decode prog_104_method_2_code 111 = .ok (.dup2, 1) := by decide +kernel
theorem d1_112 : decode prog_104_method_2_code 112 = .ok (.baload, 1) := by decide +kernel
theorem d1_113 : decode prog_104_method_2_code 113 = .ok (.sipush 255, 3) := by decide +kernel
theorem d1_116 : decode prog_104_method_2_code 116 = .ok (.iload 9, 2) := by decide +kernel
theorem d1_118 : decode prog_104_method_2_code 118 = .ok (.iushr, 1) := by decide +kernel
theorem d1_119 : decode prog_104_method_2_code 119 = .ok (.sipush 255, 3) := by decide +kernel
theorem d1_122 : decode prog_104_method_2_code 122 = .ok (.iload 9, 2) := by decide +kernel
theorem d1_124 : decode prog_104_method_2_code 124 = .ok (.iload 10, 2) := by decide +kernel
theorem d1_126 : decode prog_104_method_2_code 126 = .ok (.iadd, 1) := by decide +kernel
theorem d1_127 : decode prog_104_method_2_code 127 = .ok (.iushr, 1) := by decide +kernel
theorem d1_128 : decode prog_104_method_2_code 128 = .ok (.iconst (-1), 1) := by decide +kernel
theorem d1_129 : decode prog_104_method_2_code 129 = .ok (.ixor, 1) := by decide +kernel
theorem d1_130 : decode prog_104_method_2_code 130 = .ok (.iand, 1) := by decide +kernel
theorem d1_131 : decode prog_104_method_2_code 131 = .ok (.ior, 1) := by decide +kernel
theorem d1_132 : decode prog_104_method_2_code 132 = .ok (.i2b, 1) := by decide +kernel
theorem d1_133 : decode prog_104_method_2_code 133 = .ok (.bastore, 1) := by decide +kernel
theorem d1_134 : decode prog_104_method_2_code 134 = .ok (.iload 8, 2) := by decide +kernel
theorem d1_136 : decode prog_104_method_2_code 136 = .ok (.iload 10, 2) := by decide +kernel
theorem d1_138 : decode prog_104_method_2_code 138 = .ok (.iadd, 1) := by decide +kernel
theorem d1_139 : decode prog_104_method_2_code 139 = .ok (.istore 8, 2) := by decide +kernel
theorem d1_141 : decode prog_104_method_2_code 141 = .ok (.goto (-65), 3) := by decide +kernel
theorem d1_144 : decode prog_104_method_2_code 144 = .ok (.iload 6, 2) := by decide +kernel
theorem d1_146 : decode prog_104_method_2_code 146 = .ok (.istore 5, 2) := by decide +kernel
theorem d1_148 : decode prog_104_method_2_code 148 = .ok (.goto (-134), 3) := by decide +kernel
theorem d1_151 : decode prog_104_method_2_code 151 = .ok (.aload 4, 2) := by decide +kernel
theorem d1_153 : decode prog_104_method_2_code 153 = .ok (.areturn, 1) := by decide +kernel
theorem pn_0 : plainName "com/example/poukaz/poukaz/symbols/Png" = true := by first | (simp [plainName, overriddenIn]; done) | decide +kernel
theorem pd_0 : parseMethodDescriptor "(II)I" = some ⟨[.int, .int], some .int⟩ := by decide +kernel
theorem ef_rm1 (m : MethodId) (p1 : Int32) (p2 : Int32) (a3 : Addr) (p4 : Int32) : entryFrame m #[(.int p1), (.int p2), (.ref a3), (.int p4)] 11 = mkF m 0 #[.val (.int p1), .val (.int p2), .val (.ref a3), .val (.int p4), .unset, .unset, .unset, .unset, .unset, .unset, .unset] [] := by first | (simp [entryFrame, mkF, argsToLocals, Value.category]; done) | rfl
def Q1 (Z : State) (p1 : Int32) (p2 : Int32) (a3 : Addr) (p4 : Int32) (k : ClassId) (g : Nat → Int32) (Lf : Nat) (P : Nat) (Wd : Nat) (h0 : Heap) (n0 : Nat) (v : Option Value) (h : Heap) (L : List Loc) : Prop := ∃ (bn : Addr), ∃ (kn : ClassId), ∃ (fr : Nat → Int32), v = some (.ref bn) ∧ Fr n0 L ∧ Keep h0 h [] ∧ h0.size ≤ bn ∧ (AV Z h bn kn .byte ((Wd + 7) / 8) (fun i => Value.int (fr i))) ∧ (∀ q, q < 8 * ((Wd + 7) / 8) → own_bit fr q = own_is g Lf P (Lf + 6 * P) q)
set_option maxRecDepth 65536 in
set_option maxHeartbeats 40000000 in
theorem rm1 (l : Launch) (Z : State) (a0 : Array Value) (hw : ∀ d ∈ tables_1, d.before a0 Z = true) (ws : List Jvm.Cond) (p1 : Int32) (p2 : Int32) (a3 : Addr) (p4 : Int32) (k : ClassId) (g : Nat → Int32) (Lf : Nat) (P : Nat) (Wd : Nat) (h0 : Heap) (n0 : Nat) (Z0 : n0 ≤ h0.size) (A_a3 : AV Z h0 a3 k .boolean 6 (fun i => Value.int (g i))) (hL : p1 = Int32.ofNat Wd ∧ p2 = Int32.ofNat Lf ∧ p4 = Int32.ofNat P ∧ Lf ≤ 15 ∧ 1 ≤ P ∧ P ≤ 8 ∧ Lf + 6 * P ≤ Wd ∧ Wd ≤ 78) :
    MetFree l (⟨"com/example/poukaz/poukaz/symbols/Png", "row", "(II[ZI)[B"⟩ : MethodName) (head1 (Jvm.Cond.code (⟨"com/example/poukaz/poukaz/symbols/Png", "row", "(II[ZI)[B"⟩ : MethodName) prog_104_method_2_code 11 (some (.array .byte)) :: ws) ({ frames := 1, cells := 1, slots := 10, locals := 13 } : Room)) (fun a U => a = #[(.int p1), (.int p2), (.ref a3), (.int p4)] ∧ Z.Warmed39 U.vm ∧ U.heap = h0) (fun _ _ _ _ _ => True) (fun _ U o U' => ∃ v L, o = .returned v ∧ Q1 Z p1 p2 a3 p4 k g Lf P Wd h0 n0 v U'.heap L ∧ FrameEnd U o U' L ({ frames := 1, cells := 1, slots := 10, locals := 13 } : Room).cells ({ frames := 1, cells := 1, slots := 10, locals := 13 } : Room).slots) := by
  refine MetFree.of_bodySF (plainFor_of_name pn_0) hisR ?_
  intro p e s m args below meth c s₁ Bd hml0 hP hK
  obtain ⟨rfl, hZ, hh⟩ := hP
  have hx := Bd.exec
  have hby := Bd.bytes
  have hml : c.maxLocals = 11 := hml0
  have hown : s.vm.findClass "com/example/poukaz/poukaz/symbols/Png" = some m.cls := findClass_of_methodNamed Bd.named
  have hnm := (name_of_methodNamed Bd.named Bd.method).1
  have X0 : Stand p l e ({ frames := 1, cells := 1, slots := 10, locals := 13 } : Room) s m #[(.int p1), (.int p2), (.ref a3), (.int p4)] below meth c s₁ [] 0 0 := Stand.of_body Bd
  have e0 : s₁.heap = h0 := by rw [← hh, Bd.state]; rfl
  have N0 := Fr.nil n0
  show GoalS p.tables e below s ({ frames := 1, cells := 1, slots := 10, locals := 13 } : Room).cells ({ frames := 1, cells := 1, slots := 10, locals := 13 } : Room).slots (Q1 Z p1 p2 a3 p4 k g Lf P Wd h0 n0) (s₁.setTop (entryFrame m #[(.int p1), (.int p2), (.ref a3), (.int p4)] 11))
  refine GoalS.lift (B := s₁.setTop (mkF m 0 #[.val (.int p1), .val (.int p2), .val (.ref a3), .val (.int p4), .unset, .unset, .unset, .unset, .unset, .unset, .unset] [])) (fun t k => castTop (ef_rm1 m p1 p2 a3 p4) k) ?_
  have K0 : Keep h0 h0 [] := Keep.refl _ _
  obtain ⟨hLl, hP1, hP8, hLW, hW78⟩ := hL.2.2.2
  have hP6 : 6 * P ≤ 48 := by omega
  obtain ⟨T1, h1, k1, X1, e1, E1, A1, st1⟩ := newP X0 hx hZ (hw _ (List.mem_of_getElem? (i := 5) rfl)) e0 (g := (mkF m 7 #[.val (.int p1), .val (.int p2), .val (.ref a3), .val (.int p4), .unset, .unset, .unset, .unset, .unset, .unset, .unset] [(.int ((p1 + (7 : Int32)) / (8 : Int32)))])) rfl (hb hby d1_7) rfl (own_nat (own_nbl hL.1 (by omega)) (by omega)).1 (cap := 10) (by rw [(own_nat (own_nbl hL.1 (by omega)) (by omega)).2]; omega) (by decide) (by decide) (by decide)
  obtain ⟨b1, g1⟩ : ∃ z, z = h0.size := ⟨_, rfl⟩
  rw [← g1] at A1 st1
  have g_b1 : n0 ≤ b1 := Nat.le_trans Z0 (Nat.le_of_eq g1.symm)
  have sz_b1 : h0.size ≤ b1 := Nat.le_trans K0.1 (Nat.le_of_eq g1.symm)
  have ne_a3_b1 : a3 ≠ b1 := Nat.ne_of_lt (Nat.lt_of_lt_of_le A_a3.lt (Nat.le_of_eq g1.symm))
  have z2 : n0 ≤ h1.size := Nat.le_trans Z0 E1.1
  have K3 : Keep h0 h1 [] := K0.ext E1
  have V1 : AV Z h1 b1 k1 .byte ((Wd + 7) / 8) (fun i => Value.int ((fun _ => (0 : Int32)) i)) := AV.new A1 (own_nat (own_nbl hL.1 (by omega)) (by omega)).1 (own_nat (own_nbl hL.1 (by omega)) (by omega)).2 (by omega)
  refine GoalS.lift (B := (T1.setTop (mkF m 14 #[.val (.int p1), .val (.int p2), .val (.ref a3), .val (.int p4), .val (.ref b1), .val (.int (0 : Int32)), .unset, .unset, .unset, .unset, .unset] []))) (fun t k => ?_) ?_
  · show Steps p.tables e below (s₁.setTop (mkF m 0 #[.val (.int p1), .val (.int p2), .val (.ref a3), .val (.int p4), .unset, .unset, .unset, .unset, .unset, .unset, .unset] [])) _
    refine XS.iloadN X0.here hx rfl (hb hby d1_0) rfl ?_
    show Steps p.tables e below (s₁.setTop (mkF m 1 #[.val (.int p1), .val (.int p2), .val (.ref a3), .val (.int p4), .unset, .unset, .unset, .unset, .unset, .unset, .unset] [(.int p1)])) _
    refine XS.bipush X0.here hx rfl (hb hby d1_1) ?_
    show Steps p.tables e below (s₁.setTop (mkF m 3 #[.val (.int p1), .val (.int p2), .val (.ref a3), .val (.int p4), .unset, .unset, .unset, .unset, .unset, .unset, .unset] [(.int (7 : Int32)), (.int p1)])) _
    refine XS.iadd X0.here hx rfl (hb hby d1_3) rfl ?_
    show Steps p.tables e below (s₁.setTop (mkF m 4 #[.val (.int p1), .val (.int p2), .val (.ref a3), .val (.int p4), .unset, .unset, .unset, .unset, .unset, .unset, .unset] [(.int (p1 + (7 : Int32)))])) _
    refine XS.bipush X0.here hx rfl (hb hby d1_4) ?_
    show Steps p.tables e below (s₁.setTop (mkF m 6 #[.val (.int p1), .val (.int p2), .val (.ref a3), .val (.int p4), .unset, .unset, .unset, .unset, .unset, .unset, .unset] [(.int (8 : Int32)), (.int (p1 + (7 : Int32)))])) _
    refine XS.idiv X0.here hx rfl (hb hby d1_6) rfl (by decide) ?_
    show Steps p.tables e below (s₁.setTop (mkF m 7 #[.val (.int p1), .val (.int p2), .val (.ref a3), .val (.int p4), .unset, .unset, .unset, .unset, .unset, .unset, .unset] [(.int ((p1 + (7 : Int32)) / (8 : Int32)))])) _
    refine st1 _ ?_
    show Steps p.tables e below (T1.setTop (mkF m 9 #[.val (.int p1), .val (.int p2), .val (.ref a3), .val (.int p4), .unset, .unset, .unset, .unset, .unset, .unset, .unset] [(.ref b1)])) _
    refine XS.astore X1.here hx rfl (hb hby d1_9) rfl rfl (l' := #[.val (.int p1), .val (.int p2), .val (.ref a3), .val (.int p4), .val (.ref b1), .unset, .unset, .unset, .unset, .unset, .unset]) rfl ?_
    show Steps p.tables e below (T1.setTop (mkF m 11 #[.val (.int p1), .val (.int p2), .val (.ref a3), .val (.int p4), .val (.ref b1), .unset, .unset, .unset, .unset, .unset, .unset] [])) _
    refine XS.iconst X1.here hx rfl (hb hby d1_11) ?_
    show Steps p.tables e below (T1.setTop (mkF m 12 #[.val (.int p1), .val (.int p2), .val (.ref a3), .val (.int p4), .val (.ref b1), .unset, .unset, .unset, .unset, .unset, .unset] [(.int (0 : Int32))])) _
    refine XS.istore X1.here hx rfl (hb hby d1_12) rfl (l' := #[.val (.int p1), .val (.int p2), .val (.ref a3), .val (.int p4), .val (.ref b1), .val (.int (0 : Int32)), .unset, .unset, .unset, .unset, .unset]) rfl ?_
    show Steps p.tables e below (T1.setTop (mkF m 14 #[.val (.int p1), .val (.int p2), .val (.ref a3), .val (.int p4), .val (.ref b1), .val (.int (0 : Int32)), .unset, .unset, .unset, .unset, .unset] [])) _
    exact k
  have LP4 : ∀ (kkO : Nat) (fr : Nat → Int32) (I : Nat) (i : Int32) (sl6 : Slot) (sl7 : Slot) (sl8 : Slot) (sl9 : Slot) (sl10 : Slot) (h_sl6 : One sl6) (h_sl7 : One sl7) (h_sl8 : One sl8) (h_sl9 : One sl9) (h_sl10 : One sl10) (TL5 : State) (hL5 : Heap) (lc5 : List Loc) (XL5 : Stand p l e ({ frames := 1, cells := 1, slots := 10, locals := 13 } : Room) s m #[(.int p1), (.int p2), (.ref a3), (.int p4)] below meth c TL5 lc5 1 10) (eL5 : TL5.heap = hL5) (NL5 : Fr n0 lc5) (zL5 : n0 ≤ hL5.size) (KL5 : Keep h0 hL5 []) (cf5_0 : AV Z hL5 b1 k1 .byte ((Wd + 7) / 8) (fun i => Value.int (fr i))) (cf5_1 : AV Z hL5 a3 k .boolean 6 (fun i => Value.int (g i))), (i = Int32.ofNat I ∧ I ≤ 6 ∧ kkO = 6 - I) → (∀ q, q < 8 * ((Wd + 7) / 8) → own_bit fr q = own_is g Lf P (Lf + I * P) q) → GoalS p.tables e below s ({ frames := 1, cells := 1, slots := 10, locals := 13 } : Room).cells ({ frames := 1, cells := 1, slots := 10, locals := 13 } : Room).slots (Q1 Z p1 p2 a3 p4 k g Lf P Wd h0 n0) (TL5.setTop (mkF m 14 #[.val (.int p1), .val (.int p2), .val (.ref a3), .val (.int p4), .val (.ref b1), .val (.int i), sl6, sl7, sl8, sl9, sl10] [])) := by
    intro kkO
    induction kkO using Nat.strongRecOn with
    | ind kkO ihO =>
    intro fr I i sl6 sl7 sl8 sl9 sl10 h_sl6 h_sl7 h_sl8 h_sl9 h_sl10 TL5 hL5 lc5 XL5 eL5 NL5 zL5 KL5 cf5_0 cf5_1 hi hrow
    obtain ⟨cl6, Ar6, -, sz6, -, -⟩ := id cf5_1
    have le6 : cl6.slots.size.toInt32 = (6 : Int32) := by rw [sz6]; exact rfl
    refine GoalS.lift (B := (TL5.setTop (mkF m 18 #[.val (.int p1), .val (.int p2), .val (.ref a3), .val (.int p4), .val (.ref b1), .val (.int i), sl6, sl7, sl8, sl9, sl10] [(.int (6 : Int32)), (.int i)]))) (fun t k => ?_) ?_
    · show Steps p.tables e below (TL5.setTop (mkF m 14 #[.val (.int p1), .val (.int p2), .val (.ref a3), .val (.int p4), .val (.ref b1), .val (.int i), sl6, sl7, sl8, sl9, sl10] [])) _
      refine XS.iload XL5.here hx rfl (hb hby d1_14) rfl ?_
      show Steps p.tables e below (TL5.setTop (mkF m 16 #[.val (.int p1), .val (.int p2), .val (.ref a3), .val (.int p4), .val (.ref b1), .val (.int i), sl6, sl7, sl8, sl9, sl10] [(.int i)])) _
      refine XS.aloadN XL5.here hx rfl (hb hby d1_16) rfl rfl ?_
      show Steps p.tables e below (TL5.setTop (mkF m 17 #[.val (.int p1), .val (.int p2), .val (.ref a3), .val (.int p4), .val (.ref b1), .val (.int i), sl6, sl7, sl8, sl9, sl10] [(.ref a3), (.int i)])) _
      refine XL5.arraylength hx (by rw [eL5]; exact Ar6.1) (State.isArrayOf_alike hZ.alike Ar6.2.1) (g := (mkF m 17 #[.val (.int p1), .val (.int p2), .val (.ref a3), .val (.int p4), .val (.ref b1), .val (.int i), sl6, sl7, sl8, sl9, sl10] [(.ref a3), (.int i)])) rfl rfl (hb hby d1_17) _ ?_
      rw [le6]
      show Steps p.tables e below (TL5.setTop (mkF m 18 #[.val (.int p1), .val (.int p2), .val (.ref a3), .val (.int p4), .val (.ref b1), .val (.int i), sl6, sl7, sl8, sl9, sl10] [(.int (6 : Int32)), (.int i)])) _
      exact k
    by_cases hc18_7 : i < (6 : Int32)
    · have hI : I < 6 := by rw [hi.1, show (6 : Int32) = Int32.ofNat 6 from rfl, own_lt (by omega) (by omega)] at hc18_7; exact hc18_7
      obtain ⟨cl8, Ar8, kc8, sz8, -, hv8⟩ := id cf5_1
      have hin8 : ¬ (i < 0 ∨ cl8.slots.size ≤ (i).toNatClampNeg) := AV.inb sz8 ⟨(own_nat hi.1 (by omega)).1, by rw [(own_nat hi.1 (by omega)).2]; omega⟩
      have hat8 : cl8.slots[(i).toNatClampNeg]? = some (.int (g (i).toNatClampNeg)) := (hv8 _ (AV.inx ⟨(own_nat hi.1 (by omega)).1, by rw [(own_nat hi.1 (by omega)).2]; omega⟩)).trans (congrArg some rfl)
      refine GoalS.lift (B := (TL5.setTop (mkF m 25 #[.val (.int p1), .val (.int p2), .val (.ref a3), .val (.int p4), .val (.ref b1), .val (.int i), sl6, sl7, sl8, sl9, sl10] [(.int (g (i).toNatClampNeg))]))) (fun t k => ?_) ?_
      · show Steps p.tables e below (TL5.setTop (mkF m 18 #[.val (.int p1), .val (.int p2), .val (.ref a3), .val (.int p4), .val (.ref b1), .val (.int i), sl6, sl7, sl8, sl9, sl10] [(.int (6 : Int32)), (.int i)])) _
        refine XS.icmpNo XL5.here hx rfl (hb hby d1_18) rfl ((tlt hc18_7).2.1) ?_
        show Steps p.tables e below (TL5.setTop (mkF m 21 #[.val (.int p1), .val (.int p2), .val (.ref a3), .val (.int p4), .val (.ref b1), .val (.int i), sl6, sl7, sl8, sl9, sl10] [])) _
        refine XS.aloadN XL5.here hx rfl (hb hby d1_21) rfl rfl ?_
        show Steps p.tables e below (TL5.setTop (mkF m 22 #[.val (.int p1), .val (.int p2), .val (.ref a3), .val (.int p4), .val (.ref b1), .val (.int i), sl6, sl7, sl8, sl9, sl10] [(.ref a3)])) _
        refine XS.iload XL5.here hx rfl (hb hby d1_22) rfl ?_
        show Steps p.tables e below (TL5.setTop (mkF m 24 #[.val (.int p1), .val (.int p2), .val (.ref a3), .val (.int p4), .val (.ref b1), .val (.int i), sl6, sl7, sl8, sl9, sl10] [(.int i), (.ref a3)])) _
        refine XL5.baloadBooleans hx (j := i) (v := (.int (g (i).toNatClampNeg))) (by rw [eL5]; exact Ar8.1) (State.isArrayOf_alike hZ.alike Ar8.2.1) Ar8.2.2 hin8 hat8 (g := (mkF m 24 #[.val (.int p1), .val (.int p2), .val (.ref a3), .val (.int p4), .val (.ref b1), .val (.int i), sl6, sl7, sl8, sl9, sl10] [(.int i), (.ref a3)])) rfl rfl (hb hby d1_24) _ ?_
        show Steps p.tables e below (TL5.setTop (mkF m 25 #[.val (.int p1), .val (.int p2), .val (.ref a3), .val (.int p4), .val (.ref b1), .val (.int i), sl6, sl7, sl8, sl9, sl10] [(.int (g (i).toNatClampNeg))])) _
        exact k
      by_cases hc25_9 : (g (i).toNatClampNeg) = (0 : Int32)
      · have hg : g I = 0 := by rw [(own_nat hi.1 (by omega)).2] at hc25_9; exact hc25_9
        refine GoalS.lift (B := (TL5.setTop (mkF m 14 #[.val (.int p1), .val (.int p2), .val (.ref a3), .val (.int p4), .val (.ref b1), .val (.int (i + (1 : Int32))), sl6, sl7, sl8, sl9, sl10] []))) (fun t k => ?_) ?_
        · show Steps p.tables e below (TL5.setTop (mkF m 25 #[.val (.int p1), .val (.int p2), .val (.ref a3), .val (.int p4), .val (.ref b1), .val (.int i), sl6, sl7, sl8, sl9, sl10] [(.int (g (i).toNatClampNeg))])) _
          refine XS.ifNo XL5.here hx rfl (hb hby d1_25) rfl ((if0 _ _).trans (teq hc25_9).2) ?_
          show Steps p.tables e below (TL5.setTop (mkF m 28 #[.val (.int p1), .val (.int p2), .val (.ref a3), .val (.int p4), .val (.ref b1), .val (.int i), sl6, sl7, sl8, sl9, sl10] [])) _
          refine XS.iinc XL5.here hx rfl (hb hby d1_28) rfl (l' := #[.val (.int p1), .val (.int p2), .val (.ref a3), .val (.int p4), .val (.ref b1), .val (.int (i + (1 : Int32))), sl6, sl7, sl8, sl9, sl10]) rfl ?_
          show Steps p.tables e below (TL5.setTop (mkF m 31 #[.val (.int p1), .val (.int p2), .val (.ref a3), .val (.int p4), .val (.ref b1), .val (.int (i + (1 : Int32))), sl6, sl7, sl8, sl9, sl10] [])) _
          refine XS.goto XL5.here hx rfl (pc0 := 31) (pc' := 14) rfl (hb hby d1_31) (by decide) (by decide) ?_
          show Steps p.tables e below (TL5.setTop (mkF m 14 #[.val (.int p1), .val (.int p2), .val (.ref a3), .val (.int p4), .val (.ref b1), .val (.int (i + (1 : Int32))), sl6, sl7, sl8, sl9, sl10] [])) _
          exact k
        exact ihO (6 - (I + 1)) (by omega) fr (I + 1) (i + (1 : Int32)) sl6 sl7 sl8 sl9 sl10 h_sl6 h_sl7 h_sl8 h_sl9 h_sl10 TL5 hL5 _ XL5 eL5 NL5 zL5 KL5 cf5_0 cf5_1 ⟨by rw [hi.1]; exact own_add I 1, by omega, rfl⟩ (fun q hq => by rw [hrow q hq]; exact (own_skip (by omega) hg).symm)
      · have hg : ¬ g I = 0 := by rw [(own_nat hi.1 (by omega)).2] at hc25_9; exact hc25_9
        refine GoalS.lift (B := (TL5.setTop (mkF m 40 #[.val (.int p1), .val (.int p2), .val (.ref a3), .val (.int p4), .val (.ref b1), .val (.int i), .val (.int (i + (1 : Int32))), sl7, sl8, sl9, sl10] []))) (fun t k => ?_) ?_
        · show Steps p.tables e below (TL5.setTop (mkF m 25 #[.val (.int p1), .val (.int p2), .val (.ref a3), .val (.int p4), .val (.ref b1), .val (.int i), sl6, sl7, sl8, sl9, sl10] [(.int (g (i).toNatClampNeg))])) _
          refine XS.ifYes XL5.here hx rfl (pc0 := 25) (pc' := 34) rfl (hb hby d1_25) rfl ((if0 _ _).trans (feq hc25_9).2) (by decide) (by decide) ?_
          show Steps p.tables e below (TL5.setTop (mkF m 34 #[.val (.int p1), .val (.int p2), .val (.ref a3), .val (.int p4), .val (.ref b1), .val (.int i), sl6, sl7, sl8, sl9, sl10] [])) _
          refine XS.iload XL5.here hx rfl (hb hby d1_34) rfl ?_
          show Steps p.tables e below (TL5.setTop (mkF m 36 #[.val (.int p1), .val (.int p2), .val (.ref a3), .val (.int p4), .val (.ref b1), .val (.int i), sl6, sl7, sl8, sl9, sl10] [(.int i)])) _
          refine XS.iconst XL5.here hx rfl (hb hby d1_36) ?_
          show Steps p.tables e below (TL5.setTop (mkF m 37 #[.val (.int p1), .val (.int p2), .val (.ref a3), .val (.int p4), .val (.ref b1), .val (.int i), sl6, sl7, sl8, sl9, sl10] [(.int (1 : Int32)), (.int i)])) _
          refine XS.iadd XL5.here hx rfl (hb hby d1_37) rfl ?_
          show Steps p.tables e below (TL5.setTop (mkF m 38 #[.val (.int p1), .val (.int p2), .val (.ref a3), .val (.int p4), .val (.ref b1), .val (.int i), sl6, sl7, sl8, sl9, sl10] [(.int (i + (1 : Int32)))])) _
          refine XS.istore XL5.here hx rfl (hb hby d1_38) rfl (l' := #[.val (.int p1), .val (.int p2), .val (.ref a3), .val (.int p4), .val (.ref b1), .val (.int i), .val (.int (i + (1 : Int32))), sl7, sl8, sl9, sl10]) (XS.store1 (o := sl6) rfl h_sl6 rfl) ?_
          show Steps p.tables e below (TL5.setTop (mkF m 40 #[.val (.int p1), .val (.int p2), .val (.ref a3), .val (.int p4), .val (.ref b1), .val (.int i), .val (.int (i + (1 : Int32))), sl7, sl8, sl9, sl10] [])) _
          exact k
        have LP10 : ∀ (kkJ : Nat) (J : Nat) (j : Int32), (j = Int32.ofNat J ∧ (I < J ∧ J ≤ 6 ∧ kkJ = 6 - J) ∧ ∀ t, I ≤ t → t < J → g t ≠ 0) → GoalS p.tables e below s ({ frames := 1, cells := 1, slots := 10, locals := 13 } : Room).cells ({ frames := 1, cells := 1, slots := 10, locals := 13 } : Room).slots (Q1 Z p1 p2 a3 p4 k g Lf P Wd h0 n0) (TL5.setTop (mkF m 40 #[.val (.int p1), .val (.int p2), .val (.ref a3), .val (.int p4), .val (.ref b1), .val (.int i), .val (.int j), sl7, sl8, sl9, sl10] [])) := by
          intro kkJ
          induction kkJ using Nat.strongRecOn with
          | ind kkJ ihJ =>
          intro J j hj
          obtain ⟨cl12, Ar12, -, sz12, -, -⟩ := id cf5_1
          have le12 : cl12.slots.size.toInt32 = (6 : Int32) := by rw [sz12]; exact rfl
          refine GoalS.lift (B := (TL5.setTop (mkF m 44 #[.val (.int p1), .val (.int p2), .val (.ref a3), .val (.int p4), .val (.ref b1), .val (.int i), .val (.int j), sl7, sl8, sl9, sl10] [(.int (6 : Int32)), (.int j)]))) (fun t k => ?_) ?_
          · show Steps p.tables e below (TL5.setTop (mkF m 40 #[.val (.int p1), .val (.int p2), .val (.ref a3), .val (.int p4), .val (.ref b1), .val (.int i), .val (.int j), sl7, sl8, sl9, sl10] [])) _
            refine XS.iload XL5.here hx rfl (hb hby d1_40) rfl ?_
            show Steps p.tables e below (TL5.setTop (mkF m 42 #[.val (.int p1), .val (.int p2), .val (.ref a3), .val (.int p4), .val (.ref b1), .val (.int i), .val (.int j), sl7, sl8, sl9, sl10] [(.int j)])) _
            refine XS.aloadN XL5.here hx rfl (hb hby d1_42) rfl rfl ?_
            show Steps p.tables e below (TL5.setTop (mkF m 43 #[.val (.int p1), .val (.int p2), .val (.ref a3), .val (.int p4), .val (.ref b1), .val (.int i), .val (.int j), sl7, sl8, sl9, sl10] [(.ref a3), (.int j)])) _
            refine XL5.arraylength hx (by rw [eL5]; exact Ar12.1) (State.isArrayOf_alike hZ.alike Ar12.2.1) (g := (mkF m 43 #[.val (.int p1), .val (.int p2), .val (.ref a3), .val (.int p4), .val (.ref b1), .val (.int i), .val (.int j), sl7, sl8, sl9, sl10] [(.ref a3), (.int j)])) rfl rfl (hb hby d1_43) _ ?_
            rw [le12]
            show Steps p.tables e below (TL5.setTop (mkF m 44 #[.val (.int p1), .val (.int p2), .val (.ref a3), .val (.int p4), .val (.ref b1), .val (.int i), .val (.int j), sl7, sl8, sl9, sl10] [(.int (6 : Int32)), (.int j)])) _
            exact k
          by_cases hc44_13 : j < (6 : Int32)
          · have hJ : J < 6 := by rw [hj.1, show (6 : Int32) = Int32.ofNat 6 from rfl, own_lt (by omega) (by omega)] at hc44_13; exact hc44_13
            obtain ⟨cl14, Ar14, kc14, sz14, -, hv14⟩ := id cf5_1
            have hin14 : ¬ (j < 0 ∨ cl14.slots.size ≤ (j).toNatClampNeg) := AV.inb sz14 ⟨(own_nat hj.1 (by omega)).1, by rw [(own_nat hj.1 (by omega)).2]; omega⟩
            have hat14 : cl14.slots[(j).toNatClampNeg]? = some (.int (g (j).toNatClampNeg)) := (hv14 _ (AV.inx ⟨(own_nat hj.1 (by omega)).1, by rw [(own_nat hj.1 (by omega)).2]; omega⟩)).trans (congrArg some rfl)
            refine GoalS.lift (B := (TL5.setTop (mkF m 51 #[.val (.int p1), .val (.int p2), .val (.ref a3), .val (.int p4), .val (.ref b1), .val (.int i), .val (.int j), sl7, sl8, sl9, sl10] [(.int (g (j).toNatClampNeg))]))) (fun t k => ?_) ?_
            · show Steps p.tables e below (TL5.setTop (mkF m 44 #[.val (.int p1), .val (.int p2), .val (.ref a3), .val (.int p4), .val (.ref b1), .val (.int i), .val (.int j), sl7, sl8, sl9, sl10] [(.int (6 : Int32)), (.int j)])) _
              refine XS.icmpNo XL5.here hx rfl (hb hby d1_44) rfl ((tlt hc44_13).2.1) ?_
              show Steps p.tables e below (TL5.setTop (mkF m 47 #[.val (.int p1), .val (.int p2), .val (.ref a3), .val (.int p4), .val (.ref b1), .val (.int i), .val (.int j), sl7, sl8, sl9, sl10] [])) _
              refine XS.aloadN XL5.here hx rfl (hb hby d1_47) rfl rfl ?_
              show Steps p.tables e below (TL5.setTop (mkF m 48 #[.val (.int p1), .val (.int p2), .val (.ref a3), .val (.int p4), .val (.ref b1), .val (.int i), .val (.int j), sl7, sl8, sl9, sl10] [(.ref a3)])) _
              refine XS.iload XL5.here hx rfl (hb hby d1_48) rfl ?_
              show Steps p.tables e below (TL5.setTop (mkF m 50 #[.val (.int p1), .val (.int p2), .val (.ref a3), .val (.int p4), .val (.ref b1), .val (.int i), .val (.int j), sl7, sl8, sl9, sl10] [(.int j), (.ref a3)])) _
              refine XL5.baloadBooleans hx (j := j) (v := (.int (g (j).toNatClampNeg))) (by rw [eL5]; exact Ar14.1) (State.isArrayOf_alike hZ.alike Ar14.2.1) Ar14.2.2 hin14 hat14 (g := (mkF m 50 #[.val (.int p1), .val (.int p2), .val (.ref a3), .val (.int p4), .val (.ref b1), .val (.int i), .val (.int j), sl7, sl8, sl9, sl10] [(.int j), (.ref a3)])) rfl rfl (hb hby d1_50) _ ?_
              show Steps p.tables e below (TL5.setTop (mkF m 51 #[.val (.int p1), .val (.int p2), .val (.ref a3), .val (.int p4), .val (.ref b1), .val (.int i), .val (.int j), sl7, sl8, sl9, sl10] [(.int (g (j).toNatClampNeg))])) _
              exact k
            by_cases hc51_15 : (g (j).toNatClampNeg) = (0 : Int32)
            · have hgJ : g J = 0 := by rw [(own_nat hj.1 (by omega)).2] at hc51_15; exact hc51_15
              have hIJ : Lf + I * P ≤ Lf + J * P := Nat.add_le_add_left (Nat.mul_le_mul_right P (by omega)) Lf
              have hJ6 : Lf + J * P ≤ Lf + 6 * P := Nat.add_le_add_left (Nat.mul_le_mul_right P (by omega)) Lf
              refine GoalS.lift (B := (TL5.setTop (mkF m 76 #[.val (.int p1), .val (.int p2), .val (.ref a3), .val (.int p4), .val (.ref b1), .val (.int i), .val (.int j), .val (.int (p2 + (j * p4))), .val (.int (p2 + (i * p4))), sl9, sl10] []))) (fun t k => ?_) ?_
              · show Steps p.tables e below (TL5.setTop (mkF m 51 #[.val (.int p1), .val (.int p2), .val (.ref a3), .val (.int p4), .val (.ref b1), .val (.int i), .val (.int j), sl7, sl8, sl9, sl10] [(.int (g (j).toNatClampNeg))])) _
                refine XS.ifYes XL5.here hx rfl (pc0 := 51) (pc' := 60) rfl (hb hby d1_51) rfl ((if0 _ _).trans (teq hc51_15).1) (by decide) (by decide) ?_
                show Steps p.tables e below (TL5.setTop (mkF m 60 #[.val (.int p1), .val (.int p2), .val (.ref a3), .val (.int p4), .val (.ref b1), .val (.int i), .val (.int j), sl7, sl8, sl9, sl10] [])) _
                refine XS.iloadN XL5.here hx rfl (hb hby d1_60) rfl ?_
                show Steps p.tables e below (TL5.setTop (mkF m 61 #[.val (.int p1), .val (.int p2), .val (.ref a3), .val (.int p4), .val (.ref b1), .val (.int i), .val (.int j), sl7, sl8, sl9, sl10] [(.int p2)])) _
                refine XS.iload XL5.here hx rfl (hb hby d1_61) rfl ?_
                show Steps p.tables e below (TL5.setTop (mkF m 63 #[.val (.int p1), .val (.int p2), .val (.ref a3), .val (.int p4), .val (.ref b1), .val (.int i), .val (.int j), sl7, sl8, sl9, sl10] [(.int j), (.int p2)])) _
                refine XS.iloadN XL5.here hx rfl (hb hby d1_63) rfl ?_
                show Steps p.tables e below (TL5.setTop (mkF m 64 #[.val (.int p1), .val (.int p2), .val (.ref a3), .val (.int p4), .val (.ref b1), .val (.int i), .val (.int j), sl7, sl8, sl9, sl10] [(.int p4), (.int j), (.int p2)])) _
                refine XS.imul XL5.here hx rfl (hb hby d1_64) rfl ?_
                show Steps p.tables e below (TL5.setTop (mkF m 65 #[.val (.int p1), .val (.int p2), .val (.ref a3), .val (.int p4), .val (.ref b1), .val (.int i), .val (.int j), sl7, sl8, sl9, sl10] [(.int (j * p4)), (.int p2)])) _
                refine XS.iadd XL5.here hx rfl (hb hby d1_65) rfl ?_
                show Steps p.tables e below (TL5.setTop (mkF m 66 #[.val (.int p1), .val (.int p2), .val (.ref a3), .val (.int p4), .val (.ref b1), .val (.int i), .val (.int j), sl7, sl8, sl9, sl10] [(.int (p2 + (j * p4)))])) _
                refine XS.istore XL5.here hx rfl (hb hby d1_66) rfl (l' := #[.val (.int p1), .val (.int p2), .val (.ref a3), .val (.int p4), .val (.ref b1), .val (.int i), .val (.int j), .val (.int (p2 + (j * p4))), sl8, sl9, sl10]) (XS.store1 (o := sl7) rfl h_sl7 rfl) ?_
                show Steps p.tables e below (TL5.setTop (mkF m 68 #[.val (.int p1), .val (.int p2), .val (.ref a3), .val (.int p4), .val (.ref b1), .val (.int i), .val (.int j), .val (.int (p2 + (j * p4))), sl8, sl9, sl10] [])) _
                refine XS.iloadN XL5.here hx rfl (hb hby d1_68) rfl ?_
                show Steps p.tables e below (TL5.setTop (mkF m 69 #[.val (.int p1), .val (.int p2), .val (.ref a3), .val (.int p4), .val (.ref b1), .val (.int i), .val (.int j), .val (.int (p2 + (j * p4))), sl8, sl9, sl10] [(.int p2)])) _
                refine XS.iload XL5.here hx rfl (hb hby d1_69) rfl ?_
                show Steps p.tables e below (TL5.setTop (mkF m 71 #[.val (.int p1), .val (.int p2), .val (.ref a3), .val (.int p4), .val (.ref b1), .val (.int i), .val (.int j), .val (.int (p2 + (j * p4))), sl8, sl9, sl10] [(.int i), (.int p2)])) _
                refine XS.iloadN XL5.here hx rfl (hb hby d1_71) rfl ?_
                show Steps p.tables e below (TL5.setTop (mkF m 72 #[.val (.int p1), .val (.int p2), .val (.ref a3), .val (.int p4), .val (.ref b1), .val (.int i), .val (.int j), .val (.int (p2 + (j * p4))), sl8, sl9, sl10] [(.int p4), (.int i), (.int p2)])) _
                refine XS.imul XL5.here hx rfl (hb hby d1_72) rfl ?_
                show Steps p.tables e below (TL5.setTop (mkF m 73 #[.val (.int p1), .val (.int p2), .val (.ref a3), .val (.int p4), .val (.ref b1), .val (.int i), .val (.int j), .val (.int (p2 + (j * p4))), sl8, sl9, sl10] [(.int (i * p4)), (.int p2)])) _
                refine XS.iadd XL5.here hx rfl (hb hby d1_73) rfl ?_
                show Steps p.tables e below (TL5.setTop (mkF m 74 #[.val (.int p1), .val (.int p2), .val (.ref a3), .val (.int p4), .val (.ref b1), .val (.int i), .val (.int j), .val (.int (p2 + (j * p4))), sl8, sl9, sl10] [(.int (p2 + (i * p4)))])) _
                refine XS.istore XL5.here hx rfl (hb hby d1_74) rfl (l' := #[.val (.int p1), .val (.int p2), .val (.ref a3), .val (.int p4), .val (.ref b1), .val (.int i), .val (.int j), .val (.int (p2 + (j * p4))), .val (.int (p2 + (i * p4))), sl9, sl10]) (XS.store1 (o := sl8) rfl h_sl8 rfl) ?_
                show Steps p.tables e below (TL5.setTop (mkF m 76 #[.val (.int p1), .val (.int p2), .val (.ref a3), .val (.int p4), .val (.ref b1), .val (.int i), .val (.int j), .val (.int (p2 + (j * p4))), .val (.int (p2 + (i * p4))), sl9, sl10] [])) _
                exact k
              have LP16 : ∀ (kkX : Nat) (fx : Nat → Int32) (X : Nat) (x : Int32) (sl9 : Slot) (sl10 : Slot) (h_sl9 : One sl9) (h_sl10 : One sl10) (TL17 : State) (hL17 : Heap) (lc17 : List Loc) (XL17 : Stand p l e ({ frames := 1, cells := 1, slots := 10, locals := 13 } : Room) s m #[(.int p1), (.int p2), (.ref a3), (.int p4)] below meth c TL17 lc17 1 10) (eL17 : TL17.heap = hL17) (NL17 : Fr n0 lc17) (zL17 : n0 ≤ hL17.size) (KL17 : Keep h0 hL17 []) (cf17_0 : AV Z hL17 b1 k1 .byte ((Wd + 7) / 8) (fun i => Value.int (fx i))) (cf17_1 : AV Z hL17 a3 k .boolean 6 (fun i => Value.int (g i))), (x = Int32.ofNat X ∧ Lf + I * P ≤ X ∧ X ≤ Lf + J * P ∧ kkX = Lf + J * P - X) → (∀ q, q < 8 * ((Wd + 7) / 8) → own_bit fx q = (own_is g Lf P (Lf + I * P) q || decide (Lf + I * P ≤ q ∧ q < X))) → GoalS p.tables e below s ({ frames := 1, cells := 1, slots := 10, locals := 13 } : Room).cells ({ frames := 1, cells := 1, slots := 10, locals := 13 } : Room).slots (Q1 Z p1 p2 a3 p4 k g Lf P Wd h0 n0) (TL17.setTop (mkF m 76 #[.val (.int p1), .val (.int p2), .val (.ref a3), .val (.int p4), .val (.ref b1), .val (.int i), .val (.int j), .val (.int (p2 + (j * p4))), .val (.int x), sl9, sl10] [])) := by
                intro kkX
                induction kkX using Nat.strongRecOn with
                | ind kkX ihX =>
                intro fx X x sl9 sl10 h_sl9 h_sl10 TL17 hL17 lc17 XL17 eL17 NL17 zL17 KL17 cf17_0 cf17_1 hx3 hrow3
                refine GoalS.lift (B := (TL17.setTop (mkF m 80 #[.val (.int p1), .val (.int p2), .val (.ref a3), .val (.int p4), .val (.ref b1), .val (.int i), .val (.int j), .val (.int (p2 + (j * p4))), .val (.int x), sl9, sl10] [(.int (p2 + (j * p4))), (.int x)]))) (fun t k => ?_) ?_
                · show Steps p.tables e below (TL17.setTop (mkF m 76 #[.val (.int p1), .val (.int p2), .val (.ref a3), .val (.int p4), .val (.ref b1), .val (.int i), .val (.int j), .val (.int (p2 + (j * p4))), .val (.int x), sl9, sl10] [])) _
                  refine XS.iload XL17.here hx rfl (hb hby d1_76) rfl ?_
                  show Steps p.tables e below (TL17.setTop (mkF m 78 #[.val (.int p1), .val (.int p2), .val (.ref a3), .val (.int p4), .val (.ref b1), .val (.int i), .val (.int j), .val (.int (p2 + (j * p4))), .val (.int x), sl9, sl10] [(.int x)])) _
                  refine XS.iload XL17.here hx rfl (hb hby d1_78) rfl ?_
                  show Steps p.tables e below (TL17.setTop (mkF m 80 #[.val (.int p1), .val (.int p2), .val (.ref a3), .val (.int p4), .val (.ref b1), .val (.int i), .val (.int j), .val (.int (p2 + (j * p4))), .val (.int x), sl9, sl10] [(.int (p2 + (j * p4))), (.int x)])) _
                  exact k
                by_cases hc80_18 : x < (p2 + (j * p4))
                · have hEn : ((p2 + (j * p4))) = Int32.ofNat (Lf + J * P) := by rw [hL.2.1, hj.1, hL.2.2.1, own_mul, own_add]
                  have hX : X < Lf + J * P := by rw [hEn, hx3.1, own_lt (by omega) (by omega)] at hc80_18; exact hc80_18
                  obtain ⟨_, _, ⟨T19, L19, k19, n19⟩, -, X19, ⟨Lc19, hQ19, l19, y19, z19⟩, st19⟩ := Jvm.LawKit.callS XL17 hx (y := (⟨"java/lang/Math", "min", "(II)I"⟩ : MethodName)) hown (mvT hZ (hw _ (List.mem_of_getElem? (i := 7) rfl))) (mvT hZ (hw _ (List.mem_of_getElem? (i := 8) rfl))) (mvT hZ (hw _ (List.mem_of_getElem? (i := 9) rfl))) (mvT hZ (hw _ (List.mem_of_getElem? (i := 10) rfl))) (by decide) (backOf (W := 0) (rm2 l Z a0 hw [] ((8 : Int32) - (x &&& (7 : Int32))) ((p2 + (j * p4)) - x) hL17 n0 zL17) hZ (hw _ (List.mem_of_getElem? (i := 10) rfl)) (hw _ (List.mem_of_getElem? (i := 9) rfl)) (by decide) (by decide)) (g := (mkF m 100 #[.val (.int p1), .val (.int p2), .val (.ref a3), .val (.int p4), .val (.ref b1), .val (.int i), .val (.int j), .val (.int (p2 + (j * p4))), .val (.int x), .val (.int (x &&& (7 : Int32))), sl10] [(.int ((p2 + (j * p4)) - x)), (.int ((8 : Int32) - (x &&& (7 : Int32))))])) rfl (by rw [hml]; rfl) (argsL := [(.int ((8 : Int32) - (x &&& (7 : Int32)))), (.int ((p2 + (j * p4)) - x))]) (rest := []) (lenOf pd_0 rfl) rfl (by show 2 * 0 + _ ≤ _; exact Nat.le_of_eq rfl) (hb hby d1_100) (fun _ _ => ⟨rfl, eL17, (by decide : 1 + 0 ≤ _), (by decide : 10 + 0 ≤ _)⟩)
                  dsimp only [Pt.U, Pt.locs, Pt.cells, Pt.slots] at X19 l19 y19 z19 st19 hQ19
                  subst y19 z19
                  obtain ⟨r19, rfl, hr19, N19q, eq19⟩ := hQ19
                  have N19 : Fr n0 L19 := by rw [l19]; exact Fr.app NL17 N19q
                  obtain ⟨nn, hnn⟩ := own_min (r := r19) (X := X) (E := Lf + J * P) (n := 0) hX (by omega) (by rw [hr19, hEn, hx3.1, own_and7 (by omega)])
                  obtain ⟨cl20, Ar20, kc20, sz20, -, hv20⟩ := id cf17_0
                  have hin20 : ¬ (((x >>> ((3 : Int32) &&& 31))) < 0 ∨ cl20.slots.size ≤ (((x >>> ((3 : Int32) &&& 31)))).toNatClampNeg) := AV.inb sz20 ⟨(own_nat (own_ix hx3.1 (by omega)) (by omega)).1, by rw [(own_nat (own_ix hx3.1 (by omega)) (by omega)).2]; omega⟩
                  have hat20 : cl20.slots[(((x >>> ((3 : Int32) &&& 31)))).toNatClampNeg]? = some (.int (fx (((x >>> ((3 : Int32) &&& 31)))).toNatClampNeg)) := (hv20 _ (AV.inx ⟨(own_nat (own_ix hx3.1 (by omega)) (by omega)).1, by rw [(own_nat (own_ix hx3.1 (by omega)) (by omega)).2]; omega⟩)).trans (congrArg some rfl)
                  obtain ⟨cl21, Ar21, kc21, sz21, -, -⟩ := id cf17_0
                  have hin21 : ¬ (((x >>> ((3 : Int32) &&& 31))) < 0 ∨ cl21.slots.size ≤ (((x >>> ((3 : Int32) &&& 31)))).toNatClampNeg) := AV.inb sz21 ⟨(own_nat (own_ix hx3.1 (by omega)) (by omega)).1, by rw [(own_nat (own_ix hx3.1 (by omega)) (by omega)).2]; omega⟩
                  obtain ⟨T21, h21, X21, e21, W21, st21⟩ := stB X19 hx hZ eq19 Ar21 (j := ((x >>> ((3 : Int32) &&& 31)))) hin21 (g := (mkF m 133 #[.val (.int p1), .val (.int p2), .val (.ref a3), .val (.int p4), .val (.ref b1), .val (.int i), .val (.int j), .val (.int (p2 + (j * p4))), .val (.int x), .val (.int (x &&& (7 : Int32))), .val (.int r19)] [(.int ((((fx (((x >>> ((3 : Int32) &&& 31)))).toNatClampNeg) ||| (((((255 : Int32)).toUInt32 >>> ((x &&& (7 : Int32)) &&& 31).toUInt32).toInt32) &&& (((((255 : Int32)).toUInt32 >>> (((x &&& (7 : Int32)) + r19) &&& 31).toUInt32).toInt32) ^^^ (-1 : Int32))))).toInt8.toInt32)), (.int ((x >>> ((3 : Int32) &&& 31)))), (.ref b1)])) rfl rfl (hb hby d1_133)
                  have z22 : n0 ≤ h21.size := Nat.le_trans zL17 (Keep.of_wr W21).1
                  have K23 : Keep h0 h21 [] := KL17.wr W21 (Or.inr sz_b1)
                  obtain ⟨fn21, hfn21⟩ : ∃ z, z = (updI fx (((x >>> ((3 : Int32) &&& 31)))).toNatClampNeg (((((fx (((x >>> ((3 : Int32) &&& 31)))).toNatClampNeg) ||| (((((255 : Int32)).toUInt32 >>> ((x &&& (7 : Int32)) &&& 31).toUInt32).toInt32) &&& (((((255 : Int32)).toUInt32 >>> (((x &&& (7 : Int32)) + r19) &&& 31).toUInt32).toInt32) ^^^ (-1 : Int32))))).toInt8.toInt32)).toInt8.toInt32) := ⟨_, rfl⟩
                  have V21 : AV Z h21 b1 k1 .byte ((Wd + 7) / 8) (fun i => Value.int (fn21 i)) := (by rw [hfn21]; exact AV.putI cf17_0 W21 (AV.inx ⟨(own_nat (own_ix hx3.1 (by omega)) (by omega)).1, by rw [(own_nat (own_ix hx3.1 (by omega)) (by omega)).2]; omega⟩))
                  have N21 := Fr.snoc X21 N19 g_b1
                  have hfnX := hfn21
                  refine GoalS.lift (B := (T21.setTop (mkF m 76 #[.val (.int p1), .val (.int p2), .val (.ref a3), .val (.int p4), .val (.ref b1), .val (.int i), .val (.int j), .val (.int (p2 + (j * p4))), .val (.int (x + r19)), .val (.int (x &&& (7 : Int32))), .val (.int r19)] []))) (fun t k => ?_) ?_
                  · show Steps p.tables e below (TL17.setTop (mkF m 80 #[.val (.int p1), .val (.int p2), .val (.ref a3), .val (.int p4), .val (.ref b1), .val (.int i), .val (.int j), .val (.int (p2 + (j * p4))), .val (.int x), sl9, sl10] [(.int (p2 + (j * p4))), (.int x)])) _
                    refine XS.icmpNo XL17.here hx rfl (hb hby d1_80) rfl ((tlt hc80_18).2.1) ?_
                    show Steps p.tables e below (TL17.setTop (mkF m 83 #[.val (.int p1), .val (.int p2), .val (.ref a3), .val (.int p4), .val (.ref b1), .val (.int i), .val (.int j), .val (.int (p2 + (j * p4))), .val (.int x), sl9, sl10] [])) _
                    refine XS.iload XL17.here hx rfl (hb hby d1_83) rfl ?_
                    show Steps p.tables e below (TL17.setTop (mkF m 85 #[.val (.int p1), .val (.int p2), .val (.ref a3), .val (.int p4), .val (.ref b1), .val (.int i), .val (.int j), .val (.int (p2 + (j * p4))), .val (.int x), sl9, sl10] [(.int x)])) _
                    refine XS.bipush XL17.here hx rfl (hb hby d1_85) ?_
                    show Steps p.tables e below (TL17.setTop (mkF m 87 #[.val (.int p1), .val (.int p2), .val (.ref a3), .val (.int p4), .val (.ref b1), .val (.int i), .val (.int j), .val (.int (p2 + (j * p4))), .val (.int x), sl9, sl10] [(.int (7 : Int32)), (.int x)])) _
                    refine XS.iand XL17.here hx rfl (hb hby d1_87) rfl ?_
                    show Steps p.tables e below (TL17.setTop (mkF m 88 #[.val (.int p1), .val (.int p2), .val (.ref a3), .val (.int p4), .val (.ref b1), .val (.int i), .val (.int j), .val (.int (p2 + (j * p4))), .val (.int x), sl9, sl10] [(.int (x &&& (7 : Int32)))])) _
                    refine XS.istore XL17.here hx rfl (hb hby d1_88) rfl (l' := #[.val (.int p1), .val (.int p2), .val (.ref a3), .val (.int p4), .val (.ref b1), .val (.int i), .val (.int j), .val (.int (p2 + (j * p4))), .val (.int x), .val (.int (x &&& (7 : Int32))), sl10]) (XS.store1 (o := sl9) rfl h_sl9 rfl) ?_
                    show Steps p.tables e below (TL17.setTop (mkF m 90 #[.val (.int p1), .val (.int p2), .val (.ref a3), .val (.int p4), .val (.ref b1), .val (.int i), .val (.int j), .val (.int (p2 + (j * p4))), .val (.int x), .val (.int (x &&& (7 : Int32))), sl10] [])) _
                    refine XS.bipush XL17.here hx rfl (hb hby d1_90) ?_
                    show Steps p.tables e below (TL17.setTop (mkF m 92 #[.val (.int p1), .val (.int p2), .val (.ref a3), .val (.int p4), .val (.ref b1), .val (.int i), .val (.int j), .val (.int (p2 + (j * p4))), .val (.int x), .val (.int (x &&& (7 : Int32))), sl10] [(.int (8 : Int32))])) _
                    refine XS.iload XL17.here hx rfl (hb hby d1_92) rfl ?_
                    show Steps p.tables e below (TL17.setTop (mkF m 94 #[.val (.int p1), .val (.int p2), .val (.ref a3), .val (.int p4), .val (.ref b1), .val (.int i), .val (.int j), .val (.int (p2 + (j * p4))), .val (.int x), .val (.int (x &&& (7 : Int32))), sl10] [(.int (x &&& (7 : Int32))), (.int (8 : Int32))])) _
                    refine XS.isub XL17.here hx rfl (hb hby d1_94) rfl ?_
                    show Steps p.tables e below (TL17.setTop (mkF m 95 #[.val (.int p1), .val (.int p2), .val (.ref a3), .val (.int p4), .val (.ref b1), .val (.int i), .val (.int j), .val (.int (p2 + (j * p4))), .val (.int x), .val (.int (x &&& (7 : Int32))), sl10] [(.int ((8 : Int32) - (x &&& (7 : Int32))))])) _
                    refine XS.iload XL17.here hx rfl (hb hby d1_95) rfl ?_
                    show Steps p.tables e below (TL17.setTop (mkF m 97 #[.val (.int p1), .val (.int p2), .val (.ref a3), .val (.int p4), .val (.ref b1), .val (.int i), .val (.int j), .val (.int (p2 + (j * p4))), .val (.int x), .val (.int (x &&& (7 : Int32))), sl10] [(.int (p2 + (j * p4))), (.int ((8 : Int32) - (x &&& (7 : Int32))))])) _
                    refine XS.iload XL17.here hx rfl (hb hby d1_97) rfl ?_
                    show Steps p.tables e below (TL17.setTop (mkF m 99 #[.val (.int p1), .val (.int p2), .val (.ref a3), .val (.int p4), .val (.ref b1), .val (.int i), .val (.int j), .val (.int (p2 + (j * p4))), .val (.int x), .val (.int (x &&& (7 : Int32))), sl10] [(.int x), (.int (p2 + (j * p4))), (.int ((8 : Int32) - (x &&& (7 : Int32))))])) _
                    refine XS.isub XL17.here hx rfl (hb hby d1_99) rfl ?_
                    show Steps p.tables e below (TL17.setTop (mkF m 100 #[.val (.int p1), .val (.int p2), .val (.ref a3), .val (.int p4), .val (.ref b1), .val (.int i), .val (.int j), .val (.int (p2 + (j * p4))), .val (.int x), .val (.int (x &&& (7 : Int32))), sl10] [(.int ((p2 + (j * p4)) - x)), (.int ((8 : Int32) - (x &&& (7 : Int32))))])) _
                    refine st19 _ ?_
                    show Steps p.tables e below (T19.setTop (mkF m 103 #[.val (.int p1), .val (.int p2), .val (.ref a3), .val (.int p4), .val (.ref b1), .val (.int i), .val (.int j), .val (.int (p2 + (j * p4))), .val (.int x), .val (.int (x &&& (7 : Int32))), sl10] [(.int r19)])) _
                    refine XS.istore X19.here hx rfl (hb hby d1_103) rfl (l' := #[.val (.int p1), .val (.int p2), .val (.ref a3), .val (.int p4), .val (.ref b1), .val (.int i), .val (.int j), .val (.int (p2 + (j * p4))), .val (.int x), .val (.int (x &&& (7 : Int32))), .val (.int r19)]) (XS.store1 (o := sl10) rfl h_sl10 rfl) ?_
                    show Steps p.tables e below (T19.setTop (mkF m 105 #[.val (.int p1), .val (.int p2), .val (.ref a3), .val (.int p4), .val (.ref b1), .val (.int i), .val (.int j), .val (.int (p2 + (j * p4))), .val (.int x), .val (.int (x &&& (7 : Int32))), .val (.int r19)] [])) _
                    refine XS.aload X19.here hx rfl (hb hby d1_105) rfl rfl ?_
                    show Steps p.tables e below (T19.setTop (mkF m 107 #[.val (.int p1), .val (.int p2), .val (.ref a3), .val (.int p4), .val (.ref b1), .val (.int i), .val (.int j), .val (.int (p2 + (j * p4))), .val (.int x), .val (.int (x &&& (7 : Int32))), .val (.int r19)] [(.ref b1)])) _
                    refine XS.iload X19.here hx rfl (hb hby d1_107) rfl ?_
                    show Steps p.tables e below (T19.setTop (mkF m 109 #[.val (.int p1), .val (.int p2), .val (.ref a3), .val (.int p4), .val (.ref b1), .val (.int i), .val (.int j), .val (.int (p2 + (j * p4))), .val (.int x), .val (.int (x &&& (7 : Int32))), .val (.int r19)] [(.int x), (.ref b1)])) _
                    refine XS.iconst X19.here hx rfl (hb hby d1_109) ?_
                    show Steps p.tables e below (T19.setTop (mkF m 110 #[.val (.int p1), .val (.int p2), .val (.ref a3), .val (.int p4), .val (.ref b1), .val (.int i), .val (.int j), .val (.int (p2 + (j * p4))), .val (.int x), .val (.int (x &&& (7 : Int32))), .val (.int r19)] [(.int (3 : Int32)), (.int x), (.ref b1)])) _
                    refine XS.ishr X19.here hx rfl (hb hby d1_110) rfl ?_
                    show Steps p.tables e below (T19.setTop (mkF m 111 #[.val (.int p1), .val (.int p2), .val (.ref a3), .val (.int p4), .val (.ref b1), .val (.int i), .val (.int j), .val (.int (p2 + (j * p4))), .val (.int x), .val (.int (x &&& (7 : Int32))), .val (.int r19)] [(.int ((x >>> ((3 : Int32) &&& 31)))), (.ref b1)])) _
                    jvm_step X19.here [X19.here.top, hx, (hb hby d1_111), Value.category]
                    show Steps p.tables e below (T19.setTop (mkF m 112 #[.val (.int p1), .val (.int p2), .val (.ref a3), .val (.int p4), .val (.ref b1), .val (.int i), .val (.int j), .val (.int (p2 + (j * p4))), .val (.int x), .val (.int (x &&& (7 : Int32))), .val (.int r19)] [(.int ((x >>> ((3 : Int32) &&& 31)))), (.ref b1), (.int ((x >>> ((3 : Int32) &&& 31)))), (.ref b1)])) _
                    refine X19.baloadBytes hx (j := ((x >>> ((3 : Int32) &&& 31)))) (v := (.int (fx (((x >>> ((3 : Int32) &&& 31)))).toNatClampNeg))) (by rw [eq19]; exact Ar20.1) (State.isArrayOf_alike hZ.alike Ar20.2.1) Ar20.2.2 hin20 hat20 (g := (mkF m 112 #[.val (.int p1), .val (.int p2), .val (.ref a3), .val (.int p4), .val (.ref b1), .val (.int i), .val (.int j), .val (.int (p2 + (j * p4))), .val (.int x), .val (.int (x &&& (7 : Int32))), .val (.int r19)] [(.int ((x >>> ((3 : Int32) &&& 31)))), (.ref b1), (.int ((x >>> ((3 : Int32) &&& 31)))), (.ref b1)])) rfl rfl (hb hby d1_112) _ ?_
                    show Steps p.tables e below (T19.setTop (mkF m 113 #[.val (.int p1), .val (.int p2), .val (.ref a3), .val (.int p4), .val (.ref b1), .val (.int i), .val (.int j), .val (.int (p2 + (j * p4))), .val (.int x), .val (.int (x &&& (7 : Int32))), .val (.int r19)] [(.int (fx (((x >>> ((3 : Int32) &&& 31)))).toNatClampNeg)), (.int ((x >>> ((3 : Int32) &&& 31)))), (.ref b1)])) _
                    refine XS.sipush X19.here hx rfl (hb hby d1_113) ?_
                    show Steps p.tables e below (T19.setTop (mkF m 116 #[.val (.int p1), .val (.int p2), .val (.ref a3), .val (.int p4), .val (.ref b1), .val (.int i), .val (.int j), .val (.int (p2 + (j * p4))), .val (.int x), .val (.int (x &&& (7 : Int32))), .val (.int r19)] [(.int (255 : Int32)), (.int (fx (((x >>> ((3 : Int32) &&& 31)))).toNatClampNeg)), (.int ((x >>> ((3 : Int32) &&& 31)))), (.ref b1)])) _
                    refine XS.iload X19.here hx rfl (hb hby d1_116) rfl ?_
                    show Steps p.tables e below (T19.setTop (mkF m 118 #[.val (.int p1), .val (.int p2), .val (.ref a3), .val (.int p4), .val (.ref b1), .val (.int i), .val (.int j), .val (.int (p2 + (j * p4))), .val (.int x), .val (.int (x &&& (7 : Int32))), .val (.int r19)] [(.int (x &&& (7 : Int32))), (.int (255 : Int32)), (.int (fx (((x >>> ((3 : Int32) &&& 31)))).toNatClampNeg)), (.int ((x >>> ((3 : Int32) &&& 31)))), (.ref b1)])) _
                    refine XS.iushr X19.here hx rfl (hb hby d1_118) rfl ?_
                    show Steps p.tables e below (T19.setTop (mkF m 119 #[.val (.int p1), .val (.int p2), .val (.ref a3), .val (.int p4), .val (.ref b1), .val (.int i), .val (.int j), .val (.int (p2 + (j * p4))), .val (.int x), .val (.int (x &&& (7 : Int32))), .val (.int r19)] [(.int ((((255 : Int32)).toUInt32 >>> ((x &&& (7 : Int32)) &&& 31).toUInt32).toInt32)), (.int (fx (((x >>> ((3 : Int32) &&& 31)))).toNatClampNeg)), (.int ((x >>> ((3 : Int32) &&& 31)))), (.ref b1)])) _
                    refine XS.sipush X19.here hx rfl (hb hby d1_119) ?_
                    show Steps p.tables e below (T19.setTop (mkF m 122 #[.val (.int p1), .val (.int p2), .val (.ref a3), .val (.int p4), .val (.ref b1), .val (.int i), .val (.int j), .val (.int (p2 + (j * p4))), .val (.int x), .val (.int (x &&& (7 : Int32))), .val (.int r19)] [(.int (255 : Int32)), (.int ((((255 : Int32)).toUInt32 >>> ((x &&& (7 : Int32)) &&& 31).toUInt32).toInt32)), (.int (fx (((x >>> ((3 : Int32) &&& 31)))).toNatClampNeg)), (.int ((x >>> ((3 : Int32) &&& 31)))), (.ref b1)])) _
                    refine XS.iload X19.here hx rfl (hb hby d1_122) rfl ?_
                    show Steps p.tables e below (T19.setTop (mkF m 124 #[.val (.int p1), .val (.int p2), .val (.ref a3), .val (.int p4), .val (.ref b1), .val (.int i), .val (.int j), .val (.int (p2 + (j * p4))), .val (.int x), .val (.int (x &&& (7 : Int32))), .val (.int r19)] [(.int (x &&& (7 : Int32))), (.int (255 : Int32)), (.int ((((255 : Int32)).toUInt32 >>> ((x &&& (7 : Int32)) &&& 31).toUInt32).toInt32)), (.int (fx (((x >>> ((3 : Int32) &&& 31)))).toNatClampNeg)), (.int ((x >>> ((3 : Int32) &&& 31)))), (.ref b1)])) _
                    refine XS.iload X19.here hx rfl (hb hby d1_124) rfl ?_
                    show Steps p.tables e below (T19.setTop (mkF m 126 #[.val (.int p1), .val (.int p2), .val (.ref a3), .val (.int p4), .val (.ref b1), .val (.int i), .val (.int j), .val (.int (p2 + (j * p4))), .val (.int x), .val (.int (x &&& (7 : Int32))), .val (.int r19)] [(.int r19), (.int (x &&& (7 : Int32))), (.int (255 : Int32)), (.int ((((255 : Int32)).toUInt32 >>> ((x &&& (7 : Int32)) &&& 31).toUInt32).toInt32)), (.int (fx (((x >>> ((3 : Int32) &&& 31)))).toNatClampNeg)), (.int ((x >>> ((3 : Int32) &&& 31)))), (.ref b1)])) _
                    refine XS.iadd X19.here hx rfl (hb hby d1_126) rfl ?_
                    show Steps p.tables e below (T19.setTop (mkF m 127 #[.val (.int p1), .val (.int p2), .val (.ref a3), .val (.int p4), .val (.ref b1), .val (.int i), .val (.int j), .val (.int (p2 + (j * p4))), .val (.int x), .val (.int (x &&& (7 : Int32))), .val (.int r19)] [(.int ((x &&& (7 : Int32)) + r19)), (.int (255 : Int32)), (.int ((((255 : Int32)).toUInt32 >>> ((x &&& (7 : Int32)) &&& 31).toUInt32).toInt32)), (.int (fx (((x >>> ((3 : Int32) &&& 31)))).toNatClampNeg)), (.int ((x >>> ((3 : Int32) &&& 31)))), (.ref b1)])) _
                    refine XS.iushr X19.here hx rfl (hb hby d1_127) rfl ?_
                    show Steps p.tables e below (T19.setTop (mkF m 128 #[.val (.int p1), .val (.int p2), .val (.ref a3), .val (.int p4), .val (.ref b1), .val (.int i), .val (.int j), .val (.int (p2 + (j * p4))), .val (.int x), .val (.int (x &&& (7 : Int32))), .val (.int r19)] [(.int ((((255 : Int32)).toUInt32 >>> (((x &&& (7 : Int32)) + r19) &&& 31).toUInt32).toInt32)), (.int ((((255 : Int32)).toUInt32 >>> ((x &&& (7 : Int32)) &&& 31).toUInt32).toInt32)), (.int (fx (((x >>> ((3 : Int32) &&& 31)))).toNatClampNeg)), (.int ((x >>> ((3 : Int32) &&& 31)))), (.ref b1)])) _
                    refine XS.iconst X19.here hx rfl (hb hby d1_128) ?_
                    show Steps p.tables e below (T19.setTop (mkF m 129 #[.val (.int p1), .val (.int p2), .val (.ref a3), .val (.int p4), .val (.ref b1), .val (.int i), .val (.int j), .val (.int (p2 + (j * p4))), .val (.int x), .val (.int (x &&& (7 : Int32))), .val (.int r19)] [(.int (-1 : Int32)), (.int ((((255 : Int32)).toUInt32 >>> (((x &&& (7 : Int32)) + r19) &&& 31).toUInt32).toInt32)), (.int ((((255 : Int32)).toUInt32 >>> ((x &&& (7 : Int32)) &&& 31).toUInt32).toInt32)), (.int (fx (((x >>> ((3 : Int32) &&& 31)))).toNatClampNeg)), (.int ((x >>> ((3 : Int32) &&& 31)))), (.ref b1)])) _
                    refine XS.ixor X19.here hx rfl (hb hby d1_129) rfl ?_
                    show Steps p.tables e below (T19.setTop (mkF m 130 #[.val (.int p1), .val (.int p2), .val (.ref a3), .val (.int p4), .val (.ref b1), .val (.int i), .val (.int j), .val (.int (p2 + (j * p4))), .val (.int x), .val (.int (x &&& (7 : Int32))), .val (.int r19)] [(.int (((((255 : Int32)).toUInt32 >>> (((x &&& (7 : Int32)) + r19) &&& 31).toUInt32).toInt32) ^^^ (-1 : Int32))), (.int ((((255 : Int32)).toUInt32 >>> ((x &&& (7 : Int32)) &&& 31).toUInt32).toInt32)), (.int (fx (((x >>> ((3 : Int32) &&& 31)))).toNatClampNeg)), (.int ((x >>> ((3 : Int32) &&& 31)))), (.ref b1)])) _
                    refine XS.iand X19.here hx rfl (hb hby d1_130) rfl ?_
                    show Steps p.tables e below (T19.setTop (mkF m 131 #[.val (.int p1), .val (.int p2), .val (.ref a3), .val (.int p4), .val (.ref b1), .val (.int i), .val (.int j), .val (.int (p2 + (j * p4))), .val (.int x), .val (.int (x &&& (7 : Int32))), .val (.int r19)] [(.int (((((255 : Int32)).toUInt32 >>> ((x &&& (7 : Int32)) &&& 31).toUInt32).toInt32) &&& (((((255 : Int32)).toUInt32 >>> (((x &&& (7 : Int32)) + r19) &&& 31).toUInt32).toInt32) ^^^ (-1 : Int32)))), (.int (fx (((x >>> ((3 : Int32) &&& 31)))).toNatClampNeg)), (.int ((x >>> ((3 : Int32) &&& 31)))), (.ref b1)])) _
                    refine XS.ior X19.here hx rfl (hb hby d1_131) rfl ?_
                    show Steps p.tables e below (T19.setTop (mkF m 132 #[.val (.int p1), .val (.int p2), .val (.ref a3), .val (.int p4), .val (.ref b1), .val (.int i), .val (.int j), .val (.int (p2 + (j * p4))), .val (.int x), .val (.int (x &&& (7 : Int32))), .val (.int r19)] [(.int ((fx (((x >>> ((3 : Int32) &&& 31)))).toNatClampNeg) ||| (((((255 : Int32)).toUInt32 >>> ((x &&& (7 : Int32)) &&& 31).toUInt32).toInt32) &&& (((((255 : Int32)).toUInt32 >>> (((x &&& (7 : Int32)) + r19) &&& 31).toUInt32).toInt32) ^^^ (-1 : Int32))))), (.int ((x >>> ((3 : Int32) &&& 31)))), (.ref b1)])) _
                    refine XS.i2b X19.here hx rfl (hb hby d1_132) rfl ?_
                    show Steps p.tables e below (T19.setTop (mkF m 133 #[.val (.int p1), .val (.int p2), .val (.ref a3), .val (.int p4), .val (.ref b1), .val (.int i), .val (.int j), .val (.int (p2 + (j * p4))), .val (.int x), .val (.int (x &&& (7 : Int32))), .val (.int r19)] [(.int ((((fx (((x >>> ((3 : Int32) &&& 31)))).toNatClampNeg) ||| (((((255 : Int32)).toUInt32 >>> ((x &&& (7 : Int32)) &&& 31).toUInt32).toInt32) &&& (((((255 : Int32)).toUInt32 >>> (((x &&& (7 : Int32)) + r19) &&& 31).toUInt32).toInt32) ^^^ (-1 : Int32))))).toInt8.toInt32)), (.int ((x >>> ((3 : Int32) &&& 31)))), (.ref b1)])) _
                    refine st21 _ ?_
                    show Steps p.tables e below (T21.setTop (mkF m 134 #[.val (.int p1), .val (.int p2), .val (.ref a3), .val (.int p4), .val (.ref b1), .val (.int i), .val (.int j), .val (.int (p2 + (j * p4))), .val (.int x), .val (.int (x &&& (7 : Int32))), .val (.int r19)] [])) _
                    refine XS.iload X21.here hx rfl (hb hby d1_134) rfl ?_
                    show Steps p.tables e below (T21.setTop (mkF m 136 #[.val (.int p1), .val (.int p2), .val (.ref a3), .val (.int p4), .val (.ref b1), .val (.int i), .val (.int j), .val (.int (p2 + (j * p4))), .val (.int x), .val (.int (x &&& (7 : Int32))), .val (.int r19)] [(.int x)])) _
                    refine XS.iload X21.here hx rfl (hb hby d1_136) rfl ?_
                    show Steps p.tables e below (T21.setTop (mkF m 138 #[.val (.int p1), .val (.int p2), .val (.ref a3), .val (.int p4), .val (.ref b1), .val (.int i), .val (.int j), .val (.int (p2 + (j * p4))), .val (.int x), .val (.int (x &&& (7 : Int32))), .val (.int r19)] [(.int r19), (.int x)])) _
                    refine XS.iadd X21.here hx rfl (hb hby d1_138) rfl ?_
                    show Steps p.tables e below (T21.setTop (mkF m 139 #[.val (.int p1), .val (.int p2), .val (.ref a3), .val (.int p4), .val (.ref b1), .val (.int i), .val (.int j), .val (.int (p2 + (j * p4))), .val (.int x), .val (.int (x &&& (7 : Int32))), .val (.int r19)] [(.int (x + r19))])) _
                    refine XS.istore X21.here hx rfl (hb hby d1_139) rfl (l' := #[.val (.int p1), .val (.int p2), .val (.ref a3), .val (.int p4), .val (.ref b1), .val (.int i), .val (.int j), .val (.int (p2 + (j * p4))), .val (.int (x + r19)), .val (.int (x &&& (7 : Int32))), .val (.int r19)]) rfl ?_
                    show Steps p.tables e below (T21.setTop (mkF m 141 #[.val (.int p1), .val (.int p2), .val (.ref a3), .val (.int p4), .val (.ref b1), .val (.int i), .val (.int j), .val (.int (p2 + (j * p4))), .val (.int (x + r19)), .val (.int (x &&& (7 : Int32))), .val (.int r19)] [])) _
                    refine XS.goto X21.here hx rfl (pc0 := 141) (pc' := 76) rfl (hb hby d1_141) (by decide) (by decide) ?_
                    show Steps p.tables e below (T21.setTop (mkF m 76 #[.val (.int p1), .val (.int p2), .val (.ref a3), .val (.int p4), .val (.ref b1), .val (.int i), .val (.int j), .val (.int (p2 + (j * p4))), .val (.int (x + r19)), .val (.int (x &&& (7 : Int32))), .val (.int r19)] [])) _
                    exact k
                  have f24 : AV Z h21 a3 k .boolean 6 (fun i => Value.int (g i)) := (cf17_1.other W21 ne_a3_b1)
                  exact ihX (Lf + J * P - (X + nn)) (by omega) fn21 (X + nn) (x + r19) (.val (.int (x &&& (7 : Int32)))) (.val (.int r19)) (One.val rfl) (One.val rfl) T21 h21 _ X21 e21 N21 z22 K23 V21 f24 ⟨by rw [hx3.1, hnn.1, own_add], by omega, by omega, rfl⟩ (fun q hq => by rw [own_up8 hfnX hx3.1 (by omega) hnn.1 hnn.2.2.1 q, hrow3 q hq, Bool.or_assoc, ← Bool.decide_or]; congr 1; apply decide_eq_decide.mpr; omega)
                · have hEn : ((p2 + (j * p4))) = Int32.ofNat (Lf + J * P) := by rw [hL.2.1, hj.1, hL.2.2.1, own_mul, own_add]
                  have hX : ¬ X < Lf + J * P := by rw [hEn, hx3.1, own_lt (by omega) (by omega)] at hc80_18; exact hc80_18
                  have hXe : X = Lf + J * P := by omega
                  refine GoalS.lift (B := (TL17.setTop (mkF m 14 #[.val (.int p1), .val (.int p2), .val (.ref a3), .val (.int p4), .val (.ref b1), .val (.int j), .val (.int j), .val (.int (p2 + (j * p4))), .val (.int x), sl9, sl10] []))) (fun t k => ?_) ?_
                  · show Steps p.tables e below (TL17.setTop (mkF m 80 #[.val (.int p1), .val (.int p2), .val (.ref a3), .val (.int p4), .val (.ref b1), .val (.int i), .val (.int j), .val (.int (p2 + (j * p4))), .val (.int x), sl9, sl10] [(.int (p2 + (j * p4))), (.int x)])) _
                    refine XS.icmpYes XL17.here hx rfl (pc0 := 80) (pc' := 144) rfl (hb hby d1_80) rfl ((flt hc80_18).2.1) (by decide) (by decide) ?_
                    show Steps p.tables e below (TL17.setTop (mkF m 144 #[.val (.int p1), .val (.int p2), .val (.ref a3), .val (.int p4), .val (.ref b1), .val (.int i), .val (.int j), .val (.int (p2 + (j * p4))), .val (.int x), sl9, sl10] [])) _
                    refine XS.iload XL17.here hx rfl (hb hby d1_144) rfl ?_
                    show Steps p.tables e below (TL17.setTop (mkF m 146 #[.val (.int p1), .val (.int p2), .val (.ref a3), .val (.int p4), .val (.ref b1), .val (.int i), .val (.int j), .val (.int (p2 + (j * p4))), .val (.int x), sl9, sl10] [(.int j)])) _
                    refine XS.istore XL17.here hx rfl (hb hby d1_146) rfl (l' := #[.val (.int p1), .val (.int p2), .val (.ref a3), .val (.int p4), .val (.ref b1), .val (.int j), .val (.int j), .val (.int (p2 + (j * p4))), .val (.int x), sl9, sl10]) rfl ?_
                    show Steps p.tables e below (TL17.setTop (mkF m 148 #[.val (.int p1), .val (.int p2), .val (.ref a3), .val (.int p4), .val (.ref b1), .val (.int j), .val (.int j), .val (.int (p2 + (j * p4))), .val (.int x), sl9, sl10] [])) _
                    refine XS.goto XL17.here hx rfl (pc0 := 148) (pc' := 14) rfl (hb hby d1_148) (by decide) (by decide) ?_
                    show Steps p.tables e below (TL17.setTop (mkF m 14 #[.val (.int p1), .val (.int p2), .val (.ref a3), .val (.int p4), .val (.ref b1), .val (.int j), .val (.int j), .val (.int (p2 + (j * p4))), .val (.int x), sl9, sl10] [])) _
                    exact k
                  exact ihO (6 - J) (by omega) fx J j (.val (.int j)) (.val (.int (p2 + (j * p4)))) (.val (.int x)) sl9 sl10 (One.val rfl) (One.val rfl) (One.val rfl) h_sl9 h_sl10 TL17 hL17 _ XL17 eL17 NL17 zL17 KL17 cf17_0 cf17_1 ⟨hj.1, by omega, rfl⟩ (fun q hq => by rw [hrow3 q hq, hXe]; exact own_run (by omega) (by omega) hj.2.2)
              exact LP16 (Lf + J * P - (Lf + I * P)) fr (Lf + I * P) (p2 + (i * p4)) sl9 sl10 h_sl9 h_sl10 TL5 hL5 _ XL5 eL5 NL5 zL5 KL5 cf5_0 cf5_1 ⟨by rw [hL.2.1, hi.1, hL.2.2.1, own_mul, own_add], by omega, hIJ, rfl⟩ (fun q hq => by rw [hrow q hq]; have : ¬ (Lf + I * P ≤ q ∧ q < Lf + I * P) := (by omega); simp [this])
            · have hgJ : ¬ g J = 0 := by rw [(own_nat hj.1 (by omega)).2] at hc51_15; exact hc51_15
              refine GoalS.lift (B := (TL5.setTop (mkF m 40 #[.val (.int p1), .val (.int p2), .val (.ref a3), .val (.int p4), .val (.ref b1), .val (.int i), .val (.int (j + (1 : Int32))), sl7, sl8, sl9, sl10] []))) (fun t k => ?_) ?_
              · show Steps p.tables e below (TL5.setTop (mkF m 51 #[.val (.int p1), .val (.int p2), .val (.ref a3), .val (.int p4), .val (.ref b1), .val (.int i), .val (.int j), sl7, sl8, sl9, sl10] [(.int (g (j).toNatClampNeg))])) _
                refine XS.ifNo XL5.here hx rfl (hb hby d1_51) rfl ((if0 _ _).trans (feq hc51_15).1) ?_
                show Steps p.tables e below (TL5.setTop (mkF m 54 #[.val (.int p1), .val (.int p2), .val (.ref a3), .val (.int p4), .val (.ref b1), .val (.int i), .val (.int j), sl7, sl8, sl9, sl10] [])) _
                refine XS.iinc XL5.here hx rfl (hb hby d1_54) rfl (l' := #[.val (.int p1), .val (.int p2), .val (.ref a3), .val (.int p4), .val (.ref b1), .val (.int i), .val (.int (j + (1 : Int32))), sl7, sl8, sl9, sl10]) rfl ?_
                show Steps p.tables e below (TL5.setTop (mkF m 57 #[.val (.int p1), .val (.int p2), .val (.ref a3), .val (.int p4), .val (.ref b1), .val (.int i), .val (.int (j + (1 : Int32))), sl7, sl8, sl9, sl10] [])) _
                refine XS.goto XL5.here hx rfl (pc0 := 57) (pc' := 40) rfl (hb hby d1_57) (by decide) (by decide) ?_
                show Steps p.tables e below (TL5.setTop (mkF m 40 #[.val (.int p1), .val (.int p2), .val (.ref a3), .val (.int p4), .val (.ref b1), .val (.int i), .val (.int (j + (1 : Int32))), sl7, sl8, sl9, sl10] [])) _
                exact k
              exact ihJ (6 - (J + 1)) (by omega) (J + 1) (j + (1 : Int32)) ⟨by rw [hj.1]; exact own_add J 1, ⟨by omega, by omega, rfl⟩, fun t h1 h2 => by by_cases u : t < J; exact hj.2.2 t h1 u; rw [show t = J by omega]; exact hgJ⟩
          · have hJ : ¬ J < 6 := by rw [hj.1, show (6 : Int32) = Int32.ofNat 6 from rfl, own_lt (by omega) (by omega)] at hc44_13; exact hc44_13
            have hIJ : Lf + I * P ≤ Lf + J * P := Nat.add_le_add_left (Nat.mul_le_mul_right P (by omega)) Lf
            have hJ6 : Lf + J * P ≤ Lf + 6 * P := Nat.add_le_add_left (Nat.mul_le_mul_right P (by omega)) Lf
            refine GoalS.lift (B := (TL5.setTop (mkF m 76 #[.val (.int p1), .val (.int p2), .val (.ref a3), .val (.int p4), .val (.ref b1), .val (.int i), .val (.int j), .val (.int (p2 + (j * p4))), .val (.int (p2 + (i * p4))), sl9, sl10] []))) (fun t k => ?_) ?_
            · show Steps p.tables e below (TL5.setTop (mkF m 44 #[.val (.int p1), .val (.int p2), .val (.ref a3), .val (.int p4), .val (.ref b1), .val (.int i), .val (.int j), sl7, sl8, sl9, sl10] [(.int (6 : Int32)), (.int j)])) _
              refine XS.icmpYes XL5.here hx rfl (pc0 := 44) (pc' := 60) rfl (hb hby d1_44) rfl ((flt hc44_13).2.1) (by decide) (by decide) ?_
              show Steps p.tables e below (TL5.setTop (mkF m 60 #[.val (.int p1), .val (.int p2), .val (.ref a3), .val (.int p4), .val (.ref b1), .val (.int i), .val (.int j), sl7, sl8, sl9, sl10] [])) _
              refine XS.iloadN XL5.here hx rfl (hb hby d1_60) rfl ?_
              show Steps p.tables e below (TL5.setTop (mkF m 61 #[.val (.int p1), .val (.int p2), .val (.ref a3), .val (.int p4), .val (.ref b1), .val (.int i), .val (.int j), sl7, sl8, sl9, sl10] [(.int p2)])) _
              refine XS.iload XL5.here hx rfl (hb hby d1_61) rfl ?_
              show Steps p.tables e below (TL5.setTop (mkF m 63 #[.val (.int p1), .val (.int p2), .val (.ref a3), .val (.int p4), .val (.ref b1), .val (.int i), .val (.int j), sl7, sl8, sl9, sl10] [(.int j), (.int p2)])) _
              refine XS.iloadN XL5.here hx rfl (hb hby d1_63) rfl ?_
              show Steps p.tables e below (TL5.setTop (mkF m 64 #[.val (.int p1), .val (.int p2), .val (.ref a3), .val (.int p4), .val (.ref b1), .val (.int i), .val (.int j), sl7, sl8, sl9, sl10] [(.int p4), (.int j), (.int p2)])) _
              refine XS.imul XL5.here hx rfl (hb hby d1_64) rfl ?_
              show Steps p.tables e below (TL5.setTop (mkF m 65 #[.val (.int p1), .val (.int p2), .val (.ref a3), .val (.int p4), .val (.ref b1), .val (.int i), .val (.int j), sl7, sl8, sl9, sl10] [(.int (j * p4)), (.int p2)])) _
              refine XS.iadd XL5.here hx rfl (hb hby d1_65) rfl ?_
              show Steps p.tables e below (TL5.setTop (mkF m 66 #[.val (.int p1), .val (.int p2), .val (.ref a3), .val (.int p4), .val (.ref b1), .val (.int i), .val (.int j), sl7, sl8, sl9, sl10] [(.int (p2 + (j * p4)))])) _
              refine XS.istore XL5.here hx rfl (hb hby d1_66) rfl (l' := #[.val (.int p1), .val (.int p2), .val (.ref a3), .val (.int p4), .val (.ref b1), .val (.int i), .val (.int j), .val (.int (p2 + (j * p4))), sl8, sl9, sl10]) (XS.store1 (o := sl7) rfl h_sl7 rfl) ?_
              show Steps p.tables e below (TL5.setTop (mkF m 68 #[.val (.int p1), .val (.int p2), .val (.ref a3), .val (.int p4), .val (.ref b1), .val (.int i), .val (.int j), .val (.int (p2 + (j * p4))), sl8, sl9, sl10] [])) _
              refine XS.iloadN XL5.here hx rfl (hb hby d1_68) rfl ?_
              show Steps p.tables e below (TL5.setTop (mkF m 69 #[.val (.int p1), .val (.int p2), .val (.ref a3), .val (.int p4), .val (.ref b1), .val (.int i), .val (.int j), .val (.int (p2 + (j * p4))), sl8, sl9, sl10] [(.int p2)])) _
              refine XS.iload XL5.here hx rfl (hb hby d1_69) rfl ?_
              show Steps p.tables e below (TL5.setTop (mkF m 71 #[.val (.int p1), .val (.int p2), .val (.ref a3), .val (.int p4), .val (.ref b1), .val (.int i), .val (.int j), .val (.int (p2 + (j * p4))), sl8, sl9, sl10] [(.int i), (.int p2)])) _
              refine XS.iloadN XL5.here hx rfl (hb hby d1_71) rfl ?_
              show Steps p.tables e below (TL5.setTop (mkF m 72 #[.val (.int p1), .val (.int p2), .val (.ref a3), .val (.int p4), .val (.ref b1), .val (.int i), .val (.int j), .val (.int (p2 + (j * p4))), sl8, sl9, sl10] [(.int p4), (.int i), (.int p2)])) _
              refine XS.imul XL5.here hx rfl (hb hby d1_72) rfl ?_
              show Steps p.tables e below (TL5.setTop (mkF m 73 #[.val (.int p1), .val (.int p2), .val (.ref a3), .val (.int p4), .val (.ref b1), .val (.int i), .val (.int j), .val (.int (p2 + (j * p4))), sl8, sl9, sl10] [(.int (i * p4)), (.int p2)])) _
              refine XS.iadd XL5.here hx rfl (hb hby d1_73) rfl ?_
              show Steps p.tables e below (TL5.setTop (mkF m 74 #[.val (.int p1), .val (.int p2), .val (.ref a3), .val (.int p4), .val (.ref b1), .val (.int i), .val (.int j), .val (.int (p2 + (j * p4))), sl8, sl9, sl10] [(.int (p2 + (i * p4)))])) _
              refine XS.istore XL5.here hx rfl (hb hby d1_74) rfl (l' := #[.val (.int p1), .val (.int p2), .val (.ref a3), .val (.int p4), .val (.ref b1), .val (.int i), .val (.int j), .val (.int (p2 + (j * p4))), .val (.int (p2 + (i * p4))), sl9, sl10]) (XS.store1 (o := sl8) rfl h_sl8 rfl) ?_
              show Steps p.tables e below (TL5.setTop (mkF m 76 #[.val (.int p1), .val (.int p2), .val (.ref a3), .val (.int p4), .val (.ref b1), .val (.int i), .val (.int j), .val (.int (p2 + (j * p4))), .val (.int (p2 + (i * p4))), sl9, sl10] [])) _
              exact k
            have LP25 : ∀ (kkX : Nat) (fx : Nat → Int32) (X : Nat) (x : Int32) (sl9 : Slot) (sl10 : Slot) (h_sl9 : One sl9) (h_sl10 : One sl10) (TL26 : State) (hL26 : Heap) (lc26 : List Loc) (XL26 : Stand p l e ({ frames := 1, cells := 1, slots := 10, locals := 13 } : Room) s m #[(.int p1), (.int p2), (.ref a3), (.int p4)] below meth c TL26 lc26 1 10) (eL26 : TL26.heap = hL26) (NL26 : Fr n0 lc26) (zL26 : n0 ≤ hL26.size) (KL26 : Keep h0 hL26 []) (cf26_0 : AV Z hL26 b1 k1 .byte ((Wd + 7) / 8) (fun i => Value.int (fx i))) (cf26_1 : AV Z hL26 a3 k .boolean 6 (fun i => Value.int (g i))), (x = Int32.ofNat X ∧ Lf + I * P ≤ X ∧ X ≤ Lf + J * P ∧ kkX = Lf + J * P - X) → (∀ q, q < 8 * ((Wd + 7) / 8) → own_bit fx q = (own_is g Lf P (Lf + I * P) q || decide (Lf + I * P ≤ q ∧ q < X))) → GoalS p.tables e below s ({ frames := 1, cells := 1, slots := 10, locals := 13 } : Room).cells ({ frames := 1, cells := 1, slots := 10, locals := 13 } : Room).slots (Q1 Z p1 p2 a3 p4 k g Lf P Wd h0 n0) (TL26.setTop (mkF m 76 #[.val (.int p1), .val (.int p2), .val (.ref a3), .val (.int p4), .val (.ref b1), .val (.int i), .val (.int j), .val (.int (p2 + (j * p4))), .val (.int x), sl9, sl10] [])) := by
              intro kkX
              induction kkX using Nat.strongRecOn with
              | ind kkX ihX =>
              intro fx X x sl9 sl10 h_sl9 h_sl10 TL26 hL26 lc26 XL26 eL26 NL26 zL26 KL26 cf26_0 cf26_1 hx3 hrow3
              refine GoalS.lift (B := (TL26.setTop (mkF m 80 #[.val (.int p1), .val (.int p2), .val (.ref a3), .val (.int p4), .val (.ref b1), .val (.int i), .val (.int j), .val (.int (p2 + (j * p4))), .val (.int x), sl9, sl10] [(.int (p2 + (j * p4))), (.int x)]))) (fun t k => ?_) ?_
              · show Steps p.tables e below (TL26.setTop (mkF m 76 #[.val (.int p1), .val (.int p2), .val (.ref a3), .val (.int p4), .val (.ref b1), .val (.int i), .val (.int j), .val (.int (p2 + (j * p4))), .val (.int x), sl9, sl10] [])) _
                refine XS.iload XL26.here hx rfl (hb hby d1_76) rfl ?_
                show Steps p.tables e below (TL26.setTop (mkF m 78 #[.val (.int p1), .val (.int p2), .val (.ref a3), .val (.int p4), .val (.ref b1), .val (.int i), .val (.int j), .val (.int (p2 + (j * p4))), .val (.int x), sl9, sl10] [(.int x)])) _
                refine XS.iload XL26.here hx rfl (hb hby d1_78) rfl ?_
                show Steps p.tables e below (TL26.setTop (mkF m 80 #[.val (.int p1), .val (.int p2), .val (.ref a3), .val (.int p4), .val (.ref b1), .val (.int i), .val (.int j), .val (.int (p2 + (j * p4))), .val (.int x), sl9, sl10] [(.int (p2 + (j * p4))), (.int x)])) _
                exact k
              by_cases hc80_27 : x < (p2 + (j * p4))
              · have hEn : ((p2 + (j * p4))) = Int32.ofNat (Lf + J * P) := by rw [hL.2.1, hj.1, hL.2.2.1, own_mul, own_add]
                have hX : X < Lf + J * P := by rw [hEn, hx3.1, own_lt (by omega) (by omega)] at hc80_27; exact hc80_27
                obtain ⟨_, _, ⟨T28, L28, k28, n28⟩, -, X28, ⟨Lc28, hQ28, l28, y28, z28⟩, st28⟩ := Jvm.LawKit.callS XL26 hx (y := (⟨"java/lang/Math", "min", "(II)I"⟩ : MethodName)) hown (mvT hZ (hw _ (List.mem_of_getElem? (i := 7) rfl))) (mvT hZ (hw _ (List.mem_of_getElem? (i := 8) rfl))) (mvT hZ (hw _ (List.mem_of_getElem? (i := 9) rfl))) (mvT hZ (hw _ (List.mem_of_getElem? (i := 10) rfl))) (by decide) (backOf (W := 0) (rm2 l Z a0 hw [] ((8 : Int32) - (x &&& (7 : Int32))) ((p2 + (j * p4)) - x) hL26 n0 zL26) hZ (hw _ (List.mem_of_getElem? (i := 10) rfl)) (hw _ (List.mem_of_getElem? (i := 9) rfl)) (by decide) (by decide)) (g := (mkF m 100 #[.val (.int p1), .val (.int p2), .val (.ref a3), .val (.int p4), .val (.ref b1), .val (.int i), .val (.int j), .val (.int (p2 + (j * p4))), .val (.int x), .val (.int (x &&& (7 : Int32))), sl10] [(.int ((p2 + (j * p4)) - x)), (.int ((8 : Int32) - (x &&& (7 : Int32))))])) rfl (by rw [hml]; rfl) (argsL := [(.int ((8 : Int32) - (x &&& (7 : Int32)))), (.int ((p2 + (j * p4)) - x))]) (rest := []) (lenOf pd_0 rfl) rfl (by show 2 * 0 + _ ≤ _; exact Nat.le_of_eq rfl) (hb hby d1_100) (fun _ _ => ⟨rfl, eL26, (by decide : 1 + 0 ≤ _), (by decide : 10 + 0 ≤ _)⟩)
                dsimp only [Pt.U, Pt.locs, Pt.cells, Pt.slots] at X28 l28 y28 z28 st28 hQ28
                subst y28 z28
                obtain ⟨r28, rfl, hr28, N28q, eq28⟩ := hQ28
                have N28 : Fr n0 L28 := by rw [l28]; exact Fr.app NL26 N28q
                obtain ⟨nn, hnn⟩ := own_min (r := r28) (X := X) (E := Lf + J * P) (n := 0) hX (by omega) (by rw [hr28, hEn, hx3.1, own_and7 (by omega)])
                obtain ⟨cl29, Ar29, kc29, sz29, -, hv29⟩ := id cf26_0
                have hin29 : ¬ (((x >>> ((3 : Int32) &&& 31))) < 0 ∨ cl29.slots.size ≤ (((x >>> ((3 : Int32) &&& 31)))).toNatClampNeg) := AV.inb sz29 ⟨(own_nat (own_ix hx3.1 (by omega)) (by omega)).1, by rw [(own_nat (own_ix hx3.1 (by omega)) (by omega)).2]; omega⟩
                have hat29 : cl29.slots[(((x >>> ((3 : Int32) &&& 31)))).toNatClampNeg]? = some (.int (fx (((x >>> ((3 : Int32) &&& 31)))).toNatClampNeg)) := (hv29 _ (AV.inx ⟨(own_nat (own_ix hx3.1 (by omega)) (by omega)).1, by rw [(own_nat (own_ix hx3.1 (by omega)) (by omega)).2]; omega⟩)).trans (congrArg some rfl)
                obtain ⟨cl30, Ar30, kc30, sz30, -, -⟩ := id cf26_0
                have hin30 : ¬ (((x >>> ((3 : Int32) &&& 31))) < 0 ∨ cl30.slots.size ≤ (((x >>> ((3 : Int32) &&& 31)))).toNatClampNeg) := AV.inb sz30 ⟨(own_nat (own_ix hx3.1 (by omega)) (by omega)).1, by rw [(own_nat (own_ix hx3.1 (by omega)) (by omega)).2]; omega⟩
                obtain ⟨T30, h30, X30, e30, W30, st30⟩ := stB X28 hx hZ eq28 Ar30 (j := ((x >>> ((3 : Int32) &&& 31)))) hin30 (g := (mkF m 133 #[.val (.int p1), .val (.int p2), .val (.ref a3), .val (.int p4), .val (.ref b1), .val (.int i), .val (.int j), .val (.int (p2 + (j * p4))), .val (.int x), .val (.int (x &&& (7 : Int32))), .val (.int r28)] [(.int ((((fx (((x >>> ((3 : Int32) &&& 31)))).toNatClampNeg) ||| (((((255 : Int32)).toUInt32 >>> ((x &&& (7 : Int32)) &&& 31).toUInt32).toInt32) &&& (((((255 : Int32)).toUInt32 >>> (((x &&& (7 : Int32)) + r28) &&& 31).toUInt32).toInt32) ^^^ (-1 : Int32))))).toInt8.toInt32)), (.int ((x >>> ((3 : Int32) &&& 31)))), (.ref b1)])) rfl rfl (hb hby d1_133)
                have z31 : n0 ≤ h30.size := Nat.le_trans zL26 (Keep.of_wr W30).1
                have K32 : Keep h0 h30 [] := KL26.wr W30 (Or.inr sz_b1)
                obtain ⟨fn30, hfn30⟩ : ∃ z, z = (updI fx (((x >>> ((3 : Int32) &&& 31)))).toNatClampNeg (((((fx (((x >>> ((3 : Int32) &&& 31)))).toNatClampNeg) ||| (((((255 : Int32)).toUInt32 >>> ((x &&& (7 : Int32)) &&& 31).toUInt32).toInt32) &&& (((((255 : Int32)).toUInt32 >>> (((x &&& (7 : Int32)) + r28) &&& 31).toUInt32).toInt32) ^^^ (-1 : Int32))))).toInt8.toInt32)).toInt8.toInt32) := ⟨_, rfl⟩
                have V30 : AV Z h30 b1 k1 .byte ((Wd + 7) / 8) (fun i => Value.int (fn30 i)) := (by rw [hfn30]; exact AV.putI cf26_0 W30 (AV.inx ⟨(own_nat (own_ix hx3.1 (by omega)) (by omega)).1, by rw [(own_nat (own_ix hx3.1 (by omega)) (by omega)).2]; omega⟩))
                have N30 := Fr.snoc X30 N28 g_b1
                have hfnX := hfn30
                refine GoalS.lift (B := (T30.setTop (mkF m 76 #[.val (.int p1), .val (.int p2), .val (.ref a3), .val (.int p4), .val (.ref b1), .val (.int i), .val (.int j), .val (.int (p2 + (j * p4))), .val (.int (x + r28)), .val (.int (x &&& (7 : Int32))), .val (.int r28)] []))) (fun t k => ?_) ?_
                · show Steps p.tables e below (TL26.setTop (mkF m 80 #[.val (.int p1), .val (.int p2), .val (.ref a3), .val (.int p4), .val (.ref b1), .val (.int i), .val (.int j), .val (.int (p2 + (j * p4))), .val (.int x), sl9, sl10] [(.int (p2 + (j * p4))), (.int x)])) _
                  refine XS.icmpNo XL26.here hx rfl (hb hby d1_80) rfl ((tlt hc80_27).2.1) ?_
                  show Steps p.tables e below (TL26.setTop (mkF m 83 #[.val (.int p1), .val (.int p2), .val (.ref a3), .val (.int p4), .val (.ref b1), .val (.int i), .val (.int j), .val (.int (p2 + (j * p4))), .val (.int x), sl9, sl10] [])) _
                  refine XS.iload XL26.here hx rfl (hb hby d1_83) rfl ?_
                  show Steps p.tables e below (TL26.setTop (mkF m 85 #[.val (.int p1), .val (.int p2), .val (.ref a3), .val (.int p4), .val (.ref b1), .val (.int i), .val (.int j), .val (.int (p2 + (j * p4))), .val (.int x), sl9, sl10] [(.int x)])) _
                  refine XS.bipush XL26.here hx rfl (hb hby d1_85) ?_
                  show Steps p.tables e below (TL26.setTop (mkF m 87 #[.val (.int p1), .val (.int p2), .val (.ref a3), .val (.int p4), .val (.ref b1), .val (.int i), .val (.int j), .val (.int (p2 + (j * p4))), .val (.int x), sl9, sl10] [(.int (7 : Int32)), (.int x)])) _
                  refine XS.iand XL26.here hx rfl (hb hby d1_87) rfl ?_
                  show Steps p.tables e below (TL26.setTop (mkF m 88 #[.val (.int p1), .val (.int p2), .val (.ref a3), .val (.int p4), .val (.ref b1), .val (.int i), .val (.int j), .val (.int (p2 + (j * p4))), .val (.int x), sl9, sl10] [(.int (x &&& (7 : Int32)))])) _
                  refine XS.istore XL26.here hx rfl (hb hby d1_88) rfl (l' := #[.val (.int p1), .val (.int p2), .val (.ref a3), .val (.int p4), .val (.ref b1), .val (.int i), .val (.int j), .val (.int (p2 + (j * p4))), .val (.int x), .val (.int (x &&& (7 : Int32))), sl10]) (XS.store1 (o := sl9) rfl h_sl9 rfl) ?_
                  show Steps p.tables e below (TL26.setTop (mkF m 90 #[.val (.int p1), .val (.int p2), .val (.ref a3), .val (.int p4), .val (.ref b1), .val (.int i), .val (.int j), .val (.int (p2 + (j * p4))), .val (.int x), .val (.int (x &&& (7 : Int32))), sl10] [])) _
                  refine XS.bipush XL26.here hx rfl (hb hby d1_90) ?_
                  show Steps p.tables e below (TL26.setTop (mkF m 92 #[.val (.int p1), .val (.int p2), .val (.ref a3), .val (.int p4), .val (.ref b1), .val (.int i), .val (.int j), .val (.int (p2 + (j * p4))), .val (.int x), .val (.int (x &&& (7 : Int32))), sl10] [(.int (8 : Int32))])) _
                  refine XS.iload XL26.here hx rfl (hb hby d1_92) rfl ?_
                  show Steps p.tables e below (TL26.setTop (mkF m 94 #[.val (.int p1), .val (.int p2), .val (.ref a3), .val (.int p4), .val (.ref b1), .val (.int i), .val (.int j), .val (.int (p2 + (j * p4))), .val (.int x), .val (.int (x &&& (7 : Int32))), sl10] [(.int (x &&& (7 : Int32))), (.int (8 : Int32))])) _
                  refine XS.isub XL26.here hx rfl (hb hby d1_94) rfl ?_
                  show Steps p.tables e below (TL26.setTop (mkF m 95 #[.val (.int p1), .val (.int p2), .val (.ref a3), .val (.int p4), .val (.ref b1), .val (.int i), .val (.int j), .val (.int (p2 + (j * p4))), .val (.int x), .val (.int (x &&& (7 : Int32))), sl10] [(.int ((8 : Int32) - (x &&& (7 : Int32))))])) _
                  refine XS.iload XL26.here hx rfl (hb hby d1_95) rfl ?_
                  show Steps p.tables e below (TL26.setTop (mkF m 97 #[.val (.int p1), .val (.int p2), .val (.ref a3), .val (.int p4), .val (.ref b1), .val (.int i), .val (.int j), .val (.int (p2 + (j * p4))), .val (.int x), .val (.int (x &&& (7 : Int32))), sl10] [(.int (p2 + (j * p4))), (.int ((8 : Int32) - (x &&& (7 : Int32))))])) _
                  refine XS.iload XL26.here hx rfl (hb hby d1_97) rfl ?_
                  show Steps p.tables e below (TL26.setTop (mkF m 99 #[.val (.int p1), .val (.int p2), .val (.ref a3), .val (.int p4), .val (.ref b1), .val (.int i), .val (.int j), .val (.int (p2 + (j * p4))), .val (.int x), .val (.int (x &&& (7 : Int32))), sl10] [(.int x), (.int (p2 + (j * p4))), (.int ((8 : Int32) - (x &&& (7 : Int32))))])) _
                  refine XS.isub XL26.here hx rfl (hb hby d1_99) rfl ?_
                  show Steps p.tables e below (TL26.setTop (mkF m 100 #[.val (.int p1), .val (.int p2), .val (.ref a3), .val (.int p4), .val (.ref b1), .val (.int i), .val (.int j), .val (.int (p2 + (j * p4))), .val (.int x), .val (.int (x &&& (7 : Int32))), sl10] [(.int ((p2 + (j * p4)) - x)), (.int ((8 : Int32) - (x &&& (7 : Int32))))])) _
                  refine st28 _ ?_
                  show Steps p.tables e below (T28.setTop (mkF m 103 #[.val (.int p1), .val (.int p2), .val (.ref a3), .val (.int p4), .val (.ref b1), .val (.int i), .val (.int j), .val (.int (p2 + (j * p4))), .val (.int x), .val (.int (x &&& (7 : Int32))), sl10] [(.int r28)])) _
                  refine XS.istore X28.here hx rfl (hb hby d1_103) rfl (l' := #[.val (.int p1), .val (.int p2), .val (.ref a3), .val (.int p4), .val (.ref b1), .val (.int i), .val (.int j), .val (.int (p2 + (j * p4))), .val (.int x), .val (.int (x &&& (7 : Int32))), .val (.int r28)]) (XS.store1 (o := sl10) rfl h_sl10 rfl) ?_
                  show Steps p.tables e below (T28.setTop (mkF m 105 #[.val (.int p1), .val (.int p2), .val (.ref a3), .val (.int p4), .val (.ref b1), .val (.int i), .val (.int j), .val (.int (p2 + (j * p4))), .val (.int x), .val (.int (x &&& (7 : Int32))), .val (.int r28)] [])) _
                  refine XS.aload X28.here hx rfl (hb hby d1_105) rfl rfl ?_
                  show Steps p.tables e below (T28.setTop (mkF m 107 #[.val (.int p1), .val (.int p2), .val (.ref a3), .val (.int p4), .val (.ref b1), .val (.int i), .val (.int j), .val (.int (p2 + (j * p4))), .val (.int x), .val (.int (x &&& (7 : Int32))), .val (.int r28)] [(.ref b1)])) _
                  refine XS.iload X28.here hx rfl (hb hby d1_107) rfl ?_
                  show Steps p.tables e below (T28.setTop (mkF m 109 #[.val (.int p1), .val (.int p2), .val (.ref a3), .val (.int p4), .val (.ref b1), .val (.int i), .val (.int j), .val (.int (p2 + (j * p4))), .val (.int x), .val (.int (x &&& (7 : Int32))), .val (.int r28)] [(.int x), (.ref b1)])) _
                  refine XS.iconst X28.here hx rfl (hb hby d1_109) ?_
                  show Steps p.tables e below (T28.setTop (mkF m 110 #[.val (.int p1), .val (.int p2), .val (.ref a3), .val (.int p4), .val (.ref b1), .val (.int i), .val (.int j), .val (.int (p2 + (j * p4))), .val (.int x), .val (.int (x &&& (7 : Int32))), .val (.int r28)] [(.int (3 : Int32)), (.int x), (.ref b1)])) _
                  refine XS.ishr X28.here hx rfl (hb hby d1_110) rfl ?_
                  show Steps p.tables e below (T28.setTop (mkF m 111 #[.val (.int p1), .val (.int p2), .val (.ref a3), .val (.int p4), .val (.ref b1), .val (.int i), .val (.int j), .val (.int (p2 + (j * p4))), .val (.int x), .val (.int (x &&& (7 : Int32))), .val (.int r28)] [(.int ((x >>> ((3 : Int32) &&& 31)))), (.ref b1)])) _
                  jvm_step X28.here [X28.here.top, hx, (hb hby d1_111), Value.category]
                  show Steps p.tables e below (T28.setTop (mkF m 112 #[.val (.int p1), .val (.int p2), .val (.ref a3), .val (.int p4), .val (.ref b1), .val (.int i), .val (.int j), .val (.int (p2 + (j * p4))), .val (.int x), .val (.int (x &&& (7 : Int32))), .val (.int r28)] [(.int ((x >>> ((3 : Int32) &&& 31)))), (.ref b1), (.int ((x >>> ((3 : Int32) &&& 31)))), (.ref b1)])) _
                  refine X28.baloadBytes hx (j := ((x >>> ((3 : Int32) &&& 31)))) (v := (.int (fx (((x >>> ((3 : Int32) &&& 31)))).toNatClampNeg))) (by rw [eq28]; exact Ar29.1) (State.isArrayOf_alike hZ.alike Ar29.2.1) Ar29.2.2 hin29 hat29 (g := (mkF m 112 #[.val (.int p1), .val (.int p2), .val (.ref a3), .val (.int p4), .val (.ref b1), .val (.int i), .val (.int j), .val (.int (p2 + (j * p4))), .val (.int x), .val (.int (x &&& (7 : Int32))), .val (.int r28)] [(.int ((x >>> ((3 : Int32) &&& 31)))), (.ref b1), (.int ((x >>> ((3 : Int32) &&& 31)))), (.ref b1)])) rfl rfl (hb hby d1_112) _ ?_
                  show Steps p.tables e below (T28.setTop (mkF m 113 #[.val (.int p1), .val (.int p2), .val (.ref a3), .val (.int p4), .val (.ref b1), .val (.int i), .val (.int j), .val (.int (p2 + (j * p4))), .val (.int x), .val (.int (x &&& (7 : Int32))), .val (.int r28)] [(.int (fx (((x >>> ((3 : Int32) &&& 31)))).toNatClampNeg)), (.int ((x >>> ((3 : Int32) &&& 31)))), (.ref b1)])) _
                  refine XS.sipush X28.here hx rfl (hb hby d1_113) ?_
                  show Steps p.tables e below (T28.setTop (mkF m 116 #[.val (.int p1), .val (.int p2), .val (.ref a3), .val (.int p4), .val (.ref b1), .val (.int i), .val (.int j), .val (.int (p2 + (j * p4))), .val (.int x), .val (.int (x &&& (7 : Int32))), .val (.int r28)] [(.int (255 : Int32)), (.int (fx (((x >>> ((3 : Int32) &&& 31)))).toNatClampNeg)), (.int ((x >>> ((3 : Int32) &&& 31)))), (.ref b1)])) _
                  refine XS.iload X28.here hx rfl (hb hby d1_116) rfl ?_
                  show Steps p.tables e below (T28.setTop (mkF m 118 #[.val (.int p1), .val (.int p2), .val (.ref a3), .val (.int p4), .val (.ref b1), .val (.int i), .val (.int j), .val (.int (p2 + (j * p4))), .val (.int x), .val (.int (x &&& (7 : Int32))), .val (.int r28)] [(.int (x &&& (7 : Int32))), (.int (255 : Int32)), (.int (fx (((x >>> ((3 : Int32) &&& 31)))).toNatClampNeg)), (.int ((x >>> ((3 : Int32) &&& 31)))), (.ref b1)])) _
                  refine XS.iushr X28.here hx rfl (hb hby d1_118) rfl ?_
                  show Steps p.tables e below (T28.setTop (mkF m 119 #[.val (.int p1), .val (.int p2), .val (.ref a3), .val (.int p4), .val (.ref b1), .val (.int i), .val (.int j), .val (.int (p2 + (j * p4))), .val (.int x), .val (.int (x &&& (7 : Int32))), .val (.int r28)] [(.int ((((255 : Int32)).toUInt32 >>> ((x &&& (7 : Int32)) &&& 31).toUInt32).toInt32)), (.int (fx (((x >>> ((3 : Int32) &&& 31)))).toNatClampNeg)), (.int ((x >>> ((3 : Int32) &&& 31)))), (.ref b1)])) _
                  refine XS.sipush X28.here hx rfl (hb hby d1_119) ?_
                  show Steps p.tables e below (T28.setTop (mkF m 122 #[.val (.int p1), .val (.int p2), .val (.ref a3), .val (.int p4), .val (.ref b1), .val (.int i), .val (.int j), .val (.int (p2 + (j * p4))), .val (.int x), .val (.int (x &&& (7 : Int32))), .val (.int r28)] [(.int (255 : Int32)), (.int ((((255 : Int32)).toUInt32 >>> ((x &&& (7 : Int32)) &&& 31).toUInt32).toInt32)), (.int (fx (((x >>> ((3 : Int32) &&& 31)))).toNatClampNeg)), (.int ((x >>> ((3 : Int32) &&& 31)))), (.ref b1)])) _
                  refine XS.iload X28.here hx rfl (hb hby d1_122) rfl ?_
                  show Steps p.tables e below (T28.setTop (mkF m 124 #[.val (.int p1), .val (.int p2), .val (.ref a3), .val (.int p4), .val (.ref b1), .val (.int i), .val (.int j), .val (.int (p2 + (j * p4))), .val (.int x), .val (.int (x &&& (7 : Int32))), .val (.int r28)] [(.int (x &&& (7 : Int32))), (.int (255 : Int32)), (.int ((((255 : Int32)).toUInt32 >>> ((x &&& (7 : Int32)) &&& 31).toUInt32).toInt32)), (.int (fx (((x >>> ((3 : Int32) &&& 31)))).toNatClampNeg)), (.int ((x >>> ((3 : Int32) &&& 31)))), (.ref b1)])) _
                  refine XS.iload X28.here hx rfl (hb hby d1_124) rfl ?_
                  show Steps p.tables e below (T28.setTop (mkF m 126 #[.val (.int p1), .val (.int p2), .val (.ref a3), .val (.int p4), .val (.ref b1), .val (.int i), .val (.int j), .val (.int (p2 + (j * p4))), .val (.int x), .val (.int (x &&& (7 : Int32))), .val (.int r28)] [(.int r28), (.int (x &&& (7 : Int32))), (.int (255 : Int32)), (.int ((((255 : Int32)).toUInt32 >>> ((x &&& (7 : Int32)) &&& 31).toUInt32).toInt32)), (.int (fx (((x >>> ((3 : Int32) &&& 31)))).toNatClampNeg)), (.int ((x >>> ((3 : Int32) &&& 31)))), (.ref b1)])) _
                  refine XS.iadd X28.here hx rfl (hb hby d1_126) rfl ?_
                  show Steps p.tables e below (T28.setTop (mkF m 127 #[.val (.int p1), .val (.int p2), .val (.ref a3), .val (.int p4), .val (.ref b1), .val (.int i), .val (.int j), .val (.int (p2 + (j * p4))), .val (.int x), .val (.int (x &&& (7 : Int32))), .val (.int r28)] [(.int ((x &&& (7 : Int32)) + r28)), (.int (255 : Int32)), (.int ((((255 : Int32)).toUInt32 >>> ((x &&& (7 : Int32)) &&& 31).toUInt32).toInt32)), (.int (fx (((x >>> ((3 : Int32) &&& 31)))).toNatClampNeg)), (.int ((x >>> ((3 : Int32) &&& 31)))), (.ref b1)])) _
                  refine XS.iushr X28.here hx rfl (hb hby d1_127) rfl ?_
                  show Steps p.tables e below (T28.setTop (mkF m 128 #[.val (.int p1), .val (.int p2), .val (.ref a3), .val (.int p4), .val (.ref b1), .val (.int i), .val (.int j), .val (.int (p2 + (j * p4))), .val (.int x), .val (.int (x &&& (7 : Int32))), .val (.int r28)] [(.int ((((255 : Int32)).toUInt32 >>> (((x &&& (7 : Int32)) + r28) &&& 31).toUInt32).toInt32)), (.int ((((255 : Int32)).toUInt32 >>> ((x &&& (7 : Int32)) &&& 31).toUInt32).toInt32)), (.int (fx (((x >>> ((3 : Int32) &&& 31)))).toNatClampNeg)), (.int ((x >>> ((3 : Int32) &&& 31)))), (.ref b1)])) _
                  refine XS.iconst X28.here hx rfl (hb hby d1_128) ?_
                  show Steps p.tables e below (T28.setTop (mkF m 129 #[.val (.int p1), .val (.int p2), .val (.ref a3), .val (.int p4), .val (.ref b1), .val (.int i), .val (.int j), .val (.int (p2 + (j * p4))), .val (.int x), .val (.int (x &&& (7 : Int32))), .val (.int r28)] [(.int (-1 : Int32)), (.int ((((255 : Int32)).toUInt32 >>> (((x &&& (7 : Int32)) + r28) &&& 31).toUInt32).toInt32)), (.int ((((255 : Int32)).toUInt32 >>> ((x &&& (7 : Int32)) &&& 31).toUInt32).toInt32)), (.int (fx (((x >>> ((3 : Int32) &&& 31)))).toNatClampNeg)), (.int ((x >>> ((3 : Int32) &&& 31)))), (.ref b1)])) _
                  refine XS.ixor X28.here hx rfl (hb hby d1_129) rfl ?_
                  show Steps p.tables e below (T28.setTop (mkF m 130 #[.val (.int p1), .val (.int p2), .val (.ref a3), .val (.int p4), .val (.ref b1), .val (.int i), .val (.int j), .val (.int (p2 + (j * p4))), .val (.int x), .val (.int (x &&& (7 : Int32))), .val (.int r28)] [(.int (((((255 : Int32)).toUInt32 >>> (((x &&& (7 : Int32)) + r28) &&& 31).toUInt32).toInt32) ^^^ (-1 : Int32))), (.int ((((255 : Int32)).toUInt32 >>> ((x &&& (7 : Int32)) &&& 31).toUInt32).toInt32)), (.int (fx (((x >>> ((3 : Int32) &&& 31)))).toNatClampNeg)), (.int ((x >>> ((3 : Int32) &&& 31)))), (.ref b1)])) _
                  refine XS.iand X28.here hx rfl (hb hby d1_130) rfl ?_
                  show Steps p.tables e below (T28.setTop (mkF m 131 #[.val (.int p1), .val (.int p2), .val (.ref a3), .val (.int p4), .val (.ref b1), .val (.int i), .val (.int j), .val (.int (p2 + (j * p4))), .val (.int x), .val (.int (x &&& (7 : Int32))), .val (.int r28)] [(.int (((((255 : Int32)).toUInt32 >>> ((x &&& (7 : Int32)) &&& 31).toUInt32).toInt32) &&& (((((255 : Int32)).toUInt32 >>> (((x &&& (7 : Int32)) + r28) &&& 31).toUInt32).toInt32) ^^^ (-1 : Int32)))), (.int (fx (((x >>> ((3 : Int32) &&& 31)))).toNatClampNeg)), (.int ((x >>> ((3 : Int32) &&& 31)))), (.ref b1)])) _
                  refine XS.ior X28.here hx rfl (hb hby d1_131) rfl ?_
                  show Steps p.tables e below (T28.setTop (mkF m 132 #[.val (.int p1), .val (.int p2), .val (.ref a3), .val (.int p4), .val (.ref b1), .val (.int i), .val (.int j), .val (.int (p2 + (j * p4))), .val (.int x), .val (.int (x &&& (7 : Int32))), .val (.int r28)] [(.int ((fx (((x >>> ((3 : Int32) &&& 31)))).toNatClampNeg) ||| (((((255 : Int32)).toUInt32 >>> ((x &&& (7 : Int32)) &&& 31).toUInt32).toInt32) &&& (((((255 : Int32)).toUInt32 >>> (((x &&& (7 : Int32)) + r28) &&& 31).toUInt32).toInt32) ^^^ (-1 : Int32))))), (.int ((x >>> ((3 : Int32) &&& 31)))), (.ref b1)])) _
                  refine XS.i2b X28.here hx rfl (hb hby d1_132) rfl ?_
                  show Steps p.tables e below (T28.setTop (mkF m 133 #[.val (.int p1), .val (.int p2), .val (.ref a3), .val (.int p4), .val (.ref b1), .val (.int i), .val (.int j), .val (.int (p2 + (j * p4))), .val (.int x), .val (.int (x &&& (7 : Int32))), .val (.int r28)] [(.int ((((fx (((x >>> ((3 : Int32) &&& 31)))).toNatClampNeg) ||| (((((255 : Int32)).toUInt32 >>> ((x &&& (7 : Int32)) &&& 31).toUInt32).toInt32) &&& (((((255 : Int32)).toUInt32 >>> (((x &&& (7 : Int32)) + r28) &&& 31).toUInt32).toInt32) ^^^ (-1 : Int32))))).toInt8.toInt32)), (.int ((x >>> ((3 : Int32) &&& 31)))), (.ref b1)])) _
                  refine st30 _ ?_
                  show Steps p.tables e below (T30.setTop (mkF m 134 #[.val (.int p1), .val (.int p2), .val (.ref a3), .val (.int p4), .val (.ref b1), .val (.int i), .val (.int j), .val (.int (p2 + (j * p4))), .val (.int x), .val (.int (x &&& (7 : Int32))), .val (.int r28)] [])) _
                  refine XS.iload X30.here hx rfl (hb hby d1_134) rfl ?_
                  show Steps p.tables e below (T30.setTop (mkF m 136 #[.val (.int p1), .val (.int p2), .val (.ref a3), .val (.int p4), .val (.ref b1), .val (.int i), .val (.int j), .val (.int (p2 + (j * p4))), .val (.int x), .val (.int (x &&& (7 : Int32))), .val (.int r28)] [(.int x)])) _
                  refine XS.iload X30.here hx rfl (hb hby d1_136) rfl ?_
                  show Steps p.tables e below (T30.setTop (mkF m 138 #[.val (.int p1), .val (.int p2), .val (.ref a3), .val (.int p4), .val (.ref b1), .val (.int i), .val (.int j), .val (.int (p2 + (j * p4))), .val (.int x), .val (.int (x &&& (7 : Int32))), .val (.int r28)] [(.int r28), (.int x)])) _
                  refine XS.iadd X30.here hx rfl (hb hby d1_138) rfl ?_
                  show Steps p.tables e below (T30.setTop (mkF m 139 #[.val (.int p1), .val (.int p2), .val (.ref a3), .val (.int p4), .val (.ref b1), .val (.int i), .val (.int j), .val (.int (p2 + (j * p4))), .val (.int x), .val (.int (x &&& (7 : Int32))), .val (.int r28)] [(.int (x + r28))])) _
                  refine XS.istore X30.here hx rfl (hb hby d1_139) rfl (l' := #[.val (.int p1), .val (.int p2), .val (.ref a3), .val (.int p4), .val (.ref b1), .val (.int i), .val (.int j), .val (.int (p2 + (j * p4))), .val (.int (x + r28)), .val (.int (x &&& (7 : Int32))), .val (.int r28)]) rfl ?_
                  show Steps p.tables e below (T30.setTop (mkF m 141 #[.val (.int p1), .val (.int p2), .val (.ref a3), .val (.int p4), .val (.ref b1), .val (.int i), .val (.int j), .val (.int (p2 + (j * p4))), .val (.int (x + r28)), .val (.int (x &&& (7 : Int32))), .val (.int r28)] [])) _
                  refine XS.goto X30.here hx rfl (pc0 := 141) (pc' := 76) rfl (hb hby d1_141) (by decide) (by decide) ?_
                  show Steps p.tables e below (T30.setTop (mkF m 76 #[.val (.int p1), .val (.int p2), .val (.ref a3), .val (.int p4), .val (.ref b1), .val (.int i), .val (.int j), .val (.int (p2 + (j * p4))), .val (.int (x + r28)), .val (.int (x &&& (7 : Int32))), .val (.int r28)] [])) _
                  exact k
                have f33 : AV Z h30 a3 k .boolean 6 (fun i => Value.int (g i)) := (cf26_1.other W30 ne_a3_b1)
                exact ihX (Lf + J * P - (X + nn)) (by omega) fn30 (X + nn) (x + r28) (.val (.int (x &&& (7 : Int32)))) (.val (.int r28)) (One.val rfl) (One.val rfl) T30 h30 _ X30 e30 N30 z31 K32 V30 f33 ⟨by rw [hx3.1, hnn.1, own_add], by omega, by omega, rfl⟩ (fun q hq => by rw [own_up8 hfnX hx3.1 (by omega) hnn.1 hnn.2.2.1 q, hrow3 q hq, Bool.or_assoc, ← Bool.decide_or]; congr 1; apply decide_eq_decide.mpr; omega)
              · have hEn : ((p2 + (j * p4))) = Int32.ofNat (Lf + J * P) := by rw [hL.2.1, hj.1, hL.2.2.1, own_mul, own_add]
                have hX : ¬ X < Lf + J * P := by rw [hEn, hx3.1, own_lt (by omega) (by omega)] at hc80_27; exact hc80_27
                have hXe : X = Lf + J * P := by omega
                refine GoalS.lift (B := (TL26.setTop (mkF m 14 #[.val (.int p1), .val (.int p2), .val (.ref a3), .val (.int p4), .val (.ref b1), .val (.int j), .val (.int j), .val (.int (p2 + (j * p4))), .val (.int x), sl9, sl10] []))) (fun t k => ?_) ?_
                · show Steps p.tables e below (TL26.setTop (mkF m 80 #[.val (.int p1), .val (.int p2), .val (.ref a3), .val (.int p4), .val (.ref b1), .val (.int i), .val (.int j), .val (.int (p2 + (j * p4))), .val (.int x), sl9, sl10] [(.int (p2 + (j * p4))), (.int x)])) _
                  refine XS.icmpYes XL26.here hx rfl (pc0 := 80) (pc' := 144) rfl (hb hby d1_80) rfl ((flt hc80_27).2.1) (by decide) (by decide) ?_
                  show Steps p.tables e below (TL26.setTop (mkF m 144 #[.val (.int p1), .val (.int p2), .val (.ref a3), .val (.int p4), .val (.ref b1), .val (.int i), .val (.int j), .val (.int (p2 + (j * p4))), .val (.int x), sl9, sl10] [])) _
                  refine XS.iload XL26.here hx rfl (hb hby d1_144) rfl ?_
                  show Steps p.tables e below (TL26.setTop (mkF m 146 #[.val (.int p1), .val (.int p2), .val (.ref a3), .val (.int p4), .val (.ref b1), .val (.int i), .val (.int j), .val (.int (p2 + (j * p4))), .val (.int x), sl9, sl10] [(.int j)])) _
                  refine XS.istore XL26.here hx rfl (hb hby d1_146) rfl (l' := #[.val (.int p1), .val (.int p2), .val (.ref a3), .val (.int p4), .val (.ref b1), .val (.int j), .val (.int j), .val (.int (p2 + (j * p4))), .val (.int x), sl9, sl10]) rfl ?_
                  show Steps p.tables e below (TL26.setTop (mkF m 148 #[.val (.int p1), .val (.int p2), .val (.ref a3), .val (.int p4), .val (.ref b1), .val (.int j), .val (.int j), .val (.int (p2 + (j * p4))), .val (.int x), sl9, sl10] [])) _
                  refine XS.goto XL26.here hx rfl (pc0 := 148) (pc' := 14) rfl (hb hby d1_148) (by decide) (by decide) ?_
                  show Steps p.tables e below (TL26.setTop (mkF m 14 #[.val (.int p1), .val (.int p2), .val (.ref a3), .val (.int p4), .val (.ref b1), .val (.int j), .val (.int j), .val (.int (p2 + (j * p4))), .val (.int x), sl9, sl10] [])) _
                  exact k
                exact ihO (6 - J) (by omega) fx J j (.val (.int j)) (.val (.int (p2 + (j * p4)))) (.val (.int x)) sl9 sl10 (One.val rfl) (One.val rfl) (One.val rfl) h_sl9 h_sl10 TL26 hL26 _ XL26 eL26 NL26 zL26 KL26 cf26_0 cf26_1 ⟨hj.1, by omega, rfl⟩ (fun q hq => by rw [hrow3 q hq, hXe]; exact own_run (by omega) (by omega) hj.2.2)
            exact LP25 (Lf + J * P - (Lf + I * P)) fr (Lf + I * P) (p2 + (i * p4)) sl9 sl10 h_sl9 h_sl10 TL5 hL5 _ XL5 eL5 NL5 zL5 KL5 cf5_0 cf5_1 ⟨by rw [hL.2.1, hi.1, hL.2.2.1, own_mul, own_add], by omega, hIJ, rfl⟩ (fun q hq => by rw [hrow q hq]; have : ¬ (Lf + I * P ≤ q ∧ q < Lf + I * P) := (by omega); simp [this])
        exact LP10 (6 - (I + 1)) (I + 1) (i + (1 : Int32)) ⟨by rw [hi.1]; exact own_add I 1, ⟨by omega, by omega, rfl⟩, fun t h1 h2 => by rw [show t = I by omega]; exact hg⟩
    · have hI : ¬ I < 6 := by rw [hi.1, show (6 : Int32) = Int32.ofNat 6 from rfl, own_lt (by omega) (by omega)] at hc18_7; exact hc18_7
      obtain ⟨fs, hr, hrun, hended, hW, hsame⟩ := XL5.leave (v := some (.ref b1)) (fun h => by rw [Bd.returns] at h; cases h)
      refine ⟨_, _, ?_, hrun, hended, _, _, rfl, ?_, ⟨_, rfl⟩, hW, hsame.mono (by decide) (by decide)⟩
      · show Steps p.tables e below (TL5.setTop (mkF m 18 #[.val (.int p1), .val (.int p2), .val (.ref a3), .val (.int p4), .val (.ref b1), .val (.int i), sl6, sl7, sl8, sl9, sl10] [(.int (6 : Int32)), (.int i)])) _
        refine XS.icmpYes XL5.here hx rfl (pc0 := 18) (pc' := 151) rfl (hb hby d1_18) rfl ((flt hc18_7).2.1) (by decide) (by decide) ?_
        show Steps p.tables e below (TL5.setTop (mkF m 151 #[.val (.int p1), .val (.int p2), .val (.ref a3), .val (.int p4), .val (.ref b1), .val (.int i), sl6, sl7, sl8, sl9, sl10] [])) _
        refine XS.aload XL5.here hx rfl (hb hby d1_151) rfl rfl ?_
        show Steps p.tables e below (TL5.setTop (mkF m 153 #[.val (.int p1), .val (.int p2), .val (.ref a3), .val (.int p4), .val (.ref b1), .val (.int i), sl6, sl7, sl8, sl9, sl10] [(.ref b1)])) _
        jvm_step XL5.here [XL5.here.top, hx, (hb hby d1_153), XL5.method', Bd.returns, Value.isRef, FieldType.isReference]
        first | (intro acts; rw [hr _ acts rfl rfl rfl]) | rw [hr _ _ rfl rfl rfl]
        exact Steps.refl _
      · show Q1 Z p1 p2 a3 p4 k g Lf P Wd h0 n0 _ TL5.heap _
        rw [eL5]
        exact ⟨b1, k1, fr, rfl, NL5, KL5, sz_b1, cf5_0, (fun q hq => by rw [hrow q hq, show I = 6 by omega])⟩
  have f34 : AV Z h1 a3 k .boolean 6 (fun i => Value.int (g i)) := (A_a3.ext E1)
  exact LP4 6 (fun _ => (0 : Int32)) 0 (0 : Int32) .unset .unset .unset .unset .unset One.u One.u One.u One.u One.u T1 h1 _ X1 e1 N0 z2 K3 V1 f34 ⟨rfl, by omega, rfl⟩ (fun q hq => by rw [own_is, decide_eq_false (fun u => by have h1 := u.1; have h2 := u.2.1; omega)]; simp [own_bit])
theorem pn_1 : plainName "com/example/poukaz/poukaz/symbols/PngRowPinLaw" = true := by first | (simp [plainName, overriddenIn]; done) | decide +kernel
theorem pd_1 : parseMethodDescriptor "(II[ZI)[B" = some ⟨[.int, .int, (.array .boolean), .int], some (.array .byte)⟩ := by decide +kernel
theorem ef_rm0 (m : MethodId) (p1 : Int32) (p2 : Int32) (p3 : Int32) (p4 : Int32) (p5 : Int32) : entryFrame m #[(.int p1), (.int p2), (.int p3), (.int p4), (.int p5)] maxLocals = mkF m 0 #[.val (.int p1), .val (.int p2), .val (.int p3), .val (.int p4), .val (.int p5), .unset, .unset, .unset, .unset, .unset, .unset, .unset, .unset, .unset, .unset] [] := by first | (simp [entryFrame, mkF, argsToLocals, Value.category, maxLocals]; done) | rfl
def Q0 (Z : State) (p1 : Int32) (p2 : Int32) (p3 : Int32) (p4 : Int32) (p5 : Int32) (h0 : Heap) (n0 : Nat) (v : Option Value) (h : Heap) (L : List Loc) : Prop := v = some (.int (1 : Int32)) ∧ Fr n0 L
set_option maxRecDepth 65536 in
set_option maxHeartbeats 40000000 in
theorem rm0 (l : Launch) (Z : State) (a0 : Array Value) (hw : ∀ d ∈ tables_1, d.before a0 Z = true) (ws : List Jvm.Cond) (p1 : Int32) (p2 : Int32) (p3 : Int32) (p4 : Int32) (p5 : Int32) (h0 : Heap) (n0 : Nat) (Z0 : n0 ≤ h0.size) :
    MetFree l x (head1 (Jvm.Cond.code x code maxLocals ret :: ws) room_1) (fun a U => a = #[(.int p1), (.int p2), (.int p3), (.int p4), (.int p5)] ∧ Z.Warmed39 U.vm ∧ U.heap = h0) (fun _ _ _ _ _ => True) (fun _ U o U' => ∃ v L, o = .returned v ∧ Q0 Z p1 p2 p3 p4 p5 h0 n0 v U'.heap L ∧ FrameEnd U o U' L 16 128) := by
  refine MetFree.of_bodySF (plainFor_of_name pn_1) hisR ?_
  intro p e s m args below meth c s₁ Bd hml0 hP hK
  obtain ⟨rfl, hZ, hh⟩ := hP
  have hx := Bd.exec
  have hby := Bd.bytes
  have hml : c.maxLocals = 15 := hml0
  have hown : s.vm.findClass "com/example/poukaz/poukaz/symbols/PngRowPinLaw" = some m.cls := findClass_of_methodNamed Bd.named
  have hnm := (name_of_methodNamed Bd.named Bd.method).1
  have X0 : Stand p l e room_1 s m #[(.int p1), (.int p2), (.int p3), (.int p4), (.int p5)] below meth c s₁ [] 0 0 := Stand.of_body Bd
  have e0 : s₁.heap = h0 := by rw [← hh, Bd.state]; rfl
  have N0 := Fr.nil n0
  show GoalS p.tables e below s 16 128 (Q0 Z p1 p2 p3 p4 p5 h0 n0) (s₁.setTop (entryFrame m #[(.int p1), (.int p2), (.int p3), (.int p4), (.int p5)] maxLocals))
  refine GoalS.lift (B := s₁.setTop (mkF m 0 #[.val (.int p1), .val (.int p2), .val (.int p3), .val (.int p4), .val (.int p5), .unset, .unset, .unset, .unset, .unset, .unset, .unset, .unset, .unset, .unset] [])) (fun t k => castTop (ef_rm0 m p1 p2 p3 p4 p5) k) ?_
  obtain ⟨T1, h1, k1, X1, e1, E1, A1, st1⟩ := newP X0 hx hZ (hw _ (List.mem_of_getElem? (i := 0) rfl)) e0 (g := (mkF m 2 #[.val (.int p1), .val (.int p2), .val (.int p3), .val (.int p4), .val (.int p5), .unset, .unset, .unset, .unset, .unset, .unset, .unset, .unset, .unset, .unset] [(.int (6 : Int32))])) rfl (hb hby at_2) rfl (by decide) (cap := 6) (by decide) (by decide) (by decide) (by decide)
  obtain ⟨b1, g1⟩ : ∃ z, z = h0.size := ⟨_, rfl⟩
  rw [← g1] at A1 st1
  have g_b1 : n0 ≤ b1 := Nat.le_trans Z0 (Nat.le_of_eq g1.symm)
  have z2 : n0 ≤ h1.size := Nat.le_trans Z0 E1.1
  have V1 : AV Z h1 b1 k1 .boolean 6 (fun i => Value.int ((fun _ => (0 : Int32)) i)) := AV.new A1 (by decide) (by decide) (by decide)
  refine GoalS.lift (B := (T1.setTop (mkF m 12 #[.val (.int p1), .val (.int p2), .val (.int p3), .val (.int p4), .val (.int p5), .val (.ref b1), .unset, .unset, .unset, .unset, .unset, .unset, .unset, .unset, .unset] [(.int (p1 &&& (1 : Int32))), (.int (0 : Int32)), (.ref b1)]))) (fun t k => ?_) ?_
  · show Steps p.tables e below (s₁.setTop (mkF m 0 #[.val (.int p1), .val (.int p2), .val (.int p3), .val (.int p4), .val (.int p5), .unset, .unset, .unset, .unset, .unset, .unset, .unset, .unset, .unset, .unset] [])) _
    refine XS.bipush X0.here hx rfl (hb hby at_0) ?_
    show Steps p.tables e below (s₁.setTop (mkF m 2 #[.val (.int p1), .val (.int p2), .val (.int p3), .val (.int p4), .val (.int p5), .unset, .unset, .unset, .unset, .unset, .unset, .unset, .unset, .unset, .unset] [(.int (6 : Int32))])) _
    refine st1 _ ?_
    show Steps p.tables e below (T1.setTop (mkF m 4 #[.val (.int p1), .val (.int p2), .val (.int p3), .val (.int p4), .val (.int p5), .unset, .unset, .unset, .unset, .unset, .unset, .unset, .unset, .unset, .unset] [(.ref b1)])) _
    refine XS.astore X1.here hx rfl (hb hby at_4) rfl rfl (l' := #[.val (.int p1), .val (.int p2), .val (.int p3), .val (.int p4), .val (.int p5), .val (.ref b1), .unset, .unset, .unset, .unset, .unset, .unset, .unset, .unset, .unset]) rfl ?_
    show Steps p.tables e below (T1.setTop (mkF m 6 #[.val (.int p1), .val (.int p2), .val (.int p3), .val (.int p4), .val (.int p5), .val (.ref b1), .unset, .unset, .unset, .unset, .unset, .unset, .unset, .unset, .unset] [])) _
    refine XS.aload X1.here hx rfl (hb hby at_6) rfl rfl ?_
    show Steps p.tables e below (T1.setTop (mkF m 8 #[.val (.int p1), .val (.int p2), .val (.int p3), .val (.int p4), .val (.int p5), .val (.ref b1), .unset, .unset, .unset, .unset, .unset, .unset, .unset, .unset, .unset] [(.ref b1)])) _
    refine XS.iconst X1.here hx rfl (hb hby at_8) ?_
    show Steps p.tables e below (T1.setTop (mkF m 9 #[.val (.int p1), .val (.int p2), .val (.int p3), .val (.int p4), .val (.int p5), .val (.ref b1), .unset, .unset, .unset, .unset, .unset, .unset, .unset, .unset, .unset] [(.int (0 : Int32)), (.ref b1)])) _
    refine XS.iloadN X1.here hx rfl (hb hby at_9) rfl ?_
    show Steps p.tables e below (T1.setTop (mkF m 10 #[.val (.int p1), .val (.int p2), .val (.int p3), .val (.int p4), .val (.int p5), .val (.ref b1), .unset, .unset, .unset, .unset, .unset, .unset, .unset, .unset, .unset] [(.int p1), (.int (0 : Int32)), (.ref b1)])) _
    refine XS.iconst X1.here hx rfl (hb hby at_10) ?_
    show Steps p.tables e below (T1.setTop (mkF m 11 #[.val (.int p1), .val (.int p2), .val (.int p3), .val (.int p4), .val (.int p5), .val (.ref b1), .unset, .unset, .unset, .unset, .unset, .unset, .unset, .unset, .unset] [(.int (1 : Int32)), (.int p1), (.int (0 : Int32)), (.ref b1)])) _
    refine XS.iand X1.here hx rfl (hb hby at_11) rfl ?_
    show Steps p.tables e below (T1.setTop (mkF m 12 #[.val (.int p1), .val (.int p2), .val (.int p3), .val (.int p4), .val (.int p5), .val (.ref b1), .unset, .unset, .unset, .unset, .unset, .unset, .unset, .unset, .unset] [(.int (p1 &&& (1 : Int32))), (.int (0 : Int32)), (.ref b1)])) _
    exact k
  suffices J12_3 : ∀ (i12_0 : Int32), i12_0 = (if (p1 &&& (1 : Int32)) = (0 : Int32) then (0 : Int32) else (1 : Int32)) → GoalS p.tables e below s 16 128 (Q0 Z p1 p2 p3 p4 p5 h0 n0) (T1.setTop (mkF m 20 #[.val (.int p1), .val (.int p2), .val (.int p3), .val (.int p4), .val (.int p5), .val (.ref b1), .unset, .unset, .unset, .unset, .unset, .unset, .unset, .unset, .unset] [(.int i12_0), (.int (0 : Int32)), (.ref b1)])) by
    by_cases hc12_4 : (p1 &&& (1 : Int32)) = (0 : Int32)
    · refine GoalS.lift (B := (T1.setTop (mkF m 20 #[.val (.int p1), .val (.int p2), .val (.int p3), .val (.int p4), .val (.int p5), .val (.ref b1), .unset, .unset, .unset, .unset, .unset, .unset, .unset, .unset, .unset] [(.int (0 : Int32)), (.int (0 : Int32)), (.ref b1)]))) (fun t k => ?_) ?_
      · show Steps p.tables e below (T1.setTop (mkF m 12 #[.val (.int p1), .val (.int p2), .val (.int p3), .val (.int p4), .val (.int p5), .val (.ref b1), .unset, .unset, .unset, .unset, .unset, .unset, .unset, .unset, .unset] [(.int (p1 &&& (1 : Int32))), (.int (0 : Int32)), (.ref b1)])) _
        refine XS.ifYes X1.here hx rfl (pc0 := 12) (pc' := 19) rfl (hb hby at_12) rfl ((if0 _ _).trans (teq hc12_4).1) (by decide) (by decide) ?_
        show Steps p.tables e below (T1.setTop (mkF m 19 #[.val (.int p1), .val (.int p2), .val (.int p3), .val (.int p4), .val (.int p5), .val (.ref b1), .unset, .unset, .unset, .unset, .unset, .unset, .unset, .unset, .unset] [(.int (0 : Int32)), (.ref b1)])) _
        refine XS.iconst X1.here hx rfl (hb hby at_19) ?_
        show Steps p.tables e below (T1.setTop (mkF m 20 #[.val (.int p1), .val (.int p2), .val (.int p3), .val (.int p4), .val (.int p5), .val (.ref b1), .unset, .unset, .unset, .unset, .unset, .unset, .unset, .unset, .unset] [(.int (0 : Int32)), (.int (0 : Int32)), (.ref b1)])) _
        exact k
      exact J12_3 _ (by simp only [if_pos hc12_4])
    · refine GoalS.lift (B := (T1.setTop (mkF m 20 #[.val (.int p1), .val (.int p2), .val (.int p3), .val (.int p4), .val (.int p5), .val (.ref b1), .unset, .unset, .unset, .unset, .unset, .unset, .unset, .unset, .unset] [(.int (1 : Int32)), (.int (0 : Int32)), (.ref b1)]))) (fun t k => ?_) ?_
      · show Steps p.tables e below (T1.setTop (mkF m 12 #[.val (.int p1), .val (.int p2), .val (.int p3), .val (.int p4), .val (.int p5), .val (.ref b1), .unset, .unset, .unset, .unset, .unset, .unset, .unset, .unset, .unset] [(.int (p1 &&& (1 : Int32))), (.int (0 : Int32)), (.ref b1)])) _
        refine XS.ifNo X1.here hx rfl (hb hby at_12) rfl ((if0 _ _).trans (feq hc12_4).1) ?_
        show Steps p.tables e below (T1.setTop (mkF m 15 #[.val (.int p1), .val (.int p2), .val (.int p3), .val (.int p4), .val (.int p5), .val (.ref b1), .unset, .unset, .unset, .unset, .unset, .unset, .unset, .unset, .unset] [(.int (0 : Int32)), (.ref b1)])) _
        refine XS.iconst X1.here hx rfl (hb hby at_15) ?_
        show Steps p.tables e below (T1.setTop (mkF m 16 #[.val (.int p1), .val (.int p2), .val (.int p3), .val (.int p4), .val (.int p5), .val (.ref b1), .unset, .unset, .unset, .unset, .unset, .unset, .unset, .unset, .unset] [(.int (1 : Int32)), (.int (0 : Int32)), (.ref b1)])) _
        refine XS.goto X1.here hx rfl (pc0 := 16) (pc' := 20) rfl (hb hby at_16) (by decide) (by decide) ?_
        show Steps p.tables e below (T1.setTop (mkF m 20 #[.val (.int p1), .val (.int p2), .val (.int p3), .val (.int p4), .val (.int p5), .val (.ref b1), .unset, .unset, .unset, .unset, .unset, .unset, .unset, .unset, .unset] [(.int (1 : Int32)), (.int (0 : Int32)), (.ref b1)])) _
        exact k
      exact J12_3 _ (by simp only [if_neg hc12_4])
  intro i12_0 h_i12_0
  obtain ⟨cl5, Ar5, kc5, sz5, -, -⟩ := id V1
  have hin5 : ¬ ((0 : Int32) < 0 ∨ cl5.slots.size ≤ ((0 : Int32)).toNatClampNeg) := AV.inb sz5 (show ¬ (0 : Int32) < 0 ∧ ((0 : Int32)).toNatClampNeg < 6 by decide)
  obtain ⟨T5, h5, X5, e5, W5, st5⟩ := stZ X1 hx hZ e1 Ar5 (j := (0 : Int32)) hin5 (g := (mkF m 20 #[.val (.int p1), .val (.int p2), .val (.int p3), .val (.int p4), .val (.int p5), .val (.ref b1), .unset, .unset, .unset, .unset, .unset, .unset, .unset, .unset, .unset] [(.int i12_0), (.int (0 : Int32)), (.ref b1)])) rfl rfl (hb hby at_20)
  have z6 : n0 ≤ h5.size := Nat.le_trans z2 (Keep.of_wr W5).1
  obtain ⟨fn5, hfn5⟩ : ∃ z, z = (updI (fun _ => (0 : Int32)) 0 (i12_0 &&& 1)) := ⟨_, rfl⟩
  have V5 : AV Z h5 b1 k1 .boolean 6 (fun i => Value.int (fn5 i)) := (by rw [hfn5]; exact AV.putI V1 W5 (AV.inx (show ¬ (0 : Int32) < 0 ∧ ((0 : Int32)).toNatClampNeg < 6 by decide)))
  have N5 := Fr.snoc X5 N0 g_b1
  refine GoalS.lift (B := (T5.setTop (mkF m 27 #[.val (.int p1), .val (.int p2), .val (.int p3), .val (.int p4), .val (.int p5), .val (.ref b1), .unset, .unset, .unset, .unset, .unset, .unset, .unset, .unset, .unset] [(.int (p1 &&& (2 : Int32))), (.int (1 : Int32)), (.ref b1)]))) (fun t k => ?_) ?_
  · show Steps p.tables e below (T1.setTop (mkF m 20 #[.val (.int p1), .val (.int p2), .val (.int p3), .val (.int p4), .val (.int p5), .val (.ref b1), .unset, .unset, .unset, .unset, .unset, .unset, .unset, .unset, .unset] [(.int i12_0), (.int (0 : Int32)), (.ref b1)])) _
    refine st5 _ ?_
    show Steps p.tables e below (T5.setTop (mkF m 21 #[.val (.int p1), .val (.int p2), .val (.int p3), .val (.int p4), .val (.int p5), .val (.ref b1), .unset, .unset, .unset, .unset, .unset, .unset, .unset, .unset, .unset] [])) _
    refine XS.aload X5.here hx rfl (hb hby at_21) rfl rfl ?_
    show Steps p.tables e below (T5.setTop (mkF m 23 #[.val (.int p1), .val (.int p2), .val (.int p3), .val (.int p4), .val (.int p5), .val (.ref b1), .unset, .unset, .unset, .unset, .unset, .unset, .unset, .unset, .unset] [(.ref b1)])) _
    refine XS.iconst X5.here hx rfl (hb hby at_23) ?_
    show Steps p.tables e below (T5.setTop (mkF m 24 #[.val (.int p1), .val (.int p2), .val (.int p3), .val (.int p4), .val (.int p5), .val (.ref b1), .unset, .unset, .unset, .unset, .unset, .unset, .unset, .unset, .unset] [(.int (1 : Int32)), (.ref b1)])) _
    refine XS.iloadN X5.here hx rfl (hb hby at_24) rfl ?_
    show Steps p.tables e below (T5.setTop (mkF m 25 #[.val (.int p1), .val (.int p2), .val (.int p3), .val (.int p4), .val (.int p5), .val (.ref b1), .unset, .unset, .unset, .unset, .unset, .unset, .unset, .unset, .unset] [(.int p1), (.int (1 : Int32)), (.ref b1)])) _
    refine XS.iconst X5.here hx rfl (hb hby at_25) ?_
    show Steps p.tables e below (T5.setTop (mkF m 26 #[.val (.int p1), .val (.int p2), .val (.int p3), .val (.int p4), .val (.int p5), .val (.ref b1), .unset, .unset, .unset, .unset, .unset, .unset, .unset, .unset, .unset] [(.int (2 : Int32)), (.int p1), (.int (1 : Int32)), (.ref b1)])) _
    refine XS.iand X5.here hx rfl (hb hby at_26) rfl ?_
    show Steps p.tables e below (T5.setTop (mkF m 27 #[.val (.int p1), .val (.int p2), .val (.int p3), .val (.int p4), .val (.int p5), .val (.ref b1), .unset, .unset, .unset, .unset, .unset, .unset, .unset, .unset, .unset] [(.int (p1 &&& (2 : Int32))), (.int (1 : Int32)), (.ref b1)])) _
    exact k
  suffices J27_7 : ∀ (i27_0 : Int32), i27_0 = (if (p1 &&& (2 : Int32)) = (0 : Int32) then (0 : Int32) else (1 : Int32)) → GoalS p.tables e below s 16 128 (Q0 Z p1 p2 p3 p4 p5 h0 n0) (T5.setTop (mkF m 35 #[.val (.int p1), .val (.int p2), .val (.int p3), .val (.int p4), .val (.int p5), .val (.ref b1), .unset, .unset, .unset, .unset, .unset, .unset, .unset, .unset, .unset] [(.int i27_0), (.int (1 : Int32)), (.ref b1)])) by
    by_cases hc27_8 : (p1 &&& (2 : Int32)) = (0 : Int32)
    · refine GoalS.lift (B := (T5.setTop (mkF m 35 #[.val (.int p1), .val (.int p2), .val (.int p3), .val (.int p4), .val (.int p5), .val (.ref b1), .unset, .unset, .unset, .unset, .unset, .unset, .unset, .unset, .unset] [(.int (0 : Int32)), (.int (1 : Int32)), (.ref b1)]))) (fun t k => ?_) ?_
      · show Steps p.tables e below (T5.setTop (mkF m 27 #[.val (.int p1), .val (.int p2), .val (.int p3), .val (.int p4), .val (.int p5), .val (.ref b1), .unset, .unset, .unset, .unset, .unset, .unset, .unset, .unset, .unset] [(.int (p1 &&& (2 : Int32))), (.int (1 : Int32)), (.ref b1)])) _
        refine XS.ifYes X5.here hx rfl (pc0 := 27) (pc' := 34) rfl (hb hby at_27) rfl ((if0 _ _).trans (teq hc27_8).1) (by decide) (by decide) ?_
        show Steps p.tables e below (T5.setTop (mkF m 34 #[.val (.int p1), .val (.int p2), .val (.int p3), .val (.int p4), .val (.int p5), .val (.ref b1), .unset, .unset, .unset, .unset, .unset, .unset, .unset, .unset, .unset] [(.int (1 : Int32)), (.ref b1)])) _
        refine XS.iconst X5.here hx rfl (hb hby at_34) ?_
        show Steps p.tables e below (T5.setTop (mkF m 35 #[.val (.int p1), .val (.int p2), .val (.int p3), .val (.int p4), .val (.int p5), .val (.ref b1), .unset, .unset, .unset, .unset, .unset, .unset, .unset, .unset, .unset] [(.int (0 : Int32)), (.int (1 : Int32)), (.ref b1)])) _
        exact k
      exact J27_7 _ (by simp only [if_pos hc27_8])
    · refine GoalS.lift (B := (T5.setTop (mkF m 35 #[.val (.int p1), .val (.int p2), .val (.int p3), .val (.int p4), .val (.int p5), .val (.ref b1), .unset, .unset, .unset, .unset, .unset, .unset, .unset, .unset, .unset] [(.int (1 : Int32)), (.int (1 : Int32)), (.ref b1)]))) (fun t k => ?_) ?_
      · show Steps p.tables e below (T5.setTop (mkF m 27 #[.val (.int p1), .val (.int p2), .val (.int p3), .val (.int p4), .val (.int p5), .val (.ref b1), .unset, .unset, .unset, .unset, .unset, .unset, .unset, .unset, .unset] [(.int (p1 &&& (2 : Int32))), (.int (1 : Int32)), (.ref b1)])) _
        refine XS.ifNo X5.here hx rfl (hb hby at_27) rfl ((if0 _ _).trans (feq hc27_8).1) ?_
        show Steps p.tables e below (T5.setTop (mkF m 30 #[.val (.int p1), .val (.int p2), .val (.int p3), .val (.int p4), .val (.int p5), .val (.ref b1), .unset, .unset, .unset, .unset, .unset, .unset, .unset, .unset, .unset] [(.int (1 : Int32)), (.ref b1)])) _
        refine XS.iconst X5.here hx rfl (hb hby at_30) ?_
        show Steps p.tables e below (T5.setTop (mkF m 31 #[.val (.int p1), .val (.int p2), .val (.int p3), .val (.int p4), .val (.int p5), .val (.ref b1), .unset, .unset, .unset, .unset, .unset, .unset, .unset, .unset, .unset] [(.int (1 : Int32)), (.int (1 : Int32)), (.ref b1)])) _
        refine XS.goto X5.here hx rfl (pc0 := 31) (pc' := 35) rfl (hb hby at_31) (by decide) (by decide) ?_
        show Steps p.tables e below (T5.setTop (mkF m 35 #[.val (.int p1), .val (.int p2), .val (.int p3), .val (.int p4), .val (.int p5), .val (.ref b1), .unset, .unset, .unset, .unset, .unset, .unset, .unset, .unset, .unset] [(.int (1 : Int32)), (.int (1 : Int32)), (.ref b1)])) _
        exact k
      exact J27_7 _ (by simp only [if_neg hc27_8])
  intro i27_0 h_i27_0
  obtain ⟨cl9, Ar9, kc9, sz9, -, -⟩ := id V5
  have hin9 : ¬ ((1 : Int32) < 0 ∨ cl9.slots.size ≤ ((1 : Int32)).toNatClampNeg) := AV.inb sz9 (show ¬ (1 : Int32) < 0 ∧ ((1 : Int32)).toNatClampNeg < 6 by decide)
  obtain ⟨T9, h9, X9, e9, W9, st9⟩ := stZ X5 hx hZ e5 Ar9 (j := (1 : Int32)) hin9 (g := (mkF m 35 #[.val (.int p1), .val (.int p2), .val (.int p3), .val (.int p4), .val (.int p5), .val (.ref b1), .unset, .unset, .unset, .unset, .unset, .unset, .unset, .unset, .unset] [(.int i27_0), (.int (1 : Int32)), (.ref b1)])) rfl rfl (hb hby at_35)
  have z10 : n0 ≤ h9.size := Nat.le_trans z6 (Keep.of_wr W9).1
  obtain ⟨fn9, hfn9⟩ : ∃ z, z = (updI fn5 1 (i27_0 &&& 1)) := ⟨_, rfl⟩
  have V9 : AV Z h9 b1 k1 .boolean 6 (fun i => Value.int (fn9 i)) := (by rw [hfn9]; exact AV.putI V5 W9 (AV.inx (show ¬ (1 : Int32) < 0 ∧ ((1 : Int32)).toNatClampNeg < 6 by decide)))
  have N9 := Fr.snoc X9 N5 g_b1
  refine GoalS.lift (B := (T9.setTop (mkF m 42 #[.val (.int p1), .val (.int p2), .val (.int p3), .val (.int p4), .val (.int p5), .val (.ref b1), .unset, .unset, .unset, .unset, .unset, .unset, .unset, .unset, .unset] [(.int (p1 &&& (4 : Int32))), (.int (2 : Int32)), (.ref b1)]))) (fun t k => ?_) ?_
  · show Steps p.tables e below (T5.setTop (mkF m 35 #[.val (.int p1), .val (.int p2), .val (.int p3), .val (.int p4), .val (.int p5), .val (.ref b1), .unset, .unset, .unset, .unset, .unset, .unset, .unset, .unset, .unset] [(.int i27_0), (.int (1 : Int32)), (.ref b1)])) _
    refine st9 _ ?_
    show Steps p.tables e below (T9.setTop (mkF m 36 #[.val (.int p1), .val (.int p2), .val (.int p3), .val (.int p4), .val (.int p5), .val (.ref b1), .unset, .unset, .unset, .unset, .unset, .unset, .unset, .unset, .unset] [])) _
    refine XS.aload X9.here hx rfl (hb hby at_36) rfl rfl ?_
    show Steps p.tables e below (T9.setTop (mkF m 38 #[.val (.int p1), .val (.int p2), .val (.int p3), .val (.int p4), .val (.int p5), .val (.ref b1), .unset, .unset, .unset, .unset, .unset, .unset, .unset, .unset, .unset] [(.ref b1)])) _
    refine XS.iconst X9.here hx rfl (hb hby at_38) ?_
    show Steps p.tables e below (T9.setTop (mkF m 39 #[.val (.int p1), .val (.int p2), .val (.int p3), .val (.int p4), .val (.int p5), .val (.ref b1), .unset, .unset, .unset, .unset, .unset, .unset, .unset, .unset, .unset] [(.int (2 : Int32)), (.ref b1)])) _
    refine XS.iloadN X9.here hx rfl (hb hby at_39) rfl ?_
    show Steps p.tables e below (T9.setTop (mkF m 40 #[.val (.int p1), .val (.int p2), .val (.int p3), .val (.int p4), .val (.int p5), .val (.ref b1), .unset, .unset, .unset, .unset, .unset, .unset, .unset, .unset, .unset] [(.int p1), (.int (2 : Int32)), (.ref b1)])) _
    refine XS.iconst X9.here hx rfl (hb hby at_40) ?_
    show Steps p.tables e below (T9.setTop (mkF m 41 #[.val (.int p1), .val (.int p2), .val (.int p3), .val (.int p4), .val (.int p5), .val (.ref b1), .unset, .unset, .unset, .unset, .unset, .unset, .unset, .unset, .unset] [(.int (4 : Int32)), (.int p1), (.int (2 : Int32)), (.ref b1)])) _
    refine XS.iand X9.here hx rfl (hb hby at_41) rfl ?_
    show Steps p.tables e below (T9.setTop (mkF m 42 #[.val (.int p1), .val (.int p2), .val (.int p3), .val (.int p4), .val (.int p5), .val (.ref b1), .unset, .unset, .unset, .unset, .unset, .unset, .unset, .unset, .unset] [(.int (p1 &&& (4 : Int32))), (.int (2 : Int32)), (.ref b1)])) _
    exact k
  suffices J42_11 : ∀ (i42_0 : Int32), i42_0 = (if (p1 &&& (4 : Int32)) = (0 : Int32) then (0 : Int32) else (1 : Int32)) → GoalS p.tables e below s 16 128 (Q0 Z p1 p2 p3 p4 p5 h0 n0) (T9.setTop (mkF m 50 #[.val (.int p1), .val (.int p2), .val (.int p3), .val (.int p4), .val (.int p5), .val (.ref b1), .unset, .unset, .unset, .unset, .unset, .unset, .unset, .unset, .unset] [(.int i42_0), (.int (2 : Int32)), (.ref b1)])) by
    by_cases hc42_12 : (p1 &&& (4 : Int32)) = (0 : Int32)
    · refine GoalS.lift (B := (T9.setTop (mkF m 50 #[.val (.int p1), .val (.int p2), .val (.int p3), .val (.int p4), .val (.int p5), .val (.ref b1), .unset, .unset, .unset, .unset, .unset, .unset, .unset, .unset, .unset] [(.int (0 : Int32)), (.int (2 : Int32)), (.ref b1)]))) (fun t k => ?_) ?_
      · show Steps p.tables e below (T9.setTop (mkF m 42 #[.val (.int p1), .val (.int p2), .val (.int p3), .val (.int p4), .val (.int p5), .val (.ref b1), .unset, .unset, .unset, .unset, .unset, .unset, .unset, .unset, .unset] [(.int (p1 &&& (4 : Int32))), (.int (2 : Int32)), (.ref b1)])) _
        refine XS.ifYes X9.here hx rfl (pc0 := 42) (pc' := 49) rfl (hb hby at_42) rfl ((if0 _ _).trans (teq hc42_12).1) (by decide) (by decide) ?_
        show Steps p.tables e below (T9.setTop (mkF m 49 #[.val (.int p1), .val (.int p2), .val (.int p3), .val (.int p4), .val (.int p5), .val (.ref b1), .unset, .unset, .unset, .unset, .unset, .unset, .unset, .unset, .unset] [(.int (2 : Int32)), (.ref b1)])) _
        refine XS.iconst X9.here hx rfl (hb hby at_49) ?_
        show Steps p.tables e below (T9.setTop (mkF m 50 #[.val (.int p1), .val (.int p2), .val (.int p3), .val (.int p4), .val (.int p5), .val (.ref b1), .unset, .unset, .unset, .unset, .unset, .unset, .unset, .unset, .unset] [(.int (0 : Int32)), (.int (2 : Int32)), (.ref b1)])) _
        exact k
      exact J42_11 _ (by simp only [if_pos hc42_12])
    · refine GoalS.lift (B := (T9.setTop (mkF m 50 #[.val (.int p1), .val (.int p2), .val (.int p3), .val (.int p4), .val (.int p5), .val (.ref b1), .unset, .unset, .unset, .unset, .unset, .unset, .unset, .unset, .unset] [(.int (1 : Int32)), (.int (2 : Int32)), (.ref b1)]))) (fun t k => ?_) ?_
      · show Steps p.tables e below (T9.setTop (mkF m 42 #[.val (.int p1), .val (.int p2), .val (.int p3), .val (.int p4), .val (.int p5), .val (.ref b1), .unset, .unset, .unset, .unset, .unset, .unset, .unset, .unset, .unset] [(.int (p1 &&& (4 : Int32))), (.int (2 : Int32)), (.ref b1)])) _
        refine XS.ifNo X9.here hx rfl (hb hby at_42) rfl ((if0 _ _).trans (feq hc42_12).1) ?_
        show Steps p.tables e below (T9.setTop (mkF m 45 #[.val (.int p1), .val (.int p2), .val (.int p3), .val (.int p4), .val (.int p5), .val (.ref b1), .unset, .unset, .unset, .unset, .unset, .unset, .unset, .unset, .unset] [(.int (2 : Int32)), (.ref b1)])) _
        refine XS.iconst X9.here hx rfl (hb hby at_45) ?_
        show Steps p.tables e below (T9.setTop (mkF m 46 #[.val (.int p1), .val (.int p2), .val (.int p3), .val (.int p4), .val (.int p5), .val (.ref b1), .unset, .unset, .unset, .unset, .unset, .unset, .unset, .unset, .unset] [(.int (1 : Int32)), (.int (2 : Int32)), (.ref b1)])) _
        refine XS.goto X9.here hx rfl (pc0 := 46) (pc' := 50) rfl (hb hby at_46) (by decide) (by decide) ?_
        show Steps p.tables e below (T9.setTop (mkF m 50 #[.val (.int p1), .val (.int p2), .val (.int p3), .val (.int p4), .val (.int p5), .val (.ref b1), .unset, .unset, .unset, .unset, .unset, .unset, .unset, .unset, .unset] [(.int (1 : Int32)), (.int (2 : Int32)), (.ref b1)])) _
        exact k
      exact J42_11 _ (by simp only [if_neg hc42_12])
  intro i42_0 h_i42_0
  obtain ⟨cl13, Ar13, kc13, sz13, -, -⟩ := id V9
  have hin13 : ¬ ((2 : Int32) < 0 ∨ cl13.slots.size ≤ ((2 : Int32)).toNatClampNeg) := AV.inb sz13 (show ¬ (2 : Int32) < 0 ∧ ((2 : Int32)).toNatClampNeg < 6 by decide)
  obtain ⟨T13, h13, X13, e13, W13, st13⟩ := stZ X9 hx hZ e9 Ar13 (j := (2 : Int32)) hin13 (g := (mkF m 50 #[.val (.int p1), .val (.int p2), .val (.int p3), .val (.int p4), .val (.int p5), .val (.ref b1), .unset, .unset, .unset, .unset, .unset, .unset, .unset, .unset, .unset] [(.int i42_0), (.int (2 : Int32)), (.ref b1)])) rfl rfl (hb hby at_50)
  have z14 : n0 ≤ h13.size := Nat.le_trans z10 (Keep.of_wr W13).1
  obtain ⟨fn13, hfn13⟩ : ∃ z, z = (updI fn9 2 (i42_0 &&& 1)) := ⟨_, rfl⟩
  have V13 : AV Z h13 b1 k1 .boolean 6 (fun i => Value.int (fn13 i)) := (by rw [hfn13]; exact AV.putI V9 W13 (AV.inx (show ¬ (2 : Int32) < 0 ∧ ((2 : Int32)).toNatClampNeg < 6 by decide)))
  have N13 := Fr.snoc X13 N9 g_b1
  refine GoalS.lift (B := (T13.setTop (mkF m 58 #[.val (.int p1), .val (.int p2), .val (.int p3), .val (.int p4), .val (.int p5), .val (.ref b1), .unset, .unset, .unset, .unset, .unset, .unset, .unset, .unset, .unset] [(.int (p1 &&& (8 : Int32))), (.int (3 : Int32)), (.ref b1)]))) (fun t k => ?_) ?_
  · show Steps p.tables e below (T9.setTop (mkF m 50 #[.val (.int p1), .val (.int p2), .val (.int p3), .val (.int p4), .val (.int p5), .val (.ref b1), .unset, .unset, .unset, .unset, .unset, .unset, .unset, .unset, .unset] [(.int i42_0), (.int (2 : Int32)), (.ref b1)])) _
    refine st13 _ ?_
    show Steps p.tables e below (T13.setTop (mkF m 51 #[.val (.int p1), .val (.int p2), .val (.int p3), .val (.int p4), .val (.int p5), .val (.ref b1), .unset, .unset, .unset, .unset, .unset, .unset, .unset, .unset, .unset] [])) _
    refine XS.aload X13.here hx rfl (hb hby at_51) rfl rfl ?_
    show Steps p.tables e below (T13.setTop (mkF m 53 #[.val (.int p1), .val (.int p2), .val (.int p3), .val (.int p4), .val (.int p5), .val (.ref b1), .unset, .unset, .unset, .unset, .unset, .unset, .unset, .unset, .unset] [(.ref b1)])) _
    refine XS.iconst X13.here hx rfl (hb hby at_53) ?_
    show Steps p.tables e below (T13.setTop (mkF m 54 #[.val (.int p1), .val (.int p2), .val (.int p3), .val (.int p4), .val (.int p5), .val (.ref b1), .unset, .unset, .unset, .unset, .unset, .unset, .unset, .unset, .unset] [(.int (3 : Int32)), (.ref b1)])) _
    refine XS.iloadN X13.here hx rfl (hb hby at_54) rfl ?_
    show Steps p.tables e below (T13.setTop (mkF m 55 #[.val (.int p1), .val (.int p2), .val (.int p3), .val (.int p4), .val (.int p5), .val (.ref b1), .unset, .unset, .unset, .unset, .unset, .unset, .unset, .unset, .unset] [(.int p1), (.int (3 : Int32)), (.ref b1)])) _
    refine XS.bipush X13.here hx rfl (hb hby at_55) ?_
    show Steps p.tables e below (T13.setTop (mkF m 57 #[.val (.int p1), .val (.int p2), .val (.int p3), .val (.int p4), .val (.int p5), .val (.ref b1), .unset, .unset, .unset, .unset, .unset, .unset, .unset, .unset, .unset] [(.int (8 : Int32)), (.int p1), (.int (3 : Int32)), (.ref b1)])) _
    refine XS.iand X13.here hx rfl (hb hby at_57) rfl ?_
    show Steps p.tables e below (T13.setTop (mkF m 58 #[.val (.int p1), .val (.int p2), .val (.int p3), .val (.int p4), .val (.int p5), .val (.ref b1), .unset, .unset, .unset, .unset, .unset, .unset, .unset, .unset, .unset] [(.int (p1 &&& (8 : Int32))), (.int (3 : Int32)), (.ref b1)])) _
    exact k
  suffices J58_15 : ∀ (i58_0 : Int32), i58_0 = (if (p1 &&& (8 : Int32)) = (0 : Int32) then (0 : Int32) else (1 : Int32)) → GoalS p.tables e below s 16 128 (Q0 Z p1 p2 p3 p4 p5 h0 n0) (T13.setTop (mkF m 66 #[.val (.int p1), .val (.int p2), .val (.int p3), .val (.int p4), .val (.int p5), .val (.ref b1), .unset, .unset, .unset, .unset, .unset, .unset, .unset, .unset, .unset] [(.int i58_0), (.int (3 : Int32)), (.ref b1)])) by
    by_cases hc58_16 : (p1 &&& (8 : Int32)) = (0 : Int32)
    · refine GoalS.lift (B := (T13.setTop (mkF m 66 #[.val (.int p1), .val (.int p2), .val (.int p3), .val (.int p4), .val (.int p5), .val (.ref b1), .unset, .unset, .unset, .unset, .unset, .unset, .unset, .unset, .unset] [(.int (0 : Int32)), (.int (3 : Int32)), (.ref b1)]))) (fun t k => ?_) ?_
      · show Steps p.tables e below (T13.setTop (mkF m 58 #[.val (.int p1), .val (.int p2), .val (.int p3), .val (.int p4), .val (.int p5), .val (.ref b1), .unset, .unset, .unset, .unset, .unset, .unset, .unset, .unset, .unset] [(.int (p1 &&& (8 : Int32))), (.int (3 : Int32)), (.ref b1)])) _
        refine XS.ifYes X13.here hx rfl (pc0 := 58) (pc' := 65) rfl (hb hby at_58) rfl ((if0 _ _).trans (teq hc58_16).1) (by decide) (by decide) ?_
        show Steps p.tables e below (T13.setTop (mkF m 65 #[.val (.int p1), .val (.int p2), .val (.int p3), .val (.int p4), .val (.int p5), .val (.ref b1), .unset, .unset, .unset, .unset, .unset, .unset, .unset, .unset, .unset] [(.int (3 : Int32)), (.ref b1)])) _
        refine XS.iconst X13.here hx rfl (hb hby at_65) ?_
        show Steps p.tables e below (T13.setTop (mkF m 66 #[.val (.int p1), .val (.int p2), .val (.int p3), .val (.int p4), .val (.int p5), .val (.ref b1), .unset, .unset, .unset, .unset, .unset, .unset, .unset, .unset, .unset] [(.int (0 : Int32)), (.int (3 : Int32)), (.ref b1)])) _
        exact k
      exact J58_15 _ (by simp only [if_pos hc58_16])
    · refine GoalS.lift (B := (T13.setTop (mkF m 66 #[.val (.int p1), .val (.int p2), .val (.int p3), .val (.int p4), .val (.int p5), .val (.ref b1), .unset, .unset, .unset, .unset, .unset, .unset, .unset, .unset, .unset] [(.int (1 : Int32)), (.int (3 : Int32)), (.ref b1)]))) (fun t k => ?_) ?_
      · show Steps p.tables e below (T13.setTop (mkF m 58 #[.val (.int p1), .val (.int p2), .val (.int p3), .val (.int p4), .val (.int p5), .val (.ref b1), .unset, .unset, .unset, .unset, .unset, .unset, .unset, .unset, .unset] [(.int (p1 &&& (8 : Int32))), (.int (3 : Int32)), (.ref b1)])) _
        refine XS.ifNo X13.here hx rfl (hb hby at_58) rfl ((if0 _ _).trans (feq hc58_16).1) ?_
        show Steps p.tables e below (T13.setTop (mkF m 61 #[.val (.int p1), .val (.int p2), .val (.int p3), .val (.int p4), .val (.int p5), .val (.ref b1), .unset, .unset, .unset, .unset, .unset, .unset, .unset, .unset, .unset] [(.int (3 : Int32)), (.ref b1)])) _
        refine XS.iconst X13.here hx rfl (hb hby at_61) ?_
        show Steps p.tables e below (T13.setTop (mkF m 62 #[.val (.int p1), .val (.int p2), .val (.int p3), .val (.int p4), .val (.int p5), .val (.ref b1), .unset, .unset, .unset, .unset, .unset, .unset, .unset, .unset, .unset] [(.int (1 : Int32)), (.int (3 : Int32)), (.ref b1)])) _
        refine XS.goto X13.here hx rfl (pc0 := 62) (pc' := 66) rfl (hb hby at_62) (by decide) (by decide) ?_
        show Steps p.tables e below (T13.setTop (mkF m 66 #[.val (.int p1), .val (.int p2), .val (.int p3), .val (.int p4), .val (.int p5), .val (.ref b1), .unset, .unset, .unset, .unset, .unset, .unset, .unset, .unset, .unset] [(.int (1 : Int32)), (.int (3 : Int32)), (.ref b1)])) _
        exact k
      exact J58_15 _ (by simp only [if_neg hc58_16])
  intro i58_0 h_i58_0
  obtain ⟨cl17, Ar17, kc17, sz17, -, -⟩ := id V13
  have hin17 : ¬ ((3 : Int32) < 0 ∨ cl17.slots.size ≤ ((3 : Int32)).toNatClampNeg) := AV.inb sz17 (show ¬ (3 : Int32) < 0 ∧ ((3 : Int32)).toNatClampNeg < 6 by decide)
  obtain ⟨T17, h17, X17, e17, W17, st17⟩ := stZ X13 hx hZ e13 Ar17 (j := (3 : Int32)) hin17 (g := (mkF m 66 #[.val (.int p1), .val (.int p2), .val (.int p3), .val (.int p4), .val (.int p5), .val (.ref b1), .unset, .unset, .unset, .unset, .unset, .unset, .unset, .unset, .unset] [(.int i58_0), (.int (3 : Int32)), (.ref b1)])) rfl rfl (hb hby at_66)
  have z18 : n0 ≤ h17.size := Nat.le_trans z14 (Keep.of_wr W17).1
  obtain ⟨fn17, hfn17⟩ : ∃ z, z = (updI fn13 3 (i58_0 &&& 1)) := ⟨_, rfl⟩
  have V17 : AV Z h17 b1 k1 .boolean 6 (fun i => Value.int (fn17 i)) := (by rw [hfn17]; exact AV.putI V13 W17 (AV.inx (show ¬ (3 : Int32) < 0 ∧ ((3 : Int32)).toNatClampNeg < 6 by decide)))
  have N17 := Fr.snoc X17 N13 g_b1
  refine GoalS.lift (B := (T17.setTop (mkF m 74 #[.val (.int p1), .val (.int p2), .val (.int p3), .val (.int p4), .val (.int p5), .val (.ref b1), .unset, .unset, .unset, .unset, .unset, .unset, .unset, .unset, .unset] [(.int (p1 &&& (16 : Int32))), (.int (4 : Int32)), (.ref b1)]))) (fun t k => ?_) ?_
  · show Steps p.tables e below (T13.setTop (mkF m 66 #[.val (.int p1), .val (.int p2), .val (.int p3), .val (.int p4), .val (.int p5), .val (.ref b1), .unset, .unset, .unset, .unset, .unset, .unset, .unset, .unset, .unset] [(.int i58_0), (.int (3 : Int32)), (.ref b1)])) _
    refine st17 _ ?_
    show Steps p.tables e below (T17.setTop (mkF m 67 #[.val (.int p1), .val (.int p2), .val (.int p3), .val (.int p4), .val (.int p5), .val (.ref b1), .unset, .unset, .unset, .unset, .unset, .unset, .unset, .unset, .unset] [])) _
    refine XS.aload X17.here hx rfl (hb hby at_67) rfl rfl ?_
    show Steps p.tables e below (T17.setTop (mkF m 69 #[.val (.int p1), .val (.int p2), .val (.int p3), .val (.int p4), .val (.int p5), .val (.ref b1), .unset, .unset, .unset, .unset, .unset, .unset, .unset, .unset, .unset] [(.ref b1)])) _
    refine XS.iconst X17.here hx rfl (hb hby at_69) ?_
    show Steps p.tables e below (T17.setTop (mkF m 70 #[.val (.int p1), .val (.int p2), .val (.int p3), .val (.int p4), .val (.int p5), .val (.ref b1), .unset, .unset, .unset, .unset, .unset, .unset, .unset, .unset, .unset] [(.int (4 : Int32)), (.ref b1)])) _
    refine XS.iloadN X17.here hx rfl (hb hby at_70) rfl ?_
    show Steps p.tables e below (T17.setTop (mkF m 71 #[.val (.int p1), .val (.int p2), .val (.int p3), .val (.int p4), .val (.int p5), .val (.ref b1), .unset, .unset, .unset, .unset, .unset, .unset, .unset, .unset, .unset] [(.int p1), (.int (4 : Int32)), (.ref b1)])) _
    refine XS.bipush X17.here hx rfl (hb hby at_71) ?_
    show Steps p.tables e below (T17.setTop (mkF m 73 #[.val (.int p1), .val (.int p2), .val (.int p3), .val (.int p4), .val (.int p5), .val (.ref b1), .unset, .unset, .unset, .unset, .unset, .unset, .unset, .unset, .unset] [(.int (16 : Int32)), (.int p1), (.int (4 : Int32)), (.ref b1)])) _
    refine XS.iand X17.here hx rfl (hb hby at_73) rfl ?_
    show Steps p.tables e below (T17.setTop (mkF m 74 #[.val (.int p1), .val (.int p2), .val (.int p3), .val (.int p4), .val (.int p5), .val (.ref b1), .unset, .unset, .unset, .unset, .unset, .unset, .unset, .unset, .unset] [(.int (p1 &&& (16 : Int32))), (.int (4 : Int32)), (.ref b1)])) _
    exact k
  suffices J74_19 : ∀ (i74_0 : Int32), i74_0 = (if (p1 &&& (16 : Int32)) = (0 : Int32) then (0 : Int32) else (1 : Int32)) → GoalS p.tables e below s 16 128 (Q0 Z p1 p2 p3 p4 p5 h0 n0) (T17.setTop (mkF m 82 #[.val (.int p1), .val (.int p2), .val (.int p3), .val (.int p4), .val (.int p5), .val (.ref b1), .unset, .unset, .unset, .unset, .unset, .unset, .unset, .unset, .unset] [(.int i74_0), (.int (4 : Int32)), (.ref b1)])) by
    by_cases hc74_20 : (p1 &&& (16 : Int32)) = (0 : Int32)
    · refine GoalS.lift (B := (T17.setTop (mkF m 82 #[.val (.int p1), .val (.int p2), .val (.int p3), .val (.int p4), .val (.int p5), .val (.ref b1), .unset, .unset, .unset, .unset, .unset, .unset, .unset, .unset, .unset] [(.int (0 : Int32)), (.int (4 : Int32)), (.ref b1)]))) (fun t k => ?_) ?_
      · show Steps p.tables e below (T17.setTop (mkF m 74 #[.val (.int p1), .val (.int p2), .val (.int p3), .val (.int p4), .val (.int p5), .val (.ref b1), .unset, .unset, .unset, .unset, .unset, .unset, .unset, .unset, .unset] [(.int (p1 &&& (16 : Int32))), (.int (4 : Int32)), (.ref b1)])) _
        refine XS.ifYes X17.here hx rfl (pc0 := 74) (pc' := 81) rfl (hb hby at_74) rfl ((if0 _ _).trans (teq hc74_20).1) (by decide) (by decide) ?_
        show Steps p.tables e below (T17.setTop (mkF m 81 #[.val (.int p1), .val (.int p2), .val (.int p3), .val (.int p4), .val (.int p5), .val (.ref b1), .unset, .unset, .unset, .unset, .unset, .unset, .unset, .unset, .unset] [(.int (4 : Int32)), (.ref b1)])) _
        refine XS.iconst X17.here hx rfl (hb hby at_81) ?_
        show Steps p.tables e below (T17.setTop (mkF m 82 #[.val (.int p1), .val (.int p2), .val (.int p3), .val (.int p4), .val (.int p5), .val (.ref b1), .unset, .unset, .unset, .unset, .unset, .unset, .unset, .unset, .unset] [(.int (0 : Int32)), (.int (4 : Int32)), (.ref b1)])) _
        exact k
      exact J74_19 _ (by simp only [if_pos hc74_20])
    · refine GoalS.lift (B := (T17.setTop (mkF m 82 #[.val (.int p1), .val (.int p2), .val (.int p3), .val (.int p4), .val (.int p5), .val (.ref b1), .unset, .unset, .unset, .unset, .unset, .unset, .unset, .unset, .unset] [(.int (1 : Int32)), (.int (4 : Int32)), (.ref b1)]))) (fun t k => ?_) ?_
      · show Steps p.tables e below (T17.setTop (mkF m 74 #[.val (.int p1), .val (.int p2), .val (.int p3), .val (.int p4), .val (.int p5), .val (.ref b1), .unset, .unset, .unset, .unset, .unset, .unset, .unset, .unset, .unset] [(.int (p1 &&& (16 : Int32))), (.int (4 : Int32)), (.ref b1)])) _
        refine XS.ifNo X17.here hx rfl (hb hby at_74) rfl ((if0 _ _).trans (feq hc74_20).1) ?_
        show Steps p.tables e below (T17.setTop (mkF m 77 #[.val (.int p1), .val (.int p2), .val (.int p3), .val (.int p4), .val (.int p5), .val (.ref b1), .unset, .unset, .unset, .unset, .unset, .unset, .unset, .unset, .unset] [(.int (4 : Int32)), (.ref b1)])) _
        refine XS.iconst X17.here hx rfl (hb hby at_77) ?_
        show Steps p.tables e below (T17.setTop (mkF m 78 #[.val (.int p1), .val (.int p2), .val (.int p3), .val (.int p4), .val (.int p5), .val (.ref b1), .unset, .unset, .unset, .unset, .unset, .unset, .unset, .unset, .unset] [(.int (1 : Int32)), (.int (4 : Int32)), (.ref b1)])) _
        refine XS.goto X17.here hx rfl (pc0 := 78) (pc' := 82) rfl (hb hby at_78) (by decide) (by decide) ?_
        show Steps p.tables e below (T17.setTop (mkF m 82 #[.val (.int p1), .val (.int p2), .val (.int p3), .val (.int p4), .val (.int p5), .val (.ref b1), .unset, .unset, .unset, .unset, .unset, .unset, .unset, .unset, .unset] [(.int (1 : Int32)), (.int (4 : Int32)), (.ref b1)])) _
        exact k
      exact J74_19 _ (by simp only [if_neg hc74_20])
  intro i74_0 h_i74_0
  obtain ⟨cl21, Ar21, kc21, sz21, -, -⟩ := id V17
  have hin21 : ¬ ((4 : Int32) < 0 ∨ cl21.slots.size ≤ ((4 : Int32)).toNatClampNeg) := AV.inb sz21 (show ¬ (4 : Int32) < 0 ∧ ((4 : Int32)).toNatClampNeg < 6 by decide)
  obtain ⟨T21, h21, X21, e21, W21, st21⟩ := stZ X17 hx hZ e17 Ar21 (j := (4 : Int32)) hin21 (g := (mkF m 82 #[.val (.int p1), .val (.int p2), .val (.int p3), .val (.int p4), .val (.int p5), .val (.ref b1), .unset, .unset, .unset, .unset, .unset, .unset, .unset, .unset, .unset] [(.int i74_0), (.int (4 : Int32)), (.ref b1)])) rfl rfl (hb hby at_82)
  have z22 : n0 ≤ h21.size := Nat.le_trans z18 (Keep.of_wr W21).1
  obtain ⟨fn21, hfn21⟩ : ∃ z, z = (updI fn17 4 (i74_0 &&& 1)) := ⟨_, rfl⟩
  have V21 : AV Z h21 b1 k1 .boolean 6 (fun i => Value.int (fn21 i)) := (by rw [hfn21]; exact AV.putI V17 W21 (AV.inx (show ¬ (4 : Int32) < 0 ∧ ((4 : Int32)).toNatClampNeg < 6 by decide)))
  have N21 := Fr.snoc X21 N17 g_b1
  refine GoalS.lift (B := (T21.setTop (mkF m 90 #[.val (.int p1), .val (.int p2), .val (.int p3), .val (.int p4), .val (.int p5), .val (.ref b1), .unset, .unset, .unset, .unset, .unset, .unset, .unset, .unset, .unset] [(.int (p1 &&& (32 : Int32))), (.int (5 : Int32)), (.ref b1)]))) (fun t k => ?_) ?_
  · show Steps p.tables e below (T17.setTop (mkF m 82 #[.val (.int p1), .val (.int p2), .val (.int p3), .val (.int p4), .val (.int p5), .val (.ref b1), .unset, .unset, .unset, .unset, .unset, .unset, .unset, .unset, .unset] [(.int i74_0), (.int (4 : Int32)), (.ref b1)])) _
    refine st21 _ ?_
    show Steps p.tables e below (T21.setTop (mkF m 83 #[.val (.int p1), .val (.int p2), .val (.int p3), .val (.int p4), .val (.int p5), .val (.ref b1), .unset, .unset, .unset, .unset, .unset, .unset, .unset, .unset, .unset] [])) _
    refine XS.aload X21.here hx rfl (hb hby at_83) rfl rfl ?_
    show Steps p.tables e below (T21.setTop (mkF m 85 #[.val (.int p1), .val (.int p2), .val (.int p3), .val (.int p4), .val (.int p5), .val (.ref b1), .unset, .unset, .unset, .unset, .unset, .unset, .unset, .unset, .unset] [(.ref b1)])) _
    refine XS.iconst X21.here hx rfl (hb hby at_85) ?_
    show Steps p.tables e below (T21.setTop (mkF m 86 #[.val (.int p1), .val (.int p2), .val (.int p3), .val (.int p4), .val (.int p5), .val (.ref b1), .unset, .unset, .unset, .unset, .unset, .unset, .unset, .unset, .unset] [(.int (5 : Int32)), (.ref b1)])) _
    refine XS.iloadN X21.here hx rfl (hb hby at_86) rfl ?_
    show Steps p.tables e below (T21.setTop (mkF m 87 #[.val (.int p1), .val (.int p2), .val (.int p3), .val (.int p4), .val (.int p5), .val (.ref b1), .unset, .unset, .unset, .unset, .unset, .unset, .unset, .unset, .unset] [(.int p1), (.int (5 : Int32)), (.ref b1)])) _
    refine XS.bipush X21.here hx rfl (hb hby at_87) ?_
    show Steps p.tables e below (T21.setTop (mkF m 89 #[.val (.int p1), .val (.int p2), .val (.int p3), .val (.int p4), .val (.int p5), .val (.ref b1), .unset, .unset, .unset, .unset, .unset, .unset, .unset, .unset, .unset] [(.int (32 : Int32)), (.int p1), (.int (5 : Int32)), (.ref b1)])) _
    refine XS.iand X21.here hx rfl (hb hby at_89) rfl ?_
    show Steps p.tables e below (T21.setTop (mkF m 90 #[.val (.int p1), .val (.int p2), .val (.int p3), .val (.int p4), .val (.int p5), .val (.ref b1), .unset, .unset, .unset, .unset, .unset, .unset, .unset, .unset, .unset] [(.int (p1 &&& (32 : Int32))), (.int (5 : Int32)), (.ref b1)])) _
    exact k
  suffices J90_23 : ∀ (i90_0 : Int32), i90_0 = (if (p1 &&& (32 : Int32)) = (0 : Int32) then (0 : Int32) else (1 : Int32)) → GoalS p.tables e below s 16 128 (Q0 Z p1 p2 p3 p4 p5 h0 n0) (T21.setTop (mkF m 98 #[.val (.int p1), .val (.int p2), .val (.int p3), .val (.int p4), .val (.int p5), .val (.ref b1), .unset, .unset, .unset, .unset, .unset, .unset, .unset, .unset, .unset] [(.int i90_0), (.int (5 : Int32)), (.ref b1)])) by
    by_cases hc90_24 : (p1 &&& (32 : Int32)) = (0 : Int32)
    · refine GoalS.lift (B := (T21.setTop (mkF m 98 #[.val (.int p1), .val (.int p2), .val (.int p3), .val (.int p4), .val (.int p5), .val (.ref b1), .unset, .unset, .unset, .unset, .unset, .unset, .unset, .unset, .unset] [(.int (0 : Int32)), (.int (5 : Int32)), (.ref b1)]))) (fun t k => ?_) ?_
      · show Steps p.tables e below (T21.setTop (mkF m 90 #[.val (.int p1), .val (.int p2), .val (.int p3), .val (.int p4), .val (.int p5), .val (.ref b1), .unset, .unset, .unset, .unset, .unset, .unset, .unset, .unset, .unset] [(.int (p1 &&& (32 : Int32))), (.int (5 : Int32)), (.ref b1)])) _
        refine XS.ifYes X21.here hx rfl (pc0 := 90) (pc' := 97) rfl (hb hby at_90) rfl ((if0 _ _).trans (teq hc90_24).1) (by decide) (by decide) ?_
        show Steps p.tables e below (T21.setTop (mkF m 97 #[.val (.int p1), .val (.int p2), .val (.int p3), .val (.int p4), .val (.int p5), .val (.ref b1), .unset, .unset, .unset, .unset, .unset, .unset, .unset, .unset, .unset] [(.int (5 : Int32)), (.ref b1)])) _
        refine XS.iconst X21.here hx rfl (hb hby at_97) ?_
        show Steps p.tables e below (T21.setTop (mkF m 98 #[.val (.int p1), .val (.int p2), .val (.int p3), .val (.int p4), .val (.int p5), .val (.ref b1), .unset, .unset, .unset, .unset, .unset, .unset, .unset, .unset, .unset] [(.int (0 : Int32)), (.int (5 : Int32)), (.ref b1)])) _
        exact k
      exact J90_23 _ (by simp only [if_pos hc90_24])
    · refine GoalS.lift (B := (T21.setTop (mkF m 98 #[.val (.int p1), .val (.int p2), .val (.int p3), .val (.int p4), .val (.int p5), .val (.ref b1), .unset, .unset, .unset, .unset, .unset, .unset, .unset, .unset, .unset] [(.int (1 : Int32)), (.int (5 : Int32)), (.ref b1)]))) (fun t k => ?_) ?_
      · show Steps p.tables e below (T21.setTop (mkF m 90 #[.val (.int p1), .val (.int p2), .val (.int p3), .val (.int p4), .val (.int p5), .val (.ref b1), .unset, .unset, .unset, .unset, .unset, .unset, .unset, .unset, .unset] [(.int (p1 &&& (32 : Int32))), (.int (5 : Int32)), (.ref b1)])) _
        refine XS.ifNo X21.here hx rfl (hb hby at_90) rfl ((if0 _ _).trans (feq hc90_24).1) ?_
        show Steps p.tables e below (T21.setTop (mkF m 93 #[.val (.int p1), .val (.int p2), .val (.int p3), .val (.int p4), .val (.int p5), .val (.ref b1), .unset, .unset, .unset, .unset, .unset, .unset, .unset, .unset, .unset] [(.int (5 : Int32)), (.ref b1)])) _
        refine XS.iconst X21.here hx rfl (hb hby at_93) ?_
        show Steps p.tables e below (T21.setTop (mkF m 94 #[.val (.int p1), .val (.int p2), .val (.int p3), .val (.int p4), .val (.int p5), .val (.ref b1), .unset, .unset, .unset, .unset, .unset, .unset, .unset, .unset, .unset] [(.int (1 : Int32)), (.int (5 : Int32)), (.ref b1)])) _
        refine XS.goto X21.here hx rfl (pc0 := 94) (pc' := 98) rfl (hb hby at_94) (by decide) (by decide) ?_
        show Steps p.tables e below (T21.setTop (mkF m 98 #[.val (.int p1), .val (.int p2), .val (.int p3), .val (.int p4), .val (.int p5), .val (.ref b1), .unset, .unset, .unset, .unset, .unset, .unset, .unset, .unset, .unset] [(.int (1 : Int32)), (.int (5 : Int32)), (.ref b1)])) _
        exact k
      exact J90_23 _ (by simp only [if_neg hc90_24])
  intro i90_0 h_i90_0
  obtain ⟨cl25, Ar25, kc25, sz25, -, -⟩ := id V21
  have hin25 : ¬ ((5 : Int32) < 0 ∨ cl25.slots.size ≤ ((5 : Int32)).toNatClampNeg) := AV.inb sz25 (show ¬ (5 : Int32) < 0 ∧ ((5 : Int32)).toNatClampNeg < 6 by decide)
  obtain ⟨T25, h25, X25, e25, W25, st25⟩ := stZ X21 hx hZ e21 Ar25 (j := (5 : Int32)) hin25 (g := (mkF m 98 #[.val (.int p1), .val (.int p2), .val (.int p3), .val (.int p4), .val (.int p5), .val (.ref b1), .unset, .unset, .unset, .unset, .unset, .unset, .unset, .unset, .unset] [(.int i90_0), (.int (5 : Int32)), (.ref b1)])) rfl rfl (hb hby at_98)
  have z26 : n0 ≤ h25.size := Nat.le_trans z22 (Keep.of_wr W25).1
  obtain ⟨fn25, hfn25⟩ : ∃ z, z = (updI fn21 5 (i90_0 &&& 1)) := ⟨_, rfl⟩
  have V25 : AV Z h25 b1 k1 .boolean 6 (fun i => Value.int (fn25 i)) := (by rw [hfn25]; exact AV.putI V21 W25 (AV.inx (show ¬ (5 : Int32) < 0 ∧ ((5 : Int32)).toNatClampNeg < 6 by decide)))
  have N25 := Fr.snoc X25 N21 g_b1
  have hG : ∀ i, fn25 i = 0 ∨ fn25 i = 1 := by
    rw [hfn25, hfn21, hfn17, hfn13, hfn9, hfn5]
    exact own_gu _ _ (own_gu _ _ (own_gu _ _ (own_gu _ _ (own_gu _ _ (own_gu _ _ (own_g0))))))
  obtain ⟨lf, hlf⟩ : ∃ z : Int32, z = (p2 &&& (15 : Int32)) := ⟨_, rfl⟩
  refine GoalS.lift (B := (T25.setTop (mkF m 103 #[.val (.int p1), .val (.int p2), .val (.int p3), .val (.int p4), .val (.int p5), .val (.ref b1), .unset, .unset, .unset, .unset, .unset, .unset, .unset, .unset, .unset] [(.int lf)]))) (fun t k => ?_) ?_
  · show Steps p.tables e below (T21.setTop (mkF m 98 #[.val (.int p1), .val (.int p2), .val (.int p3), .val (.int p4), .val (.int p5), .val (.ref b1), .unset, .unset, .unset, .unset, .unset, .unset, .unset, .unset, .unset] [(.int i90_0), (.int (5 : Int32)), (.ref b1)])) _
    refine st25 _ ?_
    show Steps p.tables e below (T25.setTop (mkF m 99 #[.val (.int p1), .val (.int p2), .val (.int p3), .val (.int p4), .val (.int p5), .val (.ref b1), .unset, .unset, .unset, .unset, .unset, .unset, .unset, .unset, .unset] [])) _
    refine XS.iloadN X25.here hx rfl (hb hby at_99) rfl ?_
    show Steps p.tables e below (T25.setTop (mkF m 100 #[.val (.int p1), .val (.int p2), .val (.int p3), .val (.int p4), .val (.int p5), .val (.ref b1), .unset, .unset, .unset, .unset, .unset, .unset, .unset, .unset, .unset] [(.int p2)])) _
    refine XS.bipush X25.here hx rfl (hb hby at_100) ?_
    show Steps p.tables e below (T25.setTop (mkF m 102 #[.val (.int p1), .val (.int p2), .val (.int p3), .val (.int p4), .val (.int p5), .val (.ref b1), .unset, .unset, .unset, .unset, .unset, .unset, .unset, .unset, .unset] [(.int (15 : Int32)), (.int p2)])) _
    refine XS.iand X25.here hx rfl (hb hby at_102) rfl ?_
    rw [hlf] at k
    exact k
  obtain ⟨pp, hpp⟩ : ∃ z : Int32, z = ((1 : Int32) + (p3 &&& (7 : Int32))) := ⟨_, rfl⟩
  refine GoalS.lift (B := (T25.setTop (mkF m 111 #[.val (.int p1), .val (.int p2), .val (.int p3), .val (.int p4), .val (.int p5), .val (.ref b1), .val (.int lf), .unset, .unset, .unset, .unset, .unset, .unset, .unset, .unset] [(.int pp)]))) (fun t k => ?_) ?_
  · show Steps p.tables e below (T25.setTop (mkF m 103 #[.val (.int p1), .val (.int p2), .val (.int p3), .val (.int p4), .val (.int p5), .val (.ref b1), .unset, .unset, .unset, .unset, .unset, .unset, .unset, .unset, .unset] [(.int lf)])) _
    refine XS.istore X25.here hx rfl (hb hby at_103) rfl (l' := #[.val (.int p1), .val (.int p2), .val (.int p3), .val (.int p4), .val (.int p5), .val (.ref b1), .val (.int lf), .unset, .unset, .unset, .unset, .unset, .unset, .unset, .unset]) rfl ?_
    show Steps p.tables e below (T25.setTop (mkF m 105 #[.val (.int p1), .val (.int p2), .val (.int p3), .val (.int p4), .val (.int p5), .val (.ref b1), .val (.int lf), .unset, .unset, .unset, .unset, .unset, .unset, .unset, .unset] [])) _
    refine XS.iconst X25.here hx rfl (hb hby at_105) ?_
    show Steps p.tables e below (T25.setTop (mkF m 106 #[.val (.int p1), .val (.int p2), .val (.int p3), .val (.int p4), .val (.int p5), .val (.ref b1), .val (.int lf), .unset, .unset, .unset, .unset, .unset, .unset, .unset, .unset] [(.int (1 : Int32))])) _
    refine XS.iloadN X25.here hx rfl (hb hby at_106) rfl ?_
    show Steps p.tables e below (T25.setTop (mkF m 107 #[.val (.int p1), .val (.int p2), .val (.int p3), .val (.int p4), .val (.int p5), .val (.ref b1), .val (.int lf), .unset, .unset, .unset, .unset, .unset, .unset, .unset, .unset] [(.int p3), (.int (1 : Int32))])) _
    refine XS.bipush X25.here hx rfl (hb hby at_107) ?_
    show Steps p.tables e below (T25.setTop (mkF m 109 #[.val (.int p1), .val (.int p2), .val (.int p3), .val (.int p4), .val (.int p5), .val (.ref b1), .val (.int lf), .unset, .unset, .unset, .unset, .unset, .unset, .unset, .unset] [(.int (7 : Int32)), (.int p3), (.int (1 : Int32))])) _
    refine XS.iand X25.here hx rfl (hb hby at_109) rfl ?_
    show Steps p.tables e below (T25.setTop (mkF m 110 #[.val (.int p1), .val (.int p2), .val (.int p3), .val (.int p4), .val (.int p5), .val (.ref b1), .val (.int lf), .unset, .unset, .unset, .unset, .unset, .unset, .unset, .unset] [(.int (p3 &&& (7 : Int32))), (.int (1 : Int32))])) _
    refine XS.iadd X25.here hx rfl (hb hby at_110) rfl ?_
    rw [hpp] at k
    exact k
  obtain ⟨en, hen⟩ : ∃ z : Int32, z = (lf + ((6 : Int32) * pp)) := ⟨_, rfl⟩
  refine GoalS.lift (B := (T25.setTop (mkF m 121 #[.val (.int p1), .val (.int p2), .val (.int p3), .val (.int p4), .val (.int p5), .val (.ref b1), .val (.int lf), .val (.int pp), .unset, .unset, .unset, .unset, .unset, .unset, .unset] [(.int en)]))) (fun t k => ?_) ?_
  · show Steps p.tables e below (T25.setTop (mkF m 111 #[.val (.int p1), .val (.int p2), .val (.int p3), .val (.int p4), .val (.int p5), .val (.ref b1), .val (.int lf), .unset, .unset, .unset, .unset, .unset, .unset, .unset, .unset] [(.int pp)])) _
    refine XS.istore X25.here hx rfl (hb hby at_111) rfl (l' := #[.val (.int p1), .val (.int p2), .val (.int p3), .val (.int p4), .val (.int p5), .val (.ref b1), .val (.int lf), .val (.int pp), .unset, .unset, .unset, .unset, .unset, .unset, .unset]) rfl ?_
    show Steps p.tables e below (T25.setTop (mkF m 113 #[.val (.int p1), .val (.int p2), .val (.int p3), .val (.int p4), .val (.int p5), .val (.ref b1), .val (.int lf), .val (.int pp), .unset, .unset, .unset, .unset, .unset, .unset, .unset] [])) _
    refine XS.iload X25.here hx rfl (hb hby at_113) rfl ?_
    show Steps p.tables e below (T25.setTop (mkF m 115 #[.val (.int p1), .val (.int p2), .val (.int p3), .val (.int p4), .val (.int p5), .val (.ref b1), .val (.int lf), .val (.int pp), .unset, .unset, .unset, .unset, .unset, .unset, .unset] [(.int lf)])) _
    refine XS.bipush X25.here hx rfl (hb hby at_115) ?_
    show Steps p.tables e below (T25.setTop (mkF m 117 #[.val (.int p1), .val (.int p2), .val (.int p3), .val (.int p4), .val (.int p5), .val (.ref b1), .val (.int lf), .val (.int pp), .unset, .unset, .unset, .unset, .unset, .unset, .unset] [(.int (6 : Int32)), (.int lf)])) _
    refine XS.iload X25.here hx rfl (hb hby at_117) rfl ?_
    show Steps p.tables e below (T25.setTop (mkF m 119 #[.val (.int p1), .val (.int p2), .val (.int p3), .val (.int p4), .val (.int p5), .val (.ref b1), .val (.int lf), .val (.int pp), .unset, .unset, .unset, .unset, .unset, .unset, .unset] [(.int pp), (.int (6 : Int32)), (.int lf)])) _
    refine XS.imul X25.here hx rfl (hb hby at_119) rfl ?_
    show Steps p.tables e below (T25.setTop (mkF m 120 #[.val (.int p1), .val (.int p2), .val (.int p3), .val (.int p4), .val (.int p5), .val (.ref b1), .val (.int lf), .val (.int pp), .unset, .unset, .unset, .unset, .unset, .unset, .unset] [(.int ((6 : Int32) * pp)), (.int lf)])) _
    refine XS.iadd X25.here hx rfl (hb hby at_120) rfl ?_
    rw [hen] at k
    exact k
  obtain ⟨wi, hwi⟩ : ∃ z : Int32, z = (en + (p4 &&& (15 : Int32))) := ⟨_, rfl⟩
  refine GoalS.lift (B := (T25.setTop (mkF m 130 #[.val (.int p1), .val (.int p2), .val (.int p3), .val (.int p4), .val (.int p5), .val (.ref b1), .val (.int lf), .val (.int pp), .val (.int en), .unset, .unset, .unset, .unset, .unset, .unset] [(.int wi)]))) (fun t k => ?_) ?_
  · show Steps p.tables e below (T25.setTop (mkF m 121 #[.val (.int p1), .val (.int p2), .val (.int p3), .val (.int p4), .val (.int p5), .val (.ref b1), .val (.int lf), .val (.int pp), .unset, .unset, .unset, .unset, .unset, .unset, .unset] [(.int en)])) _
    refine XS.istore X25.here hx rfl (hb hby at_121) rfl (l' := #[.val (.int p1), .val (.int p2), .val (.int p3), .val (.int p4), .val (.int p5), .val (.ref b1), .val (.int lf), .val (.int pp), .val (.int en), .unset, .unset, .unset, .unset, .unset, .unset]) rfl ?_
    show Steps p.tables e below (T25.setTop (mkF m 123 #[.val (.int p1), .val (.int p2), .val (.int p3), .val (.int p4), .val (.int p5), .val (.ref b1), .val (.int lf), .val (.int pp), .val (.int en), .unset, .unset, .unset, .unset, .unset, .unset] [])) _
    refine XS.iload X25.here hx rfl (hb hby at_123) rfl ?_
    show Steps p.tables e below (T25.setTop (mkF m 125 #[.val (.int p1), .val (.int p2), .val (.int p3), .val (.int p4), .val (.int p5), .val (.ref b1), .val (.int lf), .val (.int pp), .val (.int en), .unset, .unset, .unset, .unset, .unset, .unset] [(.int en)])) _
    refine XS.iloadN X25.here hx rfl (hb hby at_125) rfl ?_
    show Steps p.tables e below (T25.setTop (mkF m 126 #[.val (.int p1), .val (.int p2), .val (.int p3), .val (.int p4), .val (.int p5), .val (.ref b1), .val (.int lf), .val (.int pp), .val (.int en), .unset, .unset, .unset, .unset, .unset, .unset] [(.int p4), (.int en)])) _
    refine XS.bipush X25.here hx rfl (hb hby at_126) ?_
    show Steps p.tables e below (T25.setTop (mkF m 128 #[.val (.int p1), .val (.int p2), .val (.int p3), .val (.int p4), .val (.int p5), .val (.ref b1), .val (.int lf), .val (.int pp), .val (.int en), .unset, .unset, .unset, .unset, .unset, .unset] [(.int (15 : Int32)), (.int p4), (.int en)])) _
    refine XS.iand X25.here hx rfl (hb hby at_128) rfl ?_
    show Steps p.tables e below (T25.setTop (mkF m 129 #[.val (.int p1), .val (.int p2), .val (.int p3), .val (.int p4), .val (.int p5), .val (.ref b1), .val (.int lf), .val (.int pp), .val (.int en), .unset, .unset, .unset, .unset, .unset, .unset] [(.int (p4 &&& (15 : Int32))), (.int en)])) _
    refine XS.iadd X25.here hx rfl (hb hby at_129) rfl ?_
    rw [hwi] at k
    exact k
  obtain ⟨Lf, P, Wd, hLf, hLb⟩ := own_nums hlf hpp hen hwi
  obtain ⟨_, _, ⟨T27, L27, k27, n27⟩, -, X27, ⟨Lc27, hQ27, l27, y27, z27⟩, st27⟩ := Jvm.LawKit.callS X25 hx (y := (⟨"com/example/poukaz/poukaz/symbols/Png", "row", "(II[ZI)[B"⟩ : MethodName)) hown (mvT hZ (hw _ (List.mem_of_getElem? (i := 1) rfl))) (mvT hZ (hw _ (List.mem_of_getElem? (i := 2) rfl))) (mvT hZ (hw _ (List.mem_of_getElem? (i := 3) rfl))) (mvT hZ (hw _ (List.mem_of_getElem? (i := 4) rfl))) (by decide) (backOf (W := 0) (rm1 l Z a0 hw [] wi lf b1 pp k1 fn25 Lf P Wd h25 n0 z26 V25 ⟨hLf.1, hLf.2.1, hLf.2.2.1, hLb.1, hLb.2.1, hLb.2.2.1, hLb.2.2.2.1, hLb.2.2.2.2⟩) hZ (hw _ (List.mem_of_getElem? (i := 4) rfl)) (hw _ (List.mem_of_getElem? (i := 3) rfl)) (by decide) (by decide)) (g := (mkF m 140 #[.val (.int p1), .val (.int p2), .val (.int p3), .val (.int p4), .val (.int p5), .val (.ref b1), .val (.int lf), .val (.int pp), .val (.int en), .val (.int wi), .unset, .unset, .unset, .unset, .unset] [(.int pp), (.ref b1), (.int lf), (.int wi)])) rfl (by rw [hml]; rfl) (argsL := [(.int wi), (.int lf), (.ref b1), (.int pp)]) (rest := []) (lenOf pd_1 rfl) rfl (by show 2 * 0 + _ ≤ _; exact Nat.le_of_eq rfl) (hb hby at_140) (fun _ _ => ⟨rfl, e25, (by decide : 1 + 1 ≤ _), (by decide : 6 + 10 ≤ _)⟩)
  dsimp only [Pt.U, Pt.locs, Pt.cells, Pt.slots] at X27 l27 y27 z27 st27 hQ27
  subst y27 z27
  obtain ⟨bn_27, kn_27, fr_27, rfl, N27q, p27_0, p27_1, p27_2, p27_3⟩ := hQ27
  have N27 : Fr n0 L27 := by rw [l27]; exact Fr.app N25 N27q
  have z28 : n0 ≤ T27.heap.size := Nat.le_trans z26 p27_0.1
  have ne_b1_bn_27 : b1 ≠ bn_27 := Nat.ne_of_lt (Nat.lt_of_lt_of_le V25.lt p27_1)
  have g_bn_27 : n0 ≤ bn_27 := Nat.le_trans z26 p27_1
  obtain ⟨bv, hbv⟩ : ∃ z : Int32, z = ((wi + (7 : Int32)) / (8 : Int32)) := ⟨_, rfl⟩
  refine GoalS.lift (B := (T27.setTop (mkF m 153 #[.val (.int p1), .val (.int p2), .val (.int p3), .val (.int p4), .val (.int p5), .val (.ref b1), .val (.int lf), .val (.int pp), .val (.int en), .val (.int wi), .val (.ref bn_27), .unset, .unset, .unset, .unset] [(.int bv)]))) (fun t k => ?_) ?_
  · show Steps p.tables e below (T25.setTop (mkF m 130 #[.val (.int p1), .val (.int p2), .val (.int p3), .val (.int p4), .val (.int p5), .val (.ref b1), .val (.int lf), .val (.int pp), .val (.int en), .unset, .unset, .unset, .unset, .unset, .unset] [(.int wi)])) _
    refine XS.istore X25.here hx rfl (hb hby at_130) rfl (l' := #[.val (.int p1), .val (.int p2), .val (.int p3), .val (.int p4), .val (.int p5), .val (.ref b1), .val (.int lf), .val (.int pp), .val (.int en), .val (.int wi), .unset, .unset, .unset, .unset, .unset]) rfl ?_
    show Steps p.tables e below (T25.setTop (mkF m 132 #[.val (.int p1), .val (.int p2), .val (.int p3), .val (.int p4), .val (.int p5), .val (.ref b1), .val (.int lf), .val (.int pp), .val (.int en), .val (.int wi), .unset, .unset, .unset, .unset, .unset] [])) _
    refine XS.iload X25.here hx rfl (hb hby at_132) rfl ?_
    show Steps p.tables e below (T25.setTop (mkF m 134 #[.val (.int p1), .val (.int p2), .val (.int p3), .val (.int p4), .val (.int p5), .val (.ref b1), .val (.int lf), .val (.int pp), .val (.int en), .val (.int wi), .unset, .unset, .unset, .unset, .unset] [(.int wi)])) _
    refine XS.iload X25.here hx rfl (hb hby at_134) rfl ?_
    show Steps p.tables e below (T25.setTop (mkF m 136 #[.val (.int p1), .val (.int p2), .val (.int p3), .val (.int p4), .val (.int p5), .val (.ref b1), .val (.int lf), .val (.int pp), .val (.int en), .val (.int wi), .unset, .unset, .unset, .unset, .unset] [(.int lf), (.int wi)])) _
    refine XS.aload X25.here hx rfl (hb hby at_136) rfl rfl ?_
    show Steps p.tables e below (T25.setTop (mkF m 138 #[.val (.int p1), .val (.int p2), .val (.int p3), .val (.int p4), .val (.int p5), .val (.ref b1), .val (.int lf), .val (.int pp), .val (.int en), .val (.int wi), .unset, .unset, .unset, .unset, .unset] [(.ref b1), (.int lf), (.int wi)])) _
    refine XS.iload X25.here hx rfl (hb hby at_138) rfl ?_
    show Steps p.tables e below (T25.setTop (mkF m 140 #[.val (.int p1), .val (.int p2), .val (.int p3), .val (.int p4), .val (.int p5), .val (.ref b1), .val (.int lf), .val (.int pp), .val (.int en), .val (.int wi), .unset, .unset, .unset, .unset, .unset] [(.int pp), (.ref b1), (.int lf), (.int wi)])) _
    refine st27 _ ?_
    show Steps p.tables e below (T27.setTop (mkF m 143 #[.val (.int p1), .val (.int p2), .val (.int p3), .val (.int p4), .val (.int p5), .val (.ref b1), .val (.int lf), .val (.int pp), .val (.int en), .val (.int wi), .unset, .unset, .unset, .unset, .unset] [(.ref bn_27)])) _
    refine XS.astore X27.here hx rfl (hb hby at_143) rfl rfl (l' := #[.val (.int p1), .val (.int p2), .val (.int p3), .val (.int p4), .val (.int p5), .val (.ref b1), .val (.int lf), .val (.int pp), .val (.int en), .val (.int wi), .val (.ref bn_27), .unset, .unset, .unset, .unset]) rfl ?_
    show Steps p.tables e below (T27.setTop (mkF m 145 #[.val (.int p1), .val (.int p2), .val (.int p3), .val (.int p4), .val (.int p5), .val (.ref b1), .val (.int lf), .val (.int pp), .val (.int en), .val (.int wi), .val (.ref bn_27), .unset, .unset, .unset, .unset] [])) _
    refine XS.iload X27.here hx rfl (hb hby at_145) rfl ?_
    show Steps p.tables e below (T27.setTop (mkF m 147 #[.val (.int p1), .val (.int p2), .val (.int p3), .val (.int p4), .val (.int p5), .val (.ref b1), .val (.int lf), .val (.int pp), .val (.int en), .val (.int wi), .val (.ref bn_27), .unset, .unset, .unset, .unset] [(.int wi)])) _
    refine XS.bipush X27.here hx rfl (hb hby at_147) ?_
    show Steps p.tables e below (T27.setTop (mkF m 149 #[.val (.int p1), .val (.int p2), .val (.int p3), .val (.int p4), .val (.int p5), .val (.ref b1), .val (.int lf), .val (.int pp), .val (.int en), .val (.int wi), .val (.ref bn_27), .unset, .unset, .unset, .unset] [(.int (7 : Int32)), (.int wi)])) _
    refine XS.iadd X27.here hx rfl (hb hby at_149) rfl ?_
    show Steps p.tables e below (T27.setTop (mkF m 150 #[.val (.int p1), .val (.int p2), .val (.int p3), .val (.int p4), .val (.int p5), .val (.ref b1), .val (.int lf), .val (.int pp), .val (.int en), .val (.int wi), .val (.ref bn_27), .unset, .unset, .unset, .unset] [(.int (wi + (7 : Int32)))])) _
    refine XS.bipush X27.here hx rfl (hb hby at_150) ?_
    show Steps p.tables e below (T27.setTop (mkF m 152 #[.val (.int p1), .val (.int p2), .val (.int p3), .val (.int p4), .val (.int p5), .val (.ref b1), .val (.int lf), .val (.int pp), .val (.int en), .val (.int wi), .val (.ref bn_27), .unset, .unset, .unset, .unset] [(.int (8 : Int32)), (.int (wi + (7 : Int32)))])) _
    refine XS.idiv X27.here hx rfl (hb hby at_152) rfl (by decide) ?_
    rw [hbv] at k
    exact k
  obtain ⟨cl30, Ar30, -, sz30, -, -⟩ := id p27_2
  have le30 : cl30.slots.size.toInt32 = ((wi + (7 : Int32)) / (8 : Int32)) := by rw [sz30]; exact (by rw [own_nbl hLf.1 (by omega)])
  obtain ⟨qq, hqq⟩ : ∃ z : Int32, z = ((p5 &&& (2147483647 : Int32)) % (bv * (8 : Int32))) := ⟨_, rfl⟩
  refine GoalS.lift (B := (T27.setTop (mkF m 176 #[.val (.int p1), .val (.int p2), .val (.int p3), .val (.int p4), .val (.int p5), .val (.ref b1), .val (.int lf), .val (.int pp), .val (.int en), .val (.int wi), .val (.ref bn_27), .val (.int bv), .unset, .unset, .unset] [(.int qq)]))) (fun t k => ?_) ?_
  · show Steps p.tables e below (T27.setTop (mkF m 153 #[.val (.int p1), .val (.int p2), .val (.int p3), .val (.int p4), .val (.int p5), .val (.ref b1), .val (.int lf), .val (.int pp), .val (.int en), .val (.int wi), .val (.ref bn_27), .unset, .unset, .unset, .unset] [(.int bv)])) _
    refine XS.istore X27.here hx rfl (hb hby at_153) rfl (l' := #[.val (.int p1), .val (.int p2), .val (.int p3), .val (.int p4), .val (.int p5), .val (.ref b1), .val (.int lf), .val (.int pp), .val (.int en), .val (.int wi), .val (.ref bn_27), .val (.int bv), .unset, .unset, .unset]) rfl ?_
    show Steps p.tables e below (T27.setTop (mkF m 155 #[.val (.int p1), .val (.int p2), .val (.int p3), .val (.int p4), .val (.int p5), .val (.ref b1), .val (.int lf), .val (.int pp), .val (.int en), .val (.int wi), .val (.ref bn_27), .val (.int bv), .unset, .unset, .unset] [])) _
    refine XS.aload X27.here hx rfl (hb hby at_155) rfl rfl ?_
    show Steps p.tables e below (T27.setTop (mkF m 157 #[.val (.int p1), .val (.int p2), .val (.int p3), .val (.int p4), .val (.int p5), .val (.ref b1), .val (.int lf), .val (.int pp), .val (.int en), .val (.int wi), .val (.ref bn_27), .val (.int bv), .unset, .unset, .unset] [(.ref bn_27)])) _
    refine X27.arraylength hx Ar30.1 (State.isArrayOf_alike hZ.alike Ar30.2.1) (g := (mkF m 157 #[.val (.int p1), .val (.int p2), .val (.int p3), .val (.int p4), .val (.int p5), .val (.ref b1), .val (.int lf), .val (.int pp), .val (.int en), .val (.int wi), .val (.ref bn_27), .val (.int bv), .unset, .unset, .unset] [(.ref bn_27)])) rfl rfl (hb hby at_157) _ ?_
    rw [le30]
    show Steps p.tables e below (T27.setTop (mkF m 158 #[.val (.int p1), .val (.int p2), .val (.int p3), .val (.int p4), .val (.int p5), .val (.ref b1), .val (.int lf), .val (.int pp), .val (.int en), .val (.int wi), .val (.ref bn_27), .val (.int bv), .unset, .unset, .unset] [(.int ((wi + (7 : Int32)) / (8 : Int32)))])) _
    refine XS.iload X27.here hx rfl (hb hby at_158) rfl ?_
    show Steps p.tables e below (T27.setTop (mkF m 160 #[.val (.int p1), .val (.int p2), .val (.int p3), .val (.int p4), .val (.int p5), .val (.ref b1), .val (.int lf), .val (.int pp), .val (.int en), .val (.int wi), .val (.ref bn_27), .val (.int bv), .unset, .unset, .unset] [(.int bv), (.int ((wi + (7 : Int32)) / (8 : Int32)))])) _
    refine XS.icmpYes X27.here hx rfl (pc0 := 160) (pc' := 165) rfl (hb hby at_160) rfl ((teq (hbv.symm : ((wi + (7 : Int32)) / (8 : Int32)) = bv)).1) (by decide) (by decide) ?_
    show Steps p.tables e below (T27.setTop (mkF m 165 #[.val (.int p1), .val (.int p2), .val (.int p3), .val (.int p4), .val (.int p5), .val (.ref b1), .val (.int lf), .val (.int pp), .val (.int en), .val (.int wi), .val (.ref bn_27), .val (.int bv), .unset, .unset, .unset] [])) _
    refine XS.iload X27.here hx rfl (hb hby at_165) rfl ?_
    show Steps p.tables e below (T27.setTop (mkF m 167 #[.val (.int p1), .val (.int p2), .val (.int p3), .val (.int p4), .val (.int p5), .val (.ref b1), .val (.int lf), .val (.int pp), .val (.int en), .val (.int wi), .val (.ref bn_27), .val (.int bv), .unset, .unset, .unset] [(.int p5)])) _
    refine X27.ldcInt hx hown (mvT hZ (hw _ (List.mem_of_getElem? (i := 6) rfl))) (g := (mkF m 167 #[.val (.int p1), .val (.int p2), .val (.int p3), .val (.int p4), .val (.int p5), .val (.ref b1), .val (.int lf), .val (.int pp), .val (.int en), .val (.int wi), .val (.ref bn_27), .val (.int bv), .unset, .unset, .unset] [(.int p5)])) rfl (hb hby at_167) _ ?_
    show Steps p.tables e below (T27.setTop (mkF m 169 #[.val (.int p1), .val (.int p2), .val (.int p3), .val (.int p4), .val (.int p5), .val (.ref b1), .val (.int lf), .val (.int pp), .val (.int en), .val (.int wi), .val (.ref bn_27), .val (.int bv), .unset, .unset, .unset] [(.int (2147483647 : Int32)), (.int p5)])) _
    refine XS.iand X27.here hx rfl (hb hby at_169) rfl ?_
    show Steps p.tables e below (T27.setTop (mkF m 170 #[.val (.int p1), .val (.int p2), .val (.int p3), .val (.int p4), .val (.int p5), .val (.ref b1), .val (.int lf), .val (.int pp), .val (.int en), .val (.int wi), .val (.ref bn_27), .val (.int bv), .unset, .unset, .unset] [(.int (p5 &&& (2147483647 : Int32)))])) _
    refine XS.iload X27.here hx rfl (hb hby at_170) rfl ?_
    show Steps p.tables e below (T27.setTop (mkF m 172 #[.val (.int p1), .val (.int p2), .val (.int p3), .val (.int p4), .val (.int p5), .val (.ref b1), .val (.int lf), .val (.int pp), .val (.int en), .val (.int wi), .val (.ref bn_27), .val (.int bv), .unset, .unset, .unset] [(.int bv), (.int (p5 &&& (2147483647 : Int32)))])) _
    refine XS.bipush X27.here hx rfl (hb hby at_172) ?_
    show Steps p.tables e below (T27.setTop (mkF m 174 #[.val (.int p1), .val (.int p2), .val (.int p3), .val (.int p4), .val (.int p5), .val (.ref b1), .val (.int lf), .val (.int pp), .val (.int en), .val (.int wi), .val (.ref bn_27), .val (.int bv), .unset, .unset, .unset] [(.int (8 : Int32)), (.int bv), (.int (p5 &&& (2147483647 : Int32)))])) _
    refine XS.imul X27.here hx rfl (hb hby at_174) rfl ?_
    show Steps p.tables e below (T27.setTop (mkF m 175 #[.val (.int p1), .val (.int p2), .val (.int p3), .val (.int p4), .val (.int p5), .val (.ref b1), .val (.int lf), .val (.int pp), .val (.int en), .val (.int wi), .val (.ref bn_27), .val (.int bv), .unset, .unset, .unset] [(.int (bv * (8 : Int32))), (.int (p5 &&& (2147483647 : Int32)))])) _
    refine iremM X27 hx rfl (hb hby at_175) rfl (own_nz8 (own_nbl hLf.1 (by omega)) hbv (by omega) (by omega)) ?_
    rw [hqq] at k
    exact k
  have hnb := own_nbl hLf.1 (by omega)
  rw [← hbv] at hnb
  obtain ⟨Q, hQ, hQb⟩ := own_q (p := p5) hqq hnb (by omega) (by omega)
  obtain ⟨cl31, Ar31, kc31, sz31, -, hv31⟩ := id p27_2
  have hin31 : ¬ (((qq >>> ((3 : Int32) &&& 31))) < 0 ∨ cl31.slots.size ≤ (((qq >>> ((3 : Int32) &&& 31)))).toNatClampNeg) := AV.inb sz31 ⟨(own_nat (own_ix hQ (by omega)) (by omega)).1, by rw [(own_nat (own_ix hQ (by omega)) (by omega)).2]; omega⟩
  have hat31 : cl31.slots[(((qq >>> ((3 : Int32) &&& 31)))).toNatClampNeg]? = some (.int (fr_27 (((qq >>> ((3 : Int32) &&& 31)))).toNatClampNeg)) := (hv31 _ (AV.inx ⟨(own_nat (own_ix hQ (by omega)) (by omega)).1, by rw [(own_nat (own_ix hQ (by omega)) (by omega)).2]; omega⟩)).trans (congrArg some rfl)
  refine GoalS.lift (B := (T27.setTop (mkF m 196 #[.val (.int p1), .val (.int p2), .val (.int p3), .val (.int p4), .val (.int p5), .val (.ref b1), .val (.int lf), .val (.int pp), .val (.int en), .val (.int wi), .val (.ref bn_27), .val (.int bv), .val (.int qq), .unset, .unset] [(.int ((((fr_27 (((qq >>> ((3 : Int32) &&& 31)))).toNatClampNeg) >>> (((7 : Int32) - (qq &&& (7 : Int32))) &&& 31))) &&& (1 : Int32)))]))) (fun t k => ?_) ?_
  · show Steps p.tables e below (T27.setTop (mkF m 176 #[.val (.int p1), .val (.int p2), .val (.int p3), .val (.int p4), .val (.int p5), .val (.ref b1), .val (.int lf), .val (.int pp), .val (.int en), .val (.int wi), .val (.ref bn_27), .val (.int bv), .unset, .unset, .unset] [(.int qq)])) _
    refine XS.istore X27.here hx rfl (hb hby at_176) rfl (l' := #[.val (.int p1), .val (.int p2), .val (.int p3), .val (.int p4), .val (.int p5), .val (.ref b1), .val (.int lf), .val (.int pp), .val (.int en), .val (.int wi), .val (.ref bn_27), .val (.int bv), .val (.int qq), .unset, .unset]) rfl ?_
    show Steps p.tables e below (T27.setTop (mkF m 178 #[.val (.int p1), .val (.int p2), .val (.int p3), .val (.int p4), .val (.int p5), .val (.ref b1), .val (.int lf), .val (.int pp), .val (.int en), .val (.int wi), .val (.ref bn_27), .val (.int bv), .val (.int qq), .unset, .unset] [])) _
    refine XS.aload X27.here hx rfl (hb hby at_178) rfl rfl ?_
    show Steps p.tables e below (T27.setTop (mkF m 180 #[.val (.int p1), .val (.int p2), .val (.int p3), .val (.int p4), .val (.int p5), .val (.ref b1), .val (.int lf), .val (.int pp), .val (.int en), .val (.int wi), .val (.ref bn_27), .val (.int bv), .val (.int qq), .unset, .unset] [(.ref bn_27)])) _
    refine XS.iload X27.here hx rfl (hb hby at_180) rfl ?_
    show Steps p.tables e below (T27.setTop (mkF m 182 #[.val (.int p1), .val (.int p2), .val (.int p3), .val (.int p4), .val (.int p5), .val (.ref b1), .val (.int lf), .val (.int pp), .val (.int en), .val (.int wi), .val (.ref bn_27), .val (.int bv), .val (.int qq), .unset, .unset] [(.int qq), (.ref bn_27)])) _
    refine XS.iconst X27.here hx rfl (hb hby at_182) ?_
    show Steps p.tables e below (T27.setTop (mkF m 183 #[.val (.int p1), .val (.int p2), .val (.int p3), .val (.int p4), .val (.int p5), .val (.ref b1), .val (.int lf), .val (.int pp), .val (.int en), .val (.int wi), .val (.ref bn_27), .val (.int bv), .val (.int qq), .unset, .unset] [(.int (3 : Int32)), (.int qq), (.ref bn_27)])) _
    refine XS.ishr X27.here hx rfl (hb hby at_183) rfl ?_
    show Steps p.tables e below (T27.setTop (mkF m 184 #[.val (.int p1), .val (.int p2), .val (.int p3), .val (.int p4), .val (.int p5), .val (.ref b1), .val (.int lf), .val (.int pp), .val (.int en), .val (.int wi), .val (.ref bn_27), .val (.int bv), .val (.int qq), .unset, .unset] [(.int ((qq >>> ((3 : Int32) &&& 31)))), (.ref bn_27)])) _
    refine X27.baloadBytes hx (j := ((qq >>> ((3 : Int32) &&& 31)))) (v := (.int (fr_27 (((qq >>> ((3 : Int32) &&& 31)))).toNatClampNeg))) Ar31.1 (State.isArrayOf_alike hZ.alike Ar31.2.1) Ar31.2.2 hin31 hat31 (g := (mkF m 184 #[.val (.int p1), .val (.int p2), .val (.int p3), .val (.int p4), .val (.int p5), .val (.ref b1), .val (.int lf), .val (.int pp), .val (.int en), .val (.int wi), .val (.ref bn_27), .val (.int bv), .val (.int qq), .unset, .unset] [(.int ((qq >>> ((3 : Int32) &&& 31)))), (.ref bn_27)])) rfl rfl (hb hby at_184) _ ?_
    show Steps p.tables e below (T27.setTop (mkF m 185 #[.val (.int p1), .val (.int p2), .val (.int p3), .val (.int p4), .val (.int p5), .val (.ref b1), .val (.int lf), .val (.int pp), .val (.int en), .val (.int wi), .val (.ref bn_27), .val (.int bv), .val (.int qq), .unset, .unset] [(.int (fr_27 (((qq >>> ((3 : Int32) &&& 31)))).toNatClampNeg))])) _
    refine XS.bipush X27.here hx rfl (hb hby at_185) ?_
    show Steps p.tables e below (T27.setTop (mkF m 187 #[.val (.int p1), .val (.int p2), .val (.int p3), .val (.int p4), .val (.int p5), .val (.ref b1), .val (.int lf), .val (.int pp), .val (.int en), .val (.int wi), .val (.ref bn_27), .val (.int bv), .val (.int qq), .unset, .unset] [(.int (7 : Int32)), (.int (fr_27 (((qq >>> ((3 : Int32) &&& 31)))).toNatClampNeg))])) _
    refine XS.iload X27.here hx rfl (hb hby at_187) rfl ?_
    show Steps p.tables e below (T27.setTop (mkF m 189 #[.val (.int p1), .val (.int p2), .val (.int p3), .val (.int p4), .val (.int p5), .val (.ref b1), .val (.int lf), .val (.int pp), .val (.int en), .val (.int wi), .val (.ref bn_27), .val (.int bv), .val (.int qq), .unset, .unset] [(.int qq), (.int (7 : Int32)), (.int (fr_27 (((qq >>> ((3 : Int32) &&& 31)))).toNatClampNeg))])) _
    refine XS.bipush X27.here hx rfl (hb hby at_189) ?_
    show Steps p.tables e below (T27.setTop (mkF m 191 #[.val (.int p1), .val (.int p2), .val (.int p3), .val (.int p4), .val (.int p5), .val (.ref b1), .val (.int lf), .val (.int pp), .val (.int en), .val (.int wi), .val (.ref bn_27), .val (.int bv), .val (.int qq), .unset, .unset] [(.int (7 : Int32)), (.int qq), (.int (7 : Int32)), (.int (fr_27 (((qq >>> ((3 : Int32) &&& 31)))).toNatClampNeg))])) _
    refine XS.iand X27.here hx rfl (hb hby at_191) rfl ?_
    show Steps p.tables e below (T27.setTop (mkF m 192 #[.val (.int p1), .val (.int p2), .val (.int p3), .val (.int p4), .val (.int p5), .val (.ref b1), .val (.int lf), .val (.int pp), .val (.int en), .val (.int wi), .val (.ref bn_27), .val (.int bv), .val (.int qq), .unset, .unset] [(.int (qq &&& (7 : Int32))), (.int (7 : Int32)), (.int (fr_27 (((qq >>> ((3 : Int32) &&& 31)))).toNatClampNeg))])) _
    refine XS.isub X27.here hx rfl (hb hby at_192) rfl ?_
    show Steps p.tables e below (T27.setTop (mkF m 193 #[.val (.int p1), .val (.int p2), .val (.int p3), .val (.int p4), .val (.int p5), .val (.ref b1), .val (.int lf), .val (.int pp), .val (.int en), .val (.int wi), .val (.ref bn_27), .val (.int bv), .val (.int qq), .unset, .unset] [(.int ((7 : Int32) - (qq &&& (7 : Int32)))), (.int (fr_27 (((qq >>> ((3 : Int32) &&& 31)))).toNatClampNeg))])) _
    refine XS.ishr X27.here hx rfl (hb hby at_193) rfl ?_
    show Steps p.tables e below (T27.setTop (mkF m 194 #[.val (.int p1), .val (.int p2), .val (.int p3), .val (.int p4), .val (.int p5), .val (.ref b1), .val (.int lf), .val (.int pp), .val (.int en), .val (.int wi), .val (.ref bn_27), .val (.int bv), .val (.int qq), .unset, .unset] [(.int (((fr_27 (((qq >>> ((3 : Int32) &&& 31)))).toNatClampNeg) >>> (((7 : Int32) - (qq &&& (7 : Int32))) &&& 31))))])) _
    refine XS.iconst X27.here hx rfl (hb hby at_194) ?_
    show Steps p.tables e below (T27.setTop (mkF m 195 #[.val (.int p1), .val (.int p2), .val (.int p3), .val (.int p4), .val (.int p5), .val (.ref b1), .val (.int lf), .val (.int pp), .val (.int en), .val (.int wi), .val (.ref bn_27), .val (.int bv), .val (.int qq), .unset, .unset] [(.int (1 : Int32)), (.int (((fr_27 (((qq >>> ((3 : Int32) &&& 31)))).toNatClampNeg) >>> (((7 : Int32) - (qq &&& (7 : Int32))) &&& 31))))])) _
    refine XS.iand X27.here hx rfl (hb hby at_195) rfl ?_
    show Steps p.tables e below (T27.setTop (mkF m 196 #[.val (.int p1), .val (.int p2), .val (.int p3), .val (.int p4), .val (.int p5), .val (.ref b1), .val (.int lf), .val (.int pp), .val (.int en), .val (.int wi), .val (.ref bn_27), .val (.int bv), .val (.int qq), .unset, .unset] [(.int ((((fr_27 (((qq >>> ((3 : Int32) &&& 31)))).toNatClampNeg) >>> (((7 : Int32) - (qq &&& (7 : Int32))) &&& 31))) &&& (1 : Int32)))])) _
    exact k
  suffices J196_32 : ∀ (i196_0 : Int32), i196_0 = (if ((((fr_27 (((qq >>> ((3 : Int32) &&& 31)))).toNatClampNeg) >>> (((7 : Int32) - (qq &&& (7 : Int32))) &&& 31))) &&& (1 : Int32)) = (0 : Int32) then (0 : Int32) else (1 : Int32)) → GoalS p.tables e below s 16 128 (Q0 Z p1 p2 p3 p4 p5 h0 n0) (T27.setTop (mkF m 204 #[.val (.int p1), .val (.int p2), .val (.int p3), .val (.int p4), .val (.int p5), .val (.ref b1), .val (.int lf), .val (.int pp), .val (.int en), .val (.int wi), .val (.ref bn_27), .val (.int bv), .val (.int qq), .unset, .unset] [(.int i196_0)])) by
    by_cases hc196_33 : ((((fr_27 (((qq >>> ((3 : Int32) &&& 31)))).toNatClampNeg) >>> (((7 : Int32) - (qq &&& (7 : Int32))) &&& 31))) &&& (1 : Int32)) = (0 : Int32)
    · refine GoalS.lift (B := (T27.setTop (mkF m 204 #[.val (.int p1), .val (.int p2), .val (.int p3), .val (.int p4), .val (.int p5), .val (.ref b1), .val (.int lf), .val (.int pp), .val (.int en), .val (.int wi), .val (.ref bn_27), .val (.int bv), .val (.int qq), .unset, .unset] [(.int (0 : Int32))]))) (fun t k => ?_) ?_
      · show Steps p.tables e below (T27.setTop (mkF m 196 #[.val (.int p1), .val (.int p2), .val (.int p3), .val (.int p4), .val (.int p5), .val (.ref b1), .val (.int lf), .val (.int pp), .val (.int en), .val (.int wi), .val (.ref bn_27), .val (.int bv), .val (.int qq), .unset, .unset] [(.int ((((fr_27 (((qq >>> ((3 : Int32) &&& 31)))).toNatClampNeg) >>> (((7 : Int32) - (qq &&& (7 : Int32))) &&& 31))) &&& (1 : Int32)))])) _
        refine XS.ifYes X27.here hx rfl (pc0 := 196) (pc' := 203) rfl (hb hby at_196) rfl ((if0 _ _).trans (teq hc196_33).1) (by decide) (by decide) ?_
        show Steps p.tables e below (T27.setTop (mkF m 203 #[.val (.int p1), .val (.int p2), .val (.int p3), .val (.int p4), .val (.int p5), .val (.ref b1), .val (.int lf), .val (.int pp), .val (.int en), .val (.int wi), .val (.ref bn_27), .val (.int bv), .val (.int qq), .unset, .unset] [])) _
        refine XS.iconst X27.here hx rfl (hb hby at_203) ?_
        show Steps p.tables e below (T27.setTop (mkF m 204 #[.val (.int p1), .val (.int p2), .val (.int p3), .val (.int p4), .val (.int p5), .val (.ref b1), .val (.int lf), .val (.int pp), .val (.int en), .val (.int wi), .val (.ref bn_27), .val (.int bv), .val (.int qq), .unset, .unset] [(.int (0 : Int32))])) _
        exact k
      exact J196_32 _ (by simp only [if_pos hc196_33])
    · refine GoalS.lift (B := (T27.setTop (mkF m 204 #[.val (.int p1), .val (.int p2), .val (.int p3), .val (.int p4), .val (.int p5), .val (.ref b1), .val (.int lf), .val (.int pp), .val (.int en), .val (.int wi), .val (.ref bn_27), .val (.int bv), .val (.int qq), .unset, .unset] [(.int (1 : Int32))]))) (fun t k => ?_) ?_
      · show Steps p.tables e below (T27.setTop (mkF m 196 #[.val (.int p1), .val (.int p2), .val (.int p3), .val (.int p4), .val (.int p5), .val (.ref b1), .val (.int lf), .val (.int pp), .val (.int en), .val (.int wi), .val (.ref bn_27), .val (.int bv), .val (.int qq), .unset, .unset] [(.int ((((fr_27 (((qq >>> ((3 : Int32) &&& 31)))).toNatClampNeg) >>> (((7 : Int32) - (qq &&& (7 : Int32))) &&& 31))) &&& (1 : Int32)))])) _
        refine XS.ifNo X27.here hx rfl (hb hby at_196) rfl ((if0 _ _).trans (feq hc196_33).1) ?_
        show Steps p.tables e below (T27.setTop (mkF m 199 #[.val (.int p1), .val (.int p2), .val (.int p3), .val (.int p4), .val (.int p5), .val (.ref b1), .val (.int lf), .val (.int pp), .val (.int en), .val (.int wi), .val (.ref bn_27), .val (.int bv), .val (.int qq), .unset, .unset] [])) _
        refine XS.iconst X27.here hx rfl (hb hby at_199) ?_
        show Steps p.tables e below (T27.setTop (mkF m 200 #[.val (.int p1), .val (.int p2), .val (.int p3), .val (.int p4), .val (.int p5), .val (.ref b1), .val (.int lf), .val (.int pp), .val (.int en), .val (.int wi), .val (.ref bn_27), .val (.int bv), .val (.int qq), .unset, .unset] [(.int (1 : Int32))])) _
        refine XS.goto X27.here hx rfl (pc0 := 200) (pc' := 204) rfl (hb hby at_200) (by decide) (by decide) ?_
        show Steps p.tables e below (T27.setTop (mkF m 204 #[.val (.int p1), .val (.int p2), .val (.int p3), .val (.int p4), .val (.int p5), .val (.ref b1), .val (.int lf), .val (.int pp), .val (.int en), .val (.int wi), .val (.ref bn_27), .val (.int bv), .val (.int qq), .unset, .unset] [(.int (1 : Int32))])) _
        exact k
      exact J196_32 _ (by simp only [if_neg hc196_33])
  intro i196_0 h_i196_0
  refine GoalS.lift (B := (T27.setTop (mkF m 213 #[.val (.int p1), .val (.int p2), .val (.int p3), .val (.int p4), .val (.int p5), .val (.ref b1), .val (.int lf), .val (.int pp), .val (.int en), .val (.int wi), .val (.ref bn_27), .val (.int bv), .val (.int qq), .val (.int i196_0), .val (.int (0 : Int32))] [(.int lf), (.int qq)]))) (fun t k => ?_) ?_
  · show Steps p.tables e below (T27.setTop (mkF m 204 #[.val (.int p1), .val (.int p2), .val (.int p3), .val (.int p4), .val (.int p5), .val (.ref b1), .val (.int lf), .val (.int pp), .val (.int en), .val (.int wi), .val (.ref bn_27), .val (.int bv), .val (.int qq), .unset, .unset] [(.int i196_0)])) _
    refine XS.istore X27.here hx rfl (hb hby at_204) rfl (l' := #[.val (.int p1), .val (.int p2), .val (.int p3), .val (.int p4), .val (.int p5), .val (.ref b1), .val (.int lf), .val (.int pp), .val (.int en), .val (.int wi), .val (.ref bn_27), .val (.int bv), .val (.int qq), .val (.int i196_0), .unset]) rfl ?_
    show Steps p.tables e below (T27.setTop (mkF m 206 #[.val (.int p1), .val (.int p2), .val (.int p3), .val (.int p4), .val (.int p5), .val (.ref b1), .val (.int lf), .val (.int pp), .val (.int en), .val (.int wi), .val (.ref bn_27), .val (.int bv), .val (.int qq), .val (.int i196_0), .unset] [])) _
    refine XS.iconst X27.here hx rfl (hb hby at_206) ?_
    show Steps p.tables e below (T27.setTop (mkF m 207 #[.val (.int p1), .val (.int p2), .val (.int p3), .val (.int p4), .val (.int p5), .val (.ref b1), .val (.int lf), .val (.int pp), .val (.int en), .val (.int wi), .val (.ref bn_27), .val (.int bv), .val (.int qq), .val (.int i196_0), .unset] [(.int (0 : Int32))])) _
    refine XS.istore X27.here hx rfl (hb hby at_207) rfl (l' := #[.val (.int p1), .val (.int p2), .val (.int p3), .val (.int p4), .val (.int p5), .val (.ref b1), .val (.int lf), .val (.int pp), .val (.int en), .val (.int wi), .val (.ref bn_27), .val (.int bv), .val (.int qq), .val (.int i196_0), .val (.int (0 : Int32))]) rfl ?_
    show Steps p.tables e below (T27.setTop (mkF m 209 #[.val (.int p1), .val (.int p2), .val (.int p3), .val (.int p4), .val (.int p5), .val (.ref b1), .val (.int lf), .val (.int pp), .val (.int en), .val (.int wi), .val (.ref bn_27), .val (.int bv), .val (.int qq), .val (.int i196_0), .val (.int (0 : Int32))] [])) _
    refine XS.iload X27.here hx rfl (hb hby at_209) rfl ?_
    show Steps p.tables e below (T27.setTop (mkF m 211 #[.val (.int p1), .val (.int p2), .val (.int p3), .val (.int p4), .val (.int p5), .val (.ref b1), .val (.int lf), .val (.int pp), .val (.int en), .val (.int wi), .val (.ref bn_27), .val (.int bv), .val (.int qq), .val (.int i196_0), .val (.int (0 : Int32))] [(.int qq)])) _
    refine XS.iload X27.here hx rfl (hb hby at_211) rfl ?_
    show Steps p.tables e below (T27.setTop (mkF m 213 #[.val (.int p1), .val (.int p2), .val (.int p3), .val (.int p4), .val (.int p5), .val (.ref b1), .val (.int lf), .val (.int pp), .val (.int en), .val (.int wi), .val (.ref bn_27), .val (.int bv), .val (.int qq), .val (.int i196_0), .val (.int (0 : Int32))] [(.int lf), (.int qq)])) _
    exact k
  by_cases hc213_34 : qq < lf
  · obtain ⟨fs, hr, hrun, hended, hW, hsame⟩ := X27.leave (v := some (.int (1 : Int32))) (fun h => by rw [Bd.returns] at h; cases h)
    refine ⟨_, _, ?_, hrun, hended, _, _, rfl, ?_, ⟨_, rfl⟩, hW, hsame.mono (by decide) (by decide)⟩
    · show Steps p.tables e below (T27.setTop (mkF m 213 #[.val (.int p1), .val (.int p2), .val (.int p3), .val (.int p4), .val (.int p5), .val (.ref b1), .val (.int lf), .val (.int pp), .val (.int en), .val (.int wi), .val (.ref bn_27), .val (.int bv), .val (.int qq), .val (.int i196_0), .val (.int (0 : Int32))] [(.int lf), (.int qq)])) _
      refine XS.icmpYes X27.here hx rfl (pc0 := 213) (pc' := 236) rfl (hb hby at_213) rfl ((tlt hc213_34).1) (by decide) (by decide) ?_
      show Steps p.tables e below (T27.setTop (mkF m 236 #[.val (.int p1), .val (.int p2), .val (.int p3), .val (.int p4), .val (.int p5), .val (.ref b1), .val (.int lf), .val (.int pp), .val (.int en), .val (.int wi), .val (.ref bn_27), .val (.int bv), .val (.int qq), .val (.int i196_0), .val (.int (0 : Int32))] [])) _
      refine XS.iload X27.here hx rfl (hb hby at_236) rfl ?_
      show Steps p.tables e below (T27.setTop (mkF m 238 #[.val (.int p1), .val (.int p2), .val (.int p3), .val (.int p4), .val (.int p5), .val (.ref b1), .val (.int lf), .val (.int pp), .val (.int en), .val (.int wi), .val (.ref bn_27), .val (.int bv), .val (.int qq), .val (.int i196_0), .val (.int (0 : Int32))] [(.int i196_0)])) _
      refine XS.iload X27.here hx rfl (hb hby at_238) rfl ?_
      show Steps p.tables e below (T27.setTop (mkF m 240 #[.val (.int p1), .val (.int p2), .val (.int p3), .val (.int p4), .val (.int p5), .val (.ref b1), .val (.int lf), .val (.int pp), .val (.int en), .val (.int wi), .val (.ref bn_27), .val (.int bv), .val (.int qq), .val (.int i196_0), .val (.int (0 : Int32))] [(.int (0 : Int32)), (.int i196_0)])) _
      refine XS.icmpNo X27.here hx rfl (hb hby at_240) rfl ((teq ((own_out (own_read (f := fr_27) (Q := Q) hQ (by omega) h_i196_0 (p27_3 Q (by omega))) (Or.inl ((own_ltx hQ hLf.2.1 (by omega) (by omega)).mp hc213_34))) : i196_0 = (0 : Int32))).2) ?_
      show Steps p.tables e below (T27.setTop (mkF m 243 #[.val (.int p1), .val (.int p2), .val (.int p3), .val (.int p4), .val (.int p5), .val (.ref b1), .val (.int lf), .val (.int pp), .val (.int en), .val (.int wi), .val (.ref bn_27), .val (.int bv), .val (.int qq), .val (.int i196_0), .val (.int (0 : Int32))] [])) _
      refine XS.iconst X27.here hx rfl (hb hby at_243) ?_
      show Steps p.tables e below (T27.setTop (mkF m 244 #[.val (.int p1), .val (.int p2), .val (.int p3), .val (.int p4), .val (.int p5), .val (.ref b1), .val (.int lf), .val (.int pp), .val (.int en), .val (.int wi), .val (.ref bn_27), .val (.int bv), .val (.int qq), .val (.int i196_0), .val (.int (0 : Int32))] [(.int (1 : Int32))])) _
      refine XS.goto X27.here hx rfl (pc0 := 244) (pc' := 248) rfl (hb hby at_244) (by decide) (by decide) ?_
      show Steps p.tables e below (T27.setTop (mkF m 248 #[.val (.int p1), .val (.int p2), .val (.int p3), .val (.int p4), .val (.int p5), .val (.ref b1), .val (.int lf), .val (.int pp), .val (.int en), .val (.int wi), .val (.ref bn_27), .val (.int bv), .val (.int qq), .val (.int i196_0), .val (.int (0 : Int32))] [(.int (1 : Int32))])) _
      exact retN X27 hx (t := .boolean) Bd.returns (by simp) (hb hby at_248) hr
    · exact ⟨rfl, N27⟩
  · refine GoalS.lift (B := (T27.setTop (mkF m 220 #[.val (.int p1), .val (.int p2), .val (.int p3), .val (.int p4), .val (.int p5), .val (.ref b1), .val (.int lf), .val (.int pp), .val (.int en), .val (.int wi), .val (.ref bn_27), .val (.int bv), .val (.int qq), .val (.int i196_0), .val (.int (0 : Int32))] [(.int en), (.int qq)]))) (fun t k => ?_) ?_
    · show Steps p.tables e below (T27.setTop (mkF m 213 #[.val (.int p1), .val (.int p2), .val (.int p3), .val (.int p4), .val (.int p5), .val (.ref b1), .val (.int lf), .val (.int pp), .val (.int en), .val (.int wi), .val (.ref bn_27), .val (.int bv), .val (.int qq), .val (.int i196_0), .val (.int (0 : Int32))] [(.int lf), (.int qq)])) _
      refine XS.icmpNo X27.here hx rfl (hb hby at_213) rfl ((flt hc213_34).1) ?_
      show Steps p.tables e below (T27.setTop (mkF m 216 #[.val (.int p1), .val (.int p2), .val (.int p3), .val (.int p4), .val (.int p5), .val (.ref b1), .val (.int lf), .val (.int pp), .val (.int en), .val (.int wi), .val (.ref bn_27), .val (.int bv), .val (.int qq), .val (.int i196_0), .val (.int (0 : Int32))] [])) _
      refine XS.iload X27.here hx rfl (hb hby at_216) rfl ?_
      show Steps p.tables e below (T27.setTop (mkF m 218 #[.val (.int p1), .val (.int p2), .val (.int p3), .val (.int p4), .val (.int p5), .val (.ref b1), .val (.int lf), .val (.int pp), .val (.int en), .val (.int wi), .val (.ref bn_27), .val (.int bv), .val (.int qq), .val (.int i196_0), .val (.int (0 : Int32))] [(.int qq)])) _
      refine XS.iload X27.here hx rfl (hb hby at_218) rfl ?_
      show Steps p.tables e below (T27.setTop (mkF m 220 #[.val (.int p1), .val (.int p2), .val (.int p3), .val (.int p4), .val (.int p5), .val (.ref b1), .val (.int lf), .val (.int pp), .val (.int en), .val (.int wi), .val (.ref bn_27), .val (.int bv), .val (.int qq), .val (.int i196_0), .val (.int (0 : Int32))] [(.int en), (.int qq)])) _
      exact k
    by_cases hc220_35 : qq < en
    · have f37 : AV Z T27.heap b1 k1 .boolean 6 (fun i => Value.int (fn25 i)) := (V25.keep p27_0 nin0)
      have hidx := own_idx hQ hLf.2.1 hLf.2.2.1 hLf.2.2.2 hc213_34 hc220_35 (by omega) (by omega) (by omega)
      obtain ⟨cl36, Ar36, kc36, sz36, -, hv36⟩ := id f37
      have hin36 : ¬ (((qq - lf) / pp) < 0 ∨ cl36.slots.size ≤ (((qq - lf) / pp)).toNatClampNeg) := AV.inb sz36 ⟨hidx.2.1, hidx.2.2.2⟩
      have hat36 : cl36.slots[(((qq - lf) / pp)).toNatClampNeg]? = some (.int (fn25 (((qq - lf) / pp)).toNatClampNeg)) := (hv36 _ (AV.inx ⟨hidx.2.1, hidx.2.2.2⟩)).trans (congrArg some rfl)
      obtain ⟨fs, hr, hrun, hended, hW, hsame⟩ := X27.leave (v := some (.int (1 : Int32))) (fun h => by rw [Bd.returns] at h; cases h)
      refine ⟨_, _, ?_, hrun, hended, _, _, rfl, ?_, ⟨_, rfl⟩, hW, hsame.mono (by decide) (by decide)⟩
      · show Steps p.tables e below (T27.setTop (mkF m 220 #[.val (.int p1), .val (.int p2), .val (.int p3), .val (.int p4), .val (.int p5), .val (.ref b1), .val (.int lf), .val (.int pp), .val (.int en), .val (.int wi), .val (.ref bn_27), .val (.int bv), .val (.int qq), .val (.int i196_0), .val (.int (0 : Int32))] [(.int en), (.int qq)])) _
        refine XS.icmpNo X27.here hx rfl (hb hby at_220) rfl ((tlt hc220_35).2.1) ?_
        show Steps p.tables e below (T27.setTop (mkF m 223 #[.val (.int p1), .val (.int p2), .val (.int p3), .val (.int p4), .val (.int p5), .val (.ref b1), .val (.int lf), .val (.int pp), .val (.int en), .val (.int wi), .val (.ref bn_27), .val (.int bv), .val (.int qq), .val (.int i196_0), .val (.int (0 : Int32))] [])) _
        refine XS.aload X27.here hx rfl (hb hby at_223) rfl rfl ?_
        show Steps p.tables e below (T27.setTop (mkF m 225 #[.val (.int p1), .val (.int p2), .val (.int p3), .val (.int p4), .val (.int p5), .val (.ref b1), .val (.int lf), .val (.int pp), .val (.int en), .val (.int wi), .val (.ref bn_27), .val (.int bv), .val (.int qq), .val (.int i196_0), .val (.int (0 : Int32))] [(.ref b1)])) _
        refine XS.iload X27.here hx rfl (hb hby at_225) rfl ?_
        show Steps p.tables e below (T27.setTop (mkF m 227 #[.val (.int p1), .val (.int p2), .val (.int p3), .val (.int p4), .val (.int p5), .val (.ref b1), .val (.int lf), .val (.int pp), .val (.int en), .val (.int wi), .val (.ref bn_27), .val (.int bv), .val (.int qq), .val (.int i196_0), .val (.int (0 : Int32))] [(.int qq), (.ref b1)])) _
        refine XS.iload X27.here hx rfl (hb hby at_227) rfl ?_
        show Steps p.tables e below (T27.setTop (mkF m 229 #[.val (.int p1), .val (.int p2), .val (.int p3), .val (.int p4), .val (.int p5), .val (.ref b1), .val (.int lf), .val (.int pp), .val (.int en), .val (.int wi), .val (.ref bn_27), .val (.int bv), .val (.int qq), .val (.int i196_0), .val (.int (0 : Int32))] [(.int lf), (.int qq), (.ref b1)])) _
        refine XS.isub X27.here hx rfl (hb hby at_229) rfl ?_
        show Steps p.tables e below (T27.setTop (mkF m 230 #[.val (.int p1), .val (.int p2), .val (.int p3), .val (.int p4), .val (.int p5), .val (.ref b1), .val (.int lf), .val (.int pp), .val (.int en), .val (.int wi), .val (.ref bn_27), .val (.int bv), .val (.int qq), .val (.int i196_0), .val (.int (0 : Int32))] [(.int (qq - lf)), (.ref b1)])) _
        refine XS.iload X27.here hx rfl (hb hby at_230) rfl ?_
        show Steps p.tables e below (T27.setTop (mkF m 232 #[.val (.int p1), .val (.int p2), .val (.int p3), .val (.int p4), .val (.int p5), .val (.ref b1), .val (.int lf), .val (.int pp), .val (.int en), .val (.int wi), .val (.ref bn_27), .val (.int bv), .val (.int qq), .val (.int i196_0), .val (.int (0 : Int32))] [(.int pp), (.int (qq - lf)), (.ref b1)])) _
        refine XS.idiv X27.here hx rfl (hb hby at_232) rfl (own_ppnz hLf.2.2.1 (by omega) (by omega)) ?_
        show Steps p.tables e below (T27.setTop (mkF m 233 #[.val (.int p1), .val (.int p2), .val (.int p3), .val (.int p4), .val (.int p5), .val (.ref b1), .val (.int lf), .val (.int pp), .val (.int en), .val (.int wi), .val (.ref bn_27), .val (.int bv), .val (.int qq), .val (.int i196_0), .val (.int (0 : Int32))] [(.int ((qq - lf) / pp)), (.ref b1)])) _
        refine X27.baloadBooleans hx (j := ((qq - lf) / pp)) (v := (.int (fn25 (((qq - lf) / pp)).toNatClampNeg))) Ar36.1 (State.isArrayOf_alike hZ.alike Ar36.2.1) Ar36.2.2 hin36 hat36 (g := (mkF m 233 #[.val (.int p1), .val (.int p2), .val (.int p3), .val (.int p4), .val (.int p5), .val (.ref b1), .val (.int lf), .val (.int pp), .val (.int en), .val (.int wi), .val (.ref bn_27), .val (.int bv), .val (.int qq), .val (.int i196_0), .val (.int (0 : Int32))] [(.int ((qq - lf) / pp)), (.ref b1)])) rfl rfl (hb hby at_233) _ ?_
        show Steps p.tables e below (T27.setTop (mkF m 234 #[.val (.int p1), .val (.int p2), .val (.int p3), .val (.int p4), .val (.int p5), .val (.ref b1), .val (.int lf), .val (.int pp), .val (.int en), .val (.int wi), .val (.ref bn_27), .val (.int bv), .val (.int qq), .val (.int i196_0), .val (.int (0 : Int32))] [(.int (fn25 (((qq - lf) / pp)).toNatClampNeg))])) _
        refine XS.istore X27.here hx rfl (hb hby at_234) rfl (l' := #[.val (.int p1), .val (.int p2), .val (.int p3), .val (.int p4), .val (.int p5), .val (.ref b1), .val (.int lf), .val (.int pp), .val (.int en), .val (.int wi), .val (.ref bn_27), .val (.int bv), .val (.int qq), .val (.int i196_0), .val (.int (fn25 (((qq - lf) / pp)).toNatClampNeg))]) rfl ?_
        show Steps p.tables e below (T27.setTop (mkF m 236 #[.val (.int p1), .val (.int p2), .val (.int p3), .val (.int p4), .val (.int p5), .val (.ref b1), .val (.int lf), .val (.int pp), .val (.int en), .val (.int wi), .val (.ref bn_27), .val (.int bv), .val (.int qq), .val (.int i196_0), .val (.int (fn25 (((qq - lf) / pp)).toNatClampNeg))] [])) _
        refine XS.iload X27.here hx rfl (hb hby at_236) rfl ?_
        show Steps p.tables e below (T27.setTop (mkF m 238 #[.val (.int p1), .val (.int p2), .val (.int p3), .val (.int p4), .val (.int p5), .val (.ref b1), .val (.int lf), .val (.int pp), .val (.int en), .val (.int wi), .val (.ref bn_27), .val (.int bv), .val (.int qq), .val (.int i196_0), .val (.int (fn25 (((qq - lf) / pp)).toNatClampNeg))] [(.int i196_0)])) _
        refine XS.iload X27.here hx rfl (hb hby at_238) rfl ?_
        show Steps p.tables e below (T27.setTop (mkF m 240 #[.val (.int p1), .val (.int p2), .val (.int p3), .val (.int p4), .val (.int p5), .val (.ref b1), .val (.int lf), .val (.int pp), .val (.int en), .val (.int wi), .val (.ref bn_27), .val (.int bv), .val (.int qq), .val (.int i196_0), .val (.int (fn25 (((qq - lf) / pp)).toNatClampNeg))] [(.int (fn25 (((qq - lf) / pp)).toNatClampNeg)), (.int i196_0)])) _
        refine XS.icmpNo X27.here hx rfl (hb hby at_240) rfl ((teq ((own_in (own_read (f := fr_27) (Q := Q) hQ (by omega) h_i196_0 (p27_3 Q (by omega))) (hG _) hidx.1 (fun u => hc213_34 ((own_ltx hQ hLf.2.1 (by omega) (by omega)).mpr u)) ((own_ltx hQ hLf.2.2.2 (by omega) (by omega)).mp hc220_35)) : i196_0 = (fn25 (((qq - lf) / pp)).toNatClampNeg))).2) ?_
        show Steps p.tables e below (T27.setTop (mkF m 243 #[.val (.int p1), .val (.int p2), .val (.int p3), .val (.int p4), .val (.int p5), .val (.ref b1), .val (.int lf), .val (.int pp), .val (.int en), .val (.int wi), .val (.ref bn_27), .val (.int bv), .val (.int qq), .val (.int i196_0), .val (.int (fn25 (((qq - lf) / pp)).toNatClampNeg))] [])) _
        refine XS.iconst X27.here hx rfl (hb hby at_243) ?_
        show Steps p.tables e below (T27.setTop (mkF m 244 #[.val (.int p1), .val (.int p2), .val (.int p3), .val (.int p4), .val (.int p5), .val (.ref b1), .val (.int lf), .val (.int pp), .val (.int en), .val (.int wi), .val (.ref bn_27), .val (.int bv), .val (.int qq), .val (.int i196_0), .val (.int (fn25 (((qq - lf) / pp)).toNatClampNeg))] [(.int (1 : Int32))])) _
        refine XS.goto X27.here hx rfl (pc0 := 244) (pc' := 248) rfl (hb hby at_244) (by decide) (by decide) ?_
        show Steps p.tables e below (T27.setTop (mkF m 248 #[.val (.int p1), .val (.int p2), .val (.int p3), .val (.int p4), .val (.int p5), .val (.ref b1), .val (.int lf), .val (.int pp), .val (.int en), .val (.int wi), .val (.ref bn_27), .val (.int bv), .val (.int qq), .val (.int i196_0), .val (.int (fn25 (((qq - lf) / pp)).toNatClampNeg))] [(.int (1 : Int32))])) _
        exact retN X27 hx (t := .boolean) Bd.returns (by simp) (hb hby at_248) hr
      · exact ⟨rfl, N27⟩
    · obtain ⟨fs, hr, hrun, hended, hW, hsame⟩ := X27.leave (v := some (.int (1 : Int32))) (fun h => by rw [Bd.returns] at h; cases h)
      refine ⟨_, _, ?_, hrun, hended, _, _, rfl, ?_, ⟨_, rfl⟩, hW, hsame.mono (by decide) (by decide)⟩
      · show Steps p.tables e below (T27.setTop (mkF m 220 #[.val (.int p1), .val (.int p2), .val (.int p3), .val (.int p4), .val (.int p5), .val (.ref b1), .val (.int lf), .val (.int pp), .val (.int en), .val (.int wi), .val (.ref bn_27), .val (.int bv), .val (.int qq), .val (.int i196_0), .val (.int (0 : Int32))] [(.int en), (.int qq)])) _
        refine XS.icmpYes X27.here hx rfl (pc0 := 220) (pc' := 236) rfl (hb hby at_220) rfl ((flt hc220_35).2.1) (by decide) (by decide) ?_
        show Steps p.tables e below (T27.setTop (mkF m 236 #[.val (.int p1), .val (.int p2), .val (.int p3), .val (.int p4), .val (.int p5), .val (.ref b1), .val (.int lf), .val (.int pp), .val (.int en), .val (.int wi), .val (.ref bn_27), .val (.int bv), .val (.int qq), .val (.int i196_0), .val (.int (0 : Int32))] [])) _
        refine XS.iload X27.here hx rfl (hb hby at_236) rfl ?_
        show Steps p.tables e below (T27.setTop (mkF m 238 #[.val (.int p1), .val (.int p2), .val (.int p3), .val (.int p4), .val (.int p5), .val (.ref b1), .val (.int lf), .val (.int pp), .val (.int en), .val (.int wi), .val (.ref bn_27), .val (.int bv), .val (.int qq), .val (.int i196_0), .val (.int (0 : Int32))] [(.int i196_0)])) _
        refine XS.iload X27.here hx rfl (hb hby at_238) rfl ?_
        show Steps p.tables e below (T27.setTop (mkF m 240 #[.val (.int p1), .val (.int p2), .val (.int p3), .val (.int p4), .val (.int p5), .val (.ref b1), .val (.int lf), .val (.int pp), .val (.int en), .val (.int wi), .val (.ref bn_27), .val (.int bv), .val (.int qq), .val (.int i196_0), .val (.int (0 : Int32))] [(.int (0 : Int32)), (.int i196_0)])) _
        refine XS.icmpNo X27.here hx rfl (hb hby at_240) rfl ((teq ((own_out (own_read (f := fr_27) (Q := Q) hQ (by omega) h_i196_0 (p27_3 Q (by omega))) (Or.inr (fun u => hc220_35 ((own_ltx hQ hLf.2.2.2 (by omega) (by omega)).mpr u)))) : i196_0 = (0 : Int32))).2) ?_
        show Steps p.tables e below (T27.setTop (mkF m 243 #[.val (.int p1), .val (.int p2), .val (.int p3), .val (.int p4), .val (.int p5), .val (.ref b1), .val (.int lf), .val (.int pp), .val (.int en), .val (.int wi), .val (.ref bn_27), .val (.int bv), .val (.int qq), .val (.int i196_0), .val (.int (0 : Int32))] [])) _
        refine XS.iconst X27.here hx rfl (hb hby at_243) ?_
        show Steps p.tables e below (T27.setTop (mkF m 244 #[.val (.int p1), .val (.int p2), .val (.int p3), .val (.int p4), .val (.int p5), .val (.ref b1), .val (.int lf), .val (.int pp), .val (.int en), .val (.int wi), .val (.ref bn_27), .val (.int bv), .val (.int qq), .val (.int i196_0), .val (.int (0 : Int32))] [(.int (1 : Int32))])) _
        refine XS.goto X27.here hx rfl (pc0 := 244) (pc' := 248) rfl (hb hby at_244) (by decide) (by decide) ?_
        show Steps p.tables e below (T27.setTop (mkF m 248 #[.val (.int p1), .val (.int p2), .val (.int p3), .val (.int p4), .val (.int p5), .val (.ref b1), .val (.int lf), .val (.int pp), .val (.int en), .val (.int wi), .val (.ref bn_27), .val (.int bv), .val (.int qq), .val (.int i196_0), .val (.int (0 : Int32))] [(.int (1 : Int32))])) _
        exact retN X27 hx (t := .boolean) Bd.returns (by simp) (hb hby at_248) hr
      · exact ⟨rfl, N27⟩
set_option maxRecDepth 65536 in
set_option maxHeartbeats 40000000 in
theorem comes_1 {Post : Tables → Env → Array Value → State → Outcome → State → Prop} (hpost : ∀ tb e args s v u, (limb_1_1.after args s (.returned v) u = true ∧ limb_1_2.after args s (.returned v) u = true ∧ True) → FrameEnd s (.returned v) u (Jvm.fieldLocs frame_1_writes args s ++ Jvm.arrayLocs frame_1_arrays args s ++ Jvm.staticLocs frame_1_statics s) 16 128 → Post tb e args s (.returned v) u) :
    ArmFor flags0 classFile x code maxLocals ret World_1 tables_1 room_1 Calls_1 rest_1 Pre_1 Post := by
  intro l hfl _ _ p e ha hc hk s m args below hf hA hF happ hP
  obtain ⟨hcalls, hrest, hpre⟩ := hP
  obtain ⟨-, -, -, hnamed, -, -, -, hat⟩ := (Spec.applies_iff hf).mp happ
  obtain ⟨hg, hn⟩ := and_e (Cond.before_iff.mp (show (Jvm.Cond.and given_1 narrow_1).before args s = true from hpre))
  obtain ⟨g1, g2⟩ := and_e hg
  obtain ⟨g3, g4⟩ := and_e g2
  obtain ⟨g5, g6⟩ := and_e g4
  obtain ⟨g7, g8⟩ := and_e g6
  obtain ⟨g9, g10⟩ := and_e g8
  obtain ⟨w0, w1, w2, w3, w4, rfl⟩ : ∃ w0 w1 w2 w3 w4 : Value, args = #[w0, w1, w2, w3, w4] := by
    have hs : args.size = 5 := by simpa [Cond.value, given_1] using g1
    obtain ⟨L⟩ := args
    match L, hs with
    | [w0, w1, w2, w3, w4], _ => exact ⟨w0, w1, w2, w3, w4, rfl⟩
  have hw := fun d (hd : d ∈ tables_1) => atoms_spec (ws := Jvm.Cond.code x code maxLocals ret :: tables_1) hat d (List.mem_cons_of_mem _ hd)
  have hfit : Fit s := fun {y c} hc i hi => by
    obtain ⟨ha, rfl⟩ := Array.getElem?_eq_some_iff.mp hc
    have q := List.all_eq_true.mp ((Array.all_eq_true_iff_forall_mem.mp hF) _ (Array.getElem_mem ha)) i (List.mem_range.mpr hi)
    simpa [Array.getElem?_eq_getElem hi] using q
  obtain ⟨i0, ei0⟩ := is_v g3
  obtain rfl : w0 = (.int i0) := Option.some.inj ei0
  obtain ⟨i1, ei1⟩ := is_v g5
  obtain rfl : w1 = (.int i1) := Option.some.inj ei1
  obtain ⟨i2, ei2⟩ := is_v g7
  obtain rfl : w2 = (.int i2) := Option.some.inj ei2
  obtain ⟨i3, ei3⟩ := is_v g9
  obtain rfl : w3 = (.int i3) := Option.some.inj ei3
  obtain ⟨i4, ei4⟩ := is_v g10
  obtain rfl : w4 = (.int i4) := Option.some.inj ei4
  obtain ⟨n, o, h1, h2, h3, _, L, rfl, ⟨rfl, N⟩, hq⟩ := rm0 l s _ hw tables_1 i0 i1 i2 i3 i4  s.heap s.heap.size (Nat.le_refl _)  p e ha hc hk s m _ below hf ((Spec.applies_iff_loose hf).mp happ).1 ⟨rfl, State.Warmed39.refl s, rfl⟩ trivial
  refine ⟨n, _, h1, h2, h3, hpost _ _ _ _ _ _ ⟨Cond.after_iff.mpr rfl, Cond.after_iff.mpr (eq_i res_at (Term.int_eval (1)) rfl), trivial⟩ ⟨hq.1, hq.2.1, (hq.2.2.sift fun y hy => Or.inr (N y hy)).mono (by decide) (by decide)⟩⟩
theorem main_1_1 : Claimed_1_1 := comes_1 fun _ _ _ _ _ _ h hF => ⟨h.1, hF⟩
theorem main_1_2 : Claimed_1_2 := comes_1 fun _ _ _ _ _ _ h hF => ⟨h.2.1, hF⟩
end Jvm.Pilot.@@N@@
namespace Jvm.Pilot.@@N@@
open Jvm Jvm.ClassFile Sem Op Lib Jvm.Free Jvm.Stand Jvm.Pilot.@@N@@.Jvm.D
/-! MADE BY PROGRAM (witnessworld.py) out of the Statement's table words and the real class files: 12 classes; the members and pool entries that the words name. The judged class is class 1, her method 1. -/
namespace start1
open Jvm.ClassFile
def u (s : String) : CpInfo := .utf8 (stringToUtf16 s)
/-- a pool by its gaps: so many unusable entries, then the entry; so many at the end -/
def gap : Nat → List CpInfo → List CpInfo
  | 0, r => r
  | n + 1, r => .unusable :: gap n r
def poolList (es : List (Nat × CpInfo)) (last : Nat) : List CpInfo := es.foldr (fun e r => gap e.1 (e.2 :: r)) (gap last [])
def pool (es : List (Nat × CpInfo)) (last : Nat) : Array CpInfo := ⟨poolList es last⟩
def fileOf (pool : Array CpInfo) (this : Nat) (attrs : Array Attribute := #[]) (ms : Array MethodInfo := #[]) (fl : Nat := 33) (sup : Nat := 0) (ifs : Array Nat := #[]) (fds : Array FieldInfo := #[]) : ClassFile where
  minorVersion := 0
  majorVersion := 65
  constantPool := pool
  accessFlags := fl
  thisClass := this
  superClass := sup
  interfaces := ifs
  fields := fds
  methods := ms
  attributes := attrs
def plain (name : String) (sup : Option ClassId) : Class where
  name := name
  kind := .ordinary
  loader := none
  accessFlags := 33
  super := sup
  interfaces := #[]
  cf := none
  fields := #[]
  methods := #[]
  instanceTypes := #[]
  staticTypes := #[]
  resolved := #[]
  callSites := []
  init := .initialized
  statics := none
  mirror := none

def pool0 : Array CpInfo := pool [(5, u "<init>"), (0, u "()V"), (1, .class_ 10), (1, u "java/lang/Object")] 113

def k0m0 : Method := { name := "<init>", desc := "()V", sig := { parameters := [], returnType := none }, accessFlags := 1, code := none }
/-- java/lang/Object -/
def k0 : Class := { plain "java/lang/Object" none with
  accessFlags := 33
  interfaces := #[]
  cf := some (fileOf pool0 8 #[] #[{ accessFlags := 1, nameIndex := 5, descriptorIndex := 6, attributes := #[] }] 33 0 #[] #[])
  fields := #[]
  methods := #[k0m0]
  instanceTypes := #[]
  staticTypes := #[]
  resolved := Array.replicate 124 none
  statics := none }

def pool1 : Array CpInfo := pool [(2, .class_ 4), (1, u "java/lang/Object"), (0, u "<init>"), (0, u "()V"), (0, .methodref 8 9), (0, .class_ 10), (0, .nameAndType 11 12), (0, u "com/example/poukaz/poukaz/symbols/Png"), (0, u "row"), (0, u "(II[ZI)[B"), (0, .integer 2147483647), (0, .class_ 15), (0, u "com/example/poukaz/poukaz/symbols/PngRowPinLaw"), (2, u "law"), (0, u "(IIIII)Z")] 7

def k1m0 : Method := { name := "<init>", desc := "()V", sig := { parameters := [], returnType := none }, accessFlags := 1, code := none }
def k1c1 : Code := { maxStack := 4, maxLocals := 15, code := code, exceptionTable := #[], attributes := #[] }
def k1m1 : Method := { name := "law", desc := "(IIIII)Z", sig := { parameters := [.int, .int, .int, .int, .int], returnType := some .boolean }, accessFlags := 9, code := some k1c1 }
/-- com/example/poukaz/poukaz/symbols/PngRowPinLaw -/
def k1 : Class := { plain "com/example/poukaz/poukaz/symbols/PngRowPinLaw" (some 0) with
  accessFlags := 49
  interfaces := #[]
  cf := some (fileOf pool1 14 #[] #[{ accessFlags := 1, nameIndex := 5, descriptorIndex := 6, attributes := #[] }, { accessFlags := 9, nameIndex := 18, descriptorIndex := 19, attributes := #[] }] 49 2 #[] #[])
  fields := #[]
  methods := #[k1m0, k1m1]
  instanceTypes := #[]
  staticTypes := #[]
  resolved := Array.replicate 27 none
  statics := none }

def pool2 : Array CpInfo := pool [(2, .class_ 4), (1, u "java/lang/Object"), (0, u "<init>"), (0, u "()V"), (0, .methodref 8 9), (0, .class_ 10), (0, .nameAndType 11 12), (0, u "java/lang/Math"), (0, u "min"), (0, u "(II)I"), (1, .class_ 16), (1, u "com/example/poukaz/poukaz/symbols/Png"), (8, u "SIGNATURE"), (0, u "[B"), (12, u "IHDR"), (12, u "PHYS"), (2, u "IDAT"), (2, u "IEND"), (67, u "CHUNK_FRAMING"), (0, u "I"), (2, u "CHUNK_DATA"), (1, u "HEADER_LENGTH"), (1, u "RESOLUTION_LENGTH"), (1, u "BIT_DEPTH"), (0, u "B"), (1, u "GRAYSCALE"), (1, u "FILTER_NONE"), (0, u "FILTER_UP"), (1, u "METRE"), (2, u "row"), (0, u "(II[ZI)[B")] 11

def k2m0 : Method := { name := "<init>", desc := "()V", sig := { parameters := [], returnType := none }, accessFlags := 2, code := none }
def k2c1 : Code := { maxStack := 7, maxLocals := 11, code := prog_104_method_2_code, exceptionTable := #[], attributes := #[] }
def k2m1 : Method := { name := "row", desc := "(II[ZI)[B", sig := { parameters := [.int, .int, (.array .boolean), .int], returnType := some (.array .byte) }, accessFlags := 9, code := some k2c1 }
/-- com/example/poukaz/poukaz/symbols/Png -/
def k2 : Class := { plain "com/example/poukaz/poukaz/symbols/Png" (some 0) with
  accessFlags := 49
  interfaces := #[]
  cf := some (fileOf pool2 14 #[] #[{ accessFlags := 2, nameIndex := 5, descriptorIndex := 6, attributes := #[] }, { accessFlags := 9, nameIndex := 147, descriptorIndex := 148, attributes := #[] }] 49 2 #[] #[{ accessFlags := 26, nameIndex := 25, descriptorIndex := 26, attributes := #[] }, { accessFlags := 26, nameIndex := 39, descriptorIndex := 26, attributes := #[] }, { accessFlags := 26, nameIndex := 52, descriptorIndex := 26, attributes := #[] }, { accessFlags := 26, nameIndex := 55, descriptorIndex := 26, attributes := #[] }, { accessFlags := 26, nameIndex := 58, descriptorIndex := 26, attributes := #[] }, { accessFlags := 26, nameIndex := 126, descriptorIndex := 127, attributes := #[] }, { accessFlags := 26, nameIndex := 130, descriptorIndex := 127, attributes := #[] }, { accessFlags := 26, nameIndex := 132, descriptorIndex := 127, attributes := #[] }, { accessFlags := 26, nameIndex := 134, descriptorIndex := 127, attributes := #[] }, { accessFlags := 26, nameIndex := 136, descriptorIndex := 137, attributes := #[] }, { accessFlags := 26, nameIndex := 139, descriptorIndex := 137, attributes := #[] }, { accessFlags := 26, nameIndex := 141, descriptorIndex := 127, attributes := #[] }, { accessFlags := 26, nameIndex := 142, descriptorIndex := 127, attributes := #[] }, { accessFlags := 26, nameIndex := 144, descriptorIndex := 137, attributes := #[] }])
  fields := #[{ name := "SIGNATURE", type := (.array .byte), accessFlags := 26, slot := 0, constantValue := 0 }, { name := "IHDR", type := (.array .byte), accessFlags := 26, slot := 1, constantValue := 0 }, { name := "PHYS", type := (.array .byte), accessFlags := 26, slot := 2, constantValue := 0 }, { name := "IDAT", type := (.array .byte), accessFlags := 26, slot := 3, constantValue := 0 }, { name := "IEND", type := (.array .byte), accessFlags := 26, slot := 4, constantValue := 0 }, { name := "CHUNK_FRAMING", type := .int, accessFlags := 26, slot := 5, constantValue := 0 }, { name := "CHUNK_DATA", type := .int, accessFlags := 26, slot := 6, constantValue := 0 }, { name := "HEADER_LENGTH", type := .int, accessFlags := 26, slot := 7, constantValue := 0 }, { name := "RESOLUTION_LENGTH", type := .int, accessFlags := 26, slot := 8, constantValue := 0 }, { name := "BIT_DEPTH", type := .byte, accessFlags := 26, slot := 9, constantValue := 0 }, { name := "GRAYSCALE", type := .byte, accessFlags := 26, slot := 10, constantValue := 0 }, { name := "FILTER_NONE", type := .int, accessFlags := 26, slot := 11, constantValue := 0 }, { name := "FILTER_UP", type := .int, accessFlags := 26, slot := 12, constantValue := 0 }, { name := "METRE", type := .byte, accessFlags := 26, slot := 13, constantValue := 0 }]
  methods := #[k2m0, k2m1]
  instanceTypes := #[]
  staticTypes := #[(.array .byte), (.array .byte), (.array .byte), (.array .byte), (.array .byte), .int, .int, .int, .int, .byte, .byte, .int, .int, .byte]
  resolved := Array.replicate 160 none
  statics := none }

def pool3 : Array CpInfo := pool [(1, .class_ 2), (0, u "java/lang/Math"), (1, .class_ 6), (1, u "java/lang/Object"), (0, u "<init>"), (0, u "()V"), (89, .class_ 100), (1, u "java/lang/Math$RandomNumberGeneratorHolder"), (71, u "negativeZeroFloatBits"), (0, u "J"), (2, u "negativeZeroDoubleBits"), (24, u "min"), (43, u "$assertionsDisabled"), (0, u "Z"), (88, u "(II)I"), (2, u "twoToTheDoubleScaleDown"), (0, u "D"), (4, u "twoToTheDoubleScaleUp"), (9, u "E"), (3, u "PI"), (2, u "TAU"), (2, u "DEGREES_TO_RADIANS"), (0, u "RADIANS_TO_DEGREES")] 94

def k3m0 : Method := { name := "<init>", desc := "()V", sig := { parameters := [], returnType := none }, accessFlags := 2, code := none }
def k3c1 : Code := { maxStack := 2, maxLocals := 2, code := jdk_29_method_69_code, exceptionTable := #[], attributes := #[] }
def k3m1 : Method := { name := "min", desc := "(II)I", sig := { parameters := [.int, .int], returnType := some .int }, accessFlags := 9, code := some k3c1 }
/-- java/lang/Math -/
def k3 : Class := { plain "java/lang/Math" (some 0) with
  accessFlags := 49
  interfaces := #[]
  cf := some (fileOf pool3 1 #[.nestMembers #[98]] #[{ accessFlags := 2, nameIndex := 7, descriptorIndex := 8, attributes := #[] }, { accessFlags := 9, nameIndex := 201, descriptorIndex := 335, attributes := #[] }] 49 4 #[] #[{ accessFlags := 25, nameIndex := 354, descriptorIndex := 339, attributes := #[] }, { accessFlags := 25, nameIndex := 358, descriptorIndex := 339, attributes := #[] }, { accessFlags := 25, nameIndex := 361, descriptorIndex := 339, attributes := #[] }, { accessFlags := 26, nameIndex := 364, descriptorIndex := 339, attributes := #[] }, { accessFlags := 26, nameIndex := 365, descriptorIndex := 339, attributes := #[] }, { accessFlags := 26, nameIndex := 172, descriptorIndex := 173, attributes := #[] }, { accessFlags := 26, nameIndex := 176, descriptorIndex := 173, attributes := #[] }, { accessFlags := 8, nameIndex := 344, descriptorIndex := 339, attributes := #[] }, { accessFlags := 8, nameIndex := 338, descriptorIndex := 339, attributes := #[] }, { accessFlags := 4120, nameIndex := 245, descriptorIndex := 246, attributes := #[] }])
  fields := #[{ name := "E", type := .double, accessFlags := 25, slot := 0, constantValue := 0 }, { name := "PI", type := .double, accessFlags := 25, slot := 1, constantValue := 0 }, { name := "TAU", type := .double, accessFlags := 25, slot := 2, constantValue := 0 }, { name := "DEGREES_TO_RADIANS", type := .double, accessFlags := 26, slot := 3, constantValue := 0 }, { name := "RADIANS_TO_DEGREES", type := .double, accessFlags := 26, slot := 4, constantValue := 0 }, { name := "negativeZeroFloatBits", type := .long, accessFlags := 26, slot := 5, constantValue := 0 }, { name := "negativeZeroDoubleBits", type := .long, accessFlags := 26, slot := 6, constantValue := 0 }, { name := "twoToTheDoubleScaleUp", type := .double, accessFlags := 8, slot := 7, constantValue := 0 }, { name := "twoToTheDoubleScaleDown", type := .double, accessFlags := 8, slot := 8, constantValue := 0 }, { name := "$assertionsDisabled", type := .boolean, accessFlags := 4120, slot := 9, constantValue := 0 }]
  methods := #[k3m0, k3m1]
  instanceTypes := #[]
  staticTypes := #[.double, .double, .double, .double, .double, .long, .long, .double, .double, .boolean]
  resolved := Array.replicate 460 none
  statics := none }

def pool4 : Array CpInfo := pool [(1, u "java/lang/Cloneable"), (0, .class_ 1), (0, u "java/lang/Object"), (0, .class_ 3)] 3

/-- java/lang/Cloneable -/
def k4 : Class := { plain "java/lang/Cloneable" (some 0) with
  accessFlags := 1537
  interfaces := #[]
  cf := some (fileOf pool4 2 #[] #[] 1537 4 #[] #[])
  fields := #[]
  methods := #[]
  instanceTypes := #[]
  staticTypes := #[]
  resolved := Array.replicate 8 none
  statics := none }

def pool5 : Array CpInfo := pool [(1, u "java/io/Serializable"), (0, .class_ 1), (0, u "java/lang/Object"), (0, .class_ 3)] 3

/-- java/io/Serializable -/
def k5 : Class := { plain "java/io/Serializable" (some 0) with
  accessFlags := 1537
  interfaces := #[]
  cf := some (fileOf pool5 2 #[] #[] 1537 4 #[] #[])
  fields := #[]
  methods := #[]
  instanceTypes := #[]
  staticTypes := #[]
  resolved := Array.replicate 8 none
  statics := none }

/-- the primitive boolean -/
def k6 : Class := { plain "boolean" none with kind := .primitive 'Z', accessFlags := 0x411 }
/-- [Z -/
def k7 : Class := { plain "[Z" (some 0) with kind := .array 6 .boolean, interfaces := #[4, 5], accessFlags := 1041 }

/-- the primitive byte -/
def k8 : Class := { plain "byte" none with kind := .primitive 'B', accessFlags := 0x411 }
/-- [B -/
def k9 : Class := { plain "[B" (some 0) with kind := .array 8 .byte, interfaces := #[4, 5], accessFlags := 1041 }

/-- the primitive int -/
def k10 : Class := { plain "int" none with kind := .primitive 'I', accessFlags := 0x411 }
/-- [I -/
def k11 : Class := { plain "[I" (some 0) with kind := .array 10 .int, interfaces := #[4, 5], accessFlags := 1041 }

def heap : Heap := #[]
def classes : Array Class := #[k0, k1, k2, k3, k4, k5, k6, k7, k8, k9, k10, k11]
def interned : List (Array UInt16 × Addr) := []
def slotsUsed : Nat := 0
def theMethod : MethodId := ⟨1, 1⟩
def args0 : Array Value := #[.int 5, .int 6, .int 7, .int 8, .int 9]
def aboutOver (below : List Frame) : State where
  vm := { classes := classes, interned := interned.toArray }
  heap := heap
  slotsUsed := slotsUsed
  threads := #[{ frames := .invoking theMethod args0 :: below }]
def below0 : List Frame := [.native { method := ⟨0, 0⟩, args := #[] }]
def about1 : State := aboutOver below0
def p0 : Program := .bare "" "" ""
def e0 : Env := launch0.env 0 0 0
theorem w_frames : about1.frames = Frame.invoking theMethod args0 :: below0 := rfl
set_option maxRecDepth 65536 in
theorem w_args : argsFit about1.vm theMethod args0 = true := by decide +kernel
set_option maxRecDepth 65536 in
theorem w_heap : heapFits about1 = true := by decide +kernel
set_option maxRecDepth 65536 in
theorem w_runnable : about1.curStatus? = some .runnable := by decide +kernel
set_option maxRecDepth 65536 in
theorem w_alone : about1.alone = true := by decide +kernel
set_option maxRecDepth 65536 in
theorem w_named : about1.methodNamed? x = some theMethod := by decide +kernel
set_option maxRecDepth 65536 in
theorem w_hears : about1.hears theMethod below0 = true := by decide +kernel
set_option maxRecDepth 65536 in
theorem w_ripe : about1.ripe theMethod args0 below0 = true := by decide +kernel
theorem w_running : about1.status = .running := rfl
set_option maxRecDepth 65536 in
theorem w_room : about1.hasRoom e0.platform room_1 = true :=
  launch0.hasRoom_least _ room_1 (by decide +kernel) (by decide +kernel) (by decide +kernel) (by decide +kernel) (by decide +kernel) (by decide +kernel)
theorem allAtoms_all (ts : List Jvm.Cond) (a : Array Jvm.Value) (st : Jvm.State) : (allAtoms ts).before a st = ts.all (fun c => c.before a st) := by
  induction ts with
  | nil => rfl
  | cons c t ih =>
    show (Jvm.Cond.and c (allAtoms t)).before a st = _
    rw [Jvm.Cond.before_and, ih, List.all_cons]
def words1 : List Jvm.Cond := Jvm.Cond.code x code maxLocals ret :: tables_1
/-- a 'code' word, met by the world's own term for the bytes: nothing is compared byte by byte -/
theorem code_word {y : MethodName} {bytes : ByteArray} {mx : Nat} {rt : Option FieldType} {a : Array Value} {s : State} {m : MethodId} {meth : Method} {c : Code} (h1 : s.methodNamed? y = some m) (h2 : s.vm.method? m = some meth) (h3 : meth.code = some c) (h4 : c.code = bytes)
    (h5 : (c.maxLocals == mx && c.exceptionTable.isEmpty && decide (c.maxStack ≤ mostOperands) && decide (meth.sig.returnType = rt) && !meth.locks && decide (parseMethodDescriptor y.desc = some meth.sig)) = true) : (Jvm.Cond.code y bytes mx rt).before a s = true := by
  simp only [Bool.and_eq_true, beq_iff_eq, Bool.not_eq_true', decide_eq_true_eq] at h5
  obtain ⟨⟨⟨⟨⟨g1, g2⟩, g3⟩, g4⟩, g5⟩, g6⟩ := h5
  simp [Cond.before, Cond.holds, Cond.value, h1, h2, h3, h4, g1, g2, g3, g4, g5, g6]
def isCode : Jvm.Cond → Bool
  | .code _ _ _ _ => true
  | _ => false
theorem all_split {L : List Jvm.Cond} {P : Jvm.Cond → Bool} (h1 : L.all (fun c => isCode c || P c) = true) (h2 : ∀ c ∈ L.filter isCode, P c = true) : L.all P = true := by
  refine List.all_eq_true.mpr fun c hc => ?_
  have h := List.all_eq_true.mp h1 c hc
  rcases Bool.eq_false_or_eq_true (isCode c) with hi | hi
  · exact h2 c (List.mem_filter.mpr ⟨hc, hi⟩)
  · simpa [hi] using h
set_option maxRecDepth 65536 in
theorem w_c0 : (Jvm.Cond.code x code maxLocals ret).before args0 about1 = true := code_word (m := ⟨1, 1⟩) (meth := k1m1) (c := k1c1) (by decide +kernel) rfl rfl rfl (by decide +kernel)
set_option maxRecDepth 65536 in
theorem w_c1 : (Jvm.Cond.code ({ cls := "com/example/poukaz/poukaz/symbols/Png", name := "row", desc := "(II[ZI)[B" } : Jvm.MethodName) prog_104_method_2_code (11 : Nat) (Option.some (Jvm.ClassFile.FieldType.array Jvm.ClassFile.FieldType.byte))).before args0 about1 = true := code_word (m := ⟨2, 1⟩) (meth := k2m1) (c := k2c1) (by decide +kernel) rfl rfl rfl (by decide +kernel)
set_option maxRecDepth 65536 in
theorem w_c2 : (Jvm.Cond.code ({ cls := "java/lang/Math", name := "min", desc := "(II)I" } : Jvm.MethodName) jdk_29_method_69_code (2 : Nat) (Option.some Jvm.ClassFile.FieldType.int)).before args0 about1 = true := code_word (m := ⟨3, 1⟩) (meth := k3m1) (c := k3c1) (by decide +kernel) rfl rfl rfl (by decide +kernel)
def codes1 : List Jvm.Cond := [Jvm.Cond.code x code maxLocals ret, Jvm.Cond.code ({ cls := "com/example/poukaz/poukaz/symbols/Png", name := "row", desc := "(II[ZI)[B" } : Jvm.MethodName) prog_104_method_2_code (11 : Nat) (Option.some (Jvm.ClassFile.FieldType.array Jvm.ClassFile.FieldType.byte)), Jvm.Cond.code ({ cls := "java/lang/Math", name := "min", desc := "(II)I" } : Jvm.MethodName) jdk_29_method_69_code (2 : Nat) (Option.some Jvm.ClassFile.FieldType.int)]
set_option maxRecDepth 65536 in
theorem codes_eq : words1.filter isCode = codes1 := rfl
theorem w_codes : ∀ c ∈ words1.filter isCode, c.before args0 about1 = true := by
  rw [codes_eq]
  intro c hc
  simp only [codes1, List.mem_cons, List.not_mem_nil, or_false] at hc
  rcases hc with rfl | rfl | rfl
  · exact w_c0
  · exact w_c1
  · exact w_c2
set_option maxRecDepth 65536 in
theorem w_t1 : words1.all (fun c => isCode c || c.before args0 about1) = true := by decide +kernel
theorem w_tables : (allAtoms (Jvm.Cond.code x code maxLocals ret :: tables_1)).before args0 about1 = true := by
  rw [allAtoms_all]
  show words1.all (fun c => c.before args0 about1) = true
  refine all_split ?_ w_codes
  rw [w_t1]
set_option maxRecDepth 65536 in
theorem w_case : (Jvm.Cond.and given_1 narrow_1).before args0 about1 = true := by decide +kernel
theorem w_applies : (headSpec (Jvm.Cond.code x code maxLocals ret :: tables_1) room_1).applies x e0.platform about1 = true :=
  (Spec.applies_iff w_frames).mpr ⟨w_running, w_runnable, w_alone, w_named, w_hears, w_ripe, w_room, w_tables⟩
theorem atStart : AtStart classFile x code maxLocals ret World_1 tables_1 room_1 Calls_1 rest_1 Pre_1 launch0 p0 e0 about1 theMethod args0 below0 :=
  ⟨lists_1, trivial, launch0.admits_env _ _ _, launch0.least_env, fairChoices_fair.cas, fairChoices_fair.clock, w_frames, w_args, w_heap, w_applies, trivial, trivial, w_case⟩
end start1
theorem witness_1 : WitnessClaimed_1 := ⟨start1.p0, start1.e0, start1.about1, start1.theMethod, start1.args0, start1.below0, start1.atStart⟩
end Jvm.Pilot.@@N@@
