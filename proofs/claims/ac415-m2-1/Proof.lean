import JvmDerived
import JvmDerived.Pilot.@@N@@Statement
import JvmDerived.Pilot.@@N@@Code
set_option linter.unusedVariables false
set_option linter.unusedSimpArgs false
namespace Jvm.RoadKit
open Sem ClassFile Op Lib Jvm.Stand Jvm.Free Jvm.LawKit
section New
variable {p : Program} {l : Launch} {e : Env} {R : Room} {s : State} {m : MethodId} {args : Array Value} {below : List Frame} {meth : Method} {c : Code} {T : State} {locs : List Loc} {cells slots : Nat}
theorem retI (X : Stand p l e R s m args below meth c T locs cells slots) (hx : p.tables.exec = Jvm.exec) {pc : Nat} {Ls : Array Slot} {z : Int32} {rest : List Value} (hret : meth.sig.returnType = some .int) (hd : decode c.code pc = .ok (.ireturn, 1)) {fs : List Frame}
    (hl : ∀ (f : JFrame) (acts : List Action), f.method = m → f.locked = none → f.entered = [] → (doReturn e (T.setTop f) acts (some (.int z))).1 = T.setFrames fs) : Steps p.tables e below (T.setTop (mkF m pc Ls (.int z :: rest))) (T.setFrames fs) := by
  have hm' : T.vm.method? m = some meth := X.method'
  have hn : narrow .int (.int z) = .int z := rfl
  show Steps p.tables e below (T.setTop { method := m, pc := pc, locals := Ls, stack := _ :: rest, locked := none }) _
  jvm_step X.here [X.here.top, hx, hd, hm', hret, hn]
  first | (intro acts; rw [hl _ acts rfl rfl rfl]) | rw [hl _ _ rfl rfl rfl]
  exact Steps.refl _
end New
end Jvm.RoadKit
namespace Jvm.Pilot.@@N@@
open Jvm Jvm.ClassFile Sem Op Lib Jvm.Free Jvm.Stand Jvm.LawKit Jvm.RoadKit Bundle Jvm.Pilot.@@N@@.Jvm.D
-- from the state st the run ends, and Q holds of what it leaves
def GoalS (tb : Tables) (e : Env) (below : List Frame) (s : State) (kc ks : Nat) (Q : Option Value → Heap → List Loc → Prop) (st : State) : Prop :=
  ∃ s₂ o, Steps tb e below st s₂ ∧ s₂.status = .running ∧ Ended s₂ below o ∧ ∃ v L, o = .returned v ∧ Q v s₂.heap L ∧ FrameEnd s o s₂ L kc ks
theorem GoalS.lift {tb : Tables} {e : Env} {below : List Frame} {s : State} {kc ks : Nat} {Q : Option Value → Heap → List Loc → Prop} {A B : State}
    (h : ∀ t, Steps tb e below B t → Steps tb e below A t) (g : GoalS tb e below s kc ks Q B) : GoalS tb e below s kc ks Q A := by
  obtain ⟨s₂, o, h1, h2⟩ := g
  exact ⟨s₂, o, h _ h1, h2⟩
-- an array of n places of which place i holds f i
def AV (Z : State) (h : Heap) (a : Addr) (k : ClassId) (ty : FieldType) (n : Nat) (f : Nat → Value) : Prop := ∃ c : Cell, Arr Z h a c ty ∧ c.cls = k ∧ c.slots.size = n ∧ n < 2147483648 ∧ ∀ i, i < n → c.slots[i]? = some (f i)
def updI (f : Nat → Int32) (j : Nat) (v : Int32) : Nat → Int32 := fun i => if i = j then v else f i
def updJ (f : Nat → Int64) (j : Nat) (v : Int64) : Nat → Int64 := fun i => if i = j then v else f i
def updR (f : Nat → Value) (j : Nat) (v : Value) : Nat → Value := fun i => if i = j then v else f i
section Own
variable {Z : State} {h h' : Heap} {a b : Addr} {k : ClassId} {ty : FieldType} {n : Nat} {f g : Nat → Value} {ws : List Addr} {v : Value} {sl : Nat}
theorem AV.lt (F : AV Z h a k ty n f) : a < h.size := by obtain ⟨c, A, -⟩ := F; exact A.lt
theorem AV.ext (F : AV Z h a k ty n f) (E : Ext h h') : AV Z h' a k ty n f := by obtain ⟨c, A, r⟩ := F; exact ⟨c, A.ext E, r⟩
theorem AV.other (F : AV Z h b k ty n f) (W : Wr h h' a sl v) (q : b ≠ a) : AV Z h' b k ty n f := by obtain ⟨c, A, r⟩ := F; exact ⟨c, A.other W q, r⟩
theorem AV.keep (F : AV Z h a k ty n f) (K : Keep h h' ws) (q : a ∉ ws) : AV Z h' a k ty n f := by obtain ⟨c, A, r⟩ := F; exact ⟨c, ⟨K.2.1 a c A.1 q, A.2⟩, r⟩
theorem AV.new {z : Int32} (A : Arr Z h a (newA k ty z) ty) (q : ¬ z < 0) (hn : z.toNatClampNeg = n) (hb : n < 2147483648) : AV Z h a k ty n (fun _ => defaultValue ty) :=
  ⟨_, A, rfl, (sz_new _ _ _).trans hn, hb, fun i hi => by simp [newA, hn, hi]⟩
theorem AV.inb {c : Cell} {j : Int32} (S : c.slots.size = n) (q : ¬ j < 0 ∧ j.toNatClampNeg < n) : ¬ (j < 0 ∨ c.slots.size ≤ j.toNatClampNeg) := fun u => u.elim q.1 fun w => by omega
theorem AV.inx {j : Int32} (q : ¬ j < 0 ∧ j.toNatClampNeg < n) : j.toNatClampNeg < n := q.2
theorem AV.conv (F : AV Z h a k ty n f) (e : ∀ i, i < n → f i = g i) : AV Z h a k ty n g := by
  obtain ⟨c, A, r1, r2, r3, r4⟩ := F; exact ⟨c, A, r1, r2, r3, fun i hi => (r4 i hi).trans (congrArg some (e i hi))⟩
theorem AV.putR {j : Nat} (F : AV Z h a k ty n f) (W : Wr h h' a j v) (hj : j < n) : AV Z h' a k ty n (updR f j v) := by
  obtain ⟨c, A, r1, r2, r3, r4⟩ := F
  refine ⟨_, A.same W, r1, (sz_set _ _ _).trans r2, r3, fun i hi => ?_⟩
  by_cases q : i = j
  · subst q; simp [Cell.setSlot, updR, r2, hi]
  · have q' : j ≠ i := fun u => q u.symm
    simp only [Cell.setSlot, updR, if_neg q]; rw [Array.getElem?_setIfInBounds_ne q']; exact r4 i hi
theorem AV.putI {j : Nat} {f : Nat → Int32} {v : Int32} (F : AV Z h a k ty n (fun i => Value.int (f i))) (W : Wr h h' a j (.int v)) (hj : j < n) : AV Z h' a k ty n (fun i => Value.int (updI f j v i)) :=
  (F.putR W hj).conv fun i _ => by simp only [updR, updI]; split <;> rfl
theorem AV.putJ {j : Nat} {f : Nat → Int64} {v : Int64} (F : AV Z h a k ty n (fun i => Value.long (f i))) (W : Wr h h' a j (.long v)) (hj : j < n) : AV Z h' a k ty n (fun i => Value.long (updJ f j v i)) :=
  (F.putR W hj).conv fun i _ => by simp only [updR, updJ]; split <;> rfl
end Own

def own_digit (q1 : Int64) (q2 : Int64) (p3 : Int32) : Int32 := (if p3 < (10 : Int32) then (((((((q1).toUInt64 >>> (((6 : Int32) * p3) &&& 0x3f).toInt64.toUInt64).toInt64) &&& (63 : Int64)) - (((((q1).toUInt64 >>> (((6 : Int32) * p3) &&& 0x3f).toInt64.toUInt64).toInt64) &&& (63 : Int64)) / (10 : Int64)) * (10 : Int64))).toInt32) else (((((((q2).toUInt64 >>> (((6 : Int32) * (p3 - (10 : Int32))) &&& 0x3f).toInt64.toUInt64).toInt64) &&& (63 : Int64)) - (((((q2).toUInt64 >>> (((6 : Int32) * (p3 - (10 : Int32))) &&& 0x3f).toInt64.toUInt64).toInt64) &&& (63 : Int64)) / (10 : Int64)) * (10 : Int64))).toInt32))
def own_term (p3 : Int32) (p4 : Int32) (p5 : Int32) (f1 : Nat → Int32) (f2 : Nat → Int64) : Int64 := (if p3 < p4 then (0 : Int64) else (if p3 < (p4 + p5) then ((((f1 (p3).toNatClampNeg)).toInt64) * (f2 ((((p4 + p5) - (1 : Int32)) - p3)).toNatClampNeg)) else (0 : Int64)))
def own_num (g : Nat → Int32) (s : Nat) : Nat → Int64
  | 0 => 0
  | n + 1 => ((own_num g s n * (10 : Int64)) + (g (s + n)).toInt64) - (48 : Int64)
theorem own_of {x : Int32} (h : ¬ x < 0) : x = Int32.ofNat x.toNatClampNeg := by
  have e0 : (0 : Int32).toInt = 0 := rfl
  rw [Int32.lt_iff_toInt_lt] at h
  apply Int32.toInt_inj.mp
  have := x.toInt_lt
  have e : x.toNatClampNeg = x.toInt.toNat := rfl
  rw [Int32.toInt_ofNat_of_lt (by omega)]; omega
theorem own_lt {a n : Nat} (hn : n < 64) (ha : a < 64) : (Int32.ofNat a < Int32.ofNat n) ↔ a < n := by
  rw [Int32.lt_iff_toInt_lt, Int32.toInt_ofNat_of_lt (by omega), Int32.toInt_ofNat_of_lt (by omega)]; omega
theorem own_up (a : Nat) : Int32.ofNat a + (1 : Int32) = Int32.ofNat (a + 1) := by rw [Int32.ofNat_add]; rfl
theorem own_addn (a b : Nat) : Int32.ofNat a + Int32.ofNat b = Int32.ofNat (a + b) := by rw [Int32.ofNat_add]
theorem own_subn {a b : Nat} (h : b ≤ a) : Int32.ofNat a - Int32.ofNat b = Int32.ofNat (a - b) := by
  rw [show a = (a - b) + b by omega, Int32.ofNat_add, Int32.add_sub_cancel, Nat.add_sub_cancel]
theorem own_nat {x : Int32} {N : Nat} (h : x = Int32.ofNat N) (hN : N < 64) : ¬ x < 0 ∧ x.toNatClampNeg = N := by
  have e : x.toInt = N := by rw [h, Int32.toInt_ofNat_of_lt (by omega)]
  have e0 : (0 : Int32).toInt = 0 := rfl
  refine ⟨by rw [Int32.lt_iff_toInt_lt]; omega, ?_⟩
  show x.toInt.toNat = N
  omega
theorem own_ix {j O W : Nat} (h1 : O ≤ j) (h2 : j < O + W) : ((Int32.ofNat O + Int32.ofNat W) - (1 : Int32)) - Int32.ofNat j = Int32.ofNat (O + W - 1 - j) := by
  rw [own_addn, show (1 : Int32) = Int32.ofNat 1 from rfl, own_subn (by omega), own_subn (by omega)]
theorem own_tix {p3 p4 p5 : Int32} {O W : Nat} (hin : ¬ p3 < 0 ∧ (p3).toNatClampNeg < 18) (hO : p4 = Int32.ofNat O ∧ p5 = Int32.ofNat W ∧ O + W ≤ 18) (h1 : ¬ p3 < p4) (h2 : p3 < (p4 + p5)) : ¬ (((p4 + p5) - (1 : Int32)) - p3) < 0 ∧ (((p4 + p5) - (1 : Int32)) - p3).toNatClampNeg < 18 := by
  obtain ⟨rfl, rfl, hs⟩ := hO
  have e := own_of hin.1
  generalize p3.toNatClampNeg = j at hin e
  subst e
  rw [own_lt (by omega) (by omega)] at h1
  rw [own_addn, own_lt (by omega) (by omega)] at h2
  rw [own_ix (by omega) (by omega)]
  have := own_nat (x := Int32.ofNat (O + W - 1 - j)) rfl (by omega)
  exact ⟨this.1, by rw [this.2]; omega⟩
theorem own_extI {F f g : Nat → Int32} {n x : Nat} {v : Int32} (h : ∀ i, i < n → f i = F i) (e : g = updI f x v) (hx : x = n) (hv : v = F n) : ∀ i, i < n + 1 → g i = F i := fun i hi => by
  rw [e, updI]
  by_cases q : i = x
  · rw [if_pos q, hv, q, hx]
  · rw [if_neg q]; exact h i (by omega)
theorem own_extJ {F f g : Nat → Int64} {n x : Nat} {v : Int64} (h : ∀ i, i < n → f i = F i) (e : g = updJ f x v) (hx : x = n) (hv : v = F n) : ∀ i, i < n + 1 → g i = F i := fun i hi => by
  rw [e, updJ]
  by_cases q : i = x
  · rw [if_pos q, hv, q, hx]
  · rw [if_neg q]; exact h i (by omega)
def own_p10 : Nat → Int64
  | 0 => 1
  | n + 1 => own_p10 n * 10
def own_sum (F : Nat → Int64) : Nat → Int64
  | 0 => 0
  | m + 1 => own_sum F m + F m
theorem own_term_eq {f1 : Nat → Int32} {f2 : Nat → Int64} {O W j : Nat} (hs : O + W ≤ 18) (hj : j < 18) (hP : ∀ k, k < 18 → f2 k = own_p10 k) : own_term (Int32.ofNat j) (Int32.ofNat O) (Int32.ofNat W) f1 f2 = if O ≤ j ∧ j < O + W then (f1 j).toInt64 * own_p10 (O + W - 1 - j) else 0 := by
  have ej := own_nat (x := Int32.ofNat j) rfl (by omega)
  rw [own_term]
  by_cases h1 : O ≤ j
  · rw [if_neg (show ¬ Int32.ofNat j < Int32.ofNat O by rw [own_lt (by omega) (by omega)]; omega)]
    by_cases h2 : j < O + W
    · rw [if_pos (show Int32.ofNat j < Int32.ofNat O + Int32.ofNat W by rw [own_addn, own_lt (by omega) (by omega)]; omega), if_pos ⟨h1, h2⟩, own_ix h1 h2, ej.2]
      have := own_nat (x := Int32.ofNat (O + W - 1 - j)) rfl (by omega)
      rw [this.2, hP _ (by omega)]
    · rw [if_neg (show ¬ Int32.ofNat j < Int32.ofNat O + Int32.ofNat W by rw [own_addn, own_lt (by omega) (by omega)]; omega), if_neg (by omega)]
  · rw [if_pos (show Int32.ofNat j < Int32.ofNat O by rw [own_lt (by omega) (by omega)]; omega), if_neg (by omega)]
theorem own_horner (D : Nat → Int64) (O n : Nat) : ∀ m, own_sum (fun j => if O ≤ j ∧ j < O + (n + 1) then D j * own_p10 (O + (n + 1) - 1 - j) else 0) m = own_sum (fun j => if O ≤ j ∧ j < O + n then D j * own_p10 (O + n - 1 - j) else 0) m * 10 + (if O + n < m then D (O + n) else 0)
  | 0 => by simp [own_sum]
  | m + 1 => by
    have ih := own_horner D O n m
    simp only [own_sum] at ih ⊢
    rw [ih, Int64.add_mul]
    by_cases h1 : O ≤ m
    · by_cases h2 : m < O + n
      · have e : O + (n + 1) - 1 - m = (O + n - 1 - m) + 1 := by omega
        rw [if_pos (show O ≤ m ∧ m < O + (n + 1) by omega), if_pos (show O ≤ m ∧ m < O + n by omega), if_neg (show ¬ O + n < m by omega), if_neg (show ¬ O + n < m + 1 by omega), e, own_p10, Int64.mul_assoc]
        simp
      · by_cases h3 : m = O + n
        · subst h3
          rw [if_pos (show O ≤ O + n ∧ O + n < O + (n + 1) by omega), if_neg (show ¬ (O ≤ O + n ∧ O + n < O + n) by omega), if_neg (show ¬ O + n < O + n by omega), if_pos (show O + n < O + n + 1 by omega), show O + (n + 1) - 1 - (O + n) = 0 by omega, own_p10]
          simp
        · rw [if_neg (show ¬ (O ≤ m ∧ m < O + (n + 1)) by omega), if_neg (show ¬ (O ≤ m ∧ m < O + n) by omega), if_pos (show O + n < m by omega), if_pos (show O + n < m + 1 by omega)]
          simp
    · rw [if_neg (show ¬ (O ≤ m ∧ m < O + (n + 1)) by omega), if_neg (show ¬ (O ≤ m ∧ m < O + n) by omega), if_neg (show ¬ O + n < m by omega), if_neg (show ¬ O + n < m + 1 by omega)]
      simp
theorem own_zero (D : Nat → Int64) (O : Nat) : ∀ m, own_sum (fun j => if O ≤ j ∧ j < O + 0 then D j * own_p10 (O + 0 - 1 - j) else 0) m = 0
  | 0 => rfl
  | m + 1 => by rw [own_sum, own_zero D O m, if_neg (by omega)]; rfl
theorem own_num_eq {g : Nat → Int32} {D : Nat → Int64} {O : Nat} (hD : ∀ j, j < 18 → (g j).toInt64 - 48 = D j) : ∀ n, O + n ≤ 18 → own_num g O n = own_sum (fun j => if O ≤ j ∧ j < O + n then D j * own_p10 (O + n - 1 - j) else 0) 18
  | 0, _ => by rw [own_zero]; rfl
  | n + 1, h => by
    rw [own_num, own_num_eq hD n (by omega), own_horner, if_pos (show O + n < 18 by omega), ← hD _ (show O + n < 18 by omega), Int64.sub_eq_add_neg, Int64.sub_eq_add_neg, Int64.add_assoc]
theorem own_sum_congr {F G : Nat → Int64} : ∀ m, (∀ j, j < m → F j = G j) → own_sum F m = own_sum G m
  | 0, _ => rfl
  | m + 1, h => by rw [own_sum, own_sum, own_sum_congr m (fun j hj => h j (by omega)), h m (by omega)]
theorem own_digr (a b : Int64) (j : Int32) : 0 ≤ (own_digit a b j).toInt ∧ (own_digit a b j).toInt ≤ 9 := by
  have g : ∀ y : Int64, 0 ≤ ((((y &&& (63 : Int64)) - ((y &&& (63 : Int64)) / (10 : Int64)) * (10 : Int64))).toInt32).toInt ∧ ((((y &&& (63 : Int64)) - ((y &&& (63 : Int64)) / (10 : Int64)) * (10 : Int64))).toInt32).toInt ≤ 9 := fun y => by
    have h0 := (c_andSL y (63 : Int64)).2.2 (by decide)
    have h1 := (c_lrem (y &&& (63 : Int64)) (10 : Int64) 10 rfl).1 h0
    have h2 := c_l2i ((y &&& (63 : Int64)) - ((y &&& (63 : Int64)) / (10 : Int64)) * (10 : Int64))
    have := rng32 (((y &&& (63 : Int64)) - ((y &&& (63 : Int64)) / (10 : Int64)) * (10 : Int64))).toInt32
    omega
  rw [own_digit]
  split <;> exact g _
theorem own_byte {d : Int32} (h : 0 ≤ d.toInt ∧ d.toInt ≤ 9) : ((((((48 : Int32) + d)).toInt8.toInt32).toInt8.toInt32).toInt64) - (48 : Int64) = d.toInt64 := by
  have h1 := c_iadd 48 d
  have e : (48 : Int32).toInt = 48 := rfl
  have h2 := rng32 ((48 : Int32) + d)
  have h3 := c_i2b ((48 : Int32) + d)
  have h4 := c_i2b (((48 : Int32) + d)).toInt8.toInt32
  have e2 : (48 : Int64).toInt = 48 := rfl
  have h5 := c_lsub ((((((48 : Int32) + d)).toInt8.toInt32).toInt8.toInt32).toInt64) (48 : Int64)
  have h6 := rng64 (((((((48 : Int32) + d)).toInt8.toInt32).toInt8.toInt32).toInt64) - (48 : Int64))
  rw [c_i2l] at h5
  apply Int64.toInt_inj.mp
  rw [c_i2l]
  omega
theorem own_fin {fd fr : Nat → Int32} {fp : Nat → Int64} {O W : Nat} (hs : O + W ≤ 18) (hP : ∀ k, k < 18 → fp k = own_p10 k) (hR : ∀ j, j < 18 → (fr j).toInt64 - 48 = (fd j).toInt64) :
    own_num fr O W = own_sum (fun j => own_term (Int32.ofNat j) (Int32.ofNat O) (Int32.ofNat W) fd fp) 18 := by
  rw [own_num_eq hR W hs]
  exact own_sum_congr 18 fun j hj => (own_term_eq hs hj hP).symm
theorem own_wd (x : Int32) : ∃ N : Nat, N < 19 ∧ ((x &&& (2147483647 : Int32)) % (19 : Int32)) = Int32.ofNat N := by
  have h1 : 0 ≤ (x &&& (2147483647 : Int32)).toInt := (c_andS x (2147483647 : Int32)).2.2 (by decide)
  have h2 := (c_irem (x &&& (2147483647 : Int32)) (19 : Int32) 19 rfl).1 h1
  refine ⟨((x &&& (2147483647 : Int32)).toInt % 19).toNat, by omega, ?_⟩
  apply Int32.toInt_inj.mp
  rw [h2, Int32.toInt_ofNat_of_lt (by omega)]; omega
theorem own_19 {wd : Int32} {W : Nat} (hW : W < 19) (h : wd = Int32.ofNat W) : (19 : Int32) - wd = Int32.ofNat (19 - W) := by
  rw [h, show (19 : Int32) = Int32.ofNat 19 from rfl, own_subn (by omega)]
theorem own_nz {wd : Int32} {W : Nat} (hW : W < 19) (h : wd = Int32.ofNat W) : (19 : Int32) - wd ≠ 0 := fun q => by
  rw [own_19 hW h] at q
  have := congrArg Int32.toInt q
  rw [Int32.toInt_ofNat_of_lt (by omega)] at this
  have e : (0 : Int32).toInt = 0 := rfl
  omega
theorem own_os (x : Int32) {wd : Int32} {W : Nat} (hW : W < 19) (h : wd = Int32.ofNat W) : ∃ O : Nat, O + W ≤ 18 ∧ ((x &&& (2147483647 : Int32)) % ((19 : Int32) - wd)) = Int32.ofNat O := by
  have h1 : 0 ≤ (x &&& (2147483647 : Int32)).toInt := (c_andS x (2147483647 : Int32)).2.2 (by decide)
  have e : ((19 : Int32) - wd).toInt = ((19 - W : Nat) : Int) := by rw [own_19 hW h, Int32.toInt_ofNat_of_lt (by omega)]
  have h2 := (c_iremV (x &&& (2147483647 : Int32)) ((19 : Int32) - wd)).1 h1 (by omega)
  refine ⟨((x &&& (2147483647 : Int32)) % ((19 : Int32) - wd)).toInt.toNat, by omega, ?_⟩
  apply Int32.toInt_inj.mp
  rw [Int32.toInt_ofNat_of_lt (by omega)]; omega

theorem d2_0 : decode method_2_code 0 = .ok (.iload 4, 2) := by decide +kernel
theorem d2_2 : decode method_2_code 2 = .ok (.bipush 10, 2) := by decide +kernel
theorem d2_4 : decode method_2_code 4 = .ok (.if_icmp .ge 7, 3) := by decide +kernel
theorem d2_7 : decode method_2_code 7 = .ok (.lload_n 0, 1) := by decide +kernel
theorem d2_8 : decode method_2_code 8 = .ok (.goto 4, 3) := by decide +kernel
theorem d2_11 : decode method_2_code 11 = .ok (.lload_n 2, 1) := by decide +kernel
theorem d2_12 : decode method_2_code 12 = .ok (.lstore 5, 2) := by decide +kernel
theorem d2_14 : decode method_2_code 14 = .ok (.iload 4, 2) := by decide +kernel
theorem d2_16 : decode method_2_code 16 = .ok (.bipush 10, 2) := by decide +kernel
theorem d2_18 : decode method_2_code 18 = .ok (.if_icmp .ge 8, 3) := by decide +kernel
theorem d2_21 : decode method_2_code 21 = .ok (.iload 4, 2) := by decide +kernel
theorem d2_23 : decode method_2_code 23 = .ok (.goto 8, 3) := by decide +kernel
theorem d2_26 : decode method_2_code 26 = .ok (.iload 4, 2) := by decide +kernel
theorem d2_28 : decode method_2_code 28 = .ok (.bipush 10, 2) := by decide +kernel
theorem d2_30 : decode method_2_code 30 = .ok (.isub, 1) := by decide +kernel
theorem d2_31 : decode method_2_code 31 = .ok (.istore 7, 2) := by decide +kernel
theorem d2_33 : decode method_2_code 33 = .ok (.lload 5, 2) := by decide +kernel
theorem d2_35 : decode method_2_code 35 = .ok (.bipush 6, 2) := by decide +kernel
theorem d2_37 : decode method_2_code 37 = .ok (.iload 7, 2) := by decide +kernel
theorem d2_39 : decode method_2_code 39 = .ok (.imul, 1) := by decide +kernel
theorem d2_40 : decode method_2_code 40 = .ok (.lushr, 1) := by decide +kernel
theorem d2_41 : decode method_2_code 41 = .ok (.ldc2_w 7, 3) := by decide +kernel
theorem d2_44 : decode method_2_code 44 = .ok (.land, 1) := by decide +kernel
theorem d2_45 : decode method_2_code 45 = .ok (.ldc2_w 9, 3) := by decide +kernel
theorem d2_48 : decode method_2_code 48 = .ok (.lrem, 1) := by decide +kernel
theorem d2_49 : decode method_2_code 49 = .ok (.l2i, 1) := by decide +kernel
theorem d2_50 : decode method_2_code 50 = .ok (.ireturn, 1) := by decide +kernel
theorem pn_0 : plainName "com/example/poukaz/poukaz/FieldKindNumberPinLaw" = true := by first | (simp [plainName, overriddenIn]; done) | decide +kernel
theorem ef_rm2 (m : MethodId) (q1 : Int64) (q2 : Int64) (p3 : Int32) : entryFrame m #[(.long q1), (.long q2), (.int p3)] 8 = mkF m 0 #[.val (.long q1), .second, .val (.long q2), .second, .val (.int p3), .unset, .unset, .unset] [] := by first | (simp [entryFrame, mkF, argsToLocals, Value.category]; done) | rfl
def Q2 (Z : State) (q1 : Int64) (q2 : Int64) (p3 : Int32) (h0 : Heap) (n0 : Nat) (v : Option Value) (h : Heap) (L : List Loc) : Prop := v = some (.int (own_digit q1 q2 p3)) ∧ Fr n0 L ∧ h = h0
set_option maxRecDepth 65536 in
set_option maxHeartbeats 40000000 in
theorem rm2 (l : Launch) (Z : State) (a0 : Array Value) (hw : ∀ d ∈ tables_1, d.before a0 Z = true) (ws : List Jvm.Cond) (q1 : Int64) (q2 : Int64) (p3 : Int32) (h0 : Heap) (n0 : Nat) (Z0 : n0 ≤ h0.size) :
    MetFree l (⟨"com/example/poukaz/poukaz/FieldKindNumberPinLaw", "digit", "(JJI)I"⟩ : MethodName) (head1 (Jvm.Cond.code (⟨"com/example/poukaz/poukaz/FieldKindNumberPinLaw", "digit", "(JJI)I"⟩ : MethodName) method_2_code 8 (some .int) :: ws) ({ frames := 0, cells := 0, slots := 0, locals := 0 } : Room)) (fun a U => a = #[(.long q1), (.long q2), (.int p3)] ∧ Z.Warmed39 U.vm ∧ U.heap = h0) (fun _ _ _ _ _ => True) (fun _ U o U' => ∃ v L, o = .returned v ∧ Q2 Z q1 q2 p3 h0 n0 v U'.heap L ∧ FrameEnd U o U' L ({ frames := 0, cells := 0, slots := 0, locals := 0 } : Room).cells ({ frames := 0, cells := 0, slots := 0, locals := 0 } : Room).slots) := by
  refine MetFree.of_bodySF (plainFor_of_name pn_0) hisR ?_
  intro p e s m args below meth c s₁ Bd hml0 hP hK
  obtain ⟨rfl, hZ, hh⟩ := hP
  have hx := Bd.exec
  have hby := Bd.bytes
  have hml : c.maxLocals = 8 := hml0
  have hown : s.vm.findClass "com/example/poukaz/poukaz/FieldKindNumberPinLaw" = some m.cls := findClass_of_methodNamed Bd.named
  have hnm := (name_of_methodNamed Bd.named Bd.method).1
  have X0 : Stand p l e ({ frames := 0, cells := 0, slots := 0, locals := 0 } : Room) s m #[(.long q1), (.long q2), (.int p3)] below meth c s₁ [] 0 0 := Stand.of_body Bd
  have e0 : s₁.heap = h0 := by rw [← hh, Bd.state]; rfl
  have N0 := Fr.nil n0
  show GoalS p.tables e below s ({ frames := 0, cells := 0, slots := 0, locals := 0 } : Room).cells ({ frames := 0, cells := 0, slots := 0, locals := 0 } : Room).slots (Q2 Z q1 q2 p3 h0 n0) (s₁.setTop (entryFrame m #[(.long q1), (.long q2), (.int p3)] 8))
  refine GoalS.lift (B := s₁.setTop (mkF m 0 #[.val (.long q1), .second, .val (.long q2), .second, .val (.int p3), .unset, .unset, .unset] [])) (fun t k => castTop (ef_rm2 m q1 q2 p3) k) ?_
  have K0 : Keep h0 h0 [] := Keep.refl _ _
  refine GoalS.lift (B := (s₁.setTop (mkF m 4 #[.val (.long q1), .second, .val (.long q2), .second, .val (.int p3), .unset, .unset, .unset] [(.int (10 : Int32)), (.int p3)]))) (fun t k => ?_) ?_
  · show Steps p.tables e below (s₁.setTop (mkF m 0 #[.val (.long q1), .second, .val (.long q2), .second, .val (.int p3), .unset, .unset, .unset] [])) _
    refine XS.iload X0.here hx rfl (hb hby d2_0) rfl ?_
    show Steps p.tables e below (s₁.setTop (mkF m 2 #[.val (.long q1), .second, .val (.long q2), .second, .val (.int p3), .unset, .unset, .unset] [(.int p3)])) _
    refine XS.bipush X0.here hx rfl (hb hby d2_2) ?_
    show Steps p.tables e below (s₁.setTop (mkF m 4 #[.val (.long q1), .second, .val (.long q2), .second, .val (.int p3), .unset, .unset, .unset] [(.int (10 : Int32)), (.int p3)])) _
    exact k
  by_cases hc4_1 : p3 < (10 : Int32)
  · obtain ⟨fs, hr, hrun, hended, hW, hsame⟩ := X0.leave (v := some (.int (((((((q1).toUInt64 >>> (((6 : Int32) * p3) &&& 0x3f).toInt64.toUInt64).toInt64) &&& (63 : Int64)) - (((((q1).toUInt64 >>> (((6 : Int32) * p3) &&& 0x3f).toInt64.toUInt64).toInt64) &&& (63 : Int64)) / (10 : Int64)) * (10 : Int64))).toInt32))) (fun h => by rw [Bd.returns] at h; cases h)
    refine ⟨_, _, ?_, hrun, hended, _, _, rfl, ?_, ⟨_, rfl⟩, hW, hsame.mono (by decide) (by decide)⟩
    · show Steps p.tables e below (s₁.setTop (mkF m 4 #[.val (.long q1), .second, .val (.long q2), .second, .val (.int p3), .unset, .unset, .unset] [(.int (10 : Int32)), (.int p3)])) _
      refine XS.icmpNo X0.here hx rfl (hb hby d2_4) rfl ((tlt hc4_1).2.1) ?_
      show Steps p.tables e below (s₁.setTop (mkF m 7 #[.val (.long q1), .second, .val (.long q2), .second, .val (.int p3), .unset, .unset, .unset] [])) _
      refine XS.lloadN X0.here hx rfl (hb hby d2_7) rfl ?_
      show Steps p.tables e below (s₁.setTop (mkF m 8 #[.val (.long q1), .second, .val (.long q2), .second, .val (.int p3), .unset, .unset, .unset] [(.long q1)])) _
      refine XS.goto X0.here hx rfl (pc0 := 8) (pc' := 12) rfl (hb hby d2_8) (by decide) (by decide) ?_
      show Steps p.tables e below (s₁.setTop (mkF m 12 #[.val (.long q1), .second, .val (.long q2), .second, .val (.int p3), .unset, .unset, .unset] [(.long q1)])) _
      refine XS.lstore X0.here hx rfl (hb hby d2_12) rfl (l' := #[.val (.long q1), .second, .val (.long q2), .second, .val (.int p3), .val (.long q1), .second, .unset]) rfl ?_
      show Steps p.tables e below (s₁.setTop (mkF m 14 #[.val (.long q1), .second, .val (.long q2), .second, .val (.int p3), .val (.long q1), .second, .unset] [])) _
      refine XS.iload X0.here hx rfl (hb hby d2_14) rfl ?_
      show Steps p.tables e below (s₁.setTop (mkF m 16 #[.val (.long q1), .second, .val (.long q2), .second, .val (.int p3), .val (.long q1), .second, .unset] [(.int p3)])) _
      refine XS.bipush X0.here hx rfl (hb hby d2_16) ?_
      show Steps p.tables e below (s₁.setTop (mkF m 18 #[.val (.long q1), .second, .val (.long q2), .second, .val (.int p3), .val (.long q1), .second, .unset] [(.int (10 : Int32)), (.int p3)])) _
      refine XS.icmpNo X0.here hx rfl (hb hby d2_18) rfl ((tlt hc4_1).2.1) ?_
      show Steps p.tables e below (s₁.setTop (mkF m 21 #[.val (.long q1), .second, .val (.long q2), .second, .val (.int p3), .val (.long q1), .second, .unset] [])) _
      refine XS.iload X0.here hx rfl (hb hby d2_21) rfl ?_
      show Steps p.tables e below (s₁.setTop (mkF m 23 #[.val (.long q1), .second, .val (.long q2), .second, .val (.int p3), .val (.long q1), .second, .unset] [(.int p3)])) _
      refine XS.goto X0.here hx rfl (pc0 := 23) (pc' := 31) rfl (hb hby d2_23) (by decide) (by decide) ?_
      show Steps p.tables e below (s₁.setTop (mkF m 31 #[.val (.long q1), .second, .val (.long q2), .second, .val (.int p3), .val (.long q1), .second, .unset] [(.int p3)])) _
      refine XS.istore X0.here hx rfl (hb hby d2_31) rfl (l' := #[.val (.long q1), .second, .val (.long q2), .second, .val (.int p3), .val (.long q1), .second, .val (.int p3)]) rfl ?_
      show Steps p.tables e below (s₁.setTop (mkF m 33 #[.val (.long q1), .second, .val (.long q2), .second, .val (.int p3), .val (.long q1), .second, .val (.int p3)] [])) _
      refine XS.lload X0.here hx rfl (hb hby d2_33) rfl ?_
      show Steps p.tables e below (s₁.setTop (mkF m 35 #[.val (.long q1), .second, .val (.long q2), .second, .val (.int p3), .val (.long q1), .second, .val (.int p3)] [(.long q1)])) _
      refine XS.bipush X0.here hx rfl (hb hby d2_35) ?_
      show Steps p.tables e below (s₁.setTop (mkF m 37 #[.val (.long q1), .second, .val (.long q2), .second, .val (.int p3), .val (.long q1), .second, .val (.int p3)] [(.int (6 : Int32)), (.long q1)])) _
      refine XS.iload X0.here hx rfl (hb hby d2_37) rfl ?_
      show Steps p.tables e below (s₁.setTop (mkF m 39 #[.val (.long q1), .second, .val (.long q2), .second, .val (.int p3), .val (.long q1), .second, .val (.int p3)] [(.int p3), (.int (6 : Int32)), (.long q1)])) _
      refine XS.imul X0.here hx rfl (hb hby d2_39) rfl ?_
      show Steps p.tables e below (s₁.setTop (mkF m 40 #[.val (.long q1), .second, .val (.long q2), .second, .val (.int p3), .val (.long q1), .second, .val (.int p3)] [(.int ((6 : Int32) * p3)), (.long q1)])) _
      refine XS.lushr X0.here hx rfl (hb hby d2_40) rfl ?_
      show Steps p.tables e below (s₁.setTop (mkF m 41 #[.val (.long q1), .second, .val (.long q2), .second, .val (.int p3), .val (.long q1), .second, .val (.int p3)] [(.long (((q1).toUInt64 >>> (((6 : Int32) * p3) &&& 0x3f).toInt64.toUInt64).toInt64))])) _
      refine X0.ldc2Long hx hown (mvT hZ (hw _ (List.mem_of_getElem? (i := 28) rfl))) (g := (mkF m 41 #[.val (.long q1), .second, .val (.long q2), .second, .val (.int p3), .val (.long q1), .second, .val (.int p3)] [(.long (((q1).toUInt64 >>> (((6 : Int32) * p3) &&& 0x3f).toInt64.toUInt64).toInt64))])) rfl (hb hby d2_41) _ ?_
      show Steps p.tables e below (s₁.setTop (mkF m 44 #[.val (.long q1), .second, .val (.long q2), .second, .val (.int p3), .val (.long q1), .second, .val (.int p3)] [(.long (63 : Int64)), (.long (((q1).toUInt64 >>> (((6 : Int32) * p3) &&& 0x3f).toInt64.toUInt64).toInt64))])) _
      refine XS.land X0.here hx rfl (hb hby d2_44) rfl ?_
      show Steps p.tables e below (s₁.setTop (mkF m 45 #[.val (.long q1), .second, .val (.long q2), .second, .val (.int p3), .val (.long q1), .second, .val (.int p3)] [(.long ((((q1).toUInt64 >>> (((6 : Int32) * p3) &&& 0x3f).toInt64.toUInt64).toInt64) &&& (63 : Int64)))])) _
      refine X0.ldc2Long hx hown (mvT hZ (hw _ (List.mem_of_getElem? (i := 2) rfl))) (g := (mkF m 45 #[.val (.long q1), .second, .val (.long q2), .second, .val (.int p3), .val (.long q1), .second, .val (.int p3)] [(.long ((((q1).toUInt64 >>> (((6 : Int32) * p3) &&& 0x3f).toInt64.toUInt64).toInt64) &&& (63 : Int64)))])) rfl (hb hby d2_45) _ ?_
      show Steps p.tables e below (s₁.setTop (mkF m 48 #[.val (.long q1), .second, .val (.long q2), .second, .val (.int p3), .val (.long q1), .second, .val (.int p3)] [(.long (10 : Int64)), (.long ((((q1).toUInt64 >>> (((6 : Int32) * p3) &&& 0x3f).toInt64.toUInt64).toInt64) &&& (63 : Int64)))])) _
      refine XS.lrem X0.here hx rfl (hb hby d2_48) rfl (by decide) ?_
      show Steps p.tables e below (s₁.setTop (mkF m 49 #[.val (.long q1), .second, .val (.long q2), .second, .val (.int p3), .val (.long q1), .second, .val (.int p3)] [(.long (((((q1).toUInt64 >>> (((6 : Int32) * p3) &&& 0x3f).toInt64.toUInt64).toInt64) &&& (63 : Int64)) - (((((q1).toUInt64 >>> (((6 : Int32) * p3) &&& 0x3f).toInt64.toUInt64).toInt64) &&& (63 : Int64)) / (10 : Int64)) * (10 : Int64)))])) _
      refine XS.l2i X0.here hx rfl (hb hby d2_49) rfl ?_
      show Steps p.tables e below (s₁.setTop (mkF m 50 #[.val (.long q1), .second, .val (.long q2), .second, .val (.int p3), .val (.long q1), .second, .val (.int p3)] [(.int (((((((q1).toUInt64 >>> (((6 : Int32) * p3) &&& 0x3f).toInt64.toUInt64).toInt64) &&& (63 : Int64)) - (((((q1).toUInt64 >>> (((6 : Int32) * p3) &&& 0x3f).toInt64.toUInt64).toInt64) &&& (63 : Int64)) / (10 : Int64)) * (10 : Int64))).toInt32))])) _
      exact retI X0 hx Bd.returns (hb hby d2_50) hr
    · show Q2 Z q1 q2 p3 h0 n0 _ s₁.heap _
      exact ⟨(congrArg (fun z => some (Value.int z)) (by rw [own_digit]; simp only [if_pos hc4_1])), N0, e0⟩
  · obtain ⟨fs, hr, hrun, hended, hW, hsame⟩ := X0.leave (v := some (.int (((((((q2).toUInt64 >>> (((6 : Int32) * (p3 - (10 : Int32))) &&& 0x3f).toInt64.toUInt64).toInt64) &&& (63 : Int64)) - (((((q2).toUInt64 >>> (((6 : Int32) * (p3 - (10 : Int32))) &&& 0x3f).toInt64.toUInt64).toInt64) &&& (63 : Int64)) / (10 : Int64)) * (10 : Int64))).toInt32))) (fun h => by rw [Bd.returns] at h; cases h)
    refine ⟨_, _, ?_, hrun, hended, _, _, rfl, ?_, ⟨_, rfl⟩, hW, hsame.mono (by decide) (by decide)⟩
    · show Steps p.tables e below (s₁.setTop (mkF m 4 #[.val (.long q1), .second, .val (.long q2), .second, .val (.int p3), .unset, .unset, .unset] [(.int (10 : Int32)), (.int p3)])) _
      refine XS.icmpYes X0.here hx rfl (pc0 := 4) (pc' := 11) rfl (hb hby d2_4) rfl ((flt hc4_1).2.1) (by decide) (by decide) ?_
      show Steps p.tables e below (s₁.setTop (mkF m 11 #[.val (.long q1), .second, .val (.long q2), .second, .val (.int p3), .unset, .unset, .unset] [])) _
      refine XS.lloadN X0.here hx rfl (hb hby d2_11) rfl ?_
      show Steps p.tables e below (s₁.setTop (mkF m 12 #[.val (.long q1), .second, .val (.long q2), .second, .val (.int p3), .unset, .unset, .unset] [(.long q2)])) _
      refine XS.lstore X0.here hx rfl (hb hby d2_12) rfl (l' := #[.val (.long q1), .second, .val (.long q2), .second, .val (.int p3), .val (.long q2), .second, .unset]) rfl ?_
      show Steps p.tables e below (s₁.setTop (mkF m 14 #[.val (.long q1), .second, .val (.long q2), .second, .val (.int p3), .val (.long q2), .second, .unset] [])) _
      refine XS.iload X0.here hx rfl (hb hby d2_14) rfl ?_
      show Steps p.tables e below (s₁.setTop (mkF m 16 #[.val (.long q1), .second, .val (.long q2), .second, .val (.int p3), .val (.long q2), .second, .unset] [(.int p3)])) _
      refine XS.bipush X0.here hx rfl (hb hby d2_16) ?_
      show Steps p.tables e below (s₁.setTop (mkF m 18 #[.val (.long q1), .second, .val (.long q2), .second, .val (.int p3), .val (.long q2), .second, .unset] [(.int (10 : Int32)), (.int p3)])) _
      refine XS.icmpYes X0.here hx rfl (pc0 := 18) (pc' := 26) rfl (hb hby d2_18) rfl ((flt hc4_1).2.1) (by decide) (by decide) ?_
      show Steps p.tables e below (s₁.setTop (mkF m 26 #[.val (.long q1), .second, .val (.long q2), .second, .val (.int p3), .val (.long q2), .second, .unset] [])) _
      refine XS.iload X0.here hx rfl (hb hby d2_26) rfl ?_
      show Steps p.tables e below (s₁.setTop (mkF m 28 #[.val (.long q1), .second, .val (.long q2), .second, .val (.int p3), .val (.long q2), .second, .unset] [(.int p3)])) _
      refine XS.bipush X0.here hx rfl (hb hby d2_28) ?_
      show Steps p.tables e below (s₁.setTop (mkF m 30 #[.val (.long q1), .second, .val (.long q2), .second, .val (.int p3), .val (.long q2), .second, .unset] [(.int (10 : Int32)), (.int p3)])) _
      refine XS.isub X0.here hx rfl (hb hby d2_30) rfl ?_
      show Steps p.tables e below (s₁.setTop (mkF m 31 #[.val (.long q1), .second, .val (.long q2), .second, .val (.int p3), .val (.long q2), .second, .unset] [(.int (p3 - (10 : Int32)))])) _
      refine XS.istore X0.here hx rfl (hb hby d2_31) rfl (l' := #[.val (.long q1), .second, .val (.long q2), .second, .val (.int p3), .val (.long q2), .second, .val (.int (p3 - (10 : Int32)))]) rfl ?_
      show Steps p.tables e below (s₁.setTop (mkF m 33 #[.val (.long q1), .second, .val (.long q2), .second, .val (.int p3), .val (.long q2), .second, .val (.int (p3 - (10 : Int32)))] [])) _
      refine XS.lload X0.here hx rfl (hb hby d2_33) rfl ?_
      show Steps p.tables e below (s₁.setTop (mkF m 35 #[.val (.long q1), .second, .val (.long q2), .second, .val (.int p3), .val (.long q2), .second, .val (.int (p3 - (10 : Int32)))] [(.long q2)])) _
      refine XS.bipush X0.here hx rfl (hb hby d2_35) ?_
      show Steps p.tables e below (s₁.setTop (mkF m 37 #[.val (.long q1), .second, .val (.long q2), .second, .val (.int p3), .val (.long q2), .second, .val (.int (p3 - (10 : Int32)))] [(.int (6 : Int32)), (.long q2)])) _
      refine XS.iload X0.here hx rfl (hb hby d2_37) rfl ?_
      show Steps p.tables e below (s₁.setTop (mkF m 39 #[.val (.long q1), .second, .val (.long q2), .second, .val (.int p3), .val (.long q2), .second, .val (.int (p3 - (10 : Int32)))] [(.int (p3 - (10 : Int32))), (.int (6 : Int32)), (.long q2)])) _
      refine XS.imul X0.here hx rfl (hb hby d2_39) rfl ?_
      show Steps p.tables e below (s₁.setTop (mkF m 40 #[.val (.long q1), .second, .val (.long q2), .second, .val (.int p3), .val (.long q2), .second, .val (.int (p3 - (10 : Int32)))] [(.int ((6 : Int32) * (p3 - (10 : Int32)))), (.long q2)])) _
      refine XS.lushr X0.here hx rfl (hb hby d2_40) rfl ?_
      show Steps p.tables e below (s₁.setTop (mkF m 41 #[.val (.long q1), .second, .val (.long q2), .second, .val (.int p3), .val (.long q2), .second, .val (.int (p3 - (10 : Int32)))] [(.long (((q2).toUInt64 >>> (((6 : Int32) * (p3 - (10 : Int32))) &&& 0x3f).toInt64.toUInt64).toInt64))])) _
      refine X0.ldc2Long hx hown (mvT hZ (hw _ (List.mem_of_getElem? (i := 28) rfl))) (g := (mkF m 41 #[.val (.long q1), .second, .val (.long q2), .second, .val (.int p3), .val (.long q2), .second, .val (.int (p3 - (10 : Int32)))] [(.long (((q2).toUInt64 >>> (((6 : Int32) * (p3 - (10 : Int32))) &&& 0x3f).toInt64.toUInt64).toInt64))])) rfl (hb hby d2_41) _ ?_
      show Steps p.tables e below (s₁.setTop (mkF m 44 #[.val (.long q1), .second, .val (.long q2), .second, .val (.int p3), .val (.long q2), .second, .val (.int (p3 - (10 : Int32)))] [(.long (63 : Int64)), (.long (((q2).toUInt64 >>> (((6 : Int32) * (p3 - (10 : Int32))) &&& 0x3f).toInt64.toUInt64).toInt64))])) _
      refine XS.land X0.here hx rfl (hb hby d2_44) rfl ?_
      show Steps p.tables e below (s₁.setTop (mkF m 45 #[.val (.long q1), .second, .val (.long q2), .second, .val (.int p3), .val (.long q2), .second, .val (.int (p3 - (10 : Int32)))] [(.long ((((q2).toUInt64 >>> (((6 : Int32) * (p3 - (10 : Int32))) &&& 0x3f).toInt64.toUInt64).toInt64) &&& (63 : Int64)))])) _
      refine X0.ldc2Long hx hown (mvT hZ (hw _ (List.mem_of_getElem? (i := 2) rfl))) (g := (mkF m 45 #[.val (.long q1), .second, .val (.long q2), .second, .val (.int p3), .val (.long q2), .second, .val (.int (p3 - (10 : Int32)))] [(.long ((((q2).toUInt64 >>> (((6 : Int32) * (p3 - (10 : Int32))) &&& 0x3f).toInt64.toUInt64).toInt64) &&& (63 : Int64)))])) rfl (hb hby d2_45) _ ?_
      show Steps p.tables e below (s₁.setTop (mkF m 48 #[.val (.long q1), .second, .val (.long q2), .second, .val (.int p3), .val (.long q2), .second, .val (.int (p3 - (10 : Int32)))] [(.long (10 : Int64)), (.long ((((q2).toUInt64 >>> (((6 : Int32) * (p3 - (10 : Int32))) &&& 0x3f).toInt64.toUInt64).toInt64) &&& (63 : Int64)))])) _
      refine XS.lrem X0.here hx rfl (hb hby d2_48) rfl (by decide) ?_
      show Steps p.tables e below (s₁.setTop (mkF m 49 #[.val (.long q1), .second, .val (.long q2), .second, .val (.int p3), .val (.long q2), .second, .val (.int (p3 - (10 : Int32)))] [(.long (((((q2).toUInt64 >>> (((6 : Int32) * (p3 - (10 : Int32))) &&& 0x3f).toInt64.toUInt64).toInt64) &&& (63 : Int64)) - (((((q2).toUInt64 >>> (((6 : Int32) * (p3 - (10 : Int32))) &&& 0x3f).toInt64.toUInt64).toInt64) &&& (63 : Int64)) / (10 : Int64)) * (10 : Int64)))])) _
      refine XS.l2i X0.here hx rfl (hb hby d2_49) rfl ?_
      show Steps p.tables e below (s₁.setTop (mkF m 50 #[.val (.long q1), .second, .val (.long q2), .second, .val (.int p3), .val (.long q2), .second, .val (.int (p3 - (10 : Int32)))] [(.int (((((((q2).toUInt64 >>> (((6 : Int32) * (p3 - (10 : Int32))) &&& 0x3f).toInt64.toUInt64).toInt64) &&& (63 : Int64)) - (((((q2).toUInt64 >>> (((6 : Int32) * (p3 - (10 : Int32))) &&& 0x3f).toInt64.toUInt64).toInt64) &&& (63 : Int64)) / (10 : Int64)) * (10 : Int64))).toInt32))])) _
      exact retI X0 hx Bd.returns (hb hby d2_50) hr
    · show Q2 Z q1 q2 p3 h0 n0 _ s₁.heap _
      exact ⟨(congrArg (fun z => some (Value.int z)) (by rw [own_digit]; simp only [if_neg hc4_1])), N0, e0⟩
theorem d1_0 : decode method_3_code 0 = .ok (.aload_n 0, 1) := by decide +kernel
theorem d1_1 : decode method_3_code 1 = .ok (.iload 6, 2) := by decide +kernel
theorem d1_3 : decode method_3_code 3 = .ok (.lload_n 2, 1) := by decide +kernel
theorem d1_4 : decode method_3_code 4 = .ok (.lload 4, 2) := by decide +kernel
theorem d1_6 : decode method_3_code 6 = .ok (.iload 6, 2) := by decide +kernel
theorem d1_8 : decode method_3_code 8 = .ok (.invokestatic 11, 3) := by decide +kernel
theorem d1_11 : decode method_3_code 11 = .ok (.iastore, 1) := by decide +kernel
theorem d1_12 : decode method_3_code 12 = .ok (.aload_n 1, 1) := by decide +kernel
theorem d1_13 : decode method_3_code 13 = .ok (.iload 6, 2) := by decide +kernel
theorem d1_15 : decode method_3_code 15 = .ok (.bipush 48, 2) := by decide +kernel
theorem d1_17 : decode method_3_code 17 = .ok (.aload_n 0, 1) := by decide +kernel
theorem d1_18 : decode method_3_code 18 = .ok (.iload 6, 2) := by decide +kernel
theorem d1_20 : decode method_3_code 20 = .ok (.iaload, 1) := by decide +kernel
theorem d1_21 : decode method_3_code 21 = .ok (.iadd, 1) := by decide +kernel
theorem d1_22 : decode method_3_code 22 = .ok (.i2b, 1) := by decide +kernel
theorem d1_23 : decode method_3_code 23 = .ok (.bastore, 1) := by decide +kernel
theorem d1_24 : decode method_3_code 24 = .ok (.return_, 1) := by decide +kernel
theorem pd_0 : parseMethodDescriptor "(JJI)I" = some ⟨[.long, .long, .int], some .int⟩ := by decide +kernel
theorem ef_rm1 (m : MethodId) (a1 : Addr) (a2 : Addr) (q3 : Int64) (q4 : Int64) (p5 : Int32) : entryFrame m #[(.ref a1), (.ref a2), (.long q3), (.long q4), (.int p5)] 7 = mkF m 0 #[.val (.ref a1), .val (.ref a2), .val (.long q3), .second, .val (.long q4), .second, .val (.int p5)] [] := by first | (simp [entryFrame, mkF, argsToLocals, Value.category]; done) | rfl
def Q1 (Z : State) (a1 : Addr) (a2 : Addr) (q3 : Int64) (q4 : Int64) (p5 : Int32) (k1 : ClassId) (k2 : ClassId) (f1 : Nat → Int32) (f2 : Nat → Int32) (h0 : Heap) (n0 : Nat) (v : Option Value) (h : Heap) (L : List Loc) : Prop := v = none ∧ Fr n0 L ∧ Keep h0 h [a1, a2] ∧ (AV Z h a1 k1 .int 18 (fun i => Value.int ((updI f1 (p5).toNatClampNeg (own_digit q3 q4 p5)) i))) ∧ (AV Z h a2 k2 .byte 18 (fun i => Value.int ((updI f2 (p5).toNatClampNeg ((((48 : Int32) + (own_digit q3 q4 p5))).toInt8.toInt32).toInt8.toInt32) i)))
set_option maxRecDepth 65536 in
set_option maxHeartbeats 40000000 in
theorem rm1 (l : Launch) (Z : State) (a0 : Array Value) (hw : ∀ d ∈ tables_1, d.before a0 Z = true) (ws : List Jvm.Cond) (a1 : Addr) (a2 : Addr) (q3 : Int64) (q4 : Int64) (p5 : Int32) (k1 : ClassId) (k2 : ClassId) (f1 : Nat → Int32) (f2 : Nat → Int32) (h0 : Heap) (n0 : Nat) (Z0 : n0 ≤ h0.size) (A_a1 : AV Z h0 a1 k1 .int 18 (fun i => Value.int (f1 i))) (A_a2 : AV Z h0 a2 k2 .byte 18 (fun i => Value.int (f2 i))) (ne_a1_a2 : a1 ≠ a2) (g_a1 : n0 ≤ a1) (g_a2 : n0 ≤ a2) (hin : ¬ p5 < 0 ∧ (p5).toNatClampNeg < 18) :
    MetFree l (⟨"com/example/poukaz/poukaz/FieldKindNumberPinLaw", "set", "([I[BJJI)V"⟩ : MethodName) (head1 (Jvm.Cond.code (⟨"com/example/poukaz/poukaz/FieldKindNumberPinLaw", "set", "([I[BJJI)V"⟩ : MethodName) method_3_code 7 none :: ws) ({ frames := 1, cells := 0, slots := 0, locals := 21 } : Room)) (fun a U => a = #[(.ref a1), (.ref a2), (.long q3), (.long q4), (.int p5)] ∧ Z.Warmed39 U.vm ∧ U.heap = h0) (fun _ _ _ _ _ => True) (fun _ U o U' => ∃ v L, o = .returned v ∧ Q1 Z a1 a2 q3 q4 p5 k1 k2 f1 f2 h0 n0 v U'.heap L ∧ FrameEnd U o U' L ({ frames := 1, cells := 0, slots := 0, locals := 21 } : Room).cells ({ frames := 1, cells := 0, slots := 0, locals := 21 } : Room).slots) := by
  refine MetFree.of_bodySF (plainFor_of_name pn_0) hisR ?_
  intro p e s m args below meth c s₁ Bd hml0 hP hK
  obtain ⟨rfl, hZ, hh⟩ := hP
  have hx := Bd.exec
  have hby := Bd.bytes
  have hml : c.maxLocals = 7 := hml0
  have hown : s.vm.findClass "com/example/poukaz/poukaz/FieldKindNumberPinLaw" = some m.cls := findClass_of_methodNamed Bd.named
  have hnm := (name_of_methodNamed Bd.named Bd.method).1
  have X0 : Stand p l e ({ frames := 1, cells := 0, slots := 0, locals := 21 } : Room) s m #[(.ref a1), (.ref a2), (.long q3), (.long q4), (.int p5)] below meth c s₁ [] 0 0 := Stand.of_body Bd
  have e0 : s₁.heap = h0 := by rw [← hh, Bd.state]; rfl
  have N0 := Fr.nil n0
  show GoalS p.tables e below s ({ frames := 1, cells := 0, slots := 0, locals := 21 } : Room).cells ({ frames := 1, cells := 0, slots := 0, locals := 21 } : Room).slots (Q1 Z a1 a2 q3 q4 p5 k1 k2 f1 f2 h0 n0) (s₁.setTop (entryFrame m #[(.ref a1), (.ref a2), (.long q3), (.long q4), (.int p5)] 7))
  refine GoalS.lift (B := s₁.setTop (mkF m 0 #[.val (.ref a1), .val (.ref a2), .val (.long q3), .second, .val (.long q4), .second, .val (.int p5)] [])) (fun t k => castTop (ef_rm1 m a1 a2 q3 q4 p5) k) ?_
  have K0 : Keep h0 h0 [a1, a2] := Keep.refl _ _
  obtain ⟨_, _, ⟨T1, L1, k1, n1⟩, -, X1, ⟨Lc1, hQ1, l1, y1, z1⟩, st1⟩ := Jvm.LawKit.callS X0 hx (y := (⟨"com/example/poukaz/poukaz/FieldKindNumberPinLaw", "digit", "(JJI)I"⟩ : MethodName)) hown (mvT hZ (hw _ (List.mem_of_getElem? (i := 25) rfl))) (mvT hZ (hw _ (List.mem_of_getElem? (i := 26) rfl))) (mvT hZ (hw _ (List.mem_of_getElem? (i := 23) rfl))) (mvT hZ (hw _ (List.mem_of_getElem? (i := 27) rfl))) (by decide) (backOf (W := 2) (rm2 l Z a0 hw [] q3 q4 p5 h0 n0 Z0) hZ (hw _ (List.mem_of_getElem? (i := 27) rfl)) (hw _ (List.mem_of_getElem? (i := 23) rfl)) (by decide) (by decide)) (g := (mkF m 8 #[.val (.ref a1), .val (.ref a2), .val (.long q3), .second, .val (.long q4), .second, .val (.int p5)] [(.int p5), (.long q4), (.long q3), (.int p5), (.ref a1)])) rfl (by rw [hml]; rfl) (argsL := [(.long q3), (.long q4), (.int p5)]) (rest := [(.int p5), (.ref a1)]) (lenOf pd_0 rfl) rfl (by show 2 * 0 + _ ≤ _; exact Nat.le_of_eq rfl) (hb hby d1_8) (fun _ _ => ⟨rfl, e0, (by decide : 0 + 0 ≤ _), (by decide : 0 + 0 ≤ _)⟩)
  dsimp only [Pt.U, Pt.locs, Pt.cells, Pt.slots] at X1 l1 y1 z1 st1 hQ1
  subst y1 z1
  obtain ⟨rfl, N1q, eq1⟩ := hQ1
  have N1 : Fr n0 L1 := by rw [l1]; exact Fr.app N0 N1q
  obtain ⟨cl2, Ar2, kc2, sz2, -, -⟩ := id A_a1
  have hin2 : ¬ (p5 < 0 ∨ cl2.slots.size ≤ (p5).toNatClampNeg) := AV.inb sz2 hin
  obtain ⟨T2, h2, X2, e2, W2, st2⟩ := stI X1 hx hZ eq1 Ar2 (j := p5) hin2 (g := (mkF m 11 #[.val (.ref a1), .val (.ref a2), .val (.long q3), .second, .val (.long q4), .second, .val (.int p5)] [(.int (own_digit q3 q4 p5)), (.int p5), (.ref a1)])) rfl rfl (hb hby d1_11)
  have z3 : n0 ≤ h2.size := Nat.le_trans Z0 (Keep.of_wr W2).1
  have K4 : Keep h0 h2 [a1, a2] := K0.wr W2 (Or.inl (List.mem_of_getElem? (i := 0) rfl))
  have V2 : AV Z h2 a1 k1 .int 18 (fun i => Value.int ((updI f1 (p5).toNatClampNeg (own_digit q3 q4 p5)) i)) := AV.putI A_a1 W2 (AV.inx hin)
  have N2 := Fr.snoc X2 N1 g_a1
  obtain ⟨cl5, Ar5, kc5, sz5, -, hv5⟩ := id V2
  have hin5 : ¬ (p5 < 0 ∨ cl5.slots.size ≤ (p5).toNatClampNeg) := AV.inb sz5 hin
  have hat5 : cl5.slots[(p5).toNatClampNeg]? = some (.int (own_digit q3 q4 p5)) := (hv5 _ (AV.inx hin)).trans (congrArg some (congrArg Value.int (if_pos rfl)))
  have f7 : AV Z h2 a2 k2 .byte 18 (fun i => Value.int (f2 i)) := (A_a2.other W2 (Ne.symm ne_a1_a2))
  obtain ⟨cl6, Ar6, kc6, sz6, -, -⟩ := id f7
  have hin6 : ¬ (p5 < 0 ∨ cl6.slots.size ≤ (p5).toNatClampNeg) := AV.inb sz6 hin
  obtain ⟨T6, h6, X6, e6, W6, st6⟩ := stB X2 hx hZ e2 Ar6 (j := p5) hin6 (g := (mkF m 23 #[.val (.ref a1), .val (.ref a2), .val (.long q3), .second, .val (.long q4), .second, .val (.int p5)] [(.int ((((48 : Int32) + (own_digit q3 q4 p5))).toInt8.toInt32)), (.int p5), (.ref a2)])) rfl rfl (hb hby d1_23)
  have z8 : n0 ≤ h6.size := Nat.le_trans z3 (Keep.of_wr W6).1
  have K9 : Keep h0 h6 [a1, a2] := K4.wr W6 (Or.inl (List.mem_of_getElem? (i := 1) rfl))
  have V6 : AV Z h6 a2 k2 .byte 18 (fun i => Value.int ((updI f2 (p5).toNatClampNeg (((((48 : Int32) + (own_digit q3 q4 p5))).toInt8.toInt32)).toInt8.toInt32) i)) := AV.putI f7 W6 (AV.inx hin)
  have N6 := Fr.snoc X6 N2 g_a2
  obtain ⟨fs, hr, hrun, hended, hW, hsame⟩ := X6.leave (v := none) (fun _ => rfl)
  refine ⟨_, _, ?_, hrun, hended, _, _, rfl, ?_, ⟨_, rfl⟩, hW, hsame.mono (by decide) (by decide)⟩
  · show Steps p.tables e below (s₁.setTop (mkF m 0 #[.val (.ref a1), .val (.ref a2), .val (.long q3), .second, .val (.long q4), .second, .val (.int p5)] [])) _
    refine XS.aloadN X0.here hx rfl (hb hby d1_0) rfl rfl ?_
    show Steps p.tables e below (s₁.setTop (mkF m 1 #[.val (.ref a1), .val (.ref a2), .val (.long q3), .second, .val (.long q4), .second, .val (.int p5)] [(.ref a1)])) _
    refine XS.iload X0.here hx rfl (hb hby d1_1) rfl ?_
    show Steps p.tables e below (s₁.setTop (mkF m 3 #[.val (.ref a1), .val (.ref a2), .val (.long q3), .second, .val (.long q4), .second, .val (.int p5)] [(.int p5), (.ref a1)])) _
    refine XS.lloadN X0.here hx rfl (hb hby d1_3) rfl ?_
    show Steps p.tables e below (s₁.setTop (mkF m 4 #[.val (.ref a1), .val (.ref a2), .val (.long q3), .second, .val (.long q4), .second, .val (.int p5)] [(.long q3), (.int p5), (.ref a1)])) _
    refine XS.lload X0.here hx rfl (hb hby d1_4) rfl ?_
    show Steps p.tables e below (s₁.setTop (mkF m 6 #[.val (.ref a1), .val (.ref a2), .val (.long q3), .second, .val (.long q4), .second, .val (.int p5)] [(.long q4), (.long q3), (.int p5), (.ref a1)])) _
    refine XS.iload X0.here hx rfl (hb hby d1_6) rfl ?_
    show Steps p.tables e below (s₁.setTop (mkF m 8 #[.val (.ref a1), .val (.ref a2), .val (.long q3), .second, .val (.long q4), .second, .val (.int p5)] [(.int p5), (.long q4), (.long q3), (.int p5), (.ref a1)])) _
    refine st1 _ ?_
    show Steps p.tables e below (T1.setTop (mkF m 11 #[.val (.ref a1), .val (.ref a2), .val (.long q3), .second, .val (.long q4), .second, .val (.int p5)] [(.int (own_digit q3 q4 p5)), (.int p5), (.ref a1)])) _
    refine st2 _ ?_
    show Steps p.tables e below (T2.setTop (mkF m 12 #[.val (.ref a1), .val (.ref a2), .val (.long q3), .second, .val (.long q4), .second, .val (.int p5)] [])) _
    refine XS.aloadN X2.here hx rfl (hb hby d1_12) rfl rfl ?_
    show Steps p.tables e below (T2.setTop (mkF m 13 #[.val (.ref a1), .val (.ref a2), .val (.long q3), .second, .val (.long q4), .second, .val (.int p5)] [(.ref a2)])) _
    refine XS.iload X2.here hx rfl (hb hby d1_13) rfl ?_
    show Steps p.tables e below (T2.setTop (mkF m 15 #[.val (.ref a1), .val (.ref a2), .val (.long q3), .second, .val (.long q4), .second, .val (.int p5)] [(.int p5), (.ref a2)])) _
    refine XS.bipush X2.here hx rfl (hb hby d1_15) ?_
    show Steps p.tables e below (T2.setTop (mkF m 17 #[.val (.ref a1), .val (.ref a2), .val (.long q3), .second, .val (.long q4), .second, .val (.int p5)] [(.int (48 : Int32)), (.int p5), (.ref a2)])) _
    refine XS.aloadN X2.here hx rfl (hb hby d1_17) rfl rfl ?_
    show Steps p.tables e below (T2.setTop (mkF m 18 #[.val (.ref a1), .val (.ref a2), .val (.long q3), .second, .val (.long q4), .second, .val (.int p5)] [(.ref a1), (.int (48 : Int32)), (.int p5), (.ref a2)])) _
    refine XS.iload X2.here hx rfl (hb hby d1_18) rfl ?_
    show Steps p.tables e below (T2.setTop (mkF m 20 #[.val (.ref a1), .val (.ref a2), .val (.long q3), .second, .val (.long q4), .second, .val (.int p5)] [(.int p5), (.ref a1), (.int (48 : Int32)), (.int p5), (.ref a2)])) _
    refine X2.iaload hx (j := p5) (v := (.int (own_digit q3 q4 p5))) (by rw [e2]; exact Ar5.1) (State.isArrayOf_alike hZ.alike Ar5.2.1) Ar5.2.2 hin5 hat5 (g := (mkF m 20 #[.val (.ref a1), .val (.ref a2), .val (.long q3), .second, .val (.long q4), .second, .val (.int p5)] [(.int p5), (.ref a1), (.int (48 : Int32)), (.int p5), (.ref a2)])) rfl rfl (hb hby d1_20) _ ?_
    show Steps p.tables e below (T2.setTop (mkF m 21 #[.val (.ref a1), .val (.ref a2), .val (.long q3), .second, .val (.long q4), .second, .val (.int p5)] [(.int (own_digit q3 q4 p5)), (.int (48 : Int32)), (.int p5), (.ref a2)])) _
    refine XS.iadd X2.here hx rfl (hb hby d1_21) rfl ?_
    show Steps p.tables e below (T2.setTop (mkF m 22 #[.val (.ref a1), .val (.ref a2), .val (.long q3), .second, .val (.long q4), .second, .val (.int p5)] [(.int ((48 : Int32) + (own_digit q3 q4 p5))), (.int p5), (.ref a2)])) _
    refine XS.i2b X2.here hx rfl (hb hby d1_22) rfl ?_
    show Steps p.tables e below (T2.setTop (mkF m 23 #[.val (.ref a1), .val (.ref a2), .val (.long q3), .second, .val (.long q4), .second, .val (.int p5)] [(.int ((((48 : Int32) + (own_digit q3 q4 p5))).toInt8.toInt32)), (.int p5), (.ref a2)])) _
    refine st6 _ ?_
    show Steps p.tables e below (T6.setTop (mkF m 24 #[.val (.ref a1), .val (.ref a2), .val (.long q3), .second, .val (.long q4), .second, .val (.int p5)] [])) _
    exact X6.returnOut hx Bd.returns (hb hby d1_24) hr
  · have f10 : AV Z h6 a1 k1 .int 18 (fun i => Value.int ((updI f1 (p5).toNatClampNeg (own_digit q3 q4 p5)) i)) := (V2.other W6 ne_a1_a2)
    show Q1 Z a1 a2 q3 q4 p5 k1 k2 f1 f2 h0 n0 _ T6.heap _
    rw [e6]
    exact ⟨rfl, N6, K9, f10, V6⟩
theorem d3_0 : decode method_4_code 0 = .ok (.iload_n 2, 1) := by decide +kernel
theorem d3_1 : decode method_4_code 1 = .ok (.iload_n 3, 1) := by decide +kernel
theorem d3_2 : decode method_4_code 2 = .ok (.if_icmp .lt 11, 3) := by decide +kernel
theorem d3_5 : decode method_4_code 5 = .ok (.iload_n 2, 1) := by decide +kernel
theorem d3_6 : decode method_4_code 6 = .ok (.iload_n 3, 1) := by decide +kernel
theorem d3_7 : decode method_4_code 7 = .ok (.iload 4, 2) := by decide +kernel
theorem d3_9 : decode method_4_code 9 = .ok (.iadd, 1) := by decide +kernel
theorem d3_10 : decode method_4_code 10 = .ok (.if_icmp .lt 5, 3) := by decide +kernel
theorem d3_13 : decode method_4_code 13 = .ok (.lconst 0, 1) := by decide +kernel
theorem d3_14 : decode method_4_code 14 = .ok (.lreturn, 1) := by decide +kernel
theorem d3_15 : decode method_4_code 15 = .ok (.aload_n 0, 1) := by decide +kernel
theorem d3_16 : decode method_4_code 16 = .ok (.iload_n 2, 1) := by decide +kernel
theorem d3_17 : decode method_4_code 17 = .ok (.iaload, 1) := by decide +kernel
theorem d3_18 : decode method_4_code 18 = .ok (.i2l, 1) := by decide +kernel
theorem d3_19 : decode method_4_code 19 = .ok (.aload_n 1, 1) := by decide +kernel
theorem d3_20 : decode method_4_code 20 = .ok (.iload_n 3, 1) := by decide +kernel
theorem d3_21 : decode method_4_code 21 = .ok (.iload 4, 2) := by decide +kernel
theorem d3_23 : decode method_4_code 23 = .ok (.iadd, 1) := by decide +kernel
theorem d3_24 : decode method_4_code 24 = .ok (.iconst 1, 1) := by decide +kernel
theorem d3_25 : decode method_4_code 25 = .ok (.isub, 1) := by decide +kernel
theorem d3_26 : decode method_4_code 26 = .ok (.iload_n 2, 1) := by decide +kernel
theorem d3_27 : decode method_4_code 27 = .ok (.isub, 1) := by decide +kernel
theorem d3_28 : decode method_4_code 28 = .ok (.laload, 1) := by decide +kernel
theorem d3_29 : decode method_4_code 29 = .ok (.lmul, 1) := by decide +kernel
theorem d3_30 : decode method_4_code 30 = .ok (.lreturn, 1) := by decide +kernel
theorem ef_rm3 (m : MethodId) (a1 : Addr) (a2 : Addr) (p3 : Int32) (p4 : Int32) (p5 : Int32) : entryFrame m #[(.ref a1), (.ref a2), (.int p3), (.int p4), (.int p5)] 5 = mkF m 0 #[.val (.ref a1), .val (.ref a2), .val (.int p3), .val (.int p4), .val (.int p5)] [] := by first | (simp [entryFrame, mkF, argsToLocals, Value.category]; done) | rfl
def Q3 (Z : State) (a1 : Addr) (a2 : Addr) (p3 : Int32) (p4 : Int32) (p5 : Int32) (k1 : ClassId) (k2 : ClassId) (f1 : Nat → Int32) (f2 : Nat → Int64) (O : Nat) (W : Nat) (h0 : Heap) (n0 : Nat) (v : Option Value) (h : Heap) (L : List Loc) : Prop := ∃ r : Int64, v = some (.long r) ∧ r = own_term p3 p4 p5 f1 f2 ∧ Fr n0 L ∧ h = h0
set_option maxRecDepth 65536 in
set_option maxHeartbeats 40000000 in
theorem rm3 (l : Launch) (Z : State) (a0 : Array Value) (hw : ∀ d ∈ tables_1, d.before a0 Z = true) (ws : List Jvm.Cond) (a1 : Addr) (a2 : Addr) (p3 : Int32) (p4 : Int32) (p5 : Int32) (k1 : ClassId) (k2 : ClassId) (f1 : Nat → Int32) (f2 : Nat → Int64) (O : Nat) (W : Nat) (h0 : Heap) (n0 : Nat) (Z0 : n0 ≤ h0.size) (A_a1 : AV Z h0 a1 k1 .int 18 (fun i => Value.int (f1 i))) (A_a2 : AV Z h0 a2 k2 .long 18 (fun i => Value.long (f2 i))) (hin : ¬ p3 < 0 ∧ (p3).toNatClampNeg < 18) (hO : p4 = Int32.ofNat O ∧ p5 = Int32.ofNat W ∧ O + W ≤ 18) :
    MetFree l (⟨"com/example/poukaz/poukaz/FieldKindNumberPinLaw", "term", "([I[JIII)J"⟩ : MethodName) (head1 (Jvm.Cond.code (⟨"com/example/poukaz/poukaz/FieldKindNumberPinLaw", "term", "([I[JIII)J"⟩ : MethodName) method_4_code 5 (some .long) :: ws) ({ frames := 0, cells := 0, slots := 0, locals := 0 } : Room)) (fun a U => a = #[(.ref a1), (.ref a2), (.int p3), (.int p4), (.int p5)] ∧ Z.Warmed39 U.vm ∧ U.heap = h0) (fun _ _ _ _ _ => True) (fun _ U o U' => ∃ v L, o = .returned v ∧ Q3 Z a1 a2 p3 p4 p5 k1 k2 f1 f2 O W h0 n0 v U'.heap L ∧ FrameEnd U o U' L ({ frames := 0, cells := 0, slots := 0, locals := 0 } : Room).cells ({ frames := 0, cells := 0, slots := 0, locals := 0 } : Room).slots) := by
  refine MetFree.of_bodySF (plainFor_of_name pn_0) hisR ?_
  intro p e s m args below meth c s₁ Bd hml0 hP hK
  obtain ⟨rfl, hZ, hh⟩ := hP
  have hx := Bd.exec
  have hby := Bd.bytes
  have hml : c.maxLocals = 5 := hml0
  have hown : s.vm.findClass "com/example/poukaz/poukaz/FieldKindNumberPinLaw" = some m.cls := findClass_of_methodNamed Bd.named
  have hnm := (name_of_methodNamed Bd.named Bd.method).1
  have X0 : Stand p l e ({ frames := 0, cells := 0, slots := 0, locals := 0 } : Room) s m #[(.ref a1), (.ref a2), (.int p3), (.int p4), (.int p5)] below meth c s₁ [] 0 0 := Stand.of_body Bd
  have e0 : s₁.heap = h0 := by rw [← hh, Bd.state]; rfl
  have N0 := Fr.nil n0
  show GoalS p.tables e below s ({ frames := 0, cells := 0, slots := 0, locals := 0 } : Room).cells ({ frames := 0, cells := 0, slots := 0, locals := 0 } : Room).slots (Q3 Z a1 a2 p3 p4 p5 k1 k2 f1 f2 O W h0 n0) (s₁.setTop (entryFrame m #[(.ref a1), (.ref a2), (.int p3), (.int p4), (.int p5)] 5))
  refine GoalS.lift (B := s₁.setTop (mkF m 0 #[.val (.ref a1), .val (.ref a2), .val (.int p3), .val (.int p4), .val (.int p5)] [])) (fun t k => castTop (ef_rm3 m a1 a2 p3 p4 p5) k) ?_
  have K0 : Keep h0 h0 [] := Keep.refl _ _
  refine GoalS.lift (B := (s₁.setTop (mkF m 2 #[.val (.ref a1), .val (.ref a2), .val (.int p3), .val (.int p4), .val (.int p5)] [(.int p4), (.int p3)]))) (fun t k => ?_) ?_
  · show Steps p.tables e below (s₁.setTop (mkF m 0 #[.val (.ref a1), .val (.ref a2), .val (.int p3), .val (.int p4), .val (.int p5)] [])) _
    refine XS.iloadN X0.here hx rfl (hb hby d3_0) rfl ?_
    show Steps p.tables e below (s₁.setTop (mkF m 1 #[.val (.ref a1), .val (.ref a2), .val (.int p3), .val (.int p4), .val (.int p5)] [(.int p3)])) _
    refine XS.iloadN X0.here hx rfl (hb hby d3_1) rfl ?_
    show Steps p.tables e below (s₁.setTop (mkF m 2 #[.val (.ref a1), .val (.ref a2), .val (.int p3), .val (.int p4), .val (.int p5)] [(.int p4), (.int p3)])) _
    exact k
  by_cases hc2_1 : p3 < p4
  · obtain ⟨fs, hr, hrun, hended, hW, hsame⟩ := X0.leave (v := some (.long (0 : Int64))) (fun h => by rw [Bd.returns] at h; cases h)
    refine ⟨_, _, ?_, hrun, hended, _, _, rfl, ?_, ⟨_, rfl⟩, hW, hsame.mono (by decide) (by decide)⟩
    · show Steps p.tables e below (s₁.setTop (mkF m 2 #[.val (.ref a1), .val (.ref a2), .val (.int p3), .val (.int p4), .val (.int p5)] [(.int p4), (.int p3)])) _
      refine XS.icmpYes X0.here hx rfl (pc0 := 2) (pc' := 13) rfl (hb hby d3_2) rfl ((tlt hc2_1).1) (by decide) (by decide) ?_
      show Steps p.tables e below (s₁.setTop (mkF m 13 #[.val (.ref a1), .val (.ref a2), .val (.int p3), .val (.int p4), .val (.int p5)] [])) _
      refine XS.lconst X0.here hx rfl (hb hby d3_13) ?_
      show Steps p.tables e below (s₁.setTop (mkF m 14 #[.val (.ref a1), .val (.ref a2), .val (.int p3), .val (.int p4), .val (.int p5)] [(.long (0 : Int64))])) _
      exact X0.lreturnOut hx Bd.returns (hb hby d3_14) hr
    · show Q3 Z a1 a2 p3 p4 p5 k1 k2 f1 f2 O W h0 n0 _ s₁.heap _
      exact ⟨_, rfl, (by rw [own_term]; simp only [if_pos hc2_1]), N0, e0⟩
  · refine GoalS.lift (B := (s₁.setTop (mkF m 10 #[.val (.ref a1), .val (.ref a2), .val (.int p3), .val (.int p4), .val (.int p5)] [(.int (p4 + p5)), (.int p3)]))) (fun t k => ?_) ?_
    · show Steps p.tables e below (s₁.setTop (mkF m 2 #[.val (.ref a1), .val (.ref a2), .val (.int p3), .val (.int p4), .val (.int p5)] [(.int p4), (.int p3)])) _
      refine XS.icmpNo X0.here hx rfl (hb hby d3_2) rfl ((flt hc2_1).1) ?_
      show Steps p.tables e below (s₁.setTop (mkF m 5 #[.val (.ref a1), .val (.ref a2), .val (.int p3), .val (.int p4), .val (.int p5)] [])) _
      refine XS.iloadN X0.here hx rfl (hb hby d3_5) rfl ?_
      show Steps p.tables e below (s₁.setTop (mkF m 6 #[.val (.ref a1), .val (.ref a2), .val (.int p3), .val (.int p4), .val (.int p5)] [(.int p3)])) _
      refine XS.iloadN X0.here hx rfl (hb hby d3_6) rfl ?_
      show Steps p.tables e below (s₁.setTop (mkF m 7 #[.val (.ref a1), .val (.ref a2), .val (.int p3), .val (.int p4), .val (.int p5)] [(.int p4), (.int p3)])) _
      refine XS.iload X0.here hx rfl (hb hby d3_7) rfl ?_
      show Steps p.tables e below (s₁.setTop (mkF m 9 #[.val (.ref a1), .val (.ref a2), .val (.int p3), .val (.int p4), .val (.int p5)] [(.int p5), (.int p4), (.int p3)])) _
      refine XS.iadd X0.here hx rfl (hb hby d3_9) rfl ?_
      show Steps p.tables e below (s₁.setTop (mkF m 10 #[.val (.ref a1), .val (.ref a2), .val (.int p3), .val (.int p4), .val (.int p5)] [(.int (p4 + p5)), (.int p3)])) _
      exact k
    by_cases hc10_2 : p3 < (p4 + p5)
    · obtain ⟨cl3, Ar3, kc3, sz3, -, hv3⟩ := id A_a1
      have hin3 : ¬ (p3 < 0 ∨ cl3.slots.size ≤ (p3).toNatClampNeg) := AV.inb sz3 hin
      have hat3 : cl3.slots[(p3).toNatClampNeg]? = some (.int (f1 (p3).toNatClampNeg)) := (hv3 _ (AV.inx hin)).trans (congrArg some rfl)
      obtain ⟨cl4, Ar4, kc4, sz4, -, hv4⟩ := id A_a2
      have hin4 : ¬ ((((p4 + p5) - (1 : Int32)) - p3) < 0 ∨ cl4.slots.size ≤ ((((p4 + p5) - (1 : Int32)) - p3)).toNatClampNeg) := AV.inb sz4 (own_tix hin hO hc2_1 hc10_2)
      have hat4 : cl4.slots[((((p4 + p5) - (1 : Int32)) - p3)).toNatClampNeg]? = some (.long (f2 ((((p4 + p5) - (1 : Int32)) - p3)).toNatClampNeg)) := (hv4 _ (AV.inx (own_tix hin hO hc2_1 hc10_2))).trans (congrArg some rfl)
      obtain ⟨fs, hr, hrun, hended, hW, hsame⟩ := X0.leave (v := some (.long ((((f1 (p3).toNatClampNeg)).toInt64) * (f2 ((((p4 + p5) - (1 : Int32)) - p3)).toNatClampNeg)))) (fun h => by rw [Bd.returns] at h; cases h)
      refine ⟨_, _, ?_, hrun, hended, _, _, rfl, ?_, ⟨_, rfl⟩, hW, hsame.mono (by decide) (by decide)⟩
      · show Steps p.tables e below (s₁.setTop (mkF m 10 #[.val (.ref a1), .val (.ref a2), .val (.int p3), .val (.int p4), .val (.int p5)] [(.int (p4 + p5)), (.int p3)])) _
        refine XS.icmpYes X0.here hx rfl (pc0 := 10) (pc' := 15) rfl (hb hby d3_10) rfl ((tlt hc10_2).1) (by decide) (by decide) ?_
        show Steps p.tables e below (s₁.setTop (mkF m 15 #[.val (.ref a1), .val (.ref a2), .val (.int p3), .val (.int p4), .val (.int p5)] [])) _
        refine XS.aloadN X0.here hx rfl (hb hby d3_15) rfl rfl ?_
        show Steps p.tables e below (s₁.setTop (mkF m 16 #[.val (.ref a1), .val (.ref a2), .val (.int p3), .val (.int p4), .val (.int p5)] [(.ref a1)])) _
        refine XS.iloadN X0.here hx rfl (hb hby d3_16) rfl ?_
        show Steps p.tables e below (s₁.setTop (mkF m 17 #[.val (.ref a1), .val (.ref a2), .val (.int p3), .val (.int p4), .val (.int p5)] [(.int p3), (.ref a1)])) _
        refine X0.iaload hx (j := p3) (v := (.int (f1 (p3).toNatClampNeg))) (by rw [e0]; exact Ar3.1) (State.isArrayOf_alike hZ.alike Ar3.2.1) Ar3.2.2 hin3 hat3 (g := (mkF m 17 #[.val (.ref a1), .val (.ref a2), .val (.int p3), .val (.int p4), .val (.int p5)] [(.int p3), (.ref a1)])) rfl rfl (hb hby d3_17) _ ?_
        show Steps p.tables e below (s₁.setTop (mkF m 18 #[.val (.ref a1), .val (.ref a2), .val (.int p3), .val (.int p4), .val (.int p5)] [(.int (f1 (p3).toNatClampNeg))])) _
        refine XS.i2l X0.here hx rfl (hb hby d3_18) rfl ?_
        show Steps p.tables e below (s₁.setTop (mkF m 19 #[.val (.ref a1), .val (.ref a2), .val (.int p3), .val (.int p4), .val (.int p5)] [(.long (((f1 (p3).toNatClampNeg)).toInt64))])) _
        refine XS.aloadN X0.here hx rfl (hb hby d3_19) rfl rfl ?_
        show Steps p.tables e below (s₁.setTop (mkF m 20 #[.val (.ref a1), .val (.ref a2), .val (.int p3), .val (.int p4), .val (.int p5)] [(.ref a2), (.long (((f1 (p3).toNatClampNeg)).toInt64))])) _
        refine XS.iloadN X0.here hx rfl (hb hby d3_20) rfl ?_
        show Steps p.tables e below (s₁.setTop (mkF m 21 #[.val (.ref a1), .val (.ref a2), .val (.int p3), .val (.int p4), .val (.int p5)] [(.int p4), (.ref a2), (.long (((f1 (p3).toNatClampNeg)).toInt64))])) _
        refine XS.iload X0.here hx rfl (hb hby d3_21) rfl ?_
        show Steps p.tables e below (s₁.setTop (mkF m 23 #[.val (.ref a1), .val (.ref a2), .val (.int p3), .val (.int p4), .val (.int p5)] [(.int p5), (.int p4), (.ref a2), (.long (((f1 (p3).toNatClampNeg)).toInt64))])) _
        refine XS.iadd X0.here hx rfl (hb hby d3_23) rfl ?_
        show Steps p.tables e below (s₁.setTop (mkF m 24 #[.val (.ref a1), .val (.ref a2), .val (.int p3), .val (.int p4), .val (.int p5)] [(.int (p4 + p5)), (.ref a2), (.long (((f1 (p3).toNatClampNeg)).toInt64))])) _
        refine XS.iconst X0.here hx rfl (hb hby d3_24) ?_
        show Steps p.tables e below (s₁.setTop (mkF m 25 #[.val (.ref a1), .val (.ref a2), .val (.int p3), .val (.int p4), .val (.int p5)] [(.int (1 : Int32)), (.int (p4 + p5)), (.ref a2), (.long (((f1 (p3).toNatClampNeg)).toInt64))])) _
        refine XS.isub X0.here hx rfl (hb hby d3_25) rfl ?_
        show Steps p.tables e below (s₁.setTop (mkF m 26 #[.val (.ref a1), .val (.ref a2), .val (.int p3), .val (.int p4), .val (.int p5)] [(.int ((p4 + p5) - (1 : Int32))), (.ref a2), (.long (((f1 (p3).toNatClampNeg)).toInt64))])) _
        refine XS.iloadN X0.here hx rfl (hb hby d3_26) rfl ?_
        show Steps p.tables e below (s₁.setTop (mkF m 27 #[.val (.ref a1), .val (.ref a2), .val (.int p3), .val (.int p4), .val (.int p5)] [(.int p3), (.int ((p4 + p5) - (1 : Int32))), (.ref a2), (.long (((f1 (p3).toNatClampNeg)).toInt64))])) _
        refine XS.isub X0.here hx rfl (hb hby d3_27) rfl ?_
        show Steps p.tables e below (s₁.setTop (mkF m 28 #[.val (.ref a1), .val (.ref a2), .val (.int p3), .val (.int p4), .val (.int p5)] [(.int (((p4 + p5) - (1 : Int32)) - p3)), (.ref a2), (.long (((f1 (p3).toNatClampNeg)).toInt64))])) _
        refine X0.laload hx (j := (((p4 + p5) - (1 : Int32)) - p3)) (v := (.long (f2 ((((p4 + p5) - (1 : Int32)) - p3)).toNatClampNeg))) (by rw [e0]; exact Ar4.1) (State.isArrayOf_alike hZ.alike Ar4.2.1) Ar4.2.2 hin4 hat4 (g := (mkF m 28 #[.val (.ref a1), .val (.ref a2), .val (.int p3), .val (.int p4), .val (.int p5)] [(.int (((p4 + p5) - (1 : Int32)) - p3)), (.ref a2), (.long (((f1 (p3).toNatClampNeg)).toInt64))])) rfl rfl (hb hby d3_28) _ ?_
        show Steps p.tables e below (s₁.setTop (mkF m 29 #[.val (.ref a1), .val (.ref a2), .val (.int p3), .val (.int p4), .val (.int p5)] [(.long (f2 ((((p4 + p5) - (1 : Int32)) - p3)).toNatClampNeg)), (.long (((f1 (p3).toNatClampNeg)).toInt64))])) _
        refine XS.lmul X0.here hx rfl (hb hby d3_29) rfl ?_
        show Steps p.tables e below (s₁.setTop (mkF m 30 #[.val (.ref a1), .val (.ref a2), .val (.int p3), .val (.int p4), .val (.int p5)] [(.long ((((f1 (p3).toNatClampNeg)).toInt64) * (f2 ((((p4 + p5) - (1 : Int32)) - p3)).toNatClampNeg)))])) _
        exact X0.lreturnOut hx Bd.returns (hb hby d3_30) hr
      · show Q3 Z a1 a2 p3 p4 p5 k1 k2 f1 f2 O W h0 n0 _ s₁.heap _
        exact ⟨_, rfl, (by rw [own_term]; simp only [if_neg hc2_1, if_pos hc10_2]), N0, e0⟩
    · obtain ⟨fs, hr, hrun, hended, hW, hsame⟩ := X0.leave (v := some (.long (0 : Int64))) (fun h => by rw [Bd.returns] at h; cases h)
      refine ⟨_, _, ?_, hrun, hended, _, _, rfl, ?_, ⟨_, rfl⟩, hW, hsame.mono (by decide) (by decide)⟩
      · show Steps p.tables e below (s₁.setTop (mkF m 10 #[.val (.ref a1), .val (.ref a2), .val (.int p3), .val (.int p4), .val (.int p5)] [(.int (p4 + p5)), (.int p3)])) _
        refine XS.icmpNo X0.here hx rfl (hb hby d3_10) rfl ((flt hc10_2).1) ?_
        show Steps p.tables e below (s₁.setTop (mkF m 13 #[.val (.ref a1), .val (.ref a2), .val (.int p3), .val (.int p4), .val (.int p5)] [])) _
        refine XS.lconst X0.here hx rfl (hb hby d3_13) ?_
        show Steps p.tables e below (s₁.setTop (mkF m 14 #[.val (.ref a1), .val (.ref a2), .val (.int p3), .val (.int p4), .val (.int p5)] [(.long (0 : Int64))])) _
        exact X0.lreturnOut hx Bd.returns (hb hby d3_14) hr
      · show Q3 Z a1 a2 p3 p4 p5 k1 k2 f1 f2 O W h0 n0 _ s₁.heap _
        exact ⟨_, rfl, (by rw [own_term]; simp only [if_neg hc2_1, if_neg hc10_2]), N0, e0⟩
theorem d4_0 : decode prog_12_method_12_code 0 = .ok (.lconst 0, 1) := by decide +kernel
theorem d4_1 : decode prog_12_method_12_code 1 = .ok (.lstore_n 3, 1) := by decide +kernel
theorem d4_2 : decode prog_12_method_12_code 2 = .ok (.iload_n 1, 1) := by decide +kernel
theorem d4_3 : decode prog_12_method_12_code 3 = .ok (.istore 5, 2) := by decide +kernel
theorem d4_5 : decode prog_12_method_12_code 5 = .ok (.iload 5, 2) := by decide +kernel
theorem d4_7 : decode prog_12_method_12_code 7 = .ok (.iload_n 1, 1) := by decide +kernel
theorem d4_8 : decode prog_12_method_12_code 8 = .ok (.iload_n 2, 1) := by decide +kernel
theorem d4_9 : decode prog_12_method_12_code 9 = .ok (.iadd, 1) := by decide +kernel
theorem d4_10 : decode prog_12_method_12_code 10 = .ok (.if_icmp .ge 25, 3) := by decide +kernel
theorem d4_13 : decode prog_12_method_12_code 13 = .ok (.lload_n 3, 1) := by decide +kernel
theorem d4_14 : decode prog_12_method_12_code 14 = .ok (.ldc2_w 141, 3) := by decide +kernel
theorem d4_17 : decode prog_12_method_12_code 17 = .ok (.lmul, 1) := by decide +kernel
theorem d4_18 : decode prog_12_method_12_code 18 = .ok (.aload_n 0, 1) := by decide +kernel
theorem d4_19 : decode prog_12_method_12_code 19 = .ok (.iload 5, 2) := by decide +kernel
theorem d4_21 : decode prog_12_method_12_code 21 = .ok (.baload, 1) := by decide +kernel
theorem d4_22 : decode prog_12_method_12_code 22 = .ok (.i2l, 1) := by decide +kernel
theorem d4_23 : decode prog_12_method_12_code 23 = .ok (.ladd, 1) := by decide +kernel
theorem d4_24 : decode prog_12_method_12_code 24 = .ok (.ldc2_w 145, 3) := by decide +kernel
theorem d4_27 : decode prog_12_method_12_code 27 = .ok (.lsub, 1) := by decide +kernel
theorem d4_28 : decode prog_12_method_12_code 28 = .ok (.lstore_n 3, 1) := by decide +kernel
theorem d4_29 : decode prog_12_method_12_code 29 = .ok (.iinc 5 1, 3) := by decide +kernel
theorem d4_32 : decode prog_12_method_12_code 32 = .ok (.goto (-27), 3) := by decide +kernel
theorem d4_35 : decode prog_12_method_12_code 35 = .ok (.lload_n 3, 1) := by decide +kernel
theorem d4_36 : decode prog_12_method_12_code 36 = .ok (.lreturn, 1) := by decide +kernel
theorem pn_1 : plainName "com/example/poukaz/poukaz/FieldKind" = true := by first | (simp [plainName, overriddenIn]; done) | decide +kernel
theorem ef_rm4 (m : MethodId) (a1 : Addr) (p2 : Int32) (p3 : Int32) : entryFrame m #[(.ref a1), (.int p2), (.int p3)] 6 = mkF m 0 #[.val (.ref a1), .val (.int p2), .val (.int p3), .unset, .unset, .unset] [] := by first | (simp [entryFrame, mkF, argsToLocals, Value.category]; done) | rfl
def Q4 (Z : State) (a1 : Addr) (p2 : Int32) (p3 : Int32) (k : ClassId) (f : Nat → Int32) (s0 : Nat) (nn : Nat) (h0 : Heap) (n0 : Nat) (v : Option Value) (h : Heap) (L : List Loc) : Prop := ∃ r : Int64, v = some (.long r) ∧ r = own_num f s0 nn ∧ Fr n0 L ∧ h = h0
set_option maxRecDepth 65536 in
set_option maxHeartbeats 40000000 in
theorem rm4 (l : Launch) (Z : State) (a0 : Array Value) (hw : ∀ d ∈ tables_1, d.before a0 Z = true) (ws : List Jvm.Cond) (a1 : Addr) (p2 : Int32) (p3 : Int32) (k : ClassId) (f : Nat → Int32) (s0 : Nat) (nn : Nat) (h0 : Heap) (n0 : Nat) (Z0 : n0 ≤ h0.size) (A_a1 : AV Z h0 a1 k .byte 18 (fun i => Value.int (f i))) (hp2 : p2 = Int32.ofNat s0) (hp3 : p3 = Int32.ofNat nn) (hs : s0 + nn ≤ 18) :
    MetFree l (⟨"com/example/poukaz/poukaz/FieldKind", "number", "([BII)J"⟩ : MethodName) (head1 (Jvm.Cond.code (⟨"com/example/poukaz/poukaz/FieldKind", "number", "([BII)J"⟩ : MethodName) prog_12_method_12_code 6 (some .long) :: ws) ({ frames := 0, cells := 0, slots := 0, locals := 0 } : Room)) (fun a U => a = #[(.ref a1), (.int p2), (.int p3)] ∧ Z.Warmed39 U.vm ∧ U.heap = h0) (fun _ _ _ _ _ => True) (fun _ U o U' => ∃ v L, o = .returned v ∧ Q4 Z a1 p2 p3 k f s0 nn h0 n0 v U'.heap L ∧ FrameEnd U o U' L ({ frames := 0, cells := 0, slots := 0, locals := 0 } : Room).cells ({ frames := 0, cells := 0, slots := 0, locals := 0 } : Room).slots) := by
  refine MetFree.of_bodySF (plainFor_of_name pn_1) hisR ?_
  intro p e s m args below meth c s₁ Bd hml0 hP hK
  obtain ⟨rfl, hZ, hh⟩ := hP
  have hx := Bd.exec
  have hby := Bd.bytes
  have hml : c.maxLocals = 6 := hml0
  have hown : s.vm.findClass "com/example/poukaz/poukaz/FieldKind" = some m.cls := findClass_of_methodNamed Bd.named
  have hnm := (name_of_methodNamed Bd.named Bd.method).1
  have X0 : Stand p l e ({ frames := 0, cells := 0, slots := 0, locals := 0 } : Room) s m #[(.ref a1), (.int p2), (.int p3)] below meth c s₁ [] 0 0 := Stand.of_body Bd
  have e0 : s₁.heap = h0 := by rw [← hh, Bd.state]; rfl
  have N0 := Fr.nil n0
  show GoalS p.tables e below s ({ frames := 0, cells := 0, slots := 0, locals := 0 } : Room).cells ({ frames := 0, cells := 0, slots := 0, locals := 0 } : Room).slots (Q4 Z a1 p2 p3 k f s0 nn h0 n0) (s₁.setTop (entryFrame m #[(.ref a1), (.int p2), (.int p3)] 6))
  refine GoalS.lift (B := s₁.setTop (mkF m 0 #[.val (.ref a1), .val (.int p2), .val (.int p3), .unset, .unset, .unset] [])) (fun t k => castTop (ef_rm4 m a1 p2 p3) k) ?_
  have K0 : Keep h0 h0 [] := Keep.refl _ _
  refine GoalS.lift (B := (s₁.setTop (mkF m 5 #[.val (.ref a1), .val (.int p2), .val (.int p3), .val (.long (0 : Int64)), .second, .val (.int p2)] []))) (fun t k => ?_) ?_
  · show Steps p.tables e below (s₁.setTop (mkF m 0 #[.val (.ref a1), .val (.int p2), .val (.int p3), .unset, .unset, .unset] [])) _
    refine XS.lconst X0.here hx rfl (hb hby d4_0) ?_
    show Steps p.tables e below (s₁.setTop (mkF m 1 #[.val (.ref a1), .val (.int p2), .val (.int p3), .unset, .unset, .unset] [(.long (0 : Int64))])) _
    refine XS.lstoreN X0.here hx rfl (hb hby d4_1) rfl (l' := #[.val (.ref a1), .val (.int p2), .val (.int p3), .val (.long (0 : Int64)), .second, .unset]) rfl ?_
    show Steps p.tables e below (s₁.setTop (mkF m 2 #[.val (.ref a1), .val (.int p2), .val (.int p3), .val (.long (0 : Int64)), .second, .unset] [])) _
    refine XS.iloadN X0.here hx rfl (hb hby d4_2) rfl ?_
    show Steps p.tables e below (s₁.setTop (mkF m 3 #[.val (.ref a1), .val (.int p2), .val (.int p3), .val (.long (0 : Int64)), .second, .unset] [(.int p2)])) _
    refine XS.istore X0.here hx rfl (hb hby d4_3) rfl (l' := #[.val (.ref a1), .val (.int p2), .val (.int p3), .val (.long (0 : Int64)), .second, .val (.int p2)]) rfl ?_
    show Steps p.tables e below (s₁.setTop (mkF m 5 #[.val (.ref a1), .val (.int p2), .val (.int p3), .val (.long (0 : Int64)), .second, .val (.int p2)] [])) _
    exact k
  have LP1 : ∀ (kk : Nat) (a : Nat) (acc : Int64) (i : Int32), (i = Int32.ofNat (s0 + a) ∧ a + kk = nn) → (acc = own_num f s0 a) → GoalS p.tables e below s ({ frames := 0, cells := 0, slots := 0, locals := 0 } : Room).cells ({ frames := 0, cells := 0, slots := 0, locals := 0 } : Room).slots (Q4 Z a1 p2 p3 k f s0 nn h0 n0) (s₁.setTop (mkF m 5 #[.val (.ref a1), .val (.int p2), .val (.int p3), .val (.long acc), .second, .val (.int i)] [])) := by
    intro kk
    induction kk using Nat.strongRecOn with
    | ind kk ih =>
    intro a acc i hi hacc
    refine GoalS.lift (B := (s₁.setTop (mkF m 10 #[.val (.ref a1), .val (.int p2), .val (.int p3), .val (.long acc), .second, .val (.int i)] [(.int (p2 + p3)), (.int i)]))) (fun t k => ?_) ?_
    · show Steps p.tables e below (s₁.setTop (mkF m 5 #[.val (.ref a1), .val (.int p2), .val (.int p3), .val (.long acc), .second, .val (.int i)] [])) _
      refine XS.iload X0.here hx rfl (hb hby d4_5) rfl ?_
      show Steps p.tables e below (s₁.setTop (mkF m 7 #[.val (.ref a1), .val (.int p2), .val (.int p3), .val (.long acc), .second, .val (.int i)] [(.int i)])) _
      refine XS.iloadN X0.here hx rfl (hb hby d4_7) rfl ?_
      show Steps p.tables e below (s₁.setTop (mkF m 8 #[.val (.ref a1), .val (.int p2), .val (.int p3), .val (.long acc), .second, .val (.int i)] [(.int p2), (.int i)])) _
      refine XS.iloadN X0.here hx rfl (hb hby d4_8) rfl ?_
      show Steps p.tables e below (s₁.setTop (mkF m 9 #[.val (.ref a1), .val (.int p2), .val (.int p3), .val (.long acc), .second, .val (.int i)] [(.int p3), (.int p2), (.int i)])) _
      refine XS.iadd X0.here hx rfl (hb hby d4_9) rfl ?_
      show Steps p.tables e below (s₁.setTop (mkF m 10 #[.val (.ref a1), .val (.int p2), .val (.int p3), .val (.long acc), .second, .val (.int i)] [(.int (p2 + p3)), (.int i)])) _
      exact k
    by_cases hc10_3 : i < (p2 + p3)
    · have hlt : a < nn := by rw [hi.1, hp2, hp3, own_addn, own_lt (by omega) (by omega)] at hc10_3; omega
      obtain ⟨cl4, Ar4, kc4, sz4, -, hv4⟩ := id A_a1
      have hin4 : ¬ (i < 0 ∨ cl4.slots.size ≤ (i).toNatClampNeg) := AV.inb sz4 ⟨(own_nat hi.1 (by omega)).1, by rw [(own_nat hi.1 (by omega)).2]; omega⟩
      have hat4 : cl4.slots[(i).toNatClampNeg]? = some (.int (f (i).toNatClampNeg)) := (hv4 _ (AV.inx ⟨(own_nat hi.1 (by omega)).1, by rw [(own_nat hi.1 (by omega)).2]; omega⟩)).trans (congrArg some rfl)
      refine GoalS.lift (B := (s₁.setTop (mkF m 5 #[.val (.ref a1), .val (.int p2), .val (.int p3), .val (.long (((acc * (10 : Int64)) + (((f (i).toNatClampNeg)).toInt64)) - (48 : Int64))), .second, .val (.int (i + (1 : Int32)))] []))) (fun t k => ?_) ?_
      · show Steps p.tables e below (s₁.setTop (mkF m 10 #[.val (.ref a1), .val (.int p2), .val (.int p3), .val (.long acc), .second, .val (.int i)] [(.int (p2 + p3)), (.int i)])) _
        refine XS.icmpNo X0.here hx rfl (hb hby d4_10) rfl ((tlt hc10_3).2.1) ?_
        show Steps p.tables e below (s₁.setTop (mkF m 13 #[.val (.ref a1), .val (.int p2), .val (.int p3), .val (.long acc), .second, .val (.int i)] [])) _
        refine XS.lloadN X0.here hx rfl (hb hby d4_13) rfl ?_
        show Steps p.tables e below (s₁.setTop (mkF m 14 #[.val (.ref a1), .val (.int p2), .val (.int p3), .val (.long acc), .second, .val (.int i)] [(.long acc)])) _
        refine X0.ldc2Long hx hown (mvT hZ (hw _ (List.mem_of_getElem? (i := 36) rfl))) (g := (mkF m 14 #[.val (.ref a1), .val (.int p2), .val (.int p3), .val (.long acc), .second, .val (.int i)] [(.long acc)])) rfl (hb hby d4_14) _ ?_
        show Steps p.tables e below (s₁.setTop (mkF m 17 #[.val (.ref a1), .val (.int p2), .val (.int p3), .val (.long acc), .second, .val (.int i)] [(.long (10 : Int64)), (.long acc)])) _
        refine XS.lmul X0.here hx rfl (hb hby d4_17) rfl ?_
        show Steps p.tables e below (s₁.setTop (mkF m 18 #[.val (.ref a1), .val (.int p2), .val (.int p3), .val (.long acc), .second, .val (.int i)] [(.long (acc * (10 : Int64)))])) _
        refine XS.aloadN X0.here hx rfl (hb hby d4_18) rfl rfl ?_
        show Steps p.tables e below (s₁.setTop (mkF m 19 #[.val (.ref a1), .val (.int p2), .val (.int p3), .val (.long acc), .second, .val (.int i)] [(.ref a1), (.long (acc * (10 : Int64)))])) _
        refine XS.iload X0.here hx rfl (hb hby d4_19) rfl ?_
        show Steps p.tables e below (s₁.setTop (mkF m 21 #[.val (.ref a1), .val (.int p2), .val (.int p3), .val (.long acc), .second, .val (.int i)] [(.int i), (.ref a1), (.long (acc * (10 : Int64)))])) _
        refine X0.baloadBytes hx (j := i) (v := (.int (f (i).toNatClampNeg))) (by rw [e0]; exact Ar4.1) (State.isArrayOf_alike hZ.alike Ar4.2.1) Ar4.2.2 hin4 hat4 (g := (mkF m 21 #[.val (.ref a1), .val (.int p2), .val (.int p3), .val (.long acc), .second, .val (.int i)] [(.int i), (.ref a1), (.long (acc * (10 : Int64)))])) rfl rfl (hb hby d4_21) _ ?_
        show Steps p.tables e below (s₁.setTop (mkF m 22 #[.val (.ref a1), .val (.int p2), .val (.int p3), .val (.long acc), .second, .val (.int i)] [(.int (f (i).toNatClampNeg)), (.long (acc * (10 : Int64)))])) _
        refine XS.i2l X0.here hx rfl (hb hby d4_22) rfl ?_
        show Steps p.tables e below (s₁.setTop (mkF m 23 #[.val (.ref a1), .val (.int p2), .val (.int p3), .val (.long acc), .second, .val (.int i)] [(.long (((f (i).toNatClampNeg)).toInt64)), (.long (acc * (10 : Int64)))])) _
        refine XS.ladd X0.here hx rfl (hb hby d4_23) rfl ?_
        show Steps p.tables e below (s₁.setTop (mkF m 24 #[.val (.ref a1), .val (.int p2), .val (.int p3), .val (.long acc), .second, .val (.int i)] [(.long ((acc * (10 : Int64)) + (((f (i).toNatClampNeg)).toInt64)))])) _
        refine X0.ldc2Long hx hown (mvT hZ (hw _ (List.mem_of_getElem? (i := 37) rfl))) (g := (mkF m 24 #[.val (.ref a1), .val (.int p2), .val (.int p3), .val (.long acc), .second, .val (.int i)] [(.long ((acc * (10 : Int64)) + (((f (i).toNatClampNeg)).toInt64)))])) rfl (hb hby d4_24) _ ?_
        show Steps p.tables e below (s₁.setTop (mkF m 27 #[.val (.ref a1), .val (.int p2), .val (.int p3), .val (.long acc), .second, .val (.int i)] [(.long (48 : Int64)), (.long ((acc * (10 : Int64)) + (((f (i).toNatClampNeg)).toInt64)))])) _
        refine XS.lsub X0.here hx rfl (hb hby d4_27) rfl ?_
        show Steps p.tables e below (s₁.setTop (mkF m 28 #[.val (.ref a1), .val (.int p2), .val (.int p3), .val (.long acc), .second, .val (.int i)] [(.long (((acc * (10 : Int64)) + (((f (i).toNatClampNeg)).toInt64)) - (48 : Int64)))])) _
        refine XS.lstoreN X0.here hx rfl (hb hby d4_28) rfl (l' := #[.val (.ref a1), .val (.int p2), .val (.int p3), .val (.long (((acc * (10 : Int64)) + (((f (i).toNatClampNeg)).toInt64)) - (48 : Int64))), .second, .val (.int i)]) rfl ?_
        show Steps p.tables e below (s₁.setTop (mkF m 29 #[.val (.ref a1), .val (.int p2), .val (.int p3), .val (.long (((acc * (10 : Int64)) + (((f (i).toNatClampNeg)).toInt64)) - (48 : Int64))), .second, .val (.int i)] [])) _
        refine XS.iinc X0.here hx rfl (hb hby d4_29) rfl (l' := #[.val (.ref a1), .val (.int p2), .val (.int p3), .val (.long (((acc * (10 : Int64)) + (((f (i).toNatClampNeg)).toInt64)) - (48 : Int64))), .second, .val (.int (i + (1 : Int32)))]) rfl ?_
        show Steps p.tables e below (s₁.setTop (mkF m 32 #[.val (.ref a1), .val (.int p2), .val (.int p3), .val (.long (((acc * (10 : Int64)) + (((f (i).toNatClampNeg)).toInt64)) - (48 : Int64))), .second, .val (.int (i + (1 : Int32)))] [])) _
        refine XS.goto X0.here hx rfl (pc0 := 32) (pc' := 5) rfl (hb hby d4_32) (by decide) (by decide) ?_
        show Steps p.tables e below (s₁.setTop (mkF m 5 #[.val (.ref a1), .val (.int p2), .val (.int p3), .val (.long (((acc * (10 : Int64)) + (((f (i).toNatClampNeg)).toInt64)) - (48 : Int64))), .second, .val (.int (i + (1 : Int32)))] [])) _
        exact k
      exact ih (kk - 1) (by have := hlt; omega) (a + 1) (((acc * (10 : Int64)) + (((f (i).toNatClampNeg)).toInt64)) - (48 : Int64)) (i + (1 : Int32)) ⟨by rw [hi.1, own_up]; rfl, by have := hlt; omega⟩ (by rw [hacc, (own_nat hi.1 (by omega)).2]; rfl)
    · have hlt : ¬ a < nn := by rw [hi.1, hp2, hp3, own_addn, own_lt (by omega) (by omega)] at hc10_3; omega
      obtain ⟨fs, hr, hrun, hended, hW, hsame⟩ := X0.leave (v := some (.long acc)) (fun h => by rw [Bd.returns] at h; cases h)
      refine ⟨_, _, ?_, hrun, hended, _, _, rfl, ?_, ⟨_, rfl⟩, hW, hsame.mono (by decide) (by decide)⟩
      · show Steps p.tables e below (s₁.setTop (mkF m 10 #[.val (.ref a1), .val (.int p2), .val (.int p3), .val (.long acc), .second, .val (.int i)] [(.int (p2 + p3)), (.int i)])) _
        refine XS.icmpYes X0.here hx rfl (pc0 := 10) (pc' := 35) rfl (hb hby d4_10) rfl ((flt hc10_3).2.1) (by decide) (by decide) ?_
        show Steps p.tables e below (s₁.setTop (mkF m 35 #[.val (.ref a1), .val (.int p2), .val (.int p3), .val (.long acc), .second, .val (.int i)] [])) _
        refine XS.lloadN X0.here hx rfl (hb hby d4_35) rfl ?_
        show Steps p.tables e below (s₁.setTop (mkF m 36 #[.val (.ref a1), .val (.int p2), .val (.int p3), .val (.long acc), .second, .val (.int i)] [(.long acc)])) _
        exact X0.lreturnOut hx Bd.returns (hb hby d4_36) hr
      · show Q4 Z a1 p2 p3 k f s0 nn h0 n0 _ s₁.heap _
        exact ⟨_, rfl, (by rw [hacc]; congr 1; have := hlt; omega), N0, e0⟩
  exact LP1 nn 0 (0 : Int64) p2 ⟨hp2, Nat.zero_add _⟩ rfl
theorem pd_1 : parseMethodDescriptor "([I[BJJI)V" = some ⟨[(.array .int), (.array .byte), .long, .long, .int], none⟩ := by decide +kernel
theorem pd_2 : parseMethodDescriptor "([I[JIII)J" = some ⟨[(.array .int), (.array .long), .int, .int, .int], some .long⟩ := by decide +kernel
theorem pd_3 : parseMethodDescriptor "([BII)J" = some ⟨[(.array .byte), .int, .int], some .long⟩ := by decide +kernel
theorem ef_rm0 (m : MethodId) (q1 : Int64) (q2 : Int64) (p3 : Int32) (p4 : Int32) : entryFrame m #[(.long q1), (.long q2), (.int p3), (.int p4)] maxLocals = mkF m 0 #[.val (.long q1), .second, .val (.long q2), .second, .val (.int p3), .val (.int p4), .unset, .unset, .unset, .unset, .unset, .unset, .unset] [] := by first | (simp [entryFrame, mkF, argsToLocals, Value.category, maxLocals]; done) | rfl
def Q0 (Z : State) (q1 : Int64) (q2 : Int64) (p3 : Int32) (p4 : Int32) (h0 : Heap) (n0 : Nat) (v : Option Value) (h : Heap) (L : List Loc) : Prop := v = some (.int (1 : Int32)) ∧ Fr n0 L
set_option maxRecDepth 65536 in
set_option maxHeartbeats 40000000 in
theorem own_tail (l : Launch) (Z : State) (a0 : Array Value) (hw : ∀ d ∈ tables_1, d.before a0 Z = true) (ws : List Jvm.Cond) (q1 : Int64) (q2 : Int64) (p3 : Int32) (p4 : Int32) (wd : Int32) (os : Int32) (W : Nat) (O : Nat) (b1 : Addr) (b39 : Addr) (b41 : Addr) (k1 : ClassId) (k39 : ClassId) (k41 : ClassId) (fn37 : Nat → Int64) (fn117 : Nat → Int32) (fn118 : Nat → Int32) (h0 : Heap) (n0 : Nat) {p : Program} {e : Env} {s : State} {m : MethodId} {below : List Frame} {meth : Method} {c : Code} {s₁ : State}
    (Bd : BodyLoose p l x (head1 (Jvm.Cond.code x code maxLocals ret :: ws) room_1) code maxLocals ret e s m #[(.long q1), (.long q2), (.int p3), (.int p4)] below meth c s₁) (hml : c.maxLocals = 13) (hZ : Z.Warmed39 s.vm) (TC : State) (hC : Heap) (lC : List Loc) (XC : Stand p l e room_1 s m #[(.long q1), (.long q2), (.int p3), (.int p4)] below meth c TC lC 3 54) (eC : TC.heap = hC) (NC : Fr n0 lC) (zC : n0 ≤ hC.size)
    (fc0 : AV Z hC b1 k1 .long 18 (fun i => Value.long (fn37 i))) (fc1 : AV Z hC b39 k39 .int 18 (fun i => Value.int (fn117 i))) (fc2 : AV Z hC b41 k41 .byte 18 (fun i => Value.int (fn118 i))) (ne_b1_b39 : b1 ≠ b39) (ne_b1_b41 : b1 ≠ b41) (ne_b39_b41 : b39 ≠ b41) (g_b1 : n0 ≤ b1) (g_b39 : n0 ≤ b39) (g_b41 : n0 ≤ b41) (hwW : wd = Int32.ofNat W) (hoO : os = Int32.ofNat O) (hOW : O + W ≤ 18) (hP18 : ∀ i, i < 18 → fn37 i = own_p10 i) (hD18 : ∀ i, i < 18 → fn117 i = (fun j => own_digit q1 q2 (Int32.ofNat j)) i) (hR18 : ∀ i, i < 18 → fn118 i = (fun j => ((((48 : Int32) + own_digit q1 q2 (Int32.ofNat j))).toInt8.toInt32).toInt8.toInt32) i) :
    GoalS p.tables e below s 16 192 (Q0 Z q1 q2 p3 p4 h0 n0) (TC.setTop (mkF m 351 #[.val (.long q1), .second, .val (.long q2), .second, .val (.int p3), .val (.int p4), .val (.int wd), .val (.int os), .val (.ref b1), .val (.ref b39), .val (.ref b41), .unset, .unset] [])) := by
  have hx := Bd.exec
  have hby := Bd.bytes
  have hown : s.vm.findClass "com/example/poukaz/poukaz/FieldKindNumberPinLaw" = some m.cls := findClass_of_methodNamed Bd.named
  have hnm := (name_of_methodNamed Bd.named Bd.method).1
  obtain ⟨_, _, ⟨T120, L120, k120, n120⟩, -, X120, ⟨Lc120, hQ120, l120, y120, z120⟩, st120⟩ := Jvm.LawKit.callS XC hx (y := (⟨"com/example/poukaz/poukaz/FieldKindNumberPinLaw", "term", "([I[JIII)J"⟩ : MethodName)) hown (mvT hZ (hw _ (List.mem_of_getElem? (i := 29) rfl))) (mvT hZ (hw _ (List.mem_of_getElem? (i := 30) rfl))) (mvT hZ (hw _ (List.mem_of_getElem? (i := 23) rfl))) (mvT hZ (hw _ (List.mem_of_getElem? (i := 31) rfl))) (by decide) (backOf (W := 0) (rm3 l Z a0 hw [] b39 b1 (0 : Int32) os wd k39 k1 fn117 fn37 O W hC n0 zC fc1 fc0 ⟨by decide, by decide⟩ ⟨hoO, hwW, hOW⟩) hZ (hw _ (List.mem_of_getElem? (i := 31) rfl)) (hw _ (List.mem_of_getElem? (i := 23) rfl)) (by decide) (by decide)) (g := (mkF m 360 #[.val (.long q1), .second, .val (.long q2), .second, .val (.int p3), .val (.int p4), .val (.int wd), .val (.int os), .val (.ref b1), .val (.ref b39), .val (.ref b41), .unset, .unset] [(.int wd), (.int os), (.int (0 : Int32)), (.ref b1), (.ref b39)])) rfl (by rw [hml]; rfl) (argsL := [(.ref b39), (.ref b1), (.int (0 : Int32)), (.int os), (.int wd)]) (rest := []) (lenOf pd_2 rfl) rfl (by show 2 * 0 + _ ≤ _; exact Nat.le_of_eq rfl) (hb hby at_360) (fun _ _ => ⟨rfl, eC, (by decide : 3 + 0 ≤ _), (by decide : 54 + 0 ≤ _)⟩)
  dsimp only [Pt.U, Pt.locs, Pt.cells, Pt.slots] at X120 l120 y120 z120 st120 hQ120
  subst y120 z120
  obtain ⟨r120, rfl, hr120, N120q, eq120⟩ := hQ120
  have N120 : Fr n0 L120 := by rw [l120]; exact Fr.app NC N120q
  obtain ⟨_, _, ⟨T121, L121, k121, n121⟩, -, X121, ⟨Lc121, hQ121, l121, y121, z121⟩, st121⟩ := Jvm.LawKit.callS X120 hx (y := (⟨"com/example/poukaz/poukaz/FieldKindNumberPinLaw", "term", "([I[JIII)J"⟩ : MethodName)) hown (mvT hZ (hw _ (List.mem_of_getElem? (i := 29) rfl))) (mvT hZ (hw _ (List.mem_of_getElem? (i := 30) rfl))) (mvT hZ (hw _ (List.mem_of_getElem? (i := 23) rfl))) (mvT hZ (hw _ (List.mem_of_getElem? (i := 31) rfl))) (by decide) (backOf (W := 2) (rm3 l Z a0 hw [] b39 b1 (1 : Int32) os wd k39 k1 fn117 fn37 O W hC n0 zC fc1 fc0 ⟨by decide, by decide⟩ ⟨hoO, hwW, hOW⟩) hZ (hw _ (List.mem_of_getElem? (i := 31) rfl)) (hw _ (List.mem_of_getElem? (i := 23) rfl)) (by decide) (by decide)) (g := (mkF m 372 #[.val (.long q1), .second, .val (.long q2), .second, .val (.int p3), .val (.int p4), .val (.int wd), .val (.int os), .val (.ref b1), .val (.ref b39), .val (.ref b41), .unset, .unset] [(.int wd), (.int os), (.int (1 : Int32)), (.ref b1), (.ref b39), (.long r120)])) rfl (by rw [hml]; rfl) (argsL := [(.ref b39), (.ref b1), (.int (1 : Int32)), (.int os), (.int wd)]) (rest := [(.long r120)]) (lenOf pd_2 rfl) rfl (by show 2 * 0 + _ ≤ _; exact Nat.le_of_eq rfl) (hb hby at_372) (fun _ _ => ⟨rfl, eq120, (by decide : 3 + 0 ≤ _), (by decide : 54 + 0 ≤ _)⟩)
  dsimp only [Pt.U, Pt.locs, Pt.cells, Pt.slots] at X121 l121 y121 z121 st121 hQ121
  subst y121 z121
  obtain ⟨r121, rfl, hr121, N121q, eq121⟩ := hQ121
  have N121 : Fr n0 L121 := by rw [l121]; exact Fr.app N120 N121q
  obtain ⟨_, _, ⟨T122, L122, k122, n122⟩, -, X122, ⟨Lc122, hQ122, l122, y122, z122⟩, st122⟩ := Jvm.LawKit.callS X121 hx (y := (⟨"com/example/poukaz/poukaz/FieldKindNumberPinLaw", "term", "([I[JIII)J"⟩ : MethodName)) hown (mvT hZ (hw _ (List.mem_of_getElem? (i := 29) rfl))) (mvT hZ (hw _ (List.mem_of_getElem? (i := 30) rfl))) (mvT hZ (hw _ (List.mem_of_getElem? (i := 23) rfl))) (mvT hZ (hw _ (List.mem_of_getElem? (i := 31) rfl))) (by decide) (backOf (W := 2) (rm3 l Z a0 hw [] b39 b1 (2 : Int32) os wd k39 k1 fn117 fn37 O W hC n0 zC fc1 fc0 ⟨by decide, by decide⟩ ⟨hoO, hwW, hOW⟩) hZ (hw _ (List.mem_of_getElem? (i := 31) rfl)) (hw _ (List.mem_of_getElem? (i := 23) rfl)) (by decide) (by decide)) (g := (mkF m 385 #[.val (.long q1), .second, .val (.long q2), .second, .val (.int p3), .val (.int p4), .val (.int wd), .val (.int os), .val (.ref b1), .val (.ref b39), .val (.ref b41), .unset, .unset] [(.int wd), (.int os), (.int (2 : Int32)), (.ref b1), (.ref b39), (.long (r120 + r121))])) rfl (by rw [hml]; rfl) (argsL := [(.ref b39), (.ref b1), (.int (2 : Int32)), (.int os), (.int wd)]) (rest := [(.long (r120 + r121))]) (lenOf pd_2 rfl) rfl (by show 2 * 0 + _ ≤ _; exact Nat.le_of_eq rfl) (hb hby at_385) (fun _ _ => ⟨rfl, eq121, (by decide : 3 + 0 ≤ _), (by decide : 54 + 0 ≤ _)⟩)
  dsimp only [Pt.U, Pt.locs, Pt.cells, Pt.slots] at X122 l122 y122 z122 st122 hQ122
  subst y122 z122
  obtain ⟨r122, rfl, hr122, N122q, eq122⟩ := hQ122
  have N122 : Fr n0 L122 := by rw [l122]; exact Fr.app N121 N122q
  obtain ⟨_, _, ⟨T123, L123, k123, n123⟩, -, X123, ⟨Lc123, hQ123, l123, y123, z123⟩, st123⟩ := Jvm.LawKit.callS X122 hx (y := (⟨"com/example/poukaz/poukaz/FieldKindNumberPinLaw", "term", "([I[JIII)J"⟩ : MethodName)) hown (mvT hZ (hw _ (List.mem_of_getElem? (i := 29) rfl))) (mvT hZ (hw _ (List.mem_of_getElem? (i := 30) rfl))) (mvT hZ (hw _ (List.mem_of_getElem? (i := 23) rfl))) (mvT hZ (hw _ (List.mem_of_getElem? (i := 31) rfl))) (by decide) (backOf (W := 2) (rm3 l Z a0 hw [] b39 b1 (3 : Int32) os wd k39 k1 fn117 fn37 O W hC n0 zC fc1 fc0 ⟨by decide, by decide⟩ ⟨hoO, hwW, hOW⟩) hZ (hw _ (List.mem_of_getElem? (i := 31) rfl)) (hw _ (List.mem_of_getElem? (i := 23) rfl)) (by decide) (by decide)) (g := (mkF m 398 #[.val (.long q1), .second, .val (.long q2), .second, .val (.int p3), .val (.int p4), .val (.int wd), .val (.int os), .val (.ref b1), .val (.ref b39), .val (.ref b41), .unset, .unset] [(.int wd), (.int os), (.int (3 : Int32)), (.ref b1), (.ref b39), (.long ((r120 + r121) + r122))])) rfl (by rw [hml]; rfl) (argsL := [(.ref b39), (.ref b1), (.int (3 : Int32)), (.int os), (.int wd)]) (rest := [(.long ((r120 + r121) + r122))]) (lenOf pd_2 rfl) rfl (by show 2 * 0 + _ ≤ _; exact Nat.le_of_eq rfl) (hb hby at_398) (fun _ _ => ⟨rfl, eq122, (by decide : 3 + 0 ≤ _), (by decide : 54 + 0 ≤ _)⟩)
  dsimp only [Pt.U, Pt.locs, Pt.cells, Pt.slots] at X123 l123 y123 z123 st123 hQ123
  subst y123 z123
  obtain ⟨r123, rfl, hr123, N123q, eq123⟩ := hQ123
  have N123 : Fr n0 L123 := by rw [l123]; exact Fr.app N122 N123q
  obtain ⟨_, _, ⟨T124, L124, k124, n124⟩, -, X124, ⟨Lc124, hQ124, l124, y124, z124⟩, st124⟩ := Jvm.LawKit.callS X123 hx (y := (⟨"com/example/poukaz/poukaz/FieldKindNumberPinLaw", "term", "([I[JIII)J"⟩ : MethodName)) hown (mvT hZ (hw _ (List.mem_of_getElem? (i := 29) rfl))) (mvT hZ (hw _ (List.mem_of_getElem? (i := 30) rfl))) (mvT hZ (hw _ (List.mem_of_getElem? (i := 23) rfl))) (mvT hZ (hw _ (List.mem_of_getElem? (i := 31) rfl))) (by decide) (backOf (W := 2) (rm3 l Z a0 hw [] b39 b1 (4 : Int32) os wd k39 k1 fn117 fn37 O W hC n0 zC fc1 fc0 ⟨by decide, by decide⟩ ⟨hoO, hwW, hOW⟩) hZ (hw _ (List.mem_of_getElem? (i := 31) rfl)) (hw _ (List.mem_of_getElem? (i := 23) rfl)) (by decide) (by decide)) (g := (mkF m 411 #[.val (.long q1), .second, .val (.long q2), .second, .val (.int p3), .val (.int p4), .val (.int wd), .val (.int os), .val (.ref b1), .val (.ref b39), .val (.ref b41), .unset, .unset] [(.int wd), (.int os), (.int (4 : Int32)), (.ref b1), (.ref b39), (.long (((r120 + r121) + r122) + r123))])) rfl (by rw [hml]; rfl) (argsL := [(.ref b39), (.ref b1), (.int (4 : Int32)), (.int os), (.int wd)]) (rest := [(.long (((r120 + r121) + r122) + r123))]) (lenOf pd_2 rfl) rfl (by show 2 * 0 + _ ≤ _; exact Nat.le_of_eq rfl) (hb hby at_411) (fun _ _ => ⟨rfl, eq123, (by decide : 3 + 0 ≤ _), (by decide : 54 + 0 ≤ _)⟩)
  dsimp only [Pt.U, Pt.locs, Pt.cells, Pt.slots] at X124 l124 y124 z124 st124 hQ124
  subst y124 z124
  obtain ⟨r124, rfl, hr124, N124q, eq124⟩ := hQ124
  have N124 : Fr n0 L124 := by rw [l124]; exact Fr.app N123 N124q
  obtain ⟨_, _, ⟨T125, L125, k125, n125⟩, -, X125, ⟨Lc125, hQ125, l125, y125, z125⟩, st125⟩ := Jvm.LawKit.callS X124 hx (y := (⟨"com/example/poukaz/poukaz/FieldKindNumberPinLaw", "term", "([I[JIII)J"⟩ : MethodName)) hown (mvT hZ (hw _ (List.mem_of_getElem? (i := 29) rfl))) (mvT hZ (hw _ (List.mem_of_getElem? (i := 30) rfl))) (mvT hZ (hw _ (List.mem_of_getElem? (i := 23) rfl))) (mvT hZ (hw _ (List.mem_of_getElem? (i := 31) rfl))) (by decide) (backOf (W := 2) (rm3 l Z a0 hw [] b39 b1 (5 : Int32) os wd k39 k1 fn117 fn37 O W hC n0 zC fc1 fc0 ⟨by decide, by decide⟩ ⟨hoO, hwW, hOW⟩) hZ (hw _ (List.mem_of_getElem? (i := 31) rfl)) (hw _ (List.mem_of_getElem? (i := 23) rfl)) (by decide) (by decide)) (g := (mkF m 424 #[.val (.long q1), .second, .val (.long q2), .second, .val (.int p3), .val (.int p4), .val (.int wd), .val (.int os), .val (.ref b1), .val (.ref b39), .val (.ref b41), .unset, .unset] [(.int wd), (.int os), (.int (5 : Int32)), (.ref b1), (.ref b39), (.long ((((r120 + r121) + r122) + r123) + r124))])) rfl (by rw [hml]; rfl) (argsL := [(.ref b39), (.ref b1), (.int (5 : Int32)), (.int os), (.int wd)]) (rest := [(.long ((((r120 + r121) + r122) + r123) + r124))]) (lenOf pd_2 rfl) rfl (by show 2 * 0 + _ ≤ _; exact Nat.le_of_eq rfl) (hb hby at_424) (fun _ _ => ⟨rfl, eq124, (by decide : 3 + 0 ≤ _), (by decide : 54 + 0 ≤ _)⟩)
  dsimp only [Pt.U, Pt.locs, Pt.cells, Pt.slots] at X125 l125 y125 z125 st125 hQ125
  subst y125 z125
  obtain ⟨r125, rfl, hr125, N125q, eq125⟩ := hQ125
  have N125 : Fr n0 L125 := by rw [l125]; exact Fr.app N124 N125q
  obtain ⟨_, _, ⟨T126, L126, k126, n126⟩, -, X126, ⟨Lc126, hQ126, l126, y126, z126⟩, st126⟩ := Jvm.LawKit.callS X125 hx (y := (⟨"com/example/poukaz/poukaz/FieldKindNumberPinLaw", "term", "([I[JIII)J"⟩ : MethodName)) hown (mvT hZ (hw _ (List.mem_of_getElem? (i := 29) rfl))) (mvT hZ (hw _ (List.mem_of_getElem? (i := 30) rfl))) (mvT hZ (hw _ (List.mem_of_getElem? (i := 23) rfl))) (mvT hZ (hw _ (List.mem_of_getElem? (i := 31) rfl))) (by decide) (backOf (W := 2) (rm3 l Z a0 hw [] b39 b1 (6 : Int32) os wd k39 k1 fn117 fn37 O W hC n0 zC fc1 fc0 ⟨by decide, by decide⟩ ⟨hoO, hwW, hOW⟩) hZ (hw _ (List.mem_of_getElem? (i := 31) rfl)) (hw _ (List.mem_of_getElem? (i := 23) rfl)) (by decide) (by decide)) (g := (mkF m 438 #[.val (.long q1), .second, .val (.long q2), .second, .val (.int p3), .val (.int p4), .val (.int wd), .val (.int os), .val (.ref b1), .val (.ref b39), .val (.ref b41), .unset, .unset] [(.int wd), (.int os), (.int (6 : Int32)), (.ref b1), (.ref b39), (.long (((((r120 + r121) + r122) + r123) + r124) + r125))])) rfl (by rw [hml]; rfl) (argsL := [(.ref b39), (.ref b1), (.int (6 : Int32)), (.int os), (.int wd)]) (rest := [(.long (((((r120 + r121) + r122) + r123) + r124) + r125))]) (lenOf pd_2 rfl) rfl (by show 2 * 0 + _ ≤ _; exact Nat.le_of_eq rfl) (hb hby at_438) (fun _ _ => ⟨rfl, eq125, (by decide : 3 + 0 ≤ _), (by decide : 54 + 0 ≤ _)⟩)
  dsimp only [Pt.U, Pt.locs, Pt.cells, Pt.slots] at X126 l126 y126 z126 st126 hQ126
  subst y126 z126
  obtain ⟨r126, rfl, hr126, N126q, eq126⟩ := hQ126
  have N126 : Fr n0 L126 := by rw [l126]; exact Fr.app N125 N126q
  obtain ⟨_, _, ⟨T127, L127, k127, n127⟩, -, X127, ⟨Lc127, hQ127, l127, y127, z127⟩, st127⟩ := Jvm.LawKit.callS X126 hx (y := (⟨"com/example/poukaz/poukaz/FieldKindNumberPinLaw", "term", "([I[JIII)J"⟩ : MethodName)) hown (mvT hZ (hw _ (List.mem_of_getElem? (i := 29) rfl))) (mvT hZ (hw _ (List.mem_of_getElem? (i := 30) rfl))) (mvT hZ (hw _ (List.mem_of_getElem? (i := 23) rfl))) (mvT hZ (hw _ (List.mem_of_getElem? (i := 31) rfl))) (by decide) (backOf (W := 2) (rm3 l Z a0 hw [] b39 b1 (7 : Int32) os wd k39 k1 fn117 fn37 O W hC n0 zC fc1 fc0 ⟨by decide, by decide⟩ ⟨hoO, hwW, hOW⟩) hZ (hw _ (List.mem_of_getElem? (i := 31) rfl)) (hw _ (List.mem_of_getElem? (i := 23) rfl)) (by decide) (by decide)) (g := (mkF m 452 #[.val (.long q1), .second, .val (.long q2), .second, .val (.int p3), .val (.int p4), .val (.int wd), .val (.int os), .val (.ref b1), .val (.ref b39), .val (.ref b41), .unset, .unset] [(.int wd), (.int os), (.int (7 : Int32)), (.ref b1), (.ref b39), (.long ((((((r120 + r121) + r122) + r123) + r124) + r125) + r126))])) rfl (by rw [hml]; rfl) (argsL := [(.ref b39), (.ref b1), (.int (7 : Int32)), (.int os), (.int wd)]) (rest := [(.long ((((((r120 + r121) + r122) + r123) + r124) + r125) + r126))]) (lenOf pd_2 rfl) rfl (by show 2 * 0 + _ ≤ _; exact Nat.le_of_eq rfl) (hb hby at_452) (fun _ _ => ⟨rfl, eq126, (by decide : 3 + 0 ≤ _), (by decide : 54 + 0 ≤ _)⟩)
  dsimp only [Pt.U, Pt.locs, Pt.cells, Pt.slots] at X127 l127 y127 z127 st127 hQ127
  subst y127 z127
  obtain ⟨r127, rfl, hr127, N127q, eq127⟩ := hQ127
  have N127 : Fr n0 L127 := by rw [l127]; exact Fr.app N126 N127q
  obtain ⟨_, _, ⟨T128, L128, k128, n128⟩, -, X128, ⟨Lc128, hQ128, l128, y128, z128⟩, st128⟩ := Jvm.LawKit.callS X127 hx (y := (⟨"com/example/poukaz/poukaz/FieldKindNumberPinLaw", "term", "([I[JIII)J"⟩ : MethodName)) hown (mvT hZ (hw _ (List.mem_of_getElem? (i := 29) rfl))) (mvT hZ (hw _ (List.mem_of_getElem? (i := 30) rfl))) (mvT hZ (hw _ (List.mem_of_getElem? (i := 23) rfl))) (mvT hZ (hw _ (List.mem_of_getElem? (i := 31) rfl))) (by decide) (backOf (W := 2) (rm3 l Z a0 hw [] b39 b1 (8 : Int32) os wd k39 k1 fn117 fn37 O W hC n0 zC fc1 fc0 ⟨by decide, by decide⟩ ⟨hoO, hwW, hOW⟩) hZ (hw _ (List.mem_of_getElem? (i := 31) rfl)) (hw _ (List.mem_of_getElem? (i := 23) rfl)) (by decide) (by decide)) (g := (mkF m 466 #[.val (.long q1), .second, .val (.long q2), .second, .val (.int p3), .val (.int p4), .val (.int wd), .val (.int os), .val (.ref b1), .val (.ref b39), .val (.ref b41), .unset, .unset] [(.int wd), (.int os), (.int (8 : Int32)), (.ref b1), (.ref b39), (.long (((((((r120 + r121) + r122) + r123) + r124) + r125) + r126) + r127))])) rfl (by rw [hml]; rfl) (argsL := [(.ref b39), (.ref b1), (.int (8 : Int32)), (.int os), (.int wd)]) (rest := [(.long (((((((r120 + r121) + r122) + r123) + r124) + r125) + r126) + r127))]) (lenOf pd_2 rfl) rfl (by show 2 * 0 + _ ≤ _; exact Nat.le_of_eq rfl) (hb hby at_466) (fun _ _ => ⟨rfl, eq127, (by decide : 3 + 0 ≤ _), (by decide : 54 + 0 ≤ _)⟩)
  dsimp only [Pt.U, Pt.locs, Pt.cells, Pt.slots] at X128 l128 y128 z128 st128 hQ128
  subst y128 z128
  obtain ⟨r128, rfl, hr128, N128q, eq128⟩ := hQ128
  have N128 : Fr n0 L128 := by rw [l128]; exact Fr.app N127 N128q
  obtain ⟨_, _, ⟨T129, L129, k129, n129⟩, -, X129, ⟨Lc129, hQ129, l129, y129, z129⟩, st129⟩ := Jvm.LawKit.callS X128 hx (y := (⟨"com/example/poukaz/poukaz/FieldKindNumberPinLaw", "term", "([I[JIII)J"⟩ : MethodName)) hown (mvT hZ (hw _ (List.mem_of_getElem? (i := 29) rfl))) (mvT hZ (hw _ (List.mem_of_getElem? (i := 30) rfl))) (mvT hZ (hw _ (List.mem_of_getElem? (i := 23) rfl))) (mvT hZ (hw _ (List.mem_of_getElem? (i := 31) rfl))) (by decide) (backOf (W := 2) (rm3 l Z a0 hw [] b39 b1 (9 : Int32) os wd k39 k1 fn117 fn37 O W hC n0 zC fc1 fc0 ⟨by decide, by decide⟩ ⟨hoO, hwW, hOW⟩) hZ (hw _ (List.mem_of_getElem? (i := 31) rfl)) (hw _ (List.mem_of_getElem? (i := 23) rfl)) (by decide) (by decide)) (g := (mkF m 480 #[.val (.long q1), .second, .val (.long q2), .second, .val (.int p3), .val (.int p4), .val (.int wd), .val (.int os), .val (.ref b1), .val (.ref b39), .val (.ref b41), .unset, .unset] [(.int wd), (.int os), (.int (9 : Int32)), (.ref b1), (.ref b39), (.long ((((((((r120 + r121) + r122) + r123) + r124) + r125) + r126) + r127) + r128))])) rfl (by rw [hml]; rfl) (argsL := [(.ref b39), (.ref b1), (.int (9 : Int32)), (.int os), (.int wd)]) (rest := [(.long ((((((((r120 + r121) + r122) + r123) + r124) + r125) + r126) + r127) + r128))]) (lenOf pd_2 rfl) rfl (by show 2 * 0 + _ ≤ _; exact Nat.le_of_eq rfl) (hb hby at_480) (fun _ _ => ⟨rfl, eq128, (by decide : 3 + 0 ≤ _), (by decide : 54 + 0 ≤ _)⟩)
  dsimp only [Pt.U, Pt.locs, Pt.cells, Pt.slots] at X129 l129 y129 z129 st129 hQ129
  subst y129 z129
  obtain ⟨r129, rfl, hr129, N129q, eq129⟩ := hQ129
  have N129 : Fr n0 L129 := by rw [l129]; exact Fr.app N128 N129q
  obtain ⟨_, _, ⟨T130, L130, k130, n130⟩, -, X130, ⟨Lc130, hQ130, l130, y130, z130⟩, st130⟩ := Jvm.LawKit.callS X129 hx (y := (⟨"com/example/poukaz/poukaz/FieldKindNumberPinLaw", "term", "([I[JIII)J"⟩ : MethodName)) hown (mvT hZ (hw _ (List.mem_of_getElem? (i := 29) rfl))) (mvT hZ (hw _ (List.mem_of_getElem? (i := 30) rfl))) (mvT hZ (hw _ (List.mem_of_getElem? (i := 23) rfl))) (mvT hZ (hw _ (List.mem_of_getElem? (i := 31) rfl))) (by decide) (backOf (W := 2) (rm3 l Z a0 hw [] b39 b1 (10 : Int32) os wd k39 k1 fn117 fn37 O W hC n0 zC fc1 fc0 ⟨by decide, by decide⟩ ⟨hoO, hwW, hOW⟩) hZ (hw _ (List.mem_of_getElem? (i := 31) rfl)) (hw _ (List.mem_of_getElem? (i := 23) rfl)) (by decide) (by decide)) (g := (mkF m 494 #[.val (.long q1), .second, .val (.long q2), .second, .val (.int p3), .val (.int p4), .val (.int wd), .val (.int os), .val (.ref b1), .val (.ref b39), .val (.ref b41), .unset, .unset] [(.int wd), (.int os), (.int (10 : Int32)), (.ref b1), (.ref b39), (.long (((((((((r120 + r121) + r122) + r123) + r124) + r125) + r126) + r127) + r128) + r129))])) rfl (by rw [hml]; rfl) (argsL := [(.ref b39), (.ref b1), (.int (10 : Int32)), (.int os), (.int wd)]) (rest := [(.long (((((((((r120 + r121) + r122) + r123) + r124) + r125) + r126) + r127) + r128) + r129))]) (lenOf pd_2 rfl) rfl (by show 2 * 0 + _ ≤ _; exact Nat.le_of_eq rfl) (hb hby at_494) (fun _ _ => ⟨rfl, eq129, (by decide : 3 + 0 ≤ _), (by decide : 54 + 0 ≤ _)⟩)
  dsimp only [Pt.U, Pt.locs, Pt.cells, Pt.slots] at X130 l130 y130 z130 st130 hQ130
  subst y130 z130
  obtain ⟨r130, rfl, hr130, N130q, eq130⟩ := hQ130
  have N130 : Fr n0 L130 := by rw [l130]; exact Fr.app N129 N130q
  obtain ⟨_, _, ⟨T131, L131, k131, n131⟩, -, X131, ⟨Lc131, hQ131, l131, y131, z131⟩, st131⟩ := Jvm.LawKit.callS X130 hx (y := (⟨"com/example/poukaz/poukaz/FieldKindNumberPinLaw", "term", "([I[JIII)J"⟩ : MethodName)) hown (mvT hZ (hw _ (List.mem_of_getElem? (i := 29) rfl))) (mvT hZ (hw _ (List.mem_of_getElem? (i := 30) rfl))) (mvT hZ (hw _ (List.mem_of_getElem? (i := 23) rfl))) (mvT hZ (hw _ (List.mem_of_getElem? (i := 31) rfl))) (by decide) (backOf (W := 2) (rm3 l Z a0 hw [] b39 b1 (11 : Int32) os wd k39 k1 fn117 fn37 O W hC n0 zC fc1 fc0 ⟨by decide, by decide⟩ ⟨hoO, hwW, hOW⟩) hZ (hw _ (List.mem_of_getElem? (i := 31) rfl)) (hw _ (List.mem_of_getElem? (i := 23) rfl)) (by decide) (by decide)) (g := (mkF m 508 #[.val (.long q1), .second, .val (.long q2), .second, .val (.int p3), .val (.int p4), .val (.int wd), .val (.int os), .val (.ref b1), .val (.ref b39), .val (.ref b41), .unset, .unset] [(.int wd), (.int os), (.int (11 : Int32)), (.ref b1), (.ref b39), (.long ((((((((((r120 + r121) + r122) + r123) + r124) + r125) + r126) + r127) + r128) + r129) + r130))])) rfl (by rw [hml]; rfl) (argsL := [(.ref b39), (.ref b1), (.int (11 : Int32)), (.int os), (.int wd)]) (rest := [(.long ((((((((((r120 + r121) + r122) + r123) + r124) + r125) + r126) + r127) + r128) + r129) + r130))]) (lenOf pd_2 rfl) rfl (by show 2 * 0 + _ ≤ _; exact Nat.le_of_eq rfl) (hb hby at_508) (fun _ _ => ⟨rfl, eq130, (by decide : 3 + 0 ≤ _), (by decide : 54 + 0 ≤ _)⟩)
  dsimp only [Pt.U, Pt.locs, Pt.cells, Pt.slots] at X131 l131 y131 z131 st131 hQ131
  subst y131 z131
  obtain ⟨r131, rfl, hr131, N131q, eq131⟩ := hQ131
  have N131 : Fr n0 L131 := by rw [l131]; exact Fr.app N130 N131q
  obtain ⟨_, _, ⟨T132, L132, k132, n132⟩, -, X132, ⟨Lc132, hQ132, l132, y132, z132⟩, st132⟩ := Jvm.LawKit.callS X131 hx (y := (⟨"com/example/poukaz/poukaz/FieldKindNumberPinLaw", "term", "([I[JIII)J"⟩ : MethodName)) hown (mvT hZ (hw _ (List.mem_of_getElem? (i := 29) rfl))) (mvT hZ (hw _ (List.mem_of_getElem? (i := 30) rfl))) (mvT hZ (hw _ (List.mem_of_getElem? (i := 23) rfl))) (mvT hZ (hw _ (List.mem_of_getElem? (i := 31) rfl))) (by decide) (backOf (W := 2) (rm3 l Z a0 hw [] b39 b1 (12 : Int32) os wd k39 k1 fn117 fn37 O W hC n0 zC fc1 fc0 ⟨by decide, by decide⟩ ⟨hoO, hwW, hOW⟩) hZ (hw _ (List.mem_of_getElem? (i := 31) rfl)) (hw _ (List.mem_of_getElem? (i := 23) rfl)) (by decide) (by decide)) (g := (mkF m 522 #[.val (.long q1), .second, .val (.long q2), .second, .val (.int p3), .val (.int p4), .val (.int wd), .val (.int os), .val (.ref b1), .val (.ref b39), .val (.ref b41), .unset, .unset] [(.int wd), (.int os), (.int (12 : Int32)), (.ref b1), (.ref b39), (.long (((((((((((r120 + r121) + r122) + r123) + r124) + r125) + r126) + r127) + r128) + r129) + r130) + r131))])) rfl (by rw [hml]; rfl) (argsL := [(.ref b39), (.ref b1), (.int (12 : Int32)), (.int os), (.int wd)]) (rest := [(.long (((((((((((r120 + r121) + r122) + r123) + r124) + r125) + r126) + r127) + r128) + r129) + r130) + r131))]) (lenOf pd_2 rfl) rfl (by show 2 * 0 + _ ≤ _; exact Nat.le_of_eq rfl) (hb hby at_522) (fun _ _ => ⟨rfl, eq131, (by decide : 3 + 0 ≤ _), (by decide : 54 + 0 ≤ _)⟩)
  dsimp only [Pt.U, Pt.locs, Pt.cells, Pt.slots] at X132 l132 y132 z132 st132 hQ132
  subst y132 z132
  obtain ⟨r132, rfl, hr132, N132q, eq132⟩ := hQ132
  have N132 : Fr n0 L132 := by rw [l132]; exact Fr.app N131 N132q
  obtain ⟨_, _, ⟨T133, L133, k133, n133⟩, -, X133, ⟨Lc133, hQ133, l133, y133, z133⟩, st133⟩ := Jvm.LawKit.callS X132 hx (y := (⟨"com/example/poukaz/poukaz/FieldKindNumberPinLaw", "term", "([I[JIII)J"⟩ : MethodName)) hown (mvT hZ (hw _ (List.mem_of_getElem? (i := 29) rfl))) (mvT hZ (hw _ (List.mem_of_getElem? (i := 30) rfl))) (mvT hZ (hw _ (List.mem_of_getElem? (i := 23) rfl))) (mvT hZ (hw _ (List.mem_of_getElem? (i := 31) rfl))) (by decide) (backOf (W := 2) (rm3 l Z a0 hw [] b39 b1 (13 : Int32) os wd k39 k1 fn117 fn37 O W hC n0 zC fc1 fc0 ⟨by decide, by decide⟩ ⟨hoO, hwW, hOW⟩) hZ (hw _ (List.mem_of_getElem? (i := 31) rfl)) (hw _ (List.mem_of_getElem? (i := 23) rfl)) (by decide) (by decide)) (g := (mkF m 536 #[.val (.long q1), .second, .val (.long q2), .second, .val (.int p3), .val (.int p4), .val (.int wd), .val (.int os), .val (.ref b1), .val (.ref b39), .val (.ref b41), .unset, .unset] [(.int wd), (.int os), (.int (13 : Int32)), (.ref b1), (.ref b39), (.long ((((((((((((r120 + r121) + r122) + r123) + r124) + r125) + r126) + r127) + r128) + r129) + r130) + r131) + r132))])) rfl (by rw [hml]; rfl) (argsL := [(.ref b39), (.ref b1), (.int (13 : Int32)), (.int os), (.int wd)]) (rest := [(.long ((((((((((((r120 + r121) + r122) + r123) + r124) + r125) + r126) + r127) + r128) + r129) + r130) + r131) + r132))]) (lenOf pd_2 rfl) rfl (by show 2 * 0 + _ ≤ _; exact Nat.le_of_eq rfl) (hb hby at_536) (fun _ _ => ⟨rfl, eq132, (by decide : 3 + 0 ≤ _), (by decide : 54 + 0 ≤ _)⟩)
  dsimp only [Pt.U, Pt.locs, Pt.cells, Pt.slots] at X133 l133 y133 z133 st133 hQ133
  subst y133 z133
  obtain ⟨r133, rfl, hr133, N133q, eq133⟩ := hQ133
  have N133 : Fr n0 L133 := by rw [l133]; exact Fr.app N132 N133q
  obtain ⟨_, _, ⟨T134, L134, k134, n134⟩, -, X134, ⟨Lc134, hQ134, l134, y134, z134⟩, st134⟩ := Jvm.LawKit.callS X133 hx (y := (⟨"com/example/poukaz/poukaz/FieldKindNumberPinLaw", "term", "([I[JIII)J"⟩ : MethodName)) hown (mvT hZ (hw _ (List.mem_of_getElem? (i := 29) rfl))) (mvT hZ (hw _ (List.mem_of_getElem? (i := 30) rfl))) (mvT hZ (hw _ (List.mem_of_getElem? (i := 23) rfl))) (mvT hZ (hw _ (List.mem_of_getElem? (i := 31) rfl))) (by decide) (backOf (W := 2) (rm3 l Z a0 hw [] b39 b1 (14 : Int32) os wd k39 k1 fn117 fn37 O W hC n0 zC fc1 fc0 ⟨by decide, by decide⟩ ⟨hoO, hwW, hOW⟩) hZ (hw _ (List.mem_of_getElem? (i := 31) rfl)) (hw _ (List.mem_of_getElem? (i := 23) rfl)) (by decide) (by decide)) (g := (mkF m 550 #[.val (.long q1), .second, .val (.long q2), .second, .val (.int p3), .val (.int p4), .val (.int wd), .val (.int os), .val (.ref b1), .val (.ref b39), .val (.ref b41), .unset, .unset] [(.int wd), (.int os), (.int (14 : Int32)), (.ref b1), (.ref b39), (.long (((((((((((((r120 + r121) + r122) + r123) + r124) + r125) + r126) + r127) + r128) + r129) + r130) + r131) + r132) + r133))])) rfl (by rw [hml]; rfl) (argsL := [(.ref b39), (.ref b1), (.int (14 : Int32)), (.int os), (.int wd)]) (rest := [(.long (((((((((((((r120 + r121) + r122) + r123) + r124) + r125) + r126) + r127) + r128) + r129) + r130) + r131) + r132) + r133))]) (lenOf pd_2 rfl) rfl (by show 2 * 0 + _ ≤ _; exact Nat.le_of_eq rfl) (hb hby at_550) (fun _ _ => ⟨rfl, eq133, (by decide : 3 + 0 ≤ _), (by decide : 54 + 0 ≤ _)⟩)
  dsimp only [Pt.U, Pt.locs, Pt.cells, Pt.slots] at X134 l134 y134 z134 st134 hQ134
  subst y134 z134
  obtain ⟨r134, rfl, hr134, N134q, eq134⟩ := hQ134
  have N134 : Fr n0 L134 := by rw [l134]; exact Fr.app N133 N134q
  obtain ⟨_, _, ⟨T135, L135, k135, n135⟩, -, X135, ⟨Lc135, hQ135, l135, y135, z135⟩, st135⟩ := Jvm.LawKit.callS X134 hx (y := (⟨"com/example/poukaz/poukaz/FieldKindNumberPinLaw", "term", "([I[JIII)J"⟩ : MethodName)) hown (mvT hZ (hw _ (List.mem_of_getElem? (i := 29) rfl))) (mvT hZ (hw _ (List.mem_of_getElem? (i := 30) rfl))) (mvT hZ (hw _ (List.mem_of_getElem? (i := 23) rfl))) (mvT hZ (hw _ (List.mem_of_getElem? (i := 31) rfl))) (by decide) (backOf (W := 2) (rm3 l Z a0 hw [] b39 b1 (15 : Int32) os wd k39 k1 fn117 fn37 O W hC n0 zC fc1 fc0 ⟨by decide, by decide⟩ ⟨hoO, hwW, hOW⟩) hZ (hw _ (List.mem_of_getElem? (i := 31) rfl)) (hw _ (List.mem_of_getElem? (i := 23) rfl)) (by decide) (by decide)) (g := (mkF m 564 #[.val (.long q1), .second, .val (.long q2), .second, .val (.int p3), .val (.int p4), .val (.int wd), .val (.int os), .val (.ref b1), .val (.ref b39), .val (.ref b41), .unset, .unset] [(.int wd), (.int os), (.int (15 : Int32)), (.ref b1), (.ref b39), (.long ((((((((((((((r120 + r121) + r122) + r123) + r124) + r125) + r126) + r127) + r128) + r129) + r130) + r131) + r132) + r133) + r134))])) rfl (by rw [hml]; rfl) (argsL := [(.ref b39), (.ref b1), (.int (15 : Int32)), (.int os), (.int wd)]) (rest := [(.long ((((((((((((((r120 + r121) + r122) + r123) + r124) + r125) + r126) + r127) + r128) + r129) + r130) + r131) + r132) + r133) + r134))]) (lenOf pd_2 rfl) rfl (by show 2 * 0 + _ ≤ _; exact Nat.le_of_eq rfl) (hb hby at_564) (fun _ _ => ⟨rfl, eq134, (by decide : 3 + 0 ≤ _), (by decide : 54 + 0 ≤ _)⟩)
  dsimp only [Pt.U, Pt.locs, Pt.cells, Pt.slots] at X135 l135 y135 z135 st135 hQ135
  subst y135 z135
  obtain ⟨r135, rfl, hr135, N135q, eq135⟩ := hQ135
  have N135 : Fr n0 L135 := by rw [l135]; exact Fr.app N134 N135q
  obtain ⟨_, _, ⟨T136, L136, k136, n136⟩, -, X136, ⟨Lc136, hQ136, l136, y136, z136⟩, st136⟩ := Jvm.LawKit.callS X135 hx (y := (⟨"com/example/poukaz/poukaz/FieldKindNumberPinLaw", "term", "([I[JIII)J"⟩ : MethodName)) hown (mvT hZ (hw _ (List.mem_of_getElem? (i := 29) rfl))) (mvT hZ (hw _ (List.mem_of_getElem? (i := 30) rfl))) (mvT hZ (hw _ (List.mem_of_getElem? (i := 23) rfl))) (mvT hZ (hw _ (List.mem_of_getElem? (i := 31) rfl))) (by decide) (backOf (W := 2) (rm3 l Z a0 hw [] b39 b1 (16 : Int32) os wd k39 k1 fn117 fn37 O W hC n0 zC fc1 fc0 ⟨by decide, by decide⟩ ⟨hoO, hwW, hOW⟩) hZ (hw _ (List.mem_of_getElem? (i := 31) rfl)) (hw _ (List.mem_of_getElem? (i := 23) rfl)) (by decide) (by decide)) (g := (mkF m 578 #[.val (.long q1), .second, .val (.long q2), .second, .val (.int p3), .val (.int p4), .val (.int wd), .val (.int os), .val (.ref b1), .val (.ref b39), .val (.ref b41), .unset, .unset] [(.int wd), (.int os), (.int (16 : Int32)), (.ref b1), (.ref b39), (.long (((((((((((((((r120 + r121) + r122) + r123) + r124) + r125) + r126) + r127) + r128) + r129) + r130) + r131) + r132) + r133) + r134) + r135))])) rfl (by rw [hml]; rfl) (argsL := [(.ref b39), (.ref b1), (.int (16 : Int32)), (.int os), (.int wd)]) (rest := [(.long (((((((((((((((r120 + r121) + r122) + r123) + r124) + r125) + r126) + r127) + r128) + r129) + r130) + r131) + r132) + r133) + r134) + r135))]) (lenOf pd_2 rfl) rfl (by show 2 * 0 + _ ≤ _; exact Nat.le_of_eq rfl) (hb hby at_578) (fun _ _ => ⟨rfl, eq135, (by decide : 3 + 0 ≤ _), (by decide : 54 + 0 ≤ _)⟩)
  dsimp only [Pt.U, Pt.locs, Pt.cells, Pt.slots] at X136 l136 y136 z136 st136 hQ136
  subst y136 z136
  obtain ⟨r136, rfl, hr136, N136q, eq136⟩ := hQ136
  have N136 : Fr n0 L136 := by rw [l136]; exact Fr.app N135 N136q
  obtain ⟨_, _, ⟨T137, L137, k137, n137⟩, -, X137, ⟨Lc137, hQ137, l137, y137, z137⟩, st137⟩ := Jvm.LawKit.callS X136 hx (y := (⟨"com/example/poukaz/poukaz/FieldKindNumberPinLaw", "term", "([I[JIII)J"⟩ : MethodName)) hown (mvT hZ (hw _ (List.mem_of_getElem? (i := 29) rfl))) (mvT hZ (hw _ (List.mem_of_getElem? (i := 30) rfl))) (mvT hZ (hw _ (List.mem_of_getElem? (i := 23) rfl))) (mvT hZ (hw _ (List.mem_of_getElem? (i := 31) rfl))) (by decide) (backOf (W := 2) (rm3 l Z a0 hw [] b39 b1 (17 : Int32) os wd k39 k1 fn117 fn37 O W hC n0 zC fc1 fc0 ⟨by decide, by decide⟩ ⟨hoO, hwW, hOW⟩) hZ (hw _ (List.mem_of_getElem? (i := 31) rfl)) (hw _ (List.mem_of_getElem? (i := 23) rfl)) (by decide) (by decide)) (g := (mkF m 592 #[.val (.long q1), .second, .val (.long q2), .second, .val (.int p3), .val (.int p4), .val (.int wd), .val (.int os), .val (.ref b1), .val (.ref b39), .val (.ref b41), .unset, .unset] [(.int wd), (.int os), (.int (17 : Int32)), (.ref b1), (.ref b39), (.long ((((((((((((((((r120 + r121) + r122) + r123) + r124) + r125) + r126) + r127) + r128) + r129) + r130) + r131) + r132) + r133) + r134) + r135) + r136))])) rfl (by rw [hml]; rfl) (argsL := [(.ref b39), (.ref b1), (.int (17 : Int32)), (.int os), (.int wd)]) (rest := [(.long ((((((((((((((((r120 + r121) + r122) + r123) + r124) + r125) + r126) + r127) + r128) + r129) + r130) + r131) + r132) + r133) + r134) + r135) + r136))]) (lenOf pd_2 rfl) rfl (by show 2 * 0 + _ ≤ _; exact Nat.le_of_eq rfl) (hb hby at_592) (fun _ _ => ⟨rfl, eq136, (by decide : 3 + 0 ≤ _), (by decide : 54 + 0 ≤ _)⟩)
  dsimp only [Pt.U, Pt.locs, Pt.cells, Pt.slots] at X137 l137 y137 z137 st137 hQ137
  subst y137 z137
  obtain ⟨r137, rfl, hr137, N137q, eq137⟩ := hQ137
  have N137 : Fr n0 L137 := by rw [l137]; exact Fr.app N136 N137q
  have hR : ∀ j, j < 18 → (fn118 j).toInt64 - 48 = (fn117 j).toInt64 := fun j hj => by rw [hR18 j hj, hD18 j hj]; exact own_byte (own_digr _ _ _)
  obtain ⟨_, _, ⟨T138, L138, k138, n138⟩, -, X138, ⟨Lc138, hQ138, l138, y138, z138⟩, st138⟩ := Jvm.LawKit.callS X137 hx (y := (⟨"com/example/poukaz/poukaz/FieldKind", "number", "([BII)J"⟩ : MethodName)) hown (mvT hZ (hw _ (List.mem_of_getElem? (i := 32) rfl))) (mvT hZ (hw _ (List.mem_of_getElem? (i := 33) rfl))) (mvT hZ (hw _ (List.mem_of_getElem? (i := 34) rfl))) (mvT hZ (hw _ (List.mem_of_getElem? (i := 35) rfl))) (by decide) (backOf (W := 0) (rm4 l Z a0 hw [] b41 os wd k41 fn118 O W hC n0 zC fc2 hoO hwW hOW) hZ (hw _ (List.mem_of_getElem? (i := 35) rfl)) (hw _ (List.mem_of_getElem? (i := 34) rfl)) (by decide) (by decide)) (g := (mkF m 604 #[.val (.long q1), .second, .val (.long q2), .second, .val (.int p3), .val (.int p4), .val (.int wd), .val (.int os), .val (.ref b1), .val (.ref b39), .val (.ref b41), .val (.long (((((((((((((((((r120 + r121) + r122) + r123) + r124) + r125) + r126) + r127) + r128) + r129) + r130) + r131) + r132) + r133) + r134) + r135) + r136) + r137)), .second] [(.int wd), (.int os), (.ref b41)])) rfl (by rw [hml]; rfl) (argsL := [(.ref b41), (.int os), (.int wd)]) (rest := []) (lenOf pd_3 rfl) rfl (by show 2 * 0 + _ ≤ _; exact Nat.le_of_eq rfl) (hb hby at_604) (fun _ _ => ⟨rfl, eq137, (by decide : 3 + 0 ≤ _), (by decide : 54 + 0 ≤ _)⟩)
  dsimp only [Pt.U, Pt.locs, Pt.cells, Pt.slots] at X138 l138 y138 z138 st138 hQ138
  subst y138 z138
  obtain ⟨r138, rfl, hr138, N138q, eq138⟩ := hQ138
  have N138 : Fr n0 L138 := by rw [l138]; exact Fr.app N137 N138q
  obtain ⟨fs, hr, hrun, hended, hW, hsame⟩ := X138.leave (v := some (.int (1 : Int32))) (fun h => by rw [Bd.returns] at h; cases h)
  refine ⟨_, _, ?_, hrun, hended, _, _, rfl, ?_, ⟨_, rfl⟩, hW, hsame.mono (by decide) (by decide)⟩
  · show Steps p.tables e below (TC.setTop (mkF m 351 #[.val (.long q1), .second, .val (.long q2), .second, .val (.int p3), .val (.int p4), .val (.int wd), .val (.int os), .val (.ref b1), .val (.ref b39), .val (.ref b41), .unset, .unset] [])) _
    refine XS.aload XC.here hx rfl (hb hby at_351) rfl rfl ?_
    show Steps p.tables e below (TC.setTop (mkF m 353 #[.val (.long q1), .second, .val (.long q2), .second, .val (.int p3), .val (.int p4), .val (.int wd), .val (.int os), .val (.ref b1), .val (.ref b39), .val (.ref b41), .unset, .unset] [(.ref b39)])) _
    refine XS.aload XC.here hx rfl (hb hby at_353) rfl rfl ?_
    show Steps p.tables e below (TC.setTop (mkF m 355 #[.val (.long q1), .second, .val (.long q2), .second, .val (.int p3), .val (.int p4), .val (.int wd), .val (.int os), .val (.ref b1), .val (.ref b39), .val (.ref b41), .unset, .unset] [(.ref b1), (.ref b39)])) _
    refine XS.iconst XC.here hx rfl (hb hby at_355) ?_
    show Steps p.tables e below (TC.setTop (mkF m 356 #[.val (.long q1), .second, .val (.long q2), .second, .val (.int p3), .val (.int p4), .val (.int wd), .val (.int os), .val (.ref b1), .val (.ref b39), .val (.ref b41), .unset, .unset] [(.int (0 : Int32)), (.ref b1), (.ref b39)])) _
    refine XS.iload XC.here hx rfl (hb hby at_356) rfl ?_
    show Steps p.tables e below (TC.setTop (mkF m 358 #[.val (.long q1), .second, .val (.long q2), .second, .val (.int p3), .val (.int p4), .val (.int wd), .val (.int os), .val (.ref b1), .val (.ref b39), .val (.ref b41), .unset, .unset] [(.int os), (.int (0 : Int32)), (.ref b1), (.ref b39)])) _
    refine XS.iload XC.here hx rfl (hb hby at_358) rfl ?_
    show Steps p.tables e below (TC.setTop (mkF m 360 #[.val (.long q1), .second, .val (.long q2), .second, .val (.int p3), .val (.int p4), .val (.int wd), .val (.int os), .val (.ref b1), .val (.ref b39), .val (.ref b41), .unset, .unset] [(.int wd), (.int os), (.int (0 : Int32)), (.ref b1), (.ref b39)])) _
    refine st120 _ ?_
    show Steps p.tables e below (T120.setTop (mkF m 363 #[.val (.long q1), .second, .val (.long q2), .second, .val (.int p3), .val (.int p4), .val (.int wd), .val (.int os), .val (.ref b1), .val (.ref b39), .val (.ref b41), .unset, .unset] [(.long r120)])) _
    refine XS.aload X120.here hx rfl (hb hby at_363) rfl rfl ?_
    show Steps p.tables e below (T120.setTop (mkF m 365 #[.val (.long q1), .second, .val (.long q2), .second, .val (.int p3), .val (.int p4), .val (.int wd), .val (.int os), .val (.ref b1), .val (.ref b39), .val (.ref b41), .unset, .unset] [(.ref b39), (.long r120)])) _
    refine XS.aload X120.here hx rfl (hb hby at_365) rfl rfl ?_
    show Steps p.tables e below (T120.setTop (mkF m 367 #[.val (.long q1), .second, .val (.long q2), .second, .val (.int p3), .val (.int p4), .val (.int wd), .val (.int os), .val (.ref b1), .val (.ref b39), .val (.ref b41), .unset, .unset] [(.ref b1), (.ref b39), (.long r120)])) _
    refine XS.iconst X120.here hx rfl (hb hby at_367) ?_
    show Steps p.tables e below (T120.setTop (mkF m 368 #[.val (.long q1), .second, .val (.long q2), .second, .val (.int p3), .val (.int p4), .val (.int wd), .val (.int os), .val (.ref b1), .val (.ref b39), .val (.ref b41), .unset, .unset] [(.int (1 : Int32)), (.ref b1), (.ref b39), (.long r120)])) _
    refine XS.iload X120.here hx rfl (hb hby at_368) rfl ?_
    show Steps p.tables e below (T120.setTop (mkF m 370 #[.val (.long q1), .second, .val (.long q2), .second, .val (.int p3), .val (.int p4), .val (.int wd), .val (.int os), .val (.ref b1), .val (.ref b39), .val (.ref b41), .unset, .unset] [(.int os), (.int (1 : Int32)), (.ref b1), (.ref b39), (.long r120)])) _
    refine XS.iload X120.here hx rfl (hb hby at_370) rfl ?_
    show Steps p.tables e below (T120.setTop (mkF m 372 #[.val (.long q1), .second, .val (.long q2), .second, .val (.int p3), .val (.int p4), .val (.int wd), .val (.int os), .val (.ref b1), .val (.ref b39), .val (.ref b41), .unset, .unset] [(.int wd), (.int os), (.int (1 : Int32)), (.ref b1), (.ref b39), (.long r120)])) _
    refine st121 _ ?_
    show Steps p.tables e below (T121.setTop (mkF m 375 #[.val (.long q1), .second, .val (.long q2), .second, .val (.int p3), .val (.int p4), .val (.int wd), .val (.int os), .val (.ref b1), .val (.ref b39), .val (.ref b41), .unset, .unset] [(.long r121), (.long r120)])) _
    refine XS.ladd X121.here hx rfl (hb hby at_375) rfl ?_
    show Steps p.tables e below (T121.setTop (mkF m 376 #[.val (.long q1), .second, .val (.long q2), .second, .val (.int p3), .val (.int p4), .val (.int wd), .val (.int os), .val (.ref b1), .val (.ref b39), .val (.ref b41), .unset, .unset] [(.long (r120 + r121))])) _
    refine XS.aload X121.here hx rfl (hb hby at_376) rfl rfl ?_
    show Steps p.tables e below (T121.setTop (mkF m 378 #[.val (.long q1), .second, .val (.long q2), .second, .val (.int p3), .val (.int p4), .val (.int wd), .val (.int os), .val (.ref b1), .val (.ref b39), .val (.ref b41), .unset, .unset] [(.ref b39), (.long (r120 + r121))])) _
    refine XS.aload X121.here hx rfl (hb hby at_378) rfl rfl ?_
    show Steps p.tables e below (T121.setTop (mkF m 380 #[.val (.long q1), .second, .val (.long q2), .second, .val (.int p3), .val (.int p4), .val (.int wd), .val (.int os), .val (.ref b1), .val (.ref b39), .val (.ref b41), .unset, .unset] [(.ref b1), (.ref b39), (.long (r120 + r121))])) _
    refine XS.iconst X121.here hx rfl (hb hby at_380) ?_
    show Steps p.tables e below (T121.setTop (mkF m 381 #[.val (.long q1), .second, .val (.long q2), .second, .val (.int p3), .val (.int p4), .val (.int wd), .val (.int os), .val (.ref b1), .val (.ref b39), .val (.ref b41), .unset, .unset] [(.int (2 : Int32)), (.ref b1), (.ref b39), (.long (r120 + r121))])) _
    refine XS.iload X121.here hx rfl (hb hby at_381) rfl ?_
    show Steps p.tables e below (T121.setTop (mkF m 383 #[.val (.long q1), .second, .val (.long q2), .second, .val (.int p3), .val (.int p4), .val (.int wd), .val (.int os), .val (.ref b1), .val (.ref b39), .val (.ref b41), .unset, .unset] [(.int os), (.int (2 : Int32)), (.ref b1), (.ref b39), (.long (r120 + r121))])) _
    refine XS.iload X121.here hx rfl (hb hby at_383) rfl ?_
    show Steps p.tables e below (T121.setTop (mkF m 385 #[.val (.long q1), .second, .val (.long q2), .second, .val (.int p3), .val (.int p4), .val (.int wd), .val (.int os), .val (.ref b1), .val (.ref b39), .val (.ref b41), .unset, .unset] [(.int wd), (.int os), (.int (2 : Int32)), (.ref b1), (.ref b39), (.long (r120 + r121))])) _
    refine st122 _ ?_
    show Steps p.tables e below (T122.setTop (mkF m 388 #[.val (.long q1), .second, .val (.long q2), .second, .val (.int p3), .val (.int p4), .val (.int wd), .val (.int os), .val (.ref b1), .val (.ref b39), .val (.ref b41), .unset, .unset] [(.long r122), (.long (r120 + r121))])) _
    refine XS.ladd X122.here hx rfl (hb hby at_388) rfl ?_
    show Steps p.tables e below (T122.setTop (mkF m 389 #[.val (.long q1), .second, .val (.long q2), .second, .val (.int p3), .val (.int p4), .val (.int wd), .val (.int os), .val (.ref b1), .val (.ref b39), .val (.ref b41), .unset, .unset] [(.long ((r120 + r121) + r122))])) _
    refine XS.aload X122.here hx rfl (hb hby at_389) rfl rfl ?_
    show Steps p.tables e below (T122.setTop (mkF m 391 #[.val (.long q1), .second, .val (.long q2), .second, .val (.int p3), .val (.int p4), .val (.int wd), .val (.int os), .val (.ref b1), .val (.ref b39), .val (.ref b41), .unset, .unset] [(.ref b39), (.long ((r120 + r121) + r122))])) _
    refine XS.aload X122.here hx rfl (hb hby at_391) rfl rfl ?_
    show Steps p.tables e below (T122.setTop (mkF m 393 #[.val (.long q1), .second, .val (.long q2), .second, .val (.int p3), .val (.int p4), .val (.int wd), .val (.int os), .val (.ref b1), .val (.ref b39), .val (.ref b41), .unset, .unset] [(.ref b1), (.ref b39), (.long ((r120 + r121) + r122))])) _
    refine XS.iconst X122.here hx rfl (hb hby at_393) ?_
    show Steps p.tables e below (T122.setTop (mkF m 394 #[.val (.long q1), .second, .val (.long q2), .second, .val (.int p3), .val (.int p4), .val (.int wd), .val (.int os), .val (.ref b1), .val (.ref b39), .val (.ref b41), .unset, .unset] [(.int (3 : Int32)), (.ref b1), (.ref b39), (.long ((r120 + r121) + r122))])) _
    refine XS.iload X122.here hx rfl (hb hby at_394) rfl ?_
    show Steps p.tables e below (T122.setTop (mkF m 396 #[.val (.long q1), .second, .val (.long q2), .second, .val (.int p3), .val (.int p4), .val (.int wd), .val (.int os), .val (.ref b1), .val (.ref b39), .val (.ref b41), .unset, .unset] [(.int os), (.int (3 : Int32)), (.ref b1), (.ref b39), (.long ((r120 + r121) + r122))])) _
    refine XS.iload X122.here hx rfl (hb hby at_396) rfl ?_
    show Steps p.tables e below (T122.setTop (mkF m 398 #[.val (.long q1), .second, .val (.long q2), .second, .val (.int p3), .val (.int p4), .val (.int wd), .val (.int os), .val (.ref b1), .val (.ref b39), .val (.ref b41), .unset, .unset] [(.int wd), (.int os), (.int (3 : Int32)), (.ref b1), (.ref b39), (.long ((r120 + r121) + r122))])) _
    refine st123 _ ?_
    show Steps p.tables e below (T123.setTop (mkF m 401 #[.val (.long q1), .second, .val (.long q2), .second, .val (.int p3), .val (.int p4), .val (.int wd), .val (.int os), .val (.ref b1), .val (.ref b39), .val (.ref b41), .unset, .unset] [(.long r123), (.long ((r120 + r121) + r122))])) _
    refine XS.ladd X123.here hx rfl (hb hby at_401) rfl ?_
    show Steps p.tables e below (T123.setTop (mkF m 402 #[.val (.long q1), .second, .val (.long q2), .second, .val (.int p3), .val (.int p4), .val (.int wd), .val (.int os), .val (.ref b1), .val (.ref b39), .val (.ref b41), .unset, .unset] [(.long (((r120 + r121) + r122) + r123))])) _
    refine XS.aload X123.here hx rfl (hb hby at_402) rfl rfl ?_
    show Steps p.tables e below (T123.setTop (mkF m 404 #[.val (.long q1), .second, .val (.long q2), .second, .val (.int p3), .val (.int p4), .val (.int wd), .val (.int os), .val (.ref b1), .val (.ref b39), .val (.ref b41), .unset, .unset] [(.ref b39), (.long (((r120 + r121) + r122) + r123))])) _
    refine XS.aload X123.here hx rfl (hb hby at_404) rfl rfl ?_
    show Steps p.tables e below (T123.setTop (mkF m 406 #[.val (.long q1), .second, .val (.long q2), .second, .val (.int p3), .val (.int p4), .val (.int wd), .val (.int os), .val (.ref b1), .val (.ref b39), .val (.ref b41), .unset, .unset] [(.ref b1), (.ref b39), (.long (((r120 + r121) + r122) + r123))])) _
    refine XS.iconst X123.here hx rfl (hb hby at_406) ?_
    show Steps p.tables e below (T123.setTop (mkF m 407 #[.val (.long q1), .second, .val (.long q2), .second, .val (.int p3), .val (.int p4), .val (.int wd), .val (.int os), .val (.ref b1), .val (.ref b39), .val (.ref b41), .unset, .unset] [(.int (4 : Int32)), (.ref b1), (.ref b39), (.long (((r120 + r121) + r122) + r123))])) _
    refine XS.iload X123.here hx rfl (hb hby at_407) rfl ?_
    show Steps p.tables e below (T123.setTop (mkF m 409 #[.val (.long q1), .second, .val (.long q2), .second, .val (.int p3), .val (.int p4), .val (.int wd), .val (.int os), .val (.ref b1), .val (.ref b39), .val (.ref b41), .unset, .unset] [(.int os), (.int (4 : Int32)), (.ref b1), (.ref b39), (.long (((r120 + r121) + r122) + r123))])) _
    refine XS.iload X123.here hx rfl (hb hby at_409) rfl ?_
    show Steps p.tables e below (T123.setTop (mkF m 411 #[.val (.long q1), .second, .val (.long q2), .second, .val (.int p3), .val (.int p4), .val (.int wd), .val (.int os), .val (.ref b1), .val (.ref b39), .val (.ref b41), .unset, .unset] [(.int wd), (.int os), (.int (4 : Int32)), (.ref b1), (.ref b39), (.long (((r120 + r121) + r122) + r123))])) _
    refine st124 _ ?_
    show Steps p.tables e below (T124.setTop (mkF m 414 #[.val (.long q1), .second, .val (.long q2), .second, .val (.int p3), .val (.int p4), .val (.int wd), .val (.int os), .val (.ref b1), .val (.ref b39), .val (.ref b41), .unset, .unset] [(.long r124), (.long (((r120 + r121) + r122) + r123))])) _
    refine XS.ladd X124.here hx rfl (hb hby at_414) rfl ?_
    show Steps p.tables e below (T124.setTop (mkF m 415 #[.val (.long q1), .second, .val (.long q2), .second, .val (.int p3), .val (.int p4), .val (.int wd), .val (.int os), .val (.ref b1), .val (.ref b39), .val (.ref b41), .unset, .unset] [(.long ((((r120 + r121) + r122) + r123) + r124))])) _
    refine XS.aload X124.here hx rfl (hb hby at_415) rfl rfl ?_
    show Steps p.tables e below (T124.setTop (mkF m 417 #[.val (.long q1), .second, .val (.long q2), .second, .val (.int p3), .val (.int p4), .val (.int wd), .val (.int os), .val (.ref b1), .val (.ref b39), .val (.ref b41), .unset, .unset] [(.ref b39), (.long ((((r120 + r121) + r122) + r123) + r124))])) _
    refine XS.aload X124.here hx rfl (hb hby at_417) rfl rfl ?_
    show Steps p.tables e below (T124.setTop (mkF m 419 #[.val (.long q1), .second, .val (.long q2), .second, .val (.int p3), .val (.int p4), .val (.int wd), .val (.int os), .val (.ref b1), .val (.ref b39), .val (.ref b41), .unset, .unset] [(.ref b1), (.ref b39), (.long ((((r120 + r121) + r122) + r123) + r124))])) _
    refine XS.iconst X124.here hx rfl (hb hby at_419) ?_
    show Steps p.tables e below (T124.setTop (mkF m 420 #[.val (.long q1), .second, .val (.long q2), .second, .val (.int p3), .val (.int p4), .val (.int wd), .val (.int os), .val (.ref b1), .val (.ref b39), .val (.ref b41), .unset, .unset] [(.int (5 : Int32)), (.ref b1), (.ref b39), (.long ((((r120 + r121) + r122) + r123) + r124))])) _
    refine XS.iload X124.here hx rfl (hb hby at_420) rfl ?_
    show Steps p.tables e below (T124.setTop (mkF m 422 #[.val (.long q1), .second, .val (.long q2), .second, .val (.int p3), .val (.int p4), .val (.int wd), .val (.int os), .val (.ref b1), .val (.ref b39), .val (.ref b41), .unset, .unset] [(.int os), (.int (5 : Int32)), (.ref b1), (.ref b39), (.long ((((r120 + r121) + r122) + r123) + r124))])) _
    refine XS.iload X124.here hx rfl (hb hby at_422) rfl ?_
    show Steps p.tables e below (T124.setTop (mkF m 424 #[.val (.long q1), .second, .val (.long q2), .second, .val (.int p3), .val (.int p4), .val (.int wd), .val (.int os), .val (.ref b1), .val (.ref b39), .val (.ref b41), .unset, .unset] [(.int wd), (.int os), (.int (5 : Int32)), (.ref b1), (.ref b39), (.long ((((r120 + r121) + r122) + r123) + r124))])) _
    refine st125 _ ?_
    show Steps p.tables e below (T125.setTop (mkF m 427 #[.val (.long q1), .second, .val (.long q2), .second, .val (.int p3), .val (.int p4), .val (.int wd), .val (.int os), .val (.ref b1), .val (.ref b39), .val (.ref b41), .unset, .unset] [(.long r125), (.long ((((r120 + r121) + r122) + r123) + r124))])) _
    refine XS.ladd X125.here hx rfl (hb hby at_427) rfl ?_
    show Steps p.tables e below (T125.setTop (mkF m 428 #[.val (.long q1), .second, .val (.long q2), .second, .val (.int p3), .val (.int p4), .val (.int wd), .val (.int os), .val (.ref b1), .val (.ref b39), .val (.ref b41), .unset, .unset] [(.long (((((r120 + r121) + r122) + r123) + r124) + r125))])) _
    refine XS.aload X125.here hx rfl (hb hby at_428) rfl rfl ?_
    show Steps p.tables e below (T125.setTop (mkF m 430 #[.val (.long q1), .second, .val (.long q2), .second, .val (.int p3), .val (.int p4), .val (.int wd), .val (.int os), .val (.ref b1), .val (.ref b39), .val (.ref b41), .unset, .unset] [(.ref b39), (.long (((((r120 + r121) + r122) + r123) + r124) + r125))])) _
    refine XS.aload X125.here hx rfl (hb hby at_430) rfl rfl ?_
    show Steps p.tables e below (T125.setTop (mkF m 432 #[.val (.long q1), .second, .val (.long q2), .second, .val (.int p3), .val (.int p4), .val (.int wd), .val (.int os), .val (.ref b1), .val (.ref b39), .val (.ref b41), .unset, .unset] [(.ref b1), (.ref b39), (.long (((((r120 + r121) + r122) + r123) + r124) + r125))])) _
    refine XS.bipush X125.here hx rfl (hb hby at_432) ?_
    show Steps p.tables e below (T125.setTop (mkF m 434 #[.val (.long q1), .second, .val (.long q2), .second, .val (.int p3), .val (.int p4), .val (.int wd), .val (.int os), .val (.ref b1), .val (.ref b39), .val (.ref b41), .unset, .unset] [(.int (6 : Int32)), (.ref b1), (.ref b39), (.long (((((r120 + r121) + r122) + r123) + r124) + r125))])) _
    refine XS.iload X125.here hx rfl (hb hby at_434) rfl ?_
    show Steps p.tables e below (T125.setTop (mkF m 436 #[.val (.long q1), .second, .val (.long q2), .second, .val (.int p3), .val (.int p4), .val (.int wd), .val (.int os), .val (.ref b1), .val (.ref b39), .val (.ref b41), .unset, .unset] [(.int os), (.int (6 : Int32)), (.ref b1), (.ref b39), (.long (((((r120 + r121) + r122) + r123) + r124) + r125))])) _
    refine XS.iload X125.here hx rfl (hb hby at_436) rfl ?_
    show Steps p.tables e below (T125.setTop (mkF m 438 #[.val (.long q1), .second, .val (.long q2), .second, .val (.int p3), .val (.int p4), .val (.int wd), .val (.int os), .val (.ref b1), .val (.ref b39), .val (.ref b41), .unset, .unset] [(.int wd), (.int os), (.int (6 : Int32)), (.ref b1), (.ref b39), (.long (((((r120 + r121) + r122) + r123) + r124) + r125))])) _
    refine st126 _ ?_
    show Steps p.tables e below (T126.setTop (mkF m 441 #[.val (.long q1), .second, .val (.long q2), .second, .val (.int p3), .val (.int p4), .val (.int wd), .val (.int os), .val (.ref b1), .val (.ref b39), .val (.ref b41), .unset, .unset] [(.long r126), (.long (((((r120 + r121) + r122) + r123) + r124) + r125))])) _
    refine XS.ladd X126.here hx rfl (hb hby at_441) rfl ?_
    show Steps p.tables e below (T126.setTop (mkF m 442 #[.val (.long q1), .second, .val (.long q2), .second, .val (.int p3), .val (.int p4), .val (.int wd), .val (.int os), .val (.ref b1), .val (.ref b39), .val (.ref b41), .unset, .unset] [(.long ((((((r120 + r121) + r122) + r123) + r124) + r125) + r126))])) _
    refine XS.aload X126.here hx rfl (hb hby at_442) rfl rfl ?_
    show Steps p.tables e below (T126.setTop (mkF m 444 #[.val (.long q1), .second, .val (.long q2), .second, .val (.int p3), .val (.int p4), .val (.int wd), .val (.int os), .val (.ref b1), .val (.ref b39), .val (.ref b41), .unset, .unset] [(.ref b39), (.long ((((((r120 + r121) + r122) + r123) + r124) + r125) + r126))])) _
    refine XS.aload X126.here hx rfl (hb hby at_444) rfl rfl ?_
    show Steps p.tables e below (T126.setTop (mkF m 446 #[.val (.long q1), .second, .val (.long q2), .second, .val (.int p3), .val (.int p4), .val (.int wd), .val (.int os), .val (.ref b1), .val (.ref b39), .val (.ref b41), .unset, .unset] [(.ref b1), (.ref b39), (.long ((((((r120 + r121) + r122) + r123) + r124) + r125) + r126))])) _
    refine XS.bipush X126.here hx rfl (hb hby at_446) ?_
    show Steps p.tables e below (T126.setTop (mkF m 448 #[.val (.long q1), .second, .val (.long q2), .second, .val (.int p3), .val (.int p4), .val (.int wd), .val (.int os), .val (.ref b1), .val (.ref b39), .val (.ref b41), .unset, .unset] [(.int (7 : Int32)), (.ref b1), (.ref b39), (.long ((((((r120 + r121) + r122) + r123) + r124) + r125) + r126))])) _
    refine XS.iload X126.here hx rfl (hb hby at_448) rfl ?_
    show Steps p.tables e below (T126.setTop (mkF m 450 #[.val (.long q1), .second, .val (.long q2), .second, .val (.int p3), .val (.int p4), .val (.int wd), .val (.int os), .val (.ref b1), .val (.ref b39), .val (.ref b41), .unset, .unset] [(.int os), (.int (7 : Int32)), (.ref b1), (.ref b39), (.long ((((((r120 + r121) + r122) + r123) + r124) + r125) + r126))])) _
    refine XS.iload X126.here hx rfl (hb hby at_450) rfl ?_
    show Steps p.tables e below (T126.setTop (mkF m 452 #[.val (.long q1), .second, .val (.long q2), .second, .val (.int p3), .val (.int p4), .val (.int wd), .val (.int os), .val (.ref b1), .val (.ref b39), .val (.ref b41), .unset, .unset] [(.int wd), (.int os), (.int (7 : Int32)), (.ref b1), (.ref b39), (.long ((((((r120 + r121) + r122) + r123) + r124) + r125) + r126))])) _
    refine st127 _ ?_
    show Steps p.tables e below (T127.setTop (mkF m 455 #[.val (.long q1), .second, .val (.long q2), .second, .val (.int p3), .val (.int p4), .val (.int wd), .val (.int os), .val (.ref b1), .val (.ref b39), .val (.ref b41), .unset, .unset] [(.long r127), (.long ((((((r120 + r121) + r122) + r123) + r124) + r125) + r126))])) _
    refine XS.ladd X127.here hx rfl (hb hby at_455) rfl ?_
    show Steps p.tables e below (T127.setTop (mkF m 456 #[.val (.long q1), .second, .val (.long q2), .second, .val (.int p3), .val (.int p4), .val (.int wd), .val (.int os), .val (.ref b1), .val (.ref b39), .val (.ref b41), .unset, .unset] [(.long (((((((r120 + r121) + r122) + r123) + r124) + r125) + r126) + r127))])) _
    refine XS.aload X127.here hx rfl (hb hby at_456) rfl rfl ?_
    show Steps p.tables e below (T127.setTop (mkF m 458 #[.val (.long q1), .second, .val (.long q2), .second, .val (.int p3), .val (.int p4), .val (.int wd), .val (.int os), .val (.ref b1), .val (.ref b39), .val (.ref b41), .unset, .unset] [(.ref b39), (.long (((((((r120 + r121) + r122) + r123) + r124) + r125) + r126) + r127))])) _
    refine XS.aload X127.here hx rfl (hb hby at_458) rfl rfl ?_
    show Steps p.tables e below (T127.setTop (mkF m 460 #[.val (.long q1), .second, .val (.long q2), .second, .val (.int p3), .val (.int p4), .val (.int wd), .val (.int os), .val (.ref b1), .val (.ref b39), .val (.ref b41), .unset, .unset] [(.ref b1), (.ref b39), (.long (((((((r120 + r121) + r122) + r123) + r124) + r125) + r126) + r127))])) _
    refine XS.bipush X127.here hx rfl (hb hby at_460) ?_
    show Steps p.tables e below (T127.setTop (mkF m 462 #[.val (.long q1), .second, .val (.long q2), .second, .val (.int p3), .val (.int p4), .val (.int wd), .val (.int os), .val (.ref b1), .val (.ref b39), .val (.ref b41), .unset, .unset] [(.int (8 : Int32)), (.ref b1), (.ref b39), (.long (((((((r120 + r121) + r122) + r123) + r124) + r125) + r126) + r127))])) _
    refine XS.iload X127.here hx rfl (hb hby at_462) rfl ?_
    show Steps p.tables e below (T127.setTop (mkF m 464 #[.val (.long q1), .second, .val (.long q2), .second, .val (.int p3), .val (.int p4), .val (.int wd), .val (.int os), .val (.ref b1), .val (.ref b39), .val (.ref b41), .unset, .unset] [(.int os), (.int (8 : Int32)), (.ref b1), (.ref b39), (.long (((((((r120 + r121) + r122) + r123) + r124) + r125) + r126) + r127))])) _
    refine XS.iload X127.here hx rfl (hb hby at_464) rfl ?_
    show Steps p.tables e below (T127.setTop (mkF m 466 #[.val (.long q1), .second, .val (.long q2), .second, .val (.int p3), .val (.int p4), .val (.int wd), .val (.int os), .val (.ref b1), .val (.ref b39), .val (.ref b41), .unset, .unset] [(.int wd), (.int os), (.int (8 : Int32)), (.ref b1), (.ref b39), (.long (((((((r120 + r121) + r122) + r123) + r124) + r125) + r126) + r127))])) _
    refine st128 _ ?_
    show Steps p.tables e below (T128.setTop (mkF m 469 #[.val (.long q1), .second, .val (.long q2), .second, .val (.int p3), .val (.int p4), .val (.int wd), .val (.int os), .val (.ref b1), .val (.ref b39), .val (.ref b41), .unset, .unset] [(.long r128), (.long (((((((r120 + r121) + r122) + r123) + r124) + r125) + r126) + r127))])) _
    refine XS.ladd X128.here hx rfl (hb hby at_469) rfl ?_
    show Steps p.tables e below (T128.setTop (mkF m 470 #[.val (.long q1), .second, .val (.long q2), .second, .val (.int p3), .val (.int p4), .val (.int wd), .val (.int os), .val (.ref b1), .val (.ref b39), .val (.ref b41), .unset, .unset] [(.long ((((((((r120 + r121) + r122) + r123) + r124) + r125) + r126) + r127) + r128))])) _
    refine XS.aload X128.here hx rfl (hb hby at_470) rfl rfl ?_
    show Steps p.tables e below (T128.setTop (mkF m 472 #[.val (.long q1), .second, .val (.long q2), .second, .val (.int p3), .val (.int p4), .val (.int wd), .val (.int os), .val (.ref b1), .val (.ref b39), .val (.ref b41), .unset, .unset] [(.ref b39), (.long ((((((((r120 + r121) + r122) + r123) + r124) + r125) + r126) + r127) + r128))])) _
    refine XS.aload X128.here hx rfl (hb hby at_472) rfl rfl ?_
    show Steps p.tables e below (T128.setTop (mkF m 474 #[.val (.long q1), .second, .val (.long q2), .second, .val (.int p3), .val (.int p4), .val (.int wd), .val (.int os), .val (.ref b1), .val (.ref b39), .val (.ref b41), .unset, .unset] [(.ref b1), (.ref b39), (.long ((((((((r120 + r121) + r122) + r123) + r124) + r125) + r126) + r127) + r128))])) _
    refine XS.bipush X128.here hx rfl (hb hby at_474) ?_
    show Steps p.tables e below (T128.setTop (mkF m 476 #[.val (.long q1), .second, .val (.long q2), .second, .val (.int p3), .val (.int p4), .val (.int wd), .val (.int os), .val (.ref b1), .val (.ref b39), .val (.ref b41), .unset, .unset] [(.int (9 : Int32)), (.ref b1), (.ref b39), (.long ((((((((r120 + r121) + r122) + r123) + r124) + r125) + r126) + r127) + r128))])) _
    refine XS.iload X128.here hx rfl (hb hby at_476) rfl ?_
    show Steps p.tables e below (T128.setTop (mkF m 478 #[.val (.long q1), .second, .val (.long q2), .second, .val (.int p3), .val (.int p4), .val (.int wd), .val (.int os), .val (.ref b1), .val (.ref b39), .val (.ref b41), .unset, .unset] [(.int os), (.int (9 : Int32)), (.ref b1), (.ref b39), (.long ((((((((r120 + r121) + r122) + r123) + r124) + r125) + r126) + r127) + r128))])) _
    refine XS.iload X128.here hx rfl (hb hby at_478) rfl ?_
    show Steps p.tables e below (T128.setTop (mkF m 480 #[.val (.long q1), .second, .val (.long q2), .second, .val (.int p3), .val (.int p4), .val (.int wd), .val (.int os), .val (.ref b1), .val (.ref b39), .val (.ref b41), .unset, .unset] [(.int wd), (.int os), (.int (9 : Int32)), (.ref b1), (.ref b39), (.long ((((((((r120 + r121) + r122) + r123) + r124) + r125) + r126) + r127) + r128))])) _
    refine st129 _ ?_
    show Steps p.tables e below (T129.setTop (mkF m 483 #[.val (.long q1), .second, .val (.long q2), .second, .val (.int p3), .val (.int p4), .val (.int wd), .val (.int os), .val (.ref b1), .val (.ref b39), .val (.ref b41), .unset, .unset] [(.long r129), (.long ((((((((r120 + r121) + r122) + r123) + r124) + r125) + r126) + r127) + r128))])) _
    refine XS.ladd X129.here hx rfl (hb hby at_483) rfl ?_
    show Steps p.tables e below (T129.setTop (mkF m 484 #[.val (.long q1), .second, .val (.long q2), .second, .val (.int p3), .val (.int p4), .val (.int wd), .val (.int os), .val (.ref b1), .val (.ref b39), .val (.ref b41), .unset, .unset] [(.long (((((((((r120 + r121) + r122) + r123) + r124) + r125) + r126) + r127) + r128) + r129))])) _
    refine XS.aload X129.here hx rfl (hb hby at_484) rfl rfl ?_
    show Steps p.tables e below (T129.setTop (mkF m 486 #[.val (.long q1), .second, .val (.long q2), .second, .val (.int p3), .val (.int p4), .val (.int wd), .val (.int os), .val (.ref b1), .val (.ref b39), .val (.ref b41), .unset, .unset] [(.ref b39), (.long (((((((((r120 + r121) + r122) + r123) + r124) + r125) + r126) + r127) + r128) + r129))])) _
    refine XS.aload X129.here hx rfl (hb hby at_486) rfl rfl ?_
    show Steps p.tables e below (T129.setTop (mkF m 488 #[.val (.long q1), .second, .val (.long q2), .second, .val (.int p3), .val (.int p4), .val (.int wd), .val (.int os), .val (.ref b1), .val (.ref b39), .val (.ref b41), .unset, .unset] [(.ref b1), (.ref b39), (.long (((((((((r120 + r121) + r122) + r123) + r124) + r125) + r126) + r127) + r128) + r129))])) _
    refine XS.bipush X129.here hx rfl (hb hby at_488) ?_
    show Steps p.tables e below (T129.setTop (mkF m 490 #[.val (.long q1), .second, .val (.long q2), .second, .val (.int p3), .val (.int p4), .val (.int wd), .val (.int os), .val (.ref b1), .val (.ref b39), .val (.ref b41), .unset, .unset] [(.int (10 : Int32)), (.ref b1), (.ref b39), (.long (((((((((r120 + r121) + r122) + r123) + r124) + r125) + r126) + r127) + r128) + r129))])) _
    refine XS.iload X129.here hx rfl (hb hby at_490) rfl ?_
    show Steps p.tables e below (T129.setTop (mkF m 492 #[.val (.long q1), .second, .val (.long q2), .second, .val (.int p3), .val (.int p4), .val (.int wd), .val (.int os), .val (.ref b1), .val (.ref b39), .val (.ref b41), .unset, .unset] [(.int os), (.int (10 : Int32)), (.ref b1), (.ref b39), (.long (((((((((r120 + r121) + r122) + r123) + r124) + r125) + r126) + r127) + r128) + r129))])) _
    refine XS.iload X129.here hx rfl (hb hby at_492) rfl ?_
    show Steps p.tables e below (T129.setTop (mkF m 494 #[.val (.long q1), .second, .val (.long q2), .second, .val (.int p3), .val (.int p4), .val (.int wd), .val (.int os), .val (.ref b1), .val (.ref b39), .val (.ref b41), .unset, .unset] [(.int wd), (.int os), (.int (10 : Int32)), (.ref b1), (.ref b39), (.long (((((((((r120 + r121) + r122) + r123) + r124) + r125) + r126) + r127) + r128) + r129))])) _
    refine st130 _ ?_
    show Steps p.tables e below (T130.setTop (mkF m 497 #[.val (.long q1), .second, .val (.long q2), .second, .val (.int p3), .val (.int p4), .val (.int wd), .val (.int os), .val (.ref b1), .val (.ref b39), .val (.ref b41), .unset, .unset] [(.long r130), (.long (((((((((r120 + r121) + r122) + r123) + r124) + r125) + r126) + r127) + r128) + r129))])) _
    refine XS.ladd X130.here hx rfl (hb hby at_497) rfl ?_
    show Steps p.tables e below (T130.setTop (mkF m 498 #[.val (.long q1), .second, .val (.long q2), .second, .val (.int p3), .val (.int p4), .val (.int wd), .val (.int os), .val (.ref b1), .val (.ref b39), .val (.ref b41), .unset, .unset] [(.long ((((((((((r120 + r121) + r122) + r123) + r124) + r125) + r126) + r127) + r128) + r129) + r130))])) _
    refine XS.aload X130.here hx rfl (hb hby at_498) rfl rfl ?_
    show Steps p.tables e below (T130.setTop (mkF m 500 #[.val (.long q1), .second, .val (.long q2), .second, .val (.int p3), .val (.int p4), .val (.int wd), .val (.int os), .val (.ref b1), .val (.ref b39), .val (.ref b41), .unset, .unset] [(.ref b39), (.long ((((((((((r120 + r121) + r122) + r123) + r124) + r125) + r126) + r127) + r128) + r129) + r130))])) _
    refine XS.aload X130.here hx rfl (hb hby at_500) rfl rfl ?_
    show Steps p.tables e below (T130.setTop (mkF m 502 #[.val (.long q1), .second, .val (.long q2), .second, .val (.int p3), .val (.int p4), .val (.int wd), .val (.int os), .val (.ref b1), .val (.ref b39), .val (.ref b41), .unset, .unset] [(.ref b1), (.ref b39), (.long ((((((((((r120 + r121) + r122) + r123) + r124) + r125) + r126) + r127) + r128) + r129) + r130))])) _
    refine XS.bipush X130.here hx rfl (hb hby at_502) ?_
    show Steps p.tables e below (T130.setTop (mkF m 504 #[.val (.long q1), .second, .val (.long q2), .second, .val (.int p3), .val (.int p4), .val (.int wd), .val (.int os), .val (.ref b1), .val (.ref b39), .val (.ref b41), .unset, .unset] [(.int (11 : Int32)), (.ref b1), (.ref b39), (.long ((((((((((r120 + r121) + r122) + r123) + r124) + r125) + r126) + r127) + r128) + r129) + r130))])) _
    refine XS.iload X130.here hx rfl (hb hby at_504) rfl ?_
    show Steps p.tables e below (T130.setTop (mkF m 506 #[.val (.long q1), .second, .val (.long q2), .second, .val (.int p3), .val (.int p4), .val (.int wd), .val (.int os), .val (.ref b1), .val (.ref b39), .val (.ref b41), .unset, .unset] [(.int os), (.int (11 : Int32)), (.ref b1), (.ref b39), (.long ((((((((((r120 + r121) + r122) + r123) + r124) + r125) + r126) + r127) + r128) + r129) + r130))])) _
    refine XS.iload X130.here hx rfl (hb hby at_506) rfl ?_
    show Steps p.tables e below (T130.setTop (mkF m 508 #[.val (.long q1), .second, .val (.long q2), .second, .val (.int p3), .val (.int p4), .val (.int wd), .val (.int os), .val (.ref b1), .val (.ref b39), .val (.ref b41), .unset, .unset] [(.int wd), (.int os), (.int (11 : Int32)), (.ref b1), (.ref b39), (.long ((((((((((r120 + r121) + r122) + r123) + r124) + r125) + r126) + r127) + r128) + r129) + r130))])) _
    refine st131 _ ?_
    show Steps p.tables e below (T131.setTop (mkF m 511 #[.val (.long q1), .second, .val (.long q2), .second, .val (.int p3), .val (.int p4), .val (.int wd), .val (.int os), .val (.ref b1), .val (.ref b39), .val (.ref b41), .unset, .unset] [(.long r131), (.long ((((((((((r120 + r121) + r122) + r123) + r124) + r125) + r126) + r127) + r128) + r129) + r130))])) _
    refine XS.ladd X131.here hx rfl (hb hby at_511) rfl ?_
    show Steps p.tables e below (T131.setTop (mkF m 512 #[.val (.long q1), .second, .val (.long q2), .second, .val (.int p3), .val (.int p4), .val (.int wd), .val (.int os), .val (.ref b1), .val (.ref b39), .val (.ref b41), .unset, .unset] [(.long (((((((((((r120 + r121) + r122) + r123) + r124) + r125) + r126) + r127) + r128) + r129) + r130) + r131))])) _
    refine XS.aload X131.here hx rfl (hb hby at_512) rfl rfl ?_
    show Steps p.tables e below (T131.setTop (mkF m 514 #[.val (.long q1), .second, .val (.long q2), .second, .val (.int p3), .val (.int p4), .val (.int wd), .val (.int os), .val (.ref b1), .val (.ref b39), .val (.ref b41), .unset, .unset] [(.ref b39), (.long (((((((((((r120 + r121) + r122) + r123) + r124) + r125) + r126) + r127) + r128) + r129) + r130) + r131))])) _
    refine XS.aload X131.here hx rfl (hb hby at_514) rfl rfl ?_
    show Steps p.tables e below (T131.setTop (mkF m 516 #[.val (.long q1), .second, .val (.long q2), .second, .val (.int p3), .val (.int p4), .val (.int wd), .val (.int os), .val (.ref b1), .val (.ref b39), .val (.ref b41), .unset, .unset] [(.ref b1), (.ref b39), (.long (((((((((((r120 + r121) + r122) + r123) + r124) + r125) + r126) + r127) + r128) + r129) + r130) + r131))])) _
    refine XS.bipush X131.here hx rfl (hb hby at_516) ?_
    show Steps p.tables e below (T131.setTop (mkF m 518 #[.val (.long q1), .second, .val (.long q2), .second, .val (.int p3), .val (.int p4), .val (.int wd), .val (.int os), .val (.ref b1), .val (.ref b39), .val (.ref b41), .unset, .unset] [(.int (12 : Int32)), (.ref b1), (.ref b39), (.long (((((((((((r120 + r121) + r122) + r123) + r124) + r125) + r126) + r127) + r128) + r129) + r130) + r131))])) _
    refine XS.iload X131.here hx rfl (hb hby at_518) rfl ?_
    show Steps p.tables e below (T131.setTop (mkF m 520 #[.val (.long q1), .second, .val (.long q2), .second, .val (.int p3), .val (.int p4), .val (.int wd), .val (.int os), .val (.ref b1), .val (.ref b39), .val (.ref b41), .unset, .unset] [(.int os), (.int (12 : Int32)), (.ref b1), (.ref b39), (.long (((((((((((r120 + r121) + r122) + r123) + r124) + r125) + r126) + r127) + r128) + r129) + r130) + r131))])) _
    refine XS.iload X131.here hx rfl (hb hby at_520) rfl ?_
    show Steps p.tables e below (T131.setTop (mkF m 522 #[.val (.long q1), .second, .val (.long q2), .second, .val (.int p3), .val (.int p4), .val (.int wd), .val (.int os), .val (.ref b1), .val (.ref b39), .val (.ref b41), .unset, .unset] [(.int wd), (.int os), (.int (12 : Int32)), (.ref b1), (.ref b39), (.long (((((((((((r120 + r121) + r122) + r123) + r124) + r125) + r126) + r127) + r128) + r129) + r130) + r131))])) _
    refine st132 _ ?_
    show Steps p.tables e below (T132.setTop (mkF m 525 #[.val (.long q1), .second, .val (.long q2), .second, .val (.int p3), .val (.int p4), .val (.int wd), .val (.int os), .val (.ref b1), .val (.ref b39), .val (.ref b41), .unset, .unset] [(.long r132), (.long (((((((((((r120 + r121) + r122) + r123) + r124) + r125) + r126) + r127) + r128) + r129) + r130) + r131))])) _
    refine XS.ladd X132.here hx rfl (hb hby at_525) rfl ?_
    show Steps p.tables e below (T132.setTop (mkF m 526 #[.val (.long q1), .second, .val (.long q2), .second, .val (.int p3), .val (.int p4), .val (.int wd), .val (.int os), .val (.ref b1), .val (.ref b39), .val (.ref b41), .unset, .unset] [(.long ((((((((((((r120 + r121) + r122) + r123) + r124) + r125) + r126) + r127) + r128) + r129) + r130) + r131) + r132))])) _
    refine XS.aload X132.here hx rfl (hb hby at_526) rfl rfl ?_
    show Steps p.tables e below (T132.setTop (mkF m 528 #[.val (.long q1), .second, .val (.long q2), .second, .val (.int p3), .val (.int p4), .val (.int wd), .val (.int os), .val (.ref b1), .val (.ref b39), .val (.ref b41), .unset, .unset] [(.ref b39), (.long ((((((((((((r120 + r121) + r122) + r123) + r124) + r125) + r126) + r127) + r128) + r129) + r130) + r131) + r132))])) _
    refine XS.aload X132.here hx rfl (hb hby at_528) rfl rfl ?_
    show Steps p.tables e below (T132.setTop (mkF m 530 #[.val (.long q1), .second, .val (.long q2), .second, .val (.int p3), .val (.int p4), .val (.int wd), .val (.int os), .val (.ref b1), .val (.ref b39), .val (.ref b41), .unset, .unset] [(.ref b1), (.ref b39), (.long ((((((((((((r120 + r121) + r122) + r123) + r124) + r125) + r126) + r127) + r128) + r129) + r130) + r131) + r132))])) _
    refine XS.bipush X132.here hx rfl (hb hby at_530) ?_
    show Steps p.tables e below (T132.setTop (mkF m 532 #[.val (.long q1), .second, .val (.long q2), .second, .val (.int p3), .val (.int p4), .val (.int wd), .val (.int os), .val (.ref b1), .val (.ref b39), .val (.ref b41), .unset, .unset] [(.int (13 : Int32)), (.ref b1), (.ref b39), (.long ((((((((((((r120 + r121) + r122) + r123) + r124) + r125) + r126) + r127) + r128) + r129) + r130) + r131) + r132))])) _
    refine XS.iload X132.here hx rfl (hb hby at_532) rfl ?_
    show Steps p.tables e below (T132.setTop (mkF m 534 #[.val (.long q1), .second, .val (.long q2), .second, .val (.int p3), .val (.int p4), .val (.int wd), .val (.int os), .val (.ref b1), .val (.ref b39), .val (.ref b41), .unset, .unset] [(.int os), (.int (13 : Int32)), (.ref b1), (.ref b39), (.long ((((((((((((r120 + r121) + r122) + r123) + r124) + r125) + r126) + r127) + r128) + r129) + r130) + r131) + r132))])) _
    refine XS.iload X132.here hx rfl (hb hby at_534) rfl ?_
    show Steps p.tables e below (T132.setTop (mkF m 536 #[.val (.long q1), .second, .val (.long q2), .second, .val (.int p3), .val (.int p4), .val (.int wd), .val (.int os), .val (.ref b1), .val (.ref b39), .val (.ref b41), .unset, .unset] [(.int wd), (.int os), (.int (13 : Int32)), (.ref b1), (.ref b39), (.long ((((((((((((r120 + r121) + r122) + r123) + r124) + r125) + r126) + r127) + r128) + r129) + r130) + r131) + r132))])) _
    refine st133 _ ?_
    show Steps p.tables e below (T133.setTop (mkF m 539 #[.val (.long q1), .second, .val (.long q2), .second, .val (.int p3), .val (.int p4), .val (.int wd), .val (.int os), .val (.ref b1), .val (.ref b39), .val (.ref b41), .unset, .unset] [(.long r133), (.long ((((((((((((r120 + r121) + r122) + r123) + r124) + r125) + r126) + r127) + r128) + r129) + r130) + r131) + r132))])) _
    refine XS.ladd X133.here hx rfl (hb hby at_539) rfl ?_
    show Steps p.tables e below (T133.setTop (mkF m 540 #[.val (.long q1), .second, .val (.long q2), .second, .val (.int p3), .val (.int p4), .val (.int wd), .val (.int os), .val (.ref b1), .val (.ref b39), .val (.ref b41), .unset, .unset] [(.long (((((((((((((r120 + r121) + r122) + r123) + r124) + r125) + r126) + r127) + r128) + r129) + r130) + r131) + r132) + r133))])) _
    refine XS.aload X133.here hx rfl (hb hby at_540) rfl rfl ?_
    show Steps p.tables e below (T133.setTop (mkF m 542 #[.val (.long q1), .second, .val (.long q2), .second, .val (.int p3), .val (.int p4), .val (.int wd), .val (.int os), .val (.ref b1), .val (.ref b39), .val (.ref b41), .unset, .unset] [(.ref b39), (.long (((((((((((((r120 + r121) + r122) + r123) + r124) + r125) + r126) + r127) + r128) + r129) + r130) + r131) + r132) + r133))])) _
    refine XS.aload X133.here hx rfl (hb hby at_542) rfl rfl ?_
    show Steps p.tables e below (T133.setTop (mkF m 544 #[.val (.long q1), .second, .val (.long q2), .second, .val (.int p3), .val (.int p4), .val (.int wd), .val (.int os), .val (.ref b1), .val (.ref b39), .val (.ref b41), .unset, .unset] [(.ref b1), (.ref b39), (.long (((((((((((((r120 + r121) + r122) + r123) + r124) + r125) + r126) + r127) + r128) + r129) + r130) + r131) + r132) + r133))])) _
    refine XS.bipush X133.here hx rfl (hb hby at_544) ?_
    show Steps p.tables e below (T133.setTop (mkF m 546 #[.val (.long q1), .second, .val (.long q2), .second, .val (.int p3), .val (.int p4), .val (.int wd), .val (.int os), .val (.ref b1), .val (.ref b39), .val (.ref b41), .unset, .unset] [(.int (14 : Int32)), (.ref b1), (.ref b39), (.long (((((((((((((r120 + r121) + r122) + r123) + r124) + r125) + r126) + r127) + r128) + r129) + r130) + r131) + r132) + r133))])) _
    refine XS.iload X133.here hx rfl (hb hby at_546) rfl ?_
    show Steps p.tables e below (T133.setTop (mkF m 548 #[.val (.long q1), .second, .val (.long q2), .second, .val (.int p3), .val (.int p4), .val (.int wd), .val (.int os), .val (.ref b1), .val (.ref b39), .val (.ref b41), .unset, .unset] [(.int os), (.int (14 : Int32)), (.ref b1), (.ref b39), (.long (((((((((((((r120 + r121) + r122) + r123) + r124) + r125) + r126) + r127) + r128) + r129) + r130) + r131) + r132) + r133))])) _
    refine XS.iload X133.here hx rfl (hb hby at_548) rfl ?_
    show Steps p.tables e below (T133.setTop (mkF m 550 #[.val (.long q1), .second, .val (.long q2), .second, .val (.int p3), .val (.int p4), .val (.int wd), .val (.int os), .val (.ref b1), .val (.ref b39), .val (.ref b41), .unset, .unset] [(.int wd), (.int os), (.int (14 : Int32)), (.ref b1), (.ref b39), (.long (((((((((((((r120 + r121) + r122) + r123) + r124) + r125) + r126) + r127) + r128) + r129) + r130) + r131) + r132) + r133))])) _
    refine st134 _ ?_
    show Steps p.tables e below (T134.setTop (mkF m 553 #[.val (.long q1), .second, .val (.long q2), .second, .val (.int p3), .val (.int p4), .val (.int wd), .val (.int os), .val (.ref b1), .val (.ref b39), .val (.ref b41), .unset, .unset] [(.long r134), (.long (((((((((((((r120 + r121) + r122) + r123) + r124) + r125) + r126) + r127) + r128) + r129) + r130) + r131) + r132) + r133))])) _
    refine XS.ladd X134.here hx rfl (hb hby at_553) rfl ?_
    show Steps p.tables e below (T134.setTop (mkF m 554 #[.val (.long q1), .second, .val (.long q2), .second, .val (.int p3), .val (.int p4), .val (.int wd), .val (.int os), .val (.ref b1), .val (.ref b39), .val (.ref b41), .unset, .unset] [(.long ((((((((((((((r120 + r121) + r122) + r123) + r124) + r125) + r126) + r127) + r128) + r129) + r130) + r131) + r132) + r133) + r134))])) _
    refine XS.aload X134.here hx rfl (hb hby at_554) rfl rfl ?_
    show Steps p.tables e below (T134.setTop (mkF m 556 #[.val (.long q1), .second, .val (.long q2), .second, .val (.int p3), .val (.int p4), .val (.int wd), .val (.int os), .val (.ref b1), .val (.ref b39), .val (.ref b41), .unset, .unset] [(.ref b39), (.long ((((((((((((((r120 + r121) + r122) + r123) + r124) + r125) + r126) + r127) + r128) + r129) + r130) + r131) + r132) + r133) + r134))])) _
    refine XS.aload X134.here hx rfl (hb hby at_556) rfl rfl ?_
    show Steps p.tables e below (T134.setTop (mkF m 558 #[.val (.long q1), .second, .val (.long q2), .second, .val (.int p3), .val (.int p4), .val (.int wd), .val (.int os), .val (.ref b1), .val (.ref b39), .val (.ref b41), .unset, .unset] [(.ref b1), (.ref b39), (.long ((((((((((((((r120 + r121) + r122) + r123) + r124) + r125) + r126) + r127) + r128) + r129) + r130) + r131) + r132) + r133) + r134))])) _
    refine XS.bipush X134.here hx rfl (hb hby at_558) ?_
    show Steps p.tables e below (T134.setTop (mkF m 560 #[.val (.long q1), .second, .val (.long q2), .second, .val (.int p3), .val (.int p4), .val (.int wd), .val (.int os), .val (.ref b1), .val (.ref b39), .val (.ref b41), .unset, .unset] [(.int (15 : Int32)), (.ref b1), (.ref b39), (.long ((((((((((((((r120 + r121) + r122) + r123) + r124) + r125) + r126) + r127) + r128) + r129) + r130) + r131) + r132) + r133) + r134))])) _
    refine XS.iload X134.here hx rfl (hb hby at_560) rfl ?_
    show Steps p.tables e below (T134.setTop (mkF m 562 #[.val (.long q1), .second, .val (.long q2), .second, .val (.int p3), .val (.int p4), .val (.int wd), .val (.int os), .val (.ref b1), .val (.ref b39), .val (.ref b41), .unset, .unset] [(.int os), (.int (15 : Int32)), (.ref b1), (.ref b39), (.long ((((((((((((((r120 + r121) + r122) + r123) + r124) + r125) + r126) + r127) + r128) + r129) + r130) + r131) + r132) + r133) + r134))])) _
    refine XS.iload X134.here hx rfl (hb hby at_562) rfl ?_
    show Steps p.tables e below (T134.setTop (mkF m 564 #[.val (.long q1), .second, .val (.long q2), .second, .val (.int p3), .val (.int p4), .val (.int wd), .val (.int os), .val (.ref b1), .val (.ref b39), .val (.ref b41), .unset, .unset] [(.int wd), (.int os), (.int (15 : Int32)), (.ref b1), (.ref b39), (.long ((((((((((((((r120 + r121) + r122) + r123) + r124) + r125) + r126) + r127) + r128) + r129) + r130) + r131) + r132) + r133) + r134))])) _
    refine st135 _ ?_
    show Steps p.tables e below (T135.setTop (mkF m 567 #[.val (.long q1), .second, .val (.long q2), .second, .val (.int p3), .val (.int p4), .val (.int wd), .val (.int os), .val (.ref b1), .val (.ref b39), .val (.ref b41), .unset, .unset] [(.long r135), (.long ((((((((((((((r120 + r121) + r122) + r123) + r124) + r125) + r126) + r127) + r128) + r129) + r130) + r131) + r132) + r133) + r134))])) _
    refine XS.ladd X135.here hx rfl (hb hby at_567) rfl ?_
    show Steps p.tables e below (T135.setTop (mkF m 568 #[.val (.long q1), .second, .val (.long q2), .second, .val (.int p3), .val (.int p4), .val (.int wd), .val (.int os), .val (.ref b1), .val (.ref b39), .val (.ref b41), .unset, .unset] [(.long (((((((((((((((r120 + r121) + r122) + r123) + r124) + r125) + r126) + r127) + r128) + r129) + r130) + r131) + r132) + r133) + r134) + r135))])) _
    refine XS.aload X135.here hx rfl (hb hby at_568) rfl rfl ?_
    show Steps p.tables e below (T135.setTop (mkF m 570 #[.val (.long q1), .second, .val (.long q2), .second, .val (.int p3), .val (.int p4), .val (.int wd), .val (.int os), .val (.ref b1), .val (.ref b39), .val (.ref b41), .unset, .unset] [(.ref b39), (.long (((((((((((((((r120 + r121) + r122) + r123) + r124) + r125) + r126) + r127) + r128) + r129) + r130) + r131) + r132) + r133) + r134) + r135))])) _
    refine XS.aload X135.here hx rfl (hb hby at_570) rfl rfl ?_
    show Steps p.tables e below (T135.setTop (mkF m 572 #[.val (.long q1), .second, .val (.long q2), .second, .val (.int p3), .val (.int p4), .val (.int wd), .val (.int os), .val (.ref b1), .val (.ref b39), .val (.ref b41), .unset, .unset] [(.ref b1), (.ref b39), (.long (((((((((((((((r120 + r121) + r122) + r123) + r124) + r125) + r126) + r127) + r128) + r129) + r130) + r131) + r132) + r133) + r134) + r135))])) _
    refine XS.bipush X135.here hx rfl (hb hby at_572) ?_
    show Steps p.tables e below (T135.setTop (mkF m 574 #[.val (.long q1), .second, .val (.long q2), .second, .val (.int p3), .val (.int p4), .val (.int wd), .val (.int os), .val (.ref b1), .val (.ref b39), .val (.ref b41), .unset, .unset] [(.int (16 : Int32)), (.ref b1), (.ref b39), (.long (((((((((((((((r120 + r121) + r122) + r123) + r124) + r125) + r126) + r127) + r128) + r129) + r130) + r131) + r132) + r133) + r134) + r135))])) _
    refine XS.iload X135.here hx rfl (hb hby at_574) rfl ?_
    show Steps p.tables e below (T135.setTop (mkF m 576 #[.val (.long q1), .second, .val (.long q2), .second, .val (.int p3), .val (.int p4), .val (.int wd), .val (.int os), .val (.ref b1), .val (.ref b39), .val (.ref b41), .unset, .unset] [(.int os), (.int (16 : Int32)), (.ref b1), (.ref b39), (.long (((((((((((((((r120 + r121) + r122) + r123) + r124) + r125) + r126) + r127) + r128) + r129) + r130) + r131) + r132) + r133) + r134) + r135))])) _
    refine XS.iload X135.here hx rfl (hb hby at_576) rfl ?_
    show Steps p.tables e below (T135.setTop (mkF m 578 #[.val (.long q1), .second, .val (.long q2), .second, .val (.int p3), .val (.int p4), .val (.int wd), .val (.int os), .val (.ref b1), .val (.ref b39), .val (.ref b41), .unset, .unset] [(.int wd), (.int os), (.int (16 : Int32)), (.ref b1), (.ref b39), (.long (((((((((((((((r120 + r121) + r122) + r123) + r124) + r125) + r126) + r127) + r128) + r129) + r130) + r131) + r132) + r133) + r134) + r135))])) _
    refine st136 _ ?_
    show Steps p.tables e below (T136.setTop (mkF m 581 #[.val (.long q1), .second, .val (.long q2), .second, .val (.int p3), .val (.int p4), .val (.int wd), .val (.int os), .val (.ref b1), .val (.ref b39), .val (.ref b41), .unset, .unset] [(.long r136), (.long (((((((((((((((r120 + r121) + r122) + r123) + r124) + r125) + r126) + r127) + r128) + r129) + r130) + r131) + r132) + r133) + r134) + r135))])) _
    refine XS.ladd X136.here hx rfl (hb hby at_581) rfl ?_
    show Steps p.tables e below (T136.setTop (mkF m 582 #[.val (.long q1), .second, .val (.long q2), .second, .val (.int p3), .val (.int p4), .val (.int wd), .val (.int os), .val (.ref b1), .val (.ref b39), .val (.ref b41), .unset, .unset] [(.long ((((((((((((((((r120 + r121) + r122) + r123) + r124) + r125) + r126) + r127) + r128) + r129) + r130) + r131) + r132) + r133) + r134) + r135) + r136))])) _
    refine XS.aload X136.here hx rfl (hb hby at_582) rfl rfl ?_
    show Steps p.tables e below (T136.setTop (mkF m 584 #[.val (.long q1), .second, .val (.long q2), .second, .val (.int p3), .val (.int p4), .val (.int wd), .val (.int os), .val (.ref b1), .val (.ref b39), .val (.ref b41), .unset, .unset] [(.ref b39), (.long ((((((((((((((((r120 + r121) + r122) + r123) + r124) + r125) + r126) + r127) + r128) + r129) + r130) + r131) + r132) + r133) + r134) + r135) + r136))])) _
    refine XS.aload X136.here hx rfl (hb hby at_584) rfl rfl ?_
    show Steps p.tables e below (T136.setTop (mkF m 586 #[.val (.long q1), .second, .val (.long q2), .second, .val (.int p3), .val (.int p4), .val (.int wd), .val (.int os), .val (.ref b1), .val (.ref b39), .val (.ref b41), .unset, .unset] [(.ref b1), (.ref b39), (.long ((((((((((((((((r120 + r121) + r122) + r123) + r124) + r125) + r126) + r127) + r128) + r129) + r130) + r131) + r132) + r133) + r134) + r135) + r136))])) _
    refine XS.bipush X136.here hx rfl (hb hby at_586) ?_
    show Steps p.tables e below (T136.setTop (mkF m 588 #[.val (.long q1), .second, .val (.long q2), .second, .val (.int p3), .val (.int p4), .val (.int wd), .val (.int os), .val (.ref b1), .val (.ref b39), .val (.ref b41), .unset, .unset] [(.int (17 : Int32)), (.ref b1), (.ref b39), (.long ((((((((((((((((r120 + r121) + r122) + r123) + r124) + r125) + r126) + r127) + r128) + r129) + r130) + r131) + r132) + r133) + r134) + r135) + r136))])) _
    refine XS.iload X136.here hx rfl (hb hby at_588) rfl ?_
    show Steps p.tables e below (T136.setTop (mkF m 590 #[.val (.long q1), .second, .val (.long q2), .second, .val (.int p3), .val (.int p4), .val (.int wd), .val (.int os), .val (.ref b1), .val (.ref b39), .val (.ref b41), .unset, .unset] [(.int os), (.int (17 : Int32)), (.ref b1), (.ref b39), (.long ((((((((((((((((r120 + r121) + r122) + r123) + r124) + r125) + r126) + r127) + r128) + r129) + r130) + r131) + r132) + r133) + r134) + r135) + r136))])) _
    refine XS.iload X136.here hx rfl (hb hby at_590) rfl ?_
    show Steps p.tables e below (T136.setTop (mkF m 592 #[.val (.long q1), .second, .val (.long q2), .second, .val (.int p3), .val (.int p4), .val (.int wd), .val (.int os), .val (.ref b1), .val (.ref b39), .val (.ref b41), .unset, .unset] [(.int wd), (.int os), (.int (17 : Int32)), (.ref b1), (.ref b39), (.long ((((((((((((((((r120 + r121) + r122) + r123) + r124) + r125) + r126) + r127) + r128) + r129) + r130) + r131) + r132) + r133) + r134) + r135) + r136))])) _
    refine st137 _ ?_
    show Steps p.tables e below (T137.setTop (mkF m 595 #[.val (.long q1), .second, .val (.long q2), .second, .val (.int p3), .val (.int p4), .val (.int wd), .val (.int os), .val (.ref b1), .val (.ref b39), .val (.ref b41), .unset, .unset] [(.long r137), (.long ((((((((((((((((r120 + r121) + r122) + r123) + r124) + r125) + r126) + r127) + r128) + r129) + r130) + r131) + r132) + r133) + r134) + r135) + r136))])) _
    refine XS.ladd X137.here hx rfl (hb hby at_595) rfl ?_
    show Steps p.tables e below (T137.setTop (mkF m 596 #[.val (.long q1), .second, .val (.long q2), .second, .val (.int p3), .val (.int p4), .val (.int wd), .val (.int os), .val (.ref b1), .val (.ref b39), .val (.ref b41), .unset, .unset] [(.long (((((((((((((((((r120 + r121) + r122) + r123) + r124) + r125) + r126) + r127) + r128) + r129) + r130) + r131) + r132) + r133) + r134) + r135) + r136) + r137))])) _
    refine XS.lstore X137.here hx rfl (hb hby at_596) rfl (l' := #[.val (.long q1), .second, .val (.long q2), .second, .val (.int p3), .val (.int p4), .val (.int wd), .val (.int os), .val (.ref b1), .val (.ref b39), .val (.ref b41), .val (.long (((((((((((((((((r120 + r121) + r122) + r123) + r124) + r125) + r126) + r127) + r128) + r129) + r130) + r131) + r132) + r133) + r134) + r135) + r136) + r137)), .second]) rfl ?_
    show Steps p.tables e below (T137.setTop (mkF m 598 #[.val (.long q1), .second, .val (.long q2), .second, .val (.int p3), .val (.int p4), .val (.int wd), .val (.int os), .val (.ref b1), .val (.ref b39), .val (.ref b41), .val (.long (((((((((((((((((r120 + r121) + r122) + r123) + r124) + r125) + r126) + r127) + r128) + r129) + r130) + r131) + r132) + r133) + r134) + r135) + r136) + r137)), .second] [])) _
    refine XS.aload X137.here hx rfl (hb hby at_598) rfl rfl ?_
    show Steps p.tables e below (T137.setTop (mkF m 600 #[.val (.long q1), .second, .val (.long q2), .second, .val (.int p3), .val (.int p4), .val (.int wd), .val (.int os), .val (.ref b1), .val (.ref b39), .val (.ref b41), .val (.long (((((((((((((((((r120 + r121) + r122) + r123) + r124) + r125) + r126) + r127) + r128) + r129) + r130) + r131) + r132) + r133) + r134) + r135) + r136) + r137)), .second] [(.ref b41)])) _
    refine XS.iload X137.here hx rfl (hb hby at_600) rfl ?_
    show Steps p.tables e below (T137.setTop (mkF m 602 #[.val (.long q1), .second, .val (.long q2), .second, .val (.int p3), .val (.int p4), .val (.int wd), .val (.int os), .val (.ref b1), .val (.ref b39), .val (.ref b41), .val (.long (((((((((((((((((r120 + r121) + r122) + r123) + r124) + r125) + r126) + r127) + r128) + r129) + r130) + r131) + r132) + r133) + r134) + r135) + r136) + r137)), .second] [(.int os), (.ref b41)])) _
    refine XS.iload X137.here hx rfl (hb hby at_602) rfl ?_
    show Steps p.tables e below (T137.setTop (mkF m 604 #[.val (.long q1), .second, .val (.long q2), .second, .val (.int p3), .val (.int p4), .val (.int wd), .val (.int os), .val (.ref b1), .val (.ref b39), .val (.ref b41), .val (.long (((((((((((((((((r120 + r121) + r122) + r123) + r124) + r125) + r126) + r127) + r128) + r129) + r130) + r131) + r132) + r133) + r134) + r135) + r136) + r137)), .second] [(.int wd), (.int os), (.ref b41)])) _
    refine st138 _ ?_
    show Steps p.tables e below (T138.setTop (mkF m 607 #[.val (.long q1), .second, .val (.long q2), .second, .val (.int p3), .val (.int p4), .val (.int wd), .val (.int os), .val (.ref b1), .val (.ref b39), .val (.ref b41), .val (.long (((((((((((((((((r120 + r121) + r122) + r123) + r124) + r125) + r126) + r127) + r128) + r129) + r130) + r131) + r132) + r133) + r134) + r135) + r136) + r137)), .second] [(.long r138)])) _
    refine XS.lload X138.here hx rfl (hb hby at_607) rfl ?_
    show Steps p.tables e below (T138.setTop (mkF m 609 #[.val (.long q1), .second, .val (.long q2), .second, .val (.int p3), .val (.int p4), .val (.int wd), .val (.int os), .val (.ref b1), .val (.ref b39), .val (.ref b41), .val (.long (((((((((((((((((r120 + r121) + r122) + r123) + r124) + r125) + r126) + r127) + r128) + r129) + r130) + r131) + r132) + r133) + r134) + r135) + r136) + r137)), .second] [(.long (((((((((((((((((r120 + r121) + r122) + r123) + r124) + r125) + r126) + r127) + r128) + r129) + r130) + r131) + r132) + r133) + r134) + r135) + r136) + r137)), (.long r138)])) _
    refine XS.lcmp X138.here hx rfl (hb hby at_609) rfl ?_
    show Steps p.tables e below (T138.setTop (mkF m 610 #[.val (.long q1), .second, .val (.long q2), .second, .val (.int p3), .val (.int p4), .val (.int wd), .val (.int os), .val (.ref b1), .val (.ref b39), .val (.ref b41), .val (.long (((((((((((((((((r120 + r121) + r122) + r123) + r124) + r125) + r126) + r127) + r128) + r129) + r130) + r131) + r132) + r133) + r134) + r135) + r136) + r137)), .second] [(.int (lcmpW r138 (((((((((((((((((r120 + r121) + r122) + r123) + r124) + r125) + r126) + r127) + r128) + r129) + r130) + r131) + r132) + r133) + r134) + r135) + r136) + r137)))])) _
    refine XS.ifNo X138.here hx rfl (hb hby at_610) rfl ((if0 _ _).trans (teq ((lw_eq r138 (((((((((((((((((r120 + r121) + r122) + r123) + r124) + r125) + r126) + r127) + r128) + r129) + r130) + r131) + r132) + r133) + r134) + r135) + r136) + r137)).mpr (by rw [hr138, own_fin hOW hP18 hR, hr120, hr121, hr122, hr123, hr124, hr125, hr126, hr127, hr128, hr129, hr130, hr131, hr132, hr133, hr134, hr135, hr136, hr137, hoO, hwW]; simp only [own_sum, Int64.zero_add]; rfl : r138 = (((((((((((((((((r120 + r121) + r122) + r123) + r124) + r125) + r126) + r127) + r128) + r129) + r130) + r131) + r132) + r133) + r134) + r135) + r136) + r137)))).2) ?_
    show Steps p.tables e below (T138.setTop (mkF m 613 #[.val (.long q1), .second, .val (.long q2), .second, .val (.int p3), .val (.int p4), .val (.int wd), .val (.int os), .val (.ref b1), .val (.ref b39), .val (.ref b41), .val (.long (((((((((((((((((r120 + r121) + r122) + r123) + r124) + r125) + r126) + r127) + r128) + r129) + r130) + r131) + r132) + r133) + r134) + r135) + r136) + r137)), .second] [])) _
    refine XS.iconst X138.here hx rfl (hb hby at_613) ?_
    show Steps p.tables e below (T138.setTop (mkF m 614 #[.val (.long q1), .second, .val (.long q2), .second, .val (.int p3), .val (.int p4), .val (.int wd), .val (.int os), .val (.ref b1), .val (.ref b39), .val (.ref b41), .val (.long (((((((((((((((((r120 + r121) + r122) + r123) + r124) + r125) + r126) + r127) + r128) + r129) + r130) + r131) + r132) + r133) + r134) + r135) + r136) + r137)), .second] [(.int (1 : Int32))])) _
    refine XS.goto X138.here hx rfl (pc0 := 614) (pc' := 618) rfl (hb hby at_614) (by decide) (by decide) ?_
    show Steps p.tables e below (T138.setTop (mkF m 618 #[.val (.long q1), .second, .val (.long q2), .second, .val (.int p3), .val (.int p4), .val (.int wd), .val (.int os), .val (.ref b1), .val (.ref b39), .val (.ref b41), .val (.long (((((((((((((((((r120 + r121) + r122) + r123) + r124) + r125) + r126) + r127) + r128) + r129) + r130) + r131) + r132) + r133) + r134) + r135) + r136) + r137)), .second] [(.int (1 : Int32))])) _
    exact retN X138 hx (t := .boolean) Bd.returns (by simp) (hb hby at_618) hr
  · exact ⟨rfl, N138⟩
set_option maxRecDepth 65536 in
set_option maxHeartbeats 40000000 in
theorem own_mid2 (l : Launch) (Z : State) (a0 : Array Value) (hw : ∀ d ∈ tables_1, d.before a0 Z = true) (ws : List Jvm.Cond) (q1 : Int64) (q2 : Int64) (p3 : Int32) (p4 : Int32) (wd : Int32) (os : Int32) (W : Nat) (O : Nat) (b1 : Addr) (b39 : Addr) (b41 : Addr) (k1 : ClassId) (k39 : ClassId) (k41 : ClassId) (fn37 : Nat → Int64) (fn80 : Nat → Int32) (fn81 : Nat → Int32) (h0 : Heap) (n0 : Nat) {p : Program} {e : Env} {s : State} {m : MethodId} {below : List Frame} {meth : Method} {c : Code} {s₁ : State}
    (Bd : BodyLoose p l x (head1 (Jvm.Cond.code x code maxLocals ret :: ws) room_1) code maxLocals ret e s m #[(.long q1), (.long q2), (.int p3), (.int p4)] below meth c s₁) (hml : c.maxLocals = 13) (hZ : Z.Warmed39 s.vm) (TC : State) (hC : Heap) (lC : List Loc) (XC : Stand p l e room_1 s m #[(.long q1), (.long q2), (.int p3), (.int p4)] below meth c TC lC 3 54) (eC : TC.heap = hC) (NC : Fr n0 lC) (zC : n0 ≤ hC.size)
    (fc0 : AV Z hC b1 k1 .long 18 (fun i => Value.long (fn37 i))) (fc1 : AV Z hC b39 k39 .int 18 (fun i => Value.int (fn80 i))) (fc2 : AV Z hC b41 k41 .byte 18 (fun i => Value.int (fn81 i))) (ne_b1_b39 : b1 ≠ b39) (ne_b1_b41 : b1 ≠ b41) (ne_b39_b41 : b39 ≠ b41) (g_b1 : n0 ≤ b1) (g_b39 : n0 ≤ b39) (g_b41 : n0 ≤ b41) (hwW : wd = Int32.ofNat W) (hoO : os = Int32.ofNat O) (hOW : O + W ≤ 18) (hP18 : ∀ i, i < 18 → fn37 i = own_p10 i) (hD9 : ∀ i, i < 9 → fn80 i = (fun j => own_digit q1 q2 (Int32.ofNat j)) i) (hR9 : ∀ i, i < 9 → fn81 i = (fun j => ((((48 : Int32) + own_digit q1 q2 (Int32.ofNat j))).toInt8.toInt32).toInt8.toInt32) i) :
    GoalS p.tables e below s 16 192 (Q0 Z q1 q2 p3 p4 h0 n0) (TC.setTop (mkF m 252 #[.val (.long q1), .second, .val (.long q2), .second, .val (.int p3), .val (.int p4), .val (.int wd), .val (.int os), .val (.ref b1), .val (.ref b39), .val (.ref b41), .unset, .unset] [])) := by
  have hx := Bd.exec
  have hby := Bd.bytes
  have hown : s.vm.findClass "com/example/poukaz/poukaz/FieldKindNumberPinLaw" = some m.cls := findClass_of_methodNamed Bd.named
  have hnm := (name_of_methodNamed Bd.named Bd.method).1
  obtain ⟨_, _, ⟨T83, L83, k83, n83⟩, -, X83, ⟨Lc83, hQ83, l83, y83, z83⟩, st83⟩ := Jvm.LawKit.callS XC hx (y := (⟨"com/example/poukaz/poukaz/FieldKindNumberPinLaw", "set", "([I[BJJI)V"⟩ : MethodName)) hown (mvT hZ (hw _ (List.mem_of_getElem? (i := 21) rfl))) (mvT hZ (hw _ (List.mem_of_getElem? (i := 22) rfl))) (mvT hZ (hw _ (List.mem_of_getElem? (i := 23) rfl))) (mvT hZ (hw _ (List.mem_of_getElem? (i := 24) rfl))) (by decide) (backOf (W := 0) (rm1 l Z a0 hw [] b39 b41 q1 q2 (9 : Int32) k39 k41 fn80 fn81 hC n0 zC fc1 fc2 ne_b39_b41 g_b39 g_b41 ⟨by decide, by decide⟩) hZ (hw _ (List.mem_of_getElem? (i := 24) rfl)) (hw _ (List.mem_of_getElem? (i := 23) rfl)) (by decide) (by decide)) (g := (mkF m 260 #[.val (.long q1), .second, .val (.long q2), .second, .val (.int p3), .val (.int p4), .val (.int wd), .val (.int os), .val (.ref b1), .val (.ref b39), .val (.ref b41), .unset, .unset] [(.int (9 : Int32)), (.long q2), (.long q1), (.ref b41), (.ref b39)])) rfl (by rw [hml]; rfl) (argsL := [(.ref b39), (.ref b41), (.long q1), (.long q2), (.int (9 : Int32))]) (rest := []) (lenOf pd_1 rfl) rfl (by show 2 * 0 + _ ≤ _; exact Nat.le_of_eq rfl) (hb hby at_260) (fun _ _ => ⟨rfl, eC, (by decide : 3 + 0 ≤ _), (by decide : 54 + 0 ≤ _)⟩)
  dsimp only [Pt.U, Pt.locs, Pt.cells, Pt.slots] at X83 l83 y83 z83 st83 hQ83
  subst y83 z83
  obtain ⟨rfl, N83q, p83_0, p83_1, p83_2⟩ := hQ83
  have N83 : Fr n0 L83 := by rw [l83]; exact Fr.app NC N83q
  have z84 : n0 ≤ T83.heap.size := Nat.le_trans zC p83_0.1
  obtain ⟨fn85, hfn85⟩ : ∃ z, z = (updI fn80 ((9 : Int32)).toNatClampNeg (own_digit q1 q2 (9 : Int32))) := ⟨_, rfl⟩
  have V85 : AV Z T83.heap b39 k39 .int 18 (fun i => Value.int (fn85 i)) := by rw [hfn85]; exact p83_1
  have hD10 : ∀ i, i < 10 → fn85 i = (fun j => own_digit q1 q2 (Int32.ofNat j)) i := own_extI hD9 hfn85 rfl rfl
  obtain ⟨fn86, hfn86⟩ : ∃ z, z = (updI fn81 ((9 : Int32)).toNatClampNeg ((((48 : Int32) + (own_digit q1 q2 (9 : Int32)))).toInt8.toInt32).toInt8.toInt32) := ⟨_, rfl⟩
  have V86 : AV Z T83.heap b41 k41 .byte 18 (fun i => Value.int (fn86 i)) := by rw [hfn86]; exact p83_2
  have hR10 : ∀ i, i < 10 → fn86 i = (fun j => ((((48 : Int32) + own_digit q1 q2 (Int32.ofNat j))).toInt8.toInt32).toInt8.toInt32) i := own_extI hR9 hfn86 rfl rfl
  obtain ⟨_, _, ⟨T87, L87, k87, n87⟩, -, X87, ⟨Lc87, hQ87, l87, y87, z87⟩, st87⟩ := Jvm.LawKit.callS X83 hx (y := (⟨"com/example/poukaz/poukaz/FieldKindNumberPinLaw", "set", "([I[BJJI)V"⟩ : MethodName)) hown (mvT hZ (hw _ (List.mem_of_getElem? (i := 21) rfl))) (mvT hZ (hw _ (List.mem_of_getElem? (i := 22) rfl))) (mvT hZ (hw _ (List.mem_of_getElem? (i := 23) rfl))) (mvT hZ (hw _ (List.mem_of_getElem? (i := 24) rfl))) (by decide) (backOf (W := 0) (rm1 l Z a0 hw [] b39 b41 q1 q2 (10 : Int32) k39 k41 fn85 fn86 T83.heap n0 z84 V85 V86 ne_b39_b41 g_b39 g_b41 ⟨by decide, by decide⟩) hZ (hw _ (List.mem_of_getElem? (i := 24) rfl)) (hw _ (List.mem_of_getElem? (i := 23) rfl)) (by decide) (by decide)) (g := (mkF m 271 #[.val (.long q1), .second, .val (.long q2), .second, .val (.int p3), .val (.int p4), .val (.int wd), .val (.int os), .val (.ref b1), .val (.ref b39), .val (.ref b41), .unset, .unset] [(.int (10 : Int32)), (.long q2), (.long q1), (.ref b41), (.ref b39)])) rfl (by rw [hml]; rfl) (argsL := [(.ref b39), (.ref b41), (.long q1), (.long q2), (.int (10 : Int32))]) (rest := []) (lenOf pd_1 rfl) rfl (by show 2 * 0 + _ ≤ _; exact Nat.le_of_eq rfl) (hb hby at_271) (fun _ _ => ⟨rfl, rfl, (by decide : 3 + 0 ≤ _), (by decide : 54 + 0 ≤ _)⟩)
  dsimp only [Pt.U, Pt.locs, Pt.cells, Pt.slots] at X87 l87 y87 z87 st87 hQ87
  subst y87 z87
  obtain ⟨rfl, N87q, p87_0, p87_1, p87_2⟩ := hQ87
  have N87 : Fr n0 L87 := by rw [l87]; exact Fr.app N83 N87q
  have z88 : n0 ≤ T87.heap.size := Nat.le_trans z84 p87_0.1
  obtain ⟨fn89, hfn89⟩ : ∃ z, z = (updI fn85 ((10 : Int32)).toNatClampNeg (own_digit q1 q2 (10 : Int32))) := ⟨_, rfl⟩
  have V89 : AV Z T87.heap b39 k39 .int 18 (fun i => Value.int (fn89 i)) := by rw [hfn89]; exact p87_1
  have hD11 : ∀ i, i < 11 → fn89 i = (fun j => own_digit q1 q2 (Int32.ofNat j)) i := own_extI hD10 hfn89 rfl rfl
  obtain ⟨fn90, hfn90⟩ : ∃ z, z = (updI fn86 ((10 : Int32)).toNatClampNeg ((((48 : Int32) + (own_digit q1 q2 (10 : Int32)))).toInt8.toInt32).toInt8.toInt32) := ⟨_, rfl⟩
  have V90 : AV Z T87.heap b41 k41 .byte 18 (fun i => Value.int (fn90 i)) := by rw [hfn90]; exact p87_2
  have hR11 : ∀ i, i < 11 → fn90 i = (fun j => ((((48 : Int32) + own_digit q1 q2 (Int32.ofNat j))).toInt8.toInt32).toInt8.toInt32) i := own_extI hR10 hfn90 rfl rfl
  obtain ⟨_, _, ⟨T91, L91, k91, n91⟩, -, X91, ⟨Lc91, hQ91, l91, y91, z91⟩, st91⟩ := Jvm.LawKit.callS X87 hx (y := (⟨"com/example/poukaz/poukaz/FieldKindNumberPinLaw", "set", "([I[BJJI)V"⟩ : MethodName)) hown (mvT hZ (hw _ (List.mem_of_getElem? (i := 21) rfl))) (mvT hZ (hw _ (List.mem_of_getElem? (i := 22) rfl))) (mvT hZ (hw _ (List.mem_of_getElem? (i := 23) rfl))) (mvT hZ (hw _ (List.mem_of_getElem? (i := 24) rfl))) (by decide) (backOf (W := 0) (rm1 l Z a0 hw [] b39 b41 q1 q2 (11 : Int32) k39 k41 fn89 fn90 T87.heap n0 z88 V89 V90 ne_b39_b41 g_b39 g_b41 ⟨by decide, by decide⟩) hZ (hw _ (List.mem_of_getElem? (i := 24) rfl)) (hw _ (List.mem_of_getElem? (i := 23) rfl)) (by decide) (by decide)) (g := (mkF m 282 #[.val (.long q1), .second, .val (.long q2), .second, .val (.int p3), .val (.int p4), .val (.int wd), .val (.int os), .val (.ref b1), .val (.ref b39), .val (.ref b41), .unset, .unset] [(.int (11 : Int32)), (.long q2), (.long q1), (.ref b41), (.ref b39)])) rfl (by rw [hml]; rfl) (argsL := [(.ref b39), (.ref b41), (.long q1), (.long q2), (.int (11 : Int32))]) (rest := []) (lenOf pd_1 rfl) rfl (by show 2 * 0 + _ ≤ _; exact Nat.le_of_eq rfl) (hb hby at_282) (fun _ _ => ⟨rfl, rfl, (by decide : 3 + 0 ≤ _), (by decide : 54 + 0 ≤ _)⟩)
  dsimp only [Pt.U, Pt.locs, Pt.cells, Pt.slots] at X91 l91 y91 z91 st91 hQ91
  subst y91 z91
  obtain ⟨rfl, N91q, p91_0, p91_1, p91_2⟩ := hQ91
  have N91 : Fr n0 L91 := by rw [l91]; exact Fr.app N87 N91q
  have z92 : n0 ≤ T91.heap.size := Nat.le_trans z88 p91_0.1
  obtain ⟨fn93, hfn93⟩ : ∃ z, z = (updI fn89 ((11 : Int32)).toNatClampNeg (own_digit q1 q2 (11 : Int32))) := ⟨_, rfl⟩
  have V93 : AV Z T91.heap b39 k39 .int 18 (fun i => Value.int (fn93 i)) := by rw [hfn93]; exact p91_1
  have hD12 : ∀ i, i < 12 → fn93 i = (fun j => own_digit q1 q2 (Int32.ofNat j)) i := own_extI hD11 hfn93 rfl rfl
  obtain ⟨fn94, hfn94⟩ : ∃ z, z = (updI fn90 ((11 : Int32)).toNatClampNeg ((((48 : Int32) + (own_digit q1 q2 (11 : Int32)))).toInt8.toInt32).toInt8.toInt32) := ⟨_, rfl⟩
  have V94 : AV Z T91.heap b41 k41 .byte 18 (fun i => Value.int (fn94 i)) := by rw [hfn94]; exact p91_2
  have hR12 : ∀ i, i < 12 → fn94 i = (fun j => ((((48 : Int32) + own_digit q1 q2 (Int32.ofNat j))).toInt8.toInt32).toInt8.toInt32) i := own_extI hR11 hfn94 rfl rfl
  obtain ⟨_, _, ⟨T95, L95, k95, n95⟩, -, X95, ⟨Lc95, hQ95, l95, y95, z95⟩, st95⟩ := Jvm.LawKit.callS X91 hx (y := (⟨"com/example/poukaz/poukaz/FieldKindNumberPinLaw", "set", "([I[BJJI)V"⟩ : MethodName)) hown (mvT hZ (hw _ (List.mem_of_getElem? (i := 21) rfl))) (mvT hZ (hw _ (List.mem_of_getElem? (i := 22) rfl))) (mvT hZ (hw _ (List.mem_of_getElem? (i := 23) rfl))) (mvT hZ (hw _ (List.mem_of_getElem? (i := 24) rfl))) (by decide) (backOf (W := 0) (rm1 l Z a0 hw [] b39 b41 q1 q2 (12 : Int32) k39 k41 fn93 fn94 T91.heap n0 z92 V93 V94 ne_b39_b41 g_b39 g_b41 ⟨by decide, by decide⟩) hZ (hw _ (List.mem_of_getElem? (i := 24) rfl)) (hw _ (List.mem_of_getElem? (i := 23) rfl)) (by decide) (by decide)) (g := (mkF m 293 #[.val (.long q1), .second, .val (.long q2), .second, .val (.int p3), .val (.int p4), .val (.int wd), .val (.int os), .val (.ref b1), .val (.ref b39), .val (.ref b41), .unset, .unset] [(.int (12 : Int32)), (.long q2), (.long q1), (.ref b41), (.ref b39)])) rfl (by rw [hml]; rfl) (argsL := [(.ref b39), (.ref b41), (.long q1), (.long q2), (.int (12 : Int32))]) (rest := []) (lenOf pd_1 rfl) rfl (by show 2 * 0 + _ ≤ _; exact Nat.le_of_eq rfl) (hb hby at_293) (fun _ _ => ⟨rfl, rfl, (by decide : 3 + 0 ≤ _), (by decide : 54 + 0 ≤ _)⟩)
  dsimp only [Pt.U, Pt.locs, Pt.cells, Pt.slots] at X95 l95 y95 z95 st95 hQ95
  subst y95 z95
  obtain ⟨rfl, N95q, p95_0, p95_1, p95_2⟩ := hQ95
  have N95 : Fr n0 L95 := by rw [l95]; exact Fr.app N91 N95q
  have z96 : n0 ≤ T95.heap.size := Nat.le_trans z92 p95_0.1
  obtain ⟨fn97, hfn97⟩ : ∃ z, z = (updI fn93 ((12 : Int32)).toNatClampNeg (own_digit q1 q2 (12 : Int32))) := ⟨_, rfl⟩
  have V97 : AV Z T95.heap b39 k39 .int 18 (fun i => Value.int (fn97 i)) := by rw [hfn97]; exact p95_1
  have hD13 : ∀ i, i < 13 → fn97 i = (fun j => own_digit q1 q2 (Int32.ofNat j)) i := own_extI hD12 hfn97 rfl rfl
  obtain ⟨fn98, hfn98⟩ : ∃ z, z = (updI fn94 ((12 : Int32)).toNatClampNeg ((((48 : Int32) + (own_digit q1 q2 (12 : Int32)))).toInt8.toInt32).toInt8.toInt32) := ⟨_, rfl⟩
  have V98 : AV Z T95.heap b41 k41 .byte 18 (fun i => Value.int (fn98 i)) := by rw [hfn98]; exact p95_2
  have hR13 : ∀ i, i < 13 → fn98 i = (fun j => ((((48 : Int32) + own_digit q1 q2 (Int32.ofNat j))).toInt8.toInt32).toInt8.toInt32) i := own_extI hR12 hfn98 rfl rfl
  obtain ⟨_, _, ⟨T99, L99, k99, n99⟩, -, X99, ⟨Lc99, hQ99, l99, y99, z99⟩, st99⟩ := Jvm.LawKit.callS X95 hx (y := (⟨"com/example/poukaz/poukaz/FieldKindNumberPinLaw", "set", "([I[BJJI)V"⟩ : MethodName)) hown (mvT hZ (hw _ (List.mem_of_getElem? (i := 21) rfl))) (mvT hZ (hw _ (List.mem_of_getElem? (i := 22) rfl))) (mvT hZ (hw _ (List.mem_of_getElem? (i := 23) rfl))) (mvT hZ (hw _ (List.mem_of_getElem? (i := 24) rfl))) (by decide) (backOf (W := 0) (rm1 l Z a0 hw [] b39 b41 q1 q2 (13 : Int32) k39 k41 fn97 fn98 T95.heap n0 z96 V97 V98 ne_b39_b41 g_b39 g_b41 ⟨by decide, by decide⟩) hZ (hw _ (List.mem_of_getElem? (i := 24) rfl)) (hw _ (List.mem_of_getElem? (i := 23) rfl)) (by decide) (by decide)) (g := (mkF m 304 #[.val (.long q1), .second, .val (.long q2), .second, .val (.int p3), .val (.int p4), .val (.int wd), .val (.int os), .val (.ref b1), .val (.ref b39), .val (.ref b41), .unset, .unset] [(.int (13 : Int32)), (.long q2), (.long q1), (.ref b41), (.ref b39)])) rfl (by rw [hml]; rfl) (argsL := [(.ref b39), (.ref b41), (.long q1), (.long q2), (.int (13 : Int32))]) (rest := []) (lenOf pd_1 rfl) rfl (by show 2 * 0 + _ ≤ _; exact Nat.le_of_eq rfl) (hb hby at_304) (fun _ _ => ⟨rfl, rfl, (by decide : 3 + 0 ≤ _), (by decide : 54 + 0 ≤ _)⟩)
  dsimp only [Pt.U, Pt.locs, Pt.cells, Pt.slots] at X99 l99 y99 z99 st99 hQ99
  subst y99 z99
  obtain ⟨rfl, N99q, p99_0, p99_1, p99_2⟩ := hQ99
  have N99 : Fr n0 L99 := by rw [l99]; exact Fr.app N95 N99q
  have z100 : n0 ≤ T99.heap.size := Nat.le_trans z96 p99_0.1
  obtain ⟨fn101, hfn101⟩ : ∃ z, z = (updI fn97 ((13 : Int32)).toNatClampNeg (own_digit q1 q2 (13 : Int32))) := ⟨_, rfl⟩
  have V101 : AV Z T99.heap b39 k39 .int 18 (fun i => Value.int (fn101 i)) := by rw [hfn101]; exact p99_1
  have hD14 : ∀ i, i < 14 → fn101 i = (fun j => own_digit q1 q2 (Int32.ofNat j)) i := own_extI hD13 hfn101 rfl rfl
  obtain ⟨fn102, hfn102⟩ : ∃ z, z = (updI fn98 ((13 : Int32)).toNatClampNeg ((((48 : Int32) + (own_digit q1 q2 (13 : Int32)))).toInt8.toInt32).toInt8.toInt32) := ⟨_, rfl⟩
  have V102 : AV Z T99.heap b41 k41 .byte 18 (fun i => Value.int (fn102 i)) := by rw [hfn102]; exact p99_2
  have hR14 : ∀ i, i < 14 → fn102 i = (fun j => ((((48 : Int32) + own_digit q1 q2 (Int32.ofNat j))).toInt8.toInt32).toInt8.toInt32) i := own_extI hR13 hfn102 rfl rfl
  obtain ⟨_, _, ⟨T103, L103, k103, n103⟩, -, X103, ⟨Lc103, hQ103, l103, y103, z103⟩, st103⟩ := Jvm.LawKit.callS X99 hx (y := (⟨"com/example/poukaz/poukaz/FieldKindNumberPinLaw", "set", "([I[BJJI)V"⟩ : MethodName)) hown (mvT hZ (hw _ (List.mem_of_getElem? (i := 21) rfl))) (mvT hZ (hw _ (List.mem_of_getElem? (i := 22) rfl))) (mvT hZ (hw _ (List.mem_of_getElem? (i := 23) rfl))) (mvT hZ (hw _ (List.mem_of_getElem? (i := 24) rfl))) (by decide) (backOf (W := 0) (rm1 l Z a0 hw [] b39 b41 q1 q2 (14 : Int32) k39 k41 fn101 fn102 T99.heap n0 z100 V101 V102 ne_b39_b41 g_b39 g_b41 ⟨by decide, by decide⟩) hZ (hw _ (List.mem_of_getElem? (i := 24) rfl)) (hw _ (List.mem_of_getElem? (i := 23) rfl)) (by decide) (by decide)) (g := (mkF m 315 #[.val (.long q1), .second, .val (.long q2), .second, .val (.int p3), .val (.int p4), .val (.int wd), .val (.int os), .val (.ref b1), .val (.ref b39), .val (.ref b41), .unset, .unset] [(.int (14 : Int32)), (.long q2), (.long q1), (.ref b41), (.ref b39)])) rfl (by rw [hml]; rfl) (argsL := [(.ref b39), (.ref b41), (.long q1), (.long q2), (.int (14 : Int32))]) (rest := []) (lenOf pd_1 rfl) rfl (by show 2 * 0 + _ ≤ _; exact Nat.le_of_eq rfl) (hb hby at_315) (fun _ _ => ⟨rfl, rfl, (by decide : 3 + 0 ≤ _), (by decide : 54 + 0 ≤ _)⟩)
  dsimp only [Pt.U, Pt.locs, Pt.cells, Pt.slots] at X103 l103 y103 z103 st103 hQ103
  subst y103 z103
  obtain ⟨rfl, N103q, p103_0, p103_1, p103_2⟩ := hQ103
  have N103 : Fr n0 L103 := by rw [l103]; exact Fr.app N99 N103q
  have z104 : n0 ≤ T103.heap.size := Nat.le_trans z100 p103_0.1
  obtain ⟨fn105, hfn105⟩ : ∃ z, z = (updI fn101 ((14 : Int32)).toNatClampNeg (own_digit q1 q2 (14 : Int32))) := ⟨_, rfl⟩
  have V105 : AV Z T103.heap b39 k39 .int 18 (fun i => Value.int (fn105 i)) := by rw [hfn105]; exact p103_1
  have hD15 : ∀ i, i < 15 → fn105 i = (fun j => own_digit q1 q2 (Int32.ofNat j)) i := own_extI hD14 hfn105 rfl rfl
  obtain ⟨fn106, hfn106⟩ : ∃ z, z = (updI fn102 ((14 : Int32)).toNatClampNeg ((((48 : Int32) + (own_digit q1 q2 (14 : Int32)))).toInt8.toInt32).toInt8.toInt32) := ⟨_, rfl⟩
  have V106 : AV Z T103.heap b41 k41 .byte 18 (fun i => Value.int (fn106 i)) := by rw [hfn106]; exact p103_2
  have hR15 : ∀ i, i < 15 → fn106 i = (fun j => ((((48 : Int32) + own_digit q1 q2 (Int32.ofNat j))).toInt8.toInt32).toInt8.toInt32) i := own_extI hR14 hfn106 rfl rfl
  obtain ⟨_, _, ⟨T107, L107, k107, n107⟩, -, X107, ⟨Lc107, hQ107, l107, y107, z107⟩, st107⟩ := Jvm.LawKit.callS X103 hx (y := (⟨"com/example/poukaz/poukaz/FieldKindNumberPinLaw", "set", "([I[BJJI)V"⟩ : MethodName)) hown (mvT hZ (hw _ (List.mem_of_getElem? (i := 21) rfl))) (mvT hZ (hw _ (List.mem_of_getElem? (i := 22) rfl))) (mvT hZ (hw _ (List.mem_of_getElem? (i := 23) rfl))) (mvT hZ (hw _ (List.mem_of_getElem? (i := 24) rfl))) (by decide) (backOf (W := 0) (rm1 l Z a0 hw [] b39 b41 q1 q2 (15 : Int32) k39 k41 fn105 fn106 T103.heap n0 z104 V105 V106 ne_b39_b41 g_b39 g_b41 ⟨by decide, by decide⟩) hZ (hw _ (List.mem_of_getElem? (i := 24) rfl)) (hw _ (List.mem_of_getElem? (i := 23) rfl)) (by decide) (by decide)) (g := (mkF m 326 #[.val (.long q1), .second, .val (.long q2), .second, .val (.int p3), .val (.int p4), .val (.int wd), .val (.int os), .val (.ref b1), .val (.ref b39), .val (.ref b41), .unset, .unset] [(.int (15 : Int32)), (.long q2), (.long q1), (.ref b41), (.ref b39)])) rfl (by rw [hml]; rfl) (argsL := [(.ref b39), (.ref b41), (.long q1), (.long q2), (.int (15 : Int32))]) (rest := []) (lenOf pd_1 rfl) rfl (by show 2 * 0 + _ ≤ _; exact Nat.le_of_eq rfl) (hb hby at_326) (fun _ _ => ⟨rfl, rfl, (by decide : 3 + 0 ≤ _), (by decide : 54 + 0 ≤ _)⟩)
  dsimp only [Pt.U, Pt.locs, Pt.cells, Pt.slots] at X107 l107 y107 z107 st107 hQ107
  subst y107 z107
  obtain ⟨rfl, N107q, p107_0, p107_1, p107_2⟩ := hQ107
  have N107 : Fr n0 L107 := by rw [l107]; exact Fr.app N103 N107q
  have z108 : n0 ≤ T107.heap.size := Nat.le_trans z104 p107_0.1
  obtain ⟨fn109, hfn109⟩ : ∃ z, z = (updI fn105 ((15 : Int32)).toNatClampNeg (own_digit q1 q2 (15 : Int32))) := ⟨_, rfl⟩
  have V109 : AV Z T107.heap b39 k39 .int 18 (fun i => Value.int (fn109 i)) := by rw [hfn109]; exact p107_1
  have hD16 : ∀ i, i < 16 → fn109 i = (fun j => own_digit q1 q2 (Int32.ofNat j)) i := own_extI hD15 hfn109 rfl rfl
  obtain ⟨fn110, hfn110⟩ : ∃ z, z = (updI fn106 ((15 : Int32)).toNatClampNeg ((((48 : Int32) + (own_digit q1 q2 (15 : Int32)))).toInt8.toInt32).toInt8.toInt32) := ⟨_, rfl⟩
  have V110 : AV Z T107.heap b41 k41 .byte 18 (fun i => Value.int (fn110 i)) := by rw [hfn110]; exact p107_2
  have hR16 : ∀ i, i < 16 → fn110 i = (fun j => ((((48 : Int32) + own_digit q1 q2 (Int32.ofNat j))).toInt8.toInt32).toInt8.toInt32) i := own_extI hR15 hfn110 rfl rfl
  obtain ⟨_, _, ⟨T111, L111, k111, n111⟩, -, X111, ⟨Lc111, hQ111, l111, y111, z111⟩, st111⟩ := Jvm.LawKit.callS X107 hx (y := (⟨"com/example/poukaz/poukaz/FieldKindNumberPinLaw", "set", "([I[BJJI)V"⟩ : MethodName)) hown (mvT hZ (hw _ (List.mem_of_getElem? (i := 21) rfl))) (mvT hZ (hw _ (List.mem_of_getElem? (i := 22) rfl))) (mvT hZ (hw _ (List.mem_of_getElem? (i := 23) rfl))) (mvT hZ (hw _ (List.mem_of_getElem? (i := 24) rfl))) (by decide) (backOf (W := 0) (rm1 l Z a0 hw [] b39 b41 q1 q2 (16 : Int32) k39 k41 fn109 fn110 T107.heap n0 z108 V109 V110 ne_b39_b41 g_b39 g_b41 ⟨by decide, by decide⟩) hZ (hw _ (List.mem_of_getElem? (i := 24) rfl)) (hw _ (List.mem_of_getElem? (i := 23) rfl)) (by decide) (by decide)) (g := (mkF m 337 #[.val (.long q1), .second, .val (.long q2), .second, .val (.int p3), .val (.int p4), .val (.int wd), .val (.int os), .val (.ref b1), .val (.ref b39), .val (.ref b41), .unset, .unset] [(.int (16 : Int32)), (.long q2), (.long q1), (.ref b41), (.ref b39)])) rfl (by rw [hml]; rfl) (argsL := [(.ref b39), (.ref b41), (.long q1), (.long q2), (.int (16 : Int32))]) (rest := []) (lenOf pd_1 rfl) rfl (by show 2 * 0 + _ ≤ _; exact Nat.le_of_eq rfl) (hb hby at_337) (fun _ _ => ⟨rfl, rfl, (by decide : 3 + 0 ≤ _), (by decide : 54 + 0 ≤ _)⟩)
  dsimp only [Pt.U, Pt.locs, Pt.cells, Pt.slots] at X111 l111 y111 z111 st111 hQ111
  subst y111 z111
  obtain ⟨rfl, N111q, p111_0, p111_1, p111_2⟩ := hQ111
  have N111 : Fr n0 L111 := by rw [l111]; exact Fr.app N107 N111q
  have z112 : n0 ≤ T111.heap.size := Nat.le_trans z108 p111_0.1
  obtain ⟨fn113, hfn113⟩ : ∃ z, z = (updI fn109 ((16 : Int32)).toNatClampNeg (own_digit q1 q2 (16 : Int32))) := ⟨_, rfl⟩
  have V113 : AV Z T111.heap b39 k39 .int 18 (fun i => Value.int (fn113 i)) := by rw [hfn113]; exact p111_1
  have hD17 : ∀ i, i < 17 → fn113 i = (fun j => own_digit q1 q2 (Int32.ofNat j)) i := own_extI hD16 hfn113 rfl rfl
  obtain ⟨fn114, hfn114⟩ : ∃ z, z = (updI fn110 ((16 : Int32)).toNatClampNeg ((((48 : Int32) + (own_digit q1 q2 (16 : Int32)))).toInt8.toInt32).toInt8.toInt32) := ⟨_, rfl⟩
  have V114 : AV Z T111.heap b41 k41 .byte 18 (fun i => Value.int (fn114 i)) := by rw [hfn114]; exact p111_2
  have hR17 : ∀ i, i < 17 → fn114 i = (fun j => ((((48 : Int32) + own_digit q1 q2 (Int32.ofNat j))).toInt8.toInt32).toInt8.toInt32) i := own_extI hR16 hfn114 rfl rfl
  obtain ⟨_, _, ⟨T115, L115, k115, n115⟩, -, X115, ⟨Lc115, hQ115, l115, y115, z115⟩, st115⟩ := Jvm.LawKit.callS X111 hx (y := (⟨"com/example/poukaz/poukaz/FieldKindNumberPinLaw", "set", "([I[BJJI)V"⟩ : MethodName)) hown (mvT hZ (hw _ (List.mem_of_getElem? (i := 21) rfl))) (mvT hZ (hw _ (List.mem_of_getElem? (i := 22) rfl))) (mvT hZ (hw _ (List.mem_of_getElem? (i := 23) rfl))) (mvT hZ (hw _ (List.mem_of_getElem? (i := 24) rfl))) (by decide) (backOf (W := 0) (rm1 l Z a0 hw [] b39 b41 q1 q2 (17 : Int32) k39 k41 fn113 fn114 T111.heap n0 z112 V113 V114 ne_b39_b41 g_b39 g_b41 ⟨by decide, by decide⟩) hZ (hw _ (List.mem_of_getElem? (i := 24) rfl)) (hw _ (List.mem_of_getElem? (i := 23) rfl)) (by decide) (by decide)) (g := (mkF m 348 #[.val (.long q1), .second, .val (.long q2), .second, .val (.int p3), .val (.int p4), .val (.int wd), .val (.int os), .val (.ref b1), .val (.ref b39), .val (.ref b41), .unset, .unset] [(.int (17 : Int32)), (.long q2), (.long q1), (.ref b41), (.ref b39)])) rfl (by rw [hml]; rfl) (argsL := [(.ref b39), (.ref b41), (.long q1), (.long q2), (.int (17 : Int32))]) (rest := []) (lenOf pd_1 rfl) rfl (by show 2 * 0 + _ ≤ _; exact Nat.le_of_eq rfl) (hb hby at_348) (fun _ _ => ⟨rfl, rfl, (by decide : 3 + 0 ≤ _), (by decide : 54 + 0 ≤ _)⟩)
  dsimp only [Pt.U, Pt.locs, Pt.cells, Pt.slots] at X115 l115 y115 z115 st115 hQ115
  subst y115 z115
  obtain ⟨rfl, N115q, p115_0, p115_1, p115_2⟩ := hQ115
  have N115 : Fr n0 L115 := by rw [l115]; exact Fr.app N111 N115q
  have z116 : n0 ≤ T115.heap.size := Nat.le_trans z112 p115_0.1
  obtain ⟨fn117, hfn117⟩ : ∃ z, z = (updI fn113 ((17 : Int32)).toNatClampNeg (own_digit q1 q2 (17 : Int32))) := ⟨_, rfl⟩
  have V117 : AV Z T115.heap b39 k39 .int 18 (fun i => Value.int (fn117 i)) := by rw [hfn117]; exact p115_1
  have hD18 : ∀ i, i < 18 → fn117 i = (fun j => own_digit q1 q2 (Int32.ofNat j)) i := own_extI hD17 hfn117 rfl rfl
  obtain ⟨fn118, hfn118⟩ : ∃ z, z = (updI fn114 ((17 : Int32)).toNatClampNeg ((((48 : Int32) + (own_digit q1 q2 (17 : Int32)))).toInt8.toInt32).toInt8.toInt32) := ⟨_, rfl⟩
  have V118 : AV Z T115.heap b41 k41 .byte 18 (fun i => Value.int (fn118 i)) := by rw [hfn118]; exact p115_2
  have hR18 : ∀ i, i < 18 → fn118 i = (fun j => ((((48 : Int32) + own_digit q1 q2 (Int32.ofNat j))).toInt8.toInt32).toInt8.toInt32) i := own_extI hR17 hfn118 rfl rfl
  refine GoalS.lift (B := (T115.setTop (mkF m 351 #[.val (.long q1), .second, .val (.long q2), .second, .val (.int p3), .val (.int p4), .val (.int wd), .val (.int os), .val (.ref b1), .val (.ref b39), .val (.ref b41), .unset, .unset] []))) (fun t k => ?_) ?_
  · show Steps p.tables e below (TC.setTop (mkF m 252 #[.val (.long q1), .second, .val (.long q2), .second, .val (.int p3), .val (.int p4), .val (.int wd), .val (.int os), .val (.ref b1), .val (.ref b39), .val (.ref b41), .unset, .unset] [])) _
    refine XS.aload XC.here hx rfl (hb hby at_252) rfl rfl ?_
    show Steps p.tables e below (TC.setTop (mkF m 254 #[.val (.long q1), .second, .val (.long q2), .second, .val (.int p3), .val (.int p4), .val (.int wd), .val (.int os), .val (.ref b1), .val (.ref b39), .val (.ref b41), .unset, .unset] [(.ref b39)])) _
    refine XS.aload XC.here hx rfl (hb hby at_254) rfl rfl ?_
    show Steps p.tables e below (TC.setTop (mkF m 256 #[.val (.long q1), .second, .val (.long q2), .second, .val (.int p3), .val (.int p4), .val (.int wd), .val (.int os), .val (.ref b1), .val (.ref b39), .val (.ref b41), .unset, .unset] [(.ref b41), (.ref b39)])) _
    refine XS.lloadN XC.here hx rfl (hb hby at_256) rfl ?_
    show Steps p.tables e below (TC.setTop (mkF m 257 #[.val (.long q1), .second, .val (.long q2), .second, .val (.int p3), .val (.int p4), .val (.int wd), .val (.int os), .val (.ref b1), .val (.ref b39), .val (.ref b41), .unset, .unset] [(.long q1), (.ref b41), (.ref b39)])) _
    refine XS.lloadN XC.here hx rfl (hb hby at_257) rfl ?_
    show Steps p.tables e below (TC.setTop (mkF m 258 #[.val (.long q1), .second, .val (.long q2), .second, .val (.int p3), .val (.int p4), .val (.int wd), .val (.int os), .val (.ref b1), .val (.ref b39), .val (.ref b41), .unset, .unset] [(.long q2), (.long q1), (.ref b41), (.ref b39)])) _
    refine XS.bipush XC.here hx rfl (hb hby at_258) ?_
    show Steps p.tables e below (TC.setTop (mkF m 260 #[.val (.long q1), .second, .val (.long q2), .second, .val (.int p3), .val (.int p4), .val (.int wd), .val (.int os), .val (.ref b1), .val (.ref b39), .val (.ref b41), .unset, .unset] [(.int (9 : Int32)), (.long q2), (.long q1), (.ref b41), (.ref b39)])) _
    refine st83 _ ?_
    show Steps p.tables e below (T83.setTop (mkF m 263 #[.val (.long q1), .second, .val (.long q2), .second, .val (.int p3), .val (.int p4), .val (.int wd), .val (.int os), .val (.ref b1), .val (.ref b39), .val (.ref b41), .unset, .unset] [])) _
    refine XS.aload X83.here hx rfl (hb hby at_263) rfl rfl ?_
    show Steps p.tables e below (T83.setTop (mkF m 265 #[.val (.long q1), .second, .val (.long q2), .second, .val (.int p3), .val (.int p4), .val (.int wd), .val (.int os), .val (.ref b1), .val (.ref b39), .val (.ref b41), .unset, .unset] [(.ref b39)])) _
    refine XS.aload X83.here hx rfl (hb hby at_265) rfl rfl ?_
    show Steps p.tables e below (T83.setTop (mkF m 267 #[.val (.long q1), .second, .val (.long q2), .second, .val (.int p3), .val (.int p4), .val (.int wd), .val (.int os), .val (.ref b1), .val (.ref b39), .val (.ref b41), .unset, .unset] [(.ref b41), (.ref b39)])) _
    refine XS.lloadN X83.here hx rfl (hb hby at_267) rfl ?_
    show Steps p.tables e below (T83.setTop (mkF m 268 #[.val (.long q1), .second, .val (.long q2), .second, .val (.int p3), .val (.int p4), .val (.int wd), .val (.int os), .val (.ref b1), .val (.ref b39), .val (.ref b41), .unset, .unset] [(.long q1), (.ref b41), (.ref b39)])) _
    refine XS.lloadN X83.here hx rfl (hb hby at_268) rfl ?_
    show Steps p.tables e below (T83.setTop (mkF m 269 #[.val (.long q1), .second, .val (.long q2), .second, .val (.int p3), .val (.int p4), .val (.int wd), .val (.int os), .val (.ref b1), .val (.ref b39), .val (.ref b41), .unset, .unset] [(.long q2), (.long q1), (.ref b41), (.ref b39)])) _
    refine XS.bipush X83.here hx rfl (hb hby at_269) ?_
    show Steps p.tables e below (T83.setTop (mkF m 271 #[.val (.long q1), .second, .val (.long q2), .second, .val (.int p3), .val (.int p4), .val (.int wd), .val (.int os), .val (.ref b1), .val (.ref b39), .val (.ref b41), .unset, .unset] [(.int (10 : Int32)), (.long q2), (.long q1), (.ref b41), (.ref b39)])) _
    refine st87 _ ?_
    show Steps p.tables e below (T87.setTop (mkF m 274 #[.val (.long q1), .second, .val (.long q2), .second, .val (.int p3), .val (.int p4), .val (.int wd), .val (.int os), .val (.ref b1), .val (.ref b39), .val (.ref b41), .unset, .unset] [])) _
    refine XS.aload X87.here hx rfl (hb hby at_274) rfl rfl ?_
    show Steps p.tables e below (T87.setTop (mkF m 276 #[.val (.long q1), .second, .val (.long q2), .second, .val (.int p3), .val (.int p4), .val (.int wd), .val (.int os), .val (.ref b1), .val (.ref b39), .val (.ref b41), .unset, .unset] [(.ref b39)])) _
    refine XS.aload X87.here hx rfl (hb hby at_276) rfl rfl ?_
    show Steps p.tables e below (T87.setTop (mkF m 278 #[.val (.long q1), .second, .val (.long q2), .second, .val (.int p3), .val (.int p4), .val (.int wd), .val (.int os), .val (.ref b1), .val (.ref b39), .val (.ref b41), .unset, .unset] [(.ref b41), (.ref b39)])) _
    refine XS.lloadN X87.here hx rfl (hb hby at_278) rfl ?_
    show Steps p.tables e below (T87.setTop (mkF m 279 #[.val (.long q1), .second, .val (.long q2), .second, .val (.int p3), .val (.int p4), .val (.int wd), .val (.int os), .val (.ref b1), .val (.ref b39), .val (.ref b41), .unset, .unset] [(.long q1), (.ref b41), (.ref b39)])) _
    refine XS.lloadN X87.here hx rfl (hb hby at_279) rfl ?_
    show Steps p.tables e below (T87.setTop (mkF m 280 #[.val (.long q1), .second, .val (.long q2), .second, .val (.int p3), .val (.int p4), .val (.int wd), .val (.int os), .val (.ref b1), .val (.ref b39), .val (.ref b41), .unset, .unset] [(.long q2), (.long q1), (.ref b41), (.ref b39)])) _
    refine XS.bipush X87.here hx rfl (hb hby at_280) ?_
    show Steps p.tables e below (T87.setTop (mkF m 282 #[.val (.long q1), .second, .val (.long q2), .second, .val (.int p3), .val (.int p4), .val (.int wd), .val (.int os), .val (.ref b1), .val (.ref b39), .val (.ref b41), .unset, .unset] [(.int (11 : Int32)), (.long q2), (.long q1), (.ref b41), (.ref b39)])) _
    refine st91 _ ?_
    show Steps p.tables e below (T91.setTop (mkF m 285 #[.val (.long q1), .second, .val (.long q2), .second, .val (.int p3), .val (.int p4), .val (.int wd), .val (.int os), .val (.ref b1), .val (.ref b39), .val (.ref b41), .unset, .unset] [])) _
    refine XS.aload X91.here hx rfl (hb hby at_285) rfl rfl ?_
    show Steps p.tables e below (T91.setTop (mkF m 287 #[.val (.long q1), .second, .val (.long q2), .second, .val (.int p3), .val (.int p4), .val (.int wd), .val (.int os), .val (.ref b1), .val (.ref b39), .val (.ref b41), .unset, .unset] [(.ref b39)])) _
    refine XS.aload X91.here hx rfl (hb hby at_287) rfl rfl ?_
    show Steps p.tables e below (T91.setTop (mkF m 289 #[.val (.long q1), .second, .val (.long q2), .second, .val (.int p3), .val (.int p4), .val (.int wd), .val (.int os), .val (.ref b1), .val (.ref b39), .val (.ref b41), .unset, .unset] [(.ref b41), (.ref b39)])) _
    refine XS.lloadN X91.here hx rfl (hb hby at_289) rfl ?_
    show Steps p.tables e below (T91.setTop (mkF m 290 #[.val (.long q1), .second, .val (.long q2), .second, .val (.int p3), .val (.int p4), .val (.int wd), .val (.int os), .val (.ref b1), .val (.ref b39), .val (.ref b41), .unset, .unset] [(.long q1), (.ref b41), (.ref b39)])) _
    refine XS.lloadN X91.here hx rfl (hb hby at_290) rfl ?_
    show Steps p.tables e below (T91.setTop (mkF m 291 #[.val (.long q1), .second, .val (.long q2), .second, .val (.int p3), .val (.int p4), .val (.int wd), .val (.int os), .val (.ref b1), .val (.ref b39), .val (.ref b41), .unset, .unset] [(.long q2), (.long q1), (.ref b41), (.ref b39)])) _
    refine XS.bipush X91.here hx rfl (hb hby at_291) ?_
    show Steps p.tables e below (T91.setTop (mkF m 293 #[.val (.long q1), .second, .val (.long q2), .second, .val (.int p3), .val (.int p4), .val (.int wd), .val (.int os), .val (.ref b1), .val (.ref b39), .val (.ref b41), .unset, .unset] [(.int (12 : Int32)), (.long q2), (.long q1), (.ref b41), (.ref b39)])) _
    refine st95 _ ?_
    show Steps p.tables e below (T95.setTop (mkF m 296 #[.val (.long q1), .second, .val (.long q2), .second, .val (.int p3), .val (.int p4), .val (.int wd), .val (.int os), .val (.ref b1), .val (.ref b39), .val (.ref b41), .unset, .unset] [])) _
    refine XS.aload X95.here hx rfl (hb hby at_296) rfl rfl ?_
    show Steps p.tables e below (T95.setTop (mkF m 298 #[.val (.long q1), .second, .val (.long q2), .second, .val (.int p3), .val (.int p4), .val (.int wd), .val (.int os), .val (.ref b1), .val (.ref b39), .val (.ref b41), .unset, .unset] [(.ref b39)])) _
    refine XS.aload X95.here hx rfl (hb hby at_298) rfl rfl ?_
    show Steps p.tables e below (T95.setTop (mkF m 300 #[.val (.long q1), .second, .val (.long q2), .second, .val (.int p3), .val (.int p4), .val (.int wd), .val (.int os), .val (.ref b1), .val (.ref b39), .val (.ref b41), .unset, .unset] [(.ref b41), (.ref b39)])) _
    refine XS.lloadN X95.here hx rfl (hb hby at_300) rfl ?_
    show Steps p.tables e below (T95.setTop (mkF m 301 #[.val (.long q1), .second, .val (.long q2), .second, .val (.int p3), .val (.int p4), .val (.int wd), .val (.int os), .val (.ref b1), .val (.ref b39), .val (.ref b41), .unset, .unset] [(.long q1), (.ref b41), (.ref b39)])) _
    refine XS.lloadN X95.here hx rfl (hb hby at_301) rfl ?_
    show Steps p.tables e below (T95.setTop (mkF m 302 #[.val (.long q1), .second, .val (.long q2), .second, .val (.int p3), .val (.int p4), .val (.int wd), .val (.int os), .val (.ref b1), .val (.ref b39), .val (.ref b41), .unset, .unset] [(.long q2), (.long q1), (.ref b41), (.ref b39)])) _
    refine XS.bipush X95.here hx rfl (hb hby at_302) ?_
    show Steps p.tables e below (T95.setTop (mkF m 304 #[.val (.long q1), .second, .val (.long q2), .second, .val (.int p3), .val (.int p4), .val (.int wd), .val (.int os), .val (.ref b1), .val (.ref b39), .val (.ref b41), .unset, .unset] [(.int (13 : Int32)), (.long q2), (.long q1), (.ref b41), (.ref b39)])) _
    refine st99 _ ?_
    show Steps p.tables e below (T99.setTop (mkF m 307 #[.val (.long q1), .second, .val (.long q2), .second, .val (.int p3), .val (.int p4), .val (.int wd), .val (.int os), .val (.ref b1), .val (.ref b39), .val (.ref b41), .unset, .unset] [])) _
    refine XS.aload X99.here hx rfl (hb hby at_307) rfl rfl ?_
    show Steps p.tables e below (T99.setTop (mkF m 309 #[.val (.long q1), .second, .val (.long q2), .second, .val (.int p3), .val (.int p4), .val (.int wd), .val (.int os), .val (.ref b1), .val (.ref b39), .val (.ref b41), .unset, .unset] [(.ref b39)])) _
    refine XS.aload X99.here hx rfl (hb hby at_309) rfl rfl ?_
    show Steps p.tables e below (T99.setTop (mkF m 311 #[.val (.long q1), .second, .val (.long q2), .second, .val (.int p3), .val (.int p4), .val (.int wd), .val (.int os), .val (.ref b1), .val (.ref b39), .val (.ref b41), .unset, .unset] [(.ref b41), (.ref b39)])) _
    refine XS.lloadN X99.here hx rfl (hb hby at_311) rfl ?_
    show Steps p.tables e below (T99.setTop (mkF m 312 #[.val (.long q1), .second, .val (.long q2), .second, .val (.int p3), .val (.int p4), .val (.int wd), .val (.int os), .val (.ref b1), .val (.ref b39), .val (.ref b41), .unset, .unset] [(.long q1), (.ref b41), (.ref b39)])) _
    refine XS.lloadN X99.here hx rfl (hb hby at_312) rfl ?_
    show Steps p.tables e below (T99.setTop (mkF m 313 #[.val (.long q1), .second, .val (.long q2), .second, .val (.int p3), .val (.int p4), .val (.int wd), .val (.int os), .val (.ref b1), .val (.ref b39), .val (.ref b41), .unset, .unset] [(.long q2), (.long q1), (.ref b41), (.ref b39)])) _
    refine XS.bipush X99.here hx rfl (hb hby at_313) ?_
    show Steps p.tables e below (T99.setTop (mkF m 315 #[.val (.long q1), .second, .val (.long q2), .second, .val (.int p3), .val (.int p4), .val (.int wd), .val (.int os), .val (.ref b1), .val (.ref b39), .val (.ref b41), .unset, .unset] [(.int (14 : Int32)), (.long q2), (.long q1), (.ref b41), (.ref b39)])) _
    refine st103 _ ?_
    show Steps p.tables e below (T103.setTop (mkF m 318 #[.val (.long q1), .second, .val (.long q2), .second, .val (.int p3), .val (.int p4), .val (.int wd), .val (.int os), .val (.ref b1), .val (.ref b39), .val (.ref b41), .unset, .unset] [])) _
    refine XS.aload X103.here hx rfl (hb hby at_318) rfl rfl ?_
    show Steps p.tables e below (T103.setTop (mkF m 320 #[.val (.long q1), .second, .val (.long q2), .second, .val (.int p3), .val (.int p4), .val (.int wd), .val (.int os), .val (.ref b1), .val (.ref b39), .val (.ref b41), .unset, .unset] [(.ref b39)])) _
    refine XS.aload X103.here hx rfl (hb hby at_320) rfl rfl ?_
    show Steps p.tables e below (T103.setTop (mkF m 322 #[.val (.long q1), .second, .val (.long q2), .second, .val (.int p3), .val (.int p4), .val (.int wd), .val (.int os), .val (.ref b1), .val (.ref b39), .val (.ref b41), .unset, .unset] [(.ref b41), (.ref b39)])) _
    refine XS.lloadN X103.here hx rfl (hb hby at_322) rfl ?_
    show Steps p.tables e below (T103.setTop (mkF m 323 #[.val (.long q1), .second, .val (.long q2), .second, .val (.int p3), .val (.int p4), .val (.int wd), .val (.int os), .val (.ref b1), .val (.ref b39), .val (.ref b41), .unset, .unset] [(.long q1), (.ref b41), (.ref b39)])) _
    refine XS.lloadN X103.here hx rfl (hb hby at_323) rfl ?_
    show Steps p.tables e below (T103.setTop (mkF m 324 #[.val (.long q1), .second, .val (.long q2), .second, .val (.int p3), .val (.int p4), .val (.int wd), .val (.int os), .val (.ref b1), .val (.ref b39), .val (.ref b41), .unset, .unset] [(.long q2), (.long q1), (.ref b41), (.ref b39)])) _
    refine XS.bipush X103.here hx rfl (hb hby at_324) ?_
    show Steps p.tables e below (T103.setTop (mkF m 326 #[.val (.long q1), .second, .val (.long q2), .second, .val (.int p3), .val (.int p4), .val (.int wd), .val (.int os), .val (.ref b1), .val (.ref b39), .val (.ref b41), .unset, .unset] [(.int (15 : Int32)), (.long q2), (.long q1), (.ref b41), (.ref b39)])) _
    refine st107 _ ?_
    show Steps p.tables e below (T107.setTop (mkF m 329 #[.val (.long q1), .second, .val (.long q2), .second, .val (.int p3), .val (.int p4), .val (.int wd), .val (.int os), .val (.ref b1), .val (.ref b39), .val (.ref b41), .unset, .unset] [])) _
    refine XS.aload X107.here hx rfl (hb hby at_329) rfl rfl ?_
    show Steps p.tables e below (T107.setTop (mkF m 331 #[.val (.long q1), .second, .val (.long q2), .second, .val (.int p3), .val (.int p4), .val (.int wd), .val (.int os), .val (.ref b1), .val (.ref b39), .val (.ref b41), .unset, .unset] [(.ref b39)])) _
    refine XS.aload X107.here hx rfl (hb hby at_331) rfl rfl ?_
    show Steps p.tables e below (T107.setTop (mkF m 333 #[.val (.long q1), .second, .val (.long q2), .second, .val (.int p3), .val (.int p4), .val (.int wd), .val (.int os), .val (.ref b1), .val (.ref b39), .val (.ref b41), .unset, .unset] [(.ref b41), (.ref b39)])) _
    refine XS.lloadN X107.here hx rfl (hb hby at_333) rfl ?_
    show Steps p.tables e below (T107.setTop (mkF m 334 #[.val (.long q1), .second, .val (.long q2), .second, .val (.int p3), .val (.int p4), .val (.int wd), .val (.int os), .val (.ref b1), .val (.ref b39), .val (.ref b41), .unset, .unset] [(.long q1), (.ref b41), (.ref b39)])) _
    refine XS.lloadN X107.here hx rfl (hb hby at_334) rfl ?_
    show Steps p.tables e below (T107.setTop (mkF m 335 #[.val (.long q1), .second, .val (.long q2), .second, .val (.int p3), .val (.int p4), .val (.int wd), .val (.int os), .val (.ref b1), .val (.ref b39), .val (.ref b41), .unset, .unset] [(.long q2), (.long q1), (.ref b41), (.ref b39)])) _
    refine XS.bipush X107.here hx rfl (hb hby at_335) ?_
    show Steps p.tables e below (T107.setTop (mkF m 337 #[.val (.long q1), .second, .val (.long q2), .second, .val (.int p3), .val (.int p4), .val (.int wd), .val (.int os), .val (.ref b1), .val (.ref b39), .val (.ref b41), .unset, .unset] [(.int (16 : Int32)), (.long q2), (.long q1), (.ref b41), (.ref b39)])) _
    refine st111 _ ?_
    show Steps p.tables e below (T111.setTop (mkF m 340 #[.val (.long q1), .second, .val (.long q2), .second, .val (.int p3), .val (.int p4), .val (.int wd), .val (.int os), .val (.ref b1), .val (.ref b39), .val (.ref b41), .unset, .unset] [])) _
    refine XS.aload X111.here hx rfl (hb hby at_340) rfl rfl ?_
    show Steps p.tables e below (T111.setTop (mkF m 342 #[.val (.long q1), .second, .val (.long q2), .second, .val (.int p3), .val (.int p4), .val (.int wd), .val (.int os), .val (.ref b1), .val (.ref b39), .val (.ref b41), .unset, .unset] [(.ref b39)])) _
    refine XS.aload X111.here hx rfl (hb hby at_342) rfl rfl ?_
    show Steps p.tables e below (T111.setTop (mkF m 344 #[.val (.long q1), .second, .val (.long q2), .second, .val (.int p3), .val (.int p4), .val (.int wd), .val (.int os), .val (.ref b1), .val (.ref b39), .val (.ref b41), .unset, .unset] [(.ref b41), (.ref b39)])) _
    refine XS.lloadN X111.here hx rfl (hb hby at_344) rfl ?_
    show Steps p.tables e below (T111.setTop (mkF m 345 #[.val (.long q1), .second, .val (.long q2), .second, .val (.int p3), .val (.int p4), .val (.int wd), .val (.int os), .val (.ref b1), .val (.ref b39), .val (.ref b41), .unset, .unset] [(.long q1), (.ref b41), (.ref b39)])) _
    refine XS.lloadN X111.here hx rfl (hb hby at_345) rfl ?_
    show Steps p.tables e below (T111.setTop (mkF m 346 #[.val (.long q1), .second, .val (.long q2), .second, .val (.int p3), .val (.int p4), .val (.int wd), .val (.int os), .val (.ref b1), .val (.ref b39), .val (.ref b41), .unset, .unset] [(.long q2), (.long q1), (.ref b41), (.ref b39)])) _
    refine XS.bipush X111.here hx rfl (hb hby at_346) ?_
    show Steps p.tables e below (T111.setTop (mkF m 348 #[.val (.long q1), .second, .val (.long q2), .second, .val (.int p3), .val (.int p4), .val (.int wd), .val (.int os), .val (.ref b1), .val (.ref b39), .val (.ref b41), .unset, .unset] [(.int (17 : Int32)), (.long q2), (.long q1), (.ref b41), (.ref b39)])) _
    refine st115 _ ?_
    show Steps p.tables e below (T115.setTop (mkF m 351 #[.val (.long q1), .second, .val (.long q2), .second, .val (.int p3), .val (.int p4), .val (.int wd), .val (.int os), .val (.ref b1), .val (.ref b39), .val (.ref b41), .unset, .unset] [])) _
    exact k
  have f119 : AV Z T115.heap b1 k1 .long 18 (fun i => Value.long (fn37 i)) := (((((((((fc0.keep p83_0 (ninS ne_b1_b39 (ninS ne_b1_b41 nin0))).keep p87_0 (ninS ne_b1_b39 (ninS ne_b1_b41 nin0))).keep p91_0 (ninS ne_b1_b39 (ninS ne_b1_b41 nin0))).keep p95_0 (ninS ne_b1_b39 (ninS ne_b1_b41 nin0))).keep p99_0 (ninS ne_b1_b39 (ninS ne_b1_b41 nin0))).keep p103_0 (ninS ne_b1_b39 (ninS ne_b1_b41 nin0))).keep p107_0 (ninS ne_b1_b39 (ninS ne_b1_b41 nin0))).keep p111_0 (ninS ne_b1_b39 (ninS ne_b1_b41 nin0))).keep p115_0 (ninS ne_b1_b39 (ninS ne_b1_b41 nin0)))
  exact own_tail l Z a0 hw ws q1 q2 p3 p4 wd os W O b1 b39 b41 k1 k39 k41 fn37 fn117 fn118 h0 n0 Bd hml hZ T115 T115.heap _ X115 rfl N115 z116  f119 V117 V118 ne_b1_b39 ne_b1_b41 ne_b39_b41 g_b1 g_b39 g_b41 hwW hoO hOW hP18 hD18 hR18
set_option maxRecDepth 65536 in
set_option maxHeartbeats 40000000 in
theorem own_mid (l : Launch) (Z : State) (a0 : Array Value) (hw : ∀ d ∈ tables_1, d.before a0 Z = true) (ws : List Jvm.Cond) (q1 : Int64) (q2 : Int64) (p3 : Int32) (p4 : Int32) (wd : Int32) (os : Int32) (W : Nat) (O : Nat) (b1 : Addr) (b39 : Addr) (b41 : Addr) (k1 : ClassId) (k39 : ClassId) (k41 : ClassId) (fn37 : Nat → Int64) (h0 : Heap) (n0 : Nat) {p : Program} {e : Env} {s : State} {m : MethodId} {below : List Frame} {meth : Method} {c : Code} {s₁ : State}
    (Bd : BodyLoose p l x (head1 (Jvm.Cond.code x code maxLocals ret :: ws) room_1) code maxLocals ret e s m #[(.long q1), (.long q2), (.int p3), (.int p4)] below meth c s₁) (hml : c.maxLocals = 13) (hZ : Z.Warmed39 s.vm) (TC : State) (hC : Heap) (lC : List Loc) (XC : Stand p l e room_1 s m #[(.long q1), (.long q2), (.int p3), (.int p4)] below meth c TC lC 3 54) (eC : TC.heap = hC) (NC : Fr n0 lC) (zC : n0 ≤ hC.size)
    (fc0 : AV Z hC b1 k1 .long 18 (fun i => Value.long (fn37 i))) (fc1 : AV Z hC b39 k39 .int 18 (fun i => Value.int ((fun _ => (0 : Int32)) i))) (fc2 : AV Z hC b41 k41 .byte 18 (fun i => Value.int ((fun _ => (0 : Int32)) i))) (ne_b1_b39 : b1 ≠ b39) (ne_b1_b41 : b1 ≠ b41) (ne_b39_b41 : b39 ≠ b41) (g_b1 : n0 ≤ b1) (g_b39 : n0 ≤ b39) (g_b41 : n0 ≤ b41) (hwW : wd = Int32.ofNat W) (hoO : os = Int32.ofNat O) (hOW : O + W ≤ 18) (hP18 : ∀ i, i < 18 → fn37 i = own_p10 i) :
    GoalS p.tables e below s 16 192 (Q0 Z q1 q2 p3 p4 h0 n0) (TC.setTop (mkF m 159 #[.val (.long q1), .second, .val (.long q2), .second, .val (.int p3), .val (.int p4), .val (.int wd), .val (.int os), .val (.ref b1), .val (.ref b39), .val (.ref b41), .unset, .unset] [])) := by
  have hx := Bd.exec
  have hby := Bd.bytes
  have hown : s.vm.findClass "com/example/poukaz/poukaz/FieldKindNumberPinLaw" = some m.cls := findClass_of_methodNamed Bd.named
  have hnm := (name_of_methodNamed Bd.named Bd.method).1
  obtain ⟨_, _, ⟨T46, L46, k46, n46⟩, -, X46, ⟨Lc46, hQ46, l46, y46, z46⟩, st46⟩ := Jvm.LawKit.callS XC hx (y := (⟨"com/example/poukaz/poukaz/FieldKindNumberPinLaw", "set", "([I[BJJI)V"⟩ : MethodName)) hown (mvT hZ (hw _ (List.mem_of_getElem? (i := 21) rfl))) (mvT hZ (hw _ (List.mem_of_getElem? (i := 22) rfl))) (mvT hZ (hw _ (List.mem_of_getElem? (i := 23) rfl))) (mvT hZ (hw _ (List.mem_of_getElem? (i := 24) rfl))) (by decide) (backOf (W := 0) (rm1 l Z a0 hw [] b39 b41 q1 q2 (0 : Int32) k39 k41 (fun _ => (0 : Int32)) (fun _ => (0 : Int32)) hC n0 zC fc1 fc2 ne_b39_b41 g_b39 g_b41 ⟨by decide, by decide⟩) hZ (hw _ (List.mem_of_getElem? (i := 24) rfl)) (hw _ (List.mem_of_getElem? (i := 23) rfl)) (by decide) (by decide)) (g := (mkF m 166 #[.val (.long q1), .second, .val (.long q2), .second, .val (.int p3), .val (.int p4), .val (.int wd), .val (.int os), .val (.ref b1), .val (.ref b39), .val (.ref b41), .unset, .unset] [(.int (0 : Int32)), (.long q2), (.long q1), (.ref b41), (.ref b39)])) rfl (by rw [hml]; rfl) (argsL := [(.ref b39), (.ref b41), (.long q1), (.long q2), (.int (0 : Int32))]) (rest := []) (lenOf pd_1 rfl) rfl (by show 2 * 0 + _ ≤ _; exact Nat.le_of_eq rfl) (hb hby at_166) (fun _ _ => ⟨rfl, eC, (by decide : 3 + 0 ≤ _), (by decide : 54 + 0 ≤ _)⟩)
  dsimp only [Pt.U, Pt.locs, Pt.cells, Pt.slots] at X46 l46 y46 z46 st46 hQ46
  subst y46 z46
  obtain ⟨rfl, N46q, p46_0, p46_1, p46_2⟩ := hQ46
  have N46 : Fr n0 L46 := by rw [l46]; exact Fr.app NC N46q
  have z47 : n0 ≤ T46.heap.size := Nat.le_trans zC p46_0.1
  obtain ⟨fn48, hfn48⟩ : ∃ z, z = (updI (fun _ => (0 : Int32)) ((0 : Int32)).toNatClampNeg (own_digit q1 q2 (0 : Int32))) := ⟨_, rfl⟩
  have V48 : AV Z T46.heap b39 k39 .int 18 (fun i => Value.int (fn48 i)) := by rw [hfn48]; exact p46_1
  have hD1 : ∀ i, i < 1 → fn48 i = (fun j => own_digit q1 q2 (Int32.ofNat j)) i := own_extI (fun i hi => absurd hi (Nat.not_lt_zero i)) hfn48 rfl rfl
  obtain ⟨fn49, hfn49⟩ : ∃ z, z = (updI (fun _ => (0 : Int32)) ((0 : Int32)).toNatClampNeg ((((48 : Int32) + (own_digit q1 q2 (0 : Int32)))).toInt8.toInt32).toInt8.toInt32) := ⟨_, rfl⟩
  have V49 : AV Z T46.heap b41 k41 .byte 18 (fun i => Value.int (fn49 i)) := by rw [hfn49]; exact p46_2
  have hR1 : ∀ i, i < 1 → fn49 i = (fun j => ((((48 : Int32) + own_digit q1 q2 (Int32.ofNat j))).toInt8.toInt32).toInt8.toInt32) i := own_extI (fun i hi => absurd hi (Nat.not_lt_zero i)) hfn49 rfl rfl
  obtain ⟨_, _, ⟨T50, L50, k50, n50⟩, -, X50, ⟨Lc50, hQ50, l50, y50, z50⟩, st50⟩ := Jvm.LawKit.callS X46 hx (y := (⟨"com/example/poukaz/poukaz/FieldKindNumberPinLaw", "set", "([I[BJJI)V"⟩ : MethodName)) hown (mvT hZ (hw _ (List.mem_of_getElem? (i := 21) rfl))) (mvT hZ (hw _ (List.mem_of_getElem? (i := 22) rfl))) (mvT hZ (hw _ (List.mem_of_getElem? (i := 23) rfl))) (mvT hZ (hw _ (List.mem_of_getElem? (i := 24) rfl))) (by decide) (backOf (W := 0) (rm1 l Z a0 hw [] b39 b41 q1 q2 (1 : Int32) k39 k41 fn48 fn49 T46.heap n0 z47 V48 V49 ne_b39_b41 g_b39 g_b41 ⟨by decide, by decide⟩) hZ (hw _ (List.mem_of_getElem? (i := 24) rfl)) (hw _ (List.mem_of_getElem? (i := 23) rfl)) (by decide) (by decide)) (g := (mkF m 176 #[.val (.long q1), .second, .val (.long q2), .second, .val (.int p3), .val (.int p4), .val (.int wd), .val (.int os), .val (.ref b1), .val (.ref b39), .val (.ref b41), .unset, .unset] [(.int (1 : Int32)), (.long q2), (.long q1), (.ref b41), (.ref b39)])) rfl (by rw [hml]; rfl) (argsL := [(.ref b39), (.ref b41), (.long q1), (.long q2), (.int (1 : Int32))]) (rest := []) (lenOf pd_1 rfl) rfl (by show 2 * 0 + _ ≤ _; exact Nat.le_of_eq rfl) (hb hby at_176) (fun _ _ => ⟨rfl, rfl, (by decide : 3 + 0 ≤ _), (by decide : 54 + 0 ≤ _)⟩)
  dsimp only [Pt.U, Pt.locs, Pt.cells, Pt.slots] at X50 l50 y50 z50 st50 hQ50
  subst y50 z50
  obtain ⟨rfl, N50q, p50_0, p50_1, p50_2⟩ := hQ50
  have N50 : Fr n0 L50 := by rw [l50]; exact Fr.app N46 N50q
  have z51 : n0 ≤ T50.heap.size := Nat.le_trans z47 p50_0.1
  obtain ⟨fn52, hfn52⟩ : ∃ z, z = (updI fn48 ((1 : Int32)).toNatClampNeg (own_digit q1 q2 (1 : Int32))) := ⟨_, rfl⟩
  have V52 : AV Z T50.heap b39 k39 .int 18 (fun i => Value.int (fn52 i)) := by rw [hfn52]; exact p50_1
  have hD2 : ∀ i, i < 2 → fn52 i = (fun j => own_digit q1 q2 (Int32.ofNat j)) i := own_extI hD1 hfn52 rfl rfl
  obtain ⟨fn53, hfn53⟩ : ∃ z, z = (updI fn49 ((1 : Int32)).toNatClampNeg ((((48 : Int32) + (own_digit q1 q2 (1 : Int32)))).toInt8.toInt32).toInt8.toInt32) := ⟨_, rfl⟩
  have V53 : AV Z T50.heap b41 k41 .byte 18 (fun i => Value.int (fn53 i)) := by rw [hfn53]; exact p50_2
  have hR2 : ∀ i, i < 2 → fn53 i = (fun j => ((((48 : Int32) + own_digit q1 q2 (Int32.ofNat j))).toInt8.toInt32).toInt8.toInt32) i := own_extI hR1 hfn53 rfl rfl
  obtain ⟨_, _, ⟨T54, L54, k54, n54⟩, -, X54, ⟨Lc54, hQ54, l54, y54, z54⟩, st54⟩ := Jvm.LawKit.callS X50 hx (y := (⟨"com/example/poukaz/poukaz/FieldKindNumberPinLaw", "set", "([I[BJJI)V"⟩ : MethodName)) hown (mvT hZ (hw _ (List.mem_of_getElem? (i := 21) rfl))) (mvT hZ (hw _ (List.mem_of_getElem? (i := 22) rfl))) (mvT hZ (hw _ (List.mem_of_getElem? (i := 23) rfl))) (mvT hZ (hw _ (List.mem_of_getElem? (i := 24) rfl))) (by decide) (backOf (W := 0) (rm1 l Z a0 hw [] b39 b41 q1 q2 (2 : Int32) k39 k41 fn52 fn53 T50.heap n0 z51 V52 V53 ne_b39_b41 g_b39 g_b41 ⟨by decide, by decide⟩) hZ (hw _ (List.mem_of_getElem? (i := 24) rfl)) (hw _ (List.mem_of_getElem? (i := 23) rfl)) (by decide) (by decide)) (g := (mkF m 186 #[.val (.long q1), .second, .val (.long q2), .second, .val (.int p3), .val (.int p4), .val (.int wd), .val (.int os), .val (.ref b1), .val (.ref b39), .val (.ref b41), .unset, .unset] [(.int (2 : Int32)), (.long q2), (.long q1), (.ref b41), (.ref b39)])) rfl (by rw [hml]; rfl) (argsL := [(.ref b39), (.ref b41), (.long q1), (.long q2), (.int (2 : Int32))]) (rest := []) (lenOf pd_1 rfl) rfl (by show 2 * 0 + _ ≤ _; exact Nat.le_of_eq rfl) (hb hby at_186) (fun _ _ => ⟨rfl, rfl, (by decide : 3 + 0 ≤ _), (by decide : 54 + 0 ≤ _)⟩)
  dsimp only [Pt.U, Pt.locs, Pt.cells, Pt.slots] at X54 l54 y54 z54 st54 hQ54
  subst y54 z54
  obtain ⟨rfl, N54q, p54_0, p54_1, p54_2⟩ := hQ54
  have N54 : Fr n0 L54 := by rw [l54]; exact Fr.app N50 N54q
  have z55 : n0 ≤ T54.heap.size := Nat.le_trans z51 p54_0.1
  obtain ⟨fn56, hfn56⟩ : ∃ z, z = (updI fn52 ((2 : Int32)).toNatClampNeg (own_digit q1 q2 (2 : Int32))) := ⟨_, rfl⟩
  have V56 : AV Z T54.heap b39 k39 .int 18 (fun i => Value.int (fn56 i)) := by rw [hfn56]; exact p54_1
  have hD3 : ∀ i, i < 3 → fn56 i = (fun j => own_digit q1 q2 (Int32.ofNat j)) i := own_extI hD2 hfn56 rfl rfl
  obtain ⟨fn57, hfn57⟩ : ∃ z, z = (updI fn53 ((2 : Int32)).toNatClampNeg ((((48 : Int32) + (own_digit q1 q2 (2 : Int32)))).toInt8.toInt32).toInt8.toInt32) := ⟨_, rfl⟩
  have V57 : AV Z T54.heap b41 k41 .byte 18 (fun i => Value.int (fn57 i)) := by rw [hfn57]; exact p54_2
  have hR3 : ∀ i, i < 3 → fn57 i = (fun j => ((((48 : Int32) + own_digit q1 q2 (Int32.ofNat j))).toInt8.toInt32).toInt8.toInt32) i := own_extI hR2 hfn57 rfl rfl
  obtain ⟨_, _, ⟨T58, L58, k58, n58⟩, -, X58, ⟨Lc58, hQ58, l58, y58, z58⟩, st58⟩ := Jvm.LawKit.callS X54 hx (y := (⟨"com/example/poukaz/poukaz/FieldKindNumberPinLaw", "set", "([I[BJJI)V"⟩ : MethodName)) hown (mvT hZ (hw _ (List.mem_of_getElem? (i := 21) rfl))) (mvT hZ (hw _ (List.mem_of_getElem? (i := 22) rfl))) (mvT hZ (hw _ (List.mem_of_getElem? (i := 23) rfl))) (mvT hZ (hw _ (List.mem_of_getElem? (i := 24) rfl))) (by decide) (backOf (W := 0) (rm1 l Z a0 hw [] b39 b41 q1 q2 (3 : Int32) k39 k41 fn56 fn57 T54.heap n0 z55 V56 V57 ne_b39_b41 g_b39 g_b41 ⟨by decide, by decide⟩) hZ (hw _ (List.mem_of_getElem? (i := 24) rfl)) (hw _ (List.mem_of_getElem? (i := 23) rfl)) (by decide) (by decide)) (g := (mkF m 196 #[.val (.long q1), .second, .val (.long q2), .second, .val (.int p3), .val (.int p4), .val (.int wd), .val (.int os), .val (.ref b1), .val (.ref b39), .val (.ref b41), .unset, .unset] [(.int (3 : Int32)), (.long q2), (.long q1), (.ref b41), (.ref b39)])) rfl (by rw [hml]; rfl) (argsL := [(.ref b39), (.ref b41), (.long q1), (.long q2), (.int (3 : Int32))]) (rest := []) (lenOf pd_1 rfl) rfl (by show 2 * 0 + _ ≤ _; exact Nat.le_of_eq rfl) (hb hby at_196) (fun _ _ => ⟨rfl, rfl, (by decide : 3 + 0 ≤ _), (by decide : 54 + 0 ≤ _)⟩)
  dsimp only [Pt.U, Pt.locs, Pt.cells, Pt.slots] at X58 l58 y58 z58 st58 hQ58
  subst y58 z58
  obtain ⟨rfl, N58q, p58_0, p58_1, p58_2⟩ := hQ58
  have N58 : Fr n0 L58 := by rw [l58]; exact Fr.app N54 N58q
  have z59 : n0 ≤ T58.heap.size := Nat.le_trans z55 p58_0.1
  obtain ⟨fn60, hfn60⟩ : ∃ z, z = (updI fn56 ((3 : Int32)).toNatClampNeg (own_digit q1 q2 (3 : Int32))) := ⟨_, rfl⟩
  have V60 : AV Z T58.heap b39 k39 .int 18 (fun i => Value.int (fn60 i)) := by rw [hfn60]; exact p58_1
  have hD4 : ∀ i, i < 4 → fn60 i = (fun j => own_digit q1 q2 (Int32.ofNat j)) i := own_extI hD3 hfn60 rfl rfl
  obtain ⟨fn61, hfn61⟩ : ∃ z, z = (updI fn57 ((3 : Int32)).toNatClampNeg ((((48 : Int32) + (own_digit q1 q2 (3 : Int32)))).toInt8.toInt32).toInt8.toInt32) := ⟨_, rfl⟩
  have V61 : AV Z T58.heap b41 k41 .byte 18 (fun i => Value.int (fn61 i)) := by rw [hfn61]; exact p58_2
  have hR4 : ∀ i, i < 4 → fn61 i = (fun j => ((((48 : Int32) + own_digit q1 q2 (Int32.ofNat j))).toInt8.toInt32).toInt8.toInt32) i := own_extI hR3 hfn61 rfl rfl
  obtain ⟨_, _, ⟨T62, L62, k62, n62⟩, -, X62, ⟨Lc62, hQ62, l62, y62, z62⟩, st62⟩ := Jvm.LawKit.callS X58 hx (y := (⟨"com/example/poukaz/poukaz/FieldKindNumberPinLaw", "set", "([I[BJJI)V"⟩ : MethodName)) hown (mvT hZ (hw _ (List.mem_of_getElem? (i := 21) rfl))) (mvT hZ (hw _ (List.mem_of_getElem? (i := 22) rfl))) (mvT hZ (hw _ (List.mem_of_getElem? (i := 23) rfl))) (mvT hZ (hw _ (List.mem_of_getElem? (i := 24) rfl))) (by decide) (backOf (W := 0) (rm1 l Z a0 hw [] b39 b41 q1 q2 (4 : Int32) k39 k41 fn60 fn61 T58.heap n0 z59 V60 V61 ne_b39_b41 g_b39 g_b41 ⟨by decide, by decide⟩) hZ (hw _ (List.mem_of_getElem? (i := 24) rfl)) (hw _ (List.mem_of_getElem? (i := 23) rfl)) (by decide) (by decide)) (g := (mkF m 206 #[.val (.long q1), .second, .val (.long q2), .second, .val (.int p3), .val (.int p4), .val (.int wd), .val (.int os), .val (.ref b1), .val (.ref b39), .val (.ref b41), .unset, .unset] [(.int (4 : Int32)), (.long q2), (.long q1), (.ref b41), (.ref b39)])) rfl (by rw [hml]; rfl) (argsL := [(.ref b39), (.ref b41), (.long q1), (.long q2), (.int (4 : Int32))]) (rest := []) (lenOf pd_1 rfl) rfl (by show 2 * 0 + _ ≤ _; exact Nat.le_of_eq rfl) (hb hby at_206) (fun _ _ => ⟨rfl, rfl, (by decide : 3 + 0 ≤ _), (by decide : 54 + 0 ≤ _)⟩)
  dsimp only [Pt.U, Pt.locs, Pt.cells, Pt.slots] at X62 l62 y62 z62 st62 hQ62
  subst y62 z62
  obtain ⟨rfl, N62q, p62_0, p62_1, p62_2⟩ := hQ62
  have N62 : Fr n0 L62 := by rw [l62]; exact Fr.app N58 N62q
  have z63 : n0 ≤ T62.heap.size := Nat.le_trans z59 p62_0.1
  obtain ⟨fn64, hfn64⟩ : ∃ z, z = (updI fn60 ((4 : Int32)).toNatClampNeg (own_digit q1 q2 (4 : Int32))) := ⟨_, rfl⟩
  have V64 : AV Z T62.heap b39 k39 .int 18 (fun i => Value.int (fn64 i)) := by rw [hfn64]; exact p62_1
  have hD5 : ∀ i, i < 5 → fn64 i = (fun j => own_digit q1 q2 (Int32.ofNat j)) i := own_extI hD4 hfn64 rfl rfl
  obtain ⟨fn65, hfn65⟩ : ∃ z, z = (updI fn61 ((4 : Int32)).toNatClampNeg ((((48 : Int32) + (own_digit q1 q2 (4 : Int32)))).toInt8.toInt32).toInt8.toInt32) := ⟨_, rfl⟩
  have V65 : AV Z T62.heap b41 k41 .byte 18 (fun i => Value.int (fn65 i)) := by rw [hfn65]; exact p62_2
  have hR5 : ∀ i, i < 5 → fn65 i = (fun j => ((((48 : Int32) + own_digit q1 q2 (Int32.ofNat j))).toInt8.toInt32).toInt8.toInt32) i := own_extI hR4 hfn65 rfl rfl
  obtain ⟨_, _, ⟨T66, L66, k66, n66⟩, -, X66, ⟨Lc66, hQ66, l66, y66, z66⟩, st66⟩ := Jvm.LawKit.callS X62 hx (y := (⟨"com/example/poukaz/poukaz/FieldKindNumberPinLaw", "set", "([I[BJJI)V"⟩ : MethodName)) hown (mvT hZ (hw _ (List.mem_of_getElem? (i := 21) rfl))) (mvT hZ (hw _ (List.mem_of_getElem? (i := 22) rfl))) (mvT hZ (hw _ (List.mem_of_getElem? (i := 23) rfl))) (mvT hZ (hw _ (List.mem_of_getElem? (i := 24) rfl))) (by decide) (backOf (W := 0) (rm1 l Z a0 hw [] b39 b41 q1 q2 (5 : Int32) k39 k41 fn64 fn65 T62.heap n0 z63 V64 V65 ne_b39_b41 g_b39 g_b41 ⟨by decide, by decide⟩) hZ (hw _ (List.mem_of_getElem? (i := 24) rfl)) (hw _ (List.mem_of_getElem? (i := 23) rfl)) (by decide) (by decide)) (g := (mkF m 216 #[.val (.long q1), .second, .val (.long q2), .second, .val (.int p3), .val (.int p4), .val (.int wd), .val (.int os), .val (.ref b1), .val (.ref b39), .val (.ref b41), .unset, .unset] [(.int (5 : Int32)), (.long q2), (.long q1), (.ref b41), (.ref b39)])) rfl (by rw [hml]; rfl) (argsL := [(.ref b39), (.ref b41), (.long q1), (.long q2), (.int (5 : Int32))]) (rest := []) (lenOf pd_1 rfl) rfl (by show 2 * 0 + _ ≤ _; exact Nat.le_of_eq rfl) (hb hby at_216) (fun _ _ => ⟨rfl, rfl, (by decide : 3 + 0 ≤ _), (by decide : 54 + 0 ≤ _)⟩)
  dsimp only [Pt.U, Pt.locs, Pt.cells, Pt.slots] at X66 l66 y66 z66 st66 hQ66
  subst y66 z66
  obtain ⟨rfl, N66q, p66_0, p66_1, p66_2⟩ := hQ66
  have N66 : Fr n0 L66 := by rw [l66]; exact Fr.app N62 N66q
  have z67 : n0 ≤ T66.heap.size := Nat.le_trans z63 p66_0.1
  obtain ⟨fn68, hfn68⟩ : ∃ z, z = (updI fn64 ((5 : Int32)).toNatClampNeg (own_digit q1 q2 (5 : Int32))) := ⟨_, rfl⟩
  have V68 : AV Z T66.heap b39 k39 .int 18 (fun i => Value.int (fn68 i)) := by rw [hfn68]; exact p66_1
  have hD6 : ∀ i, i < 6 → fn68 i = (fun j => own_digit q1 q2 (Int32.ofNat j)) i := own_extI hD5 hfn68 rfl rfl
  obtain ⟨fn69, hfn69⟩ : ∃ z, z = (updI fn65 ((5 : Int32)).toNatClampNeg ((((48 : Int32) + (own_digit q1 q2 (5 : Int32)))).toInt8.toInt32).toInt8.toInt32) := ⟨_, rfl⟩
  have V69 : AV Z T66.heap b41 k41 .byte 18 (fun i => Value.int (fn69 i)) := by rw [hfn69]; exact p66_2
  have hR6 : ∀ i, i < 6 → fn69 i = (fun j => ((((48 : Int32) + own_digit q1 q2 (Int32.ofNat j))).toInt8.toInt32).toInt8.toInt32) i := own_extI hR5 hfn69 rfl rfl
  obtain ⟨_, _, ⟨T70, L70, k70, n70⟩, -, X70, ⟨Lc70, hQ70, l70, y70, z70⟩, st70⟩ := Jvm.LawKit.callS X66 hx (y := (⟨"com/example/poukaz/poukaz/FieldKindNumberPinLaw", "set", "([I[BJJI)V"⟩ : MethodName)) hown (mvT hZ (hw _ (List.mem_of_getElem? (i := 21) rfl))) (mvT hZ (hw _ (List.mem_of_getElem? (i := 22) rfl))) (mvT hZ (hw _ (List.mem_of_getElem? (i := 23) rfl))) (mvT hZ (hw _ (List.mem_of_getElem? (i := 24) rfl))) (by decide) (backOf (W := 0) (rm1 l Z a0 hw [] b39 b41 q1 q2 (6 : Int32) k39 k41 fn68 fn69 T66.heap n0 z67 V68 V69 ne_b39_b41 g_b39 g_b41 ⟨by decide, by decide⟩) hZ (hw _ (List.mem_of_getElem? (i := 24) rfl)) (hw _ (List.mem_of_getElem? (i := 23) rfl)) (by decide) (by decide)) (g := (mkF m 227 #[.val (.long q1), .second, .val (.long q2), .second, .val (.int p3), .val (.int p4), .val (.int wd), .val (.int os), .val (.ref b1), .val (.ref b39), .val (.ref b41), .unset, .unset] [(.int (6 : Int32)), (.long q2), (.long q1), (.ref b41), (.ref b39)])) rfl (by rw [hml]; rfl) (argsL := [(.ref b39), (.ref b41), (.long q1), (.long q2), (.int (6 : Int32))]) (rest := []) (lenOf pd_1 rfl) rfl (by show 2 * 0 + _ ≤ _; exact Nat.le_of_eq rfl) (hb hby at_227) (fun _ _ => ⟨rfl, rfl, (by decide : 3 + 0 ≤ _), (by decide : 54 + 0 ≤ _)⟩)
  dsimp only [Pt.U, Pt.locs, Pt.cells, Pt.slots] at X70 l70 y70 z70 st70 hQ70
  subst y70 z70
  obtain ⟨rfl, N70q, p70_0, p70_1, p70_2⟩ := hQ70
  have N70 : Fr n0 L70 := by rw [l70]; exact Fr.app N66 N70q
  have z71 : n0 ≤ T70.heap.size := Nat.le_trans z67 p70_0.1
  obtain ⟨fn72, hfn72⟩ : ∃ z, z = (updI fn68 ((6 : Int32)).toNatClampNeg (own_digit q1 q2 (6 : Int32))) := ⟨_, rfl⟩
  have V72 : AV Z T70.heap b39 k39 .int 18 (fun i => Value.int (fn72 i)) := by rw [hfn72]; exact p70_1
  have hD7 : ∀ i, i < 7 → fn72 i = (fun j => own_digit q1 q2 (Int32.ofNat j)) i := own_extI hD6 hfn72 rfl rfl
  obtain ⟨fn73, hfn73⟩ : ∃ z, z = (updI fn69 ((6 : Int32)).toNatClampNeg ((((48 : Int32) + (own_digit q1 q2 (6 : Int32)))).toInt8.toInt32).toInt8.toInt32) := ⟨_, rfl⟩
  have V73 : AV Z T70.heap b41 k41 .byte 18 (fun i => Value.int (fn73 i)) := by rw [hfn73]; exact p70_2
  have hR7 : ∀ i, i < 7 → fn73 i = (fun j => ((((48 : Int32) + own_digit q1 q2 (Int32.ofNat j))).toInt8.toInt32).toInt8.toInt32) i := own_extI hR6 hfn73 rfl rfl
  obtain ⟨_, _, ⟨T74, L74, k74, n74⟩, -, X74, ⟨Lc74, hQ74, l74, y74, z74⟩, st74⟩ := Jvm.LawKit.callS X70 hx (y := (⟨"com/example/poukaz/poukaz/FieldKindNumberPinLaw", "set", "([I[BJJI)V"⟩ : MethodName)) hown (mvT hZ (hw _ (List.mem_of_getElem? (i := 21) rfl))) (mvT hZ (hw _ (List.mem_of_getElem? (i := 22) rfl))) (mvT hZ (hw _ (List.mem_of_getElem? (i := 23) rfl))) (mvT hZ (hw _ (List.mem_of_getElem? (i := 24) rfl))) (by decide) (backOf (W := 0) (rm1 l Z a0 hw [] b39 b41 q1 q2 (7 : Int32) k39 k41 fn72 fn73 T70.heap n0 z71 V72 V73 ne_b39_b41 g_b39 g_b41 ⟨by decide, by decide⟩) hZ (hw _ (List.mem_of_getElem? (i := 24) rfl)) (hw _ (List.mem_of_getElem? (i := 23) rfl)) (by decide) (by decide)) (g := (mkF m 238 #[.val (.long q1), .second, .val (.long q2), .second, .val (.int p3), .val (.int p4), .val (.int wd), .val (.int os), .val (.ref b1), .val (.ref b39), .val (.ref b41), .unset, .unset] [(.int (7 : Int32)), (.long q2), (.long q1), (.ref b41), (.ref b39)])) rfl (by rw [hml]; rfl) (argsL := [(.ref b39), (.ref b41), (.long q1), (.long q2), (.int (7 : Int32))]) (rest := []) (lenOf pd_1 rfl) rfl (by show 2 * 0 + _ ≤ _; exact Nat.le_of_eq rfl) (hb hby at_238) (fun _ _ => ⟨rfl, rfl, (by decide : 3 + 0 ≤ _), (by decide : 54 + 0 ≤ _)⟩)
  dsimp only [Pt.U, Pt.locs, Pt.cells, Pt.slots] at X74 l74 y74 z74 st74 hQ74
  subst y74 z74
  obtain ⟨rfl, N74q, p74_0, p74_1, p74_2⟩ := hQ74
  have N74 : Fr n0 L74 := by rw [l74]; exact Fr.app N70 N74q
  have z75 : n0 ≤ T74.heap.size := Nat.le_trans z71 p74_0.1
  obtain ⟨fn76, hfn76⟩ : ∃ z, z = (updI fn72 ((7 : Int32)).toNatClampNeg (own_digit q1 q2 (7 : Int32))) := ⟨_, rfl⟩
  have V76 : AV Z T74.heap b39 k39 .int 18 (fun i => Value.int (fn76 i)) := by rw [hfn76]; exact p74_1
  have hD8 : ∀ i, i < 8 → fn76 i = (fun j => own_digit q1 q2 (Int32.ofNat j)) i := own_extI hD7 hfn76 rfl rfl
  obtain ⟨fn77, hfn77⟩ : ∃ z, z = (updI fn73 ((7 : Int32)).toNatClampNeg ((((48 : Int32) + (own_digit q1 q2 (7 : Int32)))).toInt8.toInt32).toInt8.toInt32) := ⟨_, rfl⟩
  have V77 : AV Z T74.heap b41 k41 .byte 18 (fun i => Value.int (fn77 i)) := by rw [hfn77]; exact p74_2
  have hR8 : ∀ i, i < 8 → fn77 i = (fun j => ((((48 : Int32) + own_digit q1 q2 (Int32.ofNat j))).toInt8.toInt32).toInt8.toInt32) i := own_extI hR7 hfn77 rfl rfl
  obtain ⟨_, _, ⟨T78, L78, k78, n78⟩, -, X78, ⟨Lc78, hQ78, l78, y78, z78⟩, st78⟩ := Jvm.LawKit.callS X74 hx (y := (⟨"com/example/poukaz/poukaz/FieldKindNumberPinLaw", "set", "([I[BJJI)V"⟩ : MethodName)) hown (mvT hZ (hw _ (List.mem_of_getElem? (i := 21) rfl))) (mvT hZ (hw _ (List.mem_of_getElem? (i := 22) rfl))) (mvT hZ (hw _ (List.mem_of_getElem? (i := 23) rfl))) (mvT hZ (hw _ (List.mem_of_getElem? (i := 24) rfl))) (by decide) (backOf (W := 0) (rm1 l Z a0 hw [] b39 b41 q1 q2 (8 : Int32) k39 k41 fn76 fn77 T74.heap n0 z75 V76 V77 ne_b39_b41 g_b39 g_b41 ⟨by decide, by decide⟩) hZ (hw _ (List.mem_of_getElem? (i := 24) rfl)) (hw _ (List.mem_of_getElem? (i := 23) rfl)) (by decide) (by decide)) (g := (mkF m 249 #[.val (.long q1), .second, .val (.long q2), .second, .val (.int p3), .val (.int p4), .val (.int wd), .val (.int os), .val (.ref b1), .val (.ref b39), .val (.ref b41), .unset, .unset] [(.int (8 : Int32)), (.long q2), (.long q1), (.ref b41), (.ref b39)])) rfl (by rw [hml]; rfl) (argsL := [(.ref b39), (.ref b41), (.long q1), (.long q2), (.int (8 : Int32))]) (rest := []) (lenOf pd_1 rfl) rfl (by show 2 * 0 + _ ≤ _; exact Nat.le_of_eq rfl) (hb hby at_249) (fun _ _ => ⟨rfl, rfl, (by decide : 3 + 0 ≤ _), (by decide : 54 + 0 ≤ _)⟩)
  dsimp only [Pt.U, Pt.locs, Pt.cells, Pt.slots] at X78 l78 y78 z78 st78 hQ78
  subst y78 z78
  obtain ⟨rfl, N78q, p78_0, p78_1, p78_2⟩ := hQ78
  have N78 : Fr n0 L78 := by rw [l78]; exact Fr.app N74 N78q
  have z79 : n0 ≤ T78.heap.size := Nat.le_trans z75 p78_0.1
  obtain ⟨fn80, hfn80⟩ : ∃ z, z = (updI fn76 ((8 : Int32)).toNatClampNeg (own_digit q1 q2 (8 : Int32))) := ⟨_, rfl⟩
  have V80 : AV Z T78.heap b39 k39 .int 18 (fun i => Value.int (fn80 i)) := by rw [hfn80]; exact p78_1
  have hD9 : ∀ i, i < 9 → fn80 i = (fun j => own_digit q1 q2 (Int32.ofNat j)) i := own_extI hD8 hfn80 rfl rfl
  obtain ⟨fn81, hfn81⟩ : ∃ z, z = (updI fn77 ((8 : Int32)).toNatClampNeg ((((48 : Int32) + (own_digit q1 q2 (8 : Int32)))).toInt8.toInt32).toInt8.toInt32) := ⟨_, rfl⟩
  have V81 : AV Z T78.heap b41 k41 .byte 18 (fun i => Value.int (fn81 i)) := by rw [hfn81]; exact p78_2
  have hR9 : ∀ i, i < 9 → fn81 i = (fun j => ((((48 : Int32) + own_digit q1 q2 (Int32.ofNat j))).toInt8.toInt32).toInt8.toInt32) i := own_extI hR8 hfn81 rfl rfl
  refine GoalS.lift (B := (T78.setTop (mkF m 252 #[.val (.long q1), .second, .val (.long q2), .second, .val (.int p3), .val (.int p4), .val (.int wd), .val (.int os), .val (.ref b1), .val (.ref b39), .val (.ref b41), .unset, .unset] []))) (fun t k => ?_) ?_
  · show Steps p.tables e below (TC.setTop (mkF m 159 #[.val (.long q1), .second, .val (.long q2), .second, .val (.int p3), .val (.int p4), .val (.int wd), .val (.int os), .val (.ref b1), .val (.ref b39), .val (.ref b41), .unset, .unset] [])) _
    refine XS.aload XC.here hx rfl (hb hby at_159) rfl rfl ?_
    show Steps p.tables e below (TC.setTop (mkF m 161 #[.val (.long q1), .second, .val (.long q2), .second, .val (.int p3), .val (.int p4), .val (.int wd), .val (.int os), .val (.ref b1), .val (.ref b39), .val (.ref b41), .unset, .unset] [(.ref b39)])) _
    refine XS.aload XC.here hx rfl (hb hby at_161) rfl rfl ?_
    show Steps p.tables e below (TC.setTop (mkF m 163 #[.val (.long q1), .second, .val (.long q2), .second, .val (.int p3), .val (.int p4), .val (.int wd), .val (.int os), .val (.ref b1), .val (.ref b39), .val (.ref b41), .unset, .unset] [(.ref b41), (.ref b39)])) _
    refine XS.lloadN XC.here hx rfl (hb hby at_163) rfl ?_
    show Steps p.tables e below (TC.setTop (mkF m 164 #[.val (.long q1), .second, .val (.long q2), .second, .val (.int p3), .val (.int p4), .val (.int wd), .val (.int os), .val (.ref b1), .val (.ref b39), .val (.ref b41), .unset, .unset] [(.long q1), (.ref b41), (.ref b39)])) _
    refine XS.lloadN XC.here hx rfl (hb hby at_164) rfl ?_
    show Steps p.tables e below (TC.setTop (mkF m 165 #[.val (.long q1), .second, .val (.long q2), .second, .val (.int p3), .val (.int p4), .val (.int wd), .val (.int os), .val (.ref b1), .val (.ref b39), .val (.ref b41), .unset, .unset] [(.long q2), (.long q1), (.ref b41), (.ref b39)])) _
    refine XS.iconst XC.here hx rfl (hb hby at_165) ?_
    show Steps p.tables e below (TC.setTop (mkF m 166 #[.val (.long q1), .second, .val (.long q2), .second, .val (.int p3), .val (.int p4), .val (.int wd), .val (.int os), .val (.ref b1), .val (.ref b39), .val (.ref b41), .unset, .unset] [(.int (0 : Int32)), (.long q2), (.long q1), (.ref b41), (.ref b39)])) _
    refine st46 _ ?_
    show Steps p.tables e below (T46.setTop (mkF m 169 #[.val (.long q1), .second, .val (.long q2), .second, .val (.int p3), .val (.int p4), .val (.int wd), .val (.int os), .val (.ref b1), .val (.ref b39), .val (.ref b41), .unset, .unset] [])) _
    refine XS.aload X46.here hx rfl (hb hby at_169) rfl rfl ?_
    show Steps p.tables e below (T46.setTop (mkF m 171 #[.val (.long q1), .second, .val (.long q2), .second, .val (.int p3), .val (.int p4), .val (.int wd), .val (.int os), .val (.ref b1), .val (.ref b39), .val (.ref b41), .unset, .unset] [(.ref b39)])) _
    refine XS.aload X46.here hx rfl (hb hby at_171) rfl rfl ?_
    show Steps p.tables e below (T46.setTop (mkF m 173 #[.val (.long q1), .second, .val (.long q2), .second, .val (.int p3), .val (.int p4), .val (.int wd), .val (.int os), .val (.ref b1), .val (.ref b39), .val (.ref b41), .unset, .unset] [(.ref b41), (.ref b39)])) _
    refine XS.lloadN X46.here hx rfl (hb hby at_173) rfl ?_
    show Steps p.tables e below (T46.setTop (mkF m 174 #[.val (.long q1), .second, .val (.long q2), .second, .val (.int p3), .val (.int p4), .val (.int wd), .val (.int os), .val (.ref b1), .val (.ref b39), .val (.ref b41), .unset, .unset] [(.long q1), (.ref b41), (.ref b39)])) _
    refine XS.lloadN X46.here hx rfl (hb hby at_174) rfl ?_
    show Steps p.tables e below (T46.setTop (mkF m 175 #[.val (.long q1), .second, .val (.long q2), .second, .val (.int p3), .val (.int p4), .val (.int wd), .val (.int os), .val (.ref b1), .val (.ref b39), .val (.ref b41), .unset, .unset] [(.long q2), (.long q1), (.ref b41), (.ref b39)])) _
    refine XS.iconst X46.here hx rfl (hb hby at_175) ?_
    show Steps p.tables e below (T46.setTop (mkF m 176 #[.val (.long q1), .second, .val (.long q2), .second, .val (.int p3), .val (.int p4), .val (.int wd), .val (.int os), .val (.ref b1), .val (.ref b39), .val (.ref b41), .unset, .unset] [(.int (1 : Int32)), (.long q2), (.long q1), (.ref b41), (.ref b39)])) _
    refine st50 _ ?_
    show Steps p.tables e below (T50.setTop (mkF m 179 #[.val (.long q1), .second, .val (.long q2), .second, .val (.int p3), .val (.int p4), .val (.int wd), .val (.int os), .val (.ref b1), .val (.ref b39), .val (.ref b41), .unset, .unset] [])) _
    refine XS.aload X50.here hx rfl (hb hby at_179) rfl rfl ?_
    show Steps p.tables e below (T50.setTop (mkF m 181 #[.val (.long q1), .second, .val (.long q2), .second, .val (.int p3), .val (.int p4), .val (.int wd), .val (.int os), .val (.ref b1), .val (.ref b39), .val (.ref b41), .unset, .unset] [(.ref b39)])) _
    refine XS.aload X50.here hx rfl (hb hby at_181) rfl rfl ?_
    show Steps p.tables e below (T50.setTop (mkF m 183 #[.val (.long q1), .second, .val (.long q2), .second, .val (.int p3), .val (.int p4), .val (.int wd), .val (.int os), .val (.ref b1), .val (.ref b39), .val (.ref b41), .unset, .unset] [(.ref b41), (.ref b39)])) _
    refine XS.lloadN X50.here hx rfl (hb hby at_183) rfl ?_
    show Steps p.tables e below (T50.setTop (mkF m 184 #[.val (.long q1), .second, .val (.long q2), .second, .val (.int p3), .val (.int p4), .val (.int wd), .val (.int os), .val (.ref b1), .val (.ref b39), .val (.ref b41), .unset, .unset] [(.long q1), (.ref b41), (.ref b39)])) _
    refine XS.lloadN X50.here hx rfl (hb hby at_184) rfl ?_
    show Steps p.tables e below (T50.setTop (mkF m 185 #[.val (.long q1), .second, .val (.long q2), .second, .val (.int p3), .val (.int p4), .val (.int wd), .val (.int os), .val (.ref b1), .val (.ref b39), .val (.ref b41), .unset, .unset] [(.long q2), (.long q1), (.ref b41), (.ref b39)])) _
    refine XS.iconst X50.here hx rfl (hb hby at_185) ?_
    show Steps p.tables e below (T50.setTop (mkF m 186 #[.val (.long q1), .second, .val (.long q2), .second, .val (.int p3), .val (.int p4), .val (.int wd), .val (.int os), .val (.ref b1), .val (.ref b39), .val (.ref b41), .unset, .unset] [(.int (2 : Int32)), (.long q2), (.long q1), (.ref b41), (.ref b39)])) _
    refine st54 _ ?_
    show Steps p.tables e below (T54.setTop (mkF m 189 #[.val (.long q1), .second, .val (.long q2), .second, .val (.int p3), .val (.int p4), .val (.int wd), .val (.int os), .val (.ref b1), .val (.ref b39), .val (.ref b41), .unset, .unset] [])) _
    refine XS.aload X54.here hx rfl (hb hby at_189) rfl rfl ?_
    show Steps p.tables e below (T54.setTop (mkF m 191 #[.val (.long q1), .second, .val (.long q2), .second, .val (.int p3), .val (.int p4), .val (.int wd), .val (.int os), .val (.ref b1), .val (.ref b39), .val (.ref b41), .unset, .unset] [(.ref b39)])) _
    refine XS.aload X54.here hx rfl (hb hby at_191) rfl rfl ?_
    show Steps p.tables e below (T54.setTop (mkF m 193 #[.val (.long q1), .second, .val (.long q2), .second, .val (.int p3), .val (.int p4), .val (.int wd), .val (.int os), .val (.ref b1), .val (.ref b39), .val (.ref b41), .unset, .unset] [(.ref b41), (.ref b39)])) _
    refine XS.lloadN X54.here hx rfl (hb hby at_193) rfl ?_
    show Steps p.tables e below (T54.setTop (mkF m 194 #[.val (.long q1), .second, .val (.long q2), .second, .val (.int p3), .val (.int p4), .val (.int wd), .val (.int os), .val (.ref b1), .val (.ref b39), .val (.ref b41), .unset, .unset] [(.long q1), (.ref b41), (.ref b39)])) _
    refine XS.lloadN X54.here hx rfl (hb hby at_194) rfl ?_
    show Steps p.tables e below (T54.setTop (mkF m 195 #[.val (.long q1), .second, .val (.long q2), .second, .val (.int p3), .val (.int p4), .val (.int wd), .val (.int os), .val (.ref b1), .val (.ref b39), .val (.ref b41), .unset, .unset] [(.long q2), (.long q1), (.ref b41), (.ref b39)])) _
    refine XS.iconst X54.here hx rfl (hb hby at_195) ?_
    show Steps p.tables e below (T54.setTop (mkF m 196 #[.val (.long q1), .second, .val (.long q2), .second, .val (.int p3), .val (.int p4), .val (.int wd), .val (.int os), .val (.ref b1), .val (.ref b39), .val (.ref b41), .unset, .unset] [(.int (3 : Int32)), (.long q2), (.long q1), (.ref b41), (.ref b39)])) _
    refine st58 _ ?_
    show Steps p.tables e below (T58.setTop (mkF m 199 #[.val (.long q1), .second, .val (.long q2), .second, .val (.int p3), .val (.int p4), .val (.int wd), .val (.int os), .val (.ref b1), .val (.ref b39), .val (.ref b41), .unset, .unset] [])) _
    refine XS.aload X58.here hx rfl (hb hby at_199) rfl rfl ?_
    show Steps p.tables e below (T58.setTop (mkF m 201 #[.val (.long q1), .second, .val (.long q2), .second, .val (.int p3), .val (.int p4), .val (.int wd), .val (.int os), .val (.ref b1), .val (.ref b39), .val (.ref b41), .unset, .unset] [(.ref b39)])) _
    refine XS.aload X58.here hx rfl (hb hby at_201) rfl rfl ?_
    show Steps p.tables e below (T58.setTop (mkF m 203 #[.val (.long q1), .second, .val (.long q2), .second, .val (.int p3), .val (.int p4), .val (.int wd), .val (.int os), .val (.ref b1), .val (.ref b39), .val (.ref b41), .unset, .unset] [(.ref b41), (.ref b39)])) _
    refine XS.lloadN X58.here hx rfl (hb hby at_203) rfl ?_
    show Steps p.tables e below (T58.setTop (mkF m 204 #[.val (.long q1), .second, .val (.long q2), .second, .val (.int p3), .val (.int p4), .val (.int wd), .val (.int os), .val (.ref b1), .val (.ref b39), .val (.ref b41), .unset, .unset] [(.long q1), (.ref b41), (.ref b39)])) _
    refine XS.lloadN X58.here hx rfl (hb hby at_204) rfl ?_
    show Steps p.tables e below (T58.setTop (mkF m 205 #[.val (.long q1), .second, .val (.long q2), .second, .val (.int p3), .val (.int p4), .val (.int wd), .val (.int os), .val (.ref b1), .val (.ref b39), .val (.ref b41), .unset, .unset] [(.long q2), (.long q1), (.ref b41), (.ref b39)])) _
    refine XS.iconst X58.here hx rfl (hb hby at_205) ?_
    show Steps p.tables e below (T58.setTop (mkF m 206 #[.val (.long q1), .second, .val (.long q2), .second, .val (.int p3), .val (.int p4), .val (.int wd), .val (.int os), .val (.ref b1), .val (.ref b39), .val (.ref b41), .unset, .unset] [(.int (4 : Int32)), (.long q2), (.long q1), (.ref b41), (.ref b39)])) _
    refine st62 _ ?_
    show Steps p.tables e below (T62.setTop (mkF m 209 #[.val (.long q1), .second, .val (.long q2), .second, .val (.int p3), .val (.int p4), .val (.int wd), .val (.int os), .val (.ref b1), .val (.ref b39), .val (.ref b41), .unset, .unset] [])) _
    refine XS.aload X62.here hx rfl (hb hby at_209) rfl rfl ?_
    show Steps p.tables e below (T62.setTop (mkF m 211 #[.val (.long q1), .second, .val (.long q2), .second, .val (.int p3), .val (.int p4), .val (.int wd), .val (.int os), .val (.ref b1), .val (.ref b39), .val (.ref b41), .unset, .unset] [(.ref b39)])) _
    refine XS.aload X62.here hx rfl (hb hby at_211) rfl rfl ?_
    show Steps p.tables e below (T62.setTop (mkF m 213 #[.val (.long q1), .second, .val (.long q2), .second, .val (.int p3), .val (.int p4), .val (.int wd), .val (.int os), .val (.ref b1), .val (.ref b39), .val (.ref b41), .unset, .unset] [(.ref b41), (.ref b39)])) _
    refine XS.lloadN X62.here hx rfl (hb hby at_213) rfl ?_
    show Steps p.tables e below (T62.setTop (mkF m 214 #[.val (.long q1), .second, .val (.long q2), .second, .val (.int p3), .val (.int p4), .val (.int wd), .val (.int os), .val (.ref b1), .val (.ref b39), .val (.ref b41), .unset, .unset] [(.long q1), (.ref b41), (.ref b39)])) _
    refine XS.lloadN X62.here hx rfl (hb hby at_214) rfl ?_
    show Steps p.tables e below (T62.setTop (mkF m 215 #[.val (.long q1), .second, .val (.long q2), .second, .val (.int p3), .val (.int p4), .val (.int wd), .val (.int os), .val (.ref b1), .val (.ref b39), .val (.ref b41), .unset, .unset] [(.long q2), (.long q1), (.ref b41), (.ref b39)])) _
    refine XS.iconst X62.here hx rfl (hb hby at_215) ?_
    show Steps p.tables e below (T62.setTop (mkF m 216 #[.val (.long q1), .second, .val (.long q2), .second, .val (.int p3), .val (.int p4), .val (.int wd), .val (.int os), .val (.ref b1), .val (.ref b39), .val (.ref b41), .unset, .unset] [(.int (5 : Int32)), (.long q2), (.long q1), (.ref b41), (.ref b39)])) _
    refine st66 _ ?_
    show Steps p.tables e below (T66.setTop (mkF m 219 #[.val (.long q1), .second, .val (.long q2), .second, .val (.int p3), .val (.int p4), .val (.int wd), .val (.int os), .val (.ref b1), .val (.ref b39), .val (.ref b41), .unset, .unset] [])) _
    refine XS.aload X66.here hx rfl (hb hby at_219) rfl rfl ?_
    show Steps p.tables e below (T66.setTop (mkF m 221 #[.val (.long q1), .second, .val (.long q2), .second, .val (.int p3), .val (.int p4), .val (.int wd), .val (.int os), .val (.ref b1), .val (.ref b39), .val (.ref b41), .unset, .unset] [(.ref b39)])) _
    refine XS.aload X66.here hx rfl (hb hby at_221) rfl rfl ?_
    show Steps p.tables e below (T66.setTop (mkF m 223 #[.val (.long q1), .second, .val (.long q2), .second, .val (.int p3), .val (.int p4), .val (.int wd), .val (.int os), .val (.ref b1), .val (.ref b39), .val (.ref b41), .unset, .unset] [(.ref b41), (.ref b39)])) _
    refine XS.lloadN X66.here hx rfl (hb hby at_223) rfl ?_
    show Steps p.tables e below (T66.setTop (mkF m 224 #[.val (.long q1), .second, .val (.long q2), .second, .val (.int p3), .val (.int p4), .val (.int wd), .val (.int os), .val (.ref b1), .val (.ref b39), .val (.ref b41), .unset, .unset] [(.long q1), (.ref b41), (.ref b39)])) _
    refine XS.lloadN X66.here hx rfl (hb hby at_224) rfl ?_
    show Steps p.tables e below (T66.setTop (mkF m 225 #[.val (.long q1), .second, .val (.long q2), .second, .val (.int p3), .val (.int p4), .val (.int wd), .val (.int os), .val (.ref b1), .val (.ref b39), .val (.ref b41), .unset, .unset] [(.long q2), (.long q1), (.ref b41), (.ref b39)])) _
    refine XS.bipush X66.here hx rfl (hb hby at_225) ?_
    show Steps p.tables e below (T66.setTop (mkF m 227 #[.val (.long q1), .second, .val (.long q2), .second, .val (.int p3), .val (.int p4), .val (.int wd), .val (.int os), .val (.ref b1), .val (.ref b39), .val (.ref b41), .unset, .unset] [(.int (6 : Int32)), (.long q2), (.long q1), (.ref b41), (.ref b39)])) _
    refine st70 _ ?_
    show Steps p.tables e below (T70.setTop (mkF m 230 #[.val (.long q1), .second, .val (.long q2), .second, .val (.int p3), .val (.int p4), .val (.int wd), .val (.int os), .val (.ref b1), .val (.ref b39), .val (.ref b41), .unset, .unset] [])) _
    refine XS.aload X70.here hx rfl (hb hby at_230) rfl rfl ?_
    show Steps p.tables e below (T70.setTop (mkF m 232 #[.val (.long q1), .second, .val (.long q2), .second, .val (.int p3), .val (.int p4), .val (.int wd), .val (.int os), .val (.ref b1), .val (.ref b39), .val (.ref b41), .unset, .unset] [(.ref b39)])) _
    refine XS.aload X70.here hx rfl (hb hby at_232) rfl rfl ?_
    show Steps p.tables e below (T70.setTop (mkF m 234 #[.val (.long q1), .second, .val (.long q2), .second, .val (.int p3), .val (.int p4), .val (.int wd), .val (.int os), .val (.ref b1), .val (.ref b39), .val (.ref b41), .unset, .unset] [(.ref b41), (.ref b39)])) _
    refine XS.lloadN X70.here hx rfl (hb hby at_234) rfl ?_
    show Steps p.tables e below (T70.setTop (mkF m 235 #[.val (.long q1), .second, .val (.long q2), .second, .val (.int p3), .val (.int p4), .val (.int wd), .val (.int os), .val (.ref b1), .val (.ref b39), .val (.ref b41), .unset, .unset] [(.long q1), (.ref b41), (.ref b39)])) _
    refine XS.lloadN X70.here hx rfl (hb hby at_235) rfl ?_
    show Steps p.tables e below (T70.setTop (mkF m 236 #[.val (.long q1), .second, .val (.long q2), .second, .val (.int p3), .val (.int p4), .val (.int wd), .val (.int os), .val (.ref b1), .val (.ref b39), .val (.ref b41), .unset, .unset] [(.long q2), (.long q1), (.ref b41), (.ref b39)])) _
    refine XS.bipush X70.here hx rfl (hb hby at_236) ?_
    show Steps p.tables e below (T70.setTop (mkF m 238 #[.val (.long q1), .second, .val (.long q2), .second, .val (.int p3), .val (.int p4), .val (.int wd), .val (.int os), .val (.ref b1), .val (.ref b39), .val (.ref b41), .unset, .unset] [(.int (7 : Int32)), (.long q2), (.long q1), (.ref b41), (.ref b39)])) _
    refine st74 _ ?_
    show Steps p.tables e below (T74.setTop (mkF m 241 #[.val (.long q1), .second, .val (.long q2), .second, .val (.int p3), .val (.int p4), .val (.int wd), .val (.int os), .val (.ref b1), .val (.ref b39), .val (.ref b41), .unset, .unset] [])) _
    refine XS.aload X74.here hx rfl (hb hby at_241) rfl rfl ?_
    show Steps p.tables e below (T74.setTop (mkF m 243 #[.val (.long q1), .second, .val (.long q2), .second, .val (.int p3), .val (.int p4), .val (.int wd), .val (.int os), .val (.ref b1), .val (.ref b39), .val (.ref b41), .unset, .unset] [(.ref b39)])) _
    refine XS.aload X74.here hx rfl (hb hby at_243) rfl rfl ?_
    show Steps p.tables e below (T74.setTop (mkF m 245 #[.val (.long q1), .second, .val (.long q2), .second, .val (.int p3), .val (.int p4), .val (.int wd), .val (.int os), .val (.ref b1), .val (.ref b39), .val (.ref b41), .unset, .unset] [(.ref b41), (.ref b39)])) _
    refine XS.lloadN X74.here hx rfl (hb hby at_245) rfl ?_
    show Steps p.tables e below (T74.setTop (mkF m 246 #[.val (.long q1), .second, .val (.long q2), .second, .val (.int p3), .val (.int p4), .val (.int wd), .val (.int os), .val (.ref b1), .val (.ref b39), .val (.ref b41), .unset, .unset] [(.long q1), (.ref b41), (.ref b39)])) _
    refine XS.lloadN X74.here hx rfl (hb hby at_246) rfl ?_
    show Steps p.tables e below (T74.setTop (mkF m 247 #[.val (.long q1), .second, .val (.long q2), .second, .val (.int p3), .val (.int p4), .val (.int wd), .val (.int os), .val (.ref b1), .val (.ref b39), .val (.ref b41), .unset, .unset] [(.long q2), (.long q1), (.ref b41), (.ref b39)])) _
    refine XS.bipush X74.here hx rfl (hb hby at_247) ?_
    show Steps p.tables e below (T74.setTop (mkF m 249 #[.val (.long q1), .second, .val (.long q2), .second, .val (.int p3), .val (.int p4), .val (.int wd), .val (.int os), .val (.ref b1), .val (.ref b39), .val (.ref b41), .unset, .unset] [(.int (8 : Int32)), (.long q2), (.long q1), (.ref b41), (.ref b39)])) _
    refine st78 _ ?_
    show Steps p.tables e below (T78.setTop (mkF m 252 #[.val (.long q1), .second, .val (.long q2), .second, .val (.int p3), .val (.int p4), .val (.int wd), .val (.int os), .val (.ref b1), .val (.ref b39), .val (.ref b41), .unset, .unset] [])) _
    exact k
  have f82 : AV Z T78.heap b1 k1 .long 18 (fun i => Value.long (fn37 i)) := (((((((((fc0.keep p46_0 (ninS ne_b1_b39 (ninS ne_b1_b41 nin0))).keep p50_0 (ninS ne_b1_b39 (ninS ne_b1_b41 nin0))).keep p54_0 (ninS ne_b1_b39 (ninS ne_b1_b41 nin0))).keep p58_0 (ninS ne_b1_b39 (ninS ne_b1_b41 nin0))).keep p62_0 (ninS ne_b1_b39 (ninS ne_b1_b41 nin0))).keep p66_0 (ninS ne_b1_b39 (ninS ne_b1_b41 nin0))).keep p70_0 (ninS ne_b1_b39 (ninS ne_b1_b41 nin0))).keep p74_0 (ninS ne_b1_b39 (ninS ne_b1_b41 nin0))).keep p78_0 (ninS ne_b1_b39 (ninS ne_b1_b41 nin0)))
  exact own_mid2 l Z a0 hw ws q1 q2 p3 p4 wd os W O b1 b39 b41 k1 k39 k41 fn37 fn80 fn81 h0 n0 Bd hml hZ T78 T78.heap _ X78 rfl N78 z79  f82 V80 V81 ne_b1_b39 ne_b1_b41 ne_b39_b41 g_b1 g_b39 g_b41 hwW hoO hOW hP18 hD9 hR9
set_option maxRecDepth 65536 in
set_option maxHeartbeats 40000000 in
theorem rm0 (l : Launch) (Z : State) (a0 : Array Value) (hw : ∀ d ∈ tables_1, d.before a0 Z = true) (ws : List Jvm.Cond) (q1 : Int64) (q2 : Int64) (p3 : Int32) (p4 : Int32) (h0 : Heap) (n0 : Nat) (Z0 : n0 ≤ h0.size) :
    MetFree l x (head1 (Jvm.Cond.code x code maxLocals ret :: ws) room_1) (fun a U => a = #[(.long q1), (.long q2), (.int p3), (.int p4)] ∧ Z.Warmed39 U.vm ∧ U.heap = h0) (fun _ _ _ _ _ => True) (fun _ U o U' => ∃ v L, o = .returned v ∧ Q0 Z q1 q2 p3 p4 h0 n0 v U'.heap L ∧ FrameEnd U o U' L 16 192) := by
  refine MetFree.of_bodySF (plainFor_of_name pn_0) hisR ?_
  intro p e s m args below meth c s₁ Bd hml0 hP hK
  obtain ⟨rfl, hZ, hh⟩ := hP
  have hx := Bd.exec
  have hby := Bd.bytes
  have hml : c.maxLocals = 13 := hml0
  have hown : s.vm.findClass "com/example/poukaz/poukaz/FieldKindNumberPinLaw" = some m.cls := findClass_of_methodNamed Bd.named
  have hnm := (name_of_methodNamed Bd.named Bd.method).1
  have X0 : Stand p l e room_1 s m #[(.long q1), (.long q2), (.int p3), (.int p4)] below meth c s₁ [] 0 0 := Stand.of_body Bd
  have e0 : s₁.heap = h0 := by rw [← hh, Bd.state]; rfl
  have N0 := Fr.nil n0
  show GoalS p.tables e below s 16 192 (Q0 Z q1 q2 p3 p4 h0 n0) (s₁.setTop (entryFrame m #[(.long q1), (.long q2), (.int p3), (.int p4)] maxLocals))
  refine GoalS.lift (B := s₁.setTop (mkF m 0 #[.val (.long q1), .second, .val (.long q2), .second, .val (.int p3), .val (.int p4), .unset, .unset, .unset, .unset, .unset, .unset, .unset] [])) (fun t k => castTop (ef_rm0 m q1 q2 p3 p4) k) ?_
  obtain ⟨wd, hwd⟩ : ∃ z : Int32, z = ((p4 &&& (2147483647 : Int32)) % (19 : Int32)) := ⟨_, rfl⟩
  refine GoalS.lift (B := (s₁.setTop (mkF m 8 #[.val (.long q1), .second, .val (.long q2), .second, .val (.int p3), .val (.int p4), .unset, .unset, .unset, .unset, .unset, .unset, .unset] [(.int wd)]))) (fun t k => ?_) ?_
  · show Steps p.tables e below (s₁.setTop (mkF m 0 #[.val (.long q1), .second, .val (.long q2), .second, .val (.int p3), .val (.int p4), .unset, .unset, .unset, .unset, .unset, .unset, .unset] [])) _
    refine XS.iload X0.here hx rfl (hb hby at_0) rfl ?_
    show Steps p.tables e below (s₁.setTop (mkF m 2 #[.val (.long q1), .second, .val (.long q2), .second, .val (.int p3), .val (.int p4), .unset, .unset, .unset, .unset, .unset, .unset, .unset] [(.int p4)])) _
    refine X0.ldcInt hx hown (mvT hZ (hw _ (List.mem_of_getElem? (i := 0) rfl))) (g := (mkF m 2 #[.val (.long q1), .second, .val (.long q2), .second, .val (.int p3), .val (.int p4), .unset, .unset, .unset, .unset, .unset, .unset, .unset] [(.int p4)])) rfl (hb hby at_2) _ ?_
    show Steps p.tables e below (s₁.setTop (mkF m 4 #[.val (.long q1), .second, .val (.long q2), .second, .val (.int p3), .val (.int p4), .unset, .unset, .unset, .unset, .unset, .unset, .unset] [(.int (2147483647 : Int32)), (.int p4)])) _
    refine XS.iand X0.here hx rfl (hb hby at_4) rfl ?_
    show Steps p.tables e below (s₁.setTop (mkF m 5 #[.val (.long q1), .second, .val (.long q2), .second, .val (.int p3), .val (.int p4), .unset, .unset, .unset, .unset, .unset, .unset, .unset] [(.int (p4 &&& (2147483647 : Int32)))])) _
    refine XS.bipush X0.here hx rfl (hb hby at_5) ?_
    show Steps p.tables e below (s₁.setTop (mkF m 7 #[.val (.long q1), .second, .val (.long q2), .second, .val (.int p3), .val (.int p4), .unset, .unset, .unset, .unset, .unset, .unset, .unset] [(.int (19 : Int32)), (.int (p4 &&& (2147483647 : Int32)))])) _
    refine iremM X0 hx rfl (hb hby at_7) rfl (by decide) ?_
    rw [hwd] at k
    exact k
  obtain ⟨W, hW, hwW⟩ := own_wd p4
  rw [← hwd] at hwW
  obtain ⟨os, hos⟩ : ∃ z : Int32, z = ((p3 &&& (2147483647 : Int32)) % ((19 : Int32) - wd)) := ⟨_, rfl⟩
  refine GoalS.lift (B := (s₁.setTop (mkF m 21 #[.val (.long q1), .second, .val (.long q2), .second, .val (.int p3), .val (.int p4), .val (.int wd), .unset, .unset, .unset, .unset, .unset, .unset] [(.int os)]))) (fun t k => ?_) ?_
  · show Steps p.tables e below (s₁.setTop (mkF m 8 #[.val (.long q1), .second, .val (.long q2), .second, .val (.int p3), .val (.int p4), .unset, .unset, .unset, .unset, .unset, .unset, .unset] [(.int wd)])) _
    refine XS.istore X0.here hx rfl (hb hby at_8) rfl (l' := #[.val (.long q1), .second, .val (.long q2), .second, .val (.int p3), .val (.int p4), .val (.int wd), .unset, .unset, .unset, .unset, .unset, .unset]) rfl ?_
    show Steps p.tables e below (s₁.setTop (mkF m 10 #[.val (.long q1), .second, .val (.long q2), .second, .val (.int p3), .val (.int p4), .val (.int wd), .unset, .unset, .unset, .unset, .unset, .unset] [])) _
    refine XS.iload X0.here hx rfl (hb hby at_10) rfl ?_
    show Steps p.tables e below (s₁.setTop (mkF m 12 #[.val (.long q1), .second, .val (.long q2), .second, .val (.int p3), .val (.int p4), .val (.int wd), .unset, .unset, .unset, .unset, .unset, .unset] [(.int p3)])) _
    refine X0.ldcInt hx hown (mvT hZ (hw _ (List.mem_of_getElem? (i := 0) rfl))) (g := (mkF m 12 #[.val (.long q1), .second, .val (.long q2), .second, .val (.int p3), .val (.int p4), .val (.int wd), .unset, .unset, .unset, .unset, .unset, .unset] [(.int p3)])) rfl (hb hby at_12) _ ?_
    show Steps p.tables e below (s₁.setTop (mkF m 14 #[.val (.long q1), .second, .val (.long q2), .second, .val (.int p3), .val (.int p4), .val (.int wd), .unset, .unset, .unset, .unset, .unset, .unset] [(.int (2147483647 : Int32)), (.int p3)])) _
    refine XS.iand X0.here hx rfl (hb hby at_14) rfl ?_
    show Steps p.tables e below (s₁.setTop (mkF m 15 #[.val (.long q1), .second, .val (.long q2), .second, .val (.int p3), .val (.int p4), .val (.int wd), .unset, .unset, .unset, .unset, .unset, .unset] [(.int (p3 &&& (2147483647 : Int32)))])) _
    refine XS.bipush X0.here hx rfl (hb hby at_15) ?_
    show Steps p.tables e below (s₁.setTop (mkF m 17 #[.val (.long q1), .second, .val (.long q2), .second, .val (.int p3), .val (.int p4), .val (.int wd), .unset, .unset, .unset, .unset, .unset, .unset] [(.int (19 : Int32)), (.int (p3 &&& (2147483647 : Int32)))])) _
    refine XS.iload X0.here hx rfl (hb hby at_17) rfl ?_
    show Steps p.tables e below (s₁.setTop (mkF m 19 #[.val (.long q1), .second, .val (.long q2), .second, .val (.int p3), .val (.int p4), .val (.int wd), .unset, .unset, .unset, .unset, .unset, .unset] [(.int wd), (.int (19 : Int32)), (.int (p3 &&& (2147483647 : Int32)))])) _
    refine XS.isub X0.here hx rfl (hb hby at_19) rfl ?_
    show Steps p.tables e below (s₁.setTop (mkF m 20 #[.val (.long q1), .second, .val (.long q2), .second, .val (.int p3), .val (.int p4), .val (.int wd), .unset, .unset, .unset, .unset, .unset, .unset] [(.int ((19 : Int32) - wd)), (.int (p3 &&& (2147483647 : Int32)))])) _
    refine iremM X0 hx rfl (hb hby at_20) rfl (own_nz hW hwW) ?_
    rw [hos] at k
    exact k
  obtain ⟨O, hOW, hoO⟩ := own_os p3 hW hwW
  rw [← hos] at hoO
  obtain ⟨T1, h1, k1, X1, e1, E1, A1, st1⟩ := newP X0 hx hZ (hw _ (List.mem_of_getElem? (i := 1) rfl)) e0 (g := (mkF m 25 #[.val (.long q1), .second, .val (.long q2), .second, .val (.int p3), .val (.int p4), .val (.int wd), .val (.int os), .unset, .unset, .unset, .unset, .unset] [(.int (18 : Int32))])) rfl (hb hby at_25) rfl (by decide) (cap := 18) (by decide) (by decide) (by decide) (by decide)
  obtain ⟨b1, g1⟩ : ∃ z, z = h0.size := ⟨_, rfl⟩
  rw [← g1] at A1 st1
  have g_b1 : n0 ≤ b1 := Nat.le_trans Z0 (Nat.le_of_eq g1.symm)
  have z2 : n0 ≤ h1.size := Nat.le_trans Z0 E1.1
  have V1 : AV Z h1 b1 k1 .long 18 (fun i => Value.long ((fun _ => (0 : Int64)) i)) := AV.new A1 (by decide) (by decide) (by decide)
  obtain ⟨cl3, Ar3, kc3, sz3, -, -⟩ := id V1
  have hin3 : ¬ ((0 : Int32) < 0 ∨ cl3.slots.size ≤ ((0 : Int32)).toNatClampNeg) := AV.inb sz3 (show ¬ (0 : Int32) < 0 ∧ ((0 : Int32)).toNatClampNeg < 18 by decide)
  obtain ⟨T3, h3, X3, e3, W3, st3⟩ := stJ X1 hx hZ e1 Ar3 (j := (0 : Int32)) hin3 (g := (mkF m 30 #[.val (.long q1), .second, .val (.long q2), .second, .val (.int p3), .val (.int p4), .val (.int wd), .val (.int os), .unset, .unset, .unset, .unset, .unset] [(.long (1 : Int64)), (.int (0 : Int32)), (.ref b1), (.ref b1)])) rfl rfl (hb hby at_30)
  have z4 : n0 ≤ h3.size := Nat.le_trans z2 (Keep.of_wr W3).1
  obtain ⟨fn3, hfn3⟩ : ∃ z, z = (updJ (fun _ => (0 : Int64)) 0 (1 : Int64)) := ⟨_, rfl⟩
  have V3 : AV Z h3 b1 k1 .long 18 (fun i => Value.long (fn3 i)) := (by rw [hfn3]; exact AV.putJ V1 W3 (AV.inx (show ¬ (0 : Int32) < 0 ∧ ((0 : Int32)).toNatClampNeg < 18 by decide)))
  have N3 := Fr.snoc X3 N0 g_b1
  have hP1 : ∀ i, i < 1 → fn3 i = own_p10 i := own_extJ (fun i hi => absurd hi (Nat.not_lt_zero i)) hfn3 rfl (by decide)
  obtain ⟨cl5, Ar5, kc5, sz5, -, -⟩ := id V3
  have hin5 : ¬ ((1 : Int32) < 0 ∨ cl5.slots.size ≤ ((1 : Int32)).toNatClampNeg) := AV.inb sz5 (show ¬ (1 : Int32) < 0 ∧ ((1 : Int32)).toNatClampNeg < 18 by decide)
  obtain ⟨T5, h5, X5, e5, W5, st5⟩ := stJ X3 hx hZ e3 Ar5 (j := (1 : Int32)) hin5 (g := (mkF m 36 #[.val (.long q1), .second, .val (.long q2), .second, .val (.int p3), .val (.int p4), .val (.int wd), .val (.int os), .unset, .unset, .unset, .unset, .unset] [(.long (10 : Int64)), (.int (1 : Int32)), (.ref b1), (.ref b1)])) rfl rfl (hb hby at_36)
  have z6 : n0 ≤ h5.size := Nat.le_trans z4 (Keep.of_wr W5).1
  obtain ⟨fn5, hfn5⟩ : ∃ z, z = (updJ fn3 1 (10 : Int64)) := ⟨_, rfl⟩
  have V5 : AV Z h5 b1 k1 .long 18 (fun i => Value.long (fn5 i)) := (by rw [hfn5]; exact AV.putJ V3 W5 (AV.inx (show ¬ (1 : Int32) < 0 ∧ ((1 : Int32)).toNatClampNeg < 18 by decide)))
  have N5 := Fr.snoc X5 N3 g_b1
  have hP2 : ∀ i, i < 2 → fn5 i = own_p10 i := own_extJ hP1 hfn5 rfl (by decide)
  obtain ⟨cl7, Ar7, kc7, sz7, -, -⟩ := id V5
  have hin7 : ¬ ((2 : Int32) < 0 ∨ cl7.slots.size ≤ ((2 : Int32)).toNatClampNeg) := AV.inb sz7 (show ¬ (2 : Int32) < 0 ∧ ((2 : Int32)).toNatClampNeg < 18 by decide)
  obtain ⟨T7, h7, X7, e7, W7, st7⟩ := stJ X5 hx hZ e5 Ar7 (j := (2 : Int32)) hin7 (g := (mkF m 42 #[.val (.long q1), .second, .val (.long q2), .second, .val (.int p3), .val (.int p4), .val (.int wd), .val (.int os), .unset, .unset, .unset, .unset, .unset] [(.long (100 : Int64)), (.int (2 : Int32)), (.ref b1), (.ref b1)])) rfl rfl (hb hby at_42)
  have z8 : n0 ≤ h7.size := Nat.le_trans z6 (Keep.of_wr W7).1
  obtain ⟨fn7, hfn7⟩ : ∃ z, z = (updJ fn5 2 (100 : Int64)) := ⟨_, rfl⟩
  have V7 : AV Z h7 b1 k1 .long 18 (fun i => Value.long (fn7 i)) := (by rw [hfn7]; exact AV.putJ V5 W7 (AV.inx (show ¬ (2 : Int32) < 0 ∧ ((2 : Int32)).toNatClampNeg < 18 by decide)))
  have N7 := Fr.snoc X7 N5 g_b1
  have hP3 : ∀ i, i < 3 → fn7 i = own_p10 i := own_extJ hP2 hfn7 rfl (by decide)
  obtain ⟨cl9, Ar9, kc9, sz9, -, -⟩ := id V7
  have hin9 : ¬ ((3 : Int32) < 0 ∨ cl9.slots.size ≤ ((3 : Int32)).toNatClampNeg) := AV.inb sz9 (show ¬ (3 : Int32) < 0 ∧ ((3 : Int32)).toNatClampNeg < 18 by decide)
  obtain ⟨T9, h9, X9, e9, W9, st9⟩ := stJ X7 hx hZ e7 Ar9 (j := (3 : Int32)) hin9 (g := (mkF m 48 #[.val (.long q1), .second, .val (.long q2), .second, .val (.int p3), .val (.int p4), .val (.int wd), .val (.int os), .unset, .unset, .unset, .unset, .unset] [(.long (1000 : Int64)), (.int (3 : Int32)), (.ref b1), (.ref b1)])) rfl rfl (hb hby at_48)
  have z10 : n0 ≤ h9.size := Nat.le_trans z8 (Keep.of_wr W9).1
  obtain ⟨fn9, hfn9⟩ : ∃ z, z = (updJ fn7 3 (1000 : Int64)) := ⟨_, rfl⟩
  have V9 : AV Z h9 b1 k1 .long 18 (fun i => Value.long (fn9 i)) := (by rw [hfn9]; exact AV.putJ V7 W9 (AV.inx (show ¬ (3 : Int32) < 0 ∧ ((3 : Int32)).toNatClampNeg < 18 by decide)))
  have N9 := Fr.snoc X9 N7 g_b1
  have hP4 : ∀ i, i < 4 → fn9 i = own_p10 i := own_extJ hP3 hfn9 rfl (by decide)
  obtain ⟨cl11, Ar11, kc11, sz11, -, -⟩ := id V9
  have hin11 : ¬ ((4 : Int32) < 0 ∨ cl11.slots.size ≤ ((4 : Int32)).toNatClampNeg) := AV.inb sz11 (show ¬ (4 : Int32) < 0 ∧ ((4 : Int32)).toNatClampNeg < 18 by decide)
  obtain ⟨T11, h11, X11, e11, W11, st11⟩ := stJ X9 hx hZ e9 Ar11 (j := (4 : Int32)) hin11 (g := (mkF m 54 #[.val (.long q1), .second, .val (.long q2), .second, .val (.int p3), .val (.int p4), .val (.int wd), .val (.int os), .unset, .unset, .unset, .unset, .unset] [(.long (10000 : Int64)), (.int (4 : Int32)), (.ref b1), (.ref b1)])) rfl rfl (hb hby at_54)
  have z12 : n0 ≤ h11.size := Nat.le_trans z10 (Keep.of_wr W11).1
  obtain ⟨fn11, hfn11⟩ : ∃ z, z = (updJ fn9 4 (10000 : Int64)) := ⟨_, rfl⟩
  have V11 : AV Z h11 b1 k1 .long 18 (fun i => Value.long (fn11 i)) := (by rw [hfn11]; exact AV.putJ V9 W11 (AV.inx (show ¬ (4 : Int32) < 0 ∧ ((4 : Int32)).toNatClampNeg < 18 by decide)))
  have N11 := Fr.snoc X11 N9 g_b1
  have hP5 : ∀ i, i < 5 → fn11 i = own_p10 i := own_extJ hP4 hfn11 rfl (by decide)
  obtain ⟨cl13, Ar13, kc13, sz13, -, -⟩ := id V11
  have hin13 : ¬ ((5 : Int32) < 0 ∨ cl13.slots.size ≤ ((5 : Int32)).toNatClampNeg) := AV.inb sz13 (show ¬ (5 : Int32) < 0 ∧ ((5 : Int32)).toNatClampNeg < 18 by decide)
  obtain ⟨T13, h13, X13, e13, W13, st13⟩ := stJ X11 hx hZ e11 Ar13 (j := (5 : Int32)) hin13 (g := (mkF m 60 #[.val (.long q1), .second, .val (.long q2), .second, .val (.int p3), .val (.int p4), .val (.int wd), .val (.int os), .unset, .unset, .unset, .unset, .unset] [(.long (100000 : Int64)), (.int (5 : Int32)), (.ref b1), (.ref b1)])) rfl rfl (hb hby at_60)
  have z14 : n0 ≤ h13.size := Nat.le_trans z12 (Keep.of_wr W13).1
  obtain ⟨fn13, hfn13⟩ : ∃ z, z = (updJ fn11 5 (100000 : Int64)) := ⟨_, rfl⟩
  have V13 : AV Z h13 b1 k1 .long 18 (fun i => Value.long (fn13 i)) := (by rw [hfn13]; exact AV.putJ V11 W13 (AV.inx (show ¬ (5 : Int32) < 0 ∧ ((5 : Int32)).toNatClampNeg < 18 by decide)))
  have N13 := Fr.snoc X13 N11 g_b1
  have hP6 : ∀ i, i < 6 → fn13 i = own_p10 i := own_extJ hP5 hfn13 rfl (by decide)
  obtain ⟨cl15, Ar15, kc15, sz15, -, -⟩ := id V13
  have hin15 : ¬ ((6 : Int32) < 0 ∨ cl15.slots.size ≤ ((6 : Int32)).toNatClampNeg) := AV.inb sz15 (show ¬ (6 : Int32) < 0 ∧ ((6 : Int32)).toNatClampNeg < 18 by decide)
  obtain ⟨T15, h15, X15, e15, W15, st15⟩ := stJ X13 hx hZ e13 Ar15 (j := (6 : Int32)) hin15 (g := (mkF m 67 #[.val (.long q1), .second, .val (.long q2), .second, .val (.int p3), .val (.int p4), .val (.int wd), .val (.int os), .unset, .unset, .unset, .unset, .unset] [(.long (1000000 : Int64)), (.int (6 : Int32)), (.ref b1), (.ref b1)])) rfl rfl (hb hby at_67)
  have z16 : n0 ≤ h15.size := Nat.le_trans z14 (Keep.of_wr W15).1
  obtain ⟨fn15, hfn15⟩ : ∃ z, z = (updJ fn13 6 (1000000 : Int64)) := ⟨_, rfl⟩
  have V15 : AV Z h15 b1 k1 .long 18 (fun i => Value.long (fn15 i)) := (by rw [hfn15]; exact AV.putJ V13 W15 (AV.inx (show ¬ (6 : Int32) < 0 ∧ ((6 : Int32)).toNatClampNeg < 18 by decide)))
  have N15 := Fr.snoc X15 N13 g_b1
  have hP7 : ∀ i, i < 7 → fn15 i = own_p10 i := own_extJ hP6 hfn15 rfl (by decide)
  obtain ⟨cl17, Ar17, kc17, sz17, -, -⟩ := id V15
  have hin17 : ¬ ((7 : Int32) < 0 ∨ cl17.slots.size ≤ ((7 : Int32)).toNatClampNeg) := AV.inb sz17 (show ¬ (7 : Int32) < 0 ∧ ((7 : Int32)).toNatClampNeg < 18 by decide)
  obtain ⟨T17, h17, X17, e17, W17, st17⟩ := stJ X15 hx hZ e15 Ar17 (j := (7 : Int32)) hin17 (g := (mkF m 74 #[.val (.long q1), .second, .val (.long q2), .second, .val (.int p3), .val (.int p4), .val (.int wd), .val (.int os), .unset, .unset, .unset, .unset, .unset] [(.long (10000000 : Int64)), (.int (7 : Int32)), (.ref b1), (.ref b1)])) rfl rfl (hb hby at_74)
  have z18 : n0 ≤ h17.size := Nat.le_trans z16 (Keep.of_wr W17).1
  obtain ⟨fn17, hfn17⟩ : ∃ z, z = (updJ fn15 7 (10000000 : Int64)) := ⟨_, rfl⟩
  have V17 : AV Z h17 b1 k1 .long 18 (fun i => Value.long (fn17 i)) := (by rw [hfn17]; exact AV.putJ V15 W17 (AV.inx (show ¬ (7 : Int32) < 0 ∧ ((7 : Int32)).toNatClampNeg < 18 by decide)))
  have N17 := Fr.snoc X17 N15 g_b1
  have hP8 : ∀ i, i < 8 → fn17 i = own_p10 i := own_extJ hP7 hfn17 rfl (by decide)
  obtain ⟨cl19, Ar19, kc19, sz19, -, -⟩ := id V17
  have hin19 : ¬ ((8 : Int32) < 0 ∨ cl19.slots.size ≤ ((8 : Int32)).toNatClampNeg) := AV.inb sz19 (show ¬ (8 : Int32) < 0 ∧ ((8 : Int32)).toNatClampNeg < 18 by decide)
  obtain ⟨T19, h19, X19, e19, W19, st19⟩ := stJ X17 hx hZ e17 Ar19 (j := (8 : Int32)) hin19 (g := (mkF m 81 #[.val (.long q1), .second, .val (.long q2), .second, .val (.int p3), .val (.int p4), .val (.int wd), .val (.int os), .unset, .unset, .unset, .unset, .unset] [(.long (100000000 : Int64)), (.int (8 : Int32)), (.ref b1), (.ref b1)])) rfl rfl (hb hby at_81)
  have z20 : n0 ≤ h19.size := Nat.le_trans z18 (Keep.of_wr W19).1
  obtain ⟨fn19, hfn19⟩ : ∃ z, z = (updJ fn17 8 (100000000 : Int64)) := ⟨_, rfl⟩
  have V19 : AV Z h19 b1 k1 .long 18 (fun i => Value.long (fn19 i)) := (by rw [hfn19]; exact AV.putJ V17 W19 (AV.inx (show ¬ (8 : Int32) < 0 ∧ ((8 : Int32)).toNatClampNeg < 18 by decide)))
  have N19 := Fr.snoc X19 N17 g_b1
  have hP9 : ∀ i, i < 9 → fn19 i = own_p10 i := own_extJ hP8 hfn19 rfl (by decide)
  obtain ⟨cl21, Ar21, kc21, sz21, -, -⟩ := id V19
  have hin21 : ¬ ((9 : Int32) < 0 ∨ cl21.slots.size ≤ ((9 : Int32)).toNatClampNeg) := AV.inb sz21 (show ¬ (9 : Int32) < 0 ∧ ((9 : Int32)).toNatClampNeg < 18 by decide)
  obtain ⟨T21, h21, X21, e21, W21, st21⟩ := stJ X19 hx hZ e19 Ar21 (j := (9 : Int32)) hin21 (g := (mkF m 88 #[.val (.long q1), .second, .val (.long q2), .second, .val (.int p3), .val (.int p4), .val (.int wd), .val (.int os), .unset, .unset, .unset, .unset, .unset] [(.long (1000000000 : Int64)), (.int (9 : Int32)), (.ref b1), (.ref b1)])) rfl rfl (hb hby at_88)
  have z22 : n0 ≤ h21.size := Nat.le_trans z20 (Keep.of_wr W21).1
  obtain ⟨fn21, hfn21⟩ : ∃ z, z = (updJ fn19 9 (1000000000 : Int64)) := ⟨_, rfl⟩
  have V21 : AV Z h21 b1 k1 .long 18 (fun i => Value.long (fn21 i)) := (by rw [hfn21]; exact AV.putJ V19 W21 (AV.inx (show ¬ (9 : Int32) < 0 ∧ ((9 : Int32)).toNatClampNeg < 18 by decide)))
  have N21 := Fr.snoc X21 N19 g_b1
  have hP10 : ∀ i, i < 10 → fn21 i = own_p10 i := own_extJ hP9 hfn21 rfl (by decide)
  obtain ⟨cl23, Ar23, kc23, sz23, -, -⟩ := id V21
  have hin23 : ¬ ((10 : Int32) < 0 ∨ cl23.slots.size ≤ ((10 : Int32)).toNatClampNeg) := AV.inb sz23 (show ¬ (10 : Int32) < 0 ∧ ((10 : Int32)).toNatClampNeg < 18 by decide)
  obtain ⟨T23, h23, X23, e23, W23, st23⟩ := stJ X21 hx hZ e21 Ar23 (j := (10 : Int32)) hin23 (g := (mkF m 95 #[.val (.long q1), .second, .val (.long q2), .second, .val (.int p3), .val (.int p4), .val (.int wd), .val (.int os), .unset, .unset, .unset, .unset, .unset] [(.long (10000000000 : Int64)), (.int (10 : Int32)), (.ref b1), (.ref b1)])) rfl rfl (hb hby at_95)
  have z24 : n0 ≤ h23.size := Nat.le_trans z22 (Keep.of_wr W23).1
  obtain ⟨fn23, hfn23⟩ : ∃ z, z = (updJ fn21 10 (10000000000 : Int64)) := ⟨_, rfl⟩
  have V23 : AV Z h23 b1 k1 .long 18 (fun i => Value.long (fn23 i)) := (by rw [hfn23]; exact AV.putJ V21 W23 (AV.inx (show ¬ (10 : Int32) < 0 ∧ ((10 : Int32)).toNatClampNeg < 18 by decide)))
  have N23 := Fr.snoc X23 N21 g_b1
  have hP11 : ∀ i, i < 11 → fn23 i = own_p10 i := own_extJ hP10 hfn23 rfl (by decide)
  obtain ⟨cl25, Ar25, kc25, sz25, -, -⟩ := id V23
  have hin25 : ¬ ((11 : Int32) < 0 ∨ cl25.slots.size ≤ ((11 : Int32)).toNatClampNeg) := AV.inb sz25 (show ¬ (11 : Int32) < 0 ∧ ((11 : Int32)).toNatClampNeg < 18 by decide)
  obtain ⟨T25, h25, X25, e25, W25, st25⟩ := stJ X23 hx hZ e23 Ar25 (j := (11 : Int32)) hin25 (g := (mkF m 102 #[.val (.long q1), .second, .val (.long q2), .second, .val (.int p3), .val (.int p4), .val (.int wd), .val (.int os), .unset, .unset, .unset, .unset, .unset] [(.long (100000000000 : Int64)), (.int (11 : Int32)), (.ref b1), (.ref b1)])) rfl rfl (hb hby at_102)
  have z26 : n0 ≤ h25.size := Nat.le_trans z24 (Keep.of_wr W25).1
  obtain ⟨fn25, hfn25⟩ : ∃ z, z = (updJ fn23 11 (100000000000 : Int64)) := ⟨_, rfl⟩
  have V25 : AV Z h25 b1 k1 .long 18 (fun i => Value.long (fn25 i)) := (by rw [hfn25]; exact AV.putJ V23 W25 (AV.inx (show ¬ (11 : Int32) < 0 ∧ ((11 : Int32)).toNatClampNeg < 18 by decide)))
  have N25 := Fr.snoc X25 N23 g_b1
  have hP12 : ∀ i, i < 12 → fn25 i = own_p10 i := own_extJ hP11 hfn25 rfl (by decide)
  obtain ⟨cl27, Ar27, kc27, sz27, -, -⟩ := id V25
  have hin27 : ¬ ((12 : Int32) < 0 ∨ cl27.slots.size ≤ ((12 : Int32)).toNatClampNeg) := AV.inb sz27 (show ¬ (12 : Int32) < 0 ∧ ((12 : Int32)).toNatClampNeg < 18 by decide)
  obtain ⟨T27, h27, X27, e27, W27, st27⟩ := stJ X25 hx hZ e25 Ar27 (j := (12 : Int32)) hin27 (g := (mkF m 109 #[.val (.long q1), .second, .val (.long q2), .second, .val (.int p3), .val (.int p4), .val (.int wd), .val (.int os), .unset, .unset, .unset, .unset, .unset] [(.long (1000000000000 : Int64)), (.int (12 : Int32)), (.ref b1), (.ref b1)])) rfl rfl (hb hby at_109)
  have z28 : n0 ≤ h27.size := Nat.le_trans z26 (Keep.of_wr W27).1
  obtain ⟨fn27, hfn27⟩ : ∃ z, z = (updJ fn25 12 (1000000000000 : Int64)) := ⟨_, rfl⟩
  have V27 : AV Z h27 b1 k1 .long 18 (fun i => Value.long (fn27 i)) := (by rw [hfn27]; exact AV.putJ V25 W27 (AV.inx (show ¬ (12 : Int32) < 0 ∧ ((12 : Int32)).toNatClampNeg < 18 by decide)))
  have N27 := Fr.snoc X27 N25 g_b1
  have hP13 : ∀ i, i < 13 → fn27 i = own_p10 i := own_extJ hP12 hfn27 rfl (by decide)
  obtain ⟨cl29, Ar29, kc29, sz29, -, -⟩ := id V27
  have hin29 : ¬ ((13 : Int32) < 0 ∨ cl29.slots.size ≤ ((13 : Int32)).toNatClampNeg) := AV.inb sz29 (show ¬ (13 : Int32) < 0 ∧ ((13 : Int32)).toNatClampNeg < 18 by decide)
  obtain ⟨T29, h29, X29, e29, W29, st29⟩ := stJ X27 hx hZ e27 Ar29 (j := (13 : Int32)) hin29 (g := (mkF m 116 #[.val (.long q1), .second, .val (.long q2), .second, .val (.int p3), .val (.int p4), .val (.int wd), .val (.int os), .unset, .unset, .unset, .unset, .unset] [(.long (10000000000000 : Int64)), (.int (13 : Int32)), (.ref b1), (.ref b1)])) rfl rfl (hb hby at_116)
  have z30 : n0 ≤ h29.size := Nat.le_trans z28 (Keep.of_wr W29).1
  obtain ⟨fn29, hfn29⟩ : ∃ z, z = (updJ fn27 13 (10000000000000 : Int64)) := ⟨_, rfl⟩
  have V29 : AV Z h29 b1 k1 .long 18 (fun i => Value.long (fn29 i)) := (by rw [hfn29]; exact AV.putJ V27 W29 (AV.inx (show ¬ (13 : Int32) < 0 ∧ ((13 : Int32)).toNatClampNeg < 18 by decide)))
  have N29 := Fr.snoc X29 N27 g_b1
  have hP14 : ∀ i, i < 14 → fn29 i = own_p10 i := own_extJ hP13 hfn29 rfl (by decide)
  obtain ⟨cl31, Ar31, kc31, sz31, -, -⟩ := id V29
  have hin31 : ¬ ((14 : Int32) < 0 ∨ cl31.slots.size ≤ ((14 : Int32)).toNatClampNeg) := AV.inb sz31 (show ¬ (14 : Int32) < 0 ∧ ((14 : Int32)).toNatClampNeg < 18 by decide)
  obtain ⟨T31, h31, X31, e31, W31, st31⟩ := stJ X29 hx hZ e29 Ar31 (j := (14 : Int32)) hin31 (g := (mkF m 123 #[.val (.long q1), .second, .val (.long q2), .second, .val (.int p3), .val (.int p4), .val (.int wd), .val (.int os), .unset, .unset, .unset, .unset, .unset] [(.long (100000000000000 : Int64)), (.int (14 : Int32)), (.ref b1), (.ref b1)])) rfl rfl (hb hby at_123)
  have z32 : n0 ≤ h31.size := Nat.le_trans z30 (Keep.of_wr W31).1
  obtain ⟨fn31, hfn31⟩ : ∃ z, z = (updJ fn29 14 (100000000000000 : Int64)) := ⟨_, rfl⟩
  have V31 : AV Z h31 b1 k1 .long 18 (fun i => Value.long (fn31 i)) := (by rw [hfn31]; exact AV.putJ V29 W31 (AV.inx (show ¬ (14 : Int32) < 0 ∧ ((14 : Int32)).toNatClampNeg < 18 by decide)))
  have N31 := Fr.snoc X31 N29 g_b1
  have hP15 : ∀ i, i < 15 → fn31 i = own_p10 i := own_extJ hP14 hfn31 rfl (by decide)
  obtain ⟨cl33, Ar33, kc33, sz33, -, -⟩ := id V31
  have hin33 : ¬ ((15 : Int32) < 0 ∨ cl33.slots.size ≤ ((15 : Int32)).toNatClampNeg) := AV.inb sz33 (show ¬ (15 : Int32) < 0 ∧ ((15 : Int32)).toNatClampNeg < 18 by decide)
  obtain ⟨T33, h33, X33, e33, W33, st33⟩ := stJ X31 hx hZ e31 Ar33 (j := (15 : Int32)) hin33 (g := (mkF m 130 #[.val (.long q1), .second, .val (.long q2), .second, .val (.int p3), .val (.int p4), .val (.int wd), .val (.int os), .unset, .unset, .unset, .unset, .unset] [(.long (1000000000000000 : Int64)), (.int (15 : Int32)), (.ref b1), (.ref b1)])) rfl rfl (hb hby at_130)
  have z34 : n0 ≤ h33.size := Nat.le_trans z32 (Keep.of_wr W33).1
  obtain ⟨fn33, hfn33⟩ : ∃ z, z = (updJ fn31 15 (1000000000000000 : Int64)) := ⟨_, rfl⟩
  have V33 : AV Z h33 b1 k1 .long 18 (fun i => Value.long (fn33 i)) := (by rw [hfn33]; exact AV.putJ V31 W33 (AV.inx (show ¬ (15 : Int32) < 0 ∧ ((15 : Int32)).toNatClampNeg < 18 by decide)))
  have N33 := Fr.snoc X33 N31 g_b1
  have hP16 : ∀ i, i < 16 → fn33 i = own_p10 i := own_extJ hP15 hfn33 rfl (by decide)
  obtain ⟨cl35, Ar35, kc35, sz35, -, -⟩ := id V33
  have hin35 : ¬ ((16 : Int32) < 0 ∨ cl35.slots.size ≤ ((16 : Int32)).toNatClampNeg) := AV.inb sz35 (show ¬ (16 : Int32) < 0 ∧ ((16 : Int32)).toNatClampNeg < 18 by decide)
  obtain ⟨T35, h35, X35, e35, W35, st35⟩ := stJ X33 hx hZ e33 Ar35 (j := (16 : Int32)) hin35 (g := (mkF m 137 #[.val (.long q1), .second, .val (.long q2), .second, .val (.int p3), .val (.int p4), .val (.int wd), .val (.int os), .unset, .unset, .unset, .unset, .unset] [(.long (10000000000000000 : Int64)), (.int (16 : Int32)), (.ref b1), (.ref b1)])) rfl rfl (hb hby at_137)
  have z36 : n0 ≤ h35.size := Nat.le_trans z34 (Keep.of_wr W35).1
  obtain ⟨fn35, hfn35⟩ : ∃ z, z = (updJ fn33 16 (10000000000000000 : Int64)) := ⟨_, rfl⟩
  have V35 : AV Z h35 b1 k1 .long 18 (fun i => Value.long (fn35 i)) := (by rw [hfn35]; exact AV.putJ V33 W35 (AV.inx (show ¬ (16 : Int32) < 0 ∧ ((16 : Int32)).toNatClampNeg < 18 by decide)))
  have N35 := Fr.snoc X35 N33 g_b1
  have hP17 : ∀ i, i < 17 → fn35 i = own_p10 i := own_extJ hP16 hfn35 rfl (by decide)
  obtain ⟨cl37, Ar37, kc37, sz37, -, -⟩ := id V35
  have hin37 : ¬ ((17 : Int32) < 0 ∨ cl37.slots.size ≤ ((17 : Int32)).toNatClampNeg) := AV.inb sz37 (show ¬ (17 : Int32) < 0 ∧ ((17 : Int32)).toNatClampNeg < 18 by decide)
  obtain ⟨T37, h37, X37, e37, W37, st37⟩ := stJ X35 hx hZ e35 Ar37 (j := (17 : Int32)) hin37 (g := (mkF m 144 #[.val (.long q1), .second, .val (.long q2), .second, .val (.int p3), .val (.int p4), .val (.int wd), .val (.int os), .unset, .unset, .unset, .unset, .unset] [(.long (100000000000000000 : Int64)), (.int (17 : Int32)), (.ref b1), (.ref b1)])) rfl rfl (hb hby at_144)
  have z38 : n0 ≤ h37.size := Nat.le_trans z36 (Keep.of_wr W37).1
  obtain ⟨fn37, hfn37⟩ : ∃ z, z = (updJ fn35 17 (100000000000000000 : Int64)) := ⟨_, rfl⟩
  have V37 : AV Z h37 b1 k1 .long 18 (fun i => Value.long (fn37 i)) := (by rw [hfn37]; exact AV.putJ V35 W37 (AV.inx (show ¬ (17 : Int32) < 0 ∧ ((17 : Int32)).toNatClampNeg < 18 by decide)))
  have N37 := Fr.snoc X37 N35 g_b1
  have hP18 : ∀ i, i < 18 → fn37 i = own_p10 i := own_extJ hP17 hfn37 rfl (by decide)
  obtain ⟨T39, h39, k39, X39, e39, E39, A39, st39⟩ := newP X37 hx hZ (hw _ (List.mem_of_getElem? (i := 19) rfl)) e37 (g := (mkF m 149 #[.val (.long q1), .second, .val (.long q2), .second, .val (.int p3), .val (.int p4), .val (.int wd), .val (.int os), .val (.ref b1), .unset, .unset, .unset, .unset] [(.int (18 : Int32))])) rfl (hb hby at_149) rfl (by decide) (cap := 18) (by decide) (by decide) (by decide) (by decide)
  obtain ⟨b39, g39⟩ : ∃ z, z = h37.size := ⟨_, rfl⟩
  rw [← g39] at A39 st39
  have g_b39 : n0 ≤ b39 := Nat.le_trans z38 (Nat.le_of_eq g39.symm)
  have ne_b1_b39 : b1 ≠ b39 := Nat.ne_of_lt (Nat.lt_of_lt_of_le V37.lt (Nat.le_of_eq g39.symm))
  have z40 : n0 ≤ h39.size := Nat.le_trans z38 E39.1
  have V39 : AV Z h39 b39 k39 .int 18 (fun i => Value.int ((fun _ => (0 : Int32)) i)) := AV.new A39 (by decide) (by decide) (by decide)
  obtain ⟨T41, h41, k41, X41, e41, E41, A41, st41⟩ := newP X39 hx hZ (hw _ (List.mem_of_getElem? (i := 20) rfl)) e39 (g := (mkF m 155 #[.val (.long q1), .second, .val (.long q2), .second, .val (.int p3), .val (.int p4), .val (.int wd), .val (.int os), .val (.ref b1), .val (.ref b39), .unset, .unset, .unset] [(.int (18 : Int32))])) rfl (hb hby at_155) rfl (by decide) (cap := 18) (by decide) (by decide) (by decide) (by decide)
  obtain ⟨b41, g41⟩ : ∃ z, z = h39.size := ⟨_, rfl⟩
  rw [← g41] at A41 st41
  have g_b41 : n0 ≤ b41 := Nat.le_trans z40 (Nat.le_of_eq g41.symm)
  have f42 : AV Z h39 b1 k1 .long 18 (fun i => Value.long (fn37 i)) := (V37.ext E39)
  have ne_b1_b41 : b1 ≠ b41 := Nat.ne_of_lt (Nat.lt_of_lt_of_le f42.lt (Nat.le_of_eq g41.symm))
  have ne_b39_b41 : b39 ≠ b41 := Nat.ne_of_lt (Nat.lt_of_lt_of_le V39.lt (Nat.le_of_eq g41.symm))
  have z43 : n0 ≤ h41.size := Nat.le_trans z40 E41.1
  have V41 : AV Z h41 b41 k41 .byte 18 (fun i => Value.int ((fun _ => (0 : Int32)) i)) := AV.new A41 (by decide) (by decide) (by decide)
  refine GoalS.lift (B := (T41.setTop (mkF m 159 #[.val (.long q1), .second, .val (.long q2), .second, .val (.int p3), .val (.int p4), .val (.int wd), .val (.int os), .val (.ref b1), .val (.ref b39), .val (.ref b41), .unset, .unset] []))) (fun t k => ?_) ?_
  · show Steps p.tables e below (s₁.setTop (mkF m 21 #[.val (.long q1), .second, .val (.long q2), .second, .val (.int p3), .val (.int p4), .val (.int wd), .unset, .unset, .unset, .unset, .unset, .unset] [(.int os)])) _
    refine XS.istore X0.here hx rfl (hb hby at_21) rfl (l' := #[.val (.long q1), .second, .val (.long q2), .second, .val (.int p3), .val (.int p4), .val (.int wd), .val (.int os), .unset, .unset, .unset, .unset, .unset]) rfl ?_
    show Steps p.tables e below (s₁.setTop (mkF m 23 #[.val (.long q1), .second, .val (.long q2), .second, .val (.int p3), .val (.int p4), .val (.int wd), .val (.int os), .unset, .unset, .unset, .unset, .unset] [])) _
    refine XS.bipush X0.here hx rfl (hb hby at_23) ?_
    show Steps p.tables e below (s₁.setTop (mkF m 25 #[.val (.long q1), .second, .val (.long q2), .second, .val (.int p3), .val (.int p4), .val (.int wd), .val (.int os), .unset, .unset, .unset, .unset, .unset] [(.int (18 : Int32))])) _
    refine st1 _ ?_
    show Steps p.tables e below (T1.setTop (mkF m 27 #[.val (.long q1), .second, .val (.long q2), .second, .val (.int p3), .val (.int p4), .val (.int wd), .val (.int os), .unset, .unset, .unset, .unset, .unset] [(.ref b1)])) _
    refine XS.dup X1.here hx rfl (hb hby at_27) rfl rfl ?_
    show Steps p.tables e below (T1.setTop (mkF m 28 #[.val (.long q1), .second, .val (.long q2), .second, .val (.int p3), .val (.int p4), .val (.int wd), .val (.int os), .unset, .unset, .unset, .unset, .unset] [(.ref b1), (.ref b1)])) _
    refine XS.iconst X1.here hx rfl (hb hby at_28) ?_
    show Steps p.tables e below (T1.setTop (mkF m 29 #[.val (.long q1), .second, .val (.long q2), .second, .val (.int p3), .val (.int p4), .val (.int wd), .val (.int os), .unset, .unset, .unset, .unset, .unset] [(.int (0 : Int32)), (.ref b1), (.ref b1)])) _
    refine XS.lconst X1.here hx rfl (hb hby at_29) ?_
    show Steps p.tables e below (T1.setTop (mkF m 30 #[.val (.long q1), .second, .val (.long q2), .second, .val (.int p3), .val (.int p4), .val (.int wd), .val (.int os), .unset, .unset, .unset, .unset, .unset] [(.long (1 : Int64)), (.int (0 : Int32)), (.ref b1), (.ref b1)])) _
    refine st3 _ ?_
    show Steps p.tables e below (T3.setTop (mkF m 31 #[.val (.long q1), .second, .val (.long q2), .second, .val (.int p3), .val (.int p4), .val (.int wd), .val (.int os), .unset, .unset, .unset, .unset, .unset] [(.ref b1)])) _
    refine XS.dup X3.here hx rfl (hb hby at_31) rfl rfl ?_
    show Steps p.tables e below (T3.setTop (mkF m 32 #[.val (.long q1), .second, .val (.long q2), .second, .val (.int p3), .val (.int p4), .val (.int wd), .val (.int os), .unset, .unset, .unset, .unset, .unset] [(.ref b1), (.ref b1)])) _
    refine XS.iconst X3.here hx rfl (hb hby at_32) ?_
    show Steps p.tables e below (T3.setTop (mkF m 33 #[.val (.long q1), .second, .val (.long q2), .second, .val (.int p3), .val (.int p4), .val (.int wd), .val (.int os), .unset, .unset, .unset, .unset, .unset] [(.int (1 : Int32)), (.ref b1), (.ref b1)])) _
    refine X3.ldc2Long hx hown (mvT hZ (hw _ (List.mem_of_getElem? (i := 2) rfl))) (g := (mkF m 33 #[.val (.long q1), .second, .val (.long q2), .second, .val (.int p3), .val (.int p4), .val (.int wd), .val (.int os), .unset, .unset, .unset, .unset, .unset] [(.int (1 : Int32)), (.ref b1), (.ref b1)])) rfl (hb hby at_33) _ ?_
    show Steps p.tables e below (T3.setTop (mkF m 36 #[.val (.long q1), .second, .val (.long q2), .second, .val (.int p3), .val (.int p4), .val (.int wd), .val (.int os), .unset, .unset, .unset, .unset, .unset] [(.long (10 : Int64)), (.int (1 : Int32)), (.ref b1), (.ref b1)])) _
    refine st5 _ ?_
    show Steps p.tables e below (T5.setTop (mkF m 37 #[.val (.long q1), .second, .val (.long q2), .second, .val (.int p3), .val (.int p4), .val (.int wd), .val (.int os), .unset, .unset, .unset, .unset, .unset] [(.ref b1)])) _
    refine XS.dup X5.here hx rfl (hb hby at_37) rfl rfl ?_
    show Steps p.tables e below (T5.setTop (mkF m 38 #[.val (.long q1), .second, .val (.long q2), .second, .val (.int p3), .val (.int p4), .val (.int wd), .val (.int os), .unset, .unset, .unset, .unset, .unset] [(.ref b1), (.ref b1)])) _
    refine XS.iconst X5.here hx rfl (hb hby at_38) ?_
    show Steps p.tables e below (T5.setTop (mkF m 39 #[.val (.long q1), .second, .val (.long q2), .second, .val (.int p3), .val (.int p4), .val (.int wd), .val (.int os), .unset, .unset, .unset, .unset, .unset] [(.int (2 : Int32)), (.ref b1), (.ref b1)])) _
    refine X5.ldc2Long hx hown (mvT hZ (hw _ (List.mem_of_getElem? (i := 3) rfl))) (g := (mkF m 39 #[.val (.long q1), .second, .val (.long q2), .second, .val (.int p3), .val (.int p4), .val (.int wd), .val (.int os), .unset, .unset, .unset, .unset, .unset] [(.int (2 : Int32)), (.ref b1), (.ref b1)])) rfl (hb hby at_39) _ ?_
    show Steps p.tables e below (T5.setTop (mkF m 42 #[.val (.long q1), .second, .val (.long q2), .second, .val (.int p3), .val (.int p4), .val (.int wd), .val (.int os), .unset, .unset, .unset, .unset, .unset] [(.long (100 : Int64)), (.int (2 : Int32)), (.ref b1), (.ref b1)])) _
    refine st7 _ ?_
    show Steps p.tables e below (T7.setTop (mkF m 43 #[.val (.long q1), .second, .val (.long q2), .second, .val (.int p3), .val (.int p4), .val (.int wd), .val (.int os), .unset, .unset, .unset, .unset, .unset] [(.ref b1)])) _
    refine XS.dup X7.here hx rfl (hb hby at_43) rfl rfl ?_
    show Steps p.tables e below (T7.setTop (mkF m 44 #[.val (.long q1), .second, .val (.long q2), .second, .val (.int p3), .val (.int p4), .val (.int wd), .val (.int os), .unset, .unset, .unset, .unset, .unset] [(.ref b1), (.ref b1)])) _
    refine XS.iconst X7.here hx rfl (hb hby at_44) ?_
    show Steps p.tables e below (T7.setTop (mkF m 45 #[.val (.long q1), .second, .val (.long q2), .second, .val (.int p3), .val (.int p4), .val (.int wd), .val (.int os), .unset, .unset, .unset, .unset, .unset] [(.int (3 : Int32)), (.ref b1), (.ref b1)])) _
    refine X7.ldc2Long hx hown (mvT hZ (hw _ (List.mem_of_getElem? (i := 4) rfl))) (g := (mkF m 45 #[.val (.long q1), .second, .val (.long q2), .second, .val (.int p3), .val (.int p4), .val (.int wd), .val (.int os), .unset, .unset, .unset, .unset, .unset] [(.int (3 : Int32)), (.ref b1), (.ref b1)])) rfl (hb hby at_45) _ ?_
    show Steps p.tables e below (T7.setTop (mkF m 48 #[.val (.long q1), .second, .val (.long q2), .second, .val (.int p3), .val (.int p4), .val (.int wd), .val (.int os), .unset, .unset, .unset, .unset, .unset] [(.long (1000 : Int64)), (.int (3 : Int32)), (.ref b1), (.ref b1)])) _
    refine st9 _ ?_
    show Steps p.tables e below (T9.setTop (mkF m 49 #[.val (.long q1), .second, .val (.long q2), .second, .val (.int p3), .val (.int p4), .val (.int wd), .val (.int os), .unset, .unset, .unset, .unset, .unset] [(.ref b1)])) _
    refine XS.dup X9.here hx rfl (hb hby at_49) rfl rfl ?_
    show Steps p.tables e below (T9.setTop (mkF m 50 #[.val (.long q1), .second, .val (.long q2), .second, .val (.int p3), .val (.int p4), .val (.int wd), .val (.int os), .unset, .unset, .unset, .unset, .unset] [(.ref b1), (.ref b1)])) _
    refine XS.iconst X9.here hx rfl (hb hby at_50) ?_
    show Steps p.tables e below (T9.setTop (mkF m 51 #[.val (.long q1), .second, .val (.long q2), .second, .val (.int p3), .val (.int p4), .val (.int wd), .val (.int os), .unset, .unset, .unset, .unset, .unset] [(.int (4 : Int32)), (.ref b1), (.ref b1)])) _
    refine X9.ldc2Long hx hown (mvT hZ (hw _ (List.mem_of_getElem? (i := 5) rfl))) (g := (mkF m 51 #[.val (.long q1), .second, .val (.long q2), .second, .val (.int p3), .val (.int p4), .val (.int wd), .val (.int os), .unset, .unset, .unset, .unset, .unset] [(.int (4 : Int32)), (.ref b1), (.ref b1)])) rfl (hb hby at_51) _ ?_
    show Steps p.tables e below (T9.setTop (mkF m 54 #[.val (.long q1), .second, .val (.long q2), .second, .val (.int p3), .val (.int p4), .val (.int wd), .val (.int os), .unset, .unset, .unset, .unset, .unset] [(.long (10000 : Int64)), (.int (4 : Int32)), (.ref b1), (.ref b1)])) _
    refine st11 _ ?_
    show Steps p.tables e below (T11.setTop (mkF m 55 #[.val (.long q1), .second, .val (.long q2), .second, .val (.int p3), .val (.int p4), .val (.int wd), .val (.int os), .unset, .unset, .unset, .unset, .unset] [(.ref b1)])) _
    refine XS.dup X11.here hx rfl (hb hby at_55) rfl rfl ?_
    show Steps p.tables e below (T11.setTop (mkF m 56 #[.val (.long q1), .second, .val (.long q2), .second, .val (.int p3), .val (.int p4), .val (.int wd), .val (.int os), .unset, .unset, .unset, .unset, .unset] [(.ref b1), (.ref b1)])) _
    refine XS.iconst X11.here hx rfl (hb hby at_56) ?_
    show Steps p.tables e below (T11.setTop (mkF m 57 #[.val (.long q1), .second, .val (.long q2), .second, .val (.int p3), .val (.int p4), .val (.int wd), .val (.int os), .unset, .unset, .unset, .unset, .unset] [(.int (5 : Int32)), (.ref b1), (.ref b1)])) _
    refine X11.ldc2Long hx hown (mvT hZ (hw _ (List.mem_of_getElem? (i := 6) rfl))) (g := (mkF m 57 #[.val (.long q1), .second, .val (.long q2), .second, .val (.int p3), .val (.int p4), .val (.int wd), .val (.int os), .unset, .unset, .unset, .unset, .unset] [(.int (5 : Int32)), (.ref b1), (.ref b1)])) rfl (hb hby at_57) _ ?_
    show Steps p.tables e below (T11.setTop (mkF m 60 #[.val (.long q1), .second, .val (.long q2), .second, .val (.int p3), .val (.int p4), .val (.int wd), .val (.int os), .unset, .unset, .unset, .unset, .unset] [(.long (100000 : Int64)), (.int (5 : Int32)), (.ref b1), (.ref b1)])) _
    refine st13 _ ?_
    show Steps p.tables e below (T13.setTop (mkF m 61 #[.val (.long q1), .second, .val (.long q2), .second, .val (.int p3), .val (.int p4), .val (.int wd), .val (.int os), .unset, .unset, .unset, .unset, .unset] [(.ref b1)])) _
    refine XS.dup X13.here hx rfl (hb hby at_61) rfl rfl ?_
    show Steps p.tables e below (T13.setTop (mkF m 62 #[.val (.long q1), .second, .val (.long q2), .second, .val (.int p3), .val (.int p4), .val (.int wd), .val (.int os), .unset, .unset, .unset, .unset, .unset] [(.ref b1), (.ref b1)])) _
    refine XS.bipush X13.here hx rfl (hb hby at_62) ?_
    show Steps p.tables e below (T13.setTop (mkF m 64 #[.val (.long q1), .second, .val (.long q2), .second, .val (.int p3), .val (.int p4), .val (.int wd), .val (.int os), .unset, .unset, .unset, .unset, .unset] [(.int (6 : Int32)), (.ref b1), (.ref b1)])) _
    refine X13.ldc2Long hx hown (mvT hZ (hw _ (List.mem_of_getElem? (i := 7) rfl))) (g := (mkF m 64 #[.val (.long q1), .second, .val (.long q2), .second, .val (.int p3), .val (.int p4), .val (.int wd), .val (.int os), .unset, .unset, .unset, .unset, .unset] [(.int (6 : Int32)), (.ref b1), (.ref b1)])) rfl (hb hby at_64) _ ?_
    show Steps p.tables e below (T13.setTop (mkF m 67 #[.val (.long q1), .second, .val (.long q2), .second, .val (.int p3), .val (.int p4), .val (.int wd), .val (.int os), .unset, .unset, .unset, .unset, .unset] [(.long (1000000 : Int64)), (.int (6 : Int32)), (.ref b1), (.ref b1)])) _
    refine st15 _ ?_
    show Steps p.tables e below (T15.setTop (mkF m 68 #[.val (.long q1), .second, .val (.long q2), .second, .val (.int p3), .val (.int p4), .val (.int wd), .val (.int os), .unset, .unset, .unset, .unset, .unset] [(.ref b1)])) _
    refine XS.dup X15.here hx rfl (hb hby at_68) rfl rfl ?_
    show Steps p.tables e below (T15.setTop (mkF m 69 #[.val (.long q1), .second, .val (.long q2), .second, .val (.int p3), .val (.int p4), .val (.int wd), .val (.int os), .unset, .unset, .unset, .unset, .unset] [(.ref b1), (.ref b1)])) _
    refine XS.bipush X15.here hx rfl (hb hby at_69) ?_
    show Steps p.tables e below (T15.setTop (mkF m 71 #[.val (.long q1), .second, .val (.long q2), .second, .val (.int p3), .val (.int p4), .val (.int wd), .val (.int os), .unset, .unset, .unset, .unset, .unset] [(.int (7 : Int32)), (.ref b1), (.ref b1)])) _
    refine X15.ldc2Long hx hown (mvT hZ (hw _ (List.mem_of_getElem? (i := 8) rfl))) (g := (mkF m 71 #[.val (.long q1), .second, .val (.long q2), .second, .val (.int p3), .val (.int p4), .val (.int wd), .val (.int os), .unset, .unset, .unset, .unset, .unset] [(.int (7 : Int32)), (.ref b1), (.ref b1)])) rfl (hb hby at_71) _ ?_
    show Steps p.tables e below (T15.setTop (mkF m 74 #[.val (.long q1), .second, .val (.long q2), .second, .val (.int p3), .val (.int p4), .val (.int wd), .val (.int os), .unset, .unset, .unset, .unset, .unset] [(.long (10000000 : Int64)), (.int (7 : Int32)), (.ref b1), (.ref b1)])) _
    refine st17 _ ?_
    show Steps p.tables e below (T17.setTop (mkF m 75 #[.val (.long q1), .second, .val (.long q2), .second, .val (.int p3), .val (.int p4), .val (.int wd), .val (.int os), .unset, .unset, .unset, .unset, .unset] [(.ref b1)])) _
    refine XS.dup X17.here hx rfl (hb hby at_75) rfl rfl ?_
    show Steps p.tables e below (T17.setTop (mkF m 76 #[.val (.long q1), .second, .val (.long q2), .second, .val (.int p3), .val (.int p4), .val (.int wd), .val (.int os), .unset, .unset, .unset, .unset, .unset] [(.ref b1), (.ref b1)])) _
    refine XS.bipush X17.here hx rfl (hb hby at_76) ?_
    show Steps p.tables e below (T17.setTop (mkF m 78 #[.val (.long q1), .second, .val (.long q2), .second, .val (.int p3), .val (.int p4), .val (.int wd), .val (.int os), .unset, .unset, .unset, .unset, .unset] [(.int (8 : Int32)), (.ref b1), (.ref b1)])) _
    refine X17.ldc2Long hx hown (mvT hZ (hw _ (List.mem_of_getElem? (i := 9) rfl))) (g := (mkF m 78 #[.val (.long q1), .second, .val (.long q2), .second, .val (.int p3), .val (.int p4), .val (.int wd), .val (.int os), .unset, .unset, .unset, .unset, .unset] [(.int (8 : Int32)), (.ref b1), (.ref b1)])) rfl (hb hby at_78) _ ?_
    show Steps p.tables e below (T17.setTop (mkF m 81 #[.val (.long q1), .second, .val (.long q2), .second, .val (.int p3), .val (.int p4), .val (.int wd), .val (.int os), .unset, .unset, .unset, .unset, .unset] [(.long (100000000 : Int64)), (.int (8 : Int32)), (.ref b1), (.ref b1)])) _
    refine st19 _ ?_
    show Steps p.tables e below (T19.setTop (mkF m 82 #[.val (.long q1), .second, .val (.long q2), .second, .val (.int p3), .val (.int p4), .val (.int wd), .val (.int os), .unset, .unset, .unset, .unset, .unset] [(.ref b1)])) _
    refine XS.dup X19.here hx rfl (hb hby at_82) rfl rfl ?_
    show Steps p.tables e below (T19.setTop (mkF m 83 #[.val (.long q1), .second, .val (.long q2), .second, .val (.int p3), .val (.int p4), .val (.int wd), .val (.int os), .unset, .unset, .unset, .unset, .unset] [(.ref b1), (.ref b1)])) _
    refine XS.bipush X19.here hx rfl (hb hby at_83) ?_
    show Steps p.tables e below (T19.setTop (mkF m 85 #[.val (.long q1), .second, .val (.long q2), .second, .val (.int p3), .val (.int p4), .val (.int wd), .val (.int os), .unset, .unset, .unset, .unset, .unset] [(.int (9 : Int32)), (.ref b1), (.ref b1)])) _
    refine X19.ldc2Long hx hown (mvT hZ (hw _ (List.mem_of_getElem? (i := 10) rfl))) (g := (mkF m 85 #[.val (.long q1), .second, .val (.long q2), .second, .val (.int p3), .val (.int p4), .val (.int wd), .val (.int os), .unset, .unset, .unset, .unset, .unset] [(.int (9 : Int32)), (.ref b1), (.ref b1)])) rfl (hb hby at_85) _ ?_
    show Steps p.tables e below (T19.setTop (mkF m 88 #[.val (.long q1), .second, .val (.long q2), .second, .val (.int p3), .val (.int p4), .val (.int wd), .val (.int os), .unset, .unset, .unset, .unset, .unset] [(.long (1000000000 : Int64)), (.int (9 : Int32)), (.ref b1), (.ref b1)])) _
    refine st21 _ ?_
    show Steps p.tables e below (T21.setTop (mkF m 89 #[.val (.long q1), .second, .val (.long q2), .second, .val (.int p3), .val (.int p4), .val (.int wd), .val (.int os), .unset, .unset, .unset, .unset, .unset] [(.ref b1)])) _
    refine XS.dup X21.here hx rfl (hb hby at_89) rfl rfl ?_
    show Steps p.tables e below (T21.setTop (mkF m 90 #[.val (.long q1), .second, .val (.long q2), .second, .val (.int p3), .val (.int p4), .val (.int wd), .val (.int os), .unset, .unset, .unset, .unset, .unset] [(.ref b1), (.ref b1)])) _
    refine XS.bipush X21.here hx rfl (hb hby at_90) ?_
    show Steps p.tables e below (T21.setTop (mkF m 92 #[.val (.long q1), .second, .val (.long q2), .second, .val (.int p3), .val (.int p4), .val (.int wd), .val (.int os), .unset, .unset, .unset, .unset, .unset] [(.int (10 : Int32)), (.ref b1), (.ref b1)])) _
    refine X21.ldc2Long hx hown (mvT hZ (hw _ (List.mem_of_getElem? (i := 11) rfl))) (g := (mkF m 92 #[.val (.long q1), .second, .val (.long q2), .second, .val (.int p3), .val (.int p4), .val (.int wd), .val (.int os), .unset, .unset, .unset, .unset, .unset] [(.int (10 : Int32)), (.ref b1), (.ref b1)])) rfl (hb hby at_92) _ ?_
    show Steps p.tables e below (T21.setTop (mkF m 95 #[.val (.long q1), .second, .val (.long q2), .second, .val (.int p3), .val (.int p4), .val (.int wd), .val (.int os), .unset, .unset, .unset, .unset, .unset] [(.long (10000000000 : Int64)), (.int (10 : Int32)), (.ref b1), (.ref b1)])) _
    refine st23 _ ?_
    show Steps p.tables e below (T23.setTop (mkF m 96 #[.val (.long q1), .second, .val (.long q2), .second, .val (.int p3), .val (.int p4), .val (.int wd), .val (.int os), .unset, .unset, .unset, .unset, .unset] [(.ref b1)])) _
    refine XS.dup X23.here hx rfl (hb hby at_96) rfl rfl ?_
    show Steps p.tables e below (T23.setTop (mkF m 97 #[.val (.long q1), .second, .val (.long q2), .second, .val (.int p3), .val (.int p4), .val (.int wd), .val (.int os), .unset, .unset, .unset, .unset, .unset] [(.ref b1), (.ref b1)])) _
    refine XS.bipush X23.here hx rfl (hb hby at_97) ?_
    show Steps p.tables e below (T23.setTop (mkF m 99 #[.val (.long q1), .second, .val (.long q2), .second, .val (.int p3), .val (.int p4), .val (.int wd), .val (.int os), .unset, .unset, .unset, .unset, .unset] [(.int (11 : Int32)), (.ref b1), (.ref b1)])) _
    refine X23.ldc2Long hx hown (mvT hZ (hw _ (List.mem_of_getElem? (i := 12) rfl))) (g := (mkF m 99 #[.val (.long q1), .second, .val (.long q2), .second, .val (.int p3), .val (.int p4), .val (.int wd), .val (.int os), .unset, .unset, .unset, .unset, .unset] [(.int (11 : Int32)), (.ref b1), (.ref b1)])) rfl (hb hby at_99) _ ?_
    show Steps p.tables e below (T23.setTop (mkF m 102 #[.val (.long q1), .second, .val (.long q2), .second, .val (.int p3), .val (.int p4), .val (.int wd), .val (.int os), .unset, .unset, .unset, .unset, .unset] [(.long (100000000000 : Int64)), (.int (11 : Int32)), (.ref b1), (.ref b1)])) _
    refine st25 _ ?_
    show Steps p.tables e below (T25.setTop (mkF m 103 #[.val (.long q1), .second, .val (.long q2), .second, .val (.int p3), .val (.int p4), .val (.int wd), .val (.int os), .unset, .unset, .unset, .unset, .unset] [(.ref b1)])) _
    refine XS.dup X25.here hx rfl (hb hby at_103) rfl rfl ?_
    show Steps p.tables e below (T25.setTop (mkF m 104 #[.val (.long q1), .second, .val (.long q2), .second, .val (.int p3), .val (.int p4), .val (.int wd), .val (.int os), .unset, .unset, .unset, .unset, .unset] [(.ref b1), (.ref b1)])) _
    refine XS.bipush X25.here hx rfl (hb hby at_104) ?_
    show Steps p.tables e below (T25.setTop (mkF m 106 #[.val (.long q1), .second, .val (.long q2), .second, .val (.int p3), .val (.int p4), .val (.int wd), .val (.int os), .unset, .unset, .unset, .unset, .unset] [(.int (12 : Int32)), (.ref b1), (.ref b1)])) _
    refine X25.ldc2Long hx hown (mvT hZ (hw _ (List.mem_of_getElem? (i := 13) rfl))) (g := (mkF m 106 #[.val (.long q1), .second, .val (.long q2), .second, .val (.int p3), .val (.int p4), .val (.int wd), .val (.int os), .unset, .unset, .unset, .unset, .unset] [(.int (12 : Int32)), (.ref b1), (.ref b1)])) rfl (hb hby at_106) _ ?_
    show Steps p.tables e below (T25.setTop (mkF m 109 #[.val (.long q1), .second, .val (.long q2), .second, .val (.int p3), .val (.int p4), .val (.int wd), .val (.int os), .unset, .unset, .unset, .unset, .unset] [(.long (1000000000000 : Int64)), (.int (12 : Int32)), (.ref b1), (.ref b1)])) _
    refine st27 _ ?_
    show Steps p.tables e below (T27.setTop (mkF m 110 #[.val (.long q1), .second, .val (.long q2), .second, .val (.int p3), .val (.int p4), .val (.int wd), .val (.int os), .unset, .unset, .unset, .unset, .unset] [(.ref b1)])) _
    refine XS.dup X27.here hx rfl (hb hby at_110) rfl rfl ?_
    show Steps p.tables e below (T27.setTop (mkF m 111 #[.val (.long q1), .second, .val (.long q2), .second, .val (.int p3), .val (.int p4), .val (.int wd), .val (.int os), .unset, .unset, .unset, .unset, .unset] [(.ref b1), (.ref b1)])) _
    refine XS.bipush X27.here hx rfl (hb hby at_111) ?_
    show Steps p.tables e below (T27.setTop (mkF m 113 #[.val (.long q1), .second, .val (.long q2), .second, .val (.int p3), .val (.int p4), .val (.int wd), .val (.int os), .unset, .unset, .unset, .unset, .unset] [(.int (13 : Int32)), (.ref b1), (.ref b1)])) _
    refine X27.ldc2Long hx hown (mvT hZ (hw _ (List.mem_of_getElem? (i := 14) rfl))) (g := (mkF m 113 #[.val (.long q1), .second, .val (.long q2), .second, .val (.int p3), .val (.int p4), .val (.int wd), .val (.int os), .unset, .unset, .unset, .unset, .unset] [(.int (13 : Int32)), (.ref b1), (.ref b1)])) rfl (hb hby at_113) _ ?_
    show Steps p.tables e below (T27.setTop (mkF m 116 #[.val (.long q1), .second, .val (.long q2), .second, .val (.int p3), .val (.int p4), .val (.int wd), .val (.int os), .unset, .unset, .unset, .unset, .unset] [(.long (10000000000000 : Int64)), (.int (13 : Int32)), (.ref b1), (.ref b1)])) _
    refine st29 _ ?_
    show Steps p.tables e below (T29.setTop (mkF m 117 #[.val (.long q1), .second, .val (.long q2), .second, .val (.int p3), .val (.int p4), .val (.int wd), .val (.int os), .unset, .unset, .unset, .unset, .unset] [(.ref b1)])) _
    refine XS.dup X29.here hx rfl (hb hby at_117) rfl rfl ?_
    show Steps p.tables e below (T29.setTop (mkF m 118 #[.val (.long q1), .second, .val (.long q2), .second, .val (.int p3), .val (.int p4), .val (.int wd), .val (.int os), .unset, .unset, .unset, .unset, .unset] [(.ref b1), (.ref b1)])) _
    refine XS.bipush X29.here hx rfl (hb hby at_118) ?_
    show Steps p.tables e below (T29.setTop (mkF m 120 #[.val (.long q1), .second, .val (.long q2), .second, .val (.int p3), .val (.int p4), .val (.int wd), .val (.int os), .unset, .unset, .unset, .unset, .unset] [(.int (14 : Int32)), (.ref b1), (.ref b1)])) _
    refine X29.ldc2Long hx hown (mvT hZ (hw _ (List.mem_of_getElem? (i := 15) rfl))) (g := (mkF m 120 #[.val (.long q1), .second, .val (.long q2), .second, .val (.int p3), .val (.int p4), .val (.int wd), .val (.int os), .unset, .unset, .unset, .unset, .unset] [(.int (14 : Int32)), (.ref b1), (.ref b1)])) rfl (hb hby at_120) _ ?_
    show Steps p.tables e below (T29.setTop (mkF m 123 #[.val (.long q1), .second, .val (.long q2), .second, .val (.int p3), .val (.int p4), .val (.int wd), .val (.int os), .unset, .unset, .unset, .unset, .unset] [(.long (100000000000000 : Int64)), (.int (14 : Int32)), (.ref b1), (.ref b1)])) _
    refine st31 _ ?_
    show Steps p.tables e below (T31.setTop (mkF m 124 #[.val (.long q1), .second, .val (.long q2), .second, .val (.int p3), .val (.int p4), .val (.int wd), .val (.int os), .unset, .unset, .unset, .unset, .unset] [(.ref b1)])) _
    refine XS.dup X31.here hx rfl (hb hby at_124) rfl rfl ?_
    show Steps p.tables e below (T31.setTop (mkF m 125 #[.val (.long q1), .second, .val (.long q2), .second, .val (.int p3), .val (.int p4), .val (.int wd), .val (.int os), .unset, .unset, .unset, .unset, .unset] [(.ref b1), (.ref b1)])) _
    refine XS.bipush X31.here hx rfl (hb hby at_125) ?_
    show Steps p.tables e below (T31.setTop (mkF m 127 #[.val (.long q1), .second, .val (.long q2), .second, .val (.int p3), .val (.int p4), .val (.int wd), .val (.int os), .unset, .unset, .unset, .unset, .unset] [(.int (15 : Int32)), (.ref b1), (.ref b1)])) _
    refine X31.ldc2Long hx hown (mvT hZ (hw _ (List.mem_of_getElem? (i := 16) rfl))) (g := (mkF m 127 #[.val (.long q1), .second, .val (.long q2), .second, .val (.int p3), .val (.int p4), .val (.int wd), .val (.int os), .unset, .unset, .unset, .unset, .unset] [(.int (15 : Int32)), (.ref b1), (.ref b1)])) rfl (hb hby at_127) _ ?_
    show Steps p.tables e below (T31.setTop (mkF m 130 #[.val (.long q1), .second, .val (.long q2), .second, .val (.int p3), .val (.int p4), .val (.int wd), .val (.int os), .unset, .unset, .unset, .unset, .unset] [(.long (1000000000000000 : Int64)), (.int (15 : Int32)), (.ref b1), (.ref b1)])) _
    refine st33 _ ?_
    show Steps p.tables e below (T33.setTop (mkF m 131 #[.val (.long q1), .second, .val (.long q2), .second, .val (.int p3), .val (.int p4), .val (.int wd), .val (.int os), .unset, .unset, .unset, .unset, .unset] [(.ref b1)])) _
    refine XS.dup X33.here hx rfl (hb hby at_131) rfl rfl ?_
    show Steps p.tables e below (T33.setTop (mkF m 132 #[.val (.long q1), .second, .val (.long q2), .second, .val (.int p3), .val (.int p4), .val (.int wd), .val (.int os), .unset, .unset, .unset, .unset, .unset] [(.ref b1), (.ref b1)])) _
    refine XS.bipush X33.here hx rfl (hb hby at_132) ?_
    show Steps p.tables e below (T33.setTop (mkF m 134 #[.val (.long q1), .second, .val (.long q2), .second, .val (.int p3), .val (.int p4), .val (.int wd), .val (.int os), .unset, .unset, .unset, .unset, .unset] [(.int (16 : Int32)), (.ref b1), (.ref b1)])) _
    refine X33.ldc2Long hx hown (mvT hZ (hw _ (List.mem_of_getElem? (i := 17) rfl))) (g := (mkF m 134 #[.val (.long q1), .second, .val (.long q2), .second, .val (.int p3), .val (.int p4), .val (.int wd), .val (.int os), .unset, .unset, .unset, .unset, .unset] [(.int (16 : Int32)), (.ref b1), (.ref b1)])) rfl (hb hby at_134) _ ?_
    show Steps p.tables e below (T33.setTop (mkF m 137 #[.val (.long q1), .second, .val (.long q2), .second, .val (.int p3), .val (.int p4), .val (.int wd), .val (.int os), .unset, .unset, .unset, .unset, .unset] [(.long (10000000000000000 : Int64)), (.int (16 : Int32)), (.ref b1), (.ref b1)])) _
    refine st35 _ ?_
    show Steps p.tables e below (T35.setTop (mkF m 138 #[.val (.long q1), .second, .val (.long q2), .second, .val (.int p3), .val (.int p4), .val (.int wd), .val (.int os), .unset, .unset, .unset, .unset, .unset] [(.ref b1)])) _
    refine XS.dup X35.here hx rfl (hb hby at_138) rfl rfl ?_
    show Steps p.tables e below (T35.setTop (mkF m 139 #[.val (.long q1), .second, .val (.long q2), .second, .val (.int p3), .val (.int p4), .val (.int wd), .val (.int os), .unset, .unset, .unset, .unset, .unset] [(.ref b1), (.ref b1)])) _
    refine XS.bipush X35.here hx rfl (hb hby at_139) ?_
    show Steps p.tables e below (T35.setTop (mkF m 141 #[.val (.long q1), .second, .val (.long q2), .second, .val (.int p3), .val (.int p4), .val (.int wd), .val (.int os), .unset, .unset, .unset, .unset, .unset] [(.int (17 : Int32)), (.ref b1), (.ref b1)])) _
    refine X35.ldc2Long hx hown (mvT hZ (hw _ (List.mem_of_getElem? (i := 18) rfl))) (g := (mkF m 141 #[.val (.long q1), .second, .val (.long q2), .second, .val (.int p3), .val (.int p4), .val (.int wd), .val (.int os), .unset, .unset, .unset, .unset, .unset] [(.int (17 : Int32)), (.ref b1), (.ref b1)])) rfl (hb hby at_141) _ ?_
    show Steps p.tables e below (T35.setTop (mkF m 144 #[.val (.long q1), .second, .val (.long q2), .second, .val (.int p3), .val (.int p4), .val (.int wd), .val (.int os), .unset, .unset, .unset, .unset, .unset] [(.long (100000000000000000 : Int64)), (.int (17 : Int32)), (.ref b1), (.ref b1)])) _
    refine st37 _ ?_
    show Steps p.tables e below (T37.setTop (mkF m 145 #[.val (.long q1), .second, .val (.long q2), .second, .val (.int p3), .val (.int p4), .val (.int wd), .val (.int os), .unset, .unset, .unset, .unset, .unset] [(.ref b1)])) _
    refine XS.astore X37.here hx rfl (hb hby at_145) rfl rfl (l' := #[.val (.long q1), .second, .val (.long q2), .second, .val (.int p3), .val (.int p4), .val (.int wd), .val (.int os), .val (.ref b1), .unset, .unset, .unset, .unset]) rfl ?_
    show Steps p.tables e below (T37.setTop (mkF m 147 #[.val (.long q1), .second, .val (.long q2), .second, .val (.int p3), .val (.int p4), .val (.int wd), .val (.int os), .val (.ref b1), .unset, .unset, .unset, .unset] [])) _
    refine XS.bipush X37.here hx rfl (hb hby at_147) ?_
    show Steps p.tables e below (T37.setTop (mkF m 149 #[.val (.long q1), .second, .val (.long q2), .second, .val (.int p3), .val (.int p4), .val (.int wd), .val (.int os), .val (.ref b1), .unset, .unset, .unset, .unset] [(.int (18 : Int32))])) _
    refine st39 _ ?_
    show Steps p.tables e below (T39.setTop (mkF m 151 #[.val (.long q1), .second, .val (.long q2), .second, .val (.int p3), .val (.int p4), .val (.int wd), .val (.int os), .val (.ref b1), .unset, .unset, .unset, .unset] [(.ref b39)])) _
    refine XS.astore X39.here hx rfl (hb hby at_151) rfl rfl (l' := #[.val (.long q1), .second, .val (.long q2), .second, .val (.int p3), .val (.int p4), .val (.int wd), .val (.int os), .val (.ref b1), .val (.ref b39), .unset, .unset, .unset]) rfl ?_
    show Steps p.tables e below (T39.setTop (mkF m 153 #[.val (.long q1), .second, .val (.long q2), .second, .val (.int p3), .val (.int p4), .val (.int wd), .val (.int os), .val (.ref b1), .val (.ref b39), .unset, .unset, .unset] [])) _
    refine XS.bipush X39.here hx rfl (hb hby at_153) ?_
    show Steps p.tables e below (T39.setTop (mkF m 155 #[.val (.long q1), .second, .val (.long q2), .second, .val (.int p3), .val (.int p4), .val (.int wd), .val (.int os), .val (.ref b1), .val (.ref b39), .unset, .unset, .unset] [(.int (18 : Int32))])) _
    refine st41 _ ?_
    show Steps p.tables e below (T41.setTop (mkF m 157 #[.val (.long q1), .second, .val (.long q2), .second, .val (.int p3), .val (.int p4), .val (.int wd), .val (.int os), .val (.ref b1), .val (.ref b39), .unset, .unset, .unset] [(.ref b41)])) _
    refine XS.astore X41.here hx rfl (hb hby at_157) rfl rfl (l' := #[.val (.long q1), .second, .val (.long q2), .second, .val (.int p3), .val (.int p4), .val (.int wd), .val (.int os), .val (.ref b1), .val (.ref b39), .val (.ref b41), .unset, .unset]) rfl ?_
    show Steps p.tables e below (T41.setTop (mkF m 159 #[.val (.long q1), .second, .val (.long q2), .second, .val (.int p3), .val (.int p4), .val (.int wd), .val (.int os), .val (.ref b1), .val (.ref b39), .val (.ref b41), .unset, .unset] [])) _
    exact k
  have f44 : AV Z h41 b1 k1 .long 18 (fun i => Value.long (fn37 i)) := (f42.ext E41)
  have f45 : AV Z h41 b39 k39 .int 18 (fun i => Value.int ((fun _ => (0 : Int32)) i)) := (V39.ext E41)
  exact own_mid l Z a0 hw ws q1 q2 p3 p4 wd os W O b1 b39 b41 k1 k39 k41 fn37 h0 n0 Bd hml hZ T41 h41 _ X41 e41 N37 z43  f44 f45 V41 ne_b1_b39 ne_b1_b41 ne_b39_b41 g_b1 g_b39 g_b41 hwW hoO hOW hP18
set_option maxRecDepth 65536 in
set_option maxHeartbeats 40000000 in
theorem comes_1 {Post : Tables → Env → Array Value → State → Outcome → State → Prop} (hpost : ∀ tb e args s v u, (limb_1_1.after args s (.returned v) u = true ∧ limb_1_2.after args s (.returned v) u = true ∧ True) → FrameEnd s (.returned v) u (Jvm.fieldLocs frame_1_writes args s ++ Jvm.arrayLocs frame_1_arrays args s ++ Jvm.staticLocs frame_1_statics s) 16 192 → Post tb e args s (.returned v) u) :
    ArmFor flags0 classFile x code maxLocals ret World_1 tables_1 room_1 Calls_1 rest_1 Pre_1 Post := by
  intro l hfl _ _ p e ha hc hk s m args below hf hA hF happ hP
  obtain ⟨hcalls, hrest, hpre⟩ := hP
  obtain ⟨-, -, -, hnamed, -, -, -, hat⟩ := (Spec.applies_iff hf).mp happ
  obtain ⟨hg, hn⟩ := and_e (Cond.before_iff.mp (show (Jvm.Cond.and given_1 narrow_1).before args s = true from hpre))
  obtain ⟨g1, g2⟩ := and_e hg
  obtain ⟨g3, g4⟩ := and_e g2
  obtain ⟨g5, g6⟩ := and_e g4
  obtain ⟨g7, g8⟩ := and_e g6
  obtain ⟨w0, w1, w2, w3, rfl⟩ : ∃ w0 w1 w2 w3 : Value, args = #[w0, w1, w2, w3] := by
    have hs : args.size = 4 := by simpa [Cond.value, given_1] using g1
    obtain ⟨L⟩ := args
    match L, hs with
    | [w0, w1, w2, w3], _ => exact ⟨w0, w1, w2, w3, rfl⟩
  have hw := fun d (hd : d ∈ tables_1) => atoms_spec (ws := Jvm.Cond.code x code maxLocals ret :: tables_1) hat d (List.mem_cons_of_mem _ hd)
  have hfit : Fit s := fun {y c} hc i hi => by
    obtain ⟨ha, rfl⟩ := Array.getElem?_eq_some_iff.mp hc
    have q := List.all_eq_true.mp ((Array.all_eq_true_iff_forall_mem.mp hF) _ (Array.getElem_mem ha)) i (List.mem_range.mpr hi)
    simpa [Array.getElem?_eq_getElem hi] using q
  obtain ⟨i0, ei0⟩ := isL_v g3
  obtain rfl : w0 = (.long i0) := Option.some.inj ei0
  obtain ⟨i1, ei1⟩ := isL_v g5
  obtain rfl : w1 = (.long i1) := Option.some.inj ei1
  obtain ⟨i2, ei2⟩ := is_v g7
  obtain rfl : w2 = (.int i2) := Option.some.inj ei2
  obtain ⟨i3, ei3⟩ := is_v g8
  obtain rfl : w3 = (.int i3) := Option.some.inj ei3
  obtain ⟨n, o, h1, h2, h3, _, L, rfl, ⟨rfl, N⟩, hq⟩ := rm0 l s _ hw tables_1 i0 i1 i2 i3  s.heap s.heap.size (Nat.le_refl _)  p e ha hc hk s m _ below hf ((Spec.applies_iff_loose hf).mp happ).1 ⟨rfl, State.Warmed39.refl s, rfl⟩ trivial
  refine ⟨n, _, h1, h2, h3, hpost _ _ _ _ _ _ ⟨Cond.after_iff.mpr rfl, Cond.after_iff.mpr (eq_i res_at (Term.int_eval (1)) rfl), trivial⟩ ⟨hq.1, hq.2.1, (hq.2.2.sift fun y hy => Or.inr (N y hy)).mono (by decide) (by decide)⟩⟩
theorem main_1_1 : Claimed_1_1 := comes_1 fun _ _ _ _ _ _ h hF => ⟨h.1, hF⟩
theorem main_1_2 : Claimed_1_2 := comes_1 fun _ _ _ _ _ _ h hF => ⟨h.2.1, hF⟩
end Jvm.Pilot.@@N@@
namespace Jvm.Pilot.@@N@@
open Jvm Jvm.ClassFile Sem Op Lib Jvm.Free Jvm.Stand Jvm.Pilot.@@N@@.Jvm.D
/-! MADE BY PROGRAM (witnessworld.py) out of the Statement's table words and the real class files: 14 classes; the members and pool entries that the words name. The judged class is class 1, her method 4. -/
namespace start1
open Jvm.ClassFile
def u (s : String) : CpInfo := .utf8 (stringToUtf16 s)
/-- a pool by its gaps: so many unusable entries, then the entry; so many at the end -/
def gap : Nat → List CpInfo → List CpInfo
  | 0, r => r
  | n + 1, r => .unusable :: gap n r
def poolList (es : List (Nat × CpInfo)) (last : Nat) : List CpInfo := es.foldr (fun e r => gap e.1 (e.2 :: r)) (gap last [])
def pool (es : List (Nat × CpInfo)) (last : Nat) : Array CpInfo := ⟨poolList es last⟩
def fileOf (pool : Array CpInfo) (this : Nat) (attrs : Array Attribute := #[]) (ms : Array MethodInfo := #[]) (fl : Nat := 33) (sup : Nat := 0) (ifs : Array Nat := #[]) (fds : Array FieldInfo := #[]) : ClassFile where
  minorVersion := 0
  majorVersion := 65
  constantPool := pool
  accessFlags := fl
  thisClass := this
  superClass := sup
  interfaces := ifs
  fields := fds
  methods := ms
  attributes := attrs
def plain (name : String) (sup : Option ClassId) : Class where
  name := name
  kind := .ordinary
  loader := none
  accessFlags := 33
  super := sup
  interfaces := #[]
  cf := none
  fields := #[]
  methods := #[]
  instanceTypes := #[]
  staticTypes := #[]
  resolved := #[]
  callSites := []
  init := .initialized
  statics := none
  mirror := none

def pool0 : Array CpInfo := pool [(5, u "<init>"), (0, u "()V"), (1, .class_ 10), (1, u "java/lang/Object")] 113

def k0m0 : Method := { name := "<init>", desc := "()V", sig := { parameters := [], returnType := none }, accessFlags := 1, code := none }
/-- java/lang/Object -/
def k0 : Class := { plain "java/lang/Object" none with
  accessFlags := 33
  interfaces := #[]
  cf := some (fileOf pool0 8 #[] #[{ accessFlags := 1, nameIndex := 5, descriptorIndex := 6, attributes := #[] }] 33 0 #[] #[])
  fields := #[]
  methods := #[k0m0]
  instanceTypes := #[]
  staticTypes := #[]
  resolved := Array.replicate 124 none
  statics := none }

def pool1 : Array CpInfo := pool [(2, .class_ 4), (1, u "java/lang/Object"), (0, u "<init>"), (0, u "()V"), (0, .long 63), (1, .long 10), (1, .methodref 12 13), (0, .class_ 14), (0, .nameAndType 15 16), (0, u "com/example/poukaz/poukaz/FieldKindNumberPinLaw"), (0, u "digit"), (0, u "(JJI)I"), (0, .integer 2147483647), (0, .long 100), (1, .long 1000), (1, .long 10000), (1, .long 100000), (1, .long 1000000), (1, .long 10000000), (1, .long 100000000), (1, .long 1000000000), (1, .long 10000000000), (1, .long 100000000000), (1, .long 1000000000000), (1, .long 10000000000000), (1, .long 100000000000000), (1, .long 1000000000000000), (1, .long 10000000000000000), (1, .long 100000000000000000), (1, .methodref 12 51), (0, .nameAndType 52 53), (0, u "set"), (0, u "([I[BJJI)V"), (0, .methodref 12 55), (0, .nameAndType 56 57), (0, u "term"), (0, u "([I[JIII)J"), (0, .methodref 59 60), (0, .class_ 61), (0, .nameAndType 62 63), (0, u "com/example/poukaz/poukaz/FieldKind"), (0, u "number"), (0, u "([BII)J"), (3, u "law"), (0, u "(JJII)Z")] 8

def k1m0 : Method := { name := "<init>", desc := "()V", sig := { parameters := [], returnType := none }, accessFlags := 1, code := none }
def k1c1 : Code := { maxStack := 4, maxLocals := 8, code := method_2_code, exceptionTable := #[], attributes := #[] }
def k1m1 : Method := { name := "digit", desc := "(JJI)I", sig := { parameters := [.long, .long, .int], returnType := some .int }, accessFlags := 10, code := some k1c1 }
def k1c2 : Code := { maxStack := 7, maxLocals := 7, code := method_3_code, exceptionTable := #[], attributes := #[] }
def k1m2 : Method := { name := "set", desc := "([I[BJJI)V", sig := { parameters := [(.array .int), (.array .byte), .long, .long, .int], returnType := none }, accessFlags := 10, code := some k1c2 }
def k1c3 : Code := { maxStack := 5, maxLocals := 5, code := method_4_code, exceptionTable := #[], attributes := #[] }
def k1m3 : Method := { name := "term", desc := "([I[JIII)J", sig := { parameters := [(.array .int), (.array .long), .int, .int, .int], returnType := some .long }, accessFlags := 10, code := some k1c3 }
def k1c4 : Code := { maxStack := 7, maxLocals := 13, code := code, exceptionTable := #[], attributes := #[] }
def k1m4 : Method := { name := "law", desc := "(JJII)Z", sig := { parameters := [.long, .long, .int, .int], returnType := some .boolean }, accessFlags := 9, code := some k1c4 }
/-- com/example/poukaz/poukaz/FieldKindNumberPinLaw -/
def k1 : Class := { plain "com/example/poukaz/poukaz/FieldKindNumberPinLaw" (some 0) with
  accessFlags := 49
  interfaces := #[]
  cf := some (fileOf pool1 12 #[] #[{ accessFlags := 1, nameIndex := 5, descriptorIndex := 6, attributes := #[] }, { accessFlags := 10, nameIndex := 15, descriptorIndex := 16, attributes := #[] }, { accessFlags := 10, nameIndex := 52, descriptorIndex := 53, attributes := #[] }, { accessFlags := 10, nameIndex := 56, descriptorIndex := 57, attributes := #[] }, { accessFlags := 9, nameIndex := 67, descriptorIndex := 68, attributes := #[] }] 49 2 #[] #[])
  fields := #[]
  methods := #[k1m0, k1m1, k1m2, k1m3, k1m4]
  instanceTypes := #[]
  staticTypes := #[]
  resolved := Array.replicate 77 none
  statics := none }

def pool2 : Array CpInfo := pool [(1, .class_ 2), (0, u "java/lang/constant/Constable"), (0, .class_ 4), (0, u "java/lang/Object")] 6

/-- java/lang/constant/Constable -/
def k2 : Class := { plain "java/lang/constant/Constable" (some 0) with
  accessFlags := 1537
  interfaces := #[]
  cf := some (fileOf pool2 1 #[] #[] 1537 3 #[] #[])
  fields := #[]
  methods := #[]
  instanceTypes := #[]
  staticTypes := #[]
  resolved := Array.replicate 11 none
  statics := none }

def pool3 : Array CpInfo := pool [(1, .class_ 2), (0, u "java/lang/Comparable"), (0, .class_ 4), (0, u "java/lang/Object")] 7

/-- java/lang/Comparable -/
def k3 : Class := { plain "java/lang/Comparable" (some 0) with
  accessFlags := 1537
  interfaces := #[]
  cf := some (fileOf pool3 1 #[] #[] 1537 3 #[] #[])
  fields := #[]
  methods := #[]
  instanceTypes := #[]
  staticTypes := #[]
  resolved := Array.replicate 12 none
  statics := none }

def pool4 : Array CpInfo := pool [(1, .class_ 2), (0, u "java/io/Serializable"), (0, .class_ 4), (0, u "java/lang/Object")] 2

/-- java/io/Serializable -/
def k4 : Class := { plain "java/io/Serializable" (some 0) with
  accessFlags := 1537
  interfaces := #[]
  cf := some (fileOf pool4 1 #[] #[] 1537 3 #[] #[])
  fields := #[]
  methods := #[]
  instanceTypes := #[]
  staticTypes := #[]
  resolved := Array.replicate 7 none
  statics := none }

def pool5 : Array CpInfo := pool [(2, .class_ 4), (1, u "java/lang/Enum"), (0, u "name"), (0, u "Ljava/lang/String;"), (2, u "ordinal"), (0, u "I"), (1, .class_ 14), (1, u "java/lang/Object"), (4, u "hash"), (86, .class_ 108), (1, u "java/lang/Enum$EnumDesc"), (2, .class_ 112), (0, u "java/lang/constant/Constable"), (0, .class_ 114), (0, u "java/lang/Comparable"), (0, .class_ 116), (0, u "java/io/Serializable")] 87

/-- java/lang/Enum -/
def k5 : Class := { plain "java/lang/Enum" (some 0) with
  accessFlags := 1057
  interfaces := #[2, 3, 4]
  cf := some (fileOf pool5 2 #[.nestMembers #[106]] #[] 1057 12 #[111, 113, 115] #[{ accessFlags := 18, nameIndex := 5, descriptorIndex := 6, attributes := #[] }, { accessFlags := 18, nameIndex := 9, descriptorIndex := 10, attributes := #[] }, { accessFlags := 2, nameIndex := 19, descriptorIndex := 10, attributes := #[] }])
  fields := #[{ name := "name", type := (.object "java/lang/String"), accessFlags := 18, slot := 0, constantValue := 0 }, { name := "ordinal", type := .int, accessFlags := 18, slot := 1, constantValue := 0 }, { name := "hash", type := .int, accessFlags := 2, slot := 2, constantValue := 0 }]
  methods := #[]
  instanceTypes := #[(.object "java/lang/String"), .int, .int]
  staticTypes := #[]
  resolved := Array.replicate 204 none
  statics := none }

def pool6 : Array CpInfo := pool [(1, .class_ 2), (0, u "com/example/poukaz/poukaz/FieldKind"), (2, u "NUMBER"), (0, u "Lcom/example/poukaz/poukaz/FieldKind;"), (2, u "NUMBER_OR_BLANK"), (2, u "DECIMAL"), (2, u "DATE"), (2, u "DATE_OR_ZEROS"), (2, u "POSTAL_CODE"), (2, u "TEXT"), (2, u "$VALUES"), (0, u "[Lcom/example/poukaz/poukaz/FieldKind;"), (6, .class_ 37), (1, u "java/lang/Enum"), (103, .long 10), (3, .long 48), (96, u "number"), (0, u "([BII)J"), (29, u "DECIMALS"), (0, u "I"), (2, u "DECIMAL_DESCRIBED"), (0, u "Ljava/lang/String;")] 57

def k6c0 : Code := { maxStack := 4, maxLocals := 6, code := prog_12_method_12_code, exceptionTable := #[], attributes := #[] }
def k6m0 : Method := { name := "number", desc := "([BII)J", sig := { parameters := [(.array .byte), .int, .int], returnType := some .long }, accessFlags := 8, code := some k6c0 }
/-- com/example/poukaz/poukaz/FieldKind -/
def k6 : Class := { plain "com/example/poukaz/poukaz/FieldKind" (some 5) with
  accessFlags := 16433
  interfaces := #[]
  cf := some (fileOf pool6 1 #[] #[{ accessFlags := 8, nameIndex := 242, descriptorIndex := 243, attributes := #[] }] 16433 35 #[] #[{ accessFlags := 16409, nameIndex := 5, descriptorIndex := 6, attributes := #[] }, { accessFlags := 16409, nameIndex := 9, descriptorIndex := 6, attributes := #[] }, { accessFlags := 16409, nameIndex := 12, descriptorIndex := 6, attributes := #[] }, { accessFlags := 16409, nameIndex := 15, descriptorIndex := 6, attributes := #[] }, { accessFlags := 16409, nameIndex := 18, descriptorIndex := 6, attributes := #[] }, { accessFlags := 16409, nameIndex := 21, descriptorIndex := 6, attributes := #[] }, { accessFlags := 16409, nameIndex := 24, descriptorIndex := 6, attributes := #[] }, { accessFlags := 26, nameIndex := 273, descriptorIndex := 274, attributes := #[] }, { accessFlags := 26, nameIndex := 277, descriptorIndex := 278, attributes := #[] }, { accessFlags := 4122, nameIndex := 27, descriptorIndex := 28, attributes := #[] }])
  fields := #[{ name := "NUMBER", type := (.object "com/example/poukaz/poukaz/FieldKind"), accessFlags := 16409, slot := 0, constantValue := 0 }, { name := "NUMBER_OR_BLANK", type := (.object "com/example/poukaz/poukaz/FieldKind"), accessFlags := 16409, slot := 1, constantValue := 0 }, { name := "DECIMAL", type := (.object "com/example/poukaz/poukaz/FieldKind"), accessFlags := 16409, slot := 2, constantValue := 0 }, { name := "DATE", type := (.object "com/example/poukaz/poukaz/FieldKind"), accessFlags := 16409, slot := 3, constantValue := 0 }, { name := "DATE_OR_ZEROS", type := (.object "com/example/poukaz/poukaz/FieldKind"), accessFlags := 16409, slot := 4, constantValue := 0 }, { name := "POSTAL_CODE", type := (.object "com/example/poukaz/poukaz/FieldKind"), accessFlags := 16409, slot := 5, constantValue := 0 }, { name := "TEXT", type := (.object "com/example/poukaz/poukaz/FieldKind"), accessFlags := 16409, slot := 6, constantValue := 0 }, { name := "DECIMALS", type := .int, accessFlags := 26, slot := 7, constantValue := 0 }, { name := "DECIMAL_DESCRIBED", type := (.object "java/lang/String"), accessFlags := 26, slot := 8, constantValue := 0 }, { name := "$VALUES", type := (.array (.object "com/example/poukaz/poukaz/FieldKind")), accessFlags := 4122, slot := 9, constantValue := 0 }]
  methods := #[k6m0]
  instanceTypes := #[(.object "java/lang/String"), .int, .int]
  staticTypes := #[(.object "com/example/poukaz/poukaz/FieldKind"), (.object "com/example/poukaz/poukaz/FieldKind"), (.object "com/example/poukaz/poukaz/FieldKind"), (.object "com/example/poukaz/poukaz/FieldKind"), (.object "com/example/poukaz/poukaz/FieldKind"), (.object "com/example/poukaz/poukaz/FieldKind"), (.object "com/example/poukaz/poukaz/FieldKind"), .int, (.object "java/lang/String"), (.array (.object "com/example/poukaz/poukaz/FieldKind"))]
  resolved := Array.replicate 336 none
  statics := none }

def pool7 : Array CpInfo := pool [(1, u "java/lang/Cloneable"), (0, .class_ 1), (0, u "java/lang/Object"), (0, .class_ 3)] 3

/-- java/lang/Cloneable -/
def k7 : Class := { plain "java/lang/Cloneable" (some 0) with
  accessFlags := 1537
  interfaces := #[]
  cf := some (fileOf pool7 2 #[] #[] 1537 4 #[] #[])
  fields := #[]
  methods := #[]
  instanceTypes := #[]
  staticTypes := #[]
  resolved := Array.replicate 8 none
  statics := none }

/-- the primitive byte -/
def k8 : Class := { plain "byte" none with kind := .primitive 'B', accessFlags := 0x411 }
/-- [B -/
def k9 : Class := { plain "[B" (some 0) with kind := .array 8 .byte, interfaces := #[7, 4], accessFlags := 1041 }

/-- the primitive int -/
def k10 : Class := { plain "int" none with kind := .primitive 'I', accessFlags := 0x411 }
/-- [I -/
def k11 : Class := { plain "[I" (some 0) with kind := .array 10 .int, interfaces := #[7, 4], accessFlags := 1041 }

/-- the primitive long -/
def k12 : Class := { plain "long" none with kind := .primitive 'J', accessFlags := 0x411 }
/-- [J -/
def k13 : Class := { plain "[J" (some 0) with kind := .array 12 .long, interfaces := #[7, 4], accessFlags := 1041 }

def heap : Heap := #[]
def classes : Array Class := #[k0, k1, k2, k3, k4, k5, k6, k7, k8, k9, k10, k11, k12, k13]
def interned : List (Array UInt16 × Addr) := []
def slotsUsed : Nat := 0
def theMethod : MethodId := ⟨1, 4⟩
def args0 : Array Value := #[.long 5, .long 6, .int 7, .int 8]
def aboutOver (below : List Frame) : State where
  vm := { classes := classes, interned := interned.toArray }
  heap := heap
  slotsUsed := slotsUsed
  threads := #[{ frames := .invoking theMethod args0 :: below }]
def below0 : List Frame := [.native { method := ⟨0, 0⟩, args := #[] }]
def about1 : State := aboutOver below0
def p0 : Program := .bare "" "" ""
def e0 : Env := launch0.env 0 0 0
theorem w_frames : about1.frames = Frame.invoking theMethod args0 :: below0 := rfl
set_option maxRecDepth 65536 in
theorem w_args : argsFit about1.vm theMethod args0 = true := by decide +kernel
set_option maxRecDepth 65536 in
theorem w_heap : heapFits about1 = true := by decide +kernel
set_option maxRecDepth 65536 in
theorem w_runnable : about1.curStatus? = some .runnable := by decide +kernel
set_option maxRecDepth 65536 in
theorem w_alone : about1.alone = true := by decide +kernel
set_option maxRecDepth 65536 in
theorem w_named : about1.methodNamed? x = some theMethod := by decide +kernel
set_option maxRecDepth 65536 in
theorem w_hears : about1.hears theMethod below0 = true := by decide +kernel
set_option maxRecDepth 65536 in
theorem w_ripe : about1.ripe theMethod args0 below0 = true := by decide +kernel
theorem w_running : about1.status = .running := rfl
set_option maxRecDepth 65536 in
theorem w_room : about1.hasRoom e0.platform room_1 = true :=
  launch0.hasRoom_least _ room_1 (by decide +kernel) (by decide +kernel) (by decide +kernel) (by decide +kernel) (by decide +kernel) (by decide +kernel)
theorem allAtoms_all (ts : List Jvm.Cond) (a : Array Jvm.Value) (st : Jvm.State) : (allAtoms ts).before a st = ts.all (fun c => c.before a st) := by
  induction ts with
  | nil => rfl
  | cons c t ih =>
    show (Jvm.Cond.and c (allAtoms t)).before a st = _
    rw [Jvm.Cond.before_and, ih, List.all_cons]
def words1 : List Jvm.Cond := Jvm.Cond.code x code maxLocals ret :: tables_1
/-- a 'code' word, met by the world's own term for the bytes: nothing is compared byte by byte -/
theorem code_word {y : MethodName} {bytes : ByteArray} {mx : Nat} {rt : Option FieldType} {a : Array Value} {s : State} {m : MethodId} {meth : Method} {c : Code} (h1 : s.methodNamed? y = some m) (h2 : s.vm.method? m = some meth) (h3 : meth.code = some c) (h4 : c.code = bytes)
    (h5 : (c.maxLocals == mx && c.exceptionTable.isEmpty && decide (c.maxStack ≤ mostOperands) && decide (meth.sig.returnType = rt) && !meth.locks && decide (parseMethodDescriptor y.desc = some meth.sig)) = true) : (Jvm.Cond.code y bytes mx rt).before a s = true := by
  simp only [Bool.and_eq_true, beq_iff_eq, Bool.not_eq_true', decide_eq_true_eq] at h5
  obtain ⟨⟨⟨⟨⟨g1, g2⟩, g3⟩, g4⟩, g5⟩, g6⟩ := h5
  simp [Cond.before, Cond.holds, Cond.value, h1, h2, h3, h4, g1, g2, g3, g4, g5, g6]
def isCode : Jvm.Cond → Bool
  | .code _ _ _ _ => true
  | _ => false
theorem all_split {L : List Jvm.Cond} {P : Jvm.Cond → Bool} (h1 : L.all (fun c => isCode c || P c) = true) (h2 : ∀ c ∈ L.filter isCode, P c = true) : L.all P = true := by
  refine List.all_eq_true.mpr fun c hc => ?_
  have h := List.all_eq_true.mp h1 c hc
  rcases Bool.eq_false_or_eq_true (isCode c) with hi | hi
  · exact h2 c (List.mem_filter.mpr ⟨hc, hi⟩)
  · simpa [hi] using h
set_option maxRecDepth 65536 in
theorem w_c0 : (Jvm.Cond.code x code maxLocals ret).before args0 about1 = true := code_word (m := ⟨1, 4⟩) (meth := k1m4) (c := k1c4) (by decide +kernel) rfl rfl rfl (by decide +kernel)
set_option maxRecDepth 65536 in
theorem w_c1 : (Jvm.Cond.code ({ cls := "com/example/poukaz/poukaz/FieldKindNumberPinLaw", name := "set", desc := "([I[BJJI)V" } : Jvm.MethodName) method_3_code (7 : Nat) (Option.none : Option Jvm.ClassFile.FieldType)).before args0 about1 = true := code_word (m := ⟨1, 2⟩) (meth := k1m2) (c := k1c2) (by decide +kernel) rfl rfl rfl (by decide +kernel)
set_option maxRecDepth 65536 in
theorem w_c2 : (Jvm.Cond.code ({ cls := "com/example/poukaz/poukaz/FieldKindNumberPinLaw", name := "digit", desc := "(JJI)I" } : Jvm.MethodName) method_2_code (8 : Nat) (Option.some Jvm.ClassFile.FieldType.int)).before args0 about1 = true := code_word (m := ⟨1, 1⟩) (meth := k1m1) (c := k1c1) (by decide +kernel) rfl rfl rfl (by decide +kernel)
set_option maxRecDepth 65536 in
theorem w_c3 : (Jvm.Cond.code ({ cls := "com/example/poukaz/poukaz/FieldKindNumberPinLaw", name := "term", desc := "([I[JIII)J" } : Jvm.MethodName) method_4_code (5 : Nat) (Option.some Jvm.ClassFile.FieldType.long)).before args0 about1 = true := code_word (m := ⟨1, 3⟩) (meth := k1m3) (c := k1c3) (by decide +kernel) rfl rfl rfl (by decide +kernel)
set_option maxRecDepth 65536 in
theorem w_c4 : (Jvm.Cond.code ({ cls := "com/example/poukaz/poukaz/FieldKind", name := "number", desc := "([BII)J" } : Jvm.MethodName) prog_12_method_12_code (6 : Nat) (Option.some Jvm.ClassFile.FieldType.long)).before args0 about1 = true := code_word (m := ⟨6, 0⟩) (meth := k6m0) (c := k6c0) (by decide +kernel) rfl rfl rfl (by decide +kernel)
def codes1 : List Jvm.Cond := [Jvm.Cond.code x code maxLocals ret, Jvm.Cond.code ({ cls := "com/example/poukaz/poukaz/FieldKindNumberPinLaw", name := "set", desc := "([I[BJJI)V" } : Jvm.MethodName) method_3_code (7 : Nat) (Option.none : Option Jvm.ClassFile.FieldType), Jvm.Cond.code ({ cls := "com/example/poukaz/poukaz/FieldKindNumberPinLaw", name := "digit", desc := "(JJI)I" } : Jvm.MethodName) method_2_code (8 : Nat) (Option.some Jvm.ClassFile.FieldType.int), Jvm.Cond.code ({ cls := "com/example/poukaz/poukaz/FieldKindNumberPinLaw", name := "term", desc := "([I[JIII)J" } : Jvm.MethodName) method_4_code (5 : Nat) (Option.some Jvm.ClassFile.FieldType.long), Jvm.Cond.code ({ cls := "com/example/poukaz/poukaz/FieldKind", name := "number", desc := "([BII)J" } : Jvm.MethodName) prog_12_method_12_code (6 : Nat) (Option.some Jvm.ClassFile.FieldType.long)]
set_option maxRecDepth 65536 in
theorem codes_eq : words1.filter isCode = codes1 := rfl
theorem w_codes : ∀ c ∈ words1.filter isCode, c.before args0 about1 = true := by
  rw [codes_eq]
  intro c hc
  simp only [codes1, List.mem_cons, List.not_mem_nil, or_false] at hc
  rcases hc with rfl | rfl | rfl | rfl | rfl
  · exact w_c0
  · exact w_c1
  · exact w_c2
  · exact w_c3
  · exact w_c4
set_option maxRecDepth 65536 in
theorem w_t1 : (words1.take 24).all (fun c => isCode c || c.before args0 about1) = true := by decide +kernel
set_option maxRecDepth 65536 in
theorem w_t2 : (words1.drop 24).all (fun c => isCode c || c.before args0 about1) = true := by decide +kernel
theorem w_tables : (allAtoms (Jvm.Cond.code x code maxLocals ret :: tables_1)).before args0 about1 = true := by
  rw [allAtoms_all]
  show words1.all (fun c => c.before args0 about1) = true
  refine all_split ?_ w_codes
  rw [← List.take_append_drop 24 words1, List.all_append, w_t1, w_t2]
  rfl
set_option maxRecDepth 65536 in
theorem w_case : (Jvm.Cond.and given_1 narrow_1).before args0 about1 = true := by decide +kernel
theorem w_applies : (headSpec (Jvm.Cond.code x code maxLocals ret :: tables_1) room_1).applies x e0.platform about1 = true :=
  (Spec.applies_iff w_frames).mpr ⟨w_running, w_runnable, w_alone, w_named, w_hears, w_ripe, w_room, w_tables⟩
theorem atStart : AtStart classFile x code maxLocals ret World_1 tables_1 room_1 Calls_1 rest_1 Pre_1 launch0 p0 e0 about1 theMethod args0 below0 :=
  ⟨lists_1, trivial, launch0.admits_env _ _ _, launch0.least_env, fairChoices_fair.cas, fairChoices_fair.clock, w_frames, w_args, w_heap, w_applies, trivial, trivial, w_case⟩
end start1
theorem witness_1 : WitnessClaimed_1 := ⟨start1.p0, start1.e0, start1.about1, start1.theMethod, start1.args0, start1.below0, start1.atStart⟩
end Jvm.Pilot.@@N@@
