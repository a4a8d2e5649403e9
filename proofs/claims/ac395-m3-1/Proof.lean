import JvmDerived
import JvmDerived.Pilot.@@N@@Statement
import JvmDerived.Pilot.@@N@@Code
set_option linter.unusedVariables false
set_option linter.unusedSimpArgs false
namespace Jvm.RoadKit
open Sem ClassFile Op Lib Jvm.Stand Jvm.Free Jvm.LawKit
section New
variable {p : Program} {l : Launch} {e : Env} {R : Room} {s : State} {m : MethodId} {args : Array Value} {below : List Frame} {meth : Method} {c : Code} {T : State} {locs : List Loc} {cells slots : Nat}
theorem retI (X : Stand p l e R s m args below meth c T locs cells slots) (hx : p.tables.exec = Jvm.exec) {pc : Nat} {Ls : Array Slot} {z : Int32} {rest : List Value} (hret : meth.sig.returnType = some .int) (hd : decode c.code pc = .ok (.ireturn, 1)) {fs : List Frame}
    (hl : ∀ (f : JFrame) (acts : List Action), f.method = m → f.locked = none → f.entered = [] → (doReturn e (T.setTop f) acts (some (.int z))).1 = T.setFrames fs) : Steps p.tables e below (T.setTop (mkF m pc Ls (.int z :: rest))) (T.setFrames fs) := by
  have hm' : T.vm.method? m = some meth := X.method'
  have hn : narrow .int (.int z) = .int z := rfl
  show Steps p.tables e below (T.setTop { method := m, pc := pc, locals := Ls, stack := _ :: rest, locked := none }) _
  jvm_step X.here [X.here.top, hx, hd, hm', hret, hn]
  first | (intro acts; rw [hl _ acts rfl rfl rfl]) | rw [hl _ _ rfl rfl rfl]
  exact Steps.refl _
end New
end Jvm.RoadKit
namespace Jvm.Pilot.@@N@@
open Jvm Jvm.ClassFile Sem Op Lib Jvm.Free Jvm.Stand Jvm.LawKit Jvm.RoadKit Bundle Jvm.Pilot.@@N@@.Jvm.D
-- from the state st the run ends, and Q holds of what it leaves
def GoalS (tb : Tables) (e : Env) (below : List Frame) (s : State) (kc ks : Nat) (Q : Option Value → Heap → List Loc → Prop) (st : State) : Prop :=
  ∃ s₂ o, Steps tb e below st s₂ ∧ s₂.status = .running ∧ Ended s₂ below o ∧ ∃ v L, o = .returned v ∧ Q v s₂.heap L ∧ FrameEnd s o s₂ L kc ks
theorem GoalS.lift {tb : Tables} {e : Env} {below : List Frame} {s : State} {kc ks : Nat} {Q : Option Value → Heap → List Loc → Prop} {A B : State}
    (h : ∀ t, Steps tb e below B t → Steps tb e below A t) (g : GoalS tb e below s kc ks Q B) : GoalS tb e below s kc ks Q A := by
  obtain ⟨s₂, o, h1, h2⟩ := g
  exact ⟨s₂, o, h _ h1, h2⟩
-- an array of n places of which place i holds f i
def AV (Z : State) (h : Heap) (a : Addr) (k : ClassId) (ty : FieldType) (n : Nat) (f : Nat → Value) : Prop := ∃ c : Cell, Arr Z h a c ty ∧ c.cls = k ∧ c.slots.size = n ∧ n < 2147483648 ∧ ∀ i, i < n → c.slots[i]? = some (f i)
def updI (f : Nat → Int32) (j : Nat) (v : Int32) : Nat → Int32 := fun i => if i = j then v else f i
def updJ (f : Nat → Int64) (j : Nat) (v : Int64) : Nat → Int64 := fun i => if i = j then v else f i
def updR (f : Nat → Value) (j : Nat) (v : Value) : Nat → Value := fun i => if i = j then v else f i
section Own
variable {Z : State} {h h' : Heap} {a b : Addr} {k : ClassId} {ty : FieldType} {n : Nat} {f g : Nat → Value} {ws : List Addr} {v : Value} {sl : Nat}
theorem AV.lt (F : AV Z h a k ty n f) : a < h.size := by obtain ⟨c, A, -⟩ := F; exact A.lt
theorem AV.ext (F : AV Z h a k ty n f) (E : Ext h h') : AV Z h' a k ty n f := by obtain ⟨c, A, r⟩ := F; exact ⟨c, A.ext E, r⟩
theorem AV.other (F : AV Z h b k ty n f) (W : Wr h h' a sl v) (q : b ≠ a) : AV Z h' b k ty n f := by obtain ⟨c, A, r⟩ := F; exact ⟨c, A.other W q, r⟩
theorem AV.keep (F : AV Z h a k ty n f) (K : Keep h h' ws) (q : a ∉ ws) : AV Z h' a k ty n f := by obtain ⟨c, A, r⟩ := F; exact ⟨c, ⟨K.2.1 a c A.1 q, A.2⟩, r⟩
theorem AV.new {z : Int32} (A : Arr Z h a (newA k ty z) ty) (q : ¬ z < 0) (hn : z.toNatClampNeg = n) (hb : n < 2147483648) : AV Z h a k ty n (fun _ => defaultValue ty) :=
  ⟨_, A, rfl, (sz_new _ _ _).trans hn, hb, fun i hi => by simp [newA, hn, hi]⟩
theorem AV.inb {c : Cell} {j : Int32} (S : c.slots.size = n) (q : ¬ j < 0 ∧ j.toNatClampNeg < n) : ¬ (j < 0 ∨ c.slots.size ≤ j.toNatClampNeg) := fun u => u.elim q.1 fun w => by omega
theorem AV.inx {j : Int32} (q : ¬ j < 0 ∧ j.toNatClampNeg < n) : j.toNatClampNeg < n := q.2
theorem AV.conv (F : AV Z h a k ty n f) (e : ∀ i, i < n → f i = g i) : AV Z h a k ty n g := by
  obtain ⟨c, A, r1, r2, r3, r4⟩ := F; exact ⟨c, A, r1, r2, r3, fun i hi => (r4 i hi).trans (congrArg some (e i hi))⟩
theorem AV.putR {j : Nat} (F : AV Z h a k ty n f) (W : Wr h h' a j v) (hj : j < n) : AV Z h' a k ty n (updR f j v) := by
  obtain ⟨c, A, r1, r2, r3, r4⟩ := F
  refine ⟨_, A.same W, r1, (sz_set _ _ _).trans r2, r3, fun i hi => ?_⟩
  by_cases q : i = j
  · subst q; simp [Cell.setSlot, updR, r2, hi]
  · have q' : j ≠ i := fun u => q u.symm
    simp only [Cell.setSlot, updR, if_neg q]; rw [Array.getElem?_setIfInBounds_ne q']; exact r4 i hi
theorem AV.putI {j : Nat} {f : Nat → Int32} {v : Int32} (F : AV Z h a k ty n (fun i => Value.int (f i))) (W : Wr h h' a j (.int v)) (hj : j < n) : AV Z h' a k ty n (fun i => Value.int (updI f j v i)) :=
  (F.putR W hj).conv fun i _ => by simp only [updR, updI]; split <;> rfl
theorem AV.putJ {j : Nat} {f : Nat → Int64} {v : Int64} (F : AV Z h a k ty n (fun i => Value.long (f i))) (W : Wr h h' a j (.long v)) (hj : j < n) : AV Z h' a k ty n (fun i => Value.long (updJ f j v i)) :=
  (F.putR W hj).conv fun i _ => by simp only [updR, updJ]; split <;> rfl
end Own

def own_at (p1 : Int32) (p2 : Int32) (q3 : Int64) (q4 : Int64) : Int32 := (if p1 < p2 then ((((((((q4).toUInt64 >>> (((8 : Int32) * (p1 % (8 : Int32))) &&& 0x3f).toInt64.toUInt64).toInt64)).toInt32)).toInt8.toInt32)).toInt8.toInt32 else (if p1 < (p2 + (8 : Int32)) then ((((((((q3).toUInt64 >>> (((56 : Int32) - ((8 : Int32) * (p1 - p2))) &&& 0x3f).toInt64.toUInt64).toInt64)).toInt32)).toInt8.toInt32)).toInt8.toInt32 else ((((((((q4).toUInt64 >>> (((8 : Int32) * (p1 % (8 : Int32))) &&& 0x3f).toInt64.toUInt64).toInt64)).toInt32)).toInt8.toInt32)).toInt8.toInt32))
def own_be (f : Nat → Int32) (s : Nat) : Nat → Int64
  | 0 => 0
  | n + 1 => (own_be f s n <<< ((8 : Int32) &&& 0x3f).toInt64) ||| (f (s + n) &&& (255 : Int32)).toInt64
theorem own_lt {a n : Nat} (hn : n < 64) (ha : a < 64) : (Int32.ofNat a < Int32.ofNat n) ↔ a < n := by
  rw [Int32.lt_iff_toInt_lt, Int32.toInt_ofNat_of_lt (by omega), Int32.toInt_ofNat_of_lt (by omega)]; omega
theorem own_up (a : Nat) : Int32.ofNat a + (1 : Int32) = Int32.ofNat (a + 1) := by rw [Int32.ofNat_add]; rfl
theorem own_addn (a b : Nat) : Int32.ofNat a + Int32.ofNat b = Int32.ofNat (a + b) := by rw [Int32.ofNat_add]
theorem own_nat {x : Int32} {N : Nat} (h : x = Int32.ofNat N) (hN : N < 64) : ¬ x < 0 ∧ x.toNatClampNeg = N := by
  have e : x.toInt = N := by rw [h, Int32.toInt_ofNat_of_lt (by omega)]
  have e0 : (0 : Int32).toInt = 0 := rfl
  refine ⟨by rw [Int32.lt_iff_toInt_lt]; omega, ?_⟩
  show x.toInt.toNat = N
  omega
theorem own_off (x : Int32) : ∃ o : Nat, o < 4 ∧ (x &&& (3 : Int32)) = Int32.ofNat o := by
  have h : (x &&& 3).toInt = x.toInt % (2 ^ 2 : Nat) := c_mask x 3 2 (by decide) (by decide)
  refine ⟨(x.toInt % 4).toNat, by omega, ?_⟩
  apply Int32.toInt_inj.mp
  rw [h, Int32.toInt_ofNat_of_lt (by omega)]; omega
theorem own_len (x : Int32) : ∃ N : Nat, N < 9 ∧ ((x &&& (2147483647 : Int32)) % (9 : Int32)) = Int32.ofNat N := by
  have h1 : 0 ≤ (x &&& (2147483647 : Int32)).toInt := (c_andS x (2147483647 : Int32)).2.2 (by decide)
  have h2 := (c_irem (x &&& (2147483647 : Int32)) (9 : Int32) 9 rfl).1 h1
  refine ⟨((x &&& (2147483647 : Int32)).toInt % 9).toNat, by omega, ?_⟩
  apply Int32.toInt_inj.mp
  rw [h2, Int32.toInt_ofNat_of_lt (by omega)]; omega

theorem own_shift (v : Int64) (K : Int32) (s : Nat) (hK : K.toBitVec.toNat % 64 = s) : (((v).toUInt64 >>> (K &&& 0x3f).toInt64.toUInt64).toInt64).toInt % 18446744073709551616 = (v.toInt % 18446744073709551616) / (2 ^ s : Nat) := by
  by_cases h0 : 0 < s
  · rw [c_lushr v K s hK h0]
    apply Int.emod_eq_of_lt
    · exact Int.ediv_nonneg (Int.emod_nonneg _ (by decide)) (Int.natCast_nonneg _)
    · have h1 : (v.toInt % 18446744073709551616) / (2 ^ s : Nat) ≤ v.toInt % 18446744073709551616 := Int.ediv_le_self _ (Int.emod_nonneg _ (by decide))
      have h2 : v.toInt % 18446744073709551616 < 18446744073709551616 := Int.emod_lt_of_pos _ (by decide)
      omega
  · have hs : s = 0 := by omega
    subst hs
    have e : (K &&& 0x3f).toInt64.toUInt64 = 0 := by
      have := (sm64 K 0 hK).1
      apply UInt64.toBitVec_inj.mp
      exact this
    rw [e]
    have e2 : (v.toUInt64 >>> (0 : UInt64)).toInt64 = v := by simp
    rw [e2]
    simp
-- the byte at place i, as a number
theorem own_b (o i : Nat) (of : Int32) (v w : Int64) (ho : o < 4) (hof : of = Int32.ofNat o) (h1 : o ≤ i) (h2 : i < o + 8) :
    ((((own_at (Int32.ofNat i) of v w).toInt8.toInt32) &&& (255 : Int32)).toInt64).toInt = (v.toInt % 18446744073709551616) / (2 ^ (56 - 8 * (i - o)) : Nat) % 256 := by
  have c1 : ¬ Int32.ofNat i < of := by rw [hof, own_lt (by omega) (by omega)]; omega
  have e8 : of + (8 : Int32) = Int32.ofNat (o + 8) := by rw [hof, Int32.ofNat_add]; rfl
  have c2 : Int32.ofNat i < of + (8 : Int32) := by rw [e8, own_lt (by omega) (by omega)]; omega
  have eK : ((56 : Int32) - ((8 : Int32) * (Int32.ofNat i - of))) = Int32.ofNat (56 - 8 * (i - o)) := by
    have e1 : Int32.ofNat i - of = Int32.ofNat (i - o) := by
      rw [hof, show i = o + (i - o) by omega, Int32.ofNat_add, Int32.add_comm, Int32.add_sub_cancel, Nat.add_sub_cancel_left]
    have e2 : (56 : Int32) = Int32.ofNat (56 - 8 * (i - o)) + Int32.ofNat (8 * (i - o)) := by rw [← Int32.ofNat_add, Nat.sub_add_cancel (by omega)]; rfl
    rw [e1, show (8 : Int32) = Int32.ofNat 8 from rfl, ← Int32.ofNat_mul, e2, Int32.add_sub_cancel]
  rw [own_at, if_neg c1, if_pos c2, eK]
  have hK : (Int32.ofNat (56 - 8 * (i - o))).toBitVec.toNat % 64 = 56 - 8 * (i - o) := by
    show (BitVec.ofNat 32 _).toNat % 64 = _
    rw [BitVec.toNat_ofNat]; omega
  have hX := own_shift v (Int32.ofNat (56 - 8 * (i - o))) (56 - 8 * (i - o)) hK
  generalize ((v).toUInt64 >>> ((Int32.ofNat (56 - 8 * (i - o))) &&& 0x3f).toInt64.toUInt64).toInt64 = X at hX ⊢
  generalize hy : ((((X).toInt32)).toInt8.toInt32).toInt8.toInt32.toInt8.toInt32 = Y
  have q1 := (c_i2b X.toInt32).1
  have q2 := (c_i2b X.toInt32.toInt8.toInt32).1
  have q3 := (c_i2b X.toInt32.toInt8.toInt32.toInt8.toInt32).1
  have q4 := c_l2i X
  rw [hy] at q3
  have q5 : (Y &&& 255).toInt = Y.toInt % (2 ^ 8 : Nat) := c_mask Y 255 8 (by decide) (by decide)
  rw [c_i2l, q5, ← hX]
  omega
set_option maxRecDepth 65536 in
theorem own_val {f : Nat → Int32} {o l : Nat} {of : Int32} {v w : Int64} (ho : o < 4) (hof : of = Int32.ofNat o) (hF : ∀ i, i < 12 → f i = (own_at (Int32.ofNat i) of v w).toInt8.toInt32) (a : Nat) :
    ∀ n, a + n ≤ 8 → (own_be f (o + a) n).toInt % 18446744073709551616 = (v.toInt % 18446744073709551616) / (2 ^ (64 - 8 * (a + n)) : Nat) % (2 ^ (8 * n) : Nat)
  | 0, _ => by simp [own_be]
  | n + 1, h => by
    have ih := own_val (f := f) (l := l) ho hof hF a n (by omega)
    have hb := own_b o (o + a + n) of v w ho hof (by omega) (by omega)
    rw [← hF _ (by omega)] at hb
    rw [own_be]
    generalize own_be f (o + a) n = x at ih ⊢
    generalize (f (o + a + n) &&& (255 : Int32)).toInt64 = b at hb ⊢
    have e1 : 56 - 8 * (o + a + n - o) = 64 - 8 * (a + (n + 1)) := by omega
    rw [e1] at hb
    have e2 : (2 ^ (64 - 8 * (a + n)) : Nat) = 2 ^ (64 - 8 * (a + (n + 1))) * 256 := by
      rw [show 64 - 8 * (a + n) = 64 - 8 * (a + (n + 1)) + 8 by omega, Nat.pow_add]
    have e3 : (2 ^ (8 * (n + 1)) : Nat) = 256 * 2 ^ (8 * n) := by
      rw [show 8 * (n + 1) = 8 + 8 * n by omega, Nat.pow_add]
    generalize hU : (v.toInt % 18446744073709551616) / ((2 ^ (64 - 8 * (a + (n + 1))) : Nat) : Int) = U at hb ⊢
    have hU0 : 0 ≤ U := by rw [← hU]; exact Int.ediv_nonneg (Int.emod_nonneg _ (by decide)) (Int.natCast_nonneg _)
    have e4 : (v.toInt % 18446744073709551616) / ((2 ^ (64 - 8 * (a + n)) : Nat) : Int) = U / 256 := by
      rw [e2, Int.natCast_mul, ← Int.ediv_ediv_of_nonneg (by omega), hU]; rfl
    rw [e4] at ih
    have hM : (0 : Int) < ((2 ^ (8 * n) : Nat) : Int) := by exact_mod_cast Nat.two_pow_pos _
    have hM2 : ((2 ^ (8 * n) : Nat) : Int) ≤ 72057594037927936 := by
      have t : (2 ^ (8 * n) : Nat) ≤ 72057594037927936 := Nat.le_trans (Nat.pow_le_pow_right (by decide) (show 8 * n ≤ 56 by omega)) (by decide)
      exact Int.ofNat_le.mpr t
    have e5 : U % (((2 ^ (8 * (n + 1)) : Nat)) : Int) = U % 256 + 256 * (U / 256 % ((2 ^ (8 * n) : Nat) : Int)) := by
      obtain ⟨u, rfl⟩ := Int.eq_ofNat_of_zero_le hU0
      rw [e3]
      generalize 2 ^ (8 * n) = m
      exact_mod_cast Nat.mod_mul (x := u) (a := 256) (b := m)
    rw [e5]
    generalize ((2 ^ (8 * n) : Nat) : Int) = M at *
    have r1 : 0 ≤ U / 256 % M := Int.emod_nonneg _ (by omega)
    have r2 : U / 256 % M < M := Int.emod_lt_of_pos _ hM
    have s1 := c_lshl x (8 : Int32) 8 (by decide)
    have s1' : ((x <<< ((8 : Int32) &&& 0x3f).toInt64).toInt - x.toInt * 256) % 18446744073709551616 = 0 := s1
    have s2 := c_orL (x <<< ((8 : Int32) &&& 0x3f).toInt64) b 8 (by decide) 256 rfl (by omega) (by omega) (by omega)
    omega
theorem own_eq64 {x y : Int64} (h : x.toInt % 18446744073709551616 = y.toInt % 18446744073709551616) : x = y := by
  have := rng64 x; have := rng64 y
  exact Int64.toInt_inj.mp (by omega)
theorem own_st {o l : Nat} {of ln : Int32} (hof : of = Int32.ofNat o) (hln : ln = Int32.ofNat l) (ho : o < 4) (hl : l < 9) : (of + (8 : Int32)) - ln = Int32.ofNat (o + 8 - l) := by
  rw [hof, hln, show (8 : Int32) = Int32.ofNat 8 from rfl, ← Int32.ofNat_add, show o + 8 = (o + 8 - l) + l by omega, Int32.ofNat_add, Int32.add_sub_cancel, Nat.add_sub_cancel]
section Fin
variable {f : Nat → Int32} {o l : Nat} {of ln : Int32} {v w : Int64} (ho : o < 4) (hl : l < 9) (hof : of = Int32.ofNat o) (hln : ln = Int32.ofNat l) (hF : ∀ i, i < 12 → f i = (own_at (Int32.ofNat i) of v w).toInt8.toInt32)
theorem own_z (hl : l < 9) (hln : ln = Int32.ofNat l) (h : ln = (0 : Int32)) : l = 0 := by
  have := congrArg Int32.toInt h
  rw [hln, Int32.toInt_ofNat_of_lt (by omega)] at this
  have e : (0 : Int32).toInt = 0 := rfl
  omega
theorem own_8 (hl : l < 9) (hln : ln = Int32.ofNat l) (h : ln = (8 : Int32)) : l = 8 := by
  have := congrArg Int32.toInt h
  rw [hln, Int32.toInt_ofNat_of_lt (by omega)] at this
  have e : (8 : Int32).toInt = 8 := rfl
  omega
theorem own_l0 (ho : o < 4) (hl : l < 9) (hof : of = Int32.ofNat o) (hln : ln = Int32.ofNat l) (hF : ∀ i, i < 12 → f i = (own_at (Int32.ofNat i) of v w).toInt8.toInt32) (h : ln = (0 : Int32)) : own_be f (o + 8 - l) l = (0 : Int64) := by
  rw [own_z hl hln h]; rfl
theorem own_h0 (ho : o < 4) (hl : l < 9) (hof : of = Int32.ofNat o) (hln : ln = Int32.ofNat l) (hF : ∀ i, i < 12 → f i = (own_at (Int32.ofNat i) of v w).toInt8.toInt32) (h : ln = (0 : Int32)) : own_be f o l = (0 : Int64) := by
  rw [own_z hl hln h]; rfl
theorem own_l8 (ho : o < 4) (hl : l < 9) (hof : of = Int32.ofNat o) (hln : ln = Int32.ofNat l) (hF : ∀ i, i < 12 → f i = (own_at (Int32.ofNat i) of v w).toInt8.toInt32) (_ : ¬ ln = (0 : Int32)) (h : ln = (8 : Int32)) : own_be f (o + 8 - l) l = v := by
  have e := own_8 hl hln h
  subst e
  apply own_eq64
  have := own_val (l := 8) ho hof hF 0 8 (by omega)
  rw [show o + 8 - 8 = o + 0 by omega, this]
  have e1 : ((2 ^ (64 - 8 * (0 + 8)) : Nat) : Int) = 1 := by decide
  have e2 : ((2 ^ (8 * 8) : Nat) : Int) = 18446744073709551616 := by decide
  rw [e1, e2]
  omega
theorem own_lm (ho : o < 4) (hl : l < 9) (hof : of = Int32.ofNat o) (hln : ln = Int32.ofNat l) (hF : ∀ i, i < 12 → f i = (own_at (Int32.ofNat i) of v w).toInt8.toInt32) (h0 : ¬ ln = (0 : Int32)) (h8 : ¬ ln = (8 : Int32)) : own_be f (o + 8 - l) l = (v &&& (((1 : Int64) <<< (((8 : Int32) * ln) &&& 0x3f).toInt64) - (1 : Int64))) := by
  apply own_eq64
  have := own_val (l := l) ho hof hF (8 - l) l (by omega)
  rw [show o + 8 - l = o + (8 - l) by omega, this]
  have g : ∀ (m : Int64) (k : Nat), k ≤ 56 → m.toBitVec.toNat = 2 ^ k - 1 → ∀ P : Int, P = (2 ^ k : Nat) → 18446744073709551616 % P = 0 → 0 < P → (v &&& m).toInt % 18446744073709551616 = v.toInt % P := by
    intro m k hk hm P hP hd hp
    have e := c_maskL v m k (by omega) hm
    rw [e, ← hP]
    have p1 := Int.emod_nonneg v.toInt (show P ≠ 0 by omega)
    have p2 := Int.emod_lt_of_pos v.toInt hp
    have p3 : P ≤ 18446744073709551616 := Int.le_of_dvd (by decide) (Int.dvd_of_emod_eq_zero hd)
    rw [Int.emod_eq_of_lt p1 (by omega)]
  have c1 : l ≠ 0 := fun q => h0 (by rw [hln, q]; rfl)
  have c2 : l ≠ 8 := fun q => h8 (by rw [hln, q]; rfl)
  rw [hln]
  rcases (show l = 1 ∨ l = 2 ∨ l = 3 ∨ l = 4 ∨ l = 5 ∨ l = 6 ∨ l = 7 by omega) with rfl | rfl | rfl | rfl | rfl | rfl | rfl
  · rw [g _ 8 (by omega) (by decide) 256 (by decide) (by decide) (by decide)]; first | (simp; done) | (simp; omega)
  · rw [g _ 16 (by omega) (by decide) 65536 (by decide) (by decide) (by decide)]; first | (simp; done) | (simp; omega)
  · rw [g _ 24 (by omega) (by decide) 16777216 (by decide) (by decide) (by decide)]; first | (simp; done) | (simp; omega)
  · rw [g _ 32 (by omega) (by decide) 4294967296 (by decide) (by decide) (by decide)]; first | (simp; done) | (simp; omega)
  · rw [g _ 40 (by omega) (by decide) 1099511627776 (by decide) (by decide) (by decide)]; first | (simp; done) | (simp; omega)
  · rw [g _ 48 (by omega) (by decide) 281474976710656 (by decide) (by decide) (by decide)]; first | (simp; done) | (simp; omega)
  · rw [g _ 56 (by omega) (by decide) 72057594037927936 (by decide) (by decide) (by decide)]; first | (simp; done) | (simp; omega)
theorem own_hm (ho : o < 4) (hl : l < 9) (hof : of = Int32.ofNat o) (hln : ln = Int32.ofNat l) (hF : ∀ i, i < 12 → f i = (own_at (Int32.ofNat i) of v w).toInt8.toInt32) (h0 : ¬ ln = (0 : Int32)) : own_be f o l = (((v).toUInt64 >>> (((64 : Int32) - ((8 : Int32) * ln)) &&& 0x3f).toInt64.toUInt64).toInt64) := by
  apply own_eq64
  have := own_val (l := l) ho hof hF 0 l (by omega)
  rw [Nat.add_zero, Nat.zero_add] at this
  rw [this]
  have c1 : l ≠ 0 := fun q => h0 (by rw [hln, q]; rfl)
  rw [hln]
  have p1 := Int.emod_nonneg v.toInt (show (18446744073709551616 : Int) ≠ 0 by decide)
  have p2 := Int.emod_lt_of_pos v.toInt (show (0 : Int) < 18446744073709551616 by decide)
  rcases (show l = 1 ∨ l = 2 ∨ l = 3 ∨ l = 4 ∨ l = 5 ∨ l = 6 ∨ l = 7 ∨ l = 8 by omega) with rfl | rfl | rfl | rfl | rfl | rfl | rfl | rfl
  · rw [own_shift v _ 56 (by decide)]; first | (simp; done) | (simp; omega)
  · rw [own_shift v _ 48 (by decide)]; first | (simp; done) | (simp; omega)
  · rw [own_shift v _ 40 (by decide)]; first | (simp; done) | (simp; omega)
  · rw [own_shift v _ 32 (by decide)]; first | (simp; done) | (simp; omega)
  · rw [own_shift v _ 24 (by decide)]; first | (simp; done) | (simp; omega)
  · rw [own_shift v _ 16 (by decide)]; first | (simp; done) | (simp; omega)
  · rw [own_shift v _ 8 (by decide)]; first | (simp; done) | (simp; omega)
  · rw [own_shift v _ 0 (by decide)]; first | (simp; done) | (simp; omega)
end Fin

theorem d1_0 : decode method_2_code 0 = .ok (.iload_n 0, 1) := by decide +kernel
theorem d1_1 : decode method_2_code 1 = .ok (.iload_n 1, 1) := by decide +kernel
theorem d1_2 : decode method_2_code 2 = .ok (.if_icmp .lt 25, 3) := by decide +kernel
theorem d1_5 : decode method_2_code 5 = .ok (.iload_n 0, 1) := by decide +kernel
theorem d1_6 : decode method_2_code 6 = .ok (.iload_n 1, 1) := by decide +kernel
theorem d1_7 : decode method_2_code 7 = .ok (.bipush 8, 2) := by decide +kernel
theorem d1_9 : decode method_2_code 9 = .ok (.iadd, 1) := by decide +kernel
theorem d1_10 : decode method_2_code 10 = .ok (.if_icmp .ge 17, 3) := by decide +kernel
theorem d1_13 : decode method_2_code 13 = .ok (.lload_n 2, 1) := by decide +kernel
theorem d1_14 : decode method_2_code 14 = .ok (.bipush 56, 2) := by decide +kernel
theorem d1_16 : decode method_2_code 16 = .ok (.bipush 8, 2) := by decide +kernel
theorem d1_18 : decode method_2_code 18 = .ok (.iload_n 0, 1) := by decide +kernel
theorem d1_19 : decode method_2_code 19 = .ok (.iload_n 1, 1) := by decide +kernel
theorem d1_20 : decode method_2_code 20 = .ok (.isub, 1) := by decide +kernel
theorem d1_21 : decode method_2_code 21 = .ok (.imul, 1) := by decide +kernel
theorem d1_22 : decode method_2_code 22 = .ok (.isub, 1) := by decide +kernel
theorem d1_23 : decode method_2_code 23 = .ok (.lushr, 1) := by decide +kernel
theorem d1_24 : decode method_2_code 24 = .ok (.l2i, 1) := by decide +kernel
theorem d1_25 : decode method_2_code 25 = .ok (.i2b, 1) := by decide +kernel
theorem d1_26 : decode method_2_code 26 = .ok (.ireturn, 1) := by decide +kernel
theorem d1_27 : decode method_2_code 27 = .ok (.lload 4, 2) := by decide +kernel
theorem d1_29 : decode method_2_code 29 = .ok (.bipush 8, 2) := by decide +kernel
theorem d1_31 : decode method_2_code 31 = .ok (.iload_n 0, 1) := by decide +kernel
theorem d1_32 : decode method_2_code 32 = .ok (.bipush 8, 2) := by decide +kernel
theorem d1_34 : decode method_2_code 34 = .ok (.irem, 1) := by decide +kernel
theorem d1_35 : decode method_2_code 35 = .ok (.imul, 1) := by decide +kernel
theorem d1_36 : decode method_2_code 36 = .ok (.lushr, 1) := by decide +kernel
theorem d1_37 : decode method_2_code 37 = .ok (.l2i, 1) := by decide +kernel
theorem d1_38 : decode method_2_code 38 = .ok (.i2b, 1) := by decide +kernel
theorem d1_39 : decode method_2_code 39 = .ok (.ireturn, 1) := by decide +kernel
theorem pn_0 : plainName "com/example/flowglyph/flowglyph/core/BigEndianUnsignedPinLaw" = true := by first | (simp [plainName, overriddenIn]; done) | decide +kernel
theorem ef_rm1 (m : MethodId) (p1 : Int32) (p2 : Int32) (q3 : Int64) (q4 : Int64) : entryFrame m #[(.int p1), (.int p2), (.long q3), (.long q4)] 6 = mkF m 0 #[.val (.int p1), .val (.int p2), .val (.long q3), .second, .val (.long q4), .second] [] := by first | (simp [entryFrame, mkF, argsToLocals, Value.category]; done) | rfl
def Q1 (Z : State) (p1 : Int32) (p2 : Int32) (q3 : Int64) (q4 : Int64) (h0 : Heap) (n0 : Nat) (v : Option Value) (h : Heap) (L : List Loc) : Prop := ∃ r : Int32, v = some (.int r) ∧ r = own_at p1 p2 q3 q4 ∧ Fr n0 L ∧ h = h0
set_option maxRecDepth 65536 in
set_option maxHeartbeats 40000000 in
theorem rm1 (l : Launch) (Z : State) (a0 : Array Value) (hw : ∀ d ∈ tables_1, d.before a0 Z = true) (ws : List Jvm.Cond) (p1 : Int32) (p2 : Int32) (q3 : Int64) (q4 : Int64) (h0 : Heap) (n0 : Nat) (Z0 : n0 ≤ h0.size) :
    MetFree l (⟨"com/example/flowglyph/flowglyph/core/BigEndianUnsignedPinLaw", "at", "(IIJJ)B"⟩ : MethodName) (head1 (Jvm.Cond.code (⟨"com/example/flowglyph/flowglyph/core/BigEndianUnsignedPinLaw", "at", "(IIJJ)B"⟩ : MethodName) method_2_code 6 (some .byte) :: ws) ({ frames := 0, cells := 0, slots := 0, locals := 0 } : Room)) (fun a U => a = #[(.int p1), (.int p2), (.long q3), (.long q4)] ∧ Z.Warmed39 U.vm ∧ U.heap = h0) (fun _ _ _ _ _ => True) (fun _ U o U' => ∃ v L, o = .returned v ∧ Q1 Z p1 p2 q3 q4 h0 n0 v U'.heap L ∧ FrameEnd U o U' L ({ frames := 0, cells := 0, slots := 0, locals := 0 } : Room).cells ({ frames := 0, cells := 0, slots := 0, locals := 0 } : Room).slots) := by
  refine MetFree.of_bodySF (plainFor_of_name pn_0) hisR ?_
  intro p e s m args below meth c s₁ Bd hml0 hP hK
  obtain ⟨rfl, hZ, hh⟩ := hP
  have hx := Bd.exec
  have hby := Bd.bytes
  have hml : c.maxLocals = 6 := hml0
  have hown : s.vm.findClass "com/example/flowglyph/flowglyph/core/BigEndianUnsignedPinLaw" = some m.cls := findClass_of_methodNamed Bd.named
  have hnm := (name_of_methodNamed Bd.named Bd.method).1
  have X0 : Stand p l e ({ frames := 0, cells := 0, slots := 0, locals := 0 } : Room) s m #[(.int p1), (.int p2), (.long q3), (.long q4)] below meth c s₁ [] 0 0 := Stand.of_body Bd
  have e0 : s₁.heap = h0 := by rw [← hh, Bd.state]; rfl
  have N0 := Fr.nil n0
  show GoalS p.tables e below s ({ frames := 0, cells := 0, slots := 0, locals := 0 } : Room).cells ({ frames := 0, cells := 0, slots := 0, locals := 0 } : Room).slots (Q1 Z p1 p2 q3 q4 h0 n0) (s₁.setTop (entryFrame m #[(.int p1), (.int p2), (.long q3), (.long q4)] 6))
  refine GoalS.lift (B := s₁.setTop (mkF m 0 #[.val (.int p1), .val (.int p2), .val (.long q3), .second, .val (.long q4), .second] [])) (fun t k => castTop (ef_rm1 m p1 p2 q3 q4) k) ?_
  have K0 : Keep h0 h0 [] := Keep.refl _ _
  refine GoalS.lift (B := (s₁.setTop (mkF m 2 #[.val (.int p1), .val (.int p2), .val (.long q3), .second, .val (.long q4), .second] [(.int p2), (.int p1)]))) (fun t k => ?_) ?_
  · show Steps p.tables e below (s₁.setTop (mkF m 0 #[.val (.int p1), .val (.int p2), .val (.long q3), .second, .val (.long q4), .second] [])) _
    refine XS.iloadN X0.here hx rfl (hb hby d1_0) rfl ?_
    show Steps p.tables e below (s₁.setTop (mkF m 1 #[.val (.int p1), .val (.int p2), .val (.long q3), .second, .val (.long q4), .second] [(.int p1)])) _
    refine XS.iloadN X0.here hx rfl (hb hby d1_1) rfl ?_
    show Steps p.tables e below (s₁.setTop (mkF m 2 #[.val (.int p1), .val (.int p2), .val (.long q3), .second, .val (.long q4), .second] [(.int p2), (.int p1)])) _
    exact k
  by_cases hc2_1 : p1 < p2
  · obtain ⟨fs, hr, hrun, hended, hW, hsame⟩ := X0.leave (v := some (.int ((((((((q4).toUInt64 >>> (((8 : Int32) * (p1 % (8 : Int32))) &&& 0x3f).toInt64.toUInt64).toInt64)).toInt32)).toInt8.toInt32)).toInt8.toInt32)) (fun h => by rw [Bd.returns] at h; cases h)
    refine ⟨_, _, ?_, hrun, hended, _, _, rfl, ?_, ⟨_, rfl⟩, hW, hsame.mono (by decide) (by decide)⟩
    · show Steps p.tables e below (s₁.setTop (mkF m 2 #[.val (.int p1), .val (.int p2), .val (.long q3), .second, .val (.long q4), .second] [(.int p2), (.int p1)])) _
      refine XS.icmpYes X0.here hx rfl (pc0 := 2) (pc' := 27) rfl (hb hby d1_2) rfl ((tlt hc2_1).1) (by decide) (by decide) ?_
      show Steps p.tables e below (s₁.setTop (mkF m 27 #[.val (.int p1), .val (.int p2), .val (.long q3), .second, .val (.long q4), .second] [])) _
      refine XS.lload X0.here hx rfl (hb hby d1_27) rfl ?_
      show Steps p.tables e below (s₁.setTop (mkF m 29 #[.val (.int p1), .val (.int p2), .val (.long q3), .second, .val (.long q4), .second] [(.long q4)])) _
      refine XS.bipush X0.here hx rfl (hb hby d1_29) ?_
      show Steps p.tables e below (s₁.setTop (mkF m 31 #[.val (.int p1), .val (.int p2), .val (.long q3), .second, .val (.long q4), .second] [(.int (8 : Int32)), (.long q4)])) _
      refine XS.iloadN X0.here hx rfl (hb hby d1_31) rfl ?_
      show Steps p.tables e below (s₁.setTop (mkF m 32 #[.val (.int p1), .val (.int p2), .val (.long q3), .second, .val (.long q4), .second] [(.int p1), (.int (8 : Int32)), (.long q4)])) _
      refine XS.bipush X0.here hx rfl (hb hby d1_32) ?_
      show Steps p.tables e below (s₁.setTop (mkF m 34 #[.val (.int p1), .val (.int p2), .val (.long q3), .second, .val (.long q4), .second] [(.int (8 : Int32)), (.int p1), (.int (8 : Int32)), (.long q4)])) _
      refine iremM X0 hx rfl (hb hby d1_34) rfl (by decide) ?_
      show Steps p.tables e below (s₁.setTop (mkF m 35 #[.val (.int p1), .val (.int p2), .val (.long q3), .second, .val (.long q4), .second] [(.int (p1 % (8 : Int32))), (.int (8 : Int32)), (.long q4)])) _
      refine XS.imul X0.here hx rfl (hb hby d1_35) rfl ?_
      show Steps p.tables e below (s₁.setTop (mkF m 36 #[.val (.int p1), .val (.int p2), .val (.long q3), .second, .val (.long q4), .second] [(.int ((8 : Int32) * (p1 % (8 : Int32)))), (.long q4)])) _
      refine XS.lushr X0.here hx rfl (hb hby d1_36) rfl ?_
      show Steps p.tables e below (s₁.setTop (mkF m 37 #[.val (.int p1), .val (.int p2), .val (.long q3), .second, .val (.long q4), .second] [(.long (((q4).toUInt64 >>> (((8 : Int32) * (p1 % (8 : Int32))) &&& 0x3f).toInt64.toUInt64).toInt64))])) _
      refine XS.l2i X0.here hx rfl (hb hby d1_37) rfl ?_
      show Steps p.tables e below (s₁.setTop (mkF m 38 #[.val (.int p1), .val (.int p2), .val (.long q3), .second, .val (.long q4), .second] [(.int (((((q4).toUInt64 >>> (((8 : Int32) * (p1 % (8 : Int32))) &&& 0x3f).toInt64.toUInt64).toInt64)).toInt32))])) _
      refine XS.i2b X0.here hx rfl (hb hby d1_38) rfl ?_
      show Steps p.tables e below (s₁.setTop (mkF m 39 #[.val (.int p1), .val (.int p2), .val (.long q3), .second, .val (.long q4), .second] [(.int (((((((q4).toUInt64 >>> (((8 : Int32) * (p1 % (8 : Int32))) &&& 0x3f).toInt64.toUInt64).toInt64)).toInt32)).toInt8.toInt32))])) _
      exact retN X0 hx (t := .byte) Bd.returns (by simp) (hb hby d1_39) hr
    · show Q1 Z p1 p2 q3 q4 h0 n0 _ s₁.heap _
      exact ⟨_, rfl, (by rw [own_at]; simp only [if_pos hc2_1]), N0, e0⟩
  · refine GoalS.lift (B := (s₁.setTop (mkF m 10 #[.val (.int p1), .val (.int p2), .val (.long q3), .second, .val (.long q4), .second] [(.int (p2 + (8 : Int32))), (.int p1)]))) (fun t k => ?_) ?_
    · show Steps p.tables e below (s₁.setTop (mkF m 2 #[.val (.int p1), .val (.int p2), .val (.long q3), .second, .val (.long q4), .second] [(.int p2), (.int p1)])) _
      refine XS.icmpNo X0.here hx rfl (hb hby d1_2) rfl ((flt hc2_1).1) ?_
      show Steps p.tables e below (s₁.setTop (mkF m 5 #[.val (.int p1), .val (.int p2), .val (.long q3), .second, .val (.long q4), .second] [])) _
      refine XS.iloadN X0.here hx rfl (hb hby d1_5) rfl ?_
      show Steps p.tables e below (s₁.setTop (mkF m 6 #[.val (.int p1), .val (.int p2), .val (.long q3), .second, .val (.long q4), .second] [(.int p1)])) _
      refine XS.iloadN X0.here hx rfl (hb hby d1_6) rfl ?_
      show Steps p.tables e below (s₁.setTop (mkF m 7 #[.val (.int p1), .val (.int p2), .val (.long q3), .second, .val (.long q4), .second] [(.int p2), (.int p1)])) _
      refine XS.bipush X0.here hx rfl (hb hby d1_7) ?_
      show Steps p.tables e below (s₁.setTop (mkF m 9 #[.val (.int p1), .val (.int p2), .val (.long q3), .second, .val (.long q4), .second] [(.int (8 : Int32)), (.int p2), (.int p1)])) _
      refine XS.iadd X0.here hx rfl (hb hby d1_9) rfl ?_
      show Steps p.tables e below (s₁.setTop (mkF m 10 #[.val (.int p1), .val (.int p2), .val (.long q3), .second, .val (.long q4), .second] [(.int (p2 + (8 : Int32))), (.int p1)])) _
      exact k
    by_cases hc10_2 : p1 < (p2 + (8 : Int32))
    · obtain ⟨fs, hr, hrun, hended, hW, hsame⟩ := X0.leave (v := some (.int ((((((((q3).toUInt64 >>> (((56 : Int32) - ((8 : Int32) * (p1 - p2))) &&& 0x3f).toInt64.toUInt64).toInt64)).toInt32)).toInt8.toInt32)).toInt8.toInt32)) (fun h => by rw [Bd.returns] at h; cases h)
      refine ⟨_, _, ?_, hrun, hended, _, _, rfl, ?_, ⟨_, rfl⟩, hW, hsame.mono (by decide) (by decide)⟩
      · show Steps p.tables e below (s₁.setTop (mkF m 10 #[.val (.int p1), .val (.int p2), .val (.long q3), .second, .val (.long q4), .second] [(.int (p2 + (8 : Int32))), (.int p1)])) _
        refine XS.icmpNo X0.here hx rfl (hb hby d1_10) rfl ((tlt hc10_2).2.1) ?_
        show Steps p.tables e below (s₁.setTop (mkF m 13 #[.val (.int p1), .val (.int p2), .val (.long q3), .second, .val (.long q4), .second] [])) _
        refine XS.lloadN X0.here hx rfl (hb hby d1_13) rfl ?_
        show Steps p.tables e below (s₁.setTop (mkF m 14 #[.val (.int p1), .val (.int p2), .val (.long q3), .second, .val (.long q4), .second] [(.long q3)])) _
        refine XS.bipush X0.here hx rfl (hb hby d1_14) ?_
        show Steps p.tables e below (s₁.setTop (mkF m 16 #[.val (.int p1), .val (.int p2), .val (.long q3), .second, .val (.long q4), .second] [(.int (56 : Int32)), (.long q3)])) _
        refine XS.bipush X0.here hx rfl (hb hby d1_16) ?_
        show Steps p.tables e below (s₁.setTop (mkF m 18 #[.val (.int p1), .val (.int p2), .val (.long q3), .second, .val (.long q4), .second] [(.int (8 : Int32)), (.int (56 : Int32)), (.long q3)])) _
        refine XS.iloadN X0.here hx rfl (hb hby d1_18) rfl ?_
        show Steps p.tables e below (s₁.setTop (mkF m 19 #[.val (.int p1), .val (.int p2), .val (.long q3), .second, .val (.long q4), .second] [(.int p1), (.int (8 : Int32)), (.int (56 : Int32)), (.long q3)])) _
        refine XS.iloadN X0.here hx rfl (hb hby d1_19) rfl ?_
        show Steps p.tables e below (s₁.setTop (mkF m 20 #[.val (.int p1), .val (.int p2), .val (.long q3), .second, .val (.long q4), .second] [(.int p2), (.int p1), (.int (8 : Int32)), (.int (56 : Int32)), (.long q3)])) _
        refine XS.isub X0.here hx rfl (hb hby d1_20) rfl ?_
        show Steps p.tables e below (s₁.setTop (mkF m 21 #[.val (.int p1), .val (.int p2), .val (.long q3), .second, .val (.long q4), .second] [(.int (p1 - p2)), (.int (8 : Int32)), (.int (56 : Int32)), (.long q3)])) _
        refine XS.imul X0.here hx rfl (hb hby d1_21) rfl ?_
        show Steps p.tables e below (s₁.setTop (mkF m 22 #[.val (.int p1), .val (.int p2), .val (.long q3), .second, .val (.long q4), .second] [(.int ((8 : Int32) * (p1 - p2))), (.int (56 : Int32)), (.long q3)])) _
        refine XS.isub X0.here hx rfl (hb hby d1_22) rfl ?_
        show Steps p.tables e below (s₁.setTop (mkF m 23 #[.val (.int p1), .val (.int p2), .val (.long q3), .second, .val (.long q4), .second] [(.int ((56 : Int32) - ((8 : Int32) * (p1 - p2)))), (.long q3)])) _
        refine XS.lushr X0.here hx rfl (hb hby d1_23) rfl ?_
        show Steps p.tables e below (s₁.setTop (mkF m 24 #[.val (.int p1), .val (.int p2), .val (.long q3), .second, .val (.long q4), .second] [(.long (((q3).toUInt64 >>> (((56 : Int32) - ((8 : Int32) * (p1 - p2))) &&& 0x3f).toInt64.toUInt64).toInt64))])) _
        refine XS.l2i X0.here hx rfl (hb hby d1_24) rfl ?_
        show Steps p.tables e below (s₁.setTop (mkF m 25 #[.val (.int p1), .val (.int p2), .val (.long q3), .second, .val (.long q4), .second] [(.int (((((q3).toUInt64 >>> (((56 : Int32) - ((8 : Int32) * (p1 - p2))) &&& 0x3f).toInt64.toUInt64).toInt64)).toInt32))])) _
        refine XS.i2b X0.here hx rfl (hb hby d1_25) rfl ?_
        show Steps p.tables e below (s₁.setTop (mkF m 26 #[.val (.int p1), .val (.int p2), .val (.long q3), .second, .val (.long q4), .second] [(.int (((((((q3).toUInt64 >>> (((56 : Int32) - ((8 : Int32) * (p1 - p2))) &&& 0x3f).toInt64.toUInt64).toInt64)).toInt32)).toInt8.toInt32))])) _
        exact retN X0 hx (t := .byte) Bd.returns (by simp) (hb hby d1_26) hr
      · show Q1 Z p1 p2 q3 q4 h0 n0 _ s₁.heap _
        exact ⟨_, rfl, (by rw [own_at]; simp only [if_neg hc2_1, if_pos hc10_2]), N0, e0⟩
    · obtain ⟨fs, hr, hrun, hended, hW, hsame⟩ := X0.leave (v := some (.int ((((((((q4).toUInt64 >>> (((8 : Int32) * (p1 % (8 : Int32))) &&& 0x3f).toInt64.toUInt64).toInt64)).toInt32)).toInt8.toInt32)).toInt8.toInt32)) (fun h => by rw [Bd.returns] at h; cases h)
      refine ⟨_, _, ?_, hrun, hended, _, _, rfl, ?_, ⟨_, rfl⟩, hW, hsame.mono (by decide) (by decide)⟩
      · show Steps p.tables e below (s₁.setTop (mkF m 10 #[.val (.int p1), .val (.int p2), .val (.long q3), .second, .val (.long q4), .second] [(.int (p2 + (8 : Int32))), (.int p1)])) _
        refine XS.icmpYes X0.here hx rfl (pc0 := 10) (pc' := 27) rfl (hb hby d1_10) rfl ((flt hc10_2).2.1) (by decide) (by decide) ?_
        show Steps p.tables e below (s₁.setTop (mkF m 27 #[.val (.int p1), .val (.int p2), .val (.long q3), .second, .val (.long q4), .second] [])) _
        refine XS.lload X0.here hx rfl (hb hby d1_27) rfl ?_
        show Steps p.tables e below (s₁.setTop (mkF m 29 #[.val (.int p1), .val (.int p2), .val (.long q3), .second, .val (.long q4), .second] [(.long q4)])) _
        refine XS.bipush X0.here hx rfl (hb hby d1_29) ?_
        show Steps p.tables e below (s₁.setTop (mkF m 31 #[.val (.int p1), .val (.int p2), .val (.long q3), .second, .val (.long q4), .second] [(.int (8 : Int32)), (.long q4)])) _
        refine XS.iloadN X0.here hx rfl (hb hby d1_31) rfl ?_
        show Steps p.tables e below (s₁.setTop (mkF m 32 #[.val (.int p1), .val (.int p2), .val (.long q3), .second, .val (.long q4), .second] [(.int p1), (.int (8 : Int32)), (.long q4)])) _
        refine XS.bipush X0.here hx rfl (hb hby d1_32) ?_
        show Steps p.tables e below (s₁.setTop (mkF m 34 #[.val (.int p1), .val (.int p2), .val (.long q3), .second, .val (.long q4), .second] [(.int (8 : Int32)), (.int p1), (.int (8 : Int32)), (.long q4)])) _
        refine iremM X0 hx rfl (hb hby d1_34) rfl (by decide) ?_
        show Steps p.tables e below (s₁.setTop (mkF m 35 #[.val (.int p1), .val (.int p2), .val (.long q3), .second, .val (.long q4), .second] [(.int (p1 % (8 : Int32))), (.int (8 : Int32)), (.long q4)])) _
        refine XS.imul X0.here hx rfl (hb hby d1_35) rfl ?_
        show Steps p.tables e below (s₁.setTop (mkF m 36 #[.val (.int p1), .val (.int p2), .val (.long q3), .second, .val (.long q4), .second] [(.int ((8 : Int32) * (p1 % (8 : Int32)))), (.long q4)])) _
        refine XS.lushr X0.here hx rfl (hb hby d1_36) rfl ?_
        show Steps p.tables e below (s₁.setTop (mkF m 37 #[.val (.int p1), .val (.int p2), .val (.long q3), .second, .val (.long q4), .second] [(.long (((q4).toUInt64 >>> (((8 : Int32) * (p1 % (8 : Int32))) &&& 0x3f).toInt64.toUInt64).toInt64))])) _
        refine XS.l2i X0.here hx rfl (hb hby d1_37) rfl ?_
        show Steps p.tables e below (s₁.setTop (mkF m 38 #[.val (.int p1), .val (.int p2), .val (.long q3), .second, .val (.long q4), .second] [(.int (((((q4).toUInt64 >>> (((8 : Int32) * (p1 % (8 : Int32))) &&& 0x3f).toInt64.toUInt64).toInt64)).toInt32))])) _
        refine XS.i2b X0.here hx rfl (hb hby d1_38) rfl ?_
        show Steps p.tables e below (s₁.setTop (mkF m 39 #[.val (.int p1), .val (.int p2), .val (.long q3), .second, .val (.long q4), .second] [(.int (((((((q4).toUInt64 >>> (((8 : Int32) * (p1 % (8 : Int32))) &&& 0x3f).toInt64.toUInt64).toInt64)).toInt32)).toInt8.toInt32))])) _
        exact retN X0 hx (t := .byte) Bd.returns (by simp) (hb hby d1_39) hr
      · show Q1 Z p1 p2 q3 q4 h0 n0 _ s₁.heap _
        exact ⟨_, rfl, (by rw [own_at]; simp only [if_neg hc2_1, if_neg hc10_2]), N0, e0⟩
theorem d2_0 : decode prog_19_method_2_code 0 = .ok (.lconst 0, 1) := by decide +kernel
theorem d2_1 : decode prog_19_method_2_code 1 = .ok (.lstore_n 3, 1) := by decide +kernel
theorem d2_2 : decode prog_19_method_2_code 2 = .ok (.iload_n 1, 1) := by decide +kernel
theorem d2_3 : decode prog_19_method_2_code 3 = .ok (.istore 5, 2) := by decide +kernel
theorem d2_5 : decode prog_19_method_2_code 5 = .ok (.iload 5, 2) := by decide +kernel
theorem d2_7 : decode prog_19_method_2_code 7 = .ok (.iload_n 1, 1) := by decide +kernel
theorem d2_8 : decode prog_19_method_2_code 8 = .ok (.iload_n 2, 1) := by decide +kernel
theorem d2_9 : decode prog_19_method_2_code 9 = .ok (.iadd, 1) := by decide +kernel
theorem d2_10 : decode prog_19_method_2_code 10 = .ok (.if_icmp .ge 24, 3) := by decide +kernel
theorem d2_13 : decode prog_19_method_2_code 13 = .ok (.lload_n 3, 1) := by decide +kernel
theorem d2_14 : decode prog_19_method_2_code 14 = .ok (.bipush 8, 2) := by decide +kernel
theorem d2_16 : decode prog_19_method_2_code 16 = .ok (.lshl, 1) := by decide +kernel
theorem d2_17 : decode prog_19_method_2_code 17 = .ok (.aload_n 0, 1) := by decide +kernel
theorem d2_18 : decode prog_19_method_2_code 18 = .ok (.iload 5, 2) := by decide +kernel
theorem d2_20 : decode prog_19_method_2_code 20 = .ok (.baload, 1) := by decide +kernel
theorem d2_21 : decode prog_19_method_2_code 21 = .ok (.sipush 255, 3) := by decide +kernel
theorem d2_24 : decode prog_19_method_2_code 24 = .ok (.iand, 1) := by decide +kernel
theorem d2_25 : decode prog_19_method_2_code 25 = .ok (.i2l, 1) := by decide +kernel
theorem d2_26 : decode prog_19_method_2_code 26 = .ok (.lor, 1) := by decide +kernel
theorem d2_27 : decode prog_19_method_2_code 27 = .ok (.lstore_n 3, 1) := by decide +kernel
theorem d2_28 : decode prog_19_method_2_code 28 = .ok (.iinc 5 1, 3) := by decide +kernel
theorem d2_31 : decode prog_19_method_2_code 31 = .ok (.goto (-26), 3) := by decide +kernel
theorem d2_34 : decode prog_19_method_2_code 34 = .ok (.lload_n 3, 1) := by decide +kernel
theorem d2_35 : decode prog_19_method_2_code 35 = .ok (.lreturn, 1) := by decide +kernel
theorem pn_1 : plainName "com/example/flowglyph/flowglyph/core/BigEndian" = true := by first | (simp [plainName, overriddenIn]; done) | decide +kernel
theorem ef_rm2 (m : MethodId) (a1 : Addr) (p2 : Int32) (p3 : Int32) : entryFrame m #[(.ref a1), (.int p2), (.int p3)] 6 = mkF m 0 #[.val (.ref a1), .val (.int p2), .val (.int p3), .unset, .unset, .unset] [] := by first | (simp [entryFrame, mkF, argsToLocals, Value.category]; done) | rfl
def Q2 (Z : State) (a1 : Addr) (p2 : Int32) (p3 : Int32) (k : ClassId) (f : Nat → Int32) (s0 : Nat) (nn : Nat) (h0 : Heap) (n0 : Nat) (v : Option Value) (h : Heap) (L : List Loc) : Prop := ∃ r : Int64, v = some (.long r) ∧ r = own_be f s0 nn ∧ Fr n0 L ∧ h = h0
set_option maxRecDepth 65536 in
set_option maxHeartbeats 40000000 in
theorem rm2 (l : Launch) (Z : State) (a0 : Array Value) (hw : ∀ d ∈ tables_1, d.before a0 Z = true) (ws : List Jvm.Cond) (a1 : Addr) (p2 : Int32) (p3 : Int32) (k : ClassId) (f : Nat → Int32) (s0 : Nat) (nn : Nat) (h0 : Heap) (n0 : Nat) (Z0 : n0 ≤ h0.size) (A_a1 : AV Z h0 a1 k .byte 12 (fun i => Value.int (f i))) (hp2 : p2 = Int32.ofNat s0) (hp3 : p3 = Int32.ofNat nn) (hs : s0 + nn ≤ 12) :
    MetFree l (⟨"com/example/flowglyph/flowglyph/core/BigEndian", "unsigned", "([BII)J"⟩ : MethodName) (head1 (Jvm.Cond.code (⟨"com/example/flowglyph/flowglyph/core/BigEndian", "unsigned", "([BII)J"⟩ : MethodName) prog_19_method_2_code 6 (some .long) :: ws) ({ frames := 0, cells := 0, slots := 0, locals := 0 } : Room)) (fun a U => a = #[(.ref a1), (.int p2), (.int p3)] ∧ Z.Warmed39 U.vm ∧ U.heap = h0) (fun _ _ _ _ _ => True) (fun _ U o U' => ∃ v L, o = .returned v ∧ Q2 Z a1 p2 p3 k f s0 nn h0 n0 v U'.heap L ∧ FrameEnd U o U' L ({ frames := 0, cells := 0, slots := 0, locals := 0 } : Room).cells ({ frames := 0, cells := 0, slots := 0, locals := 0 } : Room).slots) := by
  refine MetFree.of_bodySF (plainFor_of_name pn_1) hisR ?_
  intro p e s m args below meth c s₁ Bd hml0 hP hK
  obtain ⟨rfl, hZ, hh⟩ := hP
  have hx := Bd.exec
  have hby := Bd.bytes
  have hml : c.maxLocals = 6 := hml0
  have hown : s.vm.findClass "com/example/flowglyph/flowglyph/core/BigEndian" = some m.cls := findClass_of_methodNamed Bd.named
  have hnm := (name_of_methodNamed Bd.named Bd.method).1
  have X0 : Stand p l e ({ frames := 0, cells := 0, slots := 0, locals := 0 } : Room) s m #[(.ref a1), (.int p2), (.int p3)] below meth c s₁ [] 0 0 := Stand.of_body Bd
  have e0 : s₁.heap = h0 := by rw [← hh, Bd.state]; rfl
  have N0 := Fr.nil n0
  show GoalS p.tables e below s ({ frames := 0, cells := 0, slots := 0, locals := 0 } : Room).cells ({ frames := 0, cells := 0, slots := 0, locals := 0 } : Room).slots (Q2 Z a1 p2 p3 k f s0 nn h0 n0) (s₁.setTop (entryFrame m #[(.ref a1), (.int p2), (.int p3)] 6))
  refine GoalS.lift (B := s₁.setTop (mkF m 0 #[.val (.ref a1), .val (.int p2), .val (.int p3), .unset, .unset, .unset] [])) (fun t k => castTop (ef_rm2 m a1 p2 p3) k) ?_
  have K0 : Keep h0 h0 [] := Keep.refl _ _
  refine GoalS.lift (B := (s₁.setTop (mkF m 5 #[.val (.ref a1), .val (.int p2), .val (.int p3), .val (.long (0 : Int64)), .second, .val (.int p2)] []))) (fun t k => ?_) ?_
  · show Steps p.tables e below (s₁.setTop (mkF m 0 #[.val (.ref a1), .val (.int p2), .val (.int p3), .unset, .unset, .unset] [])) _
    refine XS.lconst X0.here hx rfl (hb hby d2_0) ?_
    show Steps p.tables e below (s₁.setTop (mkF m 1 #[.val (.ref a1), .val (.int p2), .val (.int p3), .unset, .unset, .unset] [(.long (0 : Int64))])) _
    refine XS.lstoreN X0.here hx rfl (hb hby d2_1) rfl (l' := #[.val (.ref a1), .val (.int p2), .val (.int p3), .val (.long (0 : Int64)), .second, .unset]) rfl ?_
    show Steps p.tables e below (s₁.setTop (mkF m 2 #[.val (.ref a1), .val (.int p2), .val (.int p3), .val (.long (0 : Int64)), .second, .unset] [])) _
    refine XS.iloadN X0.here hx rfl (hb hby d2_2) rfl ?_
    show Steps p.tables e below (s₁.setTop (mkF m 3 #[.val (.ref a1), .val (.int p2), .val (.int p3), .val (.long (0 : Int64)), .second, .unset] [(.int p2)])) _
    refine XS.istore X0.here hx rfl (hb hby d2_3) rfl (l' := #[.val (.ref a1), .val (.int p2), .val (.int p3), .val (.long (0 : Int64)), .second, .val (.int p2)]) rfl ?_
    show Steps p.tables e below (s₁.setTop (mkF m 5 #[.val (.ref a1), .val (.int p2), .val (.int p3), .val (.long (0 : Int64)), .second, .val (.int p2)] [])) _
    exact k
  have LP1 : ∀ (kk : Nat) (a : Nat) (acc : Int64) (i : Int32), (i = Int32.ofNat (s0 + a) ∧ a + kk = nn) → (acc = own_be f s0 a) → GoalS p.tables e below s ({ frames := 0, cells := 0, slots := 0, locals := 0 } : Room).cells ({ frames := 0, cells := 0, slots := 0, locals := 0 } : Room).slots (Q2 Z a1 p2 p3 k f s0 nn h0 n0) (s₁.setTop (mkF m 5 #[.val (.ref a1), .val (.int p2), .val (.int p3), .val (.long acc), .second, .val (.int i)] [])) := by
    intro kk
    induction kk using Nat.strongRecOn with
    | ind kk ih =>
    intro a acc i hi hacc
    refine GoalS.lift (B := (s₁.setTop (mkF m 10 #[.val (.ref a1), .val (.int p2), .val (.int p3), .val (.long acc), .second, .val (.int i)] [(.int (p2 + p3)), (.int i)]))) (fun t k => ?_) ?_
    · show Steps p.tables e below (s₁.setTop (mkF m 5 #[.val (.ref a1), .val (.int p2), .val (.int p3), .val (.long acc), .second, .val (.int i)] [])) _
      refine XS.iload X0.here hx rfl (hb hby d2_5) rfl ?_
      show Steps p.tables e below (s₁.setTop (mkF m 7 #[.val (.ref a1), .val (.int p2), .val (.int p3), .val (.long acc), .second, .val (.int i)] [(.int i)])) _
      refine XS.iloadN X0.here hx rfl (hb hby d2_7) rfl ?_
      show Steps p.tables e below (s₁.setTop (mkF m 8 #[.val (.ref a1), .val (.int p2), .val (.int p3), .val (.long acc), .second, .val (.int i)] [(.int p2), (.int i)])) _
      refine XS.iloadN X0.here hx rfl (hb hby d2_8) rfl ?_
      show Steps p.tables e below (s₁.setTop (mkF m 9 #[.val (.ref a1), .val (.int p2), .val (.int p3), .val (.long acc), .second, .val (.int i)] [(.int p3), (.int p2), (.int i)])) _
      refine XS.iadd X0.here hx rfl (hb hby d2_9) rfl ?_
      show Steps p.tables e below (s₁.setTop (mkF m 10 #[.val (.ref a1), .val (.int p2), .val (.int p3), .val (.long acc), .second, .val (.int i)] [(.int (p2 + p3)), (.int i)])) _
      exact k
    by_cases hc10_3 : i < (p2 + p3)
    · have hlt : a < nn := by rw [hi.1, hp2, hp3, own_addn, own_lt (by omega) (by omega)] at hc10_3; omega
      obtain ⟨cl4, Ar4, kc4, sz4, -, hv4⟩ := id A_a1
      have hin4 : ¬ (i < 0 ∨ cl4.slots.size ≤ (i).toNatClampNeg) := AV.inb sz4 ⟨(own_nat hi.1 (by omega)).1, by rw [(own_nat hi.1 (by omega)).2]; omega⟩
      have hat4 : cl4.slots[(i).toNatClampNeg]? = some (.int (f (i).toNatClampNeg)) := (hv4 _ (AV.inx ⟨(own_nat hi.1 (by omega)).1, by rw [(own_nat hi.1 (by omega)).2]; omega⟩)).trans (congrArg some rfl)
      refine GoalS.lift (B := (s₁.setTop (mkF m 5 #[.val (.ref a1), .val (.int p2), .val (.int p3), .val (.long (((acc <<< ((8 : Int32) &&& 0x3f).toInt64)) ||| ((((f (i).toNatClampNeg) &&& (255 : Int32))).toInt64))), .second, .val (.int (i + (1 : Int32)))] []))) (fun t k => ?_) ?_
      · show Steps p.tables e below (s₁.setTop (mkF m 10 #[.val (.ref a1), .val (.int p2), .val (.int p3), .val (.long acc), .second, .val (.int i)] [(.int (p2 + p3)), (.int i)])) _
        refine XS.icmpNo X0.here hx rfl (hb hby d2_10) rfl ((tlt hc10_3).2.1) ?_
        show Steps p.tables e below (s₁.setTop (mkF m 13 #[.val (.ref a1), .val (.int p2), .val (.int p3), .val (.long acc), .second, .val (.int i)] [])) _
        refine XS.lloadN X0.here hx rfl (hb hby d2_13) rfl ?_
        show Steps p.tables e below (s₁.setTop (mkF m 14 #[.val (.ref a1), .val (.int p2), .val (.int p3), .val (.long acc), .second, .val (.int i)] [(.long acc)])) _
        refine XS.bipush X0.here hx rfl (hb hby d2_14) ?_
        show Steps p.tables e below (s₁.setTop (mkF m 16 #[.val (.ref a1), .val (.int p2), .val (.int p3), .val (.long acc), .second, .val (.int i)] [(.int (8 : Int32)), (.long acc)])) _
        refine XS.lshl X0.here hx rfl (hb hby d2_16) rfl ?_
        show Steps p.tables e below (s₁.setTop (mkF m 17 #[.val (.ref a1), .val (.int p2), .val (.int p3), .val (.long acc), .second, .val (.int i)] [(.long ((acc <<< ((8 : Int32) &&& 0x3f).toInt64)))])) _
        refine XS.aloadN X0.here hx rfl (hb hby d2_17) rfl rfl ?_
        show Steps p.tables e below (s₁.setTop (mkF m 18 #[.val (.ref a1), .val (.int p2), .val (.int p3), .val (.long acc), .second, .val (.int i)] [(.ref a1), (.long ((acc <<< ((8 : Int32) &&& 0x3f).toInt64)))])) _
        refine XS.iload X0.here hx rfl (hb hby d2_18) rfl ?_
        show Steps p.tables e below (s₁.setTop (mkF m 20 #[.val (.ref a1), .val (.int p2), .val (.int p3), .val (.long acc), .second, .val (.int i)] [(.int i), (.ref a1), (.long ((acc <<< ((8 : Int32) &&& 0x3f).toInt64)))])) _
        refine X0.baloadBytes hx (j := i) (v := (.int (f (i).toNatClampNeg))) (by rw [e0]; exact Ar4.1) (State.isArrayOf_alike hZ.alike Ar4.2.1) Ar4.2.2 hin4 hat4 (g := (mkF m 20 #[.val (.ref a1), .val (.int p2), .val (.int p3), .val (.long acc), .second, .val (.int i)] [(.int i), (.ref a1), (.long ((acc <<< ((8 : Int32) &&& 0x3f).toInt64)))])) rfl rfl (hb hby d2_20) _ ?_
        show Steps p.tables e below (s₁.setTop (mkF m 21 #[.val (.ref a1), .val (.int p2), .val (.int p3), .val (.long acc), .second, .val (.int i)] [(.int (f (i).toNatClampNeg)), (.long ((acc <<< ((8 : Int32) &&& 0x3f).toInt64)))])) _
        refine XS.sipush X0.here hx rfl (hb hby d2_21) ?_
        show Steps p.tables e below (s₁.setTop (mkF m 24 #[.val (.ref a1), .val (.int p2), .val (.int p3), .val (.long acc), .second, .val (.int i)] [(.int (255 : Int32)), (.int (f (i).toNatClampNeg)), (.long ((acc <<< ((8 : Int32) &&& 0x3f).toInt64)))])) _
        refine XS.iand X0.here hx rfl (hb hby d2_24) rfl ?_
        show Steps p.tables e below (s₁.setTop (mkF m 25 #[.val (.ref a1), .val (.int p2), .val (.int p3), .val (.long acc), .second, .val (.int i)] [(.int ((f (i).toNatClampNeg) &&& (255 : Int32))), (.long ((acc <<< ((8 : Int32) &&& 0x3f).toInt64)))])) _
        refine XS.i2l X0.here hx rfl (hb hby d2_25) rfl ?_
        show Steps p.tables e below (s₁.setTop (mkF m 26 #[.val (.ref a1), .val (.int p2), .val (.int p3), .val (.long acc), .second, .val (.int i)] [(.long ((((f (i).toNatClampNeg) &&& (255 : Int32))).toInt64)), (.long ((acc <<< ((8 : Int32) &&& 0x3f).toInt64)))])) _
        refine XS.lor X0.here hx rfl (hb hby d2_26) rfl ?_
        show Steps p.tables e below (s₁.setTop (mkF m 27 #[.val (.ref a1), .val (.int p2), .val (.int p3), .val (.long acc), .second, .val (.int i)] [(.long (((acc <<< ((8 : Int32) &&& 0x3f).toInt64)) ||| ((((f (i).toNatClampNeg) &&& (255 : Int32))).toInt64)))])) _
        refine XS.lstoreN X0.here hx rfl (hb hby d2_27) rfl (l' := #[.val (.ref a1), .val (.int p2), .val (.int p3), .val (.long (((acc <<< ((8 : Int32) &&& 0x3f).toInt64)) ||| ((((f (i).toNatClampNeg) &&& (255 : Int32))).toInt64))), .second, .val (.int i)]) rfl ?_
        show Steps p.tables e below (s₁.setTop (mkF m 28 #[.val (.ref a1), .val (.int p2), .val (.int p3), .val (.long (((acc <<< ((8 : Int32) &&& 0x3f).toInt64)) ||| ((((f (i).toNatClampNeg) &&& (255 : Int32))).toInt64))), .second, .val (.int i)] [])) _
        refine XS.iinc X0.here hx rfl (hb hby d2_28) rfl (l' := #[.val (.ref a1), .val (.int p2), .val (.int p3), .val (.long (((acc <<< ((8 : Int32) &&& 0x3f).toInt64)) ||| ((((f (i).toNatClampNeg) &&& (255 : Int32))).toInt64))), .second, .val (.int (i + (1 : Int32)))]) rfl ?_
        show Steps p.tables e below (s₁.setTop (mkF m 31 #[.val (.ref a1), .val (.int p2), .val (.int p3), .val (.long (((acc <<< ((8 : Int32) &&& 0x3f).toInt64)) ||| ((((f (i).toNatClampNeg) &&& (255 : Int32))).toInt64))), .second, .val (.int (i + (1 : Int32)))] [])) _
        refine XS.goto X0.here hx rfl (pc0 := 31) (pc' := 5) rfl (hb hby d2_31) (by decide) (by decide) ?_
        show Steps p.tables e below (s₁.setTop (mkF m 5 #[.val (.ref a1), .val (.int p2), .val (.int p3), .val (.long (((acc <<< ((8 : Int32) &&& 0x3f).toInt64)) ||| ((((f (i).toNatClampNeg) &&& (255 : Int32))).toInt64))), .second, .val (.int (i + (1 : Int32)))] [])) _
        exact k
      exact ih (kk - 1) (by have := hlt; omega) (a + 1) (((acc <<< ((8 : Int32) &&& 0x3f).toInt64)) ||| ((((f (i).toNatClampNeg) &&& (255 : Int32))).toInt64)) (i + (1 : Int32)) ⟨by rw [hi.1, own_up]; rfl, by have := hlt; omega⟩ (by rw [hacc, (own_nat hi.1 (by omega)).2]; rfl)
    · have hlt : ¬ a < nn := by rw [hi.1, hp2, hp3, own_addn, own_lt (by omega) (by omega)] at hc10_3; omega
      obtain ⟨fs, hr, hrun, hended, hW, hsame⟩ := X0.leave (v := some (.long acc)) (fun h => by rw [Bd.returns] at h; cases h)
      refine ⟨_, _, ?_, hrun, hended, _, _, rfl, ?_, ⟨_, rfl⟩, hW, hsame.mono (by decide) (by decide)⟩
      · show Steps p.tables e below (s₁.setTop (mkF m 10 #[.val (.ref a1), .val (.int p2), .val (.int p3), .val (.long acc), .second, .val (.int i)] [(.int (p2 + p3)), (.int i)])) _
        refine XS.icmpYes X0.here hx rfl (pc0 := 10) (pc' := 34) rfl (hb hby d2_10) rfl ((flt hc10_3).2.1) (by decide) (by decide) ?_
        show Steps p.tables e below (s₁.setTop (mkF m 34 #[.val (.ref a1), .val (.int p2), .val (.int p3), .val (.long acc), .second, .val (.int i)] [])) _
        refine XS.lloadN X0.here hx rfl (hb hby d2_34) rfl ?_
        show Steps p.tables e below (s₁.setTop (mkF m 35 #[.val (.ref a1), .val (.int p2), .val (.int p3), .val (.long acc), .second, .val (.int i)] [(.long acc)])) _
        exact X0.lreturnOut hx Bd.returns (hb hby d2_35) hr
      · show Q2 Z a1 p2 p3 k f s0 nn h0 n0 _ s₁.heap _
        exact ⟨_, rfl, (by rw [hacc]; congr 1; have := hlt; omega), N0, e0⟩
  exact LP1 nn 0 (0 : Int64) p2 ⟨hp2, Nat.zero_add _⟩ rfl
theorem pd_0 : parseMethodDescriptor "(IIJJ)B" = some ⟨[.int, .int, .long, .long], some .byte⟩ := by decide +kernel
theorem pd_1 : parseMethodDescriptor "([BII)J" = some ⟨[(.array .byte), .int, .int], some .long⟩ := by decide +kernel
theorem ef_rm0 (m : MethodId) (q1 : Int64) (q2 : Int64) (p3 : Int32) (p4 : Int32) (p5 : Int32) : entryFrame m #[(.long q1), (.long q2), (.int p3), (.int p4), (.int p5)] maxLocals = mkF m 0 #[.val (.long q1), .second, .val (.long q2), .second, .val (.int p3), .val (.int p4), .val (.int p5), .unset, .unset, .unset, .unset, .unset, .unset, .unset, .unset, .unset] [] := by first | (simp [entryFrame, mkF, argsToLocals, Value.category, maxLocals]; done) | rfl
def Q0 (Z : State) (q1 : Int64) (q2 : Int64) (p3 : Int32) (p4 : Int32) (p5 : Int32) (h0 : Heap) (n0 : Nat) (v : Option Value) (h : Heap) (L : List Loc) : Prop := v = some (.int (1 : Int32)) ∧ Fr n0 L
set_option maxRecDepth 65536 in
set_option maxHeartbeats 40000000 in
theorem rm0 (l : Launch) (Z : State) (a0 : Array Value) (hw : ∀ d ∈ tables_1, d.before a0 Z = true) (ws : List Jvm.Cond) (q1 : Int64) (q2 : Int64) (p3 : Int32) (p4 : Int32) (p5 : Int32) (h0 : Heap) (n0 : Nat) (Z0 : n0 ≤ h0.size) :
    MetFree l x (head1 (Jvm.Cond.code x code maxLocals ret :: ws) room_1) (fun a U => a = #[(.long q1), (.long q2), (.int p3), (.int p4), (.int p5)] ∧ Z.Warmed39 U.vm ∧ U.heap = h0) (fun _ _ _ _ _ => True) (fun _ U o U' => ∃ v L, o = .returned v ∧ Q0 Z q1 q2 p3 p4 p5 h0 n0 v U'.heap L ∧ FrameEnd U o U' L 16 128) := by
  refine MetFree.of_bodySF (plainFor_of_name pn_0) hisR ?_
  intro p e s m args below meth c s₁ Bd hml0 hP hK
  obtain ⟨rfl, hZ, hh⟩ := hP
  have hx := Bd.exec
  have hby := Bd.bytes
  have hml : c.maxLocals = 16 := hml0
  have hown : s.vm.findClass "com/example/flowglyph/flowglyph/core/BigEndianUnsignedPinLaw" = some m.cls := findClass_of_methodNamed Bd.named
  have hnm := (name_of_methodNamed Bd.named Bd.method).1
  have X0 : Stand p l e room_1 s m #[(.long q1), (.long q2), (.int p3), (.int p4), (.int p5)] below meth c s₁ [] 0 0 := Stand.of_body Bd
  have e0 : s₁.heap = h0 := by rw [← hh, Bd.state]; rfl
  have N0 := Fr.nil n0
  show GoalS p.tables e below s 16 128 (Q0 Z q1 q2 p3 p4 p5 h0 n0) (s₁.setTop (entryFrame m #[(.long q1), (.long q2), (.int p3), (.int p4), (.int p5)] maxLocals))
  refine GoalS.lift (B := s₁.setTop (mkF m 0 #[.val (.long q1), .second, .val (.long q2), .second, .val (.int p3), .val (.int p4), .val (.int p5), .unset, .unset, .unset, .unset, .unset, .unset, .unset, .unset, .unset] [])) (fun t k => castTop (ef_rm0 m q1 q2 p3 p4 p5) k) ?_
  obtain ⟨of, hof0⟩ : ∃ z : Int32, z = (p3 &&& (3 : Int32)) := ⟨_, rfl⟩
  refine GoalS.lift (B := (s₁.setTop (mkF m 4 #[.val (.long q1), .second, .val (.long q2), .second, .val (.int p3), .val (.int p4), .val (.int p5), .unset, .unset, .unset, .unset, .unset, .unset, .unset, .unset, .unset] [(.int of)]))) (fun t k => ?_) ?_
  · show Steps p.tables e below (s₁.setTop (mkF m 0 #[.val (.long q1), .second, .val (.long q2), .second, .val (.int p3), .val (.int p4), .val (.int p5), .unset, .unset, .unset, .unset, .unset, .unset, .unset, .unset, .unset] [])) _
    refine XS.iload X0.here hx rfl (hb hby at_0) rfl ?_
    show Steps p.tables e below (s₁.setTop (mkF m 2 #[.val (.long q1), .second, .val (.long q2), .second, .val (.int p3), .val (.int p4), .val (.int p5), .unset, .unset, .unset, .unset, .unset, .unset, .unset, .unset, .unset] [(.int p3)])) _
    refine XS.iconst X0.here hx rfl (hb hby at_2) ?_
    show Steps p.tables e below (s₁.setTop (mkF m 3 #[.val (.long q1), .second, .val (.long q2), .second, .val (.int p3), .val (.int p4), .val (.int p5), .unset, .unset, .unset, .unset, .unset, .unset, .unset, .unset, .unset] [(.int (3 : Int32)), (.int p3)])) _
    refine XS.iand X0.here hx rfl (hb hby at_3) rfl ?_
    rw [hof0] at k
    exact k
  obtain ⟨ln, hln0⟩ : ∃ z : Int32, z = ((p4 &&& (2147483647 : Int32)) % (9 : Int32)) := ⟨_, rfl⟩
  refine GoalS.lift (B := (s₁.setTop (mkF m 14 #[.val (.long q1), .second, .val (.long q2), .second, .val (.int p3), .val (.int p4), .val (.int p5), .val (.int of), .unset, .unset, .unset, .unset, .unset, .unset, .unset, .unset] [(.int ln)]))) (fun t k => ?_) ?_
  · show Steps p.tables e below (s₁.setTop (mkF m 4 #[.val (.long q1), .second, .val (.long q2), .second, .val (.int p3), .val (.int p4), .val (.int p5), .unset, .unset, .unset, .unset, .unset, .unset, .unset, .unset, .unset] [(.int of)])) _
    refine XS.istore X0.here hx rfl (hb hby at_4) rfl (l' := #[.val (.long q1), .second, .val (.long q2), .second, .val (.int p3), .val (.int p4), .val (.int p5), .val (.int of), .unset, .unset, .unset, .unset, .unset, .unset, .unset, .unset]) rfl ?_
    show Steps p.tables e below (s₁.setTop (mkF m 6 #[.val (.long q1), .second, .val (.long q2), .second, .val (.int p3), .val (.int p4), .val (.int p5), .val (.int of), .unset, .unset, .unset, .unset, .unset, .unset, .unset, .unset] [])) _
    refine XS.iload X0.here hx rfl (hb hby at_6) rfl ?_
    show Steps p.tables e below (s₁.setTop (mkF m 8 #[.val (.long q1), .second, .val (.long q2), .second, .val (.int p3), .val (.int p4), .val (.int p5), .val (.int of), .unset, .unset, .unset, .unset, .unset, .unset, .unset, .unset] [(.int p4)])) _
    refine X0.ldcInt hx hown (mvT hZ (hw _ (List.mem_of_getElem? (i := 0) rfl))) (g := (mkF m 8 #[.val (.long q1), .second, .val (.long q2), .second, .val (.int p3), .val (.int p4), .val (.int p5), .val (.int of), .unset, .unset, .unset, .unset, .unset, .unset, .unset, .unset] [(.int p4)])) rfl (hb hby at_8) _ ?_
    show Steps p.tables e below (s₁.setTop (mkF m 10 #[.val (.long q1), .second, .val (.long q2), .second, .val (.int p3), .val (.int p4), .val (.int p5), .val (.int of), .unset, .unset, .unset, .unset, .unset, .unset, .unset, .unset] [(.int (2147483647 : Int32)), (.int p4)])) _
    refine XS.iand X0.here hx rfl (hb hby at_10) rfl ?_
    show Steps p.tables e below (s₁.setTop (mkF m 11 #[.val (.long q1), .second, .val (.long q2), .second, .val (.int p3), .val (.int p4), .val (.int p5), .val (.int of), .unset, .unset, .unset, .unset, .unset, .unset, .unset, .unset] [(.int (p4 &&& (2147483647 : Int32)))])) _
    refine XS.bipush X0.here hx rfl (hb hby at_11) ?_
    show Steps p.tables e below (s₁.setTop (mkF m 13 #[.val (.long q1), .second, .val (.long q2), .second, .val (.int p3), .val (.int p4), .val (.int p5), .val (.int of), .unset, .unset, .unset, .unset, .unset, .unset, .unset, .unset] [(.int (9 : Int32)), (.int (p4 &&& (2147483647 : Int32)))])) _
    refine iremM X0 hx rfl (hb hby at_13) rfl (by decide) ?_
    rw [hln0] at k
    exact k
  refine GoalS.lift (B := (s₁.setTop (mkF m 20 #[.val (.long q1), .second, .val (.long q2), .second, .val (.int p3), .val (.int p4), .val (.int p5), .val (.int of), .val (.int ln), .unset, .unset, .unset, .unset, .unset, .unset, .unset] [(.int (p5 &&& (1 : Int32)))]))) (fun t k => ?_) ?_
  · show Steps p.tables e below (s₁.setTop (mkF m 14 #[.val (.long q1), .second, .val (.long q2), .second, .val (.int p3), .val (.int p4), .val (.int p5), .val (.int of), .unset, .unset, .unset, .unset, .unset, .unset, .unset, .unset] [(.int ln)])) _
    refine XS.istore X0.here hx rfl (hb hby at_14) rfl (l' := #[.val (.long q1), .second, .val (.long q2), .second, .val (.int p3), .val (.int p4), .val (.int p5), .val (.int of), .val (.int ln), .unset, .unset, .unset, .unset, .unset, .unset, .unset]) rfl ?_
    show Steps p.tables e below (s₁.setTop (mkF m 16 #[.val (.long q1), .second, .val (.long q2), .second, .val (.int p3), .val (.int p4), .val (.int p5), .val (.int of), .val (.int ln), .unset, .unset, .unset, .unset, .unset, .unset, .unset] [])) _
    refine XS.iload X0.here hx rfl (hb hby at_16) rfl ?_
    show Steps p.tables e below (s₁.setTop (mkF m 18 #[.val (.long q1), .second, .val (.long q2), .second, .val (.int p3), .val (.int p4), .val (.int p5), .val (.int of), .val (.int ln), .unset, .unset, .unset, .unset, .unset, .unset, .unset] [(.int p5)])) _
    refine XS.iconst X0.here hx rfl (hb hby at_18) ?_
    show Steps p.tables e below (s₁.setTop (mkF m 19 #[.val (.long q1), .second, .val (.long q2), .second, .val (.int p3), .val (.int p4), .val (.int p5), .val (.int of), .val (.int ln), .unset, .unset, .unset, .unset, .unset, .unset, .unset] [(.int (1 : Int32)), (.int p5)])) _
    refine XS.iand X0.here hx rfl (hb hby at_19) rfl ?_
    show Steps p.tables e below (s₁.setTop (mkF m 20 #[.val (.long q1), .second, .val (.long q2), .second, .val (.int p3), .val (.int p4), .val (.int p5), .val (.int of), .val (.int ln), .unset, .unset, .unset, .unset, .unset, .unset, .unset] [(.int (p5 &&& (1 : Int32)))])) _
    exact k
  suffices J20_1 : ∀ (i20_0 : Int32), i20_0 = (if (p5 &&& (1 : Int32)) = (0 : Int32) then (0 : Int32) else (1 : Int32)) → GoalS p.tables e below s 16 128 (Q0 Z q1 q2 p3 p4 p5 h0 n0) (s₁.setTop (mkF m 28 #[.val (.long q1), .second, .val (.long q2), .second, .val (.int p3), .val (.int p4), .val (.int p5), .val (.int of), .val (.int ln), .unset, .unset, .unset, .unset, .unset, .unset, .unset] [(.int i20_0)])) by
    by_cases hc20_2 : (p5 &&& (1 : Int32)) = (0 : Int32)
    · refine GoalS.lift (B := (s₁.setTop (mkF m 28 #[.val (.long q1), .second, .val (.long q2), .second, .val (.int p3), .val (.int p4), .val (.int p5), .val (.int of), .val (.int ln), .unset, .unset, .unset, .unset, .unset, .unset, .unset] [(.int (0 : Int32))]))) (fun t k => ?_) ?_
      · show Steps p.tables e below (s₁.setTop (mkF m 20 #[.val (.long q1), .second, .val (.long q2), .second, .val (.int p3), .val (.int p4), .val (.int p5), .val (.int of), .val (.int ln), .unset, .unset, .unset, .unset, .unset, .unset, .unset] [(.int (p5 &&& (1 : Int32)))])) _
        refine XS.ifYes X0.here hx rfl (pc0 := 20) (pc' := 27) rfl (hb hby at_20) rfl ((if0 _ _).trans (teq hc20_2).1) (by decide) (by decide) ?_
        show Steps p.tables e below (s₁.setTop (mkF m 27 #[.val (.long q1), .second, .val (.long q2), .second, .val (.int p3), .val (.int p4), .val (.int p5), .val (.int of), .val (.int ln), .unset, .unset, .unset, .unset, .unset, .unset, .unset] [])) _
        refine XS.iconst X0.here hx rfl (hb hby at_27) ?_
        show Steps p.tables e below (s₁.setTop (mkF m 28 #[.val (.long q1), .second, .val (.long q2), .second, .val (.int p3), .val (.int p4), .val (.int p5), .val (.int of), .val (.int ln), .unset, .unset, .unset, .unset, .unset, .unset, .unset] [(.int (0 : Int32))])) _
        exact k
      exact J20_1 _ (by simp only [if_pos hc20_2])
    · refine GoalS.lift (B := (s₁.setTop (mkF m 28 #[.val (.long q1), .second, .val (.long q2), .second, .val (.int p3), .val (.int p4), .val (.int p5), .val (.int of), .val (.int ln), .unset, .unset, .unset, .unset, .unset, .unset, .unset] [(.int (1 : Int32))]))) (fun t k => ?_) ?_
      · show Steps p.tables e below (s₁.setTop (mkF m 20 #[.val (.long q1), .second, .val (.long q2), .second, .val (.int p3), .val (.int p4), .val (.int p5), .val (.int of), .val (.int ln), .unset, .unset, .unset, .unset, .unset, .unset, .unset] [(.int (p5 &&& (1 : Int32)))])) _
        refine XS.ifNo X0.here hx rfl (hb hby at_20) rfl ((if0 _ _).trans (feq hc20_2).1) ?_
        show Steps p.tables e below (s₁.setTop (mkF m 23 #[.val (.long q1), .second, .val (.long q2), .second, .val (.int p3), .val (.int p4), .val (.int p5), .val (.int of), .val (.int ln), .unset, .unset, .unset, .unset, .unset, .unset, .unset] [])) _
        refine XS.iconst X0.here hx rfl (hb hby at_23) ?_
        show Steps p.tables e below (s₁.setTop (mkF m 24 #[.val (.long q1), .second, .val (.long q2), .second, .val (.int p3), .val (.int p4), .val (.int p5), .val (.int of), .val (.int ln), .unset, .unset, .unset, .unset, .unset, .unset, .unset] [(.int (1 : Int32))])) _
        refine XS.goto X0.here hx rfl (pc0 := 24) (pc' := 28) rfl (hb hby at_24) (by decide) (by decide) ?_
        show Steps p.tables e below (s₁.setTop (mkF m 28 #[.val (.long q1), .second, .val (.long q2), .second, .val (.int p3), .val (.int p4), .val (.int p5), .val (.int of), .val (.int ln), .unset, .unset, .unset, .unset, .unset, .unset, .unset] [(.int (1 : Int32))])) _
        exact k
      exact J20_1 _ (by simp only [if_neg hc20_2])
  intro i20_0 h_i20_0
  obtain ⟨o, ho, hof⟩ := own_off p3
  rw [← hof0] at hof
  obtain ⟨ll, hl, hln⟩ := own_len p4
  rw [← hln0] at hln
  obtain ⟨T3, h3, k3, X3, e3, E3, A3, st3⟩ := newP X0 hx hZ (hw _ (List.mem_of_getElem? (i := 1) rfl)) e0 (g := (mkF m 32 #[.val (.long q1), .second, .val (.long q2), .second, .val (.int p3), .val (.int p4), .val (.int p5), .val (.int of), .val (.int ln), .val (.int i20_0), .unset, .unset, .unset, .unset, .unset, .unset] [(.int (12 : Int32))])) rfl (hb hby at_32) rfl (by decide) (cap := 12) (by decide) (by decide) (by decide) (by decide)
  obtain ⟨b3, g3⟩ : ∃ z, z = h0.size := ⟨_, rfl⟩
  rw [← g3] at A3 st3
  have g_b3 : n0 ≤ b3 := Nat.le_trans Z0 (Nat.le_of_eq g3.symm)
  have z4 : n0 ≤ h3.size := Nat.le_trans Z0 E3.1
  have V3 : AV Z h3 b3 k3 .byte 12 (fun i => Value.int ((fun _ => (0 : Int32)) i)) := AV.new A3 (by decide) (by decide) (by decide)
  obtain ⟨_, _, ⟨T5, L5, k5, n5⟩, -, X5, ⟨Lc5, hQ5, l5, y5, z5⟩, st5⟩ := Jvm.LawKit.callS X3 hx (y := (⟨"com/example/flowglyph/flowglyph/core/BigEndianUnsignedPinLaw", "at", "(IIJJ)B"⟩ : MethodName)) hown (mvT hZ (hw _ (List.mem_of_getElem? (i := 2) rfl))) (mvT hZ (hw _ (List.mem_of_getElem? (i := 3) rfl))) (mvT hZ (hw _ (List.mem_of_getElem? (i := 4) rfl))) (mvT hZ (hw _ (List.mem_of_getElem? (i := 5) rfl))) (by decide) (backOf (W := 2) (rm1 l Z a0 hw [] (0 : Int32) of q1 q2 h3 n0 z4) hZ (hw _ (List.mem_of_getElem? (i := 5) rfl)) (hw _ (List.mem_of_getElem? (i := 4) rfl)) (by decide) (by decide)) (g := (mkF m 44 #[.val (.long q1), .second, .val (.long q2), .second, .val (.int p3), .val (.int p4), .val (.int p5), .val (.int of), .val (.int ln), .val (.int i20_0), .val (.ref b3), .unset, .unset, .unset, .unset, .unset] [(.long q2), (.long q1), (.int of), (.int (0 : Int32)), (.int (0 : Int32)), (.ref b3)])) rfl (by rw [hml]; rfl) (argsL := [(.int (0 : Int32)), (.int of), (.long q1), (.long q2)]) (rest := [(.int (0 : Int32)), (.ref b3)]) (lenOf pd_0 rfl) rfl (by show 2 * 0 + _ ≤ _; exact Nat.le_of_eq rfl) (hb hby at_44) (fun _ _ => ⟨rfl, e3, (by decide : 1 + 0 ≤ _), (by decide : 12 + 0 ≤ _)⟩)
  dsimp only [Pt.U, Pt.locs, Pt.cells, Pt.slots] at X5 l5 y5 z5 st5 hQ5
  subst y5 z5
  obtain ⟨r5, rfl, hr5, N5q, eq5⟩ := hQ5
  have N5 : Fr n0 L5 := by rw [l5]; exact Fr.app N0 N5q
  obtain ⟨cl6, Ar6, kc6, sz6, -, -⟩ := id V3
  have hin6 : ¬ ((0 : Int32) < 0 ∨ cl6.slots.size ≤ ((0 : Int32)).toNatClampNeg) := AV.inb sz6 (show ¬ (0 : Int32) < 0 ∧ ((0 : Int32)).toNatClampNeg < 12 by decide)
  obtain ⟨T6, h6, X6, e6, W6, st6⟩ := stB X5 hx hZ eq5 Ar6 (j := (0 : Int32)) hin6 (g := (mkF m 47 #[.val (.long q1), .second, .val (.long q2), .second, .val (.int p3), .val (.int p4), .val (.int p5), .val (.int of), .val (.int ln), .val (.int i20_0), .val (.ref b3), .unset, .unset, .unset, .unset, .unset] [(.int r5), (.int (0 : Int32)), (.ref b3)])) rfl rfl (hb hby at_47)
  have z7 : n0 ≤ h6.size := Nat.le_trans z4 (Keep.of_wr W6).1
  obtain ⟨fn6, hfn6⟩ : ∃ z, z = (updI (fun _ => (0 : Int32)) 0 (r5).toInt8.toInt32) := ⟨_, rfl⟩
  have V6 : AV Z h6 b3 k3 .byte 12 (fun i => Value.int (fn6 i)) := (by rw [hfn6]; exact AV.putI V3 W6 (AV.inx (show ¬ (0 : Int32) < 0 ∧ ((0 : Int32)).toNatClampNeg < 12 by decide)))
  have N6 := Fr.snoc X6 N5 g_b3
  obtain ⟨_, _, ⟨T8, L8, k8, n8⟩, -, X8, ⟨Lc8, hQ8, l8, y8, z8⟩, st8⟩ := Jvm.LawKit.callS X6 hx (y := (⟨"com/example/flowglyph/flowglyph/core/BigEndianUnsignedPinLaw", "at", "(IIJJ)B"⟩ : MethodName)) hown (mvT hZ (hw _ (List.mem_of_getElem? (i := 2) rfl))) (mvT hZ (hw _ (List.mem_of_getElem? (i := 3) rfl))) (mvT hZ (hw _ (List.mem_of_getElem? (i := 4) rfl))) (mvT hZ (hw _ (List.mem_of_getElem? (i := 5) rfl))) (by decide) (backOf (W := 2) (rm1 l Z a0 hw [] (1 : Int32) of q1 q2 h6 n0 z7) hZ (hw _ (List.mem_of_getElem? (i := 5) rfl)) (hw _ (List.mem_of_getElem? (i := 4) rfl)) (by decide) (by decide)) (g := (mkF m 56 #[.val (.long q1), .second, .val (.long q2), .second, .val (.int p3), .val (.int p4), .val (.int p5), .val (.int of), .val (.int ln), .val (.int i20_0), .val (.ref b3), .unset, .unset, .unset, .unset, .unset] [(.long q2), (.long q1), (.int of), (.int (1 : Int32)), (.int (1 : Int32)), (.ref b3)])) rfl (by rw [hml]; rfl) (argsL := [(.int (1 : Int32)), (.int of), (.long q1), (.long q2)]) (rest := [(.int (1 : Int32)), (.ref b3)]) (lenOf pd_0 rfl) rfl (by show 2 * 0 + _ ≤ _; exact Nat.le_of_eq rfl) (hb hby at_56) (fun _ _ => ⟨rfl, e6, (by decide : 1 + 0 ≤ _), (by decide : 12 + 0 ≤ _)⟩)
  dsimp only [Pt.U, Pt.locs, Pt.cells, Pt.slots] at X8 l8 y8 z8 st8 hQ8
  subst y8 z8
  obtain ⟨r8, rfl, hr8, N8q, eq8⟩ := hQ8
  have N8 : Fr n0 L8 := by rw [l8]; exact Fr.app N6 N8q
  obtain ⟨cl9, Ar9, kc9, sz9, -, -⟩ := id V6
  have hin9 : ¬ ((1 : Int32) < 0 ∨ cl9.slots.size ≤ ((1 : Int32)).toNatClampNeg) := AV.inb sz9 (show ¬ (1 : Int32) < 0 ∧ ((1 : Int32)).toNatClampNeg < 12 by decide)
  obtain ⟨T9, h9, X9, e9, W9, st9⟩ := stB X8 hx hZ eq8 Ar9 (j := (1 : Int32)) hin9 (g := (mkF m 59 #[.val (.long q1), .second, .val (.long q2), .second, .val (.int p3), .val (.int p4), .val (.int p5), .val (.int of), .val (.int ln), .val (.int i20_0), .val (.ref b3), .unset, .unset, .unset, .unset, .unset] [(.int r8), (.int (1 : Int32)), (.ref b3)])) rfl rfl (hb hby at_59)
  have z10 : n0 ≤ h9.size := Nat.le_trans z7 (Keep.of_wr W9).1
  obtain ⟨fn9, hfn9⟩ : ∃ z, z = (updI fn6 1 (r8).toInt8.toInt32) := ⟨_, rfl⟩
  have V9 : AV Z h9 b3 k3 .byte 12 (fun i => Value.int (fn9 i)) := (by rw [hfn9]; exact AV.putI V6 W9 (AV.inx (show ¬ (1 : Int32) < 0 ∧ ((1 : Int32)).toNatClampNeg < 12 by decide)))
  have N9 := Fr.snoc X9 N8 g_b3
  obtain ⟨_, _, ⟨T11, L11, k11, n11⟩, -, X11, ⟨Lc11, hQ11, l11, y11, z11⟩, st11⟩ := Jvm.LawKit.callS X9 hx (y := (⟨"com/example/flowglyph/flowglyph/core/BigEndianUnsignedPinLaw", "at", "(IIJJ)B"⟩ : MethodName)) hown (mvT hZ (hw _ (List.mem_of_getElem? (i := 2) rfl))) (mvT hZ (hw _ (List.mem_of_getElem? (i := 3) rfl))) (mvT hZ (hw _ (List.mem_of_getElem? (i := 4) rfl))) (mvT hZ (hw _ (List.mem_of_getElem? (i := 5) rfl))) (by decide) (backOf (W := 2) (rm1 l Z a0 hw [] (2 : Int32) of q1 q2 h9 n0 z10) hZ (hw _ (List.mem_of_getElem? (i := 5) rfl)) (hw _ (List.mem_of_getElem? (i := 4) rfl)) (by decide) (by decide)) (g := (mkF m 68 #[.val (.long q1), .second, .val (.long q2), .second, .val (.int p3), .val (.int p4), .val (.int p5), .val (.int of), .val (.int ln), .val (.int i20_0), .val (.ref b3), .unset, .unset, .unset, .unset, .unset] [(.long q2), (.long q1), (.int of), (.int (2 : Int32)), (.int (2 : Int32)), (.ref b3)])) rfl (by rw [hml]; rfl) (argsL := [(.int (2 : Int32)), (.int of), (.long q1), (.long q2)]) (rest := [(.int (2 : Int32)), (.ref b3)]) (lenOf pd_0 rfl) rfl (by show 2 * 0 + _ ≤ _; exact Nat.le_of_eq rfl) (hb hby at_68) (fun _ _ => ⟨rfl, e9, (by decide : 1 + 0 ≤ _), (by decide : 12 + 0 ≤ _)⟩)
  dsimp only [Pt.U, Pt.locs, Pt.cells, Pt.slots] at X11 l11 y11 z11 st11 hQ11
  subst y11 z11
  obtain ⟨r11, rfl, hr11, N11q, eq11⟩ := hQ11
  have N11 : Fr n0 L11 := by rw [l11]; exact Fr.app N9 N11q
  obtain ⟨cl12, Ar12, kc12, sz12, -, -⟩ := id V9
  have hin12 : ¬ ((2 : Int32) < 0 ∨ cl12.slots.size ≤ ((2 : Int32)).toNatClampNeg) := AV.inb sz12 (show ¬ (2 : Int32) < 0 ∧ ((2 : Int32)).toNatClampNeg < 12 by decide)
  obtain ⟨T12, h12, X12, e12, W12, st12⟩ := stB X11 hx hZ eq11 Ar12 (j := (2 : Int32)) hin12 (g := (mkF m 71 #[.val (.long q1), .second, .val (.long q2), .second, .val (.int p3), .val (.int p4), .val (.int p5), .val (.int of), .val (.int ln), .val (.int i20_0), .val (.ref b3), .unset, .unset, .unset, .unset, .unset] [(.int r11), (.int (2 : Int32)), (.ref b3)])) rfl rfl (hb hby at_71)
  have z13 : n0 ≤ h12.size := Nat.le_trans z10 (Keep.of_wr W12).1
  obtain ⟨fn12, hfn12⟩ : ∃ z, z = (updI fn9 2 (r11).toInt8.toInt32) := ⟨_, rfl⟩
  have V12 : AV Z h12 b3 k3 .byte 12 (fun i => Value.int (fn12 i)) := (by rw [hfn12]; exact AV.putI V9 W12 (AV.inx (show ¬ (2 : Int32) < 0 ∧ ((2 : Int32)).toNatClampNeg < 12 by decide)))
  have N12 := Fr.snoc X12 N11 g_b3
  obtain ⟨_, _, ⟨T14, L14, k14, n14⟩, -, X14, ⟨Lc14, hQ14, l14, y14, z14⟩, st14⟩ := Jvm.LawKit.callS X12 hx (y := (⟨"com/example/flowglyph/flowglyph/core/BigEndianUnsignedPinLaw", "at", "(IIJJ)B"⟩ : MethodName)) hown (mvT hZ (hw _ (List.mem_of_getElem? (i := 2) rfl))) (mvT hZ (hw _ (List.mem_of_getElem? (i := 3) rfl))) (mvT hZ (hw _ (List.mem_of_getElem? (i := 4) rfl))) (mvT hZ (hw _ (List.mem_of_getElem? (i := 5) rfl))) (by decide) (backOf (W := 2) (rm1 l Z a0 hw [] (3 : Int32) of q1 q2 h12 n0 z13) hZ (hw _ (List.mem_of_getElem? (i := 5) rfl)) (hw _ (List.mem_of_getElem? (i := 4) rfl)) (by decide) (by decide)) (g := (mkF m 80 #[.val (.long q1), .second, .val (.long q2), .second, .val (.int p3), .val (.int p4), .val (.int p5), .val (.int of), .val (.int ln), .val (.int i20_0), .val (.ref b3), .unset, .unset, .unset, .unset, .unset] [(.long q2), (.long q1), (.int of), (.int (3 : Int32)), (.int (3 : Int32)), (.ref b3)])) rfl (by rw [hml]; rfl) (argsL := [(.int (3 : Int32)), (.int of), (.long q1), (.long q2)]) (rest := [(.int (3 : Int32)), (.ref b3)]) (lenOf pd_0 rfl) rfl (by show 2 * 0 + _ ≤ _; exact Nat.le_of_eq rfl) (hb hby at_80) (fun _ _ => ⟨rfl, e12, (by decide : 1 + 0 ≤ _), (by decide : 12 + 0 ≤ _)⟩)
  dsimp only [Pt.U, Pt.locs, Pt.cells, Pt.slots] at X14 l14 y14 z14 st14 hQ14
  subst y14 z14
  obtain ⟨r14, rfl, hr14, N14q, eq14⟩ := hQ14
  have N14 : Fr n0 L14 := by rw [l14]; exact Fr.app N12 N14q
  obtain ⟨cl15, Ar15, kc15, sz15, -, -⟩ := id V12
  have hin15 : ¬ ((3 : Int32) < 0 ∨ cl15.slots.size ≤ ((3 : Int32)).toNatClampNeg) := AV.inb sz15 (show ¬ (3 : Int32) < 0 ∧ ((3 : Int32)).toNatClampNeg < 12 by decide)
  obtain ⟨T15, h15, X15, e15, W15, st15⟩ := stB X14 hx hZ eq14 Ar15 (j := (3 : Int32)) hin15 (g := (mkF m 83 #[.val (.long q1), .second, .val (.long q2), .second, .val (.int p3), .val (.int p4), .val (.int p5), .val (.int of), .val (.int ln), .val (.int i20_0), .val (.ref b3), .unset, .unset, .unset, .unset, .unset] [(.int r14), (.int (3 : Int32)), (.ref b3)])) rfl rfl (hb hby at_83)
  have z16 : n0 ≤ h15.size := Nat.le_trans z13 (Keep.of_wr W15).1
  obtain ⟨fn15, hfn15⟩ : ∃ z, z = (updI fn12 3 (r14).toInt8.toInt32) := ⟨_, rfl⟩
  have V15 : AV Z h15 b3 k3 .byte 12 (fun i => Value.int (fn15 i)) := (by rw [hfn15]; exact AV.putI V12 W15 (AV.inx (show ¬ (3 : Int32) < 0 ∧ ((3 : Int32)).toNatClampNeg < 12 by decide)))
  have N15 := Fr.snoc X15 N14 g_b3
  obtain ⟨_, _, ⟨T17, L17, k17, n17⟩, -, X17, ⟨Lc17, hQ17, l17, y17, z17⟩, st17⟩ := Jvm.LawKit.callS X15 hx (y := (⟨"com/example/flowglyph/flowglyph/core/BigEndianUnsignedPinLaw", "at", "(IIJJ)B"⟩ : MethodName)) hown (mvT hZ (hw _ (List.mem_of_getElem? (i := 2) rfl))) (mvT hZ (hw _ (List.mem_of_getElem? (i := 3) rfl))) (mvT hZ (hw _ (List.mem_of_getElem? (i := 4) rfl))) (mvT hZ (hw _ (List.mem_of_getElem? (i := 5) rfl))) (by decide) (backOf (W := 2) (rm1 l Z a0 hw [] (4 : Int32) of q1 q2 h15 n0 z16) hZ (hw _ (List.mem_of_getElem? (i := 5) rfl)) (hw _ (List.mem_of_getElem? (i := 4) rfl)) (by decide) (by decide)) (g := (mkF m 92 #[.val (.long q1), .second, .val (.long q2), .second, .val (.int p3), .val (.int p4), .val (.int p5), .val (.int of), .val (.int ln), .val (.int i20_0), .val (.ref b3), .unset, .unset, .unset, .unset, .unset] [(.long q2), (.long q1), (.int of), (.int (4 : Int32)), (.int (4 : Int32)), (.ref b3)])) rfl (by rw [hml]; rfl) (argsL := [(.int (4 : Int32)), (.int of), (.long q1), (.long q2)]) (rest := [(.int (4 : Int32)), (.ref b3)]) (lenOf pd_0 rfl) rfl (by show 2 * 0 + _ ≤ _; exact Nat.le_of_eq rfl) (hb hby at_92) (fun _ _ => ⟨rfl, e15, (by decide : 1 + 0 ≤ _), (by decide : 12 + 0 ≤ _)⟩)
  dsimp only [Pt.U, Pt.locs, Pt.cells, Pt.slots] at X17 l17 y17 z17 st17 hQ17
  subst y17 z17
  obtain ⟨r17, rfl, hr17, N17q, eq17⟩ := hQ17
  have N17 : Fr n0 L17 := by rw [l17]; exact Fr.app N15 N17q
  obtain ⟨cl18, Ar18, kc18, sz18, -, -⟩ := id V15
  have hin18 : ¬ ((4 : Int32) < 0 ∨ cl18.slots.size ≤ ((4 : Int32)).toNatClampNeg) := AV.inb sz18 (show ¬ (4 : Int32) < 0 ∧ ((4 : Int32)).toNatClampNeg < 12 by decide)
  obtain ⟨T18, h18, X18, e18, W18, st18⟩ := stB X17 hx hZ eq17 Ar18 (j := (4 : Int32)) hin18 (g := (mkF m 95 #[.val (.long q1), .second, .val (.long q2), .second, .val (.int p3), .val (.int p4), .val (.int p5), .val (.int of), .val (.int ln), .val (.int i20_0), .val (.ref b3), .unset, .unset, .unset, .unset, .unset] [(.int r17), (.int (4 : Int32)), (.ref b3)])) rfl rfl (hb hby at_95)
  have z19 : n0 ≤ h18.size := Nat.le_trans z16 (Keep.of_wr W18).1
  obtain ⟨fn18, hfn18⟩ : ∃ z, z = (updI fn15 4 (r17).toInt8.toInt32) := ⟨_, rfl⟩
  have V18 : AV Z h18 b3 k3 .byte 12 (fun i => Value.int (fn18 i)) := (by rw [hfn18]; exact AV.putI V15 W18 (AV.inx (show ¬ (4 : Int32) < 0 ∧ ((4 : Int32)).toNatClampNeg < 12 by decide)))
  have N18 := Fr.snoc X18 N17 g_b3
  obtain ⟨_, _, ⟨T20, L20, k20, n20⟩, -, X20, ⟨Lc20, hQ20, l20, y20, z20⟩, st20⟩ := Jvm.LawKit.callS X18 hx (y := (⟨"com/example/flowglyph/flowglyph/core/BigEndianUnsignedPinLaw", "at", "(IIJJ)B"⟩ : MethodName)) hown (mvT hZ (hw _ (List.mem_of_getElem? (i := 2) rfl))) (mvT hZ (hw _ (List.mem_of_getElem? (i := 3) rfl))) (mvT hZ (hw _ (List.mem_of_getElem? (i := 4) rfl))) (mvT hZ (hw _ (List.mem_of_getElem? (i := 5) rfl))) (by decide) (backOf (W := 2) (rm1 l Z a0 hw [] (5 : Int32) of q1 q2 h18 n0 z19) hZ (hw _ (List.mem_of_getElem? (i := 5) rfl)) (hw _ (List.mem_of_getElem? (i := 4) rfl)) (by decide) (by decide)) (g := (mkF m 104 #[.val (.long q1), .second, .val (.long q2), .second, .val (.int p3), .val (.int p4), .val (.int p5), .val (.int of), .val (.int ln), .val (.int i20_0), .val (.ref b3), .unset, .unset, .unset, .unset, .unset] [(.long q2), (.long q1), (.int of), (.int (5 : Int32)), (.int (5 : Int32)), (.ref b3)])) rfl (by rw [hml]; rfl) (argsL := [(.int (5 : Int32)), (.int of), (.long q1), (.long q2)]) (rest := [(.int (5 : Int32)), (.ref b3)]) (lenOf pd_0 rfl) rfl (by show 2 * 0 + _ ≤ _; exact Nat.le_of_eq rfl) (hb hby at_104) (fun _ _ => ⟨rfl, e18, (by decide : 1 + 0 ≤ _), (by decide : 12 + 0 ≤ _)⟩)
  dsimp only [Pt.U, Pt.locs, Pt.cells, Pt.slots] at X20 l20 y20 z20 st20 hQ20
  subst y20 z20
  obtain ⟨r20, rfl, hr20, N20q, eq20⟩ := hQ20
  have N20 : Fr n0 L20 := by rw [l20]; exact Fr.app N18 N20q
  obtain ⟨cl21, Ar21, kc21, sz21, -, -⟩ := id V18
  have hin21 : ¬ ((5 : Int32) < 0 ∨ cl21.slots.size ≤ ((5 : Int32)).toNatClampNeg) := AV.inb sz21 (show ¬ (5 : Int32) < 0 ∧ ((5 : Int32)).toNatClampNeg < 12 by decide)
  obtain ⟨T21, h21, X21, e21, W21, st21⟩ := stB X20 hx hZ eq20 Ar21 (j := (5 : Int32)) hin21 (g := (mkF m 107 #[.val (.long q1), .second, .val (.long q2), .second, .val (.int p3), .val (.int p4), .val (.int p5), .val (.int of), .val (.int ln), .val (.int i20_0), .val (.ref b3), .unset, .unset, .unset, .unset, .unset] [(.int r20), (.int (5 : Int32)), (.ref b3)])) rfl rfl (hb hby at_107)
  have z22 : n0 ≤ h21.size := Nat.le_trans z19 (Keep.of_wr W21).1
  obtain ⟨fn21, hfn21⟩ : ∃ z, z = (updI fn18 5 (r20).toInt8.toInt32) := ⟨_, rfl⟩
  have V21 : AV Z h21 b3 k3 .byte 12 (fun i => Value.int (fn21 i)) := (by rw [hfn21]; exact AV.putI V18 W21 (AV.inx (show ¬ (5 : Int32) < 0 ∧ ((5 : Int32)).toNatClampNeg < 12 by decide)))
  have N21 := Fr.snoc X21 N20 g_b3
  obtain ⟨_, _, ⟨T23, L23, k23, n23⟩, -, X23, ⟨Lc23, hQ23, l23, y23, z23⟩, st23⟩ := Jvm.LawKit.callS X21 hx (y := (⟨"com/example/flowglyph/flowglyph/core/BigEndianUnsignedPinLaw", "at", "(IIJJ)B"⟩ : MethodName)) hown (mvT hZ (hw _ (List.mem_of_getElem? (i := 2) rfl))) (mvT hZ (hw _ (List.mem_of_getElem? (i := 3) rfl))) (mvT hZ (hw _ (List.mem_of_getElem? (i := 4) rfl))) (mvT hZ (hw _ (List.mem_of_getElem? (i := 5) rfl))) (by decide) (backOf (W := 2) (rm1 l Z a0 hw [] (6 : Int32) of q1 q2 h21 n0 z22) hZ (hw _ (List.mem_of_getElem? (i := 5) rfl)) (hw _ (List.mem_of_getElem? (i := 4) rfl)) (by decide) (by decide)) (g := (mkF m 118 #[.val (.long q1), .second, .val (.long q2), .second, .val (.int p3), .val (.int p4), .val (.int p5), .val (.int of), .val (.int ln), .val (.int i20_0), .val (.ref b3), .unset, .unset, .unset, .unset, .unset] [(.long q2), (.long q1), (.int of), (.int (6 : Int32)), (.int (6 : Int32)), (.ref b3)])) rfl (by rw [hml]; rfl) (argsL := [(.int (6 : Int32)), (.int of), (.long q1), (.long q2)]) (rest := [(.int (6 : Int32)), (.ref b3)]) (lenOf pd_0 rfl) rfl (by show 2 * 0 + _ ≤ _; exact Nat.le_of_eq rfl) (hb hby at_118) (fun _ _ => ⟨rfl, e21, (by decide : 1 + 0 ≤ _), (by decide : 12 + 0 ≤ _)⟩)
  dsimp only [Pt.U, Pt.locs, Pt.cells, Pt.slots] at X23 l23 y23 z23 st23 hQ23
  subst y23 z23
  obtain ⟨r23, rfl, hr23, N23q, eq23⟩ := hQ23
  have N23 : Fr n0 L23 := by rw [l23]; exact Fr.app N21 N23q
  obtain ⟨cl24, Ar24, kc24, sz24, -, -⟩ := id V21
  have hin24 : ¬ ((6 : Int32) < 0 ∨ cl24.slots.size ≤ ((6 : Int32)).toNatClampNeg) := AV.inb sz24 (show ¬ (6 : Int32) < 0 ∧ ((6 : Int32)).toNatClampNeg < 12 by decide)
  obtain ⟨T24, h24, X24, e24, W24, st24⟩ := stB X23 hx hZ eq23 Ar24 (j := (6 : Int32)) hin24 (g := (mkF m 121 #[.val (.long q1), .second, .val (.long q2), .second, .val (.int p3), .val (.int p4), .val (.int p5), .val (.int of), .val (.int ln), .val (.int i20_0), .val (.ref b3), .unset, .unset, .unset, .unset, .unset] [(.int r23), (.int (6 : Int32)), (.ref b3)])) rfl rfl (hb hby at_121)
  have z25 : n0 ≤ h24.size := Nat.le_trans z22 (Keep.of_wr W24).1
  obtain ⟨fn24, hfn24⟩ : ∃ z, z = (updI fn21 6 (r23).toInt8.toInt32) := ⟨_, rfl⟩
  have V24 : AV Z h24 b3 k3 .byte 12 (fun i => Value.int (fn24 i)) := (by rw [hfn24]; exact AV.putI V21 W24 (AV.inx (show ¬ (6 : Int32) < 0 ∧ ((6 : Int32)).toNatClampNeg < 12 by decide)))
  have N24 := Fr.snoc X24 N23 g_b3
  obtain ⟨_, _, ⟨T26, L26, k26, n26⟩, -, X26, ⟨Lc26, hQ26, l26, y26, z26⟩, st26⟩ := Jvm.LawKit.callS X24 hx (y := (⟨"com/example/flowglyph/flowglyph/core/BigEndianUnsignedPinLaw", "at", "(IIJJ)B"⟩ : MethodName)) hown (mvT hZ (hw _ (List.mem_of_getElem? (i := 2) rfl))) (mvT hZ (hw _ (List.mem_of_getElem? (i := 3) rfl))) (mvT hZ (hw _ (List.mem_of_getElem? (i := 4) rfl))) (mvT hZ (hw _ (List.mem_of_getElem? (i := 5) rfl))) (by decide) (backOf (W := 2) (rm1 l Z a0 hw [] (7 : Int32) of q1 q2 h24 n0 z25) hZ (hw _ (List.mem_of_getElem? (i := 5) rfl)) (hw _ (List.mem_of_getElem? (i := 4) rfl)) (by decide) (by decide)) (g := (mkF m 132 #[.val (.long q1), .second, .val (.long q2), .second, .val (.int p3), .val (.int p4), .val (.int p5), .val (.int of), .val (.int ln), .val (.int i20_0), .val (.ref b3), .unset, .unset, .unset, .unset, .unset] [(.long q2), (.long q1), (.int of), (.int (7 : Int32)), (.int (7 : Int32)), (.ref b3)])) rfl (by rw [hml]; rfl) (argsL := [(.int (7 : Int32)), (.int of), (.long q1), (.long q2)]) (rest := [(.int (7 : Int32)), (.ref b3)]) (lenOf pd_0 rfl) rfl (by show 2 * 0 + _ ≤ _; exact Nat.le_of_eq rfl) (hb hby at_132) (fun _ _ => ⟨rfl, e24, (by decide : 1 + 0 ≤ _), (by decide : 12 + 0 ≤ _)⟩)
  dsimp only [Pt.U, Pt.locs, Pt.cells, Pt.slots] at X26 l26 y26 z26 st26 hQ26
  subst y26 z26
  obtain ⟨r26, rfl, hr26, N26q, eq26⟩ := hQ26
  have N26 : Fr n0 L26 := by rw [l26]; exact Fr.app N24 N26q
  obtain ⟨cl27, Ar27, kc27, sz27, -, -⟩ := id V24
  have hin27 : ¬ ((7 : Int32) < 0 ∨ cl27.slots.size ≤ ((7 : Int32)).toNatClampNeg) := AV.inb sz27 (show ¬ (7 : Int32) < 0 ∧ ((7 : Int32)).toNatClampNeg < 12 by decide)
  obtain ⟨T27, h27, X27, e27, W27, st27⟩ := stB X26 hx hZ eq26 Ar27 (j := (7 : Int32)) hin27 (g := (mkF m 135 #[.val (.long q1), .second, .val (.long q2), .second, .val (.int p3), .val (.int p4), .val (.int p5), .val (.int of), .val (.int ln), .val (.int i20_0), .val (.ref b3), .unset, .unset, .unset, .unset, .unset] [(.int r26), (.int (7 : Int32)), (.ref b3)])) rfl rfl (hb hby at_135)
  have z28 : n0 ≤ h27.size := Nat.le_trans z25 (Keep.of_wr W27).1
  obtain ⟨fn27, hfn27⟩ : ∃ z, z = (updI fn24 7 (r26).toInt8.toInt32) := ⟨_, rfl⟩
  have V27 : AV Z h27 b3 k3 .byte 12 (fun i => Value.int (fn27 i)) := (by rw [hfn27]; exact AV.putI V24 W27 (AV.inx (show ¬ (7 : Int32) < 0 ∧ ((7 : Int32)).toNatClampNeg < 12 by decide)))
  have N27 := Fr.snoc X27 N26 g_b3
  obtain ⟨_, _, ⟨T29, L29, k29, n29⟩, -, X29, ⟨Lc29, hQ29, l29, y29, z29⟩, st29⟩ := Jvm.LawKit.callS X27 hx (y := (⟨"com/example/flowglyph/flowglyph/core/BigEndianUnsignedPinLaw", "at", "(IIJJ)B"⟩ : MethodName)) hown (mvT hZ (hw _ (List.mem_of_getElem? (i := 2) rfl))) (mvT hZ (hw _ (List.mem_of_getElem? (i := 3) rfl))) (mvT hZ (hw _ (List.mem_of_getElem? (i := 4) rfl))) (mvT hZ (hw _ (List.mem_of_getElem? (i := 5) rfl))) (by decide) (backOf (W := 2) (rm1 l Z a0 hw [] (8 : Int32) of q1 q2 h27 n0 z28) hZ (hw _ (List.mem_of_getElem? (i := 5) rfl)) (hw _ (List.mem_of_getElem? (i := 4) rfl)) (by decide) (by decide)) (g := (mkF m 146 #[.val (.long q1), .second, .val (.long q2), .second, .val (.int p3), .val (.int p4), .val (.int p5), .val (.int of), .val (.int ln), .val (.int i20_0), .val (.ref b3), .unset, .unset, .unset, .unset, .unset] [(.long q2), (.long q1), (.int of), (.int (8 : Int32)), (.int (8 : Int32)), (.ref b3)])) rfl (by rw [hml]; rfl) (argsL := [(.int (8 : Int32)), (.int of), (.long q1), (.long q2)]) (rest := [(.int (8 : Int32)), (.ref b3)]) (lenOf pd_0 rfl) rfl (by show 2 * 0 + _ ≤ _; exact Nat.le_of_eq rfl) (hb hby at_146) (fun _ _ => ⟨rfl, e27, (by decide : 1 + 0 ≤ _), (by decide : 12 + 0 ≤ _)⟩)
  dsimp only [Pt.U, Pt.locs, Pt.cells, Pt.slots] at X29 l29 y29 z29 st29 hQ29
  subst y29 z29
  obtain ⟨r29, rfl, hr29, N29q, eq29⟩ := hQ29
  have N29 : Fr n0 L29 := by rw [l29]; exact Fr.app N27 N29q
  obtain ⟨cl30, Ar30, kc30, sz30, -, -⟩ := id V27
  have hin30 : ¬ ((8 : Int32) < 0 ∨ cl30.slots.size ≤ ((8 : Int32)).toNatClampNeg) := AV.inb sz30 (show ¬ (8 : Int32) < 0 ∧ ((8 : Int32)).toNatClampNeg < 12 by decide)
  obtain ⟨T30, h30, X30, e30, W30, st30⟩ := stB X29 hx hZ eq29 Ar30 (j := (8 : Int32)) hin30 (g := (mkF m 149 #[.val (.long q1), .second, .val (.long q2), .second, .val (.int p3), .val (.int p4), .val (.int p5), .val (.int of), .val (.int ln), .val (.int i20_0), .val (.ref b3), .unset, .unset, .unset, .unset, .unset] [(.int r29), (.int (8 : Int32)), (.ref b3)])) rfl rfl (hb hby at_149)
  have z31 : n0 ≤ h30.size := Nat.le_trans z28 (Keep.of_wr W30).1
  obtain ⟨fn30, hfn30⟩ : ∃ z, z = (updI fn27 8 (r29).toInt8.toInt32) := ⟨_, rfl⟩
  have V30 : AV Z h30 b3 k3 .byte 12 (fun i => Value.int (fn30 i)) := (by rw [hfn30]; exact AV.putI V27 W30 (AV.inx (show ¬ (8 : Int32) < 0 ∧ ((8 : Int32)).toNatClampNeg < 12 by decide)))
  have N30 := Fr.snoc X30 N29 g_b3
  obtain ⟨_, _, ⟨T32, L32, k32, n32⟩, -, X32, ⟨Lc32, hQ32, l32, y32, z32⟩, st32⟩ := Jvm.LawKit.callS X30 hx (y := (⟨"com/example/flowglyph/flowglyph/core/BigEndianUnsignedPinLaw", "at", "(IIJJ)B"⟩ : MethodName)) hown (mvT hZ (hw _ (List.mem_of_getElem? (i := 2) rfl))) (mvT hZ (hw _ (List.mem_of_getElem? (i := 3) rfl))) (mvT hZ (hw _ (List.mem_of_getElem? (i := 4) rfl))) (mvT hZ (hw _ (List.mem_of_getElem? (i := 5) rfl))) (by decide) (backOf (W := 2) (rm1 l Z a0 hw [] (9 : Int32) of q1 q2 h30 n0 z31) hZ (hw _ (List.mem_of_getElem? (i := 5) rfl)) (hw _ (List.mem_of_getElem? (i := 4) rfl)) (by decide) (by decide)) (g := (mkF m 160 #[.val (.long q1), .second, .val (.long q2), .second, .val (.int p3), .val (.int p4), .val (.int p5), .val (.int of), .val (.int ln), .val (.int i20_0), .val (.ref b3), .unset, .unset, .unset, .unset, .unset] [(.long q2), (.long q1), (.int of), (.int (9 : Int32)), (.int (9 : Int32)), (.ref b3)])) rfl (by rw [hml]; rfl) (argsL := [(.int (9 : Int32)), (.int of), (.long q1), (.long q2)]) (rest := [(.int (9 : Int32)), (.ref b3)]) (lenOf pd_0 rfl) rfl (by show 2 * 0 + _ ≤ _; exact Nat.le_of_eq rfl) (hb hby at_160) (fun _ _ => ⟨rfl, e30, (by decide : 1 + 0 ≤ _), (by decide : 12 + 0 ≤ _)⟩)
  dsimp only [Pt.U, Pt.locs, Pt.cells, Pt.slots] at X32 l32 y32 z32 st32 hQ32
  subst y32 z32
  obtain ⟨r32, rfl, hr32, N32q, eq32⟩ := hQ32
  have N32 : Fr n0 L32 := by rw [l32]; exact Fr.app N30 N32q
  obtain ⟨cl33, Ar33, kc33, sz33, -, -⟩ := id V30
  have hin33 : ¬ ((9 : Int32) < 0 ∨ cl33.slots.size ≤ ((9 : Int32)).toNatClampNeg) := AV.inb sz33 (show ¬ (9 : Int32) < 0 ∧ ((9 : Int32)).toNatClampNeg < 12 by decide)
  obtain ⟨T33, h33, X33, e33, W33, st33⟩ := stB X32 hx hZ eq32 Ar33 (j := (9 : Int32)) hin33 (g := (mkF m 163 #[.val (.long q1), .second, .val (.long q2), .second, .val (.int p3), .val (.int p4), .val (.int p5), .val (.int of), .val (.int ln), .val (.int i20_0), .val (.ref b3), .unset, .unset, .unset, .unset, .unset] [(.int r32), (.int (9 : Int32)), (.ref b3)])) rfl rfl (hb hby at_163)
  have z34 : n0 ≤ h33.size := Nat.le_trans z31 (Keep.of_wr W33).1
  obtain ⟨fn33, hfn33⟩ : ∃ z, z = (updI fn30 9 (r32).toInt8.toInt32) := ⟨_, rfl⟩
  have V33 : AV Z h33 b3 k3 .byte 12 (fun i => Value.int (fn33 i)) := (by rw [hfn33]; exact AV.putI V30 W33 (AV.inx (show ¬ (9 : Int32) < 0 ∧ ((9 : Int32)).toNatClampNeg < 12 by decide)))
  have N33 := Fr.snoc X33 N32 g_b3
  obtain ⟨_, _, ⟨T35, L35, k35, n35⟩, -, X35, ⟨Lc35, hQ35, l35, y35, z35⟩, st35⟩ := Jvm.LawKit.callS X33 hx (y := (⟨"com/example/flowglyph/flowglyph/core/BigEndianUnsignedPinLaw", "at", "(IIJJ)B"⟩ : MethodName)) hown (mvT hZ (hw _ (List.mem_of_getElem? (i := 2) rfl))) (mvT hZ (hw _ (List.mem_of_getElem? (i := 3) rfl))) (mvT hZ (hw _ (List.mem_of_getElem? (i := 4) rfl))) (mvT hZ (hw _ (List.mem_of_getElem? (i := 5) rfl))) (by decide) (backOf (W := 2) (rm1 l Z a0 hw [] (10 : Int32) of q1 q2 h33 n0 z34) hZ (hw _ (List.mem_of_getElem? (i := 5) rfl)) (hw _ (List.mem_of_getElem? (i := 4) rfl)) (by decide) (by decide)) (g := (mkF m 174 #[.val (.long q1), .second, .val (.long q2), .second, .val (.int p3), .val (.int p4), .val (.int p5), .val (.int of), .val (.int ln), .val (.int i20_0), .val (.ref b3), .unset, .unset, .unset, .unset, .unset] [(.long q2), (.long q1), (.int of), (.int (10 : Int32)), (.int (10 : Int32)), (.ref b3)])) rfl (by rw [hml]; rfl) (argsL := [(.int (10 : Int32)), (.int of), (.long q1), (.long q2)]) (rest := [(.int (10 : Int32)), (.ref b3)]) (lenOf pd_0 rfl) rfl (by show 2 * 0 + _ ≤ _; exact Nat.le_of_eq rfl) (hb hby at_174) (fun _ _ => ⟨rfl, e33, (by decide : 1 + 0 ≤ _), (by decide : 12 + 0 ≤ _)⟩)
  dsimp only [Pt.U, Pt.locs, Pt.cells, Pt.slots] at X35 l35 y35 z35 st35 hQ35
  subst y35 z35
  obtain ⟨r35, rfl, hr35, N35q, eq35⟩ := hQ35
  have N35 : Fr n0 L35 := by rw [l35]; exact Fr.app N33 N35q
  obtain ⟨cl36, Ar36, kc36, sz36, -, -⟩ := id V33
  have hin36 : ¬ ((10 : Int32) < 0 ∨ cl36.slots.size ≤ ((10 : Int32)).toNatClampNeg) := AV.inb sz36 (show ¬ (10 : Int32) < 0 ∧ ((10 : Int32)).toNatClampNeg < 12 by decide)
  obtain ⟨T36, h36, X36, e36, W36, st36⟩ := stB X35 hx hZ eq35 Ar36 (j := (10 : Int32)) hin36 (g := (mkF m 177 #[.val (.long q1), .second, .val (.long q2), .second, .val (.int p3), .val (.int p4), .val (.int p5), .val (.int of), .val (.int ln), .val (.int i20_0), .val (.ref b3), .unset, .unset, .unset, .unset, .unset] [(.int r35), (.int (10 : Int32)), (.ref b3)])) rfl rfl (hb hby at_177)
  have z37 : n0 ≤ h36.size := Nat.le_trans z34 (Keep.of_wr W36).1
  obtain ⟨fn36, hfn36⟩ : ∃ z, z = (updI fn33 10 (r35).toInt8.toInt32) := ⟨_, rfl⟩
  have V36 : AV Z h36 b3 k3 .byte 12 (fun i => Value.int (fn36 i)) := (by rw [hfn36]; exact AV.putI V33 W36 (AV.inx (show ¬ (10 : Int32) < 0 ∧ ((10 : Int32)).toNatClampNeg < 12 by decide)))
  have N36 := Fr.snoc X36 N35 g_b3
  obtain ⟨_, _, ⟨T38, L38, k38, n38⟩, -, X38, ⟨Lc38, hQ38, l38, y38, z38⟩, st38⟩ := Jvm.LawKit.callS X36 hx (y := (⟨"com/example/flowglyph/flowglyph/core/BigEndianUnsignedPinLaw", "at", "(IIJJ)B"⟩ : MethodName)) hown (mvT hZ (hw _ (List.mem_of_getElem? (i := 2) rfl))) (mvT hZ (hw _ (List.mem_of_getElem? (i := 3) rfl))) (mvT hZ (hw _ (List.mem_of_getElem? (i := 4) rfl))) (mvT hZ (hw _ (List.mem_of_getElem? (i := 5) rfl))) (by decide) (backOf (W := 2) (rm1 l Z a0 hw [] (11 : Int32) of q1 q2 h36 n0 z37) hZ (hw _ (List.mem_of_getElem? (i := 5) rfl)) (hw _ (List.mem_of_getElem? (i := 4) rfl)) (by decide) (by decide)) (g := (mkF m 188 #[.val (.long q1), .second, .val (.long q2), .second, .val (.int p3), .val (.int p4), .val (.int p5), .val (.int of), .val (.int ln), .val (.int i20_0), .val (.ref b3), .unset, .unset, .unset, .unset, .unset] [(.long q2), (.long q1), (.int of), (.int (11 : Int32)), (.int (11 : Int32)), (.ref b3)])) rfl (by rw [hml]; rfl) (argsL := [(.int (11 : Int32)), (.int of), (.long q1), (.long q2)]) (rest := [(.int (11 : Int32)), (.ref b3)]) (lenOf pd_0 rfl) rfl (by show 2 * 0 + _ ≤ _; exact Nat.le_of_eq rfl) (hb hby at_188) (fun _ _ => ⟨rfl, e36, (by decide : 1 + 0 ≤ _), (by decide : 12 + 0 ≤ _)⟩)
  dsimp only [Pt.U, Pt.locs, Pt.cells, Pt.slots] at X38 l38 y38 z38 st38 hQ38
  subst y38 z38
  obtain ⟨r38, rfl, hr38, N38q, eq38⟩ := hQ38
  have N38 : Fr n0 L38 := by rw [l38]; exact Fr.app N36 N38q
  obtain ⟨cl39, Ar39, kc39, sz39, -, -⟩ := id V36
  have hin39 : ¬ ((11 : Int32) < 0 ∨ cl39.slots.size ≤ ((11 : Int32)).toNatClampNeg) := AV.inb sz39 (show ¬ (11 : Int32) < 0 ∧ ((11 : Int32)).toNatClampNeg < 12 by decide)
  obtain ⟨T39, h39, X39, e39, W39, st39⟩ := stB X38 hx hZ eq38 Ar39 (j := (11 : Int32)) hin39 (g := (mkF m 191 #[.val (.long q1), .second, .val (.long q2), .second, .val (.int p3), .val (.int p4), .val (.int p5), .val (.int of), .val (.int ln), .val (.int i20_0), .val (.ref b3), .unset, .unset, .unset, .unset, .unset] [(.int r38), (.int (11 : Int32)), (.ref b3)])) rfl rfl (hb hby at_191)
  have z40 : n0 ≤ h39.size := Nat.le_trans z37 (Keep.of_wr W39).1
  obtain ⟨fn39, hfn39⟩ : ∃ z, z = (updI fn36 11 (r38).toInt8.toInt32) := ⟨_, rfl⟩
  have V39 : AV Z h39 b3 k3 .byte 12 (fun i => Value.int (fn39 i)) := (by rw [hfn39]; exact AV.putI V36 W39 (AV.inx (show ¬ (11 : Int32) < 0 ∧ ((11 : Int32)).toNatClampNeg < 12 by decide)))
  have N39 := Fr.snoc X39 N38 g_b3
  have hF : ∀ i, i < 12 → fn39 i = (own_at (Int32.ofNat i) of q1 q2).toInt8.toInt32 := by
    intro i hi
    rw [hfn39, hfn36, hfn33, hfn30, hfn27, hfn24, hfn21, hfn18, hfn15, hfn12, hfn9, hfn6]
    match i, hi with
    | 0, _ => exact (congrArg (fun z : Int32 => z.toInt8.toInt32) hr5)
    | 1, _ => exact (congrArg (fun z : Int32 => z.toInt8.toInt32) hr8)
    | 2, _ => exact (congrArg (fun z : Int32 => z.toInt8.toInt32) hr11)
    | 3, _ => exact (congrArg (fun z : Int32 => z.toInt8.toInt32) hr14)
    | 4, _ => exact (congrArg (fun z : Int32 => z.toInt8.toInt32) hr17)
    | 5, _ => exact (congrArg (fun z : Int32 => z.toInt8.toInt32) hr20)
    | 6, _ => exact (congrArg (fun z : Int32 => z.toInt8.toInt32) hr23)
    | 7, _ => exact (congrArg (fun z : Int32 => z.toInt8.toInt32) hr26)
    | 8, _ => exact (congrArg (fun z : Int32 => z.toInt8.toInt32) hr29)
    | 9, _ => exact (congrArg (fun z : Int32 => z.toInt8.toInt32) hr32)
    | 10, _ => exact (congrArg (fun z : Int32 => z.toInt8.toInt32) hr35)
    | 11, _ => exact (congrArg (fun z : Int32 => z.toInt8.toInt32) hr38)
    | i + 12, hi => exact absurd hi (by omega)
  refine GoalS.lift (B := (T39.setTop (mkF m 194 #[.val (.long q1), .second, .val (.long q2), .second, .val (.int p3), .val (.int p4), .val (.int p5), .val (.int of), .val (.int ln), .val (.int i20_0), .val (.ref b3), .unset, .unset, .unset, .unset, .unset] [(.int i20_0)]))) (fun t k => ?_) ?_
  · show Steps p.tables e below (s₁.setTop (mkF m 28 #[.val (.long q1), .second, .val (.long q2), .second, .val (.int p3), .val (.int p4), .val (.int p5), .val (.int of), .val (.int ln), .unset, .unset, .unset, .unset, .unset, .unset, .unset] [(.int i20_0)])) _
    refine XS.istore X0.here hx rfl (hb hby at_28) rfl (l' := #[.val (.long q1), .second, .val (.long q2), .second, .val (.int p3), .val (.int p4), .val (.int p5), .val (.int of), .val (.int ln), .val (.int i20_0), .unset, .unset, .unset, .unset, .unset, .unset]) rfl ?_
    show Steps p.tables e below (s₁.setTop (mkF m 30 #[.val (.long q1), .second, .val (.long q2), .second, .val (.int p3), .val (.int p4), .val (.int p5), .val (.int of), .val (.int ln), .val (.int i20_0), .unset, .unset, .unset, .unset, .unset, .unset] [])) _
    refine XS.bipush X0.here hx rfl (hb hby at_30) ?_
    show Steps p.tables e below (s₁.setTop (mkF m 32 #[.val (.long q1), .second, .val (.long q2), .second, .val (.int p3), .val (.int p4), .val (.int p5), .val (.int of), .val (.int ln), .val (.int i20_0), .unset, .unset, .unset, .unset, .unset, .unset] [(.int (12 : Int32))])) _
    refine st3 _ ?_
    show Steps p.tables e below (T3.setTop (mkF m 34 #[.val (.long q1), .second, .val (.long q2), .second, .val (.int p3), .val (.int p4), .val (.int p5), .val (.int of), .val (.int ln), .val (.int i20_0), .unset, .unset, .unset, .unset, .unset, .unset] [(.ref b3)])) _
    refine XS.astore X3.here hx rfl (hb hby at_34) rfl rfl (l' := #[.val (.long q1), .second, .val (.long q2), .second, .val (.int p3), .val (.int p4), .val (.int p5), .val (.int of), .val (.int ln), .val (.int i20_0), .val (.ref b3), .unset, .unset, .unset, .unset, .unset]) rfl ?_
    show Steps p.tables e below (T3.setTop (mkF m 36 #[.val (.long q1), .second, .val (.long q2), .second, .val (.int p3), .val (.int p4), .val (.int p5), .val (.int of), .val (.int ln), .val (.int i20_0), .val (.ref b3), .unset, .unset, .unset, .unset, .unset] [])) _
    refine XS.aload X3.here hx rfl (hb hby at_36) rfl rfl ?_
    show Steps p.tables e below (T3.setTop (mkF m 38 #[.val (.long q1), .second, .val (.long q2), .second, .val (.int p3), .val (.int p4), .val (.int p5), .val (.int of), .val (.int ln), .val (.int i20_0), .val (.ref b3), .unset, .unset, .unset, .unset, .unset] [(.ref b3)])) _
    refine XS.iconst X3.here hx rfl (hb hby at_38) ?_
    show Steps p.tables e below (T3.setTop (mkF m 39 #[.val (.long q1), .second, .val (.long q2), .second, .val (.int p3), .val (.int p4), .val (.int p5), .val (.int of), .val (.int ln), .val (.int i20_0), .val (.ref b3), .unset, .unset, .unset, .unset, .unset] [(.int (0 : Int32)), (.ref b3)])) _
    refine XS.iconst X3.here hx rfl (hb hby at_39) ?_
    show Steps p.tables e below (T3.setTop (mkF m 40 #[.val (.long q1), .second, .val (.long q2), .second, .val (.int p3), .val (.int p4), .val (.int p5), .val (.int of), .val (.int ln), .val (.int i20_0), .val (.ref b3), .unset, .unset, .unset, .unset, .unset] [(.int (0 : Int32)), (.int (0 : Int32)), (.ref b3)])) _
    refine XS.iload X3.here hx rfl (hb hby at_40) rfl ?_
    show Steps p.tables e below (T3.setTop (mkF m 42 #[.val (.long q1), .second, .val (.long q2), .second, .val (.int p3), .val (.int p4), .val (.int p5), .val (.int of), .val (.int ln), .val (.int i20_0), .val (.ref b3), .unset, .unset, .unset, .unset, .unset] [(.int of), (.int (0 : Int32)), (.int (0 : Int32)), (.ref b3)])) _
    refine XS.lloadN X3.here hx rfl (hb hby at_42) rfl ?_
    show Steps p.tables e below (T3.setTop (mkF m 43 #[.val (.long q1), .second, .val (.long q2), .second, .val (.int p3), .val (.int p4), .val (.int p5), .val (.int of), .val (.int ln), .val (.int i20_0), .val (.ref b3), .unset, .unset, .unset, .unset, .unset] [(.long q1), (.int of), (.int (0 : Int32)), (.int (0 : Int32)), (.ref b3)])) _
    refine XS.lloadN X3.here hx rfl (hb hby at_43) rfl ?_
    show Steps p.tables e below (T3.setTop (mkF m 44 #[.val (.long q1), .second, .val (.long q2), .second, .val (.int p3), .val (.int p4), .val (.int p5), .val (.int of), .val (.int ln), .val (.int i20_0), .val (.ref b3), .unset, .unset, .unset, .unset, .unset] [(.long q2), (.long q1), (.int of), (.int (0 : Int32)), (.int (0 : Int32)), (.ref b3)])) _
    refine st5 _ ?_
    show Steps p.tables e below (T5.setTop (mkF m 47 #[.val (.long q1), .second, .val (.long q2), .second, .val (.int p3), .val (.int p4), .val (.int p5), .val (.int of), .val (.int ln), .val (.int i20_0), .val (.ref b3), .unset, .unset, .unset, .unset, .unset] [(.int r5), (.int (0 : Int32)), (.ref b3)])) _
    refine st6 _ ?_
    show Steps p.tables e below (T6.setTop (mkF m 48 #[.val (.long q1), .second, .val (.long q2), .second, .val (.int p3), .val (.int p4), .val (.int p5), .val (.int of), .val (.int ln), .val (.int i20_0), .val (.ref b3), .unset, .unset, .unset, .unset, .unset] [])) _
    refine XS.aload X6.here hx rfl (hb hby at_48) rfl rfl ?_
    show Steps p.tables e below (T6.setTop (mkF m 50 #[.val (.long q1), .second, .val (.long q2), .second, .val (.int p3), .val (.int p4), .val (.int p5), .val (.int of), .val (.int ln), .val (.int i20_0), .val (.ref b3), .unset, .unset, .unset, .unset, .unset] [(.ref b3)])) _
    refine XS.iconst X6.here hx rfl (hb hby at_50) ?_
    show Steps p.tables e below (T6.setTop (mkF m 51 #[.val (.long q1), .second, .val (.long q2), .second, .val (.int p3), .val (.int p4), .val (.int p5), .val (.int of), .val (.int ln), .val (.int i20_0), .val (.ref b3), .unset, .unset, .unset, .unset, .unset] [(.int (1 : Int32)), (.ref b3)])) _
    refine XS.iconst X6.here hx rfl (hb hby at_51) ?_
    show Steps p.tables e below (T6.setTop (mkF m 52 #[.val (.long q1), .second, .val (.long q2), .second, .val (.int p3), .val (.int p4), .val (.int p5), .val (.int of), .val (.int ln), .val (.int i20_0), .val (.ref b3), .unset, .unset, .unset, .unset, .unset] [(.int (1 : Int32)), (.int (1 : Int32)), (.ref b3)])) _
    refine XS.iload X6.here hx rfl (hb hby at_52) rfl ?_
    show Steps p.tables e below (T6.setTop (mkF m 54 #[.val (.long q1), .second, .val (.long q2), .second, .val (.int p3), .val (.int p4), .val (.int p5), .val (.int of), .val (.int ln), .val (.int i20_0), .val (.ref b3), .unset, .unset, .unset, .unset, .unset] [(.int of), (.int (1 : Int32)), (.int (1 : Int32)), (.ref b3)])) _
    refine XS.lloadN X6.here hx rfl (hb hby at_54) rfl ?_
    show Steps p.tables e below (T6.setTop (mkF m 55 #[.val (.long q1), .second, .val (.long q2), .second, .val (.int p3), .val (.int p4), .val (.int p5), .val (.int of), .val (.int ln), .val (.int i20_0), .val (.ref b3), .unset, .unset, .unset, .unset, .unset] [(.long q1), (.int of), (.int (1 : Int32)), (.int (1 : Int32)), (.ref b3)])) _
    refine XS.lloadN X6.here hx rfl (hb hby at_55) rfl ?_
    show Steps p.tables e below (T6.setTop (mkF m 56 #[.val (.long q1), .second, .val (.long q2), .second, .val (.int p3), .val (.int p4), .val (.int p5), .val (.int of), .val (.int ln), .val (.int i20_0), .val (.ref b3), .unset, .unset, .unset, .unset, .unset] [(.long q2), (.long q1), (.int of), (.int (1 : Int32)), (.int (1 : Int32)), (.ref b3)])) _
    refine st8 _ ?_
    show Steps p.tables e below (T8.setTop (mkF m 59 #[.val (.long q1), .second, .val (.long q2), .second, .val (.int p3), .val (.int p4), .val (.int p5), .val (.int of), .val (.int ln), .val (.int i20_0), .val (.ref b3), .unset, .unset, .unset, .unset, .unset] [(.int r8), (.int (1 : Int32)), (.ref b3)])) _
    refine st9 _ ?_
    show Steps p.tables e below (T9.setTop (mkF m 60 #[.val (.long q1), .second, .val (.long q2), .second, .val (.int p3), .val (.int p4), .val (.int p5), .val (.int of), .val (.int ln), .val (.int i20_0), .val (.ref b3), .unset, .unset, .unset, .unset, .unset] [])) _
    refine XS.aload X9.here hx rfl (hb hby at_60) rfl rfl ?_
    show Steps p.tables e below (T9.setTop (mkF m 62 #[.val (.long q1), .second, .val (.long q2), .second, .val (.int p3), .val (.int p4), .val (.int p5), .val (.int of), .val (.int ln), .val (.int i20_0), .val (.ref b3), .unset, .unset, .unset, .unset, .unset] [(.ref b3)])) _
    refine XS.iconst X9.here hx rfl (hb hby at_62) ?_
    show Steps p.tables e below (T9.setTop (mkF m 63 #[.val (.long q1), .second, .val (.long q2), .second, .val (.int p3), .val (.int p4), .val (.int p5), .val (.int of), .val (.int ln), .val (.int i20_0), .val (.ref b3), .unset, .unset, .unset, .unset, .unset] [(.int (2 : Int32)), (.ref b3)])) _
    refine XS.iconst X9.here hx rfl (hb hby at_63) ?_
    show Steps p.tables e below (T9.setTop (mkF m 64 #[.val (.long q1), .second, .val (.long q2), .second, .val (.int p3), .val (.int p4), .val (.int p5), .val (.int of), .val (.int ln), .val (.int i20_0), .val (.ref b3), .unset, .unset, .unset, .unset, .unset] [(.int (2 : Int32)), (.int (2 : Int32)), (.ref b3)])) _
    refine XS.iload X9.here hx rfl (hb hby at_64) rfl ?_
    show Steps p.tables e below (T9.setTop (mkF m 66 #[.val (.long q1), .second, .val (.long q2), .second, .val (.int p3), .val (.int p4), .val (.int p5), .val (.int of), .val (.int ln), .val (.int i20_0), .val (.ref b3), .unset, .unset, .unset, .unset, .unset] [(.int of), (.int (2 : Int32)), (.int (2 : Int32)), (.ref b3)])) _
    refine XS.lloadN X9.here hx rfl (hb hby at_66) rfl ?_
    show Steps p.tables e below (T9.setTop (mkF m 67 #[.val (.long q1), .second, .val (.long q2), .second, .val (.int p3), .val (.int p4), .val (.int p5), .val (.int of), .val (.int ln), .val (.int i20_0), .val (.ref b3), .unset, .unset, .unset, .unset, .unset] [(.long q1), (.int of), (.int (2 : Int32)), (.int (2 : Int32)), (.ref b3)])) _
    refine XS.lloadN X9.here hx rfl (hb hby at_67) rfl ?_
    show Steps p.tables e below (T9.setTop (mkF m 68 #[.val (.long q1), .second, .val (.long q2), .second, .val (.int p3), .val (.int p4), .val (.int p5), .val (.int of), .val (.int ln), .val (.int i20_0), .val (.ref b3), .unset, .unset, .unset, .unset, .unset] [(.long q2), (.long q1), (.int of), (.int (2 : Int32)), (.int (2 : Int32)), (.ref b3)])) _
    refine st11 _ ?_
    show Steps p.tables e below (T11.setTop (mkF m 71 #[.val (.long q1), .second, .val (.long q2), .second, .val (.int p3), .val (.int p4), .val (.int p5), .val (.int of), .val (.int ln), .val (.int i20_0), .val (.ref b3), .unset, .unset, .unset, .unset, .unset] [(.int r11), (.int (2 : Int32)), (.ref b3)])) _
    refine st12 _ ?_
    show Steps p.tables e below (T12.setTop (mkF m 72 #[.val (.long q1), .second, .val (.long q2), .second, .val (.int p3), .val (.int p4), .val (.int p5), .val (.int of), .val (.int ln), .val (.int i20_0), .val (.ref b3), .unset, .unset, .unset, .unset, .unset] [])) _
    refine XS.aload X12.here hx rfl (hb hby at_72) rfl rfl ?_
    show Steps p.tables e below (T12.setTop (mkF m 74 #[.val (.long q1), .second, .val (.long q2), .second, .val (.int p3), .val (.int p4), .val (.int p5), .val (.int of), .val (.int ln), .val (.int i20_0), .val (.ref b3), .unset, .unset, .unset, .unset, .unset] [(.ref b3)])) _
    refine XS.iconst X12.here hx rfl (hb hby at_74) ?_
    show Steps p.tables e below (T12.setTop (mkF m 75 #[.val (.long q1), .second, .val (.long q2), .second, .val (.int p3), .val (.int p4), .val (.int p5), .val (.int of), .val (.int ln), .val (.int i20_0), .val (.ref b3), .unset, .unset, .unset, .unset, .unset] [(.int (3 : Int32)), (.ref b3)])) _
    refine XS.iconst X12.here hx rfl (hb hby at_75) ?_
    show Steps p.tables e below (T12.setTop (mkF m 76 #[.val (.long q1), .second, .val (.long q2), .second, .val (.int p3), .val (.int p4), .val (.int p5), .val (.int of), .val (.int ln), .val (.int i20_0), .val (.ref b3), .unset, .unset, .unset, .unset, .unset] [(.int (3 : Int32)), (.int (3 : Int32)), (.ref b3)])) _
    refine XS.iload X12.here hx rfl (hb hby at_76) rfl ?_
    show Steps p.tables e below (T12.setTop (mkF m 78 #[.val (.long q1), .second, .val (.long q2), .second, .val (.int p3), .val (.int p4), .val (.int p5), .val (.int of), .val (.int ln), .val (.int i20_0), .val (.ref b3), .unset, .unset, .unset, .unset, .unset] [(.int of), (.int (3 : Int32)), (.int (3 : Int32)), (.ref b3)])) _
    refine XS.lloadN X12.here hx rfl (hb hby at_78) rfl ?_
    show Steps p.tables e below (T12.setTop (mkF m 79 #[.val (.long q1), .second, .val (.long q2), .second, .val (.int p3), .val (.int p4), .val (.int p5), .val (.int of), .val (.int ln), .val (.int i20_0), .val (.ref b3), .unset, .unset, .unset, .unset, .unset] [(.long q1), (.int of), (.int (3 : Int32)), (.int (3 : Int32)), (.ref b3)])) _
    refine XS.lloadN X12.here hx rfl (hb hby at_79) rfl ?_
    show Steps p.tables e below (T12.setTop (mkF m 80 #[.val (.long q1), .second, .val (.long q2), .second, .val (.int p3), .val (.int p4), .val (.int p5), .val (.int of), .val (.int ln), .val (.int i20_0), .val (.ref b3), .unset, .unset, .unset, .unset, .unset] [(.long q2), (.long q1), (.int of), (.int (3 : Int32)), (.int (3 : Int32)), (.ref b3)])) _
    refine st14 _ ?_
    show Steps p.tables e below (T14.setTop (mkF m 83 #[.val (.long q1), .second, .val (.long q2), .second, .val (.int p3), .val (.int p4), .val (.int p5), .val (.int of), .val (.int ln), .val (.int i20_0), .val (.ref b3), .unset, .unset, .unset, .unset, .unset] [(.int r14), (.int (3 : Int32)), (.ref b3)])) _
    refine st15 _ ?_
    show Steps p.tables e below (T15.setTop (mkF m 84 #[.val (.long q1), .second, .val (.long q2), .second, .val (.int p3), .val (.int p4), .val (.int p5), .val (.int of), .val (.int ln), .val (.int i20_0), .val (.ref b3), .unset, .unset, .unset, .unset, .unset] [])) _
    refine XS.aload X15.here hx rfl (hb hby at_84) rfl rfl ?_
    show Steps p.tables e below (T15.setTop (mkF m 86 #[.val (.long q1), .second, .val (.long q2), .second, .val (.int p3), .val (.int p4), .val (.int p5), .val (.int of), .val (.int ln), .val (.int i20_0), .val (.ref b3), .unset, .unset, .unset, .unset, .unset] [(.ref b3)])) _
    refine XS.iconst X15.here hx rfl (hb hby at_86) ?_
    show Steps p.tables e below (T15.setTop (mkF m 87 #[.val (.long q1), .second, .val (.long q2), .second, .val (.int p3), .val (.int p4), .val (.int p5), .val (.int of), .val (.int ln), .val (.int i20_0), .val (.ref b3), .unset, .unset, .unset, .unset, .unset] [(.int (4 : Int32)), (.ref b3)])) _
    refine XS.iconst X15.here hx rfl (hb hby at_87) ?_
    show Steps p.tables e below (T15.setTop (mkF m 88 #[.val (.long q1), .second, .val (.long q2), .second, .val (.int p3), .val (.int p4), .val (.int p5), .val (.int of), .val (.int ln), .val (.int i20_0), .val (.ref b3), .unset, .unset, .unset, .unset, .unset] [(.int (4 : Int32)), (.int (4 : Int32)), (.ref b3)])) _
    refine XS.iload X15.here hx rfl (hb hby at_88) rfl ?_
    show Steps p.tables e below (T15.setTop (mkF m 90 #[.val (.long q1), .second, .val (.long q2), .second, .val (.int p3), .val (.int p4), .val (.int p5), .val (.int of), .val (.int ln), .val (.int i20_0), .val (.ref b3), .unset, .unset, .unset, .unset, .unset] [(.int of), (.int (4 : Int32)), (.int (4 : Int32)), (.ref b3)])) _
    refine XS.lloadN X15.here hx rfl (hb hby at_90) rfl ?_
    show Steps p.tables e below (T15.setTop (mkF m 91 #[.val (.long q1), .second, .val (.long q2), .second, .val (.int p3), .val (.int p4), .val (.int p5), .val (.int of), .val (.int ln), .val (.int i20_0), .val (.ref b3), .unset, .unset, .unset, .unset, .unset] [(.long q1), (.int of), (.int (4 : Int32)), (.int (4 : Int32)), (.ref b3)])) _
    refine XS.lloadN X15.here hx rfl (hb hby at_91) rfl ?_
    show Steps p.tables e below (T15.setTop (mkF m 92 #[.val (.long q1), .second, .val (.long q2), .second, .val (.int p3), .val (.int p4), .val (.int p5), .val (.int of), .val (.int ln), .val (.int i20_0), .val (.ref b3), .unset, .unset, .unset, .unset, .unset] [(.long q2), (.long q1), (.int of), (.int (4 : Int32)), (.int (4 : Int32)), (.ref b3)])) _
    refine st17 _ ?_
    show Steps p.tables e below (T17.setTop (mkF m 95 #[.val (.long q1), .second, .val (.long q2), .second, .val (.int p3), .val (.int p4), .val (.int p5), .val (.int of), .val (.int ln), .val (.int i20_0), .val (.ref b3), .unset, .unset, .unset, .unset, .unset] [(.int r17), (.int (4 : Int32)), (.ref b3)])) _
    refine st18 _ ?_
    show Steps p.tables e below (T18.setTop (mkF m 96 #[.val (.long q1), .second, .val (.long q2), .second, .val (.int p3), .val (.int p4), .val (.int p5), .val (.int of), .val (.int ln), .val (.int i20_0), .val (.ref b3), .unset, .unset, .unset, .unset, .unset] [])) _
    refine XS.aload X18.here hx rfl (hb hby at_96) rfl rfl ?_
    show Steps p.tables e below (T18.setTop (mkF m 98 #[.val (.long q1), .second, .val (.long q2), .second, .val (.int p3), .val (.int p4), .val (.int p5), .val (.int of), .val (.int ln), .val (.int i20_0), .val (.ref b3), .unset, .unset, .unset, .unset, .unset] [(.ref b3)])) _
    refine XS.iconst X18.here hx rfl (hb hby at_98) ?_
    show Steps p.tables e below (T18.setTop (mkF m 99 #[.val (.long q1), .second, .val (.long q2), .second, .val (.int p3), .val (.int p4), .val (.int p5), .val (.int of), .val (.int ln), .val (.int i20_0), .val (.ref b3), .unset, .unset, .unset, .unset, .unset] [(.int (5 : Int32)), (.ref b3)])) _
    refine XS.iconst X18.here hx rfl (hb hby at_99) ?_
    show Steps p.tables e below (T18.setTop (mkF m 100 #[.val (.long q1), .second, .val (.long q2), .second, .val (.int p3), .val (.int p4), .val (.int p5), .val (.int of), .val (.int ln), .val (.int i20_0), .val (.ref b3), .unset, .unset, .unset, .unset, .unset] [(.int (5 : Int32)), (.int (5 : Int32)), (.ref b3)])) _
    refine XS.iload X18.here hx rfl (hb hby at_100) rfl ?_
    show Steps p.tables e below (T18.setTop (mkF m 102 #[.val (.long q1), .second, .val (.long q2), .second, .val (.int p3), .val (.int p4), .val (.int p5), .val (.int of), .val (.int ln), .val (.int i20_0), .val (.ref b3), .unset, .unset, .unset, .unset, .unset] [(.int of), (.int (5 : Int32)), (.int (5 : Int32)), (.ref b3)])) _
    refine XS.lloadN X18.here hx rfl (hb hby at_102) rfl ?_
    show Steps p.tables e below (T18.setTop (mkF m 103 #[.val (.long q1), .second, .val (.long q2), .second, .val (.int p3), .val (.int p4), .val (.int p5), .val (.int of), .val (.int ln), .val (.int i20_0), .val (.ref b3), .unset, .unset, .unset, .unset, .unset] [(.long q1), (.int of), (.int (5 : Int32)), (.int (5 : Int32)), (.ref b3)])) _
    refine XS.lloadN X18.here hx rfl (hb hby at_103) rfl ?_
    show Steps p.tables e below (T18.setTop (mkF m 104 #[.val (.long q1), .second, .val (.long q2), .second, .val (.int p3), .val (.int p4), .val (.int p5), .val (.int of), .val (.int ln), .val (.int i20_0), .val (.ref b3), .unset, .unset, .unset, .unset, .unset] [(.long q2), (.long q1), (.int of), (.int (5 : Int32)), (.int (5 : Int32)), (.ref b3)])) _
    refine st20 _ ?_
    show Steps p.tables e below (T20.setTop (mkF m 107 #[.val (.long q1), .second, .val (.long q2), .second, .val (.int p3), .val (.int p4), .val (.int p5), .val (.int of), .val (.int ln), .val (.int i20_0), .val (.ref b3), .unset, .unset, .unset, .unset, .unset] [(.int r20), (.int (5 : Int32)), (.ref b3)])) _
    refine st21 _ ?_
    show Steps p.tables e below (T21.setTop (mkF m 108 #[.val (.long q1), .second, .val (.long q2), .second, .val (.int p3), .val (.int p4), .val (.int p5), .val (.int of), .val (.int ln), .val (.int i20_0), .val (.ref b3), .unset, .unset, .unset, .unset, .unset] [])) _
    refine XS.aload X21.here hx rfl (hb hby at_108) rfl rfl ?_
    show Steps p.tables e below (T21.setTop (mkF m 110 #[.val (.long q1), .second, .val (.long q2), .second, .val (.int p3), .val (.int p4), .val (.int p5), .val (.int of), .val (.int ln), .val (.int i20_0), .val (.ref b3), .unset, .unset, .unset, .unset, .unset] [(.ref b3)])) _
    refine XS.bipush X21.here hx rfl (hb hby at_110) ?_
    show Steps p.tables e below (T21.setTop (mkF m 112 #[.val (.long q1), .second, .val (.long q2), .second, .val (.int p3), .val (.int p4), .val (.int p5), .val (.int of), .val (.int ln), .val (.int i20_0), .val (.ref b3), .unset, .unset, .unset, .unset, .unset] [(.int (6 : Int32)), (.ref b3)])) _
    refine XS.bipush X21.here hx rfl (hb hby at_112) ?_
    show Steps p.tables e below (T21.setTop (mkF m 114 #[.val (.long q1), .second, .val (.long q2), .second, .val (.int p3), .val (.int p4), .val (.int p5), .val (.int of), .val (.int ln), .val (.int i20_0), .val (.ref b3), .unset, .unset, .unset, .unset, .unset] [(.int (6 : Int32)), (.int (6 : Int32)), (.ref b3)])) _
    refine XS.iload X21.here hx rfl (hb hby at_114) rfl ?_
    show Steps p.tables e below (T21.setTop (mkF m 116 #[.val (.long q1), .second, .val (.long q2), .second, .val (.int p3), .val (.int p4), .val (.int p5), .val (.int of), .val (.int ln), .val (.int i20_0), .val (.ref b3), .unset, .unset, .unset, .unset, .unset] [(.int of), (.int (6 : Int32)), (.int (6 : Int32)), (.ref b3)])) _
    refine XS.lloadN X21.here hx rfl (hb hby at_116) rfl ?_
    show Steps p.tables e below (T21.setTop (mkF m 117 #[.val (.long q1), .second, .val (.long q2), .second, .val (.int p3), .val (.int p4), .val (.int p5), .val (.int of), .val (.int ln), .val (.int i20_0), .val (.ref b3), .unset, .unset, .unset, .unset, .unset] [(.long q1), (.int of), (.int (6 : Int32)), (.int (6 : Int32)), (.ref b3)])) _
    refine XS.lloadN X21.here hx rfl (hb hby at_117) rfl ?_
    show Steps p.tables e below (T21.setTop (mkF m 118 #[.val (.long q1), .second, .val (.long q2), .second, .val (.int p3), .val (.int p4), .val (.int p5), .val (.int of), .val (.int ln), .val (.int i20_0), .val (.ref b3), .unset, .unset, .unset, .unset, .unset] [(.long q2), (.long q1), (.int of), (.int (6 : Int32)), (.int (6 : Int32)), (.ref b3)])) _
    refine st23 _ ?_
    show Steps p.tables e below (T23.setTop (mkF m 121 #[.val (.long q1), .second, .val (.long q2), .second, .val (.int p3), .val (.int p4), .val (.int p5), .val (.int of), .val (.int ln), .val (.int i20_0), .val (.ref b3), .unset, .unset, .unset, .unset, .unset] [(.int r23), (.int (6 : Int32)), (.ref b3)])) _
    refine st24 _ ?_
    show Steps p.tables e below (T24.setTop (mkF m 122 #[.val (.long q1), .second, .val (.long q2), .second, .val (.int p3), .val (.int p4), .val (.int p5), .val (.int of), .val (.int ln), .val (.int i20_0), .val (.ref b3), .unset, .unset, .unset, .unset, .unset] [])) _
    refine XS.aload X24.here hx rfl (hb hby at_122) rfl rfl ?_
    show Steps p.tables e below (T24.setTop (mkF m 124 #[.val (.long q1), .second, .val (.long q2), .second, .val (.int p3), .val (.int p4), .val (.int p5), .val (.int of), .val (.int ln), .val (.int i20_0), .val (.ref b3), .unset, .unset, .unset, .unset, .unset] [(.ref b3)])) _
    refine XS.bipush X24.here hx rfl (hb hby at_124) ?_
    show Steps p.tables e below (T24.setTop (mkF m 126 #[.val (.long q1), .second, .val (.long q2), .second, .val (.int p3), .val (.int p4), .val (.int p5), .val (.int of), .val (.int ln), .val (.int i20_0), .val (.ref b3), .unset, .unset, .unset, .unset, .unset] [(.int (7 : Int32)), (.ref b3)])) _
    refine XS.bipush X24.here hx rfl (hb hby at_126) ?_
    show Steps p.tables e below (T24.setTop (mkF m 128 #[.val (.long q1), .second, .val (.long q2), .second, .val (.int p3), .val (.int p4), .val (.int p5), .val (.int of), .val (.int ln), .val (.int i20_0), .val (.ref b3), .unset, .unset, .unset, .unset, .unset] [(.int (7 : Int32)), (.int (7 : Int32)), (.ref b3)])) _
    refine XS.iload X24.here hx rfl (hb hby at_128) rfl ?_
    show Steps p.tables e below (T24.setTop (mkF m 130 #[.val (.long q1), .second, .val (.long q2), .second, .val (.int p3), .val (.int p4), .val (.int p5), .val (.int of), .val (.int ln), .val (.int i20_0), .val (.ref b3), .unset, .unset, .unset, .unset, .unset] [(.int of), (.int (7 : Int32)), (.int (7 : Int32)), (.ref b3)])) _
    refine XS.lloadN X24.here hx rfl (hb hby at_130) rfl ?_
    show Steps p.tables e below (T24.setTop (mkF m 131 #[.val (.long q1), .second, .val (.long q2), .second, .val (.int p3), .val (.int p4), .val (.int p5), .val (.int of), .val (.int ln), .val (.int i20_0), .val (.ref b3), .unset, .unset, .unset, .unset, .unset] [(.long q1), (.int of), (.int (7 : Int32)), (.int (7 : Int32)), (.ref b3)])) _
    refine XS.lloadN X24.here hx rfl (hb hby at_131) rfl ?_
    show Steps p.tables e below (T24.setTop (mkF m 132 #[.val (.long q1), .second, .val (.long q2), .second, .val (.int p3), .val (.int p4), .val (.int p5), .val (.int of), .val (.int ln), .val (.int i20_0), .val (.ref b3), .unset, .unset, .unset, .unset, .unset] [(.long q2), (.long q1), (.int of), (.int (7 : Int32)), (.int (7 : Int32)), (.ref b3)])) _
    refine st26 _ ?_
    show Steps p.tables e below (T26.setTop (mkF m 135 #[.val (.long q1), .second, .val (.long q2), .second, .val (.int p3), .val (.int p4), .val (.int p5), .val (.int of), .val (.int ln), .val (.int i20_0), .val (.ref b3), .unset, .unset, .unset, .unset, .unset] [(.int r26), (.int (7 : Int32)), (.ref b3)])) _
    refine st27 _ ?_
    show Steps p.tables e below (T27.setTop (mkF m 136 #[.val (.long q1), .second, .val (.long q2), .second, .val (.int p3), .val (.int p4), .val (.int p5), .val (.int of), .val (.int ln), .val (.int i20_0), .val (.ref b3), .unset, .unset, .unset, .unset, .unset] [])) _
    refine XS.aload X27.here hx rfl (hb hby at_136) rfl rfl ?_
    show Steps p.tables e below (T27.setTop (mkF m 138 #[.val (.long q1), .second, .val (.long q2), .second, .val (.int p3), .val (.int p4), .val (.int p5), .val (.int of), .val (.int ln), .val (.int i20_0), .val (.ref b3), .unset, .unset, .unset, .unset, .unset] [(.ref b3)])) _
    refine XS.bipush X27.here hx rfl (hb hby at_138) ?_
    show Steps p.tables e below (T27.setTop (mkF m 140 #[.val (.long q1), .second, .val (.long q2), .second, .val (.int p3), .val (.int p4), .val (.int p5), .val (.int of), .val (.int ln), .val (.int i20_0), .val (.ref b3), .unset, .unset, .unset, .unset, .unset] [(.int (8 : Int32)), (.ref b3)])) _
    refine XS.bipush X27.here hx rfl (hb hby at_140) ?_
    show Steps p.tables e below (T27.setTop (mkF m 142 #[.val (.long q1), .second, .val (.long q2), .second, .val (.int p3), .val (.int p4), .val (.int p5), .val (.int of), .val (.int ln), .val (.int i20_0), .val (.ref b3), .unset, .unset, .unset, .unset, .unset] [(.int (8 : Int32)), (.int (8 : Int32)), (.ref b3)])) _
    refine XS.iload X27.here hx rfl (hb hby at_142) rfl ?_
    show Steps p.tables e below (T27.setTop (mkF m 144 #[.val (.long q1), .second, .val (.long q2), .second, .val (.int p3), .val (.int p4), .val (.int p5), .val (.int of), .val (.int ln), .val (.int i20_0), .val (.ref b3), .unset, .unset, .unset, .unset, .unset] [(.int of), (.int (8 : Int32)), (.int (8 : Int32)), (.ref b3)])) _
    refine XS.lloadN X27.here hx rfl (hb hby at_144) rfl ?_
    show Steps p.tables e below (T27.setTop (mkF m 145 #[.val (.long q1), .second, .val (.long q2), .second, .val (.int p3), .val (.int p4), .val (.int p5), .val (.int of), .val (.int ln), .val (.int i20_0), .val (.ref b3), .unset, .unset, .unset, .unset, .unset] [(.long q1), (.int of), (.int (8 : Int32)), (.int (8 : Int32)), (.ref b3)])) _
    refine XS.lloadN X27.here hx rfl (hb hby at_145) rfl ?_
    show Steps p.tables e below (T27.setTop (mkF m 146 #[.val (.long q1), .second, .val (.long q2), .second, .val (.int p3), .val (.int p4), .val (.int p5), .val (.int of), .val (.int ln), .val (.int i20_0), .val (.ref b3), .unset, .unset, .unset, .unset, .unset] [(.long q2), (.long q1), (.int of), (.int (8 : Int32)), (.int (8 : Int32)), (.ref b3)])) _
    refine st29 _ ?_
    show Steps p.tables e below (T29.setTop (mkF m 149 #[.val (.long q1), .second, .val (.long q2), .second, .val (.int p3), .val (.int p4), .val (.int p5), .val (.int of), .val (.int ln), .val (.int i20_0), .val (.ref b3), .unset, .unset, .unset, .unset, .unset] [(.int r29), (.int (8 : Int32)), (.ref b3)])) _
    refine st30 _ ?_
    show Steps p.tables e below (T30.setTop (mkF m 150 #[.val (.long q1), .second, .val (.long q2), .second, .val (.int p3), .val (.int p4), .val (.int p5), .val (.int of), .val (.int ln), .val (.int i20_0), .val (.ref b3), .unset, .unset, .unset, .unset, .unset] [])) _
    refine XS.aload X30.here hx rfl (hb hby at_150) rfl rfl ?_
    show Steps p.tables e below (T30.setTop (mkF m 152 #[.val (.long q1), .second, .val (.long q2), .second, .val (.int p3), .val (.int p4), .val (.int p5), .val (.int of), .val (.int ln), .val (.int i20_0), .val (.ref b3), .unset, .unset, .unset, .unset, .unset] [(.ref b3)])) _
    refine XS.bipush X30.here hx rfl (hb hby at_152) ?_
    show Steps p.tables e below (T30.setTop (mkF m 154 #[.val (.long q1), .second, .val (.long q2), .second, .val (.int p3), .val (.int p4), .val (.int p5), .val (.int of), .val (.int ln), .val (.int i20_0), .val (.ref b3), .unset, .unset, .unset, .unset, .unset] [(.int (9 : Int32)), (.ref b3)])) _
    refine XS.bipush X30.here hx rfl (hb hby at_154) ?_
    show Steps p.tables e below (T30.setTop (mkF m 156 #[.val (.long q1), .second, .val (.long q2), .second, .val (.int p3), .val (.int p4), .val (.int p5), .val (.int of), .val (.int ln), .val (.int i20_0), .val (.ref b3), .unset, .unset, .unset, .unset, .unset] [(.int (9 : Int32)), (.int (9 : Int32)), (.ref b3)])) _
    refine XS.iload X30.here hx rfl (hb hby at_156) rfl ?_
    show Steps p.tables e below (T30.setTop (mkF m 158 #[.val (.long q1), .second, .val (.long q2), .second, .val (.int p3), .val (.int p4), .val (.int p5), .val (.int of), .val (.int ln), .val (.int i20_0), .val (.ref b3), .unset, .unset, .unset, .unset, .unset] [(.int of), (.int (9 : Int32)), (.int (9 : Int32)), (.ref b3)])) _
    refine XS.lloadN X30.here hx rfl (hb hby at_158) rfl ?_
    show Steps p.tables e below (T30.setTop (mkF m 159 #[.val (.long q1), .second, .val (.long q2), .second, .val (.int p3), .val (.int p4), .val (.int p5), .val (.int of), .val (.int ln), .val (.int i20_0), .val (.ref b3), .unset, .unset, .unset, .unset, .unset] [(.long q1), (.int of), (.int (9 : Int32)), (.int (9 : Int32)), (.ref b3)])) _
    refine XS.lloadN X30.here hx rfl (hb hby at_159) rfl ?_
    show Steps p.tables e below (T30.setTop (mkF m 160 #[.val (.long q1), .second, .val (.long q2), .second, .val (.int p3), .val (.int p4), .val (.int p5), .val (.int of), .val (.int ln), .val (.int i20_0), .val (.ref b3), .unset, .unset, .unset, .unset, .unset] [(.long q2), (.long q1), (.int of), (.int (9 : Int32)), (.int (9 : Int32)), (.ref b3)])) _
    refine st32 _ ?_
    show Steps p.tables e below (T32.setTop (mkF m 163 #[.val (.long q1), .second, .val (.long q2), .second, .val (.int p3), .val (.int p4), .val (.int p5), .val (.int of), .val (.int ln), .val (.int i20_0), .val (.ref b3), .unset, .unset, .unset, .unset, .unset] [(.int r32), (.int (9 : Int32)), (.ref b3)])) _
    refine st33 _ ?_
    show Steps p.tables e below (T33.setTop (mkF m 164 #[.val (.long q1), .second, .val (.long q2), .second, .val (.int p3), .val (.int p4), .val (.int p5), .val (.int of), .val (.int ln), .val (.int i20_0), .val (.ref b3), .unset, .unset, .unset, .unset, .unset] [])) _
    refine XS.aload X33.here hx rfl (hb hby at_164) rfl rfl ?_
    show Steps p.tables e below (T33.setTop (mkF m 166 #[.val (.long q1), .second, .val (.long q2), .second, .val (.int p3), .val (.int p4), .val (.int p5), .val (.int of), .val (.int ln), .val (.int i20_0), .val (.ref b3), .unset, .unset, .unset, .unset, .unset] [(.ref b3)])) _
    refine XS.bipush X33.here hx rfl (hb hby at_166) ?_
    show Steps p.tables e below (T33.setTop (mkF m 168 #[.val (.long q1), .second, .val (.long q2), .second, .val (.int p3), .val (.int p4), .val (.int p5), .val (.int of), .val (.int ln), .val (.int i20_0), .val (.ref b3), .unset, .unset, .unset, .unset, .unset] [(.int (10 : Int32)), (.ref b3)])) _
    refine XS.bipush X33.here hx rfl (hb hby at_168) ?_
    show Steps p.tables e below (T33.setTop (mkF m 170 #[.val (.long q1), .second, .val (.long q2), .second, .val (.int p3), .val (.int p4), .val (.int p5), .val (.int of), .val (.int ln), .val (.int i20_0), .val (.ref b3), .unset, .unset, .unset, .unset, .unset] [(.int (10 : Int32)), (.int (10 : Int32)), (.ref b3)])) _
    refine XS.iload X33.here hx rfl (hb hby at_170) rfl ?_
    show Steps p.tables e below (T33.setTop (mkF m 172 #[.val (.long q1), .second, .val (.long q2), .second, .val (.int p3), .val (.int p4), .val (.int p5), .val (.int of), .val (.int ln), .val (.int i20_0), .val (.ref b3), .unset, .unset, .unset, .unset, .unset] [(.int of), (.int (10 : Int32)), (.int (10 : Int32)), (.ref b3)])) _
    refine XS.lloadN X33.here hx rfl (hb hby at_172) rfl ?_
    show Steps p.tables e below (T33.setTop (mkF m 173 #[.val (.long q1), .second, .val (.long q2), .second, .val (.int p3), .val (.int p4), .val (.int p5), .val (.int of), .val (.int ln), .val (.int i20_0), .val (.ref b3), .unset, .unset, .unset, .unset, .unset] [(.long q1), (.int of), (.int (10 : Int32)), (.int (10 : Int32)), (.ref b3)])) _
    refine XS.lloadN X33.here hx rfl (hb hby at_173) rfl ?_
    show Steps p.tables e below (T33.setTop (mkF m 174 #[.val (.long q1), .second, .val (.long q2), .second, .val (.int p3), .val (.int p4), .val (.int p5), .val (.int of), .val (.int ln), .val (.int i20_0), .val (.ref b3), .unset, .unset, .unset, .unset, .unset] [(.long q2), (.long q1), (.int of), (.int (10 : Int32)), (.int (10 : Int32)), (.ref b3)])) _
    refine st35 _ ?_
    show Steps p.tables e below (T35.setTop (mkF m 177 #[.val (.long q1), .second, .val (.long q2), .second, .val (.int p3), .val (.int p4), .val (.int p5), .val (.int of), .val (.int ln), .val (.int i20_0), .val (.ref b3), .unset, .unset, .unset, .unset, .unset] [(.int r35), (.int (10 : Int32)), (.ref b3)])) _
    refine st36 _ ?_
    show Steps p.tables e below (T36.setTop (mkF m 178 #[.val (.long q1), .second, .val (.long q2), .second, .val (.int p3), .val (.int p4), .val (.int p5), .val (.int of), .val (.int ln), .val (.int i20_0), .val (.ref b3), .unset, .unset, .unset, .unset, .unset] [])) _
    refine XS.aload X36.here hx rfl (hb hby at_178) rfl rfl ?_
    show Steps p.tables e below (T36.setTop (mkF m 180 #[.val (.long q1), .second, .val (.long q2), .second, .val (.int p3), .val (.int p4), .val (.int p5), .val (.int of), .val (.int ln), .val (.int i20_0), .val (.ref b3), .unset, .unset, .unset, .unset, .unset] [(.ref b3)])) _
    refine XS.bipush X36.here hx rfl (hb hby at_180) ?_
    show Steps p.tables e below (T36.setTop (mkF m 182 #[.val (.long q1), .second, .val (.long q2), .second, .val (.int p3), .val (.int p4), .val (.int p5), .val (.int of), .val (.int ln), .val (.int i20_0), .val (.ref b3), .unset, .unset, .unset, .unset, .unset] [(.int (11 : Int32)), (.ref b3)])) _
    refine XS.bipush X36.here hx rfl (hb hby at_182) ?_
    show Steps p.tables e below (T36.setTop (mkF m 184 #[.val (.long q1), .second, .val (.long q2), .second, .val (.int p3), .val (.int p4), .val (.int p5), .val (.int of), .val (.int ln), .val (.int i20_0), .val (.ref b3), .unset, .unset, .unset, .unset, .unset] [(.int (11 : Int32)), (.int (11 : Int32)), (.ref b3)])) _
    refine XS.iload X36.here hx rfl (hb hby at_184) rfl ?_
    show Steps p.tables e below (T36.setTop (mkF m 186 #[.val (.long q1), .second, .val (.long q2), .second, .val (.int p3), .val (.int p4), .val (.int p5), .val (.int of), .val (.int ln), .val (.int i20_0), .val (.ref b3), .unset, .unset, .unset, .unset, .unset] [(.int of), (.int (11 : Int32)), (.int (11 : Int32)), (.ref b3)])) _
    refine XS.lloadN X36.here hx rfl (hb hby at_186) rfl ?_
    show Steps p.tables e below (T36.setTop (mkF m 187 #[.val (.long q1), .second, .val (.long q2), .second, .val (.int p3), .val (.int p4), .val (.int p5), .val (.int of), .val (.int ln), .val (.int i20_0), .val (.ref b3), .unset, .unset, .unset, .unset, .unset] [(.long q1), (.int of), (.int (11 : Int32)), (.int (11 : Int32)), (.ref b3)])) _
    refine XS.lloadN X36.here hx rfl (hb hby at_187) rfl ?_
    show Steps p.tables e below (T36.setTop (mkF m 188 #[.val (.long q1), .second, .val (.long q2), .second, .val (.int p3), .val (.int p4), .val (.int p5), .val (.int of), .val (.int ln), .val (.int i20_0), .val (.ref b3), .unset, .unset, .unset, .unset, .unset] [(.long q2), (.long q1), (.int of), (.int (11 : Int32)), (.int (11 : Int32)), (.ref b3)])) _
    refine st38 _ ?_
    show Steps p.tables e below (T38.setTop (mkF m 191 #[.val (.long q1), .second, .val (.long q2), .second, .val (.int p3), .val (.int p4), .val (.int p5), .val (.int of), .val (.int ln), .val (.int i20_0), .val (.ref b3), .unset, .unset, .unset, .unset, .unset] [(.int r38), (.int (11 : Int32)), (.ref b3)])) _
    refine st39 _ ?_
    show Steps p.tables e below (T39.setTop (mkF m 192 #[.val (.long q1), .second, .val (.long q2), .second, .val (.int p3), .val (.int p4), .val (.int p5), .val (.int of), .val (.int ln), .val (.int i20_0), .val (.ref b3), .unset, .unset, .unset, .unset, .unset] [])) _
    refine XS.iload X39.here hx rfl (hb hby at_192) rfl ?_
    show Steps p.tables e below (T39.setTop (mkF m 194 #[.val (.long q1), .second, .val (.long q2), .second, .val (.int p3), .val (.int p4), .val (.int p5), .val (.int of), .val (.int ln), .val (.int i20_0), .val (.ref b3), .unset, .unset, .unset, .unset, .unset] [(.int i20_0)])) _
    exact k
  by_cases hc194_41 : i20_0 = (0 : Int32)
  · refine GoalS.lift (B := (T39.setTop (mkF m 253 #[.val (.long q1), .second, .val (.long q2), .second, .val (.int p3), .val (.int p4), .val (.int p5), .val (.int of), .val (.int ln), .val (.int i20_0), .val (.ref b3), .unset, .unset, .val (.int of), .unset, .unset] [(.int ln)]))) (fun t k => ?_) ?_
    · show Steps p.tables e below (T39.setTop (mkF m 194 #[.val (.long q1), .second, .val (.long q2), .second, .val (.int p3), .val (.int p4), .val (.int p5), .val (.int of), .val (.int ln), .val (.int i20_0), .val (.ref b3), .unset, .unset, .unset, .unset, .unset] [(.int i20_0)])) _
      refine XS.ifYes X39.here hx rfl (pc0 := 194) (pc' := 247) rfl (hb hby at_194) rfl ((if0 _ _).trans (teq hc194_41).1) (by decide) (by decide) ?_
      show Steps p.tables e below (T39.setTop (mkF m 247 #[.val (.long q1), .second, .val (.long q2), .second, .val (.int p3), .val (.int p4), .val (.int p5), .val (.int of), .val (.int ln), .val (.int i20_0), .val (.ref b3), .unset, .unset, .unset, .unset, .unset] [])) _
      refine XS.iload X39.here hx rfl (hb hby at_247) rfl ?_
      show Steps p.tables e below (T39.setTop (mkF m 249 #[.val (.long q1), .second, .val (.long q2), .second, .val (.int p3), .val (.int p4), .val (.int p5), .val (.int of), .val (.int ln), .val (.int i20_0), .val (.ref b3), .unset, .unset, .unset, .unset, .unset] [(.int of)])) _
      refine XS.istore X39.here hx rfl (hb hby at_249) rfl (l' := #[.val (.long q1), .second, .val (.long q2), .second, .val (.int p3), .val (.int p4), .val (.int p5), .val (.int of), .val (.int ln), .val (.int i20_0), .val (.ref b3), .unset, .unset, .val (.int of), .unset, .unset]) rfl ?_
      show Steps p.tables e below (T39.setTop (mkF m 251 #[.val (.long q1), .second, .val (.long q2), .second, .val (.int p3), .val (.int p4), .val (.int p5), .val (.int of), .val (.int ln), .val (.int i20_0), .val (.ref b3), .unset, .unset, .val (.int of), .unset, .unset] [])) _
      refine XS.iload X39.here hx rfl (hb hby at_251) rfl ?_
      show Steps p.tables e below (T39.setTop (mkF m 253 #[.val (.long q1), .second, .val (.long q2), .second, .val (.int p3), .val (.int p4), .val (.int p5), .val (.int of), .val (.int ln), .val (.int i20_0), .val (.ref b3), .unset, .unset, .val (.int of), .unset, .unset] [(.int ln)])) _
      exact k
    by_cases hc253_42 : ln = (0 : Int32)
    · obtain ⟨_, _, ⟨T43, L43, k43, n43⟩, -, X43, ⟨Lc43, hQ43, l43, y43, z43⟩, st43⟩ := Jvm.LawKit.callS X39 hx (y := (⟨"com/example/flowglyph/flowglyph/core/BigEndian", "unsigned", "([BII)J"⟩ : MethodName)) hown (mvT hZ (hw _ (List.mem_of_getElem? (i := 6) rfl))) (mvT hZ (hw _ (List.mem_of_getElem? (i := 7) rfl))) (mvT hZ (hw _ (List.mem_of_getElem? (i := 8) rfl))) (mvT hZ (hw _ (List.mem_of_getElem? (i := 9) rfl))) (by decide) (backOf (W := 0) (rm2 l Z a0 hw [] b3 of ln k3 fn39 o ll h39 n0 z40 V39 hof hln (by omega)) hZ (hw _ (List.mem_of_getElem? (i := 9) rfl)) (hw _ (List.mem_of_getElem? (i := 8) rfl)) (by decide) (by decide)) (g := (mkF m 280 #[.val (.long q1), .second, .val (.long q2), .second, .val (.int p3), .val (.int p4), .val (.int p5), .val (.int of), .val (.int ln), .val (.int i20_0), .val (.ref b3), .val (.long (0 : Int64)), .second, .val (.int of), .unset, .unset] [(.int ln), (.int of), (.ref b3)])) rfl (by rw [hml]; rfl) (argsL := [(.ref b3), (.int of), (.int ln)]) (rest := []) (lenOf pd_1 rfl) rfl (by show 2 * 0 + _ ≤ _; exact Nat.le_of_eq rfl) (hb hby at_280) (fun _ _ => ⟨rfl, e39, (by decide : 1 + 0 ≤ _), (by decide : 12 + 0 ≤ _)⟩)
      dsimp only [Pt.U, Pt.locs, Pt.cells, Pt.slots] at X43 l43 y43 z43 st43 hQ43
      subst y43 z43
      obtain ⟨r43, rfl, hr43, N43q, eq43⟩ := hQ43
      have N43 : Fr n0 L43 := by rw [l43]; exact Fr.app N39 N43q
      obtain ⟨fs, hr, hrun, hended, hW, hsame⟩ := X43.leave (v := some (.int (1 : Int32))) (fun h => by rw [Bd.returns] at h; cases h)
      refine ⟨_, _, ?_, hrun, hended, _, _, rfl, ?_, ⟨_, rfl⟩, hW, hsame.mono (by decide) (by decide)⟩
      · show Steps p.tables e below (T39.setTop (mkF m 253 #[.val (.long q1), .second, .val (.long q2), .second, .val (.int p3), .val (.int p4), .val (.int p5), .val (.int of), .val (.int ln), .val (.int i20_0), .val (.ref b3), .unset, .unset, .val (.int of), .unset, .unset] [(.int ln)])) _
        refine XS.ifNo X39.here hx rfl (hb hby at_253) rfl ((if0 _ _).trans (teq hc253_42).2) ?_
        show Steps p.tables e below (T39.setTop (mkF m 256 #[.val (.long q1), .second, .val (.long q2), .second, .val (.int p3), .val (.int p4), .val (.int p5), .val (.int of), .val (.int ln), .val (.int i20_0), .val (.ref b3), .unset, .unset, .val (.int of), .unset, .unset] [])) _
        refine XS.lconst X39.here hx rfl (hb hby at_256) ?_
        show Steps p.tables e below (T39.setTop (mkF m 257 #[.val (.long q1), .second, .val (.long q2), .second, .val (.int p3), .val (.int p4), .val (.int p5), .val (.int of), .val (.int ln), .val (.int i20_0), .val (.ref b3), .unset, .unset, .val (.int of), .unset, .unset] [(.long (0 : Int64))])) _
        refine XS.lstore X39.here hx rfl (hb hby at_257) rfl (l' := #[.val (.long q1), .second, .val (.long q2), .second, .val (.int p3), .val (.int p4), .val (.int p5), .val (.int of), .val (.int ln), .val (.int i20_0), .val (.ref b3), .val (.long (0 : Int64)), .second, .val (.int of), .unset, .unset]) rfl ?_
        show Steps p.tables e below (T39.setTop (mkF m 259 #[.val (.long q1), .second, .val (.long q2), .second, .val (.int p3), .val (.int p4), .val (.int p5), .val (.int of), .val (.int ln), .val (.int i20_0), .val (.ref b3), .val (.long (0 : Int64)), .second, .val (.int of), .unset, .unset] [])) _
        refine XS.goto X39.here hx rfl (pc0 := 259) (pc' := 274) rfl (hb hby at_259) (by decide) (by decide) ?_
        show Steps p.tables e below (T39.setTop (mkF m 274 #[.val (.long q1), .second, .val (.long q2), .second, .val (.int p3), .val (.int p4), .val (.int p5), .val (.int of), .val (.int ln), .val (.int i20_0), .val (.ref b3), .val (.long (0 : Int64)), .second, .val (.int of), .unset, .unset] [])) _
        refine XS.aload X39.here hx rfl (hb hby at_274) rfl rfl ?_
        show Steps p.tables e below (T39.setTop (mkF m 276 #[.val (.long q1), .second, .val (.long q2), .second, .val (.int p3), .val (.int p4), .val (.int p5), .val (.int of), .val (.int ln), .val (.int i20_0), .val (.ref b3), .val (.long (0 : Int64)), .second, .val (.int of), .unset, .unset] [(.ref b3)])) _
        refine XS.iload X39.here hx rfl (hb hby at_276) rfl ?_
        show Steps p.tables e below (T39.setTop (mkF m 278 #[.val (.long q1), .second, .val (.long q2), .second, .val (.int p3), .val (.int p4), .val (.int p5), .val (.int of), .val (.int ln), .val (.int i20_0), .val (.ref b3), .val (.long (0 : Int64)), .second, .val (.int of), .unset, .unset] [(.int of), (.ref b3)])) _
        refine XS.iload X39.here hx rfl (hb hby at_278) rfl ?_
        show Steps p.tables e below (T39.setTop (mkF m 280 #[.val (.long q1), .second, .val (.long q2), .second, .val (.int p3), .val (.int p4), .val (.int p5), .val (.int of), .val (.int ln), .val (.int i20_0), .val (.ref b3), .val (.long (0 : Int64)), .second, .val (.int of), .unset, .unset] [(.int ln), (.int of), (.ref b3)])) _
        refine st43 _ ?_
        show Steps p.tables e below (T43.setTop (mkF m 283 #[.val (.long q1), .second, .val (.long q2), .second, .val (.int p3), .val (.int p4), .val (.int p5), .val (.int of), .val (.int ln), .val (.int i20_0), .val (.ref b3), .val (.long (0 : Int64)), .second, .val (.int of), .unset, .unset] [(.long r43)])) _
        refine XS.lstore X43.here hx rfl (hb hby at_283) rfl (l' := #[.val (.long q1), .second, .val (.long q2), .second, .val (.int p3), .val (.int p4), .val (.int p5), .val (.int of), .val (.int ln), .val (.int i20_0), .val (.ref b3), .val (.long (0 : Int64)), .second, .val (.int of), .val (.long r43), .second]) rfl ?_
        show Steps p.tables e below (T43.setTop (mkF m 285 #[.val (.long q1), .second, .val (.long q2), .second, .val (.int p3), .val (.int p4), .val (.int p5), .val (.int of), .val (.int ln), .val (.int i20_0), .val (.ref b3), .val (.long (0 : Int64)), .second, .val (.int of), .val (.long r43), .second] [])) _
        refine XS.lload X43.here hx rfl (hb hby at_285) rfl ?_
        show Steps p.tables e below (T43.setTop (mkF m 287 #[.val (.long q1), .second, .val (.long q2), .second, .val (.int p3), .val (.int p4), .val (.int p5), .val (.int of), .val (.int ln), .val (.int i20_0), .val (.ref b3), .val (.long (0 : Int64)), .second, .val (.int of), .val (.long r43), .second] [(.long r43)])) _
        refine XS.lload X43.here hx rfl (hb hby at_287) rfl ?_
        show Steps p.tables e below (T43.setTop (mkF m 289 #[.val (.long q1), .second, .val (.long q2), .second, .val (.int p3), .val (.int p4), .val (.int p5), .val (.int of), .val (.int ln), .val (.int i20_0), .val (.ref b3), .val (.long (0 : Int64)), .second, .val (.int of), .val (.long r43), .second] [(.long (0 : Int64)), (.long r43)])) _
        refine XS.lcmp X43.here hx rfl (hb hby at_289) rfl ?_
        show Steps p.tables e below (T43.setTop (mkF m 290 #[.val (.long q1), .second, .val (.long q2), .second, .val (.int p3), .val (.int p4), .val (.int p5), .val (.int of), .val (.int ln), .val (.int i20_0), .val (.ref b3), .val (.long (0 : Int64)), .second, .val (.int of), .val (.long r43), .second] [(.int (lcmpW r43 (0 : Int64)))])) _
        refine XS.ifNo X43.here hx rfl (hb hby at_290) rfl ((if0 _ _).trans (teq ((lw_eq r43 (0 : Int64)).mpr (by rw [hr43]; exact own_h0 ho hl hof hln hF hc253_42 : r43 = (0 : Int64)))).2) ?_
        show Steps p.tables e below (T43.setTop (mkF m 293 #[.val (.long q1), .second, .val (.long q2), .second, .val (.int p3), .val (.int p4), .val (.int p5), .val (.int of), .val (.int ln), .val (.int i20_0), .val (.ref b3), .val (.long (0 : Int64)), .second, .val (.int of), .val (.long r43), .second] [])) _
        refine XS.iconst X43.here hx rfl (hb hby at_293) ?_
        show Steps p.tables e below (T43.setTop (mkF m 294 #[.val (.long q1), .second, .val (.long q2), .second, .val (.int p3), .val (.int p4), .val (.int p5), .val (.int of), .val (.int ln), .val (.int i20_0), .val (.ref b3), .val (.long (0 : Int64)), .second, .val (.int of), .val (.long r43), .second] [(.int (1 : Int32))])) _
        refine XS.goto X43.here hx rfl (pc0 := 294) (pc' := 298) rfl (hb hby at_294) (by decide) (by decide) ?_
        show Steps p.tables e below (T43.setTop (mkF m 298 #[.val (.long q1), .second, .val (.long q2), .second, .val (.int p3), .val (.int p4), .val (.int p5), .val (.int of), .val (.int ln), .val (.int i20_0), .val (.ref b3), .val (.long (0 : Int64)), .second, .val (.int of), .val (.long r43), .second] [(.int (1 : Int32))])) _
        exact retN X43 hx (t := .boolean) Bd.returns (by simp) (hb hby at_298) hr
      · exact ⟨rfl, N43⟩
    · obtain ⟨_, _, ⟨T44, L44, k44, n44⟩, -, X44, ⟨Lc44, hQ44, l44, y44, z44⟩, st44⟩ := Jvm.LawKit.callS X39 hx (y := (⟨"com/example/flowglyph/flowglyph/core/BigEndian", "unsigned", "([BII)J"⟩ : MethodName)) hown (mvT hZ (hw _ (List.mem_of_getElem? (i := 6) rfl))) (mvT hZ (hw _ (List.mem_of_getElem? (i := 7) rfl))) (mvT hZ (hw _ (List.mem_of_getElem? (i := 8) rfl))) (mvT hZ (hw _ (List.mem_of_getElem? (i := 9) rfl))) (by decide) (backOf (W := 0) (rm2 l Z a0 hw [] b3 of ln k3 fn39 o ll h39 n0 z40 V39 hof hln (by omega)) hZ (hw _ (List.mem_of_getElem? (i := 9) rfl)) (hw _ (List.mem_of_getElem? (i := 8) rfl)) (by decide) (by decide)) (g := (mkF m 280 #[.val (.long q1), .second, .val (.long q2), .second, .val (.int p3), .val (.int p4), .val (.int p5), .val (.int of), .val (.int ln), .val (.int i20_0), .val (.ref b3), .val (.long (((q1).toUInt64 >>> (((64 : Int32) - ((8 : Int32) * ln)) &&& 0x3f).toInt64.toUInt64).toInt64)), .second, .val (.int of), .unset, .unset] [(.int ln), (.int of), (.ref b3)])) rfl (by rw [hml]; rfl) (argsL := [(.ref b3), (.int of), (.int ln)]) (rest := []) (lenOf pd_1 rfl) rfl (by show 2 * 0 + _ ≤ _; exact Nat.le_of_eq rfl) (hb hby at_280) (fun _ _ => ⟨rfl, e39, (by decide : 1 + 0 ≤ _), (by decide : 12 + 0 ≤ _)⟩)
      dsimp only [Pt.U, Pt.locs, Pt.cells, Pt.slots] at X44 l44 y44 z44 st44 hQ44
      subst y44 z44
      obtain ⟨r44, rfl, hr44, N44q, eq44⟩ := hQ44
      have N44 : Fr n0 L44 := by rw [l44]; exact Fr.app N39 N44q
      obtain ⟨fs, hr, hrun, hended, hW, hsame⟩ := X44.leave (v := some (.int (1 : Int32))) (fun h => by rw [Bd.returns] at h; cases h)
      refine ⟨_, _, ?_, hrun, hended, _, _, rfl, ?_, ⟨_, rfl⟩, hW, hsame.mono (by decide) (by decide)⟩
      · show Steps p.tables e below (T39.setTop (mkF m 253 #[.val (.long q1), .second, .val (.long q2), .second, .val (.int p3), .val (.int p4), .val (.int p5), .val (.int of), .val (.int ln), .val (.int i20_0), .val (.ref b3), .unset, .unset, .val (.int of), .unset, .unset] [(.int ln)])) _
        refine XS.ifYes X39.here hx rfl (pc0 := 253) (pc' := 262) rfl (hb hby at_253) rfl ((if0 _ _).trans (feq hc253_42).2) (by decide) (by decide) ?_
        show Steps p.tables e below (T39.setTop (mkF m 262 #[.val (.long q1), .second, .val (.long q2), .second, .val (.int p3), .val (.int p4), .val (.int p5), .val (.int of), .val (.int ln), .val (.int i20_0), .val (.ref b3), .unset, .unset, .val (.int of), .unset, .unset] [])) _
        refine XS.lloadN X39.here hx rfl (hb hby at_262) rfl ?_
        show Steps p.tables e below (T39.setTop (mkF m 263 #[.val (.long q1), .second, .val (.long q2), .second, .val (.int p3), .val (.int p4), .val (.int p5), .val (.int of), .val (.int ln), .val (.int i20_0), .val (.ref b3), .unset, .unset, .val (.int of), .unset, .unset] [(.long q1)])) _
        refine XS.bipush X39.here hx rfl (hb hby at_263) ?_
        show Steps p.tables e below (T39.setTop (mkF m 265 #[.val (.long q1), .second, .val (.long q2), .second, .val (.int p3), .val (.int p4), .val (.int p5), .val (.int of), .val (.int ln), .val (.int i20_0), .val (.ref b3), .unset, .unset, .val (.int of), .unset, .unset] [(.int (64 : Int32)), (.long q1)])) _
        refine XS.bipush X39.here hx rfl (hb hby at_265) ?_
        show Steps p.tables e below (T39.setTop (mkF m 267 #[.val (.long q1), .second, .val (.long q2), .second, .val (.int p3), .val (.int p4), .val (.int p5), .val (.int of), .val (.int ln), .val (.int i20_0), .val (.ref b3), .unset, .unset, .val (.int of), .unset, .unset] [(.int (8 : Int32)), (.int (64 : Int32)), (.long q1)])) _
        refine XS.iload X39.here hx rfl (hb hby at_267) rfl ?_
        show Steps p.tables e below (T39.setTop (mkF m 269 #[.val (.long q1), .second, .val (.long q2), .second, .val (.int p3), .val (.int p4), .val (.int p5), .val (.int of), .val (.int ln), .val (.int i20_0), .val (.ref b3), .unset, .unset, .val (.int of), .unset, .unset] [(.int ln), (.int (8 : Int32)), (.int (64 : Int32)), (.long q1)])) _
        refine XS.imul X39.here hx rfl (hb hby at_269) rfl ?_
        show Steps p.tables e below (T39.setTop (mkF m 270 #[.val (.long q1), .second, .val (.long q2), .second, .val (.int p3), .val (.int p4), .val (.int p5), .val (.int of), .val (.int ln), .val (.int i20_0), .val (.ref b3), .unset, .unset, .val (.int of), .unset, .unset] [(.int ((8 : Int32) * ln)), (.int (64 : Int32)), (.long q1)])) _
        refine XS.isub X39.here hx rfl (hb hby at_270) rfl ?_
        show Steps p.tables e below (T39.setTop (mkF m 271 #[.val (.long q1), .second, .val (.long q2), .second, .val (.int p3), .val (.int p4), .val (.int p5), .val (.int of), .val (.int ln), .val (.int i20_0), .val (.ref b3), .unset, .unset, .val (.int of), .unset, .unset] [(.int ((64 : Int32) - ((8 : Int32) * ln))), (.long q1)])) _
        refine XS.lushr X39.here hx rfl (hb hby at_271) rfl ?_
        show Steps p.tables e below (T39.setTop (mkF m 272 #[.val (.long q1), .second, .val (.long q2), .second, .val (.int p3), .val (.int p4), .val (.int p5), .val (.int of), .val (.int ln), .val (.int i20_0), .val (.ref b3), .unset, .unset, .val (.int of), .unset, .unset] [(.long (((q1).toUInt64 >>> (((64 : Int32) - ((8 : Int32) * ln)) &&& 0x3f).toInt64.toUInt64).toInt64))])) _
        refine XS.lstore X39.here hx rfl (hb hby at_272) rfl (l' := #[.val (.long q1), .second, .val (.long q2), .second, .val (.int p3), .val (.int p4), .val (.int p5), .val (.int of), .val (.int ln), .val (.int i20_0), .val (.ref b3), .val (.long (((q1).toUInt64 >>> (((64 : Int32) - ((8 : Int32) * ln)) &&& 0x3f).toInt64.toUInt64).toInt64)), .second, .val (.int of), .unset, .unset]) rfl ?_
        show Steps p.tables e below (T39.setTop (mkF m 274 #[.val (.long q1), .second, .val (.long q2), .second, .val (.int p3), .val (.int p4), .val (.int p5), .val (.int of), .val (.int ln), .val (.int i20_0), .val (.ref b3), .val (.long (((q1).toUInt64 >>> (((64 : Int32) - ((8 : Int32) * ln)) &&& 0x3f).toInt64.toUInt64).toInt64)), .second, .val (.int of), .unset, .unset] [])) _
        refine XS.aload X39.here hx rfl (hb hby at_274) rfl rfl ?_
        show Steps p.tables e below (T39.setTop (mkF m 276 #[.val (.long q1), .second, .val (.long q2), .second, .val (.int p3), .val (.int p4), .val (.int p5), .val (.int of), .val (.int ln), .val (.int i20_0), .val (.ref b3), .val (.long (((q1).toUInt64 >>> (((64 : Int32) - ((8 : Int32) * ln)) &&& 0x3f).toInt64.toUInt64).toInt64)), .second, .val (.int of), .unset, .unset] [(.ref b3)])) _
        refine XS.iload X39.here hx rfl (hb hby at_276) rfl ?_
        show Steps p.tables e below (T39.setTop (mkF m 278 #[.val (.long q1), .second, .val (.long q2), .second, .val (.int p3), .val (.int p4), .val (.int p5), .val (.int of), .val (.int ln), .val (.int i20_0), .val (.ref b3), .val (.long (((q1).toUInt64 >>> (((64 : Int32) - ((8 : Int32) * ln)) &&& 0x3f).toInt64.toUInt64).toInt64)), .second, .val (.int of), .unset, .unset] [(.int of), (.ref b3)])) _
        refine XS.iload X39.here hx rfl (hb hby at_278) rfl ?_
        show Steps p.tables e below (T39.setTop (mkF m 280 #[.val (.long q1), .second, .val (.long q2), .second, .val (.int p3), .val (.int p4), .val (.int p5), .val (.int of), .val (.int ln), .val (.int i20_0), .val (.ref b3), .val (.long (((q1).toUInt64 >>> (((64 : Int32) - ((8 : Int32) * ln)) &&& 0x3f).toInt64.toUInt64).toInt64)), .second, .val (.int of), .unset, .unset] [(.int ln), (.int of), (.ref b3)])) _
        refine st44 _ ?_
        show Steps p.tables e below (T44.setTop (mkF m 283 #[.val (.long q1), .second, .val (.long q2), .second, .val (.int p3), .val (.int p4), .val (.int p5), .val (.int of), .val (.int ln), .val (.int i20_0), .val (.ref b3), .val (.long (((q1).toUInt64 >>> (((64 : Int32) - ((8 : Int32) * ln)) &&& 0x3f).toInt64.toUInt64).toInt64)), .second, .val (.int of), .unset, .unset] [(.long r44)])) _
        refine XS.lstore X44.here hx rfl (hb hby at_283) rfl (l' := #[.val (.long q1), .second, .val (.long q2), .second, .val (.int p3), .val (.int p4), .val (.int p5), .val (.int of), .val (.int ln), .val (.int i20_0), .val (.ref b3), .val (.long (((q1).toUInt64 >>> (((64 : Int32) - ((8 : Int32) * ln)) &&& 0x3f).toInt64.toUInt64).toInt64)), .second, .val (.int of), .val (.long r44), .second]) rfl ?_
        show Steps p.tables e below (T44.setTop (mkF m 285 #[.val (.long q1), .second, .val (.long q2), .second, .val (.int p3), .val (.int p4), .val (.int p5), .val (.int of), .val (.int ln), .val (.int i20_0), .val (.ref b3), .val (.long (((q1).toUInt64 >>> (((64 : Int32) - ((8 : Int32) * ln)) &&& 0x3f).toInt64.toUInt64).toInt64)), .second, .val (.int of), .val (.long r44), .second] [])) _
        refine XS.lload X44.here hx rfl (hb hby at_285) rfl ?_
        show Steps p.tables e below (T44.setTop (mkF m 287 #[.val (.long q1), .second, .val (.long q2), .second, .val (.int p3), .val (.int p4), .val (.int p5), .val (.int of), .val (.int ln), .val (.int i20_0), .val (.ref b3), .val (.long (((q1).toUInt64 >>> (((64 : Int32) - ((8 : Int32) * ln)) &&& 0x3f).toInt64.toUInt64).toInt64)), .second, .val (.int of), .val (.long r44), .second] [(.long r44)])) _
        refine XS.lload X44.here hx rfl (hb hby at_287) rfl ?_
        show Steps p.tables e below (T44.setTop (mkF m 289 #[.val (.long q1), .second, .val (.long q2), .second, .val (.int p3), .val (.int p4), .val (.int p5), .val (.int of), .val (.int ln), .val (.int i20_0), .val (.ref b3), .val (.long (((q1).toUInt64 >>> (((64 : Int32) - ((8 : Int32) * ln)) &&& 0x3f).toInt64.toUInt64).toInt64)), .second, .val (.int of), .val (.long r44), .second] [(.long (((q1).toUInt64 >>> (((64 : Int32) - ((8 : Int32) * ln)) &&& 0x3f).toInt64.toUInt64).toInt64)), (.long r44)])) _
        refine XS.lcmp X44.here hx rfl (hb hby at_289) rfl ?_
        show Steps p.tables e below (T44.setTop (mkF m 290 #[.val (.long q1), .second, .val (.long q2), .second, .val (.int p3), .val (.int p4), .val (.int p5), .val (.int of), .val (.int ln), .val (.int i20_0), .val (.ref b3), .val (.long (((q1).toUInt64 >>> (((64 : Int32) - ((8 : Int32) * ln)) &&& 0x3f).toInt64.toUInt64).toInt64)), .second, .val (.int of), .val (.long r44), .second] [(.int (lcmpW r44 (((q1).toUInt64 >>> (((64 : Int32) - ((8 : Int32) * ln)) &&& 0x3f).toInt64.toUInt64).toInt64)))])) _
        refine XS.ifNo X44.here hx rfl (hb hby at_290) rfl ((if0 _ _).trans (teq ((lw_eq r44 (((q1).toUInt64 >>> (((64 : Int32) - ((8 : Int32) * ln)) &&& 0x3f).toInt64.toUInt64).toInt64)).mpr (by rw [hr44]; exact own_hm ho hl hof hln hF hc253_42 : r44 = (((q1).toUInt64 >>> (((64 : Int32) - ((8 : Int32) * ln)) &&& 0x3f).toInt64.toUInt64).toInt64)))).2) ?_
        show Steps p.tables e below (T44.setTop (mkF m 293 #[.val (.long q1), .second, .val (.long q2), .second, .val (.int p3), .val (.int p4), .val (.int p5), .val (.int of), .val (.int ln), .val (.int i20_0), .val (.ref b3), .val (.long (((q1).toUInt64 >>> (((64 : Int32) - ((8 : Int32) * ln)) &&& 0x3f).toInt64.toUInt64).toInt64)), .second, .val (.int of), .val (.long r44), .second] [])) _
        refine XS.iconst X44.here hx rfl (hb hby at_293) ?_
        show Steps p.tables e below (T44.setTop (mkF m 294 #[.val (.long q1), .second, .val (.long q2), .second, .val (.int p3), .val (.int p4), .val (.int p5), .val (.int of), .val (.int ln), .val (.int i20_0), .val (.ref b3), .val (.long (((q1).toUInt64 >>> (((64 : Int32) - ((8 : Int32) * ln)) &&& 0x3f).toInt64.toUInt64).toInt64)), .second, .val (.int of), .val (.long r44), .second] [(.int (1 : Int32))])) _
        refine XS.goto X44.here hx rfl (pc0 := 294) (pc' := 298) rfl (hb hby at_294) (by decide) (by decide) ?_
        show Steps p.tables e below (T44.setTop (mkF m 298 #[.val (.long q1), .second, .val (.long q2), .second, .val (.int p3), .val (.int p4), .val (.int p5), .val (.int of), .val (.int ln), .val (.int i20_0), .val (.ref b3), .val (.long (((q1).toUInt64 >>> (((64 : Int32) - ((8 : Int32) * ln)) &&& 0x3f).toInt64.toUInt64).toInt64)), .second, .val (.int of), .val (.long r44), .second] [(.int (1 : Int32))])) _
        exact retN X44 hx (t := .boolean) Bd.returns (by simp) (hb hby at_298) hr
      · exact ⟨rfl, N44⟩
  · refine GoalS.lift (B := (T39.setTop (mkF m 209 #[.val (.long q1), .second, .val (.long q2), .second, .val (.int p3), .val (.int p4), .val (.int p5), .val (.int of), .val (.int ln), .val (.int i20_0), .val (.ref b3), .unset, .unset, .val (.int ((of + (8 : Int32)) - ln)), .unset, .unset] [(.int ln)]))) (fun t k => ?_) ?_
    · show Steps p.tables e below (T39.setTop (mkF m 194 #[.val (.long q1), .second, .val (.long q2), .second, .val (.int p3), .val (.int p4), .val (.int p5), .val (.int of), .val (.int ln), .val (.int i20_0), .val (.ref b3), .unset, .unset, .unset, .unset, .unset] [(.int i20_0)])) _
      refine XS.ifNo X39.here hx rfl (hb hby at_194) rfl ((if0 _ _).trans (feq hc194_41).1) ?_
      show Steps p.tables e below (T39.setTop (mkF m 197 #[.val (.long q1), .second, .val (.long q2), .second, .val (.int p3), .val (.int p4), .val (.int p5), .val (.int of), .val (.int ln), .val (.int i20_0), .val (.ref b3), .unset, .unset, .unset, .unset, .unset] [])) _
      refine XS.iload X39.here hx rfl (hb hby at_197) rfl ?_
      show Steps p.tables e below (T39.setTop (mkF m 199 #[.val (.long q1), .second, .val (.long q2), .second, .val (.int p3), .val (.int p4), .val (.int p5), .val (.int of), .val (.int ln), .val (.int i20_0), .val (.ref b3), .unset, .unset, .unset, .unset, .unset] [(.int of)])) _
      refine XS.bipush X39.here hx rfl (hb hby at_199) ?_
      show Steps p.tables e below (T39.setTop (mkF m 201 #[.val (.long q1), .second, .val (.long q2), .second, .val (.int p3), .val (.int p4), .val (.int p5), .val (.int of), .val (.int ln), .val (.int i20_0), .val (.ref b3), .unset, .unset, .unset, .unset, .unset] [(.int (8 : Int32)), (.int of)])) _
      refine XS.iadd X39.here hx rfl (hb hby at_201) rfl ?_
      show Steps p.tables e below (T39.setTop (mkF m 202 #[.val (.long q1), .second, .val (.long q2), .second, .val (.int p3), .val (.int p4), .val (.int p5), .val (.int of), .val (.int ln), .val (.int i20_0), .val (.ref b3), .unset, .unset, .unset, .unset, .unset] [(.int (of + (8 : Int32)))])) _
      refine XS.iload X39.here hx rfl (hb hby at_202) rfl ?_
      show Steps p.tables e below (T39.setTop (mkF m 204 #[.val (.long q1), .second, .val (.long q2), .second, .val (.int p3), .val (.int p4), .val (.int p5), .val (.int of), .val (.int ln), .val (.int i20_0), .val (.ref b3), .unset, .unset, .unset, .unset, .unset] [(.int ln), (.int (of + (8 : Int32)))])) _
      refine XS.isub X39.here hx rfl (hb hby at_204) rfl ?_
      show Steps p.tables e below (T39.setTop (mkF m 205 #[.val (.long q1), .second, .val (.long q2), .second, .val (.int p3), .val (.int p4), .val (.int p5), .val (.int of), .val (.int ln), .val (.int i20_0), .val (.ref b3), .unset, .unset, .unset, .unset, .unset] [(.int ((of + (8 : Int32)) - ln))])) _
      refine XS.istore X39.here hx rfl (hb hby at_205) rfl (l' := #[.val (.long q1), .second, .val (.long q2), .second, .val (.int p3), .val (.int p4), .val (.int p5), .val (.int of), .val (.int ln), .val (.int i20_0), .val (.ref b3), .unset, .unset, .val (.int ((of + (8 : Int32)) - ln)), .unset, .unset]) rfl ?_
      show Steps p.tables e below (T39.setTop (mkF m 207 #[.val (.long q1), .second, .val (.long q2), .second, .val (.int p3), .val (.int p4), .val (.int p5), .val (.int of), .val (.int ln), .val (.int i20_0), .val (.ref b3), .unset, .unset, .val (.int ((of + (8 : Int32)) - ln)), .unset, .unset] [])) _
      refine XS.iload X39.here hx rfl (hb hby at_207) rfl ?_
      show Steps p.tables e below (T39.setTop (mkF m 209 #[.val (.long q1), .second, .val (.long q2), .second, .val (.int p3), .val (.int p4), .val (.int p5), .val (.int of), .val (.int ln), .val (.int i20_0), .val (.ref b3), .unset, .unset, .val (.int ((of + (8 : Int32)) - ln)), .unset, .unset] [(.int ln)])) _
      exact k
    by_cases hc209_45 : ln = (0 : Int32)
    · obtain ⟨_, _, ⟨T46, L46, k46, n46⟩, -, X46, ⟨Lc46, hQ46, l46, y46, z46⟩, st46⟩ := Jvm.LawKit.callS X39 hx (y := (⟨"com/example/flowglyph/flowglyph/core/BigEndian", "unsigned", "([BII)J"⟩ : MethodName)) hown (mvT hZ (hw _ (List.mem_of_getElem? (i := 6) rfl))) (mvT hZ (hw _ (List.mem_of_getElem? (i := 7) rfl))) (mvT hZ (hw _ (List.mem_of_getElem? (i := 8) rfl))) (mvT hZ (hw _ (List.mem_of_getElem? (i := 9) rfl))) (by decide) (backOf (W := 0) (rm2 l Z a0 hw [] b3 ((of + (8 : Int32)) - ln) ln k3 fn39 (o + 8 - ll) ll h39 n0 z40 V39 (own_st hof hln ho hl) hln (by omega)) hZ (hw _ (List.mem_of_getElem? (i := 9) rfl)) (hw _ (List.mem_of_getElem? (i := 8) rfl)) (by decide) (by decide)) (g := (mkF m 280 #[.val (.long q1), .second, .val (.long q2), .second, .val (.int p3), .val (.int p4), .val (.int p5), .val (.int of), .val (.int ln), .val (.int i20_0), .val (.ref b3), .val (.long (0 : Int64)), .second, .val (.int ((of + (8 : Int32)) - ln)), .unset, .unset] [(.int ln), (.int ((of + (8 : Int32)) - ln)), (.ref b3)])) rfl (by rw [hml]; rfl) (argsL := [(.ref b3), (.int ((of + (8 : Int32)) - ln)), (.int ln)]) (rest := []) (lenOf pd_1 rfl) rfl (by show 2 * 0 + _ ≤ _; exact Nat.le_of_eq rfl) (hb hby at_280) (fun _ _ => ⟨rfl, e39, (by decide : 1 + 0 ≤ _), (by decide : 12 + 0 ≤ _)⟩)
      dsimp only [Pt.U, Pt.locs, Pt.cells, Pt.slots] at X46 l46 y46 z46 st46 hQ46
      subst y46 z46
      obtain ⟨r46, rfl, hr46, N46q, eq46⟩ := hQ46
      have N46 : Fr n0 L46 := by rw [l46]; exact Fr.app N39 N46q
      obtain ⟨fs, hr, hrun, hended, hW, hsame⟩ := X46.leave (v := some (.int (1 : Int32))) (fun h => by rw [Bd.returns] at h; cases h)
      refine ⟨_, _, ?_, hrun, hended, _, _, rfl, ?_, ⟨_, rfl⟩, hW, hsame.mono (by decide) (by decide)⟩
      · show Steps p.tables e below (T39.setTop (mkF m 209 #[.val (.long q1), .second, .val (.long q2), .second, .val (.int p3), .val (.int p4), .val (.int p5), .val (.int of), .val (.int ln), .val (.int i20_0), .val (.ref b3), .unset, .unset, .val (.int ((of + (8 : Int32)) - ln)), .unset, .unset] [(.int ln)])) _
        refine XS.ifNo X39.here hx rfl (hb hby at_209) rfl ((if0 _ _).trans (teq hc209_45).2) ?_
        show Steps p.tables e below (T39.setTop (mkF m 212 #[.val (.long q1), .second, .val (.long q2), .second, .val (.int p3), .val (.int p4), .val (.int p5), .val (.int of), .val (.int ln), .val (.int i20_0), .val (.ref b3), .unset, .unset, .val (.int ((of + (8 : Int32)) - ln)), .unset, .unset] [])) _
        refine XS.lconst X39.here hx rfl (hb hby at_212) ?_
        show Steps p.tables e below (T39.setTop (mkF m 213 #[.val (.long q1), .second, .val (.long q2), .second, .val (.int p3), .val (.int p4), .val (.int p5), .val (.int of), .val (.int ln), .val (.int i20_0), .val (.ref b3), .unset, .unset, .val (.int ((of + (8 : Int32)) - ln)), .unset, .unset] [(.long (0 : Int64))])) _
        refine XS.lstore X39.here hx rfl (hb hby at_213) rfl (l' := #[.val (.long q1), .second, .val (.long q2), .second, .val (.int p3), .val (.int p4), .val (.int p5), .val (.int of), .val (.int ln), .val (.int i20_0), .val (.ref b3), .val (.long (0 : Int64)), .second, .val (.int ((of + (8 : Int32)) - ln)), .unset, .unset]) rfl ?_
        show Steps p.tables e below (T39.setTop (mkF m 215 #[.val (.long q1), .second, .val (.long q2), .second, .val (.int p3), .val (.int p4), .val (.int p5), .val (.int of), .val (.int ln), .val (.int i20_0), .val (.ref b3), .val (.long (0 : Int64)), .second, .val (.int ((of + (8 : Int32)) - ln)), .unset, .unset] [])) _
        refine XS.goto X39.here hx rfl (pc0 := 215) (pc' := 274) rfl (hb hby at_215) (by decide) (by decide) ?_
        show Steps p.tables e below (T39.setTop (mkF m 274 #[.val (.long q1), .second, .val (.long q2), .second, .val (.int p3), .val (.int p4), .val (.int p5), .val (.int of), .val (.int ln), .val (.int i20_0), .val (.ref b3), .val (.long (0 : Int64)), .second, .val (.int ((of + (8 : Int32)) - ln)), .unset, .unset] [])) _
        refine XS.aload X39.here hx rfl (hb hby at_274) rfl rfl ?_
        show Steps p.tables e below (T39.setTop (mkF m 276 #[.val (.long q1), .second, .val (.long q2), .second, .val (.int p3), .val (.int p4), .val (.int p5), .val (.int of), .val (.int ln), .val (.int i20_0), .val (.ref b3), .val (.long (0 : Int64)), .second, .val (.int ((of + (8 : Int32)) - ln)), .unset, .unset] [(.ref b3)])) _
        refine XS.iload X39.here hx rfl (hb hby at_276) rfl ?_
        show Steps p.tables e below (T39.setTop (mkF m 278 #[.val (.long q1), .second, .val (.long q2), .second, .val (.int p3), .val (.int p4), .val (.int p5), .val (.int of), .val (.int ln), .val (.int i20_0), .val (.ref b3), .val (.long (0 : Int64)), .second, .val (.int ((of + (8 : Int32)) - ln)), .unset, .unset] [(.int ((of + (8 : Int32)) - ln)), (.ref b3)])) _
        refine XS.iload X39.here hx rfl (hb hby at_278) rfl ?_
        show Steps p.tables e below (T39.setTop (mkF m 280 #[.val (.long q1), .second, .val (.long q2), .second, .val (.int p3), .val (.int p4), .val (.int p5), .val (.int of), .val (.int ln), .val (.int i20_0), .val (.ref b3), .val (.long (0 : Int64)), .second, .val (.int ((of + (8 : Int32)) - ln)), .unset, .unset] [(.int ln), (.int ((of + (8 : Int32)) - ln)), (.ref b3)])) _
        refine st46 _ ?_
        show Steps p.tables e below (T46.setTop (mkF m 283 #[.val (.long q1), .second, .val (.long q2), .second, .val (.int p3), .val (.int p4), .val (.int p5), .val (.int of), .val (.int ln), .val (.int i20_0), .val (.ref b3), .val (.long (0 : Int64)), .second, .val (.int ((of + (8 : Int32)) - ln)), .unset, .unset] [(.long r46)])) _
        refine XS.lstore X46.here hx rfl (hb hby at_283) rfl (l' := #[.val (.long q1), .second, .val (.long q2), .second, .val (.int p3), .val (.int p4), .val (.int p5), .val (.int of), .val (.int ln), .val (.int i20_0), .val (.ref b3), .val (.long (0 : Int64)), .second, .val (.int ((of + (8 : Int32)) - ln)), .val (.long r46), .second]) rfl ?_
        show Steps p.tables e below (T46.setTop (mkF m 285 #[.val (.long q1), .second, .val (.long q2), .second, .val (.int p3), .val (.int p4), .val (.int p5), .val (.int of), .val (.int ln), .val (.int i20_0), .val (.ref b3), .val (.long (0 : Int64)), .second, .val (.int ((of + (8 : Int32)) - ln)), .val (.long r46), .second] [])) _
        refine XS.lload X46.here hx rfl (hb hby at_285) rfl ?_
        show Steps p.tables e below (T46.setTop (mkF m 287 #[.val (.long q1), .second, .val (.long q2), .second, .val (.int p3), .val (.int p4), .val (.int p5), .val (.int of), .val (.int ln), .val (.int i20_0), .val (.ref b3), .val (.long (0 : Int64)), .second, .val (.int ((of + (8 : Int32)) - ln)), .val (.long r46), .second] [(.long r46)])) _
        refine XS.lload X46.here hx rfl (hb hby at_287) rfl ?_
        show Steps p.tables e below (T46.setTop (mkF m 289 #[.val (.long q1), .second, .val (.long q2), .second, .val (.int p3), .val (.int p4), .val (.int p5), .val (.int of), .val (.int ln), .val (.int i20_0), .val (.ref b3), .val (.long (0 : Int64)), .second, .val (.int ((of + (8 : Int32)) - ln)), .val (.long r46), .second] [(.long (0 : Int64)), (.long r46)])) _
        refine XS.lcmp X46.here hx rfl (hb hby at_289) rfl ?_
        show Steps p.tables e below (T46.setTop (mkF m 290 #[.val (.long q1), .second, .val (.long q2), .second, .val (.int p3), .val (.int p4), .val (.int p5), .val (.int of), .val (.int ln), .val (.int i20_0), .val (.ref b3), .val (.long (0 : Int64)), .second, .val (.int ((of + (8 : Int32)) - ln)), .val (.long r46), .second] [(.int (lcmpW r46 (0 : Int64)))])) _
        refine XS.ifNo X46.here hx rfl (hb hby at_290) rfl ((if0 _ _).trans (teq ((lw_eq r46 (0 : Int64)).mpr (by rw [hr46]; exact own_l0 ho hl hof hln hF hc209_45 : r46 = (0 : Int64)))).2) ?_
        show Steps p.tables e below (T46.setTop (mkF m 293 #[.val (.long q1), .second, .val (.long q2), .second, .val (.int p3), .val (.int p4), .val (.int p5), .val (.int of), .val (.int ln), .val (.int i20_0), .val (.ref b3), .val (.long (0 : Int64)), .second, .val (.int ((of + (8 : Int32)) - ln)), .val (.long r46), .second] [])) _
        refine XS.iconst X46.here hx rfl (hb hby at_293) ?_
        show Steps p.tables e below (T46.setTop (mkF m 294 #[.val (.long q1), .second, .val (.long q2), .second, .val (.int p3), .val (.int p4), .val (.int p5), .val (.int of), .val (.int ln), .val (.int i20_0), .val (.ref b3), .val (.long (0 : Int64)), .second, .val (.int ((of + (8 : Int32)) - ln)), .val (.long r46), .second] [(.int (1 : Int32))])) _
        refine XS.goto X46.here hx rfl (pc0 := 294) (pc' := 298) rfl (hb hby at_294) (by decide) (by decide) ?_
        show Steps p.tables e below (T46.setTop (mkF m 298 #[.val (.long q1), .second, .val (.long q2), .second, .val (.int p3), .val (.int p4), .val (.int p5), .val (.int of), .val (.int ln), .val (.int i20_0), .val (.ref b3), .val (.long (0 : Int64)), .second, .val (.int ((of + (8 : Int32)) - ln)), .val (.long r46), .second] [(.int (1 : Int32))])) _
        exact retN X46 hx (t := .boolean) Bd.returns (by simp) (hb hby at_298) hr
      · exact ⟨rfl, N46⟩
    · refine GoalS.lift (B := (T39.setTop (mkF m 222 #[.val (.long q1), .second, .val (.long q2), .second, .val (.int p3), .val (.int p4), .val (.int p5), .val (.int of), .val (.int ln), .val (.int i20_0), .val (.ref b3), .unset, .unset, .val (.int ((of + (8 : Int32)) - ln)), .unset, .unset] [(.int (8 : Int32)), (.int ln)]))) (fun t k => ?_) ?_
      · show Steps p.tables e below (T39.setTop (mkF m 209 #[.val (.long q1), .second, .val (.long q2), .second, .val (.int p3), .val (.int p4), .val (.int p5), .val (.int of), .val (.int ln), .val (.int i20_0), .val (.ref b3), .unset, .unset, .val (.int ((of + (8 : Int32)) - ln)), .unset, .unset] [(.int ln)])) _
        refine XS.ifYes X39.here hx rfl (pc0 := 209) (pc' := 218) rfl (hb hby at_209) rfl ((if0 _ _).trans (feq hc209_45).2) (by decide) (by decide) ?_
        show Steps p.tables e below (T39.setTop (mkF m 218 #[.val (.long q1), .second, .val (.long q2), .second, .val (.int p3), .val (.int p4), .val (.int p5), .val (.int of), .val (.int ln), .val (.int i20_0), .val (.ref b3), .unset, .unset, .val (.int ((of + (8 : Int32)) - ln)), .unset, .unset] [])) _
        refine XS.iload X39.here hx rfl (hb hby at_218) rfl ?_
        show Steps p.tables e below (T39.setTop (mkF m 220 #[.val (.long q1), .second, .val (.long q2), .second, .val (.int p3), .val (.int p4), .val (.int p5), .val (.int of), .val (.int ln), .val (.int i20_0), .val (.ref b3), .unset, .unset, .val (.int ((of + (8 : Int32)) - ln)), .unset, .unset] [(.int ln)])) _
        refine XS.bipush X39.here hx rfl (hb hby at_220) ?_
        show Steps p.tables e below (T39.setTop (mkF m 222 #[.val (.long q1), .second, .val (.long q2), .second, .val (.int p3), .val (.int p4), .val (.int p5), .val (.int of), .val (.int ln), .val (.int i20_0), .val (.ref b3), .unset, .unset, .val (.int ((of + (8 : Int32)) - ln)), .unset, .unset] [(.int (8 : Int32)), (.int ln)])) _
        exact k
      by_cases hc222_47 : ln = (8 : Int32)
      · obtain ⟨_, _, ⟨T48, L48, k48, n48⟩, -, X48, ⟨Lc48, hQ48, l48, y48, z48⟩, st48⟩ := Jvm.LawKit.callS X39 hx (y := (⟨"com/example/flowglyph/flowglyph/core/BigEndian", "unsigned", "([BII)J"⟩ : MethodName)) hown (mvT hZ (hw _ (List.mem_of_getElem? (i := 6) rfl))) (mvT hZ (hw _ (List.mem_of_getElem? (i := 7) rfl))) (mvT hZ (hw _ (List.mem_of_getElem? (i := 8) rfl))) (mvT hZ (hw _ (List.mem_of_getElem? (i := 9) rfl))) (by decide) (backOf (W := 0) (rm2 l Z a0 hw [] b3 ((of + (8 : Int32)) - ln) ln k3 fn39 (o + 8 - ll) ll h39 n0 z40 V39 (own_st hof hln ho hl) hln (by omega)) hZ (hw _ (List.mem_of_getElem? (i := 9) rfl)) (hw _ (List.mem_of_getElem? (i := 8) rfl)) (by decide) (by decide)) (g := (mkF m 280 #[.val (.long q1), .second, .val (.long q2), .second, .val (.int p3), .val (.int p4), .val (.int p5), .val (.int of), .val (.int ln), .val (.int i20_0), .val (.ref b3), .val (.long q1), .second, .val (.int ((of + (8 : Int32)) - ln)), .unset, .unset] [(.int ln), (.int ((of + (8 : Int32)) - ln)), (.ref b3)])) rfl (by rw [hml]; rfl) (argsL := [(.ref b3), (.int ((of + (8 : Int32)) - ln)), (.int ln)]) (rest := []) (lenOf pd_1 rfl) rfl (by show 2 * 0 + _ ≤ _; exact Nat.le_of_eq rfl) (hb hby at_280) (fun _ _ => ⟨rfl, e39, (by decide : 1 + 0 ≤ _), (by decide : 12 + 0 ≤ _)⟩)
        dsimp only [Pt.U, Pt.locs, Pt.cells, Pt.slots] at X48 l48 y48 z48 st48 hQ48
        subst y48 z48
        obtain ⟨r48, rfl, hr48, N48q, eq48⟩ := hQ48
        have N48 : Fr n0 L48 := by rw [l48]; exact Fr.app N39 N48q
        obtain ⟨fs, hr, hrun, hended, hW, hsame⟩ := X48.leave (v := some (.int (1 : Int32))) (fun h => by rw [Bd.returns] at h; cases h)
        refine ⟨_, _, ?_, hrun, hended, _, _, rfl, ?_, ⟨_, rfl⟩, hW, hsame.mono (by decide) (by decide)⟩
        · show Steps p.tables e below (T39.setTop (mkF m 222 #[.val (.long q1), .second, .val (.long q2), .second, .val (.int p3), .val (.int p4), .val (.int p5), .val (.int of), .val (.int ln), .val (.int i20_0), .val (.ref b3), .unset, .unset, .val (.int ((of + (8 : Int32)) - ln)), .unset, .unset] [(.int (8 : Int32)), (.int ln)])) _
          refine XS.icmpNo X39.here hx rfl (hb hby at_222) rfl ((teq hc222_47).2) ?_
          show Steps p.tables e below (T39.setTop (mkF m 225 #[.val (.long q1), .second, .val (.long q2), .second, .val (.int p3), .val (.int p4), .val (.int p5), .val (.int of), .val (.int ln), .val (.int i20_0), .val (.ref b3), .unset, .unset, .val (.int ((of + (8 : Int32)) - ln)), .unset, .unset] [])) _
          refine XS.lloadN X39.here hx rfl (hb hby at_225) rfl ?_
          show Steps p.tables e below (T39.setTop (mkF m 226 #[.val (.long q1), .second, .val (.long q2), .second, .val (.int p3), .val (.int p4), .val (.int p5), .val (.int of), .val (.int ln), .val (.int i20_0), .val (.ref b3), .unset, .unset, .val (.int ((of + (8 : Int32)) - ln)), .unset, .unset] [(.long q1)])) _
          refine XS.lstore X39.here hx rfl (hb hby at_226) rfl (l' := #[.val (.long q1), .second, .val (.long q2), .second, .val (.int p3), .val (.int p4), .val (.int p5), .val (.int of), .val (.int ln), .val (.int i20_0), .val (.ref b3), .val (.long q1), .second, .val (.int ((of + (8 : Int32)) - ln)), .unset, .unset]) rfl ?_
          show Steps p.tables e below (T39.setTop (mkF m 228 #[.val (.long q1), .second, .val (.long q2), .second, .val (.int p3), .val (.int p4), .val (.int p5), .val (.int of), .val (.int ln), .val (.int i20_0), .val (.ref b3), .val (.long q1), .second, .val (.int ((of + (8 : Int32)) - ln)), .unset, .unset] [])) _
          refine XS.goto X39.here hx rfl (pc0 := 228) (pc' := 274) rfl (hb hby at_228) (by decide) (by decide) ?_
          show Steps p.tables e below (T39.setTop (mkF m 274 #[.val (.long q1), .second, .val (.long q2), .second, .val (.int p3), .val (.int p4), .val (.int p5), .val (.int of), .val (.int ln), .val (.int i20_0), .val (.ref b3), .val (.long q1), .second, .val (.int ((of + (8 : Int32)) - ln)), .unset, .unset] [])) _
          refine XS.aload X39.here hx rfl (hb hby at_274) rfl rfl ?_
          show Steps p.tables e below (T39.setTop (mkF m 276 #[.val (.long q1), .second, .val (.long q2), .second, .val (.int p3), .val (.int p4), .val (.int p5), .val (.int of), .val (.int ln), .val (.int i20_0), .val (.ref b3), .val (.long q1), .second, .val (.int ((of + (8 : Int32)) - ln)), .unset, .unset] [(.ref b3)])) _
          refine XS.iload X39.here hx rfl (hb hby at_276) rfl ?_
          show Steps p.tables e below (T39.setTop (mkF m 278 #[.val (.long q1), .second, .val (.long q2), .second, .val (.int p3), .val (.int p4), .val (.int p5), .val (.int of), .val (.int ln), .val (.int i20_0), .val (.ref b3), .val (.long q1), .second, .val (.int ((of + (8 : Int32)) - ln)), .unset, .unset] [(.int ((of + (8 : Int32)) - ln)), (.ref b3)])) _
          refine XS.iload X39.here hx rfl (hb hby at_278) rfl ?_
          show Steps p.tables e below (T39.setTop (mkF m 280 #[.val (.long q1), .second, .val (.long q2), .second, .val (.int p3), .val (.int p4), .val (.int p5), .val (.int of), .val (.int ln), .val (.int i20_0), .val (.ref b3), .val (.long q1), .second, .val (.int ((of + (8 : Int32)) - ln)), .unset, .unset] [(.int ln), (.int ((of + (8 : Int32)) - ln)), (.ref b3)])) _
          refine st48 _ ?_
          show Steps p.tables e below (T48.setTop (mkF m 283 #[.val (.long q1), .second, .val (.long q2), .second, .val (.int p3), .val (.int p4), .val (.int p5), .val (.int of), .val (.int ln), .val (.int i20_0), .val (.ref b3), .val (.long q1), .second, .val (.int ((of + (8 : Int32)) - ln)), .unset, .unset] [(.long r48)])) _
          refine XS.lstore X48.here hx rfl (hb hby at_283) rfl (l' := #[.val (.long q1), .second, .val (.long q2), .second, .val (.int p3), .val (.int p4), .val (.int p5), .val (.int of), .val (.int ln), .val (.int i20_0), .val (.ref b3), .val (.long q1), .second, .val (.int ((of + (8 : Int32)) - ln)), .val (.long r48), .second]) rfl ?_
          show Steps p.tables e below (T48.setTop (mkF m 285 #[.val (.long q1), .second, .val (.long q2), .second, .val (.int p3), .val (.int p4), .val (.int p5), .val (.int of), .val (.int ln), .val (.int i20_0), .val (.ref b3), .val (.long q1), .second, .val (.int ((of + (8 : Int32)) - ln)), .val (.long r48), .second] [])) _
          refine XS.lload X48.here hx rfl (hb hby at_285) rfl ?_
          show Steps p.tables e below (T48.setTop (mkF m 287 #[.val (.long q1), .second, .val (.long q2), .second, .val (.int p3), .val (.int p4), .val (.int p5), .val (.int of), .val (.int ln), .val (.int i20_0), .val (.ref b3), .val (.long q1), .second, .val (.int ((of + (8 : Int32)) - ln)), .val (.long r48), .second] [(.long r48)])) _
          refine XS.lload X48.here hx rfl (hb hby at_287) rfl ?_
          show Steps p.tables e below (T48.setTop (mkF m 289 #[.val (.long q1), .second, .val (.long q2), .second, .val (.int p3), .val (.int p4), .val (.int p5), .val (.int of), .val (.int ln), .val (.int i20_0), .val (.ref b3), .val (.long q1), .second, .val (.int ((of + (8 : Int32)) - ln)), .val (.long r48), .second] [(.long q1), (.long r48)])) _
          refine XS.lcmp X48.here hx rfl (hb hby at_289) rfl ?_
          show Steps p.tables e below (T48.setTop (mkF m 290 #[.val (.long q1), .second, .val (.long q2), .second, .val (.int p3), .val (.int p4), .val (.int p5), .val (.int of), .val (.int ln), .val (.int i20_0), .val (.ref b3), .val (.long q1), .second, .val (.int ((of + (8 : Int32)) - ln)), .val (.long r48), .second] [(.int (lcmpW r48 q1))])) _
          refine XS.ifNo X48.here hx rfl (hb hby at_290) rfl ((if0 _ _).trans (teq ((lw_eq r48 q1).mpr (by rw [hr48]; exact own_l8 ho hl hof hln hF hc209_45 hc222_47 : r48 = q1))).2) ?_
          show Steps p.tables e below (T48.setTop (mkF m 293 #[.val (.long q1), .second, .val (.long q2), .second, .val (.int p3), .val (.int p4), .val (.int p5), .val (.int of), .val (.int ln), .val (.int i20_0), .val (.ref b3), .val (.long q1), .second, .val (.int ((of + (8 : Int32)) - ln)), .val (.long r48), .second] [])) _
          refine XS.iconst X48.here hx rfl (hb hby at_293) ?_
          show Steps p.tables e below (T48.setTop (mkF m 294 #[.val (.long q1), .second, .val (.long q2), .second, .val (.int p3), .val (.int p4), .val (.int p5), .val (.int of), .val (.int ln), .val (.int i20_0), .val (.ref b3), .val (.long q1), .second, .val (.int ((of + (8 : Int32)) - ln)), .val (.long r48), .second] [(.int (1 : Int32))])) _
          refine XS.goto X48.here hx rfl (pc0 := 294) (pc' := 298) rfl (hb hby at_294) (by decide) (by decide) ?_
          show Steps p.tables e below (T48.setTop (mkF m 298 #[.val (.long q1), .second, .val (.long q2), .second, .val (.int p3), .val (.int p4), .val (.int p5), .val (.int of), .val (.int ln), .val (.int i20_0), .val (.ref b3), .val (.long q1), .second, .val (.int ((of + (8 : Int32)) - ln)), .val (.long r48), .second] [(.int (1 : Int32))])) _
          exact retN X48 hx (t := .boolean) Bd.returns (by simp) (hb hby at_298) hr
        · exact ⟨rfl, N48⟩
      · obtain ⟨_, _, ⟨T49, L49, k49, n49⟩, -, X49, ⟨Lc49, hQ49, l49, y49, z49⟩, st49⟩ := Jvm.LawKit.callS X39 hx (y := (⟨"com/example/flowglyph/flowglyph/core/BigEndian", "unsigned", "([BII)J"⟩ : MethodName)) hown (mvT hZ (hw _ (List.mem_of_getElem? (i := 6) rfl))) (mvT hZ (hw _ (List.mem_of_getElem? (i := 7) rfl))) (mvT hZ (hw _ (List.mem_of_getElem? (i := 8) rfl))) (mvT hZ (hw _ (List.mem_of_getElem? (i := 9) rfl))) (by decide) (backOf (W := 0) (rm2 l Z a0 hw [] b3 ((of + (8 : Int32)) - ln) ln k3 fn39 (o + 8 - ll) ll h39 n0 z40 V39 (own_st hof hln ho hl) hln (by omega)) hZ (hw _ (List.mem_of_getElem? (i := 9) rfl)) (hw _ (List.mem_of_getElem? (i := 8) rfl)) (by decide) (by decide)) (g := (mkF m 280 #[.val (.long q1), .second, .val (.long q2), .second, .val (.int p3), .val (.int p4), .val (.int p5), .val (.int of), .val (.int ln), .val (.int i20_0), .val (.ref b3), .val (.long (q1 &&& ((((1 : Int64) <<< (((8 : Int32) * ln) &&& 0x3f).toInt64)) - (1 : Int64)))), .second, .val (.int ((of + (8 : Int32)) - ln)), .unset, .unset] [(.int ln), (.int ((of + (8 : Int32)) - ln)), (.ref b3)])) rfl (by rw [hml]; rfl) (argsL := [(.ref b3), (.int ((of + (8 : Int32)) - ln)), (.int ln)]) (rest := []) (lenOf pd_1 rfl) rfl (by show 2 * 0 + _ ≤ _; exact Nat.le_of_eq rfl) (hb hby at_280) (fun _ _ => ⟨rfl, e39, (by decide : 1 + 0 ≤ _), (by decide : 12 + 0 ≤ _)⟩)
        dsimp only [Pt.U, Pt.locs, Pt.cells, Pt.slots] at X49 l49 y49 z49 st49 hQ49
        subst y49 z49
        obtain ⟨r49, rfl, hr49, N49q, eq49⟩ := hQ49
        have N49 : Fr n0 L49 := by rw [l49]; exact Fr.app N39 N49q
        obtain ⟨fs, hr, hrun, hended, hW, hsame⟩ := X49.leave (v := some (.int (1 : Int32))) (fun h => by rw [Bd.returns] at h; cases h)
        refine ⟨_, _, ?_, hrun, hended, _, _, rfl, ?_, ⟨_, rfl⟩, hW, hsame.mono (by decide) (by decide)⟩
        · show Steps p.tables e below (T39.setTop (mkF m 222 #[.val (.long q1), .second, .val (.long q2), .second, .val (.int p3), .val (.int p4), .val (.int p5), .val (.int of), .val (.int ln), .val (.int i20_0), .val (.ref b3), .unset, .unset, .val (.int ((of + (8 : Int32)) - ln)), .unset, .unset] [(.int (8 : Int32)), (.int ln)])) _
          refine XS.icmpYes X39.here hx rfl (pc0 := 222) (pc' := 231) rfl (hb hby at_222) rfl ((feq hc222_47).2) (by decide) (by decide) ?_
          show Steps p.tables e below (T39.setTop (mkF m 231 #[.val (.long q1), .second, .val (.long q2), .second, .val (.int p3), .val (.int p4), .val (.int p5), .val (.int of), .val (.int ln), .val (.int i20_0), .val (.ref b3), .unset, .unset, .val (.int ((of + (8 : Int32)) - ln)), .unset, .unset] [])) _
          refine XS.lloadN X39.here hx rfl (hb hby at_231) rfl ?_
          show Steps p.tables e below (T39.setTop (mkF m 232 #[.val (.long q1), .second, .val (.long q2), .second, .val (.int p3), .val (.int p4), .val (.int p5), .val (.int of), .val (.int ln), .val (.int i20_0), .val (.ref b3), .unset, .unset, .val (.int ((of + (8 : Int32)) - ln)), .unset, .unset] [(.long q1)])) _
          refine XS.lconst X39.here hx rfl (hb hby at_232) ?_
          show Steps p.tables e below (T39.setTop (mkF m 233 #[.val (.long q1), .second, .val (.long q2), .second, .val (.int p3), .val (.int p4), .val (.int p5), .val (.int of), .val (.int ln), .val (.int i20_0), .val (.ref b3), .unset, .unset, .val (.int ((of + (8 : Int32)) - ln)), .unset, .unset] [(.long (1 : Int64)), (.long q1)])) _
          refine XS.bipush X39.here hx rfl (hb hby at_233) ?_
          show Steps p.tables e below (T39.setTop (mkF m 235 #[.val (.long q1), .second, .val (.long q2), .second, .val (.int p3), .val (.int p4), .val (.int p5), .val (.int of), .val (.int ln), .val (.int i20_0), .val (.ref b3), .unset, .unset, .val (.int ((of + (8 : Int32)) - ln)), .unset, .unset] [(.int (8 : Int32)), (.long (1 : Int64)), (.long q1)])) _
          refine XS.iload X39.here hx rfl (hb hby at_235) rfl ?_
          show Steps p.tables e below (T39.setTop (mkF m 237 #[.val (.long q1), .second, .val (.long q2), .second, .val (.int p3), .val (.int p4), .val (.int p5), .val (.int of), .val (.int ln), .val (.int i20_0), .val (.ref b3), .unset, .unset, .val (.int ((of + (8 : Int32)) - ln)), .unset, .unset] [(.int ln), (.int (8 : Int32)), (.long (1 : Int64)), (.long q1)])) _
          refine XS.imul X39.here hx rfl (hb hby at_237) rfl ?_
          show Steps p.tables e below (T39.setTop (mkF m 238 #[.val (.long q1), .second, .val (.long q2), .second, .val (.int p3), .val (.int p4), .val (.int p5), .val (.int of), .val (.int ln), .val (.int i20_0), .val (.ref b3), .unset, .unset, .val (.int ((of + (8 : Int32)) - ln)), .unset, .unset] [(.int ((8 : Int32) * ln)), (.long (1 : Int64)), (.long q1)])) _
          refine XS.lshl X39.here hx rfl (hb hby at_238) rfl ?_
          show Steps p.tables e below (T39.setTop (mkF m 239 #[.val (.long q1), .second, .val (.long q2), .second, .val (.int p3), .val (.int p4), .val (.int p5), .val (.int of), .val (.int ln), .val (.int i20_0), .val (.ref b3), .unset, .unset, .val (.int ((of + (8 : Int32)) - ln)), .unset, .unset] [(.long (((1 : Int64) <<< (((8 : Int32) * ln) &&& 0x3f).toInt64))), (.long q1)])) _
          refine XS.lconst X39.here hx rfl (hb hby at_239) ?_
          show Steps p.tables e below (T39.setTop (mkF m 240 #[.val (.long q1), .second, .val (.long q2), .second, .val (.int p3), .val (.int p4), .val (.int p5), .val (.int of), .val (.int ln), .val (.int i20_0), .val (.ref b3), .unset, .unset, .val (.int ((of + (8 : Int32)) - ln)), .unset, .unset] [(.long (1 : Int64)), (.long (((1 : Int64) <<< (((8 : Int32) * ln) &&& 0x3f).toInt64))), (.long q1)])) _
          refine XS.lsub X39.here hx rfl (hb hby at_240) rfl ?_
          show Steps p.tables e below (T39.setTop (mkF m 241 #[.val (.long q1), .second, .val (.long q2), .second, .val (.int p3), .val (.int p4), .val (.int p5), .val (.int of), .val (.int ln), .val (.int i20_0), .val (.ref b3), .unset, .unset, .val (.int ((of + (8 : Int32)) - ln)), .unset, .unset] [(.long ((((1 : Int64) <<< (((8 : Int32) * ln) &&& 0x3f).toInt64)) - (1 : Int64))), (.long q1)])) _
          refine XS.land X39.here hx rfl (hb hby at_241) rfl ?_
          show Steps p.tables e below (T39.setTop (mkF m 242 #[.val (.long q1), .second, .val (.long q2), .second, .val (.int p3), .val (.int p4), .val (.int p5), .val (.int of), .val (.int ln), .val (.int i20_0), .val (.ref b3), .unset, .unset, .val (.int ((of + (8 : Int32)) - ln)), .unset, .unset] [(.long (q1 &&& ((((1 : Int64) <<< (((8 : Int32) * ln) &&& 0x3f).toInt64)) - (1 : Int64))))])) _
          refine XS.lstore X39.here hx rfl (hb hby at_242) rfl (l' := #[.val (.long q1), .second, .val (.long q2), .second, .val (.int p3), .val (.int p4), .val (.int p5), .val (.int of), .val (.int ln), .val (.int i20_0), .val (.ref b3), .val (.long (q1 &&& ((((1 : Int64) <<< (((8 : Int32) * ln) &&& 0x3f).toInt64)) - (1 : Int64)))), .second, .val (.int ((of + (8 : Int32)) - ln)), .unset, .unset]) rfl ?_
          show Steps p.tables e below (T39.setTop (mkF m 244 #[.val (.long q1), .second, .val (.long q2), .second, .val (.int p3), .val (.int p4), .val (.int p5), .val (.int of), .val (.int ln), .val (.int i20_0), .val (.ref b3), .val (.long (q1 &&& ((((1 : Int64) <<< (((8 : Int32) * ln) &&& 0x3f).toInt64)) - (1 : Int64)))), .second, .val (.int ((of + (8 : Int32)) - ln)), .unset, .unset] [])) _
          refine XS.goto X39.here hx rfl (pc0 := 244) (pc' := 274) rfl (hb hby at_244) (by decide) (by decide) ?_
          show Steps p.tables e below (T39.setTop (mkF m 274 #[.val (.long q1), .second, .val (.long q2), .second, .val (.int p3), .val (.int p4), .val (.int p5), .val (.int of), .val (.int ln), .val (.int i20_0), .val (.ref b3), .val (.long (q1 &&& ((((1 : Int64) <<< (((8 : Int32) * ln) &&& 0x3f).toInt64)) - (1 : Int64)))), .second, .val (.int ((of + (8 : Int32)) - ln)), .unset, .unset] [])) _
          refine XS.aload X39.here hx rfl (hb hby at_274) rfl rfl ?_
          show Steps p.tables e below (T39.setTop (mkF m 276 #[.val (.long q1), .second, .val (.long q2), .second, .val (.int p3), .val (.int p4), .val (.int p5), .val (.int of), .val (.int ln), .val (.int i20_0), .val (.ref b3), .val (.long (q1 &&& ((((1 : Int64) <<< (((8 : Int32) * ln) &&& 0x3f).toInt64)) - (1 : Int64)))), .second, .val (.int ((of + (8 : Int32)) - ln)), .unset, .unset] [(.ref b3)])) _
          refine XS.iload X39.here hx rfl (hb hby at_276) rfl ?_
          show Steps p.tables e below (T39.setTop (mkF m 278 #[.val (.long q1), .second, .val (.long q2), .second, .val (.int p3), .val (.int p4), .val (.int p5), .val (.int of), .val (.int ln), .val (.int i20_0), .val (.ref b3), .val (.long (q1 &&& ((((1 : Int64) <<< (((8 : Int32) * ln) &&& 0x3f).toInt64)) - (1 : Int64)))), .second, .val (.int ((of + (8 : Int32)) - ln)), .unset, .unset] [(.int ((of + (8 : Int32)) - ln)), (.ref b3)])) _
          refine XS.iload X39.here hx rfl (hb hby at_278) rfl ?_
          show Steps p.tables e below (T39.setTop (mkF m 280 #[.val (.long q1), .second, .val (.long q2), .second, .val (.int p3), .val (.int p4), .val (.int p5), .val (.int of), .val (.int ln), .val (.int i20_0), .val (.ref b3), .val (.long (q1 &&& ((((1 : Int64) <<< (((8 : Int32) * ln) &&& 0x3f).toInt64)) - (1 : Int64)))), .second, .val (.int ((of + (8 : Int32)) - ln)), .unset, .unset] [(.int ln), (.int ((of + (8 : Int32)) - ln)), (.ref b3)])) _
          refine st49 _ ?_
          show Steps p.tables e below (T49.setTop (mkF m 283 #[.val (.long q1), .second, .val (.long q2), .second, .val (.int p3), .val (.int p4), .val (.int p5), .val (.int of), .val (.int ln), .val (.int i20_0), .val (.ref b3), .val (.long (q1 &&& ((((1 : Int64) <<< (((8 : Int32) * ln) &&& 0x3f).toInt64)) - (1 : Int64)))), .second, .val (.int ((of + (8 : Int32)) - ln)), .unset, .unset] [(.long r49)])) _
          refine XS.lstore X49.here hx rfl (hb hby at_283) rfl (l' := #[.val (.long q1), .second, .val (.long q2), .second, .val (.int p3), .val (.int p4), .val (.int p5), .val (.int of), .val (.int ln), .val (.int i20_0), .val (.ref b3), .val (.long (q1 &&& ((((1 : Int64) <<< (((8 : Int32) * ln) &&& 0x3f).toInt64)) - (1 : Int64)))), .second, .val (.int ((of + (8 : Int32)) - ln)), .val (.long r49), .second]) rfl ?_
          show Steps p.tables e below (T49.setTop (mkF m 285 #[.val (.long q1), .second, .val (.long q2), .second, .val (.int p3), .val (.int p4), .val (.int p5), .val (.int of), .val (.int ln), .val (.int i20_0), .val (.ref b3), .val (.long (q1 &&& ((((1 : Int64) <<< (((8 : Int32) * ln) &&& 0x3f).toInt64)) - (1 : Int64)))), .second, .val (.int ((of + (8 : Int32)) - ln)), .val (.long r49), .second] [])) _
          refine XS.lload X49.here hx rfl (hb hby at_285) rfl ?_
          show Steps p.tables e below (T49.setTop (mkF m 287 #[.val (.long q1), .second, .val (.long q2), .second, .val (.int p3), .val (.int p4), .val (.int p5), .val (.int of), .val (.int ln), .val (.int i20_0), .val (.ref b3), .val (.long (q1 &&& ((((1 : Int64) <<< (((8 : Int32) * ln) &&& 0x3f).toInt64)) - (1 : Int64)))), .second, .val (.int ((of + (8 : Int32)) - ln)), .val (.long r49), .second] [(.long r49)])) _
          refine XS.lload X49.here hx rfl (hb hby at_287) rfl ?_
          show Steps p.tables e below (T49.setTop (mkF m 289 #[.val (.long q1), .second, .val (.long q2), .second, .val (.int p3), .val (.int p4), .val (.int p5), .val (.int of), .val (.int ln), .val (.int i20_0), .val (.ref b3), .val (.long (q1 &&& ((((1 : Int64) <<< (((8 : Int32) * ln) &&& 0x3f).toInt64)) - (1 : Int64)))), .second, .val (.int ((of + (8 : Int32)) - ln)), .val (.long r49), .second] [(.long (q1 &&& ((((1 : Int64) <<< (((8 : Int32) * ln) &&& 0x3f).toInt64)) - (1 : Int64)))), (.long r49)])) _
          refine XS.lcmp X49.here hx rfl (hb hby at_289) rfl ?_
          show Steps p.tables e below (T49.setTop (mkF m 290 #[.val (.long q1), .second, .val (.long q2), .second, .val (.int p3), .val (.int p4), .val (.int p5), .val (.int of), .val (.int ln), .val (.int i20_0), .val (.ref b3), .val (.long (q1 &&& ((((1 : Int64) <<< (((8 : Int32) * ln) &&& 0x3f).toInt64)) - (1 : Int64)))), .second, .val (.int ((of + (8 : Int32)) - ln)), .val (.long r49), .second] [(.int (lcmpW r49 (q1 &&& ((((1 : Int64) <<< (((8 : Int32) * ln) &&& 0x3f).toInt64)) - (1 : Int64)))))])) _
          refine XS.ifNo X49.here hx rfl (hb hby at_290) rfl ((if0 _ _).trans (teq ((lw_eq r49 (q1 &&& ((((1 : Int64) <<< (((8 : Int32) * ln) &&& 0x3f).toInt64)) - (1 : Int64)))).mpr (by rw [hr49]; exact own_lm ho hl hof hln hF hc209_45 hc222_47 : r49 = (q1 &&& ((((1 : Int64) <<< (((8 : Int32) * ln) &&& 0x3f).toInt64)) - (1 : Int64)))))).2) ?_
          show Steps p.tables e below (T49.setTop (mkF m 293 #[.val (.long q1), .second, .val (.long q2), .second, .val (.int p3), .val (.int p4), .val (.int p5), .val (.int of), .val (.int ln), .val (.int i20_0), .val (.ref b3), .val (.long (q1 &&& ((((1 : Int64) <<< (((8 : Int32) * ln) &&& 0x3f).toInt64)) - (1 : Int64)))), .second, .val (.int ((of + (8 : Int32)) - ln)), .val (.long r49), .second] [])) _
          refine XS.iconst X49.here hx rfl (hb hby at_293) ?_
          show Steps p.tables e below (T49.setTop (mkF m 294 #[.val (.long q1), .second, .val (.long q2), .second, .val (.int p3), .val (.int p4), .val (.int p5), .val (.int of), .val (.int ln), .val (.int i20_0), .val (.ref b3), .val (.long (q1 &&& ((((1 : Int64) <<< (((8 : Int32) * ln) &&& 0x3f).toInt64)) - (1 : Int64)))), .second, .val (.int ((of + (8 : Int32)) - ln)), .val (.long r49), .second] [(.int (1 : Int32))])) _
          refine XS.goto X49.here hx rfl (pc0 := 294) (pc' := 298) rfl (hb hby at_294) (by decide) (by decide) ?_
          show Steps p.tables e below (T49.setTop (mkF m 298 #[.val (.long q1), .second, .val (.long q2), .second, .val (.int p3), .val (.int p4), .val (.int p5), .val (.int of), .val (.int ln), .val (.int i20_0), .val (.ref b3), .val (.long (q1 &&& ((((1 : Int64) <<< (((8 : Int32) * ln) &&& 0x3f).toInt64)) - (1 : Int64)))), .second, .val (.int ((of + (8 : Int32)) - ln)), .val (.long r49), .second] [(.int (1 : Int32))])) _
          exact retN X49 hx (t := .boolean) Bd.returns (by simp) (hb hby at_298) hr
        · exact ⟨rfl, N49⟩
set_option maxRecDepth 65536 in
set_option maxHeartbeats 40000000 in
theorem comes_1 {Post : Tables → Env → Array Value → State → Outcome → State → Prop} (hpost : ∀ tb e args s v u, (limb_1_1.after args s (.returned v) u = true ∧ limb_1_2.after args s (.returned v) u = true ∧ True) → FrameEnd s (.returned v) u (Jvm.fieldLocs frame_1_writes args s ++ Jvm.arrayLocs frame_1_arrays args s ++ Jvm.staticLocs frame_1_statics s) 16 128 → Post tb e args s (.returned v) u) :
    ArmFor flags0 classFile x code maxLocals ret World_1 tables_1 room_1 Calls_1 rest_1 Pre_1 Post := by
  intro l hfl _ _ p e ha hc hk s m args below hf hA hF happ hP
  obtain ⟨hcalls, hrest, hpre⟩ := hP
  obtain ⟨-, -, -, hnamed, -, -, -, hat⟩ := (Spec.applies_iff hf).mp happ
  obtain ⟨hg, hn⟩ := and_e (Cond.before_iff.mp (show (Jvm.Cond.and given_1 narrow_1).before args s = true from hpre))
  obtain ⟨g1, g2⟩ := and_e hg
  obtain ⟨g3, g4⟩ := and_e g2
  obtain ⟨g5, g6⟩ := and_e g4
  obtain ⟨g7, g8⟩ := and_e g6
  obtain ⟨g9, g10⟩ := and_e g8
  obtain ⟨w0, w1, w2, w3, w4, rfl⟩ : ∃ w0 w1 w2 w3 w4 : Value, args = #[w0, w1, w2, w3, w4] := by
    have hs : args.size = 5 := by simpa [Cond.value, given_1] using g1
    obtain ⟨L⟩ := args
    match L, hs with
    | [w0, w1, w2, w3, w4], _ => exact ⟨w0, w1, w2, w3, w4, rfl⟩
  have hw := fun d (hd : d ∈ tables_1) => atoms_spec (ws := Jvm.Cond.code x code maxLocals ret :: tables_1) hat d (List.mem_cons_of_mem _ hd)
  have hfit : Fit s := fun {y c} hc i hi => by
    obtain ⟨ha, rfl⟩ := Array.getElem?_eq_some_iff.mp hc
    have q := List.all_eq_true.mp ((Array.all_eq_true_iff_forall_mem.mp hF) _ (Array.getElem_mem ha)) i (List.mem_range.mpr hi)
    simpa [Array.getElem?_eq_getElem hi] using q
  obtain ⟨i0, ei0⟩ := isL_v g3
  obtain rfl : w0 = (.long i0) := Option.some.inj ei0
  obtain ⟨i1, ei1⟩ := isL_v g5
  obtain rfl : w1 = (.long i1) := Option.some.inj ei1
  obtain ⟨i2, ei2⟩ := is_v g7
  obtain rfl : w2 = (.int i2) := Option.some.inj ei2
  obtain ⟨i3, ei3⟩ := is_v g9
  obtain rfl : w3 = (.int i3) := Option.some.inj ei3
  obtain ⟨i4, ei4⟩ := is_v g10
  obtain rfl : w4 = (.int i4) := Option.some.inj ei4
  obtain ⟨n, o, h1, h2, h3, _, L, rfl, ⟨rfl, N⟩, hq⟩ := rm0 l s _ hw tables_1 i0 i1 i2 i3 i4  s.heap s.heap.size (Nat.le_refl _)  p e ha hc hk s m _ below hf ((Spec.applies_iff_loose hf).mp happ).1 ⟨rfl, State.Warmed39.refl s, rfl⟩ trivial
  refine ⟨n, _, h1, h2, h3, hpost _ _ _ _ _ _ ⟨Cond.after_iff.mpr rfl, Cond.after_iff.mpr (eq_i res_at (Term.int_eval (1)) rfl), trivial⟩ ⟨hq.1, hq.2.1, (hq.2.2.sift fun y hy => Or.inr (N y hy)).mono (by decide) (by decide)⟩⟩
theorem main_1_1 : Claimed_1_1 := comes_1 fun _ _ _ _ _ _ h hF => ⟨h.1, hF⟩
theorem main_1_2 : Claimed_1_2 := comes_1 fun _ _ _ _ _ _ h hF => ⟨h.2.1, hF⟩
end Jvm.Pilot.@@N@@
namespace Jvm.Pilot.@@N@@
open Jvm Jvm.ClassFile Sem Op Lib Jvm.Free Jvm.Stand Jvm.Pilot.@@N@@.Jvm.D
/-! MADE BY PROGRAM (witnessworld.py) out of the Statement's table words and the real class files: 9 classes; the members and pool entries that the words name. The judged class is class 1, her method 2. -/
namespace start1
open Jvm.ClassFile
def u (s : String) : CpInfo := .utf8 (stringToUtf16 s)
/-- a pool by its gaps: so many unusable entries, then the entry; so many at the end -/
def gap : Nat → List CpInfo → List CpInfo
  | 0, r => r
  | n + 1, r => .unusable :: gap n r
def poolList (es : List (Nat × CpInfo)) (last : Nat) : List CpInfo := es.foldr (fun e r => gap e.1 (e.2 :: r)) (gap last [])
def pool (es : List (Nat × CpInfo)) (last : Nat) : Array CpInfo := ⟨poolList es last⟩
def fileOf (pool : Array CpInfo) (this : Nat) (attrs : Array Attribute := #[]) (ms : Array MethodInfo := #[]) (fl : Nat := 33) (sup : Nat := 0) (ifs : Array Nat := #[]) (fds : Array FieldInfo := #[]) : ClassFile where
  minorVersion := 0
  majorVersion := 65
  constantPool := pool
  accessFlags := fl
  thisClass := this
  superClass := sup
  interfaces := ifs
  fields := fds
  methods := ms
  attributes := attrs
def plain (name : String) (sup : Option ClassId) : Class where
  name := name
  kind := .ordinary
  loader := none
  accessFlags := 33
  super := sup
  interfaces := #[]
  cf := none
  fields := #[]
  methods := #[]
  instanceTypes := #[]
  staticTypes := #[]
  resolved := #[]
  callSites := []
  init := .initialized
  statics := none
  mirror := none

def pool0 : Array CpInfo := pool [(5, u "<init>"), (0, u "()V"), (1, .class_ 10), (1, u "java/lang/Object")] 113

def k0m0 : Method := { name := "<init>", desc := "()V", sig := { parameters := [], returnType := none }, accessFlags := 1, code := none }
/-- java/lang/Object -/
def k0 : Class := { plain "java/lang/Object" none with
  accessFlags := 33
  interfaces := #[]
  cf := some (fileOf pool0 8 #[] #[{ accessFlags := 1, nameIndex := 5, descriptorIndex := 6, attributes := #[] }] 33 0 #[] #[])
  fields := #[]
  methods := #[k0m0]
  instanceTypes := #[]
  staticTypes := #[]
  resolved := Array.replicate 124 none
  statics := none }

def pool1 : Array CpInfo := pool [(2, .class_ 4), (1, u "java/lang/Object"), (0, u "<init>"), (0, u "()V"), (0, .integer 2147483647), (0, .methodref 9 10), (0, .class_ 11), (0, .nameAndType 12 13), (0, u "com/example/flowglyph/flowglyph/core/BigEndianUnsignedPinLaw"), (0, u "at"), (0, u "(IIJJ)B"), (0, .methodref 15 16), (0, .class_ 17), (0, .nameAndType 18 19), (0, u "com/example/flowglyph/flowglyph/core/BigEndian"), (0, u "unsigned"), (0, u "([BII)J"), (3, u "law"), (0, u "(JJIII)Z")] 4

def k1m0 : Method := { name := "<init>", desc := "()V", sig := { parameters := [], returnType := none }, accessFlags := 2, code := none }
def k1c1 : Code := { maxStack := 6, maxLocals := 6, code := method_2_code, exceptionTable := #[], attributes := #[] }
def k1m1 : Method := { name := "at", desc := "(IIJJ)B", sig := { parameters := [.int, .int, .long, .long], returnType := some .byte }, accessFlags := 10, code := some k1c1 }
def k1c2 : Code := { maxStack := 8, maxLocals := 16, code := code, exceptionTable := #[], attributes := #[] }
def k1m2 : Method := { name := "law", desc := "(JJIII)Z", sig := { parameters := [.long, .long, .int, .int, .int], returnType := some .boolean }, accessFlags := 9, code := some k1c2 }
/-- com/example/flowglyph/flowglyph/core/BigEndianUnsignedPinLaw -/
def k1 : Class := { plain "com/example/flowglyph/flowglyph/core/BigEndianUnsignedPinLaw" (some 0) with
  accessFlags := 49
  interfaces := #[]
  cf := some (fileOf pool1 9 #[] #[{ accessFlags := 2, nameIndex := 5, descriptorIndex := 6, attributes := #[] }, { accessFlags := 10, nameIndex := 12, descriptorIndex := 13, attributes := #[] }, { accessFlags := 9, nameIndex := 23, descriptorIndex := 24, attributes := #[] }] 49 2 #[] #[])
  fields := #[]
  methods := #[k1m0, k1m1, k1m2]
  instanceTypes := #[]
  staticTypes := #[]
  resolved := Array.replicate 29 none
  statics := none }

def pool2 : Array CpInfo := pool [(2, .class_ 4), (1, u "java/lang/Object"), (0, u "<init>"), (0, u "()V"), (1, .class_ 10), (1, u "com/example/flowglyph/flowglyph/core/BigEndian"), (0, u "unsigned"), (0, u "([BII)J")] 9

def k2m0 : Method := { name := "<init>", desc := "()V", sig := { parameters := [], returnType := none }, accessFlags := 2, code := none }
def k2c1 : Code := { maxStack := 4, maxLocals := 6, code := prog_19_method_2_code, exceptionTable := #[], attributes := #[] }
def k2m1 : Method := { name := "unsigned", desc := "([BII)J", sig := { parameters := [(.array .byte), .int, .int], returnType := some .long }, accessFlags := 8, code := some k2c1 }
/-- com/example/flowglyph/flowglyph/core/BigEndian -/
def k2 : Class := { plain "com/example/flowglyph/flowglyph/core/BigEndian" (some 0) with
  accessFlags := 48
  interfaces := #[]
  cf := some (fileOf pool2 8 #[] #[{ accessFlags := 2, nameIndex := 5, descriptorIndex := 6, attributes := #[] }, { accessFlags := 8, nameIndex := 11, descriptorIndex := 12, attributes := #[] }] 48 2 #[] #[])
  fields := #[]
  methods := #[k2m0, k2m1]
  instanceTypes := #[]
  staticTypes := #[]
  resolved := Array.replicate 22 none
  statics := none }

def pool3 : Array CpInfo := pool [(1, u "java/lang/Cloneable"), (0, .class_ 1), (0, u "java/lang/Object"), (0, .class_ 3)] 3

/-- java/lang/Cloneable -/
def k3 : Class := { plain "java/lang/Cloneable" (some 0) with
  accessFlags := 1537
  interfaces := #[]
  cf := some (fileOf pool3 2 #[] #[] 1537 4 #[] #[])
  fields := #[]
  methods := #[]
  instanceTypes := #[]
  staticTypes := #[]
  resolved := Array.replicate 8 none
  statics := none }

def pool4 : Array CpInfo := pool [(1, u "java/io/Serializable"), (0, .class_ 1), (0, u "java/lang/Object"), (0, .class_ 3)] 3

/-- java/io/Serializable -/
def k4 : Class := { plain "java/io/Serializable" (some 0) with
  accessFlags := 1537
  interfaces := #[]
  cf := some (fileOf pool4 2 #[] #[] 1537 4 #[] #[])
  fields := #[]
  methods := #[]
  instanceTypes := #[]
  staticTypes := #[]
  resolved := Array.replicate 8 none
  statics := none }

/-- the primitive byte -/
def k5 : Class := { plain "byte" none with kind := .primitive 'B', accessFlags := 0x411 }
/-- [B -/
def k6 : Class := { plain "[B" (some 0) with kind := .array 5 .byte, interfaces := #[3, 4], accessFlags := 1041 }

/-- the primitive int -/
def k7 : Class := { plain "int" none with kind := .primitive 'I', accessFlags := 0x411 }
/-- [I -/
def k8 : Class := { plain "[I" (some 0) with kind := .array 7 .int, interfaces := #[3, 4], accessFlags := 1041 }

def heap : Heap := #[]
def classes : Array Class := #[k0, k1, k2, k3, k4, k5, k6, k7, k8]
def interned : List (Array UInt16 × Addr) := []
def slotsUsed : Nat := 0
def theMethod : MethodId := ⟨1, 2⟩
def args0 : Array Value := #[.long 5, .long 6, .int 7, .int 8, .int 9]
def aboutOver (below : List Frame) : State where
  vm := { classes := classes, interned := interned.toArray }
  heap := heap
  slotsUsed := slotsUsed
  threads := #[{ frames := .invoking theMethod args0 :: below }]
def below0 : List Frame := [.native { method := ⟨0, 0⟩, args := #[] }]
def about1 : State := aboutOver below0
def p0 : Program := .bare "" "" ""
def e0 : Env := launch0.env 0 0 0
theorem w_frames : about1.frames = Frame.invoking theMethod args0 :: below0 := rfl
set_option maxRecDepth 65536 in
theorem w_args : argsFit about1.vm theMethod args0 = true := by decide +kernel
set_option maxRecDepth 65536 in
theorem w_heap : heapFits about1 = true := by decide +kernel
set_option maxRecDepth 65536 in
theorem w_runnable : about1.curStatus? = some .runnable := by decide +kernel
set_option maxRecDepth 65536 in
theorem w_alone : about1.alone = true := by decide +kernel
set_option maxRecDepth 65536 in
theorem w_named : about1.methodNamed? x = some theMethod := by decide +kernel
set_option maxRecDepth 65536 in
theorem w_hears : about1.hears theMethod below0 = true := by decide +kernel
set_option maxRecDepth 65536 in
theorem w_ripe : about1.ripe theMethod args0 below0 = true := by decide +kernel
theorem w_running : about1.status = .running := rfl
set_option maxRecDepth 65536 in
theorem w_room : about1.hasRoom e0.platform room_1 = true :=
  launch0.hasRoom_least _ room_1 (by decide +kernel) (by decide +kernel) (by decide +kernel) (by decide +kernel) (by decide +kernel) (by decide +kernel)
theorem allAtoms_all (ts : List Jvm.Cond) (a : Array Jvm.Value) (st : Jvm.State) : (allAtoms ts).before a st = ts.all (fun c => c.before a st) := by
  induction ts with
  | nil => rfl
  | cons c t ih =>
    show (Jvm.Cond.and c (allAtoms t)).before a st = _
    rw [Jvm.Cond.before_and, ih, List.all_cons]
def words1 : List Jvm.Cond := Jvm.Cond.code x code maxLocals ret :: tables_1
/-- a 'code' word, met by the world's own term for the bytes: nothing is compared byte by byte -/
theorem code_word {y : MethodName} {bytes : ByteArray} {mx : Nat} {rt : Option FieldType} {a : Array Value} {s : State} {m : MethodId} {meth : Method} {c : Code} (h1 : s.methodNamed? y = some m) (h2 : s.vm.method? m = some meth) (h3 : meth.code = some c) (h4 : c.code = bytes)
    (h5 : (c.maxLocals == mx && c.exceptionTable.isEmpty && decide (c.maxStack ≤ mostOperands) && decide (meth.sig.returnType = rt) && !meth.locks && decide (parseMethodDescriptor y.desc = some meth.sig)) = true) : (Jvm.Cond.code y bytes mx rt).before a s = true := by
  simp only [Bool.and_eq_true, beq_iff_eq, Bool.not_eq_true', decide_eq_true_eq] at h5
  obtain ⟨⟨⟨⟨⟨g1, g2⟩, g3⟩, g4⟩, g5⟩, g6⟩ := h5
  simp [Cond.before, Cond.holds, Cond.value, h1, h2, h3, h4, g1, g2, g3, g4, g5, g6]
def isCode : Jvm.Cond → Bool
  | .code _ _ _ _ => true
  | _ => false
theorem all_split {L : List Jvm.Cond} {P : Jvm.Cond → Bool} (h1 : L.all (fun c => isCode c || P c) = true) (h2 : ∀ c ∈ L.filter isCode, P c = true) : L.all P = true := by
  refine List.all_eq_true.mpr fun c hc => ?_
  have h := List.all_eq_true.mp h1 c hc
  rcases Bool.eq_false_or_eq_true (isCode c) with hi | hi
  · exact h2 c (List.mem_filter.mpr ⟨hc, hi⟩)
  · simpa [hi] using h
set_option maxRecDepth 65536 in
theorem w_c0 : (Jvm.Cond.code x code maxLocals ret).before args0 about1 = true := code_word (m := ⟨1, 2⟩) (meth := k1m2) (c := k1c2) (by decide +kernel) rfl rfl rfl (by decide +kernel)
set_option maxRecDepth 65536 in
theorem w_c1 : (Jvm.Cond.code ({ cls := "com/example/flowglyph/flowglyph/core/BigEndianUnsignedPinLaw", name := "at", desc := "(IIJJ)B" } : Jvm.MethodName) method_2_code (6 : Nat) (Option.some Jvm.ClassFile.FieldType.byte)).before args0 about1 = true := code_word (m := ⟨1, 1⟩) (meth := k1m1) (c := k1c1) (by decide +kernel) rfl rfl rfl (by decide +kernel)
set_option maxRecDepth 65536 in
theorem w_c2 : (Jvm.Cond.code ({ cls := "com/example/flowglyph/flowglyph/core/BigEndian", name := "unsigned", desc := "([BII)J" } : Jvm.MethodName) prog_19_method_2_code (6 : Nat) (Option.some Jvm.ClassFile.FieldType.long)).before args0 about1 = true := code_word (m := ⟨2, 1⟩) (meth := k2m1) (c := k2c1) (by decide +kernel) rfl rfl rfl (by decide +kernel)
def codes1 : List Jvm.Cond := [Jvm.Cond.code x code maxLocals ret, Jvm.Cond.code ({ cls := "com/example/flowglyph/flowglyph/core/BigEndianUnsignedPinLaw", name := "at", desc := "(IIJJ)B" } : Jvm.MethodName) method_2_code (6 : Nat) (Option.some Jvm.ClassFile.FieldType.byte), Jvm.Cond.code ({ cls := "com/example/flowglyph/flowglyph/core/BigEndian", name := "unsigned", desc := "([BII)J" } : Jvm.MethodName) prog_19_method_2_code (6 : Nat) (Option.some Jvm.ClassFile.FieldType.long)]
set_option maxRecDepth 65536 in
theorem codes_eq : words1.filter isCode = codes1 := rfl
theorem w_codes : ∀ c ∈ words1.filter isCode, c.before args0 about1 = true := by
  rw [codes_eq]
  intro c hc
  simp only [codes1, List.mem_cons, List.not_mem_nil, or_false] at hc
  rcases hc with rfl | rfl | rfl
  · exact w_c0
  · exact w_c1
  · exact w_c2
set_option maxRecDepth 65536 in
theorem w_t1 : words1.all (fun c => isCode c || c.before args0 about1) = true := by decide +kernel
theorem w_tables : (allAtoms (Jvm.Cond.code x code maxLocals ret :: tables_1)).before args0 about1 = true := by
  rw [allAtoms_all]
  show words1.all (fun c => c.before args0 about1) = true
  refine all_split ?_ w_codes
  rw [w_t1]
set_option maxRecDepth 65536 in
theorem w_case : (Jvm.Cond.and given_1 narrow_1).before args0 about1 = true := by decide +kernel
theorem w_applies : (headSpec (Jvm.Cond.code x code maxLocals ret :: tables_1) room_1).applies x e0.platform about1 = true :=
  (Spec.applies_iff w_frames).mpr ⟨w_running, w_runnable, w_alone, w_named, w_hears, w_ripe, w_room, w_tables⟩
theorem atStart : AtStart classFile x code maxLocals ret World_1 tables_1 room_1 Calls_1 rest_1 Pre_1 launch0 p0 e0 about1 theMethod args0 below0 :=
  ⟨lists_1, trivial, launch0.admits_env _ _ _, launch0.least_env, fairChoices_fair.cas, fairChoices_fair.clock, w_frames, w_args, w_heap, w_applies, trivial, trivial, w_case⟩
end start1
theorem witness_1 : WitnessClaimed_1 := ⟨start1.p0, start1.e0, start1.about1, start1.theMethod, start1.args0, start1.below0, start1.atStart⟩
end Jvm.Pilot.@@N@@
