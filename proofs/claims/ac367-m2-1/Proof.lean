import JvmDerived
import JvmDerived.Pilot.@@N@@Statement
import JvmDerived.Pilot.@@N@@Code
set_option linter.unusedVariables false
set_option linter.unusedSimpArgs false
namespace Jvm.RoadKit
open Sem ClassFile Op Lib Jvm.Stand Jvm.Free Jvm.LawKit
section New
variable {p : Program} {l : Launch} {e : Env} {R : Room} {s : State} {m : MethodId} {args : Array Value} {below : List Frame} {meth : Method} {c : Code} {T : State} {locs : List Loc} {cells slots : Nat}
theorem retI (X : Stand p l e R s m args below meth c T locs cells slots) (hx : p.tables.exec = Jvm.exec) {pc : Nat} {Ls : Array Slot} {z : Int32} {rest : List Value} (hret : meth.sig.returnType = some .int) (hd : decode c.code pc = .ok (.ireturn, 1)) {fs : List Frame}
    (hl : ∀ (f : JFrame) (acts : List Action), f.method = m → f.locked = none → f.entered = [] → (doReturn e (T.setTop f) acts (some (.int z))).1 = T.setFrames fs) : Steps p.tables e below (T.setTop (mkF m pc Ls (.int z :: rest))) (T.setFrames fs) := by
  have hm' : T.vm.method? m = some meth := X.method'
  have hn : narrow .int (.int z) = .int z := rfl
  show Steps p.tables e below (T.setTop { method := m, pc := pc, locals := Ls, stack := _ :: rest, locked := none }) _
  jvm_step X.here [X.here.top, hx, hd, hm', hret, hn]
  first | (intro acts; rw [hl _ acts rfl rfl rfl]) | rw [hl _ _ rfl rfl rfl]
  exact Steps.refl _
end New
end Jvm.RoadKit
namespace Jvm.Pilot.@@N@@
open Jvm Jvm.ClassFile Sem Op Lib Jvm.Free Jvm.Stand Jvm.LawKit Jvm.RoadKit Bundle Jvm.Pilot.@@N@@.Jvm.D
-- from the state st the run ends, and Q holds of what it leaves
def GoalS (tb : Tables) (e : Env) (below : List Frame) (s : State) (kc ks : Nat) (Q : Option Value → Heap → List Loc → Prop) (st : State) : Prop :=
  ∃ s₂ o, Steps tb e below st s₂ ∧ s₂.status = .running ∧ Ended s₂ below o ∧ ∃ v L, o = .returned v ∧ Q v s₂.heap L ∧ FrameEnd s o s₂ L kc ks
theorem GoalS.lift {tb : Tables} {e : Env} {below : List Frame} {s : State} {kc ks : Nat} {Q : Option Value → Heap → List Loc → Prop} {A B : State}
    (h : ∀ t, Steps tb e below B t → Steps tb e below A t) (g : GoalS tb e below s kc ks Q B) : GoalS tb e below s kc ks Q A := by
  obtain ⟨s₂, o, h1, h2⟩ := g
  exact ⟨s₂, o, h _ h1, h2⟩
-- an array of n places of which place i holds f i
def AV (Z : State) (h : Heap) (a : Addr) (k : ClassId) (ty : FieldType) (n : Nat) (f : Nat → Value) : Prop := ∃ c : Cell, Arr Z h a c ty ∧ c.cls = k ∧ c.slots.size = n ∧ n < 2147483648 ∧ ∀ i, i < n → c.slots[i]? = some (f i)
def updI (f : Nat → Int32) (j : Nat) (v : Int32) : Nat → Int32 := fun i => if i = j then v else f i
def updJ (f : Nat → Int64) (j : Nat) (v : Int64) : Nat → Int64 := fun i => if i = j then v else f i
def updR (f : Nat → Value) (j : Nat) (v : Value) : Nat → Value := fun i => if i = j then v else f i
section Own
variable {Z : State} {h h' : Heap} {a b : Addr} {k : ClassId} {ty : FieldType} {n : Nat} {f g : Nat → Value} {ws : List Addr} {v : Value} {sl : Nat}
theorem AV.lt (F : AV Z h a k ty n f) : a < h.size := by obtain ⟨c, A, -⟩ := F; exact A.lt
theorem AV.ext (F : AV Z h a k ty n f) (E : Ext h h') : AV Z h' a k ty n f := by obtain ⟨c, A, r⟩ := F; exact ⟨c, A.ext E, r⟩
theorem AV.other (F : AV Z h b k ty n f) (W : Wr h h' a sl v) (q : b ≠ a) : AV Z h' b k ty n f := by obtain ⟨c, A, r⟩ := F; exact ⟨c, A.other W q, r⟩
theorem AV.keep (F : AV Z h a k ty n f) (K : Keep h h' ws) (q : a ∉ ws) : AV Z h' a k ty n f := by obtain ⟨c, A, r⟩ := F; exact ⟨c, ⟨K.2.1 a c A.1 q, A.2⟩, r⟩
theorem AV.new {z : Int32} (A : Arr Z h a (newA k ty z) ty) (q : ¬ z < 0) (hn : z.toNatClampNeg = n) (hb : n < 2147483648) : AV Z h a k ty n (fun _ => defaultValue ty) :=
  ⟨_, A, rfl, (sz_new _ _ _).trans hn, hb, fun i hi => by simp [newA, hn, hi]⟩
theorem AV.inb {c : Cell} {j : Int32} (S : c.slots.size = n) (q : ¬ j < 0 ∧ j.toNatClampNeg < n) : ¬ (j < 0 ∨ c.slots.size ≤ j.toNatClampNeg) := fun u => u.elim q.1 fun w => by omega
theorem AV.inx {j : Int32} (q : ¬ j < 0 ∧ j.toNatClampNeg < n) : j.toNatClampNeg < n := q.2
theorem AV.conv (F : AV Z h a k ty n f) (e : ∀ i, i < n → f i = g i) : AV Z h a k ty n g := by
  obtain ⟨c, A, r1, r2, r3, r4⟩ := F; exact ⟨c, A, r1, r2, r3, fun i hi => (r4 i hi).trans (congrArg some (e i hi))⟩
theorem AV.putR {j : Nat} (F : AV Z h a k ty n f) (W : Wr h h' a j v) (hj : j < n) : AV Z h' a k ty n (updR f j v) := by
  obtain ⟨c, A, r1, r2, r3, r4⟩ := F
  refine ⟨_, A.same W, r1, (sz_set _ _ _).trans r2, r3, fun i hi => ?_⟩
  by_cases q : i = j
  · subst q; simp [Cell.setSlot, updR, r2, hi]
  · have q' : j ≠ i := fun u => q u.symm
    simp only [Cell.setSlot, updR, if_neg q]; rw [Array.getElem?_setIfInBounds_ne q']; exact r4 i hi
theorem AV.putI {j : Nat} {f : Nat → Int32} {v : Int32} (F : AV Z h a k ty n (fun i => Value.int (f i))) (W : Wr h h' a j (.int v)) (hj : j < n) : AV Z h' a k ty n (fun i => Value.int (updI f j v i)) :=
  (F.putR W hj).conv fun i _ => by simp only [updR, updI]; split <;> rfl
theorem AV.putJ {j : Nat} {f : Nat → Int64} {v : Int64} (F : AV Z h a k ty n (fun i => Value.long (f i))) (W : Wr h h' a j (.long v)) (hj : j < n) : AV Z h' a k ty n (fun i => Value.long (updJ f j v i)) :=
  (F.putR W hj).conv fun i _ => by simp only [updR, updJ]; split <;> rfl
end Own


theorem own_up (a : Nat) : Int32.ofNat a + (1 : Int32) = Int32.ofNat (a + 1) := by rw [Int32.ofNat_add]; rfl
theorem own_dbl (x : Int) (j : Nat) : x * 2 ^ (j + 1) = x * 2 ^ j * 2 := by rw [Int.pow_succ, Int.mul_assoc]
theorem own_big {x : Int} {j : Nat} (hx : 1 ≤ x) (h : x * 2 ^ j ≤ 50000000000) : j ≤ 35 := by
  apply Nat.le_of_not_lt
  intro q
  have h1 : (2 : Int) ^ 36 ≤ 2 ^ j := by exact_mod_cast (Nat.pow_le_pow_right (show 2 > 0 by decide) q : 2 ^ 36 ≤ 2 ^ j)
  have h2 : 1 * (2 : Int) ^ j ≤ x * 2 ^ j := Int.mul_le_mul_of_nonneg_right hx (Int.le_of_lt (Int.pow_pos (by decide)))
  have h3 : (2 : Int) ^ 36 = 68719476736 := by decide
  omega
theorem own_mul2 {x : Int64} (h0 : 1 ≤ x.toInt) (h : x.toInt ≤ 50000000000) : (x * (2 : Int64)).toInt = x.toInt * 2 := by
  have := c_lmul x 2
  have e : (2 : Int64).toInt = 2 := rfl
  rw [e] at this
  have := rng64 (x * 2)
  omega
theorem own_hi {n : Int} {j : Nat} (h : j = 0 ∨ n * 2 ^ (j - 1) ≤ 50000000000) (hn : n ≤ 100000000000) : n * 2 ^ j ≤ 100000000000 := by
  rcases h with rfl | h
  · simpa using hn
  · cases j with
    | zero => simpa using hn
    | succ j => rw [own_dbl]; simp only [Nat.add_sub_cancel] at h; omega
theorem own_m1 (j : Nat) : Int32.ofNat (j + 1) - (1 : Int32) = Int32.ofNat j := by rw [← own_up, Int32.add_sub_cancel]
theorem own_shr {j : Nat} (hj : j < 64) : ((100000000000 : Int64) >>> ((Int32.ofNat j) &&& 0x3f).toInt64).toInt = 100000000000 / 2 ^ j := by
  have h : (Int32.ofNat j).toBitVec.toNat % 64 = j := by
    show (BitVec.ofNat 32 j).toNat % 64 = j
    rw [BitVec.toNat_ofNat]; omega
  have := c_lshr (100000000000 : Int64) (Int32.ofNat j) j h
  rw [this]
  have e : (100000000000 : Int64).toInt = 100000000000 := rfl
  rw [e]; rfl
theorem own_le {n : Int64} {r : Int32} {j : Nat} (hj : j ≤ 36) (hr : r = Int32.ofNat (j + 1)) (h : j = 0 ∨ n.toInt * 2 ^ (j - 1) ≤ 50000000000) (hn : n.toInt ≤ 100000000000) : ¬ ((100000000000 : Int64) >>> ((r - (1 : Int32)) &&& 0x3f).toInt64) < n := by
  rw [hr, own_m1, Int64.lt_iff_toInt_lt, own_shr (by omega)]
  have h1 : n.toInt ≤ 100000000000 / 2 ^ j := (Int.le_ediv_iff_mul_le (Int.pow_pos (by decide))).mpr (own_hi h hn)
  omega
theorem own_gt {n : Int64} {r : Int32} {j : Nat} (hj : j ≤ 36) (hr : r = Int32.ofNat (j + 1)) (h : 50000000000 < n.toInt * 2 ^ j) : ((100000000000 : Int64) >>> (r &&& 0x3f).toInt64) < n := by
  rw [hr, Int64.lt_iff_toInt_lt, own_shr (by omega)]
  apply (Int.ediv_lt_iff_lt_mul (Int.pow_pos (by decide))).mpr
  rw [own_dbl]; omega
theorem own_r1 {r : Int32} {j : Nat} (hj : j ≤ 36) (hr : r = Int32.ofNat (j + 1)) : ¬ r < (1 : Int32) ∧ ¬ (37 : Int32) < r := by
  have e : r.toInt = ((j + 1 : Nat) : Int) := by rw [hr, Int32.toInt_ofNat_of_lt (by omega)]
  have e1 : (1 : Int32).toInt = 1 := rfl
  have e2 : (37 : Int32).toInt = 37 := rfl
  exact ⟨by rw [Int32.lt_iff_toInt_lt]; omega, by rw [Int32.lt_iff_toInt_lt]; omega⟩
theorem own_na {x n : Int64} (h : n = ((x &&& (9223372036854775807 : Int64)) - ((x &&& (9223372036854775807 : Int64)) / (100000000000 : Int64)) * (100000000000 : Int64)) + (1 : Int64)) : 1 ≤ n.toInt ∧ n.toInt ≤ 100000000000 := by
  have h0 := (c_andSL x (9223372036854775807 : Int64)).2.2 (by decide)
  have h1 := (c_lrem (x &&& (9223372036854775807 : Int64)) (100000000000 : Int64) 100000000000 rfl).1 h0
  have h2 := c_ladd ((x &&& (9223372036854775807 : Int64)) - ((x &&& (9223372036854775807 : Int64)) / (100000000000 : Int64)) * (100000000000 : Int64)) (1 : Int64)
  have e1 : (1 : Int64).toInt = 1 := rfl
  have := rng64 n
  rw [← h] at h2
  omega
theorem own_nb {a b y : Int64} (ha : a = (if y < (100000000000 : Int64) then (100000000000 : Int64) else (100000000000 : Int64)) ∨ a = (if y < (100000000000 : Int64) then y else (100000000000 : Int64))) (hb : b = (if (1 : Int64) < a then a else (1 : Int64))) : 1 ≤ b.toInt ∧ b.toInt ≤ 100000000000 := by
  have e1 : (1 : Int64).toInt = 1 := rfl
  have e2 : (100000000000 : Int64).toInt = 100000000000 := rfl
  have h : a.toInt ≤ 100000000000 := by
    rcases ha with rfl | rfl
    · split <;> omega
    · split
      · rename_i q; rw [Int64.lt_iff_toInt_lt] at q; omega
      · omega
  rw [hb]
  split
  · rename_i q; rw [Int64.lt_iff_toInt_lt] at q; omega
  · omega

theorem d1_0 : decode prog_17_method_19_code 0 = .ok (.iconst 1, 1) := by decide +kernel
theorem d1_1 : decode prog_17_method_19_code 1 = .ok (.istore_n 2, 1) := by decide +kernel
theorem d1_2 : decode prog_17_method_19_code 2 = .ok (.lload_n 0, 1) := by decide +kernel
theorem d1_3 : decode prog_17_method_19_code 3 = .ok (.lstore_n 3, 1) := by decide +kernel
theorem d1_4 : decode prog_17_method_19_code 4 = .ok (.lload_n 3, 1) := by decide +kernel
theorem d1_5 : decode prog_17_method_19_code 5 = .ok (.ldc2_w 130, 3) := by decide +kernel
theorem d1_8 : decode prog_17_method_19_code 8 = .ok (.lcmp, 1) := by decide +kernel
theorem d1_9 : decode prog_17_method_19_code 9 = .ok (.ifCond .gt 15, 3) := by decide +kernel
theorem d1_12 : decode prog_17_method_19_code 12 = .ok (.lload_n 3, 1) := by decide +kernel
theorem d1_13 : decode prog_17_method_19_code 13 = .ok (.ldc2_w 132, 3) := by decide +kernel
theorem d1_16 : decode prog_17_method_19_code 16 = .ok (.lmul, 1) := by decide +kernel
theorem d1_17 : decode prog_17_method_19_code 17 = .ok (.lstore_n 3, 1) := by decide +kernel
theorem d1_18 : decode prog_17_method_19_code 18 = .ok (.iinc 2 1, 3) := by decide +kernel
theorem d1_21 : decode prog_17_method_19_code 21 = .ok (.goto (-17), 3) := by decide +kernel
theorem d1_24 : decode prog_17_method_19_code 24 = .ok (.iload_n 2, 1) := by decide +kernel
theorem d1_25 : decode prog_17_method_19_code 25 = .ok (.ireturn, 1) := by decide +kernel
theorem pn_0 : plainName "com/example/bit1/bit1/GrowingBloomFilter" = true := by first | (simp [plainName, overriddenIn]; done) | decide +kernel
theorem ef_rm1 (m : MethodId) (q1 : Int64) : entryFrame m #[(.long q1)] 5 = mkF m 0 #[.val (.long q1), .second, .unset, .unset, .unset] [] := by first | (simp [entryFrame, mkF, argsToLocals, Value.category]; done) | rfl
def Q1 (Z : State) (q1 : Int64) (h0 : Heap) (n0 : Nat) (v : Option Value) (h : Heap) (L : List Loc) : Prop := ∃ r : Int32, v = some (.int r) ∧ (∃ j : Nat, j ≤ 36 ∧ r = Int32.ofNat (j + 1) ∧ (j = 0 ∨ q1.toInt * 2 ^ (j - 1) ≤ 50000000000) ∧ 50000000000 < q1.toInt * 2 ^ j) ∧ Fr n0 L ∧ h = h0
set_option maxRecDepth 65536 in
set_option maxHeartbeats 40000000 in
theorem rm1 (l : Launch) (Z : State) (a0 : Array Value) (hw : ∀ d ∈ tables_1, d.before a0 Z = true) (ws : List Jvm.Cond) (q1 : Int64) (h0 : Heap) (n0 : Nat) (Z0 : n0 ≤ h0.size) (hq : 1 ≤ q1.toInt ∧ q1.toInt ≤ 100000000000) :
    MetFree l (⟨"com/example/bit1/bit1/GrowingBloomFilter", "mostStages", "(J)I"⟩ : MethodName) (head1 (Jvm.Cond.code (⟨"com/example/bit1/bit1/GrowingBloomFilter", "mostStages", "(J)I"⟩ : MethodName) prog_17_method_19_code 5 (some .int) :: ws) ({ frames := 0, cells := 0, slots := 0, locals := 0 } : Room)) (fun a U => a = #[(.long q1)] ∧ Z.Warmed39 U.vm ∧ U.heap = h0) (fun _ _ _ _ _ => True) (fun _ U o U' => ∃ v L, o = .returned v ∧ Q1 Z q1 h0 n0 v U'.heap L ∧ FrameEnd U o U' L ({ frames := 0, cells := 0, slots := 0, locals := 0 } : Room).cells ({ frames := 0, cells := 0, slots := 0, locals := 0 } : Room).slots) := by
  refine MetFree.of_bodySF (plainFor_of_name pn_0) hisR ?_
  intro p e s m args below meth c s₁ Bd hml0 hP hK
  obtain ⟨rfl, hZ, hh⟩ := hP
  have hx := Bd.exec
  have hby := Bd.bytes
  have hml : c.maxLocals = 5 := hml0
  have hown : s.vm.findClass "com/example/bit1/bit1/GrowingBloomFilter" = some m.cls := findClass_of_methodNamed Bd.named
  have hnm := (name_of_methodNamed Bd.named Bd.method).1
  have X0 : Stand p l e ({ frames := 0, cells := 0, slots := 0, locals := 0 } : Room) s m #[(.long q1)] below meth c s₁ [] 0 0 := Stand.of_body Bd
  have e0 : s₁.heap = h0 := by rw [← hh, Bd.state]; rfl
  have N0 := Fr.nil n0
  show GoalS p.tables e below s ({ frames := 0, cells := 0, slots := 0, locals := 0 } : Room).cells ({ frames := 0, cells := 0, slots := 0, locals := 0 } : Room).slots (Q1 Z q1 h0 n0) (s₁.setTop (entryFrame m #[(.long q1)] 5))
  refine GoalS.lift (B := s₁.setTop (mkF m 0 #[.val (.long q1), .second, .unset, .unset, .unset] [])) (fun t k => castTop (ef_rm1 m q1) k) ?_
  have K0 : Keep h0 h0 [] := Keep.refl _ _
  refine GoalS.lift (B := (s₁.setTop (mkF m 4 #[.val (.long q1), .second, .val (.int (1 : Int32)), .val (.long q1), .second] []))) (fun t k => ?_) ?_
  · show Steps p.tables e below (s₁.setTop (mkF m 0 #[.val (.long q1), .second, .unset, .unset, .unset] [])) _
    refine XS.iconst X0.here hx rfl (hb hby d1_0) ?_
    show Steps p.tables e below (s₁.setTop (mkF m 1 #[.val (.long q1), .second, .unset, .unset, .unset] [(.int (1 : Int32))])) _
    refine XS.istoreN X0.here hx rfl (hb hby d1_1) rfl (l' := #[.val (.long q1), .second, .val (.int (1 : Int32)), .unset, .unset]) rfl ?_
    show Steps p.tables e below (s₁.setTop (mkF m 2 #[.val (.long q1), .second, .val (.int (1 : Int32)), .unset, .unset] [])) _
    refine XS.lloadN X0.here hx rfl (hb hby d1_2) rfl ?_
    show Steps p.tables e below (s₁.setTop (mkF m 3 #[.val (.long q1), .second, .val (.int (1 : Int32)), .unset, .unset] [(.long q1)])) _
    refine XS.lstoreN X0.here hx rfl (hb hby d1_3) rfl (l' := #[.val (.long q1), .second, .val (.int (1 : Int32)), .val (.long q1), .second]) rfl ?_
    show Steps p.tables e below (s₁.setTop (mkF m 4 #[.val (.long q1), .second, .val (.int (1 : Int32)), .val (.long q1), .second] [])) _
    exact k
  have LP1 : ∀ (kk : Nat) (j : Nat) (sg : Int32) (last : Int64), (sg = Int32.ofNat (j + 1) ∧ j + kk = 36) → (last.toInt = q1.toInt * 2 ^ j) → (j = 0 ∨ q1.toInt * 2 ^ (j - 1) ≤ 50000000000) → (1 ≤ last.toInt) → GoalS p.tables e below s ({ frames := 0, cells := 0, slots := 0, locals := 0 } : Room).cells ({ frames := 0, cells := 0, slots := 0, locals := 0 } : Room).slots (Q1 Z q1 h0 n0) (s₁.setTop (mkF m 4 #[.val (.long q1), .second, .val (.int sg), .val (.long last), .second] [])) := by
    intro kk
    induction kk using Nat.strongRecOn with
    | ind kk ih =>
    intro j sg last hs hl hj h1
    refine GoalS.lift (B := (s₁.setTop (mkF m 9 #[.val (.long q1), .second, .val (.int sg), .val (.long last), .second] [(.int (lcmpW last (50000000000 : Int64)))]))) (fun t k => ?_) ?_
    · show Steps p.tables e below (s₁.setTop (mkF m 4 #[.val (.long q1), .second, .val (.int sg), .val (.long last), .second] [])) _
      refine XS.lloadN X0.here hx rfl (hb hby d1_4) rfl ?_
      show Steps p.tables e below (s₁.setTop (mkF m 5 #[.val (.long q1), .second, .val (.int sg), .val (.long last), .second] [(.long last)])) _
      refine X0.ldc2Long hx hown (mvT hZ (hw _ (List.mem_of_getElem? (i := 6) rfl))) (g := (mkF m 5 #[.val (.long q1), .second, .val (.int sg), .val (.long last), .second] [(.long last)])) rfl (hb hby d1_5) _ ?_
      show Steps p.tables e below (s₁.setTop (mkF m 8 #[.val (.long q1), .second, .val (.int sg), .val (.long last), .second] [(.long (50000000000 : Int64)), (.long last)])) _
      refine XS.lcmp X0.here hx rfl (hb hby d1_8) rfl ?_
      show Steps p.tables e below (s₁.setTop (mkF m 9 #[.val (.long q1), .second, .val (.int sg), .val (.long last), .second] [(.int (lcmpW last (50000000000 : Int64)))])) _
      exact k
    by_cases hc9_3 : (50000000000 : Int64) < last
    · have hgt : 50000000000 < last.toInt := by rw [Int64.lt_iff_toInt_lt] at hc9_3; have e : (50000000000 : Int64).toInt = 50000000000 := rfl; omega
      obtain ⟨fs, hr, hrun, hended, hW, hsame⟩ := X0.leave (v := some (.int sg)) (fun h => by rw [Bd.returns] at h; cases h)
      refine ⟨_, _, ?_, hrun, hended, _, _, rfl, ?_, ⟨_, rfl⟩, hW, hsame.mono (by decide) (by decide)⟩
      · show Steps p.tables e below (s₁.setTop (mkF m 9 #[.val (.long q1), .second, .val (.int sg), .val (.long last), .second] [(.int (lcmpW last (50000000000 : Int64)))])) _
        refine XS.ifYes X0.here hx rfl (pc0 := 9) (pc' := 24) rfl (hb hby d1_9) rfl ((if0 _ _).trans (tlt ((lw_gt last (50000000000 : Int64)).mpr hc9_3)).2.2.1) (by decide) (by decide) ?_
        show Steps p.tables e below (s₁.setTop (mkF m 24 #[.val (.long q1), .second, .val (.int sg), .val (.long last), .second] [])) _
        refine XS.iloadN X0.here hx rfl (hb hby d1_24) rfl ?_
        show Steps p.tables e below (s₁.setTop (mkF m 25 #[.val (.long q1), .second, .val (.int sg), .val (.long last), .second] [(.int sg)])) _
        exact retI X0 hx Bd.returns (hb hby d1_25) hr
      · show Q1 Z q1 h0 n0 _ s₁.heap _
        exact ⟨_, rfl, ⟨j, by omega, hs.1, hj, by rw [← hl]; exact hgt⟩, N0, e0⟩
    · have hle : last.toInt ≤ 50000000000 := by rw [Int64.lt_iff_toInt_lt] at hc9_3; have e : (50000000000 : Int64).toInt = 50000000000 := rfl; omega
      have hj35 : j ≤ 35 := own_big hq.1 (by rw [← hl]; exact hle)
      refine GoalS.lift (B := (s₁.setTop (mkF m 4 #[.val (.long q1), .second, .val (.int (sg + (1 : Int32))), .val (.long (last * (2 : Int64))), .second] []))) (fun t k => ?_) ?_
      · show Steps p.tables e below (s₁.setTop (mkF m 9 #[.val (.long q1), .second, .val (.int sg), .val (.long last), .second] [(.int (lcmpW last (50000000000 : Int64)))])) _
        refine XS.ifNo X0.here hx rfl (hb hby d1_9) rfl ((if0 _ _).trans (flt (fun q => hc9_3 ((lw_gt last (50000000000 : Int64)).mp q))).2.2.1) ?_
        show Steps p.tables e below (s₁.setTop (mkF m 12 #[.val (.long q1), .second, .val (.int sg), .val (.long last), .second] [])) _
        refine XS.lloadN X0.here hx rfl (hb hby d1_12) rfl ?_
        show Steps p.tables e below (s₁.setTop (mkF m 13 #[.val (.long q1), .second, .val (.int sg), .val (.long last), .second] [(.long last)])) _
        refine X0.ldc2Long hx hown (mvT hZ (hw _ (List.mem_of_getElem? (i := 7) rfl))) (g := (mkF m 13 #[.val (.long q1), .second, .val (.int sg), .val (.long last), .second] [(.long last)])) rfl (hb hby d1_13) _ ?_
        show Steps p.tables e below (s₁.setTop (mkF m 16 #[.val (.long q1), .second, .val (.int sg), .val (.long last), .second] [(.long (2 : Int64)), (.long last)])) _
        refine XS.lmul X0.here hx rfl (hb hby d1_16) rfl ?_
        show Steps p.tables e below (s₁.setTop (mkF m 17 #[.val (.long q1), .second, .val (.int sg), .val (.long last), .second] [(.long (last * (2 : Int64)))])) _
        refine XS.lstoreN X0.here hx rfl (hb hby d1_17) rfl (l' := #[.val (.long q1), .second, .val (.int sg), .val (.long (last * (2 : Int64))), .second]) rfl ?_
        show Steps p.tables e below (s₁.setTop (mkF m 18 #[.val (.long q1), .second, .val (.int sg), .val (.long (last * (2 : Int64))), .second] [])) _
        refine XS.iinc X0.here hx rfl (hb hby d1_18) rfl (l' := #[.val (.long q1), .second, .val (.int (sg + (1 : Int32))), .val (.long (last * (2 : Int64))), .second]) rfl ?_
        show Steps p.tables e below (s₁.setTop (mkF m 21 #[.val (.long q1), .second, .val (.int (sg + (1 : Int32))), .val (.long (last * (2 : Int64))), .second] [])) _
        refine XS.goto X0.here hx rfl (pc0 := 21) (pc' := 4) rfl (hb hby d1_21) (by decide) (by decide) ?_
        show Steps p.tables e below (s₁.setTop (mkF m 4 #[.val (.long q1), .second, .val (.int (sg + (1 : Int32))), .val (.long (last * (2 : Int64))), .second] [])) _
        exact k
      exact ih (kk - 1) (by omega) (j + 1) (sg + (1 : Int32)) (last * (2 : Int64)) ⟨by rw [hs.1, own_up], by omega⟩ (by rw [own_mul2 h1 hle, hl, own_dbl]) (Or.inr (by rw [Nat.add_sub_cancel, ← hl]; exact hle)) (by rw [own_mul2 h1 hle]; omega)
  exact LP1 36 0 (1 : Int32) q1 ⟨rfl, rfl⟩ (by simp) (Or.inl rfl) hq.1
theorem d2_0 : decode jdk_29_method_70_code 0 = .ok (.lload_n 0, 1) := by decide +kernel
theorem d2_1 : decode jdk_29_method_70_code 1 = .ok (.lload_n 2, 1) := by decide +kernel
theorem d2_2 : decode jdk_29_method_70_code 2 = .ok (.lcmp, 1) := by decide +kernel
theorem d2_3 : decode jdk_29_method_70_code 3 = .ok (.ifCond .gt 7, 3) := by decide +kernel
theorem d2_6 : decode jdk_29_method_70_code 6 = .ok (.lload_n 0, 1) := by decide +kernel
theorem d2_7 : decode jdk_29_method_70_code 7 = .ok (.goto 4, 3) := by decide +kernel
theorem d2_10 : decode jdk_29_method_70_code 10 = .ok (.lload_n 2, 1) := by decide +kernel
theorem d2_11 : decode jdk_29_method_70_code 11 = .ok (.lreturn, 1) := by decide +kernel
theorem ef_rm2 (m : MethodId) (q1 : Int64) (q2 : Int64) : entryFrame m #[(.long q1), (.long q2)] 4 = mkF m 0 #[.val (.long q1), .second, .val (.long q2), .second] [] := by first | (simp [entryFrame, mkF, argsToLocals, Value.category]; done) | rfl
def Q2 (Z : State) (q1 : Int64) (q2 : Int64) (h0 : Heap) (n0 : Nat) (v : Option Value) (h : Heap) (L : List Loc) : Prop := ∃ r : Int64, v = some (.long r) ∧ r = (if q2 < q1 then q2 else q1) ∧ Fr n0 L ∧ h = h0
set_option maxRecDepth 65536 in
set_option maxHeartbeats 40000000 in
theorem rm2 (l : Launch) (Z : State) (a0 : Array Value) (hw : ∀ d ∈ tables_1, d.before a0 Z = true) (ws : List Jvm.Cond) (q1 : Int64) (q2 : Int64) (h0 : Heap) (n0 : Nat) (Z0 : n0 ≤ h0.size) :
    MetFree l (⟨"java/lang/Math", "min", "(JJ)J"⟩ : MethodName) (head1 (Jvm.Cond.code (⟨"java/lang/Math", "min", "(JJ)J"⟩ : MethodName) jdk_29_method_70_code 4 (some .long) :: ws) ({ frames := 0, cells := 0, slots := 0, locals := 0 } : Room)) (fun a U => a = #[(.long q1), (.long q2)] ∧ Z.Warmed39 U.vm ∧ U.heap = h0) (fun _ _ _ _ _ => True) (fun _ U o U' => ∃ v L, o = .returned v ∧ Q2 Z q1 q2 h0 n0 v U'.heap L ∧ FrameEnd U o U' L ({ frames := 0, cells := 0, slots := 0, locals := 0 } : Room).cells ({ frames := 0, cells := 0, slots := 0, locals := 0 } : Room).slots) := by
  refine MetFree.of_bodySF (Jvm.Free.JP.mathPlain rfl (by decide +kernel)) hisR ?_
  intro p e s m args below meth c s₁ Bd hml0 hP hK
  obtain ⟨rfl, hZ, hh⟩ := hP
  have hx := Bd.exec
  have hby := Bd.bytes
  have hml : c.maxLocals = 4 := hml0
  have hown : s.vm.findClass "java/lang/Math" = some m.cls := findClass_of_methodNamed Bd.named
  have hnm := (name_of_methodNamed Bd.named Bd.method).1
  have X0 : Stand p l e ({ frames := 0, cells := 0, slots := 0, locals := 0 } : Room) s m #[(.long q1), (.long q2)] below meth c s₁ [] 0 0 := Stand.of_body Bd
  have e0 : s₁.heap = h0 := by rw [← hh, Bd.state]; rfl
  have N0 := Fr.nil n0
  show GoalS p.tables e below s ({ frames := 0, cells := 0, slots := 0, locals := 0 } : Room).cells ({ frames := 0, cells := 0, slots := 0, locals := 0 } : Room).slots (Q2 Z q1 q2 h0 n0) (s₁.setTop (entryFrame m #[(.long q1), (.long q2)] 4))
  refine GoalS.lift (B := s₁.setTop (mkF m 0 #[.val (.long q1), .second, .val (.long q2), .second] [])) (fun t k => castTop (ef_rm2 m q1 q2) k) ?_
  have K0 : Keep h0 h0 [] := Keep.refl _ _
  refine GoalS.lift (B := (s₁.setTop (mkF m 3 #[.val (.long q1), .second, .val (.long q2), .second] [(.int (lcmpW q1 q2))]))) (fun t k => ?_) ?_
  · show Steps p.tables e below (s₁.setTop (mkF m 0 #[.val (.long q1), .second, .val (.long q2), .second] [])) _
    refine XS.lloadN X0.here hx rfl (hb hby d2_0) rfl ?_
    show Steps p.tables e below (s₁.setTop (mkF m 1 #[.val (.long q1), .second, .val (.long q2), .second] [(.long q1)])) _
    refine XS.lloadN X0.here hx rfl (hb hby d2_1) rfl ?_
    show Steps p.tables e below (s₁.setTop (mkF m 2 #[.val (.long q1), .second, .val (.long q2), .second] [(.long q2), (.long q1)])) _
    refine XS.lcmp X0.here hx rfl (hb hby d2_2) rfl ?_
    show Steps p.tables e below (s₁.setTop (mkF m 3 #[.val (.long q1), .second, .val (.long q2), .second] [(.int (lcmpW q1 q2))])) _
    exact k
  by_cases hc3_1 : q2 < q1
  · obtain ⟨fs, hr, hrun, hended, hW, hsame⟩ := X0.leave (v := some (.long q2)) (fun h => by rw [Bd.returns] at h; cases h)
    refine ⟨_, _, ?_, hrun, hended, _, _, rfl, ?_, ⟨_, rfl⟩, hW, hsame.mono (by decide) (by decide)⟩
    · show Steps p.tables e below (s₁.setTop (mkF m 3 #[.val (.long q1), .second, .val (.long q2), .second] [(.int (lcmpW q1 q2))])) _
      refine XS.ifYes X0.here hx rfl (pc0 := 3) (pc' := 10) rfl (hb hby d2_3) rfl ((if0 _ _).trans (tlt ((lw_gt q1 q2).mpr hc3_1)).2.2.1) (by decide) (by decide) ?_
      show Steps p.tables e below (s₁.setTop (mkF m 10 #[.val (.long q1), .second, .val (.long q2), .second] [])) _
      refine XS.lloadN X0.here hx rfl (hb hby d2_10) rfl ?_
      show Steps p.tables e below (s₁.setTop (mkF m 11 #[.val (.long q1), .second, .val (.long q2), .second] [(.long q2)])) _
      exact X0.lreturnOut hx Bd.returns (hb hby d2_11) hr
    · show Q2 Z q1 q2 h0 n0 _ s₁.heap _
      exact ⟨_, rfl, (by simp only [if_pos hc3_1]), N0, e0⟩
  · obtain ⟨fs, hr, hrun, hended, hW, hsame⟩ := X0.leave (v := some (.long q1)) (fun h => by rw [Bd.returns] at h; cases h)
    refine ⟨_, _, ?_, hrun, hended, _, _, rfl, ?_, ⟨_, rfl⟩, hW, hsame.mono (by decide) (by decide)⟩
    · show Steps p.tables e below (s₁.setTop (mkF m 3 #[.val (.long q1), .second, .val (.long q2), .second] [(.int (lcmpW q1 q2))])) _
      refine XS.ifNo X0.here hx rfl (hb hby d2_3) rfl ((if0 _ _).trans (flt (fun q => hc3_1 ((lw_gt q1 q2).mp q))).2.2.1) ?_
      show Steps p.tables e below (s₁.setTop (mkF m 6 #[.val (.long q1), .second, .val (.long q2), .second] [])) _
      refine XS.lloadN X0.here hx rfl (hb hby d2_6) rfl ?_
      show Steps p.tables e below (s₁.setTop (mkF m 7 #[.val (.long q1), .second, .val (.long q2), .second] [(.long q1)])) _
      refine XS.goto X0.here hx rfl (pc0 := 7) (pc' := 11) rfl (hb hby d2_7) (by decide) (by decide) ?_
      show Steps p.tables e below (s₁.setTop (mkF m 11 #[.val (.long q1), .second, .val (.long q2), .second] [(.long q1)])) _
      exact X0.lreturnOut hx Bd.returns (hb hby d2_11) hr
    · show Q2 Z q1 q2 h0 n0 _ s₁.heap _
      exact ⟨_, rfl, (by simp only [if_neg hc3_1]), N0, e0⟩
theorem d3_0 : decode jdk_29_method_66_code 0 = .ok (.lload_n 0, 1) := by decide +kernel
theorem d3_1 : decode jdk_29_method_66_code 1 = .ok (.lload_n 2, 1) := by decide +kernel
theorem d3_2 : decode jdk_29_method_66_code 2 = .ok (.lcmp, 1) := by decide +kernel
theorem d3_3 : decode jdk_29_method_66_code 3 = .ok (.ifCond .lt 7, 3) := by decide +kernel
theorem d3_6 : decode jdk_29_method_66_code 6 = .ok (.lload_n 0, 1) := by decide +kernel
theorem d3_7 : decode jdk_29_method_66_code 7 = .ok (.goto 4, 3) := by decide +kernel
theorem d3_10 : decode jdk_29_method_66_code 10 = .ok (.lload_n 2, 1) := by decide +kernel
theorem d3_11 : decode jdk_29_method_66_code 11 = .ok (.lreturn, 1) := by decide +kernel
theorem ef_rm3 (m : MethodId) (q1 : Int64) (q2 : Int64) : entryFrame m #[(.long q1), (.long q2)] 4 = mkF m 0 #[.val (.long q1), .second, .val (.long q2), .second] [] := by first | (simp [entryFrame, mkF, argsToLocals, Value.category]; done) | rfl
def Q3 (Z : State) (q1 : Int64) (q2 : Int64) (h0 : Heap) (n0 : Nat) (v : Option Value) (h : Heap) (L : List Loc) : Prop := ∃ r : Int64, v = some (.long r) ∧ r = (if q1 < q2 then q2 else q1) ∧ Fr n0 L ∧ h = h0
set_option maxRecDepth 65536 in
set_option maxHeartbeats 40000000 in
theorem rm3 (l : Launch) (Z : State) (a0 : Array Value) (hw : ∀ d ∈ tables_1, d.before a0 Z = true) (ws : List Jvm.Cond) (q1 : Int64) (q2 : Int64) (h0 : Heap) (n0 : Nat) (Z0 : n0 ≤ h0.size) :
    MetFree l (⟨"java/lang/Math", "max", "(JJ)J"⟩ : MethodName) (head1 (Jvm.Cond.code (⟨"java/lang/Math", "max", "(JJ)J"⟩ : MethodName) jdk_29_method_66_code 4 (some .long) :: ws) ({ frames := 0, cells := 0, slots := 0, locals := 0 } : Room)) (fun a U => a = #[(.long q1), (.long q2)] ∧ Z.Warmed39 U.vm ∧ U.heap = h0) (fun _ _ _ _ _ => True) (fun _ U o U' => ∃ v L, o = .returned v ∧ Q3 Z q1 q2 h0 n0 v U'.heap L ∧ FrameEnd U o U' L ({ frames := 0, cells := 0, slots := 0, locals := 0 } : Room).cells ({ frames := 0, cells := 0, slots := 0, locals := 0 } : Room).slots) := by
  refine MetFree.of_bodySF (Jvm.Free.JP.mathPlain rfl (by decide +kernel)) hisR ?_
  intro p e s m args below meth c s₁ Bd hml0 hP hK
  obtain ⟨rfl, hZ, hh⟩ := hP
  have hx := Bd.exec
  have hby := Bd.bytes
  have hml : c.maxLocals = 4 := hml0
  have hown : s.vm.findClass "java/lang/Math" = some m.cls := findClass_of_methodNamed Bd.named
  have hnm := (name_of_methodNamed Bd.named Bd.method).1
  have X0 : Stand p l e ({ frames := 0, cells := 0, slots := 0, locals := 0 } : Room) s m #[(.long q1), (.long q2)] below meth c s₁ [] 0 0 := Stand.of_body Bd
  have e0 : s₁.heap = h0 := by rw [← hh, Bd.state]; rfl
  have N0 := Fr.nil n0
  show GoalS p.tables e below s ({ frames := 0, cells := 0, slots := 0, locals := 0 } : Room).cells ({ frames := 0, cells := 0, slots := 0, locals := 0 } : Room).slots (Q3 Z q1 q2 h0 n0) (s₁.setTop (entryFrame m #[(.long q1), (.long q2)] 4))
  refine GoalS.lift (B := s₁.setTop (mkF m 0 #[.val (.long q1), .second, .val (.long q2), .second] [])) (fun t k => castTop (ef_rm3 m q1 q2) k) ?_
  have K0 : Keep h0 h0 [] := Keep.refl _ _
  refine GoalS.lift (B := (s₁.setTop (mkF m 3 #[.val (.long q1), .second, .val (.long q2), .second] [(.int (lcmpW q1 q2))]))) (fun t k => ?_) ?_
  · show Steps p.tables e below (s₁.setTop (mkF m 0 #[.val (.long q1), .second, .val (.long q2), .second] [])) _
    refine XS.lloadN X0.here hx rfl (hb hby d3_0) rfl ?_
    show Steps p.tables e below (s₁.setTop (mkF m 1 #[.val (.long q1), .second, .val (.long q2), .second] [(.long q1)])) _
    refine XS.lloadN X0.here hx rfl (hb hby d3_1) rfl ?_
    show Steps p.tables e below (s₁.setTop (mkF m 2 #[.val (.long q1), .second, .val (.long q2), .second] [(.long q2), (.long q1)])) _
    refine XS.lcmp X0.here hx rfl (hb hby d3_2) rfl ?_
    show Steps p.tables e below (s₁.setTop (mkF m 3 #[.val (.long q1), .second, .val (.long q2), .second] [(.int (lcmpW q1 q2))])) _
    exact k
  by_cases hc3_1 : q1 < q2
  · obtain ⟨fs, hr, hrun, hended, hW, hsame⟩ := X0.leave (v := some (.long q2)) (fun h => by rw [Bd.returns] at h; cases h)
    refine ⟨_, _, ?_, hrun, hended, _, _, rfl, ?_, ⟨_, rfl⟩, hW, hsame.mono (by decide) (by decide)⟩
    · show Steps p.tables e below (s₁.setTop (mkF m 3 #[.val (.long q1), .second, .val (.long q2), .second] [(.int (lcmpW q1 q2))])) _
      refine XS.ifYes X0.here hx rfl (pc0 := 3) (pc' := 10) rfl (hb hby d3_3) rfl ((if0 _ _).trans (tlt ((lw_lt q1 q2).mpr hc3_1)).1) (by decide) (by decide) ?_
      show Steps p.tables e below (s₁.setTop (mkF m 10 #[.val (.long q1), .second, .val (.long q2), .second] [])) _
      refine XS.lloadN X0.here hx rfl (hb hby d3_10) rfl ?_
      show Steps p.tables e below (s₁.setTop (mkF m 11 #[.val (.long q1), .second, .val (.long q2), .second] [(.long q2)])) _
      exact X0.lreturnOut hx Bd.returns (hb hby d3_11) hr
    · show Q3 Z q1 q2 h0 n0 _ s₁.heap _
      exact ⟨_, rfl, (by simp only [if_pos hc3_1]), N0, e0⟩
  · obtain ⟨fs, hr, hrun, hended, hW, hsame⟩ := X0.leave (v := some (.long q1)) (fun h => by rw [Bd.returns] at h; cases h)
    refine ⟨_, _, ?_, hrun, hended, _, _, rfl, ?_, ⟨_, rfl⟩, hW, hsame.mono (by decide) (by decide)⟩
    · show Steps p.tables e below (s₁.setTop (mkF m 3 #[.val (.long q1), .second, .val (.long q2), .second] [(.int (lcmpW q1 q2))])) _
      refine XS.ifNo X0.here hx rfl (hb hby d3_3) rfl ((if0 _ _).trans (flt (fun q => hc3_1 ((lw_lt q1 q2).mp q))).1) ?_
      show Steps p.tables e below (s₁.setTop (mkF m 6 #[.val (.long q1), .second, .val (.long q2), .second] [])) _
      refine XS.lloadN X0.here hx rfl (hb hby d3_6) rfl ?_
      show Steps p.tables e below (s₁.setTop (mkF m 7 #[.val (.long q1), .second, .val (.long q2), .second] [(.long q1)])) _
      refine XS.goto X0.here hx rfl (pc0 := 7) (pc' := 11) rfl (hb hby d3_7) (by decide) (by decide) ?_
      show Steps p.tables e below (s₁.setTop (mkF m 11 #[.val (.long q1), .second, .val (.long q2), .second] [(.long q1)])) _
      exact X0.lreturnOut hx Bd.returns (hb hby d3_11) hr
    · show Q3 Z q1 q2 h0 n0 _ s₁.heap _
      exact ⟨_, rfl, (by simp only [if_neg hc3_1]), N0, e0⟩
theorem pn_1 : plainName "com/example/bit1/bit1/GrowingBloomFilterMostStagesPinLaw" = true := by first | (simp [plainName, overriddenIn]; done) | decide +kernel
theorem pd_0 : parseMethodDescriptor "(J)I" = some ⟨[.long], some .int⟩ := by decide +kernel
theorem pd_1 : parseMethodDescriptor "(JJ)J" = some ⟨[.long, .long], some .long⟩ := by decide +kernel
theorem ef_rm0 (m : MethodId) (q1 : Int64) (p2 : Int32) (p3 : Int32) (p4 : Int32) : entryFrame m #[(.long q1), (.int p2), (.int p3), (.int p4)] maxLocals = mkF m 0 #[.val (.long q1), .second, .val (.int p2), .val (.int p3), .val (.int p4), .unset, .unset, .unset, .unset, .unset] [] := by first | (simp [entryFrame, mkF, argsToLocals, Value.category, maxLocals]; done) | rfl
def Q0 (Z : State) (q1 : Int64) (p2 : Int32) (p3 : Int32) (p4 : Int32) (h0 : Heap) (n0 : Nat) (v : Option Value) (h : Heap) (L : List Loc) : Prop := v = some (.int (1 : Int32)) ∧ Fr n0 L
set_option maxRecDepth 65536 in
set_option maxHeartbeats 40000000 in
theorem rm0 (l : Launch) (Z : State) (a0 : Array Value) (hw : ∀ d ∈ tables_1, d.before a0 Z = true) (ws : List Jvm.Cond) (q1 : Int64) (p2 : Int32) (p3 : Int32) (p4 : Int32) (h0 : Heap) (n0 : Nat) (Z0 : n0 ≤ h0.size) :
    MetFree l x (head1 (Jvm.Cond.code x code maxLocals ret :: ws) room_1) (fun a U => a = #[(.long q1), (.int p2), (.int p3), (.int p4)] ∧ Z.Warmed39 U.vm ∧ U.heap = h0) (fun _ _ _ _ _ => True) (fun _ U o U' => ∃ v L, o = .returned v ∧ Q0 Z q1 p2 p3 p4 h0 n0 v U'.heap L ∧ FrameEnd U o U' L 0 0) := by
  refine MetFree.of_bodySF (plainFor_of_name pn_1) hisR ?_
  intro p e s m args below meth c s₁ Bd hml0 hP hK
  obtain ⟨rfl, hZ, hh⟩ := hP
  have hx := Bd.exec
  have hby := Bd.bytes
  have hml : c.maxLocals = 10 := hml0
  have hown : s.vm.findClass "com/example/bit1/bit1/GrowingBloomFilterMostStagesPinLaw" = some m.cls := findClass_of_methodNamed Bd.named
  have hnm := (name_of_methodNamed Bd.named Bd.method).1
  have X0 : Stand p l e room_1 s m #[(.long q1), (.int p2), (.int p3), (.int p4)] below meth c s₁ [] 0 0 := Stand.of_body Bd
  have e0 : s₁.heap = h0 := by rw [← hh, Bd.state]; rfl
  have N0 := Fr.nil n0
  show GoalS p.tables e below s 0 0 (Q0 Z q1 p2 p3 p4 h0 n0) (s₁.setTop (entryFrame m #[(.long q1), (.int p2), (.int p3), (.int p4)] maxLocals))
  refine GoalS.lift (B := s₁.setTop (mkF m 0 #[.val (.long q1), .second, .val (.int p2), .val (.int p3), .val (.int p4), .unset, .unset, .unset, .unset, .unset] [])) (fun t k => castTop (ef_rm0 m q1 p2 p3 p4) k) ?_
  refine GoalS.lift (B := (s₁.setTop (mkF m 4 #[.val (.long q1), .second, .val (.int p2), .val (.int p3), .val (.int p4), .unset, .unset, .unset, .unset, .unset] [(.int (p4 &&& (1 : Int32)))]))) (fun t k => ?_) ?_
  · show Steps p.tables e below (s₁.setTop (mkF m 0 #[.val (.long q1), .second, .val (.int p2), .val (.int p3), .val (.int p4), .unset, .unset, .unset, .unset, .unset] [])) _
    refine XS.iload X0.here hx rfl (hb hby at_0) rfl ?_
    show Steps p.tables e below (s₁.setTop (mkF m 2 #[.val (.long q1), .second, .val (.int p2), .val (.int p3), .val (.int p4), .unset, .unset, .unset, .unset, .unset] [(.int p4)])) _
    refine XS.iconst X0.here hx rfl (hb hby at_2) ?_
    show Steps p.tables e below (s₁.setTop (mkF m 3 #[.val (.long q1), .second, .val (.int p2), .val (.int p3), .val (.int p4), .unset, .unset, .unset, .unset, .unset] [(.int (1 : Int32)), (.int p4)])) _
    refine XS.iand X0.here hx rfl (hb hby at_3) rfl ?_
    show Steps p.tables e below (s₁.setTop (mkF m 4 #[.val (.long q1), .second, .val (.int p2), .val (.int p3), .val (.int p4), .unset, .unset, .unset, .unset, .unset] [(.int (p4 &&& (1 : Int32)))])) _
    exact k
  by_cases hc4_1 : (p4 &&& (1 : Int32)) = (0 : Int32)
  · obtain ⟨nA, hnA⟩ : ∃ z : Int64, z = (((q1 &&& (9223372036854775807 : Int64)) - ((q1 &&& (9223372036854775807 : Int64)) / (100000000000 : Int64)) * (100000000000 : Int64)) + (1 : Int64)) := ⟨_, rfl⟩
    refine GoalS.lift (B := (s₁.setTop (mkF m 18 #[.val (.long q1), .second, .val (.int p2), .val (.int p3), .val (.int p4), .unset, .unset, .unset, .unset, .unset] [(.long nA)]))) (fun t k => ?_) ?_
    · show Steps p.tables e below (s₁.setTop (mkF m 4 #[.val (.long q1), .second, .val (.int p2), .val (.int p3), .val (.int p4), .unset, .unset, .unset, .unset, .unset] [(.int (p4 &&& (1 : Int32)))])) _
      refine XS.ifNo X0.here hx rfl (hb hby at_4) rfl ((if0 _ _).trans (teq hc4_1).2) ?_
      show Steps p.tables e below (s₁.setTop (mkF m 7 #[.val (.long q1), .second, .val (.int p2), .val (.int p3), .val (.int p4), .unset, .unset, .unset, .unset, .unset] [])) _
      refine XS.lloadN X0.here hx rfl (hb hby at_7) rfl ?_
      show Steps p.tables e below (s₁.setTop (mkF m 8 #[.val (.long q1), .second, .val (.int p2), .val (.int p3), .val (.int p4), .unset, .unset, .unset, .unset, .unset] [(.long q1)])) _
      refine X0.ldc2Long hx hown (mvT hZ (hw _ (List.mem_of_getElem? (i := 0) rfl))) (g := (mkF m 8 #[.val (.long q1), .second, .val (.int p2), .val (.int p3), .val (.int p4), .unset, .unset, .unset, .unset, .unset] [(.long q1)])) rfl (hb hby at_8) _ ?_
      show Steps p.tables e below (s₁.setTop (mkF m 11 #[.val (.long q1), .second, .val (.int p2), .val (.int p3), .val (.int p4), .unset, .unset, .unset, .unset, .unset] [(.long (9223372036854775807 : Int64)), (.long q1)])) _
      refine XS.land X0.here hx rfl (hb hby at_11) rfl ?_
      show Steps p.tables e below (s₁.setTop (mkF m 12 #[.val (.long q1), .second, .val (.int p2), .val (.int p3), .val (.int p4), .unset, .unset, .unset, .unset, .unset] [(.long (q1 &&& (9223372036854775807 : Int64)))])) _
      refine X0.ldc2Long hx hown (mvT hZ (hw _ (List.mem_of_getElem? (i := 1) rfl))) (g := (mkF m 12 #[.val (.long q1), .second, .val (.int p2), .val (.int p3), .val (.int p4), .unset, .unset, .unset, .unset, .unset] [(.long (q1 &&& (9223372036854775807 : Int64)))])) rfl (hb hby at_12) _ ?_
      show Steps p.tables e below (s₁.setTop (mkF m 15 #[.val (.long q1), .second, .val (.int p2), .val (.int p3), .val (.int p4), .unset, .unset, .unset, .unset, .unset] [(.long (100000000000 : Int64)), (.long (q1 &&& (9223372036854775807 : Int64)))])) _
      refine XS.lrem X0.here hx rfl (hb hby at_15) rfl (by decide) ?_
      show Steps p.tables e below (s₁.setTop (mkF m 16 #[.val (.long q1), .second, .val (.int p2), .val (.int p3), .val (.int p4), .unset, .unset, .unset, .unset, .unset] [(.long ((q1 &&& (9223372036854775807 : Int64)) - ((q1 &&& (9223372036854775807 : Int64)) / (100000000000 : Int64)) * (100000000000 : Int64)))])) _
      refine XS.lconst X0.here hx rfl (hb hby at_16) ?_
      show Steps p.tables e below (s₁.setTop (mkF m 17 #[.val (.long q1), .second, .val (.int p2), .val (.int p3), .val (.int p4), .unset, .unset, .unset, .unset, .unset] [(.long (1 : Int64)), (.long ((q1 &&& (9223372036854775807 : Int64)) - ((q1 &&& (9223372036854775807 : Int64)) / (100000000000 : Int64)) * (100000000000 : Int64)))])) _
      refine XS.ladd X0.here hx rfl (hb hby at_17) rfl ?_
      rw [hnA] at k
      exact k
    have hN := own_na hnA
    obtain ⟨_, _, ⟨T2, L2, k2, n2⟩, -, X2, ⟨Lc2, hQ2, l2, y2, z2⟩, st2⟩ := Jvm.LawKit.callS X0 hx (y := (⟨"com/example/bit1/bit1/GrowingBloomFilter", "mostStages", "(J)I"⟩ : MethodName)) hown (mvT hZ (hw _ (List.mem_of_getElem? (i := 2) rfl))) (mvT hZ (hw _ (List.mem_of_getElem? (i := 3) rfl))) (mvT hZ (hw _ (List.mem_of_getElem? (i := 4) rfl))) (mvT hZ (hw _ (List.mem_of_getElem? (i := 5) rfl))) (by decide) (backOf (W := 0) (rm1 l Z a0 hw [] nA h0 n0 Z0 hN) hZ (hw _ (List.mem_of_getElem? (i := 5) rfl)) (hw _ (List.mem_of_getElem? (i := 4) rfl)) (by decide) (by decide)) (g := (mkF m 63 #[.val (.long q1), .second, .val (.int p2), .val (.int p3), .val (.int p4), .val (.long nA), .second, .unset, .unset, .unset] [(.long nA)])) rfl (by rw [hml]; rfl) (argsL := [(.long nA)]) (rest := []) (lenOf pd_0 rfl) rfl (by show 2 * 0 + _ ≤ _; exact Nat.le_of_eq rfl) (hb hby at_63) (fun _ _ => ⟨rfl, e0, (by decide : 0 + 0 ≤ _), (by decide : 0 + 0 ≤ _)⟩)
    dsimp only [Pt.U, Pt.locs, Pt.cells, Pt.slots] at X2 l2 y2 z2 st2 hQ2
    subst l2 y2 z2
    obtain ⟨r2, rfl, hr2, N2q, eq2⟩ := hQ2
    have N2 := Fr.app N0 N2q
    obtain ⟨j, hj36, hrj, hjl, hjg⟩ := hr2
    obtain ⟨fs, hr, hrun, hended, hW, hsame⟩ := X2.leave (v := some (.int (1 : Int32))) (fun h => by rw [Bd.returns] at h; cases h)
    refine ⟨_, _, ?_, hrun, hended, _, _, rfl, ?_, ⟨_, rfl⟩, hW, hsame.mono (by decide) (by decide)⟩
    · show Steps p.tables e below (s₁.setTop (mkF m 18 #[.val (.long q1), .second, .val (.int p2), .val (.int p3), .val (.int p4), .unset, .unset, .unset, .unset, .unset] [(.long nA)])) _
      refine XS.lstore X0.here hx rfl (hb hby at_18) rfl (l' := #[.val (.long q1), .second, .val (.int p2), .val (.int p3), .val (.int p4), .val (.long nA), .second, .unset, .unset, .unset]) rfl ?_
      show Steps p.tables e below (s₁.setTop (mkF m 20 #[.val (.long q1), .second, .val (.int p2), .val (.int p3), .val (.int p4), .val (.long nA), .second, .unset, .unset, .unset] [])) _
      refine XS.goto X0.here hx rfl (pc0 := 20) (pc' := 61) rfl (hb hby at_20) (by decide) (by decide) ?_
      show Steps p.tables e below (s₁.setTop (mkF m 61 #[.val (.long q1), .second, .val (.int p2), .val (.int p3), .val (.int p4), .val (.long nA), .second, .unset, .unset, .unset] [])) _
      refine XS.lload X0.here hx rfl (hb hby at_61) rfl ?_
      show Steps p.tables e below (s₁.setTop (mkF m 63 #[.val (.long q1), .second, .val (.int p2), .val (.int p3), .val (.int p4), .val (.long nA), .second, .unset, .unset, .unset] [(.long nA)])) _
      refine st2 _ ?_
      show Steps p.tables e below (T2.setTop (mkF m 66 #[.val (.long q1), .second, .val (.int p2), .val (.int p3), .val (.int p4), .val (.long nA), .second, .unset, .unset, .unset] [(.int r2)])) _
      refine XS.istore X2.here hx rfl (hb hby at_66) rfl (l' := #[.val (.long q1), .second, .val (.int p2), .val (.int p3), .val (.int p4), .val (.long nA), .second, .val (.int r2), .unset, .unset]) rfl ?_
      show Steps p.tables e below (T2.setTop (mkF m 68 #[.val (.long q1), .second, .val (.int p2), .val (.int p3), .val (.int p4), .val (.long nA), .second, .val (.int r2), .unset, .unset] [])) _
      refine XS.iload X2.here hx rfl (hb hby at_68) rfl ?_
      show Steps p.tables e below (T2.setTop (mkF m 70 #[.val (.long q1), .second, .val (.int p2), .val (.int p3), .val (.int p4), .val (.long nA), .second, .val (.int r2), .unset, .unset] [(.int r2)])) _
      refine XS.iconst X2.here hx rfl (hb hby at_70) ?_
      show Steps p.tables e below (T2.setTop (mkF m 71 #[.val (.long q1), .second, .val (.int p2), .val (.int p3), .val (.int p4), .val (.long nA), .second, .val (.int r2), .unset, .unset] [(.int (1 : Int32)), (.int r2)])) _
      refine XS.icmpNo X2.here hx rfl (hb hby at_71) rfl ((flt ((own_r1 hj36 hrj).1 : ¬ (r2 < (1 : Int32)))).1) ?_
      show Steps p.tables e below (T2.setTop (mkF m 74 #[.val (.long q1), .second, .val (.int p2), .val (.int p3), .val (.int p4), .val (.long nA), .second, .val (.int r2), .unset, .unset] [])) _
      refine XS.iload X2.here hx rfl (hb hby at_74) rfl ?_
      show Steps p.tables e below (T2.setTop (mkF m 76 #[.val (.long q1), .second, .val (.int p2), .val (.int p3), .val (.int p4), .val (.long nA), .second, .val (.int r2), .unset, .unset] [(.int r2)])) _
      refine XS.bipush X2.here hx rfl (hb hby at_76) ?_
      show Steps p.tables e below (T2.setTop (mkF m 78 #[.val (.long q1), .second, .val (.int p2), .val (.int p3), .val (.int p4), .val (.long nA), .second, .val (.int r2), .unset, .unset] [(.int (37 : Int32)), (.int r2)])) _
      refine XS.icmpYes X2.here hx rfl (pc0 := 78) (pc' := 83) rfl (hb hby at_78) rfl ((flt ((own_r1 hj36 hrj).2 : ¬ ((37 : Int32) < r2))).2.2.2) (by decide) (by decide) ?_
      show Steps p.tables e below (T2.setTop (mkF m 83 #[.val (.long q1), .second, .val (.int p2), .val (.int p3), .val (.int p4), .val (.long nA), .second, .val (.int r2), .unset, .unset] [])) _
      refine XS.lload X2.here hx rfl (hb hby at_83) rfl ?_
      show Steps p.tables e below (T2.setTop (mkF m 85 #[.val (.long q1), .second, .val (.int p2), .val (.int p3), .val (.int p4), .val (.long nA), .second, .val (.int r2), .unset, .unset] [(.long nA)])) _
      refine X2.ldc2Long hx hown (mvT hZ (hw _ (List.mem_of_getElem? (i := 1) rfl))) (g := (mkF m 85 #[.val (.long q1), .second, .val (.int p2), .val (.int p3), .val (.int p4), .val (.long nA), .second, .val (.int r2), .unset, .unset] [(.long nA)])) rfl (hb hby at_85) _ ?_
      show Steps p.tables e below (T2.setTop (mkF m 88 #[.val (.long q1), .second, .val (.int p2), .val (.int p3), .val (.int p4), .val (.long nA), .second, .val (.int r2), .unset, .unset] [(.long (100000000000 : Int64)), (.long nA)])) _
      refine XS.iload X2.here hx rfl (hb hby at_88) rfl ?_
      show Steps p.tables e below (T2.setTop (mkF m 90 #[.val (.long q1), .second, .val (.int p2), .val (.int p3), .val (.int p4), .val (.long nA), .second, .val (.int r2), .unset, .unset] [(.int r2), (.long (100000000000 : Int64)), (.long nA)])) _
      refine XS.iconst X2.here hx rfl (hb hby at_90) ?_
      show Steps p.tables e below (T2.setTop (mkF m 91 #[.val (.long q1), .second, .val (.int p2), .val (.int p3), .val (.int p4), .val (.long nA), .second, .val (.int r2), .unset, .unset] [(.int (1 : Int32)), (.int r2), (.long (100000000000 : Int64)), (.long nA)])) _
      refine XS.isub X2.here hx rfl (hb hby at_91) rfl ?_
      show Steps p.tables e below (T2.setTop (mkF m 92 #[.val (.long q1), .second, .val (.int p2), .val (.int p3), .val (.int p4), .val (.long nA), .second, .val (.int r2), .unset, .unset] [(.int (r2 - (1 : Int32))), (.long (100000000000 : Int64)), (.long nA)])) _
      refine XS.lshr X2.here hx rfl (hb hby at_92) rfl ?_
      show Steps p.tables e below (T2.setTop (mkF m 93 #[.val (.long q1), .second, .val (.int p2), .val (.int p3), .val (.int p4), .val (.long nA), .second, .val (.int r2), .unset, .unset] [(.long (((100000000000 : Int64) >>> ((r2 - (1 : Int32)) &&& 0x3f).toInt64))), (.long nA)])) _
      refine XS.lcmp X2.here hx rfl (hb hby at_93) rfl ?_
      show Steps p.tables e below (T2.setTop (mkF m 94 #[.val (.long q1), .second, .val (.int p2), .val (.int p3), .val (.int p4), .val (.long nA), .second, .val (.int r2), .unset, .unset] [(.int (lcmpW nA (((100000000000 : Int64) >>> ((r2 - (1 : Int32)) &&& 0x3f).toInt64))))])) _
      refine XS.ifNo X2.here hx rfl (hb hby at_94) rfl ((if0 _ _).trans (flt (fun q => (own_le hj36 hrj hjl hN.2 : ¬ ((((100000000000 : Int64) >>> ((r2 - (1 : Int32)) &&& 0x3f).toInt64)) < nA)) ((lw_gt nA (((100000000000 : Int64) >>> ((r2 - (1 : Int32)) &&& 0x3f).toInt64))).mp q))).2.2.1) ?_
      show Steps p.tables e below (T2.setTop (mkF m 97 #[.val (.long q1), .second, .val (.int p2), .val (.int p3), .val (.int p4), .val (.long nA), .second, .val (.int r2), .unset, .unset] [])) _
      refine XS.lload X2.here hx rfl (hb hby at_97) rfl ?_
      show Steps p.tables e below (T2.setTop (mkF m 99 #[.val (.long q1), .second, .val (.int p2), .val (.int p3), .val (.int p4), .val (.long nA), .second, .val (.int r2), .unset, .unset] [(.long nA)])) _
      refine X2.ldc2Long hx hown (mvT hZ (hw _ (List.mem_of_getElem? (i := 1) rfl))) (g := (mkF m 99 #[.val (.long q1), .second, .val (.int p2), .val (.int p3), .val (.int p4), .val (.long nA), .second, .val (.int r2), .unset, .unset] [(.long nA)])) rfl (hb hby at_99) _ ?_
      show Steps p.tables e below (T2.setTop (mkF m 102 #[.val (.long q1), .second, .val (.int p2), .val (.int p3), .val (.int p4), .val (.long nA), .second, .val (.int r2), .unset, .unset] [(.long (100000000000 : Int64)), (.long nA)])) _
      refine XS.iload X2.here hx rfl (hb hby at_102) rfl ?_
      show Steps p.tables e below (T2.setTop (mkF m 104 #[.val (.long q1), .second, .val (.int p2), .val (.int p3), .val (.int p4), .val (.long nA), .second, .val (.int r2), .unset, .unset] [(.int r2), (.long (100000000000 : Int64)), (.long nA)])) _
      refine XS.lshr X2.here hx rfl (hb hby at_104) rfl ?_
      show Steps p.tables e below (T2.setTop (mkF m 105 #[.val (.long q1), .second, .val (.int p2), .val (.int p3), .val (.int p4), .val (.long nA), .second, .val (.int r2), .unset, .unset] [(.long (((100000000000 : Int64) >>> (r2 &&& 0x3f).toInt64))), (.long nA)])) _
      refine XS.lcmp X2.here hx rfl (hb hby at_105) rfl ?_
      show Steps p.tables e below (T2.setTop (mkF m 106 #[.val (.long q1), .second, .val (.int p2), .val (.int p3), .val (.int p4), .val (.long nA), .second, .val (.int r2), .unset, .unset] [(.int (lcmpW nA (((100000000000 : Int64) >>> (r2 &&& 0x3f).toInt64))))])) _
      refine XS.ifNo X2.here hx rfl (hb hby at_106) rfl ((if0 _ _).trans (tlt ((lw_gt nA (((100000000000 : Int64) >>> (r2 &&& 0x3f).toInt64))).mpr (own_gt hj36 hrj hjg : (((100000000000 : Int64) >>> (r2 &&& 0x3f).toInt64)) < nA))).2.2.2) ?_
      show Steps p.tables e below (T2.setTop (mkF m 109 #[.val (.long q1), .second, .val (.int p2), .val (.int p3), .val (.int p4), .val (.long nA), .second, .val (.int r2), .unset, .unset] [])) _
      refine XS.iconst X2.here hx rfl (hb hby at_109) ?_
      show Steps p.tables e below (T2.setTop (mkF m 110 #[.val (.long q1), .second, .val (.int p2), .val (.int p3), .val (.int p4), .val (.long nA), .second, .val (.int r2), .unset, .unset] [(.int (1 : Int32))])) _
      refine XS.goto X2.here hx rfl (pc0 := 110) (pc' := 114) rfl (hb hby at_110) (by decide) (by decide) ?_
      show Steps p.tables e below (T2.setTop (mkF m 114 #[.val (.long q1), .second, .val (.int p2), .val (.int p3), .val (.int p4), .val (.long nA), .second, .val (.int r2), .unset, .unset] [(.int (1 : Int32))])) _
      exact retN X2 hx (t := .boolean) Bd.returns (by simp) (hb hby at_114) hr
    · exact ⟨rfl, N2⟩
  · obtain ⟨_, _, ⟨T3, L3, k3, n3⟩, -, X3, ⟨Lc3, hQ3, l3, y3, z3⟩, st3⟩ := Jvm.LawKit.callS X0 hx (y := (⟨"java/lang/Math", "min", "(JJ)J"⟩ : MethodName)) hown (mvT hZ (hw _ (List.mem_of_getElem? (i := 8) rfl))) (mvT hZ (hw _ (List.mem_of_getElem? (i := 9) rfl))) (mvT hZ (hw _ (List.mem_of_getElem? (i := 10) rfl))) (mvT hZ (hw _ (List.mem_of_getElem? (i := 11) rfl))) (by decide) (backOf (W := 2) (rm2 l Z a0 hw [] (100000000000 : Int64) ((((100000000000 : Int64) >>> (((p2 &&& (63 : Int32)) % (38 : Int32)) &&& 0x3f).toInt64)) + ((((p3 &&& (3 : Int32))).toInt64) - (1 : Int64))) h0 n0 Z0) hZ (hw _ (List.mem_of_getElem? (i := 11) rfl)) (hw _ (List.mem_of_getElem? (i := 10) rfl)) (by decide) (by decide)) (g := (mkF m 53 #[.val (.long q1), .second, .val (.int p2), .val (.int p3), .val (.int p4), .unset, .unset, .val (.int ((p2 &&& (63 : Int32)) % (38 : Int32))), .val (.long ((((p3 &&& (3 : Int32))).toInt64) - (1 : Int64))), .second] [(.long ((((100000000000 : Int64) >>> (((p2 &&& (63 : Int32)) % (38 : Int32)) &&& 0x3f).toInt64)) + ((((p3 &&& (3 : Int32))).toInt64) - (1 : Int64)))), (.long (100000000000 : Int64)), (.long (1 : Int64))])) rfl (by rw [hml]; rfl) (argsL := [(.long (100000000000 : Int64)), (.long ((((100000000000 : Int64) >>> (((p2 &&& (63 : Int32)) % (38 : Int32)) &&& 0x3f).toInt64)) + ((((p3 &&& (3 : Int32))).toInt64) - (1 : Int64))))]) (rest := [(.long (1 : Int64))]) (lenOf pd_1 rfl) rfl (by show 2 * 0 + _ ≤ _; exact Nat.le_of_eq rfl) (hb hby at_53) (fun _ _ => ⟨rfl, e0, (by decide : 0 + 0 ≤ _), (by decide : 0 + 0 ≤ _)⟩)
    dsimp only [Pt.U, Pt.locs, Pt.cells, Pt.slots] at X3 l3 y3 z3 st3 hQ3
    subst l3 y3 z3
    obtain ⟨r3, rfl, hr3, N3q, eq3⟩ := hQ3
    have N3 := Fr.app N0 N3q
    obtain ⟨_, _, ⟨T4, L4, k4, n4⟩, -, X4, ⟨Lc4, hQ4, l4, y4, z4⟩, st4⟩ := Jvm.LawKit.callS X3 hx (y := (⟨"java/lang/Math", "max", "(JJ)J"⟩ : MethodName)) hown (mvT hZ (hw _ (List.mem_of_getElem? (i := 12) rfl))) (mvT hZ (hw _ (List.mem_of_getElem? (i := 13) rfl))) (mvT hZ (hw _ (List.mem_of_getElem? (i := 10) rfl))) (mvT hZ (hw _ (List.mem_of_getElem? (i := 14) rfl))) (by decide) (backOf (W := 0) (rm3 l Z a0 hw [] (1 : Int64) r3 h0 n0 Z0) hZ (hw _ (List.mem_of_getElem? (i := 14) rfl)) (hw _ (List.mem_of_getElem? (i := 10) rfl)) (by decide) (by decide)) (g := (mkF m 56 #[.val (.long q1), .second, .val (.int p2), .val (.int p3), .val (.int p4), .unset, .unset, .val (.int ((p2 &&& (63 : Int32)) % (38 : Int32))), .val (.long ((((p3 &&& (3 : Int32))).toInt64) - (1 : Int64))), .second] [(.long r3), (.long (1 : Int64))])) rfl (by rw [hml]; rfl) (argsL := [(.long (1 : Int64)), (.long r3)]) (rest := []) (lenOf pd_1 rfl) rfl (by show 2 * 0 + _ ≤ _; exact Nat.le_of_eq rfl) (hb hby at_56) (fun _ _ => ⟨rfl, eq3, (by decide : 0 + 0 ≤ _), (by decide : 0 + 0 ≤ _)⟩)
    dsimp only [Pt.U, Pt.locs, Pt.cells, Pt.slots] at X4 l4 y4 z4 st4 hQ4
    subst l4 y4 z4
    obtain ⟨r4, rfl, hr4, N4q, eq4⟩ := hQ4
    have N4 := Fr.app N3 N4q
    have hN := own_nb (by first | exact Or.inr hr3 | exact Or.inl hr3) hr4
    obtain ⟨_, _, ⟨T5, L5, k5, n5⟩, -, X5, ⟨Lc5, hQ5, l5, y5, z5⟩, st5⟩ := Jvm.LawKit.callS X4 hx (y := (⟨"com/example/bit1/bit1/GrowingBloomFilter", "mostStages", "(J)I"⟩ : MethodName)) hown (mvT hZ (hw _ (List.mem_of_getElem? (i := 2) rfl))) (mvT hZ (hw _ (List.mem_of_getElem? (i := 3) rfl))) (mvT hZ (hw _ (List.mem_of_getElem? (i := 4) rfl))) (mvT hZ (hw _ (List.mem_of_getElem? (i := 5) rfl))) (by decide) (backOf (W := 0) (rm1 l Z a0 hw [] r4 h0 n0 Z0 hN) hZ (hw _ (List.mem_of_getElem? (i := 5) rfl)) (hw _ (List.mem_of_getElem? (i := 4) rfl)) (by decide) (by decide)) (g := (mkF m 63 #[.val (.long q1), .second, .val (.int p2), .val (.int p3), .val (.int p4), .val (.long r4), .second, .val (.int ((p2 &&& (63 : Int32)) % (38 : Int32))), .val (.long ((((p3 &&& (3 : Int32))).toInt64) - (1 : Int64))), .second] [(.long r4)])) rfl (by rw [hml]; rfl) (argsL := [(.long r4)]) (rest := []) (lenOf pd_0 rfl) rfl (by show 2 * 0 + _ ≤ _; exact Nat.le_of_eq rfl) (hb hby at_63) (fun _ _ => ⟨rfl, eq4, (by decide : 0 + 0 ≤ _), (by decide : 0 + 0 ≤ _)⟩)
    dsimp only [Pt.U, Pt.locs, Pt.cells, Pt.slots] at X5 l5 y5 z5 st5 hQ5
    subst l5 y5 z5
    obtain ⟨r5, rfl, hr5, N5q, eq5⟩ := hQ5
    have N5 := Fr.app N4 N5q
    obtain ⟨j, hj36, hrj, hjl, hjg⟩ := hr5
    obtain ⟨fs, hr, hrun, hended, hW, hsame⟩ := X5.leave (v := some (.int (1 : Int32))) (fun h => by rw [Bd.returns] at h; cases h)
    refine ⟨_, _, ?_, hrun, hended, _, _, rfl, ?_, ⟨_, rfl⟩, hW, hsame.mono (by decide) (by decide)⟩
    · show Steps p.tables e below (s₁.setTop (mkF m 4 #[.val (.long q1), .second, .val (.int p2), .val (.int p3), .val (.int p4), .unset, .unset, .unset, .unset, .unset] [(.int (p4 &&& (1 : Int32)))])) _
      refine XS.ifYes X0.here hx rfl (pc0 := 4) (pc' := 23) rfl (hb hby at_4) rfl ((if0 _ _).trans (feq hc4_1).2) (by decide) (by decide) ?_
      show Steps p.tables e below (s₁.setTop (mkF m 23 #[.val (.long q1), .second, .val (.int p2), .val (.int p3), .val (.int p4), .unset, .unset, .unset, .unset, .unset] [])) _
      refine XS.iloadN X0.here hx rfl (hb hby at_23) rfl ?_
      show Steps p.tables e below (s₁.setTop (mkF m 24 #[.val (.long q1), .second, .val (.int p2), .val (.int p3), .val (.int p4), .unset, .unset, .unset, .unset, .unset] [(.int p2)])) _
      refine XS.bipush X0.here hx rfl (hb hby at_24) ?_
      show Steps p.tables e below (s₁.setTop (mkF m 26 #[.val (.long q1), .second, .val (.int p2), .val (.int p3), .val (.int p4), .unset, .unset, .unset, .unset, .unset] [(.int (63 : Int32)), (.int p2)])) _
      refine XS.iand X0.here hx rfl (hb hby at_26) rfl ?_
      show Steps p.tables e below (s₁.setTop (mkF m 27 #[.val (.long q1), .second, .val (.int p2), .val (.int p3), .val (.int p4), .unset, .unset, .unset, .unset, .unset] [(.int (p2 &&& (63 : Int32)))])) _
      refine XS.bipush X0.here hx rfl (hb hby at_27) ?_
      show Steps p.tables e below (s₁.setTop (mkF m 29 #[.val (.long q1), .second, .val (.int p2), .val (.int p3), .val (.int p4), .unset, .unset, .unset, .unset, .unset] [(.int (38 : Int32)), (.int (p2 &&& (63 : Int32)))])) _
      refine iremM X0 hx rfl (hb hby at_29) rfl (by decide) ?_
      show Steps p.tables e below (s₁.setTop (mkF m 30 #[.val (.long q1), .second, .val (.int p2), .val (.int p3), .val (.int p4), .unset, .unset, .unset, .unset, .unset] [(.int ((p2 &&& (63 : Int32)) % (38 : Int32)))])) _
      refine XS.istore X0.here hx rfl (hb hby at_30) rfl (l' := #[.val (.long q1), .second, .val (.int p2), .val (.int p3), .val (.int p4), .unset, .unset, .val (.int ((p2 &&& (63 : Int32)) % (38 : Int32))), .unset, .unset]) rfl ?_
      show Steps p.tables e below (s₁.setTop (mkF m 32 #[.val (.long q1), .second, .val (.int p2), .val (.int p3), .val (.int p4), .unset, .unset, .val (.int ((p2 &&& (63 : Int32)) % (38 : Int32))), .unset, .unset] [])) _
      refine XS.iloadN X0.here hx rfl (hb hby at_32) rfl ?_
      show Steps p.tables e below (s₁.setTop (mkF m 33 #[.val (.long q1), .second, .val (.int p2), .val (.int p3), .val (.int p4), .unset, .unset, .val (.int ((p2 &&& (63 : Int32)) % (38 : Int32))), .unset, .unset] [(.int p3)])) _
      refine XS.iconst X0.here hx rfl (hb hby at_33) ?_
      show Steps p.tables e below (s₁.setTop (mkF m 34 #[.val (.long q1), .second, .val (.int p2), .val (.int p3), .val (.int p4), .unset, .unset, .val (.int ((p2 &&& (63 : Int32)) % (38 : Int32))), .unset, .unset] [(.int (3 : Int32)), (.int p3)])) _
      refine XS.iand X0.here hx rfl (hb hby at_34) rfl ?_
      show Steps p.tables e below (s₁.setTop (mkF m 35 #[.val (.long q1), .second, .val (.int p2), .val (.int p3), .val (.int p4), .unset, .unset, .val (.int ((p2 &&& (63 : Int32)) % (38 : Int32))), .unset, .unset] [(.int (p3 &&& (3 : Int32)))])) _
      refine XS.i2l X0.here hx rfl (hb hby at_35) rfl ?_
      show Steps p.tables e below (s₁.setTop (mkF m 36 #[.val (.long q1), .second, .val (.int p2), .val (.int p3), .val (.int p4), .unset, .unset, .val (.int ((p2 &&& (63 : Int32)) % (38 : Int32))), .unset, .unset] [(.long (((p3 &&& (3 : Int32))).toInt64))])) _
      refine XS.lconst X0.here hx rfl (hb hby at_36) ?_
      show Steps p.tables e below (s₁.setTop (mkF m 37 #[.val (.long q1), .second, .val (.int p2), .val (.int p3), .val (.int p4), .unset, .unset, .val (.int ((p2 &&& (63 : Int32)) % (38 : Int32))), .unset, .unset] [(.long (1 : Int64)), (.long (((p3 &&& (3 : Int32))).toInt64))])) _
      refine XS.lsub X0.here hx rfl (hb hby at_37) rfl ?_
      show Steps p.tables e below (s₁.setTop (mkF m 38 #[.val (.long q1), .second, .val (.int p2), .val (.int p3), .val (.int p4), .unset, .unset, .val (.int ((p2 &&& (63 : Int32)) % (38 : Int32))), .unset, .unset] [(.long ((((p3 &&& (3 : Int32))).toInt64) - (1 : Int64)))])) _
      refine XS.lstore X0.here hx rfl (hb hby at_38) rfl (l' := #[.val (.long q1), .second, .val (.int p2), .val (.int p3), .val (.int p4), .unset, .unset, .val (.int ((p2 &&& (63 : Int32)) % (38 : Int32))), .val (.long ((((p3 &&& (3 : Int32))).toInt64) - (1 : Int64))), .second]) rfl ?_
      show Steps p.tables e below (s₁.setTop (mkF m 40 #[.val (.long q1), .second, .val (.int p2), .val (.int p3), .val (.int p4), .unset, .unset, .val (.int ((p2 &&& (63 : Int32)) % (38 : Int32))), .val (.long ((((p3 &&& (3 : Int32))).toInt64) - (1 : Int64))), .second] [])) _
      refine XS.lconst X0.here hx rfl (hb hby at_40) ?_
      show Steps p.tables e below (s₁.setTop (mkF m 41 #[.val (.long q1), .second, .val (.int p2), .val (.int p3), .val (.int p4), .unset, .unset, .val (.int ((p2 &&& (63 : Int32)) % (38 : Int32))), .val (.long ((((p3 &&& (3 : Int32))).toInt64) - (1 : Int64))), .second] [(.long (1 : Int64))])) _
      refine X0.ldc2Long hx hown (mvT hZ (hw _ (List.mem_of_getElem? (i := 1) rfl))) (g := (mkF m 41 #[.val (.long q1), .second, .val (.int p2), .val (.int p3), .val (.int p4), .unset, .unset, .val (.int ((p2 &&& (63 : Int32)) % (38 : Int32))), .val (.long ((((p3 &&& (3 : Int32))).toInt64) - (1 : Int64))), .second] [(.long (1 : Int64))])) rfl (hb hby at_41) _ ?_
      show Steps p.tables e below (s₁.setTop (mkF m 44 #[.val (.long q1), .second, .val (.int p2), .val (.int p3), .val (.int p4), .unset, .unset, .val (.int ((p2 &&& (63 : Int32)) % (38 : Int32))), .val (.long ((((p3 &&& (3 : Int32))).toInt64) - (1 : Int64))), .second] [(.long (100000000000 : Int64)), (.long (1 : Int64))])) _
      refine X0.ldc2Long hx hown (mvT hZ (hw _ (List.mem_of_getElem? (i := 1) rfl))) (g := (mkF m 44 #[.val (.long q1), .second, .val (.int p2), .val (.int p3), .val (.int p4), .unset, .unset, .val (.int ((p2 &&& (63 : Int32)) % (38 : Int32))), .val (.long ((((p3 &&& (3 : Int32))).toInt64) - (1 : Int64))), .second] [(.long (100000000000 : Int64)), (.long (1 : Int64))])) rfl (hb hby at_44) _ ?_
      show Steps p.tables e below (s₁.setTop (mkF m 47 #[.val (.long q1), .second, .val (.int p2), .val (.int p3), .val (.int p4), .unset, .unset, .val (.int ((p2 &&& (63 : Int32)) % (38 : Int32))), .val (.long ((((p3 &&& (3 : Int32))).toInt64) - (1 : Int64))), .second] [(.long (100000000000 : Int64)), (.long (100000000000 : Int64)), (.long (1 : Int64))])) _
      refine XS.iload X0.here hx rfl (hb hby at_47) rfl ?_
      show Steps p.tables e below (s₁.setTop (mkF m 49 #[.val (.long q1), .second, .val (.int p2), .val (.int p3), .val (.int p4), .unset, .unset, .val (.int ((p2 &&& (63 : Int32)) % (38 : Int32))), .val (.long ((((p3 &&& (3 : Int32))).toInt64) - (1 : Int64))), .second] [(.int ((p2 &&& (63 : Int32)) % (38 : Int32))), (.long (100000000000 : Int64)), (.long (100000000000 : Int64)), (.long (1 : Int64))])) _
      refine XS.lshr X0.here hx rfl (hb hby at_49) rfl ?_
      show Steps p.tables e below (s₁.setTop (mkF m 50 #[.val (.long q1), .second, .val (.int p2), .val (.int p3), .val (.int p4), .unset, .unset, .val (.int ((p2 &&& (63 : Int32)) % (38 : Int32))), .val (.long ((((p3 &&& (3 : Int32))).toInt64) - (1 : Int64))), .second] [(.long (((100000000000 : Int64) >>> (((p2 &&& (63 : Int32)) % (38 : Int32)) &&& 0x3f).toInt64))), (.long (100000000000 : Int64)), (.long (1 : Int64))])) _
      refine XS.lload X0.here hx rfl (hb hby at_50) rfl ?_
      show Steps p.tables e below (s₁.setTop (mkF m 52 #[.val (.long q1), .second, .val (.int p2), .val (.int p3), .val (.int p4), .unset, .unset, .val (.int ((p2 &&& (63 : Int32)) % (38 : Int32))), .val (.long ((((p3 &&& (3 : Int32))).toInt64) - (1 : Int64))), .second] [(.long ((((p3 &&& (3 : Int32))).toInt64) - (1 : Int64))), (.long (((100000000000 : Int64) >>> (((p2 &&& (63 : Int32)) % (38 : Int32)) &&& 0x3f).toInt64))), (.long (100000000000 : Int64)), (.long (1 : Int64))])) _
      refine XS.ladd X0.here hx rfl (hb hby at_52) rfl ?_
      show Steps p.tables e below (s₁.setTop (mkF m 53 #[.val (.long q1), .second, .val (.int p2), .val (.int p3), .val (.int p4), .unset, .unset, .val (.int ((p2 &&& (63 : Int32)) % (38 : Int32))), .val (.long ((((p3 &&& (3 : Int32))).toInt64) - (1 : Int64))), .second] [(.long ((((100000000000 : Int64) >>> (((p2 &&& (63 : Int32)) % (38 : Int32)) &&& 0x3f).toInt64)) + ((((p3 &&& (3 : Int32))).toInt64) - (1 : Int64)))), (.long (100000000000 : Int64)), (.long (1 : Int64))])) _
      refine st3 _ ?_
      show Steps p.tables e below (T3.setTop (mkF m 56 #[.val (.long q1), .second, .val (.int p2), .val (.int p3), .val (.int p4), .unset, .unset, .val (.int ((p2 &&& (63 : Int32)) % (38 : Int32))), .val (.long ((((p3 &&& (3 : Int32))).toInt64) - (1 : Int64))), .second] [(.long r3), (.long (1 : Int64))])) _
      refine st4 _ ?_
      show Steps p.tables e below (T4.setTop (mkF m 59 #[.val (.long q1), .second, .val (.int p2), .val (.int p3), .val (.int p4), .unset, .unset, .val (.int ((p2 &&& (63 : Int32)) % (38 : Int32))), .val (.long ((((p3 &&& (3 : Int32))).toInt64) - (1 : Int64))), .second] [(.long r4)])) _
      refine XS.lstore X4.here hx rfl (hb hby at_59) rfl (l' := #[.val (.long q1), .second, .val (.int p2), .val (.int p3), .val (.int p4), .val (.long r4), .second, .val (.int ((p2 &&& (63 : Int32)) % (38 : Int32))), .val (.long ((((p3 &&& (3 : Int32))).toInt64) - (1 : Int64))), .second]) rfl ?_
      show Steps p.tables e below (T4.setTop (mkF m 61 #[.val (.long q1), .second, .val (.int p2), .val (.int p3), .val (.int p4), .val (.long r4), .second, .val (.int ((p2 &&& (63 : Int32)) % (38 : Int32))), .val (.long ((((p3 &&& (3 : Int32))).toInt64) - (1 : Int64))), .second] [])) _
      refine XS.lload X4.here hx rfl (hb hby at_61) rfl ?_
      show Steps p.tables e below (T4.setTop (mkF m 63 #[.val (.long q1), .second, .val (.int p2), .val (.int p3), .val (.int p4), .val (.long r4), .second, .val (.int ((p2 &&& (63 : Int32)) % (38 : Int32))), .val (.long ((((p3 &&& (3 : Int32))).toInt64) - (1 : Int64))), .second] [(.long r4)])) _
      refine st5 _ ?_
      show Steps p.tables e below (T5.setTop (mkF m 66 #[.val (.long q1), .second, .val (.int p2), .val (.int p3), .val (.int p4), .val (.long r4), .second, .val (.int ((p2 &&& (63 : Int32)) % (38 : Int32))), .val (.long ((((p3 &&& (3 : Int32))).toInt64) - (1 : Int64))), .second] [(.int r5)])) _
      refine XS.istore X5.here hx rfl (hb hby at_66) rfl (l' := #[.val (.long q1), .second, .val (.int p2), .val (.int p3), .val (.int p4), .val (.long r4), .second, .val (.int r5), .val (.long ((((p3 &&& (3 : Int32))).toInt64) - (1 : Int64))), .second]) rfl ?_
      show Steps p.tables e below (T5.setTop (mkF m 68 #[.val (.long q1), .second, .val (.int p2), .val (.int p3), .val (.int p4), .val (.long r4), .second, .val (.int r5), .val (.long ((((p3 &&& (3 : Int32))).toInt64) - (1 : Int64))), .second] [])) _
      refine XS.iload X5.here hx rfl (hb hby at_68) rfl ?_
      show Steps p.tables e below (T5.setTop (mkF m 70 #[.val (.long q1), .second, .val (.int p2), .val (.int p3), .val (.int p4), .val (.long r4), .second, .val (.int r5), .val (.long ((((p3 &&& (3 : Int32))).toInt64) - (1 : Int64))), .second] [(.int r5)])) _
      refine XS.iconst X5.here hx rfl (hb hby at_70) ?_
      show Steps p.tables e below (T5.setTop (mkF m 71 #[.val (.long q1), .second, .val (.int p2), .val (.int p3), .val (.int p4), .val (.long r4), .second, .val (.int r5), .val (.long ((((p3 &&& (3 : Int32))).toInt64) - (1 : Int64))), .second] [(.int (1 : Int32)), (.int r5)])) _
      refine XS.icmpNo X5.here hx rfl (hb hby at_71) rfl ((flt ((own_r1 hj36 hrj).1 : ¬ (r5 < (1 : Int32)))).1) ?_
      show Steps p.tables e below (T5.setTop (mkF m 74 #[.val (.long q1), .second, .val (.int p2), .val (.int p3), .val (.int p4), .val (.long r4), .second, .val (.int r5), .val (.long ((((p3 &&& (3 : Int32))).toInt64) - (1 : Int64))), .second] [])) _
      refine XS.iload X5.here hx rfl (hb hby at_74) rfl ?_
      show Steps p.tables e below (T5.setTop (mkF m 76 #[.val (.long q1), .second, .val (.int p2), .val (.int p3), .val (.int p4), .val (.long r4), .second, .val (.int r5), .val (.long ((((p3 &&& (3 : Int32))).toInt64) - (1 : Int64))), .second] [(.int r5)])) _
      refine XS.bipush X5.here hx rfl (hb hby at_76) ?_
      show Steps p.tables e below (T5.setTop (mkF m 78 #[.val (.long q1), .second, .val (.int p2), .val (.int p3), .val (.int p4), .val (.long r4), .second, .val (.int r5), .val (.long ((((p3 &&& (3 : Int32))).toInt64) - (1 : Int64))), .second] [(.int (37 : Int32)), (.int r5)])) _
      refine XS.icmpYes X5.here hx rfl (pc0 := 78) (pc' := 83) rfl (hb hby at_78) rfl ((flt ((own_r1 hj36 hrj).2 : ¬ ((37 : Int32) < r5))).2.2.2) (by decide) (by decide) ?_
      show Steps p.tables e below (T5.setTop (mkF m 83 #[.val (.long q1), .second, .val (.int p2), .val (.int p3), .val (.int p4), .val (.long r4), .second, .val (.int r5), .val (.long ((((p3 &&& (3 : Int32))).toInt64) - (1 : Int64))), .second] [])) _
      refine XS.lload X5.here hx rfl (hb hby at_83) rfl ?_
      show Steps p.tables e below (T5.setTop (mkF m 85 #[.val (.long q1), .second, .val (.int p2), .val (.int p3), .val (.int p4), .val (.long r4), .second, .val (.int r5), .val (.long ((((p3 &&& (3 : Int32))).toInt64) - (1 : Int64))), .second] [(.long r4)])) _
      refine X5.ldc2Long hx hown (mvT hZ (hw _ (List.mem_of_getElem? (i := 1) rfl))) (g := (mkF m 85 #[.val (.long q1), .second, .val (.int p2), .val (.int p3), .val (.int p4), .val (.long r4), .second, .val (.int r5), .val (.long ((((p3 &&& (3 : Int32))).toInt64) - (1 : Int64))), .second] [(.long r4)])) rfl (hb hby at_85) _ ?_
      show Steps p.tables e below (T5.setTop (mkF m 88 #[.val (.long q1), .second, .val (.int p2), .val (.int p3), .val (.int p4), .val (.long r4), .second, .val (.int r5), .val (.long ((((p3 &&& (3 : Int32))).toInt64) - (1 : Int64))), .second] [(.long (100000000000 : Int64)), (.long r4)])) _
      refine XS.iload X5.here hx rfl (hb hby at_88) rfl ?_
      show Steps p.tables e below (T5.setTop (mkF m 90 #[.val (.long q1), .second, .val (.int p2), .val (.int p3), .val (.int p4), .val (.long r4), .second, .val (.int r5), .val (.long ((((p3 &&& (3 : Int32))).toInt64) - (1 : Int64))), .second] [(.int r5), (.long (100000000000 : Int64)), (.long r4)])) _
      refine XS.iconst X5.here hx rfl (hb hby at_90) ?_
      show Steps p.tables e below (T5.setTop (mkF m 91 #[.val (.long q1), .second, .val (.int p2), .val (.int p3), .val (.int p4), .val (.long r4), .second, .val (.int r5), .val (.long ((((p3 &&& (3 : Int32))).toInt64) - (1 : Int64))), .second] [(.int (1 : Int32)), (.int r5), (.long (100000000000 : Int64)), (.long r4)])) _
      refine XS.isub X5.here hx rfl (hb hby at_91) rfl ?_
      show Steps p.tables e below (T5.setTop (mkF m 92 #[.val (.long q1), .second, .val (.int p2), .val (.int p3), .val (.int p4), .val (.long r4), .second, .val (.int r5), .val (.long ((((p3 &&& (3 : Int32))).toInt64) - (1 : Int64))), .second] [(.int (r5 - (1 : Int32))), (.long (100000000000 : Int64)), (.long r4)])) _
      refine XS.lshr X5.here hx rfl (hb hby at_92) rfl ?_
      show Steps p.tables e below (T5.setTop (mkF m 93 #[.val (.long q1), .second, .val (.int p2), .val (.int p3), .val (.int p4), .val (.long r4), .second, .val (.int r5), .val (.long ((((p3 &&& (3 : Int32))).toInt64) - (1 : Int64))), .second] [(.long (((100000000000 : Int64) >>> ((r5 - (1 : Int32)) &&& 0x3f).toInt64))), (.long r4)])) _
      refine XS.lcmp X5.here hx rfl (hb hby at_93) rfl ?_
      show Steps p.tables e below (T5.setTop (mkF m 94 #[.val (.long q1), .second, .val (.int p2), .val (.int p3), .val (.int p4), .val (.long r4), .second, .val (.int r5), .val (.long ((((p3 &&& (3 : Int32))).toInt64) - (1 : Int64))), .second] [(.int (lcmpW r4 (((100000000000 : Int64) >>> ((r5 - (1 : Int32)) &&& 0x3f).toInt64))))])) _
      refine XS.ifNo X5.here hx rfl (hb hby at_94) rfl ((if0 _ _).trans (flt (fun q => (own_le hj36 hrj hjl hN.2 : ¬ ((((100000000000 : Int64) >>> ((r5 - (1 : Int32)) &&& 0x3f).toInt64)) < r4)) ((lw_gt r4 (((100000000000 : Int64) >>> ((r5 - (1 : Int32)) &&& 0x3f).toInt64))).mp q))).2.2.1) ?_
      show Steps p.tables e below (T5.setTop (mkF m 97 #[.val (.long q1), .second, .val (.int p2), .val (.int p3), .val (.int p4), .val (.long r4), .second, .val (.int r5), .val (.long ((((p3 &&& (3 : Int32))).toInt64) - (1 : Int64))), .second] [])) _
      refine XS.lload X5.here hx rfl (hb hby at_97) rfl ?_
      show Steps p.tables e below (T5.setTop (mkF m 99 #[.val (.long q1), .second, .val (.int p2), .val (.int p3), .val (.int p4), .val (.long r4), .second, .val (.int r5), .val (.long ((((p3 &&& (3 : Int32))).toInt64) - (1 : Int64))), .second] [(.long r4)])) _
      refine X5.ldc2Long hx hown (mvT hZ (hw _ (List.mem_of_getElem? (i := 1) rfl))) (g := (mkF m 99 #[.val (.long q1), .second, .val (.int p2), .val (.int p3), .val (.int p4), .val (.long r4), .second, .val (.int r5), .val (.long ((((p3 &&& (3 : Int32))).toInt64) - (1 : Int64))), .second] [(.long r4)])) rfl (hb hby at_99) _ ?_
      show Steps p.tables e below (T5.setTop (mkF m 102 #[.val (.long q1), .second, .val (.int p2), .val (.int p3), .val (.int p4), .val (.long r4), .second, .val (.int r5), .val (.long ((((p3 &&& (3 : Int32))).toInt64) - (1 : Int64))), .second] [(.long (100000000000 : Int64)), (.long r4)])) _
      refine XS.iload X5.here hx rfl (hb hby at_102) rfl ?_
      show Steps p.tables e below (T5.setTop (mkF m 104 #[.val (.long q1), .second, .val (.int p2), .val (.int p3), .val (.int p4), .val (.long r4), .second, .val (.int r5), .val (.long ((((p3 &&& (3 : Int32))).toInt64) - (1 : Int64))), .second] [(.int r5), (.long (100000000000 : Int64)), (.long r4)])) _
      refine XS.lshr X5.here hx rfl (hb hby at_104) rfl ?_
      show Steps p.tables e below (T5.setTop (mkF m 105 #[.val (.long q1), .second, .val (.int p2), .val (.int p3), .val (.int p4), .val (.long r4), .second, .val (.int r5), .val (.long ((((p3 &&& (3 : Int32))).toInt64) - (1 : Int64))), .second] [(.long (((100000000000 : Int64) >>> (r5 &&& 0x3f).toInt64))), (.long r4)])) _
      refine XS.lcmp X5.here hx rfl (hb hby at_105) rfl ?_
      show Steps p.tables e below (T5.setTop (mkF m 106 #[.val (.long q1), .second, .val (.int p2), .val (.int p3), .val (.int p4), .val (.long r4), .second, .val (.int r5), .val (.long ((((p3 &&& (3 : Int32))).toInt64) - (1 : Int64))), .second] [(.int (lcmpW r4 (((100000000000 : Int64) >>> (r5 &&& 0x3f).toInt64))))])) _
      refine XS.ifNo X5.here hx rfl (hb hby at_106) rfl ((if0 _ _).trans (tlt ((lw_gt r4 (((100000000000 : Int64) >>> (r5 &&& 0x3f).toInt64))).mpr (own_gt hj36 hrj hjg : (((100000000000 : Int64) >>> (r5 &&& 0x3f).toInt64)) < r4))).2.2.2) ?_
      show Steps p.tables e below (T5.setTop (mkF m 109 #[.val (.long q1), .second, .val (.int p2), .val (.int p3), .val (.int p4), .val (.long r4), .second, .val (.int r5), .val (.long ((((p3 &&& (3 : Int32))).toInt64) - (1 : Int64))), .second] [])) _
      refine XS.iconst X5.here hx rfl (hb hby at_109) ?_
      show Steps p.tables e below (T5.setTop (mkF m 110 #[.val (.long q1), .second, .val (.int p2), .val (.int p3), .val (.int p4), .val (.long r4), .second, .val (.int r5), .val (.long ((((p3 &&& (3 : Int32))).toInt64) - (1 : Int64))), .second] [(.int (1 : Int32))])) _
      refine XS.goto X5.here hx rfl (pc0 := 110) (pc' := 114) rfl (hb hby at_110) (by decide) (by decide) ?_
      show Steps p.tables e below (T5.setTop (mkF m 114 #[.val (.long q1), .second, .val (.int p2), .val (.int p3), .val (.int p4), .val (.long r4), .second, .val (.int r5), .val (.long ((((p3 &&& (3 : Int32))).toInt64) - (1 : Int64))), .second] [(.int (1 : Int32))])) _
      exact retN X5 hx (t := .boolean) Bd.returns (by simp) (hb hby at_114) hr
    · exact ⟨rfl, N5⟩
set_option maxRecDepth 65536 in
set_option maxHeartbeats 40000000 in
theorem comes_1 {Post : Tables → Env → Array Value → State → Outcome → State → Prop} (hpost : ∀ tb e args s v u, (limb_1_1.after args s (.returned v) u = true ∧ limb_1_2.after args s (.returned v) u = true ∧ True) → FrameEnd s (.returned v) u (Jvm.fieldLocs frame_1_writes args s ++ Jvm.arrayLocs frame_1_arrays args s ++ Jvm.staticLocs frame_1_statics s) 0 0 → Post tb e args s (.returned v) u) :
    ArmFor flags0 classFile x code maxLocals ret World_1 tables_1 room_1 Calls_1 rest_1 Pre_1 Post := by
  intro l hfl _ _ p e ha hc hk s m args below hf hA hF happ hP
  obtain ⟨hcalls, hrest, hpre⟩ := hP
  obtain ⟨-, -, -, hnamed, -, -, -, hat⟩ := (Spec.applies_iff hf).mp happ
  obtain ⟨hg, hn⟩ := and_e (Cond.before_iff.mp (show (Jvm.Cond.and given_1 narrow_1).before args s = true from hpre))
  obtain ⟨g1, g2⟩ := and_e hg
  obtain ⟨g3, g4⟩ := and_e g2
  obtain ⟨g5, g6⟩ := and_e g4
  obtain ⟨g7, g8⟩ := and_e g6
  obtain ⟨w0, w1, w2, w3, rfl⟩ : ∃ w0 w1 w2 w3 : Value, args = #[w0, w1, w2, w3] := by
    have hs : args.size = 4 := by simpa [Cond.value, given_1] using g1
    obtain ⟨L⟩ := args
    match L, hs with
    | [w0, w1, w2, w3], _ => exact ⟨w0, w1, w2, w3, rfl⟩
  have hw := fun d (hd : d ∈ tables_1) => atoms_spec (ws := Jvm.Cond.code x code maxLocals ret :: tables_1) hat d (List.mem_cons_of_mem _ hd)
  have hfit : Fit s := fun {y c} hc i hi => by
    obtain ⟨ha, rfl⟩ := Array.getElem?_eq_some_iff.mp hc
    have q := List.all_eq_true.mp ((Array.all_eq_true_iff_forall_mem.mp hF) _ (Array.getElem_mem ha)) i (List.mem_range.mpr hi)
    simpa [Array.getElem?_eq_getElem hi] using q
  obtain ⟨i0, ei0⟩ := isL_v g3
  obtain rfl : w0 = (.long i0) := Option.some.inj ei0
  obtain ⟨i1, ei1⟩ := is_v g5
  obtain rfl : w1 = (.int i1) := Option.some.inj ei1
  obtain ⟨i2, ei2⟩ := is_v g7
  obtain rfl : w2 = (.int i2) := Option.some.inj ei2
  obtain ⟨i3, ei3⟩ := is_v g8
  obtain rfl : w3 = (.int i3) := Option.some.inj ei3
  obtain ⟨n, o, h1, h2, h3, _, L, rfl, ⟨rfl, N⟩, hq⟩ := rm0 l s _ hw tables_1 i0 i1 i2 i3  s.heap s.heap.size (Nat.le_refl _)  p e ha hc hk s m _ below hf ((Spec.applies_iff_loose hf).mp happ).1 ⟨rfl, State.Warmed39.refl s, rfl⟩ trivial
  refine ⟨n, _, h1, h2, h3, hpost _ _ _ _ _ _ ⟨Cond.after_iff.mpr rfl, Cond.after_iff.mpr (eq_i res_at (Term.int_eval (1)) rfl), trivial⟩ ⟨hq.1, hq.2.1, (hq.2.2.sift fun y hy => Or.inr (N y hy)).mono (by decide) (by decide)⟩⟩
theorem main_1_1 : Claimed_1_1 := comes_1 fun _ _ _ _ _ _ h hF => ⟨h.1, hF⟩
theorem main_1_2 : Claimed_1_2 := comes_1 fun _ _ _ _ _ _ h hF => ⟨h.2.1, hF⟩
end Jvm.Pilot.@@N@@
namespace Jvm.Pilot.@@N@@
open Jvm Jvm.ClassFile Sem Op Lib Jvm.Free Jvm.Stand Jvm.Pilot.@@N@@.Jvm.D
/-! MADE BY PROGRAM (witnessworld.py) out of the Statement's table words and the real class files: 11 classes; the members and pool entries that the words name. The judged class is class 1, her method 1. -/
namespace start1
open Jvm.ClassFile
def u (s : String) : CpInfo := .utf8 (stringToUtf16 s)
/-- a pool by its gaps: so many unusable entries, then the entry; so many at the end -/
def gap : Nat → List CpInfo → List CpInfo
  | 0, r => r
  | n + 1, r => .unusable :: gap n r
def poolList (es : List (Nat × CpInfo)) (last : Nat) : List CpInfo := es.foldr (fun e r => gap e.1 (e.2 :: r)) (gap last [])
def pool (es : List (Nat × CpInfo)) (last : Nat) : Array CpInfo := ⟨poolList es last⟩
def fileOf (pool : Array CpInfo) (this : Nat) (attrs : Array Attribute := #[]) (ms : Array MethodInfo := #[]) (fl : Nat := 33) (sup : Nat := 0) (ifs : Array Nat := #[]) (fds : Array FieldInfo := #[]) : ClassFile where
  minorVersion := 0
  majorVersion := 65
  constantPool := pool
  accessFlags := fl
  thisClass := this
  superClass := sup
  interfaces := ifs
  fields := fds
  methods := ms
  attributes := attrs
def plain (name : String) (sup : Option ClassId) : Class where
  name := name
  kind := .ordinary
  loader := none
  accessFlags := 33
  super := sup
  interfaces := #[]
  cf := none
  fields := #[]
  methods := #[]
  instanceTypes := #[]
  staticTypes := #[]
  resolved := #[]
  callSites := []
  init := .initialized
  statics := none
  mirror := none

def pool0 : Array CpInfo := pool [(5, u "<init>"), (0, u "()V"), (1, .class_ 10), (1, u "java/lang/Object")] 113

def k0m0 : Method := { name := "<init>", desc := "()V", sig := { parameters := [], returnType := none }, accessFlags := 1, code := none }
/-- java/lang/Object -/
def k0 : Class := { plain "java/lang/Object" none with
  accessFlags := 33
  interfaces := #[]
  cf := some (fileOf pool0 8 #[] #[{ accessFlags := 1, nameIndex := 5, descriptorIndex := 6, attributes := #[] }] 33 0 #[] #[])
  fields := #[]
  methods := #[k0m0]
  instanceTypes := #[]
  staticTypes := #[]
  resolved := Array.replicate 124 none
  statics := none }

def pool1 : Array CpInfo := pool [(2, .class_ 4), (1, u "java/lang/Object"), (0, u "<init>"), (0, u "()V"), (2, .long 9223372036854775807), (1, .long 100000000000), (1, .methodref 14 15), (0, .class_ 16), (0, .nameAndType 17 18), (0, u "java/lang/Math"), (0, u "min"), (0, u "(JJ)J"), (0, .methodref 14 20), (0, .nameAndType 21 18), (0, u "max"), (0, .methodref 23 24), (0, .class_ 25), (0, .nameAndType 26 27), (0, u "com/example/bit1/bit1/GrowingBloomFilter"), (0, u "mostStages"), (0, u "(J)I"), (0, .class_ 29), (0, u "com/example/bit1/bit1/GrowingBloomFilterMostStagesPinLaw"), (2, u "law"), (0, u "(JIII)Z")] 3

def k1m0 : Method := { name := "<init>", desc := "()V", sig := { parameters := [], returnType := none }, accessFlags := 2, code := none }
def k1c1 : Code := { maxStack := 8, maxLocals := 10, code := code, exceptionTable := #[], attributes := #[] }
def k1m1 : Method := { name := "law", desc := "(JIII)Z", sig := { parameters := [.long, .int, .int, .int], returnType := some .boolean }, accessFlags := 9, code := some k1c1 }
/-- com/example/bit1/bit1/GrowingBloomFilterMostStagesPinLaw -/
def k1 : Class := { plain "com/example/bit1/bit1/GrowingBloomFilterMostStagesPinLaw" (some 0) with
  accessFlags := 49
  interfaces := #[]
  cf := some (fileOf pool1 28 #[] #[{ accessFlags := 2, nameIndex := 5, descriptorIndex := 6, attributes := #[] }, { accessFlags := 9, nameIndex := 32, descriptorIndex := 33, attributes := #[] }] 49 2 #[] #[])
  fields := #[]
  methods := #[k1m0, k1m1]
  instanceTypes := #[]
  staticTypes := #[]
  resolved := Array.replicate 37 none
  statics := none }

def pool2 : Array CpInfo := pool [(20, .class_ 22), (1, u "com/example/bit1/bit1/Filter"), (33, .class_ 57), (0, u "java/lang/Object")] 18

/-- com/example/bit1/bit1/Filter -/
def k2 : Class := { plain "com/example/bit1/bit1/Filter" (some 0) with
  accessFlags := 1537
  interfaces := #[]
  cf := some (fileOf pool2 20 #[] #[] 1537 56 #[] #[])
  fields := #[]
  methods := #[]
  instanceTypes := #[]
  staticTypes := #[]
  resolved := Array.replicate 76 none
  statics := none }

def pool3 : Array CpInfo := pool [(2, .class_ 4), (1, u "com/example/bit1/bit1/GrowingBloomFilter"), (16, .class_ 23), (1, u "java/lang/Object"), (3, u "growth"), (0, u "Ljava/lang/Object;"), (2, u "expectedKeys"), (0, u "J"), (2, u "falsePositiveRate"), (0, u "D"), (2, u "forOneThread"), (0, u "Z"), (7, u "keysAdded"), (0, u "Lcom/example/bit1/bit1/KeyCount;"), (0, .class_ 51), (0, u "com/example/bit1/bit1/GrowingBloomFilter$Stage"), (5, u "[Lcom/example/bit1/bit1/GrowingBloomFilter$Stage;"), (2, u "stages"), (69, .long 50000000000), (1, .long 2), (80, .class_ 214), (0, u "com/example/bit1/bit1/Filter"), (0, u "FIRST_STAGE_SHARE"), (0, u "I"), (2, u "GROWTH"), (0, u "TIGHTENING"), (16, u "mostStages"), (0, u "(J)I")] 26

def k3c0 : Code := { maxStack := 4, maxLocals := 5, code := prog_17_method_19_code, exceptionTable := #[], attributes := #[] }
def k3m0 : Method := { name := "mostStages", desc := "(J)I", sig := { parameters := [.long], returnType := some .int }, accessFlags := 8, code := some k3c0 }
/-- com/example/bit1/bit1/GrowingBloomFilter -/
def k3 : Class := { plain "com/example/bit1/bit1/GrowingBloomFilter" (some 0) with
  accessFlags := 49
  interfaces := #[2]
  cf := some (fileOf pool3 2 #[.nestMembers #[50]] #[{ accessFlags := 8, nameIndex := 237, descriptorIndex := 238, attributes := #[] }] 49 21 #[213] #[{ accessFlags := 26, nameIndex := 215, descriptorIndex := 216, attributes := #[] }, { accessFlags := 26, nameIndex := 219, descriptorIndex := 32, attributes := #[] }, { accessFlags := 26, nameIndex := 220, descriptorIndex := 36, attributes := #[] }, { accessFlags := 18, nameIndex := 31, descriptorIndex := 32, attributes := #[] }, { accessFlags := 18, nameIndex := 35, descriptorIndex := 36, attributes := #[] }, { accessFlags := 18, nameIndex := 39, descriptorIndex := 40, attributes := #[] }, { accessFlags := 18, nameIndex := 48, descriptorIndex := 49, attributes := #[] }, { accessFlags := 18, nameIndex := 27, descriptorIndex := 28, attributes := #[] }, { accessFlags := 66, nameIndex := 60, descriptorIndex := 57, attributes := #[] }])
  fields := #[{ name := "FIRST_STAGE_SHARE", type := .int, accessFlags := 26, slot := 0, constantValue := 0 }, { name := "GROWTH", type := .long, accessFlags := 26, slot := 1, constantValue := 0 }, { name := "TIGHTENING", type := .double, accessFlags := 26, slot := 2, constantValue := 0 }, { name := "expectedKeys", type := .long, accessFlags := 18, slot := 0, constantValue := 0 }, { name := "falsePositiveRate", type := .double, accessFlags := 18, slot := 1, constantValue := 0 }, { name := "forOneThread", type := .boolean, accessFlags := 18, slot := 2, constantValue := 0 }, { name := "keysAdded", type := (.object "com/example/bit1/bit1/KeyCount"), accessFlags := 18, slot := 3, constantValue := 0 }, { name := "growth", type := (.object "java/lang/Object"), accessFlags := 18, slot := 4, constantValue := 0 }, { name := "stages", type := (.array (.object "com/example/bit1/bit1/GrowingBloomFilter$Stage")), accessFlags := 66, slot := 5, constantValue := 0 }]
  methods := #[k3m0]
  instanceTypes := #[.long, .double, .boolean, (.object "com/example/bit1/bit1/KeyCount"), (.object "java/lang/Object"), (.array (.object "com/example/bit1/bit1/GrowingBloomFilter$Stage"))]
  staticTypes := #[.int, .long, .double]
  resolved := Array.replicate 265 none
  statics := none }

def pool4 : Array CpInfo := pool [(1, .class_ 2), (0, u "java/lang/Math"), (1, .class_ 6), (1, u "java/lang/Object"), (0, u "<init>"), (0, u "()V"), (89, .class_ 100), (1, u "java/lang/Math$RandomNumberGeneratorHolder"), (20, u "(JJ)J"), (50, u "negativeZeroFloatBits"), (0, u "J"), (2, u "negativeZeroDoubleBits"), (21, u "max"), (2, u "min"), (43, u "$assertionsDisabled"), (0, u "Z"), (91, u "twoToTheDoubleScaleDown"), (0, u "D"), (4, u "twoToTheDoubleScaleUp"), (9, u "E"), (3, u "PI"), (2, u "TAU"), (2, u "DEGREES_TO_RADIANS"), (0, u "RADIANS_TO_DEGREES")] 94

def k4m0 : Method := { name := "<init>", desc := "()V", sig := { parameters := [], returnType := none }, accessFlags := 2, code := none }
def k4c1 : Code := { maxStack := 4, maxLocals := 4, code := jdk_29_method_66_code, exceptionTable := #[], attributes := #[] }
def k4m1 : Method := { name := "max", desc := "(JJ)J", sig := { parameters := [.long, .long], returnType := some .long }, accessFlags := 9, code := some k4c1 }
def k4c2 : Code := { maxStack := 4, maxLocals := 4, code := jdk_29_method_70_code, exceptionTable := #[], attributes := #[] }
def k4m2 : Method := { name := "min", desc := "(JJ)J", sig := { parameters := [.long, .long], returnType := some .long }, accessFlags := 9, code := some k4c2 }
/-- java/lang/Math -/
def k4 : Class := { plain "java/lang/Math" (some 0) with
  accessFlags := 49
  interfaces := #[]
  cf := some (fileOf pool4 1 #[.nestMembers #[98]] #[{ accessFlags := 2, nameIndex := 7, descriptorIndex := 8, attributes := #[] }, { accessFlags := 9, nameIndex := 198, descriptorIndex := 121, attributes := #[] }, { accessFlags := 9, nameIndex := 201, descriptorIndex := 121, attributes := #[] }] 49 4 #[] #[{ accessFlags := 25, nameIndex := 354, descriptorIndex := 339, attributes := #[] }, { accessFlags := 25, nameIndex := 358, descriptorIndex := 339, attributes := #[] }, { accessFlags := 25, nameIndex := 361, descriptorIndex := 339, attributes := #[] }, { accessFlags := 26, nameIndex := 364, descriptorIndex := 339, attributes := #[] }, { accessFlags := 26, nameIndex := 365, descriptorIndex := 339, attributes := #[] }, { accessFlags := 26, nameIndex := 172, descriptorIndex := 173, attributes := #[] }, { accessFlags := 26, nameIndex := 176, descriptorIndex := 173, attributes := #[] }, { accessFlags := 8, nameIndex := 344, descriptorIndex := 339, attributes := #[] }, { accessFlags := 8, nameIndex := 338, descriptorIndex := 339, attributes := #[] }, { accessFlags := 4120, nameIndex := 245, descriptorIndex := 246, attributes := #[] }])
  fields := #[{ name := "E", type := .double, accessFlags := 25, slot := 0, constantValue := 0 }, { name := "PI", type := .double, accessFlags := 25, slot := 1, constantValue := 0 }, { name := "TAU", type := .double, accessFlags := 25, slot := 2, constantValue := 0 }, { name := "DEGREES_TO_RADIANS", type := .double, accessFlags := 26, slot := 3, constantValue := 0 }, { name := "RADIANS_TO_DEGREES", type := .double, accessFlags := 26, slot := 4, constantValue := 0 }, { name := "negativeZeroFloatBits", type := .long, accessFlags := 26, slot := 5, constantValue := 0 }, { name := "negativeZeroDoubleBits", type := .long, accessFlags := 26, slot := 6, constantValue := 0 }, { name := "twoToTheDoubleScaleUp", type := .double, accessFlags := 8, slot := 7, constantValue := 0 }, { name := "twoToTheDoubleScaleDown", type := .double, accessFlags := 8, slot := 8, constantValue := 0 }, { name := "$assertionsDisabled", type := .boolean, accessFlags := 4120, slot := 9, constantValue := 0 }]
  methods := #[k4m0, k4m1, k4m2]
  instanceTypes := #[]
  staticTypes := #[.double, .double, .double, .double, .double, .long, .long, .double, .double, .boolean]
  resolved := Array.replicate 460 none
  statics := none }

def pool5 : Array CpInfo := pool [(1, u "java/lang/Cloneable"), (0, .class_ 1), (0, u "java/lang/Object"), (0, .class_ 3)] 3

/-- java/lang/Cloneable -/
def k5 : Class := { plain "java/lang/Cloneable" (some 0) with
  accessFlags := 1537
  interfaces := #[]
  cf := some (fileOf pool5 2 #[] #[] 1537 4 #[] #[])
  fields := #[]
  methods := #[]
  instanceTypes := #[]
  staticTypes := #[]
  resolved := Array.replicate 8 none
  statics := none }

def pool6 : Array CpInfo := pool [(1, u "java/io/Serializable"), (0, .class_ 1), (0, u "java/lang/Object"), (0, .class_ 3)] 3

/-- java/io/Serializable -/
def k6 : Class := { plain "java/io/Serializable" (some 0) with
  accessFlags := 1537
  interfaces := #[]
  cf := some (fileOf pool6 2 #[] #[] 1537 4 #[] #[])
  fields := #[]
  methods := #[]
  instanceTypes := #[]
  staticTypes := #[]
  resolved := Array.replicate 8 none
  statics := none }

/-- the primitive byte -/
def k7 : Class := { plain "byte" none with kind := .primitive 'B', accessFlags := 0x411 }
/-- [B -/
def k8 : Class := { plain "[B" (some 0) with kind := .array 7 .byte, interfaces := #[5, 6], accessFlags := 1041 }

/-- the primitive int -/
def k9 : Class := { plain "int" none with kind := .primitive 'I', accessFlags := 0x411 }
/-- [I -/
def k10 : Class := { plain "[I" (some 0) with kind := .array 9 .int, interfaces := #[5, 6], accessFlags := 1041 }

def heap : Heap := #[]
def classes : Array Class := #[k0, k1, k2, k3, k4, k5, k6, k7, k8, k9, k10]
def interned : List (Array UInt16 × Addr) := []
def slotsUsed : Nat := 0
def theMethod : MethodId := ⟨1, 1⟩
def args0 : Array Value := #[.long 5, .int 6, .int 7, .int 2]
def aboutOver (below : List Frame) : State where
  vm := { classes := classes, interned := interned.toArray }
  heap := heap
  slotsUsed := slotsUsed
  threads := #[{ frames := .invoking theMethod args0 :: below }]
def below0 : List Frame := [.native { method := ⟨0, 0⟩, args := #[] }]
def about1 : State := aboutOver below0
def p0 : Program := .bare "" "" ""
def e0 : Env := launch0.env 0 0 0
theorem w_frames : about1.frames = Frame.invoking theMethod args0 :: below0 := rfl
set_option maxRecDepth 65536 in
theorem w_args : argsFit about1.vm theMethod args0 = true := by decide +kernel
set_option maxRecDepth 65536 in
theorem w_heap : heapFits about1 = true := by decide +kernel
set_option maxRecDepth 65536 in
theorem w_runnable : about1.curStatus? = some .runnable := by decide +kernel
set_option maxRecDepth 65536 in
theorem w_alone : about1.alone = true := by decide +kernel
set_option maxRecDepth 65536 in
theorem w_named : about1.methodNamed? x = some theMethod := by decide +kernel
set_option maxRecDepth 65536 in
theorem w_hears : about1.hears theMethod below0 = true := by decide +kernel
set_option maxRecDepth 65536 in
theorem w_ripe : about1.ripe theMethod args0 below0 = true := by decide +kernel
theorem w_running : about1.status = .running := rfl
set_option maxRecDepth 65536 in
theorem w_room : about1.hasRoom e0.platform room_1 = true :=
  launch0.hasRoom_least _ room_1 (by decide +kernel) (by decide +kernel) (by decide +kernel) (by decide +kernel) (by decide +kernel) (by decide +kernel)
theorem allAtoms_all (ts : List Jvm.Cond) (a : Array Jvm.Value) (st : Jvm.State) : (allAtoms ts).before a st = ts.all (fun c => c.before a st) := by
  induction ts with
  | nil => rfl
  | cons c t ih =>
    show (Jvm.Cond.and c (allAtoms t)).before a st = _
    rw [Jvm.Cond.before_and, ih, List.all_cons]
def words1 : List Jvm.Cond := Jvm.Cond.code x code maxLocals ret :: tables_1
/-- a 'code' word, met by the world's own term for the bytes: nothing is compared byte by byte -/
theorem code_word {y : MethodName} {bytes : ByteArray} {mx : Nat} {rt : Option FieldType} {a : Array Value} {s : State} {m : MethodId} {meth : Method} {c : Code} (h1 : s.methodNamed? y = some m) (h2 : s.vm.method? m = some meth) (h3 : meth.code = some c) (h4 : c.code = bytes)
    (h5 : (c.maxLocals == mx && c.exceptionTable.isEmpty && decide (c.maxStack ≤ mostOperands) && decide (meth.sig.returnType = rt) && !meth.locks && decide (parseMethodDescriptor y.desc = some meth.sig)) = true) : (Jvm.Cond.code y bytes mx rt).before a s = true := by
  simp only [Bool.and_eq_true, beq_iff_eq, Bool.not_eq_true', decide_eq_true_eq] at h5
  obtain ⟨⟨⟨⟨⟨g1, g2⟩, g3⟩, g4⟩, g5⟩, g6⟩ := h5
  simp [Cond.before, Cond.holds, Cond.value, h1, h2, h3, h4, g1, g2, g3, g4, g5, g6]
def isCode : Jvm.Cond → Bool
  | .code _ _ _ _ => true
  | _ => false
theorem all_split {L : List Jvm.Cond} {P : Jvm.Cond → Bool} (h1 : L.all (fun c => isCode c || P c) = true) (h2 : ∀ c ∈ L.filter isCode, P c = true) : L.all P = true := by
  refine List.all_eq_true.mpr fun c hc => ?_
  have h := List.all_eq_true.mp h1 c hc
  rcases Bool.eq_false_or_eq_true (isCode c) with hi | hi
  · exact h2 c (List.mem_filter.mpr ⟨hc, hi⟩)
  · simpa [hi] using h
set_option maxRecDepth 65536 in
theorem w_c0 : (Jvm.Cond.code x code maxLocals ret).before args0 about1 = true := code_word (m := ⟨1, 1⟩) (meth := k1m1) (c := k1c1) (by decide +kernel) rfl rfl rfl (by decide +kernel)
set_option maxRecDepth 65536 in
theorem w_c1 : (Jvm.Cond.code ({ cls := "com/example/bit1/bit1/GrowingBloomFilter", name := "mostStages", desc := "(J)I" } : Jvm.MethodName) prog_17_method_19_code (5 : Nat) (Option.some Jvm.ClassFile.FieldType.int)).before args0 about1 = true := code_word (m := ⟨3, 0⟩) (meth := k3m0) (c := k3c0) (by decide +kernel) rfl rfl rfl (by decide +kernel)
set_option maxRecDepth 65536 in
theorem w_c2 : (Jvm.Cond.code ({ cls := "java/lang/Math", name := "min", desc := "(JJ)J" } : Jvm.MethodName) jdk_29_method_70_code (4 : Nat) (Option.some Jvm.ClassFile.FieldType.long)).before args0 about1 = true := code_word (m := ⟨4, 2⟩) (meth := k4m2) (c := k4c2) (by decide +kernel) rfl rfl rfl (by decide +kernel)
set_option maxRecDepth 65536 in
theorem w_c3 : (Jvm.Cond.code ({ cls := "java/lang/Math", name := "max", desc := "(JJ)J" } : Jvm.MethodName) jdk_29_method_66_code (4 : Nat) (Option.some Jvm.ClassFile.FieldType.long)).before args0 about1 = true := code_word (m := ⟨4, 1⟩) (meth := k4m1) (c := k4c1) (by decide +kernel) rfl rfl rfl (by decide +kernel)
def codes1 : List Jvm.Cond := [Jvm.Cond.code x code maxLocals ret, Jvm.Cond.code ({ cls := "com/example/bit1/bit1/GrowingBloomFilter", name := "mostStages", desc := "(J)I" } : Jvm.MethodName) prog_17_method_19_code (5 : Nat) (Option.some Jvm.ClassFile.FieldType.int), Jvm.Cond.code ({ cls := "java/lang/Math", name := "min", desc := "(JJ)J" } : Jvm.MethodName) jdk_29_method_70_code (4 : Nat) (Option.some Jvm.ClassFile.FieldType.long), Jvm.Cond.code ({ cls := "java/lang/Math", name := "max", desc := "(JJ)J" } : Jvm.MethodName) jdk_29_method_66_code (4 : Nat) (Option.some Jvm.ClassFile.FieldType.long)]
set_option maxRecDepth 65536 in
theorem codes_eq : words1.filter isCode = codes1 := rfl
theorem w_codes : ∀ c ∈ words1.filter isCode, c.before args0 about1 = true := by
  rw [codes_eq]
  intro c hc
  simp only [codes1, List.mem_cons, List.not_mem_nil, or_false] at hc
  rcases hc with rfl | rfl | rfl | rfl
  · exact w_c0
  · exact w_c1
  · exact w_c2
  · exact w_c3
set_option maxRecDepth 65536 in
theorem w_t1 : words1.all (fun c => isCode c || c.before args0 about1) = true := by decide +kernel
theorem w_tables : (allAtoms (Jvm.Cond.code x code maxLocals ret :: tables_1)).before args0 about1 = true := by
  rw [allAtoms_all]
  show words1.all (fun c => c.before args0 about1) = true
  refine all_split ?_ w_codes
  rw [w_t1]
set_option maxRecDepth 65536 in
theorem w_case : (Jvm.Cond.and given_1 narrow_1).before args0 about1 = true := by decide +kernel
theorem w_applies : (headSpec (Jvm.Cond.code x code maxLocals ret :: tables_1) room_1).applies x e0.platform about1 = true :=
  (Spec.applies_iff w_frames).mpr ⟨w_running, w_runnable, w_alone, w_named, w_hears, w_ripe, w_room, w_tables⟩
theorem atStart : AtStart classFile x code maxLocals ret World_1 tables_1 room_1 Calls_1 rest_1 Pre_1 launch0 p0 e0 about1 theMethod args0 below0 :=
  ⟨lists_1, trivial, launch0.admits_env _ _ _, launch0.least_env, fairChoices_fair.cas, fairChoices_fair.clock, w_frames, w_args, w_heap, w_applies, trivial, trivial, w_case⟩
end start1
theorem witness_1 : WitnessClaimed_1 := ⟨start1.p0, start1.e0, start1.about1, start1.theMethod, start1.args0, start1.below0, start1.atStart⟩
end Jvm.Pilot.@@N@@
