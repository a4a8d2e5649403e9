import JvmDerived
import JvmDerived.Pilot.@@N@@Statement
import JvmDerived.Pilot.@@N@@Code
set_option linter.unusedVariables false
set_option linter.unusedSimpArgs false
namespace Jvm.RoadKit
open Sem ClassFile Op Lib Jvm.Stand Jvm.Free Jvm.LawKit
section New
variable {p : Program} {l : Launch} {e : Env} {R : Room} {s : State} {m : MethodId} {args : Array Value} {below : List Frame} {meth : Method} {c : Code} {T : State} {locs : List Loc} {cells slots : Nat}
theorem retI (X : Stand p l e R s m args below meth c T locs cells slots) (hx : p.tables.exec = Jvm.exec) {pc : Nat} {Ls : Array Slot} {z : Int32} {rest : List Value} (hret : meth.sig.returnType = some .int) (hd : decode c.code pc = .ok (.ireturn, 1)) {fs : List Frame}
    (hl : ∀ (f : JFrame) (acts : List Action), f.method = m → f.locked = none → f.entered = [] → (doReturn e (T.setTop f) acts (some (.int z))).1 = T.setFrames fs) : Steps p.tables e below (T.setTop (mkF m pc Ls (.int z :: rest))) (T.setFrames fs) := by
  have hm' : T.vm.method? m = some meth := X.method'
  have hn : narrow .int (.int z) = .int z := rfl
  show Steps p.tables e below (T.setTop { method := m, pc := pc, locals := Ls, stack := _ :: rest, locked := none }) _
  jvm_step X.here [X.here.top, hx, hd, hm', hret, hn]
  first | (intro acts; rw [hl _ acts rfl rfl rfl]) | rw [hl _ _ rfl rfl rfl]
  exact Steps.refl _
end New
end Jvm.RoadKit
namespace Jvm.Pilot.@@N@@
open Jvm Jvm.ClassFile Sem Op Lib Jvm.Free Jvm.Stand Jvm.LawKit Jvm.RoadKit Bundle Jvm.Pilot.@@N@@.Jvm.D
-- from the state st the run ends, and Q holds of what it leaves
def GoalS (tb : Tables) (e : Env) (below : List Frame) (s : State) (kc ks : Nat) (Q : Option Value → Heap → List Loc → Prop) (st : State) : Prop :=
  ∃ s₂ o, Steps tb e below st s₂ ∧ s₂.status = .running ∧ Ended s₂ below o ∧ ∃ v L, o = .returned v ∧ Q v s₂.heap L ∧ FrameEnd s o s₂ L kc ks
theorem GoalS.lift {tb : Tables} {e : Env} {below : List Frame} {s : State} {kc ks : Nat} {Q : Option Value → Heap → List Loc → Prop} {A B : State}
    (h : ∀ t, Steps tb e below B t → Steps tb e below A t) (g : GoalS tb e below s kc ks Q B) : GoalS tb e below s kc ks Q A := by
  obtain ⟨s₂, o, h1, h2⟩ := g
  exact ⟨s₂, o, h _ h1, h2⟩
-- an array of n places of which place i holds f i
def AV (Z : State) (h : Heap) (a : Addr) (k : ClassId) (ty : FieldType) (n : Nat) (f : Nat → Value) : Prop := ∃ c : Cell, Arr Z h a c ty ∧ c.cls = k ∧ c.slots.size = n ∧ n < 2147483648 ∧ ∀ i, i < n → c.slots[i]? = some (f i)
def updI (f : Nat → Int32) (j : Nat) (v : Int32) : Nat → Int32 := fun i => if i = j then v else f i
def updJ (f : Nat → Int64) (j : Nat) (v : Int64) : Nat → Int64 := fun i => if i = j then v else f i
def updR (f : Nat → Value) (j : Nat) (v : Value) : Nat → Value := fun i => if i = j then v else f i
section Own
variable {Z : State} {h h' : Heap} {a b : Addr} {k : ClassId} {ty : FieldType} {n : Nat} {f g : Nat → Value} {ws : List Addr} {v : Value} {sl : Nat}
theorem AV.lt (F : AV Z h a k ty n f) : a < h.size := by obtain ⟨c, A, -⟩ := F; exact A.lt
theorem AV.ext (F : AV Z h a k ty n f) (E : Ext h h') : AV Z h' a k ty n f := by obtain ⟨c, A, r⟩ := F; exact ⟨c, A.ext E, r⟩
theorem AV.other (F : AV Z h b k ty n f) (W : Wr h h' a sl v) (q : b ≠ a) : AV Z h' b k ty n f := by obtain ⟨c, A, r⟩ := F; exact ⟨c, A.other W q, r⟩
theorem AV.keep (F : AV Z h a k ty n f) (K : Keep h h' ws) (q : a ∉ ws) : AV Z h' a k ty n f := by obtain ⟨c, A, r⟩ := F; exact ⟨c, ⟨K.2.1 a c A.1 q, A.2⟩, r⟩
theorem AV.new {z : Int32} (A : Arr Z h a (newA k ty z) ty) (q : ¬ z < 0) (hn : z.toNatClampNeg = n) (hb : n < 2147483648) : AV Z h a k ty n (fun _ => defaultValue ty) :=
  ⟨_, A, rfl, (sz_new _ _ _).trans hn, hb, fun i hi => by simp [newA, hn, hi]⟩
theorem AV.inb {c : Cell} {j : Int32} (S : c.slots.size = n) (q : ¬ j < 0 ∧ j.toNatClampNeg < n) : ¬ (j < 0 ∨ c.slots.size ≤ j.toNatClampNeg) := fun u => u.elim q.1 fun w => by omega
theorem AV.inx {j : Int32} (q : ¬ j < 0 ∧ j.toNatClampNeg < n) : j.toNatClampNeg < n := q.2
theorem AV.conv (F : AV Z h a k ty n f) (e : ∀ i, i < n → f i = g i) : AV Z h a k ty n g := by
  obtain ⟨c, A, r1, r2, r3, r4⟩ := F; exact ⟨c, A, r1, r2, r3, fun i hi => (r4 i hi).trans (congrArg some (e i hi))⟩
theorem AV.putR {j : Nat} (F : AV Z h a k ty n f) (W : Wr h h' a j v) (hj : j < n) : AV Z h' a k ty n (updR f j v) := by
  obtain ⟨c, A, r1, r2, r3, r4⟩ := F
  refine ⟨_, A.same W, r1, (sz_set _ _ _).trans r2, r3, fun i hi => ?_⟩
  by_cases q : i = j
  · subst q; simp [Cell.setSlot, updR, r2, hi]
  · have q' : j ≠ i := fun u => q u.symm
    simp only [Cell.setSlot, updR, if_neg q]; rw [Array.getElem?_setIfInBounds_ne q']; exact r4 i hi
theorem AV.putI {j : Nat} {f : Nat → Int32} {v : Int32} (F : AV Z h a k ty n (fun i => Value.int (f i))) (W : Wr h h' a j (.int v)) (hj : j < n) : AV Z h' a k ty n (fun i => Value.int (updI f j v i)) :=
  (F.putR W hj).conv fun i _ => by simp only [updR, updI]; split <;> rfl
theorem AV.putJ {j : Nat} {f : Nat → Int64} {v : Int64} (F : AV Z h a k ty n (fun i => Value.long (f i))) (W : Wr h h' a j (.long v)) (hj : j < n) : AV Z h' a k ty n (fun i => Value.long (updJ f j v i)) :=
  (F.putR W hj).conv fun i _ => by simp only [updR, updJ]; split <;> rfl
end Own


theorem own_inb {w q : Int32} {n : Nat} (h0 : 0 ≤ w.toInt) (hlt : w < q) (hq : q.toInt ≤ n) : ¬ w < 0 ∧ w.toNatClampNeg < n := by
  rw [Int32.lt_iff_toInt_lt] at hlt
  have e : (0 : Int32).toInt = 0 := rfl
  refine ⟨by rw [Int32.lt_iff_toInt_lt]; omega, ?_⟩
  show w.toInt.toNat < n
  omega
theorem own_pick (x : Int32) : ¬ ((x &&& (3 : Int32)) % (3 : Int32)) < 0 ∧ ((x &&& (3 : Int32)) % (3 : Int32)).toNatClampNeg < 3 := by
  have h : (x &&& 3).toInt = x.toInt % (2 ^ 2 : Nat) := c_mask x 3 2 (by decide) (by decide)
  have h2 := (c_irem (x &&& (3 : Int32)) (3 : Int32) 3 rfl).1 (by omega)
  have e : (0 : Int32).toInt = 0 := rfl
  refine ⟨by rw [Int32.lt_iff_toInt_lt]; omega, ?_⟩
  show ((x &&& (3 : Int32)) % (3 : Int32)).toInt.toNat < 3
  omega
theorem own_m3 (x : Int32) : 0 ≤ (x &&& (3 : Int32)).toInt ∧ (x &&& (3 : Int32)).toInt ≤ 3 := by
  have h : (x &&& 3).toInt = x.toInt % (2 ^ 2 : Nat) := c_mask x 3 2 (by decide) (by decide)
  omega
theorem own_four {sa : Int32} (h : 0 ≤ sa.toInt ∧ sa.toInt ≤ 3) : ((4 : Int32) - sa).toInt = 4 - sa.toInt := by
  have := c_isub 4 sa
  have e : (4 : Int32).toInt = 4 := rfl
  have := rng32 ((4 : Int32) - sa)
  omega
theorem own_nz {sa : Int32} (h : 0 ≤ sa.toInt ∧ sa.toInt ≤ 3) : (4 : Int32) - sa ≠ 0 := fun q => by
  have := own_four h
  rw [q] at this
  have e : (0 : Int32).toInt = 0 := rfl
  omega
theorem own_en {sa en : Int32} (y : Int32) (h : 0 ≤ sa.toInt ∧ sa.toInt ≤ 3) (e : en = (sa + ((y &&& (3 : Int32)) % ((4 : Int32) - sa)))) : sa.toInt ≤ en.toInt ∧ en.toInt ≤ (3 : Nat) := by
  have h1 := (c_iremV (y &&& (3 : Int32)) ((4 : Int32) - sa)).1 (own_m3 y).1 (by rw [own_four h]; omega)
  rw [own_four h] at h1
  have := c_iadd sa ((y &&& (3 : Int32)) % ((4 : Int32) - sa))
  have := rng32 (sa + ((y &&& (3 : Int32)) % ((4 : Int32) - sa)))
  rw [e]
  omega
theorem own_sa1 {sa : Int32} (h : 0 ≤ sa.toInt ∧ sa.toInt ≤ 3) : 0 ≤ (sa + (1 : Int32)).toInt := by
  have := c_iadd sa 1
  have e1 : (1 : Int32).toInt = 1 := rfl
  have := rng32 (sa + 1)
  omega
theorem own_step {w q w2 a : Int32} (x : Int32) (h0 : 0 ≤ w.toInt) (e : w2 = (if w < q then (if a = x then (w + (1 : Int32)) else w) else w)) : 0 ≤ w2.toInt := by
  subst e
  have := q.toInt_lt
  split
  · rename_i h
    rw [Int32.lt_iff_toInt_lt] at h
    split
    · have := c_iadd w 1
      have e1 : (1 : Int32).toInt = 1 := rfl
      have := rng32 (w + 1)
      omega
    · omega
  · omega
theorem own_two (x : Int32) : (x + (1 : Int32)) + (1 : Int32) = x + (2 : Int32) := by rw [Int32.add_assoc]; rfl

theorem d1_0 : decode method_2_code 0 = .ok (.iload_n 1, 1) := by decide +kernel
theorem d1_1 : decode method_2_code 1 = .ok (.iconst 1, 1) := by decide +kernel
theorem d1_2 : decode method_2_code 2 = .ok (.iand, 1) := by decide +kernel
theorem d1_3 : decode method_2_code 3 = .ok (.ifCond .ne 8, 3) := by decide +kernel
theorem d1_6 : decode method_2_code 6 = .ok (.iload_n 1, 1) := by decide +kernel
theorem d1_7 : decode method_2_code 7 = .ok (.iconst 1, 1) := by decide +kernel
theorem d1_8 : decode method_2_code 8 = .ok (.iushr, 1) := by decide +kernel
theorem d1_9 : decode method_2_code 9 = .ok (.i2c, 1) := by decide +kernel
theorem d1_10 : decode method_2_code 10 = .ok (.ireturn, 1) := by decide +kernel
theorem d1_11 : decode method_2_code 11 = .ok (.aload_n 0, 1) := by decide +kernel
theorem d1_12 : decode method_2_code 12 = .ok (.iload_n 1, 1) := by decide +kernel
theorem d1_13 : decode method_2_code 13 = .ok (.iconst 1, 1) := by decide +kernel
theorem d1_14 : decode method_2_code 14 = .ok (.iushr, 1) := by decide +kernel
theorem d1_15 : decode method_2_code 15 = .ok (.iconst 3, 1) := by decide +kernel
theorem d1_16 : decode method_2_code 16 = .ok (.iand, 1) := by decide +kernel
theorem d1_17 : decode method_2_code 17 = .ok (.iconst 3, 1) := by decide +kernel
theorem d1_18 : decode method_2_code 18 = .ok (.irem, 1) := by decide +kernel
theorem d1_19 : decode method_2_code 19 = .ok (.caload, 1) := by decide +kernel
theorem d1_20 : decode method_2_code 20 = .ok (.ireturn, 1) := by decide +kernel
theorem pn_0 : plainName "com/example/flowglyph/flowglyph/core/TextCursorSkipPinLaw" = true := by first | (simp [plainName, overriddenIn]; done) | decide +kernel
theorem ef_rm1 (m : MethodId) (a1 : Addr) (p2 : Int32) : entryFrame m #[(.ref a1), (.int p2)] 2 = mkF m 0 #[.val (.ref a1), .val (.int p2)] [] := by first | (simp [entryFrame, mkF, argsToLocals, Value.category]; done) | rfl
def Q1 (Z : State) (a1 : Addr) (p2 : Int32) (k : ClassId) (f : Nat → Int32) (h0 : Heap) (n0 : Nat) (v : Option Value) (h : Heap) (L : List Loc) : Prop := ∃ r : Int32, v = some (.int r) ∧ r = (if (p2 &&& (1 : Int32)) = (0 : Int32) then ((((((p2).toUInt32 >>> ((1 : Int32) &&& 31).toUInt32).toInt32)).toUInt32.toUInt16.toUInt32.toInt32)).toUInt32.toUInt16.toUInt32.toInt32 else ((f ((((((p2).toUInt32 >>> ((1 : Int32) &&& 31).toUInt32).toInt32) &&& (3 : Int32)) % (3 : Int32))).toNatClampNeg)).toUInt32.toUInt16.toUInt32.toInt32) ∧ Fr n0 L ∧ h = h0
set_option maxRecDepth 65536 in
set_option maxHeartbeats 40000000 in
theorem rm1 (l : Launch) (Z : State) (a0 : Array Value) (hw : ∀ d ∈ tables_1, d.before a0 Z = true) (ws : List Jvm.Cond) (a1 : Addr) (p2 : Int32) (k : ClassId) (f : Nat → Int32) (h0 : Heap) (n0 : Nat) (Z0 : n0 ≤ h0.size) (A_a1 : AV Z h0 a1 k .char 3 (fun i => Value.int (f i))) :
    MetFree l (⟨"com/example/flowglyph/flowglyph/core/TextCursorSkipPinLaw", "pick", "([CI)C"⟩ : MethodName) (head1 (Jvm.Cond.code (⟨"com/example/flowglyph/flowglyph/core/TextCursorSkipPinLaw", "pick", "([CI)C"⟩ : MethodName) method_2_code 2 (some .char) :: ws) ({ frames := 0, cells := 0, slots := 0, locals := 0 } : Room)) (fun a U => a = #[(.ref a1), (.int p2)] ∧ Z.Warmed39 U.vm ∧ U.heap = h0) (fun _ _ _ _ _ => True) (fun _ U o U' => ∃ v L, o = .returned v ∧ Q1 Z a1 p2 k f h0 n0 v U'.heap L ∧ FrameEnd U o U' L ({ frames := 0, cells := 0, slots := 0, locals := 0 } : Room).cells ({ frames := 0, cells := 0, slots := 0, locals := 0 } : Room).slots) := by
  refine MetFree.of_bodySF (plainFor_of_name pn_0) hisR ?_
  intro p e s m args below meth c s₁ Bd hml0 hP hK
  obtain ⟨rfl, hZ, hh⟩ := hP
  have hx := Bd.exec
  have hby := Bd.bytes
  have hml : c.maxLocals = 2 := hml0
  have hown : s.vm.findClass "com/example/flowglyph/flowglyph/core/TextCursorSkipPinLaw" = some m.cls := findClass_of_methodNamed Bd.named
  have hnm := (name_of_methodNamed Bd.named Bd.method).1
  have X0 : Stand p l e ({ frames := 0, cells := 0, slots := 0, locals := 0 } : Room) s m #[(.ref a1), (.int p2)] below meth c s₁ [] 0 0 := Stand.of_body Bd
  have e0 : s₁.heap = h0 := by rw [← hh, Bd.state]; rfl
  have N0 := Fr.nil n0
  show GoalS p.tables e below s ({ frames := 0, cells := 0, slots := 0, locals := 0 } : Room).cells ({ frames := 0, cells := 0, slots := 0, locals := 0 } : Room).slots (Q1 Z a1 p2 k f h0 n0) (s₁.setTop (entryFrame m #[(.ref a1), (.int p2)] 2))
  refine GoalS.lift (B := s₁.setTop (mkF m 0 #[.val (.ref a1), .val (.int p2)] [])) (fun t k => castTop (ef_rm1 m a1 p2) k) ?_
  have K0 : Keep h0 h0 [] := Keep.refl _ _
  refine GoalS.lift (B := (s₁.setTop (mkF m 3 #[.val (.ref a1), .val (.int p2)] [(.int (p2 &&& (1 : Int32)))]))) (fun t k => ?_) ?_
  · show Steps p.tables e below (s₁.setTop (mkF m 0 #[.val (.ref a1), .val (.int p2)] [])) _
    refine XS.iloadN X0.here hx rfl (hb hby d1_0) rfl ?_
    show Steps p.tables e below (s₁.setTop (mkF m 1 #[.val (.ref a1), .val (.int p2)] [(.int p2)])) _
    refine XS.iconst X0.here hx rfl (hb hby d1_1) ?_
    show Steps p.tables e below (s₁.setTop (mkF m 2 #[.val (.ref a1), .val (.int p2)] [(.int (1 : Int32)), (.int p2)])) _
    refine XS.iand X0.here hx rfl (hb hby d1_2) rfl ?_
    show Steps p.tables e below (s₁.setTop (mkF m 3 #[.val (.ref a1), .val (.int p2)] [(.int (p2 &&& (1 : Int32)))])) _
    exact k
  by_cases hc3_1 : (p2 &&& (1 : Int32)) = (0 : Int32)
  · obtain ⟨fs, hr, hrun, hended, hW, hsame⟩ := X0.leave (v := some (.int ((((((p2).toUInt32 >>> ((1 : Int32) &&& 31).toUInt32).toInt32)).toUInt32.toUInt16.toUInt32.toInt32)).toUInt32.toUInt16.toUInt32.toInt32)) (fun h => by rw [Bd.returns] at h; cases h)
    refine ⟨_, _, ?_, hrun, hended, _, _, rfl, ?_, ⟨_, rfl⟩, hW, hsame.mono (by decide) (by decide)⟩
    · show Steps p.tables e below (s₁.setTop (mkF m 3 #[.val (.ref a1), .val (.int p2)] [(.int (p2 &&& (1 : Int32)))])) _
      refine XS.ifNo X0.here hx rfl (hb hby d1_3) rfl ((if0 _ _).trans (teq hc3_1).2) ?_
      show Steps p.tables e below (s₁.setTop (mkF m 6 #[.val (.ref a1), .val (.int p2)] [])) _
      refine XS.iloadN X0.here hx rfl (hb hby d1_6) rfl ?_
      show Steps p.tables e below (s₁.setTop (mkF m 7 #[.val (.ref a1), .val (.int p2)] [(.int p2)])) _
      refine XS.iconst X0.here hx rfl (hb hby d1_7) ?_
      show Steps p.tables e below (s₁.setTop (mkF m 8 #[.val (.ref a1), .val (.int p2)] [(.int (1 : Int32)), (.int p2)])) _
      refine XS.iushr X0.here hx rfl (hb hby d1_8) rfl ?_
      show Steps p.tables e below (s₁.setTop (mkF m 9 #[.val (.ref a1), .val (.int p2)] [(.int (((p2).toUInt32 >>> ((1 : Int32) &&& 31).toUInt32).toInt32))])) _
      refine XS.i2c X0.here hx rfl (hb hby d1_9) rfl ?_
      show Steps p.tables e below (s₁.setTop (mkF m 10 #[.val (.ref a1), .val (.int p2)] [(.int (((((p2).toUInt32 >>> ((1 : Int32) &&& 31).toUInt32).toInt32)).toUInt32.toUInt16.toUInt32.toInt32))])) _
      exact retN X0 hx (t := .char) Bd.returns (by simp) (hb hby d1_10) hr
    · show Q1 Z a1 p2 k f h0 n0 _ s₁.heap _
      exact ⟨_, rfl, (by simp only [if_pos hc3_1]), N0, e0⟩
  · obtain ⟨cl2, Ar2, kc2, sz2, -, hv2⟩ := id A_a1
    have hin2 : ¬ ((((((p2).toUInt32 >>> ((1 : Int32) &&& 31).toUInt32).toInt32) &&& (3 : Int32)) % (3 : Int32)) < 0 ∨ cl2.slots.size ≤ ((((((p2).toUInt32 >>> ((1 : Int32) &&& 31).toUInt32).toInt32) &&& (3 : Int32)) % (3 : Int32))).toNatClampNeg) := AV.inb sz2 (own_pick _)
    have hat2 : cl2.slots[((((((p2).toUInt32 >>> ((1 : Int32) &&& 31).toUInt32).toInt32) &&& (3 : Int32)) % (3 : Int32))).toNatClampNeg]? = some (.int (f ((((((p2).toUInt32 >>> ((1 : Int32) &&& 31).toUInt32).toInt32) &&& (3 : Int32)) % (3 : Int32))).toNatClampNeg)) := (hv2 _ (AV.inx (own_pick _))).trans (congrArg some rfl)
    obtain ⟨fs, hr, hrun, hended, hW, hsame⟩ := X0.leave (v := some (.int ((f ((((((p2).toUInt32 >>> ((1 : Int32) &&& 31).toUInt32).toInt32) &&& (3 : Int32)) % (3 : Int32))).toNatClampNeg)).toUInt32.toUInt16.toUInt32.toInt32)) (fun h => by rw [Bd.returns] at h; cases h)
    refine ⟨_, _, ?_, hrun, hended, _, _, rfl, ?_, ⟨_, rfl⟩, hW, hsame.mono (by decide) (by decide)⟩
    · show Steps p.tables e below (s₁.setTop (mkF m 3 #[.val (.ref a1), .val (.int p2)] [(.int (p2 &&& (1 : Int32)))])) _
      refine XS.ifYes X0.here hx rfl (pc0 := 3) (pc' := 11) rfl (hb hby d1_3) rfl ((if0 _ _).trans (feq hc3_1).2) (by decide) (by decide) ?_
      show Steps p.tables e below (s₁.setTop (mkF m 11 #[.val (.ref a1), .val (.int p2)] [])) _
      refine XS.aloadN X0.here hx rfl (hb hby d1_11) rfl rfl ?_
      show Steps p.tables e below (s₁.setTop (mkF m 12 #[.val (.ref a1), .val (.int p2)] [(.ref a1)])) _
      refine XS.iloadN X0.here hx rfl (hb hby d1_12) rfl ?_
      show Steps p.tables e below (s₁.setTop (mkF m 13 #[.val (.ref a1), .val (.int p2)] [(.int p2), (.ref a1)])) _
      refine XS.iconst X0.here hx rfl (hb hby d1_13) ?_
      show Steps p.tables e below (s₁.setTop (mkF m 14 #[.val (.ref a1), .val (.int p2)] [(.int (1 : Int32)), (.int p2), (.ref a1)])) _
      refine XS.iushr X0.here hx rfl (hb hby d1_14) rfl ?_
      show Steps p.tables e below (s₁.setTop (mkF m 15 #[.val (.ref a1), .val (.int p2)] [(.int (((p2).toUInt32 >>> ((1 : Int32) &&& 31).toUInt32).toInt32)), (.ref a1)])) _
      refine XS.iconst X0.here hx rfl (hb hby d1_15) ?_
      show Steps p.tables e below (s₁.setTop (mkF m 16 #[.val (.ref a1), .val (.int p2)] [(.int (3 : Int32)), (.int (((p2).toUInt32 >>> ((1 : Int32) &&& 31).toUInt32).toInt32)), (.ref a1)])) _
      refine XS.iand X0.here hx rfl (hb hby d1_16) rfl ?_
      show Steps p.tables e below (s₁.setTop (mkF m 17 #[.val (.ref a1), .val (.int p2)] [(.int ((((p2).toUInt32 >>> ((1 : Int32) &&& 31).toUInt32).toInt32) &&& (3 : Int32))), (.ref a1)])) _
      refine XS.iconst X0.here hx rfl (hb hby d1_17) ?_
      show Steps p.tables e below (s₁.setTop (mkF m 18 #[.val (.ref a1), .val (.int p2)] [(.int (3 : Int32)), (.int ((((p2).toUInt32 >>> ((1 : Int32) &&& 31).toUInt32).toInt32) &&& (3 : Int32))), (.ref a1)])) _
      refine iremM X0 hx rfl (hb hby d1_18) rfl (by decide) ?_
      show Steps p.tables e below (s₁.setTop (mkF m 19 #[.val (.ref a1), .val (.int p2)] [(.int (((((p2).toUInt32 >>> ((1 : Int32) &&& 31).toUInt32).toInt32) &&& (3 : Int32)) % (3 : Int32))), (.ref a1)])) _
      refine X0.caload hx (j := (((((p2).toUInt32 >>> ((1 : Int32) &&& 31).toUInt32).toInt32) &&& (3 : Int32)) % (3 : Int32))) (v := (.int (f ((((((p2).toUInt32 >>> ((1 : Int32) &&& 31).toUInt32).toInt32) &&& (3 : Int32)) % (3 : Int32))).toNatClampNeg))) (by rw [e0]; exact Ar2.1) (State.isArrayOf_alike hZ.alike Ar2.2.1) Ar2.2.2 hin2 hat2 (g := (mkF m 19 #[.val (.ref a1), .val (.int p2)] [(.int (((((p2).toUInt32 >>> ((1 : Int32) &&& 31).toUInt32).toInt32) &&& (3 : Int32)) % (3 : Int32))), (.ref a1)])) rfl rfl (hb hby d1_19) _ ?_
      show Steps p.tables e below (s₁.setTop (mkF m 20 #[.val (.ref a1), .val (.int p2)] [(.int (f ((((((p2).toUInt32 >>> ((1 : Int32) &&& 31).toUInt32).toInt32) &&& (3 : Int32)) % (3 : Int32))).toNatClampNeg))])) _
      exact retN X0 hx (t := .char) Bd.returns (by simp) (hb hby d1_20) hr
    · show Q1 Z a1 p2 k f h0 n0 _ s₁.heap _
      exact ⟨_, rfl, (by simp only [if_neg hc3_1]), N0, e0⟩
theorem d2_0 : decode prog_49_method_2_code 0 = .ok (.aload_n 0, 1) := by decide +kernel
theorem d2_1 : decode prog_49_method_2_code 1 = .ok (.invokespecial 19, 3) := by decide +kernel
theorem d2_4 : decode prog_49_method_2_code 4 = .ok (.aload_n 0, 1) := by decide +kernel
theorem d2_5 : decode prog_49_method_2_code 5 = .ok (.aload_n 1, 1) := by decide +kernel
theorem d2_6 : decode prog_49_method_2_code 6 = .ok (.putfield 24, 3) := by decide +kernel
theorem d2_9 : decode prog_49_method_2_code 9 = .ok (.aload_n 0, 1) := by decide +kernel
theorem d2_10 : decode prog_49_method_2_code 10 = .ok (.iload_n 2, 1) := by decide +kernel
theorem d2_11 : decode prog_49_method_2_code 11 = .ok (.putfield 28, 3) := by decide +kernel
theorem d2_14 : decode prog_49_method_2_code 14 = .ok (.aload_n 0, 1) := by decide +kernel
theorem d2_15 : decode prog_49_method_2_code 15 = .ok (.iload_n 3, 1) := by decide +kernel
theorem d2_16 : decode prog_49_method_2_code 16 = .ok (.putfield 32, 3) := by decide +kernel
theorem d2_19 : decode prog_49_method_2_code 19 = .ok (.return_, 1) := by decide +kernel
theorem pn_1 : plainName "com/example/flowglyph/flowglyph/core/TextCursor" = true := by first | (simp [plainName, overriddenIn]; done) | decide +kernel
theorem ef_rm2 (m : MethodId) (a1 : Addr) (a2 : Addr) (p3 : Int32) (p4 : Int32) : entryFrame m #[(.ref a1), (.ref a2), (.int p3), (.int p4)] 4 = mkF m 0 #[.val (.ref a1), .val (.ref a2), .val (.int p3), .val (.int p4)] [] := by first | (simp [entryFrame, mkF, argsToLocals, Value.category]; done) | rfl
def Q2 (Z : State) (a1 : Addr) (a2 : Addr) (p3 : Int32) (p4 : Int32) (u_text : Value) (u_position : Value) (u_end : Value) (h0 : Heap) (n0 : Nat) (v : Option Value) (h : Heap) (L : List Loc) : Prop := v = none ∧ Fr n0 L ∧ Keep h0 h [a1] ∧ (Exa Z h a1 "com/example/flowglyph/flowglyph/core/TextCursor") ∧ (Fld Z h a1 "com/example/flowglyph/flowglyph/core/TextCursor" "text" "[C" (.ref a2)) ∧ (Fld Z h a1 "com/example/flowglyph/flowglyph/core/TextCursor" "position" "I" (.int p3)) ∧ (Fld Z h a1 "com/example/flowglyph/flowglyph/core/TextCursor" "end" "I" (.int p4))
set_option maxRecDepth 65536 in
set_option maxHeartbeats 40000000 in
theorem rm2 (l : Launch) (Z : State) (a0 : Array Value) (hw : ∀ d ∈ tables_1, d.before a0 Z = true) (ws : List Jvm.Cond) (a1 : Addr) (a2 : Addr) (p3 : Int32) (p4 : Int32) (u_text : Value) (u_position : Value) (u_end : Value) (h0 : Heap) (n0 : Nat) (Z0 : n0 ≤ h0.size) (E_a1 : Exa Z h0 a1 "com/example/flowglyph/flowglyph/core/TextCursor") (g_a1 : n0 ≤ a1) (F_text_a1 : Fld Z h0 a1 "com/example/flowglyph/flowglyph/core/TextCursor" "text" "[C" u_text) (F_position_a1 : Fld Z h0 a1 "com/example/flowglyph/flowglyph/core/TextCursor" "position" "I" u_position) (F_end_a1 : Fld Z h0 a1 "com/example/flowglyph/flowglyph/core/TextCursor" "end" "I" u_end) :
    MetFree l (⟨"com/example/flowglyph/flowglyph/core/TextCursor", "<init>", "([CII)V"⟩ : MethodName) (head1 (Jvm.Cond.code (⟨"com/example/flowglyph/flowglyph/core/TextCursor", "<init>", "([CII)V"⟩ : MethodName) prog_49_method_2_code 4 none :: ws) ({ frames := 1, cells := 0, slots := 0, locals := 12 } : Room)) (fun a U => a = #[(.ref a1), (.ref a2), (.int p3), (.int p4)] ∧ Z.Warmed39 U.vm ∧ U.heap = h0) (fun _ _ _ _ _ => True) (fun _ U o U' => ∃ v L, o = .returned v ∧ Q2 Z a1 a2 p3 p4 u_text u_position u_end h0 n0 v U'.heap L ∧ FrameEnd U o U' L ({ frames := 1, cells := 0, slots := 0, locals := 12 } : Room).cells ({ frames := 1, cells := 0, slots := 0, locals := 12 } : Room).slots) := by
  refine MetFree.of_bodySF (plainFor_of_name pn_1) hisR ?_
  intro p e s m args below meth c s₁ Bd hml0 hP hK
  obtain ⟨rfl, hZ, hh⟩ := hP
  have hx := Bd.exec
  have hby := Bd.bytes
  have hml : c.maxLocals = 4 := hml0
  have hown : s.vm.findClass "com/example/flowglyph/flowglyph/core/TextCursor" = some m.cls := findClass_of_methodNamed Bd.named
  have hnm := (name_of_methodNamed Bd.named Bd.method).1
  have X0 : Stand p l e ({ frames := 1, cells := 0, slots := 0, locals := 12 } : Room) s m #[(.ref a1), (.ref a2), (.int p3), (.int p4)] below meth c s₁ [] 0 0 := Stand.of_body Bd
  have e0 : s₁.heap = h0 := by rw [← hh, Bd.state]; rfl
  have N0 := Fr.nil n0
  show GoalS p.tables e below s ({ frames := 1, cells := 0, slots := 0, locals := 12 } : Room).cells ({ frames := 1, cells := 0, slots := 0, locals := 12 } : Room).slots (Q2 Z a1 a2 p3 p4 u_text u_position u_end h0 n0) (s₁.setTop (entryFrame m #[(.ref a1), (.ref a2), (.int p3), (.int p4)] 4))
  refine GoalS.lift (B := s₁.setTop (mkF m 0 #[.val (.ref a1), .val (.ref a2), .val (.int p3), .val (.int p4)] [])) (fun t k => castTop (ef_rm2 m a1 a2 p3 p4) k) ?_
  have K0 : Keep h0 h0 [a1] := Keep.refl _ _
  obtain ⟨T1, X1, e1, st1⟩ := initO X0 hx hZ hown (hw _ (List.mem_of_getElem? (i := 11) rfl)) (hw _ (List.mem_of_getElem? (i := 12) rfl)) (hw _ (List.mem_of_getElem? (i := 13) rfl)) e0 (g := (mkF m 1 #[.val (.ref a1), .val (.ref a2), .val (.int p3), .val (.int p4)] [(.ref a1)])) rfl (by rw [hml]; rfl) rfl (hb hby d2_1) (by decide) (W := 0) (by show 2 * 0 + _ ≤ _; exact Nat.le_of_eq rfl) (by decide)
  obtain ⟨T2, h2, X2, e2, W2, st2⟩ := putF X1 hx hZ hown (host := "") (Or.inl (hw _ (List.mem_of_getElem? (i := 14) rfl))) Via.refl e1 F_text_a1 E_a1 (Or.inr ⟨(hw _ (List.mem_of_getElem? (i := 15) rfl)), rfl, hnm⟩) (hw _ (List.mem_of_getElem? (i := 6) rfl)) (ty := (.array .char)) (by decide) rfl rfl (g := (mkF m 6 #[.val (.ref a1), .val (.ref a2), .val (.int p3), .val (.int p4)] [(.ref a2), (.ref a1)])) rfl rfl (hb hby d2_6)
  have z3 : n0 ≤ h2.size := Nat.le_trans Z0 (Keep.of_wr W2).1
  have K4 : Keep h0 h2 [a1] := K0.wr W2 (Or.inl (List.mem_of_getElem? (i := 0) rfl))
  have Fw2 : Fld Z h2 a1 "com/example/flowglyph/flowglyph/core/TextCursor" "text" "[C" (.ref a2) := F_text_a1.same W2
  have N2 := Fr.snoc X2 N0 g_a1
  have f5 : Fld Z h2 a1 "com/example/flowglyph/flowglyph/core/TextCursor" "position" "I" u_position := (F_position_a1.other W2 (Or.inr (slot_ne (Or.inl (hw _ (List.mem_of_getElem? (i := 17) rfl))) (Or.inr (hw _ (List.mem_of_getElem? (i := 15) rfl))) (by decide) (t := .int) (t' := (.array .char)) (by decide) (by decide))))
  have f6 : Exa Z h2 a1 "com/example/flowglyph/flowglyph/core/TextCursor" := (E_a1.wr W2)
  obtain ⟨T7, h7, X7, e7, W7, st7⟩ := putF X2 hx hZ hown (host := "") (Or.inl (hw _ (List.mem_of_getElem? (i := 16) rfl))) Via.refl e2 f5 f6 (Or.inl (hw _ (List.mem_of_getElem? (i := 17) rfl))) (hw _ (List.mem_of_getElem? (i := 6) rfl)) (ty := .int) (by decide) rfl rfl (g := (mkF m 11 #[.val (.ref a1), .val (.ref a2), .val (.int p3), .val (.int p4)] [(.int p3), (.ref a1)])) rfl rfl (hb hby d2_11)
  have z8 : n0 ≤ h7.size := Nat.le_trans z3 (Keep.of_wr W7).1
  have K9 : Keep h0 h7 [a1] := K4.wr W7 (Or.inl (List.mem_of_getElem? (i := 0) rfl))
  have Fw7 : Fld Z h7 a1 "com/example/flowglyph/flowglyph/core/TextCursor" "position" "I" (.int p3) := f5.same W7
  have N7 := Fr.snoc X7 N2 g_a1
  have f10 : Fld Z h7 a1 "com/example/flowglyph/flowglyph/core/TextCursor" "end" "I" u_end := ((F_end_a1.other W2 (Or.inr (slot_ne (Or.inr (hw _ (List.mem_of_getElem? (i := 19) rfl))) (Or.inr (hw _ (List.mem_of_getElem? (i := 15) rfl))) (by decide) (t := .int) (t' := (.array .char)) (by decide) (by decide)))).other W7 (Or.inr (slot_ne (Or.inr (hw _ (List.mem_of_getElem? (i := 19) rfl))) (Or.inl (hw _ (List.mem_of_getElem? (i := 17) rfl))) (by decide) (t := .int) (t' := .int) (by decide) (by decide))))
  have f11 : Exa Z h7 a1 "com/example/flowglyph/flowglyph/core/TextCursor" := (f6.wr W7)
  obtain ⟨T12, h12, X12, e12, W12, st12⟩ := putF X7 hx hZ hown (host := "") (Or.inl (hw _ (List.mem_of_getElem? (i := 18) rfl))) Via.refl e7 f10 f11 (Or.inr ⟨(hw _ (List.mem_of_getElem? (i := 19) rfl)), rfl, hnm⟩) (hw _ (List.mem_of_getElem? (i := 6) rfl)) (ty := .int) (by decide) rfl rfl (g := (mkF m 16 #[.val (.ref a1), .val (.ref a2), .val (.int p3), .val (.int p4)] [(.int p4), (.ref a1)])) rfl rfl (hb hby d2_16)
  have z13 : n0 ≤ h12.size := Nat.le_trans z8 (Keep.of_wr W12).1
  have K14 : Keep h0 h12 [a1] := K9.wr W12 (Or.inl (List.mem_of_getElem? (i := 0) rfl))
  have Fw12 : Fld Z h12 a1 "com/example/flowglyph/flowglyph/core/TextCursor" "end" "I" (.int p4) := f10.same W12
  have N12 := Fr.snoc X12 N7 g_a1
  obtain ⟨fs, hr, hrun, hended, hW, hsame⟩ := X12.leave (v := none) (fun _ => rfl)
  refine ⟨_, _, ?_, hrun, hended, _, _, rfl, ?_, ⟨_, rfl⟩, hW, hsame.mono (by decide) (by decide)⟩
  · show Steps p.tables e below (s₁.setTop (mkF m 0 #[.val (.ref a1), .val (.ref a2), .val (.int p3), .val (.int p4)] [])) _
    refine XS.aloadN X0.here hx rfl (hb hby d2_0) rfl rfl ?_
    show Steps p.tables e below (s₁.setTop (mkF m 1 #[.val (.ref a1), .val (.ref a2), .val (.int p3), .val (.int p4)] [(.ref a1)])) _
    refine st1 _ ?_
    show Steps p.tables e below (T1.setTop (mkF m 4 #[.val (.ref a1), .val (.ref a2), .val (.int p3), .val (.int p4)] [])) _
    refine XS.aloadN X1.here hx rfl (hb hby d2_4) rfl rfl ?_
    show Steps p.tables e below (T1.setTop (mkF m 5 #[.val (.ref a1), .val (.ref a2), .val (.int p3), .val (.int p4)] [(.ref a1)])) _
    refine XS.aloadN X1.here hx rfl (hb hby d2_5) rfl rfl ?_
    show Steps p.tables e below (T1.setTop (mkF m 6 #[.val (.ref a1), .val (.ref a2), .val (.int p3), .val (.int p4)] [(.ref a2), (.ref a1)])) _
    refine st2 _ ?_
    show Steps p.tables e below (T2.setTop (mkF m 9 #[.val (.ref a1), .val (.ref a2), .val (.int p3), .val (.int p4)] [])) _
    refine XS.aloadN X2.here hx rfl (hb hby d2_9) rfl rfl ?_
    show Steps p.tables e below (T2.setTop (mkF m 10 #[.val (.ref a1), .val (.ref a2), .val (.int p3), .val (.int p4)] [(.ref a1)])) _
    refine XS.iloadN X2.here hx rfl (hb hby d2_10) rfl ?_
    show Steps p.tables e below (T2.setTop (mkF m 11 #[.val (.ref a1), .val (.ref a2), .val (.int p3), .val (.int p4)] [(.int p3), (.ref a1)])) _
    refine st7 _ ?_
    show Steps p.tables e below (T7.setTop (mkF m 14 #[.val (.ref a1), .val (.ref a2), .val (.int p3), .val (.int p4)] [])) _
    refine XS.aloadN X7.here hx rfl (hb hby d2_14) rfl rfl ?_
    show Steps p.tables e below (T7.setTop (mkF m 15 #[.val (.ref a1), .val (.ref a2), .val (.int p3), .val (.int p4)] [(.ref a1)])) _
    refine XS.iloadN X7.here hx rfl (hb hby d2_15) rfl ?_
    show Steps p.tables e below (T7.setTop (mkF m 16 #[.val (.ref a1), .val (.ref a2), .val (.int p3), .val (.int p4)] [(.int p4), (.ref a1)])) _
    refine st12 _ ?_
    show Steps p.tables e below (T12.setTop (mkF m 19 #[.val (.ref a1), .val (.ref a2), .val (.int p3), .val (.int p4)] [])) _
    exact X12.returnOut hx Bd.returns (hb hby d2_19) hr
  · have f15 : Exa Z h12 a1 "com/example/flowglyph/flowglyph/core/TextCursor" := (f11.wr W12)
    have f16 : Fld Z h12 a1 "com/example/flowglyph/flowglyph/core/TextCursor" "text" "[C" (.ref a2) := ((Fw2.other W7 (Or.inr (slot_ne (Or.inr (hw _ (List.mem_of_getElem? (i := 15) rfl))) (Or.inl (hw _ (List.mem_of_getElem? (i := 17) rfl))) (by decide) (t := (.array .char)) (t' := .int) (by decide) (by decide)))).other W12 (Or.inr (slot_ne (Or.inr (hw _ (List.mem_of_getElem? (i := 15) rfl))) (Or.inr (hw _ (List.mem_of_getElem? (i := 19) rfl))) (by decide) (t := (.array .char)) (t' := .int) (by decide) (by decide))))
    have f17 : Fld Z h12 a1 "com/example/flowglyph/flowglyph/core/TextCursor" "position" "I" (.int p3) := (Fw7.other W12 (Or.inr (slot_ne (Or.inl (hw _ (List.mem_of_getElem? (i := 17) rfl))) (Or.inr (hw _ (List.mem_of_getElem? (i := 19) rfl))) (by decide) (t := .int) (t' := .int) (by decide) (by decide))))
    show Q2 Z a1 a2 p3 p4 u_text u_position u_end h0 n0 _ T12.heap _
    rw [e12]
    exact ⟨rfl, N12, K14, f15, f16, f17, Fw12⟩
theorem d4_0 : decode prog_49_method_10_code 0 = .ok (.aload_n 0, 1) := by decide +kernel
theorem d4_1 : decode prog_49_method_10_code 1 = .ok (.getfield 28, 3) := by decide +kernel
theorem d4_4 : decode prog_49_method_10_code 4 = .ok (.aload_n 0, 1) := by decide +kernel
theorem d4_5 : decode prog_49_method_10_code 5 = .ok (.getfield 32, 3) := by decide +kernel
theorem d4_8 : decode prog_49_method_10_code 8 = .ok (.if_icmp .ge 20, 3) := by decide +kernel
theorem d4_11 : decode prog_49_method_10_code 11 = .ok (.aload_n 0, 1) := by decide +kernel
theorem d4_12 : decode prog_49_method_10_code 12 = .ok (.getfield 24, 3) := by decide +kernel
theorem d4_15 : decode prog_49_method_10_code 15 = .ok (.aload_n 0, 1) := by decide +kernel
theorem d4_16 : decode prog_49_method_10_code 16 = .ok (.getfield 28, 3) := by decide +kernel
theorem d4_19 : decode prog_49_method_10_code 19 = .ok (.caload, 1) := by decide +kernel
theorem d4_20 : decode prog_49_method_10_code 20 = .ok (.iload_n 1, 1) := by decide +kernel
theorem d4_21 : decode prog_49_method_10_code 21 = .ok (.if_icmp .ne 7, 3) := by decide +kernel
theorem d4_24 : decode prog_49_method_10_code 24 = .ok (.iconst 1, 1) := by decide +kernel
theorem d4_25 : decode prog_49_method_10_code 25 = .ok (.goto 4, 3) := by decide +kernel
theorem d4_28 : decode prog_49_method_10_code 28 = .ok (.iconst 0, 1) := by decide +kernel
theorem d4_29 : decode prog_49_method_10_code 29 = .ok (.istore_n 2, 1) := by decide +kernel
theorem d4_30 : decode prog_49_method_10_code 30 = .ok (.iload_n 2, 1) := by decide +kernel
theorem d4_31 : decode prog_49_method_10_code 31 = .ok (.ifCond .eq 13, 3) := by decide +kernel
theorem d4_34 : decode prog_49_method_10_code 34 = .ok (.aload_n 0, 1) := by decide +kernel
theorem d4_35 : decode prog_49_method_10_code 35 = .ok (.dup, 1) := by decide +kernel
theorem d4_36 : decode prog_49_method_10_code 36 = .ok (.getfield 28, 3) := by decide +kernel
theorem d4_39 : decode prog_49_method_10_code 39 = .ok (.iconst 1, 1) := by decide +kernel
theorem d4_40 : decode prog_49_method_10_code 40 = .ok (.iadd, 1) := by decide +kernel
theorem d4_41 : decode prog_49_method_10_code 41 = .ok (.putfield 28, 3) := by decide +kernel
theorem d4_44 : decode prog_49_method_10_code 44 = .ok (.iload_n 2, 1) := by decide +kernel
theorem d4_45 : decode prog_49_method_10_code 45 = .ok (.ireturn, 1) := by decide +kernel
theorem ef_rm4 (m : MethodId) (a1 : Addr) (p2 : Int32) : entryFrame m #[(.ref a1), (.int p2)] 3 = mkF m 0 #[.val (.ref a1), .val (.int p2), .unset] [] := by first | (simp [entryFrame, mkF, argsToLocals, Value.category]; done) | rfl
def Q4 (Z : State) (a1 : Addr) (p2 : Int32) (w : Int32) (q : Int32) (d : Addr) (k : ClassId) (n : Nat) (f : Nat → Int32) (h0 : Heap) (n0 : Nat) (v : Option Value) (h : Heap) (L : List Loc) : Prop := ∃ (w2 : Int32), ∃ r : Int32, v = some (.int r) ∧ r = (if w < q then (if (f (w).toNatClampNeg) = p2 then (1 : Int32) else (0 : Int32)) else (0 : Int32)) ∧ Fr n0 L ∧ Keep h0 h [a1] ∧ (Exa Z h a1 "com/example/flowglyph/flowglyph/core/TextCursor") ∧ (Fld Z h a1 "com/example/flowglyph/flowglyph/core/TextCursor" "position" "I" (.int w2)) ∧ (Fld Z h a1 "com/example/flowglyph/flowglyph/core/TextCursor" "end" "I" (.int q)) ∧ (Fld Z h a1 "com/example/flowglyph/flowglyph/core/TextCursor" "text" "[C" (.ref d)) ∧ (w2 = (if w < q then (if (f (w).toNatClampNeg) = p2 then (w + (1 : Int32)) else w) else w))
set_option maxRecDepth 65536 in
set_option maxHeartbeats 40000000 in
theorem rm4 (l : Launch) (Z : State) (a0 : Array Value) (hw : ∀ d ∈ tables_1, d.before a0 Z = true) (ws : List Jvm.Cond) (a1 : Addr) (p2 : Int32) (w : Int32) (q : Int32) (d : Addr) (k : ClassId) (n : Nat) (f : Nat → Int32) (h0 : Heap) (n0 : Nat) (Z0 : n0 ≤ h0.size) (E_a1 : Exa Z h0 a1 "com/example/flowglyph/flowglyph/core/TextCursor") (g_a1 : n0 ≤ a1) (F_position_a1 : Fld Z h0 a1 "com/example/flowglyph/flowglyph/core/TextCursor" "position" "I" (.int w)) (F_end_a1 : Fld Z h0 a1 "com/example/flowglyph/flowglyph/core/TextCursor" "end" "I" (.int q)) (F_text_a1 : Fld Z h0 a1 "com/example/flowglyph/flowglyph/core/TextCursor" "text" "[C" (.ref d)) (A_d : AV Z h0 d k .char n (fun i => Value.int (f i))) (hp : 0 ≤ w.toInt) (hq : q.toInt ≤ n) :
    MetFree l (⟨"com/example/flowglyph/flowglyph/core/TextCursor", "skip", "(C)Z"⟩ : MethodName) (head1 (Jvm.Cond.code (⟨"com/example/flowglyph/flowglyph/core/TextCursor", "skip", "(C)Z"⟩ : MethodName) prog_49_method_10_code 3 (some .boolean) :: ws) ({ frames := 0, cells := 0, slots := 0, locals := 0 } : Room)) (fun a U => a = #[(.ref a1), (.int p2)] ∧ Z.Warmed39 U.vm ∧ U.heap = h0) (fun _ _ _ _ _ => True) (fun _ U o U' => ∃ v L, o = .returned v ∧ Q4 Z a1 p2 w q d k n f h0 n0 v U'.heap L ∧ FrameEnd U o U' L ({ frames := 0, cells := 0, slots := 0, locals := 0 } : Room).cells ({ frames := 0, cells := 0, slots := 0, locals := 0 } : Room).slots) := by
  refine MetFree.of_bodySF (plainFor_of_name pn_1) hisR ?_
  intro p e s m args below meth c s₁ Bd hml0 hP hK
  obtain ⟨rfl, hZ, hh⟩ := hP
  have hx := Bd.exec
  have hby := Bd.bytes
  have hml : c.maxLocals = 3 := hml0
  have hown : s.vm.findClass "com/example/flowglyph/flowglyph/core/TextCursor" = some m.cls := findClass_of_methodNamed Bd.named
  have hnm := (name_of_methodNamed Bd.named Bd.method).1
  have X0 : Stand p l e ({ frames := 0, cells := 0, slots := 0, locals := 0 } : Room) s m #[(.ref a1), (.int p2)] below meth c s₁ [] 0 0 := Stand.of_body Bd
  have e0 : s₁.heap = h0 := by rw [← hh, Bd.state]; rfl
  have N0 := Fr.nil n0
  show GoalS p.tables e below s ({ frames := 0, cells := 0, slots := 0, locals := 0 } : Room).cells ({ frames := 0, cells := 0, slots := 0, locals := 0 } : Room).slots (Q4 Z a1 p2 w q d k n f h0 n0) (s₁.setTop (entryFrame m #[(.ref a1), (.int p2)] 3))
  refine GoalS.lift (B := s₁.setTop (mkF m 0 #[.val (.ref a1), .val (.int p2), .unset] [])) (fun t k => castTop (ef_rm4 m a1 p2) k) ?_
  have K0 : Keep h0 h0 [a1] := Keep.refl _ _
  obtain ⟨T1, X1, e1, st1⟩ := getF X0 hx hZ hown (host := "") (Or.inl (hw _ (List.mem_of_getElem? (i := 16) rfl))) Via.refl e0 F_position_a1 (g := (mkF m 1 #[.val (.ref a1), .val (.int p2), .unset] [(.ref a1)])) rfl rfl (hb hby d4_1)
  obtain ⟨T2, X2, e2, st2⟩ := getF X1 hx hZ hown (host := "") (Or.inl (hw _ (List.mem_of_getElem? (i := 18) rfl))) Via.refl e1 F_end_a1 (g := (mkF m 5 #[.val (.ref a1), .val (.int p2), .unset] [(.ref a1), (.int w)])) rfl rfl (hb hby d4_5)
  refine GoalS.lift (B := (T2.setTop (mkF m 8 #[.val (.ref a1), .val (.int p2), .unset] [(.int q), (.int w)]))) (fun t k => ?_) ?_
  · show Steps p.tables e below (s₁.setTop (mkF m 0 #[.val (.ref a1), .val (.int p2), .unset] [])) _
    refine XS.aloadN X0.here hx rfl (hb hby d4_0) rfl rfl ?_
    show Steps p.tables e below (s₁.setTop (mkF m 1 #[.val (.ref a1), .val (.int p2), .unset] [(.ref a1)])) _
    refine st1 _ ?_
    show Steps p.tables e below (T1.setTop (mkF m 4 #[.val (.ref a1), .val (.int p2), .unset] [(.int w)])) _
    refine XS.aloadN X1.here hx rfl (hb hby d4_4) rfl rfl ?_
    show Steps p.tables e below (T1.setTop (mkF m 5 #[.val (.ref a1), .val (.int p2), .unset] [(.ref a1), (.int w)])) _
    refine st2 _ ?_
    show Steps p.tables e below (T2.setTop (mkF m 8 #[.val (.ref a1), .val (.int p2), .unset] [(.int q), (.int w)])) _
    exact k
  by_cases hc8_3 : w < q
  · obtain ⟨T4, X4, e4, st4⟩ := getF X2 hx hZ hown (host := "") (Or.inl (hw _ (List.mem_of_getElem? (i := 14) rfl))) Via.refl e2 F_text_a1 (g := (mkF m 12 #[.val (.ref a1), .val (.int p2), .unset] [(.ref a1)])) rfl rfl (hb hby d4_12)
    obtain ⟨T5, X5, e5, st5⟩ := getF X4 hx hZ hown (host := "") (Or.inl (hw _ (List.mem_of_getElem? (i := 16) rfl))) Via.refl e4 F_position_a1 (g := (mkF m 16 #[.val (.ref a1), .val (.int p2), .unset] [(.ref a1), (.ref d)])) rfl rfl (hb hby d4_16)
    obtain ⟨cl6, Ar6, kc6, sz6, -, hv6⟩ := id A_d
    have hin6 : ¬ (w < 0 ∨ cl6.slots.size ≤ (w).toNatClampNeg) := AV.inb sz6 (own_inb hp hc8_3 hq)
    have hat6 : cl6.slots[(w).toNatClampNeg]? = some (.int (f (w).toNatClampNeg)) := (hv6 _ (AV.inx (own_inb hp hc8_3 hq))).trans (congrArg some rfl)
    refine GoalS.lift (B := (T5.setTop (mkF m 21 #[.val (.ref a1), .val (.int p2), .unset] [(.int p2), (.int (f (w).toNatClampNeg))]))) (fun t k => ?_) ?_
    · show Steps p.tables e below (T2.setTop (mkF m 8 #[.val (.ref a1), .val (.int p2), .unset] [(.int q), (.int w)])) _
      refine XS.icmpNo X2.here hx rfl (hb hby d4_8) rfl ((tlt hc8_3).2.1) ?_
      show Steps p.tables e below (T2.setTop (mkF m 11 #[.val (.ref a1), .val (.int p2), .unset] [])) _
      refine XS.aloadN X2.here hx rfl (hb hby d4_11) rfl rfl ?_
      show Steps p.tables e below (T2.setTop (mkF m 12 #[.val (.ref a1), .val (.int p2), .unset] [(.ref a1)])) _
      refine st4 _ ?_
      show Steps p.tables e below (T4.setTop (mkF m 15 #[.val (.ref a1), .val (.int p2), .unset] [(.ref d)])) _
      refine XS.aloadN X4.here hx rfl (hb hby d4_15) rfl rfl ?_
      show Steps p.tables e below (T4.setTop (mkF m 16 #[.val (.ref a1), .val (.int p2), .unset] [(.ref a1), (.ref d)])) _
      refine st5 _ ?_
      show Steps p.tables e below (T5.setTop (mkF m 19 #[.val (.ref a1), .val (.int p2), .unset] [(.int w), (.ref d)])) _
      refine X5.caload hx (j := w) (v := (.int (f (w).toNatClampNeg))) (by rw [e5]; exact Ar6.1) (State.isArrayOf_alike hZ.alike Ar6.2.1) Ar6.2.2 hin6 hat6 (g := (mkF m 19 #[.val (.ref a1), .val (.int p2), .unset] [(.int w), (.ref d)])) rfl rfl (hb hby d4_19) _ ?_
      show Steps p.tables e below (T5.setTop (mkF m 20 #[.val (.ref a1), .val (.int p2), .unset] [(.int (f (w).toNatClampNeg))])) _
      refine XS.iloadN X5.here hx rfl (hb hby d4_20) rfl ?_
      show Steps p.tables e below (T5.setTop (mkF m 21 #[.val (.ref a1), .val (.int p2), .unset] [(.int p2), (.int (f (w).toNatClampNeg))])) _
      exact k
    by_cases hc21_7 : (f (w).toNatClampNeg) = p2
    · obtain ⟨T8, X8, e8, st8⟩ := getF X5 hx hZ hown (host := "") (Or.inl (hw _ (List.mem_of_getElem? (i := 16) rfl))) Via.refl e5 F_position_a1 (g := (mkF m 36 #[.val (.ref a1), .val (.int p2), .val (.int (1 : Int32))] [(.ref a1), (.ref a1)])) rfl rfl (hb hby d4_36)
      obtain ⟨T9, h9, X9, e9, W9, st9⟩ := putF X8 hx hZ hown (host := "") (Or.inl (hw _ (List.mem_of_getElem? (i := 16) rfl))) Via.refl e8 F_position_a1 E_a1 (Or.inl (hw _ (List.mem_of_getElem? (i := 17) rfl))) (hw _ (List.mem_of_getElem? (i := 6) rfl)) (ty := .int) (by decide) rfl rfl (g := (mkF m 41 #[.val (.ref a1), .val (.int p2), .val (.int (1 : Int32))] [(.int (w + (1 : Int32))), (.ref a1)])) rfl rfl (hb hby d4_41)
      have z10 : n0 ≤ h9.size := Nat.le_trans Z0 (Keep.of_wr W9).1
      have K11 : Keep h0 h9 [a1] := K0.wr W9 (Or.inl (List.mem_of_getElem? (i := 0) rfl))
      have Fw9 : Fld Z h9 a1 "com/example/flowglyph/flowglyph/core/TextCursor" "position" "I" (.int (w + (1 : Int32))) := F_position_a1.same W9
      have N9 := Fr.snoc X9 N0 g_a1
      obtain ⟨fs, hr, hrun, hended, hW, hsame⟩ := X9.leave (v := some (.int (1 : Int32))) (fun h => by rw [Bd.returns] at h; cases h)
      refine ⟨_, _, ?_, hrun, hended, _, _, rfl, ?_, ⟨_, rfl⟩, hW, hsame.mono (by decide) (by decide)⟩
      · show Steps p.tables e below (T5.setTop (mkF m 21 #[.val (.ref a1), .val (.int p2), .unset] [(.int p2), (.int (f (w).toNatClampNeg))])) _
        refine XS.icmpNo X5.here hx rfl (hb hby d4_21) rfl ((teq hc21_7).2) ?_
        show Steps p.tables e below (T5.setTop (mkF m 24 #[.val (.ref a1), .val (.int p2), .unset] [])) _
        refine XS.iconst X5.here hx rfl (hb hby d4_24) ?_
        show Steps p.tables e below (T5.setTop (mkF m 25 #[.val (.ref a1), .val (.int p2), .unset] [(.int (1 : Int32))])) _
        refine XS.goto X5.here hx rfl (pc0 := 25) (pc' := 29) rfl (hb hby d4_25) (by decide) (by decide) ?_
        show Steps p.tables e below (T5.setTop (mkF m 29 #[.val (.ref a1), .val (.int p2), .unset] [(.int (1 : Int32))])) _
        refine XS.istoreN X5.here hx rfl (hb hby d4_29) rfl (l' := #[.val (.ref a1), .val (.int p2), .val (.int (1 : Int32))]) rfl ?_
        show Steps p.tables e below (T5.setTop (mkF m 30 #[.val (.ref a1), .val (.int p2), .val (.int (1 : Int32))] [])) _
        refine XS.iloadN X5.here hx rfl (hb hby d4_30) rfl ?_
        show Steps p.tables e below (T5.setTop (mkF m 31 #[.val (.ref a1), .val (.int p2), .val (.int (1 : Int32))] [(.int (1 : Int32))])) _
        refine XS.ifNo X5.here hx rfl (hb hby d4_31) rfl ((if0 _ _).trans (feq (by decide : ¬ ((1 : Int32) = (0 : Int32)))).1) ?_
        show Steps p.tables e below (T5.setTop (mkF m 34 #[.val (.ref a1), .val (.int p2), .val (.int (1 : Int32))] [])) _
        refine XS.aloadN X5.here hx rfl (hb hby d4_34) rfl rfl ?_
        show Steps p.tables e below (T5.setTop (mkF m 35 #[.val (.ref a1), .val (.int p2), .val (.int (1 : Int32))] [(.ref a1)])) _
        refine XS.dup X5.here hx rfl (hb hby d4_35) rfl rfl ?_
        show Steps p.tables e below (T5.setTop (mkF m 36 #[.val (.ref a1), .val (.int p2), .val (.int (1 : Int32))] [(.ref a1), (.ref a1)])) _
        refine st8 _ ?_
        show Steps p.tables e below (T8.setTop (mkF m 39 #[.val (.ref a1), .val (.int p2), .val (.int (1 : Int32))] [(.int w), (.ref a1)])) _
        refine XS.iconst X8.here hx rfl (hb hby d4_39) ?_
        show Steps p.tables e below (T8.setTop (mkF m 40 #[.val (.ref a1), .val (.int p2), .val (.int (1 : Int32))] [(.int (1 : Int32)), (.int w), (.ref a1)])) _
        refine XS.iadd X8.here hx rfl (hb hby d4_40) rfl ?_
        show Steps p.tables e below (T8.setTop (mkF m 41 #[.val (.ref a1), .val (.int p2), .val (.int (1 : Int32))] [(.int (w + (1 : Int32))), (.ref a1)])) _
        refine st9 _ ?_
        show Steps p.tables e below (T9.setTop (mkF m 44 #[.val (.ref a1), .val (.int p2), .val (.int (1 : Int32))] [])) _
        refine XS.iloadN X9.here hx rfl (hb hby d4_44) rfl ?_
        show Steps p.tables e below (T9.setTop (mkF m 45 #[.val (.ref a1), .val (.int p2), .val (.int (1 : Int32))] [(.int (1 : Int32))])) _
        exact retN X9 hx (t := .boolean) Bd.returns (by simp) (hb hby d4_45) hr
      · have f12 : Exa Z h9 a1 "com/example/flowglyph/flowglyph/core/TextCursor" := (E_a1.wr W9)
        have f13 : Fld Z h9 a1 "com/example/flowglyph/flowglyph/core/TextCursor" "end" "I" (.int q) := (F_end_a1.other W9 (Or.inr (slot_ne (Or.inr (hw _ (List.mem_of_getElem? (i := 19) rfl))) (Or.inl (hw _ (List.mem_of_getElem? (i := 17) rfl))) (by decide) (t := .int) (t' := .int) (by decide) (by decide))))
        have f14 : Fld Z h9 a1 "com/example/flowglyph/flowglyph/core/TextCursor" "text" "[C" (.ref d) := (F_text_a1.other W9 (Or.inr (slot_ne (Or.inr (hw _ (List.mem_of_getElem? (i := 15) rfl))) (Or.inl (hw _ (List.mem_of_getElem? (i := 17) rfl))) (by decide) (t := (.array .char)) (t' := .int) (by decide) (by decide))))
        show Q4 Z a1 p2 w q d k n f h0 n0 _ T9.heap _
        rw [e9]
        exact ⟨(w + (1 : Int32)), _, rfl, (by simp only [if_pos hc8_3, if_pos hc21_7]), N9, K11, f12, Fw9, f13, f14, (by simp only [if_pos hc8_3, if_pos hc21_7])⟩
    · obtain ⟨fs, hr, hrun, hended, hW, hsame⟩ := X5.leave (v := some (.int (0 : Int32))) (fun h => by rw [Bd.returns] at h; cases h)
      refine ⟨_, _, ?_, hrun, hended, _, _, rfl, ?_, ⟨_, rfl⟩, hW, hsame.mono (by decide) (by decide)⟩
      · show Steps p.tables e below (T5.setTop (mkF m 21 #[.val (.ref a1), .val (.int p2), .unset] [(.int p2), (.int (f (w).toNatClampNeg))])) _
        refine XS.icmpYes X5.here hx rfl (pc0 := 21) (pc' := 28) rfl (hb hby d4_21) rfl ((feq hc21_7).2) (by decide) (by decide) ?_
        show Steps p.tables e below (T5.setTop (mkF m 28 #[.val (.ref a1), .val (.int p2), .unset] [])) _
        refine XS.iconst X5.here hx rfl (hb hby d4_28) ?_
        show Steps p.tables e below (T5.setTop (mkF m 29 #[.val (.ref a1), .val (.int p2), .unset] [(.int (0 : Int32))])) _
        refine XS.istoreN X5.here hx rfl (hb hby d4_29) rfl (l' := #[.val (.ref a1), .val (.int p2), .val (.int (0 : Int32))]) rfl ?_
        show Steps p.tables e below (T5.setTop (mkF m 30 #[.val (.ref a1), .val (.int p2), .val (.int (0 : Int32))] [])) _
        refine XS.iloadN X5.here hx rfl (hb hby d4_30) rfl ?_
        show Steps p.tables e below (T5.setTop (mkF m 31 #[.val (.ref a1), .val (.int p2), .val (.int (0 : Int32))] [(.int (0 : Int32))])) _
        refine XS.ifYes X5.here hx rfl (pc0 := 31) (pc' := 44) rfl (hb hby d4_31) rfl ((if0 _ _).trans (teq (by decide : (0 : Int32) = (0 : Int32))).1) (by decide) (by decide) ?_
        show Steps p.tables e below (T5.setTop (mkF m 44 #[.val (.ref a1), .val (.int p2), .val (.int (0 : Int32))] [])) _
        refine XS.iloadN X5.here hx rfl (hb hby d4_44) rfl ?_
        show Steps p.tables e below (T5.setTop (mkF m 45 #[.val (.ref a1), .val (.int p2), .val (.int (0 : Int32))] [(.int (0 : Int32))])) _
        exact retN X5 hx (t := .boolean) Bd.returns (by simp) (hb hby d4_45) hr
      · show Q4 Z a1 p2 w q d k n f h0 n0 _ T5.heap _
        rw [e5]
        exact ⟨w, _, rfl, (by simp only [if_pos hc8_3, if_neg hc21_7]), N0, K0, E_a1, F_position_a1, F_end_a1, F_text_a1, (by simp only [if_pos hc8_3, if_neg hc21_7])⟩
  · obtain ⟨fs, hr, hrun, hended, hW, hsame⟩ := X2.leave (v := some (.int (0 : Int32))) (fun h => by rw [Bd.returns] at h; cases h)
    refine ⟨_, _, ?_, hrun, hended, _, _, rfl, ?_, ⟨_, rfl⟩, hW, hsame.mono (by decide) (by decide)⟩
    · show Steps p.tables e below (T2.setTop (mkF m 8 #[.val (.ref a1), .val (.int p2), .unset] [(.int q), (.int w)])) _
      refine XS.icmpYes X2.here hx rfl (pc0 := 8) (pc' := 28) rfl (hb hby d4_8) rfl ((flt hc8_3).2.1) (by decide) (by decide) ?_
      show Steps p.tables e below (T2.setTop (mkF m 28 #[.val (.ref a1), .val (.int p2), .unset] [])) _
      refine XS.iconst X2.here hx rfl (hb hby d4_28) ?_
      show Steps p.tables e below (T2.setTop (mkF m 29 #[.val (.ref a1), .val (.int p2), .unset] [(.int (0 : Int32))])) _
      refine XS.istoreN X2.here hx rfl (hb hby d4_29) rfl (l' := #[.val (.ref a1), .val (.int p2), .val (.int (0 : Int32))]) rfl ?_
      show Steps p.tables e below (T2.setTop (mkF m 30 #[.val (.ref a1), .val (.int p2), .val (.int (0 : Int32))] [])) _
      refine XS.iloadN X2.here hx rfl (hb hby d4_30) rfl ?_
      show Steps p.tables e below (T2.setTop (mkF m 31 #[.val (.ref a1), .val (.int p2), .val (.int (0 : Int32))] [(.int (0 : Int32))])) _
      refine XS.ifYes X2.here hx rfl (pc0 := 31) (pc' := 44) rfl (hb hby d4_31) rfl ((if0 _ _).trans (teq (by decide : (0 : Int32) = (0 : Int32))).1) (by decide) (by decide) ?_
      show Steps p.tables e below (T2.setTop (mkF m 44 #[.val (.ref a1), .val (.int p2), .val (.int (0 : Int32))] [])) _
      refine XS.iloadN X2.here hx rfl (hb hby d4_44) rfl ?_
      show Steps p.tables e below (T2.setTop (mkF m 45 #[.val (.ref a1), .val (.int p2), .val (.int (0 : Int32))] [(.int (0 : Int32))])) _
      exact retN X2 hx (t := .boolean) Bd.returns (by simp) (hb hby d4_45) hr
    · show Q4 Z a1 p2 w q d k n f h0 n0 _ T2.heap _
      rw [e2]
      exact ⟨w, _, rfl, (by simp only [if_neg hc8_3]), N0, K0, E_a1, F_position_a1, F_end_a1, F_text_a1, (by simp only [if_neg hc8_3])⟩
theorem d5_0 : decode prog_49_method_11_code 0 = .ok (.aload_n 0, 1) := by decide +kernel
theorem d5_1 : decode prog_49_method_11_code 1 = .ok (.getfield 28, 3) := by decide +kernel
theorem d5_4 : decode prog_49_method_11_code 4 = .ok (.aload_n 0, 1) := by decide +kernel
theorem d5_5 : decode prog_49_method_11_code 5 = .ok (.getfield 32, 3) := by decide +kernel
theorem d5_8 : decode prog_49_method_11_code 8 = .ok (.if_icmp .ne 7, 3) := by decide +kernel
theorem d5_11 : decode prog_49_method_11_code 11 = .ok (.iconst 1, 1) := by decide +kernel
theorem d5_12 : decode prog_49_method_11_code 12 = .ok (.goto 4, 3) := by decide +kernel
theorem d5_15 : decode prog_49_method_11_code 15 = .ok (.iconst 0, 1) := by decide +kernel
theorem d5_16 : decode prog_49_method_11_code 16 = .ok (.ireturn, 1) := by decide +kernel
theorem ef_rm5 (m : MethodId) (a1 : Addr) : entryFrame m #[(.ref a1)] 1 = mkF m 0 #[.val (.ref a1)] [] := by first | (simp [entryFrame, mkF, argsToLocals, Value.category]; done) | rfl
def Q5 (Z : State) (a1 : Addr) (w : Int32) (q : Int32) (h0 : Heap) (n0 : Nat) (v : Option Value) (h : Heap) (L : List Loc) : Prop := ∃ r : Int32, v = some (.int r) ∧ r = (if w = q then (1 : Int32) else (0 : Int32)) ∧ Fr n0 L ∧ h = h0
set_option maxRecDepth 65536 in
set_option maxHeartbeats 40000000 in
theorem rm5 (l : Launch) (Z : State) (a0 : Array Value) (hw : ∀ d ∈ tables_1, d.before a0 Z = true) (ws : List Jvm.Cond) (a1 : Addr) (w : Int32) (q : Int32) (h0 : Heap) (n0 : Nat) (Z0 : n0 ≤ h0.size) (F_position_a1 : Fld Z h0 a1 "com/example/flowglyph/flowglyph/core/TextCursor" "position" "I" (.int w)) (F_end_a1 : Fld Z h0 a1 "com/example/flowglyph/flowglyph/core/TextCursor" "end" "I" (.int q)) :
    MetFree l (⟨"com/example/flowglyph/flowglyph/core/TextCursor", "readWhole", "()Z"⟩ : MethodName) (head1 (Jvm.Cond.code (⟨"com/example/flowglyph/flowglyph/core/TextCursor", "readWhole", "()Z"⟩ : MethodName) prog_49_method_11_code 1 (some .boolean) :: ws) ({ frames := 0, cells := 0, slots := 0, locals := 0 } : Room)) (fun a U => a = #[(.ref a1)] ∧ Z.Warmed39 U.vm ∧ U.heap = h0) (fun _ _ _ _ _ => True) (fun _ U o U' => ∃ v L, o = .returned v ∧ Q5 Z a1 w q h0 n0 v U'.heap L ∧ FrameEnd U o U' L ({ frames := 0, cells := 0, slots := 0, locals := 0 } : Room).cells ({ frames := 0, cells := 0, slots := 0, locals := 0 } : Room).slots) := by
  refine MetFree.of_bodySF (plainFor_of_name pn_1) hisR ?_
  intro p e s m args below meth c s₁ Bd hml0 hP hK
  obtain ⟨rfl, hZ, hh⟩ := hP
  have hx := Bd.exec
  have hby := Bd.bytes
  have hml : c.maxLocals = 1 := hml0
  have hown : s.vm.findClass "com/example/flowglyph/flowglyph/core/TextCursor" = some m.cls := findClass_of_methodNamed Bd.named
  have hnm := (name_of_methodNamed Bd.named Bd.method).1
  have X0 : Stand p l e ({ frames := 0, cells := 0, slots := 0, locals := 0 } : Room) s m #[(.ref a1)] below meth c s₁ [] 0 0 := Stand.of_body Bd
  have e0 : s₁.heap = h0 := by rw [← hh, Bd.state]; rfl
  have N0 := Fr.nil n0
  show GoalS p.tables e below s ({ frames := 0, cells := 0, slots := 0, locals := 0 } : Room).cells ({ frames := 0, cells := 0, slots := 0, locals := 0 } : Room).slots (Q5 Z a1 w q h0 n0) (s₁.setTop (entryFrame m #[(.ref a1)] 1))
  refine GoalS.lift (B := s₁.setTop (mkF m 0 #[.val (.ref a1)] [])) (fun t k => castTop (ef_rm5 m a1) k) ?_
  have K0 : Keep h0 h0 [] := Keep.refl _ _
  obtain ⟨T1, X1, e1, st1⟩ := getF X0 hx hZ hown (host := "") (Or.inl (hw _ (List.mem_of_getElem? (i := 16) rfl))) Via.refl e0 F_position_a1 (g := (mkF m 1 #[.val (.ref a1)] [(.ref a1)])) rfl rfl (hb hby d5_1)
  obtain ⟨T2, X2, e2, st2⟩ := getF X1 hx hZ hown (host := "") (Or.inl (hw _ (List.mem_of_getElem? (i := 18) rfl))) Via.refl e1 F_end_a1 (g := (mkF m 5 #[.val (.ref a1)] [(.ref a1), (.int w)])) rfl rfl (hb hby d5_5)
  refine GoalS.lift (B := (T2.setTop (mkF m 8 #[.val (.ref a1)] [(.int q), (.int w)]))) (fun t k => ?_) ?_
  · show Steps p.tables e below (s₁.setTop (mkF m 0 #[.val (.ref a1)] [])) _
    refine XS.aloadN X0.here hx rfl (hb hby d5_0) rfl rfl ?_
    show Steps p.tables e below (s₁.setTop (mkF m 1 #[.val (.ref a1)] [(.ref a1)])) _
    refine st1 _ ?_
    show Steps p.tables e below (T1.setTop (mkF m 4 #[.val (.ref a1)] [(.int w)])) _
    refine XS.aloadN X1.here hx rfl (hb hby d5_4) rfl rfl ?_
    show Steps p.tables e below (T1.setTop (mkF m 5 #[.val (.ref a1)] [(.ref a1), (.int w)])) _
    refine st2 _ ?_
    show Steps p.tables e below (T2.setTop (mkF m 8 #[.val (.ref a1)] [(.int q), (.int w)])) _
    exact k
  by_cases hc8_3 : w = q
  · obtain ⟨fs, hr, hrun, hended, hW, hsame⟩ := X2.leave (v := some (.int (1 : Int32))) (fun h => by rw [Bd.returns] at h; cases h)
    refine ⟨_, _, ?_, hrun, hended, _, _, rfl, ?_, ⟨_, rfl⟩, hW, hsame.mono (by decide) (by decide)⟩
    · show Steps p.tables e below (T2.setTop (mkF m 8 #[.val (.ref a1)] [(.int q), (.int w)])) _
      refine XS.icmpNo X2.here hx rfl (hb hby d5_8) rfl ((teq hc8_3).2) ?_
      show Steps p.tables e below (T2.setTop (mkF m 11 #[.val (.ref a1)] [])) _
      refine XS.iconst X2.here hx rfl (hb hby d5_11) ?_
      show Steps p.tables e below (T2.setTop (mkF m 12 #[.val (.ref a1)] [(.int (1 : Int32))])) _
      refine XS.goto X2.here hx rfl (pc0 := 12) (pc' := 16) rfl (hb hby d5_12) (by decide) (by decide) ?_
      show Steps p.tables e below (T2.setTop (mkF m 16 #[.val (.ref a1)] [(.int (1 : Int32))])) _
      exact retN X2 hx (t := .boolean) Bd.returns (by simp) (hb hby d5_16) hr
    · show Q5 Z a1 w q h0 n0 _ T2.heap _
      exact ⟨_, rfl, (by simp only [if_pos hc8_3]), N0, e2⟩
  · obtain ⟨fs, hr, hrun, hended, hW, hsame⟩ := X2.leave (v := some (.int (0 : Int32))) (fun h => by rw [Bd.returns] at h; cases h)
    refine ⟨_, _, ?_, hrun, hended, _, _, rfl, ?_, ⟨_, rfl⟩, hW, hsame.mono (by decide) (by decide)⟩
    · show Steps p.tables e below (T2.setTop (mkF m 8 #[.val (.ref a1)] [(.int q), (.int w)])) _
      refine XS.icmpYes X2.here hx rfl (pc0 := 8) (pc' := 15) rfl (hb hby d5_8) rfl ((feq hc8_3).2) (by decide) (by decide) ?_
      show Steps p.tables e below (T2.setTop (mkF m 15 #[.val (.ref a1)] [])) _
      refine XS.iconst X2.here hx rfl (hb hby d5_15) ?_
      show Steps p.tables e below (T2.setTop (mkF m 16 #[.val (.ref a1)] [(.int (0 : Int32))])) _
      exact retN X2 hx (t := .boolean) Bd.returns (by simp) (hb hby d5_16) hr
    · show Q5 Z a1 w q h0 n0 _ T2.heap _
      exact ⟨_, rfl, (by simp only [if_neg hc8_3]), N0, e2⟩
theorem pd_0 : parseMethodDescriptor "([CI)C" = some ⟨[(.array .char), .int], some .char⟩ := by decide +kernel
theorem pd_1 : parseMethodDescriptor "([CII)V" = some ⟨[(.array .char), .int, .int], none⟩ := by decide +kernel
theorem pd_2 : parseMethodDescriptor "(C)Z" = some ⟨[.char], some .boolean⟩ := by decide +kernel
theorem pd_3 : parseMethodDescriptor "()Z" = some ⟨[], some .boolean⟩ := by decide +kernel
theorem ef_rm0 (m : MethodId) (p1 : Int32) (p2 : Int32) (p3 : Int32) (p4 : Int32) (p5 : Int32) (p6 : Int32) : entryFrame m #[(.int p1), (.int p2), (.int p3), (.int p4), (.int p5), (.int p6)] maxLocals = mkF m 0 #[.val (.int p1), .val (.int p2), .val (.int p3), .val (.int p4), .val (.int p5), .val (.int p6), .unset, .unset, .unset, .unset, .unset, .unset, .unset, .unset, .unset, .unset, .unset, .unset] [] := by first | (simp [entryFrame, mkF, argsToLocals, Value.category, maxLocals]; done) | rfl
def Q0 (Z : State) (p1 : Int32) (p2 : Int32) (p3 : Int32) (p4 : Int32) (p5 : Int32) (p6 : Int32) (h0 : Heap) (n0 : Nat) (v : Option Value) (h : Heap) (L : List Loc) : Prop := v = some (.int (1 : Int32)) ∧ Fr n0 L
set_option maxRecDepth 65536 in
set_option maxHeartbeats 40000000 in
theorem rm0 (l : Launch) (Z : State) (a0 : Array Value) (hw : ∀ d ∈ tables_1, d.before a0 Z = true) (ws : List Jvm.Cond) (p1 : Int32) (p2 : Int32) (p3 : Int32) (p4 : Int32) (p5 : Int32) (p6 : Int32) (h0 : Heap) (n0 : Nat) (Z0 : n0 ≤ h0.size) :
    MetFree l x (head1 (Jvm.Cond.code x code maxLocals ret :: ws) room_1) (fun a U => a = #[(.int p1), (.int p2), (.int p3), (.int p4), (.int p5), (.int p6)] ∧ Z.Warmed39 U.vm ∧ U.heap = h0) (fun _ _ _ _ _ => True) (fun _ U o U' => ∃ v L, o = .returned v ∧ Q0 Z p1 p2 p3 p4 p5 p6 h0 n0 v U'.heap L ∧ FrameEnd U o U' L 16 128) := by
  refine MetFree.of_bodySF (plainFor_of_name pn_0) hisR ?_
  intro p e s m args below meth c s₁ Bd hml0 hP hK
  obtain ⟨rfl, hZ, hh⟩ := hP
  have hx := Bd.exec
  have hby := Bd.bytes
  have hml : c.maxLocals = 18 := hml0
  have hown : s.vm.findClass "com/example/flowglyph/flowglyph/core/TextCursorSkipPinLaw" = some m.cls := findClass_of_methodNamed Bd.named
  have hnm := (name_of_methodNamed Bd.named Bd.method).1
  have X0 : Stand p l e room_1 s m #[(.int p1), (.int p2), (.int p3), (.int p4), (.int p5), (.int p6)] below meth c s₁ [] 0 0 := Stand.of_body Bd
  have e0 : s₁.heap = h0 := by rw [← hh, Bd.state]; rfl
  have N0 := Fr.nil n0
  show GoalS p.tables e below s 16 128 (Q0 Z p1 p2 p3 p4 p5 p6 h0 n0) (s₁.setTop (entryFrame m #[(.int p1), (.int p2), (.int p3), (.int p4), (.int p5), (.int p6)] maxLocals))
  refine GoalS.lift (B := s₁.setTop (mkF m 0 #[.val (.int p1), .val (.int p2), .val (.int p3), .val (.int p4), .val (.int p5), .val (.int p6), .unset, .unset, .unset, .unset, .unset, .unset, .unset, .unset, .unset, .unset, .unset, .unset] [])) (fun t k => castTop (ef_rm0 m p1 p2 p3 p4 p5 p6) k) ?_
  obtain ⟨T1, h1, k1, X1, e1, E1, A1, st1⟩ := newP X0 hx hZ (hw _ (List.mem_of_getElem? (i := 0) rfl)) e0 (g := (mkF m 1 #[.val (.int p1), .val (.int p2), .val (.int p3), .val (.int p4), .val (.int p5), .val (.int p6), .unset, .unset, .unset, .unset, .unset, .unset, .unset, .unset, .unset, .unset, .unset, .unset] [(.int (3 : Int32))])) rfl (hb hby at_1) rfl (by decide) (cap := 3) (by decide) (by decide) (by decide) (by decide)
  obtain ⟨b1, g1⟩ : ∃ z, z = h0.size := ⟨_, rfl⟩
  rw [← g1] at A1 st1
  have g_b1 : n0 ≤ b1 := Nat.le_trans Z0 (Nat.le_of_eq g1.symm)
  have z2 : n0 ≤ h1.size := Nat.le_trans Z0 E1.1
  have V1 : AV Z h1 b1 k1 .char 3 (fun i => Value.int ((fun _ => (0 : Int32)) i)) := AV.new A1 (by decide) (by decide) (by decide)
  obtain ⟨cl3, Ar3, kc3, sz3, -, -⟩ := id V1
  have hin3 : ¬ ((0 : Int32) < 0 ∨ cl3.slots.size ≤ ((0 : Int32)).toNatClampNeg) := AV.inb sz3 (show ¬ (0 : Int32) < 0 ∧ ((0 : Int32)).toNatClampNeg < 3 by decide)
  obtain ⟨T3, h3, X3, e3, W3, st3⟩ := stC X1 hx hZ e1 Ar3 (j := (0 : Int32)) hin3 (g := (mkF m 7 #[.val (.int p1), .val (.int p2), .val (.int p3), .val (.int p4), .val (.int p5), .val (.int p6), .unset, .unset, .unset, .unset, .unset, .unset, .unset, .unset, .unset, .unset, .unset, .unset] [(.int ((p1).toUInt32.toUInt16.toUInt32.toInt32)), (.int (0 : Int32)), (.ref b1), (.ref b1)])) rfl rfl (hb hby at_7)
  have z4 : n0 ≤ h3.size := Nat.le_trans z2 (Keep.of_wr W3).1
  obtain ⟨fn3, hfn3⟩ : ∃ z, z = (updI (fun _ => (0 : Int32)) 0 (((p1).toUInt32.toUInt16.toUInt32.toInt32)).toUInt32.toUInt16.toUInt32.toInt32) := ⟨_, rfl⟩
  have V3 : AV Z h3 b1 k1 .char 3 (fun i => Value.int (fn3 i)) := (by rw [hfn3]; exact AV.putI V1 W3 (AV.inx (show ¬ (0 : Int32) < 0 ∧ ((0 : Int32)).toNatClampNeg < 3 by decide)))
  have N3 := Fr.snoc X3 N0 g_b1
  obtain ⟨cl5, Ar5, kc5, sz5, -, -⟩ := id V3
  have hin5 : ¬ ((1 : Int32) < 0 ∨ cl5.slots.size ≤ ((1 : Int32)).toNatClampNeg) := AV.inb sz5 (show ¬ (1 : Int32) < 0 ∧ ((1 : Int32)).toNatClampNeg < 3 by decide)
  obtain ⟨T5, h5, X5, e5, W5, st5⟩ := stC X3 hx hZ e3 Ar5 (j := (1 : Int32)) hin5 (g := (mkF m 12 #[.val (.int p1), .val (.int p2), .val (.int p3), .val (.int p4), .val (.int p5), .val (.int p6), .unset, .unset, .unset, .unset, .unset, .unset, .unset, .unset, .unset, .unset, .unset, .unset] [(.int ((p2).toUInt32.toUInt16.toUInt32.toInt32)), (.int (1 : Int32)), (.ref b1), (.ref b1)])) rfl rfl (hb hby at_12)
  have z6 : n0 ≤ h5.size := Nat.le_trans z4 (Keep.of_wr W5).1
  obtain ⟨fn5, hfn5⟩ : ∃ z, z = (updI fn3 1 (((p2).toUInt32.toUInt16.toUInt32.toInt32)).toUInt32.toUInt16.toUInt32.toInt32) := ⟨_, rfl⟩
  have V5 : AV Z h5 b1 k1 .char 3 (fun i => Value.int (fn5 i)) := (by rw [hfn5]; exact AV.putI V3 W5 (AV.inx (show ¬ (1 : Int32) < 0 ∧ ((1 : Int32)).toNatClampNeg < 3 by decide)))
  have N5 := Fr.snoc X5 N3 g_b1
  obtain ⟨cl7, Ar7, kc7, sz7, -, -⟩ := id V5
  have hin7 : ¬ ((2 : Int32) < 0 ∨ cl7.slots.size ≤ ((2 : Int32)).toNatClampNeg) := AV.inb sz7 (show ¬ (2 : Int32) < 0 ∧ ((2 : Int32)).toNatClampNeg < 3 by decide)
  obtain ⟨T7, h7, X7, e7, W7, st7⟩ := stC X5 hx hZ e5 Ar7 (j := (2 : Int32)) hin7 (g := (mkF m 17 #[.val (.int p1), .val (.int p2), .val (.int p3), .val (.int p4), .val (.int p5), .val (.int p6), .unset, .unset, .unset, .unset, .unset, .unset, .unset, .unset, .unset, .unset, .unset, .unset] [(.int ((p3).toUInt32.toUInt16.toUInt32.toInt32)), (.int (2 : Int32)), (.ref b1), (.ref b1)])) rfl rfl (hb hby at_17)
  have z8 : n0 ≤ h7.size := Nat.le_trans z6 (Keep.of_wr W7).1
  obtain ⟨fn7, hfn7⟩ : ∃ z, z = (updI fn5 2 (((p3).toUInt32.toUInt16.toUInt32.toInt32)).toUInt32.toUInt16.toUInt32.toInt32) := ⟨_, rfl⟩
  have V7 : AV Z h7 b1 k1 .char 3 (fun i => Value.int (fn7 i)) := (by rw [hfn7]; exact AV.putI V5 W7 (AV.inx (show ¬ (2 : Int32) < 0 ∧ ((2 : Int32)).toNatClampNeg < 3 by decide)))
  have N7 := Fr.snoc X7 N5 g_b1
  obtain ⟨sa, hsa⟩ : ∃ z : Int32, z = (p4 &&& (3 : Int32)) := ⟨_, rfl⟩
  refine GoalS.lift (B := (T7.setTop (mkF m 23 #[.val (.int p1), .val (.int p2), .val (.int p3), .val (.int p4), .val (.int p5), .val (.int p6), .val (.ref b1), .unset, .unset, .unset, .unset, .unset, .unset, .unset, .unset, .unset, .unset, .unset] [(.int sa)]))) (fun t k => ?_) ?_
  · show Steps p.tables e below (s₁.setTop (mkF m 0 #[.val (.int p1), .val (.int p2), .val (.int p3), .val (.int p4), .val (.int p5), .val (.int p6), .unset, .unset, .unset, .unset, .unset, .unset, .unset, .unset, .unset, .unset, .unset, .unset] [])) _
    refine XS.iconst X0.here hx rfl (hb hby at_0) ?_
    show Steps p.tables e below (s₁.setTop (mkF m 1 #[.val (.int p1), .val (.int p2), .val (.int p3), .val (.int p4), .val (.int p5), .val (.int p6), .unset, .unset, .unset, .unset, .unset, .unset, .unset, .unset, .unset, .unset, .unset, .unset] [(.int (3 : Int32))])) _
    refine st1 _ ?_
    show Steps p.tables e below (T1.setTop (mkF m 3 #[.val (.int p1), .val (.int p2), .val (.int p3), .val (.int p4), .val (.int p5), .val (.int p6), .unset, .unset, .unset, .unset, .unset, .unset, .unset, .unset, .unset, .unset, .unset, .unset] [(.ref b1)])) _
    refine XS.dup X1.here hx rfl (hb hby at_3) rfl rfl ?_
    show Steps p.tables e below (T1.setTop (mkF m 4 #[.val (.int p1), .val (.int p2), .val (.int p3), .val (.int p4), .val (.int p5), .val (.int p6), .unset, .unset, .unset, .unset, .unset, .unset, .unset, .unset, .unset, .unset, .unset, .unset] [(.ref b1), (.ref b1)])) _
    refine XS.iconst X1.here hx rfl (hb hby at_4) ?_
    show Steps p.tables e below (T1.setTop (mkF m 5 #[.val (.int p1), .val (.int p2), .val (.int p3), .val (.int p4), .val (.int p5), .val (.int p6), .unset, .unset, .unset, .unset, .unset, .unset, .unset, .unset, .unset, .unset, .unset, .unset] [(.int (0 : Int32)), (.ref b1), (.ref b1)])) _
    refine XS.iloadN X1.here hx rfl (hb hby at_5) rfl ?_
    show Steps p.tables e below (T1.setTop (mkF m 6 #[.val (.int p1), .val (.int p2), .val (.int p3), .val (.int p4), .val (.int p5), .val (.int p6), .unset, .unset, .unset, .unset, .unset, .unset, .unset, .unset, .unset, .unset, .unset, .unset] [(.int p1), (.int (0 : Int32)), (.ref b1), (.ref b1)])) _
    refine XS.i2c X1.here hx rfl (hb hby at_6) rfl ?_
    show Steps p.tables e below (T1.setTop (mkF m 7 #[.val (.int p1), .val (.int p2), .val (.int p3), .val (.int p4), .val (.int p5), .val (.int p6), .unset, .unset, .unset, .unset, .unset, .unset, .unset, .unset, .unset, .unset, .unset, .unset] [(.int ((p1).toUInt32.toUInt16.toUInt32.toInt32)), (.int (0 : Int32)), (.ref b1), (.ref b1)])) _
    refine st3 _ ?_
    show Steps p.tables e below (T3.setTop (mkF m 8 #[.val (.int p1), .val (.int p2), .val (.int p3), .val (.int p4), .val (.int p5), .val (.int p6), .unset, .unset, .unset, .unset, .unset, .unset, .unset, .unset, .unset, .unset, .unset, .unset] [(.ref b1)])) _
    refine XS.dup X3.here hx rfl (hb hby at_8) rfl rfl ?_
    show Steps p.tables e below (T3.setTop (mkF m 9 #[.val (.int p1), .val (.int p2), .val (.int p3), .val (.int p4), .val (.int p5), .val (.int p6), .unset, .unset, .unset, .unset, .unset, .unset, .unset, .unset, .unset, .unset, .unset, .unset] [(.ref b1), (.ref b1)])) _
    refine XS.iconst X3.here hx rfl (hb hby at_9) ?_
    show Steps p.tables e below (T3.setTop (mkF m 10 #[.val (.int p1), .val (.int p2), .val (.int p3), .val (.int p4), .val (.int p5), .val (.int p6), .unset, .unset, .unset, .unset, .unset, .unset, .unset, .unset, .unset, .unset, .unset, .unset] [(.int (1 : Int32)), (.ref b1), (.ref b1)])) _
    refine XS.iloadN X3.here hx rfl (hb hby at_10) rfl ?_
    show Steps p.tables e below (T3.setTop (mkF m 11 #[.val (.int p1), .val (.int p2), .val (.int p3), .val (.int p4), .val (.int p5), .val (.int p6), .unset, .unset, .unset, .unset, .unset, .unset, .unset, .unset, .unset, .unset, .unset, .unset] [(.int p2), (.int (1 : Int32)), (.ref b1), (.ref b1)])) _
    refine XS.i2c X3.here hx rfl (hb hby at_11) rfl ?_
    show Steps p.tables e below (T3.setTop (mkF m 12 #[.val (.int p1), .val (.int p2), .val (.int p3), .val (.int p4), .val (.int p5), .val (.int p6), .unset, .unset, .unset, .unset, .unset, .unset, .unset, .unset, .unset, .unset, .unset, .unset] [(.int ((p2).toUInt32.toUInt16.toUInt32.toInt32)), (.int (1 : Int32)), (.ref b1), (.ref b1)])) _
    refine st5 _ ?_
    show Steps p.tables e below (T5.setTop (mkF m 13 #[.val (.int p1), .val (.int p2), .val (.int p3), .val (.int p4), .val (.int p5), .val (.int p6), .unset, .unset, .unset, .unset, .unset, .unset, .unset, .unset, .unset, .unset, .unset, .unset] [(.ref b1)])) _
    refine XS.dup X5.here hx rfl (hb hby at_13) rfl rfl ?_
    show Steps p.tables e below (T5.setTop (mkF m 14 #[.val (.int p1), .val (.int p2), .val (.int p3), .val (.int p4), .val (.int p5), .val (.int p6), .unset, .unset, .unset, .unset, .unset, .unset, .unset, .unset, .unset, .unset, .unset, .unset] [(.ref b1), (.ref b1)])) _
    refine XS.iconst X5.here hx rfl (hb hby at_14) ?_
    show Steps p.tables e below (T5.setTop (mkF m 15 #[.val (.int p1), .val (.int p2), .val (.int p3), .val (.int p4), .val (.int p5), .val (.int p6), .unset, .unset, .unset, .unset, .unset, .unset, .unset, .unset, .unset, .unset, .unset, .unset] [(.int (2 : Int32)), (.ref b1), (.ref b1)])) _
    refine XS.iloadN X5.here hx rfl (hb hby at_15) rfl ?_
    show Steps p.tables e below (T5.setTop (mkF m 16 #[.val (.int p1), .val (.int p2), .val (.int p3), .val (.int p4), .val (.int p5), .val (.int p6), .unset, .unset, .unset, .unset, .unset, .unset, .unset, .unset, .unset, .unset, .unset, .unset] [(.int p3), (.int (2 : Int32)), (.ref b1), (.ref b1)])) _
    refine XS.i2c X5.here hx rfl (hb hby at_16) rfl ?_
    show Steps p.tables e below (T5.setTop (mkF m 17 #[.val (.int p1), .val (.int p2), .val (.int p3), .val (.int p4), .val (.int p5), .val (.int p6), .unset, .unset, .unset, .unset, .unset, .unset, .unset, .unset, .unset, .unset, .unset, .unset] [(.int ((p3).toUInt32.toUInt16.toUInt32.toInt32)), (.int (2 : Int32)), (.ref b1), (.ref b1)])) _
    refine st7 _ ?_
    show Steps p.tables e below (T7.setTop (mkF m 18 #[.val (.int p1), .val (.int p2), .val (.int p3), .val (.int p4), .val (.int p5), .val (.int p6), .unset, .unset, .unset, .unset, .unset, .unset, .unset, .unset, .unset, .unset, .unset, .unset] [(.ref b1)])) _
    refine XS.astore X7.here hx rfl (hb hby at_18) rfl rfl (l' := #[.val (.int p1), .val (.int p2), .val (.int p3), .val (.int p4), .val (.int p5), .val (.int p6), .val (.ref b1), .unset, .unset, .unset, .unset, .unset, .unset, .unset, .unset, .unset, .unset, .unset]) rfl ?_
    show Steps p.tables e below (T7.setTop (mkF m 20 #[.val (.int p1), .val (.int p2), .val (.int p3), .val (.int p4), .val (.int p5), .val (.int p6), .val (.ref b1), .unset, .unset, .unset, .unset, .unset, .unset, .unset, .unset, .unset, .unset, .unset] [])) _
    refine XS.iloadN X7.here hx rfl (hb hby at_20) rfl ?_
    show Steps p.tables e below (T7.setTop (mkF m 21 #[.val (.int p1), .val (.int p2), .val (.int p3), .val (.int p4), .val (.int p5), .val (.int p6), .val (.ref b1), .unset, .unset, .unset, .unset, .unset, .unset, .unset, .unset, .unset, .unset, .unset] [(.int p4)])) _
    refine XS.iconst X7.here hx rfl (hb hby at_21) ?_
    show Steps p.tables e below (T7.setTop (mkF m 22 #[.val (.int p1), .val (.int p2), .val (.int p3), .val (.int p4), .val (.int p5), .val (.int p6), .val (.ref b1), .unset, .unset, .unset, .unset, .unset, .unset, .unset, .unset, .unset, .unset, .unset] [(.int (3 : Int32)), (.int p4)])) _
    refine XS.iand X7.here hx rfl (hb hby at_22) rfl ?_
    rw [hsa] at k
    exact k
  obtain ⟨en, hen⟩ : ∃ z : Int32, z = (sa + (((((p4).toUInt32 >>> ((2 : Int32) &&& 31).toUInt32).toInt32) &&& (3 : Int32)) % ((4 : Int32) - sa))) := ⟨_, rfl⟩
  refine GoalS.lift (B := (T7.setTop (mkF m 38 #[.val (.int p1), .val (.int p2), .val (.int p3), .val (.int p4), .val (.int p5), .val (.int p6), .val (.ref b1), .val (.int sa), .unset, .unset, .unset, .unset, .unset, .unset, .unset, .unset, .unset, .unset] [(.int en)]))) (fun t k => ?_) ?_
  · show Steps p.tables e below (T7.setTop (mkF m 23 #[.val (.int p1), .val (.int p2), .val (.int p3), .val (.int p4), .val (.int p5), .val (.int p6), .val (.ref b1), .unset, .unset, .unset, .unset, .unset, .unset, .unset, .unset, .unset, .unset, .unset] [(.int sa)])) _
    refine XS.istore X7.here hx rfl (hb hby at_23) rfl (l' := #[.val (.int p1), .val (.int p2), .val (.int p3), .val (.int p4), .val (.int p5), .val (.int p6), .val (.ref b1), .val (.int sa), .unset, .unset, .unset, .unset, .unset, .unset, .unset, .unset, .unset, .unset]) rfl ?_
    show Steps p.tables e below (T7.setTop (mkF m 25 #[.val (.int p1), .val (.int p2), .val (.int p3), .val (.int p4), .val (.int p5), .val (.int p6), .val (.ref b1), .val (.int sa), .unset, .unset, .unset, .unset, .unset, .unset, .unset, .unset, .unset, .unset] [])) _
    refine XS.iload X7.here hx rfl (hb hby at_25) rfl ?_
    show Steps p.tables e below (T7.setTop (mkF m 27 #[.val (.int p1), .val (.int p2), .val (.int p3), .val (.int p4), .val (.int p5), .val (.int p6), .val (.ref b1), .val (.int sa), .unset, .unset, .unset, .unset, .unset, .unset, .unset, .unset, .unset, .unset] [(.int sa)])) _
    refine XS.iloadN X7.here hx rfl (hb hby at_27) rfl ?_
    show Steps p.tables e below (T7.setTop (mkF m 28 #[.val (.int p1), .val (.int p2), .val (.int p3), .val (.int p4), .val (.int p5), .val (.int p6), .val (.ref b1), .val (.int sa), .unset, .unset, .unset, .unset, .unset, .unset, .unset, .unset, .unset, .unset] [(.int p4), (.int sa)])) _
    refine XS.iconst X7.here hx rfl (hb hby at_28) ?_
    show Steps p.tables e below (T7.setTop (mkF m 29 #[.val (.int p1), .val (.int p2), .val (.int p3), .val (.int p4), .val (.int p5), .val (.int p6), .val (.ref b1), .val (.int sa), .unset, .unset, .unset, .unset, .unset, .unset, .unset, .unset, .unset, .unset] [(.int (2 : Int32)), (.int p4), (.int sa)])) _
    refine XS.iushr X7.here hx rfl (hb hby at_29) rfl ?_
    show Steps p.tables e below (T7.setTop (mkF m 30 #[.val (.int p1), .val (.int p2), .val (.int p3), .val (.int p4), .val (.int p5), .val (.int p6), .val (.ref b1), .val (.int sa), .unset, .unset, .unset, .unset, .unset, .unset, .unset, .unset, .unset, .unset] [(.int (((p4).toUInt32 >>> ((2 : Int32) &&& 31).toUInt32).toInt32)), (.int sa)])) _
    refine XS.iconst X7.here hx rfl (hb hby at_30) ?_
    show Steps p.tables e below (T7.setTop (mkF m 31 #[.val (.int p1), .val (.int p2), .val (.int p3), .val (.int p4), .val (.int p5), .val (.int p6), .val (.ref b1), .val (.int sa), .unset, .unset, .unset, .unset, .unset, .unset, .unset, .unset, .unset, .unset] [(.int (3 : Int32)), (.int (((p4).toUInt32 >>> ((2 : Int32) &&& 31).toUInt32).toInt32)), (.int sa)])) _
    refine XS.iand X7.here hx rfl (hb hby at_31) rfl ?_
    show Steps p.tables e below (T7.setTop (mkF m 32 #[.val (.int p1), .val (.int p2), .val (.int p3), .val (.int p4), .val (.int p5), .val (.int p6), .val (.ref b1), .val (.int sa), .unset, .unset, .unset, .unset, .unset, .unset, .unset, .unset, .unset, .unset] [(.int ((((p4).toUInt32 >>> ((2 : Int32) &&& 31).toUInt32).toInt32) &&& (3 : Int32))), (.int sa)])) _
    refine XS.iconst X7.here hx rfl (hb hby at_32) ?_
    show Steps p.tables e below (T7.setTop (mkF m 33 #[.val (.int p1), .val (.int p2), .val (.int p3), .val (.int p4), .val (.int p5), .val (.int p6), .val (.ref b1), .val (.int sa), .unset, .unset, .unset, .unset, .unset, .unset, .unset, .unset, .unset, .unset] [(.int (4 : Int32)), (.int ((((p4).toUInt32 >>> ((2 : Int32) &&& 31).toUInt32).toInt32) &&& (3 : Int32))), (.int sa)])) _
    refine XS.iload X7.here hx rfl (hb hby at_33) rfl ?_
    show Steps p.tables e below (T7.setTop (mkF m 35 #[.val (.int p1), .val (.int p2), .val (.int p3), .val (.int p4), .val (.int p5), .val (.int p6), .val (.ref b1), .val (.int sa), .unset, .unset, .unset, .unset, .unset, .unset, .unset, .unset, .unset, .unset] [(.int sa), (.int (4 : Int32)), (.int ((((p4).toUInt32 >>> ((2 : Int32) &&& 31).toUInt32).toInt32) &&& (3 : Int32))), (.int sa)])) _
    refine XS.isub X7.here hx rfl (hb hby at_35) rfl ?_
    show Steps p.tables e below (T7.setTop (mkF m 36 #[.val (.int p1), .val (.int p2), .val (.int p3), .val (.int p4), .val (.int p5), .val (.int p6), .val (.ref b1), .val (.int sa), .unset, .unset, .unset, .unset, .unset, .unset, .unset, .unset, .unset, .unset] [(.int ((4 : Int32) - sa)), (.int ((((p4).toUInt32 >>> ((2 : Int32) &&& 31).toUInt32).toInt32) &&& (3 : Int32))), (.int sa)])) _
    refine iremM X7 hx rfl (hb hby at_36) rfl (own_nz (by rw [hsa]; exact own_m3 p4)) ?_
    show Steps p.tables e below (T7.setTop (mkF m 37 #[.val (.int p1), .val (.int p2), .val (.int p3), .val (.int p4), .val (.int p5), .val (.int p6), .val (.ref b1), .val (.int sa), .unset, .unset, .unset, .unset, .unset, .unset, .unset, .unset, .unset, .unset] [(.int (((((p4).toUInt32 >>> ((2 : Int32) &&& 31).toUInt32).toInt32) &&& (3 : Int32)) % ((4 : Int32) - sa))), (.int sa)])) _
    refine XS.iadd X7.here hx rfl (hb hby at_37) rfl ?_
    rw [hen] at k
    exact k
  have hen2 := own_en _ (by rw [hsa]; exact own_m3 p4) hen
  have hsa2 : 0 ≤ sa.toInt ∧ sa.toInt ≤ 3 := by rw [hsa]; exact own_m3 p4
  obtain ⟨_, _, ⟨T9, L9, k9, n9⟩, -, X9, ⟨Lc9, hQ9, l9, y9, z9⟩, st9⟩ := Jvm.LawKit.callS X7 hx (y := (⟨"com/example/flowglyph/flowglyph/core/TextCursorSkipPinLaw", "pick", "([CI)C"⟩ : MethodName)) hown (mvT hZ (hw _ (List.mem_of_getElem? (i := 1) rfl))) (mvT hZ (hw _ (List.mem_of_getElem? (i := 2) rfl))) (mvT hZ (hw _ (List.mem_of_getElem? (i := 3) rfl))) (mvT hZ (hw _ (List.mem_of_getElem? (i := 4) rfl))) (by decide) (backOf (W := 0) (rm1 l Z a0 hw [] b1 p5 k1 fn7 h7 n0 z8 V7) hZ (hw _ (List.mem_of_getElem? (i := 4) rfl)) (hw _ (List.mem_of_getElem? (i := 3) rfl)) (by decide) (by decide)) (g := (mkF m 44 #[.val (.int p1), .val (.int p2), .val (.int p3), .val (.int p4), .val (.int p5), .val (.int p6), .val (.ref b1), .val (.int sa), .val (.int en), .unset, .unset, .unset, .unset, .unset, .unset, .unset, .unset, .unset] [(.int p5), (.ref b1)])) rfl (by rw [hml]; rfl) (argsL := [(.ref b1), (.int p5)]) (rest := []) (lenOf pd_0 rfl) rfl (by show 2 * 0 + _ ≤ _; exact Nat.le_of_eq rfl) (hb hby at_44) (fun _ _ => ⟨rfl, e7, (by decide : 1 + 0 ≤ _), (by decide : 3 + 0 ≤ _)⟩)
  dsimp only [Pt.U, Pt.locs, Pt.cells, Pt.slots] at X9 l9 y9 z9 st9 hQ9
  subst l9 y9 z9
  obtain ⟨r9, rfl, hr9, N9q, eq9⟩ := hQ9
  have N9 := Fr.app N7 N9q
  obtain ⟨_, _, ⟨T10, L10, k10, n10⟩, -, X10, ⟨Lc10, hQ10, l10, y10, z10⟩, st10⟩ := Jvm.LawKit.callS X9 hx (y := (⟨"com/example/flowglyph/flowglyph/core/TextCursorSkipPinLaw", "pick", "([CI)C"⟩ : MethodName)) hown (mvT hZ (hw _ (List.mem_of_getElem? (i := 1) rfl))) (mvT hZ (hw _ (List.mem_of_getElem? (i := 2) rfl))) (mvT hZ (hw _ (List.mem_of_getElem? (i := 3) rfl))) (mvT hZ (hw _ (List.mem_of_getElem? (i := 4) rfl))) (by decide) (backOf (W := 0) (rm1 l Z a0 hw [] b1 p6 k1 fn7 h7 n0 z8 V7) hZ (hw _ (List.mem_of_getElem? (i := 4) rfl)) (hw _ (List.mem_of_getElem? (i := 3) rfl)) (by decide) (by decide)) (g := (mkF m 53 #[.val (.int p1), .val (.int p2), .val (.int p3), .val (.int p4), .val (.int p5), .val (.int p6), .val (.ref b1), .val (.int sa), .val (.int en), .val (.int r9), .unset, .unset, .unset, .unset, .unset, .unset, .unset, .unset] [(.int p6), (.ref b1)])) rfl (by rw [hml]; rfl) (argsL := [(.ref b1), (.int p6)]) (rest := []) (lenOf pd_0 rfl) rfl (by show 2 * 0 + _ ≤ _; exact Nat.le_of_eq rfl) (hb hby at_53) (fun _ _ => ⟨rfl, eq9, (by decide : 1 + 0 ≤ _), (by decide : 3 + 0 ≤ _)⟩)
  dsimp only [Pt.U, Pt.locs, Pt.cells, Pt.slots] at X10 l10 y10 z10 st10 hQ10
  subst l10 y10 z10
  obtain ⟨r10, rfl, hr10, N10q, eq10⟩ := hQ10
  have N10 := Fr.app N9 N10q
  obtain ⟨T11, h11, X11, e11, E11, A11, D11, -, st11⟩ := newO X10 hx hZ hown (hw _ (List.mem_of_getElem? (i := 5) rfl)) (hw _ (List.mem_of_getElem? (i := 6) rfl)) (hw _ (List.mem_of_getElem? (i := 7) rfl)) eq10 (g := (mkF m 58 #[.val (.int p1), .val (.int p2), .val (.int p3), .val (.int p4), .val (.int p5), .val (.int p6), .val (.ref b1), .val (.int sa), .val (.int en), .val (.int r9), .val (.int r10), .unset, .unset, .unset, .unset, .unset, .unset, .unset] [])) rfl (hb hby at_58) (by decide) (by decide)
  obtain ⟨b11, g11⟩ : ∃ z, z = h7.size := ⟨_, rfl⟩
  rw [← g11] at A11 D11 st11
  have g_b11 : n0 ≤ b11 := Nat.le_trans z8 (Nat.le_of_eq g11.symm)
  have ne_b1_b11 : b1 ≠ b11 := Nat.ne_of_lt (Nat.lt_of_lt_of_le V7.lt (Nat.le_of_eq g11.symm))
  have z12 : n0 ≤ h11.size := Nat.le_trans z8 E11.1
  have F_text_b11 : Fld Z h11 b11 "com/example/flowglyph/flowglyph/core/TextCursor" "text" "[C" .null := D11 (Or.inr (hw _ (List.mem_of_getElem? (i := 15) rfl))) (ty := (.array .char)) (by decide)
  have F_position_b11 : Fld Z h11 b11 "com/example/flowglyph/flowglyph/core/TextCursor" "position" "I" (.int (0 : Int32)) := D11 (Or.inl (hw _ (List.mem_of_getElem? (i := 17) rfl))) (ty := .int) (by decide)
  have F_end_b11 : Fld Z h11 b11 "com/example/flowglyph/flowglyph/core/TextCursor" "end" "I" (.int (0 : Int32)) := D11 (Or.inr (hw _ (List.mem_of_getElem? (i := 19) rfl))) (ty := .int) (by decide)
  obtain ⟨_, _, ⟨T13, L13, k13, n13⟩, -, X13, ⟨Lc13, hQ13, l13, y13, z13⟩, st13⟩ := X11.specialBack hx (y := (⟨"com/example/flowglyph/flowglyph/core/TextCursor", "<init>", "([CII)V"⟩ : MethodName)) rfl hown (mvT hZ (hw _ (List.mem_of_getElem? (i := 8) rfl))) (mvT hZ (hw _ (List.mem_of_getElem? (i := 9) rfl))) (mvT hZ (hw _ (List.mem_of_getElem? (i := 10) rfl))) (by decide) (backOf (W := 1) (rm2 l Z a0 hw [] b11 b1 sa en .null (.int (0 : Int32)) (.int (0 : Int32)) h11 n0 z12 A11 g_b11 F_text_b11 F_position_b11 F_end_b11) hZ (hw _ (List.mem_of_getElem? (i := 10) rfl)) (hw _ (List.mem_of_getElem? (i := 7) rfl)) (by decide) (by decide)) (g := (mkF m 68 #[.val (.int p1), .val (.int p2), .val (.int p3), .val (.int p4), .val (.int p5), .val (.int p6), .val (.ref b1), .val (.int sa), .val (.int en), .val (.int r9), .val (.int r10), .unset, .unset, .unset, .unset, .unset, .unset, .unset] [(.int en), (.int sa), (.ref b1), (.ref b11), (.ref b11)])) rfl (by rw [hml]; rfl) (Steps.refl _) (a := b11) (argsL := [(.ref b1), (.int sa), (.int en)]) (rest := [(.ref b11)]) (lenOf pd_1 rfl) rfl (by show 2 * 0 + _ ≤ _; exact Nat.le_of_eq rfl) (hb hby at_68) (fun _ _ => ⟨rfl, e11, (by decide : 2 + 0 ≤ _), (by decide : 7 + 0 ≤ _)⟩)
  dsimp only [Pt.U, Pt.locs, Pt.cells, Pt.slots] at X13 l13 y13 z13 st13 hQ13
  subst l13 y13 z13
  obtain ⟨rfl, N13q, p13_0, p13_1, p13_2, p13_3, p13_4⟩ := hQ13
  have N13 := Fr.app N10 N13q
  have z14 : n0 ≤ T13.heap.size := Nat.le_trans z12 p13_0.1
  have f16 : AV Z T13.heap b1 k1 .char 3 (fun i => Value.int (fn7 i)) := ((V7.ext E11).keep p13_0 (ninS ne_b1_b11 nin0))
  obtain ⟨cq15, kq15, q15a, q15b, q15c⟩ := isOf hZ rfl p13_1
  obtain ⟨_, _, ⟨T15, L15, k15, n15⟩, -, X15, ⟨Lc15, hQ15, l15, y15, z15⟩, st15⟩ := X13.virtualBack hx (y := (⟨"com/example/flowglyph/flowglyph/core/TextCursor", "skip", "(C)Z"⟩ : MethodName)) (z := (⟨"com/example/flowglyph/flowglyph/core/TextCursor", "skip", "(C)Z"⟩ : MethodName)) hown (mvT hZ (hw _ (List.mem_of_getElem? (i := 20) rfl))) (mvT hZ (hw _ (List.mem_of_getElem? (i := 21) rfl))) (notFace_of_selects (args := #[]) (mvT hZ (hw _ (List.mem_of_getElem? (i := 23) rfl)))) (mvT hZ (hw _ (List.mem_of_getElem? (i := 23) rfl))) (mvT hZ (hw _ (List.mem_of_getElem? (i := 22) rfl))) (by decide) (backOf (W := 0) (rm4 l Z a0 hw [] b11 r9 sa en b1 k1 3 fn7 T13.heap n0 z14 p13_1 g_b11 p13_3 p13_4 p13_2 f16 hsa2.1 hen2.2) hZ (hw _ (List.mem_of_getElem? (i := 24) rfl)) (hw _ (List.mem_of_getElem? (i := 7) rfl)) (by decide) (by decide)) q15a q15c (g := (mkF m 77 #[.val (.int p1), .val (.int p2), .val (.int p3), .val (.int p4), .val (.int p5), .val (.int p6), .val (.ref b1), .val (.int sa), .val (.int en), .val (.int r9), .val (.int r10), .val (.ref b11), .unset, .unset, .unset, .unset, .unset, .unset] [(.int r9), (.ref b11)])) rfl (by rw [hml]; rfl) (Steps.refl _) (argsL := [(.int r9)]) (rest := []) (lenOf pd_2 rfl) rfl (by show 2 * 0 + _ ≤ _; exact Nat.le_of_eq rfl) (hb hby at_77) (fun _ _ => ⟨rfl, rfl, (by decide : 2 + 0 ≤ _), (by decide : 7 + 0 ≤ _)⟩)
  dsimp only [Pt.U, Pt.locs, Pt.cells, Pt.slots] at X15 l15 y15 z15 st15 hQ15
  subst l15 y15 z15
  obtain ⟨w2_15, r15, rfl, hr15, N15q, p15_0, p15_1, p15_2, p15_3, p15_4, p15_5⟩ := hQ15
  have N15 := Fr.app N13 N15q
  have z17 : n0 ≤ T15.heap.size := Nat.le_trans z14 p15_0.1
  have hp15 := own_step _ hsa2.1 p15_5
  have f19 : AV Z T15.heap b1 k1 .char 3 (fun i => Value.int (fn7 i)) := (f16.keep p15_0 (ninS ne_b1_b11 nin0))
  obtain ⟨cq18, kq18, q18a, q18b, q18c⟩ := isOf hZ rfl p15_1
  obtain ⟨_, _, ⟨T18, L18, k18, n18⟩, -, X18, ⟨Lc18, hQ18, l18, y18, z18⟩, st18⟩ := X15.virtualBack hx (y := (⟨"com/example/flowglyph/flowglyph/core/TextCursor", "skip", "(C)Z"⟩ : MethodName)) (z := (⟨"com/example/flowglyph/flowglyph/core/TextCursor", "skip", "(C)Z"⟩ : MethodName)) hown (mvT hZ (hw _ (List.mem_of_getElem? (i := 20) rfl))) (mvT hZ (hw _ (List.mem_of_getElem? (i := 21) rfl))) (notFace_of_selects (args := #[]) (mvT hZ (hw _ (List.mem_of_getElem? (i := 23) rfl)))) (mvT hZ (hw _ (List.mem_of_getElem? (i := 23) rfl))) (mvT hZ (hw _ (List.mem_of_getElem? (i := 22) rfl))) (by decide) (backOf (W := 0) (rm4 l Z a0 hw [] b11 r10 w2_15 en b1 k1 3 fn7 T15.heap n0 z17 p15_1 g_b11 p15_2 p15_3 p15_4 f19 hp15 hen2.2) hZ (hw _ (List.mem_of_getElem? (i := 24) rfl)) (hw _ (List.mem_of_getElem? (i := 7) rfl)) (by decide) (by decide)) q18a q18c (g := (mkF m 86 #[.val (.int p1), .val (.int p2), .val (.int p3), .val (.int p4), .val (.int p5), .val (.int p6), .val (.ref b1), .val (.int sa), .val (.int en), .val (.int r9), .val (.int r10), .val (.ref b11), .val (.int r15), .unset, .unset, .unset, .unset, .unset] [(.int r10), (.ref b11)])) rfl (by rw [hml]; rfl) (Steps.refl _) (argsL := [(.int r10)]) (rest := []) (lenOf pd_2 rfl) rfl (by show 2 * 0 + _ ≤ _; exact Nat.le_of_eq rfl) (hb hby at_86) (fun _ _ => ⟨rfl, rfl, (by decide : 2 + 0 ≤ _), (by decide : 7 + 0 ≤ _)⟩)
  dsimp only [Pt.U, Pt.locs, Pt.cells, Pt.slots] at X18 l18 y18 z18 st18 hQ18
  subst l18 y18 z18
  obtain ⟨w2_18, r18, rfl, hr18, N18q, p18_0, p18_1, p18_2, p18_3, p18_4, p18_5⟩ := hQ18
  have N18 := Fr.app N15 N18q
  have z20 : n0 ≤ T18.heap.size := Nat.le_trans z17 p18_0.1
  have hp18 := own_step _ hp15 p18_5
  obtain ⟨cq21, kq21, q21a, q21b, q21c⟩ := isOf hZ rfl p18_1
  obtain ⟨_, _, ⟨T21, L21, k21, n21⟩, -, X21, ⟨Lc21, hQ21, l21, y21, z21⟩, st21⟩ := X18.virtualBack hx (y := (⟨"com/example/flowglyph/flowglyph/core/TextCursor", "readWhole", "()Z"⟩ : MethodName)) (z := (⟨"com/example/flowglyph/flowglyph/core/TextCursor", "readWhole", "()Z"⟩ : MethodName)) hown (mvT hZ (hw _ (List.mem_of_getElem? (i := 25) rfl))) (mvT hZ (hw _ (List.mem_of_getElem? (i := 26) rfl))) (notFace_of_selects (args := #[]) (mvT hZ (hw _ (List.mem_of_getElem? (i := 28) rfl)))) (mvT hZ (hw _ (List.mem_of_getElem? (i := 28) rfl))) (mvT hZ (hw _ (List.mem_of_getElem? (i := 27) rfl))) (by decide) (backOf (W := 0) (rm5 l Z a0 hw [] b11 w2_18 en T18.heap n0 z20 p18_2 p18_3) hZ (hw _ (List.mem_of_getElem? (i := 29) rfl)) (hw _ (List.mem_of_getElem? (i := 7) rfl)) (by decide) (by decide)) q21a q21c (g := (mkF m 93 #[.val (.int p1), .val (.int p2), .val (.int p3), .val (.int p4), .val (.int p5), .val (.int p6), .val (.ref b1), .val (.int sa), .val (.int en), .val (.int r9), .val (.int r10), .val (.ref b11), .val (.int r15), .val (.int r18), .unset, .unset, .unset, .unset] [(.ref b11)])) rfl (by rw [hml]; rfl) (Steps.refl _) (argsL := []) (rest := []) (lenOf pd_3 rfl) rfl (by show 2 * 0 + _ ≤ _; exact Nat.le_of_eq rfl) (hb hby at_93) (fun _ _ => ⟨rfl, rfl, (by decide : 2 + 0 ≤ _), (by decide : 7 + 0 ≤ _)⟩)
  dsimp only [Pt.U, Pt.locs, Pt.cells, Pt.slots] at X21 l21 y21 z21 st21 hQ21
  subst l21 y21 z21
  obtain ⟨r21, rfl, hr21, N21q, eq21⟩ := hQ21
  have N21 := Fr.app N18 N21q
  refine GoalS.lift (B := (T21.setTop (mkF m 102 #[.val (.int p1), .val (.int p2), .val (.int p3), .val (.int p4), .val (.int p5), .val (.int p6), .val (.ref b1), .val (.int sa), .val (.int en), .val (.int r9), .val (.int r10), .val (.ref b11), .val (.int r15), .val (.int r18), .val (.int r21), .unset, .unset, .unset] [(.int en), (.int sa)]))) (fun t k => ?_) ?_
  · show Steps p.tables e below (T7.setTop (mkF m 38 #[.val (.int p1), .val (.int p2), .val (.int p3), .val (.int p4), .val (.int p5), .val (.int p6), .val (.ref b1), .val (.int sa), .unset, .unset, .unset, .unset, .unset, .unset, .unset, .unset, .unset, .unset] [(.int en)])) _
    refine XS.istore X7.here hx rfl (hb hby at_38) rfl (l' := #[.val (.int p1), .val (.int p2), .val (.int p3), .val (.int p4), .val (.int p5), .val (.int p6), .val (.ref b1), .val (.int sa), .val (.int en), .unset, .unset, .unset, .unset, .unset, .unset, .unset, .unset, .unset]) rfl ?_
    show Steps p.tables e below (T7.setTop (mkF m 40 #[.val (.int p1), .val (.int p2), .val (.int p3), .val (.int p4), .val (.int p5), .val (.int p6), .val (.ref b1), .val (.int sa), .val (.int en), .unset, .unset, .unset, .unset, .unset, .unset, .unset, .unset, .unset] [])) _
    refine XS.aload X7.here hx rfl (hb hby at_40) rfl rfl ?_
    show Steps p.tables e below (T7.setTop (mkF m 42 #[.val (.int p1), .val (.int p2), .val (.int p3), .val (.int p4), .val (.int p5), .val (.int p6), .val (.ref b1), .val (.int sa), .val (.int en), .unset, .unset, .unset, .unset, .unset, .unset, .unset, .unset, .unset] [(.ref b1)])) _
    refine XS.iload X7.here hx rfl (hb hby at_42) rfl ?_
    show Steps p.tables e below (T7.setTop (mkF m 44 #[.val (.int p1), .val (.int p2), .val (.int p3), .val (.int p4), .val (.int p5), .val (.int p6), .val (.ref b1), .val (.int sa), .val (.int en), .unset, .unset, .unset, .unset, .unset, .unset, .unset, .unset, .unset] [(.int p5), (.ref b1)])) _
    refine st9 _ ?_
    show Steps p.tables e below (T9.setTop (mkF m 47 #[.val (.int p1), .val (.int p2), .val (.int p3), .val (.int p4), .val (.int p5), .val (.int p6), .val (.ref b1), .val (.int sa), .val (.int en), .unset, .unset, .unset, .unset, .unset, .unset, .unset, .unset, .unset] [(.int r9)])) _
    refine XS.istore X9.here hx rfl (hb hby at_47) rfl (l' := #[.val (.int p1), .val (.int p2), .val (.int p3), .val (.int p4), .val (.int p5), .val (.int p6), .val (.ref b1), .val (.int sa), .val (.int en), .val (.int r9), .unset, .unset, .unset, .unset, .unset, .unset, .unset, .unset]) rfl ?_
    show Steps p.tables e below (T9.setTop (mkF m 49 #[.val (.int p1), .val (.int p2), .val (.int p3), .val (.int p4), .val (.int p5), .val (.int p6), .val (.ref b1), .val (.int sa), .val (.int en), .val (.int r9), .unset, .unset, .unset, .unset, .unset, .unset, .unset, .unset] [])) _
    refine XS.aload X9.here hx rfl (hb hby at_49) rfl rfl ?_
    show Steps p.tables e below (T9.setTop (mkF m 51 #[.val (.int p1), .val (.int p2), .val (.int p3), .val (.int p4), .val (.int p5), .val (.int p6), .val (.ref b1), .val (.int sa), .val (.int en), .val (.int r9), .unset, .unset, .unset, .unset, .unset, .unset, .unset, .unset] [(.ref b1)])) _
    refine XS.iload X9.here hx rfl (hb hby at_51) rfl ?_
    show Steps p.tables e below (T9.setTop (mkF m 53 #[.val (.int p1), .val (.int p2), .val (.int p3), .val (.int p4), .val (.int p5), .val (.int p6), .val (.ref b1), .val (.int sa), .val (.int en), .val (.int r9), .unset, .unset, .unset, .unset, .unset, .unset, .unset, .unset] [(.int p6), (.ref b1)])) _
    refine st10 _ ?_
    show Steps p.tables e below (T10.setTop (mkF m 56 #[.val (.int p1), .val (.int p2), .val (.int p3), .val (.int p4), .val (.int p5), .val (.int p6), .val (.ref b1), .val (.int sa), .val (.int en), .val (.int r9), .unset, .unset, .unset, .unset, .unset, .unset, .unset, .unset] [(.int r10)])) _
    refine XS.istore X10.here hx rfl (hb hby at_56) rfl (l' := #[.val (.int p1), .val (.int p2), .val (.int p3), .val (.int p4), .val (.int p5), .val (.int p6), .val (.ref b1), .val (.int sa), .val (.int en), .val (.int r9), .val (.int r10), .unset, .unset, .unset, .unset, .unset, .unset, .unset]) rfl ?_
    show Steps p.tables e below (T10.setTop (mkF m 58 #[.val (.int p1), .val (.int p2), .val (.int p3), .val (.int p4), .val (.int p5), .val (.int p6), .val (.ref b1), .val (.int sa), .val (.int en), .val (.int r9), .val (.int r10), .unset, .unset, .unset, .unset, .unset, .unset, .unset] [])) _
    refine st11 _ ?_
    show Steps p.tables e below (T11.setTop (mkF m 61 #[.val (.int p1), .val (.int p2), .val (.int p3), .val (.int p4), .val (.int p5), .val (.int p6), .val (.ref b1), .val (.int sa), .val (.int en), .val (.int r9), .val (.int r10), .unset, .unset, .unset, .unset, .unset, .unset, .unset] [(.ref b11)])) _
    refine XS.dup X11.here hx rfl (hb hby at_61) rfl rfl ?_
    show Steps p.tables e below (T11.setTop (mkF m 62 #[.val (.int p1), .val (.int p2), .val (.int p3), .val (.int p4), .val (.int p5), .val (.int p6), .val (.ref b1), .val (.int sa), .val (.int en), .val (.int r9), .val (.int r10), .unset, .unset, .unset, .unset, .unset, .unset, .unset] [(.ref b11), (.ref b11)])) _
    refine XS.aload X11.here hx rfl (hb hby at_62) rfl rfl ?_
    show Steps p.tables e below (T11.setTop (mkF m 64 #[.val (.int p1), .val (.int p2), .val (.int p3), .val (.int p4), .val (.int p5), .val (.int p6), .val (.ref b1), .val (.int sa), .val (.int en), .val (.int r9), .val (.int r10), .unset, .unset, .unset, .unset, .unset, .unset, .unset] [(.ref b1), (.ref b11), (.ref b11)])) _
    refine XS.iload X11.here hx rfl (hb hby at_64) rfl ?_
    show Steps p.tables e below (T11.setTop (mkF m 66 #[.val (.int p1), .val (.int p2), .val (.int p3), .val (.int p4), .val (.int p5), .val (.int p6), .val (.ref b1), .val (.int sa), .val (.int en), .val (.int r9), .val (.int r10), .unset, .unset, .unset, .unset, .unset, .unset, .unset] [(.int sa), (.ref b1), (.ref b11), (.ref b11)])) _
    refine XS.iload X11.here hx rfl (hb hby at_66) rfl ?_
    show Steps p.tables e below (T11.setTop (mkF m 68 #[.val (.int p1), .val (.int p2), .val (.int p3), .val (.int p4), .val (.int p5), .val (.int p6), .val (.ref b1), .val (.int sa), .val (.int en), .val (.int r9), .val (.int r10), .unset, .unset, .unset, .unset, .unset, .unset, .unset] [(.int en), (.int sa), (.ref b1), (.ref b11), (.ref b11)])) _
    refine st13.trans ?_
    show Steps p.tables e below (T13.setTop (mkF m 71 #[.val (.int p1), .val (.int p2), .val (.int p3), .val (.int p4), .val (.int p5), .val (.int p6), .val (.ref b1), .val (.int sa), .val (.int en), .val (.int r9), .val (.int r10), .unset, .unset, .unset, .unset, .unset, .unset, .unset] [(.ref b11)])) _
    refine XS.astore X13.here hx rfl (hb hby at_71) rfl rfl (l' := #[.val (.int p1), .val (.int p2), .val (.int p3), .val (.int p4), .val (.int p5), .val (.int p6), .val (.ref b1), .val (.int sa), .val (.int en), .val (.int r9), .val (.int r10), .val (.ref b11), .unset, .unset, .unset, .unset, .unset, .unset]) rfl ?_
    show Steps p.tables e below (T13.setTop (mkF m 73 #[.val (.int p1), .val (.int p2), .val (.int p3), .val (.int p4), .val (.int p5), .val (.int p6), .val (.ref b1), .val (.int sa), .val (.int en), .val (.int r9), .val (.int r10), .val (.ref b11), .unset, .unset, .unset, .unset, .unset, .unset] [])) _
    refine XS.aload X13.here hx rfl (hb hby at_73) rfl rfl ?_
    show Steps p.tables e below (T13.setTop (mkF m 75 #[.val (.int p1), .val (.int p2), .val (.int p3), .val (.int p4), .val (.int p5), .val (.int p6), .val (.ref b1), .val (.int sa), .val (.int en), .val (.int r9), .val (.int r10), .val (.ref b11), .unset, .unset, .unset, .unset, .unset, .unset] [(.ref b11)])) _
    refine XS.iload X13.here hx rfl (hb hby at_75) rfl ?_
    show Steps p.tables e below (T13.setTop (mkF m 77 #[.val (.int p1), .val (.int p2), .val (.int p3), .val (.int p4), .val (.int p5), .val (.int p6), .val (.ref b1), .val (.int sa), .val (.int en), .val (.int r9), .val (.int r10), .val (.ref b11), .unset, .unset, .unset, .unset, .unset, .unset] [(.int r9), (.ref b11)])) _
    refine st15.trans ?_
    show Steps p.tables e below (T15.setTop (mkF m 80 #[.val (.int p1), .val (.int p2), .val (.int p3), .val (.int p4), .val (.int p5), .val (.int p6), .val (.ref b1), .val (.int sa), .val (.int en), .val (.int r9), .val (.int r10), .val (.ref b11), .unset, .unset, .unset, .unset, .unset, .unset] [(.int r15)])) _
    refine XS.istore X15.here hx rfl (hb hby at_80) rfl (l' := #[.val (.int p1), .val (.int p2), .val (.int p3), .val (.int p4), .val (.int p5), .val (.int p6), .val (.ref b1), .val (.int sa), .val (.int en), .val (.int r9), .val (.int r10), .val (.ref b11), .val (.int r15), .unset, .unset, .unset, .unset, .unset]) rfl ?_
    show Steps p.tables e below (T15.setTop (mkF m 82 #[.val (.int p1), .val (.int p2), .val (.int p3), .val (.int p4), .val (.int p5), .val (.int p6), .val (.ref b1), .val (.int sa), .val (.int en), .val (.int r9), .val (.int r10), .val (.ref b11), .val (.int r15), .unset, .unset, .unset, .unset, .unset] [])) _
    refine XS.aload X15.here hx rfl (hb hby at_82) rfl rfl ?_
    show Steps p.tables e below (T15.setTop (mkF m 84 #[.val (.int p1), .val (.int p2), .val (.int p3), .val (.int p4), .val (.int p5), .val (.int p6), .val (.ref b1), .val (.int sa), .val (.int en), .val (.int r9), .val (.int r10), .val (.ref b11), .val (.int r15), .unset, .unset, .unset, .unset, .unset] [(.ref b11)])) _
    refine XS.iload X15.here hx rfl (hb hby at_84) rfl ?_
    show Steps p.tables e below (T15.setTop (mkF m 86 #[.val (.int p1), .val (.int p2), .val (.int p3), .val (.int p4), .val (.int p5), .val (.int p6), .val (.ref b1), .val (.int sa), .val (.int en), .val (.int r9), .val (.int r10), .val (.ref b11), .val (.int r15), .unset, .unset, .unset, .unset, .unset] [(.int r10), (.ref b11)])) _
    refine st18.trans ?_
    show Steps p.tables e below (T18.setTop (mkF m 89 #[.val (.int p1), .val (.int p2), .val (.int p3), .val (.int p4), .val (.int p5), .val (.int p6), .val (.ref b1), .val (.int sa), .val (.int en), .val (.int r9), .val (.int r10), .val (.ref b11), .val (.int r15), .unset, .unset, .unset, .unset, .unset] [(.int r18)])) _
    refine XS.istore X18.here hx rfl (hb hby at_89) rfl (l' := #[.val (.int p1), .val (.int p2), .val (.int p3), .val (.int p4), .val (.int p5), .val (.int p6), .val (.ref b1), .val (.int sa), .val (.int en), .val (.int r9), .val (.int r10), .val (.ref b11), .val (.int r15), .val (.int r18), .unset, .unset, .unset, .unset]) rfl ?_
    show Steps p.tables e below (T18.setTop (mkF m 91 #[.val (.int p1), .val (.int p2), .val (.int p3), .val (.int p4), .val (.int p5), .val (.int p6), .val (.ref b1), .val (.int sa), .val (.int en), .val (.int r9), .val (.int r10), .val (.ref b11), .val (.int r15), .val (.int r18), .unset, .unset, .unset, .unset] [])) _
    refine XS.aload X18.here hx rfl (hb hby at_91) rfl rfl ?_
    show Steps p.tables e below (T18.setTop (mkF m 93 #[.val (.int p1), .val (.int p2), .val (.int p3), .val (.int p4), .val (.int p5), .val (.int p6), .val (.ref b1), .val (.int sa), .val (.int en), .val (.int r9), .val (.int r10), .val (.ref b11), .val (.int r15), .val (.int r18), .unset, .unset, .unset, .unset] [(.ref b11)])) _
    refine st21.trans ?_
    show Steps p.tables e below (T21.setTop (mkF m 96 #[.val (.int p1), .val (.int p2), .val (.int p3), .val (.int p4), .val (.int p5), .val (.int p6), .val (.ref b1), .val (.int sa), .val (.int en), .val (.int r9), .val (.int r10), .val (.ref b11), .val (.int r15), .val (.int r18), .unset, .unset, .unset, .unset] [(.int r21)])) _
    refine XS.istore X21.here hx rfl (hb hby at_96) rfl (l' := #[.val (.int p1), .val (.int p2), .val (.int p3), .val (.int p4), .val (.int p5), .val (.int p6), .val (.ref b1), .val (.int sa), .val (.int en), .val (.int r9), .val (.int r10), .val (.ref b11), .val (.int r15), .val (.int r18), .val (.int r21), .unset, .unset, .unset]) rfl ?_
    show Steps p.tables e below (T21.setTop (mkF m 98 #[.val (.int p1), .val (.int p2), .val (.int p3), .val (.int p4), .val (.int p5), .val (.int p6), .val (.ref b1), .val (.int sa), .val (.int en), .val (.int r9), .val (.int r10), .val (.ref b11), .val (.int r15), .val (.int r18), .val (.int r21), .unset, .unset, .unset] [])) _
    refine XS.iload X21.here hx rfl (hb hby at_98) rfl ?_
    show Steps p.tables e below (T21.setTop (mkF m 100 #[.val (.int p1), .val (.int p2), .val (.int p3), .val (.int p4), .val (.int p5), .val (.int p6), .val (.ref b1), .val (.int sa), .val (.int en), .val (.int r9), .val (.int r10), .val (.ref b11), .val (.int r15), .val (.int r18), .val (.int r21), .unset, .unset, .unset] [(.int sa)])) _
    refine XS.iload X21.here hx rfl (hb hby at_100) rfl ?_
    show Steps p.tables e below (T21.setTop (mkF m 102 #[.val (.int p1), .val (.int p2), .val (.int p3), .val (.int p4), .val (.int p5), .val (.int p6), .val (.ref b1), .val (.int sa), .val (.int en), .val (.int r9), .val (.int r10), .val (.ref b11), .val (.int r15), .val (.int r18), .val (.int r21), .unset, .unset, .unset] [(.int en), (.int sa)])) _
    exact k
  by_cases hc102_22 : sa < en
  · have f24 : AV Z T18.heap b1 k1 .char 3 (fun i => Value.int (fn7 i)) := (f19.keep p18_0 (ninS ne_b1_b11 nin0))
    obtain ⟨cl23, Ar23, kc23, sz23, -, hv23⟩ := id f24
    have hin23 : ¬ (sa < 0 ∨ cl23.slots.size ≤ (sa).toNatClampNeg) := AV.inb sz23 (own_inb hsa2.1 hc102_22 hen2.2)
    have hat23 : cl23.slots[(sa).toNatClampNeg]? = some (.int (fn7 (sa).toNatClampNeg)) := (hv23 _ (AV.inx (own_inb hsa2.1 hc102_22 hen2.2))).trans (congrArg some rfl)
    refine GoalS.lift (B := (T21.setTop (mkF m 112 #[.val (.int p1), .val (.int p2), .val (.int p3), .val (.int p4), .val (.int p5), .val (.int p6), .val (.ref b1), .val (.int sa), .val (.int en), .val (.int r9), .val (.int r10), .val (.ref b11), .val (.int r15), .val (.int r18), .val (.int r21), .unset, .unset, .unset] [(.int r9), (.int (fn7 (sa).toNatClampNeg))]))) (fun t k => ?_) ?_
    · show Steps p.tables e below (T21.setTop (mkF m 102 #[.val (.int p1), .val (.int p2), .val (.int p3), .val (.int p4), .val (.int p5), .val (.int p6), .val (.ref b1), .val (.int sa), .val (.int en), .val (.int r9), .val (.int r10), .val (.ref b11), .val (.int r15), .val (.int r18), .val (.int r21), .unset, .unset, .unset] [(.int en), (.int sa)])) _
      refine XS.icmpNo X21.here hx rfl (hb hby at_102) rfl ((tlt hc102_22).2.1) ?_
      show Steps p.tables e below (T21.setTop (mkF m 105 #[.val (.int p1), .val (.int p2), .val (.int p3), .val (.int p4), .val (.int p5), .val (.int p6), .val (.ref b1), .val (.int sa), .val (.int en), .val (.int r9), .val (.int r10), .val (.ref b11), .val (.int r15), .val (.int r18), .val (.int r21), .unset, .unset, .unset] [])) _
      refine XS.aload X21.here hx rfl (hb hby at_105) rfl rfl ?_
      show Steps p.tables e below (T21.setTop (mkF m 107 #[.val (.int p1), .val (.int p2), .val (.int p3), .val (.int p4), .val (.int p5), .val (.int p6), .val (.ref b1), .val (.int sa), .val (.int en), .val (.int r9), .val (.int r10), .val (.ref b11), .val (.int r15), .val (.int r18), .val (.int r21), .unset, .unset, .unset] [(.ref b1)])) _
      refine XS.iload X21.here hx rfl (hb hby at_107) rfl ?_
      show Steps p.tables e below (T21.setTop (mkF m 109 #[.val (.int p1), .val (.int p2), .val (.int p3), .val (.int p4), .val (.int p5), .val (.int p6), .val (.ref b1), .val (.int sa), .val (.int en), .val (.int r9), .val (.int r10), .val (.ref b11), .val (.int r15), .val (.int r18), .val (.int r21), .unset, .unset, .unset] [(.int sa), (.ref b1)])) _
      refine X21.caload hx (j := sa) (v := (.int (fn7 (sa).toNatClampNeg))) (by rw [eq21]; exact Ar23.1) (State.isArrayOf_alike hZ.alike Ar23.2.1) Ar23.2.2 hin23 hat23 (g := (mkF m 109 #[.val (.int p1), .val (.int p2), .val (.int p3), .val (.int p4), .val (.int p5), .val (.int p6), .val (.ref b1), .val (.int sa), .val (.int en), .val (.int r9), .val (.int r10), .val (.ref b11), .val (.int r15), .val (.int r18), .val (.int r21), .unset, .unset, .unset] [(.int sa), (.ref b1)])) rfl rfl (hb hby at_109) _ ?_
      show Steps p.tables e below (T21.setTop (mkF m 110 #[.val (.int p1), .val (.int p2), .val (.int p3), .val (.int p4), .val (.int p5), .val (.int p6), .val (.ref b1), .val (.int sa), .val (.int en), .val (.int r9), .val (.int r10), .val (.ref b11), .val (.int r15), .val (.int r18), .val (.int r21), .unset, .unset, .unset] [(.int (fn7 (sa).toNatClampNeg))])) _
      refine XS.iload X21.here hx rfl (hb hby at_110) rfl ?_
      show Steps p.tables e below (T21.setTop (mkF m 112 #[.val (.int p1), .val (.int p2), .val (.int p3), .val (.int p4), .val (.int p5), .val (.int p6), .val (.ref b1), .val (.int sa), .val (.int en), .val (.int r9), .val (.int r10), .val (.ref b11), .val (.int r15), .val (.int r18), .val (.int r21), .unset, .unset, .unset] [(.int r9), (.int (fn7 (sa).toNatClampNeg))])) _
      exact k
    by_cases hc112_25 : (fn7 (sa).toNatClampNeg) = r9
    · refine GoalS.lift (B := (T21.setTop (mkF m 133 #[.val (.int p1), .val (.int p2), .val (.int p3), .val (.int p4), .val (.int p5), .val (.int p6), .val (.ref b1), .val (.int sa), .val (.int en), .val (.int r9), .val (.int r10), .val (.ref b11), .val (.int r15), .val (.int r18), .val (.int r21), .val (.int (1 : Int32)), .unset, .unset] [(.int en), (.int (sa + (1 : Int32)))]))) (fun t k => ?_) ?_
      · show Steps p.tables e below (T21.setTop (mkF m 112 #[.val (.int p1), .val (.int p2), .val (.int p3), .val (.int p4), .val (.int p5), .val (.int p6), .val (.ref b1), .val (.int sa), .val (.int en), .val (.int r9), .val (.int r10), .val (.ref b11), .val (.int r15), .val (.int r18), .val (.int r21), .unset, .unset, .unset] [(.int r9), (.int (fn7 (sa).toNatClampNeg))])) _
        refine XS.icmpNo X21.here hx rfl (hb hby at_112) rfl ((teq hc112_25).2) ?_
        show Steps p.tables e below (T21.setTop (mkF m 115 #[.val (.int p1), .val (.int p2), .val (.int p3), .val (.int p4), .val (.int p5), .val (.int p6), .val (.ref b1), .val (.int sa), .val (.int en), .val (.int r9), .val (.int r10), .val (.ref b11), .val (.int r15), .val (.int r18), .val (.int r21), .unset, .unset, .unset] [])) _
        refine XS.iconst X21.here hx rfl (hb hby at_115) ?_
        show Steps p.tables e below (T21.setTop (mkF m 116 #[.val (.int p1), .val (.int p2), .val (.int p3), .val (.int p4), .val (.int p5), .val (.int p6), .val (.ref b1), .val (.int sa), .val (.int en), .val (.int r9), .val (.int r10), .val (.ref b11), .val (.int r15), .val (.int r18), .val (.int r21), .unset, .unset, .unset] [(.int (1 : Int32))])) _
        refine XS.goto X21.here hx rfl (pc0 := 116) (pc' := 120) rfl (hb hby at_116) (by decide) (by decide) ?_
        show Steps p.tables e below (T21.setTop (mkF m 120 #[.val (.int p1), .val (.int p2), .val (.int p3), .val (.int p4), .val (.int p5), .val (.int p6), .val (.ref b1), .val (.int sa), .val (.int en), .val (.int r9), .val (.int r10), .val (.ref b11), .val (.int r15), .val (.int r18), .val (.int r21), .unset, .unset, .unset] [(.int (1 : Int32))])) _
        refine XS.istore X21.here hx rfl (hb hby at_120) rfl (l' := #[.val (.int p1), .val (.int p2), .val (.int p3), .val (.int p4), .val (.int p5), .val (.int p6), .val (.ref b1), .val (.int sa), .val (.int en), .val (.int r9), .val (.int r10), .val (.ref b11), .val (.int r15), .val (.int r18), .val (.int r21), .val (.int (1 : Int32)), .unset, .unset]) rfl ?_
        show Steps p.tables e below (T21.setTop (mkF m 122 #[.val (.int p1), .val (.int p2), .val (.int p3), .val (.int p4), .val (.int p5), .val (.int p6), .val (.ref b1), .val (.int sa), .val (.int en), .val (.int r9), .val (.int r10), .val (.ref b11), .val (.int r15), .val (.int r18), .val (.int r21), .val (.int (1 : Int32)), .unset, .unset] [])) _
        refine XS.iload X21.here hx rfl (hb hby at_122) rfl ?_
        show Steps p.tables e below (T21.setTop (mkF m 124 #[.val (.int p1), .val (.int p2), .val (.int p3), .val (.int p4), .val (.int p5), .val (.int p6), .val (.ref b1), .val (.int sa), .val (.int en), .val (.int r9), .val (.int r10), .val (.ref b11), .val (.int r15), .val (.int r18), .val (.int r21), .val (.int (1 : Int32)), .unset, .unset] [(.int (1 : Int32))])) _
        refine XS.ifNo X21.here hx rfl (hb hby at_124) rfl ((if0 _ _).trans (feq (by decide : ¬ ((1 : Int32) = (0 : Int32)))).1) ?_
        show Steps p.tables e below (T21.setTop (mkF m 127 #[.val (.int p1), .val (.int p2), .val (.int p3), .val (.int p4), .val (.int p5), .val (.int p6), .val (.ref b1), .val (.int sa), .val (.int en), .val (.int r9), .val (.int r10), .val (.ref b11), .val (.int r15), .val (.int r18), .val (.int r21), .val (.int (1 : Int32)), .unset, .unset] [])) _
        refine XS.iload X21.here hx rfl (hb hby at_127) rfl ?_
        show Steps p.tables e below (T21.setTop (mkF m 129 #[.val (.int p1), .val (.int p2), .val (.int p3), .val (.int p4), .val (.int p5), .val (.int p6), .val (.ref b1), .val (.int sa), .val (.int en), .val (.int r9), .val (.int r10), .val (.ref b11), .val (.int r15), .val (.int r18), .val (.int r21), .val (.int (1 : Int32)), .unset, .unset] [(.int sa)])) _
        refine XS.iconst X21.here hx rfl (hb hby at_129) ?_
        show Steps p.tables e below (T21.setTop (mkF m 130 #[.val (.int p1), .val (.int p2), .val (.int p3), .val (.int p4), .val (.int p5), .val (.int p6), .val (.ref b1), .val (.int sa), .val (.int en), .val (.int r9), .val (.int r10), .val (.ref b11), .val (.int r15), .val (.int r18), .val (.int r21), .val (.int (1 : Int32)), .unset, .unset] [(.int (1 : Int32)), (.int sa)])) _
        refine XS.iadd X21.here hx rfl (hb hby at_130) rfl ?_
        show Steps p.tables e below (T21.setTop (mkF m 131 #[.val (.int p1), .val (.int p2), .val (.int p3), .val (.int p4), .val (.int p5), .val (.int p6), .val (.ref b1), .val (.int sa), .val (.int en), .val (.int r9), .val (.int r10), .val (.ref b11), .val (.int r15), .val (.int r18), .val (.int r21), .val (.int (1 : Int32)), .unset, .unset] [(.int (sa + (1 : Int32)))])) _
        refine XS.iload X21.here hx rfl (hb hby at_131) rfl ?_
        show Steps p.tables e below (T21.setTop (mkF m 133 #[.val (.int p1), .val (.int p2), .val (.int p3), .val (.int p4), .val (.int p5), .val (.int p6), .val (.ref b1), .val (.int sa), .val (.int en), .val (.int r9), .val (.int r10), .val (.ref b11), .val (.int r15), .val (.int r18), .val (.int r21), .val (.int (1 : Int32)), .unset, .unset] [(.int en), (.int (sa + (1 : Int32)))])) _
        exact k
      by_cases hc133_26 : (sa + (1 : Int32)) < en
      · obtain ⟨cl27, Ar27, kc27, sz27, -, hv27⟩ := id f24
        have hin27 : ¬ ((sa + (1 : Int32)) < 0 ∨ cl27.slots.size ≤ ((sa + (1 : Int32))).toNatClampNeg) := AV.inb sz27 (own_inb (own_sa1 hsa2) hc133_26 hen2.2)
        have hat27 : cl27.slots[((sa + (1 : Int32))).toNatClampNeg]? = some (.int (fn7 ((sa + (1 : Int32))).toNatClampNeg)) := (hv27 _ (AV.inx (own_inb (own_sa1 hsa2) hc133_26 hen2.2))).trans (congrArg some rfl)
        refine GoalS.lift (B := (T21.setTop (mkF m 145 #[.val (.int p1), .val (.int p2), .val (.int p3), .val (.int p4), .val (.int p5), .val (.int p6), .val (.ref b1), .val (.int sa), .val (.int en), .val (.int r9), .val (.int r10), .val (.ref b11), .val (.int r15), .val (.int r18), .val (.int r21), .val (.int (1 : Int32)), .unset, .unset] [(.int r10), (.int (fn7 ((sa + (1 : Int32))).toNatClampNeg))]))) (fun t k => ?_) ?_
        · show Steps p.tables e below (T21.setTop (mkF m 133 #[.val (.int p1), .val (.int p2), .val (.int p3), .val (.int p4), .val (.int p5), .val (.int p6), .val (.ref b1), .val (.int sa), .val (.int en), .val (.int r9), .val (.int r10), .val (.ref b11), .val (.int r15), .val (.int r18), .val (.int r21), .val (.int (1 : Int32)), .unset, .unset] [(.int en), (.int (sa + (1 : Int32)))])) _
          refine XS.icmpNo X21.here hx rfl (hb hby at_133) rfl ((tlt hc133_26).2.1) ?_
          show Steps p.tables e below (T21.setTop (mkF m 136 #[.val (.int p1), .val (.int p2), .val (.int p3), .val (.int p4), .val (.int p5), .val (.int p6), .val (.ref b1), .val (.int sa), .val (.int en), .val (.int r9), .val (.int r10), .val (.ref b11), .val (.int r15), .val (.int r18), .val (.int r21), .val (.int (1 : Int32)), .unset, .unset] [])) _
          refine XS.aload X21.here hx rfl (hb hby at_136) rfl rfl ?_
          show Steps p.tables e below (T21.setTop (mkF m 138 #[.val (.int p1), .val (.int p2), .val (.int p3), .val (.int p4), .val (.int p5), .val (.int p6), .val (.ref b1), .val (.int sa), .val (.int en), .val (.int r9), .val (.int r10), .val (.ref b11), .val (.int r15), .val (.int r18), .val (.int r21), .val (.int (1 : Int32)), .unset, .unset] [(.ref b1)])) _
          refine XS.iload X21.here hx rfl (hb hby at_138) rfl ?_
          show Steps p.tables e below (T21.setTop (mkF m 140 #[.val (.int p1), .val (.int p2), .val (.int p3), .val (.int p4), .val (.int p5), .val (.int p6), .val (.ref b1), .val (.int sa), .val (.int en), .val (.int r9), .val (.int r10), .val (.ref b11), .val (.int r15), .val (.int r18), .val (.int r21), .val (.int (1 : Int32)), .unset, .unset] [(.int sa), (.ref b1)])) _
          refine XS.iconst X21.here hx rfl (hb hby at_140) ?_
          show Steps p.tables e below (T21.setTop (mkF m 141 #[.val (.int p1), .val (.int p2), .val (.int p3), .val (.int p4), .val (.int p5), .val (.int p6), .val (.ref b1), .val (.int sa), .val (.int en), .val (.int r9), .val (.int r10), .val (.ref b11), .val (.int r15), .val (.int r18), .val (.int r21), .val (.int (1 : Int32)), .unset, .unset] [(.int (1 : Int32)), (.int sa), (.ref b1)])) _
          refine XS.iadd X21.here hx rfl (hb hby at_141) rfl ?_
          show Steps p.tables e below (T21.setTop (mkF m 142 #[.val (.int p1), .val (.int p2), .val (.int p3), .val (.int p4), .val (.int p5), .val (.int p6), .val (.ref b1), .val (.int sa), .val (.int en), .val (.int r9), .val (.int r10), .val (.ref b11), .val (.int r15), .val (.int r18), .val (.int r21), .val (.int (1 : Int32)), .unset, .unset] [(.int (sa + (1 : Int32))), (.ref b1)])) _
          refine X21.caload hx (j := (sa + (1 : Int32))) (v := (.int (fn7 ((sa + (1 : Int32))).toNatClampNeg))) (by rw [eq21]; exact Ar27.1) (State.isArrayOf_alike hZ.alike Ar27.2.1) Ar27.2.2 hin27 hat27 (g := (mkF m 142 #[.val (.int p1), .val (.int p2), .val (.int p3), .val (.int p4), .val (.int p5), .val (.int p6), .val (.ref b1), .val (.int sa), .val (.int en), .val (.int r9), .val (.int r10), .val (.ref b11), .val (.int r15), .val (.int r18), .val (.int r21), .val (.int (1 : Int32)), .unset, .unset] [(.int (sa + (1 : Int32))), (.ref b1)])) rfl rfl (hb hby at_142) _ ?_
          show Steps p.tables e below (T21.setTop (mkF m 143 #[.val (.int p1), .val (.int p2), .val (.int p3), .val (.int p4), .val (.int p5), .val (.int p6), .val (.ref b1), .val (.int sa), .val (.int en), .val (.int r9), .val (.int r10), .val (.ref b11), .val (.int r15), .val (.int r18), .val (.int r21), .val (.int (1 : Int32)), .unset, .unset] [(.int (fn7 ((sa + (1 : Int32))).toNatClampNeg))])) _
          refine XS.iload X21.here hx rfl (hb hby at_143) rfl ?_
          show Steps p.tables e below (T21.setTop (mkF m 145 #[.val (.int p1), .val (.int p2), .val (.int p3), .val (.int p4), .val (.int p5), .val (.int p6), .val (.ref b1), .val (.int sa), .val (.int en), .val (.int r9), .val (.int r10), .val (.ref b11), .val (.int r15), .val (.int r18), .val (.int r21), .val (.int (1 : Int32)), .unset, .unset] [(.int r10), (.int (fn7 ((sa + (1 : Int32))).toNatClampNeg))])) _
          exact k
        by_cases hc145_28 : (fn7 ((sa + (1 : Int32))).toNatClampNeg) = r10
        · have e_r1 : r15 = (1 : Int32) := by rw [hr15]; simp only [if_pos hc102_22, if_pos hc112_25, if_pos hc133_26, if_pos hc145_28]
          have e_w2 : w2_15 = (sa + (1 : Int32)) := by rw [p15_5]; simp only [if_pos hc102_22, if_pos hc112_25, if_pos hc133_26, if_pos hc145_28]
          have e_r2 : r18 = (1 : Int32) := by rw [hr18, e_w2]; simp only [if_pos hc102_22, if_pos hc112_25, if_pos hc133_26, if_pos hc145_28]
          have e_w3 : w2_18 = (sa + (2 : Int32)) := by rw [p18_5, e_w2]; simp only [if_pos hc102_22, if_pos hc112_25, if_pos hc133_26, if_pos hc145_28, own_two]
          refine GoalS.lift (B := (T21.setTop (mkF m 228 #[.val (.int p1), .val (.int p2), .val (.int p3), .val (.int p4), .val (.int p5), .val (.int p6), .val (.ref b1), .val (.int sa), .val (.int en), .val (.int r9), .val (.int r10), .val (.ref b11), .val (.int r15), .val (.int r18), .val (.int r21), .val (.int (1 : Int32)), .val (.int (1 : Int32)), .val (.int (2 : Int32))] [(.int en), (.int (sa + (2 : Int32))), (.int r21)]))) (fun t k => ?_) ?_
          · show Steps p.tables e below (T21.setTop (mkF m 145 #[.val (.int p1), .val (.int p2), .val (.int p3), .val (.int p4), .val (.int p5), .val (.int p6), .val (.ref b1), .val (.int sa), .val (.int en), .val (.int r9), .val (.int r10), .val (.ref b11), .val (.int r15), .val (.int r18), .val (.int r21), .val (.int (1 : Int32)), .unset, .unset] [(.int r10), (.int (fn7 ((sa + (1 : Int32))).toNatClampNeg))])) _
            refine XS.icmpNo X21.here hx rfl (hb hby at_145) rfl ((teq hc145_28).2) ?_
            show Steps p.tables e below (T21.setTop (mkF m 148 #[.val (.int p1), .val (.int p2), .val (.int p3), .val (.int p4), .val (.int p5), .val (.int p6), .val (.ref b1), .val (.int sa), .val (.int en), .val (.int r9), .val (.int r10), .val (.ref b11), .val (.int r15), .val (.int r18), .val (.int r21), .val (.int (1 : Int32)), .unset, .unset] [])) _
            refine XS.iconst X21.here hx rfl (hb hby at_148) ?_
            show Steps p.tables e below (T21.setTop (mkF m 149 #[.val (.int p1), .val (.int p2), .val (.int p3), .val (.int p4), .val (.int p5), .val (.int p6), .val (.ref b1), .val (.int sa), .val (.int en), .val (.int r9), .val (.int r10), .val (.ref b11), .val (.int r15), .val (.int r18), .val (.int r21), .val (.int (1 : Int32)), .unset, .unset] [(.int (1 : Int32))])) _
            refine XS.goto X21.here hx rfl (pc0 := 149) (pc' := 153) rfl (hb hby at_149) (by decide) (by decide) ?_
            show Steps p.tables e below (T21.setTop (mkF m 153 #[.val (.int p1), .val (.int p2), .val (.int p3), .val (.int p4), .val (.int p5), .val (.int p6), .val (.ref b1), .val (.int sa), .val (.int en), .val (.int r9), .val (.int r10), .val (.ref b11), .val (.int r15), .val (.int r18), .val (.int r21), .val (.int (1 : Int32)), .unset, .unset] [(.int (1 : Int32))])) _
            refine XS.istore X21.here hx rfl (hb hby at_153) rfl (l' := #[.val (.int p1), .val (.int p2), .val (.int p3), .val (.int p4), .val (.int p5), .val (.int p6), .val (.ref b1), .val (.int sa), .val (.int en), .val (.int r9), .val (.int r10), .val (.ref b11), .val (.int r15), .val (.int r18), .val (.int r21), .val (.int (1 : Int32)), .val (.int (1 : Int32)), .unset]) rfl ?_
            show Steps p.tables e below (T21.setTop (mkF m 155 #[.val (.int p1), .val (.int p2), .val (.int p3), .val (.int p4), .val (.int p5), .val (.int p6), .val (.ref b1), .val (.int sa), .val (.int en), .val (.int r9), .val (.int r10), .val (.ref b11), .val (.int r15), .val (.int r18), .val (.int r21), .val (.int (1 : Int32)), .val (.int (1 : Int32)), .unset] [])) _
            refine XS.goto X21.here hx rfl (pc0 := 155) (pc' := 182) rfl (hb hby at_155) (by decide) (by decide) ?_
            show Steps p.tables e below (T21.setTop (mkF m 182 #[.val (.int p1), .val (.int p2), .val (.int p3), .val (.int p4), .val (.int p5), .val (.int p6), .val (.ref b1), .val (.int sa), .val (.int en), .val (.int r9), .val (.int r10), .val (.ref b11), .val (.int r15), .val (.int r18), .val (.int r21), .val (.int (1 : Int32)), .val (.int (1 : Int32)), .unset] [])) _
            refine XS.iload X21.here hx rfl (hb hby at_182) rfl ?_
            show Steps p.tables e below (T21.setTop (mkF m 184 #[.val (.int p1), .val (.int p2), .val (.int p3), .val (.int p4), .val (.int p5), .val (.int p6), .val (.ref b1), .val (.int sa), .val (.int en), .val (.int r9), .val (.int r10), .val (.ref b11), .val (.int r15), .val (.int r18), .val (.int r21), .val (.int (1 : Int32)), .val (.int (1 : Int32)), .unset] [(.int (1 : Int32))])) _
            refine XS.ifNo X21.here hx rfl (hb hby at_184) rfl ((if0 _ _).trans (feq (by decide : ¬ ((1 : Int32) = (0 : Int32)))).1) ?_
            show Steps p.tables e below (T21.setTop (mkF m 187 #[.val (.int p1), .val (.int p2), .val (.int p3), .val (.int p4), .val (.int p5), .val (.int p6), .val (.ref b1), .val (.int sa), .val (.int en), .val (.int r9), .val (.int r10), .val (.ref b11), .val (.int r15), .val (.int r18), .val (.int r21), .val (.int (1 : Int32)), .val (.int (1 : Int32)), .unset] [])) _
            refine XS.iconst X21.here hx rfl (hb hby at_187) ?_
            show Steps p.tables e below (T21.setTop (mkF m 188 #[.val (.int p1), .val (.int p2), .val (.int p3), .val (.int p4), .val (.int p5), .val (.int p6), .val (.ref b1), .val (.int sa), .val (.int en), .val (.int r9), .val (.int r10), .val (.ref b11), .val (.int r15), .val (.int r18), .val (.int r21), .val (.int (1 : Int32)), .val (.int (1 : Int32)), .unset] [(.int (1 : Int32))])) _
            refine XS.goto X21.here hx rfl (pc0 := 188) (pc' := 192) rfl (hb hby at_188) (by decide) (by decide) ?_
            show Steps p.tables e below (T21.setTop (mkF m 192 #[.val (.int p1), .val (.int p2), .val (.int p3), .val (.int p4), .val (.int p5), .val (.int p6), .val (.ref b1), .val (.int sa), .val (.int en), .val (.int r9), .val (.int r10), .val (.ref b11), .val (.int r15), .val (.int r18), .val (.int r21), .val (.int (1 : Int32)), .val (.int (1 : Int32)), .unset] [(.int (1 : Int32))])) _
            refine XS.iload X21.here hx rfl (hb hby at_192) rfl ?_
            show Steps p.tables e below (T21.setTop (mkF m 194 #[.val (.int p1), .val (.int p2), .val (.int p3), .val (.int p4), .val (.int p5), .val (.int p6), .val (.ref b1), .val (.int sa), .val (.int en), .val (.int r9), .val (.int r10), .val (.ref b11), .val (.int r15), .val (.int r18), .val (.int r21), .val (.int (1 : Int32)), .val (.int (1 : Int32)), .unset] [(.int (1 : Int32)), (.int (1 : Int32))])) _
            refine XS.ifNo X21.here hx rfl (hb hby at_194) rfl ((if0 _ _).trans (feq (by decide : ¬ ((1 : Int32) = (0 : Int32)))).1) ?_
            show Steps p.tables e below (T21.setTop (mkF m 197 #[.val (.int p1), .val (.int p2), .val (.int p3), .val (.int p4), .val (.int p5), .val (.int p6), .val (.ref b1), .val (.int sa), .val (.int en), .val (.int r9), .val (.int r10), .val (.ref b11), .val (.int r15), .val (.int r18), .val (.int r21), .val (.int (1 : Int32)), .val (.int (1 : Int32)), .unset] [(.int (1 : Int32))])) _
            refine XS.iconst X21.here hx rfl (hb hby at_197) ?_
            show Steps p.tables e below (T21.setTop (mkF m 198 #[.val (.int p1), .val (.int p2), .val (.int p3), .val (.int p4), .val (.int p5), .val (.int p6), .val (.ref b1), .val (.int sa), .val (.int en), .val (.int r9), .val (.int r10), .val (.ref b11), .val (.int r15), .val (.int r18), .val (.int r21), .val (.int (1 : Int32)), .val (.int (1 : Int32)), .unset] [(.int (1 : Int32)), (.int (1 : Int32))])) _
            refine XS.goto X21.here hx rfl (pc0 := 198) (pc' := 202) rfl (hb hby at_198) (by decide) (by decide) ?_
            show Steps p.tables e below (T21.setTop (mkF m 202 #[.val (.int p1), .val (.int p2), .val (.int p3), .val (.int p4), .val (.int p5), .val (.int p6), .val (.ref b1), .val (.int sa), .val (.int en), .val (.int r9), .val (.int r10), .val (.ref b11), .val (.int r15), .val (.int r18), .val (.int r21), .val (.int (1 : Int32)), .val (.int (1 : Int32)), .unset] [(.int (1 : Int32)), (.int (1 : Int32))])) _
            refine XS.iadd X21.here hx rfl (hb hby at_202) rfl ?_
            show Steps p.tables e below (T21.setTop (mkF m 203 #[.val (.int p1), .val (.int p2), .val (.int p3), .val (.int p4), .val (.int p5), .val (.int p6), .val (.ref b1), .val (.int sa), .val (.int en), .val (.int r9), .val (.int r10), .val (.ref b11), .val (.int r15), .val (.int r18), .val (.int r21), .val (.int (1 : Int32)), .val (.int (1 : Int32)), .unset] [(.int (2 : Int32))])) _
            refine XS.istore X21.here hx rfl (hb hby at_203) rfl (l' := #[.val (.int p1), .val (.int p2), .val (.int p3), .val (.int p4), .val (.int p5), .val (.int p6), .val (.ref b1), .val (.int sa), .val (.int en), .val (.int r9), .val (.int r10), .val (.ref b11), .val (.int r15), .val (.int r18), .val (.int r21), .val (.int (1 : Int32)), .val (.int (1 : Int32)), .val (.int (2 : Int32))]) rfl ?_
            show Steps p.tables e below (T21.setTop (mkF m 205 #[.val (.int p1), .val (.int p2), .val (.int p3), .val (.int p4), .val (.int p5), .val (.int p6), .val (.ref b1), .val (.int sa), .val (.int en), .val (.int r9), .val (.int r10), .val (.ref b11), .val (.int r15), .val (.int r18), .val (.int r21), .val (.int (1 : Int32)), .val (.int (1 : Int32)), .val (.int (2 : Int32))] [])) _
            refine XS.iload X21.here hx rfl (hb hby at_205) rfl ?_
            show Steps p.tables e below (T21.setTop (mkF m 207 #[.val (.int p1), .val (.int p2), .val (.int p3), .val (.int p4), .val (.int p5), .val (.int p6), .val (.ref b1), .val (.int sa), .val (.int en), .val (.int r9), .val (.int r10), .val (.ref b11), .val (.int r15), .val (.int r18), .val (.int r21), .val (.int (1 : Int32)), .val (.int (1 : Int32)), .val (.int (2 : Int32))] [(.int r15)])) _
            refine XS.iload X21.here hx rfl (hb hby at_207) rfl ?_
            show Steps p.tables e below (T21.setTop (mkF m 209 #[.val (.int p1), .val (.int p2), .val (.int p3), .val (.int p4), .val (.int p5), .val (.int p6), .val (.ref b1), .val (.int sa), .val (.int en), .val (.int r9), .val (.int r10), .val (.ref b11), .val (.int r15), .val (.int r18), .val (.int r21), .val (.int (1 : Int32)), .val (.int (1 : Int32)), .val (.int (2 : Int32))] [(.int (1 : Int32)), (.int r15)])) _
            refine XS.icmpNo X21.here hx rfl (hb hby at_209) rfl ((teq (e_r1 : r15 = (1 : Int32))).2) ?_
            show Steps p.tables e below (T21.setTop (mkF m 212 #[.val (.int p1), .val (.int p2), .val (.int p3), .val (.int p4), .val (.int p5), .val (.int p6), .val (.ref b1), .val (.int sa), .val (.int en), .val (.int r9), .val (.int r10), .val (.ref b11), .val (.int r15), .val (.int r18), .val (.int r21), .val (.int (1 : Int32)), .val (.int (1 : Int32)), .val (.int (2 : Int32))] [])) _
            refine XS.iload X21.here hx rfl (hb hby at_212) rfl ?_
            show Steps p.tables e below (T21.setTop (mkF m 214 #[.val (.int p1), .val (.int p2), .val (.int p3), .val (.int p4), .val (.int p5), .val (.int p6), .val (.ref b1), .val (.int sa), .val (.int en), .val (.int r9), .val (.int r10), .val (.ref b11), .val (.int r15), .val (.int r18), .val (.int r21), .val (.int (1 : Int32)), .val (.int (1 : Int32)), .val (.int (2 : Int32))] [(.int r18)])) _
            refine XS.iload X21.here hx rfl (hb hby at_214) rfl ?_
            show Steps p.tables e below (T21.setTop (mkF m 216 #[.val (.int p1), .val (.int p2), .val (.int p3), .val (.int p4), .val (.int p5), .val (.int p6), .val (.ref b1), .val (.int sa), .val (.int en), .val (.int r9), .val (.int r10), .val (.ref b11), .val (.int r15), .val (.int r18), .val (.int r21), .val (.int (1 : Int32)), .val (.int (1 : Int32)), .val (.int (2 : Int32))] [(.int (1 : Int32)), (.int r18)])) _
            refine XS.icmpNo X21.here hx rfl (hb hby at_216) rfl ((teq (e_r2 : r18 = (1 : Int32))).2) ?_
            show Steps p.tables e below (T21.setTop (mkF m 219 #[.val (.int p1), .val (.int p2), .val (.int p3), .val (.int p4), .val (.int p5), .val (.int p6), .val (.ref b1), .val (.int sa), .val (.int en), .val (.int r9), .val (.int r10), .val (.ref b11), .val (.int r15), .val (.int r18), .val (.int r21), .val (.int (1 : Int32)), .val (.int (1 : Int32)), .val (.int (2 : Int32))] [])) _
            refine XS.iload X21.here hx rfl (hb hby at_219) rfl ?_
            show Steps p.tables e below (T21.setTop (mkF m 221 #[.val (.int p1), .val (.int p2), .val (.int p3), .val (.int p4), .val (.int p5), .val (.int p6), .val (.ref b1), .val (.int sa), .val (.int en), .val (.int r9), .val (.int r10), .val (.ref b11), .val (.int r15), .val (.int r18), .val (.int r21), .val (.int (1 : Int32)), .val (.int (1 : Int32)), .val (.int (2 : Int32))] [(.int r21)])) _
            refine XS.iload X21.here hx rfl (hb hby at_221) rfl ?_
            show Steps p.tables e below (T21.setTop (mkF m 223 #[.val (.int p1), .val (.int p2), .val (.int p3), .val (.int p4), .val (.int p5), .val (.int p6), .val (.ref b1), .val (.int sa), .val (.int en), .val (.int r9), .val (.int r10), .val (.ref b11), .val (.int r15), .val (.int r18), .val (.int r21), .val (.int (1 : Int32)), .val (.int (1 : Int32)), .val (.int (2 : Int32))] [(.int sa), (.int r21)])) _
            refine XS.iload X21.here hx rfl (hb hby at_223) rfl ?_
            show Steps p.tables e below (T21.setTop (mkF m 225 #[.val (.int p1), .val (.int p2), .val (.int p3), .val (.int p4), .val (.int p5), .val (.int p6), .val (.ref b1), .val (.int sa), .val (.int en), .val (.int r9), .val (.int r10), .val (.ref b11), .val (.int r15), .val (.int r18), .val (.int r21), .val (.int (1 : Int32)), .val (.int (1 : Int32)), .val (.int (2 : Int32))] [(.int (2 : Int32)), (.int sa), (.int r21)])) _
            refine XS.iadd X21.here hx rfl (hb hby at_225) rfl ?_
            show Steps p.tables e below (T21.setTop (mkF m 226 #[.val (.int p1), .val (.int p2), .val (.int p3), .val (.int p4), .val (.int p5), .val (.int p6), .val (.ref b1), .val (.int sa), .val (.int en), .val (.int r9), .val (.int r10), .val (.ref b11), .val (.int r15), .val (.int r18), .val (.int r21), .val (.int (1 : Int32)), .val (.int (1 : Int32)), .val (.int (2 : Int32))] [(.int (sa + (2 : Int32))), (.int r21)])) _
            refine XS.iload X21.here hx rfl (hb hby at_226) rfl ?_
            show Steps p.tables e below (T21.setTop (mkF m 228 #[.val (.int p1), .val (.int p2), .val (.int p3), .val (.int p4), .val (.int p5), .val (.int p6), .val (.ref b1), .val (.int sa), .val (.int en), .val (.int r9), .val (.int r10), .val (.ref b11), .val (.int r15), .val (.int r18), .val (.int r21), .val (.int (1 : Int32)), .val (.int (1 : Int32)), .val (.int (2 : Int32))] [(.int en), (.int (sa + (2 : Int32))), (.int r21)])) _
            exact k
          by_cases hc228_29 : (sa + (2 : Int32)) = en
          · obtain ⟨fs, hr, hrun, hended, hW, hsame⟩ := X21.leave (v := some (.int (1 : Int32))) (fun h => by rw [Bd.returns] at h; cases h)
            refine ⟨_, _, ?_, hrun, hended, _, _, rfl, ?_, ⟨_, rfl⟩, hW, hsame.mono (by decide) (by decide)⟩
            · show Steps p.tables e below (T21.setTop (mkF m 228 #[.val (.int p1), .val (.int p2), .val (.int p3), .val (.int p4), .val (.int p5), .val (.int p6), .val (.ref b1), .val (.int sa), .val (.int en), .val (.int r9), .val (.int r10), .val (.ref b11), .val (.int r15), .val (.int r18), .val (.int r21), .val (.int (1 : Int32)), .val (.int (1 : Int32)), .val (.int (2 : Int32))] [(.int en), (.int (sa + (2 : Int32))), (.int r21)])) _
              refine XS.icmpNo X21.here hx rfl (hb hby at_228) rfl ((teq hc228_29).2) ?_
              show Steps p.tables e below (T21.setTop (mkF m 231 #[.val (.int p1), .val (.int p2), .val (.int p3), .val (.int p4), .val (.int p5), .val (.int p6), .val (.ref b1), .val (.int sa), .val (.int en), .val (.int r9), .val (.int r10), .val (.ref b11), .val (.int r15), .val (.int r18), .val (.int r21), .val (.int (1 : Int32)), .val (.int (1 : Int32)), .val (.int (2 : Int32))] [(.int r21)])) _
              refine XS.iconst X21.here hx rfl (hb hby at_231) ?_
              show Steps p.tables e below (T21.setTop (mkF m 232 #[.val (.int p1), .val (.int p2), .val (.int p3), .val (.int p4), .val (.int p5), .val (.int p6), .val (.ref b1), .val (.int sa), .val (.int en), .val (.int r9), .val (.int r10), .val (.ref b11), .val (.int r15), .val (.int r18), .val (.int r21), .val (.int (1 : Int32)), .val (.int (1 : Int32)), .val (.int (2 : Int32))] [(.int (1 : Int32)), (.int r21)])) _
              refine XS.goto X21.here hx rfl (pc0 := 232) (pc' := 236) rfl (hb hby at_232) (by decide) (by decide) ?_
              show Steps p.tables e below (T21.setTop (mkF m 236 #[.val (.int p1), .val (.int p2), .val (.int p3), .val (.int p4), .val (.int p5), .val (.int p6), .val (.ref b1), .val (.int sa), .val (.int en), .val (.int r9), .val (.int r10), .val (.ref b11), .val (.int r15), .val (.int r18), .val (.int r21), .val (.int (1 : Int32)), .val (.int (1 : Int32)), .val (.int (2 : Int32))] [(.int (1 : Int32)), (.int r21)])) _
              refine XS.icmpNo X21.here hx rfl (hb hby at_236) rfl ((teq (by rw [hr21, e_w3, if_pos hc228_29] : r21 = (1 : Int32))).2) ?_
              show Steps p.tables e below (T21.setTop (mkF m 239 #[.val (.int p1), .val (.int p2), .val (.int p3), .val (.int p4), .val (.int p5), .val (.int p6), .val (.ref b1), .val (.int sa), .val (.int en), .val (.int r9), .val (.int r10), .val (.ref b11), .val (.int r15), .val (.int r18), .val (.int r21), .val (.int (1 : Int32)), .val (.int (1 : Int32)), .val (.int (2 : Int32))] [])) _
              refine XS.iconst X21.here hx rfl (hb hby at_239) ?_
              show Steps p.tables e below (T21.setTop (mkF m 240 #[.val (.int p1), .val (.int p2), .val (.int p3), .val (.int p4), .val (.int p5), .val (.int p6), .val (.ref b1), .val (.int sa), .val (.int en), .val (.int r9), .val (.int r10), .val (.ref b11), .val (.int r15), .val (.int r18), .val (.int r21), .val (.int (1 : Int32)), .val (.int (1 : Int32)), .val (.int (2 : Int32))] [(.int (1 : Int32))])) _
              refine XS.goto X21.here hx rfl (pc0 := 240) (pc' := 244) rfl (hb hby at_240) (by decide) (by decide) ?_
              show Steps p.tables e below (T21.setTop (mkF m 244 #[.val (.int p1), .val (.int p2), .val (.int p3), .val (.int p4), .val (.int p5), .val (.int p6), .val (.ref b1), .val (.int sa), .val (.int en), .val (.int r9), .val (.int r10), .val (.ref b11), .val (.int r15), .val (.int r18), .val (.int r21), .val (.int (1 : Int32)), .val (.int (1 : Int32)), .val (.int (2 : Int32))] [(.int (1 : Int32))])) _
              exact retN X21 hx (t := .boolean) Bd.returns (by simp) (hb hby at_244) hr
            · exact ⟨rfl, N21⟩
          · obtain ⟨fs, hr, hrun, hended, hW, hsame⟩ := X21.leave (v := some (.int (1 : Int32))) (fun h => by rw [Bd.returns] at h; cases h)
            refine ⟨_, _, ?_, hrun, hended, _, _, rfl, ?_, ⟨_, rfl⟩, hW, hsame.mono (by decide) (by decide)⟩
            · show Steps p.tables e below (T21.setTop (mkF m 228 #[.val (.int p1), .val (.int p2), .val (.int p3), .val (.int p4), .val (.int p5), .val (.int p6), .val (.ref b1), .val (.int sa), .val (.int en), .val (.int r9), .val (.int r10), .val (.ref b11), .val (.int r15), .val (.int r18), .val (.int r21), .val (.int (1 : Int32)), .val (.int (1 : Int32)), .val (.int (2 : Int32))] [(.int en), (.int (sa + (2 : Int32))), (.int r21)])) _
              refine XS.icmpYes X21.here hx rfl (pc0 := 228) (pc' := 235) rfl (hb hby at_228) rfl ((feq hc228_29).2) (by decide) (by decide) ?_
              show Steps p.tables e below (T21.setTop (mkF m 235 #[.val (.int p1), .val (.int p2), .val (.int p3), .val (.int p4), .val (.int p5), .val (.int p6), .val (.ref b1), .val (.int sa), .val (.int en), .val (.int r9), .val (.int r10), .val (.ref b11), .val (.int r15), .val (.int r18), .val (.int r21), .val (.int (1 : Int32)), .val (.int (1 : Int32)), .val (.int (2 : Int32))] [(.int r21)])) _
              refine XS.iconst X21.here hx rfl (hb hby at_235) ?_
              show Steps p.tables e below (T21.setTop (mkF m 236 #[.val (.int p1), .val (.int p2), .val (.int p3), .val (.int p4), .val (.int p5), .val (.int p6), .val (.ref b1), .val (.int sa), .val (.int en), .val (.int r9), .val (.int r10), .val (.ref b11), .val (.int r15), .val (.int r18), .val (.int r21), .val (.int (1 : Int32)), .val (.int (1 : Int32)), .val (.int (2 : Int32))] [(.int (0 : Int32)), (.int r21)])) _
              refine XS.icmpNo X21.here hx rfl (hb hby at_236) rfl ((teq (by rw [hr21, e_w3, if_neg hc228_29] : r21 = (0 : Int32))).2) ?_
              show Steps p.tables e below (T21.setTop (mkF m 239 #[.val (.int p1), .val (.int p2), .val (.int p3), .val (.int p4), .val (.int p5), .val (.int p6), .val (.ref b1), .val (.int sa), .val (.int en), .val (.int r9), .val (.int r10), .val (.ref b11), .val (.int r15), .val (.int r18), .val (.int r21), .val (.int (1 : Int32)), .val (.int (1 : Int32)), .val (.int (2 : Int32))] [])) _
              refine XS.iconst X21.here hx rfl (hb hby at_239) ?_
              show Steps p.tables e below (T21.setTop (mkF m 240 #[.val (.int p1), .val (.int p2), .val (.int p3), .val (.int p4), .val (.int p5), .val (.int p6), .val (.ref b1), .val (.int sa), .val (.int en), .val (.int r9), .val (.int r10), .val (.ref b11), .val (.int r15), .val (.int r18), .val (.int r21), .val (.int (1 : Int32)), .val (.int (1 : Int32)), .val (.int (2 : Int32))] [(.int (1 : Int32))])) _
              refine XS.goto X21.here hx rfl (pc0 := 240) (pc' := 244) rfl (hb hby at_240) (by decide) (by decide) ?_
              show Steps p.tables e below (T21.setTop (mkF m 244 #[.val (.int p1), .val (.int p2), .val (.int p3), .val (.int p4), .val (.int p5), .val (.int p6), .val (.ref b1), .val (.int sa), .val (.int en), .val (.int r9), .val (.int r10), .val (.ref b11), .val (.int r15), .val (.int r18), .val (.int r21), .val (.int (1 : Int32)), .val (.int (1 : Int32)), .val (.int (2 : Int32))] [(.int (1 : Int32))])) _
              exact retN X21 hx (t := .boolean) Bd.returns (by simp) (hb hby at_244) hr
            · exact ⟨rfl, N21⟩
        · have e_r1 : r15 = (1 : Int32) := by rw [hr15]; simp only [if_pos hc102_22, if_pos hc112_25, if_pos hc133_26, if_neg hc145_28]
          have e_w2 : w2_15 = (sa + (1 : Int32)) := by rw [p15_5]; simp only [if_pos hc102_22, if_pos hc112_25, if_pos hc133_26, if_neg hc145_28]
          have e_r2 : r18 = (0 : Int32) := by rw [hr18, e_w2]; simp only [if_pos hc102_22, if_pos hc112_25, if_pos hc133_26, if_neg hc145_28]
          have e_w3 : w2_18 = (sa + (1 : Int32)) := by rw [p18_5, e_w2]; simp only [if_pos hc102_22, if_pos hc112_25, if_pos hc133_26, if_neg hc145_28]
          refine GoalS.lift (B := (T21.setTop (mkF m 228 #[.val (.int p1), .val (.int p2), .val (.int p3), .val (.int p4), .val (.int p5), .val (.int p6), .val (.ref b1), .val (.int sa), .val (.int en), .val (.int r9), .val (.int r10), .val (.ref b11), .val (.int r15), .val (.int r18), .val (.int r21), .val (.int (1 : Int32)), .val (.int (0 : Int32)), .val (.int (1 : Int32))] [(.int en), (.int (sa + (1 : Int32))), (.int r21)]))) (fun t k => ?_) ?_
          · show Steps p.tables e below (T21.setTop (mkF m 145 #[.val (.int p1), .val (.int p2), .val (.int p3), .val (.int p4), .val (.int p5), .val (.int p6), .val (.ref b1), .val (.int sa), .val (.int en), .val (.int r9), .val (.int r10), .val (.ref b11), .val (.int r15), .val (.int r18), .val (.int r21), .val (.int (1 : Int32)), .unset, .unset] [(.int r10), (.int (fn7 ((sa + (1 : Int32))).toNatClampNeg))])) _
            refine XS.icmpYes X21.here hx rfl (pc0 := 145) (pc' := 152) rfl (hb hby at_145) rfl ((feq hc145_28).2) (by decide) (by decide) ?_
            show Steps p.tables e below (T21.setTop (mkF m 152 #[.val (.int p1), .val (.int p2), .val (.int p3), .val (.int p4), .val (.int p5), .val (.int p6), .val (.ref b1), .val (.int sa), .val (.int en), .val (.int r9), .val (.int r10), .val (.ref b11), .val (.int r15), .val (.int r18), .val (.int r21), .val (.int (1 : Int32)), .unset, .unset] [])) _
            refine XS.iconst X21.here hx rfl (hb hby at_152) ?_
            show Steps p.tables e below (T21.setTop (mkF m 153 #[.val (.int p1), .val (.int p2), .val (.int p3), .val (.int p4), .val (.int p5), .val (.int p6), .val (.ref b1), .val (.int sa), .val (.int en), .val (.int r9), .val (.int r10), .val (.ref b11), .val (.int r15), .val (.int r18), .val (.int r21), .val (.int (1 : Int32)), .unset, .unset] [(.int (0 : Int32))])) _
            refine XS.istore X21.here hx rfl (hb hby at_153) rfl (l' := #[.val (.int p1), .val (.int p2), .val (.int p3), .val (.int p4), .val (.int p5), .val (.int p6), .val (.ref b1), .val (.int sa), .val (.int en), .val (.int r9), .val (.int r10), .val (.ref b11), .val (.int r15), .val (.int r18), .val (.int r21), .val (.int (1 : Int32)), .val (.int (0 : Int32)), .unset]) rfl ?_
            show Steps p.tables e below (T21.setTop (mkF m 155 #[.val (.int p1), .val (.int p2), .val (.int p3), .val (.int p4), .val (.int p5), .val (.int p6), .val (.ref b1), .val (.int sa), .val (.int en), .val (.int r9), .val (.int r10), .val (.ref b11), .val (.int r15), .val (.int r18), .val (.int r21), .val (.int (1 : Int32)), .val (.int (0 : Int32)), .unset] [])) _
            refine XS.goto X21.here hx rfl (pc0 := 155) (pc' := 182) rfl (hb hby at_155) (by decide) (by decide) ?_
            show Steps p.tables e below (T21.setTop (mkF m 182 #[.val (.int p1), .val (.int p2), .val (.int p3), .val (.int p4), .val (.int p5), .val (.int p6), .val (.ref b1), .val (.int sa), .val (.int en), .val (.int r9), .val (.int r10), .val (.ref b11), .val (.int r15), .val (.int r18), .val (.int r21), .val (.int (1 : Int32)), .val (.int (0 : Int32)), .unset] [])) _
            refine XS.iload X21.here hx rfl (hb hby at_182) rfl ?_
            show Steps p.tables e below (T21.setTop (mkF m 184 #[.val (.int p1), .val (.int p2), .val (.int p3), .val (.int p4), .val (.int p5), .val (.int p6), .val (.ref b1), .val (.int sa), .val (.int en), .val (.int r9), .val (.int r10), .val (.ref b11), .val (.int r15), .val (.int r18), .val (.int r21), .val (.int (1 : Int32)), .val (.int (0 : Int32)), .unset] [(.int (1 : Int32))])) _
            refine XS.ifNo X21.here hx rfl (hb hby at_184) rfl ((if0 _ _).trans (feq (by decide : ¬ ((1 : Int32) = (0 : Int32)))).1) ?_
            show Steps p.tables e below (T21.setTop (mkF m 187 #[.val (.int p1), .val (.int p2), .val (.int p3), .val (.int p4), .val (.int p5), .val (.int p6), .val (.ref b1), .val (.int sa), .val (.int en), .val (.int r9), .val (.int r10), .val (.ref b11), .val (.int r15), .val (.int r18), .val (.int r21), .val (.int (1 : Int32)), .val (.int (0 : Int32)), .unset] [])) _
            refine XS.iconst X21.here hx rfl (hb hby at_187) ?_
            show Steps p.tables e below (T21.setTop (mkF m 188 #[.val (.int p1), .val (.int p2), .val (.int p3), .val (.int p4), .val (.int p5), .val (.int p6), .val (.ref b1), .val (.int sa), .val (.int en), .val (.int r9), .val (.int r10), .val (.ref b11), .val (.int r15), .val (.int r18), .val (.int r21), .val (.int (1 : Int32)), .val (.int (0 : Int32)), .unset] [(.int (1 : Int32))])) _
            refine XS.goto X21.here hx rfl (pc0 := 188) (pc' := 192) rfl (hb hby at_188) (by decide) (by decide) ?_
            show Steps p.tables e below (T21.setTop (mkF m 192 #[.val (.int p1), .val (.int p2), .val (.int p3), .val (.int p4), .val (.int p5), .val (.int p6), .val (.ref b1), .val (.int sa), .val (.int en), .val (.int r9), .val (.int r10), .val (.ref b11), .val (.int r15), .val (.int r18), .val (.int r21), .val (.int (1 : Int32)), .val (.int (0 : Int32)), .unset] [(.int (1 : Int32))])) _
            refine XS.iload X21.here hx rfl (hb hby at_192) rfl ?_
            show Steps p.tables e below (T21.setTop (mkF m 194 #[.val (.int p1), .val (.int p2), .val (.int p3), .val (.int p4), .val (.int p5), .val (.int p6), .val (.ref b1), .val (.int sa), .val (.int en), .val (.int r9), .val (.int r10), .val (.ref b11), .val (.int r15), .val (.int r18), .val (.int r21), .val (.int (1 : Int32)), .val (.int (0 : Int32)), .unset] [(.int (0 : Int32)), (.int (1 : Int32))])) _
            refine XS.ifYes X21.here hx rfl (pc0 := 194) (pc' := 201) rfl (hb hby at_194) rfl ((if0 _ _).trans (teq (by decide : (0 : Int32) = (0 : Int32))).1) (by decide) (by decide) ?_
            show Steps p.tables e below (T21.setTop (mkF m 201 #[.val (.int p1), .val (.int p2), .val (.int p3), .val (.int p4), .val (.int p5), .val (.int p6), .val (.ref b1), .val (.int sa), .val (.int en), .val (.int r9), .val (.int r10), .val (.ref b11), .val (.int r15), .val (.int r18), .val (.int r21), .val (.int (1 : Int32)), .val (.int (0 : Int32)), .unset] [(.int (1 : Int32))])) _
            refine XS.iconst X21.here hx rfl (hb hby at_201) ?_
            show Steps p.tables e below (T21.setTop (mkF m 202 #[.val (.int p1), .val (.int p2), .val (.int p3), .val (.int p4), .val (.int p5), .val (.int p6), .val (.ref b1), .val (.int sa), .val (.int en), .val (.int r9), .val (.int r10), .val (.ref b11), .val (.int r15), .val (.int r18), .val (.int r21), .val (.int (1 : Int32)), .val (.int (0 : Int32)), .unset] [(.int (0 : Int32)), (.int (1 : Int32))])) _
            refine XS.iadd X21.here hx rfl (hb hby at_202) rfl ?_
            show Steps p.tables e below (T21.setTop (mkF m 203 #[.val (.int p1), .val (.int p2), .val (.int p3), .val (.int p4), .val (.int p5), .val (.int p6), .val (.ref b1), .val (.int sa), .val (.int en), .val (.int r9), .val (.int r10), .val (.ref b11), .val (.int r15), .val (.int r18), .val (.int r21), .val (.int (1 : Int32)), .val (.int (0 : Int32)), .unset] [(.int (1 : Int32))])) _
            refine XS.istore X21.here hx rfl (hb hby at_203) rfl (l' := #[.val (.int p1), .val (.int p2), .val (.int p3), .val (.int p4), .val (.int p5), .val (.int p6), .val (.ref b1), .val (.int sa), .val (.int en), .val (.int r9), .val (.int r10), .val (.ref b11), .val (.int r15), .val (.int r18), .val (.int r21), .val (.int (1 : Int32)), .val (.int (0 : Int32)), .val (.int (1 : Int32))]) rfl ?_
            show Steps p.tables e below (T21.setTop (mkF m 205 #[.val (.int p1), .val (.int p2), .val (.int p3), .val (.int p4), .val (.int p5), .val (.int p6), .val (.ref b1), .val (.int sa), .val (.int en), .val (.int r9), .val (.int r10), .val (.ref b11), .val (.int r15), .val (.int r18), .val (.int r21), .val (.int (1 : Int32)), .val (.int (0 : Int32)), .val (.int (1 : Int32))] [])) _
            refine XS.iload X21.here hx rfl (hb hby at_205) rfl ?_
            show Steps p.tables e below (T21.setTop (mkF m 207 #[.val (.int p1), .val (.int p2), .val (.int p3), .val (.int p4), .val (.int p5), .val (.int p6), .val (.ref b1), .val (.int sa), .val (.int en), .val (.int r9), .val (.int r10), .val (.ref b11), .val (.int r15), .val (.int r18), .val (.int r21), .val (.int (1 : Int32)), .val (.int (0 : Int32)), .val (.int (1 : Int32))] [(.int r15)])) _
            refine XS.iload X21.here hx rfl (hb hby at_207) rfl ?_
            show Steps p.tables e below (T21.setTop (mkF m 209 #[.val (.int p1), .val (.int p2), .val (.int p3), .val (.int p4), .val (.int p5), .val (.int p6), .val (.ref b1), .val (.int sa), .val (.int en), .val (.int r9), .val (.int r10), .val (.ref b11), .val (.int r15), .val (.int r18), .val (.int r21), .val (.int (1 : Int32)), .val (.int (0 : Int32)), .val (.int (1 : Int32))] [(.int (1 : Int32)), (.int r15)])) _
            refine XS.icmpNo X21.here hx rfl (hb hby at_209) rfl ((teq (e_r1 : r15 = (1 : Int32))).2) ?_
            show Steps p.tables e below (T21.setTop (mkF m 212 #[.val (.int p1), .val (.int p2), .val (.int p3), .val (.int p4), .val (.int p5), .val (.int p6), .val (.ref b1), .val (.int sa), .val (.int en), .val (.int r9), .val (.int r10), .val (.ref b11), .val (.int r15), .val (.int r18), .val (.int r21), .val (.int (1 : Int32)), .val (.int (0 : Int32)), .val (.int (1 : Int32))] [])) _
            refine XS.iload X21.here hx rfl (hb hby at_212) rfl ?_
            show Steps p.tables e below (T21.setTop (mkF m 214 #[.val (.int p1), .val (.int p2), .val (.int p3), .val (.int p4), .val (.int p5), .val (.int p6), .val (.ref b1), .val (.int sa), .val (.int en), .val (.int r9), .val (.int r10), .val (.ref b11), .val (.int r15), .val (.int r18), .val (.int r21), .val (.int (1 : Int32)), .val (.int (0 : Int32)), .val (.int (1 : Int32))] [(.int r18)])) _
            refine XS.iload X21.here hx rfl (hb hby at_214) rfl ?_
            show Steps p.tables e below (T21.setTop (mkF m 216 #[.val (.int p1), .val (.int p2), .val (.int p3), .val (.int p4), .val (.int p5), .val (.int p6), .val (.ref b1), .val (.int sa), .val (.int en), .val (.int r9), .val (.int r10), .val (.ref b11), .val (.int r15), .val (.int r18), .val (.int r21), .val (.int (1 : Int32)), .val (.int (0 : Int32)), .val (.int (1 : Int32))] [(.int (0 : Int32)), (.int r18)])) _
            refine XS.icmpNo X21.here hx rfl (hb hby at_216) rfl ((teq (e_r2 : r18 = (0 : Int32))).2) ?_
            show Steps p.tables e below (T21.setTop (mkF m 219 #[.val (.int p1), .val (.int p2), .val (.int p3), .val (.int p4), .val (.int p5), .val (.int p6), .val (.ref b1), .val (.int sa), .val (.int en), .val (.int r9), .val (.int r10), .val (.ref b11), .val (.int r15), .val (.int r18), .val (.int r21), .val (.int (1 : Int32)), .val (.int (0 : Int32)), .val (.int (1 : Int32))] [])) _
            refine XS.iload X21.here hx rfl (hb hby at_219) rfl ?_
            show Steps p.tables e below (T21.setTop (mkF m 221 #[.val (.int p1), .val (.int p2), .val (.int p3), .val (.int p4), .val (.int p5), .val (.int p6), .val (.ref b1), .val (.int sa), .val (.int en), .val (.int r9), .val (.int r10), .val (.ref b11), .val (.int r15), .val (.int r18), .val (.int r21), .val (.int (1 : Int32)), .val (.int (0 : Int32)), .val (.int (1 : Int32))] [(.int r21)])) _
            refine XS.iload X21.here hx rfl (hb hby at_221) rfl ?_
            show Steps p.tables e below (T21.setTop (mkF m 223 #[.val (.int p1), .val (.int p2), .val (.int p3), .val (.int p4), .val (.int p5), .val (.int p6), .val (.ref b1), .val (.int sa), .val (.int en), .val (.int r9), .val (.int r10), .val (.ref b11), .val (.int r15), .val (.int r18), .val (.int r21), .val (.int (1 : Int32)), .val (.int (0 : Int32)), .val (.int (1 : Int32))] [(.int sa), (.int r21)])) _
            refine XS.iload X21.here hx rfl (hb hby at_223) rfl ?_
            show Steps p.tables e below (T21.setTop (mkF m 225 #[.val (.int p1), .val (.int p2), .val (.int p3), .val (.int p4), .val (.int p5), .val (.int p6), .val (.ref b1), .val (.int sa), .val (.int en), .val (.int r9), .val (.int r10), .val (.ref b11), .val (.int r15), .val (.int r18), .val (.int r21), .val (.int (1 : Int32)), .val (.int (0 : Int32)), .val (.int (1 : Int32))] [(.int (1 : Int32)), (.int sa), (.int r21)])) _
            refine XS.iadd X21.here hx rfl (hb hby at_225) rfl ?_
            show Steps p.tables e below (T21.setTop (mkF m 226 #[.val (.int p1), .val (.int p2), .val (.int p3), .val (.int p4), .val (.int p5), .val (.int p6), .val (.ref b1), .val (.int sa), .val (.int en), .val (.int r9), .val (.int r10), .val (.ref b11), .val (.int r15), .val (.int r18), .val (.int r21), .val (.int (1 : Int32)), .val (.int (0 : Int32)), .val (.int (1 : Int32))] [(.int (sa + (1 : Int32))), (.int r21)])) _
            refine XS.iload X21.here hx rfl (hb hby at_226) rfl ?_
            show Steps p.tables e below (T21.setTop (mkF m 228 #[.val (.int p1), .val (.int p2), .val (.int p3), .val (.int p4), .val (.int p5), .val (.int p6), .val (.ref b1), .val (.int sa), .val (.int en), .val (.int r9), .val (.int r10), .val (.ref b11), .val (.int r15), .val (.int r18), .val (.int r21), .val (.int (1 : Int32)), .val (.int (0 : Int32)), .val (.int (1 : Int32))] [(.int en), (.int (sa + (1 : Int32))), (.int r21)])) _
            exact k
          by_cases hc228_30 : (sa + (1 : Int32)) = en
          · obtain ⟨fs, hr, hrun, hended, hW, hsame⟩ := X21.leave (v := some (.int (1 : Int32))) (fun h => by rw [Bd.returns] at h; cases h)
            refine ⟨_, _, ?_, hrun, hended, _, _, rfl, ?_, ⟨_, rfl⟩, hW, hsame.mono (by decide) (by decide)⟩
            · show Steps p.tables e below (T21.setTop (mkF m 228 #[.val (.int p1), .val (.int p2), .val (.int p3), .val (.int p4), .val (.int p5), .val (.int p6), .val (.ref b1), .val (.int sa), .val (.int en), .val (.int r9), .val (.int r10), .val (.ref b11), .val (.int r15), .val (.int r18), .val (.int r21), .val (.int (1 : Int32)), .val (.int (0 : Int32)), .val (.int (1 : Int32))] [(.int en), (.int (sa + (1 : Int32))), (.int r21)])) _
              refine XS.icmpNo X21.here hx rfl (hb hby at_228) rfl ((teq hc228_30).2) ?_
              show Steps p.tables e below (T21.setTop (mkF m 231 #[.val (.int p1), .val (.int p2), .val (.int p3), .val (.int p4), .val (.int p5), .val (.int p6), .val (.ref b1), .val (.int sa), .val (.int en), .val (.int r9), .val (.int r10), .val (.ref b11), .val (.int r15), .val (.int r18), .val (.int r21), .val (.int (1 : Int32)), .val (.int (0 : Int32)), .val (.int (1 : Int32))] [(.int r21)])) _
              refine XS.iconst X21.here hx rfl (hb hby at_231) ?_
              show Steps p.tables e below (T21.setTop (mkF m 232 #[.val (.int p1), .val (.int p2), .val (.int p3), .val (.int p4), .val (.int p5), .val (.int p6), .val (.ref b1), .val (.int sa), .val (.int en), .val (.int r9), .val (.int r10), .val (.ref b11), .val (.int r15), .val (.int r18), .val (.int r21), .val (.int (1 : Int32)), .val (.int (0 : Int32)), .val (.int (1 : Int32))] [(.int (1 : Int32)), (.int r21)])) _
              refine XS.goto X21.here hx rfl (pc0 := 232) (pc' := 236) rfl (hb hby at_232) (by decide) (by decide) ?_
              show Steps p.tables e below (T21.setTop (mkF m 236 #[.val (.int p1), .val (.int p2), .val (.int p3), .val (.int p4), .val (.int p5), .val (.int p6), .val (.ref b1), .val (.int sa), .val (.int en), .val (.int r9), .val (.int r10), .val (.ref b11), .val (.int r15), .val (.int r18), .val (.int r21), .val (.int (1 : Int32)), .val (.int (0 : Int32)), .val (.int (1 : Int32))] [(.int (1 : Int32)), (.int r21)])) _
              refine XS.icmpNo X21.here hx rfl (hb hby at_236) rfl ((teq (by rw [hr21, e_w3, if_pos hc228_30] : r21 = (1 : Int32))).2) ?_
              show Steps p.tables e below (T21.setTop (mkF m 239 #[.val (.int p1), .val (.int p2), .val (.int p3), .val (.int p4), .val (.int p5), .val (.int p6), .val (.ref b1), .val (.int sa), .val (.int en), .val (.int r9), .val (.int r10), .val (.ref b11), .val (.int r15), .val (.int r18), .val (.int r21), .val (.int (1 : Int32)), .val (.int (0 : Int32)), .val (.int (1 : Int32))] [])) _
              refine XS.iconst X21.here hx rfl (hb hby at_239) ?_
              show Steps p.tables e below (T21.setTop (mkF m 240 #[.val (.int p1), .val (.int p2), .val (.int p3), .val (.int p4), .val (.int p5), .val (.int p6), .val (.ref b1), .val (.int sa), .val (.int en), .val (.int r9), .val (.int r10), .val (.ref b11), .val (.int r15), .val (.int r18), .val (.int r21), .val (.int (1 : Int32)), .val (.int (0 : Int32)), .val (.int (1 : Int32))] [(.int (1 : Int32))])) _
              refine XS.goto X21.here hx rfl (pc0 := 240) (pc' := 244) rfl (hb hby at_240) (by decide) (by decide) ?_
              show Steps p.tables e below (T21.setTop (mkF m 244 #[.val (.int p1), .val (.int p2), .val (.int p3), .val (.int p4), .val (.int p5), .val (.int p6), .val (.ref b1), .val (.int sa), .val (.int en), .val (.int r9), .val (.int r10), .val (.ref b11), .val (.int r15), .val (.int r18), .val (.int r21), .val (.int (1 : Int32)), .val (.int (0 : Int32)), .val (.int (1 : Int32))] [(.int (1 : Int32))])) _
              exact retN X21 hx (t := .boolean) Bd.returns (by simp) (hb hby at_244) hr
            · exact ⟨rfl, N21⟩
          · obtain ⟨fs, hr, hrun, hended, hW, hsame⟩ := X21.leave (v := some (.int (1 : Int32))) (fun h => by rw [Bd.returns] at h; cases h)
            refine ⟨_, _, ?_, hrun, hended, _, _, rfl, ?_, ⟨_, rfl⟩, hW, hsame.mono (by decide) (by decide)⟩
            · show Steps p.tables e below (T21.setTop (mkF m 228 #[.val (.int p1), .val (.int p2), .val (.int p3), .val (.int p4), .val (.int p5), .val (.int p6), .val (.ref b1), .val (.int sa), .val (.int en), .val (.int r9), .val (.int r10), .val (.ref b11), .val (.int r15), .val (.int r18), .val (.int r21), .val (.int (1 : Int32)), .val (.int (0 : Int32)), .val (.int (1 : Int32))] [(.int en), (.int (sa + (1 : Int32))), (.int r21)])) _
              refine XS.icmpYes X21.here hx rfl (pc0 := 228) (pc' := 235) rfl (hb hby at_228) rfl ((feq hc228_30).2) (by decide) (by decide) ?_
              show Steps p.tables e below (T21.setTop (mkF m 235 #[.val (.int p1), .val (.int p2), .val (.int p3), .val (.int p4), .val (.int p5), .val (.int p6), .val (.ref b1), .val (.int sa), .val (.int en), .val (.int r9), .val (.int r10), .val (.ref b11), .val (.int r15), .val (.int r18), .val (.int r21), .val (.int (1 : Int32)), .val (.int (0 : Int32)), .val (.int (1 : Int32))] [(.int r21)])) _
              refine XS.iconst X21.here hx rfl (hb hby at_235) ?_
              show Steps p.tables e below (T21.setTop (mkF m 236 #[.val (.int p1), .val (.int p2), .val (.int p3), .val (.int p4), .val (.int p5), .val (.int p6), .val (.ref b1), .val (.int sa), .val (.int en), .val (.int r9), .val (.int r10), .val (.ref b11), .val (.int r15), .val (.int r18), .val (.int r21), .val (.int (1 : Int32)), .val (.int (0 : Int32)), .val (.int (1 : Int32))] [(.int (0 : Int32)), (.int r21)])) _
              refine XS.icmpNo X21.here hx rfl (hb hby at_236) rfl ((teq (by rw [hr21, e_w3, if_neg hc228_30] : r21 = (0 : Int32))).2) ?_
              show Steps p.tables e below (T21.setTop (mkF m 239 #[.val (.int p1), .val (.int p2), .val (.int p3), .val (.int p4), .val (.int p5), .val (.int p6), .val (.ref b1), .val (.int sa), .val (.int en), .val (.int r9), .val (.int r10), .val (.ref b11), .val (.int r15), .val (.int r18), .val (.int r21), .val (.int (1 : Int32)), .val (.int (0 : Int32)), .val (.int (1 : Int32))] [])) _
              refine XS.iconst X21.here hx rfl (hb hby at_239) ?_
              show Steps p.tables e below (T21.setTop (mkF m 240 #[.val (.int p1), .val (.int p2), .val (.int p3), .val (.int p4), .val (.int p5), .val (.int p6), .val (.ref b1), .val (.int sa), .val (.int en), .val (.int r9), .val (.int r10), .val (.ref b11), .val (.int r15), .val (.int r18), .val (.int r21), .val (.int (1 : Int32)), .val (.int (0 : Int32)), .val (.int (1 : Int32))] [(.int (1 : Int32))])) _
              refine XS.goto X21.here hx rfl (pc0 := 240) (pc' := 244) rfl (hb hby at_240) (by decide) (by decide) ?_
              show Steps p.tables e below (T21.setTop (mkF m 244 #[.val (.int p1), .val (.int p2), .val (.int p3), .val (.int p4), .val (.int p5), .val (.int p6), .val (.ref b1), .val (.int sa), .val (.int en), .val (.int r9), .val (.int r10), .val (.ref b11), .val (.int r15), .val (.int r18), .val (.int r21), .val (.int (1 : Int32)), .val (.int (0 : Int32)), .val (.int (1 : Int32))] [(.int (1 : Int32))])) _
              exact retN X21 hx (t := .boolean) Bd.returns (by simp) (hb hby at_244) hr
            · exact ⟨rfl, N21⟩
      · have e_r1 : r15 = (1 : Int32) := by rw [hr15]; simp only [if_pos hc102_22, if_pos hc112_25, if_neg hc133_26]
        have e_w2 : w2_15 = (sa + (1 : Int32)) := by rw [p15_5]; simp only [if_pos hc102_22, if_pos hc112_25, if_neg hc133_26]
        have e_r2 : r18 = (0 : Int32) := by rw [hr18, e_w2]; simp only [if_pos hc102_22, if_pos hc112_25, if_neg hc133_26]
        have e_w3 : w2_18 = (sa + (1 : Int32)) := by rw [p18_5, e_w2]; simp only [if_pos hc102_22, if_pos hc112_25, if_neg hc133_26]
        refine GoalS.lift (B := (T21.setTop (mkF m 228 #[.val (.int p1), .val (.int p2), .val (.int p3), .val (.int p4), .val (.int p5), .val (.int p6), .val (.ref b1), .val (.int sa), .val (.int en), .val (.int r9), .val (.int r10), .val (.ref b11), .val (.int r15), .val (.int r18), .val (.int r21), .val (.int (1 : Int32)), .val (.int (0 : Int32)), .val (.int (1 : Int32))] [(.int en), (.int (sa + (1 : Int32))), (.int r21)]))) (fun t k => ?_) ?_
        · show Steps p.tables e below (T21.setTop (mkF m 133 #[.val (.int p1), .val (.int p2), .val (.int p3), .val (.int p4), .val (.int p5), .val (.int p6), .val (.ref b1), .val (.int sa), .val (.int en), .val (.int r9), .val (.int r10), .val (.ref b11), .val (.int r15), .val (.int r18), .val (.int r21), .val (.int (1 : Int32)), .unset, .unset] [(.int en), (.int (sa + (1 : Int32)))])) _
          refine XS.icmpYes X21.here hx rfl (pc0 := 133) (pc' := 152) rfl (hb hby at_133) rfl ((flt hc133_26).2.1) (by decide) (by decide) ?_
          show Steps p.tables e below (T21.setTop (mkF m 152 #[.val (.int p1), .val (.int p2), .val (.int p3), .val (.int p4), .val (.int p5), .val (.int p6), .val (.ref b1), .val (.int sa), .val (.int en), .val (.int r9), .val (.int r10), .val (.ref b11), .val (.int r15), .val (.int r18), .val (.int r21), .val (.int (1 : Int32)), .unset, .unset] [])) _
          refine XS.iconst X21.here hx rfl (hb hby at_152) ?_
          show Steps p.tables e below (T21.setTop (mkF m 153 #[.val (.int p1), .val (.int p2), .val (.int p3), .val (.int p4), .val (.int p5), .val (.int p6), .val (.ref b1), .val (.int sa), .val (.int en), .val (.int r9), .val (.int r10), .val (.ref b11), .val (.int r15), .val (.int r18), .val (.int r21), .val (.int (1 : Int32)), .unset, .unset] [(.int (0 : Int32))])) _
          refine XS.istore X21.here hx rfl (hb hby at_153) rfl (l' := #[.val (.int p1), .val (.int p2), .val (.int p3), .val (.int p4), .val (.int p5), .val (.int p6), .val (.ref b1), .val (.int sa), .val (.int en), .val (.int r9), .val (.int r10), .val (.ref b11), .val (.int r15), .val (.int r18), .val (.int r21), .val (.int (1 : Int32)), .val (.int (0 : Int32)), .unset]) rfl ?_
          show Steps p.tables e below (T21.setTop (mkF m 155 #[.val (.int p1), .val (.int p2), .val (.int p3), .val (.int p4), .val (.int p5), .val (.int p6), .val (.ref b1), .val (.int sa), .val (.int en), .val (.int r9), .val (.int r10), .val (.ref b11), .val (.int r15), .val (.int r18), .val (.int r21), .val (.int (1 : Int32)), .val (.int (0 : Int32)), .unset] [])) _
          refine XS.goto X21.here hx rfl (pc0 := 155) (pc' := 182) rfl (hb hby at_155) (by decide) (by decide) ?_
          show Steps p.tables e below (T21.setTop (mkF m 182 #[.val (.int p1), .val (.int p2), .val (.int p3), .val (.int p4), .val (.int p5), .val (.int p6), .val (.ref b1), .val (.int sa), .val (.int en), .val (.int r9), .val (.int r10), .val (.ref b11), .val (.int r15), .val (.int r18), .val (.int r21), .val (.int (1 : Int32)), .val (.int (0 : Int32)), .unset] [])) _
          refine XS.iload X21.here hx rfl (hb hby at_182) rfl ?_
          show Steps p.tables e below (T21.setTop (mkF m 184 #[.val (.int p1), .val (.int p2), .val (.int p3), .val (.int p4), .val (.int p5), .val (.int p6), .val (.ref b1), .val (.int sa), .val (.int en), .val (.int r9), .val (.int r10), .val (.ref b11), .val (.int r15), .val (.int r18), .val (.int r21), .val (.int (1 : Int32)), .val (.int (0 : Int32)), .unset] [(.int (1 : Int32))])) _
          refine XS.ifNo X21.here hx rfl (hb hby at_184) rfl ((if0 _ _).trans (feq (by decide : ¬ ((1 : Int32) = (0 : Int32)))).1) ?_
          show Steps p.tables e below (T21.setTop (mkF m 187 #[.val (.int p1), .val (.int p2), .val (.int p3), .val (.int p4), .val (.int p5), .val (.int p6), .val (.ref b1), .val (.int sa), .val (.int en), .val (.int r9), .val (.int r10), .val (.ref b11), .val (.int r15), .val (.int r18), .val (.int r21), .val (.int (1 : Int32)), .val (.int (0 : Int32)), .unset] [])) _
          refine XS.iconst X21.here hx rfl (hb hby at_187) ?_
          show Steps p.tables e below (T21.setTop (mkF m 188 #[.val (.int p1), .val (.int p2), .val (.int p3), .val (.int p4), .val (.int p5), .val (.int p6), .val (.ref b1), .val (.int sa), .val (.int en), .val (.int r9), .val (.int r10), .val (.ref b11), .val (.int r15), .val (.int r18), .val (.int r21), .val (.int (1 : Int32)), .val (.int (0 : Int32)), .unset] [(.int (1 : Int32))])) _
          refine XS.goto X21.here hx rfl (pc0 := 188) (pc' := 192) rfl (hb hby at_188) (by decide) (by decide) ?_
          show Steps p.tables e below (T21.setTop (mkF m 192 #[.val (.int p1), .val (.int p2), .val (.int p3), .val (.int p4), .val (.int p5), .val (.int p6), .val (.ref b1), .val (.int sa), .val (.int en), .val (.int r9), .val (.int r10), .val (.ref b11), .val (.int r15), .val (.int r18), .val (.int r21), .val (.int (1 : Int32)), .val (.int (0 : Int32)), .unset] [(.int (1 : Int32))])) _
          refine XS.iload X21.here hx rfl (hb hby at_192) rfl ?_
          show Steps p.tables e below (T21.setTop (mkF m 194 #[.val (.int p1), .val (.int p2), .val (.int p3), .val (.int p4), .val (.int p5), .val (.int p6), .val (.ref b1), .val (.int sa), .val (.int en), .val (.int r9), .val (.int r10), .val (.ref b11), .val (.int r15), .val (.int r18), .val (.int r21), .val (.int (1 : Int32)), .val (.int (0 : Int32)), .unset] [(.int (0 : Int32)), (.int (1 : Int32))])) _
          refine XS.ifYes X21.here hx rfl (pc0 := 194) (pc' := 201) rfl (hb hby at_194) rfl ((if0 _ _).trans (teq (by decide : (0 : Int32) = (0 : Int32))).1) (by decide) (by decide) ?_
          show Steps p.tables e below (T21.setTop (mkF m 201 #[.val (.int p1), .val (.int p2), .val (.int p3), .val (.int p4), .val (.int p5), .val (.int p6), .val (.ref b1), .val (.int sa), .val (.int en), .val (.int r9), .val (.int r10), .val (.ref b11), .val (.int r15), .val (.int r18), .val (.int r21), .val (.int (1 : Int32)), .val (.int (0 : Int32)), .unset] [(.int (1 : Int32))])) _
          refine XS.iconst X21.here hx rfl (hb hby at_201) ?_
          show Steps p.tables e below (T21.setTop (mkF m 202 #[.val (.int p1), .val (.int p2), .val (.int p3), .val (.int p4), .val (.int p5), .val (.int p6), .val (.ref b1), .val (.int sa), .val (.int en), .val (.int r9), .val (.int r10), .val (.ref b11), .val (.int r15), .val (.int r18), .val (.int r21), .val (.int (1 : Int32)), .val (.int (0 : Int32)), .unset] [(.int (0 : Int32)), (.int (1 : Int32))])) _
          refine XS.iadd X21.here hx rfl (hb hby at_202) rfl ?_
          show Steps p.tables e below (T21.setTop (mkF m 203 #[.val (.int p1), .val (.int p2), .val (.int p3), .val (.int p4), .val (.int p5), .val (.int p6), .val (.ref b1), .val (.int sa), .val (.int en), .val (.int r9), .val (.int r10), .val (.ref b11), .val (.int r15), .val (.int r18), .val (.int r21), .val (.int (1 : Int32)), .val (.int (0 : Int32)), .unset] [(.int (1 : Int32))])) _
          refine XS.istore X21.here hx rfl (hb hby at_203) rfl (l' := #[.val (.int p1), .val (.int p2), .val (.int p3), .val (.int p4), .val (.int p5), .val (.int p6), .val (.ref b1), .val (.int sa), .val (.int en), .val (.int r9), .val (.int r10), .val (.ref b11), .val (.int r15), .val (.int r18), .val (.int r21), .val (.int (1 : Int32)), .val (.int (0 : Int32)), .val (.int (1 : Int32))]) rfl ?_
          show Steps p.tables e below (T21.setTop (mkF m 205 #[.val (.int p1), .val (.int p2), .val (.int p3), .val (.int p4), .val (.int p5), .val (.int p6), .val (.ref b1), .val (.int sa), .val (.int en), .val (.int r9), .val (.int r10), .val (.ref b11), .val (.int r15), .val (.int r18), .val (.int r21), .val (.int (1 : Int32)), .val (.int (0 : Int32)), .val (.int (1 : Int32))] [])) _
          refine XS.iload X21.here hx rfl (hb hby at_205) rfl ?_
          show Steps p.tables e below (T21.setTop (mkF m 207 #[.val (.int p1), .val (.int p2), .val (.int p3), .val (.int p4), .val (.int p5), .val (.int p6), .val (.ref b1), .val (.int sa), .val (.int en), .val (.int r9), .val (.int r10), .val (.ref b11), .val (.int r15), .val (.int r18), .val (.int r21), .val (.int (1 : Int32)), .val (.int (0 : Int32)), .val (.int (1 : Int32))] [(.int r15)])) _
          refine XS.iload X21.here hx rfl (hb hby at_207) rfl ?_
          show Steps p.tables e below (T21.setTop (mkF m 209 #[.val (.int p1), .val (.int p2), .val (.int p3), .val (.int p4), .val (.int p5), .val (.int p6), .val (.ref b1), .val (.int sa), .val (.int en), .val (.int r9), .val (.int r10), .val (.ref b11), .val (.int r15), .val (.int r18), .val (.int r21), .val (.int (1 : Int32)), .val (.int (0 : Int32)), .val (.int (1 : Int32))] [(.int (1 : Int32)), (.int r15)])) _
          refine XS.icmpNo X21.here hx rfl (hb hby at_209) rfl ((teq (e_r1 : r15 = (1 : Int32))).2) ?_
          show Steps p.tables e below (T21.setTop (mkF m 212 #[.val (.int p1), .val (.int p2), .val (.int p3), .val (.int p4), .val (.int p5), .val (.int p6), .val (.ref b1), .val (.int sa), .val (.int en), .val (.int r9), .val (.int r10), .val (.ref b11), .val (.int r15), .val (.int r18), .val (.int r21), .val (.int (1 : Int32)), .val (.int (0 : Int32)), .val (.int (1 : Int32))] [])) _
          refine XS.iload X21.here hx rfl (hb hby at_212) rfl ?_
          show Steps p.tables e below (T21.setTop (mkF m 214 #[.val (.int p1), .val (.int p2), .val (.int p3), .val (.int p4), .val (.int p5), .val (.int p6), .val (.ref b1), .val (.int sa), .val (.int en), .val (.int r9), .val (.int r10), .val (.ref b11), .val (.int r15), .val (.int r18), .val (.int r21), .val (.int (1 : Int32)), .val (.int (0 : Int32)), .val (.int (1 : Int32))] [(.int r18)])) _
          refine XS.iload X21.here hx rfl (hb hby at_214) rfl ?_
          show Steps p.tables e below (T21.setTop (mkF m 216 #[.val (.int p1), .val (.int p2), .val (.int p3), .val (.int p4), .val (.int p5), .val (.int p6), .val (.ref b1), .val (.int sa), .val (.int en), .val (.int r9), .val (.int r10), .val (.ref b11), .val (.int r15), .val (.int r18), .val (.int r21), .val (.int (1 : Int32)), .val (.int (0 : Int32)), .val (.int (1 : Int32))] [(.int (0 : Int32)), (.int r18)])) _
          refine XS.icmpNo X21.here hx rfl (hb hby at_216) rfl ((teq (e_r2 : r18 = (0 : Int32))).2) ?_
          show Steps p.tables e below (T21.setTop (mkF m 219 #[.val (.int p1), .val (.int p2), .val (.int p3), .val (.int p4), .val (.int p5), .val (.int p6), .val (.ref b1), .val (.int sa), .val (.int en), .val (.int r9), .val (.int r10), .val (.ref b11), .val (.int r15), .val (.int r18), .val (.int r21), .val (.int (1 : Int32)), .val (.int (0 : Int32)), .val (.int (1 : Int32))] [])) _
          refine XS.iload X21.here hx rfl (hb hby at_219) rfl ?_
          show Steps p.tables e below (T21.setTop (mkF m 221 #[.val (.int p1), .val (.int p2), .val (.int p3), .val (.int p4), .val (.int p5), .val (.int p6), .val (.ref b1), .val (.int sa), .val (.int en), .val (.int r9), .val (.int r10), .val (.ref b11), .val (.int r15), .val (.int r18), .val (.int r21), .val (.int (1 : Int32)), .val (.int (0 : Int32)), .val (.int (1 : Int32))] [(.int r21)])) _
          refine XS.iload X21.here hx rfl (hb hby at_221) rfl ?_
          show Steps p.tables e below (T21.setTop (mkF m 223 #[.val (.int p1), .val (.int p2), .val (.int p3), .val (.int p4), .val (.int p5), .val (.int p6), .val (.ref b1), .val (.int sa), .val (.int en), .val (.int r9), .val (.int r10), .val (.ref b11), .val (.int r15), .val (.int r18), .val (.int r21), .val (.int (1 : Int32)), .val (.int (0 : Int32)), .val (.int (1 : Int32))] [(.int sa), (.int r21)])) _
          refine XS.iload X21.here hx rfl (hb hby at_223) rfl ?_
          show Steps p.tables e below (T21.setTop (mkF m 225 #[.val (.int p1), .val (.int p2), .val (.int p3), .val (.int p4), .val (.int p5), .val (.int p6), .val (.ref b1), .val (.int sa), .val (.int en), .val (.int r9), .val (.int r10), .val (.ref b11), .val (.int r15), .val (.int r18), .val (.int r21), .val (.int (1 : Int32)), .val (.int (0 : Int32)), .val (.int (1 : Int32))] [(.int (1 : Int32)), (.int sa), (.int r21)])) _
          refine XS.iadd X21.here hx rfl (hb hby at_225) rfl ?_
          show Steps p.tables e below (T21.setTop (mkF m 226 #[.val (.int p1), .val (.int p2), .val (.int p3), .val (.int p4), .val (.int p5), .val (.int p6), .val (.ref b1), .val (.int sa), .val (.int en), .val (.int r9), .val (.int r10), .val (.ref b11), .val (.int r15), .val (.int r18), .val (.int r21), .val (.int (1 : Int32)), .val (.int (0 : Int32)), .val (.int (1 : Int32))] [(.int (sa + (1 : Int32))), (.int r21)])) _
          refine XS.iload X21.here hx rfl (hb hby at_226) rfl ?_
          show Steps p.tables e below (T21.setTop (mkF m 228 #[.val (.int p1), .val (.int p2), .val (.int p3), .val (.int p4), .val (.int p5), .val (.int p6), .val (.ref b1), .val (.int sa), .val (.int en), .val (.int r9), .val (.int r10), .val (.ref b11), .val (.int r15), .val (.int r18), .val (.int r21), .val (.int (1 : Int32)), .val (.int (0 : Int32)), .val (.int (1 : Int32))] [(.int en), (.int (sa + (1 : Int32))), (.int r21)])) _
          exact k
        by_cases hc228_31 : (sa + (1 : Int32)) = en
        · obtain ⟨fs, hr, hrun, hended, hW, hsame⟩ := X21.leave (v := some (.int (1 : Int32))) (fun h => by rw [Bd.returns] at h; cases h)
          refine ⟨_, _, ?_, hrun, hended, _, _, rfl, ?_, ⟨_, rfl⟩, hW, hsame.mono (by decide) (by decide)⟩
          · show Steps p.tables e below (T21.setTop (mkF m 228 #[.val (.int p1), .val (.int p2), .val (.int p3), .val (.int p4), .val (.int p5), .val (.int p6), .val (.ref b1), .val (.int sa), .val (.int en), .val (.int r9), .val (.int r10), .val (.ref b11), .val (.int r15), .val (.int r18), .val (.int r21), .val (.int (1 : Int32)), .val (.int (0 : Int32)), .val (.int (1 : Int32))] [(.int en), (.int (sa + (1 : Int32))), (.int r21)])) _
            refine XS.icmpNo X21.here hx rfl (hb hby at_228) rfl ((teq hc228_31).2) ?_
            show Steps p.tables e below (T21.setTop (mkF m 231 #[.val (.int p1), .val (.int p2), .val (.int p3), .val (.int p4), .val (.int p5), .val (.int p6), .val (.ref b1), .val (.int sa), .val (.int en), .val (.int r9), .val (.int r10), .val (.ref b11), .val (.int r15), .val (.int r18), .val (.int r21), .val (.int (1 : Int32)), .val (.int (0 : Int32)), .val (.int (1 : Int32))] [(.int r21)])) _
            refine XS.iconst X21.here hx rfl (hb hby at_231) ?_
            show Steps p.tables e below (T21.setTop (mkF m 232 #[.val (.int p1), .val (.int p2), .val (.int p3), .val (.int p4), .val (.int p5), .val (.int p6), .val (.ref b1), .val (.int sa), .val (.int en), .val (.int r9), .val (.int r10), .val (.ref b11), .val (.int r15), .val (.int r18), .val (.int r21), .val (.int (1 : Int32)), .val (.int (0 : Int32)), .val (.int (1 : Int32))] [(.int (1 : Int32)), (.int r21)])) _
            refine XS.goto X21.here hx rfl (pc0 := 232) (pc' := 236) rfl (hb hby at_232) (by decide) (by decide) ?_
            show Steps p.tables e below (T21.setTop (mkF m 236 #[.val (.int p1), .val (.int p2), .val (.int p3), .val (.int p4), .val (.int p5), .val (.int p6), .val (.ref b1), .val (.int sa), .val (.int en), .val (.int r9), .val (.int r10), .val (.ref b11), .val (.int r15), .val (.int r18), .val (.int r21), .val (.int (1 : Int32)), .val (.int (0 : Int32)), .val (.int (1 : Int32))] [(.int (1 : Int32)), (.int r21)])) _
            refine XS.icmpNo X21.here hx rfl (hb hby at_236) rfl ((teq (by rw [hr21, e_w3, if_pos hc228_31] : r21 = (1 : Int32))).2) ?_
            show Steps p.tables e below (T21.setTop (mkF m 239 #[.val (.int p1), .val (.int p2), .val (.int p3), .val (.int p4), .val (.int p5), .val (.int p6), .val (.ref b1), .val (.int sa), .val (.int en), .val (.int r9), .val (.int r10), .val (.ref b11), .val (.int r15), .val (.int r18), .val (.int r21), .val (.int (1 : Int32)), .val (.int (0 : Int32)), .val (.int (1 : Int32))] [])) _
            refine XS.iconst X21.here hx rfl (hb hby at_239) ?_
            show Steps p.tables e below (T21.setTop (mkF m 240 #[.val (.int p1), .val (.int p2), .val (.int p3), .val (.int p4), .val (.int p5), .val (.int p6), .val (.ref b1), .val (.int sa), .val (.int en), .val (.int r9), .val (.int r10), .val (.ref b11), .val (.int r15), .val (.int r18), .val (.int r21), .val (.int (1 : Int32)), .val (.int (0 : Int32)), .val (.int (1 : Int32))] [(.int (1 : Int32))])) _
            refine XS.goto X21.here hx rfl (pc0 := 240) (pc' := 244) rfl (hb hby at_240) (by decide) (by decide) ?_
            show Steps p.tables e below (T21.setTop (mkF m 244 #[.val (.int p1), .val (.int p2), .val (.int p3), .val (.int p4), .val (.int p5), .val (.int p6), .val (.ref b1), .val (.int sa), .val (.int en), .val (.int r9), .val (.int r10), .val (.ref b11), .val (.int r15), .val (.int r18), .val (.int r21), .val (.int (1 : Int32)), .val (.int (0 : Int32)), .val (.int (1 : Int32))] [(.int (1 : Int32))])) _
            exact retN X21 hx (t := .boolean) Bd.returns (by simp) (hb hby at_244) hr
          · exact ⟨rfl, N21⟩
        · obtain ⟨fs, hr, hrun, hended, hW, hsame⟩ := X21.leave (v := some (.int (1 : Int32))) (fun h => by rw [Bd.returns] at h; cases h)
          refine ⟨_, _, ?_, hrun, hended, _, _, rfl, ?_, ⟨_, rfl⟩, hW, hsame.mono (by decide) (by decide)⟩
          · show Steps p.tables e below (T21.setTop (mkF m 228 #[.val (.int p1), .val (.int p2), .val (.int p3), .val (.int p4), .val (.int p5), .val (.int p6), .val (.ref b1), .val (.int sa), .val (.int en), .val (.int r9), .val (.int r10), .val (.ref b11), .val (.int r15), .val (.int r18), .val (.int r21), .val (.int (1 : Int32)), .val (.int (0 : Int32)), .val (.int (1 : Int32))] [(.int en), (.int (sa + (1 : Int32))), (.int r21)])) _
            refine XS.icmpYes X21.here hx rfl (pc0 := 228) (pc' := 235) rfl (hb hby at_228) rfl ((feq hc228_31).2) (by decide) (by decide) ?_
            show Steps p.tables e below (T21.setTop (mkF m 235 #[.val (.int p1), .val (.int p2), .val (.int p3), .val (.int p4), .val (.int p5), .val (.int p6), .val (.ref b1), .val (.int sa), .val (.int en), .val (.int r9), .val (.int r10), .val (.ref b11), .val (.int r15), .val (.int r18), .val (.int r21), .val (.int (1 : Int32)), .val (.int (0 : Int32)), .val (.int (1 : Int32))] [(.int r21)])) _
            refine XS.iconst X21.here hx rfl (hb hby at_235) ?_
            show Steps p.tables e below (T21.setTop (mkF m 236 #[.val (.int p1), .val (.int p2), .val (.int p3), .val (.int p4), .val (.int p5), .val (.int p6), .val (.ref b1), .val (.int sa), .val (.int en), .val (.int r9), .val (.int r10), .val (.ref b11), .val (.int r15), .val (.int r18), .val (.int r21), .val (.int (1 : Int32)), .val (.int (0 : Int32)), .val (.int (1 : Int32))] [(.int (0 : Int32)), (.int r21)])) _
            refine XS.icmpNo X21.here hx rfl (hb hby at_236) rfl ((teq (by rw [hr21, e_w3, if_neg hc228_31] : r21 = (0 : Int32))).2) ?_
            show Steps p.tables e below (T21.setTop (mkF m 239 #[.val (.int p1), .val (.int p2), .val (.int p3), .val (.int p4), .val (.int p5), .val (.int p6), .val (.ref b1), .val (.int sa), .val (.int en), .val (.int r9), .val (.int r10), .val (.ref b11), .val (.int r15), .val (.int r18), .val (.int r21), .val (.int (1 : Int32)), .val (.int (0 : Int32)), .val (.int (1 : Int32))] [])) _
            refine XS.iconst X21.here hx rfl (hb hby at_239) ?_
            show Steps p.tables e below (T21.setTop (mkF m 240 #[.val (.int p1), .val (.int p2), .val (.int p3), .val (.int p4), .val (.int p5), .val (.int p6), .val (.ref b1), .val (.int sa), .val (.int en), .val (.int r9), .val (.int r10), .val (.ref b11), .val (.int r15), .val (.int r18), .val (.int r21), .val (.int (1 : Int32)), .val (.int (0 : Int32)), .val (.int (1 : Int32))] [(.int (1 : Int32))])) _
            refine XS.goto X21.here hx rfl (pc0 := 240) (pc' := 244) rfl (hb hby at_240) (by decide) (by decide) ?_
            show Steps p.tables e below (T21.setTop (mkF m 244 #[.val (.int p1), .val (.int p2), .val (.int p3), .val (.int p4), .val (.int p5), .val (.int p6), .val (.ref b1), .val (.int sa), .val (.int en), .val (.int r9), .val (.int r10), .val (.ref b11), .val (.int r15), .val (.int r18), .val (.int r21), .val (.int (1 : Int32)), .val (.int (0 : Int32)), .val (.int (1 : Int32))] [(.int (1 : Int32))])) _
            exact retN X21 hx (t := .boolean) Bd.returns (by simp) (hb hby at_244) hr
          · exact ⟨rfl, N21⟩
    · obtain ⟨cl32, Ar32, kc32, sz32, -, hv32⟩ := id f24
      have hin32 : ¬ (sa < 0 ∨ cl32.slots.size ≤ (sa).toNatClampNeg) := AV.inb sz32 (own_inb hsa2.1 hc102_22 hen2.2)
      have hat32 : cl32.slots[(sa).toNatClampNeg]? = some (.int (fn7 (sa).toNatClampNeg)) := (hv32 _ (AV.inx (own_inb hsa2.1 hc102_22 hen2.2))).trans (congrArg some rfl)
      refine GoalS.lift (B := (T21.setTop (mkF m 172 #[.val (.int p1), .val (.int p2), .val (.int p3), .val (.int p4), .val (.int p5), .val (.int p6), .val (.ref b1), .val (.int sa), .val (.int en), .val (.int r9), .val (.int r10), .val (.ref b11), .val (.int r15), .val (.int r18), .val (.int r21), .val (.int (0 : Int32)), .unset, .unset] [(.int r10), (.int (fn7 (sa).toNatClampNeg))]))) (fun t k => ?_) ?_
      · show Steps p.tables e below (T21.setTop (mkF m 112 #[.val (.int p1), .val (.int p2), .val (.int p3), .val (.int p4), .val (.int p5), .val (.int p6), .val (.ref b1), .val (.int sa), .val (.int en), .val (.int r9), .val (.int r10), .val (.ref b11), .val (.int r15), .val (.int r18), .val (.int r21), .unset, .unset, .unset] [(.int r9), (.int (fn7 (sa).toNatClampNeg))])) _
        refine XS.icmpYes X21.here hx rfl (pc0 := 112) (pc' := 119) rfl (hb hby at_112) rfl ((feq hc112_25).2) (by decide) (by decide) ?_
        show Steps p.tables e below (T21.setTop (mkF m 119 #[.val (.int p1), .val (.int p2), .val (.int p3), .val (.int p4), .val (.int p5), .val (.int p6), .val (.ref b1), .val (.int sa), .val (.int en), .val (.int r9), .val (.int r10), .val (.ref b11), .val (.int r15), .val (.int r18), .val (.int r21), .unset, .unset, .unset] [])) _
        refine XS.iconst X21.here hx rfl (hb hby at_119) ?_
        show Steps p.tables e below (T21.setTop (mkF m 120 #[.val (.int p1), .val (.int p2), .val (.int p3), .val (.int p4), .val (.int p5), .val (.int p6), .val (.ref b1), .val (.int sa), .val (.int en), .val (.int r9), .val (.int r10), .val (.ref b11), .val (.int r15), .val (.int r18), .val (.int r21), .unset, .unset, .unset] [(.int (0 : Int32))])) _
        refine XS.istore X21.here hx rfl (hb hby at_120) rfl (l' := #[.val (.int p1), .val (.int p2), .val (.int p3), .val (.int p4), .val (.int p5), .val (.int p6), .val (.ref b1), .val (.int sa), .val (.int en), .val (.int r9), .val (.int r10), .val (.ref b11), .val (.int r15), .val (.int r18), .val (.int r21), .val (.int (0 : Int32)), .unset, .unset]) rfl ?_
        show Steps p.tables e below (T21.setTop (mkF m 122 #[.val (.int p1), .val (.int p2), .val (.int p3), .val (.int p4), .val (.int p5), .val (.int p6), .val (.ref b1), .val (.int sa), .val (.int en), .val (.int r9), .val (.int r10), .val (.ref b11), .val (.int r15), .val (.int r18), .val (.int r21), .val (.int (0 : Int32)), .unset, .unset] [])) _
        refine XS.iload X21.here hx rfl (hb hby at_122) rfl ?_
        show Steps p.tables e below (T21.setTop (mkF m 124 #[.val (.int p1), .val (.int p2), .val (.int p3), .val (.int p4), .val (.int p5), .val (.int p6), .val (.ref b1), .val (.int sa), .val (.int en), .val (.int r9), .val (.int r10), .val (.ref b11), .val (.int r15), .val (.int r18), .val (.int r21), .val (.int (0 : Int32)), .unset, .unset] [(.int (0 : Int32))])) _
        refine XS.ifYes X21.here hx rfl (pc0 := 124) (pc' := 158) rfl (hb hby at_124) rfl ((if0 _ _).trans (teq (by decide : (0 : Int32) = (0 : Int32))).1) (by decide) (by decide) ?_
        show Steps p.tables e below (T21.setTop (mkF m 158 #[.val (.int p1), .val (.int p2), .val (.int p3), .val (.int p4), .val (.int p5), .val (.int p6), .val (.ref b1), .val (.int sa), .val (.int en), .val (.int r9), .val (.int r10), .val (.ref b11), .val (.int r15), .val (.int r18), .val (.int r21), .val (.int (0 : Int32)), .unset, .unset] [])) _
        refine XS.iload X21.here hx rfl (hb hby at_158) rfl ?_
        show Steps p.tables e below (T21.setTop (mkF m 160 #[.val (.int p1), .val (.int p2), .val (.int p3), .val (.int p4), .val (.int p5), .val (.int p6), .val (.ref b1), .val (.int sa), .val (.int en), .val (.int r9), .val (.int r10), .val (.ref b11), .val (.int r15), .val (.int r18), .val (.int r21), .val (.int (0 : Int32)), .unset, .unset] [(.int sa)])) _
        refine XS.iload X21.here hx rfl (hb hby at_160) rfl ?_
        show Steps p.tables e below (T21.setTop (mkF m 162 #[.val (.int p1), .val (.int p2), .val (.int p3), .val (.int p4), .val (.int p5), .val (.int p6), .val (.ref b1), .val (.int sa), .val (.int en), .val (.int r9), .val (.int r10), .val (.ref b11), .val (.int r15), .val (.int r18), .val (.int r21), .val (.int (0 : Int32)), .unset, .unset] [(.int en), (.int sa)])) _
        refine XS.icmpNo X21.here hx rfl (hb hby at_162) rfl ((tlt hc102_22).2.1) ?_
        show Steps p.tables e below (T21.setTop (mkF m 165 #[.val (.int p1), .val (.int p2), .val (.int p3), .val (.int p4), .val (.int p5), .val (.int p6), .val (.ref b1), .val (.int sa), .val (.int en), .val (.int r9), .val (.int r10), .val (.ref b11), .val (.int r15), .val (.int r18), .val (.int r21), .val (.int (0 : Int32)), .unset, .unset] [])) _
        refine XS.aload X21.here hx rfl (hb hby at_165) rfl rfl ?_
        show Steps p.tables e below (T21.setTop (mkF m 167 #[.val (.int p1), .val (.int p2), .val (.int p3), .val (.int p4), .val (.int p5), .val (.int p6), .val (.ref b1), .val (.int sa), .val (.int en), .val (.int r9), .val (.int r10), .val (.ref b11), .val (.int r15), .val (.int r18), .val (.int r21), .val (.int (0 : Int32)), .unset, .unset] [(.ref b1)])) _
        refine XS.iload X21.here hx rfl (hb hby at_167) rfl ?_
        show Steps p.tables e below (T21.setTop (mkF m 169 #[.val (.int p1), .val (.int p2), .val (.int p3), .val (.int p4), .val (.int p5), .val (.int p6), .val (.ref b1), .val (.int sa), .val (.int en), .val (.int r9), .val (.int r10), .val (.ref b11), .val (.int r15), .val (.int r18), .val (.int r21), .val (.int (0 : Int32)), .unset, .unset] [(.int sa), (.ref b1)])) _
        refine X21.caload hx (j := sa) (v := (.int (fn7 (sa).toNatClampNeg))) (by rw [eq21]; exact Ar32.1) (State.isArrayOf_alike hZ.alike Ar32.2.1) Ar32.2.2 hin32 hat32 (g := (mkF m 169 #[.val (.int p1), .val (.int p2), .val (.int p3), .val (.int p4), .val (.int p5), .val (.int p6), .val (.ref b1), .val (.int sa), .val (.int en), .val (.int r9), .val (.int r10), .val (.ref b11), .val (.int r15), .val (.int r18), .val (.int r21), .val (.int (0 : Int32)), .unset, .unset] [(.int sa), (.ref b1)])) rfl rfl (hb hby at_169) _ ?_
        show Steps p.tables e below (T21.setTop (mkF m 170 #[.val (.int p1), .val (.int p2), .val (.int p3), .val (.int p4), .val (.int p5), .val (.int p6), .val (.ref b1), .val (.int sa), .val (.int en), .val (.int r9), .val (.int r10), .val (.ref b11), .val (.int r15), .val (.int r18), .val (.int r21), .val (.int (0 : Int32)), .unset, .unset] [(.int (fn7 (sa).toNatClampNeg))])) _
        refine XS.iload X21.here hx rfl (hb hby at_170) rfl ?_
        show Steps p.tables e below (T21.setTop (mkF m 172 #[.val (.int p1), .val (.int p2), .val (.int p3), .val (.int p4), .val (.int p5), .val (.int p6), .val (.ref b1), .val (.int sa), .val (.int en), .val (.int r9), .val (.int r10), .val (.ref b11), .val (.int r15), .val (.int r18), .val (.int r21), .val (.int (0 : Int32)), .unset, .unset] [(.int r10), (.int (fn7 (sa).toNatClampNeg))])) _
        exact k
      by_cases hc172_33 : (fn7 (sa).toNatClampNeg) = r10
      · have e_r1 : r15 = (0 : Int32) := by rw [hr15]; simp only [if_pos hc102_22, if_neg hc112_25, if_pos hc172_33]
        have e_w2 : w2_15 = sa := by rw [p15_5]; simp only [if_pos hc102_22, if_neg hc112_25, if_pos hc172_33]
        have e_r2 : r18 = (1 : Int32) := by rw [hr18, e_w2]; simp only [if_pos hc102_22, if_neg hc112_25, if_pos hc172_33]
        have e_w3 : w2_18 = (sa + (1 : Int32)) := by rw [p18_5, e_w2]; simp only [if_pos hc102_22, if_neg hc112_25, if_pos hc172_33]
        refine GoalS.lift (B := (T21.setTop (mkF m 228 #[.val (.int p1), .val (.int p2), .val (.int p3), .val (.int p4), .val (.int p5), .val (.int p6), .val (.ref b1), .val (.int sa), .val (.int en), .val (.int r9), .val (.int r10), .val (.ref b11), .val (.int r15), .val (.int r18), .val (.int r21), .val (.int (0 : Int32)), .val (.int (1 : Int32)), .val (.int (1 : Int32))] [(.int en), (.int (sa + (1 : Int32))), (.int r21)]))) (fun t k => ?_) ?_
        · show Steps p.tables e below (T21.setTop (mkF m 172 #[.val (.int p1), .val (.int p2), .val (.int p3), .val (.int p4), .val (.int p5), .val (.int p6), .val (.ref b1), .val (.int sa), .val (.int en), .val (.int r9), .val (.int r10), .val (.ref b11), .val (.int r15), .val (.int r18), .val (.int r21), .val (.int (0 : Int32)), .unset, .unset] [(.int r10), (.int (fn7 (sa).toNatClampNeg))])) _
          refine XS.icmpNo X21.here hx rfl (hb hby at_172) rfl ((teq hc172_33).2) ?_
          show Steps p.tables e below (T21.setTop (mkF m 175 #[.val (.int p1), .val (.int p2), .val (.int p3), .val (.int p4), .val (.int p5), .val (.int p6), .val (.ref b1), .val (.int sa), .val (.int en), .val (.int r9), .val (.int r10), .val (.ref b11), .val (.int r15), .val (.int r18), .val (.int r21), .val (.int (0 : Int32)), .unset, .unset] [])) _
          refine XS.iconst X21.here hx rfl (hb hby at_175) ?_
          show Steps p.tables e below (T21.setTop (mkF m 176 #[.val (.int p1), .val (.int p2), .val (.int p3), .val (.int p4), .val (.int p5), .val (.int p6), .val (.ref b1), .val (.int sa), .val (.int en), .val (.int r9), .val (.int r10), .val (.ref b11), .val (.int r15), .val (.int r18), .val (.int r21), .val (.int (0 : Int32)), .unset, .unset] [(.int (1 : Int32))])) _
          refine XS.goto X21.here hx rfl (pc0 := 176) (pc' := 180) rfl (hb hby at_176) (by decide) (by decide) ?_
          show Steps p.tables e below (T21.setTop (mkF m 180 #[.val (.int p1), .val (.int p2), .val (.int p3), .val (.int p4), .val (.int p5), .val (.int p6), .val (.ref b1), .val (.int sa), .val (.int en), .val (.int r9), .val (.int r10), .val (.ref b11), .val (.int r15), .val (.int r18), .val (.int r21), .val (.int (0 : Int32)), .unset, .unset] [(.int (1 : Int32))])) _
          refine XS.istore X21.here hx rfl (hb hby at_180) rfl (l' := #[.val (.int p1), .val (.int p2), .val (.int p3), .val (.int p4), .val (.int p5), .val (.int p6), .val (.ref b1), .val (.int sa), .val (.int en), .val (.int r9), .val (.int r10), .val (.ref b11), .val (.int r15), .val (.int r18), .val (.int r21), .val (.int (0 : Int32)), .val (.int (1 : Int32)), .unset]) rfl ?_
          show Steps p.tables e below (T21.setTop (mkF m 182 #[.val (.int p1), .val (.int p2), .val (.int p3), .val (.int p4), .val (.int p5), .val (.int p6), .val (.ref b1), .val (.int sa), .val (.int en), .val (.int r9), .val (.int r10), .val (.ref b11), .val (.int r15), .val (.int r18), .val (.int r21), .val (.int (0 : Int32)), .val (.int (1 : Int32)), .unset] [])) _
          refine XS.iload X21.here hx rfl (hb hby at_182) rfl ?_
          show Steps p.tables e below (T21.setTop (mkF m 184 #[.val (.int p1), .val (.int p2), .val (.int p3), .val (.int p4), .val (.int p5), .val (.int p6), .val (.ref b1), .val (.int sa), .val (.int en), .val (.int r9), .val (.int r10), .val (.ref b11), .val (.int r15), .val (.int r18), .val (.int r21), .val (.int (0 : Int32)), .val (.int (1 : Int32)), .unset] [(.int (0 : Int32))])) _
          refine XS.ifYes X21.here hx rfl (pc0 := 184) (pc' := 191) rfl (hb hby at_184) rfl ((if0 _ _).trans (teq (by decide : (0 : Int32) = (0 : Int32))).1) (by decide) (by decide) ?_
          show Steps p.tables e below (T21.setTop (mkF m 191 #[.val (.int p1), .val (.int p2), .val (.int p3), .val (.int p4), .val (.int p5), .val (.int p6), .val (.ref b1), .val (.int sa), .val (.int en), .val (.int r9), .val (.int r10), .val (.ref b11), .val (.int r15), .val (.int r18), .val (.int r21), .val (.int (0 : Int32)), .val (.int (1 : Int32)), .unset] [])) _
          refine XS.iconst X21.here hx rfl (hb hby at_191) ?_
          show Steps p.tables e below (T21.setTop (mkF m 192 #[.val (.int p1), .val (.int p2), .val (.int p3), .val (.int p4), .val (.int p5), .val (.int p6), .val (.ref b1), .val (.int sa), .val (.int en), .val (.int r9), .val (.int r10), .val (.ref b11), .val (.int r15), .val (.int r18), .val (.int r21), .val (.int (0 : Int32)), .val (.int (1 : Int32)), .unset] [(.int (0 : Int32))])) _
          refine XS.iload X21.here hx rfl (hb hby at_192) rfl ?_
          show Steps p.tables e below (T21.setTop (mkF m 194 #[.val (.int p1), .val (.int p2), .val (.int p3), .val (.int p4), .val (.int p5), .val (.int p6), .val (.ref b1), .val (.int sa), .val (.int en), .val (.int r9), .val (.int r10), .val (.ref b11), .val (.int r15), .val (.int r18), .val (.int r21), .val (.int (0 : Int32)), .val (.int (1 : Int32)), .unset] [(.int (1 : Int32)), (.int (0 : Int32))])) _
          refine XS.ifNo X21.here hx rfl (hb hby at_194) rfl ((if0 _ _).trans (feq (by decide : ¬ ((1 : Int32) = (0 : Int32)))).1) ?_
          show Steps p.tables e below (T21.setTop (mkF m 197 #[.val (.int p1), .val (.int p2), .val (.int p3), .val (.int p4), .val (.int p5), .val (.int p6), .val (.ref b1), .val (.int sa), .val (.int en), .val (.int r9), .val (.int r10), .val (.ref b11), .val (.int r15), .val (.int r18), .val (.int r21), .val (.int (0 : Int32)), .val (.int (1 : Int32)), .unset] [(.int (0 : Int32))])) _
          refine XS.iconst X21.here hx rfl (hb hby at_197) ?_
          show Steps p.tables e below (T21.setTop (mkF m 198 #[.val (.int p1), .val (.int p2), .val (.int p3), .val (.int p4), .val (.int p5), .val (.int p6), .val (.ref b1), .val (.int sa), .val (.int en), .val (.int r9), .val (.int r10), .val (.ref b11), .val (.int r15), .val (.int r18), .val (.int r21), .val (.int (0 : Int32)), .val (.int (1 : Int32)), .unset] [(.int (1 : Int32)), (.int (0 : Int32))])) _
          refine XS.goto X21.here hx rfl (pc0 := 198) (pc' := 202) rfl (hb hby at_198) (by decide) (by decide) ?_
          show Steps p.tables e below (T21.setTop (mkF m 202 #[.val (.int p1), .val (.int p2), .val (.int p3), .val (.int p4), .val (.int p5), .val (.int p6), .val (.ref b1), .val (.int sa), .val (.int en), .val (.int r9), .val (.int r10), .val (.ref b11), .val (.int r15), .val (.int r18), .val (.int r21), .val (.int (0 : Int32)), .val (.int (1 : Int32)), .unset] [(.int (1 : Int32)), (.int (0 : Int32))])) _
          refine XS.iadd X21.here hx rfl (hb hby at_202) rfl ?_
          show Steps p.tables e below (T21.setTop (mkF m 203 #[.val (.int p1), .val (.int p2), .val (.int p3), .val (.int p4), .val (.int p5), .val (.int p6), .val (.ref b1), .val (.int sa), .val (.int en), .val (.int r9), .val (.int r10), .val (.ref b11), .val (.int r15), .val (.int r18), .val (.int r21), .val (.int (0 : Int32)), .val (.int (1 : Int32)), .unset] [(.int (1 : Int32))])) _
          refine XS.istore X21.here hx rfl (hb hby at_203) rfl (l' := #[.val (.int p1), .val (.int p2), .val (.int p3), .val (.int p4), .val (.int p5), .val (.int p6), .val (.ref b1), .val (.int sa), .val (.int en), .val (.int r9), .val (.int r10), .val (.ref b11), .val (.int r15), .val (.int r18), .val (.int r21), .val (.int (0 : Int32)), .val (.int (1 : Int32)), .val (.int (1 : Int32))]) rfl ?_
          show Steps p.tables e below (T21.setTop (mkF m 205 #[.val (.int p1), .val (.int p2), .val (.int p3), .val (.int p4), .val (.int p5), .val (.int p6), .val (.ref b1), .val (.int sa), .val (.int en), .val (.int r9), .val (.int r10), .val (.ref b11), .val (.int r15), .val (.int r18), .val (.int r21), .val (.int (0 : Int32)), .val (.int (1 : Int32)), .val (.int (1 : Int32))] [])) _
          refine XS.iload X21.here hx rfl (hb hby at_205) rfl ?_
          show Steps p.tables e below (T21.setTop (mkF m 207 #[.val (.int p1), .val (.int p2), .val (.int p3), .val (.int p4), .val (.int p5), .val (.int p6), .val (.ref b1), .val (.int sa), .val (.int en), .val (.int r9), .val (.int r10), .val (.ref b11), .val (.int r15), .val (.int r18), .val (.int r21), .val (.int (0 : Int32)), .val (.int (1 : Int32)), .val (.int (1 : Int32))] [(.int r15)])) _
          refine XS.iload X21.here hx rfl (hb hby at_207) rfl ?_
          show Steps p.tables e below (T21.setTop (mkF m 209 #[.val (.int p1), .val (.int p2), .val (.int p3), .val (.int p4), .val (.int p5), .val (.int p6), .val (.ref b1), .val (.int sa), .val (.int en), .val (.int r9), .val (.int r10), .val (.ref b11), .val (.int r15), .val (.int r18), .val (.int r21), .val (.int (0 : Int32)), .val (.int (1 : Int32)), .val (.int (1 : Int32))] [(.int (0 : Int32)), (.int r15)])) _
          refine XS.icmpNo X21.here hx rfl (hb hby at_209) rfl ((teq (e_r1 : r15 = (0 : Int32))).2) ?_
          show Steps p.tables e below (T21.setTop (mkF m 212 #[.val (.int p1), .val (.int p2), .val (.int p3), .val (.int p4), .val (.int p5), .val (.int p6), .val (.ref b1), .val (.int sa), .val (.int en), .val (.int r9), .val (.int r10), .val (.ref b11), .val (.int r15), .val (.int r18), .val (.int r21), .val (.int (0 : Int32)), .val (.int (1 : Int32)), .val (.int (1 : Int32))] [])) _
          refine XS.iload X21.here hx rfl (hb hby at_212) rfl ?_
          show Steps p.tables e below (T21.setTop (mkF m 214 #[.val (.int p1), .val (.int p2), .val (.int p3), .val (.int p4), .val (.int p5), .val (.int p6), .val (.ref b1), .val (.int sa), .val (.int en), .val (.int r9), .val (.int r10), .val (.ref b11), .val (.int r15), .val (.int r18), .val (.int r21), .val (.int (0 : Int32)), .val (.int (1 : Int32)), .val (.int (1 : Int32))] [(.int r18)])) _
          refine XS.iload X21.here hx rfl (hb hby at_214) rfl ?_
          show Steps p.tables e below (T21.setTop (mkF m 216 #[.val (.int p1), .val (.int p2), .val (.int p3), .val (.int p4), .val (.int p5), .val (.int p6), .val (.ref b1), .val (.int sa), .val (.int en), .val (.int r9), .val (.int r10), .val (.ref b11), .val (.int r15), .val (.int r18), .val (.int r21), .val (.int (0 : Int32)), .val (.int (1 : Int32)), .val (.int (1 : Int32))] [(.int (1 : Int32)), (.int r18)])) _
          refine XS.icmpNo X21.here hx rfl (hb hby at_216) rfl ((teq (e_r2 : r18 = (1 : Int32))).2) ?_
          show Steps p.tables e below (T21.setTop (mkF m 219 #[.val (.int p1), .val (.int p2), .val (.int p3), .val (.int p4), .val (.int p5), .val (.int p6), .val (.ref b1), .val (.int sa), .val (.int en), .val (.int r9), .val (.int r10), .val (.ref b11), .val (.int r15), .val (.int r18), .val (.int r21), .val (.int (0 : Int32)), .val (.int (1 : Int32)), .val (.int (1 : Int32))] [])) _
          refine XS.iload X21.here hx rfl (hb hby at_219) rfl ?_
          show Steps p.tables e below (T21.setTop (mkF m 221 #[.val (.int p1), .val (.int p2), .val (.int p3), .val (.int p4), .val (.int p5), .val (.int p6), .val (.ref b1), .val (.int sa), .val (.int en), .val (.int r9), .val (.int r10), .val (.ref b11), .val (.int r15), .val (.int r18), .val (.int r21), .val (.int (0 : Int32)), .val (.int (1 : Int32)), .val (.int (1 : Int32))] [(.int r21)])) _
          refine XS.iload X21.here hx rfl (hb hby at_221) rfl ?_
          show Steps p.tables e below (T21.setTop (mkF m 223 #[.val (.int p1), .val (.int p2), .val (.int p3), .val (.int p4), .val (.int p5), .val (.int p6), .val (.ref b1), .val (.int sa), .val (.int en), .val (.int r9), .val (.int r10), .val (.ref b11), .val (.int r15), .val (.int r18), .val (.int r21), .val (.int (0 : Int32)), .val (.int (1 : Int32)), .val (.int (1 : Int32))] [(.int sa), (.int r21)])) _
          refine XS.iload X21.here hx rfl (hb hby at_223) rfl ?_
          show Steps p.tables e below (T21.setTop (mkF m 225 #[.val (.int p1), .val (.int p2), .val (.int p3), .val (.int p4), .val (.int p5), .val (.int p6), .val (.ref b1), .val (.int sa), .val (.int en), .val (.int r9), .val (.int r10), .val (.ref b11), .val (.int r15), .val (.int r18), .val (.int r21), .val (.int (0 : Int32)), .val (.int (1 : Int32)), .val (.int (1 : Int32))] [(.int (1 : Int32)), (.int sa), (.int r21)])) _
          refine XS.iadd X21.here hx rfl (hb hby at_225) rfl ?_
          show Steps p.tables e below (T21.setTop (mkF m 226 #[.val (.int p1), .val (.int p2), .val (.int p3), .val (.int p4), .val (.int p5), .val (.int p6), .val (.ref b1), .val (.int sa), .val (.int en), .val (.int r9), .val (.int r10), .val (.ref b11), .val (.int r15), .val (.int r18), .val (.int r21), .val (.int (0 : Int32)), .val (.int (1 : Int32)), .val (.int (1 : Int32))] [(.int (sa + (1 : Int32))), (.int r21)])) _
          refine XS.iload X21.here hx rfl (hb hby at_226) rfl ?_
          show Steps p.tables e below (T21.setTop (mkF m 228 #[.val (.int p1), .val (.int p2), .val (.int p3), .val (.int p4), .val (.int p5), .val (.int p6), .val (.ref b1), .val (.int sa), .val (.int en), .val (.int r9), .val (.int r10), .val (.ref b11), .val (.int r15), .val (.int r18), .val (.int r21), .val (.int (0 : Int32)), .val (.int (1 : Int32)), .val (.int (1 : Int32))] [(.int en), (.int (sa + (1 : Int32))), (.int r21)])) _
          exact k
        by_cases hc228_34 : (sa + (1 : Int32)) = en
        · obtain ⟨fs, hr, hrun, hended, hW, hsame⟩ := X21.leave (v := some (.int (1 : Int32))) (fun h => by rw [Bd.returns] at h; cases h)
          refine ⟨_, _, ?_, hrun, hended, _, _, rfl, ?_, ⟨_, rfl⟩, hW, hsame.mono (by decide) (by decide)⟩
          · show Steps p.tables e below (T21.setTop (mkF m 228 #[.val (.int p1), .val (.int p2), .val (.int p3), .val (.int p4), .val (.int p5), .val (.int p6), .val (.ref b1), .val (.int sa), .val (.int en), .val (.int r9), .val (.int r10), .val (.ref b11), .val (.int r15), .val (.int r18), .val (.int r21), .val (.int (0 : Int32)), .val (.int (1 : Int32)), .val (.int (1 : Int32))] [(.int en), (.int (sa + (1 : Int32))), (.int r21)])) _
            refine XS.icmpNo X21.here hx rfl (hb hby at_228) rfl ((teq hc228_34).2) ?_
            show Steps p.tables e below (T21.setTop (mkF m 231 #[.val (.int p1), .val (.int p2), .val (.int p3), .val (.int p4), .val (.int p5), .val (.int p6), .val (.ref b1), .val (.int sa), .val (.int en), .val (.int r9), .val (.int r10), .val (.ref b11), .val (.int r15), .val (.int r18), .val (.int r21), .val (.int (0 : Int32)), .val (.int (1 : Int32)), .val (.int (1 : Int32))] [(.int r21)])) _
            refine XS.iconst X21.here hx rfl (hb hby at_231) ?_
            show Steps p.tables e below (T21.setTop (mkF m 232 #[.val (.int p1), .val (.int p2), .val (.int p3), .val (.int p4), .val (.int p5), .val (.int p6), .val (.ref b1), .val (.int sa), .val (.int en), .val (.int r9), .val (.int r10), .val (.ref b11), .val (.int r15), .val (.int r18), .val (.int r21), .val (.int (0 : Int32)), .val (.int (1 : Int32)), .val (.int (1 : Int32))] [(.int (1 : Int32)), (.int r21)])) _
            refine XS.goto X21.here hx rfl (pc0 := 232) (pc' := 236) rfl (hb hby at_232) (by decide) (by decide) ?_
            show Steps p.tables e below (T21.setTop (mkF m 236 #[.val (.int p1), .val (.int p2), .val (.int p3), .val (.int p4), .val (.int p5), .val (.int p6), .val (.ref b1), .val (.int sa), .val (.int en), .val (.int r9), .val (.int r10), .val (.ref b11), .val (.int r15), .val (.int r18), .val (.int r21), .val (.int (0 : Int32)), .val (.int (1 : Int32)), .val (.int (1 : Int32))] [(.int (1 : Int32)), (.int r21)])) _
            refine XS.icmpNo X21.here hx rfl (hb hby at_236) rfl ((teq (by rw [hr21, e_w3, if_pos hc228_34] : r21 = (1 : Int32))).2) ?_
            show Steps p.tables e below (T21.setTop (mkF m 239 #[.val (.int p1), .val (.int p2), .val (.int p3), .val (.int p4), .val (.int p5), .val (.int p6), .val (.ref b1), .val (.int sa), .val (.int en), .val (.int r9), .val (.int r10), .val (.ref b11), .val (.int r15), .val (.int r18), .val (.int r21), .val (.int (0 : Int32)), .val (.int (1 : Int32)), .val (.int (1 : Int32))] [])) _
            refine XS.iconst X21.here hx rfl (hb hby at_239) ?_
            show Steps p.tables e below (T21.setTop (mkF m 240 #[.val (.int p1), .val (.int p2), .val (.int p3), .val (.int p4), .val (.int p5), .val (.int p6), .val (.ref b1), .val (.int sa), .val (.int en), .val (.int r9), .val (.int r10), .val (.ref b11), .val (.int r15), .val (.int r18), .val (.int r21), .val (.int (0 : Int32)), .val (.int (1 : Int32)), .val (.int (1 : Int32))] [(.int (1 : Int32))])) _
            refine XS.goto X21.here hx rfl (pc0 := 240) (pc' := 244) rfl (hb hby at_240) (by decide) (by decide) ?_
            show Steps p.tables e below (T21.setTop (mkF m 244 #[.val (.int p1), .val (.int p2), .val (.int p3), .val (.int p4), .val (.int p5), .val (.int p6), .val (.ref b1), .val (.int sa), .val (.int en), .val (.int r9), .val (.int r10), .val (.ref b11), .val (.int r15), .val (.int r18), .val (.int r21), .val (.int (0 : Int32)), .val (.int (1 : Int32)), .val (.int (1 : Int32))] [(.int (1 : Int32))])) _
            exact retN X21 hx (t := .boolean) Bd.returns (by simp) (hb hby at_244) hr
          · exact ⟨rfl, N21⟩
        · obtain ⟨fs, hr, hrun, hended, hW, hsame⟩ := X21.leave (v := some (.int (1 : Int32))) (fun h => by rw [Bd.returns] at h; cases h)
          refine ⟨_, _, ?_, hrun, hended, _, _, rfl, ?_, ⟨_, rfl⟩, hW, hsame.mono (by decide) (by decide)⟩
          · show Steps p.tables e below (T21.setTop (mkF m 228 #[.val (.int p1), .val (.int p2), .val (.int p3), .val (.int p4), .val (.int p5), .val (.int p6), .val (.ref b1), .val (.int sa), .val (.int en), .val (.int r9), .val (.int r10), .val (.ref b11), .val (.int r15), .val (.int r18), .val (.int r21), .val (.int (0 : Int32)), .val (.int (1 : Int32)), .val (.int (1 : Int32))] [(.int en), (.int (sa + (1 : Int32))), (.int r21)])) _
            refine XS.icmpYes X21.here hx rfl (pc0 := 228) (pc' := 235) rfl (hb hby at_228) rfl ((feq hc228_34).2) (by decide) (by decide) ?_
            show Steps p.tables e below (T21.setTop (mkF m 235 #[.val (.int p1), .val (.int p2), .val (.int p3), .val (.int p4), .val (.int p5), .val (.int p6), .val (.ref b1), .val (.int sa), .val (.int en), .val (.int r9), .val (.int r10), .val (.ref b11), .val (.int r15), .val (.int r18), .val (.int r21), .val (.int (0 : Int32)), .val (.int (1 : Int32)), .val (.int (1 : Int32))] [(.int r21)])) _
            refine XS.iconst X21.here hx rfl (hb hby at_235) ?_
            show Steps p.tables e below (T21.setTop (mkF m 236 #[.val (.int p1), .val (.int p2), .val (.int p3), .val (.int p4), .val (.int p5), .val (.int p6), .val (.ref b1), .val (.int sa), .val (.int en), .val (.int r9), .val (.int r10), .val (.ref b11), .val (.int r15), .val (.int r18), .val (.int r21), .val (.int (0 : Int32)), .val (.int (1 : Int32)), .val (.int (1 : Int32))] [(.int (0 : Int32)), (.int r21)])) _
            refine XS.icmpNo X21.here hx rfl (hb hby at_236) rfl ((teq (by rw [hr21, e_w3, if_neg hc228_34] : r21 = (0 : Int32))).2) ?_
            show Steps p.tables e below (T21.setTop (mkF m 239 #[.val (.int p1), .val (.int p2), .val (.int p3), .val (.int p4), .val (.int p5), .val (.int p6), .val (.ref b1), .val (.int sa), .val (.int en), .val (.int r9), .val (.int r10), .val (.ref b11), .val (.int r15), .val (.int r18), .val (.int r21), .val (.int (0 : Int32)), .val (.int (1 : Int32)), .val (.int (1 : Int32))] [])) _
            refine XS.iconst X21.here hx rfl (hb hby at_239) ?_
            show Steps p.tables e below (T21.setTop (mkF m 240 #[.val (.int p1), .val (.int p2), .val (.int p3), .val (.int p4), .val (.int p5), .val (.int p6), .val (.ref b1), .val (.int sa), .val (.int en), .val (.int r9), .val (.int r10), .val (.ref b11), .val (.int r15), .val (.int r18), .val (.int r21), .val (.int (0 : Int32)), .val (.int (1 : Int32)), .val (.int (1 : Int32))] [(.int (1 : Int32))])) _
            refine XS.goto X21.here hx rfl (pc0 := 240) (pc' := 244) rfl (hb hby at_240) (by decide) (by decide) ?_
            show Steps p.tables e below (T21.setTop (mkF m 244 #[.val (.int p1), .val (.int p2), .val (.int p3), .val (.int p4), .val (.int p5), .val (.int p6), .val (.ref b1), .val (.int sa), .val (.int en), .val (.int r9), .val (.int r10), .val (.ref b11), .val (.int r15), .val (.int r18), .val (.int r21), .val (.int (0 : Int32)), .val (.int (1 : Int32)), .val (.int (1 : Int32))] [(.int (1 : Int32))])) _
            exact retN X21 hx (t := .boolean) Bd.returns (by simp) (hb hby at_244) hr
          · exact ⟨rfl, N21⟩
      · have e_r1 : r15 = (0 : Int32) := by rw [hr15]; simp only [if_pos hc102_22, if_neg hc112_25, if_neg hc172_33]
        have e_w2 : w2_15 = sa := by rw [p15_5]; simp only [if_pos hc102_22, if_neg hc112_25, if_neg hc172_33]
        have e_r2 : r18 = (0 : Int32) := by rw [hr18, e_w2]; simp only [if_pos hc102_22, if_neg hc112_25, if_neg hc172_33]
        have e_w3 : w2_18 = sa := by rw [p18_5, e_w2]; simp only [if_pos hc102_22, if_neg hc112_25, if_neg hc172_33]
        refine GoalS.lift (B := (T21.setTop (mkF m 228 #[.val (.int p1), .val (.int p2), .val (.int p3), .val (.int p4), .val (.int p5), .val (.int p6), .val (.ref b1), .val (.int sa), .val (.int en), .val (.int r9), .val (.int r10), .val (.ref b11), .val (.int r15), .val (.int r18), .val (.int r21), .val (.int (0 : Int32)), .val (.int (0 : Int32)), .val (.int (0 : Int32))] [(.int en), (.int (sa + (0 : Int32))), (.int r21)]))) (fun t k => ?_) ?_
        · show Steps p.tables e below (T21.setTop (mkF m 172 #[.val (.int p1), .val (.int p2), .val (.int p3), .val (.int p4), .val (.int p5), .val (.int p6), .val (.ref b1), .val (.int sa), .val (.int en), .val (.int r9), .val (.int r10), .val (.ref b11), .val (.int r15), .val (.int r18), .val (.int r21), .val (.int (0 : Int32)), .unset, .unset] [(.int r10), (.int (fn7 (sa).toNatClampNeg))])) _
          refine XS.icmpYes X21.here hx rfl (pc0 := 172) (pc' := 179) rfl (hb hby at_172) rfl ((feq hc172_33).2) (by decide) (by decide) ?_
          show Steps p.tables e below (T21.setTop (mkF m 179 #[.val (.int p1), .val (.int p2), .val (.int p3), .val (.int p4), .val (.int p5), .val (.int p6), .val (.ref b1), .val (.int sa), .val (.int en), .val (.int r9), .val (.int r10), .val (.ref b11), .val (.int r15), .val (.int r18), .val (.int r21), .val (.int (0 : Int32)), .unset, .unset] [])) _
          refine XS.iconst X21.here hx rfl (hb hby at_179) ?_
          show Steps p.tables e below (T21.setTop (mkF m 180 #[.val (.int p1), .val (.int p2), .val (.int p3), .val (.int p4), .val (.int p5), .val (.int p6), .val (.ref b1), .val (.int sa), .val (.int en), .val (.int r9), .val (.int r10), .val (.ref b11), .val (.int r15), .val (.int r18), .val (.int r21), .val (.int (0 : Int32)), .unset, .unset] [(.int (0 : Int32))])) _
          refine XS.istore X21.here hx rfl (hb hby at_180) rfl (l' := #[.val (.int p1), .val (.int p2), .val (.int p3), .val (.int p4), .val (.int p5), .val (.int p6), .val (.ref b1), .val (.int sa), .val (.int en), .val (.int r9), .val (.int r10), .val (.ref b11), .val (.int r15), .val (.int r18), .val (.int r21), .val (.int (0 : Int32)), .val (.int (0 : Int32)), .unset]) rfl ?_
          show Steps p.tables e below (T21.setTop (mkF m 182 #[.val (.int p1), .val (.int p2), .val (.int p3), .val (.int p4), .val (.int p5), .val (.int p6), .val (.ref b1), .val (.int sa), .val (.int en), .val (.int r9), .val (.int r10), .val (.ref b11), .val (.int r15), .val (.int r18), .val (.int r21), .val (.int (0 : Int32)), .val (.int (0 : Int32)), .unset] [])) _
          refine XS.iload X21.here hx rfl (hb hby at_182) rfl ?_
          show Steps p.tables e below (T21.setTop (mkF m 184 #[.val (.int p1), .val (.int p2), .val (.int p3), .val (.int p4), .val (.int p5), .val (.int p6), .val (.ref b1), .val (.int sa), .val (.int en), .val (.int r9), .val (.int r10), .val (.ref b11), .val (.int r15), .val (.int r18), .val (.int r21), .val (.int (0 : Int32)), .val (.int (0 : Int32)), .unset] [(.int (0 : Int32))])) _
          refine XS.ifYes X21.here hx rfl (pc0 := 184) (pc' := 191) rfl (hb hby at_184) rfl ((if0 _ _).trans (teq (by decide : (0 : Int32) = (0 : Int32))).1) (by decide) (by decide) ?_
          show Steps p.tables e below (T21.setTop (mkF m 191 #[.val (.int p1), .val (.int p2), .val (.int p3), .val (.int p4), .val (.int p5), .val (.int p6), .val (.ref b1), .val (.int sa), .val (.int en), .val (.int r9), .val (.int r10), .val (.ref b11), .val (.int r15), .val (.int r18), .val (.int r21), .val (.int (0 : Int32)), .val (.int (0 : Int32)), .unset] [])) _
          refine XS.iconst X21.here hx rfl (hb hby at_191) ?_
          show Steps p.tables e below (T21.setTop (mkF m 192 #[.val (.int p1), .val (.int p2), .val (.int p3), .val (.int p4), .val (.int p5), .val (.int p6), .val (.ref b1), .val (.int sa), .val (.int en), .val (.int r9), .val (.int r10), .val (.ref b11), .val (.int r15), .val (.int r18), .val (.int r21), .val (.int (0 : Int32)), .val (.int (0 : Int32)), .unset] [(.int (0 : Int32))])) _
          refine XS.iload X21.here hx rfl (hb hby at_192) rfl ?_
          show Steps p.tables e below (T21.setTop (mkF m 194 #[.val (.int p1), .val (.int p2), .val (.int p3), .val (.int p4), .val (.int p5), .val (.int p6), .val (.ref b1), .val (.int sa), .val (.int en), .val (.int r9), .val (.int r10), .val (.ref b11), .val (.int r15), .val (.int r18), .val (.int r21), .val (.int (0 : Int32)), .val (.int (0 : Int32)), .unset] [(.int (0 : Int32)), (.int (0 : Int32))])) _
          refine XS.ifYes X21.here hx rfl (pc0 := 194) (pc' := 201) rfl (hb hby at_194) rfl ((if0 _ _).trans (teq (by decide : (0 : Int32) = (0 : Int32))).1) (by decide) (by decide) ?_
          show Steps p.tables e below (T21.setTop (mkF m 201 #[.val (.int p1), .val (.int p2), .val (.int p3), .val (.int p4), .val (.int p5), .val (.int p6), .val (.ref b1), .val (.int sa), .val (.int en), .val (.int r9), .val (.int r10), .val (.ref b11), .val (.int r15), .val (.int r18), .val (.int r21), .val (.int (0 : Int32)), .val (.int (0 : Int32)), .unset] [(.int (0 : Int32))])) _
          refine XS.iconst X21.here hx rfl (hb hby at_201) ?_
          show Steps p.tables e below (T21.setTop (mkF m 202 #[.val (.int p1), .val (.int p2), .val (.int p3), .val (.int p4), .val (.int p5), .val (.int p6), .val (.ref b1), .val (.int sa), .val (.int en), .val (.int r9), .val (.int r10), .val (.ref b11), .val (.int r15), .val (.int r18), .val (.int r21), .val (.int (0 : Int32)), .val (.int (0 : Int32)), .unset] [(.int (0 : Int32)), (.int (0 : Int32))])) _
          refine XS.iadd X21.here hx rfl (hb hby at_202) rfl ?_
          show Steps p.tables e below (T21.setTop (mkF m 203 #[.val (.int p1), .val (.int p2), .val (.int p3), .val (.int p4), .val (.int p5), .val (.int p6), .val (.ref b1), .val (.int sa), .val (.int en), .val (.int r9), .val (.int r10), .val (.ref b11), .val (.int r15), .val (.int r18), .val (.int r21), .val (.int (0 : Int32)), .val (.int (0 : Int32)), .unset] [(.int (0 : Int32))])) _
          refine XS.istore X21.here hx rfl (hb hby at_203) rfl (l' := #[.val (.int p1), .val (.int p2), .val (.int p3), .val (.int p4), .val (.int p5), .val (.int p6), .val (.ref b1), .val (.int sa), .val (.int en), .val (.int r9), .val (.int r10), .val (.ref b11), .val (.int r15), .val (.int r18), .val (.int r21), .val (.int (0 : Int32)), .val (.int (0 : Int32)), .val (.int (0 : Int32))]) rfl ?_
          show Steps p.tables e below (T21.setTop (mkF m 205 #[.val (.int p1), .val (.int p2), .val (.int p3), .val (.int p4), .val (.int p5), .val (.int p6), .val (.ref b1), .val (.int sa), .val (.int en), .val (.int r9), .val (.int r10), .val (.ref b11), .val (.int r15), .val (.int r18), .val (.int r21), .val (.int (0 : Int32)), .val (.int (0 : Int32)), .val (.int (0 : Int32))] [])) _
          refine XS.iload X21.here hx rfl (hb hby at_205) rfl ?_
          show Steps p.tables e below (T21.setTop (mkF m 207 #[.val (.int p1), .val (.int p2), .val (.int p3), .val (.int p4), .val (.int p5), .val (.int p6), .val (.ref b1), .val (.int sa), .val (.int en), .val (.int r9), .val (.int r10), .val (.ref b11), .val (.int r15), .val (.int r18), .val (.int r21), .val (.int (0 : Int32)), .val (.int (0 : Int32)), .val (.int (0 : Int32))] [(.int r15)])) _
          refine XS.iload X21.here hx rfl (hb hby at_207) rfl ?_
          show Steps p.tables e below (T21.setTop (mkF m 209 #[.val (.int p1), .val (.int p2), .val (.int p3), .val (.int p4), .val (.int p5), .val (.int p6), .val (.ref b1), .val (.int sa), .val (.int en), .val (.int r9), .val (.int r10), .val (.ref b11), .val (.int r15), .val (.int r18), .val (.int r21), .val (.int (0 : Int32)), .val (.int (0 : Int32)), .val (.int (0 : Int32))] [(.int (0 : Int32)), (.int r15)])) _
          refine XS.icmpNo X21.here hx rfl (hb hby at_209) rfl ((teq (e_r1 : r15 = (0 : Int32))).2) ?_
          show Steps p.tables e below (T21.setTop (mkF m 212 #[.val (.int p1), .val (.int p2), .val (.int p3), .val (.int p4), .val (.int p5), .val (.int p6), .val (.ref b1), .val (.int sa), .val (.int en), .val (.int r9), .val (.int r10), .val (.ref b11), .val (.int r15), .val (.int r18), .val (.int r21), .val (.int (0 : Int32)), .val (.int (0 : Int32)), .val (.int (0 : Int32))] [])) _
          refine XS.iload X21.here hx rfl (hb hby at_212) rfl ?_
          show Steps p.tables e below (T21.setTop (mkF m 214 #[.val (.int p1), .val (.int p2), .val (.int p3), .val (.int p4), .val (.int p5), .val (.int p6), .val (.ref b1), .val (.int sa), .val (.int en), .val (.int r9), .val (.int r10), .val (.ref b11), .val (.int r15), .val (.int r18), .val (.int r21), .val (.int (0 : Int32)), .val (.int (0 : Int32)), .val (.int (0 : Int32))] [(.int r18)])) _
          refine XS.iload X21.here hx rfl (hb hby at_214) rfl ?_
          show Steps p.tables e below (T21.setTop (mkF m 216 #[.val (.int p1), .val (.int p2), .val (.int p3), .val (.int p4), .val (.int p5), .val (.int p6), .val (.ref b1), .val (.int sa), .val (.int en), .val (.int r9), .val (.int r10), .val (.ref b11), .val (.int r15), .val (.int r18), .val (.int r21), .val (.int (0 : Int32)), .val (.int (0 : Int32)), .val (.int (0 : Int32))] [(.int (0 : Int32)), (.int r18)])) _
          refine XS.icmpNo X21.here hx rfl (hb hby at_216) rfl ((teq (e_r2 : r18 = (0 : Int32))).2) ?_
          show Steps p.tables e below (T21.setTop (mkF m 219 #[.val (.int p1), .val (.int p2), .val (.int p3), .val (.int p4), .val (.int p5), .val (.int p6), .val (.ref b1), .val (.int sa), .val (.int en), .val (.int r9), .val (.int r10), .val (.ref b11), .val (.int r15), .val (.int r18), .val (.int r21), .val (.int (0 : Int32)), .val (.int (0 : Int32)), .val (.int (0 : Int32))] [])) _
          refine XS.iload X21.here hx rfl (hb hby at_219) rfl ?_
          show Steps p.tables e below (T21.setTop (mkF m 221 #[.val (.int p1), .val (.int p2), .val (.int p3), .val (.int p4), .val (.int p5), .val (.int p6), .val (.ref b1), .val (.int sa), .val (.int en), .val (.int r9), .val (.int r10), .val (.ref b11), .val (.int r15), .val (.int r18), .val (.int r21), .val (.int (0 : Int32)), .val (.int (0 : Int32)), .val (.int (0 : Int32))] [(.int r21)])) _
          refine XS.iload X21.here hx rfl (hb hby at_221) rfl ?_
          show Steps p.tables e below (T21.setTop (mkF m 223 #[.val (.int p1), .val (.int p2), .val (.int p3), .val (.int p4), .val (.int p5), .val (.int p6), .val (.ref b1), .val (.int sa), .val (.int en), .val (.int r9), .val (.int r10), .val (.ref b11), .val (.int r15), .val (.int r18), .val (.int r21), .val (.int (0 : Int32)), .val (.int (0 : Int32)), .val (.int (0 : Int32))] [(.int sa), (.int r21)])) _
          refine XS.iload X21.here hx rfl (hb hby at_223) rfl ?_
          show Steps p.tables e below (T21.setTop (mkF m 225 #[.val (.int p1), .val (.int p2), .val (.int p3), .val (.int p4), .val (.int p5), .val (.int p6), .val (.ref b1), .val (.int sa), .val (.int en), .val (.int r9), .val (.int r10), .val (.ref b11), .val (.int r15), .val (.int r18), .val (.int r21), .val (.int (0 : Int32)), .val (.int (0 : Int32)), .val (.int (0 : Int32))] [(.int (0 : Int32)), (.int sa), (.int r21)])) _
          refine XS.iadd X21.here hx rfl (hb hby at_225) rfl ?_
          show Steps p.tables e below (T21.setTop (mkF m 226 #[.val (.int p1), .val (.int p2), .val (.int p3), .val (.int p4), .val (.int p5), .val (.int p6), .val (.ref b1), .val (.int sa), .val (.int en), .val (.int r9), .val (.int r10), .val (.ref b11), .val (.int r15), .val (.int r18), .val (.int r21), .val (.int (0 : Int32)), .val (.int (0 : Int32)), .val (.int (0 : Int32))] [(.int (sa + (0 : Int32))), (.int r21)])) _
          refine XS.iload X21.here hx rfl (hb hby at_226) rfl ?_
          show Steps p.tables e below (T21.setTop (mkF m 228 #[.val (.int p1), .val (.int p2), .val (.int p3), .val (.int p4), .val (.int p5), .val (.int p6), .val (.ref b1), .val (.int sa), .val (.int en), .val (.int r9), .val (.int r10), .val (.ref b11), .val (.int r15), .val (.int r18), .val (.int r21), .val (.int (0 : Int32)), .val (.int (0 : Int32)), .val (.int (0 : Int32))] [(.int en), (.int (sa + (0 : Int32))), (.int r21)])) _
          exact k
        by_cases hc228_35 : (sa + (0 : Int32)) = en
        · obtain ⟨fs, hr, hrun, hended, hW, hsame⟩ := X21.leave (v := some (.int (1 : Int32))) (fun h => by rw [Bd.returns] at h; cases h)
          refine ⟨_, _, ?_, hrun, hended, _, _, rfl, ?_, ⟨_, rfl⟩, hW, hsame.mono (by decide) (by decide)⟩
          · show Steps p.tables e below (T21.setTop (mkF m 228 #[.val (.int p1), .val (.int p2), .val (.int p3), .val (.int p4), .val (.int p5), .val (.int p6), .val (.ref b1), .val (.int sa), .val (.int en), .val (.int r9), .val (.int r10), .val (.ref b11), .val (.int r15), .val (.int r18), .val (.int r21), .val (.int (0 : Int32)), .val (.int (0 : Int32)), .val (.int (0 : Int32))] [(.int en), (.int (sa + (0 : Int32))), (.int r21)])) _
            refine XS.icmpNo X21.here hx rfl (hb hby at_228) rfl ((teq hc228_35).2) ?_
            show Steps p.tables e below (T21.setTop (mkF m 231 #[.val (.int p1), .val (.int p2), .val (.int p3), .val (.int p4), .val (.int p5), .val (.int p6), .val (.ref b1), .val (.int sa), .val (.int en), .val (.int r9), .val (.int r10), .val (.ref b11), .val (.int r15), .val (.int r18), .val (.int r21), .val (.int (0 : Int32)), .val (.int (0 : Int32)), .val (.int (0 : Int32))] [(.int r21)])) _
            refine XS.iconst X21.here hx rfl (hb hby at_231) ?_
            show Steps p.tables e below (T21.setTop (mkF m 232 #[.val (.int p1), .val (.int p2), .val (.int p3), .val (.int p4), .val (.int p5), .val (.int p6), .val (.ref b1), .val (.int sa), .val (.int en), .val (.int r9), .val (.int r10), .val (.ref b11), .val (.int r15), .val (.int r18), .val (.int r21), .val (.int (0 : Int32)), .val (.int (0 : Int32)), .val (.int (0 : Int32))] [(.int (1 : Int32)), (.int r21)])) _
            refine XS.goto X21.here hx rfl (pc0 := 232) (pc' := 236) rfl (hb hby at_232) (by decide) (by decide) ?_
            show Steps p.tables e below (T21.setTop (mkF m 236 #[.val (.int p1), .val (.int p2), .val (.int p3), .val (.int p4), .val (.int p5), .val (.int p6), .val (.ref b1), .val (.int sa), .val (.int en), .val (.int r9), .val (.int r10), .val (.ref b11), .val (.int r15), .val (.int r18), .val (.int r21), .val (.int (0 : Int32)), .val (.int (0 : Int32)), .val (.int (0 : Int32))] [(.int (1 : Int32)), (.int r21)])) _
            refine XS.icmpNo X21.here hx rfl (hb hby at_236) rfl ((teq (by rw [hr21, e_w3, ← Int32.add_zero sa, if_pos hc228_35] : r21 = (1 : Int32))).2) ?_
            show Steps p.tables e below (T21.setTop (mkF m 239 #[.val (.int p1), .val (.int p2), .val (.int p3), .val (.int p4), .val (.int p5), .val (.int p6), .val (.ref b1), .val (.int sa), .val (.int en), .val (.int r9), .val (.int r10), .val (.ref b11), .val (.int r15), .val (.int r18), .val (.int r21), .val (.int (0 : Int32)), .val (.int (0 : Int32)), .val (.int (0 : Int32))] [])) _
            refine XS.iconst X21.here hx rfl (hb hby at_239) ?_
            show Steps p.tables e below (T21.setTop (mkF m 240 #[.val (.int p1), .val (.int p2), .val (.int p3), .val (.int p4), .val (.int p5), .val (.int p6), .val (.ref b1), .val (.int sa), .val (.int en), .val (.int r9), .val (.int r10), .val (.ref b11), .val (.int r15), .val (.int r18), .val (.int r21), .val (.int (0 : Int32)), .val (.int (0 : Int32)), .val (.int (0 : Int32))] [(.int (1 : Int32))])) _
            refine XS.goto X21.here hx rfl (pc0 := 240) (pc' := 244) rfl (hb hby at_240) (by decide) (by decide) ?_
            show Steps p.tables e below (T21.setTop (mkF m 244 #[.val (.int p1), .val (.int p2), .val (.int p3), .val (.int p4), .val (.int p5), .val (.int p6), .val (.ref b1), .val (.int sa), .val (.int en), .val (.int r9), .val (.int r10), .val (.ref b11), .val (.int r15), .val (.int r18), .val (.int r21), .val (.int (0 : Int32)), .val (.int (0 : Int32)), .val (.int (0 : Int32))] [(.int (1 : Int32))])) _
            exact retN X21 hx (t := .boolean) Bd.returns (by simp) (hb hby at_244) hr
          · exact ⟨rfl, N21⟩
        · obtain ⟨fs, hr, hrun, hended, hW, hsame⟩ := X21.leave (v := some (.int (1 : Int32))) (fun h => by rw [Bd.returns] at h; cases h)
          refine ⟨_, _, ?_, hrun, hended, _, _, rfl, ?_, ⟨_, rfl⟩, hW, hsame.mono (by decide) (by decide)⟩
          · show Steps p.tables e below (T21.setTop (mkF m 228 #[.val (.int p1), .val (.int p2), .val (.int p3), .val (.int p4), .val (.int p5), .val (.int p6), .val (.ref b1), .val (.int sa), .val (.int en), .val (.int r9), .val (.int r10), .val (.ref b11), .val (.int r15), .val (.int r18), .val (.int r21), .val (.int (0 : Int32)), .val (.int (0 : Int32)), .val (.int (0 : Int32))] [(.int en), (.int (sa + (0 : Int32))), (.int r21)])) _
            refine XS.icmpYes X21.here hx rfl (pc0 := 228) (pc' := 235) rfl (hb hby at_228) rfl ((feq hc228_35).2) (by decide) (by decide) ?_
            show Steps p.tables e below (T21.setTop (mkF m 235 #[.val (.int p1), .val (.int p2), .val (.int p3), .val (.int p4), .val (.int p5), .val (.int p6), .val (.ref b1), .val (.int sa), .val (.int en), .val (.int r9), .val (.int r10), .val (.ref b11), .val (.int r15), .val (.int r18), .val (.int r21), .val (.int (0 : Int32)), .val (.int (0 : Int32)), .val (.int (0 : Int32))] [(.int r21)])) _
            refine XS.iconst X21.here hx rfl (hb hby at_235) ?_
            show Steps p.tables e below (T21.setTop (mkF m 236 #[.val (.int p1), .val (.int p2), .val (.int p3), .val (.int p4), .val (.int p5), .val (.int p6), .val (.ref b1), .val (.int sa), .val (.int en), .val (.int r9), .val (.int r10), .val (.ref b11), .val (.int r15), .val (.int r18), .val (.int r21), .val (.int (0 : Int32)), .val (.int (0 : Int32)), .val (.int (0 : Int32))] [(.int (0 : Int32)), (.int r21)])) _
            refine XS.icmpNo X21.here hx rfl (hb hby at_236) rfl ((teq (by rw [hr21, e_w3, ← Int32.add_zero sa, if_neg hc228_35] : r21 = (0 : Int32))).2) ?_
            show Steps p.tables e below (T21.setTop (mkF m 239 #[.val (.int p1), .val (.int p2), .val (.int p3), .val (.int p4), .val (.int p5), .val (.int p6), .val (.ref b1), .val (.int sa), .val (.int en), .val (.int r9), .val (.int r10), .val (.ref b11), .val (.int r15), .val (.int r18), .val (.int r21), .val (.int (0 : Int32)), .val (.int (0 : Int32)), .val (.int (0 : Int32))] [])) _
            refine XS.iconst X21.here hx rfl (hb hby at_239) ?_
            show Steps p.tables e below (T21.setTop (mkF m 240 #[.val (.int p1), .val (.int p2), .val (.int p3), .val (.int p4), .val (.int p5), .val (.int p6), .val (.ref b1), .val (.int sa), .val (.int en), .val (.int r9), .val (.int r10), .val (.ref b11), .val (.int r15), .val (.int r18), .val (.int r21), .val (.int (0 : Int32)), .val (.int (0 : Int32)), .val (.int (0 : Int32))] [(.int (1 : Int32))])) _
            refine XS.goto X21.here hx rfl (pc0 := 240) (pc' := 244) rfl (hb hby at_240) (by decide) (by decide) ?_
            show Steps p.tables e below (T21.setTop (mkF m 244 #[.val (.int p1), .val (.int p2), .val (.int p3), .val (.int p4), .val (.int p5), .val (.int p6), .val (.ref b1), .val (.int sa), .val (.int en), .val (.int r9), .val (.int r10), .val (.ref b11), .val (.int r15), .val (.int r18), .val (.int r21), .val (.int (0 : Int32)), .val (.int (0 : Int32)), .val (.int (0 : Int32))] [(.int (1 : Int32))])) _
            exact retN X21 hx (t := .boolean) Bd.returns (by simp) (hb hby at_244) hr
          · exact ⟨rfl, N21⟩
  · have e_r1 : r15 = (0 : Int32) := by rw [hr15]; simp only [if_neg hc102_22]
    have e_w2 : w2_15 = sa := by rw [p15_5]; simp only [if_neg hc102_22]
    have e_r2 : r18 = (0 : Int32) := by rw [hr18, e_w2]; simp only [if_neg hc102_22]
    have e_w3 : w2_18 = sa := by rw [p18_5, e_w2]; simp only [if_neg hc102_22]
    refine GoalS.lift (B := (T21.setTop (mkF m 228 #[.val (.int p1), .val (.int p2), .val (.int p3), .val (.int p4), .val (.int p5), .val (.int p6), .val (.ref b1), .val (.int sa), .val (.int en), .val (.int r9), .val (.int r10), .val (.ref b11), .val (.int r15), .val (.int r18), .val (.int r21), .val (.int (0 : Int32)), .val (.int (0 : Int32)), .val (.int (0 : Int32))] [(.int en), (.int (sa + (0 : Int32))), (.int r21)]))) (fun t k => ?_) ?_
    · show Steps p.tables e below (T21.setTop (mkF m 102 #[.val (.int p1), .val (.int p2), .val (.int p3), .val (.int p4), .val (.int p5), .val (.int p6), .val (.ref b1), .val (.int sa), .val (.int en), .val (.int r9), .val (.int r10), .val (.ref b11), .val (.int r15), .val (.int r18), .val (.int r21), .unset, .unset, .unset] [(.int en), (.int sa)])) _
      refine XS.icmpYes X21.here hx rfl (pc0 := 102) (pc' := 119) rfl (hb hby at_102) rfl ((flt hc102_22).2.1) (by decide) (by decide) ?_
      show Steps p.tables e below (T21.setTop (mkF m 119 #[.val (.int p1), .val (.int p2), .val (.int p3), .val (.int p4), .val (.int p5), .val (.int p6), .val (.ref b1), .val (.int sa), .val (.int en), .val (.int r9), .val (.int r10), .val (.ref b11), .val (.int r15), .val (.int r18), .val (.int r21), .unset, .unset, .unset] [])) _
      refine XS.iconst X21.here hx rfl (hb hby at_119) ?_
      show Steps p.tables e below (T21.setTop (mkF m 120 #[.val (.int p1), .val (.int p2), .val (.int p3), .val (.int p4), .val (.int p5), .val (.int p6), .val (.ref b1), .val (.int sa), .val (.int en), .val (.int r9), .val (.int r10), .val (.ref b11), .val (.int r15), .val (.int r18), .val (.int r21), .unset, .unset, .unset] [(.int (0 : Int32))])) _
      refine XS.istore X21.here hx rfl (hb hby at_120) rfl (l' := #[.val (.int p1), .val (.int p2), .val (.int p3), .val (.int p4), .val (.int p5), .val (.int p6), .val (.ref b1), .val (.int sa), .val (.int en), .val (.int r9), .val (.int r10), .val (.ref b11), .val (.int r15), .val (.int r18), .val (.int r21), .val (.int (0 : Int32)), .unset, .unset]) rfl ?_
      show Steps p.tables e below (T21.setTop (mkF m 122 #[.val (.int p1), .val (.int p2), .val (.int p3), .val (.int p4), .val (.int p5), .val (.int p6), .val (.ref b1), .val (.int sa), .val (.int en), .val (.int r9), .val (.int r10), .val (.ref b11), .val (.int r15), .val (.int r18), .val (.int r21), .val (.int (0 : Int32)), .unset, .unset] [])) _
      refine XS.iload X21.here hx rfl (hb hby at_122) rfl ?_
      show Steps p.tables e below (T21.setTop (mkF m 124 #[.val (.int p1), .val (.int p2), .val (.int p3), .val (.int p4), .val (.int p5), .val (.int p6), .val (.ref b1), .val (.int sa), .val (.int en), .val (.int r9), .val (.int r10), .val (.ref b11), .val (.int r15), .val (.int r18), .val (.int r21), .val (.int (0 : Int32)), .unset, .unset] [(.int (0 : Int32))])) _
      refine XS.ifYes X21.here hx rfl (pc0 := 124) (pc' := 158) rfl (hb hby at_124) rfl ((if0 _ _).trans (teq (by decide : (0 : Int32) = (0 : Int32))).1) (by decide) (by decide) ?_
      show Steps p.tables e below (T21.setTop (mkF m 158 #[.val (.int p1), .val (.int p2), .val (.int p3), .val (.int p4), .val (.int p5), .val (.int p6), .val (.ref b1), .val (.int sa), .val (.int en), .val (.int r9), .val (.int r10), .val (.ref b11), .val (.int r15), .val (.int r18), .val (.int r21), .val (.int (0 : Int32)), .unset, .unset] [])) _
      refine XS.iload X21.here hx rfl (hb hby at_158) rfl ?_
      show Steps p.tables e below (T21.setTop (mkF m 160 #[.val (.int p1), .val (.int p2), .val (.int p3), .val (.int p4), .val (.int p5), .val (.int p6), .val (.ref b1), .val (.int sa), .val (.int en), .val (.int r9), .val (.int r10), .val (.ref b11), .val (.int r15), .val (.int r18), .val (.int r21), .val (.int (0 : Int32)), .unset, .unset] [(.int sa)])) _
      refine XS.iload X21.here hx rfl (hb hby at_160) rfl ?_
      show Steps p.tables e below (T21.setTop (mkF m 162 #[.val (.int p1), .val (.int p2), .val (.int p3), .val (.int p4), .val (.int p5), .val (.int p6), .val (.ref b1), .val (.int sa), .val (.int en), .val (.int r9), .val (.int r10), .val (.ref b11), .val (.int r15), .val (.int r18), .val (.int r21), .val (.int (0 : Int32)), .unset, .unset] [(.int en), (.int sa)])) _
      refine XS.icmpYes X21.here hx rfl (pc0 := 162) (pc' := 179) rfl (hb hby at_162) rfl ((flt hc102_22).2.1) (by decide) (by decide) ?_
      show Steps p.tables e below (T21.setTop (mkF m 179 #[.val (.int p1), .val (.int p2), .val (.int p3), .val (.int p4), .val (.int p5), .val (.int p6), .val (.ref b1), .val (.int sa), .val (.int en), .val (.int r9), .val (.int r10), .val (.ref b11), .val (.int r15), .val (.int r18), .val (.int r21), .val (.int (0 : Int32)), .unset, .unset] [])) _
      refine XS.iconst X21.here hx rfl (hb hby at_179) ?_
      show Steps p.tables e below (T21.setTop (mkF m 180 #[.val (.int p1), .val (.int p2), .val (.int p3), .val (.int p4), .val (.int p5), .val (.int p6), .val (.ref b1), .val (.int sa), .val (.int en), .val (.int r9), .val (.int r10), .val (.ref b11), .val (.int r15), .val (.int r18), .val (.int r21), .val (.int (0 : Int32)), .unset, .unset] [(.int (0 : Int32))])) _
      refine XS.istore X21.here hx rfl (hb hby at_180) rfl (l' := #[.val (.int p1), .val (.int p2), .val (.int p3), .val (.int p4), .val (.int p5), .val (.int p6), .val (.ref b1), .val (.int sa), .val (.int en), .val (.int r9), .val (.int r10), .val (.ref b11), .val (.int r15), .val (.int r18), .val (.int r21), .val (.int (0 : Int32)), .val (.int (0 : Int32)), .unset]) rfl ?_
      show Steps p.tables e below (T21.setTop (mkF m 182 #[.val (.int p1), .val (.int p2), .val (.int p3), .val (.int p4), .val (.int p5), .val (.int p6), .val (.ref b1), .val (.int sa), .val (.int en), .val (.int r9), .val (.int r10), .val (.ref b11), .val (.int r15), .val (.int r18), .val (.int r21), .val (.int (0 : Int32)), .val (.int (0 : Int32)), .unset] [])) _
      refine XS.iload X21.here hx rfl (hb hby at_182) rfl ?_
      show Steps p.tables e below (T21.setTop (mkF m 184 #[.val (.int p1), .val (.int p2), .val (.int p3), .val (.int p4), .val (.int p5), .val (.int p6), .val (.ref b1), .val (.int sa), .val (.int en), .val (.int r9), .val (.int r10), .val (.ref b11), .val (.int r15), .val (.int r18), .val (.int r21), .val (.int (0 : Int32)), .val (.int (0 : Int32)), .unset] [(.int (0 : Int32))])) _
      refine XS.ifYes X21.here hx rfl (pc0 := 184) (pc' := 191) rfl (hb hby at_184) rfl ((if0 _ _).trans (teq (by decide : (0 : Int32) = (0 : Int32))).1) (by decide) (by decide) ?_
      show Steps p.tables e below (T21.setTop (mkF m 191 #[.val (.int p1), .val (.int p2), .val (.int p3), .val (.int p4), .val (.int p5), .val (.int p6), .val (.ref b1), .val (.int sa), .val (.int en), .val (.int r9), .val (.int r10), .val (.ref b11), .val (.int r15), .val (.int r18), .val (.int r21), .val (.int (0 : Int32)), .val (.int (0 : Int32)), .unset] [])) _
      refine XS.iconst X21.here hx rfl (hb hby at_191) ?_
      show Steps p.tables e below (T21.setTop (mkF m 192 #[.val (.int p1), .val (.int p2), .val (.int p3), .val (.int p4), .val (.int p5), .val (.int p6), .val (.ref b1), .val (.int sa), .val (.int en), .val (.int r9), .val (.int r10), .val (.ref b11), .val (.int r15), .val (.int r18), .val (.int r21), .val (.int (0 : Int32)), .val (.int (0 : Int32)), .unset] [(.int (0 : Int32))])) _
      refine XS.iload X21.here hx rfl (hb hby at_192) rfl ?_
      show Steps p.tables e below (T21.setTop (mkF m 194 #[.val (.int p1), .val (.int p2), .val (.int p3), .val (.int p4), .val (.int p5), .val (.int p6), .val (.ref b1), .val (.int sa), .val (.int en), .val (.int r9), .val (.int r10), .val (.ref b11), .val (.int r15), .val (.int r18), .val (.int r21), .val (.int (0 : Int32)), .val (.int (0 : Int32)), .unset] [(.int (0 : Int32)), (.int (0 : Int32))])) _
      refine XS.ifYes X21.here hx rfl (pc0 := 194) (pc' := 201) rfl (hb hby at_194) rfl ((if0 _ _).trans (teq (by decide : (0 : Int32) = (0 : Int32))).1) (by decide) (by decide) ?_
      show Steps p.tables e below (T21.setTop (mkF m 201 #[.val (.int p1), .val (.int p2), .val (.int p3), .val (.int p4), .val (.int p5), .val (.int p6), .val (.ref b1), .val (.int sa), .val (.int en), .val (.int r9), .val (.int r10), .val (.ref b11), .val (.int r15), .val (.int r18), .val (.int r21), .val (.int (0 : Int32)), .val (.int (0 : Int32)), .unset] [(.int (0 : Int32))])) _
      refine XS.iconst X21.here hx rfl (hb hby at_201) ?_
      show Steps p.tables e below (T21.setTop (mkF m 202 #[.val (.int p1), .val (.int p2), .val (.int p3), .val (.int p4), .val (.int p5), .val (.int p6), .val (.ref b1), .val (.int sa), .val (.int en), .val (.int r9), .val (.int r10), .val (.ref b11), .val (.int r15), .val (.int r18), .val (.int r21), .val (.int (0 : Int32)), .val (.int (0 : Int32)), .unset] [(.int (0 : Int32)), (.int (0 : Int32))])) _
      refine XS.iadd X21.here hx rfl (hb hby at_202) rfl ?_
      show Steps p.tables e below (T21.setTop (mkF m 203 #[.val (.int p1), .val (.int p2), .val (.int p3), .val (.int p4), .val (.int p5), .val (.int p6), .val (.ref b1), .val (.int sa), .val (.int en), .val (.int r9), .val (.int r10), .val (.ref b11), .val (.int r15), .val (.int r18), .val (.int r21), .val (.int (0 : Int32)), .val (.int (0 : Int32)), .unset] [(.int (0 : Int32))])) _
      refine XS.istore X21.here hx rfl (hb hby at_203) rfl (l' := #[.val (.int p1), .val (.int p2), .val (.int p3), .val (.int p4), .val (.int p5), .val (.int p6), .val (.ref b1), .val (.int sa), .val (.int en), .val (.int r9), .val (.int r10), .val (.ref b11), .val (.int r15), .val (.int r18), .val (.int r21), .val (.int (0 : Int32)), .val (.int (0 : Int32)), .val (.int (0 : Int32))]) rfl ?_
      show Steps p.tables e below (T21.setTop (mkF m 205 #[.val (.int p1), .val (.int p2), .val (.int p3), .val (.int p4), .val (.int p5), .val (.int p6), .val (.ref b1), .val (.int sa), .val (.int en), .val (.int r9), .val (.int r10), .val (.ref b11), .val (.int r15), .val (.int r18), .val (.int r21), .val (.int (0 : Int32)), .val (.int (0 : Int32)), .val (.int (0 : Int32))] [])) _
      refine XS.iload X21.here hx rfl (hb hby at_205) rfl ?_
      show Steps p.tables e below (T21.setTop (mkF m 207 #[.val (.int p1), .val (.int p2), .val (.int p3), .val (.int p4), .val (.int p5), .val (.int p6), .val (.ref b1), .val (.int sa), .val (.int en), .val (.int r9), .val (.int r10), .val (.ref b11), .val (.int r15), .val (.int r18), .val (.int r21), .val (.int (0 : Int32)), .val (.int (0 : Int32)), .val (.int (0 : Int32))] [(.int r15)])) _
      refine XS.iload X21.here hx rfl (hb hby at_207) rfl ?_
      show Steps p.tables e below (T21.setTop (mkF m 209 #[.val (.int p1), .val (.int p2), .val (.int p3), .val (.int p4), .val (.int p5), .val (.int p6), .val (.ref b1), .val (.int sa), .val (.int en), .val (.int r9), .val (.int r10), .val (.ref b11), .val (.int r15), .val (.int r18), .val (.int r21), .val (.int (0 : Int32)), .val (.int (0 : Int32)), .val (.int (0 : Int32))] [(.int (0 : Int32)), (.int r15)])) _
      refine XS.icmpNo X21.here hx rfl (hb hby at_209) rfl ((teq (e_r1 : r15 = (0 : Int32))).2) ?_
      show Steps p.tables e below (T21.setTop (mkF m 212 #[.val (.int p1), .val (.int p2), .val (.int p3), .val (.int p4), .val (.int p5), .val (.int p6), .val (.ref b1), .val (.int sa), .val (.int en), .val (.int r9), .val (.int r10), .val (.ref b11), .val (.int r15), .val (.int r18), .val (.int r21), .val (.int (0 : Int32)), .val (.int (0 : Int32)), .val (.int (0 : Int32))] [])) _
      refine XS.iload X21.here hx rfl (hb hby at_212) rfl ?_
      show Steps p.tables e below (T21.setTop (mkF m 214 #[.val (.int p1), .val (.int p2), .val (.int p3), .val (.int p4), .val (.int p5), .val (.int p6), .val (.ref b1), .val (.int sa), .val (.int en), .val (.int r9), .val (.int r10), .val (.ref b11), .val (.int r15), .val (.int r18), .val (.int r21), .val (.int (0 : Int32)), .val (.int (0 : Int32)), .val (.int (0 : Int32))] [(.int r18)])) _
      refine XS.iload X21.here hx rfl (hb hby at_214) rfl ?_
      show Steps p.tables e below (T21.setTop (mkF m 216 #[.val (.int p1), .val (.int p2), .val (.int p3), .val (.int p4), .val (.int p5), .val (.int p6), .val (.ref b1), .val (.int sa), .val (.int en), .val (.int r9), .val (.int r10), .val (.ref b11), .val (.int r15), .val (.int r18), .val (.int r21), .val (.int (0 : Int32)), .val (.int (0 : Int32)), .val (.int (0 : Int32))] [(.int (0 : Int32)), (.int r18)])) _
      refine XS.icmpNo X21.here hx rfl (hb hby at_216) rfl ((teq (e_r2 : r18 = (0 : Int32))).2) ?_
      show Steps p.tables e below (T21.setTop (mkF m 219 #[.val (.int p1), .val (.int p2), .val (.int p3), .val (.int p4), .val (.int p5), .val (.int p6), .val (.ref b1), .val (.int sa), .val (.int en), .val (.int r9), .val (.int r10), .val (.ref b11), .val (.int r15), .val (.int r18), .val (.int r21), .val (.int (0 : Int32)), .val (.int (0 : Int32)), .val (.int (0 : Int32))] [])) _
      refine XS.iload X21.here hx rfl (hb hby at_219) rfl ?_
      show Steps p.tables e below (T21.setTop (mkF m 221 #[.val (.int p1), .val (.int p2), .val (.int p3), .val (.int p4), .val (.int p5), .val (.int p6), .val (.ref b1), .val (.int sa), .val (.int en), .val (.int r9), .val (.int r10), .val (.ref b11), .val (.int r15), .val (.int r18), .val (.int r21), .val (.int (0 : Int32)), .val (.int (0 : Int32)), .val (.int (0 : Int32))] [(.int r21)])) _
      refine XS.iload X21.here hx rfl (hb hby at_221) rfl ?_
      show Steps p.tables e below (T21.setTop (mkF m 223 #[.val (.int p1), .val (.int p2), .val (.int p3), .val (.int p4), .val (.int p5), .val (.int p6), .val (.ref b1), .val (.int sa), .val (.int en), .val (.int r9), .val (.int r10), .val (.ref b11), .val (.int r15), .val (.int r18), .val (.int r21), .val (.int (0 : Int32)), .val (.int (0 : Int32)), .val (.int (0 : Int32))] [(.int sa), (.int r21)])) _
      refine XS.iload X21.here hx rfl (hb hby at_223) rfl ?_
      show Steps p.tables e below (T21.setTop (mkF m 225 #[.val (.int p1), .val (.int p2), .val (.int p3), .val (.int p4), .val (.int p5), .val (.int p6), .val (.ref b1), .val (.int sa), .val (.int en), .val (.int r9), .val (.int r10), .val (.ref b11), .val (.int r15), .val (.int r18), .val (.int r21), .val (.int (0 : Int32)), .val (.int (0 : Int32)), .val (.int (0 : Int32))] [(.int (0 : Int32)), (.int sa), (.int r21)])) _
      refine XS.iadd X21.here hx rfl (hb hby at_225) rfl ?_
      show Steps p.tables e below (T21.setTop (mkF m 226 #[.val (.int p1), .val (.int p2), .val (.int p3), .val (.int p4), .val (.int p5), .val (.int p6), .val (.ref b1), .val (.int sa), .val (.int en), .val (.int r9), .val (.int r10), .val (.ref b11), .val (.int r15), .val (.int r18), .val (.int r21), .val (.int (0 : Int32)), .val (.int (0 : Int32)), .val (.int (0 : Int32))] [(.int (sa + (0 : Int32))), (.int r21)])) _
      refine XS.iload X21.here hx rfl (hb hby at_226) rfl ?_
      show Steps p.tables e below (T21.setTop (mkF m 228 #[.val (.int p1), .val (.int p2), .val (.int p3), .val (.int p4), .val (.int p5), .val (.int p6), .val (.ref b1), .val (.int sa), .val (.int en), .val (.int r9), .val (.int r10), .val (.ref b11), .val (.int r15), .val (.int r18), .val (.int r21), .val (.int (0 : Int32)), .val (.int (0 : Int32)), .val (.int (0 : Int32))] [(.int en), (.int (sa + (0 : Int32))), (.int r21)])) _
      exact k
    by_cases hc228_36 : (sa + (0 : Int32)) = en
    · obtain ⟨fs, hr, hrun, hended, hW, hsame⟩ := X21.leave (v := some (.int (1 : Int32))) (fun h => by rw [Bd.returns] at h; cases h)
      refine ⟨_, _, ?_, hrun, hended, _, _, rfl, ?_, ⟨_, rfl⟩, hW, hsame.mono (by decide) (by decide)⟩
      · show Steps p.tables e below (T21.setTop (mkF m 228 #[.val (.int p1), .val (.int p2), .val (.int p3), .val (.int p4), .val (.int p5), .val (.int p6), .val (.ref b1), .val (.int sa), .val (.int en), .val (.int r9), .val (.int r10), .val (.ref b11), .val (.int r15), .val (.int r18), .val (.int r21), .val (.int (0 : Int32)), .val (.int (0 : Int32)), .val (.int (0 : Int32))] [(.int en), (.int (sa + (0 : Int32))), (.int r21)])) _
        refine XS.icmpNo X21.here hx rfl (hb hby at_228) rfl ((teq hc228_36).2) ?_
        show Steps p.tables e below (T21.setTop (mkF m 231 #[.val (.int p1), .val (.int p2), .val (.int p3), .val (.int p4), .val (.int p5), .val (.int p6), .val (.ref b1), .val (.int sa), .val (.int en), .val (.int r9), .val (.int r10), .val (.ref b11), .val (.int r15), .val (.int r18), .val (.int r21), .val (.int (0 : Int32)), .val (.int (0 : Int32)), .val (.int (0 : Int32))] [(.int r21)])) _
        refine XS.iconst X21.here hx rfl (hb hby at_231) ?_
        show Steps p.tables e below (T21.setTop (mkF m 232 #[.val (.int p1), .val (.int p2), .val (.int p3), .val (.int p4), .val (.int p5), .val (.int p6), .val (.ref b1), .val (.int sa), .val (.int en), .val (.int r9), .val (.int r10), .val (.ref b11), .val (.int r15), .val (.int r18), .val (.int r21), .val (.int (0 : Int32)), .val (.int (0 : Int32)), .val (.int (0 : Int32))] [(.int (1 : Int32)), (.int r21)])) _
        refine XS.goto X21.here hx rfl (pc0 := 232) (pc' := 236) rfl (hb hby at_232) (by decide) (by decide) ?_
        show Steps p.tables e below (T21.setTop (mkF m 236 #[.val (.int p1), .val (.int p2), .val (.int p3), .val (.int p4), .val (.int p5), .val (.int p6), .val (.ref b1), .val (.int sa), .val (.int en), .val (.int r9), .val (.int r10), .val (.ref b11), .val (.int r15), .val (.int r18), .val (.int r21), .val (.int (0 : Int32)), .val (.int (0 : Int32)), .val (.int (0 : Int32))] [(.int (1 : Int32)), (.int r21)])) _
        refine XS.icmpNo X21.here hx rfl (hb hby at_236) rfl ((teq (by rw [hr21, e_w3, ← Int32.add_zero sa, if_pos hc228_36] : r21 = (1 : Int32))).2) ?_
        show Steps p.tables e below (T21.setTop (mkF m 239 #[.val (.int p1), .val (.int p2), .val (.int p3), .val (.int p4), .val (.int p5), .val (.int p6), .val (.ref b1), .val (.int sa), .val (.int en), .val (.int r9), .val (.int r10), .val (.ref b11), .val (.int r15), .val (.int r18), .val (.int r21), .val (.int (0 : Int32)), .val (.int (0 : Int32)), .val (.int (0 : Int32))] [])) _
        refine XS.iconst X21.here hx rfl (hb hby at_239) ?_
        show Steps p.tables e below (T21.setTop (mkF m 240 #[.val (.int p1), .val (.int p2), .val (.int p3), .val (.int p4), .val (.int p5), .val (.int p6), .val (.ref b1), .val (.int sa), .val (.int en), .val (.int r9), .val (.int r10), .val (.ref b11), .val (.int r15), .val (.int r18), .val (.int r21), .val (.int (0 : Int32)), .val (.int (0 : Int32)), .val (.int (0 : Int32))] [(.int (1 : Int32))])) _
        refine XS.goto X21.here hx rfl (pc0 := 240) (pc' := 244) rfl (hb hby at_240) (by decide) (by decide) ?_
        show Steps p.tables e below (T21.setTop (mkF m 244 #[.val (.int p1), .val (.int p2), .val (.int p3), .val (.int p4), .val (.int p5), .val (.int p6), .val (.ref b1), .val (.int sa), .val (.int en), .val (.int r9), .val (.int r10), .val (.ref b11), .val (.int r15), .val (.int r18), .val (.int r21), .val (.int (0 : Int32)), .val (.int (0 : Int32)), .val (.int (0 : Int32))] [(.int (1 : Int32))])) _
        exact retN X21 hx (t := .boolean) Bd.returns (by simp) (hb hby at_244) hr
      · exact ⟨rfl, N21⟩
    · obtain ⟨fs, hr, hrun, hended, hW, hsame⟩ := X21.leave (v := some (.int (1 : Int32))) (fun h => by rw [Bd.returns] at h; cases h)
      refine ⟨_, _, ?_, hrun, hended, _, _, rfl, ?_, ⟨_, rfl⟩, hW, hsame.mono (by decide) (by decide)⟩
      · show Steps p.tables e below (T21.setTop (mkF m 228 #[.val (.int p1), .val (.int p2), .val (.int p3), .val (.int p4), .val (.int p5), .val (.int p6), .val (.ref b1), .val (.int sa), .val (.int en), .val (.int r9), .val (.int r10), .val (.ref b11), .val (.int r15), .val (.int r18), .val (.int r21), .val (.int (0 : Int32)), .val (.int (0 : Int32)), .val (.int (0 : Int32))] [(.int en), (.int (sa + (0 : Int32))), (.int r21)])) _
        refine XS.icmpYes X21.here hx rfl (pc0 := 228) (pc' := 235) rfl (hb hby at_228) rfl ((feq hc228_36).2) (by decide) (by decide) ?_
        show Steps p.tables e below (T21.setTop (mkF m 235 #[.val (.int p1), .val (.int p2), .val (.int p3), .val (.int p4), .val (.int p5), .val (.int p6), .val (.ref b1), .val (.int sa), .val (.int en), .val (.int r9), .val (.int r10), .val (.ref b11), .val (.int r15), .val (.int r18), .val (.int r21), .val (.int (0 : Int32)), .val (.int (0 : Int32)), .val (.int (0 : Int32))] [(.int r21)])) _
        refine XS.iconst X21.here hx rfl (hb hby at_235) ?_
        show Steps p.tables e below (T21.setTop (mkF m 236 #[.val (.int p1), .val (.int p2), .val (.int p3), .val (.int p4), .val (.int p5), .val (.int p6), .val (.ref b1), .val (.int sa), .val (.int en), .val (.int r9), .val (.int r10), .val (.ref b11), .val (.int r15), .val (.int r18), .val (.int r21), .val (.int (0 : Int32)), .val (.int (0 : Int32)), .val (.int (0 : Int32))] [(.int (0 : Int32)), (.int r21)])) _
        refine XS.icmpNo X21.here hx rfl (hb hby at_236) rfl ((teq (by rw [hr21, e_w3, ← Int32.add_zero sa, if_neg hc228_36] : r21 = (0 : Int32))).2) ?_
        show Steps p.tables e below (T21.setTop (mkF m 239 #[.val (.int p1), .val (.int p2), .val (.int p3), .val (.int p4), .val (.int p5), .val (.int p6), .val (.ref b1), .val (.int sa), .val (.int en), .val (.int r9), .val (.int r10), .val (.ref b11), .val (.int r15), .val (.int r18), .val (.int r21), .val (.int (0 : Int32)), .val (.int (0 : Int32)), .val (.int (0 : Int32))] [])) _
        refine XS.iconst X21.here hx rfl (hb hby at_239) ?_
        show Steps p.tables e below (T21.setTop (mkF m 240 #[.val (.int p1), .val (.int p2), .val (.int p3), .val (.int p4), .val (.int p5), .val (.int p6), .val (.ref b1), .val (.int sa), .val (.int en), .val (.int r9), .val (.int r10), .val (.ref b11), .val (.int r15), .val (.int r18), .val (.int r21), .val (.int (0 : Int32)), .val (.int (0 : Int32)), .val (.int (0 : Int32))] [(.int (1 : Int32))])) _
        refine XS.goto X21.here hx rfl (pc0 := 240) (pc' := 244) rfl (hb hby at_240) (by decide) (by decide) ?_
        show Steps p.tables e below (T21.setTop (mkF m 244 #[.val (.int p1), .val (.int p2), .val (.int p3), .val (.int p4), .val (.int p5), .val (.int p6), .val (.ref b1), .val (.int sa), .val (.int en), .val (.int r9), .val (.int r10), .val (.ref b11), .val (.int r15), .val (.int r18), .val (.int r21), .val (.int (0 : Int32)), .val (.int (0 : Int32)), .val (.int (0 : Int32))] [(.int (1 : Int32))])) _
        exact retN X21 hx (t := .boolean) Bd.returns (by simp) (hb hby at_244) hr
      · exact ⟨rfl, N21⟩
set_option maxRecDepth 65536 in
set_option maxHeartbeats 40000000 in
theorem comes_1 {Post : Tables → Env → Array Value → State → Outcome → State → Prop} (hpost : ∀ tb e args s v u, (limb_1_1.after args s (.returned v) u = true ∧ limb_1_2.after args s (.returned v) u = true ∧ True) → FrameEnd s (.returned v) u (Jvm.fieldLocs frame_1_writes args s ++ Jvm.arrayLocs frame_1_arrays args s ++ Jvm.staticLocs frame_1_statics s) 16 128 → Post tb e args s (.returned v) u) :
    ArmFor flags0 classFile x code maxLocals ret World_1 tables_1 room_1 Calls_1 rest_1 Pre_1 Post := by
  intro l hfl _ _ p e ha hc hk s m args below hf hA hF happ hP
  obtain ⟨hcalls, hrest, hpre⟩ := hP
  obtain ⟨-, -, -, hnamed, -, -, -, hat⟩ := (Spec.applies_iff hf).mp happ
  obtain ⟨hg, hn⟩ := and_e (Cond.before_iff.mp (show (Jvm.Cond.and given_1 narrow_1).before args s = true from hpre))
  obtain ⟨g1, g2⟩ := and_e hg
  obtain ⟨g3, g4⟩ := and_e g2
  obtain ⟨g5, g6⟩ := and_e g4
  obtain ⟨g7, g8⟩ := and_e g6
  obtain ⟨g9, g10⟩ := and_e g8
  obtain ⟨g11, g12⟩ := and_e g10
  obtain ⟨w0, w1, w2, w3, w4, w5, rfl⟩ : ∃ w0 w1 w2 w3 w4 w5 : Value, args = #[w0, w1, w2, w3, w4, w5] := by
    have hs : args.size = 6 := by simpa [Cond.value, given_1] using g1
    obtain ⟨L⟩ := args
    match L, hs with
    | [w0, w1, w2, w3, w4, w5], _ => exact ⟨w0, w1, w2, w3, w4, w5, rfl⟩
  have hw := fun d (hd : d ∈ tables_1) => atoms_spec (ws := Jvm.Cond.code x code maxLocals ret :: tables_1) hat d (List.mem_cons_of_mem _ hd)
  have hfit : Fit s := fun {y c} hc i hi => by
    obtain ⟨ha, rfl⟩ := Array.getElem?_eq_some_iff.mp hc
    have q := List.all_eq_true.mp ((Array.all_eq_true_iff_forall_mem.mp hF) _ (Array.getElem_mem ha)) i (List.mem_range.mpr hi)
    simpa [Array.getElem?_eq_getElem hi] using q
  obtain ⟨i0, ei0⟩ := is_v g3
  obtain rfl : w0 = (.int i0) := Option.some.inj ei0
  obtain ⟨i1, ei1⟩ := is_v g5
  obtain rfl : w1 = (.int i1) := Option.some.inj ei1
  obtain ⟨i2, ei2⟩ := is_v g7
  obtain rfl : w2 = (.int i2) := Option.some.inj ei2
  obtain ⟨i3, ei3⟩ := is_v g9
  obtain rfl : w3 = (.int i3) := Option.some.inj ei3
  obtain ⟨i4, ei4⟩ := is_v g11
  obtain rfl : w4 = (.int i4) := Option.some.inj ei4
  obtain ⟨i5, ei5⟩ := is_v g12
  obtain rfl : w5 = (.int i5) := Option.some.inj ei5
  obtain ⟨n, o, h1, h2, h3, _, L, rfl, ⟨rfl, N⟩, hq⟩ := rm0 l s _ hw tables_1 i0 i1 i2 i3 i4 i5  s.heap s.heap.size (Nat.le_refl _)  p e ha hc hk s m _ below hf ((Spec.applies_iff_loose hf).mp happ).1 ⟨rfl, State.Warmed39.refl s, rfl⟩ trivial
  refine ⟨n, _, h1, h2, h3, hpost _ _ _ _ _ _ ⟨Cond.after_iff.mpr rfl, Cond.after_iff.mpr (eq_i res_at (Term.int_eval (1)) rfl), trivial⟩ ⟨hq.1, hq.2.1, (hq.2.2.sift fun y hy => Or.inr (N y hy)).mono (by decide) (by decide)⟩⟩
theorem main_1_1 : Claimed_1_1 := comes_1 fun _ _ _ _ _ _ h hF => ⟨h.1, hF⟩
theorem main_1_2 : Claimed_1_2 := comes_1 fun _ _ _ _ _ _ h hF => ⟨h.2.1, hF⟩
end Jvm.Pilot.@@N@@
namespace Jvm.Pilot.@@N@@
open Jvm Jvm.ClassFile Sem Op Lib Jvm.Free Jvm.Stand Jvm.Pilot.@@N@@.Jvm.D
/-! MADE BY PROGRAM (witnessworld.py) out of the Statement's table words and the real class files: 11 classes; the members and pool entries that the words name. The judged class is class 1, her method 2. -/
namespace start1
open Jvm.ClassFile
def u (s : String) : CpInfo := .utf8 (stringToUtf16 s)
/-- a pool by its gaps: so many unusable entries, then the entry; so many at the end -/
def gap : Nat → List CpInfo → List CpInfo
  | 0, r => r
  | n + 1, r => .unusable :: gap n r
def poolList (es : List (Nat × CpInfo)) (last : Nat) : List CpInfo := es.foldr (fun e r => gap e.1 (e.2 :: r)) (gap last [])
def pool (es : List (Nat × CpInfo)) (last : Nat) : Array CpInfo := ⟨poolList es last⟩
def fileOf (pool : Array CpInfo) (this : Nat) (attrs : Array Attribute := #[]) (ms : Array MethodInfo := #[]) (fl : Nat := 33) (sup : Nat := 0) (ifs : Array Nat := #[]) (fds : Array FieldInfo := #[]) : ClassFile where
  minorVersion := 0
  majorVersion := 65
  constantPool := pool
  accessFlags := fl
  thisClass := this
  superClass := sup
  interfaces := ifs
  fields := fds
  methods := ms
  attributes := attrs
def plain (name : String) (sup : Option ClassId) : Class where
  name := name
  kind := .ordinary
  loader := none
  accessFlags := 33
  super := sup
  interfaces := #[]
  cf := none
  fields := #[]
  methods := #[]
  instanceTypes := #[]
  staticTypes := #[]
  resolved := #[]
  callSites := []
  init := .initialized
  statics := none
  mirror := none

def pool0 : Array CpInfo := pool [(5, u "<init>"), (0, u "()V"), (1, .class_ 10), (1, u "java/lang/Object")] 113

def k0c0 : Code := { maxStack := 0, maxLocals := 1, code := object_method_1_code, exceptionTable := #[], attributes := #[] }
def k0m0 : Method := { name := "<init>", desc := "()V", sig := { parameters := [], returnType := none }, accessFlags := 1, code := some k0c0 }
/-- java/lang/Object -/
def k0 : Class := { plain "java/lang/Object" none with
  accessFlags := 33
  interfaces := #[]
  cf := some (fileOf pool0 8 #[] #[{ accessFlags := 1, nameIndex := 5, descriptorIndex := 6, attributes := #[] }] 33 0 #[] #[])
  fields := #[]
  methods := #[k0m0]
  instanceTypes := #[]
  staticTypes := #[]
  resolved := Array.replicate 124 none
  statics := none }

def pool1 : Array CpInfo := pool [(2, .class_ 4), (1, u "java/lang/Object"), (0, u "<init>"), (0, u "()V"), (0, .methodref 8 9), (0, .class_ 10), (0, .nameAndType 11 12), (0, u "com/example/flowglyph/flowglyph/core/TextCursorSkipPinLaw"), (0, u "pick"), (0, u "([CI)C"), (0, .class_ 14), (0, u "com/example/flowglyph/flowglyph/core/TextCursor"), (0, .methodref 13 16), (0, .nameAndType 5 17), (0, u "([CII)V"), (0, .methodref 13 19), (0, .nameAndType 20 21), (0, u "skip"), (0, u "(C)Z"), (0, .methodref 13 23), (0, .nameAndType 24 25), (0, u "readWhole"), (0, u "()Z"), (3, u "law"), (0, u "(IIIIII)Z")] 4

def k1m0 : Method := { name := "<init>", desc := "()V", sig := { parameters := [], returnType := none }, accessFlags := 1, code := none }
def k1c1 : Code := { maxStack := 3, maxLocals := 2, code := method_2_code, exceptionTable := #[], attributes := #[] }
def k1m1 : Method := { name := "pick", desc := "([CI)C", sig := { parameters := [(.array .char), .int], returnType := some .char }, accessFlags := 10, code := some k1c1 }
def k1c2 : Code := { maxStack := 5, maxLocals := 18, code := code, exceptionTable := #[], attributes := #[] }
def k1m2 : Method := { name := "law", desc := "(IIIIII)Z", sig := { parameters := [.int, .int, .int, .int, .int, .int], returnType := some .boolean }, accessFlags := 9, code := some k1c2 }
/-- com/example/flowglyph/flowglyph/core/TextCursorSkipPinLaw -/
def k1 : Class := { plain "com/example/flowglyph/flowglyph/core/TextCursorSkipPinLaw" (some 0) with
  accessFlags := 49
  interfaces := #[]
  cf := some (fileOf pool1 8 #[] #[{ accessFlags := 1, nameIndex := 5, descriptorIndex := 6, attributes := #[] }, { accessFlags := 10, nameIndex := 11, descriptorIndex := 12, attributes := #[] }, { accessFlags := 9, nameIndex := 29, descriptorIndex := 30, attributes := #[] }] 49 2 #[] #[])
  fields := #[]
  methods := #[k1m0, k1m1, k1m2]
  instanceTypes := #[]
  staticTypes := #[]
  resolved := Array.replicate 35 none
  statics := none }

def pool2 : Array CpInfo := pool [(14, .class_ 16), (1, u "com/example/flowglyph/flowglyph/core/TextCursor"), (0, u "<init>"), (0, u "([CII)V"), (0, .methodref 20 21), (0, .class_ 22), (0, .nameAndType 17 23), (0, u "java/lang/Object"), (0, u "()V"), (0, .fieldref 14 25), (0, .nameAndType 26 27), (0, u "text"), (0, u "[C"), (0, .fieldref 14 29), (0, .nameAndType 30 31), (0, u "position"), (0, u "I"), (0, .fieldref 14 33), (0, .nameAndType 34 31), (0, u "end"), (3, u "(C)Z"), (29, u "tooLarge"), (0, u "Ljava/lang/String;"), (3, u "skip"), (3, u "TOO_LARGE"), (0, u "J"), (1, u "FAILED"), (11, u "readWhole"), (0, u "()Z")] 2

def k2c0 : Code := { maxStack := 2, maxLocals := 4, code := prog_49_method_2_code, exceptionTable := #[], attributes := #[] }
def k2m0 : Method := { name := "<init>", desc := "([CII)V", sig := { parameters := [(.array .char), .int, .int], returnType := none }, accessFlags := 0, code := some k2c0 }
def k2c1 : Code := { maxStack := 3, maxLocals := 3, code := prog_49_method_10_code, exceptionTable := #[], attributes := #[] }
def k2m1 : Method := { name := "skip", desc := "(C)Z", sig := { parameters := [.char], returnType := some .boolean }, accessFlags := 0, code := some k2c1 }
def k2c2 : Code := { maxStack := 2, maxLocals := 1, code := prog_49_method_11_code, exceptionTable := #[], attributes := #[] }
def k2m2 : Method := { name := "readWhole", desc := "()Z", sig := { parameters := [], returnType := some .boolean }, accessFlags := 0, code := some k2c2 }
/-- com/example/flowglyph/flowglyph/core/TextCursor -/
def k2 : Class := { plain "com/example/flowglyph/flowglyph/core/TextCursor" (some 0) with
  accessFlags := 48
  interfaces := #[]
  cf := some (fileOf pool2 14 #[] #[{ accessFlags := 0, nameIndex := 17, descriptorIndex := 18, attributes := #[] }, { accessFlags := 0, nameIndex := 73, descriptorIndex := 38, attributes := #[] }, { accessFlags := 0, nameIndex := 92, descriptorIndex := 93, attributes := #[] }] 48 20 #[] #[{ accessFlags := 24, nameIndex := 77, descriptorIndex := 78, attributes := #[] }, { accessFlags := 26, nameIndex := 80, descriptorIndex := 31, attributes := #[] }, { accessFlags := 18, nameIndex := 26, descriptorIndex := 27, attributes := #[] }, { accessFlags := 18, nameIndex := 34, descriptorIndex := 31, attributes := #[] }, { accessFlags := 2, nameIndex := 30, descriptorIndex := 31, attributes := #[] }, { accessFlags := 2, nameIndex := 68, descriptorIndex := 69, attributes := #[] }])
  fields := #[{ name := "TOO_LARGE", type := .long, accessFlags := 24, slot := 0, constantValue := 0 }, { name := "FAILED", type := .int, accessFlags := 26, slot := 1, constantValue := 0 }, { name := "text", type := (.array .char), accessFlags := 18, slot := 0, constantValue := 0 }, { name := "end", type := .int, accessFlags := 18, slot := 1, constantValue := 0 }, { name := "position", type := .int, accessFlags := 2, slot := 2, constantValue := 0 }, { name := "tooLarge", type := (.object "java/lang/String"), accessFlags := 2, slot := 3, constantValue := 0 }]
  methods := #[k2m0, k2m1, k2m2]
  instanceTypes := #[(.array .char), .int, .int, (.object "java/lang/String")]
  staticTypes := #[.long, .int]
  resolved := Array.replicate 96 none
  statics := none }

def pool3 : Array CpInfo := pool [(1, u "java/lang/Cloneable"), (0, .class_ 1), (0, u "java/lang/Object"), (0, .class_ 3)] 3

/-- java/lang/Cloneable -/
def k3 : Class := { plain "java/lang/Cloneable" (some 0) with
  accessFlags := 1537
  interfaces := #[]
  cf := some (fileOf pool3 2 #[] #[] 1537 4 #[] #[])
  fields := #[]
  methods := #[]
  instanceTypes := #[]
  staticTypes := #[]
  resolved := Array.replicate 8 none
  statics := none }

def pool4 : Array CpInfo := pool [(1, u "java/io/Serializable"), (0, .class_ 1), (0, u "java/lang/Object"), (0, .class_ 3)] 3

/-- java/io/Serializable -/
def k4 : Class := { plain "java/io/Serializable" (some 0) with
  accessFlags := 1537
  interfaces := #[]
  cf := some (fileOf pool4 2 #[] #[] 1537 4 #[] #[])
  fields := #[]
  methods := #[]
  instanceTypes := #[]
  staticTypes := #[]
  resolved := Array.replicate 8 none
  statics := none }

/-- the primitive byte -/
def k5 : Class := { plain "byte" none with kind := .primitive 'B', accessFlags := 0x411 }
/-- [B -/
def k6 : Class := { plain "[B" (some 0) with kind := .array 5 .byte, interfaces := #[3, 4], accessFlags := 1041 }

/-- the primitive char -/
def k7 : Class := { plain "char" none with kind := .primitive 'C', accessFlags := 0x411 }
/-- [C -/
def k8 : Class := { plain "[C" (some 0) with kind := .array 7 .char, interfaces := #[3, 4], accessFlags := 1041 }

/-- the primitive int -/
def k9 : Class := { plain "int" none with kind := .primitive 'I', accessFlags := 0x411 }
/-- [I -/
def k10 : Class := { plain "[I" (some 0) with kind := .array 9 .int, interfaces := #[3, 4], accessFlags := 1041 }

def heap : Heap := #[]
def classes : Array Class := #[k0, k1, k2, k3, k4, k5, k6, k7, k8, k9, k10]
def interned : List (Array UInt16 × Addr) := []
def slotsUsed : Nat := 0
def theMethod : MethodId := ⟨1, 2⟩
def args0 : Array Value := #[.int 5, .int 6, .int 7, .int 2, .int 3, .int 4]
def aboutOver (below : List Frame) : State where
  vm := { classes := classes, interned := interned.toArray }
  heap := heap
  slotsUsed := slotsUsed
  threads := #[{ frames := .invoking theMethod args0 :: below }]
def below0 : List Frame := [.native { method := ⟨0, 0⟩, args := #[] }]
def about1 : State := aboutOver below0
def p0 : Program := .bare "" "" ""
def e0 : Env := launch0.env 0 0 0
theorem w_frames : about1.frames = Frame.invoking theMethod args0 :: below0 := rfl
set_option maxRecDepth 65536 in
theorem w_args : argsFit about1.vm theMethod args0 = true := by decide +kernel
set_option maxRecDepth 65536 in
theorem w_heap : heapFits about1 = true := by decide +kernel
set_option maxRecDepth 65536 in
theorem w_runnable : about1.curStatus? = some .runnable := by decide +kernel
set_option maxRecDepth 65536 in
theorem w_alone : about1.alone = true := by decide +kernel
set_option maxRecDepth 65536 in
theorem w_named : about1.methodNamed? x = some theMethod := by decide +kernel
set_option maxRecDepth 65536 in
theorem w_hears : about1.hears theMethod below0 = true := by decide +kernel
set_option maxRecDepth 65536 in
theorem w_ripe : about1.ripe theMethod args0 below0 = true := by decide +kernel
theorem w_running : about1.status = .running := rfl
set_option maxRecDepth 65536 in
theorem w_room : about1.hasRoom e0.platform room_1 = true :=
  launch0.hasRoom_least _ room_1 (by decide +kernel) (by decide +kernel) (by decide +kernel) (by decide +kernel) (by decide +kernel) (by decide +kernel)
theorem allAtoms_all (ts : List Jvm.Cond) (a : Array Jvm.Value) (st : Jvm.State) : (allAtoms ts).before a st = ts.all (fun c => c.before a st) := by
  induction ts with
  | nil => rfl
  | cons c t ih =>
    show (Jvm.Cond.and c (allAtoms t)).before a st = _
    rw [Jvm.Cond.before_and, ih, List.all_cons]
def words1 : List Jvm.Cond := Jvm.Cond.code x code maxLocals ret :: tables_1
/-- a 'code' word, met by the world's own term for the bytes: nothing is compared byte by byte -/
theorem code_word {y : MethodName} {bytes : ByteArray} {mx : Nat} {rt : Option FieldType} {a : Array Value} {s : State} {m : MethodId} {meth : Method} {c : Code} (h1 : s.methodNamed? y = some m) (h2 : s.vm.method? m = some meth) (h3 : meth.code = some c) (h4 : c.code = bytes)
    (h5 : (c.maxLocals == mx && c.exceptionTable.isEmpty && decide (c.maxStack ≤ mostOperands) && decide (meth.sig.returnType = rt) && !meth.locks && decide (parseMethodDescriptor y.desc = some meth.sig)) = true) : (Jvm.Cond.code y bytes mx rt).before a s = true := by
  simp only [Bool.and_eq_true, beq_iff_eq, Bool.not_eq_true', decide_eq_true_eq] at h5
  obtain ⟨⟨⟨⟨⟨g1, g2⟩, g3⟩, g4⟩, g5⟩, g6⟩ := h5
  simp [Cond.before, Cond.holds, Cond.value, h1, h2, h3, h4, g1, g2, g3, g4, g5, g6]
def isCode : Jvm.Cond → Bool
  | .code _ _ _ _ => true
  | _ => false
theorem all_split {L : List Jvm.Cond} {P : Jvm.Cond → Bool} (h1 : L.all (fun c => isCode c || P c) = true) (h2 : ∀ c ∈ L.filter isCode, P c = true) : L.all P = true := by
  refine List.all_eq_true.mpr fun c hc => ?_
  have h := List.all_eq_true.mp h1 c hc
  rcases Bool.eq_false_or_eq_true (isCode c) with hi | hi
  · exact h2 c (List.mem_filter.mpr ⟨hc, hi⟩)
  · simpa [hi] using h
set_option maxRecDepth 65536 in
theorem w_c0 : (Jvm.Cond.code x code maxLocals ret).before args0 about1 = true := code_word (m := ⟨1, 2⟩) (meth := k1m2) (c := k1c2) (by decide +kernel) rfl rfl rfl (by decide +kernel)
set_option maxRecDepth 65536 in
theorem w_c1 : (Jvm.Cond.code ({ cls := "com/example/flowglyph/flowglyph/core/TextCursorSkipPinLaw", name := "pick", desc := "([CI)C" } : Jvm.MethodName) method_2_code (2 : Nat) (Option.some Jvm.ClassFile.FieldType.char)).before args0 about1 = true := code_word (m := ⟨1, 1⟩) (meth := k1m1) (c := k1c1) (by decide +kernel) rfl rfl rfl (by decide +kernel)
set_option maxRecDepth 65536 in
theorem w_c2 : (Jvm.Cond.code ({ cls := "com/example/flowglyph/flowglyph/core/TextCursor", name := "<init>", desc := "([CII)V" } : Jvm.MethodName) prog_49_method_2_code (4 : Nat) (Option.none : Option Jvm.ClassFile.FieldType)).before args0 about1 = true := code_word (m := ⟨2, 0⟩) (meth := k2m0) (c := k2c0) (by decide +kernel) rfl rfl rfl (by decide +kernel)
set_option maxRecDepth 65536 in
theorem w_c3 : (Jvm.Cond.code ({ cls := "java/lang/Object", name := "<init>", desc := "()V" } : Jvm.MethodName) object_method_1_code (1 : Nat) (Option.none : Option Jvm.ClassFile.FieldType)).before args0 about1 = true := code_word (m := ⟨0, 0⟩) (meth := k0m0) (c := k0c0) (by decide +kernel) rfl rfl rfl (by decide +kernel)
set_option maxRecDepth 65536 in
theorem w_c4 : (Jvm.Cond.code ({ cls := "com/example/flowglyph/flowglyph/core/TextCursor", name := "skip", desc := "(C)Z" } : Jvm.MethodName) prog_49_method_10_code (3 : Nat) (Option.some Jvm.ClassFile.FieldType.boolean)).before args0 about1 = true := code_word (m := ⟨2, 1⟩) (meth := k2m1) (c := k2c1) (by decide +kernel) rfl rfl rfl (by decide +kernel)
set_option maxRecDepth 65536 in
theorem w_c5 : (Jvm.Cond.code ({ cls := "com/example/flowglyph/flowglyph/core/TextCursor", name := "readWhole", desc := "()Z" } : Jvm.MethodName) prog_49_method_11_code (1 : Nat) (Option.some Jvm.ClassFile.FieldType.boolean)).before args0 about1 = true := code_word (m := ⟨2, 2⟩) (meth := k2m2) (c := k2c2) (by decide +kernel) rfl rfl rfl (by decide +kernel)
def codes1 : List Jvm.Cond := [Jvm.Cond.code x code maxLocals ret, Jvm.Cond.code ({ cls := "com/example/flowglyph/flowglyph/core/TextCursorSkipPinLaw", name := "pick", desc := "([CI)C" } : Jvm.MethodName) method_2_code (2 : Nat) (Option.some Jvm.ClassFile.FieldType.char), Jvm.Cond.code ({ cls := "com/example/flowglyph/flowglyph/core/TextCursor", name := "<init>", desc := "([CII)V" } : Jvm.MethodName) prog_49_method_2_code (4 : Nat) (Option.none : Option Jvm.ClassFile.FieldType), Jvm.Cond.code ({ cls := "java/lang/Object", name := "<init>", desc := "()V" } : Jvm.MethodName) object_method_1_code (1 : Nat) (Option.none : Option Jvm.ClassFile.FieldType), Jvm.Cond.code ({ cls := "com/example/flowglyph/flowglyph/core/TextCursor", name := "skip", desc := "(C)Z" } : Jvm.MethodName) prog_49_method_10_code (3 : Nat) (Option.some Jvm.ClassFile.FieldType.boolean), Jvm.Cond.code ({ cls := "com/example/flowglyph/flowglyph/core/TextCursor", name := "readWhole", desc := "()Z" } : Jvm.MethodName) prog_49_method_11_code (1 : Nat) (Option.some Jvm.ClassFile.FieldType.boolean)]
set_option maxRecDepth 65536 in
theorem codes_eq : words1.filter isCode = codes1 := rfl
theorem w_codes : ∀ c ∈ words1.filter isCode, c.before args0 about1 = true := by
  rw [codes_eq]
  intro c hc
  simp only [codes1, List.mem_cons, List.not_mem_nil, or_false] at hc
  rcases hc with rfl | rfl | rfl | rfl | rfl | rfl
  · exact w_c0
  · exact w_c1
  · exact w_c2
  · exact w_c3
  · exact w_c4
  · exact w_c5
set_option maxRecDepth 65536 in
theorem w_t1 : (words1.take 24).all (fun c => isCode c || c.before args0 about1) = true := by decide +kernel
set_option maxRecDepth 65536 in
theorem w_t2 : (words1.drop 24).all (fun c => isCode c || c.before args0 about1) = true := by decide +kernel
theorem w_tables : (allAtoms (Jvm.Cond.code x code maxLocals ret :: tables_1)).before args0 about1 = true := by
  rw [allAtoms_all]
  show words1.all (fun c => c.before args0 about1) = true
  refine all_split ?_ w_codes
  rw [← List.take_append_drop 24 words1, List.all_append, w_t1, w_t2]
  rfl
set_option maxRecDepth 65536 in
theorem w_case : (Jvm.Cond.and given_1 narrow_1).before args0 about1 = true := by decide +kernel
theorem w_applies : (headSpec (Jvm.Cond.code x code maxLocals ret :: tables_1) room_1).applies x e0.platform about1 = true :=
  (Spec.applies_iff w_frames).mpr ⟨w_running, w_runnable, w_alone, w_named, w_hears, w_ripe, w_room, w_tables⟩
theorem atStart : AtStart classFile x code maxLocals ret World_1 tables_1 room_1 Calls_1 rest_1 Pre_1 launch0 p0 e0 about1 theMethod args0 below0 :=
  ⟨lists_1, trivial, launch0.admits_env _ _ _, launch0.least_env, fairChoices_fair.cas, fairChoices_fair.clock, w_frames, w_args, w_heap, w_applies, trivial, trivial, w_case⟩
end start1
theorem witness_1 : WitnessClaimed_1 := ⟨start1.p0, start1.e0, start1.about1, start1.theMethod, start1.args0, start1.below0, start1.atStart⟩
end Jvm.Pilot.@@N@@
