import JvmDerived
import JvmDerived.Pilot.@@N@@Statement
import JvmDerived.Pilot.@@N@@Code
set_option linter.unusedVariables false
set_option linter.unusedSimpArgs false
namespace Jvm.RoadKit
open Sem ClassFile Op Lib Jvm.Stand Jvm.Free Jvm.LawKit
section New
variable {p : Program} {l : Launch} {e : Env} {R : Room} {s : State} {m : MethodId} {args : Array Value} {below : List Frame} {meth : Method} {c : Code} {T : State} {locs : List Loc} {cells slots : Nat}
theorem retI (X : Stand p l e R s m args below meth c T locs cells slots) (hx : p.tables.exec = Jvm.exec) {pc : Nat} {Ls : Array Slot} {z : Int32} {rest : List Value} (hret : meth.sig.returnType = some .int) (hd : decode c.code pc = .ok (.ireturn, 1)) {fs : List Frame}
    (hl : ∀ (f : JFrame) (acts : List Action), f.method = m → f.locked = none → f.entered = [] → (doReturn e (T.setTop f) acts (some (.int z))).1 = T.setFrames fs) : Steps p.tables e below (T.setTop (mkF m pc Ls (.int z :: rest))) (T.setFrames fs) := by
  have hm' : T.vm.method? m = some meth := X.method'
  have hn : narrow .int (.int z) = .int z := rfl
  show Steps p.tables e below (T.setTop { method := m, pc := pc, locals := Ls, stack := _ :: rest, locked := none }) _
  jvm_step X.here [X.here.top, hx, hd, hm', hret, hn]
  first | (intro acts; rw [hl _ acts rfl rfl rfl]) | rw [hl _ _ rfl rfl rfl]
  exact Steps.refl _
end New
end Jvm.RoadKit
namespace Jvm.Pilot.@@N@@
open Jvm Jvm.ClassFile Sem Op Lib Jvm.Free Jvm.Stand Jvm.LawKit Jvm.RoadKit Bundle Jvm.Pilot.@@N@@.Jvm.D
-- from the state st the run ends, and Q holds of what it leaves
def GoalS (tb : Tables) (e : Env) (below : List Frame) (s : State) (kc ks : Nat) (Q : Option Value → Heap → List Loc → Prop) (st : State) : Prop :=
  ∃ s₂ o, Steps tb e below st s₂ ∧ s₂.status = .running ∧ Ended s₂ below o ∧ ∃ v L, o = .returned v ∧ Q v s₂.heap L ∧ FrameEnd s o s₂ L kc ks
theorem GoalS.lift {tb : Tables} {e : Env} {below : List Frame} {s : State} {kc ks : Nat} {Q : Option Value → Heap → List Loc → Prop} {A B : State}
    (h : ∀ t, Steps tb e below B t → Steps tb e below A t) (g : GoalS tb e below s kc ks Q B) : GoalS tb e below s kc ks Q A := by
  obtain ⟨s₂, o, h1, h2⟩ := g
  exact ⟨s₂, o, h _ h1, h2⟩
-- an array of n places of which place i holds f i
def AV (Z : State) (h : Heap) (a : Addr) (k : ClassId) (ty : FieldType) (n : Nat) (f : Nat → Value) : Prop := ∃ c : Cell, Arr Z h a c ty ∧ c.cls = k ∧ c.slots.size = n ∧ n < 2147483648 ∧ ∀ i, i < n → c.slots[i]? = some (f i)
def updI (f : Nat → Int32) (j : Nat) (v : Int32) : Nat → Int32 := fun i => if i = j then v else f i
def updJ (f : Nat → Int64) (j : Nat) (v : Int64) : Nat → Int64 := fun i => if i = j then v else f i
def updR (f : Nat → Value) (j : Nat) (v : Value) : Nat → Value := fun i => if i = j then v else f i
section Own
variable {Z : State} {h h' : Heap} {a b : Addr} {k : ClassId} {ty : FieldType} {n : Nat} {f g : Nat → Value} {ws : List Addr} {v : Value} {sl : Nat}
theorem AV.lt (F : AV Z h a k ty n f) : a < h.size := by obtain ⟨c, A, -⟩ := F; exact A.lt
theorem AV.ext (F : AV Z h a k ty n f) (E : Ext h h') : AV Z h' a k ty n f := by obtain ⟨c, A, r⟩ := F; exact ⟨c, A.ext E, r⟩
theorem AV.other (F : AV Z h b k ty n f) (W : Wr h h' a sl v) (q : b ≠ a) : AV Z h' b k ty n f := by obtain ⟨c, A, r⟩ := F; exact ⟨c, A.other W q, r⟩
theorem AV.keep (F : AV Z h a k ty n f) (K : Keep h h' ws) (q : a ∉ ws) : AV Z h' a k ty n f := by obtain ⟨c, A, r⟩ := F; exact ⟨c, ⟨K.2.1 a c A.1 q, A.2⟩, r⟩
theorem AV.new {z : Int32} (A : Arr Z h a (newA k ty z) ty) (q : ¬ z < 0) (hn : z.toNatClampNeg = n) (hb : n < 2147483648) : AV Z h a k ty n (fun _ => defaultValue ty) :=
  ⟨_, A, rfl, (sz_new _ _ _).trans hn, hb, fun i hi => by simp [newA, hn, hi]⟩
theorem AV.inb {c : Cell} {j : Int32} (S : c.slots.size = n) (q : ¬ j < 0 ∧ j.toNatClampNeg < n) : ¬ (j < 0 ∨ c.slots.size ≤ j.toNatClampNeg) := fun u => u.elim q.1 fun w => by omega
theorem AV.inx {j : Int32} (q : ¬ j < 0 ∧ j.toNatClampNeg < n) : j.toNatClampNeg < n := q.2
theorem AV.conv (F : AV Z h a k ty n f) (e : ∀ i, i < n → f i = g i) : AV Z h a k ty n g := by
  obtain ⟨c, A, r1, r2, r3, r4⟩ := F; exact ⟨c, A, r1, r2, r3, fun i hi => (r4 i hi).trans (congrArg some (e i hi))⟩
theorem AV.putR {j : Nat} (F : AV Z h a k ty n f) (W : Wr h h' a j v) (hj : j < n) : AV Z h' a k ty n (updR f j v) := by
  obtain ⟨c, A, r1, r2, r3, r4⟩ := F
  refine ⟨_, A.same W, r1, (sz_set _ _ _).trans r2, r3, fun i hi => ?_⟩
  by_cases q : i = j
  · subst q; simp [Cell.setSlot, updR, r2, hi]
  · have q' : j ≠ i := fun u => q u.symm
    simp only [Cell.setSlot, updR, if_neg q]; rw [Array.getElem?_setIfInBounds_ne q']; exact r4 i hi
theorem AV.putI {j : Nat} {f : Nat → Int32} {v : Int32} (F : AV Z h a k ty n (fun i => Value.int (f i))) (W : Wr h h' a j (.int v)) (hj : j < n) : AV Z h' a k ty n (fun i => Value.int (updI f j v i)) :=
  (F.putR W hj).conv fun i _ => by simp only [updR, updI]; split <;> rfl
theorem AV.putJ {j : Nat} {f : Nat → Int64} {v : Int64} (F : AV Z h a k ty n (fun i => Value.long (f i))) (W : Wr h h' a j (.long v)) (hj : j < n) : AV Z h' a k ty n (fun i => Value.long (updJ f j v i)) :=
  (F.putR W hj).conv fun i _ => by simp only [updR, updJ]; split <;> rfl
end Own


def own_sh (z : Int64) (k : Int32) : Int64 := ((z).toUInt64 >>> (k &&& 0x3f).toInt64.toUInt64).toInt64
def own_m1 (z : Int64) : Int64 := (z ^^^ own_sh z 30) * (-4658895280553007687 : Int64)
def own_m2 (z : Int64) : Int64 := (z ^^^ own_sh z 27) * (-7723592293110705685 : Int64)
def own_m3 (z : Int64) : Int64 := z ^^^ own_sh z 31
def own_mix (z : Int64) : Int64 := own_m3 (own_m2 (own_m1 z))


theorem own_n (x : Int32) : 0 ≤ (x &&& 3).toInt ∧ (x &&& 3).toInt < 4 := by
  have h : (x &&& 3).toInt = x.toInt % (2 ^ 2 : Nat) := c_mask x 3 2 (by decide) (by decide)
  omega
theorem own_is {x : Int32} {n : Int} (y : Int32) (hy : y.toInt = n) (h : x.toInt = n) : x = y := Int32.toInt_inj.mp (h.trans hy.symm)
theorem own_s0 (s a b g : Int64) : (s + a * g) + b * g + g = s + ((a + (0 : Int32).toInt64) + b) * g + g := by
  rw [show (0 : Int32).toInt64 = 0 from rfl, Int64.add_zero, Int64.add_mul, Int64.add_assoc s]
theorem own_s1 (s a b g : Int64) : ((s + a * g) + g) + b * g + g = s + ((a + (1 : Int32).toInt64) + b) * g + g := by
  rw [show (1 : Int32).toInt64 = 1 from rfl, Int64.add_mul, Int64.add_mul, Int64.one_mul]; ac_rfl
theorem own_s2 (s a b g : Int64) : (((s + a * g) + g) + g) + b * g + g = s + ((a + (2 : Int32).toInt64) + b) * g + g := by
  rw [show (2 : Int32).toInt64 = 1 + 1 from rfl, Int64.add_mul, Int64.add_mul, Int64.add_mul, Int64.one_mul]; ac_rfl
theorem own_s3 (s a b g : Int64) : ((((s + a * g) + g) + g) + g) + b * g + g = s + ((a + (3 : Int32).toInt64) + b) * g + g := by
  rw [show (3 : Int32).toInt64 = 1 + 1 + 1 from rfl, Int64.add_mul, Int64.add_mul, Int64.add_mul, Int64.add_mul, Int64.one_mul]; ac_rfl

theorem d1_0 : decode prog_4_method_1_code 0 = .ok (.aload_n 0, 1) := by decide +kernel
theorem d1_1 : decode prog_4_method_1_code 1 = .ok (.invokespecial 1, 3) := by decide +kernel
theorem d1_4 : decode prog_4_method_1_code 4 = .ok (.aload_n 0, 1) := by decide +kernel
theorem d1_5 : decode prog_4_method_1_code 5 = .ok (.lload_n 1, 1) := by decide +kernel
theorem d1_6 : decode prog_4_method_1_code 6 = .ok (.putfield 7, 3) := by decide +kernel
theorem d1_9 : decode prog_4_method_1_code 9 = .ok (.return_, 1) := by decide +kernel
theorem pn_0 : plainName "com/example/pipstill/pipstill/Dice" = true := by first | (simp [plainName, overriddenIn]; done) | decide +kernel
theorem ef_rm1 (m : MethodId) (a1 : Addr) (q2 : Int64) : entryFrame m #[(.ref a1), (.long q2)] 3 = mkF m 0 #[.val (.ref a1), .val (.long q2), .second] [] := by first | (simp [entryFrame, mkF, argsToLocals, Value.category]; done) | rfl
def Q1 (Z : State) (a1 : Addr) (q2 : Int64) (u_state : Value) (h0 : Heap) (n0 : Nat) (v : Option Value) (h : Heap) (L : List Loc) : Prop := v = none ∧ Fr n0 L ∧ Keep h0 h [a1] ∧ (Exa Z h a1 "com/example/pipstill/pipstill/Dice") ∧ (Fld Z h a1 "com/example/pipstill/pipstill/Dice" "state" "J" (.long q2))
set_option maxRecDepth 65536 in
set_option maxHeartbeats 40000000 in
theorem rm1 (l : Launch) (Z : State) (a0 : Array Value) (hw : ∀ d ∈ tables_1, d.before a0 Z = true) (ws : List Jvm.Cond) (a1 : Addr) (q2 : Int64) (u_state : Value) (h0 : Heap) (n0 : Nat) (Z0 : n0 ≤ h0.size) (E_a1 : Exa Z h0 a1 "com/example/pipstill/pipstill/Dice") (g_a1 : n0 ≤ a1) (F_state_a1 : Fld Z h0 a1 "com/example/pipstill/pipstill/Dice" "state" "J" u_state) :
    MetFree l (⟨"com/example/pipstill/pipstill/Dice", "<init>", "(J)V"⟩ : MethodName) (head1 (Jvm.Cond.code (⟨"com/example/pipstill/pipstill/Dice", "<init>", "(J)V"⟩ : MethodName) prog_4_method_1_code 3 none :: ws) ({ frames := 1, cells := 0, slots := 0, locals := 12 } : Room)) (fun a U => a = #[(.ref a1), (.long q2)] ∧ Z.Warmed39 U.vm ∧ U.heap = h0) (fun _ _ _ _ _ => True) (fun _ U o U' => ∃ v L, o = .returned v ∧ Q1 Z a1 q2 u_state h0 n0 v U'.heap L ∧ FrameEnd U o U' L ({ frames := 1, cells := 0, slots := 0, locals := 12 } : Room).cells ({ frames := 1, cells := 0, slots := 0, locals := 12 } : Room).slots) := by
  refine MetFree.of_bodySF (plainFor_of_name pn_0) hisR ?_
  intro p e s m args below meth c s₁ Bd hml0 hP hK
  obtain ⟨rfl, hZ, hh⟩ := hP
  have hx := Bd.exec
  have hby := Bd.bytes
  have hml : c.maxLocals = 3 := hml0
  have hown : s.vm.findClass "com/example/pipstill/pipstill/Dice" = some m.cls := findClass_of_methodNamed Bd.named
  have hnm := (name_of_methodNamed Bd.named Bd.method).1
  have X0 : Stand p l e ({ frames := 1, cells := 0, slots := 0, locals := 12 } : Room) s m #[(.ref a1), (.long q2)] below meth c s₁ [] 0 0 := Stand.of_body Bd
  have e0 : s₁.heap = h0 := by rw [← hh, Bd.state]; rfl
  have N0 := Fr.nil n0
  show GoalS p.tables e below s ({ frames := 1, cells := 0, slots := 0, locals := 12 } : Room).cells ({ frames := 1, cells := 0, slots := 0, locals := 12 } : Room).slots (Q1 Z a1 q2 u_state h0 n0) (s₁.setTop (entryFrame m #[(.ref a1), (.long q2)] 3))
  refine GoalS.lift (B := s₁.setTop (mkF m 0 #[.val (.ref a1), .val (.long q2), .second] [])) (fun t k => castTop (ef_rm1 m a1 q2) k) ?_
  have K0 : Keep h0 h0 [a1] := Keep.refl _ _
  obtain ⟨T1, X1, e1, st1⟩ := initO X0 hx hZ hown (hw _ (List.mem_of_getElem? (i := 7) rfl)) (hw _ (List.mem_of_getElem? (i := 8) rfl)) (hw _ (List.mem_of_getElem? (i := 9) rfl)) e0 (g := (mkF m 1 #[.val (.ref a1), .val (.long q2), .second] [(.ref a1)])) rfl (by rw [hml]; rfl) rfl (hb hby d1_1) (by decide) (W := 0) (by show 2 * 0 + _ ≤ _; exact Nat.le_of_eq rfl) (by decide)
  obtain ⟨T2, h2, X2, e2, W2, st2⟩ := putF X1 hx hZ hown (host := "") (Or.inl (hw _ (List.mem_of_getElem? (i := 10) rfl))) Via.refl e1 F_state_a1 E_a1 (Or.inl (hw _ (List.mem_of_getElem? (i := 11) rfl))) (hw _ (List.mem_of_getElem? (i := 2) rfl)) (ty := .long) (by decide) rfl rfl (g := (mkF m 6 #[.val (.ref a1), .val (.long q2), .second] [(.long q2), (.ref a1)])) rfl rfl (hb hby d1_6)
  have z3 : n0 ≤ h2.size := Nat.le_trans Z0 (Keep.of_wr W2).1
  have K4 : Keep h0 h2 [a1] := K0.wr W2 (Or.inl (List.mem_of_getElem? (i := 0) rfl))
  have Fw2 : Fld Z h2 a1 "com/example/pipstill/pipstill/Dice" "state" "J" (.long q2) := F_state_a1.same W2
  have N2 := Fr.snoc X2 N0 g_a1
  obtain ⟨fs, hr, hrun, hended, hW, hsame⟩ := X2.leave (v := none) (fun _ => rfl)
  refine ⟨_, _, ?_, hrun, hended, _, _, rfl, ?_, ⟨_, rfl⟩, hW, hsame.mono (by decide) (by decide)⟩
  · show Steps p.tables e below (s₁.setTop (mkF m 0 #[.val (.ref a1), .val (.long q2), .second] [])) _
    refine XS.aloadN X0.here hx rfl (hb hby d1_0) rfl rfl ?_
    show Steps p.tables e below (s₁.setTop (mkF m 1 #[.val (.ref a1), .val (.long q2), .second] [(.ref a1)])) _
    refine st1 _ ?_
    show Steps p.tables e below (T1.setTop (mkF m 4 #[.val (.ref a1), .val (.long q2), .second] [])) _
    refine XS.aloadN X1.here hx rfl (hb hby d1_4) rfl rfl ?_
    show Steps p.tables e below (T1.setTop (mkF m 5 #[.val (.ref a1), .val (.long q2), .second] [(.ref a1)])) _
    refine XS.lloadN X1.here hx rfl (hb hby d1_5) rfl ?_
    show Steps p.tables e below (T1.setTop (mkF m 6 #[.val (.ref a1), .val (.long q2), .second] [(.long q2), (.ref a1)])) _
    refine st2 _ ?_
    show Steps p.tables e below (T2.setTop (mkF m 9 #[.val (.ref a1), .val (.long q2), .second] [])) _
    exact X2.returnOut hx Bd.returns (hb hby d1_9) hr
  · have f5 : Exa Z h2 a1 "com/example/pipstill/pipstill/Dice" := (E_a1.wr W2)
    show Q1 Z a1 q2 u_state h0 n0 _ T2.heap _
    rw [e2]
    exact ⟨rfl, N2, K4, f5, Fw2⟩
theorem d3_0 : decode prog_4_method_3_code 0 = .ok (.aload_n 0, 1) := by decide +kernel
theorem d3_1 : decode prog_4_method_3_code 1 = .ok (.dup, 1) := by decide +kernel
theorem d3_2 : decode prog_4_method_3_code 2 = .ok (.getfield 7, 3) := by decide +kernel
theorem d3_5 : decode prog_4_method_3_code 5 = .ok (.lload_n 1, 1) := by decide +kernel
theorem d3_6 : decode prog_4_method_3_code 6 = .ok (.ldc2_w 13, 3) := by decide +kernel
theorem d3_9 : decode prog_4_method_3_code 9 = .ok (.lmul, 1) := by decide +kernel
theorem d3_10 : decode prog_4_method_3_code 10 = .ok (.ladd, 1) := by decide +kernel
theorem d3_11 : decode prog_4_method_3_code 11 = .ok (.putfield 7, 3) := by decide +kernel
theorem d3_14 : decode prog_4_method_3_code 14 = .ok (.return_, 1) := by decide +kernel
theorem ef_rm3 (m : MethodId) (a1 : Addr) (q2 : Int64) : entryFrame m #[(.ref a1), (.long q2)] 3 = mkF m 0 #[.val (.ref a1), .val (.long q2), .second] [] := by first | (simp [entryFrame, mkF, argsToLocals, Value.category]; done) | rfl
def Q3 (Z : State) (a1 : Addr) (q2 : Int64) (w : Int64) (h0 : Heap) (n0 : Nat) (v : Option Value) (h : Heap) (L : List Loc) : Prop := v = none ∧ Fr n0 L ∧ Keep h0 h [a1] ∧ (Exa Z h a1 "com/example/pipstill/pipstill/Dice") ∧ (Fld Z h a1 "com/example/pipstill/pipstill/Dice" "state" "J" (.long (w + (q2 * (-7046029254386353131 : Int64)))))
set_option maxRecDepth 65536 in
set_option maxHeartbeats 40000000 in
theorem rm3 (l : Launch) (Z : State) (a0 : Array Value) (hw : ∀ d ∈ tables_1, d.before a0 Z = true) (ws : List Jvm.Cond) (a1 : Addr) (q2 : Int64) (w : Int64) (h0 : Heap) (n0 : Nat) (Z0 : n0 ≤ h0.size) (E_a1 : Exa Z h0 a1 "com/example/pipstill/pipstill/Dice") (g_a1 : n0 ≤ a1) (F_state_a1 : Fld Z h0 a1 "com/example/pipstill/pipstill/Dice" "state" "J" (.long w)) :
    MetFree l (⟨"com/example/pipstill/pipstill/Dice", "skip", "(J)V"⟩ : MethodName) (head1 (Jvm.Cond.code (⟨"com/example/pipstill/pipstill/Dice", "skip", "(J)V"⟩ : MethodName) prog_4_method_3_code 3 none :: ws) ({ frames := 0, cells := 0, slots := 0, locals := 0 } : Room)) (fun a U => a = #[(.ref a1), (.long q2)] ∧ Z.Warmed39 U.vm ∧ U.heap = h0) (fun _ _ _ _ _ => True) (fun _ U o U' => ∃ v L, o = .returned v ∧ Q3 Z a1 q2 w h0 n0 v U'.heap L ∧ FrameEnd U o U' L ({ frames := 0, cells := 0, slots := 0, locals := 0 } : Room).cells ({ frames := 0, cells := 0, slots := 0, locals := 0 } : Room).slots) := by
  refine MetFree.of_bodySF (plainFor_of_name pn_0) hisR ?_
  intro p e s m args below meth c s₁ Bd hml0 hP hK
  obtain ⟨rfl, hZ, hh⟩ := hP
  have hx := Bd.exec
  have hby := Bd.bytes
  have hml : c.maxLocals = 3 := hml0
  have hown : s.vm.findClass "com/example/pipstill/pipstill/Dice" = some m.cls := findClass_of_methodNamed Bd.named
  have hnm := (name_of_methodNamed Bd.named Bd.method).1
  have X0 : Stand p l e ({ frames := 0, cells := 0, slots := 0, locals := 0 } : Room) s m #[(.ref a1), (.long q2)] below meth c s₁ [] 0 0 := Stand.of_body Bd
  have e0 : s₁.heap = h0 := by rw [← hh, Bd.state]; rfl
  have N0 := Fr.nil n0
  show GoalS p.tables e below s ({ frames := 0, cells := 0, slots := 0, locals := 0 } : Room).cells ({ frames := 0, cells := 0, slots := 0, locals := 0 } : Room).slots (Q3 Z a1 q2 w h0 n0) (s₁.setTop (entryFrame m #[(.ref a1), (.long q2)] 3))
  refine GoalS.lift (B := s₁.setTop (mkF m 0 #[.val (.ref a1), .val (.long q2), .second] [])) (fun t k => castTop (ef_rm3 m a1 q2) k) ?_
  have K0 : Keep h0 h0 [a1] := Keep.refl _ _
  obtain ⟨T1, X1, e1, st1⟩ := getF X0 hx hZ hown (host := "") (Or.inl (hw _ (List.mem_of_getElem? (i := 10) rfl))) Via.refl e0 F_state_a1 (g := (mkF m 2 #[.val (.ref a1), .val (.long q2), .second] [(.ref a1), (.ref a1)])) rfl rfl (hb hby d3_2)
  obtain ⟨T2, h2, X2, e2, W2, st2⟩ := putF X1 hx hZ hown (host := "") (Or.inl (hw _ (List.mem_of_getElem? (i := 10) rfl))) Via.refl e1 F_state_a1 E_a1 (Or.inl (hw _ (List.mem_of_getElem? (i := 11) rfl))) (hw _ (List.mem_of_getElem? (i := 2) rfl)) (ty := .long) (by decide) rfl rfl (g := (mkF m 11 #[.val (.ref a1), .val (.long q2), .second] [(.long (w + (q2 * (-7046029254386353131 : Int64)))), (.ref a1)])) rfl rfl (hb hby d3_11)
  have z3 : n0 ≤ h2.size := Nat.le_trans Z0 (Keep.of_wr W2).1
  have K4 : Keep h0 h2 [a1] := K0.wr W2 (Or.inl (List.mem_of_getElem? (i := 0) rfl))
  have Fw2 : Fld Z h2 a1 "com/example/pipstill/pipstill/Dice" "state" "J" (.long (w + (q2 * (-7046029254386353131 : Int64)))) := F_state_a1.same W2
  have N2 := Fr.snoc X2 N0 g_a1
  obtain ⟨fs, hr, hrun, hended, hW, hsame⟩ := X2.leave (v := none) (fun _ => rfl)
  refine ⟨_, _, ?_, hrun, hended, _, _, rfl, ?_, ⟨_, rfl⟩, hW, hsame.mono (by decide) (by decide)⟩
  · show Steps p.tables e below (s₁.setTop (mkF m 0 #[.val (.ref a1), .val (.long q2), .second] [])) _
    refine XS.aloadN X0.here hx rfl (hb hby d3_0) rfl rfl ?_
    show Steps p.tables e below (s₁.setTop (mkF m 1 #[.val (.ref a1), .val (.long q2), .second] [(.ref a1)])) _
    refine XS.dup X0.here hx rfl (hb hby d3_1) rfl rfl ?_
    show Steps p.tables e below (s₁.setTop (mkF m 2 #[.val (.ref a1), .val (.long q2), .second] [(.ref a1), (.ref a1)])) _
    refine st1 _ ?_
    show Steps p.tables e below (T1.setTop (mkF m 5 #[.val (.ref a1), .val (.long q2), .second] [(.long w), (.ref a1)])) _
    refine XS.lloadN X1.here hx rfl (hb hby d3_5) rfl ?_
    show Steps p.tables e below (T1.setTop (mkF m 6 #[.val (.ref a1), .val (.long q2), .second] [(.long q2), (.long w), (.ref a1)])) _
    refine X1.ldc2Long hx hown (mvT hZ (hw _ (List.mem_of_getElem? (i := 17) rfl))) (g := (mkF m 6 #[.val (.ref a1), .val (.long q2), .second] [(.long q2), (.long w), (.ref a1)])) rfl (hb hby d3_6) _ ?_
    show Steps p.tables e below (T1.setTop (mkF m 9 #[.val (.ref a1), .val (.long q2), .second] [(.long (-7046029254386353131 : Int64)), (.long q2), (.long w), (.ref a1)])) _
    refine XS.lmul X1.here hx rfl (hb hby d3_9) rfl ?_
    show Steps p.tables e below (T1.setTop (mkF m 10 #[.val (.ref a1), .val (.long q2), .second] [(.long (q2 * (-7046029254386353131 : Int64))), (.long w), (.ref a1)])) _
    refine XS.ladd X1.here hx rfl (hb hby d3_10) rfl ?_
    show Steps p.tables e below (T1.setTop (mkF m 11 #[.val (.ref a1), .val (.long q2), .second] [(.long (w + (q2 * (-7046029254386353131 : Int64)))), (.ref a1)])) _
    refine st2 _ ?_
    show Steps p.tables e below (T2.setTop (mkF m 14 #[.val (.ref a1), .val (.long q2), .second] [])) _
    exact X2.returnOut hx Bd.returns (hb hby d3_14) hr
  · have f5 : Exa Z h2 a1 "com/example/pipstill/pipstill/Dice" := (E_a1.wr W2)
    show Q3 Z a1 q2 w h0 n0 _ T2.heap _
    rw [e2]
    exact ⟨rfl, N2, K4, f5, Fw2⟩
theorem d4_0 : decode prog_4_method_2_code 0 = .ok (.aload_n 0, 1) := by decide +kernel
theorem d4_1 : decode prog_4_method_2_code 1 = .ok (.dup, 1) := by decide +kernel
theorem d4_2 : decode prog_4_method_2_code 2 = .ok (.getfield 7, 3) := by decide +kernel
theorem d4_5 : decode prog_4_method_2_code 5 = .ok (.ldc2_w 13, 3) := by decide +kernel
theorem d4_8 : decode prog_4_method_2_code 8 = .ok (.ladd, 1) := by decide +kernel
theorem d4_9 : decode prog_4_method_2_code 9 = .ok (.putfield 7, 3) := by decide +kernel
theorem d4_12 : decode prog_4_method_2_code 12 = .ok (.aload_n 0, 1) := by decide +kernel
theorem d4_13 : decode prog_4_method_2_code 13 = .ok (.getfield 7, 3) := by decide +kernel
theorem d4_16 : decode prog_4_method_2_code 16 = .ok (.lstore_n 1, 1) := by decide +kernel
theorem d4_17 : decode prog_4_method_2_code 17 = .ok (.lload_n 1, 1) := by decide +kernel
theorem d4_18 : decode prog_4_method_2_code 18 = .ok (.lload_n 1, 1) := by decide +kernel
theorem d4_19 : decode prog_4_method_2_code 19 = .ok (.bipush 30, 2) := by decide +kernel
theorem d4_21 : decode prog_4_method_2_code 21 = .ok (.lushr, 1) := by decide +kernel
theorem d4_22 : decode prog_4_method_2_code 22 = .ok (.lxor, 1) := by decide +kernel
theorem d4_23 : decode prog_4_method_2_code 23 = .ok (.ldc2_w 15, 3) := by decide +kernel
theorem d4_26 : decode prog_4_method_2_code 26 = .ok (.lmul, 1) := by decide +kernel
theorem d4_27 : decode prog_4_method_2_code 27 = .ok (.lstore_n 1, 1) := by decide +kernel
theorem d4_28 : decode prog_4_method_2_code 28 = .ok (.lload_n 1, 1) := by decide +kernel
theorem d4_29 : decode prog_4_method_2_code 29 = .ok (.lload_n 1, 1) := by decide +kernel
theorem d4_30 : decode prog_4_method_2_code 30 = .ok (.bipush 27, 2) := by decide +kernel
theorem d4_32 : decode prog_4_method_2_code 32 = .ok (.lushr, 1) := by decide +kernel
theorem d4_33 : decode prog_4_method_2_code 33 = .ok (.lxor, 1) := by decide +kernel
theorem d4_34 : decode prog_4_method_2_code 34 = .ok (.ldc2_w 17, 3) := by decide +kernel
theorem d4_37 : decode prog_4_method_2_code 37 = .ok (.lmul, 1) := by decide +kernel
theorem d4_38 : decode prog_4_method_2_code 38 = .ok (.lstore_n 1, 1) := by decide +kernel
theorem d4_39 : decode prog_4_method_2_code 39 = .ok (.lload_n 1, 1) := by decide +kernel
theorem d4_40 : decode prog_4_method_2_code 40 = .ok (.lload_n 1, 1) := by decide +kernel
theorem d4_41 : decode prog_4_method_2_code 41 = .ok (.bipush 31, 2) := by decide +kernel
theorem d4_43 : decode prog_4_method_2_code 43 = .ok (.lushr, 1) := by decide +kernel
theorem d4_44 : decode prog_4_method_2_code 44 = .ok (.lxor, 1) := by decide +kernel
theorem d4_45 : decode prog_4_method_2_code 45 = .ok (.lreturn, 1) := by decide +kernel
theorem ef_rm4 (m : MethodId) (a1 : Addr) : entryFrame m #[(.ref a1)] 3 = mkF m 0 #[.val (.ref a1), .unset, .unset] [] := by first | (simp [entryFrame, mkF, argsToLocals, Value.category]; done) | rfl
def Q4 (Z : State) (a1 : Addr) (w : Int64) (h0 : Heap) (n0 : Nat) (v : Option Value) (h : Heap) (L : List Loc) : Prop := ∃ r : Int64, v = some (.long r) ∧ r = own_mix (w + (-7046029254386353131 : Int64)) ∧ Fr n0 L ∧ Keep h0 h [a1] ∧ (Exa Z h a1 "com/example/pipstill/pipstill/Dice") ∧ (Fld Z h a1 "com/example/pipstill/pipstill/Dice" "state" "J" (.long (w + (-7046029254386353131 : Int64))))
set_option maxRecDepth 65536 in
set_option maxHeartbeats 40000000 in
theorem rm4 (l : Launch) (Z : State) (a0 : Array Value) (hw : ∀ d ∈ tables_1, d.before a0 Z = true) (ws : List Jvm.Cond) (a1 : Addr) (w : Int64) (h0 : Heap) (n0 : Nat) (Z0 : n0 ≤ h0.size) (E_a1 : Exa Z h0 a1 "com/example/pipstill/pipstill/Dice") (g_a1 : n0 ≤ a1) (F_state_a1 : Fld Z h0 a1 "com/example/pipstill/pipstill/Dice" "state" "J" (.long w)) :
    MetFree l (⟨"com/example/pipstill/pipstill/Dice", "nextLong", "()J"⟩ : MethodName) (head1 (Jvm.Cond.code (⟨"com/example/pipstill/pipstill/Dice", "nextLong", "()J"⟩ : MethodName) prog_4_method_2_code 3 (some .long) :: ws) ({ frames := 0, cells := 0, slots := 0, locals := 0 } : Room)) (fun a U => a = #[(.ref a1)] ∧ Z.Warmed39 U.vm ∧ U.heap = h0) (fun _ _ _ _ _ => True) (fun _ U o U' => ∃ v L, o = .returned v ∧ Q4 Z a1 w h0 n0 v U'.heap L ∧ FrameEnd U o U' L ({ frames := 0, cells := 0, slots := 0, locals := 0 } : Room).cells ({ frames := 0, cells := 0, slots := 0, locals := 0 } : Room).slots) := by
  refine MetFree.of_bodySF (plainFor_of_name pn_0) hisR ?_
  intro p e s m args below meth c s₁ Bd hml0 hP hK
  obtain ⟨rfl, hZ, hh⟩ := hP
  have hx := Bd.exec
  have hby := Bd.bytes
  have hml : c.maxLocals = 3 := hml0
  have hown : s.vm.findClass "com/example/pipstill/pipstill/Dice" = some m.cls := findClass_of_methodNamed Bd.named
  have hnm := (name_of_methodNamed Bd.named Bd.method).1
  have X0 : Stand p l e ({ frames := 0, cells := 0, slots := 0, locals := 0 } : Room) s m #[(.ref a1)] below meth c s₁ [] 0 0 := Stand.of_body Bd
  have e0 : s₁.heap = h0 := by rw [← hh, Bd.state]; rfl
  have N0 := Fr.nil n0
  show GoalS p.tables e below s ({ frames := 0, cells := 0, slots := 0, locals := 0 } : Room).cells ({ frames := 0, cells := 0, slots := 0, locals := 0 } : Room).slots (Q4 Z a1 w h0 n0) (s₁.setTop (entryFrame m #[(.ref a1)] 3))
  refine GoalS.lift (B := s₁.setTop (mkF m 0 #[.val (.ref a1), .unset, .unset] [])) (fun t k => castTop (ef_rm4 m a1) k) ?_
  have K0 : Keep h0 h0 [a1] := Keep.refl _ _
  obtain ⟨T1, X1, e1, st1⟩ := getF X0 hx hZ hown (host := "") (Or.inl (hw _ (List.mem_of_getElem? (i := 10) rfl))) Via.refl e0 F_state_a1 (g := (mkF m 2 #[.val (.ref a1), .unset, .unset] [(.ref a1), (.ref a1)])) rfl rfl (hb hby d4_2)
  obtain ⟨T2, h2, X2, e2, W2, st2⟩ := putF X1 hx hZ hown (host := "") (Or.inl (hw _ (List.mem_of_getElem? (i := 10) rfl))) Via.refl e1 F_state_a1 E_a1 (Or.inl (hw _ (List.mem_of_getElem? (i := 11) rfl))) (hw _ (List.mem_of_getElem? (i := 2) rfl)) (ty := .long) (by decide) rfl rfl (g := (mkF m 9 #[.val (.ref a1), .unset, .unset] [(.long (w + (-7046029254386353131 : Int64))), (.ref a1)])) rfl rfl (hb hby d4_9)
  have z3 : n0 ≤ h2.size := Nat.le_trans Z0 (Keep.of_wr W2).1
  have K4 : Keep h0 h2 [a1] := K0.wr W2 (Or.inl (List.mem_of_getElem? (i := 0) rfl))
  have Fw2 : Fld Z h2 a1 "com/example/pipstill/pipstill/Dice" "state" "J" (.long (w + (-7046029254386353131 : Int64))) := F_state_a1.same W2
  have N2 := Fr.snoc X2 N0 g_a1
  obtain ⟨T5, X5, e5, st5⟩ := getF X2 hx hZ hown (host := "") (Or.inl (hw _ (List.mem_of_getElem? (i := 10) rfl))) Via.refl e2 Fw2 (g := (mkF m 13 #[.val (.ref a1), .unset, .unset] [(.ref a1)])) rfl rfl (hb hby d4_13)
  obtain ⟨z1, hz1⟩ : ∃ z : Int64, z = (((w + (-7046029254386353131 : Int64)) ^^^ ((((w + (-7046029254386353131 : Int64))).toUInt64 >>> ((30 : Int32) &&& 0x3f).toInt64.toUInt64).toInt64)) * (-4658895280553007687 : Int64)) := ⟨_, rfl⟩
  refine GoalS.lift (B := (T5.setTop (mkF m 27 #[.val (.ref a1), .val (.long (w + (-7046029254386353131 : Int64))), .second] [(.long z1)]))) (fun t k => ?_) ?_
  · show Steps p.tables e below (s₁.setTop (mkF m 0 #[.val (.ref a1), .unset, .unset] [])) _
    refine XS.aloadN X0.here hx rfl (hb hby d4_0) rfl rfl ?_
    show Steps p.tables e below (s₁.setTop (mkF m 1 #[.val (.ref a1), .unset, .unset] [(.ref a1)])) _
    refine XS.dup X0.here hx rfl (hb hby d4_1) rfl rfl ?_
    show Steps p.tables e below (s₁.setTop (mkF m 2 #[.val (.ref a1), .unset, .unset] [(.ref a1), (.ref a1)])) _
    refine st1 _ ?_
    show Steps p.tables e below (T1.setTop (mkF m 5 #[.val (.ref a1), .unset, .unset] [(.long w), (.ref a1)])) _
    refine X1.ldc2Long hx hown (mvT hZ (hw _ (List.mem_of_getElem? (i := 17) rfl))) (g := (mkF m 5 #[.val (.ref a1), .unset, .unset] [(.long w), (.ref a1)])) rfl (hb hby d4_5) _ ?_
    show Steps p.tables e below (T1.setTop (mkF m 8 #[.val (.ref a1), .unset, .unset] [(.long (-7046029254386353131 : Int64)), (.long w), (.ref a1)])) _
    refine XS.ladd X1.here hx rfl (hb hby d4_8) rfl ?_
    show Steps p.tables e below (T1.setTop (mkF m 9 #[.val (.ref a1), .unset, .unset] [(.long (w + (-7046029254386353131 : Int64))), (.ref a1)])) _
    refine st2 _ ?_
    show Steps p.tables e below (T2.setTop (mkF m 12 #[.val (.ref a1), .unset, .unset] [])) _
    refine XS.aloadN X2.here hx rfl (hb hby d4_12) rfl rfl ?_
    show Steps p.tables e below (T2.setTop (mkF m 13 #[.val (.ref a1), .unset, .unset] [(.ref a1)])) _
    refine st5 _ ?_
    show Steps p.tables e below (T5.setTop (mkF m 16 #[.val (.ref a1), .unset, .unset] [(.long (w + (-7046029254386353131 : Int64)))])) _
    refine XS.lstoreN X5.here hx rfl (hb hby d4_16) rfl (l' := #[.val (.ref a1), .val (.long (w + (-7046029254386353131 : Int64))), .second]) rfl ?_
    show Steps p.tables e below (T5.setTop (mkF m 17 #[.val (.ref a1), .val (.long (w + (-7046029254386353131 : Int64))), .second] [])) _
    refine XS.lloadN X5.here hx rfl (hb hby d4_17) rfl ?_
    show Steps p.tables e below (T5.setTop (mkF m 18 #[.val (.ref a1), .val (.long (w + (-7046029254386353131 : Int64))), .second] [(.long (w + (-7046029254386353131 : Int64)))])) _
    refine XS.lloadN X5.here hx rfl (hb hby d4_18) rfl ?_
    show Steps p.tables e below (T5.setTop (mkF m 19 #[.val (.ref a1), .val (.long (w + (-7046029254386353131 : Int64))), .second] [(.long (w + (-7046029254386353131 : Int64))), (.long (w + (-7046029254386353131 : Int64)))])) _
    refine XS.bipush X5.here hx rfl (hb hby d4_19) ?_
    show Steps p.tables e below (T5.setTop (mkF m 21 #[.val (.ref a1), .val (.long (w + (-7046029254386353131 : Int64))), .second] [(.int (30 : Int32)), (.long (w + (-7046029254386353131 : Int64))), (.long (w + (-7046029254386353131 : Int64)))])) _
    refine XS.lushr X5.here hx rfl (hb hby d4_21) rfl ?_
    show Steps p.tables e below (T5.setTop (mkF m 22 #[.val (.ref a1), .val (.long (w + (-7046029254386353131 : Int64))), .second] [(.long ((((w + (-7046029254386353131 : Int64))).toUInt64 >>> ((30 : Int32) &&& 0x3f).toInt64.toUInt64).toInt64)), (.long (w + (-7046029254386353131 : Int64)))])) _
    refine XS.lxor X5.here hx rfl (hb hby d4_22) rfl ?_
    show Steps p.tables e below (T5.setTop (mkF m 23 #[.val (.ref a1), .val (.long (w + (-7046029254386353131 : Int64))), .second] [(.long ((w + (-7046029254386353131 : Int64)) ^^^ ((((w + (-7046029254386353131 : Int64))).toUInt64 >>> ((30 : Int32) &&& 0x3f).toInt64.toUInt64).toInt64)))])) _
    refine X5.ldc2Long hx hown (mvT hZ (hw _ (List.mem_of_getElem? (i := 23) rfl))) (g := (mkF m 23 #[.val (.ref a1), .val (.long (w + (-7046029254386353131 : Int64))), .second] [(.long ((w + (-7046029254386353131 : Int64)) ^^^ ((((w + (-7046029254386353131 : Int64))).toUInt64 >>> ((30 : Int32) &&& 0x3f).toInt64.toUInt64).toInt64)))])) rfl (hb hby d4_23) _ ?_
    show Steps p.tables e below (T5.setTop (mkF m 26 #[.val (.ref a1), .val (.long (w + (-7046029254386353131 : Int64))), .second] [(.long (-4658895280553007687 : Int64)), (.long ((w + (-7046029254386353131 : Int64)) ^^^ ((((w + (-7046029254386353131 : Int64))).toUInt64 >>> ((30 : Int32) &&& 0x3f).toInt64.toUInt64).toInt64)))])) _
    refine XS.lmul X5.here hx rfl (hb hby d4_26) rfl ?_
    rw [hz1] at k
    exact k
  obtain ⟨z2, hz2⟩ : ∃ z : Int64, z = ((z1 ^^^ (((z1).toUInt64 >>> ((27 : Int32) &&& 0x3f).toInt64.toUInt64).toInt64)) * (-7723592293110705685 : Int64)) := ⟨_, rfl⟩
  refine GoalS.lift (B := (T5.setTop (mkF m 38 #[.val (.ref a1), .val (.long z1), .second] [(.long z2)]))) (fun t k => ?_) ?_
  · show Steps p.tables e below (T5.setTop (mkF m 27 #[.val (.ref a1), .val (.long (w + (-7046029254386353131 : Int64))), .second] [(.long z1)])) _
    refine XS.lstoreN X5.here hx rfl (hb hby d4_27) rfl (l' := #[.val (.ref a1), .val (.long z1), .second]) rfl ?_
    show Steps p.tables e below (T5.setTop (mkF m 28 #[.val (.ref a1), .val (.long z1), .second] [])) _
    refine XS.lloadN X5.here hx rfl (hb hby d4_28) rfl ?_
    show Steps p.tables e below (T5.setTop (mkF m 29 #[.val (.ref a1), .val (.long z1), .second] [(.long z1)])) _
    refine XS.lloadN X5.here hx rfl (hb hby d4_29) rfl ?_
    show Steps p.tables e below (T5.setTop (mkF m 30 #[.val (.ref a1), .val (.long z1), .second] [(.long z1), (.long z1)])) _
    refine XS.bipush X5.here hx rfl (hb hby d4_30) ?_
    show Steps p.tables e below (T5.setTop (mkF m 32 #[.val (.ref a1), .val (.long z1), .second] [(.int (27 : Int32)), (.long z1), (.long z1)])) _
    refine XS.lushr X5.here hx rfl (hb hby d4_32) rfl ?_
    show Steps p.tables e below (T5.setTop (mkF m 33 #[.val (.ref a1), .val (.long z1), .second] [(.long (((z1).toUInt64 >>> ((27 : Int32) &&& 0x3f).toInt64.toUInt64).toInt64)), (.long z1)])) _
    refine XS.lxor X5.here hx rfl (hb hby d4_33) rfl ?_
    show Steps p.tables e below (T5.setTop (mkF m 34 #[.val (.ref a1), .val (.long z1), .second] [(.long (z1 ^^^ (((z1).toUInt64 >>> ((27 : Int32) &&& 0x3f).toInt64.toUInt64).toInt64)))])) _
    refine X5.ldc2Long hx hown (mvT hZ (hw _ (List.mem_of_getElem? (i := 24) rfl))) (g := (mkF m 34 #[.val (.ref a1), .val (.long z1), .second] [(.long (z1 ^^^ (((z1).toUInt64 >>> ((27 : Int32) &&& 0x3f).toInt64.toUInt64).toInt64)))])) rfl (hb hby d4_34) _ ?_
    show Steps p.tables e below (T5.setTop (mkF m 37 #[.val (.ref a1), .val (.long z1), .second] [(.long (-7723592293110705685 : Int64)), (.long (z1 ^^^ (((z1).toUInt64 >>> ((27 : Int32) &&& 0x3f).toInt64.toUInt64).toInt64)))])) _
    refine XS.lmul X5.here hx rfl (hb hby d4_37) rfl ?_
    rw [hz2] at k
    exact k
  obtain ⟨fs, hr, hrun, hended, hW, hsame⟩ := X5.leave (v := some (.long (z2 ^^^ (((z2).toUInt64 >>> ((31 : Int32) &&& 0x3f).toInt64.toUInt64).toInt64)))) (fun h => by rw [Bd.returns] at h; cases h)
  refine ⟨_, _, ?_, hrun, hended, _, _, rfl, ?_, ⟨_, rfl⟩, hW, hsame.mono (by decide) (by decide)⟩
  · show Steps p.tables e below (T5.setTop (mkF m 38 #[.val (.ref a1), .val (.long z1), .second] [(.long z2)])) _
    refine XS.lstoreN X5.here hx rfl (hb hby d4_38) rfl (l' := #[.val (.ref a1), .val (.long z2), .second]) rfl ?_
    show Steps p.tables e below (T5.setTop (mkF m 39 #[.val (.ref a1), .val (.long z2), .second] [])) _
    refine XS.lloadN X5.here hx rfl (hb hby d4_39) rfl ?_
    show Steps p.tables e below (T5.setTop (mkF m 40 #[.val (.ref a1), .val (.long z2), .second] [(.long z2)])) _
    refine XS.lloadN X5.here hx rfl (hb hby d4_40) rfl ?_
    show Steps p.tables e below (T5.setTop (mkF m 41 #[.val (.ref a1), .val (.long z2), .second] [(.long z2), (.long z2)])) _
    refine XS.bipush X5.here hx rfl (hb hby d4_41) ?_
    show Steps p.tables e below (T5.setTop (mkF m 43 #[.val (.ref a1), .val (.long z2), .second] [(.int (31 : Int32)), (.long z2), (.long z2)])) _
    refine XS.lushr X5.here hx rfl (hb hby d4_43) rfl ?_
    show Steps p.tables e below (T5.setTop (mkF m 44 #[.val (.ref a1), .val (.long z2), .second] [(.long (((z2).toUInt64 >>> ((31 : Int32) &&& 0x3f).toInt64.toUInt64).toInt64)), (.long z2)])) _
    refine XS.lxor X5.here hx rfl (hb hby d4_44) rfl ?_
    show Steps p.tables e below (T5.setTop (mkF m 45 #[.val (.ref a1), .val (.long z2), .second] [(.long (z2 ^^^ (((z2).toUInt64 >>> ((31 : Int32) &&& 0x3f).toInt64.toUInt64).toInt64)))])) _
    exact X5.lreturnOut hx Bd.returns (hb hby d4_45) hr
  · have f6 : Exa Z h2 a1 "com/example/pipstill/pipstill/Dice" := (E_a1.wr W2)
    show Q4 Z a1 w h0 n0 _ T5.heap _
    rw [e5]
    exact ⟨_, rfl, (by rw [hz2, hz1]; rfl), N2, K4, f6, Fw2⟩
theorem pn_1 : plainName "com/example/pipstill/pipstill/DiceSkipPinLaw" = true := by first | (simp [plainName, overriddenIn]; done) | decide +kernel
theorem pd_0 : parseMethodDescriptor "(J)V" = some ⟨[.long], none⟩ := by decide +kernel
theorem pd_1 : parseMethodDescriptor "()J" = some ⟨[], some .long⟩ := by decide +kernel
theorem ef_rm0 (m : MethodId) (q1 : Int64) (q2 : Int64) (q3 : Int64) (p4 : Int32) : entryFrame m #[(.long q1), (.long q2), (.long q3), (.int p4)] maxLocals = mkF m 0 #[.val (.long q1), .second, .val (.long q2), .second, .val (.long q3), .second, .val (.int p4), .unset, .unset, .unset, .unset, .unset, .unset, .unset, .unset, .unset, .unset, .unset] [] := by first | (simp [entryFrame, mkF, argsToLocals, Value.category, maxLocals]; done) | rfl
def Q0 (Z : State) (q1 : Int64) (q2 : Int64) (q3 : Int64) (p4 : Int32) (h0 : Heap) (n0 : Nat) (v : Option Value) (h : Heap) (L : List Loc) : Prop := v = some (.int (1 : Int32)) ∧ Fr n0 L
set_option maxRecDepth 65536 in
set_option maxHeartbeats 40000000 in
theorem rm0 (l : Launch) (Z : State) (a0 : Array Value) (hw : ∀ d ∈ tables_1, d.before a0 Z = true) (ws : List Jvm.Cond) (q1 : Int64) (q2 : Int64) (q3 : Int64) (p4 : Int32) (h0 : Heap) (n0 : Nat) (Z0 : n0 ≤ h0.size) :
    MetFree l x (head1 (Jvm.Cond.code x code maxLocals ret :: ws) room_1) (fun a U => a = #[(.long q1), (.long q2), (.long q3), (.int p4)] ∧ Z.Warmed39 U.vm ∧ U.heap = h0) (fun _ _ _ _ _ => True) (fun _ U o U' => ∃ v L, o = .returned v ∧ Q0 Z q1 q2 q3 p4 h0 n0 v U'.heap L ∧ FrameEnd U o U' L 16 128) := by
  refine MetFree.of_bodySF (plainFor_of_name pn_1) hisR ?_
  intro p e s m args below meth c s₁ Bd hml0 hP hK
  obtain ⟨rfl, hZ, hh⟩ := hP
  have hx := Bd.exec
  have hby := Bd.bytes
  have hml : c.maxLocals = 18 := hml0
  have hown : s.vm.findClass "com/example/pipstill/pipstill/DiceSkipPinLaw" = some m.cls := findClass_of_methodNamed Bd.named
  have hnm := (name_of_methodNamed Bd.named Bd.method).1
  have X0 : Stand p l e room_1 s m #[(.long q1), (.long q2), (.long q3), (.int p4)] below meth c s₁ [] 0 0 := Stand.of_body Bd
  have e0 : s₁.heap = h0 := by rw [← hh, Bd.state]; rfl
  have N0 := Fr.nil n0
  show GoalS p.tables e below s 16 128 (Q0 Z q1 q2 q3 p4 h0 n0) (s₁.setTop (entryFrame m #[(.long q1), (.long q2), (.long q3), (.int p4)] maxLocals))
  refine GoalS.lift (B := s₁.setTop (mkF m 0 #[.val (.long q1), .second, .val (.long q2), .second, .val (.long q3), .second, .val (.int p4), .unset, .unset, .unset, .unset, .unset, .unset, .unset, .unset, .unset, .unset, .unset] [])) (fun t k => castTop (ef_rm0 m q1 q2 q3 p4) k) ?_
  obtain ⟨T1, h1, X1, e1, E1, A1, D1, -, st1⟩ := newO X0 hx hZ hown (hw _ (List.mem_of_getElem? (i := 1) rfl)) (hw _ (List.mem_of_getElem? (i := 2) rfl)) (hw _ (List.mem_of_getElem? (i := 3) rfl)) e0 (g := (mkF m 21 #[.val (.long q1), .second, .val (.long q2), .second, .val (.long q3), .second, .val (.int p4), .val (.long (q2 &&& (4611686018427387903 : Int64))), .second, .val (.long (q3 &&& (4611686018427387903 : Int64))), .second, .val (.int (p4 &&& (3 : Int32))), .unset, .unset, .unset, .unset, .unset, .unset] [])) rfl (hb hby at_21) (by decide) (by decide)
  obtain ⟨b1, g1⟩ : ∃ z, z = h0.size := ⟨_, rfl⟩
  rw [← g1] at A1 D1 st1
  have g_b1 : n0 ≤ b1 := Nat.le_trans Z0 (Nat.le_of_eq g1.symm)
  have z2 : n0 ≤ h1.size := Nat.le_trans Z0 E1.1
  have F_state_b1 : Fld Z h1 b1 "com/example/pipstill/pipstill/Dice" "state" "J" (.long (0 : Int64)) := D1 (Or.inl (hw _ (List.mem_of_getElem? (i := 11) rfl))) (ty := .long) (by decide)
  obtain ⟨_, _, ⟨T3, L3, k3, n3⟩, -, X3, ⟨Lc3, hQ3, l3, y3, z3⟩, st3⟩ := X1.specialBack hx (y := (⟨"com/example/pipstill/pipstill/Dice", "<init>", "(J)V"⟩ : MethodName)) rfl hown (mvT hZ (hw _ (List.mem_of_getElem? (i := 4) rfl))) (mvT hZ (hw _ (List.mem_of_getElem? (i := 5) rfl))) (mvT hZ (hw _ (List.mem_of_getElem? (i := 6) rfl))) (by decide) (backOf (W := 1) (rm1 l Z a0 hw [] b1 q1 (.long (0 : Int64)) h1 n0 z2 A1 g_b1 F_state_b1) hZ (hw _ (List.mem_of_getElem? (i := 6) rfl)) (hw _ (List.mem_of_getElem? (i := 3) rfl)) (by decide) (by decide)) (g := (mkF m 26 #[.val (.long q1), .second, .val (.long q2), .second, .val (.long q3), .second, .val (.int p4), .val (.long (q2 &&& (4611686018427387903 : Int64))), .second, .val (.long (q3 &&& (4611686018427387903 : Int64))), .second, .val (.int (p4 &&& (3 : Int32))), .unset, .unset, .unset, .unset, .unset, .unset] [(.long q1), (.ref b1), (.ref b1)])) rfl (by rw [hml]; rfl) (Steps.refl _) (a := b1) (argsL := [(.long q1)]) (rest := [(.ref b1)]) (lenOf pd_0 rfl) rfl (by show 2 * 0 + _ ≤ _; exact Nat.le_of_eq rfl) (hb hby at_26) (fun _ _ => ⟨rfl, e1, (by decide : 1 + 0 ≤ _), (by decide : 1 + 0 ≤ _)⟩)
  dsimp only [Pt.U, Pt.locs, Pt.cells, Pt.slots] at X3 l3 y3 z3 st3 hQ3
  subst l3 y3 z3
  obtain ⟨rfl, N3q, p3_0, p3_1, p3_2⟩ := hQ3
  have N3 := Fr.app N0 N3q
  have z4 : n0 ≤ T3.heap.size := Nat.le_trans z2 p3_0.1
  obtain ⟨cq5, kq5, q5a, q5b, q5c⟩ := isOf hZ rfl p3_1
  obtain ⟨_, _, ⟨T5, L5, k5, n5⟩, -, X5, ⟨Lc5, hQ5, l5, y5, z5⟩, st5⟩ := X3.virtualBack hx (y := (⟨"com/example/pipstill/pipstill/Dice", "skip", "(J)V"⟩ : MethodName)) (z := (⟨"com/example/pipstill/pipstill/Dice", "skip", "(J)V"⟩ : MethodName)) hown (mvT hZ (hw _ (List.mem_of_getElem? (i := 12) rfl))) (mvT hZ (hw _ (List.mem_of_getElem? (i := 13) rfl))) (notFace_of_selects (args := #[]) (mvT hZ (hw _ (List.mem_of_getElem? (i := 15) rfl)))) (mvT hZ (hw _ (List.mem_of_getElem? (i := 15) rfl))) (mvT hZ (hw _ (List.mem_of_getElem? (i := 14) rfl))) (by decide) (backOf (W := 0) (rm3 l Z a0 hw [] b1 (q2 &&& (4611686018427387903 : Int64)) q1 T3.heap n0 z4 p3_1 g_b1 p3_2) hZ (hw _ (List.mem_of_getElem? (i := 16) rfl)) (hw _ (List.mem_of_getElem? (i := 3) rfl)) (by decide) (by decide)) q5a q5c (g := (mkF m 35 #[.val (.long q1), .second, .val (.long q2), .second, .val (.long q3), .second, .val (.int p4), .val (.long (q2 &&& (4611686018427387903 : Int64))), .second, .val (.long (q3 &&& (4611686018427387903 : Int64))), .second, .val (.int (p4 &&& (3 : Int32))), .val (.ref b1), .unset, .unset, .unset, .unset, .unset] [(.long (q2 &&& (4611686018427387903 : Int64))), (.ref b1)])) rfl (by rw [hml]; rfl) (Steps.refl _) (argsL := [(.long (q2 &&& (4611686018427387903 : Int64)))]) (rest := []) (lenOf pd_0 rfl) rfl (by show 2 * 0 + _ ≤ _; exact Nat.le_of_eq rfl) (hb hby at_35) (fun _ _ => ⟨rfl, rfl, (by decide : 1 + 0 ≤ _), (by decide : 1 + 0 ≤ _)⟩)
  dsimp only [Pt.U, Pt.locs, Pt.cells, Pt.slots] at X5 l5 y5 z5 st5 hQ5
  subst l5 y5 z5
  obtain ⟨rfl, N5q, p5_0, p5_1, p5_2⟩ := hQ5
  have N5 := Fr.app N3 N5q
  have z6 : n0 ≤ T5.heap.size := Nat.le_trans z4 p5_0.1
  refine GoalS.lift (B := (T5.setTop (mkF m 41 #[.val (.long q1), .second, .val (.long q2), .second, .val (.long q3), .second, .val (.int p4), .val (.long (q2 &&& (4611686018427387903 : Int64))), .second, .val (.long (q3 &&& (4611686018427387903 : Int64))), .second, .val (.int (p4 &&& (3 : Int32))), .val (.ref b1), .unset, .unset, .unset, .unset, .unset] [(.int (1 : Int32)), (.int (p4 &&& (3 : Int32)))]))) (fun t k => ?_) ?_
  · show Steps p.tables e below (s₁.setTop (mkF m 0 #[.val (.long q1), .second, .val (.long q2), .second, .val (.long q3), .second, .val (.int p4), .unset, .unset, .unset, .unset, .unset, .unset, .unset, .unset, .unset, .unset, .unset] [])) _
    refine XS.lloadN X0.here hx rfl (hb hby at_0) rfl ?_
    show Steps p.tables e below (s₁.setTop (mkF m 1 #[.val (.long q1), .second, .val (.long q2), .second, .val (.long q3), .second, .val (.int p4), .unset, .unset, .unset, .unset, .unset, .unset, .unset, .unset, .unset, .unset, .unset] [(.long q2)])) _
    refine X0.ldc2Long hx hown (mvT hZ (hw _ (List.mem_of_getElem? (i := 0) rfl))) (g := (mkF m 1 #[.val (.long q1), .second, .val (.long q2), .second, .val (.long q3), .second, .val (.int p4), .unset, .unset, .unset, .unset, .unset, .unset, .unset, .unset, .unset, .unset, .unset] [(.long q2)])) rfl (hb hby at_1) _ ?_
    show Steps p.tables e below (s₁.setTop (mkF m 4 #[.val (.long q1), .second, .val (.long q2), .second, .val (.long q3), .second, .val (.int p4), .unset, .unset, .unset, .unset, .unset, .unset, .unset, .unset, .unset, .unset, .unset] [(.long (4611686018427387903 : Int64)), (.long q2)])) _
    refine XS.land X0.here hx rfl (hb hby at_4) rfl ?_
    show Steps p.tables e below (s₁.setTop (mkF m 5 #[.val (.long q1), .second, .val (.long q2), .second, .val (.long q3), .second, .val (.int p4), .unset, .unset, .unset, .unset, .unset, .unset, .unset, .unset, .unset, .unset, .unset] [(.long (q2 &&& (4611686018427387903 : Int64)))])) _
    refine XS.lstore X0.here hx rfl (hb hby at_5) rfl (l' := #[.val (.long q1), .second, .val (.long q2), .second, .val (.long q3), .second, .val (.int p4), .val (.long (q2 &&& (4611686018427387903 : Int64))), .second, .unset, .unset, .unset, .unset, .unset, .unset, .unset, .unset, .unset]) rfl ?_
    show Steps p.tables e below (s₁.setTop (mkF m 7 #[.val (.long q1), .second, .val (.long q2), .second, .val (.long q3), .second, .val (.int p4), .val (.long (q2 &&& (4611686018427387903 : Int64))), .second, .unset, .unset, .unset, .unset, .unset, .unset, .unset, .unset, .unset] [])) _
    refine XS.lload X0.here hx rfl (hb hby at_7) rfl ?_
    show Steps p.tables e below (s₁.setTop (mkF m 9 #[.val (.long q1), .second, .val (.long q2), .second, .val (.long q3), .second, .val (.int p4), .val (.long (q2 &&& (4611686018427387903 : Int64))), .second, .unset, .unset, .unset, .unset, .unset, .unset, .unset, .unset, .unset] [(.long q3)])) _
    refine X0.ldc2Long hx hown (mvT hZ (hw _ (List.mem_of_getElem? (i := 0) rfl))) (g := (mkF m 9 #[.val (.long q1), .second, .val (.long q2), .second, .val (.long q3), .second, .val (.int p4), .val (.long (q2 &&& (4611686018427387903 : Int64))), .second, .unset, .unset, .unset, .unset, .unset, .unset, .unset, .unset, .unset] [(.long q3)])) rfl (hb hby at_9) _ ?_
    show Steps p.tables e below (s₁.setTop (mkF m 12 #[.val (.long q1), .second, .val (.long q2), .second, .val (.long q3), .second, .val (.int p4), .val (.long (q2 &&& (4611686018427387903 : Int64))), .second, .unset, .unset, .unset, .unset, .unset, .unset, .unset, .unset, .unset] [(.long (4611686018427387903 : Int64)), (.long q3)])) _
    refine XS.land X0.here hx rfl (hb hby at_12) rfl ?_
    show Steps p.tables e below (s₁.setTop (mkF m 13 #[.val (.long q1), .second, .val (.long q2), .second, .val (.long q3), .second, .val (.int p4), .val (.long (q2 &&& (4611686018427387903 : Int64))), .second, .unset, .unset, .unset, .unset, .unset, .unset, .unset, .unset, .unset] [(.long (q3 &&& (4611686018427387903 : Int64)))])) _
    refine XS.lstore X0.here hx rfl (hb hby at_13) rfl (l' := #[.val (.long q1), .second, .val (.long q2), .second, .val (.long q3), .second, .val (.int p4), .val (.long (q2 &&& (4611686018427387903 : Int64))), .second, .val (.long (q3 &&& (4611686018427387903 : Int64))), .second, .unset, .unset, .unset, .unset, .unset, .unset, .unset]) rfl ?_
    show Steps p.tables e below (s₁.setTop (mkF m 15 #[.val (.long q1), .second, .val (.long q2), .second, .val (.long q3), .second, .val (.int p4), .val (.long (q2 &&& (4611686018427387903 : Int64))), .second, .val (.long (q3 &&& (4611686018427387903 : Int64))), .second, .unset, .unset, .unset, .unset, .unset, .unset, .unset] [])) _
    refine XS.iload X0.here hx rfl (hb hby at_15) rfl ?_
    show Steps p.tables e below (s₁.setTop (mkF m 17 #[.val (.long q1), .second, .val (.long q2), .second, .val (.long q3), .second, .val (.int p4), .val (.long (q2 &&& (4611686018427387903 : Int64))), .second, .val (.long (q3 &&& (4611686018427387903 : Int64))), .second, .unset, .unset, .unset, .unset, .unset, .unset, .unset] [(.int p4)])) _
    refine XS.iconst X0.here hx rfl (hb hby at_17) ?_
    show Steps p.tables e below (s₁.setTop (mkF m 18 #[.val (.long q1), .second, .val (.long q2), .second, .val (.long q3), .second, .val (.int p4), .val (.long (q2 &&& (4611686018427387903 : Int64))), .second, .val (.long (q3 &&& (4611686018427387903 : Int64))), .second, .unset, .unset, .unset, .unset, .unset, .unset, .unset] [(.int (3 : Int32)), (.int p4)])) _
    refine XS.iand X0.here hx rfl (hb hby at_18) rfl ?_
    show Steps p.tables e below (s₁.setTop (mkF m 19 #[.val (.long q1), .second, .val (.long q2), .second, .val (.long q3), .second, .val (.int p4), .val (.long (q2 &&& (4611686018427387903 : Int64))), .second, .val (.long (q3 &&& (4611686018427387903 : Int64))), .second, .unset, .unset, .unset, .unset, .unset, .unset, .unset] [(.int (p4 &&& (3 : Int32)))])) _
    refine XS.istore X0.here hx rfl (hb hby at_19) rfl (l' := #[.val (.long q1), .second, .val (.long q2), .second, .val (.long q3), .second, .val (.int p4), .val (.long (q2 &&& (4611686018427387903 : Int64))), .second, .val (.long (q3 &&& (4611686018427387903 : Int64))), .second, .val (.int (p4 &&& (3 : Int32))), .unset, .unset, .unset, .unset, .unset, .unset]) rfl ?_
    show Steps p.tables e below (s₁.setTop (mkF m 21 #[.val (.long q1), .second, .val (.long q2), .second, .val (.long q3), .second, .val (.int p4), .val (.long (q2 &&& (4611686018427387903 : Int64))), .second, .val (.long (q3 &&& (4611686018427387903 : Int64))), .second, .val (.int (p4 &&& (3 : Int32))), .unset, .unset, .unset, .unset, .unset, .unset] [])) _
    refine st1 _ ?_
    show Steps p.tables e below (T1.setTop (mkF m 24 #[.val (.long q1), .second, .val (.long q2), .second, .val (.long q3), .second, .val (.int p4), .val (.long (q2 &&& (4611686018427387903 : Int64))), .second, .val (.long (q3 &&& (4611686018427387903 : Int64))), .second, .val (.int (p4 &&& (3 : Int32))), .unset, .unset, .unset, .unset, .unset, .unset] [(.ref b1)])) _
    refine XS.dup X1.here hx rfl (hb hby at_24) rfl rfl ?_
    show Steps p.tables e below (T1.setTop (mkF m 25 #[.val (.long q1), .second, .val (.long q2), .second, .val (.long q3), .second, .val (.int p4), .val (.long (q2 &&& (4611686018427387903 : Int64))), .second, .val (.long (q3 &&& (4611686018427387903 : Int64))), .second, .val (.int (p4 &&& (3 : Int32))), .unset, .unset, .unset, .unset, .unset, .unset] [(.ref b1), (.ref b1)])) _
    refine XS.lloadN X1.here hx rfl (hb hby at_25) rfl ?_
    show Steps p.tables e below (T1.setTop (mkF m 26 #[.val (.long q1), .second, .val (.long q2), .second, .val (.long q3), .second, .val (.int p4), .val (.long (q2 &&& (4611686018427387903 : Int64))), .second, .val (.long (q3 &&& (4611686018427387903 : Int64))), .second, .val (.int (p4 &&& (3 : Int32))), .unset, .unset, .unset, .unset, .unset, .unset] [(.long q1), (.ref b1), (.ref b1)])) _
    refine st3.trans ?_
    show Steps p.tables e below (T3.setTop (mkF m 29 #[.val (.long q1), .second, .val (.long q2), .second, .val (.long q3), .second, .val (.int p4), .val (.long (q2 &&& (4611686018427387903 : Int64))), .second, .val (.long (q3 &&& (4611686018427387903 : Int64))), .second, .val (.int (p4 &&& (3 : Int32))), .unset, .unset, .unset, .unset, .unset, .unset] [(.ref b1)])) _
    refine XS.astore X3.here hx rfl (hb hby at_29) rfl rfl (l' := #[.val (.long q1), .second, .val (.long q2), .second, .val (.long q3), .second, .val (.int p4), .val (.long (q2 &&& (4611686018427387903 : Int64))), .second, .val (.long (q3 &&& (4611686018427387903 : Int64))), .second, .val (.int (p4 &&& (3 : Int32))), .val (.ref b1), .unset, .unset, .unset, .unset, .unset]) rfl ?_
    show Steps p.tables e below (T3.setTop (mkF m 31 #[.val (.long q1), .second, .val (.long q2), .second, .val (.long q3), .second, .val (.int p4), .val (.long (q2 &&& (4611686018427387903 : Int64))), .second, .val (.long (q3 &&& (4611686018427387903 : Int64))), .second, .val (.int (p4 &&& (3 : Int32))), .val (.ref b1), .unset, .unset, .unset, .unset, .unset] [])) _
    refine XS.aload X3.here hx rfl (hb hby at_31) rfl rfl ?_
    show Steps p.tables e below (T3.setTop (mkF m 33 #[.val (.long q1), .second, .val (.long q2), .second, .val (.long q3), .second, .val (.int p4), .val (.long (q2 &&& (4611686018427387903 : Int64))), .second, .val (.long (q3 &&& (4611686018427387903 : Int64))), .second, .val (.int (p4 &&& (3 : Int32))), .val (.ref b1), .unset, .unset, .unset, .unset, .unset] [(.ref b1)])) _
    refine XS.lload X3.here hx rfl (hb hby at_33) rfl ?_
    show Steps p.tables e below (T3.setTop (mkF m 35 #[.val (.long q1), .second, .val (.long q2), .second, .val (.long q3), .second, .val (.int p4), .val (.long (q2 &&& (4611686018427387903 : Int64))), .second, .val (.long (q3 &&& (4611686018427387903 : Int64))), .second, .val (.int (p4 &&& (3 : Int32))), .val (.ref b1), .unset, .unset, .unset, .unset, .unset] [(.long (q2 &&& (4611686018427387903 : Int64))), (.ref b1)])) _
    refine st5.trans ?_
    show Steps p.tables e below (T5.setTop (mkF m 38 #[.val (.long q1), .second, .val (.long q2), .second, .val (.long q3), .second, .val (.int p4), .val (.long (q2 &&& (4611686018427387903 : Int64))), .second, .val (.long (q3 &&& (4611686018427387903 : Int64))), .second, .val (.int (p4 &&& (3 : Int32))), .val (.ref b1), .unset, .unset, .unset, .unset, .unset] [])) _
    refine XS.iload X5.here hx rfl (hb hby at_38) rfl ?_
    show Steps p.tables e below (T5.setTop (mkF m 40 #[.val (.long q1), .second, .val (.long q2), .second, .val (.long q3), .second, .val (.int p4), .val (.long (q2 &&& (4611686018427387903 : Int64))), .second, .val (.long (q3 &&& (4611686018427387903 : Int64))), .second, .val (.int (p4 &&& (3 : Int32))), .val (.ref b1), .unset, .unset, .unset, .unset, .unset] [(.int (p4 &&& (3 : Int32)))])) _
    refine XS.iconst X5.here hx rfl (hb hby at_40) ?_
    show Steps p.tables e below (T5.setTop (mkF m 41 #[.val (.long q1), .second, .val (.long q2), .second, .val (.long q3), .second, .val (.int p4), .val (.long (q2 &&& (4611686018427387903 : Int64))), .second, .val (.long (q3 &&& (4611686018427387903 : Int64))), .second, .val (.int (p4 &&& (3 : Int32))), .val (.ref b1), .unset, .unset, .unset, .unset, .unset] [(.int (1 : Int32)), (.int (p4 &&& (3 : Int32)))])) _
    exact k
  by_cases hc41_7 : (p4 &&& (3 : Int32)) < (1 : Int32)
  · refine GoalS.lift (B := (T5.setTop (mkF m 53 #[.val (.long q1), .second, .val (.long q2), .second, .val (.long q3), .second, .val (.int p4), .val (.long (q2 &&& (4611686018427387903 : Int64))), .second, .val (.long (q3 &&& (4611686018427387903 : Int64))), .second, .val (.int (p4 &&& (3 : Int32))), .val (.ref b1), .unset, .unset, .unset, .unset, .unset] [(.int (2 : Int32)), (.int (p4 &&& (3 : Int32)))]))) (fun t k => ?_) ?_
    · show Steps p.tables e below (T5.setTop (mkF m 41 #[.val (.long q1), .second, .val (.long q2), .second, .val (.long q3), .second, .val (.int p4), .val (.long (q2 &&& (4611686018427387903 : Int64))), .second, .val (.long (q3 &&& (4611686018427387903 : Int64))), .second, .val (.int (p4 &&& (3 : Int32))), .val (.ref b1), .unset, .unset, .unset, .unset, .unset] [(.int (1 : Int32)), (.int (p4 &&& (3 : Int32)))])) _
      refine XS.icmpYes X5.here hx rfl (pc0 := 41) (pc' := 50) rfl (hb hby at_41) rfl ((tlt hc41_7).1) (by decide) (by decide) ?_
      show Steps p.tables e below (T5.setTop (mkF m 50 #[.val (.long q1), .second, .val (.long q2), .second, .val (.long q3), .second, .val (.int p4), .val (.long (q2 &&& (4611686018427387903 : Int64))), .second, .val (.long (q3 &&& (4611686018427387903 : Int64))), .second, .val (.int (p4 &&& (3 : Int32))), .val (.ref b1), .unset, .unset, .unset, .unset, .unset] [])) _
      refine XS.iload X5.here hx rfl (hb hby at_50) rfl ?_
      show Steps p.tables e below (T5.setTop (mkF m 52 #[.val (.long q1), .second, .val (.long q2), .second, .val (.long q3), .second, .val (.int p4), .val (.long (q2 &&& (4611686018427387903 : Int64))), .second, .val (.long (q3 &&& (4611686018427387903 : Int64))), .second, .val (.int (p4 &&& (3 : Int32))), .val (.ref b1), .unset, .unset, .unset, .unset, .unset] [(.int (p4 &&& (3 : Int32)))])) _
      refine XS.iconst X5.here hx rfl (hb hby at_52) ?_
      show Steps p.tables e below (T5.setTop (mkF m 53 #[.val (.long q1), .second, .val (.long q2), .second, .val (.long q3), .second, .val (.int p4), .val (.long (q2 &&& (4611686018427387903 : Int64))), .second, .val (.long (q3 &&& (4611686018427387903 : Int64))), .second, .val (.int (p4 &&& (3 : Int32))), .val (.ref b1), .unset, .unset, .unset, .unset, .unset] [(.int (2 : Int32)), (.int (p4 &&& (3 : Int32)))])) _
      exact k
    by_cases hc53_8 : (p4 &&& (3 : Int32)) < (2 : Int32)
    · refine GoalS.lift (B := (T5.setTop (mkF m 65 #[.val (.long q1), .second, .val (.long q2), .second, .val (.long q3), .second, .val (.int p4), .val (.long (q2 &&& (4611686018427387903 : Int64))), .second, .val (.long (q3 &&& (4611686018427387903 : Int64))), .second, .val (.int (p4 &&& (3 : Int32))), .val (.ref b1), .unset, .unset, .unset, .unset, .unset] [(.int (3 : Int32)), (.int (p4 &&& (3 : Int32)))]))) (fun t k => ?_) ?_
      · show Steps p.tables e below (T5.setTop (mkF m 53 #[.val (.long q1), .second, .val (.long q2), .second, .val (.long q3), .second, .val (.int p4), .val (.long (q2 &&& (4611686018427387903 : Int64))), .second, .val (.long (q3 &&& (4611686018427387903 : Int64))), .second, .val (.int (p4 &&& (3 : Int32))), .val (.ref b1), .unset, .unset, .unset, .unset, .unset] [(.int (2 : Int32)), (.int (p4 &&& (3 : Int32)))])) _
        refine XS.icmpYes X5.here hx rfl (pc0 := 53) (pc' := 62) rfl (hb hby at_53) rfl ((tlt hc53_8).1) (by decide) (by decide) ?_
        show Steps p.tables e below (T5.setTop (mkF m 62 #[.val (.long q1), .second, .val (.long q2), .second, .val (.long q3), .second, .val (.int p4), .val (.long (q2 &&& (4611686018427387903 : Int64))), .second, .val (.long (q3 &&& (4611686018427387903 : Int64))), .second, .val (.int (p4 &&& (3 : Int32))), .val (.ref b1), .unset, .unset, .unset, .unset, .unset] [])) _
        refine XS.iload X5.here hx rfl (hb hby at_62) rfl ?_
        show Steps p.tables e below (T5.setTop (mkF m 64 #[.val (.long q1), .second, .val (.long q2), .second, .val (.long q3), .second, .val (.int p4), .val (.long (q2 &&& (4611686018427387903 : Int64))), .second, .val (.long (q3 &&& (4611686018427387903 : Int64))), .second, .val (.int (p4 &&& (3 : Int32))), .val (.ref b1), .unset, .unset, .unset, .unset, .unset] [(.int (p4 &&& (3 : Int32)))])) _
        refine XS.iconst X5.here hx rfl (hb hby at_64) ?_
        show Steps p.tables e below (T5.setTop (mkF m 65 #[.val (.long q1), .second, .val (.long q2), .second, .val (.long q3), .second, .val (.int p4), .val (.long (q2 &&& (4611686018427387903 : Int64))), .second, .val (.long (q3 &&& (4611686018427387903 : Int64))), .second, .val (.int (p4 &&& (3 : Int32))), .val (.ref b1), .unset, .unset, .unset, .unset, .unset] [(.int (3 : Int32)), (.int (p4 &&& (3 : Int32)))])) _
        exact k
      by_cases hc65_9 : (p4 &&& (3 : Int32)) < (3 : Int32)
      · obtain ⟨cq10, kq10, q10a, q10b, q10c⟩ := isOf hZ rfl p5_1
        obtain ⟨_, _, ⟨T10, L10, k10, n10⟩, -, X10, ⟨Lc10, hQ10, l10, y10, z10⟩, st10⟩ := X5.virtualBack hx (y := (⟨"com/example/pipstill/pipstill/Dice", "skip", "(J)V"⟩ : MethodName)) (z := (⟨"com/example/pipstill/pipstill/Dice", "skip", "(J)V"⟩ : MethodName)) hown (mvT hZ (hw _ (List.mem_of_getElem? (i := 12) rfl))) (mvT hZ (hw _ (List.mem_of_getElem? (i := 13) rfl))) (notFace_of_selects (args := #[]) (mvT hZ (hw _ (List.mem_of_getElem? (i := 15) rfl)))) (mvT hZ (hw _ (List.mem_of_getElem? (i := 15) rfl))) (mvT hZ (hw _ (List.mem_of_getElem? (i := 14) rfl))) (by decide) (backOf (W := 0) (rm3 l Z a0 hw [] b1 (q3 &&& (4611686018427387903 : Int64)) (q1 + ((q2 &&& (4611686018427387903 : Int64)) * (-7046029254386353131 : Int64))) T5.heap n0 z6 p5_1 g_b1 p5_2) hZ (hw _ (List.mem_of_getElem? (i := 16) rfl)) (hw _ (List.mem_of_getElem? (i := 3) rfl)) (by decide) (by decide)) q10a q10c (g := (mkF m 78 #[.val (.long q1), .second, .val (.long q2), .second, .val (.long q3), .second, .val (.int p4), .val (.long (q2 &&& (4611686018427387903 : Int64))), .second, .val (.long (q3 &&& (4611686018427387903 : Int64))), .second, .val (.int (p4 &&& (3 : Int32))), .val (.ref b1), .unset, .unset, .unset, .unset, .unset] [(.long (q3 &&& (4611686018427387903 : Int64))), (.ref b1)])) rfl (by rw [hml]; rfl) (Steps.refl _) (argsL := [(.long (q3 &&& (4611686018427387903 : Int64)))]) (rest := []) (lenOf pd_0 rfl) rfl (by show 2 * 0 + _ ≤ _; exact Nat.le_of_eq rfl) (hb hby at_78) (fun _ _ => ⟨rfl, rfl, (by decide : 1 + 0 ≤ _), (by decide : 1 + 0 ≤ _)⟩)
        dsimp only [Pt.U, Pt.locs, Pt.cells, Pt.slots] at X10 l10 y10 z10 st10 hQ10
        subst l10 y10 z10
        obtain ⟨rfl, N10q, p10_0, p10_1, p10_2⟩ := hQ10
        have N10 := Fr.app N5 N10q
        have z11 : n0 ≤ T10.heap.size := Nat.le_trans z6 p10_0.1
        obtain ⟨cq12, kq12, q12a, q12b, q12c⟩ := isOf hZ rfl p10_1
        obtain ⟨_, _, ⟨T12, L12, k12, n12⟩, -, X12, ⟨Lc12, hQ12, l12, y12, z12⟩, st12⟩ := X10.virtualBack hx (y := (⟨"com/example/pipstill/pipstill/Dice", "nextLong", "()J"⟩ : MethodName)) (z := (⟨"com/example/pipstill/pipstill/Dice", "nextLong", "()J"⟩ : MethodName)) hown (mvT hZ (hw _ (List.mem_of_getElem? (i := 18) rfl))) (mvT hZ (hw _ (List.mem_of_getElem? (i := 19) rfl))) (notFace_of_selects (args := #[]) (mvT hZ (hw _ (List.mem_of_getElem? (i := 21) rfl)))) (mvT hZ (hw _ (List.mem_of_getElem? (i := 21) rfl))) (mvT hZ (hw _ (List.mem_of_getElem? (i := 20) rfl))) (by decide) (backOf (W := 0) (rm4 l Z a0 hw [] b1 ((q1 + ((q2 &&& (4611686018427387903 : Int64)) * (-7046029254386353131 : Int64))) + ((q3 &&& (4611686018427387903 : Int64)) * (-7046029254386353131 : Int64))) T10.heap n0 z11 p10_1 g_b1 p10_2) hZ (hw _ (List.mem_of_getElem? (i := 22) rfl)) (hw _ (List.mem_of_getElem? (i := 3) rfl)) (by decide) (by decide)) q12a q12c (g := (mkF m 83 #[.val (.long q1), .second, .val (.long q2), .second, .val (.long q3), .second, .val (.int p4), .val (.long (q2 &&& (4611686018427387903 : Int64))), .second, .val (.long (q3 &&& (4611686018427387903 : Int64))), .second, .val (.int (p4 &&& (3 : Int32))), .val (.ref b1), .unset, .unset, .unset, .unset, .unset] [(.ref b1)])) rfl (by rw [hml]; rfl) (Steps.refl _) (argsL := []) (rest := []) (lenOf pd_1 rfl) rfl (by show 2 * 0 + _ ≤ _; exact Nat.le_of_eq rfl) (hb hby at_83) (fun _ _ => ⟨rfl, rfl, (by decide : 1 + 0 ≤ _), (by decide : 1 + 0 ≤ _)⟩)
        dsimp only [Pt.U, Pt.locs, Pt.cells, Pt.slots] at X12 l12 y12 z12 st12 hQ12
        subst l12 y12 z12
        obtain ⟨r12, rfl, hr12, N12q, p12_0, p12_1, p12_2⟩ := hQ12
        have N12 := Fr.app N10 N12q
        have z13 : n0 ≤ T12.heap.size := Nat.le_trans z11 p12_0.1
        obtain ⟨T14, h14, X14, e14, E14, A14, D14, -, st14⟩ := newO X12 hx hZ hown (hw _ (List.mem_of_getElem? (i := 1) rfl)) (hw _ (List.mem_of_getElem? (i := 2) rfl)) (hw _ (List.mem_of_getElem? (i := 3) rfl)) rfl (g := (mkF m 88 #[.val (.long q1), .second, .val (.long q2), .second, .val (.long q3), .second, .val (.int p4), .val (.long (q2 &&& (4611686018427387903 : Int64))), .second, .val (.long (q3 &&& (4611686018427387903 : Int64))), .second, .val (.int (p4 &&& (3 : Int32))), .val (.ref b1), .val (.long r12), .second, .unset, .unset, .unset] [])) rfl (hb hby at_88) (by decide) (by decide)
        obtain ⟨b14, g14⟩ : ∃ z, z = T12.heap.size := ⟨_, rfl⟩
        rw [← g14] at A14 D14 st14
        have g_b14 : n0 ≤ b14 := Nat.le_trans z13 (Nat.le_of_eq g14.symm)
        have ne_b1_b14 : b1 ≠ b14 := Nat.ne_of_lt (Nat.lt_of_lt_of_le p12_1.lt (Nat.le_of_eq g14.symm))
        have z15 : n0 ≤ h14.size := Nat.le_trans z13 E14.1
        have F_state_b14 : Fld Z h14 b14 "com/example/pipstill/pipstill/Dice" "state" "J" (.long (0 : Int64)) := D14 (Or.inl (hw _ (List.mem_of_getElem? (i := 11) rfl))) (ty := .long) (by decide)
        obtain ⟨_, _, ⟨T16, L16, k16, n16⟩, -, X16, ⟨Lc16, hQ16, l16, y16, z16⟩, st16⟩ := X14.specialBack hx (y := (⟨"com/example/pipstill/pipstill/Dice", "<init>", "(J)V"⟩ : MethodName)) rfl hown (mvT hZ (hw _ (List.mem_of_getElem? (i := 4) rfl))) (mvT hZ (hw _ (List.mem_of_getElem? (i := 5) rfl))) (mvT hZ (hw _ (List.mem_of_getElem? (i := 6) rfl))) (by decide) (backOf (W := 1) (rm1 l Z a0 hw [] b14 q1 (.long (0 : Int64)) h14 n0 z15 A14 g_b14 F_state_b14) hZ (hw _ (List.mem_of_getElem? (i := 6) rfl)) (hw _ (List.mem_of_getElem? (i := 3) rfl)) (by decide) (by decide)) (g := (mkF m 93 #[.val (.long q1), .second, .val (.long q2), .second, .val (.long q3), .second, .val (.int p4), .val (.long (q2 &&& (4611686018427387903 : Int64))), .second, .val (.long (q3 &&& (4611686018427387903 : Int64))), .second, .val (.int (p4 &&& (3 : Int32))), .val (.ref b1), .val (.long r12), .second, .unset, .unset, .unset] [(.long q1), (.ref b14), (.ref b14)])) rfl (by rw [hml]; rfl) (Steps.refl _) (a := b14) (argsL := [(.long q1)]) (rest := [(.ref b14)]) (lenOf pd_0 rfl) rfl (by show 2 * 0 + _ ≤ _; exact Nat.le_of_eq rfl) (hb hby at_93) (fun _ _ => ⟨rfl, e14, (by decide : 2 + 0 ≤ _), (by decide : 2 + 0 ≤ _)⟩)
        dsimp only [Pt.U, Pt.locs, Pt.cells, Pt.slots] at X16 l16 y16 z16 st16 hQ16
        subst l16 y16 z16
        obtain ⟨rfl, N16q, p16_0, p16_1, p16_2⟩ := hQ16
        have N16 := Fr.app N12 N16q
        have z17 : n0 ≤ T16.heap.size := Nat.le_trans z15 p16_0.1
        obtain ⟨cq18, kq18, q18a, q18b, q18c⟩ := isOf hZ rfl p16_1
        obtain ⟨_, _, ⟨T18, L18, k18, n18⟩, -, X18, ⟨Lc18, hQ18, l18, y18, z18⟩, st18⟩ := X16.virtualBack hx (y := (⟨"com/example/pipstill/pipstill/Dice", "skip", "(J)V"⟩ : MethodName)) (z := (⟨"com/example/pipstill/pipstill/Dice", "skip", "(J)V"⟩ : MethodName)) hown (mvT hZ (hw _ (List.mem_of_getElem? (i := 12) rfl))) (mvT hZ (hw _ (List.mem_of_getElem? (i := 13) rfl))) (notFace_of_selects (args := #[]) (mvT hZ (hw _ (List.mem_of_getElem? (i := 15) rfl)))) (mvT hZ (hw _ (List.mem_of_getElem? (i := 15) rfl))) (mvT hZ (hw _ (List.mem_of_getElem? (i := 14) rfl))) (by decide) (backOf (W := 0) (rm3 l Z a0 hw [] b14 (((q2 &&& (4611686018427387903 : Int64)) + (((p4 &&& (3 : Int32))).toInt64)) + (q3 &&& (4611686018427387903 : Int64))) q1 T16.heap n0 z17 p16_1 g_b14 p16_2) hZ (hw _ (List.mem_of_getElem? (i := 16) rfl)) (hw _ (List.mem_of_getElem? (i := 3) rfl)) (by decide) (by decide)) q18a q18c (g := (mkF m 109 #[.val (.long q1), .second, .val (.long q2), .second, .val (.long q3), .second, .val (.int p4), .val (.long (q2 &&& (4611686018427387903 : Int64))), .second, .val (.long (q3 &&& (4611686018427387903 : Int64))), .second, .val (.int (p4 &&& (3 : Int32))), .val (.ref b1), .val (.long r12), .second, .val (.ref b14), .unset, .unset] [(.long (((q2 &&& (4611686018427387903 : Int64)) + (((p4 &&& (3 : Int32))).toInt64)) + (q3 &&& (4611686018427387903 : Int64)))), (.ref b14)])) rfl (by rw [hml]; rfl) (Steps.refl _) (argsL := [(.long (((q2 &&& (4611686018427387903 : Int64)) + (((p4 &&& (3 : Int32))).toInt64)) + (q3 &&& (4611686018427387903 : Int64))))]) (rest := []) (lenOf pd_0 rfl) rfl (by show 2 * 0 + _ ≤ _; exact Nat.le_of_eq rfl) (hb hby at_109) (fun _ _ => ⟨rfl, rfl, (by decide : 2 + 0 ≤ _), (by decide : 2 + 0 ≤ _)⟩)
        dsimp only [Pt.U, Pt.locs, Pt.cells, Pt.slots] at X18 l18 y18 z18 st18 hQ18
        subst l18 y18 z18
        obtain ⟨rfl, N18q, p18_0, p18_1, p18_2⟩ := hQ18
        have N18 := Fr.app N16 N18q
        have z19 : n0 ≤ T18.heap.size := Nat.le_trans z17 p18_0.1
        obtain ⟨cq20, kq20, q20a, q20b, q20c⟩ := isOf hZ rfl p18_1
        obtain ⟨_, _, ⟨T20, L20, k20, n20⟩, -, X20, ⟨Lc20, hQ20, l20, y20, z20⟩, st20⟩ := X18.virtualBack hx (y := (⟨"com/example/pipstill/pipstill/Dice", "nextLong", "()J"⟩ : MethodName)) (z := (⟨"com/example/pipstill/pipstill/Dice", "nextLong", "()J"⟩ : MethodName)) hown (mvT hZ (hw _ (List.mem_of_getElem? (i := 18) rfl))) (mvT hZ (hw _ (List.mem_of_getElem? (i := 19) rfl))) (notFace_of_selects (args := #[]) (mvT hZ (hw _ (List.mem_of_getElem? (i := 21) rfl)))) (mvT hZ (hw _ (List.mem_of_getElem? (i := 21) rfl))) (mvT hZ (hw _ (List.mem_of_getElem? (i := 20) rfl))) (by decide) (backOf (W := 0) (rm4 l Z a0 hw [] b14 (q1 + ((((q2 &&& (4611686018427387903 : Int64)) + (((p4 &&& (3 : Int32))).toInt64)) + (q3 &&& (4611686018427387903 : Int64))) * (-7046029254386353131 : Int64))) T18.heap n0 z19 p18_1 g_b14 p18_2) hZ (hw _ (List.mem_of_getElem? (i := 22) rfl)) (hw _ (List.mem_of_getElem? (i := 3) rfl)) (by decide) (by decide)) q20a q20c (g := (mkF m 114 #[.val (.long q1), .second, .val (.long q2), .second, .val (.long q3), .second, .val (.int p4), .val (.long (q2 &&& (4611686018427387903 : Int64))), .second, .val (.long (q3 &&& (4611686018427387903 : Int64))), .second, .val (.int (p4 &&& (3 : Int32))), .val (.ref b1), .val (.long r12), .second, .val (.ref b14), .unset, .unset] [(.ref b14)])) rfl (by rw [hml]; rfl) (Steps.refl _) (argsL := []) (rest := []) (lenOf pd_1 rfl) rfl (by show 2 * 0 + _ ≤ _; exact Nat.le_of_eq rfl) (hb hby at_114) (fun _ _ => ⟨rfl, rfl, (by decide : 2 + 0 ≤ _), (by decide : 2 + 0 ≤ _)⟩)
        dsimp only [Pt.U, Pt.locs, Pt.cells, Pt.slots] at X20 l20 y20 z20 st20 hQ20
        subst l20 y20 z20
        obtain ⟨r20, rfl, hr20, N20q, p20_0, p20_1, p20_2⟩ := hQ20
        have N20 := Fr.app N18 N20q
        have z21 : n0 ≤ T20.heap.size := Nat.le_trans z19 p20_0.1
        have hn4 : (p4 &&& (3 : Int32)) = (0 : Int32) := own_is (n := 0) _ rfl (by have h4 := own_n p4; have := hc41_7; have := hc53_8; have := hc65_9; simp only [Int32.lt_iff_toInt_lt] at *; have e1 : (1 : Int32).toInt = 1 := rfl; have e2 : (2 : Int32).toInt = 2 := rfl; have e3 : (3 : Int32).toInt = 3 := rfl; omega)
        obtain ⟨fs, hr, hrun, hended, hW, hsame⟩ := X20.leave (v := some (.int (1 : Int32))) (fun h => by rw [Bd.returns] at h; cases h)
        refine ⟨_, _, ?_, hrun, hended, _, _, rfl, ?_, ⟨_, rfl⟩, hW, hsame.mono (by decide) (by decide)⟩
        · show Steps p.tables e below (T5.setTop (mkF m 65 #[.val (.long q1), .second, .val (.long q2), .second, .val (.long q3), .second, .val (.int p4), .val (.long (q2 &&& (4611686018427387903 : Int64))), .second, .val (.long (q3 &&& (4611686018427387903 : Int64))), .second, .val (.int (p4 &&& (3 : Int32))), .val (.ref b1), .unset, .unset, .unset, .unset, .unset] [(.int (3 : Int32)), (.int (p4 &&& (3 : Int32)))])) _
          refine XS.icmpYes X5.here hx rfl (pc0 := 65) (pc' := 74) rfl (hb hby at_65) rfl ((tlt hc65_9).1) (by decide) (by decide) ?_
          show Steps p.tables e below (T5.setTop (mkF m 74 #[.val (.long q1), .second, .val (.long q2), .second, .val (.long q3), .second, .val (.int p4), .val (.long (q2 &&& (4611686018427387903 : Int64))), .second, .val (.long (q3 &&& (4611686018427387903 : Int64))), .second, .val (.int (p4 &&& (3 : Int32))), .val (.ref b1), .unset, .unset, .unset, .unset, .unset] [])) _
          refine XS.aload X5.here hx rfl (hb hby at_74) rfl rfl ?_
          show Steps p.tables e below (T5.setTop (mkF m 76 #[.val (.long q1), .second, .val (.long q2), .second, .val (.long q3), .second, .val (.int p4), .val (.long (q2 &&& (4611686018427387903 : Int64))), .second, .val (.long (q3 &&& (4611686018427387903 : Int64))), .second, .val (.int (p4 &&& (3 : Int32))), .val (.ref b1), .unset, .unset, .unset, .unset, .unset] [(.ref b1)])) _
          refine XS.lload X5.here hx rfl (hb hby at_76) rfl ?_
          show Steps p.tables e below (T5.setTop (mkF m 78 #[.val (.long q1), .second, .val (.long q2), .second, .val (.long q3), .second, .val (.int p4), .val (.long (q2 &&& (4611686018427387903 : Int64))), .second, .val (.long (q3 &&& (4611686018427387903 : Int64))), .second, .val (.int (p4 &&& (3 : Int32))), .val (.ref b1), .unset, .unset, .unset, .unset, .unset] [(.long (q3 &&& (4611686018427387903 : Int64))), (.ref b1)])) _
          refine st10.trans ?_
          show Steps p.tables e below (T10.setTop (mkF m 81 #[.val (.long q1), .second, .val (.long q2), .second, .val (.long q3), .second, .val (.int p4), .val (.long (q2 &&& (4611686018427387903 : Int64))), .second, .val (.long (q3 &&& (4611686018427387903 : Int64))), .second, .val (.int (p4 &&& (3 : Int32))), .val (.ref b1), .unset, .unset, .unset, .unset, .unset] [])) _
          refine XS.aload X10.here hx rfl (hb hby at_81) rfl rfl ?_
          show Steps p.tables e below (T10.setTop (mkF m 83 #[.val (.long q1), .second, .val (.long q2), .second, .val (.long q3), .second, .val (.int p4), .val (.long (q2 &&& (4611686018427387903 : Int64))), .second, .val (.long (q3 &&& (4611686018427387903 : Int64))), .second, .val (.int (p4 &&& (3 : Int32))), .val (.ref b1), .unset, .unset, .unset, .unset, .unset] [(.ref b1)])) _
          refine st12.trans ?_
          show Steps p.tables e below (T12.setTop (mkF m 86 #[.val (.long q1), .second, .val (.long q2), .second, .val (.long q3), .second, .val (.int p4), .val (.long (q2 &&& (4611686018427387903 : Int64))), .second, .val (.long (q3 &&& (4611686018427387903 : Int64))), .second, .val (.int (p4 &&& (3 : Int32))), .val (.ref b1), .unset, .unset, .unset, .unset, .unset] [(.long r12)])) _
          refine XS.lstore X12.here hx rfl (hb hby at_86) rfl (l' := #[.val (.long q1), .second, .val (.long q2), .second, .val (.long q3), .second, .val (.int p4), .val (.long (q2 &&& (4611686018427387903 : Int64))), .second, .val (.long (q3 &&& (4611686018427387903 : Int64))), .second, .val (.int (p4 &&& (3 : Int32))), .val (.ref b1), .val (.long r12), .second, .unset, .unset, .unset]) rfl ?_
          show Steps p.tables e below (T12.setTop (mkF m 88 #[.val (.long q1), .second, .val (.long q2), .second, .val (.long q3), .second, .val (.int p4), .val (.long (q2 &&& (4611686018427387903 : Int64))), .second, .val (.long (q3 &&& (4611686018427387903 : Int64))), .second, .val (.int (p4 &&& (3 : Int32))), .val (.ref b1), .val (.long r12), .second, .unset, .unset, .unset] [])) _
          refine st14 _ ?_
          show Steps p.tables e below (T14.setTop (mkF m 91 #[.val (.long q1), .second, .val (.long q2), .second, .val (.long q3), .second, .val (.int p4), .val (.long (q2 &&& (4611686018427387903 : Int64))), .second, .val (.long (q3 &&& (4611686018427387903 : Int64))), .second, .val (.int (p4 &&& (3 : Int32))), .val (.ref b1), .val (.long r12), .second, .unset, .unset, .unset] [(.ref b14)])) _
          refine XS.dup X14.here hx rfl (hb hby at_91) rfl rfl ?_
          show Steps p.tables e below (T14.setTop (mkF m 92 #[.val (.long q1), .second, .val (.long q2), .second, .val (.long q3), .second, .val (.int p4), .val (.long (q2 &&& (4611686018427387903 : Int64))), .second, .val (.long (q3 &&& (4611686018427387903 : Int64))), .second, .val (.int (p4 &&& (3 : Int32))), .val (.ref b1), .val (.long r12), .second, .unset, .unset, .unset] [(.ref b14), (.ref b14)])) _
          refine XS.lloadN X14.here hx rfl (hb hby at_92) rfl ?_
          show Steps p.tables e below (T14.setTop (mkF m 93 #[.val (.long q1), .second, .val (.long q2), .second, .val (.long q3), .second, .val (.int p4), .val (.long (q2 &&& (4611686018427387903 : Int64))), .second, .val (.long (q3 &&& (4611686018427387903 : Int64))), .second, .val (.int (p4 &&& (3 : Int32))), .val (.ref b1), .val (.long r12), .second, .unset, .unset, .unset] [(.long q1), (.ref b14), (.ref b14)])) _
          refine st16.trans ?_
          show Steps p.tables e below (T16.setTop (mkF m 96 #[.val (.long q1), .second, .val (.long q2), .second, .val (.long q3), .second, .val (.int p4), .val (.long (q2 &&& (4611686018427387903 : Int64))), .second, .val (.long (q3 &&& (4611686018427387903 : Int64))), .second, .val (.int (p4 &&& (3 : Int32))), .val (.ref b1), .val (.long r12), .second, .unset, .unset, .unset] [(.ref b14)])) _
          refine XS.astore X16.here hx rfl (hb hby at_96) rfl rfl (l' := #[.val (.long q1), .second, .val (.long q2), .second, .val (.long q3), .second, .val (.int p4), .val (.long (q2 &&& (4611686018427387903 : Int64))), .second, .val (.long (q3 &&& (4611686018427387903 : Int64))), .second, .val (.int (p4 &&& (3 : Int32))), .val (.ref b1), .val (.long r12), .second, .val (.ref b14), .unset, .unset]) rfl ?_
          show Steps p.tables e below (T16.setTop (mkF m 98 #[.val (.long q1), .second, .val (.long q2), .second, .val (.long q3), .second, .val (.int p4), .val (.long (q2 &&& (4611686018427387903 : Int64))), .second, .val (.long (q3 &&& (4611686018427387903 : Int64))), .second, .val (.int (p4 &&& (3 : Int32))), .val (.ref b1), .val (.long r12), .second, .val (.ref b14), .unset, .unset] [])) _
          refine XS.aload X16.here hx rfl (hb hby at_98) rfl rfl ?_
          show Steps p.tables e below (T16.setTop (mkF m 100 #[.val (.long q1), .second, .val (.long q2), .second, .val (.long q3), .second, .val (.int p4), .val (.long (q2 &&& (4611686018427387903 : Int64))), .second, .val (.long (q3 &&& (4611686018427387903 : Int64))), .second, .val (.int (p4 &&& (3 : Int32))), .val (.ref b1), .val (.long r12), .second, .val (.ref b14), .unset, .unset] [(.ref b14)])) _
          refine XS.lload X16.here hx rfl (hb hby at_100) rfl ?_
          show Steps p.tables e below (T16.setTop (mkF m 102 #[.val (.long q1), .second, .val (.long q2), .second, .val (.long q3), .second, .val (.int p4), .val (.long (q2 &&& (4611686018427387903 : Int64))), .second, .val (.long (q3 &&& (4611686018427387903 : Int64))), .second, .val (.int (p4 &&& (3 : Int32))), .val (.ref b1), .val (.long r12), .second, .val (.ref b14), .unset, .unset] [(.long (q2 &&& (4611686018427387903 : Int64))), (.ref b14)])) _
          refine XS.iload X16.here hx rfl (hb hby at_102) rfl ?_
          show Steps p.tables e below (T16.setTop (mkF m 104 #[.val (.long q1), .second, .val (.long q2), .second, .val (.long q3), .second, .val (.int p4), .val (.long (q2 &&& (4611686018427387903 : Int64))), .second, .val (.long (q3 &&& (4611686018427387903 : Int64))), .second, .val (.int (p4 &&& (3 : Int32))), .val (.ref b1), .val (.long r12), .second, .val (.ref b14), .unset, .unset] [(.int (p4 &&& (3 : Int32))), (.long (q2 &&& (4611686018427387903 : Int64))), (.ref b14)])) _
          refine XS.i2l X16.here hx rfl (hb hby at_104) rfl ?_
          show Steps p.tables e below (T16.setTop (mkF m 105 #[.val (.long q1), .second, .val (.long q2), .second, .val (.long q3), .second, .val (.int p4), .val (.long (q2 &&& (4611686018427387903 : Int64))), .second, .val (.long (q3 &&& (4611686018427387903 : Int64))), .second, .val (.int (p4 &&& (3 : Int32))), .val (.ref b1), .val (.long r12), .second, .val (.ref b14), .unset, .unset] [(.long (((p4 &&& (3 : Int32))).toInt64)), (.long (q2 &&& (4611686018427387903 : Int64))), (.ref b14)])) _
          refine XS.ladd X16.here hx rfl (hb hby at_105) rfl ?_
          show Steps p.tables e below (T16.setTop (mkF m 106 #[.val (.long q1), .second, .val (.long q2), .second, .val (.long q3), .second, .val (.int p4), .val (.long (q2 &&& (4611686018427387903 : Int64))), .second, .val (.long (q3 &&& (4611686018427387903 : Int64))), .second, .val (.int (p4 &&& (3 : Int32))), .val (.ref b1), .val (.long r12), .second, .val (.ref b14), .unset, .unset] [(.long ((q2 &&& (4611686018427387903 : Int64)) + (((p4 &&& (3 : Int32))).toInt64))), (.ref b14)])) _
          refine XS.lload X16.here hx rfl (hb hby at_106) rfl ?_
          show Steps p.tables e below (T16.setTop (mkF m 108 #[.val (.long q1), .second, .val (.long q2), .second, .val (.long q3), .second, .val (.int p4), .val (.long (q2 &&& (4611686018427387903 : Int64))), .second, .val (.long (q3 &&& (4611686018427387903 : Int64))), .second, .val (.int (p4 &&& (3 : Int32))), .val (.ref b1), .val (.long r12), .second, .val (.ref b14), .unset, .unset] [(.long (q3 &&& (4611686018427387903 : Int64))), (.long ((q2 &&& (4611686018427387903 : Int64)) + (((p4 &&& (3 : Int32))).toInt64))), (.ref b14)])) _
          refine XS.ladd X16.here hx rfl (hb hby at_108) rfl ?_
          show Steps p.tables e below (T16.setTop (mkF m 109 #[.val (.long q1), .second, .val (.long q2), .second, .val (.long q3), .second, .val (.int p4), .val (.long (q2 &&& (4611686018427387903 : Int64))), .second, .val (.long (q3 &&& (4611686018427387903 : Int64))), .second, .val (.int (p4 &&& (3 : Int32))), .val (.ref b1), .val (.long r12), .second, .val (.ref b14), .unset, .unset] [(.long (((q2 &&& (4611686018427387903 : Int64)) + (((p4 &&& (3 : Int32))).toInt64)) + (q3 &&& (4611686018427387903 : Int64)))), (.ref b14)])) _
          refine st18.trans ?_
          show Steps p.tables e below (T18.setTop (mkF m 112 #[.val (.long q1), .second, .val (.long q2), .second, .val (.long q3), .second, .val (.int p4), .val (.long (q2 &&& (4611686018427387903 : Int64))), .second, .val (.long (q3 &&& (4611686018427387903 : Int64))), .second, .val (.int (p4 &&& (3 : Int32))), .val (.ref b1), .val (.long r12), .second, .val (.ref b14), .unset, .unset] [])) _
          refine XS.aload X18.here hx rfl (hb hby at_112) rfl rfl ?_
          show Steps p.tables e below (T18.setTop (mkF m 114 #[.val (.long q1), .second, .val (.long q2), .second, .val (.long q3), .second, .val (.int p4), .val (.long (q2 &&& (4611686018427387903 : Int64))), .second, .val (.long (q3 &&& (4611686018427387903 : Int64))), .second, .val (.int (p4 &&& (3 : Int32))), .val (.ref b1), .val (.long r12), .second, .val (.ref b14), .unset, .unset] [(.ref b14)])) _
          refine st20.trans ?_
          show Steps p.tables e below (T20.setTop (mkF m 117 #[.val (.long q1), .second, .val (.long q2), .second, .val (.long q3), .second, .val (.int p4), .val (.long (q2 &&& (4611686018427387903 : Int64))), .second, .val (.long (q3 &&& (4611686018427387903 : Int64))), .second, .val (.int (p4 &&& (3 : Int32))), .val (.ref b1), .val (.long r12), .second, .val (.ref b14), .unset, .unset] [(.long r20)])) _
          refine XS.lstore X20.here hx rfl (hb hby at_117) rfl (l' := #[.val (.long q1), .second, .val (.long q2), .second, .val (.long q3), .second, .val (.int p4), .val (.long (q2 &&& (4611686018427387903 : Int64))), .second, .val (.long (q3 &&& (4611686018427387903 : Int64))), .second, .val (.int (p4 &&& (3 : Int32))), .val (.ref b1), .val (.long r12), .second, .val (.ref b14), .val (.long r20), .second]) rfl ?_
          show Steps p.tables e below (T20.setTop (mkF m 119 #[.val (.long q1), .second, .val (.long q2), .second, .val (.long q3), .second, .val (.int p4), .val (.long (q2 &&& (4611686018427387903 : Int64))), .second, .val (.long (q3 &&& (4611686018427387903 : Int64))), .second, .val (.int (p4 &&& (3 : Int32))), .val (.ref b1), .val (.long r12), .second, .val (.ref b14), .val (.long r20), .second] [])) _
          refine XS.lload X20.here hx rfl (hb hby at_119) rfl ?_
          show Steps p.tables e below (T20.setTop (mkF m 121 #[.val (.long q1), .second, .val (.long q2), .second, .val (.long q3), .second, .val (.int p4), .val (.long (q2 &&& (4611686018427387903 : Int64))), .second, .val (.long (q3 &&& (4611686018427387903 : Int64))), .second, .val (.int (p4 &&& (3 : Int32))), .val (.ref b1), .val (.long r12), .second, .val (.ref b14), .val (.long r20), .second] [(.long r12)])) _
          refine XS.lload X20.here hx rfl (hb hby at_121) rfl ?_
          show Steps p.tables e below (T20.setTop (mkF m 123 #[.val (.long q1), .second, .val (.long q2), .second, .val (.long q3), .second, .val (.int p4), .val (.long (q2 &&& (4611686018427387903 : Int64))), .second, .val (.long (q3 &&& (4611686018427387903 : Int64))), .second, .val (.int (p4 &&& (3 : Int32))), .val (.ref b1), .val (.long r12), .second, .val (.ref b14), .val (.long r20), .second] [(.long r20), (.long r12)])) _
          refine XS.lcmp X20.here hx rfl (hb hby at_123) rfl ?_
          show Steps p.tables e below (T20.setTop (mkF m 124 #[.val (.long q1), .second, .val (.long q2), .second, .val (.long q3), .second, .val (.int p4), .val (.long (q2 &&& (4611686018427387903 : Int64))), .second, .val (.long (q3 &&& (4611686018427387903 : Int64))), .second, .val (.int (p4 &&& (3 : Int32))), .val (.ref b1), .val (.long r12), .second, .val (.ref b14), .val (.long r20), .second] [(.int (lcmpW r12 r20))])) _
          refine XS.ifNo X20.here hx rfl (hb hby at_124) rfl ((if0 _ _).trans (teq ((lw_eq r12 r20).mpr (by rw [hr12, hr20, hn4, own_s0] : r12 = r20))).2) ?_
          show Steps p.tables e below (T20.setTop (mkF m 127 #[.val (.long q1), .second, .val (.long q2), .second, .val (.long q3), .second, .val (.int p4), .val (.long (q2 &&& (4611686018427387903 : Int64))), .second, .val (.long (q3 &&& (4611686018427387903 : Int64))), .second, .val (.int (p4 &&& (3 : Int32))), .val (.ref b1), .val (.long r12), .second, .val (.ref b14), .val (.long r20), .second] [])) _
          refine XS.iconst X20.here hx rfl (hb hby at_127) ?_
          show Steps p.tables e below (T20.setTop (mkF m 128 #[.val (.long q1), .second, .val (.long q2), .second, .val (.long q3), .second, .val (.int p4), .val (.long (q2 &&& (4611686018427387903 : Int64))), .second, .val (.long (q3 &&& (4611686018427387903 : Int64))), .second, .val (.int (p4 &&& (3 : Int32))), .val (.ref b1), .val (.long r12), .second, .val (.ref b14), .val (.long r20), .second] [(.int (1 : Int32))])) _
          refine XS.goto X20.here hx rfl (pc0 := 128) (pc' := 132) rfl (hb hby at_128) (by decide) (by decide) ?_
          show Steps p.tables e below (T20.setTop (mkF m 132 #[.val (.long q1), .second, .val (.long q2), .second, .val (.long q3), .second, .val (.int p4), .val (.long (q2 &&& (4611686018427387903 : Int64))), .second, .val (.long (q3 &&& (4611686018427387903 : Int64))), .second, .val (.int (p4 &&& (3 : Int32))), .val (.ref b1), .val (.long r12), .second, .val (.ref b14), .val (.long r20), .second] [(.int (1 : Int32))])) _
          exact retN X20 hx (t := .boolean) Bd.returns (by simp) (hb hby at_132) hr
        · exact ⟨rfl, N20⟩
      · exact absurd (show (p4 &&& (3 : Int32)) < (3 : Int32) by have := hc53_8; simp only [Int32.lt_iff_toInt_lt] at *; have e1 : (1 : Int32).toInt = 1 := rfl; have e2 : (2 : Int32).toInt = 2 := rfl; have e3 : (3 : Int32).toInt = 3 := rfl; omega) hc65_9
    · exact absurd (show (p4 &&& (3 : Int32)) < (2 : Int32) by have := hc41_7; simp only [Int32.lt_iff_toInt_lt] at *; have e1 : (1 : Int32).toInt = 1 := rfl; have e2 : (2 : Int32).toInt = 2 := rfl; have e3 : (3 : Int32).toInt = 3 := rfl; omega) hc53_8
  · obtain ⟨cq22, kq22, q22a, q22b, q22c⟩ := isOf hZ rfl p5_1
    obtain ⟨_, _, ⟨T22, L22, k22, n22⟩, -, X22, ⟨Lc22, hQ22, l22, y22, z22⟩, st22⟩ := X5.virtualBack hx (y := (⟨"com/example/pipstill/pipstill/Dice", "nextLong", "()J"⟩ : MethodName)) (z := (⟨"com/example/pipstill/pipstill/Dice", "nextLong", "()J"⟩ : MethodName)) hown (mvT hZ (hw _ (List.mem_of_getElem? (i := 18) rfl))) (mvT hZ (hw _ (List.mem_of_getElem? (i := 19) rfl))) (notFace_of_selects (args := #[]) (mvT hZ (hw _ (List.mem_of_getElem? (i := 21) rfl)))) (mvT hZ (hw _ (List.mem_of_getElem? (i := 21) rfl))) (mvT hZ (hw _ (List.mem_of_getElem? (i := 20) rfl))) (by decide) (backOf (W := 0) (rm4 l Z a0 hw [] b1 (q1 + ((q2 &&& (4611686018427387903 : Int64)) * (-7046029254386353131 : Int64))) T5.heap n0 z6 p5_1 g_b1 p5_2) hZ (hw _ (List.mem_of_getElem? (i := 22) rfl)) (hw _ (List.mem_of_getElem? (i := 3) rfl)) (by decide) (by decide)) q22a q22c (g := (mkF m 46 #[.val (.long q1), .second, .val (.long q2), .second, .val (.long q3), .second, .val (.int p4), .val (.long (q2 &&& (4611686018427387903 : Int64))), .second, .val (.long (q3 &&& (4611686018427387903 : Int64))), .second, .val (.int (p4 &&& (3 : Int32))), .val (.ref b1), .unset, .unset, .unset, .unset, .unset] [(.ref b1)])) rfl (by rw [hml]; rfl) (Steps.refl _) (argsL := []) (rest := []) (lenOf pd_1 rfl) rfl (by show 2 * 0 + _ ≤ _; exact Nat.le_of_eq rfl) (hb hby at_46) (fun _ _ => ⟨rfl, rfl, (by decide : 1 + 0 ≤ _), (by decide : 1 + 0 ≤ _)⟩)
    dsimp only [Pt.U, Pt.locs, Pt.cells, Pt.slots] at X22 l22 y22 z22 st22 hQ22
    subst l22 y22 z22
    obtain ⟨r22, rfl, hr22, N22q, p22_0, p22_1, p22_2⟩ := hQ22
    have N22 := Fr.app N5 N22q
    have z23 : n0 ≤ T22.heap.size := Nat.le_trans z6 p22_0.1
    refine GoalS.lift (B := (T22.setTop (mkF m 53 #[.val (.long q1), .second, .val (.long q2), .second, .val (.long q3), .second, .val (.int p4), .val (.long (q2 &&& (4611686018427387903 : Int64))), .second, .val (.long (q3 &&& (4611686018427387903 : Int64))), .second, .val (.int (p4 &&& (3 : Int32))), .val (.ref b1), .unset, .unset, .unset, .unset, .unset] [(.int (2 : Int32)), (.int (p4 &&& (3 : Int32)))]))) (fun t k => ?_) ?_
    · show Steps p.tables e below (T5.setTop (mkF m 41 #[.val (.long q1), .second, .val (.long q2), .second, .val (.long q3), .second, .val (.int p4), .val (.long (q2 &&& (4611686018427387903 : Int64))), .second, .val (.long (q3 &&& (4611686018427387903 : Int64))), .second, .val (.int (p4 &&& (3 : Int32))), .val (.ref b1), .unset, .unset, .unset, .unset, .unset] [(.int (1 : Int32)), (.int (p4 &&& (3 : Int32)))])) _
      refine XS.icmpNo X5.here hx rfl (hb hby at_41) rfl ((flt hc41_7).1) ?_
      show Steps p.tables e below (T5.setTop (mkF m 44 #[.val (.long q1), .second, .val (.long q2), .second, .val (.long q3), .second, .val (.int p4), .val (.long (q2 &&& (4611686018427387903 : Int64))), .second, .val (.long (q3 &&& (4611686018427387903 : Int64))), .second, .val (.int (p4 &&& (3 : Int32))), .val (.ref b1), .unset, .unset, .unset, .unset, .unset] [])) _
      refine XS.aload X5.here hx rfl (hb hby at_44) rfl rfl ?_
      show Steps p.tables e below (T5.setTop (mkF m 46 #[.val (.long q1), .second, .val (.long q2), .second, .val (.long q3), .second, .val (.int p4), .val (.long (q2 &&& (4611686018427387903 : Int64))), .second, .val (.long (q3 &&& (4611686018427387903 : Int64))), .second, .val (.int (p4 &&& (3 : Int32))), .val (.ref b1), .unset, .unset, .unset, .unset, .unset] [(.ref b1)])) _
      refine st22.trans ?_
      show Steps p.tables e below (T22.setTop (mkF m 49 #[.val (.long q1), .second, .val (.long q2), .second, .val (.long q3), .second, .val (.int p4), .val (.long (q2 &&& (4611686018427387903 : Int64))), .second, .val (.long (q3 &&& (4611686018427387903 : Int64))), .second, .val (.int (p4 &&& (3 : Int32))), .val (.ref b1), .unset, .unset, .unset, .unset, .unset] [(.long r22)])) _
      jvm_step X22.here [X22.here.top, hx, (hb hby at_49), Value.category]
      show Steps p.tables e below (T22.setTop (mkF m 50 #[.val (.long q1), .second, .val (.long q2), .second, .val (.long q3), .second, .val (.int p4), .val (.long (q2 &&& (4611686018427387903 : Int64))), .second, .val (.long (q3 &&& (4611686018427387903 : Int64))), .second, .val (.int (p4 &&& (3 : Int32))), .val (.ref b1), .unset, .unset, .unset, .unset, .unset] [])) _
      refine XS.iload X22.here hx rfl (hb hby at_50) rfl ?_
      show Steps p.tables e below (T22.setTop (mkF m 52 #[.val (.long q1), .second, .val (.long q2), .second, .val (.long q3), .second, .val (.int p4), .val (.long (q2 &&& (4611686018427387903 : Int64))), .second, .val (.long (q3 &&& (4611686018427387903 : Int64))), .second, .val (.int (p4 &&& (3 : Int32))), .val (.ref b1), .unset, .unset, .unset, .unset, .unset] [(.int (p4 &&& (3 : Int32)))])) _
      refine XS.iconst X22.here hx rfl (hb hby at_52) ?_
      show Steps p.tables e below (T22.setTop (mkF m 53 #[.val (.long q1), .second, .val (.long q2), .second, .val (.long q3), .second, .val (.int p4), .val (.long (q2 &&& (4611686018427387903 : Int64))), .second, .val (.long (q3 &&& (4611686018427387903 : Int64))), .second, .val (.int (p4 &&& (3 : Int32))), .val (.ref b1), .unset, .unset, .unset, .unset, .unset] [(.int (2 : Int32)), (.int (p4 &&& (3 : Int32)))])) _
      exact k
    by_cases hc53_24 : (p4 &&& (3 : Int32)) < (2 : Int32)
    · refine GoalS.lift (B := (T22.setTop (mkF m 65 #[.val (.long q1), .second, .val (.long q2), .second, .val (.long q3), .second, .val (.int p4), .val (.long (q2 &&& (4611686018427387903 : Int64))), .second, .val (.long (q3 &&& (4611686018427387903 : Int64))), .second, .val (.int (p4 &&& (3 : Int32))), .val (.ref b1), .unset, .unset, .unset, .unset, .unset] [(.int (3 : Int32)), (.int (p4 &&& (3 : Int32)))]))) (fun t k => ?_) ?_
      · show Steps p.tables e below (T22.setTop (mkF m 53 #[.val (.long q1), .second, .val (.long q2), .second, .val (.long q3), .second, .val (.int p4), .val (.long (q2 &&& (4611686018427387903 : Int64))), .second, .val (.long (q3 &&& (4611686018427387903 : Int64))), .second, .val (.int (p4 &&& (3 : Int32))), .val (.ref b1), .unset, .unset, .unset, .unset, .unset] [(.int (2 : Int32)), (.int (p4 &&& (3 : Int32)))])) _
        refine XS.icmpYes X22.here hx rfl (pc0 := 53) (pc' := 62) rfl (hb hby at_53) rfl ((tlt hc53_24).1) (by decide) (by decide) ?_
        show Steps p.tables e below (T22.setTop (mkF m 62 #[.val (.long q1), .second, .val (.long q2), .second, .val (.long q3), .second, .val (.int p4), .val (.long (q2 &&& (4611686018427387903 : Int64))), .second, .val (.long (q3 &&& (4611686018427387903 : Int64))), .second, .val (.int (p4 &&& (3 : Int32))), .val (.ref b1), .unset, .unset, .unset, .unset, .unset] [])) _
        refine XS.iload X22.here hx rfl (hb hby at_62) rfl ?_
        show Steps p.tables e below (T22.setTop (mkF m 64 #[.val (.long q1), .second, .val (.long q2), .second, .val (.long q3), .second, .val (.int p4), .val (.long (q2 &&& (4611686018427387903 : Int64))), .second, .val (.long (q3 &&& (4611686018427387903 : Int64))), .second, .val (.int (p4 &&& (3 : Int32))), .val (.ref b1), .unset, .unset, .unset, .unset, .unset] [(.int (p4 &&& (3 : Int32)))])) _
        refine XS.iconst X22.here hx rfl (hb hby at_64) ?_
        show Steps p.tables e below (T22.setTop (mkF m 65 #[.val (.long q1), .second, .val (.long q2), .second, .val (.long q3), .second, .val (.int p4), .val (.long (q2 &&& (4611686018427387903 : Int64))), .second, .val (.long (q3 &&& (4611686018427387903 : Int64))), .second, .val (.int (p4 &&& (3 : Int32))), .val (.ref b1), .unset, .unset, .unset, .unset, .unset] [(.int (3 : Int32)), (.int (p4 &&& (3 : Int32)))])) _
        exact k
      by_cases hc65_25 : (p4 &&& (3 : Int32)) < (3 : Int32)
      · obtain ⟨cq26, kq26, q26a, q26b, q26c⟩ := isOf hZ rfl p22_1
        obtain ⟨_, _, ⟨T26, L26, k26, n26⟩, -, X26, ⟨Lc26, hQ26, l26, y26, z26⟩, st26⟩ := X22.virtualBack hx (y := (⟨"com/example/pipstill/pipstill/Dice", "skip", "(J)V"⟩ : MethodName)) (z := (⟨"com/example/pipstill/pipstill/Dice", "skip", "(J)V"⟩ : MethodName)) hown (mvT hZ (hw _ (List.mem_of_getElem? (i := 12) rfl))) (mvT hZ (hw _ (List.mem_of_getElem? (i := 13) rfl))) (notFace_of_selects (args := #[]) (mvT hZ (hw _ (List.mem_of_getElem? (i := 15) rfl)))) (mvT hZ (hw _ (List.mem_of_getElem? (i := 15) rfl))) (mvT hZ (hw _ (List.mem_of_getElem? (i := 14) rfl))) (by decide) (backOf (W := 0) (rm3 l Z a0 hw [] b1 (q3 &&& (4611686018427387903 : Int64)) ((q1 + ((q2 &&& (4611686018427387903 : Int64)) * (-7046029254386353131 : Int64))) + (-7046029254386353131 : Int64)) T22.heap n0 z23 p22_1 g_b1 p22_2) hZ (hw _ (List.mem_of_getElem? (i := 16) rfl)) (hw _ (List.mem_of_getElem? (i := 3) rfl)) (by decide) (by decide)) q26a q26c (g := (mkF m 78 #[.val (.long q1), .second, .val (.long q2), .second, .val (.long q3), .second, .val (.int p4), .val (.long (q2 &&& (4611686018427387903 : Int64))), .second, .val (.long (q3 &&& (4611686018427387903 : Int64))), .second, .val (.int (p4 &&& (3 : Int32))), .val (.ref b1), .unset, .unset, .unset, .unset, .unset] [(.long (q3 &&& (4611686018427387903 : Int64))), (.ref b1)])) rfl (by rw [hml]; rfl) (Steps.refl _) (argsL := [(.long (q3 &&& (4611686018427387903 : Int64)))]) (rest := []) (lenOf pd_0 rfl) rfl (by show 2 * 0 + _ ≤ _; exact Nat.le_of_eq rfl) (hb hby at_78) (fun _ _ => ⟨rfl, rfl, (by decide : 1 + 0 ≤ _), (by decide : 1 + 0 ≤ _)⟩)
        dsimp only [Pt.U, Pt.locs, Pt.cells, Pt.slots] at X26 l26 y26 z26 st26 hQ26
        subst l26 y26 z26
        obtain ⟨rfl, N26q, p26_0, p26_1, p26_2⟩ := hQ26
        have N26 := Fr.app N22 N26q
        have z27 : n0 ≤ T26.heap.size := Nat.le_trans z23 p26_0.1
        obtain ⟨cq28, kq28, q28a, q28b, q28c⟩ := isOf hZ rfl p26_1
        obtain ⟨_, _, ⟨T28, L28, k28, n28⟩, -, X28, ⟨Lc28, hQ28, l28, y28, z28⟩, st28⟩ := X26.virtualBack hx (y := (⟨"com/example/pipstill/pipstill/Dice", "nextLong", "()J"⟩ : MethodName)) (z := (⟨"com/example/pipstill/pipstill/Dice", "nextLong", "()J"⟩ : MethodName)) hown (mvT hZ (hw _ (List.mem_of_getElem? (i := 18) rfl))) (mvT hZ (hw _ (List.mem_of_getElem? (i := 19) rfl))) (notFace_of_selects (args := #[]) (mvT hZ (hw _ (List.mem_of_getElem? (i := 21) rfl)))) (mvT hZ (hw _ (List.mem_of_getElem? (i := 21) rfl))) (mvT hZ (hw _ (List.mem_of_getElem? (i := 20) rfl))) (by decide) (backOf (W := 0) (rm4 l Z a0 hw [] b1 (((q1 + ((q2 &&& (4611686018427387903 : Int64)) * (-7046029254386353131 : Int64))) + (-7046029254386353131 : Int64)) + ((q3 &&& (4611686018427387903 : Int64)) * (-7046029254386353131 : Int64))) T26.heap n0 z27 p26_1 g_b1 p26_2) hZ (hw _ (List.mem_of_getElem? (i := 22) rfl)) (hw _ (List.mem_of_getElem? (i := 3) rfl)) (by decide) (by decide)) q28a q28c (g := (mkF m 83 #[.val (.long q1), .second, .val (.long q2), .second, .val (.long q3), .second, .val (.int p4), .val (.long (q2 &&& (4611686018427387903 : Int64))), .second, .val (.long (q3 &&& (4611686018427387903 : Int64))), .second, .val (.int (p4 &&& (3 : Int32))), .val (.ref b1), .unset, .unset, .unset, .unset, .unset] [(.ref b1)])) rfl (by rw [hml]; rfl) (Steps.refl _) (argsL := []) (rest := []) (lenOf pd_1 rfl) rfl (by show 2 * 0 + _ ≤ _; exact Nat.le_of_eq rfl) (hb hby at_83) (fun _ _ => ⟨rfl, rfl, (by decide : 1 + 0 ≤ _), (by decide : 1 + 0 ≤ _)⟩)
        dsimp only [Pt.U, Pt.locs, Pt.cells, Pt.slots] at X28 l28 y28 z28 st28 hQ28
        subst l28 y28 z28
        obtain ⟨r28, rfl, hr28, N28q, p28_0, p28_1, p28_2⟩ := hQ28
        have N28 := Fr.app N26 N28q
        have z29 : n0 ≤ T28.heap.size := Nat.le_trans z27 p28_0.1
        obtain ⟨T30, h30, X30, e30, E30, A30, D30, -, st30⟩ := newO X28 hx hZ hown (hw _ (List.mem_of_getElem? (i := 1) rfl)) (hw _ (List.mem_of_getElem? (i := 2) rfl)) (hw _ (List.mem_of_getElem? (i := 3) rfl)) rfl (g := (mkF m 88 #[.val (.long q1), .second, .val (.long q2), .second, .val (.long q3), .second, .val (.int p4), .val (.long (q2 &&& (4611686018427387903 : Int64))), .second, .val (.long (q3 &&& (4611686018427387903 : Int64))), .second, .val (.int (p4 &&& (3 : Int32))), .val (.ref b1), .val (.long r28), .second, .unset, .unset, .unset] [])) rfl (hb hby at_88) (by decide) (by decide)
        obtain ⟨b30, g30⟩ : ∃ z, z = T28.heap.size := ⟨_, rfl⟩
        rw [← g30] at A30 D30 st30
        have g_b30 : n0 ≤ b30 := Nat.le_trans z29 (Nat.le_of_eq g30.symm)
        have ne_b1_b30 : b1 ≠ b30 := Nat.ne_of_lt (Nat.lt_of_lt_of_le p28_1.lt (Nat.le_of_eq g30.symm))
        have z31 : n0 ≤ h30.size := Nat.le_trans z29 E30.1
        have F_state_b30 : Fld Z h30 b30 "com/example/pipstill/pipstill/Dice" "state" "J" (.long (0 : Int64)) := D30 (Or.inl (hw _ (List.mem_of_getElem? (i := 11) rfl))) (ty := .long) (by decide)
        obtain ⟨_, _, ⟨T32, L32, k32, n32⟩, -, X32, ⟨Lc32, hQ32, l32, y32, z32⟩, st32⟩ := X30.specialBack hx (y := (⟨"com/example/pipstill/pipstill/Dice", "<init>", "(J)V"⟩ : MethodName)) rfl hown (mvT hZ (hw _ (List.mem_of_getElem? (i := 4) rfl))) (mvT hZ (hw _ (List.mem_of_getElem? (i := 5) rfl))) (mvT hZ (hw _ (List.mem_of_getElem? (i := 6) rfl))) (by decide) (backOf (W := 1) (rm1 l Z a0 hw [] b30 q1 (.long (0 : Int64)) h30 n0 z31 A30 g_b30 F_state_b30) hZ (hw _ (List.mem_of_getElem? (i := 6) rfl)) (hw _ (List.mem_of_getElem? (i := 3) rfl)) (by decide) (by decide)) (g := (mkF m 93 #[.val (.long q1), .second, .val (.long q2), .second, .val (.long q3), .second, .val (.int p4), .val (.long (q2 &&& (4611686018427387903 : Int64))), .second, .val (.long (q3 &&& (4611686018427387903 : Int64))), .second, .val (.int (p4 &&& (3 : Int32))), .val (.ref b1), .val (.long r28), .second, .unset, .unset, .unset] [(.long q1), (.ref b30), (.ref b30)])) rfl (by rw [hml]; rfl) (Steps.refl _) (a := b30) (argsL := [(.long q1)]) (rest := [(.ref b30)]) (lenOf pd_0 rfl) rfl (by show 2 * 0 + _ ≤ _; exact Nat.le_of_eq rfl) (hb hby at_93) (fun _ _ => ⟨rfl, e30, (by decide : 2 + 0 ≤ _), (by decide : 2 + 0 ≤ _)⟩)
        dsimp only [Pt.U, Pt.locs, Pt.cells, Pt.slots] at X32 l32 y32 z32 st32 hQ32
        subst l32 y32 z32
        obtain ⟨rfl, N32q, p32_0, p32_1, p32_2⟩ := hQ32
        have N32 := Fr.app N28 N32q
        have z33 : n0 ≤ T32.heap.size := Nat.le_trans z31 p32_0.1
        obtain ⟨cq34, kq34, q34a, q34b, q34c⟩ := isOf hZ rfl p32_1
        obtain ⟨_, _, ⟨T34, L34, k34, n34⟩, -, X34, ⟨Lc34, hQ34, l34, y34, z34⟩, st34⟩ := X32.virtualBack hx (y := (⟨"com/example/pipstill/pipstill/Dice", "skip", "(J)V"⟩ : MethodName)) (z := (⟨"com/example/pipstill/pipstill/Dice", "skip", "(J)V"⟩ : MethodName)) hown (mvT hZ (hw _ (List.mem_of_getElem? (i := 12) rfl))) (mvT hZ (hw _ (List.mem_of_getElem? (i := 13) rfl))) (notFace_of_selects (args := #[]) (mvT hZ (hw _ (List.mem_of_getElem? (i := 15) rfl)))) (mvT hZ (hw _ (List.mem_of_getElem? (i := 15) rfl))) (mvT hZ (hw _ (List.mem_of_getElem? (i := 14) rfl))) (by decide) (backOf (W := 0) (rm3 l Z a0 hw [] b30 (((q2 &&& (4611686018427387903 : Int64)) + (((p4 &&& (3 : Int32))).toInt64)) + (q3 &&& (4611686018427387903 : Int64))) q1 T32.heap n0 z33 p32_1 g_b30 p32_2) hZ (hw _ (List.mem_of_getElem? (i := 16) rfl)) (hw _ (List.mem_of_getElem? (i := 3) rfl)) (by decide) (by decide)) q34a q34c (g := (mkF m 109 #[.val (.long q1), .second, .val (.long q2), .second, .val (.long q3), .second, .val (.int p4), .val (.long (q2 &&& (4611686018427387903 : Int64))), .second, .val (.long (q3 &&& (4611686018427387903 : Int64))), .second, .val (.int (p4 &&& (3 : Int32))), .val (.ref b1), .val (.long r28), .second, .val (.ref b30), .unset, .unset] [(.long (((q2 &&& (4611686018427387903 : Int64)) + (((p4 &&& (3 : Int32))).toInt64)) + (q3 &&& (4611686018427387903 : Int64)))), (.ref b30)])) rfl (by rw [hml]; rfl) (Steps.refl _) (argsL := [(.long (((q2 &&& (4611686018427387903 : Int64)) + (((p4 &&& (3 : Int32))).toInt64)) + (q3 &&& (4611686018427387903 : Int64))))]) (rest := []) (lenOf pd_0 rfl) rfl (by show 2 * 0 + _ ≤ _; exact Nat.le_of_eq rfl) (hb hby at_109) (fun _ _ => ⟨rfl, rfl, (by decide : 2 + 0 ≤ _), (by decide : 2 + 0 ≤ _)⟩)
        dsimp only [Pt.U, Pt.locs, Pt.cells, Pt.slots] at X34 l34 y34 z34 st34 hQ34
        subst l34 y34 z34
        obtain ⟨rfl, N34q, p34_0, p34_1, p34_2⟩ := hQ34
        have N34 := Fr.app N32 N34q
        have z35 : n0 ≤ T34.heap.size := Nat.le_trans z33 p34_0.1
        obtain ⟨cq36, kq36, q36a, q36b, q36c⟩ := isOf hZ rfl p34_1
        obtain ⟨_, _, ⟨T36, L36, k36, n36⟩, -, X36, ⟨Lc36, hQ36, l36, y36, z36⟩, st36⟩ := X34.virtualBack hx (y := (⟨"com/example/pipstill/pipstill/Dice", "nextLong", "()J"⟩ : MethodName)) (z := (⟨"com/example/pipstill/pipstill/Dice", "nextLong", "()J"⟩ : MethodName)) hown (mvT hZ (hw _ (List.mem_of_getElem? (i := 18) rfl))) (mvT hZ (hw _ (List.mem_of_getElem? (i := 19) rfl))) (notFace_of_selects (args := #[]) (mvT hZ (hw _ (List.mem_of_getElem? (i := 21) rfl)))) (mvT hZ (hw _ (List.mem_of_getElem? (i := 21) rfl))) (mvT hZ (hw _ (List.mem_of_getElem? (i := 20) rfl))) (by decide) (backOf (W := 0) (rm4 l Z a0 hw [] b30 (q1 + ((((q2 &&& (4611686018427387903 : Int64)) + (((p4 &&& (3 : Int32))).toInt64)) + (q3 &&& (4611686018427387903 : Int64))) * (-7046029254386353131 : Int64))) T34.heap n0 z35 p34_1 g_b30 p34_2) hZ (hw _ (List.mem_of_getElem? (i := 22) rfl)) (hw _ (List.mem_of_getElem? (i := 3) rfl)) (by decide) (by decide)) q36a q36c (g := (mkF m 114 #[.val (.long q1), .second, .val (.long q2), .second, .val (.long q3), .second, .val (.int p4), .val (.long (q2 &&& (4611686018427387903 : Int64))), .second, .val (.long (q3 &&& (4611686018427387903 : Int64))), .second, .val (.int (p4 &&& (3 : Int32))), .val (.ref b1), .val (.long r28), .second, .val (.ref b30), .unset, .unset] [(.ref b30)])) rfl (by rw [hml]; rfl) (Steps.refl _) (argsL := []) (rest := []) (lenOf pd_1 rfl) rfl (by show 2 * 0 + _ ≤ _; exact Nat.le_of_eq rfl) (hb hby at_114) (fun _ _ => ⟨rfl, rfl, (by decide : 2 + 0 ≤ _), (by decide : 2 + 0 ≤ _)⟩)
        dsimp only [Pt.U, Pt.locs, Pt.cells, Pt.slots] at X36 l36 y36 z36 st36 hQ36
        subst l36 y36 z36
        obtain ⟨r36, rfl, hr36, N36q, p36_0, p36_1, p36_2⟩ := hQ36
        have N36 := Fr.app N34 N36q
        have z37 : n0 ≤ T36.heap.size := Nat.le_trans z35 p36_0.1
        have hn4 : (p4 &&& (3 : Int32)) = (1 : Int32) := own_is (n := 1) _ rfl (by have h4 := own_n p4; have := hc41_7; have := hc53_24; have := hc65_25; simp only [Int32.lt_iff_toInt_lt] at *; have e1 : (1 : Int32).toInt = 1 := rfl; have e2 : (2 : Int32).toInt = 2 := rfl; have e3 : (3 : Int32).toInt = 3 := rfl; omega)
        obtain ⟨fs, hr, hrun, hended, hW, hsame⟩ := X36.leave (v := some (.int (1 : Int32))) (fun h => by rw [Bd.returns] at h; cases h)
        refine ⟨_, _, ?_, hrun, hended, _, _, rfl, ?_, ⟨_, rfl⟩, hW, hsame.mono (by decide) (by decide)⟩
        · show Steps p.tables e below (T22.setTop (mkF m 65 #[.val (.long q1), .second, .val (.long q2), .second, .val (.long q3), .second, .val (.int p4), .val (.long (q2 &&& (4611686018427387903 : Int64))), .second, .val (.long (q3 &&& (4611686018427387903 : Int64))), .second, .val (.int (p4 &&& (3 : Int32))), .val (.ref b1), .unset, .unset, .unset, .unset, .unset] [(.int (3 : Int32)), (.int (p4 &&& (3 : Int32)))])) _
          refine XS.icmpYes X22.here hx rfl (pc0 := 65) (pc' := 74) rfl (hb hby at_65) rfl ((tlt hc65_25).1) (by decide) (by decide) ?_
          show Steps p.tables e below (T22.setTop (mkF m 74 #[.val (.long q1), .second, .val (.long q2), .second, .val (.long q3), .second, .val (.int p4), .val (.long (q2 &&& (4611686018427387903 : Int64))), .second, .val (.long (q3 &&& (4611686018427387903 : Int64))), .second, .val (.int (p4 &&& (3 : Int32))), .val (.ref b1), .unset, .unset, .unset, .unset, .unset] [])) _
          refine XS.aload X22.here hx rfl (hb hby at_74) rfl rfl ?_
          show Steps p.tables e below (T22.setTop (mkF m 76 #[.val (.long q1), .second, .val (.long q2), .second, .val (.long q3), .second, .val (.int p4), .val (.long (q2 &&& (4611686018427387903 : Int64))), .second, .val (.long (q3 &&& (4611686018427387903 : Int64))), .second, .val (.int (p4 &&& (3 : Int32))), .val (.ref b1), .unset, .unset, .unset, .unset, .unset] [(.ref b1)])) _
          refine XS.lload X22.here hx rfl (hb hby at_76) rfl ?_
          show Steps p.tables e below (T22.setTop (mkF m 78 #[.val (.long q1), .second, .val (.long q2), .second, .val (.long q3), .second, .val (.int p4), .val (.long (q2 &&& (4611686018427387903 : Int64))), .second, .val (.long (q3 &&& (4611686018427387903 : Int64))), .second, .val (.int (p4 &&& (3 : Int32))), .val (.ref b1), .unset, .unset, .unset, .unset, .unset] [(.long (q3 &&& (4611686018427387903 : Int64))), (.ref b1)])) _
          refine st26.trans ?_
          show Steps p.tables e below (T26.setTop (mkF m 81 #[.val (.long q1), .second, .val (.long q2), .second, .val (.long q3), .second, .val (.int p4), .val (.long (q2 &&& (4611686018427387903 : Int64))), .second, .val (.long (q3 &&& (4611686018427387903 : Int64))), .second, .val (.int (p4 &&& (3 : Int32))), .val (.ref b1), .unset, .unset, .unset, .unset, .unset] [])) _
          refine XS.aload X26.here hx rfl (hb hby at_81) rfl rfl ?_
          show Steps p.tables e below (T26.setTop (mkF m 83 #[.val (.long q1), .second, .val (.long q2), .second, .val (.long q3), .second, .val (.int p4), .val (.long (q2 &&& (4611686018427387903 : Int64))), .second, .val (.long (q3 &&& (4611686018427387903 : Int64))), .second, .val (.int (p4 &&& (3 : Int32))), .val (.ref b1), .unset, .unset, .unset, .unset, .unset] [(.ref b1)])) _
          refine st28.trans ?_
          show Steps p.tables e below (T28.setTop (mkF m 86 #[.val (.long q1), .second, .val (.long q2), .second, .val (.long q3), .second, .val (.int p4), .val (.long (q2 &&& (4611686018427387903 : Int64))), .second, .val (.long (q3 &&& (4611686018427387903 : Int64))), .second, .val (.int (p4 &&& (3 : Int32))), .val (.ref b1), .unset, .unset, .unset, .unset, .unset] [(.long r28)])) _
          refine XS.lstore X28.here hx rfl (hb hby at_86) rfl (l' := #[.val (.long q1), .second, .val (.long q2), .second, .val (.long q3), .second, .val (.int p4), .val (.long (q2 &&& (4611686018427387903 : Int64))), .second, .val (.long (q3 &&& (4611686018427387903 : Int64))), .second, .val (.int (p4 &&& (3 : Int32))), .val (.ref b1), .val (.long r28), .second, .unset, .unset, .unset]) rfl ?_
          show Steps p.tables e below (T28.setTop (mkF m 88 #[.val (.long q1), .second, .val (.long q2), .second, .val (.long q3), .second, .val (.int p4), .val (.long (q2 &&& (4611686018427387903 : Int64))), .second, .val (.long (q3 &&& (4611686018427387903 : Int64))), .second, .val (.int (p4 &&& (3 : Int32))), .val (.ref b1), .val (.long r28), .second, .unset, .unset, .unset] [])) _
          refine st30 _ ?_
          show Steps p.tables e below (T30.setTop (mkF m 91 #[.val (.long q1), .second, .val (.long q2), .second, .val (.long q3), .second, .val (.int p4), .val (.long (q2 &&& (4611686018427387903 : Int64))), .second, .val (.long (q3 &&& (4611686018427387903 : Int64))), .second, .val (.int (p4 &&& (3 : Int32))), .val (.ref b1), .val (.long r28), .second, .unset, .unset, .unset] [(.ref b30)])) _
          refine XS.dup X30.here hx rfl (hb hby at_91) rfl rfl ?_
          show Steps p.tables e below (T30.setTop (mkF m 92 #[.val (.long q1), .second, .val (.long q2), .second, .val (.long q3), .second, .val (.int p4), .val (.long (q2 &&& (4611686018427387903 : Int64))), .second, .val (.long (q3 &&& (4611686018427387903 : Int64))), .second, .val (.int (p4 &&& (3 : Int32))), .val (.ref b1), .val (.long r28), .second, .unset, .unset, .unset] [(.ref b30), (.ref b30)])) _
          refine XS.lloadN X30.here hx rfl (hb hby at_92) rfl ?_
          show Steps p.tables e below (T30.setTop (mkF m 93 #[.val (.long q1), .second, .val (.long q2), .second, .val (.long q3), .second, .val (.int p4), .val (.long (q2 &&& (4611686018427387903 : Int64))), .second, .val (.long (q3 &&& (4611686018427387903 : Int64))), .second, .val (.int (p4 &&& (3 : Int32))), .val (.ref b1), .val (.long r28), .second, .unset, .unset, .unset] [(.long q1), (.ref b30), (.ref b30)])) _
          refine st32.trans ?_
          show Steps p.tables e below (T32.setTop (mkF m 96 #[.val (.long q1), .second, .val (.long q2), .second, .val (.long q3), .second, .val (.int p4), .val (.long (q2 &&& (4611686018427387903 : Int64))), .second, .val (.long (q3 &&& (4611686018427387903 : Int64))), .second, .val (.int (p4 &&& (3 : Int32))), .val (.ref b1), .val (.long r28), .second, .unset, .unset, .unset] [(.ref b30)])) _
          refine XS.astore X32.here hx rfl (hb hby at_96) rfl rfl (l' := #[.val (.long q1), .second, .val (.long q2), .second, .val (.long q3), .second, .val (.int p4), .val (.long (q2 &&& (4611686018427387903 : Int64))), .second, .val (.long (q3 &&& (4611686018427387903 : Int64))), .second, .val (.int (p4 &&& (3 : Int32))), .val (.ref b1), .val (.long r28), .second, .val (.ref b30), .unset, .unset]) rfl ?_
          show Steps p.tables e below (T32.setTop (mkF m 98 #[.val (.long q1), .second, .val (.long q2), .second, .val (.long q3), .second, .val (.int p4), .val (.long (q2 &&& (4611686018427387903 : Int64))), .second, .val (.long (q3 &&& (4611686018427387903 : Int64))), .second, .val (.int (p4 &&& (3 : Int32))), .val (.ref b1), .val (.long r28), .second, .val (.ref b30), .unset, .unset] [])) _
          refine XS.aload X32.here hx rfl (hb hby at_98) rfl rfl ?_
          show Steps p.tables e below (T32.setTop (mkF m 100 #[.val (.long q1), .second, .val (.long q2), .second, .val (.long q3), .second, .val (.int p4), .val (.long (q2 &&& (4611686018427387903 : Int64))), .second, .val (.long (q3 &&& (4611686018427387903 : Int64))), .second, .val (.int (p4 &&& (3 : Int32))), .val (.ref b1), .val (.long r28), .second, .val (.ref b30), .unset, .unset] [(.ref b30)])) _
          refine XS.lload X32.here hx rfl (hb hby at_100) rfl ?_
          show Steps p.tables e below (T32.setTop (mkF m 102 #[.val (.long q1), .second, .val (.long q2), .second, .val (.long q3), .second, .val (.int p4), .val (.long (q2 &&& (4611686018427387903 : Int64))), .second, .val (.long (q3 &&& (4611686018427387903 : Int64))), .second, .val (.int (p4 &&& (3 : Int32))), .val (.ref b1), .val (.long r28), .second, .val (.ref b30), .unset, .unset] [(.long (q2 &&& (4611686018427387903 : Int64))), (.ref b30)])) _
          refine XS.iload X32.here hx rfl (hb hby at_102) rfl ?_
          show Steps p.tables e below (T32.setTop (mkF m 104 #[.val (.long q1), .second, .val (.long q2), .second, .val (.long q3), .second, .val (.int p4), .val (.long (q2 &&& (4611686018427387903 : Int64))), .second, .val (.long (q3 &&& (4611686018427387903 : Int64))), .second, .val (.int (p4 &&& (3 : Int32))), .val (.ref b1), .val (.long r28), .second, .val (.ref b30), .unset, .unset] [(.int (p4 &&& (3 : Int32))), (.long (q2 &&& (4611686018427387903 : Int64))), (.ref b30)])) _
          refine XS.i2l X32.here hx rfl (hb hby at_104) rfl ?_
          show Steps p.tables e below (T32.setTop (mkF m 105 #[.val (.long q1), .second, .val (.long q2), .second, .val (.long q3), .second, .val (.int p4), .val (.long (q2 &&& (4611686018427387903 : Int64))), .second, .val (.long (q3 &&& (4611686018427387903 : Int64))), .second, .val (.int (p4 &&& (3 : Int32))), .val (.ref b1), .val (.long r28), .second, .val (.ref b30), .unset, .unset] [(.long (((p4 &&& (3 : Int32))).toInt64)), (.long (q2 &&& (4611686018427387903 : Int64))), (.ref b30)])) _
          refine XS.ladd X32.here hx rfl (hb hby at_105) rfl ?_
          show Steps p.tables e below (T32.setTop (mkF m 106 #[.val (.long q1), .second, .val (.long q2), .second, .val (.long q3), .second, .val (.int p4), .val (.long (q2 &&& (4611686018427387903 : Int64))), .second, .val (.long (q3 &&& (4611686018427387903 : Int64))), .second, .val (.int (p4 &&& (3 : Int32))), .val (.ref b1), .val (.long r28), .second, .val (.ref b30), .unset, .unset] [(.long ((q2 &&& (4611686018427387903 : Int64)) + (((p4 &&& (3 : Int32))).toInt64))), (.ref b30)])) _
          refine XS.lload X32.here hx rfl (hb hby at_106) rfl ?_
          show Steps p.tables e below (T32.setTop (mkF m 108 #[.val (.long q1), .second, .val (.long q2), .second, .val (.long q3), .second, .val (.int p4), .val (.long (q2 &&& (4611686018427387903 : Int64))), .second, .val (.long (q3 &&& (4611686018427387903 : Int64))), .second, .val (.int (p4 &&& (3 : Int32))), .val (.ref b1), .val (.long r28), .second, .val (.ref b30), .unset, .unset] [(.long (q3 &&& (4611686018427387903 : Int64))), (.long ((q2 &&& (4611686018427387903 : Int64)) + (((p4 &&& (3 : Int32))).toInt64))), (.ref b30)])) _
          refine XS.ladd X32.here hx rfl (hb hby at_108) rfl ?_
          show Steps p.tables e below (T32.setTop (mkF m 109 #[.val (.long q1), .second, .val (.long q2), .second, .val (.long q3), .second, .val (.int p4), .val (.long (q2 &&& (4611686018427387903 : Int64))), .second, .val (.long (q3 &&& (4611686018427387903 : Int64))), .second, .val (.int (p4 &&& (3 : Int32))), .val (.ref b1), .val (.long r28), .second, .val (.ref b30), .unset, .unset] [(.long (((q2 &&& (4611686018427387903 : Int64)) + (((p4 &&& (3 : Int32))).toInt64)) + (q3 &&& (4611686018427387903 : Int64)))), (.ref b30)])) _
          refine st34.trans ?_
          show Steps p.tables e below (T34.setTop (mkF m 112 #[.val (.long q1), .second, .val (.long q2), .second, .val (.long q3), .second, .val (.int p4), .val (.long (q2 &&& (4611686018427387903 : Int64))), .second, .val (.long (q3 &&& (4611686018427387903 : Int64))), .second, .val (.int (p4 &&& (3 : Int32))), .val (.ref b1), .val (.long r28), .second, .val (.ref b30), .unset, .unset] [])) _
          refine XS.aload X34.here hx rfl (hb hby at_112) rfl rfl ?_
          show Steps p.tables e below (T34.setTop (mkF m 114 #[.val (.long q1), .second, .val (.long q2), .second, .val (.long q3), .second, .val (.int p4), .val (.long (q2 &&& (4611686018427387903 : Int64))), .second, .val (.long (q3 &&& (4611686018427387903 : Int64))), .second, .val (.int (p4 &&& (3 : Int32))), .val (.ref b1), .val (.long r28), .second, .val (.ref b30), .unset, .unset] [(.ref b30)])) _
          refine st36.trans ?_
          show Steps p.tables e below (T36.setTop (mkF m 117 #[.val (.long q1), .second, .val (.long q2), .second, .val (.long q3), .second, .val (.int p4), .val (.long (q2 &&& (4611686018427387903 : Int64))), .second, .val (.long (q3 &&& (4611686018427387903 : Int64))), .second, .val (.int (p4 &&& (3 : Int32))), .val (.ref b1), .val (.long r28), .second, .val (.ref b30), .unset, .unset] [(.long r36)])) _
          refine XS.lstore X36.here hx rfl (hb hby at_117) rfl (l' := #[.val (.long q1), .second, .val (.long q2), .second, .val (.long q3), .second, .val (.int p4), .val (.long (q2 &&& (4611686018427387903 : Int64))), .second, .val (.long (q3 &&& (4611686018427387903 : Int64))), .second, .val (.int (p4 &&& (3 : Int32))), .val (.ref b1), .val (.long r28), .second, .val (.ref b30), .val (.long r36), .second]) rfl ?_
          show Steps p.tables e below (T36.setTop (mkF m 119 #[.val (.long q1), .second, .val (.long q2), .second, .val (.long q3), .second, .val (.int p4), .val (.long (q2 &&& (4611686018427387903 : Int64))), .second, .val (.long (q3 &&& (4611686018427387903 : Int64))), .second, .val (.int (p4 &&& (3 : Int32))), .val (.ref b1), .val (.long r28), .second, .val (.ref b30), .val (.long r36), .second] [])) _
          refine XS.lload X36.here hx rfl (hb hby at_119) rfl ?_
          show Steps p.tables e below (T36.setTop (mkF m 121 #[.val (.long q1), .second, .val (.long q2), .second, .val (.long q3), .second, .val (.int p4), .val (.long (q2 &&& (4611686018427387903 : Int64))), .second, .val (.long (q3 &&& (4611686018427387903 : Int64))), .second, .val (.int (p4 &&& (3 : Int32))), .val (.ref b1), .val (.long r28), .second, .val (.ref b30), .val (.long r36), .second] [(.long r28)])) _
          refine XS.lload X36.here hx rfl (hb hby at_121) rfl ?_
          show Steps p.tables e below (T36.setTop (mkF m 123 #[.val (.long q1), .second, .val (.long q2), .second, .val (.long q3), .second, .val (.int p4), .val (.long (q2 &&& (4611686018427387903 : Int64))), .second, .val (.long (q3 &&& (4611686018427387903 : Int64))), .second, .val (.int (p4 &&& (3 : Int32))), .val (.ref b1), .val (.long r28), .second, .val (.ref b30), .val (.long r36), .second] [(.long r36), (.long r28)])) _
          refine XS.lcmp X36.here hx rfl (hb hby at_123) rfl ?_
          show Steps p.tables e below (T36.setTop (mkF m 124 #[.val (.long q1), .second, .val (.long q2), .second, .val (.long q3), .second, .val (.int p4), .val (.long (q2 &&& (4611686018427387903 : Int64))), .second, .val (.long (q3 &&& (4611686018427387903 : Int64))), .second, .val (.int (p4 &&& (3 : Int32))), .val (.ref b1), .val (.long r28), .second, .val (.ref b30), .val (.long r36), .second] [(.int (lcmpW r28 r36))])) _
          refine XS.ifNo X36.here hx rfl (hb hby at_124) rfl ((if0 _ _).trans (teq ((lw_eq r28 r36).mpr (by rw [hr28, hr36, hn4, own_s1] : r28 = r36))).2) ?_
          show Steps p.tables e below (T36.setTop (mkF m 127 #[.val (.long q1), .second, .val (.long q2), .second, .val (.long q3), .second, .val (.int p4), .val (.long (q2 &&& (4611686018427387903 : Int64))), .second, .val (.long (q3 &&& (4611686018427387903 : Int64))), .second, .val (.int (p4 &&& (3 : Int32))), .val (.ref b1), .val (.long r28), .second, .val (.ref b30), .val (.long r36), .second] [])) _
          refine XS.iconst X36.here hx rfl (hb hby at_127) ?_
          show Steps p.tables e below (T36.setTop (mkF m 128 #[.val (.long q1), .second, .val (.long q2), .second, .val (.long q3), .second, .val (.int p4), .val (.long (q2 &&& (4611686018427387903 : Int64))), .second, .val (.long (q3 &&& (4611686018427387903 : Int64))), .second, .val (.int (p4 &&& (3 : Int32))), .val (.ref b1), .val (.long r28), .second, .val (.ref b30), .val (.long r36), .second] [(.int (1 : Int32))])) _
          refine XS.goto X36.here hx rfl (pc0 := 128) (pc' := 132) rfl (hb hby at_128) (by decide) (by decide) ?_
          show Steps p.tables e below (T36.setTop (mkF m 132 #[.val (.long q1), .second, .val (.long q2), .second, .val (.long q3), .second, .val (.int p4), .val (.long (q2 &&& (4611686018427387903 : Int64))), .second, .val (.long (q3 &&& (4611686018427387903 : Int64))), .second, .val (.int (p4 &&& (3 : Int32))), .val (.ref b1), .val (.long r28), .second, .val (.ref b30), .val (.long r36), .second] [(.int (1 : Int32))])) _
          exact retN X36 hx (t := .boolean) Bd.returns (by simp) (hb hby at_132) hr
        · exact ⟨rfl, N36⟩
      · exact absurd (show (p4 &&& (3 : Int32)) < (3 : Int32) by have := hc53_24; simp only [Int32.lt_iff_toInt_lt] at *; have e1 : (1 : Int32).toInt = 1 := rfl; have e2 : (2 : Int32).toInt = 2 := rfl; have e3 : (3 : Int32).toInt = 3 := rfl; omega) hc65_25
    · obtain ⟨cq38, kq38, q38a, q38b, q38c⟩ := isOf hZ rfl p22_1
      obtain ⟨_, _, ⟨T38, L38, k38, n38⟩, -, X38, ⟨Lc38, hQ38, l38, y38, z38⟩, st38⟩ := X22.virtualBack hx (y := (⟨"com/example/pipstill/pipstill/Dice", "nextLong", "()J"⟩ : MethodName)) (z := (⟨"com/example/pipstill/pipstill/Dice", "nextLong", "()J"⟩ : MethodName)) hown (mvT hZ (hw _ (List.mem_of_getElem? (i := 18) rfl))) (mvT hZ (hw _ (List.mem_of_getElem? (i := 19) rfl))) (notFace_of_selects (args := #[]) (mvT hZ (hw _ (List.mem_of_getElem? (i := 21) rfl)))) (mvT hZ (hw _ (List.mem_of_getElem? (i := 21) rfl))) (mvT hZ (hw _ (List.mem_of_getElem? (i := 20) rfl))) (by decide) (backOf (W := 0) (rm4 l Z a0 hw [] b1 ((q1 + ((q2 &&& (4611686018427387903 : Int64)) * (-7046029254386353131 : Int64))) + (-7046029254386353131 : Int64)) T22.heap n0 z23 p22_1 g_b1 p22_2) hZ (hw _ (List.mem_of_getElem? (i := 22) rfl)) (hw _ (List.mem_of_getElem? (i := 3) rfl)) (by decide) (by decide)) q38a q38c (g := (mkF m 58 #[.val (.long q1), .second, .val (.long q2), .second, .val (.long q3), .second, .val (.int p4), .val (.long (q2 &&& (4611686018427387903 : Int64))), .second, .val (.long (q3 &&& (4611686018427387903 : Int64))), .second, .val (.int (p4 &&& (3 : Int32))), .val (.ref b1), .unset, .unset, .unset, .unset, .unset] [(.ref b1)])) rfl (by rw [hml]; rfl) (Steps.refl _) (argsL := []) (rest := []) (lenOf pd_1 rfl) rfl (by show 2 * 0 + _ ≤ _; exact Nat.le_of_eq rfl) (hb hby at_58) (fun _ _ => ⟨rfl, rfl, (by decide : 1 + 0 ≤ _), (by decide : 1 + 0 ≤ _)⟩)
      dsimp only [Pt.U, Pt.locs, Pt.cells, Pt.slots] at X38 l38 y38 z38 st38 hQ38
      subst l38 y38 z38
      obtain ⟨r38, rfl, hr38, N38q, p38_0, p38_1, p38_2⟩ := hQ38
      have N38 := Fr.app N22 N38q
      have z39 : n0 ≤ T38.heap.size := Nat.le_trans z23 p38_0.1
      refine GoalS.lift (B := (T38.setTop (mkF m 65 #[.val (.long q1), .second, .val (.long q2), .second, .val (.long q3), .second, .val (.int p4), .val (.long (q2 &&& (4611686018427387903 : Int64))), .second, .val (.long (q3 &&& (4611686018427387903 : Int64))), .second, .val (.int (p4 &&& (3 : Int32))), .val (.ref b1), .unset, .unset, .unset, .unset, .unset] [(.int (3 : Int32)), (.int (p4 &&& (3 : Int32)))]))) (fun t k => ?_) ?_
      · show Steps p.tables e below (T22.setTop (mkF m 53 #[.val (.long q1), .second, .val (.long q2), .second, .val (.long q3), .second, .val (.int p4), .val (.long (q2 &&& (4611686018427387903 : Int64))), .second, .val (.long (q3 &&& (4611686018427387903 : Int64))), .second, .val (.int (p4 &&& (3 : Int32))), .val (.ref b1), .unset, .unset, .unset, .unset, .unset] [(.int (2 : Int32)), (.int (p4 &&& (3 : Int32)))])) _
        refine XS.icmpNo X22.here hx rfl (hb hby at_53) rfl ((flt hc53_24).1) ?_
        show Steps p.tables e below (T22.setTop (mkF m 56 #[.val (.long q1), .second, .val (.long q2), .second, .val (.long q3), .second, .val (.int p4), .val (.long (q2 &&& (4611686018427387903 : Int64))), .second, .val (.long (q3 &&& (4611686018427387903 : Int64))), .second, .val (.int (p4 &&& (3 : Int32))), .val (.ref b1), .unset, .unset, .unset, .unset, .unset] [])) _
        refine XS.aload X22.here hx rfl (hb hby at_56) rfl rfl ?_
        show Steps p.tables e below (T22.setTop (mkF m 58 #[.val (.long q1), .second, .val (.long q2), .second, .val (.long q3), .second, .val (.int p4), .val (.long (q2 &&& (4611686018427387903 : Int64))), .second, .val (.long (q3 &&& (4611686018427387903 : Int64))), .second, .val (.int (p4 &&& (3 : Int32))), .val (.ref b1), .unset, .unset, .unset, .unset, .unset] [(.ref b1)])) _
        refine st38.trans ?_
        show Steps p.tables e below (T38.setTop (mkF m 61 #[.val (.long q1), .second, .val (.long q2), .second, .val (.long q3), .second, .val (.int p4), .val (.long (q2 &&& (4611686018427387903 : Int64))), .second, .val (.long (q3 &&& (4611686018427387903 : Int64))), .second, .val (.int (p4 &&& (3 : Int32))), .val (.ref b1), .unset, .unset, .unset, .unset, .unset] [(.long r38)])) _
        jvm_step X38.here [X38.here.top, hx, (hb hby at_61), Value.category]
        show Steps p.tables e below (T38.setTop (mkF m 62 #[.val (.long q1), .second, .val (.long q2), .second, .val (.long q3), .second, .val (.int p4), .val (.long (q2 &&& (4611686018427387903 : Int64))), .second, .val (.long (q3 &&& (4611686018427387903 : Int64))), .second, .val (.int (p4 &&& (3 : Int32))), .val (.ref b1), .unset, .unset, .unset, .unset, .unset] [])) _
        refine XS.iload X38.here hx rfl (hb hby at_62) rfl ?_
        show Steps p.tables e below (T38.setTop (mkF m 64 #[.val (.long q1), .second, .val (.long q2), .second, .val (.long q3), .second, .val (.int p4), .val (.long (q2 &&& (4611686018427387903 : Int64))), .second, .val (.long (q3 &&& (4611686018427387903 : Int64))), .second, .val (.int (p4 &&& (3 : Int32))), .val (.ref b1), .unset, .unset, .unset, .unset, .unset] [(.int (p4 &&& (3 : Int32)))])) _
        refine XS.iconst X38.here hx rfl (hb hby at_64) ?_
        show Steps p.tables e below (T38.setTop (mkF m 65 #[.val (.long q1), .second, .val (.long q2), .second, .val (.long q3), .second, .val (.int p4), .val (.long (q2 &&& (4611686018427387903 : Int64))), .second, .val (.long (q3 &&& (4611686018427387903 : Int64))), .second, .val (.int (p4 &&& (3 : Int32))), .val (.ref b1), .unset, .unset, .unset, .unset, .unset] [(.int (3 : Int32)), (.int (p4 &&& (3 : Int32)))])) _
        exact k
      by_cases hc65_40 : (p4 &&& (3 : Int32)) < (3 : Int32)
      · obtain ⟨cq41, kq41, q41a, q41b, q41c⟩ := isOf hZ rfl p38_1
        obtain ⟨_, _, ⟨T41, L41, k41, n41⟩, -, X41, ⟨Lc41, hQ41, l41, y41, z41⟩, st41⟩ := X38.virtualBack hx (y := (⟨"com/example/pipstill/pipstill/Dice", "skip", "(J)V"⟩ : MethodName)) (z := (⟨"com/example/pipstill/pipstill/Dice", "skip", "(J)V"⟩ : MethodName)) hown (mvT hZ (hw _ (List.mem_of_getElem? (i := 12) rfl))) (mvT hZ (hw _ (List.mem_of_getElem? (i := 13) rfl))) (notFace_of_selects (args := #[]) (mvT hZ (hw _ (List.mem_of_getElem? (i := 15) rfl)))) (mvT hZ (hw _ (List.mem_of_getElem? (i := 15) rfl))) (mvT hZ (hw _ (List.mem_of_getElem? (i := 14) rfl))) (by decide) (backOf (W := 0) (rm3 l Z a0 hw [] b1 (q3 &&& (4611686018427387903 : Int64)) (((q1 + ((q2 &&& (4611686018427387903 : Int64)) * (-7046029254386353131 : Int64))) + (-7046029254386353131 : Int64)) + (-7046029254386353131 : Int64)) T38.heap n0 z39 p38_1 g_b1 p38_2) hZ (hw _ (List.mem_of_getElem? (i := 16) rfl)) (hw _ (List.mem_of_getElem? (i := 3) rfl)) (by decide) (by decide)) q41a q41c (g := (mkF m 78 #[.val (.long q1), .second, .val (.long q2), .second, .val (.long q3), .second, .val (.int p4), .val (.long (q2 &&& (4611686018427387903 : Int64))), .second, .val (.long (q3 &&& (4611686018427387903 : Int64))), .second, .val (.int (p4 &&& (3 : Int32))), .val (.ref b1), .unset, .unset, .unset, .unset, .unset] [(.long (q3 &&& (4611686018427387903 : Int64))), (.ref b1)])) rfl (by rw [hml]; rfl) (Steps.refl _) (argsL := [(.long (q3 &&& (4611686018427387903 : Int64)))]) (rest := []) (lenOf pd_0 rfl) rfl (by show 2 * 0 + _ ≤ _; exact Nat.le_of_eq rfl) (hb hby at_78) (fun _ _ => ⟨rfl, rfl, (by decide : 1 + 0 ≤ _), (by decide : 1 + 0 ≤ _)⟩)
        dsimp only [Pt.U, Pt.locs, Pt.cells, Pt.slots] at X41 l41 y41 z41 st41 hQ41
        subst l41 y41 z41
        obtain ⟨rfl, N41q, p41_0, p41_1, p41_2⟩ := hQ41
        have N41 := Fr.app N38 N41q
        have z42 : n0 ≤ T41.heap.size := Nat.le_trans z39 p41_0.1
        obtain ⟨cq43, kq43, q43a, q43b, q43c⟩ := isOf hZ rfl p41_1
        obtain ⟨_, _, ⟨T43, L43, k43, n43⟩, -, X43, ⟨Lc43, hQ43, l43, y43, z43⟩, st43⟩ := X41.virtualBack hx (y := (⟨"com/example/pipstill/pipstill/Dice", "nextLong", "()J"⟩ : MethodName)) (z := (⟨"com/example/pipstill/pipstill/Dice", "nextLong", "()J"⟩ : MethodName)) hown (mvT hZ (hw _ (List.mem_of_getElem? (i := 18) rfl))) (mvT hZ (hw _ (List.mem_of_getElem? (i := 19) rfl))) (notFace_of_selects (args := #[]) (mvT hZ (hw _ (List.mem_of_getElem? (i := 21) rfl)))) (mvT hZ (hw _ (List.mem_of_getElem? (i := 21) rfl))) (mvT hZ (hw _ (List.mem_of_getElem? (i := 20) rfl))) (by decide) (backOf (W := 0) (rm4 l Z a0 hw [] b1 ((((q1 + ((q2 &&& (4611686018427387903 : Int64)) * (-7046029254386353131 : Int64))) + (-7046029254386353131 : Int64)) + (-7046029254386353131 : Int64)) + ((q3 &&& (4611686018427387903 : Int64)) * (-7046029254386353131 : Int64))) T41.heap n0 z42 p41_1 g_b1 p41_2) hZ (hw _ (List.mem_of_getElem? (i := 22) rfl)) (hw _ (List.mem_of_getElem? (i := 3) rfl)) (by decide) (by decide)) q43a q43c (g := (mkF m 83 #[.val (.long q1), .second, .val (.long q2), .second, .val (.long q3), .second, .val (.int p4), .val (.long (q2 &&& (4611686018427387903 : Int64))), .second, .val (.long (q3 &&& (4611686018427387903 : Int64))), .second, .val (.int (p4 &&& (3 : Int32))), .val (.ref b1), .unset, .unset, .unset, .unset, .unset] [(.ref b1)])) rfl (by rw [hml]; rfl) (Steps.refl _) (argsL := []) (rest := []) (lenOf pd_1 rfl) rfl (by show 2 * 0 + _ ≤ _; exact Nat.le_of_eq rfl) (hb hby at_83) (fun _ _ => ⟨rfl, rfl, (by decide : 1 + 0 ≤ _), (by decide : 1 + 0 ≤ _)⟩)
        dsimp only [Pt.U, Pt.locs, Pt.cells, Pt.slots] at X43 l43 y43 z43 st43 hQ43
        subst l43 y43 z43
        obtain ⟨r43, rfl, hr43, N43q, p43_0, p43_1, p43_2⟩ := hQ43
        have N43 := Fr.app N41 N43q
        have z44 : n0 ≤ T43.heap.size := Nat.le_trans z42 p43_0.1
        obtain ⟨T45, h45, X45, e45, E45, A45, D45, -, st45⟩ := newO X43 hx hZ hown (hw _ (List.mem_of_getElem? (i := 1) rfl)) (hw _ (List.mem_of_getElem? (i := 2) rfl)) (hw _ (List.mem_of_getElem? (i := 3) rfl)) rfl (g := (mkF m 88 #[.val (.long q1), .second, .val (.long q2), .second, .val (.long q3), .second, .val (.int p4), .val (.long (q2 &&& (4611686018427387903 : Int64))), .second, .val (.long (q3 &&& (4611686018427387903 : Int64))), .second, .val (.int (p4 &&& (3 : Int32))), .val (.ref b1), .val (.long r43), .second, .unset, .unset, .unset] [])) rfl (hb hby at_88) (by decide) (by decide)
        obtain ⟨b45, g45⟩ : ∃ z, z = T43.heap.size := ⟨_, rfl⟩
        rw [← g45] at A45 D45 st45
        have g_b45 : n0 ≤ b45 := Nat.le_trans z44 (Nat.le_of_eq g45.symm)
        have ne_b1_b45 : b1 ≠ b45 := Nat.ne_of_lt (Nat.lt_of_lt_of_le p43_1.lt (Nat.le_of_eq g45.symm))
        have z46 : n0 ≤ h45.size := Nat.le_trans z44 E45.1
        have F_state_b45 : Fld Z h45 b45 "com/example/pipstill/pipstill/Dice" "state" "J" (.long (0 : Int64)) := D45 (Or.inl (hw _ (List.mem_of_getElem? (i := 11) rfl))) (ty := .long) (by decide)
        obtain ⟨_, _, ⟨T47, L47, k47, n47⟩, -, X47, ⟨Lc47, hQ47, l47, y47, z47⟩, st47⟩ := X45.specialBack hx (y := (⟨"com/example/pipstill/pipstill/Dice", "<init>", "(J)V"⟩ : MethodName)) rfl hown (mvT hZ (hw _ (List.mem_of_getElem? (i := 4) rfl))) (mvT hZ (hw _ (List.mem_of_getElem? (i := 5) rfl))) (mvT hZ (hw _ (List.mem_of_getElem? (i := 6) rfl))) (by decide) (backOf (W := 1) (rm1 l Z a0 hw [] b45 q1 (.long (0 : Int64)) h45 n0 z46 A45 g_b45 F_state_b45) hZ (hw _ (List.mem_of_getElem? (i := 6) rfl)) (hw _ (List.mem_of_getElem? (i := 3) rfl)) (by decide) (by decide)) (g := (mkF m 93 #[.val (.long q1), .second, .val (.long q2), .second, .val (.long q3), .second, .val (.int p4), .val (.long (q2 &&& (4611686018427387903 : Int64))), .second, .val (.long (q3 &&& (4611686018427387903 : Int64))), .second, .val (.int (p4 &&& (3 : Int32))), .val (.ref b1), .val (.long r43), .second, .unset, .unset, .unset] [(.long q1), (.ref b45), (.ref b45)])) rfl (by rw [hml]; rfl) (Steps.refl _) (a := b45) (argsL := [(.long q1)]) (rest := [(.ref b45)]) (lenOf pd_0 rfl) rfl (by show 2 * 0 + _ ≤ _; exact Nat.le_of_eq rfl) (hb hby at_93) (fun _ _ => ⟨rfl, e45, (by decide : 2 + 0 ≤ _), (by decide : 2 + 0 ≤ _)⟩)
        dsimp only [Pt.U, Pt.locs, Pt.cells, Pt.slots] at X47 l47 y47 z47 st47 hQ47
        subst l47 y47 z47
        obtain ⟨rfl, N47q, p47_0, p47_1, p47_2⟩ := hQ47
        have N47 := Fr.app N43 N47q
        have z48 : n0 ≤ T47.heap.size := Nat.le_trans z46 p47_0.1
        obtain ⟨cq49, kq49, q49a, q49b, q49c⟩ := isOf hZ rfl p47_1
        obtain ⟨_, _, ⟨T49, L49, k49, n49⟩, -, X49, ⟨Lc49, hQ49, l49, y49, z49⟩, st49⟩ := X47.virtualBack hx (y := (⟨"com/example/pipstill/pipstill/Dice", "skip", "(J)V"⟩ : MethodName)) (z := (⟨"com/example/pipstill/pipstill/Dice", "skip", "(J)V"⟩ : MethodName)) hown (mvT hZ (hw _ (List.mem_of_getElem? (i := 12) rfl))) (mvT hZ (hw _ (List.mem_of_getElem? (i := 13) rfl))) (notFace_of_selects (args := #[]) (mvT hZ (hw _ (List.mem_of_getElem? (i := 15) rfl)))) (mvT hZ (hw _ (List.mem_of_getElem? (i := 15) rfl))) (mvT hZ (hw _ (List.mem_of_getElem? (i := 14) rfl))) (by decide) (backOf (W := 0) (rm3 l Z a0 hw [] b45 (((q2 &&& (4611686018427387903 : Int64)) + (((p4 &&& (3 : Int32))).toInt64)) + (q3 &&& (4611686018427387903 : Int64))) q1 T47.heap n0 z48 p47_1 g_b45 p47_2) hZ (hw _ (List.mem_of_getElem? (i := 16) rfl)) (hw _ (List.mem_of_getElem? (i := 3) rfl)) (by decide) (by decide)) q49a q49c (g := (mkF m 109 #[.val (.long q1), .second, .val (.long q2), .second, .val (.long q3), .second, .val (.int p4), .val (.long (q2 &&& (4611686018427387903 : Int64))), .second, .val (.long (q3 &&& (4611686018427387903 : Int64))), .second, .val (.int (p4 &&& (3 : Int32))), .val (.ref b1), .val (.long r43), .second, .val (.ref b45), .unset, .unset] [(.long (((q2 &&& (4611686018427387903 : Int64)) + (((p4 &&& (3 : Int32))).toInt64)) + (q3 &&& (4611686018427387903 : Int64)))), (.ref b45)])) rfl (by rw [hml]; rfl) (Steps.refl _) (argsL := [(.long (((q2 &&& (4611686018427387903 : Int64)) + (((p4 &&& (3 : Int32))).toInt64)) + (q3 &&& (4611686018427387903 : Int64))))]) (rest := []) (lenOf pd_0 rfl) rfl (by show 2 * 0 + _ ≤ _; exact Nat.le_of_eq rfl) (hb hby at_109) (fun _ _ => ⟨rfl, rfl, (by decide : 2 + 0 ≤ _), (by decide : 2 + 0 ≤ _)⟩)
        dsimp only [Pt.U, Pt.locs, Pt.cells, Pt.slots] at X49 l49 y49 z49 st49 hQ49
        subst l49 y49 z49
        obtain ⟨rfl, N49q, p49_0, p49_1, p49_2⟩ := hQ49
        have N49 := Fr.app N47 N49q
        have z50 : n0 ≤ T49.heap.size := Nat.le_trans z48 p49_0.1
        obtain ⟨cq51, kq51, q51a, q51b, q51c⟩ := isOf hZ rfl p49_1
        obtain ⟨_, _, ⟨T51, L51, k51, n51⟩, -, X51, ⟨Lc51, hQ51, l51, y51, z51⟩, st51⟩ := X49.virtualBack hx (y := (⟨"com/example/pipstill/pipstill/Dice", "nextLong", "()J"⟩ : MethodName)) (z := (⟨"com/example/pipstill/pipstill/Dice", "nextLong", "()J"⟩ : MethodName)) hown (mvT hZ (hw _ (List.mem_of_getElem? (i := 18) rfl))) (mvT hZ (hw _ (List.mem_of_getElem? (i := 19) rfl))) (notFace_of_selects (args := #[]) (mvT hZ (hw _ (List.mem_of_getElem? (i := 21) rfl)))) (mvT hZ (hw _ (List.mem_of_getElem? (i := 21) rfl))) (mvT hZ (hw _ (List.mem_of_getElem? (i := 20) rfl))) (by decide) (backOf (W := 0) (rm4 l Z a0 hw [] b45 (q1 + ((((q2 &&& (4611686018427387903 : Int64)) + (((p4 &&& (3 : Int32))).toInt64)) + (q3 &&& (4611686018427387903 : Int64))) * (-7046029254386353131 : Int64))) T49.heap n0 z50 p49_1 g_b45 p49_2) hZ (hw _ (List.mem_of_getElem? (i := 22) rfl)) (hw _ (List.mem_of_getElem? (i := 3) rfl)) (by decide) (by decide)) q51a q51c (g := (mkF m 114 #[.val (.long q1), .second, .val (.long q2), .second, .val (.long q3), .second, .val (.int p4), .val (.long (q2 &&& (4611686018427387903 : Int64))), .second, .val (.long (q3 &&& (4611686018427387903 : Int64))), .second, .val (.int (p4 &&& (3 : Int32))), .val (.ref b1), .val (.long r43), .second, .val (.ref b45), .unset, .unset] [(.ref b45)])) rfl (by rw [hml]; rfl) (Steps.refl _) (argsL := []) (rest := []) (lenOf pd_1 rfl) rfl (by show 2 * 0 + _ ≤ _; exact Nat.le_of_eq rfl) (hb hby at_114) (fun _ _ => ⟨rfl, rfl, (by decide : 2 + 0 ≤ _), (by decide : 2 + 0 ≤ _)⟩)
        dsimp only [Pt.U, Pt.locs, Pt.cells, Pt.slots] at X51 l51 y51 z51 st51 hQ51
        subst l51 y51 z51
        obtain ⟨r51, rfl, hr51, N51q, p51_0, p51_1, p51_2⟩ := hQ51
        have N51 := Fr.app N49 N51q
        have z52 : n0 ≤ T51.heap.size := Nat.le_trans z50 p51_0.1
        have hn4 : (p4 &&& (3 : Int32)) = (2 : Int32) := own_is (n := 2) _ rfl (by have h4 := own_n p4; have := hc41_7; have := hc53_24; have := hc65_40; simp only [Int32.lt_iff_toInt_lt] at *; have e1 : (1 : Int32).toInt = 1 := rfl; have e2 : (2 : Int32).toInt = 2 := rfl; have e3 : (3 : Int32).toInt = 3 := rfl; omega)
        obtain ⟨fs, hr, hrun, hended, hW, hsame⟩ := X51.leave (v := some (.int (1 : Int32))) (fun h => by rw [Bd.returns] at h; cases h)
        refine ⟨_, _, ?_, hrun, hended, _, _, rfl, ?_, ⟨_, rfl⟩, hW, hsame.mono (by decide) (by decide)⟩
        · show Steps p.tables e below (T38.setTop (mkF m 65 #[.val (.long q1), .second, .val (.long q2), .second, .val (.long q3), .second, .val (.int p4), .val (.long (q2 &&& (4611686018427387903 : Int64))), .second, .val (.long (q3 &&& (4611686018427387903 : Int64))), .second, .val (.int (p4 &&& (3 : Int32))), .val (.ref b1), .unset, .unset, .unset, .unset, .unset] [(.int (3 : Int32)), (.int (p4 &&& (3 : Int32)))])) _
          refine XS.icmpYes X38.here hx rfl (pc0 := 65) (pc' := 74) rfl (hb hby at_65) rfl ((tlt hc65_40).1) (by decide) (by decide) ?_
          show Steps p.tables e below (T38.setTop (mkF m 74 #[.val (.long q1), .second, .val (.long q2), .second, .val (.long q3), .second, .val (.int p4), .val (.long (q2 &&& (4611686018427387903 : Int64))), .second, .val (.long (q3 &&& (4611686018427387903 : Int64))), .second, .val (.int (p4 &&& (3 : Int32))), .val (.ref b1), .unset, .unset, .unset, .unset, .unset] [])) _
          refine XS.aload X38.here hx rfl (hb hby at_74) rfl rfl ?_
          show Steps p.tables e below (T38.setTop (mkF m 76 #[.val (.long q1), .second, .val (.long q2), .second, .val (.long q3), .second, .val (.int p4), .val (.long (q2 &&& (4611686018427387903 : Int64))), .second, .val (.long (q3 &&& (4611686018427387903 : Int64))), .second, .val (.int (p4 &&& (3 : Int32))), .val (.ref b1), .unset, .unset, .unset, .unset, .unset] [(.ref b1)])) _
          refine XS.lload X38.here hx rfl (hb hby at_76) rfl ?_
          show Steps p.tables e below (T38.setTop (mkF m 78 #[.val (.long q1), .second, .val (.long q2), .second, .val (.long q3), .second, .val (.int p4), .val (.long (q2 &&& (4611686018427387903 : Int64))), .second, .val (.long (q3 &&& (4611686018427387903 : Int64))), .second, .val (.int (p4 &&& (3 : Int32))), .val (.ref b1), .unset, .unset, .unset, .unset, .unset] [(.long (q3 &&& (4611686018427387903 : Int64))), (.ref b1)])) _
          refine st41.trans ?_
          show Steps p.tables e below (T41.setTop (mkF m 81 #[.val (.long q1), .second, .val (.long q2), .second, .val (.long q3), .second, .val (.int p4), .val (.long (q2 &&& (4611686018427387903 : Int64))), .second, .val (.long (q3 &&& (4611686018427387903 : Int64))), .second, .val (.int (p4 &&& (3 : Int32))), .val (.ref b1), .unset, .unset, .unset, .unset, .unset] [])) _
          refine XS.aload X41.here hx rfl (hb hby at_81) rfl rfl ?_
          show Steps p.tables e below (T41.setTop (mkF m 83 #[.val (.long q1), .second, .val (.long q2), .second, .val (.long q3), .second, .val (.int p4), .val (.long (q2 &&& (4611686018427387903 : Int64))), .second, .val (.long (q3 &&& (4611686018427387903 : Int64))), .second, .val (.int (p4 &&& (3 : Int32))), .val (.ref b1), .unset, .unset, .unset, .unset, .unset] [(.ref b1)])) _
          refine st43.trans ?_
          show Steps p.tables e below (T43.setTop (mkF m 86 #[.val (.long q1), .second, .val (.long q2), .second, .val (.long q3), .second, .val (.int p4), .val (.long (q2 &&& (4611686018427387903 : Int64))), .second, .val (.long (q3 &&& (4611686018427387903 : Int64))), .second, .val (.int (p4 &&& (3 : Int32))), .val (.ref b1), .unset, .unset, .unset, .unset, .unset] [(.long r43)])) _
          refine XS.lstore X43.here hx rfl (hb hby at_86) rfl (l' := #[.val (.long q1), .second, .val (.long q2), .second, .val (.long q3), .second, .val (.int p4), .val (.long (q2 &&& (4611686018427387903 : Int64))), .second, .val (.long (q3 &&& (4611686018427387903 : Int64))), .second, .val (.int (p4 &&& (3 : Int32))), .val (.ref b1), .val (.long r43), .second, .unset, .unset, .unset]) rfl ?_
          show Steps p.tables e below (T43.setTop (mkF m 88 #[.val (.long q1), .second, .val (.long q2), .second, .val (.long q3), .second, .val (.int p4), .val (.long (q2 &&& (4611686018427387903 : Int64))), .second, .val (.long (q3 &&& (4611686018427387903 : Int64))), .second, .val (.int (p4 &&& (3 : Int32))), .val (.ref b1), .val (.long r43), .second, .unset, .unset, .unset] [])) _
          refine st45 _ ?_
          show Steps p.tables e below (T45.setTop (mkF m 91 #[.val (.long q1), .second, .val (.long q2), .second, .val (.long q3), .second, .val (.int p4), .val (.long (q2 &&& (4611686018427387903 : Int64))), .second, .val (.long (q3 &&& (4611686018427387903 : Int64))), .second, .val (.int (p4 &&& (3 : Int32))), .val (.ref b1), .val (.long r43), .second, .unset, .unset, .unset] [(.ref b45)])) _
          refine XS.dup X45.here hx rfl (hb hby at_91) rfl rfl ?_
          show Steps p.tables e below (T45.setTop (mkF m 92 #[.val (.long q1), .second, .val (.long q2), .second, .val (.long q3), .second, .val (.int p4), .val (.long (q2 &&& (4611686018427387903 : Int64))), .second, .val (.long (q3 &&& (4611686018427387903 : Int64))), .second, .val (.int (p4 &&& (3 : Int32))), .val (.ref b1), .val (.long r43), .second, .unset, .unset, .unset] [(.ref b45), (.ref b45)])) _
          refine XS.lloadN X45.here hx rfl (hb hby at_92) rfl ?_
          show Steps p.tables e below (T45.setTop (mkF m 93 #[.val (.long q1), .second, .val (.long q2), .second, .val (.long q3), .second, .val (.int p4), .val (.long (q2 &&& (4611686018427387903 : Int64))), .second, .val (.long (q3 &&& (4611686018427387903 : Int64))), .second, .val (.int (p4 &&& (3 : Int32))), .val (.ref b1), .val (.long r43), .second, .unset, .unset, .unset] [(.long q1), (.ref b45), (.ref b45)])) _
          refine st47.trans ?_
          show Steps p.tables e below (T47.setTop (mkF m 96 #[.val (.long q1), .second, .val (.long q2), .second, .val (.long q3), .second, .val (.int p4), .val (.long (q2 &&& (4611686018427387903 : Int64))), .second, .val (.long (q3 &&& (4611686018427387903 : Int64))), .second, .val (.int (p4 &&& (3 : Int32))), .val (.ref b1), .val (.long r43), .second, .unset, .unset, .unset] [(.ref b45)])) _
          refine XS.astore X47.here hx rfl (hb hby at_96) rfl rfl (l' := #[.val (.long q1), .second, .val (.long q2), .second, .val (.long q3), .second, .val (.int p4), .val (.long (q2 &&& (4611686018427387903 : Int64))), .second, .val (.long (q3 &&& (4611686018427387903 : Int64))), .second, .val (.int (p4 &&& (3 : Int32))), .val (.ref b1), .val (.long r43), .second, .val (.ref b45), .unset, .unset]) rfl ?_
          show Steps p.tables e below (T47.setTop (mkF m 98 #[.val (.long q1), .second, .val (.long q2), .second, .val (.long q3), .second, .val (.int p4), .val (.long (q2 &&& (4611686018427387903 : Int64))), .second, .val (.long (q3 &&& (4611686018427387903 : Int64))), .second, .val (.int (p4 &&& (3 : Int32))), .val (.ref b1), .val (.long r43), .second, .val (.ref b45), .unset, .unset] [])) _
          refine XS.aload X47.here hx rfl (hb hby at_98) rfl rfl ?_
          show Steps p.tables e below (T47.setTop (mkF m 100 #[.val (.long q1), .second, .val (.long q2), .second, .val (.long q3), .second, .val (.int p4), .val (.long (q2 &&& (4611686018427387903 : Int64))), .second, .val (.long (q3 &&& (4611686018427387903 : Int64))), .second, .val (.int (p4 &&& (3 : Int32))), .val (.ref b1), .val (.long r43), .second, .val (.ref b45), .unset, .unset] [(.ref b45)])) _
          refine XS.lload X47.here hx rfl (hb hby at_100) rfl ?_
          show Steps p.tables e below (T47.setTop (mkF m 102 #[.val (.long q1), .second, .val (.long q2), .second, .val (.long q3), .second, .val (.int p4), .val (.long (q2 &&& (4611686018427387903 : Int64))), .second, .val (.long (q3 &&& (4611686018427387903 : Int64))), .second, .val (.int (p4 &&& (3 : Int32))), .val (.ref b1), .val (.long r43), .second, .val (.ref b45), .unset, .unset] [(.long (q2 &&& (4611686018427387903 : Int64))), (.ref b45)])) _
          refine XS.iload X47.here hx rfl (hb hby at_102) rfl ?_
          show Steps p.tables e below (T47.setTop (mkF m 104 #[.val (.long q1), .second, .val (.long q2), .second, .val (.long q3), .second, .val (.int p4), .val (.long (q2 &&& (4611686018427387903 : Int64))), .second, .val (.long (q3 &&& (4611686018427387903 : Int64))), .second, .val (.int (p4 &&& (3 : Int32))), .val (.ref b1), .val (.long r43), .second, .val (.ref b45), .unset, .unset] [(.int (p4 &&& (3 : Int32))), (.long (q2 &&& (4611686018427387903 : Int64))), (.ref b45)])) _
          refine XS.i2l X47.here hx rfl (hb hby at_104) rfl ?_
          show Steps p.tables e below (T47.setTop (mkF m 105 #[.val (.long q1), .second, .val (.long q2), .second, .val (.long q3), .second, .val (.int p4), .val (.long (q2 &&& (4611686018427387903 : Int64))), .second, .val (.long (q3 &&& (4611686018427387903 : Int64))), .second, .val (.int (p4 &&& (3 : Int32))), .val (.ref b1), .val (.long r43), .second, .val (.ref b45), .unset, .unset] [(.long (((p4 &&& (3 : Int32))).toInt64)), (.long (q2 &&& (4611686018427387903 : Int64))), (.ref b45)])) _
          refine XS.ladd X47.here hx rfl (hb hby at_105) rfl ?_
          show Steps p.tables e below (T47.setTop (mkF m 106 #[.val (.long q1), .second, .val (.long q2), .second, .val (.long q3), .second, .val (.int p4), .val (.long (q2 &&& (4611686018427387903 : Int64))), .second, .val (.long (q3 &&& (4611686018427387903 : Int64))), .second, .val (.int (p4 &&& (3 : Int32))), .val (.ref b1), .val (.long r43), .second, .val (.ref b45), .unset, .unset] [(.long ((q2 &&& (4611686018427387903 : Int64)) + (((p4 &&& (3 : Int32))).toInt64))), (.ref b45)])) _
          refine XS.lload X47.here hx rfl (hb hby at_106) rfl ?_
          show Steps p.tables e below (T47.setTop (mkF m 108 #[.val (.long q1), .second, .val (.long q2), .second, .val (.long q3), .second, .val (.int p4), .val (.long (q2 &&& (4611686018427387903 : Int64))), .second, .val (.long (q3 &&& (4611686018427387903 : Int64))), .second, .val (.int (p4 &&& (3 : Int32))), .val (.ref b1), .val (.long r43), .second, .val (.ref b45), .unset, .unset] [(.long (q3 &&& (4611686018427387903 : Int64))), (.long ((q2 &&& (4611686018427387903 : Int64)) + (((p4 &&& (3 : Int32))).toInt64))), (.ref b45)])) _
          refine XS.ladd X47.here hx rfl (hb hby at_108) rfl ?_
          show Steps p.tables e below (T47.setTop (mkF m 109 #[.val (.long q1), .second, .val (.long q2), .second, .val (.long q3), .second, .val (.int p4), .val (.long (q2 &&& (4611686018427387903 : Int64))), .second, .val (.long (q3 &&& (4611686018427387903 : Int64))), .second, .val (.int (p4 &&& (3 : Int32))), .val (.ref b1), .val (.long r43), .second, .val (.ref b45), .unset, .unset] [(.long (((q2 &&& (4611686018427387903 : Int64)) + (((p4 &&& (3 : Int32))).toInt64)) + (q3 &&& (4611686018427387903 : Int64)))), (.ref b45)])) _
          refine st49.trans ?_
          show Steps p.tables e below (T49.setTop (mkF m 112 #[.val (.long q1), .second, .val (.long q2), .second, .val (.long q3), .second, .val (.int p4), .val (.long (q2 &&& (4611686018427387903 : Int64))), .second, .val (.long (q3 &&& (4611686018427387903 : Int64))), .second, .val (.int (p4 &&& (3 : Int32))), .val (.ref b1), .val (.long r43), .second, .val (.ref b45), .unset, .unset] [])) _
          refine XS.aload X49.here hx rfl (hb hby at_112) rfl rfl ?_
          show Steps p.tables e below (T49.setTop (mkF m 114 #[.val (.long q1), .second, .val (.long q2), .second, .val (.long q3), .second, .val (.int p4), .val (.long (q2 &&& (4611686018427387903 : Int64))), .second, .val (.long (q3 &&& (4611686018427387903 : Int64))), .second, .val (.int (p4 &&& (3 : Int32))), .val (.ref b1), .val (.long r43), .second, .val (.ref b45), .unset, .unset] [(.ref b45)])) _
          refine st51.trans ?_
          show Steps p.tables e below (T51.setTop (mkF m 117 #[.val (.long q1), .second, .val (.long q2), .second, .val (.long q3), .second, .val (.int p4), .val (.long (q2 &&& (4611686018427387903 : Int64))), .second, .val (.long (q3 &&& (4611686018427387903 : Int64))), .second, .val (.int (p4 &&& (3 : Int32))), .val (.ref b1), .val (.long r43), .second, .val (.ref b45), .unset, .unset] [(.long r51)])) _
          refine XS.lstore X51.here hx rfl (hb hby at_117) rfl (l' := #[.val (.long q1), .second, .val (.long q2), .second, .val (.long q3), .second, .val (.int p4), .val (.long (q2 &&& (4611686018427387903 : Int64))), .second, .val (.long (q3 &&& (4611686018427387903 : Int64))), .second, .val (.int (p4 &&& (3 : Int32))), .val (.ref b1), .val (.long r43), .second, .val (.ref b45), .val (.long r51), .second]) rfl ?_
          show Steps p.tables e below (T51.setTop (mkF m 119 #[.val (.long q1), .second, .val (.long q2), .second, .val (.long q3), .second, .val (.int p4), .val (.long (q2 &&& (4611686018427387903 : Int64))), .second, .val (.long (q3 &&& (4611686018427387903 : Int64))), .second, .val (.int (p4 &&& (3 : Int32))), .val (.ref b1), .val (.long r43), .second, .val (.ref b45), .val (.long r51), .second] [])) _
          refine XS.lload X51.here hx rfl (hb hby at_119) rfl ?_
          show Steps p.tables e below (T51.setTop (mkF m 121 #[.val (.long q1), .second, .val (.long q2), .second, .val (.long q3), .second, .val (.int p4), .val (.long (q2 &&& (4611686018427387903 : Int64))), .second, .val (.long (q3 &&& (4611686018427387903 : Int64))), .second, .val (.int (p4 &&& (3 : Int32))), .val (.ref b1), .val (.long r43), .second, .val (.ref b45), .val (.long r51), .second] [(.long r43)])) _
          refine XS.lload X51.here hx rfl (hb hby at_121) rfl ?_
          show Steps p.tables e below (T51.setTop (mkF m 123 #[.val (.long q1), .second, .val (.long q2), .second, .val (.long q3), .second, .val (.int p4), .val (.long (q2 &&& (4611686018427387903 : Int64))), .second, .val (.long (q3 &&& (4611686018427387903 : Int64))), .second, .val (.int (p4 &&& (3 : Int32))), .val (.ref b1), .val (.long r43), .second, .val (.ref b45), .val (.long r51), .second] [(.long r51), (.long r43)])) _
          refine XS.lcmp X51.here hx rfl (hb hby at_123) rfl ?_
          show Steps p.tables e below (T51.setTop (mkF m 124 #[.val (.long q1), .second, .val (.long q2), .second, .val (.long q3), .second, .val (.int p4), .val (.long (q2 &&& (4611686018427387903 : Int64))), .second, .val (.long (q3 &&& (4611686018427387903 : Int64))), .second, .val (.int (p4 &&& (3 : Int32))), .val (.ref b1), .val (.long r43), .second, .val (.ref b45), .val (.long r51), .second] [(.int (lcmpW r43 r51))])) _
          refine XS.ifNo X51.here hx rfl (hb hby at_124) rfl ((if0 _ _).trans (teq ((lw_eq r43 r51).mpr (by rw [hr43, hr51, hn4, own_s2] : r43 = r51))).2) ?_
          show Steps p.tables e below (T51.setTop (mkF m 127 #[.val (.long q1), .second, .val (.long q2), .second, .val (.long q3), .second, .val (.int p4), .val (.long (q2 &&& (4611686018427387903 : Int64))), .second, .val (.long (q3 &&& (4611686018427387903 : Int64))), .second, .val (.int (p4 &&& (3 : Int32))), .val (.ref b1), .val (.long r43), .second, .val (.ref b45), .val (.long r51), .second] [])) _
          refine XS.iconst X51.here hx rfl (hb hby at_127) ?_
          show Steps p.tables e below (T51.setTop (mkF m 128 #[.val (.long q1), .second, .val (.long q2), .second, .val (.long q3), .second, .val (.int p4), .val (.long (q2 &&& (4611686018427387903 : Int64))), .second, .val (.long (q3 &&& (4611686018427387903 : Int64))), .second, .val (.int (p4 &&& (3 : Int32))), .val (.ref b1), .val (.long r43), .second, .val (.ref b45), .val (.long r51), .second] [(.int (1 : Int32))])) _
          refine XS.goto X51.here hx rfl (pc0 := 128) (pc' := 132) rfl (hb hby at_128) (by decide) (by decide) ?_
          show Steps p.tables e below (T51.setTop (mkF m 132 #[.val (.long q1), .second, .val (.long q2), .second, .val (.long q3), .second, .val (.int p4), .val (.long (q2 &&& (4611686018427387903 : Int64))), .second, .val (.long (q3 &&& (4611686018427387903 : Int64))), .second, .val (.int (p4 &&& (3 : Int32))), .val (.ref b1), .val (.long r43), .second, .val (.ref b45), .val (.long r51), .second] [(.int (1 : Int32))])) _
          exact retN X51 hx (t := .boolean) Bd.returns (by simp) (hb hby at_132) hr
        · exact ⟨rfl, N51⟩
      · obtain ⟨cq53, kq53, q53a, q53b, q53c⟩ := isOf hZ rfl p38_1
        obtain ⟨_, _, ⟨T53, L53, k53, n53⟩, -, X53, ⟨Lc53, hQ53, l53, y53, z53⟩, st53⟩ := X38.virtualBack hx (y := (⟨"com/example/pipstill/pipstill/Dice", "nextLong", "()J"⟩ : MethodName)) (z := (⟨"com/example/pipstill/pipstill/Dice", "nextLong", "()J"⟩ : MethodName)) hown (mvT hZ (hw _ (List.mem_of_getElem? (i := 18) rfl))) (mvT hZ (hw _ (List.mem_of_getElem? (i := 19) rfl))) (notFace_of_selects (args := #[]) (mvT hZ (hw _ (List.mem_of_getElem? (i := 21) rfl)))) (mvT hZ (hw _ (List.mem_of_getElem? (i := 21) rfl))) (mvT hZ (hw _ (List.mem_of_getElem? (i := 20) rfl))) (by decide) (backOf (W := 0) (rm4 l Z a0 hw [] b1 (((q1 + ((q2 &&& (4611686018427387903 : Int64)) * (-7046029254386353131 : Int64))) + (-7046029254386353131 : Int64)) + (-7046029254386353131 : Int64)) T38.heap n0 z39 p38_1 g_b1 p38_2) hZ (hw _ (List.mem_of_getElem? (i := 22) rfl)) (hw _ (List.mem_of_getElem? (i := 3) rfl)) (by decide) (by decide)) q53a q53c (g := (mkF m 70 #[.val (.long q1), .second, .val (.long q2), .second, .val (.long q3), .second, .val (.int p4), .val (.long (q2 &&& (4611686018427387903 : Int64))), .second, .val (.long (q3 &&& (4611686018427387903 : Int64))), .second, .val (.int (p4 &&& (3 : Int32))), .val (.ref b1), .unset, .unset, .unset, .unset, .unset] [(.ref b1)])) rfl (by rw [hml]; rfl) (Steps.refl _) (argsL := []) (rest := []) (lenOf pd_1 rfl) rfl (by show 2 * 0 + _ ≤ _; exact Nat.le_of_eq rfl) (hb hby at_70) (fun _ _ => ⟨rfl, rfl, (by decide : 1 + 0 ≤ _), (by decide : 1 + 0 ≤ _)⟩)
        dsimp only [Pt.U, Pt.locs, Pt.cells, Pt.slots] at X53 l53 y53 z53 st53 hQ53
        subst l53 y53 z53
        obtain ⟨r53, rfl, hr53, N53q, p53_0, p53_1, p53_2⟩ := hQ53
        have N53 := Fr.app N38 N53q
        have z54 : n0 ≤ T53.heap.size := Nat.le_trans z39 p53_0.1
        obtain ⟨cq55, kq55, q55a, q55b, q55c⟩ := isOf hZ rfl p53_1
        obtain ⟨_, _, ⟨T55, L55, k55, n55⟩, -, X55, ⟨Lc55, hQ55, l55, y55, z55⟩, st55⟩ := X53.virtualBack hx (y := (⟨"com/example/pipstill/pipstill/Dice", "skip", "(J)V"⟩ : MethodName)) (z := (⟨"com/example/pipstill/pipstill/Dice", "skip", "(J)V"⟩ : MethodName)) hown (mvT hZ (hw _ (List.mem_of_getElem? (i := 12) rfl))) (mvT hZ (hw _ (List.mem_of_getElem? (i := 13) rfl))) (notFace_of_selects (args := #[]) (mvT hZ (hw _ (List.mem_of_getElem? (i := 15) rfl)))) (mvT hZ (hw _ (List.mem_of_getElem? (i := 15) rfl))) (mvT hZ (hw _ (List.mem_of_getElem? (i := 14) rfl))) (by decide) (backOf (W := 0) (rm3 l Z a0 hw [] b1 (q3 &&& (4611686018427387903 : Int64)) ((((q1 + ((q2 &&& (4611686018427387903 : Int64)) * (-7046029254386353131 : Int64))) + (-7046029254386353131 : Int64)) + (-7046029254386353131 : Int64)) + (-7046029254386353131 : Int64)) T53.heap n0 z54 p53_1 g_b1 p53_2) hZ (hw _ (List.mem_of_getElem? (i := 16) rfl)) (hw _ (List.mem_of_getElem? (i := 3) rfl)) (by decide) (by decide)) q55a q55c (g := (mkF m 78 #[.val (.long q1), .second, .val (.long q2), .second, .val (.long q3), .second, .val (.int p4), .val (.long (q2 &&& (4611686018427387903 : Int64))), .second, .val (.long (q3 &&& (4611686018427387903 : Int64))), .second, .val (.int (p4 &&& (3 : Int32))), .val (.ref b1), .unset, .unset, .unset, .unset, .unset] [(.long (q3 &&& (4611686018427387903 : Int64))), (.ref b1)])) rfl (by rw [hml]; rfl) (Steps.refl _) (argsL := [(.long (q3 &&& (4611686018427387903 : Int64)))]) (rest := []) (lenOf pd_0 rfl) rfl (by show 2 * 0 + _ ≤ _; exact Nat.le_of_eq rfl) (hb hby at_78) (fun _ _ => ⟨rfl, rfl, (by decide : 1 + 0 ≤ _), (by decide : 1 + 0 ≤ _)⟩)
        dsimp only [Pt.U, Pt.locs, Pt.cells, Pt.slots] at X55 l55 y55 z55 st55 hQ55
        subst l55 y55 z55
        obtain ⟨rfl, N55q, p55_0, p55_1, p55_2⟩ := hQ55
        have N55 := Fr.app N53 N55q
        have z56 : n0 ≤ T55.heap.size := Nat.le_trans z54 p55_0.1
        obtain ⟨cq57, kq57, q57a, q57b, q57c⟩ := isOf hZ rfl p55_1
        obtain ⟨_, _, ⟨T57, L57, k57, n57⟩, -, X57, ⟨Lc57, hQ57, l57, y57, z57⟩, st57⟩ := X55.virtualBack hx (y := (⟨"com/example/pipstill/pipstill/Dice", "nextLong", "()J"⟩ : MethodName)) (z := (⟨"com/example/pipstill/pipstill/Dice", "nextLong", "()J"⟩ : MethodName)) hown (mvT hZ (hw _ (List.mem_of_getElem? (i := 18) rfl))) (mvT hZ (hw _ (List.mem_of_getElem? (i := 19) rfl))) (notFace_of_selects (args := #[]) (mvT hZ (hw _ (List.mem_of_getElem? (i := 21) rfl)))) (mvT hZ (hw _ (List.mem_of_getElem? (i := 21) rfl))) (mvT hZ (hw _ (List.mem_of_getElem? (i := 20) rfl))) (by decide) (backOf (W := 0) (rm4 l Z a0 hw [] b1 (((((q1 + ((q2 &&& (4611686018427387903 : Int64)) * (-7046029254386353131 : Int64))) + (-7046029254386353131 : Int64)) + (-7046029254386353131 : Int64)) + (-7046029254386353131 : Int64)) + ((q3 &&& (4611686018427387903 : Int64)) * (-7046029254386353131 : Int64))) T55.heap n0 z56 p55_1 g_b1 p55_2) hZ (hw _ (List.mem_of_getElem? (i := 22) rfl)) (hw _ (List.mem_of_getElem? (i := 3) rfl)) (by decide) (by decide)) q57a q57c (g := (mkF m 83 #[.val (.long q1), .second, .val (.long q2), .second, .val (.long q3), .second, .val (.int p4), .val (.long (q2 &&& (4611686018427387903 : Int64))), .second, .val (.long (q3 &&& (4611686018427387903 : Int64))), .second, .val (.int (p4 &&& (3 : Int32))), .val (.ref b1), .unset, .unset, .unset, .unset, .unset] [(.ref b1)])) rfl (by rw [hml]; rfl) (Steps.refl _) (argsL := []) (rest := []) (lenOf pd_1 rfl) rfl (by show 2 * 0 + _ ≤ _; exact Nat.le_of_eq rfl) (hb hby at_83) (fun _ _ => ⟨rfl, rfl, (by decide : 1 + 0 ≤ _), (by decide : 1 + 0 ≤ _)⟩)
        dsimp only [Pt.U, Pt.locs, Pt.cells, Pt.slots] at X57 l57 y57 z57 st57 hQ57
        subst l57 y57 z57
        obtain ⟨r57, rfl, hr57, N57q, p57_0, p57_1, p57_2⟩ := hQ57
        have N57 := Fr.app N55 N57q
        have z58 : n0 ≤ T57.heap.size := Nat.le_trans z56 p57_0.1
        obtain ⟨T59, h59, X59, e59, E59, A59, D59, -, st59⟩ := newO X57 hx hZ hown (hw _ (List.mem_of_getElem? (i := 1) rfl)) (hw _ (List.mem_of_getElem? (i := 2) rfl)) (hw _ (List.mem_of_getElem? (i := 3) rfl)) rfl (g := (mkF m 88 #[.val (.long q1), .second, .val (.long q2), .second, .val (.long q3), .second, .val (.int p4), .val (.long (q2 &&& (4611686018427387903 : Int64))), .second, .val (.long (q3 &&& (4611686018427387903 : Int64))), .second, .val (.int (p4 &&& (3 : Int32))), .val (.ref b1), .val (.long r57), .second, .unset, .unset, .unset] [])) rfl (hb hby at_88) (by decide) (by decide)
        obtain ⟨b59, g59⟩ : ∃ z, z = T57.heap.size := ⟨_, rfl⟩
        rw [← g59] at A59 D59 st59
        have g_b59 : n0 ≤ b59 := Nat.le_trans z58 (Nat.le_of_eq g59.symm)
        have ne_b1_b59 : b1 ≠ b59 := Nat.ne_of_lt (Nat.lt_of_lt_of_le p57_1.lt (Nat.le_of_eq g59.symm))
        have z60 : n0 ≤ h59.size := Nat.le_trans z58 E59.1
        have F_state_b59 : Fld Z h59 b59 "com/example/pipstill/pipstill/Dice" "state" "J" (.long (0 : Int64)) := D59 (Or.inl (hw _ (List.mem_of_getElem? (i := 11) rfl))) (ty := .long) (by decide)
        obtain ⟨_, _, ⟨T61, L61, k61, n61⟩, -, X61, ⟨Lc61, hQ61, l61, y61, z61⟩, st61⟩ := X59.specialBack hx (y := (⟨"com/example/pipstill/pipstill/Dice", "<init>", "(J)V"⟩ : MethodName)) rfl hown (mvT hZ (hw _ (List.mem_of_getElem? (i := 4) rfl))) (mvT hZ (hw _ (List.mem_of_getElem? (i := 5) rfl))) (mvT hZ (hw _ (List.mem_of_getElem? (i := 6) rfl))) (by decide) (backOf (W := 1) (rm1 l Z a0 hw [] b59 q1 (.long (0 : Int64)) h59 n0 z60 A59 g_b59 F_state_b59) hZ (hw _ (List.mem_of_getElem? (i := 6) rfl)) (hw _ (List.mem_of_getElem? (i := 3) rfl)) (by decide) (by decide)) (g := (mkF m 93 #[.val (.long q1), .second, .val (.long q2), .second, .val (.long q3), .second, .val (.int p4), .val (.long (q2 &&& (4611686018427387903 : Int64))), .second, .val (.long (q3 &&& (4611686018427387903 : Int64))), .second, .val (.int (p4 &&& (3 : Int32))), .val (.ref b1), .val (.long r57), .second, .unset, .unset, .unset] [(.long q1), (.ref b59), (.ref b59)])) rfl (by rw [hml]; rfl) (Steps.refl _) (a := b59) (argsL := [(.long q1)]) (rest := [(.ref b59)]) (lenOf pd_0 rfl) rfl (by show 2 * 0 + _ ≤ _; exact Nat.le_of_eq rfl) (hb hby at_93) (fun _ _ => ⟨rfl, e59, (by decide : 2 + 0 ≤ _), (by decide : 2 + 0 ≤ _)⟩)
        dsimp only [Pt.U, Pt.locs, Pt.cells, Pt.slots] at X61 l61 y61 z61 st61 hQ61
        subst l61 y61 z61
        obtain ⟨rfl, N61q, p61_0, p61_1, p61_2⟩ := hQ61
        have N61 := Fr.app N57 N61q
        have z62 : n0 ≤ T61.heap.size := Nat.le_trans z60 p61_0.1
        obtain ⟨cq63, kq63, q63a, q63b, q63c⟩ := isOf hZ rfl p61_1
        obtain ⟨_, _, ⟨T63, L63, k63, n63⟩, -, X63, ⟨Lc63, hQ63, l63, y63, z63⟩, st63⟩ := X61.virtualBack hx (y := (⟨"com/example/pipstill/pipstill/Dice", "skip", "(J)V"⟩ : MethodName)) (z := (⟨"com/example/pipstill/pipstill/Dice", "skip", "(J)V"⟩ : MethodName)) hown (mvT hZ (hw _ (List.mem_of_getElem? (i := 12) rfl))) (mvT hZ (hw _ (List.mem_of_getElem? (i := 13) rfl))) (notFace_of_selects (args := #[]) (mvT hZ (hw _ (List.mem_of_getElem? (i := 15) rfl)))) (mvT hZ (hw _ (List.mem_of_getElem? (i := 15) rfl))) (mvT hZ (hw _ (List.mem_of_getElem? (i := 14) rfl))) (by decide) (backOf (W := 0) (rm3 l Z a0 hw [] b59 (((q2 &&& (4611686018427387903 : Int64)) + (((p4 &&& (3 : Int32))).toInt64)) + (q3 &&& (4611686018427387903 : Int64))) q1 T61.heap n0 z62 p61_1 g_b59 p61_2) hZ (hw _ (List.mem_of_getElem? (i := 16) rfl)) (hw _ (List.mem_of_getElem? (i := 3) rfl)) (by decide) (by decide)) q63a q63c (g := (mkF m 109 #[.val (.long q1), .second, .val (.long q2), .second, .val (.long q3), .second, .val (.int p4), .val (.long (q2 &&& (4611686018427387903 : Int64))), .second, .val (.long (q3 &&& (4611686018427387903 : Int64))), .second, .val (.int (p4 &&& (3 : Int32))), .val (.ref b1), .val (.long r57), .second, .val (.ref b59), .unset, .unset] [(.long (((q2 &&& (4611686018427387903 : Int64)) + (((p4 &&& (3 : Int32))).toInt64)) + (q3 &&& (4611686018427387903 : Int64)))), (.ref b59)])) rfl (by rw [hml]; rfl) (Steps.refl _) (argsL := [(.long (((q2 &&& (4611686018427387903 : Int64)) + (((p4 &&& (3 : Int32))).toInt64)) + (q3 &&& (4611686018427387903 : Int64))))]) (rest := []) (lenOf pd_0 rfl) rfl (by show 2 * 0 + _ ≤ _; exact Nat.le_of_eq rfl) (hb hby at_109) (fun _ _ => ⟨rfl, rfl, (by decide : 2 + 0 ≤ _), (by decide : 2 + 0 ≤ _)⟩)
        dsimp only [Pt.U, Pt.locs, Pt.cells, Pt.slots] at X63 l63 y63 z63 st63 hQ63
        subst l63 y63 z63
        obtain ⟨rfl, N63q, p63_0, p63_1, p63_2⟩ := hQ63
        have N63 := Fr.app N61 N63q
        have z64 : n0 ≤ T63.heap.size := Nat.le_trans z62 p63_0.1
        obtain ⟨cq65, kq65, q65a, q65b, q65c⟩ := isOf hZ rfl p63_1
        obtain ⟨_, _, ⟨T65, L65, k65, n65⟩, -, X65, ⟨Lc65, hQ65, l65, y65, z65⟩, st65⟩ := X63.virtualBack hx (y := (⟨"com/example/pipstill/pipstill/Dice", "nextLong", "()J"⟩ : MethodName)) (z := (⟨"com/example/pipstill/pipstill/Dice", "nextLong", "()J"⟩ : MethodName)) hown (mvT hZ (hw _ (List.mem_of_getElem? (i := 18) rfl))) (mvT hZ (hw _ (List.mem_of_getElem? (i := 19) rfl))) (notFace_of_selects (args := #[]) (mvT hZ (hw _ (List.mem_of_getElem? (i := 21) rfl)))) (mvT hZ (hw _ (List.mem_of_getElem? (i := 21) rfl))) (mvT hZ (hw _ (List.mem_of_getElem? (i := 20) rfl))) (by decide) (backOf (W := 0) (rm4 l Z a0 hw [] b59 (q1 + ((((q2 &&& (4611686018427387903 : Int64)) + (((p4 &&& (3 : Int32))).toInt64)) + (q3 &&& (4611686018427387903 : Int64))) * (-7046029254386353131 : Int64))) T63.heap n0 z64 p63_1 g_b59 p63_2) hZ (hw _ (List.mem_of_getElem? (i := 22) rfl)) (hw _ (List.mem_of_getElem? (i := 3) rfl)) (by decide) (by decide)) q65a q65c (g := (mkF m 114 #[.val (.long q1), .second, .val (.long q2), .second, .val (.long q3), .second, .val (.int p4), .val (.long (q2 &&& (4611686018427387903 : Int64))), .second, .val (.long (q3 &&& (4611686018427387903 : Int64))), .second, .val (.int (p4 &&& (3 : Int32))), .val (.ref b1), .val (.long r57), .second, .val (.ref b59), .unset, .unset] [(.ref b59)])) rfl (by rw [hml]; rfl) (Steps.refl _) (argsL := []) (rest := []) (lenOf pd_1 rfl) rfl (by show 2 * 0 + _ ≤ _; exact Nat.le_of_eq rfl) (hb hby at_114) (fun _ _ => ⟨rfl, rfl, (by decide : 2 + 0 ≤ _), (by decide : 2 + 0 ≤ _)⟩)
        dsimp only [Pt.U, Pt.locs, Pt.cells, Pt.slots] at X65 l65 y65 z65 st65 hQ65
        subst l65 y65 z65
        obtain ⟨r65, rfl, hr65, N65q, p65_0, p65_1, p65_2⟩ := hQ65
        have N65 := Fr.app N63 N65q
        have z66 : n0 ≤ T65.heap.size := Nat.le_trans z64 p65_0.1
        have hn4 : (p4 &&& (3 : Int32)) = (3 : Int32) := own_is (n := 3) _ rfl (by have h4 := own_n p4; have := hc41_7; have := hc53_24; have := hc65_40; simp only [Int32.lt_iff_toInt_lt] at *; have e1 : (1 : Int32).toInt = 1 := rfl; have e2 : (2 : Int32).toInt = 2 := rfl; have e3 : (3 : Int32).toInt = 3 := rfl; omega)
        obtain ⟨fs, hr, hrun, hended, hW, hsame⟩ := X65.leave (v := some (.int (1 : Int32))) (fun h => by rw [Bd.returns] at h; cases h)
        refine ⟨_, _, ?_, hrun, hended, _, _, rfl, ?_, ⟨_, rfl⟩, hW, hsame.mono (by decide) (by decide)⟩
        · show Steps p.tables e below (T38.setTop (mkF m 65 #[.val (.long q1), .second, .val (.long q2), .second, .val (.long q3), .second, .val (.int p4), .val (.long (q2 &&& (4611686018427387903 : Int64))), .second, .val (.long (q3 &&& (4611686018427387903 : Int64))), .second, .val (.int (p4 &&& (3 : Int32))), .val (.ref b1), .unset, .unset, .unset, .unset, .unset] [(.int (3 : Int32)), (.int (p4 &&& (3 : Int32)))])) _
          refine XS.icmpNo X38.here hx rfl (hb hby at_65) rfl ((flt hc65_40).1) ?_
          show Steps p.tables e below (T38.setTop (mkF m 68 #[.val (.long q1), .second, .val (.long q2), .second, .val (.long q3), .second, .val (.int p4), .val (.long (q2 &&& (4611686018427387903 : Int64))), .second, .val (.long (q3 &&& (4611686018427387903 : Int64))), .second, .val (.int (p4 &&& (3 : Int32))), .val (.ref b1), .unset, .unset, .unset, .unset, .unset] [])) _
          refine XS.aload X38.here hx rfl (hb hby at_68) rfl rfl ?_
          show Steps p.tables e below (T38.setTop (mkF m 70 #[.val (.long q1), .second, .val (.long q2), .second, .val (.long q3), .second, .val (.int p4), .val (.long (q2 &&& (4611686018427387903 : Int64))), .second, .val (.long (q3 &&& (4611686018427387903 : Int64))), .second, .val (.int (p4 &&& (3 : Int32))), .val (.ref b1), .unset, .unset, .unset, .unset, .unset] [(.ref b1)])) _
          refine st53.trans ?_
          show Steps p.tables e below (T53.setTop (mkF m 73 #[.val (.long q1), .second, .val (.long q2), .second, .val (.long q3), .second, .val (.int p4), .val (.long (q2 &&& (4611686018427387903 : Int64))), .second, .val (.long (q3 &&& (4611686018427387903 : Int64))), .second, .val (.int (p4 &&& (3 : Int32))), .val (.ref b1), .unset, .unset, .unset, .unset, .unset] [(.long r53)])) _
          jvm_step X53.here [X53.here.top, hx, (hb hby at_73), Value.category]
          show Steps p.tables e below (T53.setTop (mkF m 74 #[.val (.long q1), .second, .val (.long q2), .second, .val (.long q3), .second, .val (.int p4), .val (.long (q2 &&& (4611686018427387903 : Int64))), .second, .val (.long (q3 &&& (4611686018427387903 : Int64))), .second, .val (.int (p4 &&& (3 : Int32))), .val (.ref b1), .unset, .unset, .unset, .unset, .unset] [])) _
          refine XS.aload X53.here hx rfl (hb hby at_74) rfl rfl ?_
          show Steps p.tables e below (T53.setTop (mkF m 76 #[.val (.long q1), .second, .val (.long q2), .second, .val (.long q3), .second, .val (.int p4), .val (.long (q2 &&& (4611686018427387903 : Int64))), .second, .val (.long (q3 &&& (4611686018427387903 : Int64))), .second, .val (.int (p4 &&& (3 : Int32))), .val (.ref b1), .unset, .unset, .unset, .unset, .unset] [(.ref b1)])) _
          refine XS.lload X53.here hx rfl (hb hby at_76) rfl ?_
          show Steps p.tables e below (T53.setTop (mkF m 78 #[.val (.long q1), .second, .val (.long q2), .second, .val (.long q3), .second, .val (.int p4), .val (.long (q2 &&& (4611686018427387903 : Int64))), .second, .val (.long (q3 &&& (4611686018427387903 : Int64))), .second, .val (.int (p4 &&& (3 : Int32))), .val (.ref b1), .unset, .unset, .unset, .unset, .unset] [(.long (q3 &&& (4611686018427387903 : Int64))), (.ref b1)])) _
          refine st55.trans ?_
          show Steps p.tables e below (T55.setTop (mkF m 81 #[.val (.long q1), .second, .val (.long q2), .second, .val (.long q3), .second, .val (.int p4), .val (.long (q2 &&& (4611686018427387903 : Int64))), .second, .val (.long (q3 &&& (4611686018427387903 : Int64))), .second, .val (.int (p4 &&& (3 : Int32))), .val (.ref b1), .unset, .unset, .unset, .unset, .unset] [])) _
          refine XS.aload X55.here hx rfl (hb hby at_81) rfl rfl ?_
          show Steps p.tables e below (T55.setTop (mkF m 83 #[.val (.long q1), .second, .val (.long q2), .second, .val (.long q3), .second, .val (.int p4), .val (.long (q2 &&& (4611686018427387903 : Int64))), .second, .val (.long (q3 &&& (4611686018427387903 : Int64))), .second, .val (.int (p4 &&& (3 : Int32))), .val (.ref b1), .unset, .unset, .unset, .unset, .unset] [(.ref b1)])) _
          refine st57.trans ?_
          show Steps p.tables e below (T57.setTop (mkF m 86 #[.val (.long q1), .second, .val (.long q2), .second, .val (.long q3), .second, .val (.int p4), .val (.long (q2 &&& (4611686018427387903 : Int64))), .second, .val (.long (q3 &&& (4611686018427387903 : Int64))), .second, .val (.int (p4 &&& (3 : Int32))), .val (.ref b1), .unset, .unset, .unset, .unset, .unset] [(.long r57)])) _
          refine XS.lstore X57.here hx rfl (hb hby at_86) rfl (l' := #[.val (.long q1), .second, .val (.long q2), .second, .val (.long q3), .second, .val (.int p4), .val (.long (q2 &&& (4611686018427387903 : Int64))), .second, .val (.long (q3 &&& (4611686018427387903 : Int64))), .second, .val (.int (p4 &&& (3 : Int32))), .val (.ref b1), .val (.long r57), .second, .unset, .unset, .unset]) rfl ?_
          show Steps p.tables e below (T57.setTop (mkF m 88 #[.val (.long q1), .second, .val (.long q2), .second, .val (.long q3), .second, .val (.int p4), .val (.long (q2 &&& (4611686018427387903 : Int64))), .second, .val (.long (q3 &&& (4611686018427387903 : Int64))), .second, .val (.int (p4 &&& (3 : Int32))), .val (.ref b1), .val (.long r57), .second, .unset, .unset, .unset] [])) _
          refine st59 _ ?_
          show Steps p.tables e below (T59.setTop (mkF m 91 #[.val (.long q1), .second, .val (.long q2), .second, .val (.long q3), .second, .val (.int p4), .val (.long (q2 &&& (4611686018427387903 : Int64))), .second, .val (.long (q3 &&& (4611686018427387903 : Int64))), .second, .val (.int (p4 &&& (3 : Int32))), .val (.ref b1), .val (.long r57), .second, .unset, .unset, .unset] [(.ref b59)])) _
          refine XS.dup X59.here hx rfl (hb hby at_91) rfl rfl ?_
          show Steps p.tables e below (T59.setTop (mkF m 92 #[.val (.long q1), .second, .val (.long q2), .second, .val (.long q3), .second, .val (.int p4), .val (.long (q2 &&& (4611686018427387903 : Int64))), .second, .val (.long (q3 &&& (4611686018427387903 : Int64))), .second, .val (.int (p4 &&& (3 : Int32))), .val (.ref b1), .val (.long r57), .second, .unset, .unset, .unset] [(.ref b59), (.ref b59)])) _
          refine XS.lloadN X59.here hx rfl (hb hby at_92) rfl ?_
          show Steps p.tables e below (T59.setTop (mkF m 93 #[.val (.long q1), .second, .val (.long q2), .second, .val (.long q3), .second, .val (.int p4), .val (.long (q2 &&& (4611686018427387903 : Int64))), .second, .val (.long (q3 &&& (4611686018427387903 : Int64))), .second, .val (.int (p4 &&& (3 : Int32))), .val (.ref b1), .val (.long r57), .second, .unset, .unset, .unset] [(.long q1), (.ref b59), (.ref b59)])) _
          refine st61.trans ?_
          show Steps p.tables e below (T61.setTop (mkF m 96 #[.val (.long q1), .second, .val (.long q2), .second, .val (.long q3), .second, .val (.int p4), .val (.long (q2 &&& (4611686018427387903 : Int64))), .second, .val (.long (q3 &&& (4611686018427387903 : Int64))), .second, .val (.int (p4 &&& (3 : Int32))), .val (.ref b1), .val (.long r57), .second, .unset, .unset, .unset] [(.ref b59)])) _
          refine XS.astore X61.here hx rfl (hb hby at_96) rfl rfl (l' := #[.val (.long q1), .second, .val (.long q2), .second, .val (.long q3), .second, .val (.int p4), .val (.long (q2 &&& (4611686018427387903 : Int64))), .second, .val (.long (q3 &&& (4611686018427387903 : Int64))), .second, .val (.int (p4 &&& (3 : Int32))), .val (.ref b1), .val (.long r57), .second, .val (.ref b59), .unset, .unset]) rfl ?_
          show Steps p.tables e below (T61.setTop (mkF m 98 #[.val (.long q1), .second, .val (.long q2), .second, .val (.long q3), .second, .val (.int p4), .val (.long (q2 &&& (4611686018427387903 : Int64))), .second, .val (.long (q3 &&& (4611686018427387903 : Int64))), .second, .val (.int (p4 &&& (3 : Int32))), .val (.ref b1), .val (.long r57), .second, .val (.ref b59), .unset, .unset] [])) _
          refine XS.aload X61.here hx rfl (hb hby at_98) rfl rfl ?_
          show Steps p.tables e below (T61.setTop (mkF m 100 #[.val (.long q1), .second, .val (.long q2), .second, .val (.long q3), .second, .val (.int p4), .val (.long (q2 &&& (4611686018427387903 : Int64))), .second, .val (.long (q3 &&& (4611686018427387903 : Int64))), .second, .val (.int (p4 &&& (3 : Int32))), .val (.ref b1), .val (.long r57), .second, .val (.ref b59), .unset, .unset] [(.ref b59)])) _
          refine XS.lload X61.here hx rfl (hb hby at_100) rfl ?_
          show Steps p.tables e below (T61.setTop (mkF m 102 #[.val (.long q1), .second, .val (.long q2), .second, .val (.long q3), .second, .val (.int p4), .val (.long (q2 &&& (4611686018427387903 : Int64))), .second, .val (.long (q3 &&& (4611686018427387903 : Int64))), .second, .val (.int (p4 &&& (3 : Int32))), .val (.ref b1), .val (.long r57), .second, .val (.ref b59), .unset, .unset] [(.long (q2 &&& (4611686018427387903 : Int64))), (.ref b59)])) _
          refine XS.iload X61.here hx rfl (hb hby at_102) rfl ?_
          show Steps p.tables e below (T61.setTop (mkF m 104 #[.val (.long q1), .second, .val (.long q2), .second, .val (.long q3), .second, .val (.int p4), .val (.long (q2 &&& (4611686018427387903 : Int64))), .second, .val (.long (q3 &&& (4611686018427387903 : Int64))), .second, .val (.int (p4 &&& (3 : Int32))), .val (.ref b1), .val (.long r57), .second, .val (.ref b59), .unset, .unset] [(.int (p4 &&& (3 : Int32))), (.long (q2 &&& (4611686018427387903 : Int64))), (.ref b59)])) _
          refine XS.i2l X61.here hx rfl (hb hby at_104) rfl ?_
          show Steps p.tables e below (T61.setTop (mkF m 105 #[.val (.long q1), .second, .val (.long q2), .second, .val (.long q3), .second, .val (.int p4), .val (.long (q2 &&& (4611686018427387903 : Int64))), .second, .val (.long (q3 &&& (4611686018427387903 : Int64))), .second, .val (.int (p4 &&& (3 : Int32))), .val (.ref b1), .val (.long r57), .second, .val (.ref b59), .unset, .unset] [(.long (((p4 &&& (3 : Int32))).toInt64)), (.long (q2 &&& (4611686018427387903 : Int64))), (.ref b59)])) _
          refine XS.ladd X61.here hx rfl (hb hby at_105) rfl ?_
          show Steps p.tables e below (T61.setTop (mkF m 106 #[.val (.long q1), .second, .val (.long q2), .second, .val (.long q3), .second, .val (.int p4), .val (.long (q2 &&& (4611686018427387903 : Int64))), .second, .val (.long (q3 &&& (4611686018427387903 : Int64))), .second, .val (.int (p4 &&& (3 : Int32))), .val (.ref b1), .val (.long r57), .second, .val (.ref b59), .unset, .unset] [(.long ((q2 &&& (4611686018427387903 : Int64)) + (((p4 &&& (3 : Int32))).toInt64))), (.ref b59)])) _
          refine XS.lload X61.here hx rfl (hb hby at_106) rfl ?_
          show Steps p.tables e below (T61.setTop (mkF m 108 #[.val (.long q1), .second, .val (.long q2), .second, .val (.long q3), .second, .val (.int p4), .val (.long (q2 &&& (4611686018427387903 : Int64))), .second, .val (.long (q3 &&& (4611686018427387903 : Int64))), .second, .val (.int (p4 &&& (3 : Int32))), .val (.ref b1), .val (.long r57), .second, .val (.ref b59), .unset, .unset] [(.long (q3 &&& (4611686018427387903 : Int64))), (.long ((q2 &&& (4611686018427387903 : Int64)) + (((p4 &&& (3 : Int32))).toInt64))), (.ref b59)])) _
          refine XS.ladd X61.here hx rfl (hb hby at_108) rfl ?_
          show Steps p.tables e below (T61.setTop (mkF m 109 #[.val (.long q1), .second, .val (.long q2), .second, .val (.long q3), .second, .val (.int p4), .val (.long (q2 &&& (4611686018427387903 : Int64))), .second, .val (.long (q3 &&& (4611686018427387903 : Int64))), .second, .val (.int (p4 &&& (3 : Int32))), .val (.ref b1), .val (.long r57), .second, .val (.ref b59), .unset, .unset] [(.long (((q2 &&& (4611686018427387903 : Int64)) + (((p4 &&& (3 : Int32))).toInt64)) + (q3 &&& (4611686018427387903 : Int64)))), (.ref b59)])) _
          refine st63.trans ?_
          show Steps p.tables e below (T63.setTop (mkF m 112 #[.val (.long q1), .second, .val (.long q2), .second, .val (.long q3), .second, .val (.int p4), .val (.long (q2 &&& (4611686018427387903 : Int64))), .second, .val (.long (q3 &&& (4611686018427387903 : Int64))), .second, .val (.int (p4 &&& (3 : Int32))), .val (.ref b1), .val (.long r57), .second, .val (.ref b59), .unset, .unset] [])) _
          refine XS.aload X63.here hx rfl (hb hby at_112) rfl rfl ?_
          show Steps p.tables e below (T63.setTop (mkF m 114 #[.val (.long q1), .second, .val (.long q2), .second, .val (.long q3), .second, .val (.int p4), .val (.long (q2 &&& (4611686018427387903 : Int64))), .second, .val (.long (q3 &&& (4611686018427387903 : Int64))), .second, .val (.int (p4 &&& (3 : Int32))), .val (.ref b1), .val (.long r57), .second, .val (.ref b59), .unset, .unset] [(.ref b59)])) _
          refine st65.trans ?_
          show Steps p.tables e below (T65.setTop (mkF m 117 #[.val (.long q1), .second, .val (.long q2), .second, .val (.long q3), .second, .val (.int p4), .val (.long (q2 &&& (4611686018427387903 : Int64))), .second, .val (.long (q3 &&& (4611686018427387903 : Int64))), .second, .val (.int (p4 &&& (3 : Int32))), .val (.ref b1), .val (.long r57), .second, .val (.ref b59), .unset, .unset] [(.long r65)])) _
          refine XS.lstore X65.here hx rfl (hb hby at_117) rfl (l' := #[.val (.long q1), .second, .val (.long q2), .second, .val (.long q3), .second, .val (.int p4), .val (.long (q2 &&& (4611686018427387903 : Int64))), .second, .val (.long (q3 &&& (4611686018427387903 : Int64))), .second, .val (.int (p4 &&& (3 : Int32))), .val (.ref b1), .val (.long r57), .second, .val (.ref b59), .val (.long r65), .second]) rfl ?_
          show Steps p.tables e below (T65.setTop (mkF m 119 #[.val (.long q1), .second, .val (.long q2), .second, .val (.long q3), .second, .val (.int p4), .val (.long (q2 &&& (4611686018427387903 : Int64))), .second, .val (.long (q3 &&& (4611686018427387903 : Int64))), .second, .val (.int (p4 &&& (3 : Int32))), .val (.ref b1), .val (.long r57), .second, .val (.ref b59), .val (.long r65), .second] [])) _
          refine XS.lload X65.here hx rfl (hb hby at_119) rfl ?_
          show Steps p.tables e below (T65.setTop (mkF m 121 #[.val (.long q1), .second, .val (.long q2), .second, .val (.long q3), .second, .val (.int p4), .val (.long (q2 &&& (4611686018427387903 : Int64))), .second, .val (.long (q3 &&& (4611686018427387903 : Int64))), .second, .val (.int (p4 &&& (3 : Int32))), .val (.ref b1), .val (.long r57), .second, .val (.ref b59), .val (.long r65), .second] [(.long r57)])) _
          refine XS.lload X65.here hx rfl (hb hby at_121) rfl ?_
          show Steps p.tables e below (T65.setTop (mkF m 123 #[.val (.long q1), .second, .val (.long q2), .second, .val (.long q3), .second, .val (.int p4), .val (.long (q2 &&& (4611686018427387903 : Int64))), .second, .val (.long (q3 &&& (4611686018427387903 : Int64))), .second, .val (.int (p4 &&& (3 : Int32))), .val (.ref b1), .val (.long r57), .second, .val (.ref b59), .val (.long r65), .second] [(.long r65), (.long r57)])) _
          refine XS.lcmp X65.here hx rfl (hb hby at_123) rfl ?_
          show Steps p.tables e below (T65.setTop (mkF m 124 #[.val (.long q1), .second, .val (.long q2), .second, .val (.long q3), .second, .val (.int p4), .val (.long (q2 &&& (4611686018427387903 : Int64))), .second, .val (.long (q3 &&& (4611686018427387903 : Int64))), .second, .val (.int (p4 &&& (3 : Int32))), .val (.ref b1), .val (.long r57), .second, .val (.ref b59), .val (.long r65), .second] [(.int (lcmpW r57 r65))])) _
          refine XS.ifNo X65.here hx rfl (hb hby at_124) rfl ((if0 _ _).trans (teq ((lw_eq r57 r65).mpr (by rw [hr57, hr65, hn4, own_s3] : r57 = r65))).2) ?_
          show Steps p.tables e below (T65.setTop (mkF m 127 #[.val (.long q1), .second, .val (.long q2), .second, .val (.long q3), .second, .val (.int p4), .val (.long (q2 &&& (4611686018427387903 : Int64))), .second, .val (.long (q3 &&& (4611686018427387903 : Int64))), .second, .val (.int (p4 &&& (3 : Int32))), .val (.ref b1), .val (.long r57), .second, .val (.ref b59), .val (.long r65), .second] [])) _
          refine XS.iconst X65.here hx rfl (hb hby at_127) ?_
          show Steps p.tables e below (T65.setTop (mkF m 128 #[.val (.long q1), .second, .val (.long q2), .second, .val (.long q3), .second, .val (.int p4), .val (.long (q2 &&& (4611686018427387903 : Int64))), .second, .val (.long (q3 &&& (4611686018427387903 : Int64))), .second, .val (.int (p4 &&& (3 : Int32))), .val (.ref b1), .val (.long r57), .second, .val (.ref b59), .val (.long r65), .second] [(.int (1 : Int32))])) _
          refine XS.goto X65.here hx rfl (pc0 := 128) (pc' := 132) rfl (hb hby at_128) (by decide) (by decide) ?_
          show Steps p.tables e below (T65.setTop (mkF m 132 #[.val (.long q1), .second, .val (.long q2), .second, .val (.long q3), .second, .val (.int p4), .val (.long (q2 &&& (4611686018427387903 : Int64))), .second, .val (.long (q3 &&& (4611686018427387903 : Int64))), .second, .val (.int (p4 &&& (3 : Int32))), .val (.ref b1), .val (.long r57), .second, .val (.ref b59), .val (.long r65), .second] [(.int (1 : Int32))])) _
          exact retN X65 hx (t := .boolean) Bd.returns (by simp) (hb hby at_132) hr
        · exact ⟨rfl, N65⟩
set_option maxRecDepth 65536 in
set_option maxHeartbeats 40000000 in
theorem comes_1 {Post : Tables → Env → Array Value → State → Outcome → State → Prop} (hpost : ∀ tb e args s v u, (limb_1_1.after args s (.returned v) u = true ∧ limb_1_2.after args s (.returned v) u = true ∧ True) → FrameEnd s (.returned v) u (Jvm.fieldLocs frame_1_writes args s ++ Jvm.arrayLocs frame_1_arrays args s ++ Jvm.staticLocs frame_1_statics s) 16 128 → Post tb e args s (.returned v) u) :
    ArmFor flags0 classFile x code maxLocals ret World_1 tables_1 room_1 Calls_1 rest_1 Pre_1 Post := by
  intro l hfl _ _ p e ha hc hk s m args below hf hA hF happ hP
  obtain ⟨hcalls, hrest, hpre⟩ := hP
  obtain ⟨-, -, -, hnamed, -, -, -, hat⟩ := (Spec.applies_iff hf).mp happ
  obtain ⟨hg, hn⟩ := and_e (Cond.before_iff.mp (show (Jvm.Cond.and given_1 narrow_1).before args s = true from hpre))
  obtain ⟨g1, g2⟩ := and_e hg
  obtain ⟨g3, g4⟩ := and_e g2
  obtain ⟨g5, g6⟩ := and_e g4
  obtain ⟨g7, g8⟩ := and_e g6
  obtain ⟨w0, w1, w2, w3, rfl⟩ : ∃ w0 w1 w2 w3 : Value, args = #[w0, w1, w2, w3] := by
    have hs : args.size = 4 := by simpa [Cond.value, given_1] using g1
    obtain ⟨L⟩ := args
    match L, hs with
    | [w0, w1, w2, w3], _ => exact ⟨w0, w1, w2, w3, rfl⟩
  have hw := fun d (hd : d ∈ tables_1) => atoms_spec (ws := Jvm.Cond.code x code maxLocals ret :: tables_1) hat d (List.mem_cons_of_mem _ hd)
  have hfit : Fit s := fun {y c} hc i hi => by
    obtain ⟨ha, rfl⟩ := Array.getElem?_eq_some_iff.mp hc
    have q := List.all_eq_true.mp ((Array.all_eq_true_iff_forall_mem.mp hF) _ (Array.getElem_mem ha)) i (List.mem_range.mpr hi)
    simpa [Array.getElem?_eq_getElem hi] using q
  obtain ⟨i0, ei0⟩ := isL_v g3
  obtain rfl : w0 = (.long i0) := Option.some.inj ei0
  obtain ⟨i1, ei1⟩ := isL_v g5
  obtain rfl : w1 = (.long i1) := Option.some.inj ei1
  obtain ⟨i2, ei2⟩ := isL_v g7
  obtain rfl : w2 = (.long i2) := Option.some.inj ei2
  obtain ⟨i3, ei3⟩ := is_v g8
  obtain rfl : w3 = (.int i3) := Option.some.inj ei3
  obtain ⟨n, o, h1, h2, h3, _, L, rfl, ⟨rfl, N⟩, hq⟩ := rm0 l s _ hw tables_1 i0 i1 i2 i3  s.heap s.heap.size (Nat.le_refl _)  p e ha hc hk s m _ below hf ((Spec.applies_iff_loose hf).mp happ).1 ⟨rfl, State.Warmed39.refl s, rfl⟩ trivial
  refine ⟨n, _, h1, h2, h3, hpost _ _ _ _ _ _ ⟨Cond.after_iff.mpr rfl, Cond.after_iff.mpr (eq_i res_at (Term.int_eval (1)) rfl), trivial⟩ ⟨hq.1, hq.2.1, (hq.2.2.sift fun y hy => Or.inr (N y hy)).mono (by decide) (by decide)⟩⟩
theorem main_1_1 : Claimed_1_1 := comes_1 fun _ _ _ _ _ _ h hF => ⟨h.1, hF⟩
theorem main_1_2 : Claimed_1_2 := comes_1 fun _ _ _ _ _ _ h hF => ⟨h.2.1, hF⟩
end Jvm.Pilot.@@N@@
namespace Jvm.Pilot.@@N@@
open Jvm Jvm.ClassFile Sem Op Lib Jvm.Free Jvm.Stand Jvm.Pilot.@@N@@.Jvm.D
/-! MADE BY PROGRAM (witnessworld.py) out of the Statement's table words and the real class files: 9 classes; the members and pool entries that the words name. The judged class is class 1, her method 1. -/
namespace start1
open Jvm.ClassFile
def u (s : String) : CpInfo := .utf8 (stringToUtf16 s)
/-- a pool by its gaps: so many unusable entries, then the entry; so many at the end -/
def gap : Nat → List CpInfo → List CpInfo
  | 0, r => r
  | n + 1, r => .unusable :: gap n r
def poolList (es : List (Nat × CpInfo)) (last : Nat) : List CpInfo := es.foldr (fun e r => gap e.1 (e.2 :: r)) (gap last [])
def pool (es : List (Nat × CpInfo)) (last : Nat) : Array CpInfo := ⟨poolList es last⟩
def fileOf (pool : Array CpInfo) (this : Nat) (attrs : Array Attribute := #[]) (ms : Array MethodInfo := #[]) (fl : Nat := 33) (sup : Nat := 0) (ifs : Array Nat := #[]) (fds : Array FieldInfo := #[]) : ClassFile where
  minorVersion := 0
  majorVersion := 65
  constantPool := pool
  accessFlags := fl
  thisClass := this
  superClass := sup
  interfaces := ifs
  fields := fds
  methods := ms
  attributes := attrs
def plain (name : String) (sup : Option ClassId) : Class where
  name := name
  kind := .ordinary
  loader := none
  accessFlags := 33
  super := sup
  interfaces := #[]
  cf := none
  fields := #[]
  methods := #[]
  instanceTypes := #[]
  staticTypes := #[]
  resolved := #[]
  callSites := []
  init := .initialized
  statics := none
  mirror := none

def pool0 : Array CpInfo := pool [(5, u "<init>"), (0, u "()V"), (1, .class_ 10), (1, u "java/lang/Object")] 113

def k0c0 : Code := { maxStack := 0, maxLocals := 1, code := object_method_1_code, exceptionTable := #[], attributes := #[] }
def k0m0 : Method := { name := "<init>", desc := "()V", sig := { parameters := [], returnType := none }, accessFlags := 1, code := some k0c0 }
/-- java/lang/Object -/
def k0 : Class := { plain "java/lang/Object" none with
  accessFlags := 33
  interfaces := #[]
  cf := some (fileOf pool0 8 #[] #[{ accessFlags := 1, nameIndex := 5, descriptorIndex := 6, attributes := #[] }] 33 0 #[] #[])
  fields := #[]
  methods := #[k0m0]
  instanceTypes := #[]
  staticTypes := #[]
  resolved := Array.replicate 124 none
  statics := none }

def pool1 : Array CpInfo := pool [(2, .class_ 4), (1, u "java/lang/Object"), (0, u "<init>"), (0, u "()V"), (0, .long 4611686018427387903), (1, .class_ 10), (0, u "com/example/pipstill/pipstill/Dice"), (0, .methodref 9 12), (0, .nameAndType 5 13), (0, u "(J)V"), (0, .methodref 9 15), (0, .nameAndType 16 13), (0, u "skip"), (0, .methodref 9 18), (0, .nameAndType 19 20), (0, u "nextLong"), (0, u "()J"), (0, .class_ 22), (0, u "com/example/pipstill/pipstill/DiceSkipPinLaw"), (2, u "law"), (0, u "(JJJI)Z")] 3

def k1m0 : Method := { name := "<init>", desc := "()V", sig := { parameters := [], returnType := none }, accessFlags := 2, code := none }
def k1c1 : Code := { maxStack := 5, maxLocals := 18, code := code, exceptionTable := #[], attributes := #[] }
def k1m1 : Method := { name := "law", desc := "(JJJI)Z", sig := { parameters := [.long, .long, .long, .int], returnType := some .boolean }, accessFlags := 9, code := some k1c1 }
/-- com/example/pipstill/pipstill/DiceSkipPinLaw -/
def k1 : Class := { plain "com/example/pipstill/pipstill/DiceSkipPinLaw" (some 0) with
  accessFlags := 49
  interfaces := #[]
  cf := some (fileOf pool1 21 #[] #[{ accessFlags := 2, nameIndex := 5, descriptorIndex := 6, attributes := #[] }, { accessFlags := 9, nameIndex := 25, descriptorIndex := 26, attributes := #[] }] 49 2 #[] #[])
  fields := #[]
  methods := #[k1m0, k1m1]
  instanceTypes := #[]
  staticTypes := #[]
  resolved := Array.replicate 30 none
  statics := none }

def pool2 : Array CpInfo := pool [(1, .methodref 2 3), (0, .class_ 4), (0, .nameAndType 5 6), (0, u "java/lang/Object"), (0, u "<init>"), (0, u "()V"), (0, .fieldref 8 9), (0, .class_ 10), (0, .nameAndType 11 12), (0, u "com/example/pipstill/pipstill/Dice"), (0, u "state"), (0, u "J"), (0, .long 11400714819323198485), (1, .long 13787848793156543929), (1, .long 10723151780598845931), (3, u "nextLong"), (0, u "()J"), (0, u "FACES"), (0, u "I"), (2, u "GOLDEN_GAMMA"), (0, u "(J)V"), (2, u "skip")] 5

def k2c0 : Code := { maxStack := 3, maxLocals := 3, code := prog_4_method_1_code, exceptionTable := #[], attributes := #[] }
def k2m0 : Method := { name := "<init>", desc := "(J)V", sig := { parameters := [.long], returnType := none }, accessFlags := 1, code := some k2c0 }
def k2c1 : Code := { maxStack := 5, maxLocals := 3, code := prog_4_method_2_code, exceptionTable := #[], attributes := #[] }
def k2m1 : Method := { name := "nextLong", desc := "()J", sig := { parameters := [], returnType := some .long }, accessFlags := 1, code := some k2c1 }
def k2c2 : Code := { maxStack := 7, maxLocals := 3, code := prog_4_method_3_code, exceptionTable := #[], attributes := #[] }
def k2m2 : Method := { name := "skip", desc := "(J)V", sig := { parameters := [.long], returnType := none }, accessFlags := 0, code := some k2c2 }
/-- com/example/pipstill/pipstill/Dice -/
def k2 : Class := { plain "com/example/pipstill/pipstill/Dice" (some 0) with
  accessFlags := 49
  interfaces := #[]
  cf := some (fileOf pool2 8 #[] #[{ accessFlags := 1, nameIndex := 5, descriptorIndex := 28, attributes := #[] }, { accessFlags := 1, nameIndex := 21, descriptorIndex := 22, attributes := #[] }, { accessFlags := 0, nameIndex := 31, descriptorIndex := 28, attributes := #[] }] 49 2 #[] #[{ accessFlags := 24, nameIndex := 23, descriptorIndex := 24, attributes := #[] }, { accessFlags := 26, nameIndex := 27, descriptorIndex := 12, attributes := #[] }, { accessFlags := 2, nameIndex := 11, descriptorIndex := 12, attributes := #[] }])
  fields := #[{ name := "FACES", type := .int, accessFlags := 24, slot := 0, constantValue := 0 }, { name := "GOLDEN_GAMMA", type := .long, accessFlags := 26, slot := 1, constantValue := 0 }, { name := "state", type := .long, accessFlags := 2, slot := 0, constantValue := 0 }]
  methods := #[k2m0, k2m1, k2m2]
  instanceTypes := #[.long]
  staticTypes := #[.int, .long]
  resolved := Array.replicate 37 none
  statics := none }

def pool3 : Array CpInfo := pool [(1, u "java/lang/Cloneable"), (0, .class_ 1), (0, u "java/lang/Object"), (0, .class_ 3)] 3

/-- java/lang/Cloneable -/
def k3 : Class := { plain "java/lang/Cloneable" (some 0) with
  accessFlags := 1537
  interfaces := #[]
  cf := some (fileOf pool3 2 #[] #[] 1537 4 #[] #[])
  fields := #[]
  methods := #[]
  instanceTypes := #[]
  staticTypes := #[]
  resolved := Array.replicate 8 none
  statics := none }

def pool4 : Array CpInfo := pool [(1, u "java/io/Serializable"), (0, .class_ 1), (0, u "java/lang/Object"), (0, .class_ 3)] 3

/-- java/io/Serializable -/
def k4 : Class := { plain "java/io/Serializable" (some 0) with
  accessFlags := 1537
  interfaces := #[]
  cf := some (fileOf pool4 2 #[] #[] 1537 4 #[] #[])
  fields := #[]
  methods := #[]
  instanceTypes := #[]
  staticTypes := #[]
  resolved := Array.replicate 8 none
  statics := none }

/-- the primitive byte -/
def k5 : Class := { plain "byte" none with kind := .primitive 'B', accessFlags := 0x411 }
/-- [B -/
def k6 : Class := { plain "[B" (some 0) with kind := .array 5 .byte, interfaces := #[3, 4], accessFlags := 1041 }

/-- the primitive int -/
def k7 : Class := { plain "int" none with kind := .primitive 'I', accessFlags := 0x411 }
/-- [I -/
def k8 : Class := { plain "[I" (some 0) with kind := .array 7 .int, interfaces := #[3, 4], accessFlags := 1041 }

def heap : Heap := #[]
def classes : Array Class := #[k0, k1, k2, k3, k4, k5, k6, k7, k8]
def interned : List (Array UInt16 × Addr) := []
def slotsUsed : Nat := 0
def theMethod : MethodId := ⟨1, 1⟩
def args0 : Array Value := #[.long 5, .long 6, .long 7, .int 3]
def aboutOver (below : List Frame) : State where
  vm := { classes := classes, interned := interned.toArray }
  heap := heap
  slotsUsed := slotsUsed
  threads := #[{ frames := .invoking theMethod args0 :: below }]
def below0 : List Frame := [.native { method := ⟨0, 0⟩, args := #[] }]
def about1 : State := aboutOver below0
def p0 : Program := .bare "" "" ""
def e0 : Env := launch0.env 0 0 0
theorem w_frames : about1.frames = Frame.invoking theMethod args0 :: below0 := rfl
set_option maxRecDepth 65536 in
theorem w_args : argsFit about1.vm theMethod args0 = true := by decide +kernel
set_option maxRecDepth 65536 in
theorem w_heap : heapFits about1 = true := by decide +kernel
set_option maxRecDepth 65536 in
theorem w_runnable : about1.curStatus? = some .runnable := by decide +kernel
set_option maxRecDepth 65536 in
theorem w_alone : about1.alone = true := by decide +kernel
set_option maxRecDepth 65536 in
theorem w_named : about1.methodNamed? x = some theMethod := by decide +kernel
set_option maxRecDepth 65536 in
theorem w_hears : about1.hears theMethod below0 = true := by decide +kernel
set_option maxRecDepth 65536 in
theorem w_ripe : about1.ripe theMethod args0 below0 = true := by decide +kernel
theorem w_running : about1.status = .running := rfl
set_option maxRecDepth 65536 in
theorem w_room : about1.hasRoom e0.platform room_1 = true :=
  launch0.hasRoom_least _ room_1 (by decide +kernel) (by decide +kernel) (by decide +kernel) (by decide +kernel) (by decide +kernel) (by decide +kernel)
theorem allAtoms_all (ts : List Jvm.Cond) (a : Array Jvm.Value) (st : Jvm.State) : (allAtoms ts).before a st = ts.all (fun c => c.before a st) := by
  induction ts with
  | nil => rfl
  | cons c t ih =>
    show (Jvm.Cond.and c (allAtoms t)).before a st = _
    rw [Jvm.Cond.before_and, ih, List.all_cons]
def words1 : List Jvm.Cond := Jvm.Cond.code x code maxLocals ret :: tables_1
/-- a 'code' word, met by the world's own term for the bytes: nothing is compared byte by byte -/
theorem code_word {y : MethodName} {bytes : ByteArray} {mx : Nat} {rt : Option FieldType} {a : Array Value} {s : State} {m : MethodId} {meth : Method} {c : Code} (h1 : s.methodNamed? y = some m) (h2 : s.vm.method? m = some meth) (h3 : meth.code = some c) (h4 : c.code = bytes)
    (h5 : (c.maxLocals == mx && c.exceptionTable.isEmpty && decide (c.maxStack ≤ mostOperands) && decide (meth.sig.returnType = rt) && !meth.locks && decide (parseMethodDescriptor y.desc = some meth.sig)) = true) : (Jvm.Cond.code y bytes mx rt).before a s = true := by
  simp only [Bool.and_eq_true, beq_iff_eq, Bool.not_eq_true', decide_eq_true_eq] at h5
  obtain ⟨⟨⟨⟨⟨g1, g2⟩, g3⟩, g4⟩, g5⟩, g6⟩ := h5
  simp [Cond.before, Cond.holds, Cond.value, h1, h2, h3, h4, g1, g2, g3, g4, g5, g6]
def isCode : Jvm.Cond → Bool
  | .code _ _ _ _ => true
  | _ => false
theorem all_split {L : List Jvm.Cond} {P : Jvm.Cond → Bool} (h1 : L.all (fun c => isCode c || P c) = true) (h2 : ∀ c ∈ L.filter isCode, P c = true) : L.all P = true := by
  refine List.all_eq_true.mpr fun c hc => ?_
  have h := List.all_eq_true.mp h1 c hc
  rcases Bool.eq_false_or_eq_true (isCode c) with hi | hi
  · exact h2 c (List.mem_filter.mpr ⟨hc, hi⟩)
  · simpa [hi] using h
set_option maxRecDepth 65536 in
theorem w_c0 : (Jvm.Cond.code x code maxLocals ret).before args0 about1 = true := code_word (m := ⟨1, 1⟩) (meth := k1m1) (c := k1c1) (by decide +kernel) rfl rfl rfl (by decide +kernel)
set_option maxRecDepth 65536 in
theorem w_c1 : (Jvm.Cond.code ({ cls := "com/example/pipstill/pipstill/Dice", name := "<init>", desc := "(J)V" } : Jvm.MethodName) prog_4_method_1_code (3 : Nat) (Option.none : Option Jvm.ClassFile.FieldType)).before args0 about1 = true := code_word (m := ⟨2, 0⟩) (meth := k2m0) (c := k2c0) (by decide +kernel) rfl rfl rfl (by decide +kernel)
set_option maxRecDepth 65536 in
theorem w_c2 : (Jvm.Cond.code ({ cls := "java/lang/Object", name := "<init>", desc := "()V" } : Jvm.MethodName) object_method_1_code (1 : Nat) (Option.none : Option Jvm.ClassFile.FieldType)).before args0 about1 = true := code_word (m := ⟨0, 0⟩) (meth := k0m0) (c := k0c0) (by decide +kernel) rfl rfl rfl (by decide +kernel)
set_option maxRecDepth 65536 in
theorem w_c3 : (Jvm.Cond.code ({ cls := "com/example/pipstill/pipstill/Dice", name := "skip", desc := "(J)V" } : Jvm.MethodName) prog_4_method_3_code (3 : Nat) (Option.none : Option Jvm.ClassFile.FieldType)).before args0 about1 = true := code_word (m := ⟨2, 2⟩) (meth := k2m2) (c := k2c2) (by decide +kernel) rfl rfl rfl (by decide +kernel)
set_option maxRecDepth 65536 in
theorem w_c4 : (Jvm.Cond.code ({ cls := "com/example/pipstill/pipstill/Dice", name := "nextLong", desc := "()J" } : Jvm.MethodName) prog_4_method_2_code (3 : Nat) (Option.some Jvm.ClassFile.FieldType.long)).before args0 about1 = true := code_word (m := ⟨2, 1⟩) (meth := k2m1) (c := k2c1) (by decide +kernel) rfl rfl rfl (by decide +kernel)
def codes1 : List Jvm.Cond := [Jvm.Cond.code x code maxLocals ret, Jvm.Cond.code ({ cls := "com/example/pipstill/pipstill/Dice", name := "<init>", desc := "(J)V" } : Jvm.MethodName) prog_4_method_1_code (3 : Nat) (Option.none : Option Jvm.ClassFile.FieldType), Jvm.Cond.code ({ cls := "java/lang/Object", name := "<init>", desc := "()V" } : Jvm.MethodName) object_method_1_code (1 : Nat) (Option.none : Option Jvm.ClassFile.FieldType), Jvm.Cond.code ({ cls := "com/example/pipstill/pipstill/Dice", name := "skip", desc := "(J)V" } : Jvm.MethodName) prog_4_method_3_code (3 : Nat) (Option.none : Option Jvm.ClassFile.FieldType), Jvm.Cond.code ({ cls := "com/example/pipstill/pipstill/Dice", name := "nextLong", desc := "()J" } : Jvm.MethodName) prog_4_method_2_code (3 : Nat) (Option.some Jvm.ClassFile.FieldType.long)]
set_option maxRecDepth 65536 in
theorem codes_eq : words1.filter isCode = codes1 := rfl
theorem w_codes : ∀ c ∈ words1.filter isCode, c.before args0 about1 = true := by
  rw [codes_eq]
  intro c hc
  simp only [codes1, List.mem_cons, List.not_mem_nil, or_false] at hc
  rcases hc with rfl | rfl | rfl | rfl | rfl
  · exact w_c0
  · exact w_c1
  · exact w_c2
  · exact w_c3
  · exact w_c4
set_option maxRecDepth 65536 in
theorem w_t1 : (words1.take 24).all (fun c => isCode c || c.before args0 about1) = true := by decide +kernel
set_option maxRecDepth 65536 in
theorem w_t2 : (words1.drop 24).all (fun c => isCode c || c.before args0 about1) = true := by decide +kernel
theorem w_tables : (allAtoms (Jvm.Cond.code x code maxLocals ret :: tables_1)).before args0 about1 = true := by
  rw [allAtoms_all]
  show words1.all (fun c => c.before args0 about1) = true
  refine all_split ?_ w_codes
  rw [← List.take_append_drop 24 words1, List.all_append, w_t1, w_t2]
  rfl
set_option maxRecDepth 65536 in
theorem w_case : (Jvm.Cond.and given_1 narrow_1).before args0 about1 = true := by decide +kernel
theorem w_applies : (headSpec (Jvm.Cond.code x code maxLocals ret :: tables_1) room_1).applies x e0.platform about1 = true :=
  (Spec.applies_iff w_frames).mpr ⟨w_running, w_runnable, w_alone, w_named, w_hears, w_ripe, w_room, w_tables⟩
theorem atStart : AtStart classFile x code maxLocals ret World_1 tables_1 room_1 Calls_1 rest_1 Pre_1 launch0 p0 e0 about1 theMethod args0 below0 :=
  ⟨lists_1, trivial, launch0.admits_env _ _ _, launch0.least_env, fairChoices_fair.cas, fairChoices_fair.clock, w_frames, w_args, w_heap, w_applies, trivial, trivial, w_case⟩
end start1
theorem witness_1 : WitnessClaimed_1 := ⟨start1.p0, start1.e0, start1.about1, start1.theMethod, start1.args0, start1.below0, start1.atStart⟩
end Jvm.Pilot.@@N@@
