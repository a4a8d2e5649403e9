import JvmDerived
import JvmDerived.Pilot.@@N@@Statement
import JvmDerived.Pilot.@@N@@Code
set_option linter.unusedVariables false
set_option linter.unusedSimpArgs false
namespace Jvm.RoadKit
open Sem ClassFile Op Lib Jvm.Stand Jvm.Free Jvm.LawKit
section New
variable {p : Program} {l : Launch} {e : Env} {R : Room} {s : State} {m : MethodId} {args : Array Value} {below : List Frame} {meth : Method} {c : Code} {T : State} {locs : List Loc} {cells slots : Nat}
theorem retI (X : Stand p l e R s m args below meth c T locs cells slots) (hx : p.tables.exec = Jvm.exec) {pc : Nat} {Ls : Array Slot} {z : Int32} {rest : List Value} (hret : meth.sig.returnType = some .int) (hd : decode c.code pc = .ok (.ireturn, 1)) {fs : List Frame}
    (hl : ∀ (f : JFrame) (acts : List Action), f.method = m → f.locked = none → f.entered = [] → (doReturn e (T.setTop f) acts (some (.int z))).1 = T.setFrames fs) : Steps p.tables e below (T.setTop (mkF m pc Ls (.int z :: rest))) (T.setFrames fs) := by
  have hm' : T.vm.method? m = some meth := X.method'
  have hn : narrow .int (.int z) = .int z := rfl
  show Steps p.tables e below (T.setTop { method := m, pc := pc, locals := Ls, stack := _ :: rest, locked := none }) _
  jvm_step X.here [X.here.top, hx, hd, hm', hret, hn]
  first | (intro acts; rw [hl _ acts rfl rfl rfl]) | rw [hl _ _ rfl rfl rfl]
  exact Steps.refl _
end New
end Jvm.RoadKit
namespace Jvm.Pilot.@@N@@
open Jvm Jvm.ClassFile Sem Op Lib Jvm.Free Jvm.Stand Jvm.LawKit Jvm.RoadKit Bundle Jvm.Pilot.@@N@@.Jvm.D
-- from the state st the run ends, and Q holds of what it leaves
def GoalS (tb : Tables) (e : Env) (below : List Frame) (s : State) (kc ks : Nat) (Q : Option Value → Heap → List Loc → Prop) (st : State) : Prop :=
  ∃ s₂ o, Steps tb e below st s₂ ∧ s₂.status = .running ∧ Ended s₂ below o ∧ ∃ v L, o = .returned v ∧ Q v s₂.heap L ∧ FrameEnd s o s₂ L kc ks
theorem GoalS.lift {tb : Tables} {e : Env} {below : List Frame} {s : State} {kc ks : Nat} {Q : Option Value → Heap → List Loc → Prop} {A B : State}
    (h : ∀ t, Steps tb e below B t → Steps tb e below A t) (g : GoalS tb e below s kc ks Q B) : GoalS tb e below s kc ks Q A := by
  obtain ⟨s₂, o, h1, h2⟩ := g
  exact ⟨s₂, o, h _ h1, h2⟩
-- an array of n places of which place i holds f i
def AV (Z : State) (h : Heap) (a : Addr) (k : ClassId) (ty : FieldType) (n : Nat) (f : Nat → Value) : Prop := ∃ c : Cell, Arr Z h a c ty ∧ c.cls = k ∧ c.slots.size = n ∧ n < 2147483648 ∧ ∀ i, i < n → c.slots[i]? = some (f i)
def updI (f : Nat → Int32) (j : Nat) (v : Int32) : Nat → Int32 := fun i => if i = j then v else f i
def updJ (f : Nat → Int64) (j : Nat) (v : Int64) : Nat → Int64 := fun i => if i = j then v else f i
def updR (f : Nat → Value) (j : Nat) (v : Value) : Nat → Value := fun i => if i = j then v else f i
section Own
variable {Z : State} {h h' : Heap} {a b : Addr} {k : ClassId} {ty : FieldType} {n : Nat} {f g : Nat → Value} {ws : List Addr} {v : Value} {sl : Nat}
theorem AV.lt (F : AV Z h a k ty n f) : a < h.size := by obtain ⟨c, A, -⟩ := F; exact A.lt
theorem AV.ext (F : AV Z h a k ty n f) (E : Ext h h') : AV Z h' a k ty n f := by obtain ⟨c, A, r⟩ := F; exact ⟨c, A.ext E, r⟩
theorem AV.other (F : AV Z h b k ty n f) (W : Wr h h' a sl v) (q : b ≠ a) : AV Z h' b k ty n f := by obtain ⟨c, A, r⟩ := F; exact ⟨c, A.other W q, r⟩
theorem AV.keep (F : AV Z h a k ty n f) (K : Keep h h' ws) (q : a ∉ ws) : AV Z h' a k ty n f := by obtain ⟨c, A, r⟩ := F; exact ⟨c, ⟨K.2.1 a c A.1 q, A.2⟩, r⟩
theorem AV.new {z : Int32} (A : Arr Z h a (newA k ty z) ty) (q : ¬ z < 0) (hn : z.toNatClampNeg = n) (hb : n < 2147483648) : AV Z h a k ty n (fun _ => defaultValue ty) :=
  ⟨_, A, rfl, (sz_new _ _ _).trans hn, hb, fun i hi => by simp [newA, hn, hi]⟩
theorem AV.inb {c : Cell} {j : Int32} (S : c.slots.size = n) (q : ¬ j < 0 ∧ j.toNatClampNeg < n) : ¬ (j < 0 ∨ c.slots.size ≤ j.toNatClampNeg) := fun u => u.elim q.1 fun w => by omega
theorem AV.inx {j : Int32} (q : ¬ j < 0 ∧ j.toNatClampNeg < n) : j.toNatClampNeg < n := q.2
theorem AV.conv (F : AV Z h a k ty n f) (e : ∀ i, i < n → f i = g i) : AV Z h a k ty n g := by
  obtain ⟨c, A, r1, r2, r3, r4⟩ := F; exact ⟨c, A, r1, r2, r3, fun i hi => (r4 i hi).trans (congrArg some (e i hi))⟩
theorem AV.putR {j : Nat} (F : AV Z h a k ty n f) (W : Wr h h' a j v) (hj : j < n) : AV Z h' a k ty n (updR f j v) := by
  obtain ⟨c, A, r1, r2, r3, r4⟩ := F
  refine ⟨_, A.same W, r1, (sz_set _ _ _).trans r2, r3, fun i hi => ?_⟩
  by_cases q : i = j
  · subst q; simp [Cell.setSlot, updR, r2, hi]
  · have q' : j ≠ i := fun u => q u.symm
    simp only [Cell.setSlot, updR, if_neg q]; rw [Array.getElem?_setIfInBounds_ne q']; exact r4 i hi
theorem AV.putI {j : Nat} {f : Nat → Int32} {v : Int32} (F : AV Z h a k ty n (fun i => Value.int (f i))) (W : Wr h h' a j (.int v)) (hj : j < n) : AV Z h' a k ty n (fun i => Value.int (updI f j v i)) :=
  (F.putR W hj).conv fun i _ => by simp only [updR, updI]; split <;> rfl
theorem AV.putJ {j : Nat} {f : Nat → Int64} {v : Int64} (F : AV Z h a k ty n (fun i => Value.long (f i))) (W : Wr h h' a j (.long v)) (hj : j < n) : AV Z h' a k ty n (fun i => Value.long (updJ f j v i)) :=
  (F.putR W hj).conv fun i _ => by simp only [updR, updJ]; split <;> rfl
end Own


theorem own_law {a b x y n m u : Int64} {d r : Int32} (hd : d = if (((((a ^^^ b) ||| (x ^^^ y)) ||| n) ||| m) ||| u) = (0 : Int64) then 1 else 0) (hr : r = if a = b then (if x = y then (if n = 0 then (if m = 0 then (if u = 0 then 1 else 0) else 0) else 0) else 0) else 0) : r = d := by
  rw [hr, hd]
  by_cases h1 : a = b <;> by_cases h2 : x = y <;> by_cases h3 : n = 0 <;> by_cases h4 : m = 0 <;> by_cases h5 : u = 0 <;> simp [h1, h2, h3, h4, h5]

theorem d2_0 : decode jdk_30_method_1_code 0 = .ok (.aload_n 0, 1) := by decide +kernel
theorem d2_1 : decode jdk_30_method_1_code 1 = .ok (.invokespecial 1, 3) := by decide +kernel
theorem d2_4 : decode jdk_30_method_1_code 4 = .ok (.return_, 1) := by decide +kernel
theorem pn_0 : plainName "java/lang/Record" = true := by first | (simp [plainName, overriddenIn]; done) | decide +kernel
theorem ef_rm2 (m : MethodId) (a1 : Addr) : entryFrame m #[(.ref a1)] 1 = mkF m 0 #[.val (.ref a1)] [] := by first | (simp [entryFrame, mkF, argsToLocals, Value.category]; done) | rfl
def Q2 (Z : State) (a1 : Addr) (h0 : Heap) (n0 : Nat) (v : Option Value) (h : Heap) (L : List Loc) : Prop := v = none ∧ Fr n0 L ∧ h = h0
set_option maxRecDepth 65536 in
set_option maxHeartbeats 40000000 in
theorem rm2 (l : Launch) (Z : State) (a0 : Array Value) (hw : ∀ d ∈ tables_1, d.before a0 Z = true) (ws : List Jvm.Cond) (a1 : Addr) (h0 : Heap) (n0 : Nat) (Z0 : n0 ≤ h0.size) :
    MetFree l (⟨"java/lang/Record", "<init>", "()V"⟩ : MethodName) (head1 (Jvm.Cond.code (⟨"java/lang/Record", "<init>", "()V"⟩ : MethodName) jdk_30_method_1_code 1 none :: ws) ({ frames := 1, cells := 0, slots := 0, locals := 12 } : Room)) (fun a U => a = #[(.ref a1)] ∧ Z.Warmed39 U.vm ∧ U.heap = h0) (fun _ _ _ _ _ => True) (fun _ U o U' => ∃ v L, o = .returned v ∧ Q2 Z a1 h0 n0 v U'.heap L ∧ FrameEnd U o U' L ({ frames := 1, cells := 0, slots := 0, locals := 12 } : Room).cells ({ frames := 1, cells := 0, slots := 0, locals := 12 } : Room).slots) := by
  refine MetFree.of_bodySF (plainFor_of_name pn_0) hisR ?_
  intro p e s m args below meth c s₁ Bd hml0 hP hK
  obtain ⟨rfl, hZ, hh⟩ := hP
  have hx := Bd.exec
  have hby := Bd.bytes
  have hml : c.maxLocals = 1 := hml0
  have hown : s.vm.findClass "java/lang/Record" = some m.cls := findClass_of_methodNamed Bd.named
  have hnm := (name_of_methodNamed Bd.named Bd.method).1
  have X0 : Stand p l e ({ frames := 1, cells := 0, slots := 0, locals := 12 } : Room) s m #[(.ref a1)] below meth c s₁ [] 0 0 := Stand.of_body Bd
  have e0 : s₁.heap = h0 := by rw [← hh, Bd.state]; rfl
  have N0 := Fr.nil n0
  show GoalS p.tables e below s ({ frames := 1, cells := 0, slots := 0, locals := 12 } : Room).cells ({ frames := 1, cells := 0, slots := 0, locals := 12 } : Room).slots (Q2 Z a1 h0 n0) (s₁.setTop (entryFrame m #[(.ref a1)] 1))
  refine GoalS.lift (B := s₁.setTop (mkF m 0 #[.val (.ref a1)] [])) (fun t k => castTop (ef_rm2 m a1) k) ?_
  have K0 : Keep h0 h0 [] := Keep.refl _ _
  obtain ⟨T1, X1, e1, st1⟩ := initO X0 hx hZ hown (hw _ (List.mem_of_getElem? (i := 15) rfl)) (hw _ (List.mem_of_getElem? (i := 16) rfl)) (hw _ (List.mem_of_getElem? (i := 17) rfl)) e0 (g := (mkF m 1 #[.val (.ref a1)] [(.ref a1)])) rfl (by rw [hml]; rfl) rfl (hb hby d2_1) (by decide) (W := 0) (by show 2 * 0 + _ ≤ _; exact Nat.le_of_eq rfl) (by decide)
  obtain ⟨fs, hr, hrun, hended, hW, hsame⟩ := X1.leave (v := none) (fun _ => rfl)
  refine ⟨_, _, ?_, hrun, hended, _, _, rfl, ?_, ⟨_, rfl⟩, hW, hsame.mono (by decide) (by decide)⟩
  · show Steps p.tables e below (s₁.setTop (mkF m 0 #[.val (.ref a1)] [])) _
    refine XS.aloadN X0.here hx rfl (hb hby d2_0) rfl rfl ?_
    show Steps p.tables e below (s₁.setTop (mkF m 1 #[.val (.ref a1)] [(.ref a1)])) _
    refine st1 _ ?_
    show Steps p.tables e below (T1.setTop (mkF m 4 #[.val (.ref a1)] [])) _
    exact X1.returnOut hx Bd.returns (hb hby d2_4) hr
  · show Q2 Z a1 h0 n0 _ T1.heap _
    exact ⟨rfl, N0, e1⟩
theorem d1_0 : decode prog_25_method_1_code 0 = .ok (.aload_n 0, 1) := by decide +kernel
theorem d1_1 : decode prog_25_method_1_code 1 = .ok (.invokespecial 1, 3) := by decide +kernel
theorem d1_4 : decode prog_25_method_1_code 4 = .ok (.aload_n 0, 1) := by decide +kernel
theorem d1_5 : decode prog_25_method_1_code 5 = .ok (.lload_n 1, 1) := by decide +kernel
theorem d1_6 : decode prog_25_method_1_code 6 = .ok (.putfield 7, 3) := by decide +kernel
theorem d1_9 : decode prog_25_method_1_code 9 = .ok (.aload_n 0, 1) := by decide +kernel
theorem d1_10 : decode prog_25_method_1_code 10 = .ok (.lload_n 3, 1) := by decide +kernel
theorem d1_11 : decode prog_25_method_1_code 11 = .ok (.putfield 13, 3) := by decide +kernel
theorem d1_14 : decode prog_25_method_1_code 14 = .ok (.aload_n 0, 1) := by decide +kernel
theorem d1_15 : decode prog_25_method_1_code 15 = .ok (.lload 5, 2) := by decide +kernel
theorem d1_17 : decode prog_25_method_1_code 17 = .ok (.putfield 16, 3) := by decide +kernel
theorem d1_20 : decode prog_25_method_1_code 20 = .ok (.aload_n 0, 1) := by decide +kernel
theorem d1_21 : decode prog_25_method_1_code 21 = .ok (.lload 7, 2) := by decide +kernel
theorem d1_23 : decode prog_25_method_1_code 23 = .ok (.putfield 19, 3) := by decide +kernel
theorem d1_26 : decode prog_25_method_1_code 26 = .ok (.aload_n 0, 1) := by decide +kernel
theorem d1_27 : decode prog_25_method_1_code 27 = .ok (.lload 9, 2) := by decide +kernel
theorem d1_29 : decode prog_25_method_1_code 29 = .ok (.putfield 22, 3) := by decide +kernel
theorem d1_32 : decode prog_25_method_1_code 32 = .ok (.aload_n 0, 1) := by decide +kernel
theorem d1_33 : decode prog_25_method_1_code 33 = .ok (.lload 11, 2) := by decide +kernel
theorem d1_35 : decode prog_25_method_1_code 35 = .ok (.putfield 25, 3) := by decide +kernel
theorem d1_38 : decode prog_25_method_1_code 38 = .ok (.aload_n 0, 1) := by decide +kernel
theorem d1_39 : decode prog_25_method_1_code 39 = .ok (.lload 13, 2) := by decide +kernel
theorem d1_41 : decode prog_25_method_1_code 41 = .ok (.putfield 28, 3) := by decide +kernel
theorem d1_44 : decode prog_25_method_1_code 44 = .ok (.return_, 1) := by decide +kernel
theorem pn_1 : plainName "com/example/rialto/rialto/core/Verification" = true := by first | (simp [plainName, overriddenIn]; done) | decide +kernel
theorem pd_0 : parseMethodDescriptor "()V" = some ⟨[], none⟩ := by decide +kernel
theorem ef_rm1 (m : MethodId) (a1 : Addr) (q2 : Int64) (q3 : Int64) (q4 : Int64) (q5 : Int64) (q6 : Int64) (q7 : Int64) (q8 : Int64) : entryFrame m #[(.ref a1), (.long q2), (.long q3), (.long q4), (.long q5), (.long q6), (.long q7), (.long q8)] 15 = mkF m 0 #[.val (.ref a1), .val (.long q2), .second, .val (.long q3), .second, .val (.long q4), .second, .val (.long q5), .second, .val (.long q6), .second, .val (.long q7), .second, .val (.long q8), .second] [] := by first | (simp [entryFrame, mkF, argsToLocals, Value.category]; done) | rfl
def Q1 (Z : State) (a1 : Addr) (q2 : Int64) (q3 : Int64) (q4 : Int64) (q5 : Int64) (q6 : Int64) (q7 : Int64) (q8 : Int64) (u_bankDeposit : Value) (u_withdrawableTotal : Value) (u_rechargeInTransit : Value) (u_inTransitAndUnavailableTotal : Value) (u_negativeBalances : Value) (u_mismatchedBalances : Value) (u_unbalancedPostings : Value) (h0 : Heap) (n0 : Nat) (v : Option Value) (h : Heap) (L : List Loc) : Prop := v = none ∧ Fr n0 L ∧ Keep h0 h [a1] ∧ (Exa Z h a1 "com/example/rialto/rialto/core/Verification") ∧ (Fld Z h a1 "com/example/rialto/rialto/core/Verification" "bankDeposit" "J" (.long q2)) ∧ (Fld Z h a1 "com/example/rialto/rialto/core/Verification" "withdrawableTotal" "J" (.long q3)) ∧ (Fld Z h a1 "com/example/rialto/rialto/core/Verification" "rechargeInTransit" "J" (.long q4)) ∧ (Fld Z h a1 "com/example/rialto/rialto/core/Verification" "inTransitAndUnavailableTotal" "J" (.long q5)) ∧ (Fld Z h a1 "com/example/rialto/rialto/core/Verification" "negativeBalances" "J" (.long q6)) ∧ (Fld Z h a1 "com/example/rialto/rialto/core/Verification" "mismatchedBalances" "J" (.long q7)) ∧ (Fld Z h a1 "com/example/rialto/rialto/core/Verification" "unbalancedPostings" "J" (.long q8))
set_option maxRecDepth 65536 in
set_option maxHeartbeats 40000000 in
theorem rm1 (l : Launch) (Z : State) (a0 : Array Value) (hw : ∀ d ∈ tables_1, d.before a0 Z = true) (ws : List Jvm.Cond) (a1 : Addr) (q2 : Int64) (q3 : Int64) (q4 : Int64) (q5 : Int64) (q6 : Int64) (q7 : Int64) (q8 : Int64) (u_bankDeposit : Value) (u_withdrawableTotal : Value) (u_rechargeInTransit : Value) (u_inTransitAndUnavailableTotal : Value) (u_negativeBalances : Value) (u_mismatchedBalances : Value) (u_unbalancedPostings : Value) (h0 : Heap) (n0 : Nat) (Z0 : n0 ≤ h0.size) (E_a1 : Exa Z h0 a1 "com/example/rialto/rialto/core/Verification") (g_a1 : n0 ≤ a1) (F_bankDeposit_a1 : Fld Z h0 a1 "com/example/rialto/rialto/core/Verification" "bankDeposit" "J" u_bankDeposit) (F_withdrawableTotal_a1 : Fld Z h0 a1 "com/example/rialto/rialto/core/Verification" "withdrawableTotal" "J" u_withdrawableTotal) (F_rechargeInTransit_a1 : Fld Z h0 a1 "com/example/rialto/rialto/core/Verification" "rechargeInTransit" "J" u_rechargeInTransit) (F_inTransitAndUnavailableTotal_a1 : Fld Z h0 a1 "com/example/rialto/rialto/core/Verification" "inTransitAndUnavailableTotal" "J" u_inTransitAndUnavailableTotal) (F_negativeBalances_a1 : Fld Z h0 a1 "com/example/rialto/rialto/core/Verification" "negativeBalances" "J" u_negativeBalances) (F_mismatchedBalances_a1 : Fld Z h0 a1 "com/example/rialto/rialto/core/Verification" "mismatchedBalances" "J" u_mismatchedBalances) (F_unbalancedPostings_a1 : Fld Z h0 a1 "com/example/rialto/rialto/core/Verification" "unbalancedPostings" "J" u_unbalancedPostings) :
    MetFree l (⟨"com/example/rialto/rialto/core/Verification", "<init>", "(JJJJJJJ)V"⟩ : MethodName) (head1 (Jvm.Cond.code (⟨"com/example/rialto/rialto/core/Verification", "<init>", "(JJJJJJJ)V"⟩ : MethodName) prog_25_method_1_code 15 none :: ws) ({ frames := 2, cells := 0, slots := 0, locals := 24 } : Room)) (fun a U => a = #[(.ref a1), (.long q2), (.long q3), (.long q4), (.long q5), (.long q6), (.long q7), (.long q8)] ∧ Z.Warmed39 U.vm ∧ U.heap = h0) (fun _ _ _ _ _ => True) (fun _ U o U' => ∃ v L, o = .returned v ∧ Q1 Z a1 q2 q3 q4 q5 q6 q7 q8 u_bankDeposit u_withdrawableTotal u_rechargeInTransit u_inTransitAndUnavailableTotal u_negativeBalances u_mismatchedBalances u_unbalancedPostings h0 n0 v U'.heap L ∧ FrameEnd U o U' L ({ frames := 2, cells := 0, slots := 0, locals := 24 } : Room).cells ({ frames := 2, cells := 0, slots := 0, locals := 24 } : Room).slots) := by
  refine MetFree.of_bodySF (plainFor_of_name pn_1) hisR ?_
  intro p e s m args below meth c s₁ Bd hml0 hP hK
  obtain ⟨rfl, hZ, hh⟩ := hP
  have hx := Bd.exec
  have hby := Bd.bytes
  have hml : c.maxLocals = 15 := hml0
  have hown : s.vm.findClass "com/example/rialto/rialto/core/Verification" = some m.cls := findClass_of_methodNamed Bd.named
  have hnm := (name_of_methodNamed Bd.named Bd.method).1
  have X0 : Stand p l e ({ frames := 2, cells := 0, slots := 0, locals := 24 } : Room) s m #[(.ref a1), (.long q2), (.long q3), (.long q4), (.long q5), (.long q6), (.long q7), (.long q8)] below meth c s₁ [] 0 0 := Stand.of_body Bd
  have e0 : s₁.heap = h0 := by rw [← hh, Bd.state]; rfl
  have N0 := Fr.nil n0
  show GoalS p.tables e below s ({ frames := 2, cells := 0, slots := 0, locals := 24 } : Room).cells ({ frames := 2, cells := 0, slots := 0, locals := 24 } : Room).slots (Q1 Z a1 q2 q3 q4 q5 q6 q7 q8 u_bankDeposit u_withdrawableTotal u_rechargeInTransit u_inTransitAndUnavailableTotal u_negativeBalances u_mismatchedBalances u_unbalancedPostings h0 n0) (s₁.setTop (entryFrame m #[(.ref a1), (.long q2), (.long q3), (.long q4), (.long q5), (.long q6), (.long q7), (.long q8)] 15))
  refine GoalS.lift (B := s₁.setTop (mkF m 0 #[.val (.ref a1), .val (.long q2), .second, .val (.long q3), .second, .val (.long q4), .second, .val (.long q5), .second, .val (.long q6), .second, .val (.long q7), .second, .val (.long q8), .second] [])) (fun t k => castTop (ef_rm1 m a1 q2 q3 q4 q5 q6 q7 q8) k) ?_
  have K0 : Keep h0 h0 [a1] := Keep.refl _ _
  obtain ⟨_, _, ⟨T1, L1, k1, n1⟩, -, X1, ⟨Lc1, hQ1, l1, y1, z1⟩, st1⟩ := X0.specialBack hx (y := (⟨"java/lang/Record", "<init>", "()V"⟩ : MethodName)) rfl hown (mvT hZ (hw _ (List.mem_of_getElem? (i := 10) rfl))) (mvT hZ (hw _ (List.mem_of_getElem? (i := 11) rfl))) (mvT hZ (hw _ (List.mem_of_getElem? (i := 14) rfl))) (by decide) (backOf (W := 0) (rm2 l Z a0 hw [] a1 h0 n0 Z0) hZ (hw _ (List.mem_of_getElem? (i := 14) rfl)) (hw _ (List.mem_of_getElem? (i := 13) rfl)) (by decide) (by decide)) (g := (mkF m 1 #[.val (.ref a1), .val (.long q2), .second, .val (.long q3), .second, .val (.long q4), .second, .val (.long q5), .second, .val (.long q6), .second, .val (.long q7), .second, .val (.long q8), .second] [(.ref a1)])) rfl (by rw [hml]; rfl) (Steps.refl _) (a := a1) (argsL := []) (rest := []) (lenOf pd_0 rfl) rfl (by show 2 * 0 + _ ≤ _; exact Nat.le_of_eq rfl) (hb hby d1_1) (fun _ _ => ⟨rfl, e0, (by decide : 0 + 0 ≤ _), (by decide : 0 + 0 ≤ _)⟩)
  dsimp only [Pt.U, Pt.locs, Pt.cells, Pt.slots] at X1 l1 y1 z1 st1 hQ1
  subst l1 y1 z1
  obtain ⟨rfl, N1q, eq1⟩ := hQ1
  have N1 := Fr.app N0 N1q
  obtain ⟨T2, h2, X2, e2, W2, st2⟩ := putF X1 hx hZ hown (host := "") (Or.inl (hw _ (List.mem_of_getElem? (i := 18) rfl))) Via.refl eq1 F_bankDeposit_a1 E_a1 (Or.inr ⟨(hw _ (List.mem_of_getElem? (i := 19) rfl)), rfl, hnm⟩) (hw _ (List.mem_of_getElem? (i := 5) rfl)) (ty := .long) (by decide) rfl rfl (g := (mkF m 6 #[.val (.ref a1), .val (.long q2), .second, .val (.long q3), .second, .val (.long q4), .second, .val (.long q5), .second, .val (.long q6), .second, .val (.long q7), .second, .val (.long q8), .second] [(.long q2), (.ref a1)])) rfl rfl (hb hby d1_6)
  have z3 : n0 ≤ h2.size := Nat.le_trans Z0 (Keep.of_wr W2).1
  have K4 : Keep h0 h2 [a1] := K0.wr W2 (Or.inl (List.mem_of_getElem? (i := 0) rfl))
  have Fw2 : Fld Z h2 a1 "com/example/rialto/rialto/core/Verification" "bankDeposit" "J" (.long q2) := F_bankDeposit_a1.same W2
  have N2 := Fr.snoc X2 N1 g_a1
  have f5 : Fld Z h2 a1 "com/example/rialto/rialto/core/Verification" "withdrawableTotal" "J" u_withdrawableTotal := (F_withdrawableTotal_a1.other W2 (Or.inr (slot_ne (Or.inr (hw _ (List.mem_of_getElem? (i := 21) rfl))) (Or.inr (hw _ (List.mem_of_getElem? (i := 19) rfl))) (by decide) (t := .long) (t' := .long) (by decide) (by decide))))
  have f6 : Exa Z h2 a1 "com/example/rialto/rialto/core/Verification" := (E_a1.wr W2)
  obtain ⟨T7, h7, X7, e7, W7, st7⟩ := putF X2 hx hZ hown (host := "") (Or.inl (hw _ (List.mem_of_getElem? (i := 20) rfl))) Via.refl e2 f5 f6 (Or.inr ⟨(hw _ (List.mem_of_getElem? (i := 21) rfl)), rfl, hnm⟩) (hw _ (List.mem_of_getElem? (i := 5) rfl)) (ty := .long) (by decide) rfl rfl (g := (mkF m 11 #[.val (.ref a1), .val (.long q2), .second, .val (.long q3), .second, .val (.long q4), .second, .val (.long q5), .second, .val (.long q6), .second, .val (.long q7), .second, .val (.long q8), .second] [(.long q3), (.ref a1)])) rfl rfl (hb hby d1_11)
  have z8 : n0 ≤ h7.size := Nat.le_trans z3 (Keep.of_wr W7).1
  have K9 : Keep h0 h7 [a1] := K4.wr W7 (Or.inl (List.mem_of_getElem? (i := 0) rfl))
  have Fw7 : Fld Z h7 a1 "com/example/rialto/rialto/core/Verification" "withdrawableTotal" "J" (.long q3) := f5.same W7
  have N7 := Fr.snoc X7 N2 g_a1
  have f10 : Fld Z h7 a1 "com/example/rialto/rialto/core/Verification" "rechargeInTransit" "J" u_rechargeInTransit := ((F_rechargeInTransit_a1.other W2 (Or.inr (slot_ne (Or.inr (hw _ (List.mem_of_getElem? (i := 23) rfl))) (Or.inr (hw _ (List.mem_of_getElem? (i := 19) rfl))) (by decide) (t := .long) (t' := .long) (by decide) (by decide)))).other W7 (Or.inr (slot_ne (Or.inr (hw _ (List.mem_of_getElem? (i := 23) rfl))) (Or.inr (hw _ (List.mem_of_getElem? (i := 21) rfl))) (by decide) (t := .long) (t' := .long) (by decide) (by decide))))
  have f11 : Exa Z h7 a1 "com/example/rialto/rialto/core/Verification" := (f6.wr W7)
  obtain ⟨T12, h12, X12, e12, W12, st12⟩ := putF X7 hx hZ hown (host := "") (Or.inl (hw _ (List.mem_of_getElem? (i := 22) rfl))) Via.refl e7 f10 f11 (Or.inr ⟨(hw _ (List.mem_of_getElem? (i := 23) rfl)), rfl, hnm⟩) (hw _ (List.mem_of_getElem? (i := 5) rfl)) (ty := .long) (by decide) rfl rfl (g := (mkF m 17 #[.val (.ref a1), .val (.long q2), .second, .val (.long q3), .second, .val (.long q4), .second, .val (.long q5), .second, .val (.long q6), .second, .val (.long q7), .second, .val (.long q8), .second] [(.long q4), (.ref a1)])) rfl rfl (hb hby d1_17)
  have z13 : n0 ≤ h12.size := Nat.le_trans z8 (Keep.of_wr W12).1
  have K14 : Keep h0 h12 [a1] := K9.wr W12 (Or.inl (List.mem_of_getElem? (i := 0) rfl))
  have Fw12 : Fld Z h12 a1 "com/example/rialto/rialto/core/Verification" "rechargeInTransit" "J" (.long q4) := f10.same W12
  have N12 := Fr.snoc X12 N7 g_a1
  have f15 : Fld Z h12 a1 "com/example/rialto/rialto/core/Verification" "inTransitAndUnavailableTotal" "J" u_inTransitAndUnavailableTotal := (((F_inTransitAndUnavailableTotal_a1.other W2 (Or.inr (slot_ne (Or.inr (hw _ (List.mem_of_getElem? (i := 25) rfl))) (Or.inr (hw _ (List.mem_of_getElem? (i := 19) rfl))) (by decide) (t := .long) (t' := .long) (by decide) (by decide)))).other W7 (Or.inr (slot_ne (Or.inr (hw _ (List.mem_of_getElem? (i := 25) rfl))) (Or.inr (hw _ (List.mem_of_getElem? (i := 21) rfl))) (by decide) (t := .long) (t' := .long) (by decide) (by decide)))).other W12 (Or.inr (slot_ne (Or.inr (hw _ (List.mem_of_getElem? (i := 25) rfl))) (Or.inr (hw _ (List.mem_of_getElem? (i := 23) rfl))) (by decide) (t := .long) (t' := .long) (by decide) (by decide))))
  have f16 : Exa Z h12 a1 "com/example/rialto/rialto/core/Verification" := (f11.wr W12)
  obtain ⟨T17, h17, X17, e17, W17, st17⟩ := putF X12 hx hZ hown (host := "") (Or.inl (hw _ (List.mem_of_getElem? (i := 24) rfl))) Via.refl e12 f15 f16 (Or.inr ⟨(hw _ (List.mem_of_getElem? (i := 25) rfl)), rfl, hnm⟩) (hw _ (List.mem_of_getElem? (i := 5) rfl)) (ty := .long) (by decide) rfl rfl (g := (mkF m 23 #[.val (.ref a1), .val (.long q2), .second, .val (.long q3), .second, .val (.long q4), .second, .val (.long q5), .second, .val (.long q6), .second, .val (.long q7), .second, .val (.long q8), .second] [(.long q5), (.ref a1)])) rfl rfl (hb hby d1_23)
  have z18 : n0 ≤ h17.size := Nat.le_trans z13 (Keep.of_wr W17).1
  have K19 : Keep h0 h17 [a1] := K14.wr W17 (Or.inl (List.mem_of_getElem? (i := 0) rfl))
  have Fw17 : Fld Z h17 a1 "com/example/rialto/rialto/core/Verification" "inTransitAndUnavailableTotal" "J" (.long q5) := f15.same W17
  have N17 := Fr.snoc X17 N12 g_a1
  have f20 : Fld Z h17 a1 "com/example/rialto/rialto/core/Verification" "negativeBalances" "J" u_negativeBalances := ((((F_negativeBalances_a1.other W2 (Or.inr (slot_ne (Or.inr (hw _ (List.mem_of_getElem? (i := 27) rfl))) (Or.inr (hw _ (List.mem_of_getElem? (i := 19) rfl))) (by decide) (t := .long) (t' := .long) (by decide) (by decide)))).other W7 (Or.inr (slot_ne (Or.inr (hw _ (List.mem_of_getElem? (i := 27) rfl))) (Or.inr (hw _ (List.mem_of_getElem? (i := 21) rfl))) (by decide) (t := .long) (t' := .long) (by decide) (by decide)))).other W12 (Or.inr (slot_ne (Or.inr (hw _ (List.mem_of_getElem? (i := 27) rfl))) (Or.inr (hw _ (List.mem_of_getElem? (i := 23) rfl))) (by decide) (t := .long) (t' := .long) (by decide) (by decide)))).other W17 (Or.inr (slot_ne (Or.inr (hw _ (List.mem_of_getElem? (i := 27) rfl))) (Or.inr (hw _ (List.mem_of_getElem? (i := 25) rfl))) (by decide) (t := .long) (t' := .long) (by decide) (by decide))))
  have f21 : Exa Z h17 a1 "com/example/rialto/rialto/core/Verification" := (f16.wr W17)
  obtain ⟨T22, h22, X22, e22, W22, st22⟩ := putF X17 hx hZ hown (host := "") (Or.inl (hw _ (List.mem_of_getElem? (i := 26) rfl))) Via.refl e17 f20 f21 (Or.inr ⟨(hw _ (List.mem_of_getElem? (i := 27) rfl)), rfl, hnm⟩) (hw _ (List.mem_of_getElem? (i := 5) rfl)) (ty := .long) (by decide) rfl rfl (g := (mkF m 29 #[.val (.ref a1), .val (.long q2), .second, .val (.long q3), .second, .val (.long q4), .second, .val (.long q5), .second, .val (.long q6), .second, .val (.long q7), .second, .val (.long q8), .second] [(.long q6), (.ref a1)])) rfl rfl (hb hby d1_29)
  have z23 : n0 ≤ h22.size := Nat.le_trans z18 (Keep.of_wr W22).1
  have K24 : Keep h0 h22 [a1] := K19.wr W22 (Or.inl (List.mem_of_getElem? (i := 0) rfl))
  have Fw22 : Fld Z h22 a1 "com/example/rialto/rialto/core/Verification" "negativeBalances" "J" (.long q6) := f20.same W22
  have N22 := Fr.snoc X22 N17 g_a1
  have f25 : Fld Z h22 a1 "com/example/rialto/rialto/core/Verification" "mismatchedBalances" "J" u_mismatchedBalances := (((((F_mismatchedBalances_a1.other W2 (Or.inr (slot_ne (Or.inr (hw _ (List.mem_of_getElem? (i := 29) rfl))) (Or.inr (hw _ (List.mem_of_getElem? (i := 19) rfl))) (by decide) (t := .long) (t' := .long) (by decide) (by decide)))).other W7 (Or.inr (slot_ne (Or.inr (hw _ (List.mem_of_getElem? (i := 29) rfl))) (Or.inr (hw _ (List.mem_of_getElem? (i := 21) rfl))) (by decide) (t := .long) (t' := .long) (by decide) (by decide)))).other W12 (Or.inr (slot_ne (Or.inr (hw _ (List.mem_of_getElem? (i := 29) rfl))) (Or.inr (hw _ (List.mem_of_getElem? (i := 23) rfl))) (by decide) (t := .long) (t' := .long) (by decide) (by decide)))).other W17 (Or.inr (slot_ne (Or.inr (hw _ (List.mem_of_getElem? (i := 29) rfl))) (Or.inr (hw _ (List.mem_of_getElem? (i := 25) rfl))) (by decide) (t := .long) (t' := .long) (by decide) (by decide)))).other W22 (Or.inr (slot_ne (Or.inr (hw _ (List.mem_of_getElem? (i := 29) rfl))) (Or.inr (hw _ (List.mem_of_getElem? (i := 27) rfl))) (by decide) (t := .long) (t' := .long) (by decide) (by decide))))
  have f26 : Exa Z h22 a1 "com/example/rialto/rialto/core/Verification" := (f21.wr W22)
  obtain ⟨T27, h27, X27, e27, W27, st27⟩ := putF X22 hx hZ hown (host := "") (Or.inl (hw _ (List.mem_of_getElem? (i := 28) rfl))) Via.refl e22 f25 f26 (Or.inr ⟨(hw _ (List.mem_of_getElem? (i := 29) rfl)), rfl, hnm⟩) (hw _ (List.mem_of_getElem? (i := 5) rfl)) (ty := .long) (by decide) rfl rfl (g := (mkF m 35 #[.val (.ref a1), .val (.long q2), .second, .val (.long q3), .second, .val (.long q4), .second, .val (.long q5), .second, .val (.long q6), .second, .val (.long q7), .second, .val (.long q8), .second] [(.long q7), (.ref a1)])) rfl rfl (hb hby d1_35)
  have z28 : n0 ≤ h27.size := Nat.le_trans z23 (Keep.of_wr W27).1
  have K29 : Keep h0 h27 [a1] := K24.wr W27 (Or.inl (List.mem_of_getElem? (i := 0) rfl))
  have Fw27 : Fld Z h27 a1 "com/example/rialto/rialto/core/Verification" "mismatchedBalances" "J" (.long q7) := f25.same W27
  have N27 := Fr.snoc X27 N22 g_a1
  have f30 : Fld Z h27 a1 "com/example/rialto/rialto/core/Verification" "unbalancedPostings" "J" u_unbalancedPostings := ((((((F_unbalancedPostings_a1.other W2 (Or.inr (slot_ne (Or.inr (hw _ (List.mem_of_getElem? (i := 31) rfl))) (Or.inr (hw _ (List.mem_of_getElem? (i := 19) rfl))) (by decide) (t := .long) (t' := .long) (by decide) (by decide)))).other W7 (Or.inr (slot_ne (Or.inr (hw _ (List.mem_of_getElem? (i := 31) rfl))) (Or.inr (hw _ (List.mem_of_getElem? (i := 21) rfl))) (by decide) (t := .long) (t' := .long) (by decide) (by decide)))).other W12 (Or.inr (slot_ne (Or.inr (hw _ (List.mem_of_getElem? (i := 31) rfl))) (Or.inr (hw _ (List.mem_of_getElem? (i := 23) rfl))) (by decide) (t := .long) (t' := .long) (by decide) (by decide)))).other W17 (Or.inr (slot_ne (Or.inr (hw _ (List.mem_of_getElem? (i := 31) rfl))) (Or.inr (hw _ (List.mem_of_getElem? (i := 25) rfl))) (by decide) (t := .long) (t' := .long) (by decide) (by decide)))).other W22 (Or.inr (slot_ne (Or.inr (hw _ (List.mem_of_getElem? (i := 31) rfl))) (Or.inr (hw _ (List.mem_of_getElem? (i := 27) rfl))) (by decide) (t := .long) (t' := .long) (by decide) (by decide)))).other W27 (Or.inr (slot_ne (Or.inr (hw _ (List.mem_of_getElem? (i := 31) rfl))) (Or.inr (hw _ (List.mem_of_getElem? (i := 29) rfl))) (by decide) (t := .long) (t' := .long) (by decide) (by decide))))
  have f31 : Exa Z h27 a1 "com/example/rialto/rialto/core/Verification" := (f26.wr W27)
  obtain ⟨T32, h32, X32, e32, W32, st32⟩ := putF X27 hx hZ hown (host := "") (Or.inl (hw _ (List.mem_of_getElem? (i := 30) rfl))) Via.refl e27 f30 f31 (Or.inr ⟨(hw _ (List.mem_of_getElem? (i := 31) rfl)), rfl, hnm⟩) (hw _ (List.mem_of_getElem? (i := 5) rfl)) (ty := .long) (by decide) rfl rfl (g := (mkF m 41 #[.val (.ref a1), .val (.long q2), .second, .val (.long q3), .second, .val (.long q4), .second, .val (.long q5), .second, .val (.long q6), .second, .val (.long q7), .second, .val (.long q8), .second] [(.long q8), (.ref a1)])) rfl rfl (hb hby d1_41)
  have z33 : n0 ≤ h32.size := Nat.le_trans z28 (Keep.of_wr W32).1
  have K34 : Keep h0 h32 [a1] := K29.wr W32 (Or.inl (List.mem_of_getElem? (i := 0) rfl))
  have Fw32 : Fld Z h32 a1 "com/example/rialto/rialto/core/Verification" "unbalancedPostings" "J" (.long q8) := f30.same W32
  have N32 := Fr.snoc X32 N27 g_a1
  obtain ⟨fs, hr, hrun, hended, hW, hsame⟩ := X32.leave (v := none) (fun _ => rfl)
  refine ⟨_, _, ?_, hrun, hended, _, _, rfl, ?_, ⟨_, rfl⟩, hW, hsame.mono (by decide) (by decide)⟩
  · show Steps p.tables e below (s₁.setTop (mkF m 0 #[.val (.ref a1), .val (.long q2), .second, .val (.long q3), .second, .val (.long q4), .second, .val (.long q5), .second, .val (.long q6), .second, .val (.long q7), .second, .val (.long q8), .second] [])) _
    refine XS.aloadN X0.here hx rfl (hb hby d1_0) rfl rfl ?_
    show Steps p.tables e below (s₁.setTop (mkF m 1 #[.val (.ref a1), .val (.long q2), .second, .val (.long q3), .second, .val (.long q4), .second, .val (.long q5), .second, .val (.long q6), .second, .val (.long q7), .second, .val (.long q8), .second] [(.ref a1)])) _
    refine st1.trans ?_
    show Steps p.tables e below (T1.setTop (mkF m 4 #[.val (.ref a1), .val (.long q2), .second, .val (.long q3), .second, .val (.long q4), .second, .val (.long q5), .second, .val (.long q6), .second, .val (.long q7), .second, .val (.long q8), .second] [])) _
    refine XS.aloadN X1.here hx rfl (hb hby d1_4) rfl rfl ?_
    show Steps p.tables e below (T1.setTop (mkF m 5 #[.val (.ref a1), .val (.long q2), .second, .val (.long q3), .second, .val (.long q4), .second, .val (.long q5), .second, .val (.long q6), .second, .val (.long q7), .second, .val (.long q8), .second] [(.ref a1)])) _
    refine XS.lloadN X1.here hx rfl (hb hby d1_5) rfl ?_
    show Steps p.tables e below (T1.setTop (mkF m 6 #[.val (.ref a1), .val (.long q2), .second, .val (.long q3), .second, .val (.long q4), .second, .val (.long q5), .second, .val (.long q6), .second, .val (.long q7), .second, .val (.long q8), .second] [(.long q2), (.ref a1)])) _
    refine st2 _ ?_
    show Steps p.tables e below (T2.setTop (mkF m 9 #[.val (.ref a1), .val (.long q2), .second, .val (.long q3), .second, .val (.long q4), .second, .val (.long q5), .second, .val (.long q6), .second, .val (.long q7), .second, .val (.long q8), .second] [])) _
    refine XS.aloadN X2.here hx rfl (hb hby d1_9) rfl rfl ?_
    show Steps p.tables e below (T2.setTop (mkF m 10 #[.val (.ref a1), .val (.long q2), .second, .val (.long q3), .second, .val (.long q4), .second, .val (.long q5), .second, .val (.long q6), .second, .val (.long q7), .second, .val (.long q8), .second] [(.ref a1)])) _
    refine XS.lloadN X2.here hx rfl (hb hby d1_10) rfl ?_
    show Steps p.tables e below (T2.setTop (mkF m 11 #[.val (.ref a1), .val (.long q2), .second, .val (.long q3), .second, .val (.long q4), .second, .val (.long q5), .second, .val (.long q6), .second, .val (.long q7), .second, .val (.long q8), .second] [(.long q3), (.ref a1)])) _
    refine st7 _ ?_
    show Steps p.tables e below (T7.setTop (mkF m 14 #[.val (.ref a1), .val (.long q2), .second, .val (.long q3), .second, .val (.long q4), .second, .val (.long q5), .second, .val (.long q6), .second, .val (.long q7), .second, .val (.long q8), .second] [])) _
    refine XS.aloadN X7.here hx rfl (hb hby d1_14) rfl rfl ?_
    show Steps p.tables e below (T7.setTop (mkF m 15 #[.val (.ref a1), .val (.long q2), .second, .val (.long q3), .second, .val (.long q4), .second, .val (.long q5), .second, .val (.long q6), .second, .val (.long q7), .second, .val (.long q8), .second] [(.ref a1)])) _
    refine XS.lload X7.here hx rfl (hb hby d1_15) rfl ?_
    show Steps p.tables e below (T7.setTop (mkF m 17 #[.val (.ref a1), .val (.long q2), .second, .val (.long q3), .second, .val (.long q4), .second, .val (.long q5), .second, .val (.long q6), .second, .val (.long q7), .second, .val (.long q8), .second] [(.long q4), (.ref a1)])) _
    refine st12 _ ?_
    show Steps p.tables e below (T12.setTop (mkF m 20 #[.val (.ref a1), .val (.long q2), .second, .val (.long q3), .second, .val (.long q4), .second, .val (.long q5), .second, .val (.long q6), .second, .val (.long q7), .second, .val (.long q8), .second] [])) _
    refine XS.aloadN X12.here hx rfl (hb hby d1_20) rfl rfl ?_
    show Steps p.tables e below (T12.setTop (mkF m 21 #[.val (.ref a1), .val (.long q2), .second, .val (.long q3), .second, .val (.long q4), .second, .val (.long q5), .second, .val (.long q6), .second, .val (.long q7), .second, .val (.long q8), .second] [(.ref a1)])) _
    refine XS.lload X12.here hx rfl (hb hby d1_21) rfl ?_
    show Steps p.tables e below (T12.setTop (mkF m 23 #[.val (.ref a1), .val (.long q2), .second, .val (.long q3), .second, .val (.long q4), .second, .val (.long q5), .second, .val (.long q6), .second, .val (.long q7), .second, .val (.long q8), .second] [(.long q5), (.ref a1)])) _
    refine st17 _ ?_
    show Steps p.tables e below (T17.setTop (mkF m 26 #[.val (.ref a1), .val (.long q2), .second, .val (.long q3), .second, .val (.long q4), .second, .val (.long q5), .second, .val (.long q6), .second, .val (.long q7), .second, .val (.long q8), .second] [])) _
    refine XS.aloadN X17.here hx rfl (hb hby d1_26) rfl rfl ?_
    show Steps p.tables e below (T17.setTop (mkF m 27 #[.val (.ref a1), .val (.long q2), .second, .val (.long q3), .second, .val (.long q4), .second, .val (.long q5), .second, .val (.long q6), .second, .val (.long q7), .second, .val (.long q8), .second] [(.ref a1)])) _
    refine XS.lload X17.here hx rfl (hb hby d1_27) rfl ?_
    show Steps p.tables e below (T17.setTop (mkF m 29 #[.val (.ref a1), .val (.long q2), .second, .val (.long q3), .second, .val (.long q4), .second, .val (.long q5), .second, .val (.long q6), .second, .val (.long q7), .second, .val (.long q8), .second] [(.long q6), (.ref a1)])) _
    refine st22 _ ?_
    show Steps p.tables e below (T22.setTop (mkF m 32 #[.val (.ref a1), .val (.long q2), .second, .val (.long q3), .second, .val (.long q4), .second, .val (.long q5), .second, .val (.long q6), .second, .val (.long q7), .second, .val (.long q8), .second] [])) _
    refine XS.aloadN X22.here hx rfl (hb hby d1_32) rfl rfl ?_
    show Steps p.tables e below (T22.setTop (mkF m 33 #[.val (.ref a1), .val (.long q2), .second, .val (.long q3), .second, .val (.long q4), .second, .val (.long q5), .second, .val (.long q6), .second, .val (.long q7), .second, .val (.long q8), .second] [(.ref a1)])) _
    refine XS.lload X22.here hx rfl (hb hby d1_33) rfl ?_
    show Steps p.tables e below (T22.setTop (mkF m 35 #[.val (.ref a1), .val (.long q2), .second, .val (.long q3), .second, .val (.long q4), .second, .val (.long q5), .second, .val (.long q6), .second, .val (.long q7), .second, .val (.long q8), .second] [(.long q7), (.ref a1)])) _
    refine st27 _ ?_
    show Steps p.tables e below (T27.setTop (mkF m 38 #[.val (.ref a1), .val (.long q2), .second, .val (.long q3), .second, .val (.long q4), .second, .val (.long q5), .second, .val (.long q6), .second, .val (.long q7), .second, .val (.long q8), .second] [])) _
    refine XS.aloadN X27.here hx rfl (hb hby d1_38) rfl rfl ?_
    show Steps p.tables e below (T27.setTop (mkF m 39 #[.val (.ref a1), .val (.long q2), .second, .val (.long q3), .second, .val (.long q4), .second, .val (.long q5), .second, .val (.long q6), .second, .val (.long q7), .second, .val (.long q8), .second] [(.ref a1)])) _
    refine XS.lload X27.here hx rfl (hb hby d1_39) rfl ?_
    show Steps p.tables e below (T27.setTop (mkF m 41 #[.val (.ref a1), .val (.long q2), .second, .val (.long q3), .second, .val (.long q4), .second, .val (.long q5), .second, .val (.long q6), .second, .val (.long q7), .second, .val (.long q8), .second] [(.long q8), (.ref a1)])) _
    refine st32 _ ?_
    show Steps p.tables e below (T32.setTop (mkF m 44 #[.val (.ref a1), .val (.long q2), .second, .val (.long q3), .second, .val (.long q4), .second, .val (.long q5), .second, .val (.long q6), .second, .val (.long q7), .second, .val (.long q8), .second] [])) _
    exact X32.returnOut hx Bd.returns (hb hby d1_44) hr
  · have f35 : Exa Z h32 a1 "com/example/rialto/rialto/core/Verification" := (f31.wr W32)
    have f36 : Fld Z h32 a1 "com/example/rialto/rialto/core/Verification" "bankDeposit" "J" (.long q2) := ((((((Fw2.other W7 (Or.inr (slot_ne (Or.inr (hw _ (List.mem_of_getElem? (i := 19) rfl))) (Or.inr (hw _ (List.mem_of_getElem? (i := 21) rfl))) (by decide) (t := .long) (t' := .long) (by decide) (by decide)))).other W12 (Or.inr (slot_ne (Or.inr (hw _ (List.mem_of_getElem? (i := 19) rfl))) (Or.inr (hw _ (List.mem_of_getElem? (i := 23) rfl))) (by decide) (t := .long) (t' := .long) (by decide) (by decide)))).other W17 (Or.inr (slot_ne (Or.inr (hw _ (List.mem_of_getElem? (i := 19) rfl))) (Or.inr (hw _ (List.mem_of_getElem? (i := 25) rfl))) (by decide) (t := .long) (t' := .long) (by decide) (by decide)))).other W22 (Or.inr (slot_ne (Or.inr (hw _ (List.mem_of_getElem? (i := 19) rfl))) (Or.inr (hw _ (List.mem_of_getElem? (i := 27) rfl))) (by decide) (t := .long) (t' := .long) (by decide) (by decide)))).other W27 (Or.inr (slot_ne (Or.inr (hw _ (List.mem_of_getElem? (i := 19) rfl))) (Or.inr (hw _ (List.mem_of_getElem? (i := 29) rfl))) (by decide) (t := .long) (t' := .long) (by decide) (by decide)))).other W32 (Or.inr (slot_ne (Or.inr (hw _ (List.mem_of_getElem? (i := 19) rfl))) (Or.inr (hw _ (List.mem_of_getElem? (i := 31) rfl))) (by decide) (t := .long) (t' := .long) (by decide) (by decide))))
    have f37 : Fld Z h32 a1 "com/example/rialto/rialto/core/Verification" "withdrawableTotal" "J" (.long q3) := (((((Fw7.other W12 (Or.inr (slot_ne (Or.inr (hw _ (List.mem_of_getElem? (i := 21) rfl))) (Or.inr (hw _ (List.mem_of_getElem? (i := 23) rfl))) (by decide) (t := .long) (t' := .long) (by decide) (by decide)))).other W17 (Or.inr (slot_ne (Or.inr (hw _ (List.mem_of_getElem? (i := 21) rfl))) (Or.inr (hw _ (List.mem_of_getElem? (i := 25) rfl))) (by decide) (t := .long) (t' := .long) (by decide) (by decide)))).other W22 (Or.inr (slot_ne (Or.inr (hw _ (List.mem_of_getElem? (i := 21) rfl))) (Or.inr (hw _ (List.mem_of_getElem? (i := 27) rfl))) (by decide) (t := .long) (t' := .long) (by decide) (by decide)))).other W27 (Or.inr (slot_ne (Or.inr (hw _ (List.mem_of_getElem? (i := 21) rfl))) (Or.inr (hw _ (List.mem_of_getElem? (i := 29) rfl))) (by decide) (t := .long) (t' := .long) (by decide) (by decide)))).other W32 (Or.inr (slot_ne (Or.inr (hw _ (List.mem_of_getElem? (i := 21) rfl))) (Or.inr (hw _ (List.mem_of_getElem? (i := 31) rfl))) (by decide) (t := .long) (t' := .long) (by decide) (by decide))))
    have f38 : Fld Z h32 a1 "com/example/rialto/rialto/core/Verification" "rechargeInTransit" "J" (.long q4) := ((((Fw12.other W17 (Or.inr (slot_ne (Or.inr (hw _ (List.mem_of_getElem? (i := 23) rfl))) (Or.inr (hw _ (List.mem_of_getElem? (i := 25) rfl))) (by decide) (t := .long) (t' := .long) (by decide) (by decide)))).other W22 (Or.inr (slot_ne (Or.inr (hw _ (List.mem_of_getElem? (i := 23) rfl))) (Or.inr (hw _ (List.mem_of_getElem? (i := 27) rfl))) (by decide) (t := .long) (t' := .long) (by decide) (by decide)))).other W27 (Or.inr (slot_ne (Or.inr (hw _ (List.mem_of_getElem? (i := 23) rfl))) (Or.inr (hw _ (List.mem_of_getElem? (i := 29) rfl))) (by decide) (t := .long) (t' := .long) (by decide) (by decide)))).other W32 (Or.inr (slot_ne (Or.inr (hw _ (List.mem_of_getElem? (i := 23) rfl))) (Or.inr (hw _ (List.mem_of_getElem? (i := 31) rfl))) (by decide) (t := .long) (t' := .long) (by decide) (by decide))))
    have f39 : Fld Z h32 a1 "com/example/rialto/rialto/core/Verification" "inTransitAndUnavailableTotal" "J" (.long q5) := (((Fw17.other W22 (Or.inr (slot_ne (Or.inr (hw _ (List.mem_of_getElem? (i := 25) rfl))) (Or.inr (hw _ (List.mem_of_getElem? (i := 27) rfl))) (by decide) (t := .long) (t' := .long) (by decide) (by decide)))).other W27 (Or.inr (slot_ne (Or.inr (hw _ (List.mem_of_getElem? (i := 25) rfl))) (Or.inr (hw _ (List.mem_of_getElem? (i := 29) rfl))) (by decide) (t := .long) (t' := .long) (by decide) (by decide)))).other W32 (Or.inr (slot_ne (Or.inr (hw _ (List.mem_of_getElem? (i := 25) rfl))) (Or.inr (hw _ (List.mem_of_getElem? (i := 31) rfl))) (by decide) (t := .long) (t' := .long) (by decide) (by decide))))
    have f40 : Fld Z h32 a1 "com/example/rialto/rialto/core/Verification" "negativeBalances" "J" (.long q6) := ((Fw22.other W27 (Or.inr (slot_ne (Or.inr (hw _ (List.mem_of_getElem? (i := 27) rfl))) (Or.inr (hw _ (List.mem_of_getElem? (i := 29) rfl))) (by decide) (t := .long) (t' := .long) (by decide) (by decide)))).other W32 (Or.inr (slot_ne (Or.inr (hw _ (List.mem_of_getElem? (i := 27) rfl))) (Or.inr (hw _ (List.mem_of_getElem? (i := 31) rfl))) (by decide) (t := .long) (t' := .long) (by decide) (by decide))))
    have f41 : Fld Z h32 a1 "com/example/rialto/rialto/core/Verification" "mismatchedBalances" "J" (.long q7) := (Fw27.other W32 (Or.inr (slot_ne (Or.inr (hw _ (List.mem_of_getElem? (i := 29) rfl))) (Or.inr (hw _ (List.mem_of_getElem? (i := 31) rfl))) (by decide) (t := .long) (t' := .long) (by decide) (by decide))))
    show Q1 Z a1 q2 q3 q4 q5 q6 q7 q8 u_bankDeposit u_withdrawableTotal u_rechargeInTransit u_inTransitAndUnavailableTotal u_negativeBalances u_mismatchedBalances u_unbalancedPostings h0 n0 _ T32.heap _
    rw [e32]
    exact ⟨rfl, N32, K34, f35, f36, f37, f38, f39, f40, f41, Fw32⟩
theorem d4_0 : decode prog_25_method_2_code 0 = .ok (.aload_n 0, 1) := by decide +kernel
theorem d4_1 : decode prog_25_method_2_code 1 = .ok (.getfield 7, 3) := by decide +kernel
theorem d4_4 : decode prog_25_method_2_code 4 = .ok (.aload_n 0, 1) := by decide +kernel
theorem d4_5 : decode prog_25_method_2_code 5 = .ok (.getfield 13, 3) := by decide +kernel
theorem d4_8 : decode prog_25_method_2_code 8 = .ok (.lcmp, 1) := by decide +kernel
theorem d4_9 : decode prog_25_method_2_code 9 = .ok (.ifCond .ne 46, 3) := by decide +kernel
theorem d4_12 : decode prog_25_method_2_code 12 = .ok (.aload_n 0, 1) := by decide +kernel
theorem d4_13 : decode prog_25_method_2_code 13 = .ok (.getfield 16, 3) := by decide +kernel
theorem d4_16 : decode prog_25_method_2_code 16 = .ok (.aload_n 0, 1) := by decide +kernel
theorem d4_17 : decode prog_25_method_2_code 17 = .ok (.getfield 19, 3) := by decide +kernel
theorem d4_20 : decode prog_25_method_2_code 20 = .ok (.lcmp, 1) := by decide +kernel
theorem d4_21 : decode prog_25_method_2_code 21 = .ok (.ifCond .ne 34, 3) := by decide +kernel
theorem d4_24 : decode prog_25_method_2_code 24 = .ok (.aload_n 0, 1) := by decide +kernel
theorem d4_25 : decode prog_25_method_2_code 25 = .ok (.getfield 22, 3) := by decide +kernel
theorem d4_28 : decode prog_25_method_2_code 28 = .ok (.lconst 0, 1) := by decide +kernel
theorem d4_29 : decode prog_25_method_2_code 29 = .ok (.lcmp, 1) := by decide +kernel
theorem d4_30 : decode prog_25_method_2_code 30 = .ok (.ifCond .ne 25, 3) := by decide +kernel
theorem d4_33 : decode prog_25_method_2_code 33 = .ok (.aload_n 0, 1) := by decide +kernel
theorem d4_34 : decode prog_25_method_2_code 34 = .ok (.getfield 25, 3) := by decide +kernel
theorem d4_37 : decode prog_25_method_2_code 37 = .ok (.lconst 0, 1) := by decide +kernel
theorem d4_38 : decode prog_25_method_2_code 38 = .ok (.lcmp, 1) := by decide +kernel
theorem d4_39 : decode prog_25_method_2_code 39 = .ok (.ifCond .ne 16, 3) := by decide +kernel
theorem d4_42 : decode prog_25_method_2_code 42 = .ok (.aload_n 0, 1) := by decide +kernel
theorem d4_43 : decode prog_25_method_2_code 43 = .ok (.getfield 28, 3) := by decide +kernel
theorem d4_46 : decode prog_25_method_2_code 46 = .ok (.lconst 0, 1) := by decide +kernel
theorem d4_47 : decode prog_25_method_2_code 47 = .ok (.lcmp, 1) := by decide +kernel
theorem d4_48 : decode prog_25_method_2_code 48 = .ok (.ifCond .ne 7, 3) := by decide +kernel
theorem d4_51 : decode prog_25_method_2_code 51 = .ok (.iconst 1, 1) := by decide +kernel
theorem d4_52 : decode prog_25_method_2_code 52 = .ok (.goto 4, 3) := by decide +kernel
theorem d4_55 : decode prog_25_method_2_code 55 = .ok (.iconst 0, 1) := by decide +kernel
theorem d4_56 : decode prog_25_method_2_code 56 = .ok (.ireturn, 1) := by decide +kernel
theorem ef_rm4 (m : MethodId) (a1 : Addr) : entryFrame m #[(.ref a1)] 1 = mkF m 0 #[.val (.ref a1)] [] := by first | (simp [entryFrame, mkF, argsToLocals, Value.category]; done) | rfl
def Q4 (Z : State) (a1 : Addr) (w0 : Int64) (w1 : Int64) (w2 : Int64) (w3 : Int64) (w4 : Int64) (w5 : Int64) (w6 : Int64) (h0 : Heap) (n0 : Nat) (v : Option Value) (h : Heap) (L : List Loc) : Prop := ∃ r : Int32, v = some (.int r) ∧ r = (if w0 = w1 then (if w2 = w3 then (if w4 = (0 : Int64) then (if w5 = (0 : Int64) then (if w6 = (0 : Int64) then (1 : Int32) else (0 : Int32)) else (0 : Int32)) else (0 : Int32)) else (0 : Int32)) else (0 : Int32)) ∧ Fr n0 L ∧ h = h0
set_option maxRecDepth 65536 in
set_option maxHeartbeats 40000000 in
theorem rm4 (l : Launch) (Z : State) (a0 : Array Value) (hw : ∀ d ∈ tables_1, d.before a0 Z = true) (ws : List Jvm.Cond) (a1 : Addr) (w0 : Int64) (w1 : Int64) (w2 : Int64) (w3 : Int64) (w4 : Int64) (w5 : Int64) (w6 : Int64) (h0 : Heap) (n0 : Nat) (Z0 : n0 ≤ h0.size) (F_bankDeposit_a1 : Fld Z h0 a1 "com/example/rialto/rialto/core/Verification" "bankDeposit" "J" (.long w0)) (F_withdrawableTotal_a1 : Fld Z h0 a1 "com/example/rialto/rialto/core/Verification" "withdrawableTotal" "J" (.long w1)) (F_rechargeInTransit_a1 : Fld Z h0 a1 "com/example/rialto/rialto/core/Verification" "rechargeInTransit" "J" (.long w2)) (F_inTransitAndUnavailableTotal_a1 : Fld Z h0 a1 "com/example/rialto/rialto/core/Verification" "inTransitAndUnavailableTotal" "J" (.long w3)) (F_negativeBalances_a1 : Fld Z h0 a1 "com/example/rialto/rialto/core/Verification" "negativeBalances" "J" (.long w4)) (F_mismatchedBalances_a1 : Fld Z h0 a1 "com/example/rialto/rialto/core/Verification" "mismatchedBalances" "J" (.long w5)) (F_unbalancedPostings_a1 : Fld Z h0 a1 "com/example/rialto/rialto/core/Verification" "unbalancedPostings" "J" (.long w6)) :
    MetFree l (⟨"com/example/rialto/rialto/core/Verification", "ok", "()Z"⟩ : MethodName) (head1 (Jvm.Cond.code (⟨"com/example/rialto/rialto/core/Verification", "ok", "()Z"⟩ : MethodName) prog_25_method_2_code 1 (some .boolean) :: ws) ({ frames := 0, cells := 0, slots := 0, locals := 0 } : Room)) (fun a U => a = #[(.ref a1)] ∧ Z.Warmed39 U.vm ∧ U.heap = h0) (fun _ _ _ _ _ => True) (fun _ U o U' => ∃ v L, o = .returned v ∧ Q4 Z a1 w0 w1 w2 w3 w4 w5 w6 h0 n0 v U'.heap L ∧ FrameEnd U o U' L ({ frames := 0, cells := 0, slots := 0, locals := 0 } : Room).cells ({ frames := 0, cells := 0, slots := 0, locals := 0 } : Room).slots) := by
  refine MetFree.of_bodySF (plainFor_of_name pn_1) hisR ?_
  intro p e s m args below meth c s₁ Bd hml0 hP hK
  obtain ⟨rfl, hZ, hh⟩ := hP
  have hx := Bd.exec
  have hby := Bd.bytes
  have hml : c.maxLocals = 1 := hml0
  have hown : s.vm.findClass "com/example/rialto/rialto/core/Verification" = some m.cls := findClass_of_methodNamed Bd.named
  have hnm := (name_of_methodNamed Bd.named Bd.method).1
  have X0 : Stand p l e ({ frames := 0, cells := 0, slots := 0, locals := 0 } : Room) s m #[(.ref a1)] below meth c s₁ [] 0 0 := Stand.of_body Bd
  have e0 : s₁.heap = h0 := by rw [← hh, Bd.state]; rfl
  have N0 := Fr.nil n0
  show GoalS p.tables e below s ({ frames := 0, cells := 0, slots := 0, locals := 0 } : Room).cells ({ frames := 0, cells := 0, slots := 0, locals := 0 } : Room).slots (Q4 Z a1 w0 w1 w2 w3 w4 w5 w6 h0 n0) (s₁.setTop (entryFrame m #[(.ref a1)] 1))
  refine GoalS.lift (B := s₁.setTop (mkF m 0 #[.val (.ref a1)] [])) (fun t k => castTop (ef_rm4 m a1) k) ?_
  have K0 : Keep h0 h0 [] := Keep.refl _ _
  obtain ⟨T1, X1, e1, st1⟩ := getF X0 hx hZ hown (host := "") (Or.inl (hw _ (List.mem_of_getElem? (i := 18) rfl))) Via.refl e0 F_bankDeposit_a1 (g := (mkF m 1 #[.val (.ref a1)] [(.ref a1)])) rfl rfl (hb hby d4_1)
  obtain ⟨T2, X2, e2, st2⟩ := getF X1 hx hZ hown (host := "") (Or.inl (hw _ (List.mem_of_getElem? (i := 20) rfl))) Via.refl e1 F_withdrawableTotal_a1 (g := (mkF m 5 #[.val (.ref a1)] [(.ref a1), (.long w0)])) rfl rfl (hb hby d4_5)
  refine GoalS.lift (B := (T2.setTop (mkF m 9 #[.val (.ref a1)] [(.int (lcmpW w0 w1))]))) (fun t k => ?_) ?_
  · show Steps p.tables e below (s₁.setTop (mkF m 0 #[.val (.ref a1)] [])) _
    refine XS.aloadN X0.here hx rfl (hb hby d4_0) rfl rfl ?_
    show Steps p.tables e below (s₁.setTop (mkF m 1 #[.val (.ref a1)] [(.ref a1)])) _
    refine st1 _ ?_
    show Steps p.tables e below (T1.setTop (mkF m 4 #[.val (.ref a1)] [(.long w0)])) _
    refine XS.aloadN X1.here hx rfl (hb hby d4_4) rfl rfl ?_
    show Steps p.tables e below (T1.setTop (mkF m 5 #[.val (.ref a1)] [(.ref a1), (.long w0)])) _
    refine st2 _ ?_
    show Steps p.tables e below (T2.setTop (mkF m 8 #[.val (.ref a1)] [(.long w1), (.long w0)])) _
    refine XS.lcmp X2.here hx rfl (hb hby d4_8) rfl ?_
    show Steps p.tables e below (T2.setTop (mkF m 9 #[.val (.ref a1)] [(.int (lcmpW w0 w1))])) _
    exact k
  by_cases hc9_3 : w0 = w1
  · obtain ⟨T4, X4, e4, st4⟩ := getF X2 hx hZ hown (host := "") (Or.inl (hw _ (List.mem_of_getElem? (i := 22) rfl))) Via.refl e2 F_rechargeInTransit_a1 (g := (mkF m 13 #[.val (.ref a1)] [(.ref a1)])) rfl rfl (hb hby d4_13)
    obtain ⟨T5, X5, e5, st5⟩ := getF X4 hx hZ hown (host := "") (Or.inl (hw _ (List.mem_of_getElem? (i := 24) rfl))) Via.refl e4 F_inTransitAndUnavailableTotal_a1 (g := (mkF m 17 #[.val (.ref a1)] [(.ref a1), (.long w2)])) rfl rfl (hb hby d4_17)
    refine GoalS.lift (B := (T5.setTop (mkF m 21 #[.val (.ref a1)] [(.int (lcmpW w2 w3))]))) (fun t k => ?_) ?_
    · show Steps p.tables e below (T2.setTop (mkF m 9 #[.val (.ref a1)] [(.int (lcmpW w0 w1))])) _
      refine XS.ifNo X2.here hx rfl (hb hby d4_9) rfl ((if0 _ _).trans (teq ((lw_eq w0 w1).mpr hc9_3)).2) ?_
      show Steps p.tables e below (T2.setTop (mkF m 12 #[.val (.ref a1)] [])) _
      refine XS.aloadN X2.here hx rfl (hb hby d4_12) rfl rfl ?_
      show Steps p.tables e below (T2.setTop (mkF m 13 #[.val (.ref a1)] [(.ref a1)])) _
      refine st4 _ ?_
      show Steps p.tables e below (T4.setTop (mkF m 16 #[.val (.ref a1)] [(.long w2)])) _
      refine XS.aloadN X4.here hx rfl (hb hby d4_16) rfl rfl ?_
      show Steps p.tables e below (T4.setTop (mkF m 17 #[.val (.ref a1)] [(.ref a1), (.long w2)])) _
      refine st5 _ ?_
      show Steps p.tables e below (T5.setTop (mkF m 20 #[.val (.ref a1)] [(.long w3), (.long w2)])) _
      refine XS.lcmp X5.here hx rfl (hb hby d4_20) rfl ?_
      show Steps p.tables e below (T5.setTop (mkF m 21 #[.val (.ref a1)] [(.int (lcmpW w2 w3))])) _
      exact k
    by_cases hc21_6 : w2 = w3
    · obtain ⟨T7, X7, e7, st7⟩ := getF X5 hx hZ hown (host := "") (Or.inl (hw _ (List.mem_of_getElem? (i := 26) rfl))) Via.refl e5 F_negativeBalances_a1 (g := (mkF m 25 #[.val (.ref a1)] [(.ref a1)])) rfl rfl (hb hby d4_25)
      refine GoalS.lift (B := (T7.setTop (mkF m 30 #[.val (.ref a1)] [(.int (lcmpW w4 (0 : Int64)))]))) (fun t k => ?_) ?_
      · show Steps p.tables e below (T5.setTop (mkF m 21 #[.val (.ref a1)] [(.int (lcmpW w2 w3))])) _
        refine XS.ifNo X5.here hx rfl (hb hby d4_21) rfl ((if0 _ _).trans (teq ((lw_eq w2 w3).mpr hc21_6)).2) ?_
        show Steps p.tables e below (T5.setTop (mkF m 24 #[.val (.ref a1)] [])) _
        refine XS.aloadN X5.here hx rfl (hb hby d4_24) rfl rfl ?_
        show Steps p.tables e below (T5.setTop (mkF m 25 #[.val (.ref a1)] [(.ref a1)])) _
        refine st7 _ ?_
        show Steps p.tables e below (T7.setTop (mkF m 28 #[.val (.ref a1)] [(.long w4)])) _
        refine XS.lconst X7.here hx rfl (hb hby d4_28) ?_
        show Steps p.tables e below (T7.setTop (mkF m 29 #[.val (.ref a1)] [(.long (0 : Int64)), (.long w4)])) _
        refine XS.lcmp X7.here hx rfl (hb hby d4_29) rfl ?_
        show Steps p.tables e below (T7.setTop (mkF m 30 #[.val (.ref a1)] [(.int (lcmpW w4 (0 : Int64)))])) _
        exact k
      by_cases hc30_8 : w4 = (0 : Int64)
      · obtain ⟨T9, X9, e9, st9⟩ := getF X7 hx hZ hown (host := "") (Or.inl (hw _ (List.mem_of_getElem? (i := 28) rfl))) Via.refl e7 F_mismatchedBalances_a1 (g := (mkF m 34 #[.val (.ref a1)] [(.ref a1)])) rfl rfl (hb hby d4_34)
        refine GoalS.lift (B := (T9.setTop (mkF m 39 #[.val (.ref a1)] [(.int (lcmpW w5 (0 : Int64)))]))) (fun t k => ?_) ?_
        · show Steps p.tables e below (T7.setTop (mkF m 30 #[.val (.ref a1)] [(.int (lcmpW w4 (0 : Int64)))])) _
          refine XS.ifNo X7.here hx rfl (hb hby d4_30) rfl ((if0 _ _).trans (teq ((lw_eq w4 (0 : Int64)).mpr hc30_8)).2) ?_
          show Steps p.tables e below (T7.setTop (mkF m 33 #[.val (.ref a1)] [])) _
          refine XS.aloadN X7.here hx rfl (hb hby d4_33) rfl rfl ?_
          show Steps p.tables e below (T7.setTop (mkF m 34 #[.val (.ref a1)] [(.ref a1)])) _
          refine st9 _ ?_
          show Steps p.tables e below (T9.setTop (mkF m 37 #[.val (.ref a1)] [(.long w5)])) _
          refine XS.lconst X9.here hx rfl (hb hby d4_37) ?_
          show Steps p.tables e below (T9.setTop (mkF m 38 #[.val (.ref a1)] [(.long (0 : Int64)), (.long w5)])) _
          refine XS.lcmp X9.here hx rfl (hb hby d4_38) rfl ?_
          show Steps p.tables e below (T9.setTop (mkF m 39 #[.val (.ref a1)] [(.int (lcmpW w5 (0 : Int64)))])) _
          exact k
        by_cases hc39_10 : w5 = (0 : Int64)
        · obtain ⟨T11, X11, e11, st11⟩ := getF X9 hx hZ hown (host := "") (Or.inl (hw _ (List.mem_of_getElem? (i := 30) rfl))) Via.refl e9 F_unbalancedPostings_a1 (g := (mkF m 43 #[.val (.ref a1)] [(.ref a1)])) rfl rfl (hb hby d4_43)
          refine GoalS.lift (B := (T11.setTop (mkF m 48 #[.val (.ref a1)] [(.int (lcmpW w6 (0 : Int64)))]))) (fun t k => ?_) ?_
          · show Steps p.tables e below (T9.setTop (mkF m 39 #[.val (.ref a1)] [(.int (lcmpW w5 (0 : Int64)))])) _
            refine XS.ifNo X9.here hx rfl (hb hby d4_39) rfl ((if0 _ _).trans (teq ((lw_eq w5 (0 : Int64)).mpr hc39_10)).2) ?_
            show Steps p.tables e below (T9.setTop (mkF m 42 #[.val (.ref a1)] [])) _
            refine XS.aloadN X9.here hx rfl (hb hby d4_42) rfl rfl ?_
            show Steps p.tables e below (T9.setTop (mkF m 43 #[.val (.ref a1)] [(.ref a1)])) _
            refine st11 _ ?_
            show Steps p.tables e below (T11.setTop (mkF m 46 #[.val (.ref a1)] [(.long w6)])) _
            refine XS.lconst X11.here hx rfl (hb hby d4_46) ?_
            show Steps p.tables e below (T11.setTop (mkF m 47 #[.val (.ref a1)] [(.long (0 : Int64)), (.long w6)])) _
            refine XS.lcmp X11.here hx rfl (hb hby d4_47) rfl ?_
            show Steps p.tables e below (T11.setTop (mkF m 48 #[.val (.ref a1)] [(.int (lcmpW w6 (0 : Int64)))])) _
            exact k
          by_cases hc48_12 : w6 = (0 : Int64)
          · obtain ⟨fs, hr, hrun, hended, hW, hsame⟩ := X11.leave (v := some (.int (1 : Int32))) (fun h => by rw [Bd.returns] at h; cases h)
            refine ⟨_, _, ?_, hrun, hended, _, _, rfl, ?_, ⟨_, rfl⟩, hW, hsame.mono (by decide) (by decide)⟩
            · show Steps p.tables e below (T11.setTop (mkF m 48 #[.val (.ref a1)] [(.int (lcmpW w6 (0 : Int64)))])) _
              refine XS.ifNo X11.here hx rfl (hb hby d4_48) rfl ((if0 _ _).trans (teq ((lw_eq w6 (0 : Int64)).mpr hc48_12)).2) ?_
              show Steps p.tables e below (T11.setTop (mkF m 51 #[.val (.ref a1)] [])) _
              refine XS.iconst X11.here hx rfl (hb hby d4_51) ?_
              show Steps p.tables e below (T11.setTop (mkF m 52 #[.val (.ref a1)] [(.int (1 : Int32))])) _
              refine XS.goto X11.here hx rfl (pc0 := 52) (pc' := 56) rfl (hb hby d4_52) (by decide) (by decide) ?_
              show Steps p.tables e below (T11.setTop (mkF m 56 #[.val (.ref a1)] [(.int (1 : Int32))])) _
              exact retN X11 hx (t := .boolean) Bd.returns (by simp) (hb hby d4_56) hr
            · show Q4 Z a1 w0 w1 w2 w3 w4 w5 w6 h0 n0 _ T11.heap _
              exact ⟨_, rfl, (by simp only [if_pos hc9_3, if_pos hc21_6, if_pos hc30_8, if_pos hc39_10, if_pos hc48_12]), N0, e11⟩
          · obtain ⟨fs, hr, hrun, hended, hW, hsame⟩ := X11.leave (v := some (.int (0 : Int32))) (fun h => by rw [Bd.returns] at h; cases h)
            refine ⟨_, _, ?_, hrun, hended, _, _, rfl, ?_, ⟨_, rfl⟩, hW, hsame.mono (by decide) (by decide)⟩
            · show Steps p.tables e below (T11.setTop (mkF m 48 #[.val (.ref a1)] [(.int (lcmpW w6 (0 : Int64)))])) _
              refine XS.ifYes X11.here hx rfl (pc0 := 48) (pc' := 55) rfl (hb hby d4_48) rfl ((if0 _ _).trans (feq (fun q => hc48_12 ((lw_eq w6 (0 : Int64)).mp q))).2) (by decide) (by decide) ?_
              show Steps p.tables e below (T11.setTop (mkF m 55 #[.val (.ref a1)] [])) _
              refine XS.iconst X11.here hx rfl (hb hby d4_55) ?_
              show Steps p.tables e below (T11.setTop (mkF m 56 #[.val (.ref a1)] [(.int (0 : Int32))])) _
              exact retN X11 hx (t := .boolean) Bd.returns (by simp) (hb hby d4_56) hr
            · show Q4 Z a1 w0 w1 w2 w3 w4 w5 w6 h0 n0 _ T11.heap _
              exact ⟨_, rfl, (by simp only [if_pos hc9_3, if_pos hc21_6, if_pos hc30_8, if_pos hc39_10, if_neg hc48_12]), N0, e11⟩
        · obtain ⟨fs, hr, hrun, hended, hW, hsame⟩ := X9.leave (v := some (.int (0 : Int32))) (fun h => by rw [Bd.returns] at h; cases h)
          refine ⟨_, _, ?_, hrun, hended, _, _, rfl, ?_, ⟨_, rfl⟩, hW, hsame.mono (by decide) (by decide)⟩
          · show Steps p.tables e below (T9.setTop (mkF m 39 #[.val (.ref a1)] [(.int (lcmpW w5 (0 : Int64)))])) _
            refine XS.ifYes X9.here hx rfl (pc0 := 39) (pc' := 55) rfl (hb hby d4_39) rfl ((if0 _ _).trans (feq (fun q => hc39_10 ((lw_eq w5 (0 : Int64)).mp q))).2) (by decide) (by decide) ?_
            show Steps p.tables e below (T9.setTop (mkF m 55 #[.val (.ref a1)] [])) _
            refine XS.iconst X9.here hx rfl (hb hby d4_55) ?_
            show Steps p.tables e below (T9.setTop (mkF m 56 #[.val (.ref a1)] [(.int (0 : Int32))])) _
            exact retN X9 hx (t := .boolean) Bd.returns (by simp) (hb hby d4_56) hr
          · show Q4 Z a1 w0 w1 w2 w3 w4 w5 w6 h0 n0 _ T9.heap _
            exact ⟨_, rfl, (by simp only [if_pos hc9_3, if_pos hc21_6, if_pos hc30_8, if_neg hc39_10]), N0, e9⟩
      · obtain ⟨fs, hr, hrun, hended, hW, hsame⟩ := X7.leave (v := some (.int (0 : Int32))) (fun h => by rw [Bd.returns] at h; cases h)
        refine ⟨_, _, ?_, hrun, hended, _, _, rfl, ?_, ⟨_, rfl⟩, hW, hsame.mono (by decide) (by decide)⟩
        · show Steps p.tables e below (T7.setTop (mkF m 30 #[.val (.ref a1)] [(.int (lcmpW w4 (0 : Int64)))])) _
          refine XS.ifYes X7.here hx rfl (pc0 := 30) (pc' := 55) rfl (hb hby d4_30) rfl ((if0 _ _).trans (feq (fun q => hc30_8 ((lw_eq w4 (0 : Int64)).mp q))).2) (by decide) (by decide) ?_
          show Steps p.tables e below (T7.setTop (mkF m 55 #[.val (.ref a1)] [])) _
          refine XS.iconst X7.here hx rfl (hb hby d4_55) ?_
          show Steps p.tables e below (T7.setTop (mkF m 56 #[.val (.ref a1)] [(.int (0 : Int32))])) _
          exact retN X7 hx (t := .boolean) Bd.returns (by simp) (hb hby d4_56) hr
        · show Q4 Z a1 w0 w1 w2 w3 w4 w5 w6 h0 n0 _ T7.heap _
          exact ⟨_, rfl, (by simp only [if_pos hc9_3, if_pos hc21_6, if_neg hc30_8]), N0, e7⟩
    · obtain ⟨fs, hr, hrun, hended, hW, hsame⟩ := X5.leave (v := some (.int (0 : Int32))) (fun h => by rw [Bd.returns] at h; cases h)
      refine ⟨_, _, ?_, hrun, hended, _, _, rfl, ?_, ⟨_, rfl⟩, hW, hsame.mono (by decide) (by decide)⟩
      · show Steps p.tables e below (T5.setTop (mkF m 21 #[.val (.ref a1)] [(.int (lcmpW w2 w3))])) _
        refine XS.ifYes X5.here hx rfl (pc0 := 21) (pc' := 55) rfl (hb hby d4_21) rfl ((if0 _ _).trans (feq (fun q => hc21_6 ((lw_eq w2 w3).mp q))).2) (by decide) (by decide) ?_
        show Steps p.tables e below (T5.setTop (mkF m 55 #[.val (.ref a1)] [])) _
        refine XS.iconst X5.here hx rfl (hb hby d4_55) ?_
        show Steps p.tables e below (T5.setTop (mkF m 56 #[.val (.ref a1)] [(.int (0 : Int32))])) _
        exact retN X5 hx (t := .boolean) Bd.returns (by simp) (hb hby d4_56) hr
      · show Q4 Z a1 w0 w1 w2 w3 w4 w5 w6 h0 n0 _ T5.heap _
        exact ⟨_, rfl, (by simp only [if_pos hc9_3, if_neg hc21_6]), N0, e5⟩
  · obtain ⟨fs, hr, hrun, hended, hW, hsame⟩ := X2.leave (v := some (.int (0 : Int32))) (fun h => by rw [Bd.returns] at h; cases h)
    refine ⟨_, _, ?_, hrun, hended, _, _, rfl, ?_, ⟨_, rfl⟩, hW, hsame.mono (by decide) (by decide)⟩
    · show Steps p.tables e below (T2.setTop (mkF m 9 #[.val (.ref a1)] [(.int (lcmpW w0 w1))])) _
      refine XS.ifYes X2.here hx rfl (pc0 := 9) (pc' := 55) rfl (hb hby d4_9) rfl ((if0 _ _).trans (feq (fun q => hc9_3 ((lw_eq w0 w1).mp q))).2) (by decide) (by decide) ?_
      show Steps p.tables e below (T2.setTop (mkF m 55 #[.val (.ref a1)] [])) _
      refine XS.iconst X2.here hx rfl (hb hby d4_55) ?_
      show Steps p.tables e below (T2.setTop (mkF m 56 #[.val (.ref a1)] [(.int (0 : Int32))])) _
      exact retN X2 hx (t := .boolean) Bd.returns (by simp) (hb hby d4_56) hr
    · show Q4 Z a1 w0 w1 w2 w3 w4 w5 w6 h0 n0 _ T2.heap _
      exact ⟨_, rfl, (by simp only [if_neg hc9_3]), N0, e2⟩
theorem pn_2 : plainName "com/example/rialto/rialto/core/VerificationOkPinLaw" = true := by first | (simp [plainName, overriddenIn]; done) | decide +kernel
theorem pd_1 : parseMethodDescriptor "(JJJJJJJ)V" = some ⟨[.long, .long, .long, .long, .long, .long, .long], none⟩ := by decide +kernel
theorem pd_2 : parseMethodDescriptor "()Z" = some ⟨[], some .boolean⟩ := by decide +kernel
theorem ef_rm0 (m : MethodId) (q1 : Int64) (q2 : Int64) (q3 : Int64) (q4 : Int64) (q5 : Int64) (q6 : Int64) : entryFrame m #[(.long q1), (.long q2), (.long q3), (.long q4), (.long q5), (.long q6)] maxLocals = mkF m 0 #[.val (.long q1), .second, .val (.long q2), .second, .val (.long q3), .second, .val (.long q4), .second, .val (.long q5), .second, .val (.long q6), .second, .unset, .unset, .unset, .unset, .unset, .unset, .unset, .unset, .unset, .unset, .unset, .unset, .unset, .unset, .unset, .unset] [] := by first | (simp [entryFrame, mkF, argsToLocals, Value.category, maxLocals]; done) | rfl
def Q0 (Z : State) (q1 : Int64) (q2 : Int64) (q3 : Int64) (q4 : Int64) (q5 : Int64) (q6 : Int64) (h0 : Heap) (n0 : Nat) (v : Option Value) (h : Heap) (L : List Loc) : Prop := v = some (.int (1 : Int32)) ∧ Fr n0 L
set_option maxRecDepth 65536 in
set_option maxHeartbeats 40000000 in
theorem rm0 (l : Launch) (Z : State) (a0 : Array Value) (hw : ∀ d ∈ tables_1, d.before a0 Z = true) (ws : List Jvm.Cond) (q1 : Int64) (q2 : Int64) (q3 : Int64) (q4 : Int64) (q5 : Int64) (q6 : Int64) (h0 : Heap) (n0 : Nat) (Z0 : n0 ≤ h0.size) :
    MetFree l x (head1 (Jvm.Cond.code x code maxLocals ret :: ws) room_1) (fun a U => a = #[(.long q1), (.long q2), (.long q3), (.long q4), (.long q5), (.long q6)] ∧ Z.Warmed39 U.vm ∧ U.heap = h0) (fun _ _ _ _ _ => True) (fun _ U o U' => ∃ v L, o = .returned v ∧ Q0 Z q1 q2 q3 q4 q5 q6 h0 n0 v U'.heap L ∧ FrameEnd U o U' L 16 128) := by
  refine MetFree.of_bodySF (plainFor_of_name pn_2) hisR ?_
  intro p e s m args below meth c s₁ Bd hml0 hP hK
  obtain ⟨rfl, hZ, hh⟩ := hP
  have hx := Bd.exec
  have hby := Bd.bytes
  have hml : c.maxLocals = 28 := hml0
  have hown : s.vm.findClass "com/example/rialto/rialto/core/VerificationOkPinLaw" = some m.cls := findClass_of_methodNamed Bd.named
  have hnm := (name_of_methodNamed Bd.named Bd.method).1
  have X0 : Stand p l e room_1 s m #[(.long q1), (.long q2), (.long q3), (.long q4), (.long q5), (.long q6)] below meth c s₁ [] 0 0 := Stand.of_body Bd
  have e0 : s₁.heap = h0 := by rw [← hh, Bd.state]; rfl
  have N0 := Fr.nil n0
  show GoalS p.tables e below s 16 128 (Q0 Z q1 q2 q3 q4 q5 q6 h0 n0) (s₁.setTop (entryFrame m #[(.long q1), (.long q2), (.long q3), (.long q4), (.long q5), (.long q6)] maxLocals))
  refine GoalS.lift (B := s₁.setTop (mkF m 0 #[.val (.long q1), .second, .val (.long q2), .second, .val (.long q3), .second, .val (.long q4), .second, .val (.long q5), .second, .val (.long q6), .second, .unset, .unset, .unset, .unset, .unset, .unset, .unset, .unset, .unset, .unset, .unset, .unset, .unset, .unset, .unset, .unset] [])) (fun t k => castTop (ef_rm0 m q1 q2 q3 q4 q5 q6) k) ?_
  refine GoalS.lift (B := (s₁.setTop (mkF m 9 #[.val (.long q1), .second, .val (.long q2), .second, .val (.long q3), .second, .val (.long q4), .second, .val (.long q5), .second, .val (.long q6), .second, .val (.long q1), .second, .unset, .unset, .unset, .unset, .unset, .unset, .unset, .unset, .unset, .unset, .unset, .unset, .unset, .unset] [(.int (lcmpW (q6 &&& (1 : Int64)) (0 : Int64)))]))) (fun t k => ?_) ?_
  · show Steps p.tables e below (s₁.setTop (mkF m 0 #[.val (.long q1), .second, .val (.long q2), .second, .val (.long q3), .second, .val (.long q4), .second, .val (.long q5), .second, .val (.long q6), .second, .unset, .unset, .unset, .unset, .unset, .unset, .unset, .unset, .unset, .unset, .unset, .unset, .unset, .unset, .unset, .unset] [])) _
    refine XS.lloadN X0.here hx rfl (hb hby at_0) rfl ?_
    show Steps p.tables e below (s₁.setTop (mkF m 1 #[.val (.long q1), .second, .val (.long q2), .second, .val (.long q3), .second, .val (.long q4), .second, .val (.long q5), .second, .val (.long q6), .second, .unset, .unset, .unset, .unset, .unset, .unset, .unset, .unset, .unset, .unset, .unset, .unset, .unset, .unset, .unset, .unset] [(.long q1)])) _
    refine XS.lstore X0.here hx rfl (hb hby at_1) rfl (l' := #[.val (.long q1), .second, .val (.long q2), .second, .val (.long q3), .second, .val (.long q4), .second, .val (.long q5), .second, .val (.long q6), .second, .val (.long q1), .second, .unset, .unset, .unset, .unset, .unset, .unset, .unset, .unset, .unset, .unset, .unset, .unset, .unset, .unset]) rfl ?_
    show Steps p.tables e below (s₁.setTop (mkF m 3 #[.val (.long q1), .second, .val (.long q2), .second, .val (.long q3), .second, .val (.long q4), .second, .val (.long q5), .second, .val (.long q6), .second, .val (.long q1), .second, .unset, .unset, .unset, .unset, .unset, .unset, .unset, .unset, .unset, .unset, .unset, .unset, .unset, .unset] [])) _
    refine XS.lload X0.here hx rfl (hb hby at_3) rfl ?_
    show Steps p.tables e below (s₁.setTop (mkF m 5 #[.val (.long q1), .second, .val (.long q2), .second, .val (.long q3), .second, .val (.long q4), .second, .val (.long q5), .second, .val (.long q6), .second, .val (.long q1), .second, .unset, .unset, .unset, .unset, .unset, .unset, .unset, .unset, .unset, .unset, .unset, .unset, .unset, .unset] [(.long q6)])) _
    refine XS.lconst X0.here hx rfl (hb hby at_5) ?_
    show Steps p.tables e below (s₁.setTop (mkF m 6 #[.val (.long q1), .second, .val (.long q2), .second, .val (.long q3), .second, .val (.long q4), .second, .val (.long q5), .second, .val (.long q6), .second, .val (.long q1), .second, .unset, .unset, .unset, .unset, .unset, .unset, .unset, .unset, .unset, .unset, .unset, .unset, .unset, .unset] [(.long (1 : Int64)), (.long q6)])) _
    refine XS.land X0.here hx rfl (hb hby at_6) rfl ?_
    show Steps p.tables e below (s₁.setTop (mkF m 7 #[.val (.long q1), .second, .val (.long q2), .second, .val (.long q3), .second, .val (.long q4), .second, .val (.long q5), .second, .val (.long q6), .second, .val (.long q1), .second, .unset, .unset, .unset, .unset, .unset, .unset, .unset, .unset, .unset, .unset, .unset, .unset, .unset, .unset] [(.long (q6 &&& (1 : Int64)))])) _
    refine XS.lconst X0.here hx rfl (hb hby at_7) ?_
    show Steps p.tables e below (s₁.setTop (mkF m 8 #[.val (.long q1), .second, .val (.long q2), .second, .val (.long q3), .second, .val (.long q4), .second, .val (.long q5), .second, .val (.long q6), .second, .val (.long q1), .second, .unset, .unset, .unset, .unset, .unset, .unset, .unset, .unset, .unset, .unset, .unset, .unset, .unset, .unset] [(.long (0 : Int64)), (.long (q6 &&& (1 : Int64)))])) _
    refine XS.lcmp X0.here hx rfl (hb hby at_8) rfl ?_
    show Steps p.tables e below (s₁.setTop (mkF m 9 #[.val (.long q1), .second, .val (.long q2), .second, .val (.long q3), .second, .val (.long q4), .second, .val (.long q5), .second, .val (.long q6), .second, .val (.long q1), .second, .unset, .unset, .unset, .unset, .unset, .unset, .unset, .unset, .unset, .unset, .unset, .unset, .unset, .unset] [(.int (lcmpW (q6 &&& (1 : Int64)) (0 : Int64)))])) _
    exact k
  suffices J9_1 : ∀ (j9_0 : Int64), j9_0 = (if (q6 &&& (1 : Int64)) = (0 : Int64) then q2 else q1) → GoalS p.tables e below s 16 128 (Q0 Z q1 q2 q3 q4 q5 q6 h0 n0) (s₁.setTop (mkF m 17 #[.val (.long q1), .second, .val (.long q2), .second, .val (.long q3), .second, .val (.long q4), .second, .val (.long q5), .second, .val (.long q6), .second, .val (.long q1), .second, .unset, .unset, .unset, .unset, .unset, .unset, .unset, .unset, .unset, .unset, .unset, .unset, .unset, .unset] [(.long j9_0)])) by
    by_cases hc9_2 : (q6 &&& (1 : Int64)) = (0 : Int64)
    · refine GoalS.lift (B := (s₁.setTop (mkF m 17 #[.val (.long q1), .second, .val (.long q2), .second, .val (.long q3), .second, .val (.long q4), .second, .val (.long q5), .second, .val (.long q6), .second, .val (.long q1), .second, .unset, .unset, .unset, .unset, .unset, .unset, .unset, .unset, .unset, .unset, .unset, .unset, .unset, .unset] [(.long q2)]))) (fun t k => ?_) ?_
      · show Steps p.tables e below (s₁.setTop (mkF m 9 #[.val (.long q1), .second, .val (.long q2), .second, .val (.long q3), .second, .val (.long q4), .second, .val (.long q5), .second, .val (.long q6), .second, .val (.long q1), .second, .unset, .unset, .unset, .unset, .unset, .unset, .unset, .unset, .unset, .unset, .unset, .unset, .unset, .unset] [(.int (lcmpW (q6 &&& (1 : Int64)) (0 : Int64)))])) _
        refine XS.ifYes X0.here hx rfl (pc0 := 9) (pc' := 16) rfl (hb hby at_9) rfl ((if0 _ _).trans (teq ((lw_eq (q6 &&& (1 : Int64)) (0 : Int64)).mpr hc9_2)).1) (by decide) (by decide) ?_
        show Steps p.tables e below (s₁.setTop (mkF m 16 #[.val (.long q1), .second, .val (.long q2), .second, .val (.long q3), .second, .val (.long q4), .second, .val (.long q5), .second, .val (.long q6), .second, .val (.long q1), .second, .unset, .unset, .unset, .unset, .unset, .unset, .unset, .unset, .unset, .unset, .unset, .unset, .unset, .unset] [])) _
        refine XS.lloadN X0.here hx rfl (hb hby at_16) rfl ?_
        show Steps p.tables e below (s₁.setTop (mkF m 17 #[.val (.long q1), .second, .val (.long q2), .second, .val (.long q3), .second, .val (.long q4), .second, .val (.long q5), .second, .val (.long q6), .second, .val (.long q1), .second, .unset, .unset, .unset, .unset, .unset, .unset, .unset, .unset, .unset, .unset, .unset, .unset, .unset, .unset] [(.long q2)])) _
        exact k
      exact J9_1 _ (by simp only [if_pos hc9_2])
    · refine GoalS.lift (B := (s₁.setTop (mkF m 17 #[.val (.long q1), .second, .val (.long q2), .second, .val (.long q3), .second, .val (.long q4), .second, .val (.long q5), .second, .val (.long q6), .second, .val (.long q1), .second, .unset, .unset, .unset, .unset, .unset, .unset, .unset, .unset, .unset, .unset, .unset, .unset, .unset, .unset] [(.long q1)]))) (fun t k => ?_) ?_
      · show Steps p.tables e below (s₁.setTop (mkF m 9 #[.val (.long q1), .second, .val (.long q2), .second, .val (.long q3), .second, .val (.long q4), .second, .val (.long q5), .second, .val (.long q6), .second, .val (.long q1), .second, .unset, .unset, .unset, .unset, .unset, .unset, .unset, .unset, .unset, .unset, .unset, .unset, .unset, .unset] [(.int (lcmpW (q6 &&& (1 : Int64)) (0 : Int64)))])) _
        refine XS.ifNo X0.here hx rfl (hb hby at_9) rfl ((if0 _ _).trans (feq (fun q => hc9_2 ((lw_eq (q6 &&& (1 : Int64)) (0 : Int64)).mp q))).1) ?_
        show Steps p.tables e below (s₁.setTop (mkF m 12 #[.val (.long q1), .second, .val (.long q2), .second, .val (.long q3), .second, .val (.long q4), .second, .val (.long q5), .second, .val (.long q6), .second, .val (.long q1), .second, .unset, .unset, .unset, .unset, .unset, .unset, .unset, .unset, .unset, .unset, .unset, .unset, .unset, .unset] [])) _
        refine XS.lloadN X0.here hx rfl (hb hby at_12) rfl ?_
        show Steps p.tables e below (s₁.setTop (mkF m 13 #[.val (.long q1), .second, .val (.long q2), .second, .val (.long q3), .second, .val (.long q4), .second, .val (.long q5), .second, .val (.long q6), .second, .val (.long q1), .second, .unset, .unset, .unset, .unset, .unset, .unset, .unset, .unset, .unset, .unset, .unset, .unset, .unset, .unset] [(.long q1)])) _
        refine XS.goto X0.here hx rfl (pc0 := 13) (pc' := 17) rfl (hb hby at_13) (by decide) (by decide) ?_
        show Steps p.tables e below (s₁.setTop (mkF m 17 #[.val (.long q1), .second, .val (.long q2), .second, .val (.long q3), .second, .val (.long q4), .second, .val (.long q5), .second, .val (.long q6), .second, .val (.long q1), .second, .unset, .unset, .unset, .unset, .unset, .unset, .unset, .unset, .unset, .unset, .unset, .unset, .unset, .unset] [(.long q1)])) _
        exact k
      exact J9_1 _ (by simp only [if_neg hc9_2])
  intro j9_0 h_j9_0
  refine GoalS.lift (B := (s₁.setTop (mkF m 31 #[.val (.long q1), .second, .val (.long q2), .second, .val (.long q3), .second, .val (.long q4), .second, .val (.long q5), .second, .val (.long q6), .second, .val (.long q1), .second, .val (.long j9_0), .second, .val (.long q3), .second, .unset, .unset, .unset, .unset, .unset, .unset, .unset, .unset, .unset, .unset] [(.int (lcmpW (q6 &&& (2 : Int64)) (0 : Int64)))]))) (fun t k => ?_) ?_
  · show Steps p.tables e below (s₁.setTop (mkF m 17 #[.val (.long q1), .second, .val (.long q2), .second, .val (.long q3), .second, .val (.long q4), .second, .val (.long q5), .second, .val (.long q6), .second, .val (.long q1), .second, .unset, .unset, .unset, .unset, .unset, .unset, .unset, .unset, .unset, .unset, .unset, .unset, .unset, .unset] [(.long j9_0)])) _
    refine XS.lstore X0.here hx rfl (hb hby at_17) rfl (l' := #[.val (.long q1), .second, .val (.long q2), .second, .val (.long q3), .second, .val (.long q4), .second, .val (.long q5), .second, .val (.long q6), .second, .val (.long q1), .second, .val (.long j9_0), .second, .unset, .unset, .unset, .unset, .unset, .unset, .unset, .unset, .unset, .unset, .unset, .unset]) rfl ?_
    show Steps p.tables e below (s₁.setTop (mkF m 19 #[.val (.long q1), .second, .val (.long q2), .second, .val (.long q3), .second, .val (.long q4), .second, .val (.long q5), .second, .val (.long q6), .second, .val (.long q1), .second, .val (.long j9_0), .second, .unset, .unset, .unset, .unset, .unset, .unset, .unset, .unset, .unset, .unset, .unset, .unset] [])) _
    refine XS.lload X0.here hx rfl (hb hby at_19) rfl ?_
    show Steps p.tables e below (s₁.setTop (mkF m 21 #[.val (.long q1), .second, .val (.long q2), .second, .val (.long q3), .second, .val (.long q4), .second, .val (.long q5), .second, .val (.long q6), .second, .val (.long q1), .second, .val (.long j9_0), .second, .unset, .unset, .unset, .unset, .unset, .unset, .unset, .unset, .unset, .unset, .unset, .unset] [(.long q3)])) _
    refine XS.lstore X0.here hx rfl (hb hby at_21) rfl (l' := #[.val (.long q1), .second, .val (.long q2), .second, .val (.long q3), .second, .val (.long q4), .second, .val (.long q5), .second, .val (.long q6), .second, .val (.long q1), .second, .val (.long j9_0), .second, .val (.long q3), .second, .unset, .unset, .unset, .unset, .unset, .unset, .unset, .unset, .unset, .unset]) rfl ?_
    show Steps p.tables e below (s₁.setTop (mkF m 23 #[.val (.long q1), .second, .val (.long q2), .second, .val (.long q3), .second, .val (.long q4), .second, .val (.long q5), .second, .val (.long q6), .second, .val (.long q1), .second, .val (.long j9_0), .second, .val (.long q3), .second, .unset, .unset, .unset, .unset, .unset, .unset, .unset, .unset, .unset, .unset] [])) _
    refine XS.lload X0.here hx rfl (hb hby at_23) rfl ?_
    show Steps p.tables e below (s₁.setTop (mkF m 25 #[.val (.long q1), .second, .val (.long q2), .second, .val (.long q3), .second, .val (.long q4), .second, .val (.long q5), .second, .val (.long q6), .second, .val (.long q1), .second, .val (.long j9_0), .second, .val (.long q3), .second, .unset, .unset, .unset, .unset, .unset, .unset, .unset, .unset, .unset, .unset] [(.long q6)])) _
    refine X0.ldc2Long hx hown (mvT hZ (hw _ (List.mem_of_getElem? (i := 0) rfl))) (g := (mkF m 25 #[.val (.long q1), .second, .val (.long q2), .second, .val (.long q3), .second, .val (.long q4), .second, .val (.long q5), .second, .val (.long q6), .second, .val (.long q1), .second, .val (.long j9_0), .second, .val (.long q3), .second, .unset, .unset, .unset, .unset, .unset, .unset, .unset, .unset, .unset, .unset] [(.long q6)])) rfl (hb hby at_25) _ ?_
    show Steps p.tables e below (s₁.setTop (mkF m 28 #[.val (.long q1), .second, .val (.long q2), .second, .val (.long q3), .second, .val (.long q4), .second, .val (.long q5), .second, .val (.long q6), .second, .val (.long q1), .second, .val (.long j9_0), .second, .val (.long q3), .second, .unset, .unset, .unset, .unset, .unset, .unset, .unset, .unset, .unset, .unset] [(.long (2 : Int64)), (.long q6)])) _
    refine XS.land X0.here hx rfl (hb hby at_28) rfl ?_
    show Steps p.tables e below (s₁.setTop (mkF m 29 #[.val (.long q1), .second, .val (.long q2), .second, .val (.long q3), .second, .val (.long q4), .second, .val (.long q5), .second, .val (.long q6), .second, .val (.long q1), .second, .val (.long j9_0), .second, .val (.long q3), .second, .unset, .unset, .unset, .unset, .unset, .unset, .unset, .unset, .unset, .unset] [(.long (q6 &&& (2 : Int64)))])) _
    refine XS.lconst X0.here hx rfl (hb hby at_29) ?_
    show Steps p.tables e below (s₁.setTop (mkF m 30 #[.val (.long q1), .second, .val (.long q2), .second, .val (.long q3), .second, .val (.long q4), .second, .val (.long q5), .second, .val (.long q6), .second, .val (.long q1), .second, .val (.long j9_0), .second, .val (.long q3), .second, .unset, .unset, .unset, .unset, .unset, .unset, .unset, .unset, .unset, .unset] [(.long (0 : Int64)), (.long (q6 &&& (2 : Int64)))])) _
    refine XS.lcmp X0.here hx rfl (hb hby at_30) rfl ?_
    show Steps p.tables e below (s₁.setTop (mkF m 31 #[.val (.long q1), .second, .val (.long q2), .second, .val (.long q3), .second, .val (.long q4), .second, .val (.long q5), .second, .val (.long q6), .second, .val (.long q1), .second, .val (.long j9_0), .second, .val (.long q3), .second, .unset, .unset, .unset, .unset, .unset, .unset, .unset, .unset, .unset, .unset] [(.int (lcmpW (q6 &&& (2 : Int64)) (0 : Int64)))])) _
    exact k
  suffices J31_3 : ∀ (j31_0 : Int64), j31_0 = (if (q6 &&& (2 : Int64)) = (0 : Int64) then q4 else q3) → GoalS p.tables e below s 16 128 (Q0 Z q1 q2 q3 q4 q5 q6 h0 n0) (s₁.setTop (mkF m 41 #[.val (.long q1), .second, .val (.long q2), .second, .val (.long q3), .second, .val (.long q4), .second, .val (.long q5), .second, .val (.long q6), .second, .val (.long q1), .second, .val (.long j9_0), .second, .val (.long q3), .second, .unset, .unset, .unset, .unset, .unset, .unset, .unset, .unset, .unset, .unset] [(.long j31_0)])) by
    by_cases hc31_4 : (q6 &&& (2 : Int64)) = (0 : Int64)
    · refine GoalS.lift (B := (s₁.setTop (mkF m 41 #[.val (.long q1), .second, .val (.long q2), .second, .val (.long q3), .second, .val (.long q4), .second, .val (.long q5), .second, .val (.long q6), .second, .val (.long q1), .second, .val (.long j9_0), .second, .val (.long q3), .second, .unset, .unset, .unset, .unset, .unset, .unset, .unset, .unset, .unset, .unset] [(.long q4)]))) (fun t k => ?_) ?_
      · show Steps p.tables e below (s₁.setTop (mkF m 31 #[.val (.long q1), .second, .val (.long q2), .second, .val (.long q3), .second, .val (.long q4), .second, .val (.long q5), .second, .val (.long q6), .second, .val (.long q1), .second, .val (.long j9_0), .second, .val (.long q3), .second, .unset, .unset, .unset, .unset, .unset, .unset, .unset, .unset, .unset, .unset] [(.int (lcmpW (q6 &&& (2 : Int64)) (0 : Int64)))])) _
        refine XS.ifYes X0.here hx rfl (pc0 := 31) (pc' := 39) rfl (hb hby at_31) rfl ((if0 _ _).trans (teq ((lw_eq (q6 &&& (2 : Int64)) (0 : Int64)).mpr hc31_4)).1) (by decide) (by decide) ?_
        show Steps p.tables e below (s₁.setTop (mkF m 39 #[.val (.long q1), .second, .val (.long q2), .second, .val (.long q3), .second, .val (.long q4), .second, .val (.long q5), .second, .val (.long q6), .second, .val (.long q1), .second, .val (.long j9_0), .second, .val (.long q3), .second, .unset, .unset, .unset, .unset, .unset, .unset, .unset, .unset, .unset, .unset] [])) _
        refine XS.lload X0.here hx rfl (hb hby at_39) rfl ?_
        show Steps p.tables e below (s₁.setTop (mkF m 41 #[.val (.long q1), .second, .val (.long q2), .second, .val (.long q3), .second, .val (.long q4), .second, .val (.long q5), .second, .val (.long q6), .second, .val (.long q1), .second, .val (.long j9_0), .second, .val (.long q3), .second, .unset, .unset, .unset, .unset, .unset, .unset, .unset, .unset, .unset, .unset] [(.long q4)])) _
        exact k
      exact J31_3 _ (by simp only [if_pos hc31_4])
    · refine GoalS.lift (B := (s₁.setTop (mkF m 41 #[.val (.long q1), .second, .val (.long q2), .second, .val (.long q3), .second, .val (.long q4), .second, .val (.long q5), .second, .val (.long q6), .second, .val (.long q1), .second, .val (.long j9_0), .second, .val (.long q3), .second, .unset, .unset, .unset, .unset, .unset, .unset, .unset, .unset, .unset, .unset] [(.long q3)]))) (fun t k => ?_) ?_
      · show Steps p.tables e below (s₁.setTop (mkF m 31 #[.val (.long q1), .second, .val (.long q2), .second, .val (.long q3), .second, .val (.long q4), .second, .val (.long q5), .second, .val (.long q6), .second, .val (.long q1), .second, .val (.long j9_0), .second, .val (.long q3), .second, .unset, .unset, .unset, .unset, .unset, .unset, .unset, .unset, .unset, .unset] [(.int (lcmpW (q6 &&& (2 : Int64)) (0 : Int64)))])) _
        refine XS.ifNo X0.here hx rfl (hb hby at_31) rfl ((if0 _ _).trans (feq (fun q => hc31_4 ((lw_eq (q6 &&& (2 : Int64)) (0 : Int64)).mp q))).1) ?_
        show Steps p.tables e below (s₁.setTop (mkF m 34 #[.val (.long q1), .second, .val (.long q2), .second, .val (.long q3), .second, .val (.long q4), .second, .val (.long q5), .second, .val (.long q6), .second, .val (.long q1), .second, .val (.long j9_0), .second, .val (.long q3), .second, .unset, .unset, .unset, .unset, .unset, .unset, .unset, .unset, .unset, .unset] [])) _
        refine XS.lload X0.here hx rfl (hb hby at_34) rfl ?_
        show Steps p.tables e below (s₁.setTop (mkF m 36 #[.val (.long q1), .second, .val (.long q2), .second, .val (.long q3), .second, .val (.long q4), .second, .val (.long q5), .second, .val (.long q6), .second, .val (.long q1), .second, .val (.long j9_0), .second, .val (.long q3), .second, .unset, .unset, .unset, .unset, .unset, .unset, .unset, .unset, .unset, .unset] [(.long q3)])) _
        refine XS.goto X0.here hx rfl (pc0 := 36) (pc' := 41) rfl (hb hby at_36) (by decide) (by decide) ?_
        show Steps p.tables e below (s₁.setTop (mkF m 41 #[.val (.long q1), .second, .val (.long q2), .second, .val (.long q3), .second, .val (.long q4), .second, .val (.long q5), .second, .val (.long q6), .second, .val (.long q1), .second, .val (.long j9_0), .second, .val (.long q3), .second, .unset, .unset, .unset, .unset, .unset, .unset, .unset, .unset, .unset, .unset] [(.long q3)])) _
        exact k
      exact J31_3 _ (by simp only [if_neg hc31_4])
  intro j31_0 h_j31_0
  refine GoalS.lift (B := (s₁.setTop (mkF m 51 #[.val (.long q1), .second, .val (.long q2), .second, .val (.long q3), .second, .val (.long q4), .second, .val (.long q5), .second, .val (.long q6), .second, .val (.long q1), .second, .val (.long j9_0), .second, .val (.long q3), .second, .val (.long j31_0), .second, .unset, .unset, .unset, .unset, .unset, .unset, .unset, .unset] [(.int (lcmpW (q6 &&& (4 : Int64)) (0 : Int64)))]))) (fun t k => ?_) ?_
  · show Steps p.tables e below (s₁.setTop (mkF m 41 #[.val (.long q1), .second, .val (.long q2), .second, .val (.long q3), .second, .val (.long q4), .second, .val (.long q5), .second, .val (.long q6), .second, .val (.long q1), .second, .val (.long j9_0), .second, .val (.long q3), .second, .unset, .unset, .unset, .unset, .unset, .unset, .unset, .unset, .unset, .unset] [(.long j31_0)])) _
    refine XS.lstore X0.here hx rfl (hb hby at_41) rfl (l' := #[.val (.long q1), .second, .val (.long q2), .second, .val (.long q3), .second, .val (.long q4), .second, .val (.long q5), .second, .val (.long q6), .second, .val (.long q1), .second, .val (.long j9_0), .second, .val (.long q3), .second, .val (.long j31_0), .second, .unset, .unset, .unset, .unset, .unset, .unset, .unset, .unset]) rfl ?_
    show Steps p.tables e below (s₁.setTop (mkF m 43 #[.val (.long q1), .second, .val (.long q2), .second, .val (.long q3), .second, .val (.long q4), .second, .val (.long q5), .second, .val (.long q6), .second, .val (.long q1), .second, .val (.long j9_0), .second, .val (.long q3), .second, .val (.long j31_0), .second, .unset, .unset, .unset, .unset, .unset, .unset, .unset, .unset] [])) _
    refine XS.lload X0.here hx rfl (hb hby at_43) rfl ?_
    show Steps p.tables e below (s₁.setTop (mkF m 45 #[.val (.long q1), .second, .val (.long q2), .second, .val (.long q3), .second, .val (.long q4), .second, .val (.long q5), .second, .val (.long q6), .second, .val (.long q1), .second, .val (.long j9_0), .second, .val (.long q3), .second, .val (.long j31_0), .second, .unset, .unset, .unset, .unset, .unset, .unset, .unset, .unset] [(.long q6)])) _
    refine X0.ldc2Long hx hown (mvT hZ (hw _ (List.mem_of_getElem? (i := 1) rfl))) (g := (mkF m 45 #[.val (.long q1), .second, .val (.long q2), .second, .val (.long q3), .second, .val (.long q4), .second, .val (.long q5), .second, .val (.long q6), .second, .val (.long q1), .second, .val (.long j9_0), .second, .val (.long q3), .second, .val (.long j31_0), .second, .unset, .unset, .unset, .unset, .unset, .unset, .unset, .unset] [(.long q6)])) rfl (hb hby at_45) _ ?_
    show Steps p.tables e below (s₁.setTop (mkF m 48 #[.val (.long q1), .second, .val (.long q2), .second, .val (.long q3), .second, .val (.long q4), .second, .val (.long q5), .second, .val (.long q6), .second, .val (.long q1), .second, .val (.long j9_0), .second, .val (.long q3), .second, .val (.long j31_0), .second, .unset, .unset, .unset, .unset, .unset, .unset, .unset, .unset] [(.long (4 : Int64)), (.long q6)])) _
    refine XS.land X0.here hx rfl (hb hby at_48) rfl ?_
    show Steps p.tables e below (s₁.setTop (mkF m 49 #[.val (.long q1), .second, .val (.long q2), .second, .val (.long q3), .second, .val (.long q4), .second, .val (.long q5), .second, .val (.long q6), .second, .val (.long q1), .second, .val (.long j9_0), .second, .val (.long q3), .second, .val (.long j31_0), .second, .unset, .unset, .unset, .unset, .unset, .unset, .unset, .unset] [(.long (q6 &&& (4 : Int64)))])) _
    refine XS.lconst X0.here hx rfl (hb hby at_49) ?_
    show Steps p.tables e below (s₁.setTop (mkF m 50 #[.val (.long q1), .second, .val (.long q2), .second, .val (.long q3), .second, .val (.long q4), .second, .val (.long q5), .second, .val (.long q6), .second, .val (.long q1), .second, .val (.long j9_0), .second, .val (.long q3), .second, .val (.long j31_0), .second, .unset, .unset, .unset, .unset, .unset, .unset, .unset, .unset] [(.long (0 : Int64)), (.long (q6 &&& (4 : Int64)))])) _
    refine XS.lcmp X0.here hx rfl (hb hby at_50) rfl ?_
    show Steps p.tables e below (s₁.setTop (mkF m 51 #[.val (.long q1), .second, .val (.long q2), .second, .val (.long q3), .second, .val (.long q4), .second, .val (.long q5), .second, .val (.long q6), .second, .val (.long q1), .second, .val (.long j9_0), .second, .val (.long q3), .second, .val (.long j31_0), .second, .unset, .unset, .unset, .unset, .unset, .unset, .unset, .unset] [(.int (lcmpW (q6 &&& (4 : Int64)) (0 : Int64)))])) _
    exact k
  suffices J51_5 : ∀ (j51_0 : Int64), j51_0 = (if (q6 &&& (4 : Int64)) = (0 : Int64) then q5 else (0 : Int64)) → GoalS p.tables e below s 16 128 (Q0 Z q1 q2 q3 q4 q5 q6 h0 n0) (s₁.setTop (mkF m 60 #[.val (.long q1), .second, .val (.long q2), .second, .val (.long q3), .second, .val (.long q4), .second, .val (.long q5), .second, .val (.long q6), .second, .val (.long q1), .second, .val (.long j9_0), .second, .val (.long q3), .second, .val (.long j31_0), .second, .unset, .unset, .unset, .unset, .unset, .unset, .unset, .unset] [(.long j51_0)])) by
    by_cases hc51_6 : (q6 &&& (4 : Int64)) = (0 : Int64)
    · refine GoalS.lift (B := (s₁.setTop (mkF m 60 #[.val (.long q1), .second, .val (.long q2), .second, .val (.long q3), .second, .val (.long q4), .second, .val (.long q5), .second, .val (.long q6), .second, .val (.long q1), .second, .val (.long j9_0), .second, .val (.long q3), .second, .val (.long j31_0), .second, .unset, .unset, .unset, .unset, .unset, .unset, .unset, .unset] [(.long q5)]))) (fun t k => ?_) ?_
      · show Steps p.tables e below (s₁.setTop (mkF m 51 #[.val (.long q1), .second, .val (.long q2), .second, .val (.long q3), .second, .val (.long q4), .second, .val (.long q5), .second, .val (.long q6), .second, .val (.long q1), .second, .val (.long j9_0), .second, .val (.long q3), .second, .val (.long j31_0), .second, .unset, .unset, .unset, .unset, .unset, .unset, .unset, .unset] [(.int (lcmpW (q6 &&& (4 : Int64)) (0 : Int64)))])) _
        refine XS.ifYes X0.here hx rfl (pc0 := 51) (pc' := 58) rfl (hb hby at_51) rfl ((if0 _ _).trans (teq ((lw_eq (q6 &&& (4 : Int64)) (0 : Int64)).mpr hc51_6)).1) (by decide) (by decide) ?_
        show Steps p.tables e below (s₁.setTop (mkF m 58 #[.val (.long q1), .second, .val (.long q2), .second, .val (.long q3), .second, .val (.long q4), .second, .val (.long q5), .second, .val (.long q6), .second, .val (.long q1), .second, .val (.long j9_0), .second, .val (.long q3), .second, .val (.long j31_0), .second, .unset, .unset, .unset, .unset, .unset, .unset, .unset, .unset] [])) _
        refine XS.lload X0.here hx rfl (hb hby at_58) rfl ?_
        show Steps p.tables e below (s₁.setTop (mkF m 60 #[.val (.long q1), .second, .val (.long q2), .second, .val (.long q3), .second, .val (.long q4), .second, .val (.long q5), .second, .val (.long q6), .second, .val (.long q1), .second, .val (.long j9_0), .second, .val (.long q3), .second, .val (.long j31_0), .second, .unset, .unset, .unset, .unset, .unset, .unset, .unset, .unset] [(.long q5)])) _
        exact k
      exact J51_5 _ (by simp only [if_pos hc51_6])
    · refine GoalS.lift (B := (s₁.setTop (mkF m 60 #[.val (.long q1), .second, .val (.long q2), .second, .val (.long q3), .second, .val (.long q4), .second, .val (.long q5), .second, .val (.long q6), .second, .val (.long q1), .second, .val (.long j9_0), .second, .val (.long q3), .second, .val (.long j31_0), .second, .unset, .unset, .unset, .unset, .unset, .unset, .unset, .unset] [(.long (0 : Int64))]))) (fun t k => ?_) ?_
      · show Steps p.tables e below (s₁.setTop (mkF m 51 #[.val (.long q1), .second, .val (.long q2), .second, .val (.long q3), .second, .val (.long q4), .second, .val (.long q5), .second, .val (.long q6), .second, .val (.long q1), .second, .val (.long j9_0), .second, .val (.long q3), .second, .val (.long j31_0), .second, .unset, .unset, .unset, .unset, .unset, .unset, .unset, .unset] [(.int (lcmpW (q6 &&& (4 : Int64)) (0 : Int64)))])) _
        refine XS.ifNo X0.here hx rfl (hb hby at_51) rfl ((if0 _ _).trans (feq (fun q => hc51_6 ((lw_eq (q6 &&& (4 : Int64)) (0 : Int64)).mp q))).1) ?_
        show Steps p.tables e below (s₁.setTop (mkF m 54 #[.val (.long q1), .second, .val (.long q2), .second, .val (.long q3), .second, .val (.long q4), .second, .val (.long q5), .second, .val (.long q6), .second, .val (.long q1), .second, .val (.long j9_0), .second, .val (.long q3), .second, .val (.long j31_0), .second, .unset, .unset, .unset, .unset, .unset, .unset, .unset, .unset] [])) _
        refine XS.lconst X0.here hx rfl (hb hby at_54) ?_
        show Steps p.tables e below (s₁.setTop (mkF m 55 #[.val (.long q1), .second, .val (.long q2), .second, .val (.long q3), .second, .val (.long q4), .second, .val (.long q5), .second, .val (.long q6), .second, .val (.long q1), .second, .val (.long j9_0), .second, .val (.long q3), .second, .val (.long j31_0), .second, .unset, .unset, .unset, .unset, .unset, .unset, .unset, .unset] [(.long (0 : Int64))])) _
        refine XS.goto X0.here hx rfl (pc0 := 55) (pc' := 60) rfl (hb hby at_55) (by decide) (by decide) ?_
        show Steps p.tables e below (s₁.setTop (mkF m 60 #[.val (.long q1), .second, .val (.long q2), .second, .val (.long q3), .second, .val (.long q4), .second, .val (.long q5), .second, .val (.long q6), .second, .val (.long q1), .second, .val (.long j9_0), .second, .val (.long q3), .second, .val (.long j31_0), .second, .unset, .unset, .unset, .unset, .unset, .unset, .unset, .unset] [(.long (0 : Int64))])) _
        exact k
      exact J51_5 _ (by simp only [if_neg hc51_6])
  intro j51_0 h_j51_0
  refine GoalS.lift (B := (s₁.setTop (mkF m 70 #[.val (.long q1), .second, .val (.long q2), .second, .val (.long q3), .second, .val (.long q4), .second, .val (.long q5), .second, .val (.long q6), .second, .val (.long q1), .second, .val (.long j9_0), .second, .val (.long q3), .second, .val (.long j31_0), .second, .val (.long j51_0), .second, .unset, .unset, .unset, .unset, .unset, .unset] [(.int (lcmpW (q6 &&& (8 : Int64)) (0 : Int64)))]))) (fun t k => ?_) ?_
  · show Steps p.tables e below (s₁.setTop (mkF m 60 #[.val (.long q1), .second, .val (.long q2), .second, .val (.long q3), .second, .val (.long q4), .second, .val (.long q5), .second, .val (.long q6), .second, .val (.long q1), .second, .val (.long j9_0), .second, .val (.long q3), .second, .val (.long j31_0), .second, .unset, .unset, .unset, .unset, .unset, .unset, .unset, .unset] [(.long j51_0)])) _
    refine XS.lstore X0.here hx rfl (hb hby at_60) rfl (l' := #[.val (.long q1), .second, .val (.long q2), .second, .val (.long q3), .second, .val (.long q4), .second, .val (.long q5), .second, .val (.long q6), .second, .val (.long q1), .second, .val (.long j9_0), .second, .val (.long q3), .second, .val (.long j31_0), .second, .val (.long j51_0), .second, .unset, .unset, .unset, .unset, .unset, .unset]) rfl ?_
    show Steps p.tables e below (s₁.setTop (mkF m 62 #[.val (.long q1), .second, .val (.long q2), .second, .val (.long q3), .second, .val (.long q4), .second, .val (.long q5), .second, .val (.long q6), .second, .val (.long q1), .second, .val (.long j9_0), .second, .val (.long q3), .second, .val (.long j31_0), .second, .val (.long j51_0), .second, .unset, .unset, .unset, .unset, .unset, .unset] [])) _
    refine XS.lload X0.here hx rfl (hb hby at_62) rfl ?_
    show Steps p.tables e below (s₁.setTop (mkF m 64 #[.val (.long q1), .second, .val (.long q2), .second, .val (.long q3), .second, .val (.long q4), .second, .val (.long q5), .second, .val (.long q6), .second, .val (.long q1), .second, .val (.long j9_0), .second, .val (.long q3), .second, .val (.long j31_0), .second, .val (.long j51_0), .second, .unset, .unset, .unset, .unset, .unset, .unset] [(.long q6)])) _
    refine X0.ldc2Long hx hown (mvT hZ (hw _ (List.mem_of_getElem? (i := 2) rfl))) (g := (mkF m 64 #[.val (.long q1), .second, .val (.long q2), .second, .val (.long q3), .second, .val (.long q4), .second, .val (.long q5), .second, .val (.long q6), .second, .val (.long q1), .second, .val (.long j9_0), .second, .val (.long q3), .second, .val (.long j31_0), .second, .val (.long j51_0), .second, .unset, .unset, .unset, .unset, .unset, .unset] [(.long q6)])) rfl (hb hby at_64) _ ?_
    show Steps p.tables e below (s₁.setTop (mkF m 67 #[.val (.long q1), .second, .val (.long q2), .second, .val (.long q3), .second, .val (.long q4), .second, .val (.long q5), .second, .val (.long q6), .second, .val (.long q1), .second, .val (.long j9_0), .second, .val (.long q3), .second, .val (.long j31_0), .second, .val (.long j51_0), .second, .unset, .unset, .unset, .unset, .unset, .unset] [(.long (8 : Int64)), (.long q6)])) _
    refine XS.land X0.here hx rfl (hb hby at_67) rfl ?_
    show Steps p.tables e below (s₁.setTop (mkF m 68 #[.val (.long q1), .second, .val (.long q2), .second, .val (.long q3), .second, .val (.long q4), .second, .val (.long q5), .second, .val (.long q6), .second, .val (.long q1), .second, .val (.long j9_0), .second, .val (.long q3), .second, .val (.long j31_0), .second, .val (.long j51_0), .second, .unset, .unset, .unset, .unset, .unset, .unset] [(.long (q6 &&& (8 : Int64)))])) _
    refine XS.lconst X0.here hx rfl (hb hby at_68) ?_
    show Steps p.tables e below (s₁.setTop (mkF m 69 #[.val (.long q1), .second, .val (.long q2), .second, .val (.long q3), .second, .val (.long q4), .second, .val (.long q5), .second, .val (.long q6), .second, .val (.long q1), .second, .val (.long j9_0), .second, .val (.long q3), .second, .val (.long j31_0), .second, .val (.long j51_0), .second, .unset, .unset, .unset, .unset, .unset, .unset] [(.long (0 : Int64)), (.long (q6 &&& (8 : Int64)))])) _
    refine XS.lcmp X0.here hx rfl (hb hby at_69) rfl ?_
    show Steps p.tables e below (s₁.setTop (mkF m 70 #[.val (.long q1), .second, .val (.long q2), .second, .val (.long q3), .second, .val (.long q4), .second, .val (.long q5), .second, .val (.long q6), .second, .val (.long q1), .second, .val (.long j9_0), .second, .val (.long q3), .second, .val (.long j31_0), .second, .val (.long j51_0), .second, .unset, .unset, .unset, .unset, .unset, .unset] [(.int (lcmpW (q6 &&& (8 : Int64)) (0 : Int64)))])) _
    exact k
  suffices J70_7 : ∀ (j70_0 : Int64), j70_0 = (if (q6 &&& (8 : Int64)) = (0 : Int64) then q2 else (0 : Int64)) → GoalS p.tables e below s 16 128 (Q0 Z q1 q2 q3 q4 q5 q6 h0 n0) (s₁.setTop (mkF m 78 #[.val (.long q1), .second, .val (.long q2), .second, .val (.long q3), .second, .val (.long q4), .second, .val (.long q5), .second, .val (.long q6), .second, .val (.long q1), .second, .val (.long j9_0), .second, .val (.long q3), .second, .val (.long j31_0), .second, .val (.long j51_0), .second, .unset, .unset, .unset, .unset, .unset, .unset] [(.long j70_0)])) by
    by_cases hc70_8 : (q6 &&& (8 : Int64)) = (0 : Int64)
    · refine GoalS.lift (B := (s₁.setTop (mkF m 78 #[.val (.long q1), .second, .val (.long q2), .second, .val (.long q3), .second, .val (.long q4), .second, .val (.long q5), .second, .val (.long q6), .second, .val (.long q1), .second, .val (.long j9_0), .second, .val (.long q3), .second, .val (.long j31_0), .second, .val (.long j51_0), .second, .unset, .unset, .unset, .unset, .unset, .unset] [(.long q2)]))) (fun t k => ?_) ?_
      · show Steps p.tables e below (s₁.setTop (mkF m 70 #[.val (.long q1), .second, .val (.long q2), .second, .val (.long q3), .second, .val (.long q4), .second, .val (.long q5), .second, .val (.long q6), .second, .val (.long q1), .second, .val (.long j9_0), .second, .val (.long q3), .second, .val (.long j31_0), .second, .val (.long j51_0), .second, .unset, .unset, .unset, .unset, .unset, .unset] [(.int (lcmpW (q6 &&& (8 : Int64)) (0 : Int64)))])) _
        refine XS.ifYes X0.here hx rfl (pc0 := 70) (pc' := 77) rfl (hb hby at_70) rfl ((if0 _ _).trans (teq ((lw_eq (q6 &&& (8 : Int64)) (0 : Int64)).mpr hc70_8)).1) (by decide) (by decide) ?_
        show Steps p.tables e below (s₁.setTop (mkF m 77 #[.val (.long q1), .second, .val (.long q2), .second, .val (.long q3), .second, .val (.long q4), .second, .val (.long q5), .second, .val (.long q6), .second, .val (.long q1), .second, .val (.long j9_0), .second, .val (.long q3), .second, .val (.long j31_0), .second, .val (.long j51_0), .second, .unset, .unset, .unset, .unset, .unset, .unset] [])) _
        refine XS.lloadN X0.here hx rfl (hb hby at_77) rfl ?_
        show Steps p.tables e below (s₁.setTop (mkF m 78 #[.val (.long q1), .second, .val (.long q2), .second, .val (.long q3), .second, .val (.long q4), .second, .val (.long q5), .second, .val (.long q6), .second, .val (.long q1), .second, .val (.long j9_0), .second, .val (.long q3), .second, .val (.long j31_0), .second, .val (.long j51_0), .second, .unset, .unset, .unset, .unset, .unset, .unset] [(.long q2)])) _
        exact k
      exact J70_7 _ (by simp only [if_pos hc70_8])
    · refine GoalS.lift (B := (s₁.setTop (mkF m 78 #[.val (.long q1), .second, .val (.long q2), .second, .val (.long q3), .second, .val (.long q4), .second, .val (.long q5), .second, .val (.long q6), .second, .val (.long q1), .second, .val (.long j9_0), .second, .val (.long q3), .second, .val (.long j31_0), .second, .val (.long j51_0), .second, .unset, .unset, .unset, .unset, .unset, .unset] [(.long (0 : Int64))]))) (fun t k => ?_) ?_
      · show Steps p.tables e below (s₁.setTop (mkF m 70 #[.val (.long q1), .second, .val (.long q2), .second, .val (.long q3), .second, .val (.long q4), .second, .val (.long q5), .second, .val (.long q6), .second, .val (.long q1), .second, .val (.long j9_0), .second, .val (.long q3), .second, .val (.long j31_0), .second, .val (.long j51_0), .second, .unset, .unset, .unset, .unset, .unset, .unset] [(.int (lcmpW (q6 &&& (8 : Int64)) (0 : Int64)))])) _
        refine XS.ifNo X0.here hx rfl (hb hby at_70) rfl ((if0 _ _).trans (feq (fun q => hc70_8 ((lw_eq (q6 &&& (8 : Int64)) (0 : Int64)).mp q))).1) ?_
        show Steps p.tables e below (s₁.setTop (mkF m 73 #[.val (.long q1), .second, .val (.long q2), .second, .val (.long q3), .second, .val (.long q4), .second, .val (.long q5), .second, .val (.long q6), .second, .val (.long q1), .second, .val (.long j9_0), .second, .val (.long q3), .second, .val (.long j31_0), .second, .val (.long j51_0), .second, .unset, .unset, .unset, .unset, .unset, .unset] [])) _
        refine XS.lconst X0.here hx rfl (hb hby at_73) ?_
        show Steps p.tables e below (s₁.setTop (mkF m 74 #[.val (.long q1), .second, .val (.long q2), .second, .val (.long q3), .second, .val (.long q4), .second, .val (.long q5), .second, .val (.long q6), .second, .val (.long q1), .second, .val (.long j9_0), .second, .val (.long q3), .second, .val (.long j31_0), .second, .val (.long j51_0), .second, .unset, .unset, .unset, .unset, .unset, .unset] [(.long (0 : Int64))])) _
        refine XS.goto X0.here hx rfl (pc0 := 74) (pc' := 78) rfl (hb hby at_74) (by decide) (by decide) ?_
        show Steps p.tables e below (s₁.setTop (mkF m 78 #[.val (.long q1), .second, .val (.long q2), .second, .val (.long q3), .second, .val (.long q4), .second, .val (.long q5), .second, .val (.long q6), .second, .val (.long q1), .second, .val (.long j9_0), .second, .val (.long q3), .second, .val (.long j31_0), .second, .val (.long j51_0), .second, .unset, .unset, .unset, .unset, .unset, .unset] [(.long (0 : Int64))])) _
        exact k
      exact J70_7 _ (by simp only [if_neg hc70_8])
  intro j70_0 h_j70_0
  refine GoalS.lift (B := (s₁.setTop (mkF m 88 #[.val (.long q1), .second, .val (.long q2), .second, .val (.long q3), .second, .val (.long q4), .second, .val (.long q5), .second, .val (.long q6), .second, .val (.long q1), .second, .val (.long j9_0), .second, .val (.long q3), .second, .val (.long j31_0), .second, .val (.long j51_0), .second, .val (.long j70_0), .second, .unset, .unset, .unset, .unset] [(.int (lcmpW (q6 &&& (16 : Int64)) (0 : Int64)))]))) (fun t k => ?_) ?_
  · show Steps p.tables e below (s₁.setTop (mkF m 78 #[.val (.long q1), .second, .val (.long q2), .second, .val (.long q3), .second, .val (.long q4), .second, .val (.long q5), .second, .val (.long q6), .second, .val (.long q1), .second, .val (.long j9_0), .second, .val (.long q3), .second, .val (.long j31_0), .second, .val (.long j51_0), .second, .unset, .unset, .unset, .unset, .unset, .unset] [(.long j70_0)])) _
    refine XS.lstore X0.here hx rfl (hb hby at_78) rfl (l' := #[.val (.long q1), .second, .val (.long q2), .second, .val (.long q3), .second, .val (.long q4), .second, .val (.long q5), .second, .val (.long q6), .second, .val (.long q1), .second, .val (.long j9_0), .second, .val (.long q3), .second, .val (.long j31_0), .second, .val (.long j51_0), .second, .val (.long j70_0), .second, .unset, .unset, .unset, .unset]) rfl ?_
    show Steps p.tables e below (s₁.setTop (mkF m 80 #[.val (.long q1), .second, .val (.long q2), .second, .val (.long q3), .second, .val (.long q4), .second, .val (.long q5), .second, .val (.long q6), .second, .val (.long q1), .second, .val (.long j9_0), .second, .val (.long q3), .second, .val (.long j31_0), .second, .val (.long j51_0), .second, .val (.long j70_0), .second, .unset, .unset, .unset, .unset] [])) _
    refine XS.lload X0.here hx rfl (hb hby at_80) rfl ?_
    show Steps p.tables e below (s₁.setTop (mkF m 82 #[.val (.long q1), .second, .val (.long q2), .second, .val (.long q3), .second, .val (.long q4), .second, .val (.long q5), .second, .val (.long q6), .second, .val (.long q1), .second, .val (.long j9_0), .second, .val (.long q3), .second, .val (.long j31_0), .second, .val (.long j51_0), .second, .val (.long j70_0), .second, .unset, .unset, .unset, .unset] [(.long q6)])) _
    refine X0.ldc2Long hx hown (mvT hZ (hw _ (List.mem_of_getElem? (i := 3) rfl))) (g := (mkF m 82 #[.val (.long q1), .second, .val (.long q2), .second, .val (.long q3), .second, .val (.long q4), .second, .val (.long q5), .second, .val (.long q6), .second, .val (.long q1), .second, .val (.long j9_0), .second, .val (.long q3), .second, .val (.long j31_0), .second, .val (.long j51_0), .second, .val (.long j70_0), .second, .unset, .unset, .unset, .unset] [(.long q6)])) rfl (hb hby at_82) _ ?_
    show Steps p.tables e below (s₁.setTop (mkF m 85 #[.val (.long q1), .second, .val (.long q2), .second, .val (.long q3), .second, .val (.long q4), .second, .val (.long q5), .second, .val (.long q6), .second, .val (.long q1), .second, .val (.long j9_0), .second, .val (.long q3), .second, .val (.long j31_0), .second, .val (.long j51_0), .second, .val (.long j70_0), .second, .unset, .unset, .unset, .unset] [(.long (16 : Int64)), (.long q6)])) _
    refine XS.land X0.here hx rfl (hb hby at_85) rfl ?_
    show Steps p.tables e below (s₁.setTop (mkF m 86 #[.val (.long q1), .second, .val (.long q2), .second, .val (.long q3), .second, .val (.long q4), .second, .val (.long q5), .second, .val (.long q6), .second, .val (.long q1), .second, .val (.long j9_0), .second, .val (.long q3), .second, .val (.long j31_0), .second, .val (.long j51_0), .second, .val (.long j70_0), .second, .unset, .unset, .unset, .unset] [(.long (q6 &&& (16 : Int64)))])) _
    refine XS.lconst X0.here hx rfl (hb hby at_86) ?_
    show Steps p.tables e below (s₁.setTop (mkF m 87 #[.val (.long q1), .second, .val (.long q2), .second, .val (.long q3), .second, .val (.long q4), .second, .val (.long q5), .second, .val (.long q6), .second, .val (.long q1), .second, .val (.long j9_0), .second, .val (.long q3), .second, .val (.long j31_0), .second, .val (.long j51_0), .second, .val (.long j70_0), .second, .unset, .unset, .unset, .unset] [(.long (0 : Int64)), (.long (q6 &&& (16 : Int64)))])) _
    refine XS.lcmp X0.here hx rfl (hb hby at_87) rfl ?_
    show Steps p.tables e below (s₁.setTop (mkF m 88 #[.val (.long q1), .second, .val (.long q2), .second, .val (.long q3), .second, .val (.long q4), .second, .val (.long q5), .second, .val (.long q6), .second, .val (.long q1), .second, .val (.long j9_0), .second, .val (.long q3), .second, .val (.long j31_0), .second, .val (.long j51_0), .second, .val (.long j70_0), .second, .unset, .unset, .unset, .unset] [(.int (lcmpW (q6 &&& (16 : Int64)) (0 : Int64)))])) _
    exact k
  suffices J88_9 : ∀ (j88_0 : Int64), j88_0 = (if (q6 &&& (16 : Int64)) = (0 : Int64) then q4 else (0 : Int64)) → GoalS p.tables e below s 16 128 (Q0 Z q1 q2 q3 q4 q5 q6 h0 n0) (s₁.setTop (mkF m 97 #[.val (.long q1), .second, .val (.long q2), .second, .val (.long q3), .second, .val (.long q4), .second, .val (.long q5), .second, .val (.long q6), .second, .val (.long q1), .second, .val (.long j9_0), .second, .val (.long q3), .second, .val (.long j31_0), .second, .val (.long j51_0), .second, .val (.long j70_0), .second, .unset, .unset, .unset, .unset] [(.long j88_0)])) by
    by_cases hc88_10 : (q6 &&& (16 : Int64)) = (0 : Int64)
    · refine GoalS.lift (B := (s₁.setTop (mkF m 97 #[.val (.long q1), .second, .val (.long q2), .second, .val (.long q3), .second, .val (.long q4), .second, .val (.long q5), .second, .val (.long q6), .second, .val (.long q1), .second, .val (.long j9_0), .second, .val (.long q3), .second, .val (.long j31_0), .second, .val (.long j51_0), .second, .val (.long j70_0), .second, .unset, .unset, .unset, .unset] [(.long q4)]))) (fun t k => ?_) ?_
      · show Steps p.tables e below (s₁.setTop (mkF m 88 #[.val (.long q1), .second, .val (.long q2), .second, .val (.long q3), .second, .val (.long q4), .second, .val (.long q5), .second, .val (.long q6), .second, .val (.long q1), .second, .val (.long j9_0), .second, .val (.long q3), .second, .val (.long j31_0), .second, .val (.long j51_0), .second, .val (.long j70_0), .second, .unset, .unset, .unset, .unset] [(.int (lcmpW (q6 &&& (16 : Int64)) (0 : Int64)))])) _
        refine XS.ifYes X0.here hx rfl (pc0 := 88) (pc' := 95) rfl (hb hby at_88) rfl ((if0 _ _).trans (teq ((lw_eq (q6 &&& (16 : Int64)) (0 : Int64)).mpr hc88_10)).1) (by decide) (by decide) ?_
        show Steps p.tables e below (s₁.setTop (mkF m 95 #[.val (.long q1), .second, .val (.long q2), .second, .val (.long q3), .second, .val (.long q4), .second, .val (.long q5), .second, .val (.long q6), .second, .val (.long q1), .second, .val (.long j9_0), .second, .val (.long q3), .second, .val (.long j31_0), .second, .val (.long j51_0), .second, .val (.long j70_0), .second, .unset, .unset, .unset, .unset] [])) _
        refine XS.lload X0.here hx rfl (hb hby at_95) rfl ?_
        show Steps p.tables e below (s₁.setTop (mkF m 97 #[.val (.long q1), .second, .val (.long q2), .second, .val (.long q3), .second, .val (.long q4), .second, .val (.long q5), .second, .val (.long q6), .second, .val (.long q1), .second, .val (.long j9_0), .second, .val (.long q3), .second, .val (.long j31_0), .second, .val (.long j51_0), .second, .val (.long j70_0), .second, .unset, .unset, .unset, .unset] [(.long q4)])) _
        exact k
      exact J88_9 _ (by simp only [if_pos hc88_10])
    · refine GoalS.lift (B := (s₁.setTop (mkF m 97 #[.val (.long q1), .second, .val (.long q2), .second, .val (.long q3), .second, .val (.long q4), .second, .val (.long q5), .second, .val (.long q6), .second, .val (.long q1), .second, .val (.long j9_0), .second, .val (.long q3), .second, .val (.long j31_0), .second, .val (.long j51_0), .second, .val (.long j70_0), .second, .unset, .unset, .unset, .unset] [(.long (0 : Int64))]))) (fun t k => ?_) ?_
      · show Steps p.tables e below (s₁.setTop (mkF m 88 #[.val (.long q1), .second, .val (.long q2), .second, .val (.long q3), .second, .val (.long q4), .second, .val (.long q5), .second, .val (.long q6), .second, .val (.long q1), .second, .val (.long j9_0), .second, .val (.long q3), .second, .val (.long j31_0), .second, .val (.long j51_0), .second, .val (.long j70_0), .second, .unset, .unset, .unset, .unset] [(.int (lcmpW (q6 &&& (16 : Int64)) (0 : Int64)))])) _
        refine XS.ifNo X0.here hx rfl (hb hby at_88) rfl ((if0 _ _).trans (feq (fun q => hc88_10 ((lw_eq (q6 &&& (16 : Int64)) (0 : Int64)).mp q))).1) ?_
        show Steps p.tables e below (s₁.setTop (mkF m 91 #[.val (.long q1), .second, .val (.long q2), .second, .val (.long q3), .second, .val (.long q4), .second, .val (.long q5), .second, .val (.long q6), .second, .val (.long q1), .second, .val (.long j9_0), .second, .val (.long q3), .second, .val (.long j31_0), .second, .val (.long j51_0), .second, .val (.long j70_0), .second, .unset, .unset, .unset, .unset] [])) _
        refine XS.lconst X0.here hx rfl (hb hby at_91) ?_
        show Steps p.tables e below (s₁.setTop (mkF m 92 #[.val (.long q1), .second, .val (.long q2), .second, .val (.long q3), .second, .val (.long q4), .second, .val (.long q5), .second, .val (.long q6), .second, .val (.long q1), .second, .val (.long j9_0), .second, .val (.long q3), .second, .val (.long j31_0), .second, .val (.long j51_0), .second, .val (.long j70_0), .second, .unset, .unset, .unset, .unset] [(.long (0 : Int64))])) _
        refine XS.goto X0.here hx rfl (pc0 := 92) (pc' := 97) rfl (hb hby at_92) (by decide) (by decide) ?_
        show Steps p.tables e below (s₁.setTop (mkF m 97 #[.val (.long q1), .second, .val (.long q2), .second, .val (.long q3), .second, .val (.long q4), .second, .val (.long q5), .second, .val (.long q6), .second, .val (.long q1), .second, .val (.long j9_0), .second, .val (.long q3), .second, .val (.long j31_0), .second, .val (.long j51_0), .second, .val (.long j70_0), .second, .unset, .unset, .unset, .unset] [(.long (0 : Int64))])) _
        exact k
      exact J88_9 _ (by simp only [if_neg hc88_10])
  intro j88_0 h_j88_0
  obtain ⟨T11, h11, X11, e11, E11, A11, D11, -, st11⟩ := newO X0 hx hZ hown (hw _ (List.mem_of_getElem? (i := 4) rfl)) (hw _ (List.mem_of_getElem? (i := 5) rfl)) (hw _ (List.mem_of_getElem? (i := 6) rfl)) e0 (g := (mkF m 99 #[.val (.long q1), .second, .val (.long q2), .second, .val (.long q3), .second, .val (.long q4), .second, .val (.long q5), .second, .val (.long q6), .second, .val (.long q1), .second, .val (.long j9_0), .second, .val (.long q3), .second, .val (.long j31_0), .second, .val (.long j51_0), .second, .val (.long j70_0), .second, .val (.long j88_0), .second, .unset, .unset] [])) rfl (hb hby at_99) (by decide) (by decide)
  obtain ⟨b11, g11⟩ : ∃ z, z = h0.size := ⟨_, rfl⟩
  rw [← g11] at A11 D11 st11
  have g_b11 : n0 ≤ b11 := Nat.le_trans Z0 (Nat.le_of_eq g11.symm)
  have z12 : n0 ≤ h11.size := Nat.le_trans Z0 E11.1
  have F_bankDeposit_b11 : Fld Z h11 b11 "com/example/rialto/rialto/core/Verification" "bankDeposit" "J" (.long (0 : Int64)) := D11 (Or.inr (hw _ (List.mem_of_getElem? (i := 19) rfl))) (ty := .long) (by decide)
  have F_withdrawableTotal_b11 : Fld Z h11 b11 "com/example/rialto/rialto/core/Verification" "withdrawableTotal" "J" (.long (0 : Int64)) := D11 (Or.inr (hw _ (List.mem_of_getElem? (i := 21) rfl))) (ty := .long) (by decide)
  have F_rechargeInTransit_b11 : Fld Z h11 b11 "com/example/rialto/rialto/core/Verification" "rechargeInTransit" "J" (.long (0 : Int64)) := D11 (Or.inr (hw _ (List.mem_of_getElem? (i := 23) rfl))) (ty := .long) (by decide)
  have F_inTransitAndUnavailableTotal_b11 : Fld Z h11 b11 "com/example/rialto/rialto/core/Verification" "inTransitAndUnavailableTotal" "J" (.long (0 : Int64)) := D11 (Or.inr (hw _ (List.mem_of_getElem? (i := 25) rfl))) (ty := .long) (by decide)
  have F_negativeBalances_b11 : Fld Z h11 b11 "com/example/rialto/rialto/core/Verification" "negativeBalances" "J" (.long (0 : Int64)) := D11 (Or.inr (hw _ (List.mem_of_getElem? (i := 27) rfl))) (ty := .long) (by decide)
  have F_mismatchedBalances_b11 : Fld Z h11 b11 "com/example/rialto/rialto/core/Verification" "mismatchedBalances" "J" (.long (0 : Int64)) := D11 (Or.inr (hw _ (List.mem_of_getElem? (i := 29) rfl))) (ty := .long) (by decide)
  have F_unbalancedPostings_b11 : Fld Z h11 b11 "com/example/rialto/rialto/core/Verification" "unbalancedPostings" "J" (.long (0 : Int64)) := D11 (Or.inr (hw _ (List.mem_of_getElem? (i := 31) rfl))) (ty := .long) (by decide)
  obtain ⟨_, _, ⟨T13, L13, k13, n13⟩, -, X13, ⟨Lc13, hQ13, l13, y13, z13⟩, st13⟩ := X11.specialBack hx (y := (⟨"com/example/rialto/rialto/core/Verification", "<init>", "(JJJJJJJ)V"⟩ : MethodName)) rfl hown (mvT hZ (hw _ (List.mem_of_getElem? (i := 7) rfl))) (mvT hZ (hw _ (List.mem_of_getElem? (i := 8) rfl))) (mvT hZ (hw _ (List.mem_of_getElem? (i := 9) rfl))) (by decide) (backOf (W := 1) (rm1 l Z a0 hw [] b11 q1 j9_0 q3 j31_0 j51_0 j70_0 j88_0 (.long (0 : Int64)) (.long (0 : Int64)) (.long (0 : Int64)) (.long (0 : Int64)) (.long (0 : Int64)) (.long (0 : Int64)) (.long (0 : Int64)) h11 n0 z12 A11 g_b11 F_bankDeposit_b11 F_withdrawableTotal_b11 F_rechargeInTransit_b11 F_inTransitAndUnavailableTotal_b11 F_negativeBalances_b11 F_mismatchedBalances_b11 F_unbalancedPostings_b11) hZ (hw _ (List.mem_of_getElem? (i := 9) rfl)) (hw _ (List.mem_of_getElem? (i := 6) rfl)) (by decide) (by decide)) (g := (mkF m 117 #[.val (.long q1), .second, .val (.long q2), .second, .val (.long q3), .second, .val (.long q4), .second, .val (.long q5), .second, .val (.long q6), .second, .val (.long q1), .second, .val (.long j9_0), .second, .val (.long q3), .second, .val (.long j31_0), .second, .val (.long j51_0), .second, .val (.long j70_0), .second, .val (.long j88_0), .second, .unset, .unset] [(.long j88_0), (.long j70_0), (.long j51_0), (.long j31_0), (.long q3), (.long j9_0), (.long q1), (.ref b11), (.ref b11)])) rfl (by rw [hml]; rfl) (Steps.refl _) (a := b11) (argsL := [(.long q1), (.long j9_0), (.long q3), (.long j31_0), (.long j51_0), (.long j70_0), (.long j88_0)]) (rest := [(.ref b11)]) (lenOf pd_1 rfl) rfl (by show 2 * 0 + _ ≤ _; exact Nat.le_of_eq rfl) (hb hby at_117) (fun _ _ => ⟨rfl, e11, (by decide : 1 + 0 ≤ _), (by decide : 7 + 0 ≤ _)⟩)
  dsimp only [Pt.U, Pt.locs, Pt.cells, Pt.slots] at X13 l13 y13 z13 st13 hQ13
  subst l13 y13 z13
  obtain ⟨rfl, N13q, p13_0, p13_1, p13_2, p13_3, p13_4, p13_5, p13_6, p13_7, p13_8⟩ := hQ13
  have N13 := Fr.app N0 N13q
  have z14 : n0 ≤ T13.heap.size := Nat.le_trans z12 p13_0.1
  refine GoalS.lift (B := (T13.setTop (mkF m 144 #[.val (.long q1), .second, .val (.long q2), .second, .val (.long q3), .second, .val (.long q4), .second, .val (.long q5), .second, .val (.long q6), .second, .val (.long q1), .second, .val (.long j9_0), .second, .val (.long q3), .second, .val (.long j31_0), .second, .val (.long j51_0), .second, .val (.long j70_0), .second, .val (.long j88_0), .second, .val (.ref b11), .unset] [(.int (lcmpW (((((q1 ^^^ j9_0) ||| (q3 ^^^ j31_0)) ||| j51_0) ||| j70_0) ||| j88_0) (0 : Int64)))]))) (fun t k => ?_) ?_
  · show Steps p.tables e below (s₁.setTop (mkF m 97 #[.val (.long q1), .second, .val (.long q2), .second, .val (.long q3), .second, .val (.long q4), .second, .val (.long q5), .second, .val (.long q6), .second, .val (.long q1), .second, .val (.long j9_0), .second, .val (.long q3), .second, .val (.long j31_0), .second, .val (.long j51_0), .second, .val (.long j70_0), .second, .unset, .unset, .unset, .unset] [(.long j88_0)])) _
    refine XS.lstore X0.here hx rfl (hb hby at_97) rfl (l' := #[.val (.long q1), .second, .val (.long q2), .second, .val (.long q3), .second, .val (.long q4), .second, .val (.long q5), .second, .val (.long q6), .second, .val (.long q1), .second, .val (.long j9_0), .second, .val (.long q3), .second, .val (.long j31_0), .second, .val (.long j51_0), .second, .val (.long j70_0), .second, .val (.long j88_0), .second, .unset, .unset]) rfl ?_
    show Steps p.tables e below (s₁.setTop (mkF m 99 #[.val (.long q1), .second, .val (.long q2), .second, .val (.long q3), .second, .val (.long q4), .second, .val (.long q5), .second, .val (.long q6), .second, .val (.long q1), .second, .val (.long j9_0), .second, .val (.long q3), .second, .val (.long j31_0), .second, .val (.long j51_0), .second, .val (.long j70_0), .second, .val (.long j88_0), .second, .unset, .unset] [])) _
    refine st11 _ ?_
    show Steps p.tables e below (T11.setTop (mkF m 102 #[.val (.long q1), .second, .val (.long q2), .second, .val (.long q3), .second, .val (.long q4), .second, .val (.long q5), .second, .val (.long q6), .second, .val (.long q1), .second, .val (.long j9_0), .second, .val (.long q3), .second, .val (.long j31_0), .second, .val (.long j51_0), .second, .val (.long j70_0), .second, .val (.long j88_0), .second, .unset, .unset] [(.ref b11)])) _
    refine XS.dup X11.here hx rfl (hb hby at_102) rfl rfl ?_
    show Steps p.tables e below (T11.setTop (mkF m 103 #[.val (.long q1), .second, .val (.long q2), .second, .val (.long q3), .second, .val (.long q4), .second, .val (.long q5), .second, .val (.long q6), .second, .val (.long q1), .second, .val (.long j9_0), .second, .val (.long q3), .second, .val (.long j31_0), .second, .val (.long j51_0), .second, .val (.long j70_0), .second, .val (.long j88_0), .second, .unset, .unset] [(.ref b11), (.ref b11)])) _
    refine XS.lload X11.here hx rfl (hb hby at_103) rfl ?_
    show Steps p.tables e below (T11.setTop (mkF m 105 #[.val (.long q1), .second, .val (.long q2), .second, .val (.long q3), .second, .val (.long q4), .second, .val (.long q5), .second, .val (.long q6), .second, .val (.long q1), .second, .val (.long j9_0), .second, .val (.long q3), .second, .val (.long j31_0), .second, .val (.long j51_0), .second, .val (.long j70_0), .second, .val (.long j88_0), .second, .unset, .unset] [(.long q1), (.ref b11), (.ref b11)])) _
    refine XS.lload X11.here hx rfl (hb hby at_105) rfl ?_
    show Steps p.tables e below (T11.setTop (mkF m 107 #[.val (.long q1), .second, .val (.long q2), .second, .val (.long q3), .second, .val (.long q4), .second, .val (.long q5), .second, .val (.long q6), .second, .val (.long q1), .second, .val (.long j9_0), .second, .val (.long q3), .second, .val (.long j31_0), .second, .val (.long j51_0), .second, .val (.long j70_0), .second, .val (.long j88_0), .second, .unset, .unset] [(.long j9_0), (.long q1), (.ref b11), (.ref b11)])) _
    refine XS.lload X11.here hx rfl (hb hby at_107) rfl ?_
    show Steps p.tables e below (T11.setTop (mkF m 109 #[.val (.long q1), .second, .val (.long q2), .second, .val (.long q3), .second, .val (.long q4), .second, .val (.long q5), .second, .val (.long q6), .second, .val (.long q1), .second, .val (.long j9_0), .second, .val (.long q3), .second, .val (.long j31_0), .second, .val (.long j51_0), .second, .val (.long j70_0), .second, .val (.long j88_0), .second, .unset, .unset] [(.long q3), (.long j9_0), (.long q1), (.ref b11), (.ref b11)])) _
    refine XS.lload X11.here hx rfl (hb hby at_109) rfl ?_
    show Steps p.tables e below (T11.setTop (mkF m 111 #[.val (.long q1), .second, .val (.long q2), .second, .val (.long q3), .second, .val (.long q4), .second, .val (.long q5), .second, .val (.long q6), .second, .val (.long q1), .second, .val (.long j9_0), .second, .val (.long q3), .second, .val (.long j31_0), .second, .val (.long j51_0), .second, .val (.long j70_0), .second, .val (.long j88_0), .second, .unset, .unset] [(.long j31_0), (.long q3), (.long j9_0), (.long q1), (.ref b11), (.ref b11)])) _
    refine XS.lload X11.here hx rfl (hb hby at_111) rfl ?_
    show Steps p.tables e below (T11.setTop (mkF m 113 #[.val (.long q1), .second, .val (.long q2), .second, .val (.long q3), .second, .val (.long q4), .second, .val (.long q5), .second, .val (.long q6), .second, .val (.long q1), .second, .val (.long j9_0), .second, .val (.long q3), .second, .val (.long j31_0), .second, .val (.long j51_0), .second, .val (.long j70_0), .second, .val (.long j88_0), .second, .unset, .unset] [(.long j51_0), (.long j31_0), (.long q3), (.long j9_0), (.long q1), (.ref b11), (.ref b11)])) _
    refine XS.lload X11.here hx rfl (hb hby at_113) rfl ?_
    show Steps p.tables e below (T11.setTop (mkF m 115 #[.val (.long q1), .second, .val (.long q2), .second, .val (.long q3), .second, .val (.long q4), .second, .val (.long q5), .second, .val (.long q6), .second, .val (.long q1), .second, .val (.long j9_0), .second, .val (.long q3), .second, .val (.long j31_0), .second, .val (.long j51_0), .second, .val (.long j70_0), .second, .val (.long j88_0), .second, .unset, .unset] [(.long j70_0), (.long j51_0), (.long j31_0), (.long q3), (.long j9_0), (.long q1), (.ref b11), (.ref b11)])) _
    refine XS.lload X11.here hx rfl (hb hby at_115) rfl ?_
    show Steps p.tables e below (T11.setTop (mkF m 117 #[.val (.long q1), .second, .val (.long q2), .second, .val (.long q3), .second, .val (.long q4), .second, .val (.long q5), .second, .val (.long q6), .second, .val (.long q1), .second, .val (.long j9_0), .second, .val (.long q3), .second, .val (.long j31_0), .second, .val (.long j51_0), .second, .val (.long j70_0), .second, .val (.long j88_0), .second, .unset, .unset] [(.long j88_0), (.long j70_0), (.long j51_0), (.long j31_0), (.long q3), (.long j9_0), (.long q1), (.ref b11), (.ref b11)])) _
    refine st13.trans ?_
    show Steps p.tables e below (T13.setTop (mkF m 120 #[.val (.long q1), .second, .val (.long q2), .second, .val (.long q3), .second, .val (.long q4), .second, .val (.long q5), .second, .val (.long q6), .second, .val (.long q1), .second, .val (.long j9_0), .second, .val (.long q3), .second, .val (.long j31_0), .second, .val (.long j51_0), .second, .val (.long j70_0), .second, .val (.long j88_0), .second, .unset, .unset] [(.ref b11)])) _
    refine XS.astore X13.here hx rfl (hb hby at_120) rfl rfl (l' := #[.val (.long q1), .second, .val (.long q2), .second, .val (.long q3), .second, .val (.long q4), .second, .val (.long q5), .second, .val (.long q6), .second, .val (.long q1), .second, .val (.long j9_0), .second, .val (.long q3), .second, .val (.long j31_0), .second, .val (.long j51_0), .second, .val (.long j70_0), .second, .val (.long j88_0), .second, .val (.ref b11), .unset]) rfl ?_
    show Steps p.tables e below (T13.setTop (mkF m 122 #[.val (.long q1), .second, .val (.long q2), .second, .val (.long q3), .second, .val (.long q4), .second, .val (.long q5), .second, .val (.long q6), .second, .val (.long q1), .second, .val (.long j9_0), .second, .val (.long q3), .second, .val (.long j31_0), .second, .val (.long j51_0), .second, .val (.long j70_0), .second, .val (.long j88_0), .second, .val (.ref b11), .unset] [])) _
    refine XS.lload X13.here hx rfl (hb hby at_122) rfl ?_
    show Steps p.tables e below (T13.setTop (mkF m 124 #[.val (.long q1), .second, .val (.long q2), .second, .val (.long q3), .second, .val (.long q4), .second, .val (.long q5), .second, .val (.long q6), .second, .val (.long q1), .second, .val (.long j9_0), .second, .val (.long q3), .second, .val (.long j31_0), .second, .val (.long j51_0), .second, .val (.long j70_0), .second, .val (.long j88_0), .second, .val (.ref b11), .unset] [(.long q1)])) _
    refine XS.lload X13.here hx rfl (hb hby at_124) rfl ?_
    show Steps p.tables e below (T13.setTop (mkF m 126 #[.val (.long q1), .second, .val (.long q2), .second, .val (.long q3), .second, .val (.long q4), .second, .val (.long q5), .second, .val (.long q6), .second, .val (.long q1), .second, .val (.long j9_0), .second, .val (.long q3), .second, .val (.long j31_0), .second, .val (.long j51_0), .second, .val (.long j70_0), .second, .val (.long j88_0), .second, .val (.ref b11), .unset] [(.long j9_0), (.long q1)])) _
    refine XS.lxor X13.here hx rfl (hb hby at_126) rfl ?_
    show Steps p.tables e below (T13.setTop (mkF m 127 #[.val (.long q1), .second, .val (.long q2), .second, .val (.long q3), .second, .val (.long q4), .second, .val (.long q5), .second, .val (.long q6), .second, .val (.long q1), .second, .val (.long j9_0), .second, .val (.long q3), .second, .val (.long j31_0), .second, .val (.long j51_0), .second, .val (.long j70_0), .second, .val (.long j88_0), .second, .val (.ref b11), .unset] [(.long (q1 ^^^ j9_0))])) _
    refine XS.lload X13.here hx rfl (hb hby at_127) rfl ?_
    show Steps p.tables e below (T13.setTop (mkF m 129 #[.val (.long q1), .second, .val (.long q2), .second, .val (.long q3), .second, .val (.long q4), .second, .val (.long q5), .second, .val (.long q6), .second, .val (.long q1), .second, .val (.long j9_0), .second, .val (.long q3), .second, .val (.long j31_0), .second, .val (.long j51_0), .second, .val (.long j70_0), .second, .val (.long j88_0), .second, .val (.ref b11), .unset] [(.long q3), (.long (q1 ^^^ j9_0))])) _
    refine XS.lload X13.here hx rfl (hb hby at_129) rfl ?_
    show Steps p.tables e below (T13.setTop (mkF m 131 #[.val (.long q1), .second, .val (.long q2), .second, .val (.long q3), .second, .val (.long q4), .second, .val (.long q5), .second, .val (.long q6), .second, .val (.long q1), .second, .val (.long j9_0), .second, .val (.long q3), .second, .val (.long j31_0), .second, .val (.long j51_0), .second, .val (.long j70_0), .second, .val (.long j88_0), .second, .val (.ref b11), .unset] [(.long j31_0), (.long q3), (.long (q1 ^^^ j9_0))])) _
    refine XS.lxor X13.here hx rfl (hb hby at_131) rfl ?_
    show Steps p.tables e below (T13.setTop (mkF m 132 #[.val (.long q1), .second, .val (.long q2), .second, .val (.long q3), .second, .val (.long q4), .second, .val (.long q5), .second, .val (.long q6), .second, .val (.long q1), .second, .val (.long j9_0), .second, .val (.long q3), .second, .val (.long j31_0), .second, .val (.long j51_0), .second, .val (.long j70_0), .second, .val (.long j88_0), .second, .val (.ref b11), .unset] [(.long (q3 ^^^ j31_0)), (.long (q1 ^^^ j9_0))])) _
    refine XS.lor X13.here hx rfl (hb hby at_132) rfl ?_
    show Steps p.tables e below (T13.setTop (mkF m 133 #[.val (.long q1), .second, .val (.long q2), .second, .val (.long q3), .second, .val (.long q4), .second, .val (.long q5), .second, .val (.long q6), .second, .val (.long q1), .second, .val (.long j9_0), .second, .val (.long q3), .second, .val (.long j31_0), .second, .val (.long j51_0), .second, .val (.long j70_0), .second, .val (.long j88_0), .second, .val (.ref b11), .unset] [(.long ((q1 ^^^ j9_0) ||| (q3 ^^^ j31_0)))])) _
    refine XS.lload X13.here hx rfl (hb hby at_133) rfl ?_
    show Steps p.tables e below (T13.setTop (mkF m 135 #[.val (.long q1), .second, .val (.long q2), .second, .val (.long q3), .second, .val (.long q4), .second, .val (.long q5), .second, .val (.long q6), .second, .val (.long q1), .second, .val (.long j9_0), .second, .val (.long q3), .second, .val (.long j31_0), .second, .val (.long j51_0), .second, .val (.long j70_0), .second, .val (.long j88_0), .second, .val (.ref b11), .unset] [(.long j51_0), (.long ((q1 ^^^ j9_0) ||| (q3 ^^^ j31_0)))])) _
    refine XS.lor X13.here hx rfl (hb hby at_135) rfl ?_
    show Steps p.tables e below (T13.setTop (mkF m 136 #[.val (.long q1), .second, .val (.long q2), .second, .val (.long q3), .second, .val (.long q4), .second, .val (.long q5), .second, .val (.long q6), .second, .val (.long q1), .second, .val (.long j9_0), .second, .val (.long q3), .second, .val (.long j31_0), .second, .val (.long j51_0), .second, .val (.long j70_0), .second, .val (.long j88_0), .second, .val (.ref b11), .unset] [(.long (((q1 ^^^ j9_0) ||| (q3 ^^^ j31_0)) ||| j51_0))])) _
    refine XS.lload X13.here hx rfl (hb hby at_136) rfl ?_
    show Steps p.tables e below (T13.setTop (mkF m 138 #[.val (.long q1), .second, .val (.long q2), .second, .val (.long q3), .second, .val (.long q4), .second, .val (.long q5), .second, .val (.long q6), .second, .val (.long q1), .second, .val (.long j9_0), .second, .val (.long q3), .second, .val (.long j31_0), .second, .val (.long j51_0), .second, .val (.long j70_0), .second, .val (.long j88_0), .second, .val (.ref b11), .unset] [(.long j70_0), (.long (((q1 ^^^ j9_0) ||| (q3 ^^^ j31_0)) ||| j51_0))])) _
    refine XS.lor X13.here hx rfl (hb hby at_138) rfl ?_
    show Steps p.tables e below (T13.setTop (mkF m 139 #[.val (.long q1), .second, .val (.long q2), .second, .val (.long q3), .second, .val (.long q4), .second, .val (.long q5), .second, .val (.long q6), .second, .val (.long q1), .second, .val (.long j9_0), .second, .val (.long q3), .second, .val (.long j31_0), .second, .val (.long j51_0), .second, .val (.long j70_0), .second, .val (.long j88_0), .second, .val (.ref b11), .unset] [(.long ((((q1 ^^^ j9_0) ||| (q3 ^^^ j31_0)) ||| j51_0) ||| j70_0))])) _
    refine XS.lload X13.here hx rfl (hb hby at_139) rfl ?_
    show Steps p.tables e below (T13.setTop (mkF m 141 #[.val (.long q1), .second, .val (.long q2), .second, .val (.long q3), .second, .val (.long q4), .second, .val (.long q5), .second, .val (.long q6), .second, .val (.long q1), .second, .val (.long j9_0), .second, .val (.long q3), .second, .val (.long j31_0), .second, .val (.long j51_0), .second, .val (.long j70_0), .second, .val (.long j88_0), .second, .val (.ref b11), .unset] [(.long j88_0), (.long ((((q1 ^^^ j9_0) ||| (q3 ^^^ j31_0)) ||| j51_0) ||| j70_0))])) _
    refine XS.lor X13.here hx rfl (hb hby at_141) rfl ?_
    show Steps p.tables e below (T13.setTop (mkF m 142 #[.val (.long q1), .second, .val (.long q2), .second, .val (.long q3), .second, .val (.long q4), .second, .val (.long q5), .second, .val (.long q6), .second, .val (.long q1), .second, .val (.long j9_0), .second, .val (.long q3), .second, .val (.long j31_0), .second, .val (.long j51_0), .second, .val (.long j70_0), .second, .val (.long j88_0), .second, .val (.ref b11), .unset] [(.long (((((q1 ^^^ j9_0) ||| (q3 ^^^ j31_0)) ||| j51_0) ||| j70_0) ||| j88_0))])) _
    refine XS.lconst X13.here hx rfl (hb hby at_142) ?_
    show Steps p.tables e below (T13.setTop (mkF m 143 #[.val (.long q1), .second, .val (.long q2), .second, .val (.long q3), .second, .val (.long q4), .second, .val (.long q5), .second, .val (.long q6), .second, .val (.long q1), .second, .val (.long j9_0), .second, .val (.long q3), .second, .val (.long j31_0), .second, .val (.long j51_0), .second, .val (.long j70_0), .second, .val (.long j88_0), .second, .val (.ref b11), .unset] [(.long (0 : Int64)), (.long (((((q1 ^^^ j9_0) ||| (q3 ^^^ j31_0)) ||| j51_0) ||| j70_0) ||| j88_0))])) _
    refine XS.lcmp X13.here hx rfl (hb hby at_143) rfl ?_
    show Steps p.tables e below (T13.setTop (mkF m 144 #[.val (.long q1), .second, .val (.long q2), .second, .val (.long q3), .second, .val (.long q4), .second, .val (.long q5), .second, .val (.long q6), .second, .val (.long q1), .second, .val (.long j9_0), .second, .val (.long q3), .second, .val (.long j31_0), .second, .val (.long j51_0), .second, .val (.long j70_0), .second, .val (.long j88_0), .second, .val (.ref b11), .unset] [(.int (lcmpW (((((q1 ^^^ j9_0) ||| (q3 ^^^ j31_0)) ||| j51_0) ||| j70_0) ||| j88_0) (0 : Int64)))])) _
    exact k
  suffices J144_15 : ∀ (i144_0 : Int32), i144_0 = (if (((((q1 ^^^ j9_0) ||| (q3 ^^^ j31_0)) ||| j51_0) ||| j70_0) ||| j88_0) = (0 : Int64) then (1 : Int32) else (0 : Int32)) → GoalS p.tables e below s 16 128 (Q0 Z q1 q2 q3 q4 q5 q6 h0 n0) (T13.setTop (mkF m 152 #[.val (.long q1), .second, .val (.long q2), .second, .val (.long q3), .second, .val (.long q4), .second, .val (.long q5), .second, .val (.long q6), .second, .val (.long q1), .second, .val (.long j9_0), .second, .val (.long q3), .second, .val (.long j31_0), .second, .val (.long j51_0), .second, .val (.long j70_0), .second, .val (.long j88_0), .second, .val (.ref b11), .unset] [(.int i144_0)])) by
    by_cases hc144_16 : (((((q1 ^^^ j9_0) ||| (q3 ^^^ j31_0)) ||| j51_0) ||| j70_0) ||| j88_0) = (0 : Int64)
    · refine GoalS.lift (B := (T13.setTop (mkF m 152 #[.val (.long q1), .second, .val (.long q2), .second, .val (.long q3), .second, .val (.long q4), .second, .val (.long q5), .second, .val (.long q6), .second, .val (.long q1), .second, .val (.long j9_0), .second, .val (.long q3), .second, .val (.long j31_0), .second, .val (.long j51_0), .second, .val (.long j70_0), .second, .val (.long j88_0), .second, .val (.ref b11), .unset] [(.int (1 : Int32))]))) (fun t k => ?_) ?_
      · show Steps p.tables e below (T13.setTop (mkF m 144 #[.val (.long q1), .second, .val (.long q2), .second, .val (.long q3), .second, .val (.long q4), .second, .val (.long q5), .second, .val (.long q6), .second, .val (.long q1), .second, .val (.long j9_0), .second, .val (.long q3), .second, .val (.long j31_0), .second, .val (.long j51_0), .second, .val (.long j70_0), .second, .val (.long j88_0), .second, .val (.ref b11), .unset] [(.int (lcmpW (((((q1 ^^^ j9_0) ||| (q3 ^^^ j31_0)) ||| j51_0) ||| j70_0) ||| j88_0) (0 : Int64)))])) _
        refine XS.ifNo X13.here hx rfl (hb hby at_144) rfl ((if0 _ _).trans (teq ((lw_eq (((((q1 ^^^ j9_0) ||| (q3 ^^^ j31_0)) ||| j51_0) ||| j70_0) ||| j88_0) (0 : Int64)).mpr hc144_16)).2) ?_
        show Steps p.tables e below (T13.setTop (mkF m 147 #[.val (.long q1), .second, .val (.long q2), .second, .val (.long q3), .second, .val (.long q4), .second, .val (.long q5), .second, .val (.long q6), .second, .val (.long q1), .second, .val (.long j9_0), .second, .val (.long q3), .second, .val (.long j31_0), .second, .val (.long j51_0), .second, .val (.long j70_0), .second, .val (.long j88_0), .second, .val (.ref b11), .unset] [])) _
        refine XS.iconst X13.here hx rfl (hb hby at_147) ?_
        show Steps p.tables e below (T13.setTop (mkF m 148 #[.val (.long q1), .second, .val (.long q2), .second, .val (.long q3), .second, .val (.long q4), .second, .val (.long q5), .second, .val (.long q6), .second, .val (.long q1), .second, .val (.long j9_0), .second, .val (.long q3), .second, .val (.long j31_0), .second, .val (.long j51_0), .second, .val (.long j70_0), .second, .val (.long j88_0), .second, .val (.ref b11), .unset] [(.int (1 : Int32))])) _
        refine XS.goto X13.here hx rfl (pc0 := 148) (pc' := 152) rfl (hb hby at_148) (by decide) (by decide) ?_
        show Steps p.tables e below (T13.setTop (mkF m 152 #[.val (.long q1), .second, .val (.long q2), .second, .val (.long q3), .second, .val (.long q4), .second, .val (.long q5), .second, .val (.long q6), .second, .val (.long q1), .second, .val (.long j9_0), .second, .val (.long q3), .second, .val (.long j31_0), .second, .val (.long j51_0), .second, .val (.long j70_0), .second, .val (.long j88_0), .second, .val (.ref b11), .unset] [(.int (1 : Int32))])) _
        exact k
      exact J144_15 _ (by simp only [if_pos hc144_16])
    · refine GoalS.lift (B := (T13.setTop (mkF m 152 #[.val (.long q1), .second, .val (.long q2), .second, .val (.long q3), .second, .val (.long q4), .second, .val (.long q5), .second, .val (.long q6), .second, .val (.long q1), .second, .val (.long j9_0), .second, .val (.long q3), .second, .val (.long j31_0), .second, .val (.long j51_0), .second, .val (.long j70_0), .second, .val (.long j88_0), .second, .val (.ref b11), .unset] [(.int (0 : Int32))]))) (fun t k => ?_) ?_
      · show Steps p.tables e below (T13.setTop (mkF m 144 #[.val (.long q1), .second, .val (.long q2), .second, .val (.long q3), .second, .val (.long q4), .second, .val (.long q5), .second, .val (.long q6), .second, .val (.long q1), .second, .val (.long j9_0), .second, .val (.long q3), .second, .val (.long j31_0), .second, .val (.long j51_0), .second, .val (.long j70_0), .second, .val (.long j88_0), .second, .val (.ref b11), .unset] [(.int (lcmpW (((((q1 ^^^ j9_0) ||| (q3 ^^^ j31_0)) ||| j51_0) ||| j70_0) ||| j88_0) (0 : Int64)))])) _
        refine XS.ifYes X13.here hx rfl (pc0 := 144) (pc' := 151) rfl (hb hby at_144) rfl ((if0 _ _).trans (feq (fun q => hc144_16 ((lw_eq (((((q1 ^^^ j9_0) ||| (q3 ^^^ j31_0)) ||| j51_0) ||| j70_0) ||| j88_0) (0 : Int64)).mp q))).2) (by decide) (by decide) ?_
        show Steps p.tables e below (T13.setTop (mkF m 151 #[.val (.long q1), .second, .val (.long q2), .second, .val (.long q3), .second, .val (.long q4), .second, .val (.long q5), .second, .val (.long q6), .second, .val (.long q1), .second, .val (.long j9_0), .second, .val (.long q3), .second, .val (.long j31_0), .second, .val (.long j51_0), .second, .val (.long j70_0), .second, .val (.long j88_0), .second, .val (.ref b11), .unset] [])) _
        refine XS.iconst X13.here hx rfl (hb hby at_151) ?_
        show Steps p.tables e below (T13.setTop (mkF m 152 #[.val (.long q1), .second, .val (.long q2), .second, .val (.long q3), .second, .val (.long q4), .second, .val (.long q5), .second, .val (.long q6), .second, .val (.long q1), .second, .val (.long j9_0), .second, .val (.long q3), .second, .val (.long j31_0), .second, .val (.long j51_0), .second, .val (.long j70_0), .second, .val (.long j88_0), .second, .val (.ref b11), .unset] [(.int (0 : Int32))])) _
        exact k
      exact J144_15 _ (by simp only [if_neg hc144_16])
  intro i144_0 h_i144_0
  obtain ⟨cq17, kq17, q17a, q17b, q17c⟩ := isOf hZ rfl p13_1
  obtain ⟨_, _, ⟨T17, L17, k17, n17⟩, -, X17, ⟨Lc17, hQ17, l17, y17, z17⟩, st17⟩ := X13.virtualBack hx (y := (⟨"com/example/rialto/rialto/core/Verification", "ok", "()Z"⟩ : MethodName)) (z := (⟨"com/example/rialto/rialto/core/Verification", "ok", "()Z"⟩ : MethodName)) hown (mvT hZ (hw _ (List.mem_of_getElem? (i := 32) rfl))) (mvT hZ (hw _ (List.mem_of_getElem? (i := 33) rfl))) (notFace_of_selects (args := #[]) (mvT hZ (hw _ (List.mem_of_getElem? (i := 35) rfl)))) (mvT hZ (hw _ (List.mem_of_getElem? (i := 35) rfl))) (mvT hZ (hw _ (List.mem_of_getElem? (i := 34) rfl))) (by decide) (backOf (W := 0) (rm4 l Z a0 hw [] b11 q1 j9_0 q3 j31_0 j51_0 j70_0 j88_0 T13.heap n0 z14 p13_2 p13_3 p13_4 p13_5 p13_6 p13_7 p13_8) hZ (hw _ (List.mem_of_getElem? (i := 36) rfl)) (hw _ (List.mem_of_getElem? (i := 6) rfl)) (by decide) (by decide)) q17a q17c (g := (mkF m 156 #[.val (.long q1), .second, .val (.long q2), .second, .val (.long q3), .second, .val (.long q4), .second, .val (.long q5), .second, .val (.long q6), .second, .val (.long q1), .second, .val (.long j9_0), .second, .val (.long q3), .second, .val (.long j31_0), .second, .val (.long j51_0), .second, .val (.long j70_0), .second, .val (.long j88_0), .second, .val (.ref b11), .val (.int i144_0)] [(.ref b11)])) rfl (by rw [hml]; rfl) (Steps.refl _) (argsL := []) (rest := []) (lenOf pd_2 rfl) rfl (by show 2 * 0 + _ ≤ _; exact Nat.le_of_eq rfl) (hb hby at_156) (fun _ _ => ⟨rfl, rfl, (by decide : 1 + 0 ≤ _), (by decide : 7 + 0 ≤ _)⟩)
  dsimp only [Pt.U, Pt.locs, Pt.cells, Pt.slots] at X17 l17 y17 z17 st17 hQ17
  subst l17 y17 z17
  obtain ⟨r17, rfl, hr17, N17q, eq17⟩ := hQ17
  have N17 := Fr.app N13 N17q
  obtain ⟨fs, hr, hrun, hended, hW, hsame⟩ := X17.leave (v := some (.int (1 : Int32))) (fun h => by rw [Bd.returns] at h; cases h)
  refine ⟨_, _, ?_, hrun, hended, _, _, rfl, ?_, ⟨_, rfl⟩, hW, hsame.mono (by decide) (by decide)⟩
  · show Steps p.tables e below (T13.setTop (mkF m 152 #[.val (.long q1), .second, .val (.long q2), .second, .val (.long q3), .second, .val (.long q4), .second, .val (.long q5), .second, .val (.long q6), .second, .val (.long q1), .second, .val (.long j9_0), .second, .val (.long q3), .second, .val (.long j31_0), .second, .val (.long j51_0), .second, .val (.long j70_0), .second, .val (.long j88_0), .second, .val (.ref b11), .unset] [(.int i144_0)])) _
    refine XS.istore X13.here hx rfl (hb hby at_152) rfl (l' := #[.val (.long q1), .second, .val (.long q2), .second, .val (.long q3), .second, .val (.long q4), .second, .val (.long q5), .second, .val (.long q6), .second, .val (.long q1), .second, .val (.long j9_0), .second, .val (.long q3), .second, .val (.long j31_0), .second, .val (.long j51_0), .second, .val (.long j70_0), .second, .val (.long j88_0), .second, .val (.ref b11), .val (.int i144_0)]) rfl ?_
    show Steps p.tables e below (T13.setTop (mkF m 154 #[.val (.long q1), .second, .val (.long q2), .second, .val (.long q3), .second, .val (.long q4), .second, .val (.long q5), .second, .val (.long q6), .second, .val (.long q1), .second, .val (.long j9_0), .second, .val (.long q3), .second, .val (.long j31_0), .second, .val (.long j51_0), .second, .val (.long j70_0), .second, .val (.long j88_0), .second, .val (.ref b11), .val (.int i144_0)] [])) _
    refine XS.aload X13.here hx rfl (hb hby at_154) rfl rfl ?_
    show Steps p.tables e below (T13.setTop (mkF m 156 #[.val (.long q1), .second, .val (.long q2), .second, .val (.long q3), .second, .val (.long q4), .second, .val (.long q5), .second, .val (.long q6), .second, .val (.long q1), .second, .val (.long j9_0), .second, .val (.long q3), .second, .val (.long j31_0), .second, .val (.long j51_0), .second, .val (.long j70_0), .second, .val (.long j88_0), .second, .val (.ref b11), .val (.int i144_0)] [(.ref b11)])) _
    refine st17.trans ?_
    show Steps p.tables e below (T17.setTop (mkF m 159 #[.val (.long q1), .second, .val (.long q2), .second, .val (.long q3), .second, .val (.long q4), .second, .val (.long q5), .second, .val (.long q6), .second, .val (.long q1), .second, .val (.long j9_0), .second, .val (.long q3), .second, .val (.long j31_0), .second, .val (.long j51_0), .second, .val (.long j70_0), .second, .val (.long j88_0), .second, .val (.ref b11), .val (.int i144_0)] [(.int r17)])) _
    refine XS.iload X17.here hx rfl (hb hby at_159) rfl ?_
    show Steps p.tables e below (T17.setTop (mkF m 161 #[.val (.long q1), .second, .val (.long q2), .second, .val (.long q3), .second, .val (.long q4), .second, .val (.long q5), .second, .val (.long q6), .second, .val (.long q1), .second, .val (.long j9_0), .second, .val (.long q3), .second, .val (.long j31_0), .second, .val (.long j51_0), .second, .val (.long j70_0), .second, .val (.long j88_0), .second, .val (.ref b11), .val (.int i144_0)] [(.int i144_0), (.int r17)])) _
    refine XS.icmpNo X17.here hx rfl (hb hby at_161) rfl ((teq (own_law h_i144_0 hr17 : r17 = i144_0)).2) ?_
    show Steps p.tables e below (T17.setTop (mkF m 164 #[.val (.long q1), .second, .val (.long q2), .second, .val (.long q3), .second, .val (.long q4), .second, .val (.long q5), .second, .val (.long q6), .second, .val (.long q1), .second, .val (.long j9_0), .second, .val (.long q3), .second, .val (.long j31_0), .second, .val (.long j51_0), .second, .val (.long j70_0), .second, .val (.long j88_0), .second, .val (.ref b11), .val (.int i144_0)] [])) _
    refine XS.iconst X17.here hx rfl (hb hby at_164) ?_
    show Steps p.tables e below (T17.setTop (mkF m 165 #[.val (.long q1), .second, .val (.long q2), .second, .val (.long q3), .second, .val (.long q4), .second, .val (.long q5), .second, .val (.long q6), .second, .val (.long q1), .second, .val (.long j9_0), .second, .val (.long q3), .second, .val (.long j31_0), .second, .val (.long j51_0), .second, .val (.long j70_0), .second, .val (.long j88_0), .second, .val (.ref b11), .val (.int i144_0)] [(.int (1 : Int32))])) _
    refine XS.goto X17.here hx rfl (pc0 := 165) (pc' := 169) rfl (hb hby at_165) (by decide) (by decide) ?_
    show Steps p.tables e below (T17.setTop (mkF m 169 #[.val (.long q1), .second, .val (.long q2), .second, .val (.long q3), .second, .val (.long q4), .second, .val (.long q5), .second, .val (.long q6), .second, .val (.long q1), .second, .val (.long j9_0), .second, .val (.long q3), .second, .val (.long j31_0), .second, .val (.long j51_0), .second, .val (.long j70_0), .second, .val (.long j88_0), .second, .val (.ref b11), .val (.int i144_0)] [(.int (1 : Int32))])) _
    exact retN X17 hx (t := .boolean) Bd.returns (by simp) (hb hby at_169) hr
  · exact ⟨rfl, N17⟩
set_option maxRecDepth 65536 in
set_option maxHeartbeats 40000000 in
theorem comes_1 {Post : Tables → Env → Array Value → State → Outcome → State → Prop} (hpost : ∀ tb e args s v u, (limb_1_1.after args s (.returned v) u = true ∧ limb_1_2.after args s (.returned v) u = true ∧ True) → FrameEnd s (.returned v) u (Jvm.fieldLocs frame_1_writes args s ++ Jvm.arrayLocs frame_1_arrays args s ++ Jvm.staticLocs frame_1_statics s) 16 128 → Post tb e args s (.returned v) u) :
    ArmFor flags0 classFile x code maxLocals ret World_1 tables_1 room_1 Calls_1 rest_1 Pre_1 Post := by
  intro l hfl _ _ p e ha hc hk s m args below hf hA hF happ hP
  obtain ⟨hcalls, hrest, hpre⟩ := hP
  obtain ⟨-, -, -, hnamed, -, -, -, hat⟩ := (Spec.applies_iff hf).mp happ
  obtain ⟨hg, hn⟩ := and_e (Cond.before_iff.mp (show (Jvm.Cond.and given_1 narrow_1).before args s = true from hpre))
  obtain ⟨g1, g2⟩ := and_e hg
  obtain ⟨g3, g4⟩ := and_e g2
  obtain ⟨g5, g6⟩ := and_e g4
  obtain ⟨g7, g8⟩ := and_e g6
  obtain ⟨g9, g10⟩ := and_e g8
  obtain ⟨g11, g12⟩ := and_e g10
  obtain ⟨w0, w1, w2, w3, w4, w5, rfl⟩ : ∃ w0 w1 w2 w3 w4 w5 : Value, args = #[w0, w1, w2, w3, w4, w5] := by
    have hs : args.size = 6 := by simpa [Cond.value, given_1] using g1
    obtain ⟨L⟩ := args
    match L, hs with
    | [w0, w1, w2, w3, w4, w5], _ => exact ⟨w0, w1, w2, w3, w4, w5, rfl⟩
  have hw := fun d (hd : d ∈ tables_1) => atoms_spec (ws := Jvm.Cond.code x code maxLocals ret :: tables_1) hat d (List.mem_cons_of_mem _ hd)
  have hfit : Fit s := fun {y c} hc i hi => by
    obtain ⟨ha, rfl⟩ := Array.getElem?_eq_some_iff.mp hc
    have q := List.all_eq_true.mp ((Array.all_eq_true_iff_forall_mem.mp hF) _ (Array.getElem_mem ha)) i (List.mem_range.mpr hi)
    simpa [Array.getElem?_eq_getElem hi] using q
  obtain ⟨i0, ei0⟩ := isL_v g3
  obtain rfl : w0 = (.long i0) := Option.some.inj ei0
  obtain ⟨i1, ei1⟩ := isL_v g5
  obtain rfl : w1 = (.long i1) := Option.some.inj ei1
  obtain ⟨i2, ei2⟩ := isL_v g7
  obtain rfl : w2 = (.long i2) := Option.some.inj ei2
  obtain ⟨i3, ei3⟩ := isL_v g9
  obtain rfl : w3 = (.long i3) := Option.some.inj ei3
  obtain ⟨i4, ei4⟩ := isL_v g11
  obtain rfl : w4 = (.long i4) := Option.some.inj ei4
  obtain ⟨i5, ei5⟩ := isL_v g12
  obtain rfl : w5 = (.long i5) := Option.some.inj ei5
  obtain ⟨n, o, h1, h2, h3, _, L, rfl, ⟨rfl, N⟩, hq⟩ := rm0 l s _ hw tables_1 i0 i1 i2 i3 i4 i5  s.heap s.heap.size (Nat.le_refl _)  p e ha hc hk s m _ below hf ((Spec.applies_iff_loose hf).mp happ).1 ⟨rfl, State.Warmed39.refl s, rfl⟩ trivial
  refine ⟨n, _, h1, h2, h3, hpost _ _ _ _ _ _ ⟨Cond.after_iff.mpr rfl, Cond.after_iff.mpr (eq_i res_at (Term.int_eval (1)) rfl), trivial⟩ ⟨hq.1, hq.2.1, (hq.2.2.sift fun y hy => Or.inr (N y hy)).mono (by decide) (by decide)⟩⟩
theorem main_1_1 : Claimed_1_1 := comes_1 fun _ _ _ _ _ _ h hF => ⟨h.1, hF⟩
theorem main_1_2 : Claimed_1_2 := comes_1 fun _ _ _ _ _ _ h hF => ⟨h.2.1, hF⟩
end Jvm.Pilot.@@N@@
namespace Jvm.Pilot.@@N@@
open Jvm Jvm.ClassFile Sem Op Lib Jvm.Free Jvm.Stand Jvm.Pilot.@@N@@.Jvm.D
/-! MADE BY PROGRAM (witnessworld.py) out of the Statement's table words and the real class files: 8 classes; the members and pool entries that the words name. The judged class is class 1, her method 1. -/
namespace start1
open Jvm.ClassFile
def u (s : String) : CpInfo := .utf8 (stringToUtf16 s)
/-- a pool by its gaps: so many unusable entries, then the entry; so many at the end -/
def gap : Nat → List CpInfo → List CpInfo
  | 0, r => r
  | n + 1, r => .unusable :: gap n r
def poolList (es : List (Nat × CpInfo)) (last : Nat) : List CpInfo := es.foldr (fun e r => gap e.1 (e.2 :: r)) (gap last [])
def pool (es : List (Nat × CpInfo)) (last : Nat) : Array CpInfo := ⟨poolList es last⟩
def fileOf (pool : Array CpInfo) (this : Nat) (attrs : Array Attribute := #[]) (ms : Array MethodInfo := #[]) (fl : Nat := 33) (sup : Nat := 0) (ifs : Array Nat := #[]) (fds : Array FieldInfo := #[]) : ClassFile where
  minorVersion := 0
  majorVersion := 65
  constantPool := pool
  accessFlags := fl
  thisClass := this
  superClass := sup
  interfaces := ifs
  fields := fds
  methods := ms
  attributes := attrs
def plain (name : String) (sup : Option ClassId) : Class where
  name := name
  kind := .ordinary
  loader := none
  accessFlags := 33
  super := sup
  interfaces := #[]
  cf := none
  fields := #[]
  methods := #[]
  instanceTypes := #[]
  staticTypes := #[]
  resolved := #[]
  callSites := []
  init := .initialized
  statics := none
  mirror := none

def pool0 : Array CpInfo := pool [(5, u "<init>"), (0, u "()V"), (1, .class_ 10), (1, u "java/lang/Object")] 113

def k0c0 : Code := { maxStack := 0, maxLocals := 1, code := object_method_1_code, exceptionTable := #[], attributes := #[] }
def k0m0 : Method := { name := "<init>", desc := "()V", sig := { parameters := [], returnType := none }, accessFlags := 1, code := some k0c0 }
/-- java/lang/Object -/
def k0 : Class := { plain "java/lang/Object" none with
  accessFlags := 33
  interfaces := #[]
  cf := some (fileOf pool0 8 #[] #[{ accessFlags := 1, nameIndex := 5, descriptorIndex := 6, attributes := #[] }] 33 0 #[] #[])
  fields := #[]
  methods := #[k0m0]
  instanceTypes := #[]
  staticTypes := #[]
  resolved := Array.replicate 124 none
  statics := none }

def pool1 : Array CpInfo := pool [(2, .class_ 4), (1, u "java/lang/Object"), (0, u "<init>"), (0, u "()V"), (0, .long 2), (1, .long 4), (1, .long 8), (1, .long 16), (1, .class_ 16), (0, u "com/example/rialto/rialto/core/Verification"), (0, .methodref 15 18), (0, .nameAndType 5 19), (0, u "(JJJJJJJ)V"), (0, .methodref 15 21), (0, .nameAndType 22 23), (0, u "ok"), (0, u "()Z"), (0, .class_ 25), (0, u "com/example/rialto/rialto/core/VerificationOkPinLaw"), (2, u "law"), (0, u "(JJJJJJ)Z")] 3

def k1m0 : Method := { name := "<init>", desc := "()V", sig := { parameters := [], returnType := none }, accessFlags := 1, code := none }
def k1c1 : Code := { maxStack := 16, maxLocals := 28, code := code, exceptionTable := #[], attributes := #[] }
def k1m1 : Method := { name := "law", desc := "(JJJJJJ)Z", sig := { parameters := [.long, .long, .long, .long, .long, .long], returnType := some .boolean }, accessFlags := 9, code := some k1c1 }
/-- com/example/rialto/rialto/core/VerificationOkPinLaw -/
def k1 : Class := { plain "com/example/rialto/rialto/core/VerificationOkPinLaw" (some 0) with
  accessFlags := 49
  interfaces := #[]
  cf := some (fileOf pool1 24 #[] #[{ accessFlags := 1, nameIndex := 5, descriptorIndex := 6, attributes := #[] }, { accessFlags := 9, nameIndex := 28, descriptorIndex := 29, attributes := #[] }] 49 2 #[] #[])
  fields := #[]
  methods := #[k1m0, k1m1]
  instanceTypes := #[]
  staticTypes := #[]
  resolved := Array.replicate 33 none
  statics := none }

def pool2 : Array CpInfo := pool [(1, .methodref 2 3), (0, .class_ 4), (0, .nameAndType 5 6), (0, u "java/lang/Object"), (0, u "<init>"), (0, u "()V"), (0, .class_ 8), (0, u "java/lang/Record")] 13

def k2c0 : Code := { maxStack := 1, maxLocals := 1, code := jdk_30_method_1_code, exceptionTable := #[], attributes := #[] }
def k2m0 : Method := { name := "<init>", desc := "()V", sig := { parameters := [], returnType := none }, accessFlags := 4, code := some k2c0 }
/-- java/lang/Record -/
def k2 : Class := { plain "java/lang/Record" (some 0) with
  accessFlags := 1057
  interfaces := #[]
  cf := some (fileOf pool2 7 #[] #[{ accessFlags := 4, nameIndex := 5, descriptorIndex := 6, attributes := #[] }] 1057 2 #[] #[])
  fields := #[]
  methods := #[k2m0]
  instanceTypes := #[]
  staticTypes := #[]
  resolved := Array.replicate 22 none
  statics := none }

def pool3 : Array CpInfo := pool [(1, .methodref 2 3), (0, .class_ 4), (0, .nameAndType 5 6), (0, u "java/lang/Record"), (0, u "<init>"), (0, u "()V"), (0, .fieldref 8 9), (0, .class_ 10), (0, .nameAndType 11 12), (0, u "com/example/rialto/rialto/core/Verification"), (0, u "bankDeposit"), (0, u "J"), (0, .fieldref 8 14), (0, .nameAndType 15 12), (0, u "withdrawableTotal"), (0, .fieldref 8 17), (0, .nameAndType 18 12), (0, u "rechargeInTransit"), (0, .fieldref 8 20), (0, .nameAndType 21 12), (0, u "inTransitAndUnavailableTotal"), (0, .fieldref 8 23), (0, .nameAndType 24 12), (0, u "negativeBalances"), (0, .fieldref 8 26), (0, .nameAndType 27 12), (0, u "mismatchedBalances"), (0, .fieldref 8 29), (0, .nameAndType 30 12), (0, u "unbalancedPostings"), (12, u "(JJJJJJJ)V"), (3, u "ok"), (0, u "()Z"), (8, .class_ 58), (0, u "com/example/rialto/rialto/core/Verification$Tally")] 25

def k3c0 : Code := { maxStack := 3, maxLocals := 15, code := prog_25_method_1_code, exceptionTable := #[], attributes := #[] }
def k3m0 : Method := { name := "<init>", desc := "(JJJJJJJ)V", sig := { parameters := [.long, .long, .long, .long, .long, .long, .long], returnType := none }, accessFlags := 1, code := some k3c0 }
def k3c1 : Code := { maxStack := 4, maxLocals := 1, code := prog_25_method_2_code, exceptionTable := #[], attributes := #[] }
def k3m1 : Method := { name := "ok", desc := "()Z", sig := { parameters := [], returnType := some .boolean }, accessFlags := 1, code := some k3c1 }
/-- com/example/rialto/rialto/core/Verification -/
def k3 : Class := { plain "com/example/rialto/rialto/core/Verification" (some 2) with
  accessFlags := 49
  interfaces := #[]
  cf := some (fileOf pool3 8 #[.nestMembers #[57]] #[{ accessFlags := 1, nameIndex := 5, descriptorIndex := 43, attributes := #[] }, { accessFlags := 1, nameIndex := 47, descriptorIndex := 48, attributes := #[] }] 49 2 #[] #[{ accessFlags := 18, nameIndex := 11, descriptorIndex := 12, attributes := #[] }, { accessFlags := 18, nameIndex := 15, descriptorIndex := 12, attributes := #[] }, { accessFlags := 18, nameIndex := 18, descriptorIndex := 12, attributes := #[] }, { accessFlags := 18, nameIndex := 21, descriptorIndex := 12, attributes := #[] }, { accessFlags := 18, nameIndex := 24, descriptorIndex := 12, attributes := #[] }, { accessFlags := 18, nameIndex := 27, descriptorIndex := 12, attributes := #[] }, { accessFlags := 18, nameIndex := 30, descriptorIndex := 12, attributes := #[] }])
  fields := #[{ name := "bankDeposit", type := .long, accessFlags := 18, slot := 0, constantValue := 0 }, { name := "withdrawableTotal", type := .long, accessFlags := 18, slot := 1, constantValue := 0 }, { name := "rechargeInTransit", type := .long, accessFlags := 18, slot := 2, constantValue := 0 }, { name := "inTransitAndUnavailableTotal", type := .long, accessFlags := 18, slot := 3, constantValue := 0 }, { name := "negativeBalances", type := .long, accessFlags := 18, slot := 4, constantValue := 0 }, { name := "mismatchedBalances", type := .long, accessFlags := 18, slot := 5, constantValue := 0 }, { name := "unbalancedPostings", type := .long, accessFlags := 18, slot := 6, constantValue := 0 }]
  methods := #[k3m0, k3m1]
  instanceTypes := #[.long, .long, .long, .long, .long, .long, .long]
  staticTypes := #[]
  resolved := Array.replicate 84 none
  statics := none }

def pool4 : Array CpInfo := pool [(1, u "java/lang/Cloneable"), (0, .class_ 1), (0, u "java/lang/Object"), (0, .class_ 3)] 3

/-- java/lang/Cloneable -/
def k4 : Class := { plain "java/lang/Cloneable" (some 0) with
  accessFlags := 1537
  interfaces := #[]
  cf := some (fileOf pool4 2 #[] #[] 1537 4 #[] #[])
  fields := #[]
  methods := #[]
  instanceTypes := #[]
  staticTypes := #[]
  resolved := Array.replicate 8 none
  statics := none }

def pool5 : Array CpInfo := pool [(1, u "java/io/Serializable"), (0, .class_ 1), (0, u "java/lang/Object"), (0, .class_ 3)] 3

/-- java/io/Serializable -/
def k5 : Class := { plain "java/io/Serializable" (some 0) with
  accessFlags := 1537
  interfaces := #[]
  cf := some (fileOf pool5 2 #[] #[] 1537 4 #[] #[])
  fields := #[]
  methods := #[]
  instanceTypes := #[]
  staticTypes := #[]
  resolved := Array.replicate 8 none
  statics := none }

/-- the primitive byte -/
def k6 : Class := { plain "byte" none with kind := .primitive 'B', accessFlags := 0x411 }
/-- [B -/
def k7 : Class := { plain "[B" (some 0) with kind := .array 6 .byte, interfaces := #[4, 5], accessFlags := 1041 }

def heap : Heap := #[]
def classes : Array Class := #[k0, k1, k2, k3, k4, k5, k6, k7]
def interned : List (Array UInt16 × Addr) := []
def slotsUsed : Nat := 0
def theMethod : MethodId := ⟨1, 1⟩
def args0 : Array Value := #[.long 5, .long 9, .long 1, .long 2, .long 3, .long 7]
def aboutOver (below : List Frame) : State where
  vm := { classes := classes, interned := interned.toArray }
  heap := heap
  slotsUsed := slotsUsed
  threads := #[{ frames := .invoking theMethod args0 :: below }]
def below0 : List Frame := [.native { method := ⟨0, 0⟩, args := #[] }]
def about1 : State := aboutOver below0
def p0 : Program := .bare "" "" ""
def e0 : Env := launch0.env 0 0 0
theorem w_frames : about1.frames = Frame.invoking theMethod args0 :: below0 := rfl
set_option maxRecDepth 65536 in
theorem w_args : argsFit about1.vm theMethod args0 = true := by decide +kernel
set_option maxRecDepth 65536 in
theorem w_heap : heapFits about1 = true := by decide +kernel
set_option maxRecDepth 65536 in
theorem w_runnable : about1.curStatus? = some .runnable := by decide +kernel
set_option maxRecDepth 65536 in
theorem w_alone : about1.alone = true := by decide +kernel
set_option maxRecDepth 65536 in
theorem w_named : about1.methodNamed? x = some theMethod := by decide +kernel
set_option maxRecDepth 65536 in
theorem w_hears : about1.hears theMethod below0 = true := by decide +kernel
set_option maxRecDepth 65536 in
theorem w_ripe : about1.ripe theMethod args0 below0 = true := by decide +kernel
theorem w_running : about1.status = .running := rfl
set_option maxRecDepth 65536 in
theorem w_room : about1.hasRoom e0.platform room_1 = true :=
  launch0.hasRoom_least _ room_1 (by decide +kernel) (by decide +kernel) (by decide +kernel) (by decide +kernel) (by decide +kernel) (by decide +kernel)
theorem allAtoms_all (ts : List Jvm.Cond) (a : Array Jvm.Value) (st : Jvm.State) : (allAtoms ts).before a st = ts.all (fun c => c.before a st) := by
  induction ts with
  | nil => rfl
  | cons c t ih =>
    show (Jvm.Cond.and c (allAtoms t)).before a st = _
    rw [Jvm.Cond.before_and, ih, List.all_cons]
def words1 : List Jvm.Cond := Jvm.Cond.code x code maxLocals ret :: tables_1
/-- a 'code' word, met by the world's own term for the bytes: nothing is compared byte by byte -/
theorem code_word {y : MethodName} {bytes : ByteArray} {mx : Nat} {rt : Option FieldType} {a : Array Value} {s : State} {m : MethodId} {meth : Method} {c : Code} (h1 : s.methodNamed? y = some m) (h2 : s.vm.method? m = some meth) (h3 : meth.code = some c) (h4 : c.code = bytes)
    (h5 : (c.maxLocals == mx && c.exceptionTable.isEmpty && decide (c.maxStack ≤ mostOperands) && decide (meth.sig.returnType = rt) && !meth.locks && decide (parseMethodDescriptor y.desc = some meth.sig)) = true) : (Jvm.Cond.code y bytes mx rt).before a s = true := by
  simp only [Bool.and_eq_true, beq_iff_eq, Bool.not_eq_true', decide_eq_true_eq] at h5
  obtain ⟨⟨⟨⟨⟨g1, g2⟩, g3⟩, g4⟩, g5⟩, g6⟩ := h5
  simp [Cond.before, Cond.holds, Cond.value, h1, h2, h3, h4, g1, g2, g3, g4, g5, g6]
def isCode : Jvm.Cond → Bool
  | .code _ _ _ _ => true
  | _ => false
theorem all_split {L : List Jvm.Cond} {P : Jvm.Cond → Bool} (h1 : L.all (fun c => isCode c || P c) = true) (h2 : ∀ c ∈ L.filter isCode, P c = true) : L.all P = true := by
  refine List.all_eq_true.mpr fun c hc => ?_
  have h := List.all_eq_true.mp h1 c hc
  rcases Bool.eq_false_or_eq_true (isCode c) with hi | hi
  · exact h2 c (List.mem_filter.mpr ⟨hc, hi⟩)
  · simpa [hi] using h
set_option maxRecDepth 65536 in
theorem w_c0 : (Jvm.Cond.code x code maxLocals ret).before args0 about1 = true := code_word (m := ⟨1, 1⟩) (meth := k1m1) (c := k1c1) (by decide +kernel) rfl rfl rfl (by decide +kernel)
set_option maxRecDepth 65536 in
theorem w_c1 : (Jvm.Cond.code ({ cls := "com/example/rialto/rialto/core/Verification", name := "<init>", desc := "(JJJJJJJ)V" } : Jvm.MethodName) prog_25_method_1_code (15 : Nat) (Option.none : Option Jvm.ClassFile.FieldType)).before args0 about1 = true := code_word (m := ⟨3, 0⟩) (meth := k3m0) (c := k3c0) (by decide +kernel) rfl rfl rfl (by decide +kernel)
set_option maxRecDepth 65536 in
theorem w_c2 : (Jvm.Cond.code ({ cls := "java/lang/Record", name := "<init>", desc := "()V" } : Jvm.MethodName) jdk_30_method_1_code (1 : Nat) (Option.none : Option Jvm.ClassFile.FieldType)).before args0 about1 = true := code_word (m := ⟨2, 0⟩) (meth := k2m0) (c := k2c0) (by decide +kernel) rfl rfl rfl (by decide +kernel)
set_option maxRecDepth 65536 in
theorem w_c3 : (Jvm.Cond.code ({ cls := "java/lang/Object", name := "<init>", desc := "()V" } : Jvm.MethodName) object_method_1_code (1 : Nat) (Option.none : Option Jvm.ClassFile.FieldType)).before args0 about1 = true := code_word (m := ⟨0, 0⟩) (meth := k0m0) (c := k0c0) (by decide +kernel) rfl rfl rfl (by decide +kernel)
set_option maxRecDepth 65536 in
theorem w_c4 : (Jvm.Cond.code ({ cls := "com/example/rialto/rialto/core/Verification", name := "ok", desc := "()Z" } : Jvm.MethodName) prog_25_method_2_code (1 : Nat) (Option.some Jvm.ClassFile.FieldType.boolean)).before args0 about1 = true := code_word (m := ⟨3, 1⟩) (meth := k3m1) (c := k3c1) (by decide +kernel) rfl rfl rfl (by decide +kernel)
def codes1 : List Jvm.Cond := [Jvm.Cond.code x code maxLocals ret, Jvm.Cond.code ({ cls := "com/example/rialto/rialto/core/Verification", name := "<init>", desc := "(JJJJJJJ)V" } : Jvm.MethodName) prog_25_method_1_code (15 : Nat) (Option.none : Option Jvm.ClassFile.FieldType), Jvm.Cond.code ({ cls := "java/lang/Record", name := "<init>", desc := "()V" } : Jvm.MethodName) jdk_30_method_1_code (1 : Nat) (Option.none : Option Jvm.ClassFile.FieldType), Jvm.Cond.code ({ cls := "java/lang/Object", name := "<init>", desc := "()V" } : Jvm.MethodName) object_method_1_code (1 : Nat) (Option.none : Option Jvm.ClassFile.FieldType), Jvm.Cond.code ({ cls := "com/example/rialto/rialto/core/Verification", name := "ok", desc := "()Z" } : Jvm.MethodName) prog_25_method_2_code (1 : Nat) (Option.some Jvm.ClassFile.FieldType.boolean)]
set_option maxRecDepth 65536 in
theorem codes_eq : words1.filter isCode = codes1 := rfl
theorem w_codes : ∀ c ∈ words1.filter isCode, c.before args0 about1 = true := by
  rw [codes_eq]
  intro c hc
  simp only [codes1, List.mem_cons, List.not_mem_nil, or_false] at hc
  rcases hc with rfl | rfl | rfl | rfl | rfl
  · exact w_c0
  · exact w_c1
  · exact w_c2
  · exact w_c3
  · exact w_c4
set_option maxRecDepth 65536 in
theorem w_t1 : (words1.take 24).all (fun c => isCode c || c.before args0 about1) = true := by decide +kernel
set_option maxRecDepth 65536 in
theorem w_t2 : (words1.drop 24).all (fun c => isCode c || c.before args0 about1) = true := by decide +kernel
theorem w_tables : (allAtoms (Jvm.Cond.code x code maxLocals ret :: tables_1)).before args0 about1 = true := by
  rw [allAtoms_all]
  show words1.all (fun c => c.before args0 about1) = true
  refine all_split ?_ w_codes
  rw [← List.take_append_drop 24 words1, List.all_append, w_t1, w_t2]
  rfl
set_option maxRecDepth 65536 in
theorem w_case : (Jvm.Cond.and given_1 narrow_1).before args0 about1 = true := by decide +kernel
theorem w_applies : (headSpec (Jvm.Cond.code x code maxLocals ret :: tables_1) room_1).applies x e0.platform about1 = true :=
  (Spec.applies_iff w_frames).mpr ⟨w_running, w_runnable, w_alone, w_named, w_hears, w_ripe, w_room, w_tables⟩
theorem atStart : AtStart classFile x code maxLocals ret World_1 tables_1 room_1 Calls_1 rest_1 Pre_1 launch0 p0 e0 about1 theMethod args0 below0 :=
  ⟨lists_1, trivial, launch0.admits_env _ _ _, launch0.least_env, fairChoices_fair.cas, fairChoices_fair.clock, w_frames, w_args, w_heap, w_applies, trivial, trivial, w_case⟩
end start1
theorem witness_1 : WitnessClaimed_1 := ⟨start1.p0, start1.e0, start1.about1, start1.theMethod, start1.args0, start1.below0, start1.atStart⟩
end Jvm.Pilot.@@N@@
