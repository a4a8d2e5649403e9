import JvmDerived
import JvmDerived.Pilot.@@N@@Statement
import JvmDerived.Pilot.@@N@@Code
set_option linter.unusedVariables false
set_option linter.unusedSimpArgs false
namespace Jvm.RoadKit
open Sem ClassFile Op Lib Jvm.Stand Jvm.Free Jvm.LawKit
section New
variable {p : Program} {l : Launch} {e : Env} {R : Room} {s : State} {m : MethodId} {args : Array Value} {below : List Frame} {meth : Method} {c : Code} {T : State} {locs : List Loc} {cells slots : Nat}
theorem retI (X : Stand p l e R s m args below meth c T locs cells slots) (hx : p.tables.exec = Jvm.exec) {pc : Nat} {Ls : Array Slot} {z : Int32} {rest : List Value} (hret : meth.sig.returnType = some .int) (hd : decode c.code pc = .ok (.ireturn, 1)) {fs : List Frame}
    (hl : ∀ (f : JFrame) (acts : List Action), f.method = m → f.locked = none → f.entered = [] → (doReturn e (T.setTop f) acts (some (.int z))).1 = T.setFrames fs) : Steps p.tables e below (T.setTop (mkF m pc Ls (.int z :: rest))) (T.setFrames fs) := by
  have hm' : T.vm.method? m = some meth := X.method'
  have hn : narrow .int (.int z) = .int z := rfl
  show Steps p.tables e below (T.setTop { method := m, pc := pc, locals := Ls, stack := _ :: rest, locked := none }) _
  jvm_step X.here [X.here.top, hx, hd, hm', hret, hn]
  first | (intro acts; rw [hl _ acts rfl rfl rfl]) | rw [hl _ _ rfl rfl rfl]
  exact Steps.refl _
end New
end Jvm.RoadKit
namespace Jvm.Pilot.@@N@@
open Jvm Jvm.ClassFile Sem Op Lib Jvm.Free Jvm.Stand Jvm.LawKit Jvm.RoadKit Bundle Jvm.Pilot.@@N@@.Jvm.D
-- from the state st the run ends, and Q holds of what it leaves
def GoalS (tb : Tables) (e : Env) (below : List Frame) (s : State) (kc ks : Nat) (Q : Option Value → Heap → List Loc → Prop) (st : State) : Prop :=
  ∃ s₂ o, Steps tb e below st s₂ ∧ s₂.status = .running ∧ Ended s₂ below o ∧ ∃ v L, o = .returned v ∧ Q v s₂.heap L ∧ FrameEnd s o s₂ L kc ks
theorem GoalS.lift {tb : Tables} {e : Env} {below : List Frame} {s : State} {kc ks : Nat} {Q : Option Value → Heap → List Loc → Prop} {A B : State}
    (h : ∀ t, Steps tb e below B t → Steps tb e below A t) (g : GoalS tb e below s kc ks Q B) : GoalS tb e below s kc ks Q A := by
  obtain ⟨s₂, o, h1, h2⟩ := g
  exact ⟨s₂, o, h _ h1, h2⟩
-- an array of n places of which place i holds f i
def AV (Z : State) (h : Heap) (a : Addr) (k : ClassId) (ty : FieldType) (n : Nat) (f : Nat → Value) : Prop := ∃ c : Cell, Arr Z h a c ty ∧ c.cls = k ∧ c.slots.size = n ∧ n < 2147483648 ∧ ∀ i, i < n → c.slots[i]? = some (f i)
def updI (f : Nat → Int32) (j : Nat) (v : Int32) : Nat → Int32 := fun i => if i = j then v else f i
def updJ (f : Nat → Int64) (j : Nat) (v : Int64) : Nat → Int64 := fun i => if i = j then v else f i
def updR (f : Nat → Value) (j : Nat) (v : Value) : Nat → Value := fun i => if i = j then v else f i
section Own
variable {Z : State} {h h' : Heap} {a b : Addr} {k : ClassId} {ty : FieldType} {n : Nat} {f g : Nat → Value} {ws : List Addr} {v : Value} {sl : Nat}
theorem AV.lt (F : AV Z h a k ty n f) : a < h.size := by obtain ⟨c, A, -⟩ := F; exact A.lt
theorem AV.ext (F : AV Z h a k ty n f) (E : Ext h h') : AV Z h' a k ty n f := by obtain ⟨c, A, r⟩ := F; exact ⟨c, A.ext E, r⟩
theorem AV.other (F : AV Z h b k ty n f) (W : Wr h h' a sl v) (q : b ≠ a) : AV Z h' b k ty n f := by obtain ⟨c, A, r⟩ := F; exact ⟨c, A.other W q, r⟩
theorem AV.keep (F : AV Z h a k ty n f) (K : Keep h h' ws) (q : a ∉ ws) : AV Z h' a k ty n f := by obtain ⟨c, A, r⟩ := F; exact ⟨c, ⟨K.2.1 a c A.1 q, A.2⟩, r⟩
theorem AV.new {z : Int32} (A : Arr Z h a (newA k ty z) ty) (q : ¬ z < 0) (hn : z.toNatClampNeg = n) (hb : n < 2147483648) : AV Z h a k ty n (fun _ => defaultValue ty) :=
  ⟨_, A, rfl, (sz_new _ _ _).trans hn, hb, fun i hi => by simp [newA, hn, hi]⟩
theorem AV.inb {c : Cell} {j : Int32} (S : c.slots.size = n) (q : ¬ j < 0 ∧ j.toNatClampNeg < n) : ¬ (j < 0 ∨ c.slots.size ≤ j.toNatClampNeg) := fun u => u.elim q.1 fun w => by omega
theorem AV.inx {j : Int32} (q : ¬ j < 0 ∧ j.toNatClampNeg < n) : j.toNatClampNeg < n := q.2
theorem AV.conv (F : AV Z h a k ty n f) (e : ∀ i, i < n → f i = g i) : AV Z h a k ty n g := by
  obtain ⟨c, A, r1, r2, r3, r4⟩ := F; exact ⟨c, A, r1, r2, r3, fun i hi => (r4 i hi).trans (congrArg some (e i hi))⟩
theorem AV.putR {j : Nat} (F : AV Z h a k ty n f) (W : Wr h h' a j v) (hj : j < n) : AV Z h' a k ty n (updR f j v) := by
  obtain ⟨c, A, r1, r2, r3, r4⟩ := F
  refine ⟨_, A.same W, r1, (sz_set _ _ _).trans r2, r3, fun i hi => ?_⟩
  by_cases q : i = j
  · subst q; simp [Cell.setSlot, updR, r2, hi]
  · have q' : j ≠ i := fun u => q u.symm
    simp only [Cell.setSlot, updR, if_neg q]; rw [Array.getElem?_setIfInBounds_ne q']; exact r4 i hi
theorem AV.putI {j : Nat} {f : Nat → Int32} {v : Int32} (F : AV Z h a k ty n (fun i => Value.int (f i))) (W : Wr h h' a j (.int v)) (hj : j < n) : AV Z h' a k ty n (fun i => Value.int (updI f j v i)) :=
  (F.putR W hj).conv fun i _ => by simp only [updR, updI]; split <;> rfl
theorem AV.putJ {j : Nat} {f : Nat → Int64} {v : Int64} (F : AV Z h a k ty n (fun i => Value.long (f i))) (W : Wr h h' a j (.long v)) (hj : j < n) : AV Z h' a k ty n (fun i => Value.long (updJ f j v i)) :=
  (F.putR W hj).conv fun i _ => by simp only [updR, updJ]; split <;> rfl
end Own


theorem own_law {f : Int64} {d r : Int32} (hd : d = if (f &&& (9223372036854775807 : Int64)) = (0 : Int64) then 0 else 1) (hr : r = if (0 : Int64) < (f &&& (9223372036854775807 : Int64)) then 1 else 0) : r = d := by
  have h0 := (c_andSL f (9223372036854775807 : Int64)).2.2 (by decide)
  have e : (0 : Int64).toInt = 0 := rfl
  by_cases h : (f &&& (9223372036854775807 : Int64)) = 0
  · rw [hr, hd, if_pos h, if_neg]; rw [h]; decide
  · rw [hr, hd, if_neg h, if_pos]
    rw [Int64.lt_iff_toInt_lt]
    have : (f &&& (9223372036854775807 : Int64)).toInt ≠ 0 := fun q => h (Int64.toInt_inj.mp (q.trans e.symm))
    omega

theorem d2_0 : decode jdk_30_method_1_code 0 = .ok (.aload_n 0, 1) := by decide +kernel
theorem d2_1 : decode jdk_30_method_1_code 1 = .ok (.invokespecial 1, 3) := by decide +kernel
theorem d2_4 : decode jdk_30_method_1_code 4 = .ok (.return_, 1) := by decide +kernel
theorem pn_0 : plainName "java/lang/Record" = true := by first | (simp [plainName, overriddenIn]; done) | decide +kernel
theorem ef_rm2 (m : MethodId) (a1 : Addr) : entryFrame m #[(.ref a1)] 1 = mkF m 0 #[.val (.ref a1)] [] := by first | (simp [entryFrame, mkF, argsToLocals, Value.category]; done) | rfl
def Q2 (Z : State) (a1 : Addr) (h0 : Heap) (n0 : Nat) (v : Option Value) (h : Heap) (L : List Loc) : Prop := v = none ∧ Fr n0 L ∧ h = h0
set_option maxRecDepth 65536 in
set_option maxHeartbeats 40000000 in
theorem rm2 (l : Launch) (Z : State) (a0 : Array Value) (hw : ∀ d ∈ tables_1, d.before a0 Z = true) (ws : List Jvm.Cond) (a1 : Addr) (h0 : Heap) (n0 : Nat) (Z0 : n0 ≤ h0.size) :
    MetFree l (⟨"java/lang/Record", "<init>", "()V"⟩ : MethodName) (head1 (Jvm.Cond.code (⟨"java/lang/Record", "<init>", "()V"⟩ : MethodName) jdk_30_method_1_code 1 none :: ws) ({ frames := 1, cells := 0, slots := 0, locals := 12 } : Room)) (fun a U => a = #[(.ref a1)] ∧ Z.Warmed39 U.vm ∧ U.heap = h0) (fun _ _ _ _ _ => True) (fun _ U o U' => ∃ v L, o = .returned v ∧ Q2 Z a1 h0 n0 v U'.heap L ∧ FrameEnd U o U' L ({ frames := 1, cells := 0, slots := 0, locals := 12 } : Room).cells ({ frames := 1, cells := 0, slots := 0, locals := 12 } : Room).slots) := by
  refine MetFree.of_bodySF (plainFor_of_name pn_0) hisR ?_
  intro p e s m args below meth c s₁ Bd hml0 hP hK
  obtain ⟨rfl, hZ, hh⟩ := hP
  have hx := Bd.exec
  have hby := Bd.bytes
  have hml : c.maxLocals = 1 := hml0
  have hown : s.vm.findClass "java/lang/Record" = some m.cls := findClass_of_methodNamed Bd.named
  have hnm := (name_of_methodNamed Bd.named Bd.method).1
  have X0 : Stand p l e ({ frames := 1, cells := 0, slots := 0, locals := 12 } : Room) s m #[(.ref a1)] below meth c s₁ [] 0 0 := Stand.of_body Bd
  have e0 : s₁.heap = h0 := by rw [← hh, Bd.state]; rfl
  have N0 := Fr.nil n0
  show GoalS p.tables e below s ({ frames := 1, cells := 0, slots := 0, locals := 12 } : Room).cells ({ frames := 1, cells := 0, slots := 0, locals := 12 } : Room).slots (Q2 Z a1 h0 n0) (s₁.setTop (entryFrame m #[(.ref a1)] 1))
  refine GoalS.lift (B := s₁.setTop (mkF m 0 #[.val (.ref a1)] [])) (fun t k => castTop (ef_rm2 m a1) k) ?_
  have K0 : Keep h0 h0 [] := Keep.refl _ _
  obtain ⟨T1, X1, e1, st1⟩ := initO X0 hx hZ hown (hw _ (List.mem_of_getElem? (i := 12) rfl)) (hw _ (List.mem_of_getElem? (i := 13) rfl)) (hw _ (List.mem_of_getElem? (i := 14) rfl)) e0 (g := (mkF m 1 #[.val (.ref a1)] [(.ref a1)])) rfl (by rw [hml]; rfl) rfl (hb hby d2_1) (by decide) (W := 0) (by show 2 * 0 + _ ≤ _; exact Nat.le_of_eq rfl) (by decide)
  obtain ⟨fs, hr, hrun, hended, hW, hsame⟩ := X1.leave (v := none) (fun _ => rfl)
  refine ⟨_, _, ?_, hrun, hended, _, _, rfl, ?_, ⟨_, rfl⟩, hW, hsame.mono (by decide) (by decide)⟩
  · show Steps p.tables e below (s₁.setTop (mkF m 0 #[.val (.ref a1)] [])) _
    refine XS.aloadN X0.here hx rfl (hb hby d2_0) rfl rfl ?_
    show Steps p.tables e below (s₁.setTop (mkF m 1 #[.val (.ref a1)] [(.ref a1)])) _
    refine st1 _ ?_
    show Steps p.tables e below (T1.setTop (mkF m 4 #[.val (.ref a1)] [])) _
    exact X1.returnOut hx Bd.returns (hb hby d2_4) hr
  · show Q2 Z a1 h0 n0 _ T1.heap _
    exact ⟨rfl, N0, e1⟩
theorem d1_0 : decode prog_60_method_1_code 0 = .ok (.aload_n 0, 1) := by decide +kernel
theorem d1_1 : decode prog_60_method_1_code 1 = .ok (.invokespecial 1, 3) := by decide +kernel
theorem d1_4 : decode prog_60_method_1_code 4 = .ok (.aload_n 0, 1) := by decide +kernel
theorem d1_5 : decode prog_60_method_1_code 5 = .ok (.lload_n 1, 1) := by decide +kernel
theorem d1_6 : decode prog_60_method_1_code 6 = .ok (.putfield 7, 3) := by decide +kernel
theorem d1_9 : decode prog_60_method_1_code 9 = .ok (.aload_n 0, 1) := by decide +kernel
theorem d1_10 : decode prog_60_method_1_code 10 = .ok (.lload_n 3, 1) := by decide +kernel
theorem d1_11 : decode prog_60_method_1_code 11 = .ok (.putfield 13, 3) := by decide +kernel
theorem d1_14 : decode prog_60_method_1_code 14 = .ok (.aload_n 0, 1) := by decide +kernel
theorem d1_15 : decode prog_60_method_1_code 15 = .ok (.lload 5, 2) := by decide +kernel
theorem d1_17 : decode prog_60_method_1_code 17 = .ok (.putfield 16, 3) := by decide +kernel
theorem d1_20 : decode prog_60_method_1_code 20 = .ok (.aload_n 0, 1) := by decide +kernel
theorem d1_21 : decode prog_60_method_1_code 21 = .ok (.lload 7, 2) := by decide +kernel
theorem d1_23 : decode prog_60_method_1_code 23 = .ok (.putfield 19, 3) := by decide +kernel
theorem d1_26 : decode prog_60_method_1_code 26 = .ok (.aload_n 0, 1) := by decide +kernel
theorem d1_27 : decode prog_60_method_1_code 27 = .ok (.lload 9, 2) := by decide +kernel
theorem d1_29 : decode prog_60_method_1_code 29 = .ok (.putfield 22, 3) := by decide +kernel
theorem d1_32 : decode prog_60_method_1_code 32 = .ok (.aload_n 0, 1) := by decide +kernel
theorem d1_33 : decode prog_60_method_1_code 33 = .ok (.iload 11, 2) := by decide +kernel
theorem d1_35 : decode prog_60_method_1_code 35 = .ok (.putfield 25, 3) := by decide +kernel
theorem d1_38 : decode prog_60_method_1_code 38 = .ok (.return_, 1) := by decide +kernel
theorem pn_1 : plainName "com/example/tideline/tideline/repository/Expiry" = true := by first | (simp [plainName, overriddenIn]; done) | decide +kernel
theorem pd_0 : parseMethodDescriptor "()V" = some ⟨[], none⟩ := by decide +kernel
theorem ef_rm1 (m : MethodId) (a1 : Addr) (q2 : Int64) (q3 : Int64) (q4 : Int64) (q5 : Int64) (q6 : Int64) (p7 : Int32) : entryFrame m #[(.ref a1), (.long q2), (.long q3), (.long q4), (.long q5), (.long q6), (.int p7)] 12 = mkF m 0 #[.val (.ref a1), .val (.long q2), .second, .val (.long q3), .second, .val (.long q4), .second, .val (.long q5), .second, .val (.long q6), .second, .val (.int p7)] [] := by first | (simp [entryFrame, mkF, argsToLocals, Value.category]; done) | rfl
def Q1 (Z : State) (a1 : Addr) (q2 : Int64) (q3 : Int64) (q4 : Int64) (q5 : Int64) (q6 : Int64) (p7 : Int32) (u_commits : Value) (u_bytes : Value) (u_firstEventId : Value) (u_lastEventId : Value) (u_keptBytes : Value) (u_overCap : Value) (h0 : Heap) (n0 : Nat) (v : Option Value) (h : Heap) (L : List Loc) : Prop := v = none ∧ Fr n0 L ∧ Keep h0 h [a1] ∧ (Exa Z h a1 "com/example/tideline/tideline/repository/Expiry") ∧ (Fld Z h a1 "com/example/tideline/tideline/repository/Expiry" "commits" "J" (.long q2)) ∧ (Fld Z h a1 "com/example/tideline/tideline/repository/Expiry" "bytes" "J" (.long q3)) ∧ (Fld Z h a1 "com/example/tideline/tideline/repository/Expiry" "firstEventId" "J" (.long q4)) ∧ (Fld Z h a1 "com/example/tideline/tideline/repository/Expiry" "lastEventId" "J" (.long q5)) ∧ (Fld Z h a1 "com/example/tideline/tideline/repository/Expiry" "keptBytes" "J" (.long q6)) ∧ (Fld Z h a1 "com/example/tideline/tideline/repository/Expiry" "overCap" "Z" (.int (p7 &&& 1)))
set_option maxRecDepth 65536 in
set_option maxHeartbeats 40000000 in
theorem rm1 (l : Launch) (Z : State) (a0 : Array Value) (hw : ∀ d ∈ tables_1, d.before a0 Z = true) (ws : List Jvm.Cond) (a1 : Addr) (q2 : Int64) (q3 : Int64) (q4 : Int64) (q5 : Int64) (q6 : Int64) (p7 : Int32) (u_commits : Value) (u_bytes : Value) (u_firstEventId : Value) (u_lastEventId : Value) (u_keptBytes : Value) (u_overCap : Value) (h0 : Heap) (n0 : Nat) (Z0 : n0 ≤ h0.size) (E_a1 : Exa Z h0 a1 "com/example/tideline/tideline/repository/Expiry") (g_a1 : n0 ≤ a1) (F_commits_a1 : Fld Z h0 a1 "com/example/tideline/tideline/repository/Expiry" "commits" "J" u_commits) (F_bytes_a1 : Fld Z h0 a1 "com/example/tideline/tideline/repository/Expiry" "bytes" "J" u_bytes) (F_firstEventId_a1 : Fld Z h0 a1 "com/example/tideline/tideline/repository/Expiry" "firstEventId" "J" u_firstEventId) (F_lastEventId_a1 : Fld Z h0 a1 "com/example/tideline/tideline/repository/Expiry" "lastEventId" "J" u_lastEventId) (F_keptBytes_a1 : Fld Z h0 a1 "com/example/tideline/tideline/repository/Expiry" "keptBytes" "J" u_keptBytes) (F_overCap_a1 : Fld Z h0 a1 "com/example/tideline/tideline/repository/Expiry" "overCap" "Z" u_overCap) :
    MetFree l (⟨"com/example/tideline/tideline/repository/Expiry", "<init>", "(JJJJJZ)V"⟩ : MethodName) (head1 (Jvm.Cond.code (⟨"com/example/tideline/tideline/repository/Expiry", "<init>", "(JJJJJZ)V"⟩ : MethodName) prog_60_method_1_code 12 none :: ws) ({ frames := 2, cells := 0, slots := 0, locals := 24 } : Room)) (fun a U => a = #[(.ref a1), (.long q2), (.long q3), (.long q4), (.long q5), (.long q6), (.int p7)] ∧ Z.Warmed39 U.vm ∧ U.heap = h0) (fun _ _ _ _ _ => True) (fun _ U o U' => ∃ v L, o = .returned v ∧ Q1 Z a1 q2 q3 q4 q5 q6 p7 u_commits u_bytes u_firstEventId u_lastEventId u_keptBytes u_overCap h0 n0 v U'.heap L ∧ FrameEnd U o U' L ({ frames := 2, cells := 0, slots := 0, locals := 24 } : Room).cells ({ frames := 2, cells := 0, slots := 0, locals := 24 } : Room).slots) := by
  refine MetFree.of_bodySF (plainFor_of_name pn_1) hisR ?_
  intro p e s m args below meth c s₁ Bd hml0 hP hK
  obtain ⟨rfl, hZ, hh⟩ := hP
  have hx := Bd.exec
  have hby := Bd.bytes
  have hml : c.maxLocals = 12 := hml0
  have hown : s.vm.findClass "com/example/tideline/tideline/repository/Expiry" = some m.cls := findClass_of_methodNamed Bd.named
  have hnm := (name_of_methodNamed Bd.named Bd.method).1
  have X0 : Stand p l e ({ frames := 2, cells := 0, slots := 0, locals := 24 } : Room) s m #[(.ref a1), (.long q2), (.long q3), (.long q4), (.long q5), (.long q6), (.int p7)] below meth c s₁ [] 0 0 := Stand.of_body Bd
  have e0 : s₁.heap = h0 := by rw [← hh, Bd.state]; rfl
  have N0 := Fr.nil n0
  show GoalS p.tables e below s ({ frames := 2, cells := 0, slots := 0, locals := 24 } : Room).cells ({ frames := 2, cells := 0, slots := 0, locals := 24 } : Room).slots (Q1 Z a1 q2 q3 q4 q5 q6 p7 u_commits u_bytes u_firstEventId u_lastEventId u_keptBytes u_overCap h0 n0) (s₁.setTop (entryFrame m #[(.ref a1), (.long q2), (.long q3), (.long q4), (.long q5), (.long q6), (.int p7)] 12))
  refine GoalS.lift (B := s₁.setTop (mkF m 0 #[.val (.ref a1), .val (.long q2), .second, .val (.long q3), .second, .val (.long q4), .second, .val (.long q5), .second, .val (.long q6), .second, .val (.int p7)] [])) (fun t k => castTop (ef_rm1 m a1 q2 q3 q4 q5 q6 p7) k) ?_
  have K0 : Keep h0 h0 [a1] := Keep.refl _ _
  obtain ⟨_, _, ⟨T1, L1, k1, n1⟩, -, X1, ⟨Lc1, hQ1, l1, y1, z1⟩, st1⟩ := X0.specialBack hx (y := (⟨"java/lang/Record", "<init>", "()V"⟩ : MethodName)) rfl hown (mvT hZ (hw _ (List.mem_of_getElem? (i := 7) rfl))) (mvT hZ (hw _ (List.mem_of_getElem? (i := 8) rfl))) (mvT hZ (hw _ (List.mem_of_getElem? (i := 11) rfl))) (by decide) (backOf (W := 0) (rm2 l Z a0 hw [] a1 h0 n0 Z0) hZ (hw _ (List.mem_of_getElem? (i := 11) rfl)) (hw _ (List.mem_of_getElem? (i := 10) rfl)) (by decide) (by decide)) (g := (mkF m 1 #[.val (.ref a1), .val (.long q2), .second, .val (.long q3), .second, .val (.long q4), .second, .val (.long q5), .second, .val (.long q6), .second, .val (.int p7)] [(.ref a1)])) rfl (by rw [hml]; rfl) (Steps.refl _) (a := a1) (argsL := []) (rest := []) (lenOf pd_0 rfl) rfl (by show 2 * 0 + _ ≤ _; exact Nat.le_of_eq rfl) (hb hby d1_1) (fun _ _ => ⟨rfl, e0, (by decide : 0 + 0 ≤ _), (by decide : 0 + 0 ≤ _)⟩)
  dsimp only [Pt.U, Pt.locs, Pt.cells, Pt.slots] at X1 l1 y1 z1 st1 hQ1
  subst l1 y1 z1
  obtain ⟨rfl, N1q, eq1⟩ := hQ1
  have N1 := Fr.app N0 N1q
  obtain ⟨T2, h2, X2, e2, W2, st2⟩ := putF X1 hx hZ hown (host := "") (Or.inl (hw _ (List.mem_of_getElem? (i := 15) rfl))) Via.refl eq1 F_commits_a1 E_a1 (Or.inr ⟨(hw _ (List.mem_of_getElem? (i := 16) rfl)), rfl, hnm⟩) (hw _ (List.mem_of_getElem? (i := 2) rfl)) (ty := .long) (by decide) rfl rfl (g := (mkF m 6 #[.val (.ref a1), .val (.long q2), .second, .val (.long q3), .second, .val (.long q4), .second, .val (.long q5), .second, .val (.long q6), .second, .val (.int p7)] [(.long q2), (.ref a1)])) rfl rfl (hb hby d1_6)
  have z3 : n0 ≤ h2.size := Nat.le_trans Z0 (Keep.of_wr W2).1
  have K4 : Keep h0 h2 [a1] := K0.wr W2 (Or.inl (List.mem_of_getElem? (i := 0) rfl))
  have Fw2 : Fld Z h2 a1 "com/example/tideline/tideline/repository/Expiry" "commits" "J" (.long q2) := F_commits_a1.same W2
  have N2 := Fr.snoc X2 N1 g_a1
  have f5 : Fld Z h2 a1 "com/example/tideline/tideline/repository/Expiry" "bytes" "J" u_bytes := (F_bytes_a1.other W2 (Or.inr (slot_ne (Or.inr (hw _ (List.mem_of_getElem? (i := 18) rfl))) (Or.inr (hw _ (List.mem_of_getElem? (i := 16) rfl))) (by decide) (t := .long) (t' := .long) (by decide) (by decide))))
  have f6 : Exa Z h2 a1 "com/example/tideline/tideline/repository/Expiry" := (E_a1.wr W2)
  obtain ⟨T7, h7, X7, e7, W7, st7⟩ := putF X2 hx hZ hown (host := "") (Or.inl (hw _ (List.mem_of_getElem? (i := 17) rfl))) Via.refl e2 f5 f6 (Or.inr ⟨(hw _ (List.mem_of_getElem? (i := 18) rfl)), rfl, hnm⟩) (hw _ (List.mem_of_getElem? (i := 2) rfl)) (ty := .long) (by decide) rfl rfl (g := (mkF m 11 #[.val (.ref a1), .val (.long q2), .second, .val (.long q3), .second, .val (.long q4), .second, .val (.long q5), .second, .val (.long q6), .second, .val (.int p7)] [(.long q3), (.ref a1)])) rfl rfl (hb hby d1_11)
  have z8 : n0 ≤ h7.size := Nat.le_trans z3 (Keep.of_wr W7).1
  have K9 : Keep h0 h7 [a1] := K4.wr W7 (Or.inl (List.mem_of_getElem? (i := 0) rfl))
  have Fw7 : Fld Z h7 a1 "com/example/tideline/tideline/repository/Expiry" "bytes" "J" (.long q3) := f5.same W7
  have N7 := Fr.snoc X7 N2 g_a1
  have f10 : Fld Z h7 a1 "com/example/tideline/tideline/repository/Expiry" "firstEventId" "J" u_firstEventId := ((F_firstEventId_a1.other W2 (Or.inr (slot_ne (Or.inr (hw _ (List.mem_of_getElem? (i := 20) rfl))) (Or.inr (hw _ (List.mem_of_getElem? (i := 16) rfl))) (by decide) (t := .long) (t' := .long) (by decide) (by decide)))).other W7 (Or.inr (slot_ne (Or.inr (hw _ (List.mem_of_getElem? (i := 20) rfl))) (Or.inr (hw _ (List.mem_of_getElem? (i := 18) rfl))) (by decide) (t := .long) (t' := .long) (by decide) (by decide))))
  have f11 : Exa Z h7 a1 "com/example/tideline/tideline/repository/Expiry" := (f6.wr W7)
  obtain ⟨T12, h12, X12, e12, W12, st12⟩ := putF X7 hx hZ hown (host := "") (Or.inl (hw _ (List.mem_of_getElem? (i := 19) rfl))) Via.refl e7 f10 f11 (Or.inr ⟨(hw _ (List.mem_of_getElem? (i := 20) rfl)), rfl, hnm⟩) (hw _ (List.mem_of_getElem? (i := 2) rfl)) (ty := .long) (by decide) rfl rfl (g := (mkF m 17 #[.val (.ref a1), .val (.long q2), .second, .val (.long q3), .second, .val (.long q4), .second, .val (.long q5), .second, .val (.long q6), .second, .val (.int p7)] [(.long q4), (.ref a1)])) rfl rfl (hb hby d1_17)
  have z13 : n0 ≤ h12.size := Nat.le_trans z8 (Keep.of_wr W12).1
  have K14 : Keep h0 h12 [a1] := K9.wr W12 (Or.inl (List.mem_of_getElem? (i := 0) rfl))
  have Fw12 : Fld Z h12 a1 "com/example/tideline/tideline/repository/Expiry" "firstEventId" "J" (.long q4) := f10.same W12
  have N12 := Fr.snoc X12 N7 g_a1
  have f15 : Fld Z h12 a1 "com/example/tideline/tideline/repository/Expiry" "lastEventId" "J" u_lastEventId := (((F_lastEventId_a1.other W2 (Or.inr (slot_ne (Or.inr (hw _ (List.mem_of_getElem? (i := 22) rfl))) (Or.inr (hw _ (List.mem_of_getElem? (i := 16) rfl))) (by decide) (t := .long) (t' := .long) (by decide) (by decide)))).other W7 (Or.inr (slot_ne (Or.inr (hw _ (List.mem_of_getElem? (i := 22) rfl))) (Or.inr (hw _ (List.mem_of_getElem? (i := 18) rfl))) (by decide) (t := .long) (t' := .long) (by decide) (by decide)))).other W12 (Or.inr (slot_ne (Or.inr (hw _ (List.mem_of_getElem? (i := 22) rfl))) (Or.inr (hw _ (List.mem_of_getElem? (i := 20) rfl))) (by decide) (t := .long) (t' := .long) (by decide) (by decide))))
  have f16 : Exa Z h12 a1 "com/example/tideline/tideline/repository/Expiry" := (f11.wr W12)
  obtain ⟨T17, h17, X17, e17, W17, st17⟩ := putF X12 hx hZ hown (host := "") (Or.inl (hw _ (List.mem_of_getElem? (i := 21) rfl))) Via.refl e12 f15 f16 (Or.inr ⟨(hw _ (List.mem_of_getElem? (i := 22) rfl)), rfl, hnm⟩) (hw _ (List.mem_of_getElem? (i := 2) rfl)) (ty := .long) (by decide) rfl rfl (g := (mkF m 23 #[.val (.ref a1), .val (.long q2), .second, .val (.long q3), .second, .val (.long q4), .second, .val (.long q5), .second, .val (.long q6), .second, .val (.int p7)] [(.long q5), (.ref a1)])) rfl rfl (hb hby d1_23)
  have z18 : n0 ≤ h17.size := Nat.le_trans z13 (Keep.of_wr W17).1
  have K19 : Keep h0 h17 [a1] := K14.wr W17 (Or.inl (List.mem_of_getElem? (i := 0) rfl))
  have Fw17 : Fld Z h17 a1 "com/example/tideline/tideline/repository/Expiry" "lastEventId" "J" (.long q5) := f15.same W17
  have N17 := Fr.snoc X17 N12 g_a1
  have f20 : Fld Z h17 a1 "com/example/tideline/tideline/repository/Expiry" "keptBytes" "J" u_keptBytes := ((((F_keptBytes_a1.other W2 (Or.inr (slot_ne (Or.inr (hw _ (List.mem_of_getElem? (i := 24) rfl))) (Or.inr (hw _ (List.mem_of_getElem? (i := 16) rfl))) (by decide) (t := .long) (t' := .long) (by decide) (by decide)))).other W7 (Or.inr (slot_ne (Or.inr (hw _ (List.mem_of_getElem? (i := 24) rfl))) (Or.inr (hw _ (List.mem_of_getElem? (i := 18) rfl))) (by decide) (t := .long) (t' := .long) (by decide) (by decide)))).other W12 (Or.inr (slot_ne (Or.inr (hw _ (List.mem_of_getElem? (i := 24) rfl))) (Or.inr (hw _ (List.mem_of_getElem? (i := 20) rfl))) (by decide) (t := .long) (t' := .long) (by decide) (by decide)))).other W17 (Or.inr (slot_ne (Or.inr (hw _ (List.mem_of_getElem? (i := 24) rfl))) (Or.inr (hw _ (List.mem_of_getElem? (i := 22) rfl))) (by decide) (t := .long) (t' := .long) (by decide) (by decide))))
  have f21 : Exa Z h17 a1 "com/example/tideline/tideline/repository/Expiry" := (f16.wr W17)
  obtain ⟨T22, h22, X22, e22, W22, st22⟩ := putF X17 hx hZ hown (host := "") (Or.inl (hw _ (List.mem_of_getElem? (i := 23) rfl))) Via.refl e17 f20 f21 (Or.inr ⟨(hw _ (List.mem_of_getElem? (i := 24) rfl)), rfl, hnm⟩) (hw _ (List.mem_of_getElem? (i := 2) rfl)) (ty := .long) (by decide) rfl rfl (g := (mkF m 29 #[.val (.ref a1), .val (.long q2), .second, .val (.long q3), .second, .val (.long q4), .second, .val (.long q5), .second, .val (.long q6), .second, .val (.int p7)] [(.long q6), (.ref a1)])) rfl rfl (hb hby d1_29)
  have z23 : n0 ≤ h22.size := Nat.le_trans z18 (Keep.of_wr W22).1
  have K24 : Keep h0 h22 [a1] := K19.wr W22 (Or.inl (List.mem_of_getElem? (i := 0) rfl))
  have Fw22 : Fld Z h22 a1 "com/example/tideline/tideline/repository/Expiry" "keptBytes" "J" (.long q6) := f20.same W22
  have N22 := Fr.snoc X22 N17 g_a1
  have f25 : Fld Z h22 a1 "com/example/tideline/tideline/repository/Expiry" "overCap" "Z" u_overCap := (((((F_overCap_a1.other W2 (Or.inr (slot_ne (Or.inr (hw _ (List.mem_of_getElem? (i := 26) rfl))) (Or.inr (hw _ (List.mem_of_getElem? (i := 16) rfl))) (by decide) (t := .boolean) (t' := .long) (by decide) (by decide)))).other W7 (Or.inr (slot_ne (Or.inr (hw _ (List.mem_of_getElem? (i := 26) rfl))) (Or.inr (hw _ (List.mem_of_getElem? (i := 18) rfl))) (by decide) (t := .boolean) (t' := .long) (by decide) (by decide)))).other W12 (Or.inr (slot_ne (Or.inr (hw _ (List.mem_of_getElem? (i := 26) rfl))) (Or.inr (hw _ (List.mem_of_getElem? (i := 20) rfl))) (by decide) (t := .boolean) (t' := .long) (by decide) (by decide)))).other W17 (Or.inr (slot_ne (Or.inr (hw _ (List.mem_of_getElem? (i := 26) rfl))) (Or.inr (hw _ (List.mem_of_getElem? (i := 22) rfl))) (by decide) (t := .boolean) (t' := .long) (by decide) (by decide)))).other W22 (Or.inr (slot_ne (Or.inr (hw _ (List.mem_of_getElem? (i := 26) rfl))) (Or.inr (hw _ (List.mem_of_getElem? (i := 24) rfl))) (by decide) (t := .boolean) (t' := .long) (by decide) (by decide))))
  have f26 : Exa Z h22 a1 "com/example/tideline/tideline/repository/Expiry" := (f21.wr W22)
  obtain ⟨T27, h27, X27, e27, W27, st27⟩ := putFN X22 hx hZ hown (hw _ (List.mem_of_getElem? (i := 25) rfl)) Via.refl e22 f25 f26 (Or.inr ⟨(hw _ (List.mem_of_getElem? (i := 26) rfl)), rfl, hnm⟩) (hw _ (List.mem_of_getElem? (i := 2) rfl)) (ty := .boolean) (v' := (.int (p7 &&& 1))) (by decide) rfl (fits_nar_bool _) (g := (mkF m 35 #[.val (.ref a1), .val (.long q2), .second, .val (.long q3), .second, .val (.long q4), .second, .val (.long q5), .second, .val (.long q6), .second, .val (.int p7)] [(.int p7), (.ref a1)])) rfl rfl (hb hby d1_35)
  have z28 : n0 ≤ h27.size := Nat.le_trans z23 (Keep.of_wr W27).1
  have K29 : Keep h0 h27 [a1] := K24.wr W27 (Or.inl (List.mem_of_getElem? (i := 0) rfl))
  have Fw27 : Fld Z h27 a1 "com/example/tideline/tideline/repository/Expiry" "overCap" "Z" (.int (p7 &&& 1)) := f25.same W27
  have N27 := Fr.snoc X27 N22 g_a1
  obtain ⟨fs, hr, hrun, hended, hW, hsame⟩ := X27.leave (v := none) (fun _ => rfl)
  refine ⟨_, _, ?_, hrun, hended, _, _, rfl, ?_, ⟨_, rfl⟩, hW, hsame.mono (by decide) (by decide)⟩
  · show Steps p.tables e below (s₁.setTop (mkF m 0 #[.val (.ref a1), .val (.long q2), .second, .val (.long q3), .second, .val (.long q4), .second, .val (.long q5), .second, .val (.long q6), .second, .val (.int p7)] [])) _
    refine XS.aloadN X0.here hx rfl (hb hby d1_0) rfl rfl ?_
    show Steps p.tables e below (s₁.setTop (mkF m 1 #[.val (.ref a1), .val (.long q2), .second, .val (.long q3), .second, .val (.long q4), .second, .val (.long q5), .second, .val (.long q6), .second, .val (.int p7)] [(.ref a1)])) _
    refine st1.trans ?_
    show Steps p.tables e below (T1.setTop (mkF m 4 #[.val (.ref a1), .val (.long q2), .second, .val (.long q3), .second, .val (.long q4), .second, .val (.long q5), .second, .val (.long q6), .second, .val (.int p7)] [])) _
    refine XS.aloadN X1.here hx rfl (hb hby d1_4) rfl rfl ?_
    show Steps p.tables e below (T1.setTop (mkF m 5 #[.val (.ref a1), .val (.long q2), .second, .val (.long q3), .second, .val (.long q4), .second, .val (.long q5), .second, .val (.long q6), .second, .val (.int p7)] [(.ref a1)])) _
    refine XS.lloadN X1.here hx rfl (hb hby d1_5) rfl ?_
    show Steps p.tables e below (T1.setTop (mkF m 6 #[.val (.ref a1), .val (.long q2), .second, .val (.long q3), .second, .val (.long q4), .second, .val (.long q5), .second, .val (.long q6), .second, .val (.int p7)] [(.long q2), (.ref a1)])) _
    refine st2 _ ?_
    show Steps p.tables e below (T2.setTop (mkF m 9 #[.val (.ref a1), .val (.long q2), .second, .val (.long q3), .second, .val (.long q4), .second, .val (.long q5), .second, .val (.long q6), .second, .val (.int p7)] [])) _
    refine XS.aloadN X2.here hx rfl (hb hby d1_9) rfl rfl ?_
    show Steps p.tables e below (T2.setTop (mkF m 10 #[.val (.ref a1), .val (.long q2), .second, .val (.long q3), .second, .val (.long q4), .second, .val (.long q5), .second, .val (.long q6), .second, .val (.int p7)] [(.ref a1)])) _
    refine XS.lloadN X2.here hx rfl (hb hby d1_10) rfl ?_
    show Steps p.tables e below (T2.setTop (mkF m 11 #[.val (.ref a1), .val (.long q2), .second, .val (.long q3), .second, .val (.long q4), .second, .val (.long q5), .second, .val (.long q6), .second, .val (.int p7)] [(.long q3), (.ref a1)])) _
    refine st7 _ ?_
    show Steps p.tables e below (T7.setTop (mkF m 14 #[.val (.ref a1), .val (.long q2), .second, .val (.long q3), .second, .val (.long q4), .second, .val (.long q5), .second, .val (.long q6), .second, .val (.int p7)] [])) _
    refine XS.aloadN X7.here hx rfl (hb hby d1_14) rfl rfl ?_
    show Steps p.tables e below (T7.setTop (mkF m 15 #[.val (.ref a1), .val (.long q2), .second, .val (.long q3), .second, .val (.long q4), .second, .val (.long q5), .second, .val (.long q6), .second, .val (.int p7)] [(.ref a1)])) _
    refine XS.lload X7.here hx rfl (hb hby d1_15) rfl ?_
    show Steps p.tables e below (T7.setTop (mkF m 17 #[.val (.ref a1), .val (.long q2), .second, .val (.long q3), .second, .val (.long q4), .second, .val (.long q5), .second, .val (.long q6), .second, .val (.int p7)] [(.long q4), (.ref a1)])) _
    refine st12 _ ?_
    show Steps p.tables e below (T12.setTop (mkF m 20 #[.val (.ref a1), .val (.long q2), .second, .val (.long q3), .second, .val (.long q4), .second, .val (.long q5), .second, .val (.long q6), .second, .val (.int p7)] [])) _
    refine XS.aloadN X12.here hx rfl (hb hby d1_20) rfl rfl ?_
    show Steps p.tables e below (T12.setTop (mkF m 21 #[.val (.ref a1), .val (.long q2), .second, .val (.long q3), .second, .val (.long q4), .second, .val (.long q5), .second, .val (.long q6), .second, .val (.int p7)] [(.ref a1)])) _
    refine XS.lload X12.here hx rfl (hb hby d1_21) rfl ?_
    show Steps p.tables e below (T12.setTop (mkF m 23 #[.val (.ref a1), .val (.long q2), .second, .val (.long q3), .second, .val (.long q4), .second, .val (.long q5), .second, .val (.long q6), .second, .val (.int p7)] [(.long q5), (.ref a1)])) _
    refine st17 _ ?_
    show Steps p.tables e below (T17.setTop (mkF m 26 #[.val (.ref a1), .val (.long q2), .second, .val (.long q3), .second, .val (.long q4), .second, .val (.long q5), .second, .val (.long q6), .second, .val (.int p7)] [])) _
    refine XS.aloadN X17.here hx rfl (hb hby d1_26) rfl rfl ?_
    show Steps p.tables e below (T17.setTop (mkF m 27 #[.val (.ref a1), .val (.long q2), .second, .val (.long q3), .second, .val (.long q4), .second, .val (.long q5), .second, .val (.long q6), .second, .val (.int p7)] [(.ref a1)])) _
    refine XS.lload X17.here hx rfl (hb hby d1_27) rfl ?_
    show Steps p.tables e below (T17.setTop (mkF m 29 #[.val (.ref a1), .val (.long q2), .second, .val (.long q3), .second, .val (.long q4), .second, .val (.long q5), .second, .val (.long q6), .second, .val (.int p7)] [(.long q6), (.ref a1)])) _
    refine st22 _ ?_
    show Steps p.tables e below (T22.setTop (mkF m 32 #[.val (.ref a1), .val (.long q2), .second, .val (.long q3), .second, .val (.long q4), .second, .val (.long q5), .second, .val (.long q6), .second, .val (.int p7)] [])) _
    refine XS.aloadN X22.here hx rfl (hb hby d1_32) rfl rfl ?_
    show Steps p.tables e below (T22.setTop (mkF m 33 #[.val (.ref a1), .val (.long q2), .second, .val (.long q3), .second, .val (.long q4), .second, .val (.long q5), .second, .val (.long q6), .second, .val (.int p7)] [(.ref a1)])) _
    refine XS.iload X22.here hx rfl (hb hby d1_33) rfl ?_
    show Steps p.tables e below (T22.setTop (mkF m 35 #[.val (.ref a1), .val (.long q2), .second, .val (.long q3), .second, .val (.long q4), .second, .val (.long q5), .second, .val (.long q6), .second, .val (.int p7)] [(.int p7), (.ref a1)])) _
    refine st27 _ ?_
    show Steps p.tables e below (T27.setTop (mkF m 38 #[.val (.ref a1), .val (.long q2), .second, .val (.long q3), .second, .val (.long q4), .second, .val (.long q5), .second, .val (.long q6), .second, .val (.int p7)] [])) _
    exact X27.returnOut hx Bd.returns (hb hby d1_38) hr
  · have f30 : Exa Z h27 a1 "com/example/tideline/tideline/repository/Expiry" := (f26.wr W27)
    have f31 : Fld Z h27 a1 "com/example/tideline/tideline/repository/Expiry" "commits" "J" (.long q2) := (((((Fw2.other W7 (Or.inr (slot_ne (Or.inr (hw _ (List.mem_of_getElem? (i := 16) rfl))) (Or.inr (hw _ (List.mem_of_getElem? (i := 18) rfl))) (by decide) (t := .long) (t' := .long) (by decide) (by decide)))).other W12 (Or.inr (slot_ne (Or.inr (hw _ (List.mem_of_getElem? (i := 16) rfl))) (Or.inr (hw _ (List.mem_of_getElem? (i := 20) rfl))) (by decide) (t := .long) (t' := .long) (by decide) (by decide)))).other W17 (Or.inr (slot_ne (Or.inr (hw _ (List.mem_of_getElem? (i := 16) rfl))) (Or.inr (hw _ (List.mem_of_getElem? (i := 22) rfl))) (by decide) (t := .long) (t' := .long) (by decide) (by decide)))).other W22 (Or.inr (slot_ne (Or.inr (hw _ (List.mem_of_getElem? (i := 16) rfl))) (Or.inr (hw _ (List.mem_of_getElem? (i := 24) rfl))) (by decide) (t := .long) (t' := .long) (by decide) (by decide)))).other W27 (Or.inr (slot_ne (Or.inr (hw _ (List.mem_of_getElem? (i := 16) rfl))) (Or.inr (hw _ (List.mem_of_getElem? (i := 26) rfl))) (by decide) (t := .long) (t' := .boolean) (by decide) (by decide))))
    have f32 : Fld Z h27 a1 "com/example/tideline/tideline/repository/Expiry" "bytes" "J" (.long q3) := ((((Fw7.other W12 (Or.inr (slot_ne (Or.inr (hw _ (List.mem_of_getElem? (i := 18) rfl))) (Or.inr (hw _ (List.mem_of_getElem? (i := 20) rfl))) (by decide) (t := .long) (t' := .long) (by decide) (by decide)))).other W17 (Or.inr (slot_ne (Or.inr (hw _ (List.mem_of_getElem? (i := 18) rfl))) (Or.inr (hw _ (List.mem_of_getElem? (i := 22) rfl))) (by decide) (t := .long) (t' := .long) (by decide) (by decide)))).other W22 (Or.inr (slot_ne (Or.inr (hw _ (List.mem_of_getElem? (i := 18) rfl))) (Or.inr (hw _ (List.mem_of_getElem? (i := 24) rfl))) (by decide) (t := .long) (t' := .long) (by decide) (by decide)))).other W27 (Or.inr (slot_ne (Or.inr (hw _ (List.mem_of_getElem? (i := 18) rfl))) (Or.inr (hw _ (List.mem_of_getElem? (i := 26) rfl))) (by decide) (t := .long) (t' := .boolean) (by decide) (by decide))))
    have f33 : Fld Z h27 a1 "com/example/tideline/tideline/repository/Expiry" "firstEventId" "J" (.long q4) := (((Fw12.other W17 (Or.inr (slot_ne (Or.inr (hw _ (List.mem_of_getElem? (i := 20) rfl))) (Or.inr (hw _ (List.mem_of_getElem? (i := 22) rfl))) (by decide) (t := .long) (t' := .long) (by decide) (by decide)))).other W22 (Or.inr (slot_ne (Or.inr (hw _ (List.mem_of_getElem? (i := 20) rfl))) (Or.inr (hw _ (List.mem_of_getElem? (i := 24) rfl))) (by decide) (t := .long) (t' := .long) (by decide) (by decide)))).other W27 (Or.inr (slot_ne (Or.inr (hw _ (List.mem_of_getElem? (i := 20) rfl))) (Or.inr (hw _ (List.mem_of_getElem? (i := 26) rfl))) (by decide) (t := .long) (t' := .boolean) (by decide) (by decide))))
    have f34 : Fld Z h27 a1 "com/example/tideline/tideline/repository/Expiry" "lastEventId" "J" (.long q5) := ((Fw17.other W22 (Or.inr (slot_ne (Or.inr (hw _ (List.mem_of_getElem? (i := 22) rfl))) (Or.inr (hw _ (List.mem_of_getElem? (i := 24) rfl))) (by decide) (t := .long) (t' := .long) (by decide) (by decide)))).other W27 (Or.inr (slot_ne (Or.inr (hw _ (List.mem_of_getElem? (i := 22) rfl))) (Or.inr (hw _ (List.mem_of_getElem? (i := 26) rfl))) (by decide) (t := .long) (t' := .boolean) (by decide) (by decide))))
    have f35 : Fld Z h27 a1 "com/example/tideline/tideline/repository/Expiry" "keptBytes" "J" (.long q6) := (Fw22.other W27 (Or.inr (slot_ne (Or.inr (hw _ (List.mem_of_getElem? (i := 24) rfl))) (Or.inr (hw _ (List.mem_of_getElem? (i := 26) rfl))) (by decide) (t := .long) (t' := .boolean) (by decide) (by decide))))
    show Q1 Z a1 q2 q3 q4 q5 q6 p7 u_commits u_bytes u_firstEventId u_lastEventId u_keptBytes u_overCap h0 n0 _ T27.heap _
    rw [e27]
    exact ⟨rfl, N27, K29, f30, f31, f32, f33, f34, f35, Fw27⟩
theorem d4_0 : decode prog_60_method_3_code 0 = .ok (.aload_n 0, 1) := by decide +kernel
theorem d4_1 : decode prog_60_method_3_code 1 = .ok (.getfield 16, 3) := by decide +kernel
theorem d4_4 : decode prog_60_method_3_code 4 = .ok (.lconst 0, 1) := by decide +kernel
theorem d4_5 : decode prog_60_method_3_code 5 = .ok (.lcmp, 1) := by decide +kernel
theorem d4_6 : decode prog_60_method_3_code 6 = .ok (.ifCond .le 7, 3) := by decide +kernel
theorem d4_9 : decode prog_60_method_3_code 9 = .ok (.iconst 1, 1) := by decide +kernel
theorem d4_10 : decode prog_60_method_3_code 10 = .ok (.goto 4, 3) := by decide +kernel
theorem d4_13 : decode prog_60_method_3_code 13 = .ok (.iconst 0, 1) := by decide +kernel
theorem d4_14 : decode prog_60_method_3_code 14 = .ok (.ireturn, 1) := by decide +kernel
theorem ef_rm4 (m : MethodId) (a1 : Addr) : entryFrame m #[(.ref a1)] 1 = mkF m 0 #[.val (.ref a1)] [] := by first | (simp [entryFrame, mkF, argsToLocals, Value.category]; done) | rfl
def Q4 (Z : State) (a1 : Addr) (w1 : Int64) (h0 : Heap) (n0 : Nat) (v : Option Value) (h : Heap) (L : List Loc) : Prop := ∃ r : Int32, v = some (.int r) ∧ r = (if (0 : Int64) < w1 then (1 : Int32) else (0 : Int32)) ∧ Fr n0 L ∧ h = h0
set_option maxRecDepth 65536 in
set_option maxHeartbeats 40000000 in
theorem rm4 (l : Launch) (Z : State) (a0 : Array Value) (hw : ∀ d ∈ tables_1, d.before a0 Z = true) (ws : List Jvm.Cond) (a1 : Addr) (w1 : Int64) (h0 : Heap) (n0 : Nat) (Z0 : n0 ≤ h0.size) (F_firstEventId_a1 : Fld Z h0 a1 "com/example/tideline/tideline/repository/Expiry" "firstEventId" "J" (.long w1)) :
    MetFree l (⟨"com/example/tideline/tideline/repository/Expiry", "removedEvents", "()Z"⟩ : MethodName) (head1 (Jvm.Cond.code (⟨"com/example/tideline/tideline/repository/Expiry", "removedEvents", "()Z"⟩ : MethodName) prog_60_method_3_code 1 (some .boolean) :: ws) ({ frames := 0, cells := 0, slots := 0, locals := 0 } : Room)) (fun a U => a = #[(.ref a1)] ∧ Z.Warmed39 U.vm ∧ U.heap = h0) (fun _ _ _ _ _ => True) (fun _ U o U' => ∃ v L, o = .returned v ∧ Q4 Z a1 w1 h0 n0 v U'.heap L ∧ FrameEnd U o U' L ({ frames := 0, cells := 0, slots := 0, locals := 0 } : Room).cells ({ frames := 0, cells := 0, slots := 0, locals := 0 } : Room).slots) := by
  refine MetFree.of_bodySF (plainFor_of_name pn_1) hisR ?_
  intro p e s m args below meth c s₁ Bd hml0 hP hK
  obtain ⟨rfl, hZ, hh⟩ := hP
  have hx := Bd.exec
  have hby := Bd.bytes
  have hml : c.maxLocals = 1 := hml0
  have hown : s.vm.findClass "com/example/tideline/tideline/repository/Expiry" = some m.cls := findClass_of_methodNamed Bd.named
  have hnm := (name_of_methodNamed Bd.named Bd.method).1
  have X0 : Stand p l e ({ frames := 0, cells := 0, slots := 0, locals := 0 } : Room) s m #[(.ref a1)] below meth c s₁ [] 0 0 := Stand.of_body Bd
  have e0 : s₁.heap = h0 := by rw [← hh, Bd.state]; rfl
  have N0 := Fr.nil n0
  show GoalS p.tables e below s ({ frames := 0, cells := 0, slots := 0, locals := 0 } : Room).cells ({ frames := 0, cells := 0, slots := 0, locals := 0 } : Room).slots (Q4 Z a1 w1 h0 n0) (s₁.setTop (entryFrame m #[(.ref a1)] 1))
  refine GoalS.lift (B := s₁.setTop (mkF m 0 #[.val (.ref a1)] [])) (fun t k => castTop (ef_rm4 m a1) k) ?_
  have K0 : Keep h0 h0 [] := Keep.refl _ _
  obtain ⟨T1, X1, e1, st1⟩ := getF X0 hx hZ hown (host := "") (Or.inl (hw _ (List.mem_of_getElem? (i := 19) rfl))) Via.refl e0 F_firstEventId_a1 (g := (mkF m 1 #[.val (.ref a1)] [(.ref a1)])) rfl rfl (hb hby d4_1)
  refine GoalS.lift (B := (T1.setTop (mkF m 6 #[.val (.ref a1)] [(.int (lcmpW w1 (0 : Int64)))]))) (fun t k => ?_) ?_
  · show Steps p.tables e below (s₁.setTop (mkF m 0 #[.val (.ref a1)] [])) _
    refine XS.aloadN X0.here hx rfl (hb hby d4_0) rfl rfl ?_
    show Steps p.tables e below (s₁.setTop (mkF m 1 #[.val (.ref a1)] [(.ref a1)])) _
    refine st1 _ ?_
    show Steps p.tables e below (T1.setTop (mkF m 4 #[.val (.ref a1)] [(.long w1)])) _
    refine XS.lconst X1.here hx rfl (hb hby d4_4) ?_
    show Steps p.tables e below (T1.setTop (mkF m 5 #[.val (.ref a1)] [(.long (0 : Int64)), (.long w1)])) _
    refine XS.lcmp X1.here hx rfl (hb hby d4_5) rfl ?_
    show Steps p.tables e below (T1.setTop (mkF m 6 #[.val (.ref a1)] [(.int (lcmpW w1 (0 : Int64)))])) _
    exact k
  by_cases hc6_2 : (0 : Int64) < w1
  · obtain ⟨fs, hr, hrun, hended, hW, hsame⟩ := X1.leave (v := some (.int (1 : Int32))) (fun h => by rw [Bd.returns] at h; cases h)
    refine ⟨_, _, ?_, hrun, hended, _, _, rfl, ?_, ⟨_, rfl⟩, hW, hsame.mono (by decide) (by decide)⟩
    · show Steps p.tables e below (T1.setTop (mkF m 6 #[.val (.ref a1)] [(.int (lcmpW w1 (0 : Int64)))])) _
      refine XS.ifNo X1.here hx rfl (hb hby d4_6) rfl ((if0 _ _).trans (tlt ((lw_gt w1 (0 : Int64)).mpr hc6_2)).2.2.2) ?_
      show Steps p.tables e below (T1.setTop (mkF m 9 #[.val (.ref a1)] [])) _
      refine XS.iconst X1.here hx rfl (hb hby d4_9) ?_
      show Steps p.tables e below (T1.setTop (mkF m 10 #[.val (.ref a1)] [(.int (1 : Int32))])) _
      refine XS.goto X1.here hx rfl (pc0 := 10) (pc' := 14) rfl (hb hby d4_10) (by decide) (by decide) ?_
      show Steps p.tables e below (T1.setTop (mkF m 14 #[.val (.ref a1)] [(.int (1 : Int32))])) _
      exact retN X1 hx (t := .boolean) Bd.returns (by simp) (hb hby d4_14) hr
    · show Q4 Z a1 w1 h0 n0 _ T1.heap _
      exact ⟨_, rfl, (by simp only [if_pos hc6_2]), N0, e1⟩
  · obtain ⟨fs, hr, hrun, hended, hW, hsame⟩ := X1.leave (v := some (.int (0 : Int32))) (fun h => by rw [Bd.returns] at h; cases h)
    refine ⟨_, _, ?_, hrun, hended, _, _, rfl, ?_, ⟨_, rfl⟩, hW, hsame.mono (by decide) (by decide)⟩
    · show Steps p.tables e below (T1.setTop (mkF m 6 #[.val (.ref a1)] [(.int (lcmpW w1 (0 : Int64)))])) _
      refine XS.ifYes X1.here hx rfl (pc0 := 6) (pc' := 13) rfl (hb hby d4_6) rfl ((if0 _ _).trans (flt (fun q => hc6_2 ((lw_gt w1 (0 : Int64)).mp q))).2.2.2) (by decide) (by decide) ?_
      show Steps p.tables e below (T1.setTop (mkF m 13 #[.val (.ref a1)] [])) _
      refine XS.iconst X1.here hx rfl (hb hby d4_13) ?_
      show Steps p.tables e below (T1.setTop (mkF m 14 #[.val (.ref a1)] [(.int (0 : Int32))])) _
      exact retN X1 hx (t := .boolean) Bd.returns (by simp) (hb hby d4_14) hr
    · show Q4 Z a1 w1 h0 n0 _ T1.heap _
      exact ⟨_, rfl, (by simp only [if_neg hc6_2]), N0, e1⟩
theorem pn_2 : plainName "com/example/tideline/tideline/repository/ExpiryRemovedEventsPinLaw" = true := by first | (simp [plainName, overriddenIn]; done) | decide +kernel
theorem pd_1 : parseMethodDescriptor "(JJJJJZ)V" = some ⟨[.long, .long, .long, .long, .long, .boolean], none⟩ := by decide +kernel
theorem pd_2 : parseMethodDescriptor "()Z" = some ⟨[], some .boolean⟩ := by decide +kernel
theorem ef_rm0 (m : MethodId) (q1 : Int64) (q2 : Int64) (q3 : Int64) (q4 : Int64) (q5 : Int64) (p6 : Int32) : entryFrame m #[(.long q1), (.long q2), (.long q3), (.long q4), (.long q5), (.int p6)] maxLocals = mkF m 0 #[.val (.long q1), .second, .val (.long q2), .second, .val (.long q3), .second, .val (.long q4), .second, .val (.long q5), .second, .val (.int p6), .unset, .unset, .unset, .unset, .unset, .unset, .unset] [] := by first | (simp [entryFrame, mkF, argsToLocals, Value.category, maxLocals]; done) | rfl
def Q0 (Z : State) (q1 : Int64) (q2 : Int64) (q3 : Int64) (q4 : Int64) (q5 : Int64) (p6 : Int32) (h0 : Heap) (n0 : Nat) (v : Option Value) (h : Heap) (L : List Loc) : Prop := v = some (.int (1 : Int32)) ∧ Fr n0 L
set_option maxRecDepth 65536 in
set_option maxHeartbeats 40000000 in
theorem rm0 (l : Launch) (Z : State) (a0 : Array Value) (hw : ∀ d ∈ tables_1, d.before a0 Z = true) (ws : List Jvm.Cond) (q1 : Int64) (q2 : Int64) (q3 : Int64) (q4 : Int64) (q5 : Int64) (p6 : Int32) (h0 : Heap) (n0 : Nat) (Z0 : n0 ≤ h0.size) :
    MetFree l x (head1 (Jvm.Cond.code x code maxLocals ret :: ws) room_1) (fun a U => a = #[(.long q1), (.long q2), (.long q3), (.long q4), (.long q5), (.int p6)] ∧ Z.Warmed39 U.vm ∧ U.heap = h0) (fun _ _ _ _ _ => True) (fun _ U o U' => ∃ v L, o = .returned v ∧ Q0 Z q1 q2 q3 q4 q5 p6 h0 n0 v U'.heap L ∧ FrameEnd U o U' L 16 128) := by
  refine MetFree.of_bodySF (plainFor_of_name pn_2) hisR ?_
  intro p e s m args below meth c s₁ Bd hml0 hP hK
  obtain ⟨rfl, hZ, hh⟩ := hP
  have hx := Bd.exec
  have hby := Bd.bytes
  have hml : c.maxLocals = 18 := hml0
  have hown : s.vm.findClass "com/example/tideline/tideline/repository/ExpiryRemovedEventsPinLaw" = some m.cls := findClass_of_methodNamed Bd.named
  have hnm := (name_of_methodNamed Bd.named Bd.method).1
  have X0 : Stand p l e room_1 s m #[(.long q1), (.long q2), (.long q3), (.long q4), (.long q5), (.int p6)] below meth c s₁ [] 0 0 := Stand.of_body Bd
  have e0 : s₁.heap = h0 := by rw [← hh, Bd.state]; rfl
  have N0 := Fr.nil n0
  show GoalS p.tables e below s 16 128 (Q0 Z q1 q2 q3 q4 q5 p6 h0 n0) (s₁.setTop (entryFrame m #[(.long q1), (.long q2), (.long q3), (.long q4), (.long q5), (.int p6)] maxLocals))
  refine GoalS.lift (B := s₁.setTop (mkF m 0 #[.val (.long q1), .second, .val (.long q2), .second, .val (.long q3), .second, .val (.long q4), .second, .val (.long q5), .second, .val (.int p6), .unset, .unset, .unset, .unset, .unset, .unset, .unset] [])) (fun t k => castTop (ef_rm0 m q1 q2 q3 q4 q5 p6) k) ?_
  refine GoalS.lift (B := (s₁.setTop (mkF m 12 #[.val (.long q1), .second, .val (.long q2), .second, .val (.long q3), .second, .val (.long q4), .second, .val (.long q5), .second, .val (.int p6), .val (.long (q3 &&& (9223372036854775807 : Int64))), .second, .unset, .unset, .unset, .unset, .unset] [(.int (p6 &&& (1 : Int32)))]))) (fun t k => ?_) ?_
  · show Steps p.tables e below (s₁.setTop (mkF m 0 #[.val (.long q1), .second, .val (.long q2), .second, .val (.long q3), .second, .val (.long q4), .second, .val (.long q5), .second, .val (.int p6), .unset, .unset, .unset, .unset, .unset, .unset, .unset] [])) _
    refine XS.lload X0.here hx rfl (hb hby at_0) rfl ?_
    show Steps p.tables e below (s₁.setTop (mkF m 2 #[.val (.long q1), .second, .val (.long q2), .second, .val (.long q3), .second, .val (.long q4), .second, .val (.long q5), .second, .val (.int p6), .unset, .unset, .unset, .unset, .unset, .unset, .unset] [(.long q3)])) _
    refine X0.ldc2Long hx hown (mvT hZ (hw _ (List.mem_of_getElem? (i := 0) rfl))) (g := (mkF m 2 #[.val (.long q1), .second, .val (.long q2), .second, .val (.long q3), .second, .val (.long q4), .second, .val (.long q5), .second, .val (.int p6), .unset, .unset, .unset, .unset, .unset, .unset, .unset] [(.long q3)])) rfl (hb hby at_2) _ ?_
    show Steps p.tables e below (s₁.setTop (mkF m 5 #[.val (.long q1), .second, .val (.long q2), .second, .val (.long q3), .second, .val (.long q4), .second, .val (.long q5), .second, .val (.int p6), .unset, .unset, .unset, .unset, .unset, .unset, .unset] [(.long (9223372036854775807 : Int64)), (.long q3)])) _
    refine XS.land X0.here hx rfl (hb hby at_5) rfl ?_
    show Steps p.tables e below (s₁.setTop (mkF m 6 #[.val (.long q1), .second, .val (.long q2), .second, .val (.long q3), .second, .val (.long q4), .second, .val (.long q5), .second, .val (.int p6), .unset, .unset, .unset, .unset, .unset, .unset, .unset] [(.long (q3 &&& (9223372036854775807 : Int64)))])) _
    refine XS.lstore X0.here hx rfl (hb hby at_6) rfl (l' := #[.val (.long q1), .second, .val (.long q2), .second, .val (.long q3), .second, .val (.long q4), .second, .val (.long q5), .second, .val (.int p6), .val (.long (q3 &&& (9223372036854775807 : Int64))), .second, .unset, .unset, .unset, .unset, .unset]) rfl ?_
    show Steps p.tables e below (s₁.setTop (mkF m 8 #[.val (.long q1), .second, .val (.long q2), .second, .val (.long q3), .second, .val (.long q4), .second, .val (.long q5), .second, .val (.int p6), .val (.long (q3 &&& (9223372036854775807 : Int64))), .second, .unset, .unset, .unset, .unset, .unset] [])) _
    refine XS.iload X0.here hx rfl (hb hby at_8) rfl ?_
    show Steps p.tables e below (s₁.setTop (mkF m 10 #[.val (.long q1), .second, .val (.long q2), .second, .val (.long q3), .second, .val (.long q4), .second, .val (.long q5), .second, .val (.int p6), .val (.long (q3 &&& (9223372036854775807 : Int64))), .second, .unset, .unset, .unset, .unset, .unset] [(.int p6)])) _
    refine XS.iconst X0.here hx rfl (hb hby at_10) ?_
    show Steps p.tables e below (s₁.setTop (mkF m 11 #[.val (.long q1), .second, .val (.long q2), .second, .val (.long q3), .second, .val (.long q4), .second, .val (.long q5), .second, .val (.int p6), .val (.long (q3 &&& (9223372036854775807 : Int64))), .second, .unset, .unset, .unset, .unset, .unset] [(.int (1 : Int32)), (.int p6)])) _
    refine XS.iand X0.here hx rfl (hb hby at_11) rfl ?_
    show Steps p.tables e below (s₁.setTop (mkF m 12 #[.val (.long q1), .second, .val (.long q2), .second, .val (.long q3), .second, .val (.long q4), .second, .val (.long q5), .second, .val (.int p6), .val (.long (q3 &&& (9223372036854775807 : Int64))), .second, .unset, .unset, .unset, .unset, .unset] [(.int (p6 &&& (1 : Int32)))])) _
    exact k
  suffices J12_1 : ∀ (i12_0 : Int32), i12_0 = (if (p6 &&& (1 : Int32)) = (0 : Int32) then (0 : Int32) else (1 : Int32)) → GoalS p.tables e below s 16 128 (Q0 Z q1 q2 q3 q4 q5 p6 h0 n0) (s₁.setTop (mkF m 20 #[.val (.long q1), .second, .val (.long q2), .second, .val (.long q3), .second, .val (.long q4), .second, .val (.long q5), .second, .val (.int p6), .val (.long (q3 &&& (9223372036854775807 : Int64))), .second, .unset, .unset, .unset, .unset, .unset] [(.int i12_0)])) by
    by_cases hc12_2 : (p6 &&& (1 : Int32)) = (0 : Int32)
    · refine GoalS.lift (B := (s₁.setTop (mkF m 20 #[.val (.long q1), .second, .val (.long q2), .second, .val (.long q3), .second, .val (.long q4), .second, .val (.long q5), .second, .val (.int p6), .val (.long (q3 &&& (9223372036854775807 : Int64))), .second, .unset, .unset, .unset, .unset, .unset] [(.int (0 : Int32))]))) (fun t k => ?_) ?_
      · show Steps p.tables e below (s₁.setTop (mkF m 12 #[.val (.long q1), .second, .val (.long q2), .second, .val (.long q3), .second, .val (.long q4), .second, .val (.long q5), .second, .val (.int p6), .val (.long (q3 &&& (9223372036854775807 : Int64))), .second, .unset, .unset, .unset, .unset, .unset] [(.int (p6 &&& (1 : Int32)))])) _
        refine XS.ifYes X0.here hx rfl (pc0 := 12) (pc' := 19) rfl (hb hby at_12) rfl ((if0 _ _).trans (teq hc12_2).1) (by decide) (by decide) ?_
        show Steps p.tables e below (s₁.setTop (mkF m 19 #[.val (.long q1), .second, .val (.long q2), .second, .val (.long q3), .second, .val (.long q4), .second, .val (.long q5), .second, .val (.int p6), .val (.long (q3 &&& (9223372036854775807 : Int64))), .second, .unset, .unset, .unset, .unset, .unset] [])) _
        refine XS.iconst X0.here hx rfl (hb hby at_19) ?_
        show Steps p.tables e below (s₁.setTop (mkF m 20 #[.val (.long q1), .second, .val (.long q2), .second, .val (.long q3), .second, .val (.long q4), .second, .val (.long q5), .second, .val (.int p6), .val (.long (q3 &&& (9223372036854775807 : Int64))), .second, .unset, .unset, .unset, .unset, .unset] [(.int (0 : Int32))])) _
        exact k
      exact J12_1 _ (by simp only [if_pos hc12_2])
    · refine GoalS.lift (B := (s₁.setTop (mkF m 20 #[.val (.long q1), .second, .val (.long q2), .second, .val (.long q3), .second, .val (.long q4), .second, .val (.long q5), .second, .val (.int p6), .val (.long (q3 &&& (9223372036854775807 : Int64))), .second, .unset, .unset, .unset, .unset, .unset] [(.int (1 : Int32))]))) (fun t k => ?_) ?_
      · show Steps p.tables e below (s₁.setTop (mkF m 12 #[.val (.long q1), .second, .val (.long q2), .second, .val (.long q3), .second, .val (.long q4), .second, .val (.long q5), .second, .val (.int p6), .val (.long (q3 &&& (9223372036854775807 : Int64))), .second, .unset, .unset, .unset, .unset, .unset] [(.int (p6 &&& (1 : Int32)))])) _
        refine XS.ifNo X0.here hx rfl (hb hby at_12) rfl ((if0 _ _).trans (feq hc12_2).1) ?_
        show Steps p.tables e below (s₁.setTop (mkF m 15 #[.val (.long q1), .second, .val (.long q2), .second, .val (.long q3), .second, .val (.long q4), .second, .val (.long q5), .second, .val (.int p6), .val (.long (q3 &&& (9223372036854775807 : Int64))), .second, .unset, .unset, .unset, .unset, .unset] [])) _
        refine XS.iconst X0.here hx rfl (hb hby at_15) ?_
        show Steps p.tables e below (s₁.setTop (mkF m 16 #[.val (.long q1), .second, .val (.long q2), .second, .val (.long q3), .second, .val (.long q4), .second, .val (.long q5), .second, .val (.int p6), .val (.long (q3 &&& (9223372036854775807 : Int64))), .second, .unset, .unset, .unset, .unset, .unset] [(.int (1 : Int32))])) _
        refine XS.goto X0.here hx rfl (pc0 := 16) (pc' := 20) rfl (hb hby at_16) (by decide) (by decide) ?_
        show Steps p.tables e below (s₁.setTop (mkF m 20 #[.val (.long q1), .second, .val (.long q2), .second, .val (.long q3), .second, .val (.long q4), .second, .val (.long q5), .second, .val (.int p6), .val (.long (q3 &&& (9223372036854775807 : Int64))), .second, .unset, .unset, .unset, .unset, .unset] [(.int (1 : Int32))])) _
        exact k
      exact J12_1 _ (by simp only [if_neg hc12_2])
  intro i12_0 h_i12_0
  obtain ⟨T3, h3, X3, e3, E3, A3, D3, -, st3⟩ := newO X0 hx hZ hown (hw _ (List.mem_of_getElem? (i := 1) rfl)) (hw _ (List.mem_of_getElem? (i := 2) rfl)) (hw _ (List.mem_of_getElem? (i := 3) rfl)) e0 (g := (mkF m 22 #[.val (.long q1), .second, .val (.long q2), .second, .val (.long q3), .second, .val (.long q4), .second, .val (.long q5), .second, .val (.int p6), .val (.long (q3 &&& (9223372036854775807 : Int64))), .second, .val (.int i12_0), .unset, .unset, .unset, .unset] [])) rfl (hb hby at_22) (by decide) (by decide)
  obtain ⟨b3, g3⟩ : ∃ z, z = h0.size := ⟨_, rfl⟩
  rw [← g3] at A3 D3 st3
  have g_b3 : n0 ≤ b3 := Nat.le_trans Z0 (Nat.le_of_eq g3.symm)
  have z4 : n0 ≤ h3.size := Nat.le_trans Z0 E3.1
  have F_commits_b3 : Fld Z h3 b3 "com/example/tideline/tideline/repository/Expiry" "commits" "J" (.long (0 : Int64)) := D3 (Or.inr (hw _ (List.mem_of_getElem? (i := 16) rfl))) (ty := .long) (by decide)
  have F_bytes_b3 : Fld Z h3 b3 "com/example/tideline/tideline/repository/Expiry" "bytes" "J" (.long (0 : Int64)) := D3 (Or.inr (hw _ (List.mem_of_getElem? (i := 18) rfl))) (ty := .long) (by decide)
  have F_firstEventId_b3 : Fld Z h3 b3 "com/example/tideline/tideline/repository/Expiry" "firstEventId" "J" (.long (0 : Int64)) := D3 (Or.inr (hw _ (List.mem_of_getElem? (i := 20) rfl))) (ty := .long) (by decide)
  have F_lastEventId_b3 : Fld Z h3 b3 "com/example/tideline/tideline/repository/Expiry" "lastEventId" "J" (.long (0 : Int64)) := D3 (Or.inr (hw _ (List.mem_of_getElem? (i := 22) rfl))) (ty := .long) (by decide)
  have F_keptBytes_b3 : Fld Z h3 b3 "com/example/tideline/tideline/repository/Expiry" "keptBytes" "J" (.long (0 : Int64)) := D3 (Or.inr (hw _ (List.mem_of_getElem? (i := 24) rfl))) (ty := .long) (by decide)
  have F_overCap_b3 : Fld Z h3 b3 "com/example/tideline/tideline/repository/Expiry" "overCap" "Z" (.int (0 : Int32)) := D3 (Or.inr (hw _ (List.mem_of_getElem? (i := 26) rfl))) (ty := .boolean) (by decide)
  obtain ⟨_, _, ⟨T5, L5, k5, n5⟩, -, X5, ⟨Lc5, hQ5, l5, y5, z5⟩, st5⟩ := X3.specialBack hx (y := (⟨"com/example/tideline/tideline/repository/Expiry", "<init>", "(JJJJJZ)V"⟩ : MethodName)) rfl hown (mvT hZ (hw _ (List.mem_of_getElem? (i := 4) rfl))) (mvT hZ (hw _ (List.mem_of_getElem? (i := 5) rfl))) (mvT hZ (hw _ (List.mem_of_getElem? (i := 6) rfl))) (by decide) (backOf (W := 1) (rm1 l Z a0 hw [] b3 q1 q2 (q3 &&& (9223372036854775807 : Int64)) q4 q5 i12_0 (.long (0 : Int64)) (.long (0 : Int64)) (.long (0 : Int64)) (.long (0 : Int64)) (.long (0 : Int64)) (.int (0 : Int32)) h3 n0 z4 A3 g_b3 F_commits_b3 F_bytes_b3 F_firstEventId_b3 F_lastEventId_b3 F_keptBytes_b3 F_overCap_b3) hZ (hw _ (List.mem_of_getElem? (i := 6) rfl)) (hw _ (List.mem_of_getElem? (i := 3) rfl)) (by decide) (by decide)) (g := (mkF m 36 #[.val (.long q1), .second, .val (.long q2), .second, .val (.long q3), .second, .val (.long q4), .second, .val (.long q5), .second, .val (.int p6), .val (.long (q3 &&& (9223372036854775807 : Int64))), .second, .val (.int i12_0), .unset, .unset, .unset, .unset] [(.int i12_0), (.long q5), (.long q4), (.long (q3 &&& (9223372036854775807 : Int64))), (.long q2), (.long q1), (.ref b3), (.ref b3)])) rfl (by rw [hml]; rfl) (Steps.refl _) (a := b3) (argsL := [(.long q1), (.long q2), (.long (q3 &&& (9223372036854775807 : Int64))), (.long q4), (.long q5), (.int i12_0)]) (rest := [(.ref b3)]) (lenOf pd_1 rfl) rfl (by show 2 * 0 + _ ≤ _; exact Nat.le_of_eq rfl) (hb hby at_36) (fun _ _ => ⟨rfl, e3, (by decide : 1 + 0 ≤ _), (by decide : 6 + 0 ≤ _)⟩)
  dsimp only [Pt.U, Pt.locs, Pt.cells, Pt.slots] at X5 l5 y5 z5 st5 hQ5
  subst l5 y5 z5
  obtain ⟨rfl, N5q, p5_0, p5_1, p5_2, p5_3, p5_4, p5_5, p5_6, p5_7⟩ := hQ5
  have N5 := Fr.app N0 N5q
  have z6 : n0 ≤ T5.heap.size := Nat.le_trans z4 p5_0.1
  obtain ⟨T7, h7, X7, e7, E7, A7, D7, -, st7⟩ := newO X5 hx hZ hown (hw _ (List.mem_of_getElem? (i := 1) rfl)) (hw _ (List.mem_of_getElem? (i := 2) rfl)) (hw _ (List.mem_of_getElem? (i := 3) rfl)) rfl (g := (mkF m 41 #[.val (.long q1), .second, .val (.long q2), .second, .val (.long q3), .second, .val (.long q4), .second, .val (.long q5), .second, .val (.int p6), .val (.long (q3 &&& (9223372036854775807 : Int64))), .second, .val (.int i12_0), .val (.ref b3), .unset, .unset, .unset] [])) rfl (hb hby at_41) (by decide) (by decide)
  obtain ⟨b7, g7⟩ : ∃ z, z = T5.heap.size := ⟨_, rfl⟩
  rw [← g7] at A7 D7 st7
  have g_b7 : n0 ≤ b7 := Nat.le_trans z6 (Nat.le_of_eq g7.symm)
  have ne_b3_b7 : b3 ≠ b7 := Nat.ne_of_lt (Nat.lt_of_lt_of_le p5_1.lt (Nat.le_of_eq g7.symm))
  have z8 : n0 ≤ h7.size := Nat.le_trans z6 E7.1
  have F_commits_b7 : Fld Z h7 b7 "com/example/tideline/tideline/repository/Expiry" "commits" "J" (.long (0 : Int64)) := D7 (Or.inr (hw _ (List.mem_of_getElem? (i := 16) rfl))) (ty := .long) (by decide)
  have F_bytes_b7 : Fld Z h7 b7 "com/example/tideline/tideline/repository/Expiry" "bytes" "J" (.long (0 : Int64)) := D7 (Or.inr (hw _ (List.mem_of_getElem? (i := 18) rfl))) (ty := .long) (by decide)
  have F_firstEventId_b7 : Fld Z h7 b7 "com/example/tideline/tideline/repository/Expiry" "firstEventId" "J" (.long (0 : Int64)) := D7 (Or.inr (hw _ (List.mem_of_getElem? (i := 20) rfl))) (ty := .long) (by decide)
  have F_lastEventId_b7 : Fld Z h7 b7 "com/example/tideline/tideline/repository/Expiry" "lastEventId" "J" (.long (0 : Int64)) := D7 (Or.inr (hw _ (List.mem_of_getElem? (i := 22) rfl))) (ty := .long) (by decide)
  have F_keptBytes_b7 : Fld Z h7 b7 "com/example/tideline/tideline/repository/Expiry" "keptBytes" "J" (.long (0 : Int64)) := D7 (Or.inr (hw _ (List.mem_of_getElem? (i := 24) rfl))) (ty := .long) (by decide)
  have F_overCap_b7 : Fld Z h7 b7 "com/example/tideline/tideline/repository/Expiry" "overCap" "Z" (.int (0 : Int32)) := D7 (Or.inr (hw _ (List.mem_of_getElem? (i := 26) rfl))) (ty := .boolean) (by decide)
  refine GoalS.lift (B := (T7.setTop (mkF m 55 #[.val (.long q1), .second, .val (.long q2), .second, .val (.long q3), .second, .val (.long q4), .second, .val (.long q5), .second, .val (.int p6), .val (.long (q3 &&& (9223372036854775807 : Int64))), .second, .val (.int i12_0), .val (.ref b3), .unset, .unset, .unset] [(.int i12_0), (.long q2), (.long q1), (.long (q3 &&& (9223372036854775807 : Int64))), (.long q5), (.long q4), (.ref b7), (.ref b7)]))) (fun t k => ?_) ?_
  · show Steps p.tables e below (s₁.setTop (mkF m 20 #[.val (.long q1), .second, .val (.long q2), .second, .val (.long q3), .second, .val (.long q4), .second, .val (.long q5), .second, .val (.int p6), .val (.long (q3 &&& (9223372036854775807 : Int64))), .second, .unset, .unset, .unset, .unset, .unset] [(.int i12_0)])) _
    refine XS.istore X0.here hx rfl (hb hby at_20) rfl (l' := #[.val (.long q1), .second, .val (.long q2), .second, .val (.long q3), .second, .val (.long q4), .second, .val (.long q5), .second, .val (.int p6), .val (.long (q3 &&& (9223372036854775807 : Int64))), .second, .val (.int i12_0), .unset, .unset, .unset, .unset]) rfl ?_
    show Steps p.tables e below (s₁.setTop (mkF m 22 #[.val (.long q1), .second, .val (.long q2), .second, .val (.long q3), .second, .val (.long q4), .second, .val (.long q5), .second, .val (.int p6), .val (.long (q3 &&& (9223372036854775807 : Int64))), .second, .val (.int i12_0), .unset, .unset, .unset, .unset] [])) _
    refine st3 _ ?_
    show Steps p.tables e below (T3.setTop (mkF m 25 #[.val (.long q1), .second, .val (.long q2), .second, .val (.long q3), .second, .val (.long q4), .second, .val (.long q5), .second, .val (.int p6), .val (.long (q3 &&& (9223372036854775807 : Int64))), .second, .val (.int i12_0), .unset, .unset, .unset, .unset] [(.ref b3)])) _
    refine XS.dup X3.here hx rfl (hb hby at_25) rfl rfl ?_
    show Steps p.tables e below (T3.setTop (mkF m 26 #[.val (.long q1), .second, .val (.long q2), .second, .val (.long q3), .second, .val (.long q4), .second, .val (.long q5), .second, .val (.int p6), .val (.long (q3 &&& (9223372036854775807 : Int64))), .second, .val (.int i12_0), .unset, .unset, .unset, .unset] [(.ref b3), (.ref b3)])) _
    refine XS.lloadN X3.here hx rfl (hb hby at_26) rfl ?_
    show Steps p.tables e below (T3.setTop (mkF m 27 #[.val (.long q1), .second, .val (.long q2), .second, .val (.long q3), .second, .val (.long q4), .second, .val (.long q5), .second, .val (.int p6), .val (.long (q3 &&& (9223372036854775807 : Int64))), .second, .val (.int i12_0), .unset, .unset, .unset, .unset] [(.long q1), (.ref b3), (.ref b3)])) _
    refine XS.lloadN X3.here hx rfl (hb hby at_27) rfl ?_
    show Steps p.tables e below (T3.setTop (mkF m 28 #[.val (.long q1), .second, .val (.long q2), .second, .val (.long q3), .second, .val (.long q4), .second, .val (.long q5), .second, .val (.int p6), .val (.long (q3 &&& (9223372036854775807 : Int64))), .second, .val (.int i12_0), .unset, .unset, .unset, .unset] [(.long q2), (.long q1), (.ref b3), (.ref b3)])) _
    refine XS.lload X3.here hx rfl (hb hby at_28) rfl ?_
    show Steps p.tables e below (T3.setTop (mkF m 30 #[.val (.long q1), .second, .val (.long q2), .second, .val (.long q3), .second, .val (.long q4), .second, .val (.long q5), .second, .val (.int p6), .val (.long (q3 &&& (9223372036854775807 : Int64))), .second, .val (.int i12_0), .unset, .unset, .unset, .unset] [(.long (q3 &&& (9223372036854775807 : Int64))), (.long q2), (.long q1), (.ref b3), (.ref b3)])) _
    refine XS.lload X3.here hx rfl (hb hby at_30) rfl ?_
    show Steps p.tables e below (T3.setTop (mkF m 32 #[.val (.long q1), .second, .val (.long q2), .second, .val (.long q3), .second, .val (.long q4), .second, .val (.long q5), .second, .val (.int p6), .val (.long (q3 &&& (9223372036854775807 : Int64))), .second, .val (.int i12_0), .unset, .unset, .unset, .unset] [(.long q4), (.long (q3 &&& (9223372036854775807 : Int64))), (.long q2), (.long q1), (.ref b3), (.ref b3)])) _
    refine XS.lload X3.here hx rfl (hb hby at_32) rfl ?_
    show Steps p.tables e below (T3.setTop (mkF m 34 #[.val (.long q1), .second, .val (.long q2), .second, .val (.long q3), .second, .val (.long q4), .second, .val (.long q5), .second, .val (.int p6), .val (.long (q3 &&& (9223372036854775807 : Int64))), .second, .val (.int i12_0), .unset, .unset, .unset, .unset] [(.long q5), (.long q4), (.long (q3 &&& (9223372036854775807 : Int64))), (.long q2), (.long q1), (.ref b3), (.ref b3)])) _
    refine XS.iload X3.here hx rfl (hb hby at_34) rfl ?_
    show Steps p.tables e below (T3.setTop (mkF m 36 #[.val (.long q1), .second, .val (.long q2), .second, .val (.long q3), .second, .val (.long q4), .second, .val (.long q5), .second, .val (.int p6), .val (.long (q3 &&& (9223372036854775807 : Int64))), .second, .val (.int i12_0), .unset, .unset, .unset, .unset] [(.int i12_0), (.long q5), (.long q4), (.long (q3 &&& (9223372036854775807 : Int64))), (.long q2), (.long q1), (.ref b3), (.ref b3)])) _
    refine st5.trans ?_
    show Steps p.tables e below (T5.setTop (mkF m 39 #[.val (.long q1), .second, .val (.long q2), .second, .val (.long q3), .second, .val (.long q4), .second, .val (.long q5), .second, .val (.int p6), .val (.long (q3 &&& (9223372036854775807 : Int64))), .second, .val (.int i12_0), .unset, .unset, .unset, .unset] [(.ref b3)])) _
    refine XS.astore X5.here hx rfl (hb hby at_39) rfl rfl (l' := #[.val (.long q1), .second, .val (.long q2), .second, .val (.long q3), .second, .val (.long q4), .second, .val (.long q5), .second, .val (.int p6), .val (.long (q3 &&& (9223372036854775807 : Int64))), .second, .val (.int i12_0), .val (.ref b3), .unset, .unset, .unset]) rfl ?_
    show Steps p.tables e below (T5.setTop (mkF m 41 #[.val (.long q1), .second, .val (.long q2), .second, .val (.long q3), .second, .val (.long q4), .second, .val (.long q5), .second, .val (.int p6), .val (.long (q3 &&& (9223372036854775807 : Int64))), .second, .val (.int i12_0), .val (.ref b3), .unset, .unset, .unset] [])) _
    refine st7 _ ?_
    show Steps p.tables e below (T7.setTop (mkF m 44 #[.val (.long q1), .second, .val (.long q2), .second, .val (.long q3), .second, .val (.long q4), .second, .val (.long q5), .second, .val (.int p6), .val (.long (q3 &&& (9223372036854775807 : Int64))), .second, .val (.int i12_0), .val (.ref b3), .unset, .unset, .unset] [(.ref b7)])) _
    refine XS.dup X7.here hx rfl (hb hby at_44) rfl rfl ?_
    show Steps p.tables e below (T7.setTop (mkF m 45 #[.val (.long q1), .second, .val (.long q2), .second, .val (.long q3), .second, .val (.long q4), .second, .val (.long q5), .second, .val (.int p6), .val (.long (q3 &&& (9223372036854775807 : Int64))), .second, .val (.int i12_0), .val (.ref b3), .unset, .unset, .unset] [(.ref b7), (.ref b7)])) _
    refine XS.lload X7.here hx rfl (hb hby at_45) rfl ?_
    show Steps p.tables e below (T7.setTop (mkF m 47 #[.val (.long q1), .second, .val (.long q2), .second, .val (.long q3), .second, .val (.long q4), .second, .val (.long q5), .second, .val (.int p6), .val (.long (q3 &&& (9223372036854775807 : Int64))), .second, .val (.int i12_0), .val (.ref b3), .unset, .unset, .unset] [(.long q4), (.ref b7), (.ref b7)])) _
    refine XS.lload X7.here hx rfl (hb hby at_47) rfl ?_
    show Steps p.tables e below (T7.setTop (mkF m 49 #[.val (.long q1), .second, .val (.long q2), .second, .val (.long q3), .second, .val (.long q4), .second, .val (.long q5), .second, .val (.int p6), .val (.long (q3 &&& (9223372036854775807 : Int64))), .second, .val (.int i12_0), .val (.ref b3), .unset, .unset, .unset] [(.long q5), (.long q4), (.ref b7), (.ref b7)])) _
    refine XS.lload X7.here hx rfl (hb hby at_49) rfl ?_
    show Steps p.tables e below (T7.setTop (mkF m 51 #[.val (.long q1), .second, .val (.long q2), .second, .val (.long q3), .second, .val (.long q4), .second, .val (.long q5), .second, .val (.int p6), .val (.long (q3 &&& (9223372036854775807 : Int64))), .second, .val (.int i12_0), .val (.ref b3), .unset, .unset, .unset] [(.long (q3 &&& (9223372036854775807 : Int64))), (.long q5), (.long q4), (.ref b7), (.ref b7)])) _
    refine XS.lloadN X7.here hx rfl (hb hby at_51) rfl ?_
    show Steps p.tables e below (T7.setTop (mkF m 52 #[.val (.long q1), .second, .val (.long q2), .second, .val (.long q3), .second, .val (.long q4), .second, .val (.long q5), .second, .val (.int p6), .val (.long (q3 &&& (9223372036854775807 : Int64))), .second, .val (.int i12_0), .val (.ref b3), .unset, .unset, .unset] [(.long q1), (.long (q3 &&& (9223372036854775807 : Int64))), (.long q5), (.long q4), (.ref b7), (.ref b7)])) _
    refine XS.lloadN X7.here hx rfl (hb hby at_52) rfl ?_
    show Steps p.tables e below (T7.setTop (mkF m 53 #[.val (.long q1), .second, .val (.long q2), .second, .val (.long q3), .second, .val (.long q4), .second, .val (.long q5), .second, .val (.int p6), .val (.long (q3 &&& (9223372036854775807 : Int64))), .second, .val (.int i12_0), .val (.ref b3), .unset, .unset, .unset] [(.long q2), (.long q1), (.long (q3 &&& (9223372036854775807 : Int64))), (.long q5), (.long q4), (.ref b7), (.ref b7)])) _
    refine XS.iload X7.here hx rfl (hb hby at_53) rfl ?_
    show Steps p.tables e below (T7.setTop (mkF m 55 #[.val (.long q1), .second, .val (.long q2), .second, .val (.long q3), .second, .val (.long q4), .second, .val (.long q5), .second, .val (.int p6), .val (.long (q3 &&& (9223372036854775807 : Int64))), .second, .val (.int i12_0), .val (.ref b3), .unset, .unset, .unset] [(.int i12_0), (.long q2), (.long q1), (.long (q3 &&& (9223372036854775807 : Int64))), (.long q5), (.long q4), (.ref b7), (.ref b7)])) _
    exact k
  suffices J55_9 : ∀ (i55_0 : Int32), i55_0 = (if i12_0 = (0 : Int32) then (1 : Int32) else (0 : Int32)) → GoalS p.tables e below s 16 128 (Q0 Z q1 q2 q3 q4 q5 p6 h0 n0) (T7.setTop (mkF m 63 #[.val (.long q1), .second, .val (.long q2), .second, .val (.long q3), .second, .val (.long q4), .second, .val (.long q5), .second, .val (.int p6), .val (.long (q3 &&& (9223372036854775807 : Int64))), .second, .val (.int i12_0), .val (.ref b3), .unset, .unset, .unset] [(.int i55_0), (.long q2), (.long q1), (.long (q3 &&& (9223372036854775807 : Int64))), (.long q5), (.long q4), (.ref b7), (.ref b7)])) by
    by_cases hc55_10 : i12_0 = (0 : Int32)
    · refine GoalS.lift (B := (T7.setTop (mkF m 63 #[.val (.long q1), .second, .val (.long q2), .second, .val (.long q3), .second, .val (.long q4), .second, .val (.long q5), .second, .val (.int p6), .val (.long (q3 &&& (9223372036854775807 : Int64))), .second, .val (.int i12_0), .val (.ref b3), .unset, .unset, .unset] [(.int (1 : Int32)), (.long q2), (.long q1), (.long (q3 &&& (9223372036854775807 : Int64))), (.long q5), (.long q4), (.ref b7), (.ref b7)]))) (fun t k => ?_) ?_
      · show Steps p.tables e below (T7.setTop (mkF m 55 #[.val (.long q1), .second, .val (.long q2), .second, .val (.long q3), .second, .val (.long q4), .second, .val (.long q5), .second, .val (.int p6), .val (.long (q3 &&& (9223372036854775807 : Int64))), .second, .val (.int i12_0), .val (.ref b3), .unset, .unset, .unset] [(.int i12_0), (.long q2), (.long q1), (.long (q3 &&& (9223372036854775807 : Int64))), (.long q5), (.long q4), (.ref b7), (.ref b7)])) _
        refine XS.ifNo X7.here hx rfl (hb hby at_55) rfl ((if0 _ _).trans (teq hc55_10).2) ?_
        show Steps p.tables e below (T7.setTop (mkF m 58 #[.val (.long q1), .second, .val (.long q2), .second, .val (.long q3), .second, .val (.long q4), .second, .val (.long q5), .second, .val (.int p6), .val (.long (q3 &&& (9223372036854775807 : Int64))), .second, .val (.int i12_0), .val (.ref b3), .unset, .unset, .unset] [(.long q2), (.long q1), (.long (q3 &&& (9223372036854775807 : Int64))), (.long q5), (.long q4), (.ref b7), (.ref b7)])) _
        refine XS.iconst X7.here hx rfl (hb hby at_58) ?_
        show Steps p.tables e below (T7.setTop (mkF m 59 #[.val (.long q1), .second, .val (.long q2), .second, .val (.long q3), .second, .val (.long q4), .second, .val (.long q5), .second, .val (.int p6), .val (.long (q3 &&& (9223372036854775807 : Int64))), .second, .val (.int i12_0), .val (.ref b3), .unset, .unset, .unset] [(.int (1 : Int32)), (.long q2), (.long q1), (.long (q3 &&& (9223372036854775807 : Int64))), (.long q5), (.long q4), (.ref b7), (.ref b7)])) _
        refine XS.goto X7.here hx rfl (pc0 := 59) (pc' := 63) rfl (hb hby at_59) (by decide) (by decide) ?_
        show Steps p.tables e below (T7.setTop (mkF m 63 #[.val (.long q1), .second, .val (.long q2), .second, .val (.long q3), .second, .val (.long q4), .second, .val (.long q5), .second, .val (.int p6), .val (.long (q3 &&& (9223372036854775807 : Int64))), .second, .val (.int i12_0), .val (.ref b3), .unset, .unset, .unset] [(.int (1 : Int32)), (.long q2), (.long q1), (.long (q3 &&& (9223372036854775807 : Int64))), (.long q5), (.long q4), (.ref b7), (.ref b7)])) _
        exact k
      exact J55_9 _ (by simp only [if_pos hc55_10])
    · refine GoalS.lift (B := (T7.setTop (mkF m 63 #[.val (.long q1), .second, .val (.long q2), .second, .val (.long q3), .second, .val (.long q4), .second, .val (.long q5), .second, .val (.int p6), .val (.long (q3 &&& (9223372036854775807 : Int64))), .second, .val (.int i12_0), .val (.ref b3), .unset, .unset, .unset] [(.int (0 : Int32)), (.long q2), (.long q1), (.long (q3 &&& (9223372036854775807 : Int64))), (.long q5), (.long q4), (.ref b7), (.ref b7)]))) (fun t k => ?_) ?_
      · show Steps p.tables e below (T7.setTop (mkF m 55 #[.val (.long q1), .second, .val (.long q2), .second, .val (.long q3), .second, .val (.long q4), .second, .val (.long q5), .second, .val (.int p6), .val (.long (q3 &&& (9223372036854775807 : Int64))), .second, .val (.int i12_0), .val (.ref b3), .unset, .unset, .unset] [(.int i12_0), (.long q2), (.long q1), (.long (q3 &&& (9223372036854775807 : Int64))), (.long q5), (.long q4), (.ref b7), (.ref b7)])) _
        refine XS.ifYes X7.here hx rfl (pc0 := 55) (pc' := 62) rfl (hb hby at_55) rfl ((if0 _ _).trans (feq hc55_10).2) (by decide) (by decide) ?_
        show Steps p.tables e below (T7.setTop (mkF m 62 #[.val (.long q1), .second, .val (.long q2), .second, .val (.long q3), .second, .val (.long q4), .second, .val (.long q5), .second, .val (.int p6), .val (.long (q3 &&& (9223372036854775807 : Int64))), .second, .val (.int i12_0), .val (.ref b3), .unset, .unset, .unset] [(.long q2), (.long q1), (.long (q3 &&& (9223372036854775807 : Int64))), (.long q5), (.long q4), (.ref b7), (.ref b7)])) _
        refine XS.iconst X7.here hx rfl (hb hby at_62) ?_
        show Steps p.tables e below (T7.setTop (mkF m 63 #[.val (.long q1), .second, .val (.long q2), .second, .val (.long q3), .second, .val (.long q4), .second, .val (.long q5), .second, .val (.int p6), .val (.long (q3 &&& (9223372036854775807 : Int64))), .second, .val (.int i12_0), .val (.ref b3), .unset, .unset, .unset] [(.int (0 : Int32)), (.long q2), (.long q1), (.long (q3 &&& (9223372036854775807 : Int64))), (.long q5), (.long q4), (.ref b7), (.ref b7)])) _
        exact k
      exact J55_9 _ (by simp only [if_neg hc55_10])
  intro i55_0 h_i55_0
  obtain ⟨_, _, ⟨T11, L11, k11, n11⟩, -, X11, ⟨Lc11, hQ11, l11, y11, z11⟩, st11⟩ := X7.specialBack hx (y := (⟨"com/example/tideline/tideline/repository/Expiry", "<init>", "(JJJJJZ)V"⟩ : MethodName)) rfl hown (mvT hZ (hw _ (List.mem_of_getElem? (i := 4) rfl))) (mvT hZ (hw _ (List.mem_of_getElem? (i := 5) rfl))) (mvT hZ (hw _ (List.mem_of_getElem? (i := 6) rfl))) (by decide) (backOf (W := 1) (rm1 l Z a0 hw [] b7 q4 q5 (q3 &&& (9223372036854775807 : Int64)) q1 q2 i55_0 (.long (0 : Int64)) (.long (0 : Int64)) (.long (0 : Int64)) (.long (0 : Int64)) (.long (0 : Int64)) (.int (0 : Int32)) h7 n0 z8 A7 g_b7 F_commits_b7 F_bytes_b7 F_firstEventId_b7 F_lastEventId_b7 F_keptBytes_b7 F_overCap_b7) hZ (hw _ (List.mem_of_getElem? (i := 6) rfl)) (hw _ (List.mem_of_getElem? (i := 3) rfl)) (by decide) (by decide)) (g := (mkF m 63 #[.val (.long q1), .second, .val (.long q2), .second, .val (.long q3), .second, .val (.long q4), .second, .val (.long q5), .second, .val (.int p6), .val (.long (q3 &&& (9223372036854775807 : Int64))), .second, .val (.int i12_0), .val (.ref b3), .unset, .unset, .unset] [(.int i55_0), (.long q2), (.long q1), (.long (q3 &&& (9223372036854775807 : Int64))), (.long q5), (.long q4), (.ref b7), (.ref b7)])) rfl (by rw [hml]; rfl) (Steps.refl _) (a := b7) (argsL := [(.long q4), (.long q5), (.long (q3 &&& (9223372036854775807 : Int64))), (.long q1), (.long q2), (.int i55_0)]) (rest := [(.ref b7)]) (lenOf pd_1 rfl) rfl (by show 2 * 0 + _ ≤ _; exact Nat.le_of_eq rfl) (hb hby at_63) (fun _ _ => ⟨rfl, e7, (by decide : 2 + 0 ≤ _), (by decide : 12 + 0 ≤ _)⟩)
  dsimp only [Pt.U, Pt.locs, Pt.cells, Pt.slots] at X11 l11 y11 z11 st11 hQ11
  subst l11 y11 z11
  obtain ⟨rfl, N11q, p11_0, p11_1, p11_2, p11_3, p11_4, p11_5, p11_6, p11_7⟩ := hQ11
  have N11 := Fr.app N5 N11q
  have z12 : n0 ≤ T11.heap.size := Nat.le_trans z8 p11_0.1
  have f14 : Fld Z T11.heap b3 "com/example/tideline/tideline/repository/Expiry" "firstEventId" "J" (.long (q3 &&& (9223372036854775807 : Int64))) := ((p5_4.ext E7).keep p11_0 (ninS ne_b3_b7 nin0))
  have f15 : Exa Z T11.heap b3 "com/example/tideline/tideline/repository/Expiry" := ((p5_1.ext E7).keep p11_0)
  obtain ⟨cq13, kq13, q13a, q13b, q13c⟩ := isOf hZ rfl f15
  obtain ⟨_, _, ⟨T13, L13, k13, n13⟩, -, X13, ⟨Lc13, hQ13, l13, y13, z13⟩, st13⟩ := X11.virtualBack hx (y := (⟨"com/example/tideline/tideline/repository/Expiry", "removedEvents", "()Z"⟩ : MethodName)) (z := (⟨"com/example/tideline/tideline/repository/Expiry", "removedEvents", "()Z"⟩ : MethodName)) hown (mvT hZ (hw _ (List.mem_of_getElem? (i := 27) rfl))) (mvT hZ (hw _ (List.mem_of_getElem? (i := 28) rfl))) (notFace_of_selects (args := #[]) (mvT hZ (hw _ (List.mem_of_getElem? (i := 30) rfl)))) (mvT hZ (hw _ (List.mem_of_getElem? (i := 30) rfl))) (mvT hZ (hw _ (List.mem_of_getElem? (i := 29) rfl))) (by decide) (backOf (W := 0) (rm4 l Z a0 hw [] b3 (q3 &&& (9223372036854775807 : Int64)) T11.heap n0 z12 f14) hZ (hw _ (List.mem_of_getElem? (i := 31) rfl)) (hw _ (List.mem_of_getElem? (i := 3) rfl)) (by decide) (by decide)) q13a q13c (g := (mkF m 70 #[.val (.long q1), .second, .val (.long q2), .second, .val (.long q3), .second, .val (.long q4), .second, .val (.long q5), .second, .val (.int p6), .val (.long (q3 &&& (9223372036854775807 : Int64))), .second, .val (.int i12_0), .val (.ref b3), .val (.ref b7), .unset, .unset] [(.ref b3)])) rfl (by rw [hml]; rfl) (Steps.refl _) (argsL := []) (rest := []) (lenOf pd_2 rfl) rfl (by show 2 * 0 + _ ≤ _; exact Nat.le_of_eq rfl) (hb hby at_70) (fun _ _ => ⟨rfl, rfl, (by decide : 2 + 0 ≤ _), (by decide : 12 + 0 ≤ _)⟩)
  dsimp only [Pt.U, Pt.locs, Pt.cells, Pt.slots] at X13 l13 y13 z13 st13 hQ13
  subst l13 y13 z13
  obtain ⟨r13, rfl, hr13, N13q, eq13⟩ := hQ13
  have N13 := Fr.app N11 N13q
  obtain ⟨cq16, kq16, q16a, q16b, q16c⟩ := isOf hZ eq13 p11_1
  obtain ⟨_, _, ⟨T16, L16, k16, n16⟩, -, X16, ⟨Lc16, hQ16, l16, y16, z16⟩, st16⟩ := X13.virtualBack hx (y := (⟨"com/example/tideline/tideline/repository/Expiry", "removedEvents", "()Z"⟩ : MethodName)) (z := (⟨"com/example/tideline/tideline/repository/Expiry", "removedEvents", "()Z"⟩ : MethodName)) hown (mvT hZ (hw _ (List.mem_of_getElem? (i := 27) rfl))) (mvT hZ (hw _ (List.mem_of_getElem? (i := 28) rfl))) (notFace_of_selects (args := #[]) (mvT hZ (hw _ (List.mem_of_getElem? (i := 30) rfl)))) (mvT hZ (hw _ (List.mem_of_getElem? (i := 30) rfl))) (mvT hZ (hw _ (List.mem_of_getElem? (i := 29) rfl))) (by decide) (backOf (W := 0) (rm4 l Z a0 hw [] b7 (q3 &&& (9223372036854775807 : Int64)) T11.heap n0 z12 p11_4) hZ (hw _ (List.mem_of_getElem? (i := 31) rfl)) (hw _ (List.mem_of_getElem? (i := 3) rfl)) (by decide) (by decide)) q16a q16c (g := (mkF m 77 #[.val (.long q1), .second, .val (.long q2), .second, .val (.long q3), .second, .val (.long q4), .second, .val (.long q5), .second, .val (.int p6), .val (.long (q3 &&& (9223372036854775807 : Int64))), .second, .val (.int i12_0), .val (.ref b3), .val (.ref b7), .val (.int r13), .unset] [(.ref b7)])) rfl (by rw [hml]; rfl) (Steps.refl _) (argsL := []) (rest := []) (lenOf pd_2 rfl) rfl (by show 2 * 0 + _ ≤ _; exact Nat.le_of_eq rfl) (hb hby at_77) (fun _ _ => ⟨rfl, eq13, (by decide : 2 + 0 ≤ _), (by decide : 12 + 0 ≤ _)⟩)
  dsimp only [Pt.U, Pt.locs, Pt.cells, Pt.slots] at X16 l16 y16 z16 st16 hQ16
  subst l16 y16 z16
  obtain ⟨r16, rfl, hr16, N16q, eq16⟩ := hQ16
  have N16 := Fr.app N13 N16q
  refine GoalS.lift (B := (T16.setTop (mkF m 88 #[.val (.long q1), .second, .val (.long q2), .second, .val (.long q3), .second, .val (.long q4), .second, .val (.long q5), .second, .val (.int p6), .val (.long (q3 &&& (9223372036854775807 : Int64))), .second, .val (.int i12_0), .val (.ref b3), .val (.ref b7), .val (.int r13), .val (.int r16)] [(.int (lcmpW (q3 &&& (9223372036854775807 : Int64)) (0 : Int64))), (.int r13)]))) (fun t k => ?_) ?_
  · show Steps p.tables e below (T7.setTop (mkF m 63 #[.val (.long q1), .second, .val (.long q2), .second, .val (.long q3), .second, .val (.long q4), .second, .val (.long q5), .second, .val (.int p6), .val (.long (q3 &&& (9223372036854775807 : Int64))), .second, .val (.int i12_0), .val (.ref b3), .unset, .unset, .unset] [(.int i55_0), (.long q2), (.long q1), (.long (q3 &&& (9223372036854775807 : Int64))), (.long q5), (.long q4), (.ref b7), (.ref b7)])) _
    refine st11.trans ?_
    show Steps p.tables e below (T11.setTop (mkF m 66 #[.val (.long q1), .second, .val (.long q2), .second, .val (.long q3), .second, .val (.long q4), .second, .val (.long q5), .second, .val (.int p6), .val (.long (q3 &&& (9223372036854775807 : Int64))), .second, .val (.int i12_0), .val (.ref b3), .unset, .unset, .unset] [(.ref b7)])) _
    refine XS.astore X11.here hx rfl (hb hby at_66) rfl rfl (l' := #[.val (.long q1), .second, .val (.long q2), .second, .val (.long q3), .second, .val (.long q4), .second, .val (.long q5), .second, .val (.int p6), .val (.long (q3 &&& (9223372036854775807 : Int64))), .second, .val (.int i12_0), .val (.ref b3), .val (.ref b7), .unset, .unset]) rfl ?_
    show Steps p.tables e below (T11.setTop (mkF m 68 #[.val (.long q1), .second, .val (.long q2), .second, .val (.long q3), .second, .val (.long q4), .second, .val (.long q5), .second, .val (.int p6), .val (.long (q3 &&& (9223372036854775807 : Int64))), .second, .val (.int i12_0), .val (.ref b3), .val (.ref b7), .unset, .unset] [])) _
    refine XS.aload X11.here hx rfl (hb hby at_68) rfl rfl ?_
    show Steps p.tables e below (T11.setTop (mkF m 70 #[.val (.long q1), .second, .val (.long q2), .second, .val (.long q3), .second, .val (.long q4), .second, .val (.long q5), .second, .val (.int p6), .val (.long (q3 &&& (9223372036854775807 : Int64))), .second, .val (.int i12_0), .val (.ref b3), .val (.ref b7), .unset, .unset] [(.ref b3)])) _
    refine st13.trans ?_
    show Steps p.tables e below (T13.setTop (mkF m 73 #[.val (.long q1), .second, .val (.long q2), .second, .val (.long q3), .second, .val (.long q4), .second, .val (.long q5), .second, .val (.int p6), .val (.long (q3 &&& (9223372036854775807 : Int64))), .second, .val (.int i12_0), .val (.ref b3), .val (.ref b7), .unset, .unset] [(.int r13)])) _
    refine XS.istore X13.here hx rfl (hb hby at_73) rfl (l' := #[.val (.long q1), .second, .val (.long q2), .second, .val (.long q3), .second, .val (.long q4), .second, .val (.long q5), .second, .val (.int p6), .val (.long (q3 &&& (9223372036854775807 : Int64))), .second, .val (.int i12_0), .val (.ref b3), .val (.ref b7), .val (.int r13), .unset]) rfl ?_
    show Steps p.tables e below (T13.setTop (mkF m 75 #[.val (.long q1), .second, .val (.long q2), .second, .val (.long q3), .second, .val (.long q4), .second, .val (.long q5), .second, .val (.int p6), .val (.long (q3 &&& (9223372036854775807 : Int64))), .second, .val (.int i12_0), .val (.ref b3), .val (.ref b7), .val (.int r13), .unset] [])) _
    refine XS.aload X13.here hx rfl (hb hby at_75) rfl rfl ?_
    show Steps p.tables e below (T13.setTop (mkF m 77 #[.val (.long q1), .second, .val (.long q2), .second, .val (.long q3), .second, .val (.long q4), .second, .val (.long q5), .second, .val (.int p6), .val (.long (q3 &&& (9223372036854775807 : Int64))), .second, .val (.int i12_0), .val (.ref b3), .val (.ref b7), .val (.int r13), .unset] [(.ref b7)])) _
    refine st16.trans ?_
    show Steps p.tables e below (T16.setTop (mkF m 80 #[.val (.long q1), .second, .val (.long q2), .second, .val (.long q3), .second, .val (.long q4), .second, .val (.long q5), .second, .val (.int p6), .val (.long (q3 &&& (9223372036854775807 : Int64))), .second, .val (.int i12_0), .val (.ref b3), .val (.ref b7), .val (.int r13), .unset] [(.int r16)])) _
    refine XS.istore X16.here hx rfl (hb hby at_80) rfl (l' := #[.val (.long q1), .second, .val (.long q2), .second, .val (.long q3), .second, .val (.long q4), .second, .val (.long q5), .second, .val (.int p6), .val (.long (q3 &&& (9223372036854775807 : Int64))), .second, .val (.int i12_0), .val (.ref b3), .val (.ref b7), .val (.int r13), .val (.int r16)]) rfl ?_
    show Steps p.tables e below (T16.setTop (mkF m 82 #[.val (.long q1), .second, .val (.long q2), .second, .val (.long q3), .second, .val (.long q4), .second, .val (.long q5), .second, .val (.int p6), .val (.long (q3 &&& (9223372036854775807 : Int64))), .second, .val (.int i12_0), .val (.ref b3), .val (.ref b7), .val (.int r13), .val (.int r16)] [])) _
    refine XS.iload X16.here hx rfl (hb hby at_82) rfl ?_
    show Steps p.tables e below (T16.setTop (mkF m 84 #[.val (.long q1), .second, .val (.long q2), .second, .val (.long q3), .second, .val (.long q4), .second, .val (.long q5), .second, .val (.int p6), .val (.long (q3 &&& (9223372036854775807 : Int64))), .second, .val (.int i12_0), .val (.ref b3), .val (.ref b7), .val (.int r13), .val (.int r16)] [(.int r13)])) _
    refine XS.lload X16.here hx rfl (hb hby at_84) rfl ?_
    show Steps p.tables e below (T16.setTop (mkF m 86 #[.val (.long q1), .second, .val (.long q2), .second, .val (.long q3), .second, .val (.long q4), .second, .val (.long q5), .second, .val (.int p6), .val (.long (q3 &&& (9223372036854775807 : Int64))), .second, .val (.int i12_0), .val (.ref b3), .val (.ref b7), .val (.int r13), .val (.int r16)] [(.long (q3 &&& (9223372036854775807 : Int64))), (.int r13)])) _
    refine XS.lconst X16.here hx rfl (hb hby at_86) ?_
    show Steps p.tables e below (T16.setTop (mkF m 87 #[.val (.long q1), .second, .val (.long q2), .second, .val (.long q3), .second, .val (.long q4), .second, .val (.long q5), .second, .val (.int p6), .val (.long (q3 &&& (9223372036854775807 : Int64))), .second, .val (.int i12_0), .val (.ref b3), .val (.ref b7), .val (.int r13), .val (.int r16)] [(.long (0 : Int64)), (.long (q3 &&& (9223372036854775807 : Int64))), (.int r13)])) _
    refine XS.lcmp X16.here hx rfl (hb hby at_87) rfl ?_
    show Steps p.tables e below (T16.setTop (mkF m 88 #[.val (.long q1), .second, .val (.long q2), .second, .val (.long q3), .second, .val (.long q4), .second, .val (.long q5), .second, .val (.int p6), .val (.long (q3 &&& (9223372036854775807 : Int64))), .second, .val (.int i12_0), .val (.ref b3), .val (.ref b7), .val (.int r13), .val (.int r16)] [(.int (lcmpW (q3 &&& (9223372036854775807 : Int64)) (0 : Int64))), (.int r13)])) _
    exact k
  suffices J88_17 : ∀ (i88_0 : Int32), i88_0 = (if (q3 &&& (9223372036854775807 : Int64)) = (0 : Int64) then (0 : Int32) else (1 : Int32)) → GoalS p.tables e below s 16 128 (Q0 Z q1 q2 q3 q4 q5 p6 h0 n0) (T16.setTop (mkF m 96 #[.val (.long q1), .second, .val (.long q2), .second, .val (.long q3), .second, .val (.long q4), .second, .val (.long q5), .second, .val (.int p6), .val (.long (q3 &&& (9223372036854775807 : Int64))), .second, .val (.int i12_0), .val (.ref b3), .val (.ref b7), .val (.int r13), .val (.int r16)] [(.int i88_0), (.int r13)])) by
    by_cases hc88_18 : (q3 &&& (9223372036854775807 : Int64)) = (0 : Int64)
    · refine GoalS.lift (B := (T16.setTop (mkF m 96 #[.val (.long q1), .second, .val (.long q2), .second, .val (.long q3), .second, .val (.long q4), .second, .val (.long q5), .second, .val (.int p6), .val (.long (q3 &&& (9223372036854775807 : Int64))), .second, .val (.int i12_0), .val (.ref b3), .val (.ref b7), .val (.int r13), .val (.int r16)] [(.int (0 : Int32)), (.int r13)]))) (fun t k => ?_) ?_
      · show Steps p.tables e below (T16.setTop (mkF m 88 #[.val (.long q1), .second, .val (.long q2), .second, .val (.long q3), .second, .val (.long q4), .second, .val (.long q5), .second, .val (.int p6), .val (.long (q3 &&& (9223372036854775807 : Int64))), .second, .val (.int i12_0), .val (.ref b3), .val (.ref b7), .val (.int r13), .val (.int r16)] [(.int (lcmpW (q3 &&& (9223372036854775807 : Int64)) (0 : Int64))), (.int r13)])) _
        refine XS.ifYes X16.here hx rfl (pc0 := 88) (pc' := 95) rfl (hb hby at_88) rfl ((if0 _ _).trans (teq ((lw_eq (q3 &&& (9223372036854775807 : Int64)) (0 : Int64)).mpr hc88_18)).1) (by decide) (by decide) ?_
        show Steps p.tables e below (T16.setTop (mkF m 95 #[.val (.long q1), .second, .val (.long q2), .second, .val (.long q3), .second, .val (.long q4), .second, .val (.long q5), .second, .val (.int p6), .val (.long (q3 &&& (9223372036854775807 : Int64))), .second, .val (.int i12_0), .val (.ref b3), .val (.ref b7), .val (.int r13), .val (.int r16)] [(.int r13)])) _
        refine XS.iconst X16.here hx rfl (hb hby at_95) ?_
        show Steps p.tables e below (T16.setTop (mkF m 96 #[.val (.long q1), .second, .val (.long q2), .second, .val (.long q3), .second, .val (.long q4), .second, .val (.long q5), .second, .val (.int p6), .val (.long (q3 &&& (9223372036854775807 : Int64))), .second, .val (.int i12_0), .val (.ref b3), .val (.ref b7), .val (.int r13), .val (.int r16)] [(.int (0 : Int32)), (.int r13)])) _
        exact k
      exact J88_17 _ (by simp only [if_pos hc88_18])
    · refine GoalS.lift (B := (T16.setTop (mkF m 96 #[.val (.long q1), .second, .val (.long q2), .second, .val (.long q3), .second, .val (.long q4), .second, .val (.long q5), .second, .val (.int p6), .val (.long (q3 &&& (9223372036854775807 : Int64))), .second, .val (.int i12_0), .val (.ref b3), .val (.ref b7), .val (.int r13), .val (.int r16)] [(.int (1 : Int32)), (.int r13)]))) (fun t k => ?_) ?_
      · show Steps p.tables e below (T16.setTop (mkF m 88 #[.val (.long q1), .second, .val (.long q2), .second, .val (.long q3), .second, .val (.long q4), .second, .val (.long q5), .second, .val (.int p6), .val (.long (q3 &&& (9223372036854775807 : Int64))), .second, .val (.int i12_0), .val (.ref b3), .val (.ref b7), .val (.int r13), .val (.int r16)] [(.int (lcmpW (q3 &&& (9223372036854775807 : Int64)) (0 : Int64))), (.int r13)])) _
        refine XS.ifNo X16.here hx rfl (hb hby at_88) rfl ((if0 _ _).trans (feq (fun q => hc88_18 ((lw_eq (q3 &&& (9223372036854775807 : Int64)) (0 : Int64)).mp q))).1) ?_
        show Steps p.tables e below (T16.setTop (mkF m 91 #[.val (.long q1), .second, .val (.long q2), .second, .val (.long q3), .second, .val (.long q4), .second, .val (.long q5), .second, .val (.int p6), .val (.long (q3 &&& (9223372036854775807 : Int64))), .second, .val (.int i12_0), .val (.ref b3), .val (.ref b7), .val (.int r13), .val (.int r16)] [(.int r13)])) _
        refine XS.iconst X16.here hx rfl (hb hby at_91) ?_
        show Steps p.tables e below (T16.setTop (mkF m 92 #[.val (.long q1), .second, .val (.long q2), .second, .val (.long q3), .second, .val (.long q4), .second, .val (.long q5), .second, .val (.int p6), .val (.long (q3 &&& (9223372036854775807 : Int64))), .second, .val (.int i12_0), .val (.ref b3), .val (.ref b7), .val (.int r13), .val (.int r16)] [(.int (1 : Int32)), (.int r13)])) _
        refine XS.goto X16.here hx rfl (pc0 := 92) (pc' := 96) rfl (hb hby at_92) (by decide) (by decide) ?_
        show Steps p.tables e below (T16.setTop (mkF m 96 #[.val (.long q1), .second, .val (.long q2), .second, .val (.long q3), .second, .val (.long q4), .second, .val (.long q5), .second, .val (.int p6), .val (.long (q3 &&& (9223372036854775807 : Int64))), .second, .val (.int i12_0), .val (.ref b3), .val (.ref b7), .val (.int r13), .val (.int r16)] [(.int (1 : Int32)), (.int r13)])) _
        exact k
      exact J88_17 _ (by simp only [if_neg hc88_18])
  intro i88_0 h_i88_0
  obtain ⟨fs, hr, hrun, hended, hW, hsame⟩ := X16.leave (v := some (.int (1 : Int32))) (fun h => by rw [Bd.returns] at h; cases h)
  refine ⟨_, _, ?_, hrun, hended, _, _, rfl, ?_, ⟨_, rfl⟩, hW, hsame.mono (by decide) (by decide)⟩
  · show Steps p.tables e below (T16.setTop (mkF m 96 #[.val (.long q1), .second, .val (.long q2), .second, .val (.long q3), .second, .val (.long q4), .second, .val (.long q5), .second, .val (.int p6), .val (.long (q3 &&& (9223372036854775807 : Int64))), .second, .val (.int i12_0), .val (.ref b3), .val (.ref b7), .val (.int r13), .val (.int r16)] [(.int i88_0), (.int r13)])) _
    refine XS.icmpNo X16.here hx rfl (hb hby at_96) rfl ((teq (own_law h_i88_0 hr13 : r13 = i88_0)).2) ?_
    show Steps p.tables e below (T16.setTop (mkF m 99 #[.val (.long q1), .second, .val (.long q2), .second, .val (.long q3), .second, .val (.long q4), .second, .val (.long q5), .second, .val (.int p6), .val (.long (q3 &&& (9223372036854775807 : Int64))), .second, .val (.int i12_0), .val (.ref b3), .val (.ref b7), .val (.int r13), .val (.int r16)] [])) _
    refine XS.iload X16.here hx rfl (hb hby at_99) rfl ?_
    show Steps p.tables e below (T16.setTop (mkF m 101 #[.val (.long q1), .second, .val (.long q2), .second, .val (.long q3), .second, .val (.long q4), .second, .val (.long q5), .second, .val (.int p6), .val (.long (q3 &&& (9223372036854775807 : Int64))), .second, .val (.int i12_0), .val (.ref b3), .val (.ref b7), .val (.int r13), .val (.int r16)] [(.int r16)])) _
    refine XS.iload X16.here hx rfl (hb hby at_101) rfl ?_
    show Steps p.tables e below (T16.setTop (mkF m 103 #[.val (.long q1), .second, .val (.long q2), .second, .val (.long q3), .second, .val (.long q4), .second, .val (.long q5), .second, .val (.int p6), .val (.long (q3 &&& (9223372036854775807 : Int64))), .second, .val (.int i12_0), .val (.ref b3), .val (.ref b7), .val (.int r13), .val (.int r16)] [(.int r13), (.int r16)])) _
    refine XS.icmpNo X16.here hx rfl (hb hby at_103) rfl ((teq (by rw [hr16, hr13] : r16 = r13)).2) ?_
    show Steps p.tables e below (T16.setTop (mkF m 106 #[.val (.long q1), .second, .val (.long q2), .second, .val (.long q3), .second, .val (.long q4), .second, .val (.long q5), .second, .val (.int p6), .val (.long (q3 &&& (9223372036854775807 : Int64))), .second, .val (.int i12_0), .val (.ref b3), .val (.ref b7), .val (.int r13), .val (.int r16)] [])) _
    refine XS.iconst X16.here hx rfl (hb hby at_106) ?_
    show Steps p.tables e below (T16.setTop (mkF m 107 #[.val (.long q1), .second, .val (.long q2), .second, .val (.long q3), .second, .val (.long q4), .second, .val (.long q5), .second, .val (.int p6), .val (.long (q3 &&& (9223372036854775807 : Int64))), .second, .val (.int i12_0), .val (.ref b3), .val (.ref b7), .val (.int r13), .val (.int r16)] [(.int (1 : Int32))])) _
    refine XS.goto X16.here hx rfl (pc0 := 107) (pc' := 111) rfl (hb hby at_107) (by decide) (by decide) ?_
    show Steps p.tables e below (T16.setTop (mkF m 111 #[.val (.long q1), .second, .val (.long q2), .second, .val (.long q3), .second, .val (.long q4), .second, .val (.long q5), .second, .val (.int p6), .val (.long (q3 &&& (9223372036854775807 : Int64))), .second, .val (.int i12_0), .val (.ref b3), .val (.ref b7), .val (.int r13), .val (.int r16)] [(.int (1 : Int32))])) _
    exact retN X16 hx (t := .boolean) Bd.returns (by simp) (hb hby at_111) hr
  · exact ⟨rfl, N16⟩
set_option maxRecDepth 65536 in
set_option maxHeartbeats 40000000 in
theorem comes_1 {Post : Tables → Env → Array Value → State → Outcome → State → Prop} (hpost : ∀ tb e args s v u, (limb_1_1.after args s (.returned v) u = true ∧ limb_1_2.after args s (.returned v) u = true ∧ True) → FrameEnd s (.returned v) u (Jvm.fieldLocs frame_1_writes args s ++ Jvm.arrayLocs frame_1_arrays args s ++ Jvm.staticLocs frame_1_statics s) 16 128 → Post tb e args s (.returned v) u) :
    ArmFor flags0 classFile x code maxLocals ret World_1 tables_1 room_1 Calls_1 rest_1 Pre_1 Post := by
  intro l hfl _ _ p e ha hc hk s m args below hf hA hF happ hP
  obtain ⟨hcalls, hrest, hpre⟩ := hP
  obtain ⟨-, -, -, hnamed, -, -, -, hat⟩ := (Spec.applies_iff hf).mp happ
  obtain ⟨hg, hn⟩ := and_e (Cond.before_iff.mp (show (Jvm.Cond.and given_1 narrow_1).before args s = true from hpre))
  obtain ⟨g1, g2⟩ := and_e hg
  obtain ⟨g3, g4⟩ := and_e g2
  obtain ⟨g5, g6⟩ := and_e g4
  obtain ⟨g7, g8⟩ := and_e g6
  obtain ⟨g9, g10⟩ := and_e g8
  obtain ⟨g11, g12⟩ := and_e g10
  obtain ⟨w0, w1, w2, w3, w4, w5, rfl⟩ : ∃ w0 w1 w2 w3 w4 w5 : Value, args = #[w0, w1, w2, w3, w4, w5] := by
    have hs : args.size = 6 := by simpa [Cond.value, given_1] using g1
    obtain ⟨L⟩ := args
    match L, hs with
    | [w0, w1, w2, w3, w4, w5], _ => exact ⟨w0, w1, w2, w3, w4, w5, rfl⟩
  have hw := fun d (hd : d ∈ tables_1) => atoms_spec (ws := Jvm.Cond.code x code maxLocals ret :: tables_1) hat d (List.mem_cons_of_mem _ hd)
  have hfit : Fit s := fun {y c} hc i hi => by
    obtain ⟨ha, rfl⟩ := Array.getElem?_eq_some_iff.mp hc
    have q := List.all_eq_true.mp ((Array.all_eq_true_iff_forall_mem.mp hF) _ (Array.getElem_mem ha)) i (List.mem_range.mpr hi)
    simpa [Array.getElem?_eq_getElem hi] using q
  obtain ⟨i0, ei0⟩ := isL_v g3
  obtain rfl : w0 = (.long i0) := Option.some.inj ei0
  obtain ⟨i1, ei1⟩ := isL_v g5
  obtain rfl : w1 = (.long i1) := Option.some.inj ei1
  obtain ⟨i2, ei2⟩ := isL_v g7
  obtain rfl : w2 = (.long i2) := Option.some.inj ei2
  obtain ⟨i3, ei3⟩ := isL_v g9
  obtain rfl : w3 = (.long i3) := Option.some.inj ei3
  obtain ⟨i4, ei4⟩ := isL_v g11
  obtain rfl : w4 = (.long i4) := Option.some.inj ei4
  obtain ⟨i5, ei5⟩ := is_v g12
  obtain rfl : w5 = (.int i5) := Option.some.inj ei5
  obtain ⟨n, o, h1, h2, h3, _, L, rfl, ⟨rfl, N⟩, hq⟩ := rm0 l s _ hw tables_1 i0 i1 i2 i3 i4 i5  s.heap s.heap.size (Nat.le_refl _)  p e ha hc hk s m _ below hf ((Spec.applies_iff_loose hf).mp happ).1 ⟨rfl, State.Warmed39.refl s, rfl⟩ trivial
  refine ⟨n, _, h1, h2, h3, hpost _ _ _ _ _ _ ⟨Cond.after_iff.mpr rfl, Cond.after_iff.mpr (eq_i res_at (Term.int_eval (1)) rfl), trivial⟩ ⟨hq.1, hq.2.1, (hq.2.2.sift fun y hy => Or.inr (N y hy)).mono (by decide) (by decide)⟩⟩
theorem main_1_1 : Claimed_1_1 := comes_1 fun _ _ _ _ _ _ h hF => ⟨h.1, hF⟩
theorem main_1_2 : Claimed_1_2 := comes_1 fun _ _ _ _ _ _ h hF => ⟨h.2.1, hF⟩
end Jvm.Pilot.@@N@@
namespace Jvm.Pilot.@@N@@
open Jvm Jvm.ClassFile Sem Op Lib Jvm.Free Jvm.Stand Jvm.Pilot.@@N@@.Jvm.D
/-! MADE BY PROGRAM (witnessworld.py) out of the Statement's table words and the real class files: 8 classes; the members and pool entries that the words name. The judged class is class 1, her method 1. -/
namespace start1
open Jvm.ClassFile
def u (s : String) : CpInfo := .utf8 (stringToUtf16 s)
/-- a pool by its gaps: so many unusable entries, then the entry; so many at the end -/
def gap : Nat → List CpInfo → List CpInfo
  | 0, r => r
  | n + 1, r => .unusable :: gap n r
def poolList (es : List (Nat × CpInfo)) (last : Nat) : List CpInfo := es.foldr (fun e r => gap e.1 (e.2 :: r)) (gap last [])
def pool (es : List (Nat × CpInfo)) (last : Nat) : Array CpInfo := ⟨poolList es last⟩
def fileOf (pool : Array CpInfo) (this : Nat) (attrs : Array Attribute := #[]) (ms : Array MethodInfo := #[]) (fl : Nat := 33) (sup : Nat := 0) (ifs : Array Nat := #[]) (fds : Array FieldInfo := #[]) : ClassFile where
  minorVersion := 0
  majorVersion := 65
  constantPool := pool
  accessFlags := fl
  thisClass := this
  superClass := sup
  interfaces := ifs
  fields := fds
  methods := ms
  attributes := attrs
def plain (name : String) (sup : Option ClassId) : Class where
  name := name
  kind := .ordinary
  loader := none
  accessFlags := 33
  super := sup
  interfaces := #[]
  cf := none
  fields := #[]
  methods := #[]
  instanceTypes := #[]
  staticTypes := #[]
  resolved := #[]
  callSites := []
  init := .initialized
  statics := none
  mirror := none

def pool0 : Array CpInfo := pool [(5, u "<init>"), (0, u "()V"), (1, .class_ 10), (1, u "java/lang/Object")] 113

def k0c0 : Code := { maxStack := 0, maxLocals := 1, code := object_method_1_code, exceptionTable := #[], attributes := #[] }
def k0m0 : Method := { name := "<init>", desc := "()V", sig := { parameters := [], returnType := none }, accessFlags := 1, code := some k0c0 }
/-- java/lang/Object -/
def k0 : Class := { plain "java/lang/Object" none with
  accessFlags := 33
  interfaces := #[]
  cf := some (fileOf pool0 8 #[] #[{ accessFlags := 1, nameIndex := 5, descriptorIndex := 6, attributes := #[] }] 33 0 #[] #[])
  fields := #[]
  methods := #[k0m0]
  instanceTypes := #[]
  staticTypes := #[]
  resolved := Array.replicate 124 none
  statics := none }

def pool1 : Array CpInfo := pool [(2, .class_ 4), (1, u "java/lang/Object"), (0, u "<init>"), (0, u "()V"), (2, .long 9223372036854775807), (1, .class_ 12), (0, u "com/example/tideline/tideline/repository/Expiry"), (0, .methodref 11 14), (0, .nameAndType 5 15), (0, u "(JJJJJZ)V"), (0, .methodref 11 17), (0, .nameAndType 18 19), (0, u "removedEvents"), (0, u "()Z"), (0, .class_ 21), (0, u "com/example/tideline/tideline/repository/ExpiryRemovedEventsPinLaw"), (2, u "law"), (0, u "(JJJJJI)Z")] 3

def k1m0 : Method := { name := "<init>", desc := "()V", sig := { parameters := [], returnType := none }, accessFlags := 1, code := none }
def k1c1 : Code := { maxStack := 13, maxLocals := 18, code := code, exceptionTable := #[], attributes := #[] }
def k1m1 : Method := { name := "law", desc := "(JJJJJI)Z", sig := { parameters := [.long, .long, .long, .long, .long, .int], returnType := some .boolean }, accessFlags := 9, code := some k1c1 }
/-- com/example/tideline/tideline/repository/ExpiryRemovedEventsPinLaw -/
def k1 : Class := { plain "com/example/tideline/tideline/repository/ExpiryRemovedEventsPinLaw" (some 0) with
  accessFlags := 49
  interfaces := #[]
  cf := some (fileOf pool1 20 #[] #[{ accessFlags := 1, nameIndex := 5, descriptorIndex := 6, attributes := #[] }, { accessFlags := 9, nameIndex := 24, descriptorIndex := 25, attributes := #[] }] 49 2 #[] #[])
  fields := #[]
  methods := #[k1m0, k1m1]
  instanceTypes := #[]
  staticTypes := #[]
  resolved := Array.replicate 29 none
  statics := none }

def pool2 : Array CpInfo := pool [(1, .methodref 2 3), (0, .class_ 4), (0, .nameAndType 5 6), (0, u "java/lang/Object"), (0, u "<init>"), (0, u "()V"), (0, .class_ 8), (0, u "java/lang/Record")] 13

def k2c0 : Code := { maxStack := 1, maxLocals := 1, code := jdk_30_method_1_code, exceptionTable := #[], attributes := #[] }
def k2m0 : Method := { name := "<init>", desc := "()V", sig := { parameters := [], returnType := none }, accessFlags := 4, code := some k2c0 }
/-- java/lang/Record -/
def k2 : Class := { plain "java/lang/Record" (some 0) with
  accessFlags := 1057
  interfaces := #[]
  cf := some (fileOf pool2 7 #[] #[{ accessFlags := 4, nameIndex := 5, descriptorIndex := 6, attributes := #[] }] 1057 2 #[] #[])
  fields := #[]
  methods := #[k2m0]
  instanceTypes := #[]
  staticTypes := #[]
  resolved := Array.replicate 22 none
  statics := none }

def pool3 : Array CpInfo := pool [(1, .methodref 2 3), (0, .class_ 4), (0, .nameAndType 5 6), (0, u "java/lang/Record"), (0, u "<init>"), (0, u "()V"), (0, .fieldref 8 9), (0, .class_ 10), (0, .nameAndType 11 12), (0, u "com/example/tideline/tideline/repository/Expiry"), (0, u "commits"), (0, u "J"), (0, .fieldref 8 14), (0, .nameAndType 15 12), (0, u "bytes"), (0, .fieldref 8 17), (0, .nameAndType 18 12), (0, u "firstEventId"), (0, .fieldref 8 20), (0, .nameAndType 21 12), (0, u "lastEventId"), (0, .fieldref 8 23), (0, .nameAndType 24 12), (0, u "keptBytes"), (0, .fieldref 8 26), (0, .nameAndType 27 28), (0, u "overCap"), (0, u "Z"), (2, u "removedEvents"), (0, u "()Z"), (12, u "(JJJJJZ)V")] 34

def k3c0 : Code := { maxStack := 3, maxLocals := 12, code := prog_60_method_1_code, exceptionTable := #[], attributes := #[] }
def k3m0 : Method := { name := "<init>", desc := "(JJJJJZ)V", sig := { parameters := [.long, .long, .long, .long, .long, .boolean], returnType := none }, accessFlags := 1, code := some k3c0 }
def k3c1 : Code := { maxStack := 4, maxLocals := 1, code := prog_60_method_3_code, exceptionTable := #[], attributes := #[] }
def k3m1 : Method := { name := "removedEvents", desc := "()Z", sig := { parameters := [], returnType := some .boolean }, accessFlags := 1, code := some k3c1 }
/-- com/example/tideline/tideline/repository/Expiry -/
def k3 : Class := { plain "com/example/tideline/tideline/repository/Expiry" (some 2) with
  accessFlags := 49
  interfaces := #[]
  cf := some (fileOf pool3 8 #[] #[{ accessFlags := 1, nameIndex := 5, descriptorIndex := 45, attributes := #[] }, { accessFlags := 1, nameIndex := 31, descriptorIndex := 32, attributes := #[] }] 49 2 #[] #[{ accessFlags := 18, nameIndex := 11, descriptorIndex := 12, attributes := #[] }, { accessFlags := 18, nameIndex := 15, descriptorIndex := 12, attributes := #[] }, { accessFlags := 18, nameIndex := 18, descriptorIndex := 12, attributes := #[] }, { accessFlags := 18, nameIndex := 21, descriptorIndex := 12, attributes := #[] }, { accessFlags := 18, nameIndex := 24, descriptorIndex := 12, attributes := #[] }, { accessFlags := 18, nameIndex := 27, descriptorIndex := 28, attributes := #[] }])
  fields := #[{ name := "commits", type := .long, accessFlags := 18, slot := 0, constantValue := 0 }, { name := "bytes", type := .long, accessFlags := 18, slot := 1, constantValue := 0 }, { name := "firstEventId", type := .long, accessFlags := 18, slot := 2, constantValue := 0 }, { name := "lastEventId", type := .long, accessFlags := 18, slot := 3, constantValue := 0 }, { name := "keptBytes", type := .long, accessFlags := 18, slot := 4, constantValue := 0 }, { name := "overCap", type := .boolean, accessFlags := 18, slot := 5, constantValue := 0 }]
  methods := #[k3m0, k3m1]
  instanceTypes := #[.long, .long, .long, .long, .long, .boolean]
  staticTypes := #[]
  resolved := Array.replicate 80 none
  statics := none }

def pool4 : Array CpInfo := pool [(1, u "java/lang/Cloneable"), (0, .class_ 1), (0, u "java/lang/Object"), (0, .class_ 3)] 3

/-- java/lang/Cloneable -/
def k4 : Class := { plain "java/lang/Cloneable" (some 0) with
  accessFlags := 1537
  interfaces := #[]
  cf := some (fileOf pool4 2 #[] #[] 1537 4 #[] #[])
  fields := #[]
  methods := #[]
  instanceTypes := #[]
  staticTypes := #[]
  resolved := Array.replicate 8 none
  statics := none }

def pool5 : Array CpInfo := pool [(1, u "java/io/Serializable"), (0, .class_ 1), (0, u "java/lang/Object"), (0, .class_ 3)] 3

/-- java/io/Serializable -/
def k5 : Class := { plain "java/io/Serializable" (some 0) with
  accessFlags := 1537
  interfaces := #[]
  cf := some (fileOf pool5 2 #[] #[] 1537 4 #[] #[])
  fields := #[]
  methods := #[]
  instanceTypes := #[]
  staticTypes := #[]
  resolved := Array.replicate 8 none
  statics := none }

/-- the primitive byte -/
def k6 : Class := { plain "byte" none with kind := .primitive 'B', accessFlags := 0x411 }
/-- [B -/
def k7 : Class := { plain "[B" (some 0) with kind := .array 6 .byte, interfaces := #[4, 5], accessFlags := 1041 }

def heap : Heap := #[]
def classes : Array Class := #[k0, k1, k2, k3, k4, k5, k6, k7]
def interned : List (Array UInt16 × Addr) := []
def slotsUsed : Nat := 0
def theMethod : MethodId := ⟨1, 1⟩
def args0 : Array Value := #[.long 5, .long 9, .long 1, .long 2, .long 3, .int 7]
def aboutOver (below : List Frame) : State where
  vm := { classes := classes, interned := interned.toArray }
  heap := heap
  slotsUsed := slotsUsed
  threads := #[{ frames := .invoking theMethod args0 :: below }]
def below0 : List Frame := [.native { method := ⟨0, 0⟩, args := #[] }]
def about1 : State := aboutOver below0
def p0 : Program := .bare "" "" ""
def e0 : Env := launch0.env 0 0 0
theorem w_frames : about1.frames = Frame.invoking theMethod args0 :: below0 := rfl
set_option maxRecDepth 65536 in
theorem w_args : argsFit about1.vm theMethod args0 = true := by decide +kernel
set_option maxRecDepth 65536 in
theorem w_heap : heapFits about1 = true := by decide +kernel
set_option maxRecDepth 65536 in
theorem w_runnable : about1.curStatus? = some .runnable := by decide +kernel
set_option maxRecDepth 65536 in
theorem w_alone : about1.alone = true := by decide +kernel
set_option maxRecDepth 65536 in
theorem w_named : about1.methodNamed? x = some theMethod := by decide +kernel
set_option maxRecDepth 65536 in
theorem w_hears : about1.hears theMethod below0 = true := by decide +kernel
set_option maxRecDepth 65536 in
theorem w_ripe : about1.ripe theMethod args0 below0 = true := by decide +kernel
theorem w_running : about1.status = .running := rfl
set_option maxRecDepth 65536 in
theorem w_room : about1.hasRoom e0.platform room_1 = true :=
  launch0.hasRoom_least _ room_1 (by decide +kernel) (by decide +kernel) (by decide +kernel) (by decide +kernel) (by decide +kernel) (by decide +kernel)
theorem allAtoms_all (ts : List Jvm.Cond) (a : Array Jvm.Value) (st : Jvm.State) : (allAtoms ts).before a st = ts.all (fun c => c.before a st) := by
  induction ts with
  | nil => rfl
  | cons c t ih =>
    show (Jvm.Cond.and c (allAtoms t)).before a st = _
    rw [Jvm.Cond.before_and, ih, List.all_cons]
def words1 : List Jvm.Cond := Jvm.Cond.code x code maxLocals ret :: tables_1
/-- a 'code' word, met by the world's own term for the bytes: nothing is compared byte by byte -/
theorem code_word {y : MethodName} {bytes : ByteArray} {mx : Nat} {rt : Option FieldType} {a : Array Value} {s : State} {m : MethodId} {meth : Method} {c : Code} (h1 : s.methodNamed? y = some m) (h2 : s.vm.method? m = some meth) (h3 : meth.code = some c) (h4 : c.code = bytes)
    (h5 : (c.maxLocals == mx && c.exceptionTable.isEmpty && decide (c.maxStack ≤ mostOperands) && decide (meth.sig.returnType = rt) && !meth.locks && decide (parseMethodDescriptor y.desc = some meth.sig)) = true) : (Jvm.Cond.code y bytes mx rt).before a s = true := by
  simp only [Bool.and_eq_true, beq_iff_eq, Bool.not_eq_true', decide_eq_true_eq] at h5
  obtain ⟨⟨⟨⟨⟨g1, g2⟩, g3⟩, g4⟩, g5⟩, g6⟩ := h5
  simp [Cond.before, Cond.holds, Cond.value, h1, h2, h3, h4, g1, g2, g3, g4, g5, g6]
def isCode : Jvm.Cond → Bool
  | .code _ _ _ _ => true
  | _ => false
theorem all_split {L : List Jvm.Cond} {P : Jvm.Cond → Bool} (h1 : L.all (fun c => isCode c || P c) = true) (h2 : ∀ c ∈ L.filter isCode, P c = true) : L.all P = true := by
  refine List.all_eq_true.mpr fun c hc => ?_
  have h := List.all_eq_true.mp h1 c hc
  rcases Bool.eq_false_or_eq_true (isCode c) with hi | hi
  · exact h2 c (List.mem_filter.mpr ⟨hc, hi⟩)
  · simpa [hi] using h
set_option maxRecDepth 65536 in
theorem w_c0 : (Jvm.Cond.code x code maxLocals ret).before args0 about1 = true := code_word (m := ⟨1, 1⟩) (meth := k1m1) (c := k1c1) (by decide +kernel) rfl rfl rfl (by decide +kernel)
set_option maxRecDepth 65536 in
theorem w_c1 : (Jvm.Cond.code ({ cls := "com/example/tideline/tideline/repository/Expiry", name := "<init>", desc := "(JJJJJZ)V" } : Jvm.MethodName) prog_60_method_1_code (12 : Nat) (Option.none : Option Jvm.ClassFile.FieldType)).before args0 about1 = true := code_word (m := ⟨3, 0⟩) (meth := k3m0) (c := k3c0) (by decide +kernel) rfl rfl rfl (by decide +kernel)
set_option maxRecDepth 65536 in
theorem w_c2 : (Jvm.Cond.code ({ cls := "java/lang/Record", name := "<init>", desc := "()V" } : Jvm.MethodName) jdk_30_method_1_code (1 : Nat) (Option.none : Option Jvm.ClassFile.FieldType)).before args0 about1 = true := code_word (m := ⟨2, 0⟩) (meth := k2m0) (c := k2c0) (by decide +kernel) rfl rfl rfl (by decide +kernel)
set_option maxRecDepth 65536 in
theorem w_c3 : (Jvm.Cond.code ({ cls := "java/lang/Object", name := "<init>", desc := "()V" } : Jvm.MethodName) object_method_1_code (1 : Nat) (Option.none : Option Jvm.ClassFile.FieldType)).before args0 about1 = true := code_word (m := ⟨0, 0⟩) (meth := k0m0) (c := k0c0) (by decide +kernel) rfl rfl rfl (by decide +kernel)
set_option maxRecDepth 65536 in
theorem w_c4 : (Jvm.Cond.code ({ cls := "com/example/tideline/tideline/repository/Expiry", name := "removedEvents", desc := "()Z" } : Jvm.MethodName) prog_60_method_3_code (1 : Nat) (Option.some Jvm.ClassFile.FieldType.boolean)).before args0 about1 = true := code_word (m := ⟨3, 1⟩) (meth := k3m1) (c := k3c1) (by decide +kernel) rfl rfl rfl (by decide +kernel)
def codes1 : List Jvm.Cond := [Jvm.Cond.code x code maxLocals ret, Jvm.Cond.code ({ cls := "com/example/tideline/tideline/repository/Expiry", name := "<init>", desc := "(JJJJJZ)V" } : Jvm.MethodName) prog_60_method_1_code (12 : Nat) (Option.none : Option Jvm.ClassFile.FieldType), Jvm.Cond.code ({ cls := "java/lang/Record", name := "<init>", desc := "()V" } : Jvm.MethodName) jdk_30_method_1_code (1 : Nat) (Option.none : Option Jvm.ClassFile.FieldType), Jvm.Cond.code ({ cls := "java/lang/Object", name := "<init>", desc := "()V" } : Jvm.MethodName) object_method_1_code (1 : Nat) (Option.none : Option Jvm.ClassFile.FieldType), Jvm.Cond.code ({ cls := "com/example/tideline/tideline/repository/Expiry", name := "removedEvents", desc := "()Z" } : Jvm.MethodName) prog_60_method_3_code (1 : Nat) (Option.some Jvm.ClassFile.FieldType.boolean)]
set_option maxRecDepth 65536 in
theorem codes_eq : words1.filter isCode = codes1 := rfl
theorem w_codes : ∀ c ∈ words1.filter isCode, c.before args0 about1 = true := by
  rw [codes_eq]
  intro c hc
  simp only [codes1, List.mem_cons, List.not_mem_nil, or_false] at hc
  rcases hc with rfl | rfl | rfl | rfl | rfl
  · exact w_c0
  · exact w_c1
  · exact w_c2
  · exact w_c3
  · exact w_c4
set_option maxRecDepth 65536 in
theorem w_t1 : (words1.take 24).all (fun c => isCode c || c.before args0 about1) = true := by decide +kernel
set_option maxRecDepth 65536 in
theorem w_t2 : (words1.drop 24).all (fun c => isCode c || c.before args0 about1) = true := by decide +kernel
theorem w_tables : (allAtoms (Jvm.Cond.code x code maxLocals ret :: tables_1)).before args0 about1 = true := by
  rw [allAtoms_all]
  show words1.all (fun c => c.before args0 about1) = true
  refine all_split ?_ w_codes
  rw [← List.take_append_drop 24 words1, List.all_append, w_t1, w_t2]
  rfl
set_option maxRecDepth 65536 in
theorem w_case : (Jvm.Cond.and given_1 narrow_1).before args0 about1 = true := by decide +kernel
theorem w_applies : (headSpec (Jvm.Cond.code x code maxLocals ret :: tables_1) room_1).applies x e0.platform about1 = true :=
  (Spec.applies_iff w_frames).mpr ⟨w_running, w_runnable, w_alone, w_named, w_hears, w_ripe, w_room, w_tables⟩
theorem atStart : AtStart classFile x code maxLocals ret World_1 tables_1 room_1 Calls_1 rest_1 Pre_1 launch0 p0 e0 about1 theMethod args0 below0 :=
  ⟨lists_1, trivial, launch0.admits_env _ _ _, launch0.least_env, fairChoices_fair.cas, fairChoices_fair.clock, w_frames, w_args, w_heap, w_applies, trivial, trivial, w_case⟩
end start1
theorem witness_1 : WitnessClaimed_1 := ⟨start1.p0, start1.e0, start1.about1, start1.theMethod, start1.args0, start1.below0, start1.atStart⟩
end Jvm.Pilot.@@N@@
