import JvmDerived
import JvmDerived.Pilot.@@N@@Statement
import JvmDerived.Pilot.@@N@@Code
set_option linter.unusedVariables false
set_option linter.unusedSimpArgs false
namespace Jvm.RoadKit
open Sem ClassFile Op Lib Jvm.Stand Jvm.Free Jvm.LawKit
section New
variable {p : Program} {l : Launch} {e : Env} {R : Room} {s : State} {m : MethodId} {args : Array Value} {below : List Frame} {meth : Method} {c : Code} {T : State} {locs : List Loc} {cells slots : Nat}
theorem retI (X : Stand p l e R s m args below meth c T locs cells slots) (hx : p.tables.exec = Jvm.exec) {pc : Nat} {Ls : Array Slot} {z : Int32} {rest : List Value} (hret : meth.sig.returnType = some .int) (hd : decode c.code pc = .ok (.ireturn, 1)) {fs : List Frame}
    (hl : ∀ (f : JFrame) (acts : List Action), f.method = m → f.locked = none → f.entered = [] → (doReturn e (T.setTop f) acts (some (.int z))).1 = T.setFrames fs) : Steps p.tables e below (T.setTop (mkF m pc Ls (.int z :: rest))) (T.setFrames fs) := by
  have hm' : T.vm.method? m = some meth := X.method'
  have hn : narrow .int (.int z) = .int z := rfl
  show Steps p.tables e below (T.setTop { method := m, pc := pc, locals := Ls, stack := _ :: rest, locked := none }) _
  jvm_step X.here [X.here.top, hx, hd, hm', hret, hn]
  first | (intro acts; rw [hl _ acts rfl rfl rfl]) | rw [hl _ _ rfl rfl rfl]
  exact Steps.refl _
end New
end Jvm.RoadKit
namespace Jvm.Pilot.@@N@@
open Jvm Jvm.ClassFile Sem Op Lib Jvm.Free Jvm.Stand Jvm.LawKit Jvm.RoadKit Bundle Jvm.Pilot.@@N@@.Jvm.D
-- from the state st the run ends, and Q holds of what it leaves
def GoalS (tb : Tables) (e : Env) (below : List Frame) (s : State) (kc ks : Nat) (Q : Option Value → Heap → List Loc → Prop) (st : State) : Prop :=
  ∃ s₂ o, Steps tb e below st s₂ ∧ s₂.status = .running ∧ Ended s₂ below o ∧ ∃ v L, o = .returned v ∧ Q v s₂.heap L ∧ FrameEnd s o s₂ L kc ks
theorem GoalS.lift {tb : Tables} {e : Env} {below : List Frame} {s : State} {kc ks : Nat} {Q : Option Value → Heap → List Loc → Prop} {A B : State}
    (h : ∀ t, Steps tb e below B t → Steps tb e below A t) (g : GoalS tb e below s kc ks Q B) : GoalS tb e below s kc ks Q A := by
  obtain ⟨s₂, o, h1, h2⟩ := g
  exact ⟨s₂, o, h _ h1, h2⟩
-- an array of n places of which place i holds f i
def AV (Z : State) (h : Heap) (a : Addr) (k : ClassId) (ty : FieldType) (n : Nat) (f : Nat → Value) : Prop := ∃ c : Cell, Arr Z h a c ty ∧ c.cls = k ∧ c.slots.size = n ∧ n < 2147483648 ∧ ∀ i, i < n → c.slots[i]? = some (f i)
def updI (f : Nat → Int32) (j : Nat) (v : Int32) : Nat → Int32 := fun i => if i = j then v else f i
def updJ (f : Nat → Int64) (j : Nat) (v : Int64) : Nat → Int64 := fun i => if i = j then v else f i
def updR (f : Nat → Value) (j : Nat) (v : Value) : Nat → Value := fun i => if i = j then v else f i
section Own
variable {Z : State} {h h' : Heap} {a b : Addr} {k : ClassId} {ty : FieldType} {n : Nat} {f g : Nat → Value} {ws : List Addr} {v : Value} {sl : Nat}
theorem AV.lt (F : AV Z h a k ty n f) : a < h.size := by obtain ⟨c, A, -⟩ := F; exact A.lt
theorem AV.ext (F : AV Z h a k ty n f) (E : Ext h h') : AV Z h' a k ty n f := by obtain ⟨c, A, r⟩ := F; exact ⟨c, A.ext E, r⟩
theorem AV.other (F : AV Z h b k ty n f) (W : Wr h h' a sl v) (q : b ≠ a) : AV Z h' b k ty n f := by obtain ⟨c, A, r⟩ := F; exact ⟨c, A.other W q, r⟩
theorem AV.keep (F : AV Z h a k ty n f) (K : Keep h h' ws) (q : a ∉ ws) : AV Z h' a k ty n f := by obtain ⟨c, A, r⟩ := F; exact ⟨c, ⟨K.2.1 a c A.1 q, A.2⟩, r⟩
theorem AV.new {z : Int32} (A : Arr Z h a (newA k ty z) ty) (q : ¬ z < 0) (hn : z.toNatClampNeg = n) (hb : n < 2147483648) : AV Z h a k ty n (fun _ => defaultValue ty) :=
  ⟨_, A, rfl, (sz_new _ _ _).trans hn, hb, fun i hi => by simp [newA, hn, hi]⟩
theorem AV.inb {c : Cell} {j : Int32} (S : c.slots.size = n) (q : ¬ j < 0 ∧ j.toNatClampNeg < n) : ¬ (j < 0 ∨ c.slots.size ≤ j.toNatClampNeg) := fun u => u.elim q.1 fun w => by omega
theorem AV.inx {j : Int32} (q : ¬ j < 0 ∧ j.toNatClampNeg < n) : j.toNatClampNeg < n := q.2
theorem AV.conv (F : AV Z h a k ty n f) (e : ∀ i, i < n → f i = g i) : AV Z h a k ty n g := by
  obtain ⟨c, A, r1, r2, r3, r4⟩ := F; exact ⟨c, A, r1, r2, r3, fun i hi => (r4 i hi).trans (congrArg some (e i hi))⟩
theorem AV.putR {j : Nat} (F : AV Z h a k ty n f) (W : Wr h h' a j v) (hj : j < n) : AV Z h' a k ty n (updR f j v) := by
  obtain ⟨c, A, r1, r2, r3, r4⟩ := F
  refine ⟨_, A.same W, r1, (sz_set _ _ _).trans r2, r3, fun i hi => ?_⟩
  by_cases q : i = j
  · subst q; simp [Cell.setSlot, updR, r2, hi]
  · have q' : j ≠ i := fun u => q u.symm
    simp only [Cell.setSlot, updR, if_neg q]; rw [Array.getElem?_setIfInBounds_ne q']; exact r4 i hi
theorem AV.putI {j : Nat} {f : Nat → Int32} {v : Int32} (F : AV Z h a k ty n (fun i => Value.int (f i))) (W : Wr h h' a j (.int v)) (hj : j < n) : AV Z h' a k ty n (fun i => Value.int (updI f j v i)) :=
  (F.putR W hj).conv fun i _ => by simp only [updR, updI]; split <;> rfl
theorem AV.putJ {j : Nat} {f : Nat → Int64} {v : Int64} (F : AV Z h a k ty n (fun i => Value.long (f i))) (W : Wr h h' a j (.long v)) (hj : j < n) : AV Z h' a k ty n (fun i => Value.long (updJ f j v i)) :=
  (F.putR W hj).conv fun i _ => by simp only [updR, updJ]; split <;> rfl
end Own


theorem own_fI {args : Array Value} {s : State} {t : Term} {x : Addr} {C n dd : String} {k : Int32} (ht : t.eval args s none [] s = some (.ref x)) (h : (Cond.eq (Term.field t C n dd) (Term.int k)).value args s none s [] = some true) : Fld s s.heap x C n dd (.int k) := by
  apply Fld.start
  rw [← fld_at (C := C) (n := n) (dd := dd) ht]
  obtain ⟨u, w, e1, e2, k1, k2⟩ := cmp_v (Or.inl h)
  have e3 : w = .int k := (Option.some.inj ((Term.int_eval k).symm.trans e2)).symm
  subst e3
  obtain ⟨z, rfl⟩ := k2
  have : z = k := by simpa [Cond.value, e1, e2] using h
  rw [e1, this]
theorem own_fN {args : Array Value} {s : State} {t : Term} {x : Addr} {C n dd : String} (ht : t.eval args s none [] s = some (.ref x)) (h : (Cond.eq (Term.field t C n dd) Term.null).value args s none s [] = some true) : Fld s s.heap x C n dd .null := by
  apply Fld.start
  rw [← fld_at (C := C) (n := n) (dd := dd) ht]
  exact null_v h
theorem own_fR {args : Array Value} {s : State} {t t2 : Term} {x y : Addr} {C n dd : String} (ht : t.eval args s none [] s = some (.ref x)) (ht2 : t2.eval args s none [] s = some (.ref y)) (h : (Cond.eq (Term.field t C n dd) t2).value args s none s [] = some true) : Fld s s.heap x C n dd (.ref y) := by
  apply Fld.start
  rw [← fld_at (C := C) (n := n) (dd := dd) ht]
  obtain ⟨u, w, e1, e2, k1, k2⟩ := cmp_v (Or.inl h)
  have e3 : w = .ref y := (Option.some.inj (ht2.symm.trans e2)).symm
  subst e3
  have hu : u.isRef = true := k2.2
  rw [e1]
  exact congrArg some (gotT (eq_R e1 e2 hu rfl) h)
theorem own_four (x : Int32) : (x &&& (3 : Int32)) = (0 : Int32) ∨ (x &&& (3 : Int32)) = (1 : Int32) ∨ (x &&& (3 : Int32)) = (2 : Int32) ∨ (x &&& (3 : Int32)) = (3 : Int32) := by
  have h : (x &&& 3).toInt = x.toInt % (2 ^ 2 : Nat) := c_mask x 3 2 (by decide) (by decide)
  have k : ∀ (n : Int) (y : Int32), y.toInt = n → ((x &&& (3 : Int32))).toInt = n → (x &&& (3 : Int32)) = y := fun n y q r => Int32.toInt_inj.mp (r.trans q.symm)
  rcases (show ((x &&& (3 : Int32))).toInt = 0 ∨ ((x &&& (3 : Int32))).toInt = 1 ∨ ((x &&& (3 : Int32))).toInt = 2 ∨ ((x &&& (3 : Int32))).toInt = 3 by omega) with q | q | q | q
  · exact Or.inl (k 0 0 rfl q)
  · exact Or.inr (Or.inl (k 1 1 rfl q))
  · exact Or.inr (Or.inr (Or.inl (k 2 2 rfl q)))
  · exact Or.inr (Or.inr (Or.inr ((k 3 3 rfl q))))
theorem own_three (x : Int32) : ((x &&& (2147483647 : Int32)) % (3 : Int32)) = (0 : Int32) ∨ ((x &&& (2147483647 : Int32)) % (3 : Int32)) = (1 : Int32) ∨ ((x &&& (2147483647 : Int32)) % (3 : Int32)) = (2 : Int32) := by
  have h1 : 0 ≤ (x &&& (2147483647 : Int32)).toInt := (c_andS x (2147483647 : Int32)).2.2 (by decide)
  have h2 := (c_irem (x &&& (2147483647 : Int32)) (3 : Int32) 3 rfl).1 h1
  have k : ∀ (n : Int) (y : Int32), y.toInt = n → (((x &&& (2147483647 : Int32)) % (3 : Int32))).toInt = n → ((x &&& (2147483647 : Int32)) % (3 : Int32)) = y := fun n y q r => Int32.toInt_inj.mp (r.trans q.symm)
  rcases (show (((x &&& (2147483647 : Int32)) % (3 : Int32))).toInt = 0 ∨ (((x &&& (2147483647 : Int32)) % (3 : Int32))).toInt = 1 ∨ (((x &&& (2147483647 : Int32)) % (3 : Int32))).toInt = 2 by omega) with q | q | q
  · exact Or.inl (k 0 0 rfl q)
  · exact Or.inr (Or.inl (k 1 1 rfl q))
  · exact Or.inr (Or.inr ((k 2 2 rfl q)))

theorem d1_0 : decode prog_29_method_4_code 0 = .ok (.aload_n 0, 1) := by decide +kernel
theorem d1_1 : decode prog_29_method_4_code 1 = .ok (.getfield 35, 3) := by decide +kernel
theorem d1_4 : decode prog_29_method_4_code 4 = .ok (.ifnull 11, 3) := by decide +kernel
theorem d1_15 : decode prog_29_method_4_code 15 = .ok (.iconst 1, 1) := by decide +kernel
theorem d1_16 : decode prog_29_method_4_code 16 = .ok (.goto 4, 3) := by decide +kernel
theorem d1_20 : decode prog_29_method_4_code 20 = .ok (.ireturn, 1) := by decide +kernel
theorem pn_0 : plainName "com/example/pipstill/pipstill/SixSidedStout$Assistant" = true := by first | (simp [plainName, overriddenIn]; done) | decide +kernel
theorem ef_rm1n (m : MethodId) (a1 : Addr) (a2 : Addr) : entryFrame m #[(.ref a1), (.ref a2)] 2 = mkF m 0 #[.val (.ref a1), .val (.ref a2)] [] := by first | (simp [entryFrame, mkF, argsToLocals, Value.category]; done) | rfl
def Q1n (Z : State) (a1 : Addr) (a2 : Addr) (h0 : Heap) (n0 : Nat) (v : Option Value) (h : Heap) (L : List Loc) : Prop := ∃ r : Int32, v = some (.int r) ∧ r = (1 : Int32) ∧ Fr n0 L ∧ h = h0
set_option maxRecDepth 65536 in
set_option maxHeartbeats 40000000 in
theorem rm1n (l : Launch) (Z : State) (a0 : Array Value) (hw : ∀ d ∈ tables_1, d.before a0 Z = true) (ws : List Jvm.Cond) (a1 : Addr) (a2 : Addr) (h0 : Heap) (n0 : Nat) (Z0 : n0 ≤ h0.size) (F_ware_a1 : Fld Z h0 a1 "com/example/pipstill/pipstill/SixSidedStout$Assistant" "ware" "Lcom/example/pipstill/pipstill/SixSidedStout$Ware;" .null) :
    MetFree l (⟨"com/example/pipstill/pipstill/SixSidedStout$Assistant", "serves", "(Lcom/example/pipstill/pipstill/SixSidedStout$Ware;)Z"⟩ : MethodName) (head1 (Jvm.Cond.code (⟨"com/example/pipstill/pipstill/SixSidedStout$Assistant", "serves", "(Lcom/example/pipstill/pipstill/SixSidedStout$Ware;)Z"⟩ : MethodName) prog_29_method_4_code 2 (some .boolean) :: ws) ({ frames := 0, cells := 0, slots := 0, locals := 0 } : Room)) (fun a U => a = #[(.ref a1), (.ref a2)] ∧ Z.Warmed39 U.vm ∧ U.heap = h0) (fun _ _ _ _ _ => True) (fun _ U o U' => ∃ v L, o = .returned v ∧ Q1n Z a1 a2 h0 n0 v U'.heap L ∧ FrameEnd U o U' L ({ frames := 0, cells := 0, slots := 0, locals := 0 } : Room).cells ({ frames := 0, cells := 0, slots := 0, locals := 0 } : Room).slots) := by
  refine MetFree.of_bodySF (plainFor_of_name pn_0) hisR ?_
  intro p e s m args below meth c s₁ Bd hml0 hP hK
  obtain ⟨rfl, hZ, hh⟩ := hP
  have hx := Bd.exec
  have hby := Bd.bytes
  have hml : c.maxLocals = 2 := hml0
  have hown : s.vm.findClass "com/example/pipstill/pipstill/SixSidedStout$Assistant" = some m.cls := findClass_of_methodNamed Bd.named
  have hnm := (name_of_methodNamed Bd.named Bd.method).1
  have X0 : Stand p l e ({ frames := 0, cells := 0, slots := 0, locals := 0 } : Room) s m #[(.ref a1), (.ref a2)] below meth c s₁ [] 0 0 := Stand.of_body Bd
  have e0 : s₁.heap = h0 := by rw [← hh, Bd.state]; rfl
  have N0 := Fr.nil n0
  show GoalS p.tables e below s ({ frames := 0, cells := 0, slots := 0, locals := 0 } : Room).cells ({ frames := 0, cells := 0, slots := 0, locals := 0 } : Room).slots (Q1n Z a1 a2 h0 n0) (s₁.setTop (entryFrame m #[(.ref a1), (.ref a2)] 2))
  refine GoalS.lift (B := s₁.setTop (mkF m 0 #[.val (.ref a1), .val (.ref a2)] [])) (fun t k => castTop (ef_rm1n m a1 a2) k) ?_
  have K0 : Keep h0 h0 [] := Keep.refl _ _
  obtain ⟨T1, X1, e1, st1⟩ := getF X0 hx hZ hown (host := "") (Or.inl (hw _ (List.mem_of_getElem? (i := 28) rfl))) Via.refl e0 F_ware_a1 (g := (mkF m 1 #[.val (.ref a1), .val (.ref a2)] [(.ref a1)])) rfl rfl (hb hby d1_1)
  obtain ⟨fs, hr, hrun, hended, hW, hsame⟩ := X1.leave (v := some (.int (1 : Int32))) (fun h => by rw [Bd.returns] at h; cases h)
  refine ⟨_, _, ?_, hrun, hended, _, _, rfl, ?_, ⟨_, rfl⟩, hW, hsame.mono (by decide) (by decide)⟩
  · show Steps p.tables e below (s₁.setTop (mkF m 0 #[.val (.ref a1), .val (.ref a2)] [])) _
    refine XS.aloadN X0.here hx rfl (hb hby d1_0) rfl rfl ?_
    show Steps p.tables e below (s₁.setTop (mkF m 1 #[.val (.ref a1), .val (.ref a2)] [(.ref a1)])) _
    refine st1 _ ?_
    show Steps p.tables e below (T1.setTop (mkF m 4 #[.val (.ref a1), .val (.ref a2)] [.null])) _
    refine XS.ifnullYes X1.here hx rfl (pc0 := 4) (pc' := 15) rfl (hb hby d1_4) rfl (by decide) (by decide) ?_
    show Steps p.tables e below (T1.setTop (mkF m 15 #[.val (.ref a1), .val (.ref a2)] [])) _
    refine XS.iconst X1.here hx rfl (hb hby d1_15) ?_
    show Steps p.tables e below (T1.setTop (mkF m 16 #[.val (.ref a1), .val (.ref a2)] [(.int (1 : Int32))])) _
    refine XS.goto X1.here hx rfl (pc0 := 16) (pc' := 20) rfl (hb hby d1_16) (by decide) (by decide) ?_
    show Steps p.tables e below (T1.setTop (mkF m 20 #[.val (.ref a1), .val (.ref a2)] [(.int (1 : Int32))])) _
    exact retN X1 hx (t := .boolean) Bd.returns (by simp) (hb hby d1_20) hr
  · show Q1n Z a1 a2 h0 n0 _ T1.heap _
    exact ⟨_, rfl, (by rfl), N0, e1⟩
theorem d1_7 : decode prog_29_method_4_code 7 = .ok (.aload_n 0, 1) := by decide +kernel
theorem d1_8 : decode prog_29_method_4_code 8 = .ok (.getfield 35, 3) := by decide +kernel
theorem d1_11 : decode prog_29_method_4_code 11 = .ok (.aload_n 1, 1) := by decide +kernel
theorem d1_12 : decode prog_29_method_4_code 12 = .ok (.if_acmp .ne 7, 3) := by decide +kernel
theorem d1_19 : decode prog_29_method_4_code 19 = .ok (.iconst 0, 1) := by decide +kernel
theorem ef_rm1r (m : MethodId) (a1 : Addr) (a2 : Addr) : entryFrame m #[(.ref a1), (.ref a2)] 2 = mkF m 0 #[.val (.ref a1), .val (.ref a2)] [] := by first | (simp [entryFrame, mkF, argsToLocals, Value.category]; done) | rfl
def Q1r (Z : State) (a1 : Addr) (a2 : Addr) (w : Addr) (h0 : Heap) (n0 : Nat) (v : Option Value) (h : Heap) (L : List Loc) : Prop := ∃ r : Int32, v = some (.int r) ∧ r = (if w = a2 then (1 : Int32) else (0 : Int32)) ∧ Fr n0 L ∧ h = h0
set_option maxRecDepth 65536 in
set_option maxHeartbeats 40000000 in
theorem rm1r (l : Launch) (Z : State) (a0 : Array Value) (hw : ∀ d ∈ tables_1, d.before a0 Z = true) (ws : List Jvm.Cond) (a1 : Addr) (a2 : Addr) (w : Addr) (h0 : Heap) (n0 : Nat) (Z0 : n0 ≤ h0.size) (F_ware_a1 : Fld Z h0 a1 "com/example/pipstill/pipstill/SixSidedStout$Assistant" "ware" "Lcom/example/pipstill/pipstill/SixSidedStout$Ware;" (.ref w)) :
    MetFree l (⟨"com/example/pipstill/pipstill/SixSidedStout$Assistant", "serves", "(Lcom/example/pipstill/pipstill/SixSidedStout$Ware;)Z"⟩ : MethodName) (head1 (Jvm.Cond.code (⟨"com/example/pipstill/pipstill/SixSidedStout$Assistant", "serves", "(Lcom/example/pipstill/pipstill/SixSidedStout$Ware;)Z"⟩ : MethodName) prog_29_method_4_code 2 (some .boolean) :: ws) ({ frames := 0, cells := 0, slots := 0, locals := 0 } : Room)) (fun a U => a = #[(.ref a1), (.ref a2)] ∧ Z.Warmed39 U.vm ∧ U.heap = h0) (fun _ _ _ _ _ => True) (fun _ U o U' => ∃ v L, o = .returned v ∧ Q1r Z a1 a2 w h0 n0 v U'.heap L ∧ FrameEnd U o U' L ({ frames := 0, cells := 0, slots := 0, locals := 0 } : Room).cells ({ frames := 0, cells := 0, slots := 0, locals := 0 } : Room).slots) := by
  refine MetFree.of_bodySF (plainFor_of_name pn_0) hisR ?_
  intro p e s m args below meth c s₁ Bd hml0 hP hK
  obtain ⟨rfl, hZ, hh⟩ := hP
  have hx := Bd.exec
  have hby := Bd.bytes
  have hml : c.maxLocals = 2 := hml0
  have hown : s.vm.findClass "com/example/pipstill/pipstill/SixSidedStout$Assistant" = some m.cls := findClass_of_methodNamed Bd.named
  have hnm := (name_of_methodNamed Bd.named Bd.method).1
  have X0 : Stand p l e ({ frames := 0, cells := 0, slots := 0, locals := 0 } : Room) s m #[(.ref a1), (.ref a2)] below meth c s₁ [] 0 0 := Stand.of_body Bd
  have e0 : s₁.heap = h0 := by rw [← hh, Bd.state]; rfl
  have N0 := Fr.nil n0
  show GoalS p.tables e below s ({ frames := 0, cells := 0, slots := 0, locals := 0 } : Room).cells ({ frames := 0, cells := 0, slots := 0, locals := 0 } : Room).slots (Q1r Z a1 a2 w h0 n0) (s₁.setTop (entryFrame m #[(.ref a1), (.ref a2)] 2))
  refine GoalS.lift (B := s₁.setTop (mkF m 0 #[.val (.ref a1), .val (.ref a2)] [])) (fun t k => castTop (ef_rm1r m a1 a2) k) ?_
  have K0 : Keep h0 h0 [] := Keep.refl _ _
  obtain ⟨T1, X1, e1, st1⟩ := getF X0 hx hZ hown (host := "") (Or.inl (hw _ (List.mem_of_getElem? (i := 28) rfl))) Via.refl e0 F_ware_a1 (g := (mkF m 1 #[.val (.ref a1), .val (.ref a2)] [(.ref a1)])) rfl rfl (hb hby d1_1)
  obtain ⟨T2, X2, e2, st2⟩ := getF X1 hx hZ hown (host := "") (Or.inl (hw _ (List.mem_of_getElem? (i := 28) rfl))) Via.refl e1 F_ware_a1 (g := (mkF m 8 #[.val (.ref a1), .val (.ref a2)] [(.ref a1)])) rfl rfl (hb hby d1_8)
  refine GoalS.lift (B := (T2.setTop (mkF m 12 #[.val (.ref a1), .val (.ref a2)] [(.ref a2), (.ref w)]))) (fun t k => ?_) ?_
  · show Steps p.tables e below (s₁.setTop (mkF m 0 #[.val (.ref a1), .val (.ref a2)] [])) _
    refine XS.aloadN X0.here hx rfl (hb hby d1_0) rfl rfl ?_
    show Steps p.tables e below (s₁.setTop (mkF m 1 #[.val (.ref a1), .val (.ref a2)] [(.ref a1)])) _
    refine st1 _ ?_
    show Steps p.tables e below (T1.setTop (mkF m 4 #[.val (.ref a1), .val (.ref a2)] [(.ref w)])) _
    refine XS.ifnullNo X1.here hx rfl (hb hby d1_4) rfl ?_
    show Steps p.tables e below (T1.setTop (mkF m 7 #[.val (.ref a1), .val (.ref a2)] [])) _
    refine XS.aloadN X1.here hx rfl (hb hby d1_7) rfl rfl ?_
    show Steps p.tables e below (T1.setTop (mkF m 8 #[.val (.ref a1), .val (.ref a2)] [(.ref a1)])) _
    refine st2 _ ?_
    show Steps p.tables e below (T2.setTop (mkF m 11 #[.val (.ref a1), .val (.ref a2)] [(.ref w)])) _
    refine XS.aloadN X2.here hx rfl (hb hby d1_11) rfl rfl ?_
    show Steps p.tables e below (T2.setTop (mkF m 12 #[.val (.ref a1), .val (.ref a2)] [(.ref a2), (.ref w)])) _
    exact k
  by_cases hc12_3 : w = a2
  · obtain ⟨fs, hr, hrun, hended, hW, hsame⟩ := X2.leave (v := some (.int (1 : Int32))) (fun h => by rw [Bd.returns] at h; cases h)
    refine ⟨_, _, ?_, hrun, hended, _, _, rfl, ?_, ⟨_, rfl⟩, hW, hsame.mono (by decide) (by decide)⟩
    · show Steps p.tables e below (T2.setTop (mkF m 12 #[.val (.ref a1), .val (.ref a2)] [(.ref a2), (.ref w)])) _
      refine Jvm.RoadKit.acmp (g := (mkF m 12 #[.val (.ref a1), .val (.ref a2)] [(.ref a2), (.ref w)])) X2 hx rfl rfl rfl (pc0 := 12) (pc' := 15) (same := true) rfl (hb hby d1_12) rfl (decide_eq_true (congrArg Value.ref hc12_3)) (by decide) (by decide) ?_
      show Steps p.tables e below (T2.setTop (mkF m 15 #[.val (.ref a1), .val (.ref a2)] [])) _
      refine XS.iconst X2.here hx rfl (hb hby d1_15) ?_
      show Steps p.tables e below (T2.setTop (mkF m 16 #[.val (.ref a1), .val (.ref a2)] [(.int (1 : Int32))])) _
      refine XS.goto X2.here hx rfl (pc0 := 16) (pc' := 20) rfl (hb hby d1_16) (by decide) (by decide) ?_
      show Steps p.tables e below (T2.setTop (mkF m 20 #[.val (.ref a1), .val (.ref a2)] [(.int (1 : Int32))])) _
      exact retN X2 hx (t := .boolean) Bd.returns (by simp) (hb hby d1_20) hr
    · show Q1r Z a1 a2 w h0 n0 _ T2.heap _
      exact ⟨_, rfl, (by simp only [if_pos hc12_3]), N0, e2⟩
  · obtain ⟨fs, hr, hrun, hended, hW, hsame⟩ := X2.leave (v := some (.int (0 : Int32))) (fun h => by rw [Bd.returns] at h; cases h)
    refine ⟨_, _, ?_, hrun, hended, _, _, rfl, ?_, ⟨_, rfl⟩, hW, hsame.mono (by decide) (by decide)⟩
    · show Steps p.tables e below (T2.setTop (mkF m 12 #[.val (.ref a1), .val (.ref a2)] [(.ref a2), (.ref w)])) _
      refine Jvm.RoadKit.acmp (g := (mkF m 12 #[.val (.ref a1), .val (.ref a2)] [(.ref a2), (.ref w)])) X2 hx rfl rfl rfl (pc0 := 12) (pc' := 19) (same := false) rfl (hb hby d1_12) rfl (decide_eq_false fun q => hc12_3 (Value.ref.inj q)) (by decide) (by decide) ?_
      show Steps p.tables e below (T2.setTop (mkF m 19 #[.val (.ref a1), .val (.ref a2)] [])) _
      refine XS.iconst X2.here hx rfl (hb hby d1_19) ?_
      show Steps p.tables e below (T2.setTop (mkF m 20 #[.val (.ref a1), .val (.ref a2)] [(.int (0 : Int32))])) _
      exact retN X2 hx (t := .boolean) Bd.returns (by simp) (hb hby d1_20) hr
    · show Q1r Z a1 a2 w h0 n0 _ T2.heap _
      exact ⟨_, rfl, (by simp only [if_neg hc12_3]), N0, e2⟩
theorem pn_1 : plainName "com/example/pipstill/pipstill/AssistantServesPinLaw" = true := by first | (simp [plainName, overriddenIn]; done) | decide +kernel
theorem pd_0 : parseMethodDescriptor "(Lcom/example/pipstill/pipstill/SixSidedStout$Ware;)Z" = some ⟨[(.object "com/example/pipstill/pipstill/SixSidedStout$Ware")], some .boolean⟩ := by decide +kernel
theorem ef_rm0 (m : MethodId) (p1 : Int32) (p2 : Int32) : entryFrame m #[(.int p1), (.int p2)] maxLocals = mkF m 0 #[.val (.int p1), .val (.int p2), .unset, .unset, .unset, .unset, .unset] [] := by first | (simp [entryFrame, mkF, argsToLocals, Value.category, maxLocals]; done) | rfl
def Q0 (Z : State) (p1 : Int32) (p2 : Int32) (o_MALT_EXPERT : Addr) (o_HOPS_IMPORTER : Addr) (o_SCIENTIST : Addr) (o_MASTER_BREWER : Addr) (o_MALT : Addr) (o_HOPS : Addr) (o_YEAST : Addr) (h0 : Heap) (n0 : Nat) (v : Option Value) (h : Heap) (L : List Loc) : Prop := v = some (.int (1 : Int32)) ∧ Fr n0 L
set_option maxRecDepth 65536 in
set_option maxHeartbeats 40000000 in
theorem rm0 (l : Launch) (Z : State) (a0 : Array Value) (hw : ∀ d ∈ tables_1, d.before a0 Z = true) (ws : List Jvm.Cond) (p1 : Int32) (p2 : Int32) (o_MALT_EXPERT : Addr) (o_HOPS_IMPORTER : Addr) (o_SCIENTIST : Addr) (o_MASTER_BREWER : Addr) (o_MALT : Addr) (o_HOPS : Addr) (o_YEAST : Addr) (h0 : Heap) (n0 : Nat) (Z0 : n0 ≤ h0.size) (S_MALT_EXPERT : Sta Z h0 "com/example/pipstill/pipstill/SixSidedStout$Assistant" "MALT_EXPERT" "Lcom/example/pipstill/pipstill/SixSidedStout$Assistant;" (.ref o_MALT_EXPERT)) (E_o_MALT_EXPERT : Exa Z h0 o_MALT_EXPERT "com/example/pipstill/pipstill/SixSidedStout$Assistant") (S_HOPS_IMPORTER : Sta Z h0 "com/example/pipstill/pipstill/SixSidedStout$Assistant" "HOPS_IMPORTER" "Lcom/example/pipstill/pipstill/SixSidedStout$Assistant;" (.ref o_HOPS_IMPORTER)) (E_o_HOPS_IMPORTER : Exa Z h0 o_HOPS_IMPORTER "com/example/pipstill/pipstill/SixSidedStout$Assistant") (S_SCIENTIST : Sta Z h0 "com/example/pipstill/pipstill/SixSidedStout$Assistant" "SCIENTIST" "Lcom/example/pipstill/pipstill/SixSidedStout$Assistant;" (.ref o_SCIENTIST)) (E_o_SCIENTIST : Exa Z h0 o_SCIENTIST "com/example/pipstill/pipstill/SixSidedStout$Assistant") (S_MASTER_BREWER : Sta Z h0 "com/example/pipstill/pipstill/SixSidedStout$Assistant" "MASTER_BREWER" "Lcom/example/pipstill/pipstill/SixSidedStout$Assistant;" (.ref o_MASTER_BREWER)) (E_o_MASTER_BREWER : Exa Z h0 o_MASTER_BREWER "com/example/pipstill/pipstill/SixSidedStout$Assistant") (S_MALT : Sta Z h0 "com/example/pipstill/pipstill/SixSidedStout$Ware" "MALT" "Lcom/example/pipstill/pipstill/SixSidedStout$Ware;" (.ref o_MALT)) (E_o_MALT : Exa Z h0 o_MALT "com/example/pipstill/pipstill/SixSidedStout$Ware") (S_HOPS : Sta Z h0 "com/example/pipstill/pipstill/SixSidedStout$Ware" "HOPS" "Lcom/example/pipstill/pipstill/SixSidedStout$Ware;" (.ref o_HOPS)) (E_o_HOPS : Exa Z h0 o_HOPS "com/example/pipstill/pipstill/SixSidedStout$Ware") (S_YEAST : Sta Z h0 "com/example/pipstill/pipstill/SixSidedStout$Ware" "YEAST" "Lcom/example/pipstill/pipstill/SixSidedStout$Ware;" (.ref o_YEAST)) (E_o_YEAST : Exa Z h0 o_YEAST "com/example/pipstill/pipstill/SixSidedStout$Ware") (F_ware_o_MALT_EXPERT : Fld Z h0 o_MALT_EXPERT "com/example/pipstill/pipstill/SixSidedStout$Assistant" "ware" "Lcom/example/pipstill/pipstill/SixSidedStout$Ware;" (.ref o_MALT)) (F_ware_o_SCIENTIST : Fld Z h0 o_SCIENTIST "com/example/pipstill/pipstill/SixSidedStout$Assistant" "ware" "Lcom/example/pipstill/pipstill/SixSidedStout$Ware;" (.ref o_YEAST)) (F_ordinal_o_YEAST : Fld Z h0 o_YEAST "java/lang/Enum" "ordinal" "I" (.int (2 : Int32))) (F_ordinal_o_HOPS : Fld Z h0 o_HOPS "java/lang/Enum" "ordinal" "I" (.int (1 : Int32))) (F_ordinal_o_MALT : Fld Z h0 o_MALT "java/lang/Enum" "ordinal" "I" (.int (0 : Int32))) (F_ware_o_HOPS_IMPORTER : Fld Z h0 o_HOPS_IMPORTER "com/example/pipstill/pipstill/SixSidedStout$Assistant" "ware" "Lcom/example/pipstill/pipstill/SixSidedStout$Ware;" (.ref o_HOPS)) (F_ware_o_MASTER_BREWER : Fld Z h0 o_MASTER_BREWER "com/example/pipstill/pipstill/SixSidedStout$Assistant" "ware" "Lcom/example/pipstill/pipstill/SixSidedStout$Ware;" .null) (ne_o_YEAST_o_HOPS : o_YEAST ≠ o_HOPS) (ne_o_YEAST_o_MALT : o_YEAST ≠ o_MALT) (ne_o_HOPS_o_MALT : o_HOPS ≠ o_MALT) :
    MetFree l x (head1 (Jvm.Cond.code x code maxLocals ret :: ws) room_1) (fun a U => a = #[(.int p1), (.int p2)] ∧ Z.Warmed39 U.vm ∧ U.heap = h0) (fun _ _ _ _ _ => True) (fun _ U o U' => ∃ v L, o = .returned v ∧ Q0 Z p1 p2 o_MALT_EXPERT o_HOPS_IMPORTER o_SCIENTIST o_MASTER_BREWER o_MALT o_HOPS o_YEAST h0 n0 v U'.heap L ∧ FrameEnd U o U' L 16 128) := by
  refine MetFree.of_bodySF (plainFor_of_name pn_1) hisR ?_
  intro p e s m args below meth c s₁ Bd hml0 hP hK
  obtain ⟨rfl, hZ, hh⟩ := hP
  have hx := Bd.exec
  have hby := Bd.bytes
  have hml : c.maxLocals = 7 := hml0
  have hown : s.vm.findClass "com/example/pipstill/pipstill/AssistantServesPinLaw" = some m.cls := findClass_of_methodNamed Bd.named
  have hnm := (name_of_methodNamed Bd.named Bd.method).1
  have X0 : Stand p l e room_1 s m #[(.int p1), (.int p2)] below meth c s₁ [] 0 0 := Stand.of_body Bd
  have e0 : s₁.heap = h0 := by rw [← hh, Bd.state]; rfl
  have N0 := Fr.nil n0
  show GoalS p.tables e below s 16 128 (Q0 Z p1 p2 o_MALT_EXPERT o_HOPS_IMPORTER o_SCIENTIST o_MASTER_BREWER o_MALT o_HOPS o_YEAST h0 n0) (s₁.setTop (entryFrame m #[(.int p1), (.int p2)] maxLocals))
  refine GoalS.lift (B := s₁.setTop (mkF m 0 #[.val (.int p1), .val (.int p2), .unset, .unset, .unset, .unset, .unset] [])) (fun t k => castTop (ef_rm0 m p1 p2) k) ?_
  obtain ⟨T1, h1, k1, X1, e1, E1, A1, O1, st1⟩ := newR X0 hx hZ hown (hw _ (List.mem_of_getElem? (i := 0) rfl)) (hw _ (List.mem_of_getElem? (i := 1) rfl)) e0 (g := (mkF m 1 #[.val (.int p1), .val (.int p2), .unset, .unset, .unset, .unset, .unset] [(.int (4 : Int32))])) rfl (hb hby at_1) rfl (by decide) (cap := 4) (by decide) (by decide) (by decide) (by decide)
  obtain ⟨b1, g1⟩ : ∃ z, z = h0.size := ⟨_, rfl⟩
  rw [← g1] at A1 st1
  have g_b1 : n0 ≤ b1 := Nat.le_trans Z0 (Nat.le_of_eq g1.symm)
  have ne_o_MALT_EXPERT_b1 : o_MALT_EXPERT ≠ b1 := Nat.ne_of_lt (Nat.lt_of_lt_of_le E_o_MALT_EXPERT.lt (Nat.le_of_eq g1.symm))
  have ne_o_HOPS_IMPORTER_b1 : o_HOPS_IMPORTER ≠ b1 := Nat.ne_of_lt (Nat.lt_of_lt_of_le E_o_HOPS_IMPORTER.lt (Nat.le_of_eq g1.symm))
  have ne_o_SCIENTIST_b1 : o_SCIENTIST ≠ b1 := Nat.ne_of_lt (Nat.lt_of_lt_of_le E_o_SCIENTIST.lt (Nat.le_of_eq g1.symm))
  have ne_o_MASTER_BREWER_b1 : o_MASTER_BREWER ≠ b1 := Nat.ne_of_lt (Nat.lt_of_lt_of_le E_o_MASTER_BREWER.lt (Nat.le_of_eq g1.symm))
  have ne_o_MALT_b1 : o_MALT ≠ b1 := Nat.ne_of_lt (Nat.lt_of_lt_of_le E_o_MALT.lt (Nat.le_of_eq g1.symm))
  have ne_o_HOPS_b1 : o_HOPS ≠ b1 := Nat.ne_of_lt (Nat.lt_of_lt_of_le E_o_HOPS.lt (Nat.le_of_eq g1.symm))
  have ne_o_YEAST_b1 : o_YEAST ≠ b1 := Nat.ne_of_lt (Nat.lt_of_lt_of_le E_o_YEAST.lt (Nat.le_of_eq g1.symm))
  have z2 : n0 ≤ h1.size := Nat.le_trans Z0 E1.1
  have V1 : AV Z h1 b1 k1 (.object "com/example/pipstill/pipstill/SixSidedStout$Assistant") 4 (fun _ => Value.null) := AV.new A1 (by decide) (by decide) (by decide)
  have f3 : Sta Z h1 "com/example/pipstill/pipstill/SixSidedStout$Assistant" "MALT_EXPERT" "Lcom/example/pipstill/pipstill/SixSidedStout$Assistant;" (.ref o_MALT_EXPERT) := (S_MALT_EXPERT.ext E1)
  obtain ⟨T4, X4, e4, st4⟩ := getS2 X1 hx hZ hown (host := "") (Or.inl (hw _ (List.mem_of_getElem? (i := 2) rfl))) Via.refl e1 f3 (g := (mkF m 6 #[.val (.int p1), .val (.int p2), .unset, .unset, .unset, .unset, .unset] [(.int (0 : Int32)), (.ref b1), (.ref b1)])) rfl (hb hby at_6)
  obtain ⟨cl5, Ar5, kc5, sz5, -, -⟩ := id V1
  have hin5 : ¬ ((0 : Int32) < 0 ∨ cl5.slots.size ≤ ((0 : Int32)).toNatClampNeg) := AV.inb sz5 (show ¬ (0 : Int32) < 0 ∧ ((0 : Int32)).toNatClampNeg < 4 by decide)
  have f6 : Exa Z h1 o_MALT_EXPERT "com/example/pipstill/pipstill/SixSidedStout$Assistant" := (E_o_MALT_EXPERT.ext E1)
  obtain ⟨T5, h5, X5, e5, W5, st5⟩ := stR X4 hx hZ e4 Ar5 (j := (0 : Int32)) hin5 rfl (Sto.ofV Ar5 kc5 O1 (Ins.self f6)) (g := (mkF m 9 #[.val (.int p1), .val (.int p2), .unset, .unset, .unset, .unset, .unset] [(.ref o_MALT_EXPERT), (.int (0 : Int32)), (.ref b1), (.ref b1)])) rfl rfl (hb hby at_9)
  have z7 : n0 ≤ h5.size := Nat.le_trans z2 (Keep.of_wr W5).1
  have V5 : AV Z h5 b1 k1 (.object "com/example/pipstill/pipstill/SixSidedStout$Assistant") 4 (updR (fun _ => Value.null) 0 (.ref o_MALT_EXPERT)) := AV.putR V1 W5 (AV.inx (show ¬ (0 : Int32) < 0 ∧ ((0 : Int32)).toNatClampNeg < 4 by decide))
  have N5 := Fr.snoc X5 N0 g_b1
  have f8 : Sta Z h5 "com/example/pipstill/pipstill/SixSidedStout$Assistant" "HOPS_IMPORTER" "Lcom/example/pipstill/pipstill/SixSidedStout$Assistant;" (.ref o_HOPS_IMPORTER) := ((S_HOPS_IMPORTER.ext E1).wr W5)
  obtain ⟨T9, X9, e9, st9⟩ := getS2 X5 hx hZ hown (host := "") (Or.inl (hw _ (List.mem_of_getElem? (i := 6) rfl))) Via.refl e5 f8 (g := (mkF m 12 #[.val (.int p1), .val (.int p2), .unset, .unset, .unset, .unset, .unset] [(.int (1 : Int32)), (.ref b1), (.ref b1)])) rfl (hb hby at_12)
  obtain ⟨cl10, Ar10, kc10, sz10, -, -⟩ := id V5
  have hin10 : ¬ ((1 : Int32) < 0 ∨ cl10.slots.size ≤ ((1 : Int32)).toNatClampNeg) := AV.inb sz10 (show ¬ (1 : Int32) < 0 ∧ ((1 : Int32)).toNatClampNeg < 4 by decide)
  have f11 : Exa Z h5 o_HOPS_IMPORTER "com/example/pipstill/pipstill/SixSidedStout$Assistant" := ((E_o_HOPS_IMPORTER.ext E1).wr W5)
  obtain ⟨T10, h10, X10, e10, W10, st10⟩ := stR X9 hx hZ e9 Ar10 (j := (1 : Int32)) hin10 rfl (Sto.ofV Ar10 kc10 O1 (Ins.self f11)) (g := (mkF m 15 #[.val (.int p1), .val (.int p2), .unset, .unset, .unset, .unset, .unset] [(.ref o_HOPS_IMPORTER), (.int (1 : Int32)), (.ref b1), (.ref b1)])) rfl rfl (hb hby at_15)
  have z12 : n0 ≤ h10.size := Nat.le_trans z7 (Keep.of_wr W10).1
  have V10 : AV Z h10 b1 k1 (.object "com/example/pipstill/pipstill/SixSidedStout$Assistant") 4 (updR (updR (fun _ => Value.null) 0 (.ref o_MALT_EXPERT)) 1 (.ref o_HOPS_IMPORTER)) := AV.putR V5 W10 (AV.inx (show ¬ (1 : Int32) < 0 ∧ ((1 : Int32)).toNatClampNeg < 4 by decide))
  have N10 := Fr.snoc X10 N5 g_b1
  have f13 : Sta Z h10 "com/example/pipstill/pipstill/SixSidedStout$Assistant" "SCIENTIST" "Lcom/example/pipstill/pipstill/SixSidedStout$Assistant;" (.ref o_SCIENTIST) := (((S_SCIENTIST.ext E1).wr W5).wr W10)
  obtain ⟨T14, X14, e14, st14⟩ := getS2 X10 hx hZ hown (host := "") (Or.inl (hw _ (List.mem_of_getElem? (i := 8) rfl))) Via.refl e10 f13 (g := (mkF m 18 #[.val (.int p1), .val (.int p2), .unset, .unset, .unset, .unset, .unset] [(.int (2 : Int32)), (.ref b1), (.ref b1)])) rfl (hb hby at_18)
  obtain ⟨cl15, Ar15, kc15, sz15, -, -⟩ := id V10
  have hin15 : ¬ ((2 : Int32) < 0 ∨ cl15.slots.size ≤ ((2 : Int32)).toNatClampNeg) := AV.inb sz15 (show ¬ (2 : Int32) < 0 ∧ ((2 : Int32)).toNatClampNeg < 4 by decide)
  have f16 : Exa Z h10 o_SCIENTIST "com/example/pipstill/pipstill/SixSidedStout$Assistant" := (((E_o_SCIENTIST.ext E1).wr W5).wr W10)
  obtain ⟨T15, h15, X15, e15, W15, st15⟩ := stR X14 hx hZ e14 Ar15 (j := (2 : Int32)) hin15 rfl (Sto.ofV Ar15 kc15 O1 (Ins.self f16)) (g := (mkF m 21 #[.val (.int p1), .val (.int p2), .unset, .unset, .unset, .unset, .unset] [(.ref o_SCIENTIST), (.int (2 : Int32)), (.ref b1), (.ref b1)])) rfl rfl (hb hby at_21)
  have z17 : n0 ≤ h15.size := Nat.le_trans z12 (Keep.of_wr W15).1
  have V15 : AV Z h15 b1 k1 (.object "com/example/pipstill/pipstill/SixSidedStout$Assistant") 4 (updR (updR (updR (fun _ => Value.null) 0 (.ref o_MALT_EXPERT)) 1 (.ref o_HOPS_IMPORTER)) 2 (.ref o_SCIENTIST)) := AV.putR V10 W15 (AV.inx (show ¬ (2 : Int32) < 0 ∧ ((2 : Int32)).toNatClampNeg < 4 by decide))
  have N15 := Fr.snoc X15 N10 g_b1
  have f18 : Sta Z h15 "com/example/pipstill/pipstill/SixSidedStout$Assistant" "MASTER_BREWER" "Lcom/example/pipstill/pipstill/SixSidedStout$Assistant;" (.ref o_MASTER_BREWER) := ((((S_MASTER_BREWER.ext E1).wr W5).wr W10).wr W15)
  obtain ⟨T19, X19, e19, st19⟩ := getS2 X15 hx hZ hown (host := "") (Or.inl (hw _ (List.mem_of_getElem? (i := 10) rfl))) Via.refl e15 f18 (g := (mkF m 24 #[.val (.int p1), .val (.int p2), .unset, .unset, .unset, .unset, .unset] [(.int (3 : Int32)), (.ref b1), (.ref b1)])) rfl (hb hby at_24)
  obtain ⟨cl20, Ar20, kc20, sz20, -, -⟩ := id V15
  have hin20 : ¬ ((3 : Int32) < 0 ∨ cl20.slots.size ≤ ((3 : Int32)).toNatClampNeg) := AV.inb sz20 (show ¬ (3 : Int32) < 0 ∧ ((3 : Int32)).toNatClampNeg < 4 by decide)
  have f21 : Exa Z h15 o_MASTER_BREWER "com/example/pipstill/pipstill/SixSidedStout$Assistant" := ((((E_o_MASTER_BREWER.ext E1).wr W5).wr W10).wr W15)
  obtain ⟨T20, h20, X20, e20, W20, st20⟩ := stR X19 hx hZ e19 Ar20 (j := (3 : Int32)) hin20 rfl (Sto.ofV Ar20 kc20 O1 (Ins.self f21)) (g := (mkF m 27 #[.val (.int p1), .val (.int p2), .unset, .unset, .unset, .unset, .unset] [(.ref o_MASTER_BREWER), (.int (3 : Int32)), (.ref b1), (.ref b1)])) rfl rfl (hb hby at_27)
  have z22 : n0 ≤ h20.size := Nat.le_trans z17 (Keep.of_wr W20).1
  have V20 : AV Z h20 b1 k1 (.object "com/example/pipstill/pipstill/SixSidedStout$Assistant") 4 (updR (updR (updR (updR (fun _ => Value.null) 0 (.ref o_MALT_EXPERT)) 1 (.ref o_HOPS_IMPORTER)) 2 (.ref o_SCIENTIST)) 3 (.ref o_MASTER_BREWER)) := AV.putR V15 W20 (AV.inx (show ¬ (3 : Int32) < 0 ∧ ((3 : Int32)).toNatClampNeg < 4 by decide))
  have N20 := Fr.snoc X20 N15 g_b1
  obtain ⟨T23, h23, k23, X23, e23, E23, A23, O23, st23⟩ := newR X20 hx hZ hown (hw _ (List.mem_of_getElem? (i := 12) rfl)) (hw _ (List.mem_of_getElem? (i := 13) rfl)) e20 (g := (mkF m 30 #[.val (.int p1), .val (.int p2), .val (.ref b1), .unset, .unset, .unset, .unset] [(.int (3 : Int32))])) rfl (hb hby at_30) rfl (by decide) (cap := 3) (by decide) (by decide) (by decide) (by decide)
  obtain ⟨b23, g23⟩ : ∃ z, z = h20.size := ⟨_, rfl⟩
  rw [← g23] at A23 st23
  have g_b23 : n0 ≤ b23 := Nat.le_trans z22 (Nat.le_of_eq g23.symm)
  have f24 : Exa Z h20 o_MALT_EXPERT "com/example/pipstill/pipstill/SixSidedStout$Assistant" := ((((f6.wr W5).wr W10).wr W15).wr W20)
  have ne_o_MALT_EXPERT_b23 : o_MALT_EXPERT ≠ b23 := Nat.ne_of_lt (Nat.lt_of_lt_of_le f24.lt (Nat.le_of_eq g23.symm))
  have f25 : Exa Z h20 o_HOPS_IMPORTER "com/example/pipstill/pipstill/SixSidedStout$Assistant" := (((f11.wr W10).wr W15).wr W20)
  have ne_o_HOPS_IMPORTER_b23 : o_HOPS_IMPORTER ≠ b23 := Nat.ne_of_lt (Nat.lt_of_lt_of_le f25.lt (Nat.le_of_eq g23.symm))
  have f26 : Exa Z h20 o_SCIENTIST "com/example/pipstill/pipstill/SixSidedStout$Assistant" := ((f16.wr W15).wr W20)
  have ne_o_SCIENTIST_b23 : o_SCIENTIST ≠ b23 := Nat.ne_of_lt (Nat.lt_of_lt_of_le f26.lt (Nat.le_of_eq g23.symm))
  have f27 : Exa Z h20 o_MASTER_BREWER "com/example/pipstill/pipstill/SixSidedStout$Assistant" := (f21.wr W20)
  have ne_o_MASTER_BREWER_b23 : o_MASTER_BREWER ≠ b23 := Nat.ne_of_lt (Nat.lt_of_lt_of_le f27.lt (Nat.le_of_eq g23.symm))
  have f28 : Exa Z h20 o_MALT "com/example/pipstill/pipstill/SixSidedStout$Ware" := (((((E_o_MALT.ext E1).wr W5).wr W10).wr W15).wr W20)
  have ne_o_MALT_b23 : o_MALT ≠ b23 := Nat.ne_of_lt (Nat.lt_of_lt_of_le f28.lt (Nat.le_of_eq g23.symm))
  have f29 : Exa Z h20 o_HOPS "com/example/pipstill/pipstill/SixSidedStout$Ware" := (((((E_o_HOPS.ext E1).wr W5).wr W10).wr W15).wr W20)
  have ne_o_HOPS_b23 : o_HOPS ≠ b23 := Nat.ne_of_lt (Nat.lt_of_lt_of_le f29.lt (Nat.le_of_eq g23.symm))
  have f30 : Exa Z h20 o_YEAST "com/example/pipstill/pipstill/SixSidedStout$Ware" := (((((E_o_YEAST.ext E1).wr W5).wr W10).wr W15).wr W20)
  have ne_o_YEAST_b23 : o_YEAST ≠ b23 := Nat.ne_of_lt (Nat.lt_of_lt_of_le f30.lt (Nat.le_of_eq g23.symm))
  have ne_b1_b23 : b1 ≠ b23 := Nat.ne_of_lt (Nat.lt_of_lt_of_le V20.lt (Nat.le_of_eq g23.symm))
  have z31 : n0 ≤ h23.size := Nat.le_trans z22 E23.1
  have V23 : AV Z h23 b23 k23 (.object "com/example/pipstill/pipstill/SixSidedStout$Ware") 3 (fun _ => Value.null) := AV.new A23 (by decide) (by decide) (by decide)
  have f32 : Sta Z h23 "com/example/pipstill/pipstill/SixSidedStout$Ware" "MALT" "Lcom/example/pipstill/pipstill/SixSidedStout$Ware;" (.ref o_MALT) := ((((((S_MALT.ext E1).wr W5).wr W10).wr W15).wr W20).ext E23)
  obtain ⟨T33, X33, e33, st33⟩ := getS2 X23 hx hZ hown (host := "") (Or.inl (hw _ (List.mem_of_getElem? (i := 14) rfl))) Via.refl e23 f32 (g := (mkF m 35 #[.val (.int p1), .val (.int p2), .val (.ref b1), .unset, .unset, .unset, .unset] [(.int (0 : Int32)), (.ref b23), (.ref b23)])) rfl (hb hby at_35)
  obtain ⟨cl34, Ar34, kc34, sz34, -, -⟩ := id V23
  have hin34 : ¬ ((0 : Int32) < 0 ∨ cl34.slots.size ≤ ((0 : Int32)).toNatClampNeg) := AV.inb sz34 (show ¬ (0 : Int32) < 0 ∧ ((0 : Int32)).toNatClampNeg < 3 by decide)
  have f35 : Exa Z h23 o_MALT "com/example/pipstill/pipstill/SixSidedStout$Ware" := (f28.ext E23)
  obtain ⟨T34, h34, X34, e34, W34, st34⟩ := stR X33 hx hZ e33 Ar34 (j := (0 : Int32)) hin34 rfl (Sto.ofV Ar34 kc34 O23 (Ins.self f35)) (g := (mkF m 38 #[.val (.int p1), .val (.int p2), .val (.ref b1), .unset, .unset, .unset, .unset] [(.ref o_MALT), (.int (0 : Int32)), (.ref b23), (.ref b23)])) rfl rfl (hb hby at_38)
  have z36 : n0 ≤ h34.size := Nat.le_trans z31 (Keep.of_wr W34).1
  have V34 : AV Z h34 b23 k23 (.object "com/example/pipstill/pipstill/SixSidedStout$Ware") 3 (updR (fun _ => Value.null) 0 (.ref o_MALT)) := AV.putR V23 W34 (AV.inx (show ¬ (0 : Int32) < 0 ∧ ((0 : Int32)).toNatClampNeg < 3 by decide))
  have N34 := Fr.snoc X34 N20 g_b23
  have f37 : Sta Z h34 "com/example/pipstill/pipstill/SixSidedStout$Ware" "HOPS" "Lcom/example/pipstill/pipstill/SixSidedStout$Ware;" (.ref o_HOPS) := (((((((S_HOPS.ext E1).wr W5).wr W10).wr W15).wr W20).ext E23).wr W34)
  obtain ⟨T38, X38, e38, st38⟩ := getS2 X34 hx hZ hown (host := "") (Or.inl (hw _ (List.mem_of_getElem? (i := 18) rfl))) Via.refl e34 f37 (g := (mkF m 41 #[.val (.int p1), .val (.int p2), .val (.ref b1), .unset, .unset, .unset, .unset] [(.int (1 : Int32)), (.ref b23), (.ref b23)])) rfl (hb hby at_41)
  obtain ⟨cl39, Ar39, kc39, sz39, -, -⟩ := id V34
  have hin39 : ¬ ((1 : Int32) < 0 ∨ cl39.slots.size ≤ ((1 : Int32)).toNatClampNeg) := AV.inb sz39 (show ¬ (1 : Int32) < 0 ∧ ((1 : Int32)).toNatClampNeg < 3 by decide)
  have f40 : Exa Z h34 o_HOPS "com/example/pipstill/pipstill/SixSidedStout$Ware" := ((f29.ext E23).wr W34)
  obtain ⟨T39, h39, X39, e39, W39, st39⟩ := stR X38 hx hZ e38 Ar39 (j := (1 : Int32)) hin39 rfl (Sto.ofV Ar39 kc39 O23 (Ins.self f40)) (g := (mkF m 44 #[.val (.int p1), .val (.int p2), .val (.ref b1), .unset, .unset, .unset, .unset] [(.ref o_HOPS), (.int (1 : Int32)), (.ref b23), (.ref b23)])) rfl rfl (hb hby at_44)
  have z41 : n0 ≤ h39.size := Nat.le_trans z36 (Keep.of_wr W39).1
  have V39 : AV Z h39 b23 k23 (.object "com/example/pipstill/pipstill/SixSidedStout$Ware") 3 (updR (updR (fun _ => Value.null) 0 (.ref o_MALT)) 1 (.ref o_HOPS)) := AV.putR V34 W39 (AV.inx (show ¬ (1 : Int32) < 0 ∧ ((1 : Int32)).toNatClampNeg < 3 by decide))
  have N39 := Fr.snoc X39 N34 g_b23
  have f42 : Sta Z h39 "com/example/pipstill/pipstill/SixSidedStout$Ware" "YEAST" "Lcom/example/pipstill/pipstill/SixSidedStout$Ware;" (.ref o_YEAST) := ((((((((S_YEAST.ext E1).wr W5).wr W10).wr W15).wr W20).ext E23).wr W34).wr W39)
  obtain ⟨T43, X43, e43, st43⟩ := getS2 X39 hx hZ hown (host := "") (Or.inl (hw _ (List.mem_of_getElem? (i := 20) rfl))) Via.refl e39 f42 (g := (mkF m 47 #[.val (.int p1), .val (.int p2), .val (.ref b1), .unset, .unset, .unset, .unset] [(.int (2 : Int32)), (.ref b23), (.ref b23)])) rfl (hb hby at_47)
  obtain ⟨cl44, Ar44, kc44, sz44, -, -⟩ := id V39
  have hin44 : ¬ ((2 : Int32) < 0 ∨ cl44.slots.size ≤ ((2 : Int32)).toNatClampNeg) := AV.inb sz44 (show ¬ (2 : Int32) < 0 ∧ ((2 : Int32)).toNatClampNeg < 3 by decide)
  have f45 : Exa Z h39 o_YEAST "com/example/pipstill/pipstill/SixSidedStout$Ware" := (((f30.ext E23).wr W34).wr W39)
  obtain ⟨T44, h44, X44, e44, W44, st44⟩ := stR X43 hx hZ e43 Ar44 (j := (2 : Int32)) hin44 rfl (Sto.ofV Ar44 kc44 O23 (Ins.self f45)) (g := (mkF m 50 #[.val (.int p1), .val (.int p2), .val (.ref b1), .unset, .unset, .unset, .unset] [(.ref o_YEAST), (.int (2 : Int32)), (.ref b23), (.ref b23)])) rfl rfl (hb hby at_50)
  have z46 : n0 ≤ h44.size := Nat.le_trans z41 (Keep.of_wr W44).1
  have V44 : AV Z h44 b23 k23 (.object "com/example/pipstill/pipstill/SixSidedStout$Ware") 3 (updR (updR (updR (fun _ => Value.null) 0 (.ref o_MALT)) 1 (.ref o_HOPS)) 2 (.ref o_YEAST)) := AV.putR V39 W44 (AV.inx (show ¬ (2 : Int32) < 0 ∧ ((2 : Int32)).toNatClampNeg < 3 by decide))
  have N44 := Fr.snoc X44 N39 g_b23
  refine GoalS.lift (B := (T44.setTop (mkF m 55 #[.val (.int p1), .val (.int p2), .val (.ref b1), .val (.ref b23), .unset, .unset, .unset] [(.int (p1 &&& (3 : Int32)))]))) (fun t k => ?_) ?_
  · show Steps p.tables e below (s₁.setTop (mkF m 0 #[.val (.int p1), .val (.int p2), .unset, .unset, .unset, .unset, .unset] [])) _
    refine XS.iconst X0.here hx rfl (hb hby at_0) ?_
    show Steps p.tables e below (s₁.setTop (mkF m 1 #[.val (.int p1), .val (.int p2), .unset, .unset, .unset, .unset, .unset] [(.int (4 : Int32))])) _
    refine st1 _ ?_
    show Steps p.tables e below (T1.setTop (mkF m 4 #[.val (.int p1), .val (.int p2), .unset, .unset, .unset, .unset, .unset] [(.ref b1)])) _
    refine XS.dup X1.here hx rfl (hb hby at_4) rfl rfl ?_
    show Steps p.tables e below (T1.setTop (mkF m 5 #[.val (.int p1), .val (.int p2), .unset, .unset, .unset, .unset, .unset] [(.ref b1), (.ref b1)])) _
    refine XS.iconst X1.here hx rfl (hb hby at_5) ?_
    show Steps p.tables e below (T1.setTop (mkF m 6 #[.val (.int p1), .val (.int p2), .unset, .unset, .unset, .unset, .unset] [(.int (0 : Int32)), (.ref b1), (.ref b1)])) _
    refine st4 _ ?_
    show Steps p.tables e below (T4.setTop (mkF m 9 #[.val (.int p1), .val (.int p2), .unset, .unset, .unset, .unset, .unset] [(.ref o_MALT_EXPERT), (.int (0 : Int32)), (.ref b1), (.ref b1)])) _
    refine st5 _ ?_
    show Steps p.tables e below (T5.setTop (mkF m 10 #[.val (.int p1), .val (.int p2), .unset, .unset, .unset, .unset, .unset] [(.ref b1)])) _
    refine XS.dup X5.here hx rfl (hb hby at_10) rfl rfl ?_
    show Steps p.tables e below (T5.setTop (mkF m 11 #[.val (.int p1), .val (.int p2), .unset, .unset, .unset, .unset, .unset] [(.ref b1), (.ref b1)])) _
    refine XS.iconst X5.here hx rfl (hb hby at_11) ?_
    show Steps p.tables e below (T5.setTop (mkF m 12 #[.val (.int p1), .val (.int p2), .unset, .unset, .unset, .unset, .unset] [(.int (1 : Int32)), (.ref b1), (.ref b1)])) _
    refine st9 _ ?_
    show Steps p.tables e below (T9.setTop (mkF m 15 #[.val (.int p1), .val (.int p2), .unset, .unset, .unset, .unset, .unset] [(.ref o_HOPS_IMPORTER), (.int (1 : Int32)), (.ref b1), (.ref b1)])) _
    refine st10 _ ?_
    show Steps p.tables e below (T10.setTop (mkF m 16 #[.val (.int p1), .val (.int p2), .unset, .unset, .unset, .unset, .unset] [(.ref b1)])) _
    refine XS.dup X10.here hx rfl (hb hby at_16) rfl rfl ?_
    show Steps p.tables e below (T10.setTop (mkF m 17 #[.val (.int p1), .val (.int p2), .unset, .unset, .unset, .unset, .unset] [(.ref b1), (.ref b1)])) _
    refine XS.iconst X10.here hx rfl (hb hby at_17) ?_
    show Steps p.tables e below (T10.setTop (mkF m 18 #[.val (.int p1), .val (.int p2), .unset, .unset, .unset, .unset, .unset] [(.int (2 : Int32)), (.ref b1), (.ref b1)])) _
    refine st14 _ ?_
    show Steps p.tables e below (T14.setTop (mkF m 21 #[.val (.int p1), .val (.int p2), .unset, .unset, .unset, .unset, .unset] [(.ref o_SCIENTIST), (.int (2 : Int32)), (.ref b1), (.ref b1)])) _
    refine st15 _ ?_
    show Steps p.tables e below (T15.setTop (mkF m 22 #[.val (.int p1), .val (.int p2), .unset, .unset, .unset, .unset, .unset] [(.ref b1)])) _
    refine XS.dup X15.here hx rfl (hb hby at_22) rfl rfl ?_
    show Steps p.tables e below (T15.setTop (mkF m 23 #[.val (.int p1), .val (.int p2), .unset, .unset, .unset, .unset, .unset] [(.ref b1), (.ref b1)])) _
    refine XS.iconst X15.here hx rfl (hb hby at_23) ?_
    show Steps p.tables e below (T15.setTop (mkF m 24 #[.val (.int p1), .val (.int p2), .unset, .unset, .unset, .unset, .unset] [(.int (3 : Int32)), (.ref b1), (.ref b1)])) _
    refine st19 _ ?_
    show Steps p.tables e below (T19.setTop (mkF m 27 #[.val (.int p1), .val (.int p2), .unset, .unset, .unset, .unset, .unset] [(.ref o_MASTER_BREWER), (.int (3 : Int32)), (.ref b1), (.ref b1)])) _
    refine st20 _ ?_
    show Steps p.tables e below (T20.setTop (mkF m 28 #[.val (.int p1), .val (.int p2), .unset, .unset, .unset, .unset, .unset] [(.ref b1)])) _
    refine XS.astoreN X20.here hx rfl (hb hby at_28) rfl rfl (l' := #[.val (.int p1), .val (.int p2), .val (.ref b1), .unset, .unset, .unset, .unset]) rfl ?_
    show Steps p.tables e below (T20.setTop (mkF m 29 #[.val (.int p1), .val (.int p2), .val (.ref b1), .unset, .unset, .unset, .unset] [])) _
    refine XS.iconst X20.here hx rfl (hb hby at_29) ?_
    show Steps p.tables e below (T20.setTop (mkF m 30 #[.val (.int p1), .val (.int p2), .val (.ref b1), .unset, .unset, .unset, .unset] [(.int (3 : Int32))])) _
    refine st23 _ ?_
    show Steps p.tables e below (T23.setTop (mkF m 33 #[.val (.int p1), .val (.int p2), .val (.ref b1), .unset, .unset, .unset, .unset] [(.ref b23)])) _
    refine XS.dup X23.here hx rfl (hb hby at_33) rfl rfl ?_
    show Steps p.tables e below (T23.setTop (mkF m 34 #[.val (.int p1), .val (.int p2), .val (.ref b1), .unset, .unset, .unset, .unset] [(.ref b23), (.ref b23)])) _
    refine XS.iconst X23.here hx rfl (hb hby at_34) ?_
    show Steps p.tables e below (T23.setTop (mkF m 35 #[.val (.int p1), .val (.int p2), .val (.ref b1), .unset, .unset, .unset, .unset] [(.int (0 : Int32)), (.ref b23), (.ref b23)])) _
    refine st33 _ ?_
    show Steps p.tables e below (T33.setTop (mkF m 38 #[.val (.int p1), .val (.int p2), .val (.ref b1), .unset, .unset, .unset, .unset] [(.ref o_MALT), (.int (0 : Int32)), (.ref b23), (.ref b23)])) _
    refine st34 _ ?_
    show Steps p.tables e below (T34.setTop (mkF m 39 #[.val (.int p1), .val (.int p2), .val (.ref b1), .unset, .unset, .unset, .unset] [(.ref b23)])) _
    refine XS.dup X34.here hx rfl (hb hby at_39) rfl rfl ?_
    show Steps p.tables e below (T34.setTop (mkF m 40 #[.val (.int p1), .val (.int p2), .val (.ref b1), .unset, .unset, .unset, .unset] [(.ref b23), (.ref b23)])) _
    refine XS.iconst X34.here hx rfl (hb hby at_40) ?_
    show Steps p.tables e below (T34.setTop (mkF m 41 #[.val (.int p1), .val (.int p2), .val (.ref b1), .unset, .unset, .unset, .unset] [(.int (1 : Int32)), (.ref b23), (.ref b23)])) _
    refine st38 _ ?_
    show Steps p.tables e below (T38.setTop (mkF m 44 #[.val (.int p1), .val (.int p2), .val (.ref b1), .unset, .unset, .unset, .unset] [(.ref o_HOPS), (.int (1 : Int32)), (.ref b23), (.ref b23)])) _
    refine st39 _ ?_
    show Steps p.tables e below (T39.setTop (mkF m 45 #[.val (.int p1), .val (.int p2), .val (.ref b1), .unset, .unset, .unset, .unset] [(.ref b23)])) _
    refine XS.dup X39.here hx rfl (hb hby at_45) rfl rfl ?_
    show Steps p.tables e below (T39.setTop (mkF m 46 #[.val (.int p1), .val (.int p2), .val (.ref b1), .unset, .unset, .unset, .unset] [(.ref b23), (.ref b23)])) _
    refine XS.iconst X39.here hx rfl (hb hby at_46) ?_
    show Steps p.tables e below (T39.setTop (mkF m 47 #[.val (.int p1), .val (.int p2), .val (.ref b1), .unset, .unset, .unset, .unset] [(.int (2 : Int32)), (.ref b23), (.ref b23)])) _
    refine st43 _ ?_
    show Steps p.tables e below (T43.setTop (mkF m 50 #[.val (.int p1), .val (.int p2), .val (.ref b1), .unset, .unset, .unset, .unset] [(.ref o_YEAST), (.int (2 : Int32)), (.ref b23), (.ref b23)])) _
    refine st44 _ ?_
    show Steps p.tables e below (T44.setTop (mkF m 51 #[.val (.int p1), .val (.int p2), .val (.ref b1), .unset, .unset, .unset, .unset] [(.ref b23)])) _
    refine XS.astoreN X44.here hx rfl (hb hby at_51) rfl rfl (l' := #[.val (.int p1), .val (.int p2), .val (.ref b1), .val (.ref b23), .unset, .unset, .unset]) rfl ?_
    show Steps p.tables e below (T44.setTop (mkF m 52 #[.val (.int p1), .val (.int p2), .val (.ref b1), .val (.ref b23), .unset, .unset, .unset] [])) _
    refine XS.iloadN X44.here hx rfl (hb hby at_52) rfl ?_
    show Steps p.tables e below (T44.setTop (mkF m 53 #[.val (.int p1), .val (.int p2), .val (.ref b1), .val (.ref b23), .unset, .unset, .unset] [(.int p1)])) _
    refine XS.iconst X44.here hx rfl (hb hby at_53) ?_
    show Steps p.tables e below (T44.setTop (mkF m 54 #[.val (.int p1), .val (.int p2), .val (.ref b1), .val (.ref b23), .unset, .unset, .unset] [(.int (3 : Int32)), (.int p1)])) _
    refine XS.iand X44.here hx rfl (hb hby at_54) rfl ?_
    exact k
  rcases own_four p1 with hk54 | hk54 | hk54 | hk54
  · rw [hk54]
    refine GoalS.lift (B := (T44.setTop (mkF m 63 #[.val (.int p1), .val (.int p2), .val (.ref b1), .val (.ref b23), .val (.int (0 : Int32)), .unset, .unset] [(.int ((p2 &&& (2147483647 : Int32)) % (3 : Int32)))]))) (fun t k => ?_) ?_
    · show Steps p.tables e below (T44.setTop (mkF m 55 #[.val (.int p1), .val (.int p2), .val (.ref b1), .val (.ref b23), .unset, .unset, .unset] [(.int (0 : Int32))])) _
      refine XS.istore X44.here hx rfl (hb hby at_55) rfl (l' := #[.val (.int p1), .val (.int p2), .val (.ref b1), .val (.ref b23), .val (.int (0 : Int32)), .unset, .unset]) rfl ?_
      show Steps p.tables e below (T44.setTop (mkF m 57 #[.val (.int p1), .val (.int p2), .val (.ref b1), .val (.ref b23), .val (.int (0 : Int32)), .unset, .unset] [])) _
      refine XS.iloadN X44.here hx rfl (hb hby at_57) rfl ?_
      show Steps p.tables e below (T44.setTop (mkF m 58 #[.val (.int p1), .val (.int p2), .val (.ref b1), .val (.ref b23), .val (.int (0 : Int32)), .unset, .unset] [(.int p2)])) _
      refine X44.ldcInt hx hown (mvT hZ (hw _ (List.mem_of_getElem? (i := 22) rfl))) (g := (mkF m 58 #[.val (.int p1), .val (.int p2), .val (.ref b1), .val (.ref b23), .val (.int (0 : Int32)), .unset, .unset] [(.int p2)])) rfl (hb hby at_58) _ ?_
      show Steps p.tables e below (T44.setTop (mkF m 60 #[.val (.int p1), .val (.int p2), .val (.ref b1), .val (.ref b23), .val (.int (0 : Int32)), .unset, .unset] [(.int (2147483647 : Int32)), (.int p2)])) _
      refine XS.iand X44.here hx rfl (hb hby at_60) rfl ?_
      show Steps p.tables e below (T44.setTop (mkF m 61 #[.val (.int p1), .val (.int p2), .val (.ref b1), .val (.ref b23), .val (.int (0 : Int32)), .unset, .unset] [(.int (p2 &&& (2147483647 : Int32)))])) _
      refine XS.iconst X44.here hx rfl (hb hby at_61) ?_
      show Steps p.tables e below (T44.setTop (mkF m 62 #[.val (.int p1), .val (.int p2), .val (.ref b1), .val (.ref b23), .val (.int (0 : Int32)), .unset, .unset] [(.int (3 : Int32)), (.int (p2 &&& (2147483647 : Int32)))])) _
      refine iremM X44 hx rfl (hb hby at_62) rfl (by decide) ?_
      exact k
    rcases own_three p2 with hk62 | hk62 | hk62
    · rw [hk62]
      have f48 : AV Z h44 b1 k1 (.object "com/example/pipstill/pipstill/SixSidedStout$Assistant") 4 (updR (updR (updR (updR (fun _ => Value.null) 0 (.ref o_MALT_EXPERT)) 1 (.ref o_HOPS_IMPORTER)) 2 (.ref o_SCIENTIST)) 3 (.ref o_MASTER_BREWER)) := ((((V20.ext E23).other W34 ne_b1_b23).other W39 ne_b1_b23).other W44 ne_b1_b23)
      obtain ⟨cl47, Ar47, kc47, sz47, -, hv47⟩ := id f48
      have hin47 : ¬ ((0 : Int32) < 0 ∨ cl47.slots.size ≤ ((0 : Int32)).toNatClampNeg) := AV.inb sz47 (show ¬ (0 : Int32) < 0 ∧ ((0 : Int32)).toNatClampNeg < 4 by decide)
      have hat47 : cl47.slots[((0 : Int32)).toNatClampNeg]? = some (.ref o_MALT_EXPERT) := (hv47 _ (AV.inx (show ¬ (0 : Int32) < 0 ∧ ((0 : Int32)).toNatClampNeg < 4 by decide))).trans (congrArg some rfl)
      obtain ⟨cl49, Ar49, kc49, sz49, -, hv49⟩ := id V44
      have hin49 : ¬ ((0 : Int32) < 0 ∨ cl49.slots.size ≤ ((0 : Int32)).toNatClampNeg) := AV.inb sz49 (show ¬ (0 : Int32) < 0 ∧ ((0 : Int32)).toNatClampNeg < 3 by decide)
      have hat49 : cl49.slots[((0 : Int32)).toNatClampNeg]? = some (.ref o_MALT) := (hv49 _ (AV.inx (show ¬ (0 : Int32) < 0 ∧ ((0 : Int32)).toNatClampNeg < 3 by decide))).trans (congrArg some rfl)
      have f51 : Fld Z h44 o_MALT_EXPERT "com/example/pipstill/pipstill/SixSidedStout$Assistant" "ware" "Lcom/example/pipstill/pipstill/SixSidedStout$Ware;" (.ref o_MALT) := (((((((((F_ware_o_MALT_EXPERT.ext E1).other W5 (Or.inl ne_o_MALT_EXPERT_b1)).other W10 (Or.inl ne_o_MALT_EXPERT_b1)).other W15 (Or.inl ne_o_MALT_EXPERT_b1)).other W20 (Or.inl ne_o_MALT_EXPERT_b1)).ext E23).other W34 (Or.inl ne_o_MALT_EXPERT_b23)).other W39 (Or.inl ne_o_MALT_EXPERT_b23)).other W44 (Or.inl ne_o_MALT_EXPERT_b23))
      have f52 : Exa Z h44 o_MALT_EXPERT "com/example/pipstill/pipstill/SixSidedStout$Assistant" := ((((f24.ext E23).wr W34).wr W39).wr W44)
      obtain ⟨cq50, kq50, q50a, q50b, q50c⟩ := isOf hZ e44 f52
      obtain ⟨_, _, ⟨T50, L50, k50, n50⟩, -, X50, ⟨Lc50, hQ50, l50, y50, z50⟩, st50⟩ := X44.virtualBack hx (y := (⟨"com/example/pipstill/pipstill/SixSidedStout$Assistant", "serves", "(Lcom/example/pipstill/pipstill/SixSidedStout$Ware;)Z"⟩ : MethodName)) (z := (⟨"com/example/pipstill/pipstill/SixSidedStout$Assistant", "serves", "(Lcom/example/pipstill/pipstill/SixSidedStout$Ware;)Z"⟩ : MethodName)) hown (mvT hZ (hw _ (List.mem_of_getElem? (i := 23) rfl))) (mvT hZ (hw _ (List.mem_of_getElem? (i := 24) rfl))) (notFace_of_selects (args := #[]) (mvT hZ (hw _ (List.mem_of_getElem? (i := 26) rfl)))) (mvT hZ (hw _ (List.mem_of_getElem? (i := 26) rfl))) (mvT hZ (hw _ (List.mem_of_getElem? (i := 25) rfl))) (by decide) (backOf (W := 0) (rm1r l Z a0 hw [] o_MALT_EXPERT o_MALT o_MALT h44 n0 z46 f51) hZ (hw _ (List.mem_of_getElem? (i := 27) rfl)) (hw _ (List.mem_of_getElem? (i := 3) rfl)) (by decide) (by decide)) q50a q50c (g := (mkF m 140 #[.val (.int p1), .val (.int p2), .val (.ref b1), .val (.ref b23), .val (.int (0 : Int32)), .val (.int (0 : Int32)), .val (.int (1 : Int32))] [(.ref o_MALT), (.ref o_MALT_EXPERT)])) rfl (by rw [hml]; rfl) (Steps.refl _) (argsL := [(.ref o_MALT)]) (rest := []) (lenOf pd_0 rfl) rfl (by show 2 * 0 + _ ≤ _; exact Nat.le_of_eq rfl) (hb hby at_140) (fun _ _ => ⟨rfl, e44, (by decide : 2 + 0 ≤ _), (by decide : 7 + 0 ≤ _)⟩)
      dsimp only [Pt.U, Pt.locs, Pt.cells, Pt.slots] at X50 l50 y50 z50 st50 hQ50
      subst l50 y50 z50
      obtain ⟨r50, rfl, hr50, N50q, eq50⟩ := hQ50
      have N50 := Fr.app N44 N50q
      obtain ⟨fs, hr, hrun, hended, hW, hsame⟩ := X50.leave (v := some (.int (1 : Int32))) (fun h => by rw [Bd.returns] at h; cases h)
      refine ⟨_, _, ?_, hrun, hended, _, _, rfl, ?_, ⟨_, rfl⟩, hW, hsame.mono (by decide) (by decide)⟩
      · show Steps p.tables e below (T44.setTop (mkF m 63 #[.val (.int p1), .val (.int p2), .val (.ref b1), .val (.ref b23), .val (.int (0 : Int32)), .unset, .unset] [(.int (0 : Int32))])) _
        refine XS.istore X44.here hx rfl (hb hby at_63) rfl (l' := #[.val (.int p1), .val (.int p2), .val (.ref b1), .val (.ref b23), .val (.int (0 : Int32)), .val (.int (0 : Int32)), .unset]) rfl ?_
        show Steps p.tables e below (T44.setTop (mkF m 65 #[.val (.int p1), .val (.int p2), .val (.ref b1), .val (.ref b23), .val (.int (0 : Int32)), .val (.int (0 : Int32)), .unset] [])) _
        refine XS.iload X44.here hx rfl (hb hby at_65) rfl ?_
        show Steps p.tables e below (T44.setTop (mkF m 67 #[.val (.int p1), .val (.int p2), .val (.ref b1), .val (.ref b23), .val (.int (0 : Int32)), .val (.int (0 : Int32)), .unset] [(.int (0 : Int32))])) _
        refine XS.iconst X44.here hx rfl (hb hby at_67) ?_
        show Steps p.tables e below (T44.setTop (mkF m 68 #[.val (.int p1), .val (.int p2), .val (.ref b1), .val (.ref b23), .val (.int (0 : Int32)), .val (.int (0 : Int32)), .unset] [(.int (3 : Int32)), (.int (0 : Int32))])) _
        refine XS.icmpYes X44.here hx rfl (pc0 := 68) (pc' := 77) rfl (hb hby at_68) rfl ((feq (by decide : ¬ ((0 : Int32) = (3 : Int32)))).2) (by decide) (by decide) ?_
        show Steps p.tables e below (T44.setTop (mkF m 77 #[.val (.int p1), .val (.int p2), .val (.ref b1), .val (.ref b23), .val (.int (0 : Int32)), .val (.int (0 : Int32)), .unset] [])) _
        refine XS.iload X44.here hx rfl (hb hby at_77) rfl ?_
        show Steps p.tables e below (T44.setTop (mkF m 79 #[.val (.int p1), .val (.int p2), .val (.ref b1), .val (.ref b23), .val (.int (0 : Int32)), .val (.int (0 : Int32)), .unset] [(.int (0 : Int32))])) _
        refine XS.ifNo X44.here hx rfl (hb hby at_79) rfl ((if0 _ _).trans (teq (by decide : (0 : Int32) = (0 : Int32))).2) ?_
        show Steps p.tables e below (T44.setTop (mkF m 82 #[.val (.int p1), .val (.int p2), .val (.ref b1), .val (.ref b23), .val (.int (0 : Int32)), .val (.int (0 : Int32)), .unset] [])) _
        refine XS.iload X44.here hx rfl (hb hby at_82) rfl ?_
        show Steps p.tables e below (T44.setTop (mkF m 84 #[.val (.int p1), .val (.int p2), .val (.ref b1), .val (.ref b23), .val (.int (0 : Int32)), .val (.int (0 : Int32)), .unset] [(.int (0 : Int32))])) _
        refine XS.ifNo X44.here hx rfl (hb hby at_84) rfl ((if0 _ _).trans (teq (by decide : (0 : Int32) = (0 : Int32))).2) ?_
        show Steps p.tables e below (T44.setTop (mkF m 87 #[.val (.int p1), .val (.int p2), .val (.ref b1), .val (.ref b23), .val (.int (0 : Int32)), .val (.int (0 : Int32)), .unset] [])) _
        refine XS.iconst X44.here hx rfl (hb hby at_87) ?_
        show Steps p.tables e below (T44.setTop (mkF m 88 #[.val (.int p1), .val (.int p2), .val (.ref b1), .val (.ref b23), .val (.int (0 : Int32)), .val (.int (0 : Int32)), .unset] [(.int (1 : Int32))])) _
        refine XS.goto X44.here hx rfl (pc0 := 88) (pc' := 92) rfl (hb hby at_88) (by decide) (by decide) ?_
        show Steps p.tables e below (T44.setTop (mkF m 92 #[.val (.int p1), .val (.int p2), .val (.ref b1), .val (.ref b23), .val (.int (0 : Int32)), .val (.int (0 : Int32)), .unset] [(.int (1 : Int32))])) _
        refine XS.istore X44.here hx rfl (hb hby at_92) rfl (l' := #[.val (.int p1), .val (.int p2), .val (.ref b1), .val (.ref b23), .val (.int (0 : Int32)), .val (.int (0 : Int32)), .val (.int (1 : Int32))]) rfl ?_
        show Steps p.tables e below (T44.setTop (mkF m 94 #[.val (.int p1), .val (.int p2), .val (.ref b1), .val (.ref b23), .val (.int (0 : Int32)), .val (.int (0 : Int32)), .val (.int (1 : Int32))] [])) _
        refine XS.goto X44.here hx rfl (pc0 := 94) (pc' := 132) rfl (hb hby at_94) (by decide) (by decide) ?_
        show Steps p.tables e below (T44.setTop (mkF m 132 #[.val (.int p1), .val (.int p2), .val (.ref b1), .val (.ref b23), .val (.int (0 : Int32)), .val (.int (0 : Int32)), .val (.int (1 : Int32))] [])) _
        refine XS.aloadN X44.here hx rfl (hb hby at_132) rfl rfl ?_
        show Steps p.tables e below (T44.setTop (mkF m 133 #[.val (.int p1), .val (.int p2), .val (.ref b1), .val (.ref b23), .val (.int (0 : Int32)), .val (.int (0 : Int32)), .val (.int (1 : Int32))] [(.ref b1)])) _
        refine XS.iload X44.here hx rfl (hb hby at_133) rfl ?_
        show Steps p.tables e below (T44.setTop (mkF m 135 #[.val (.int p1), .val (.int p2), .val (.ref b1), .val (.ref b23), .val (.int (0 : Int32)), .val (.int (0 : Int32)), .val (.int (1 : Int32))] [(.int (0 : Int32)), (.ref b1)])) _
        refine X44.aaload hx (j := (0 : Int32)) (v := (.ref o_MALT_EXPERT)) (by rw [e44]; exact Ar47.1) (State.isArrayOf_alike hZ.alike Ar47.2.1) rfl Ar47.2.2 hin47 hat47 (g := (mkF m 135 #[.val (.int p1), .val (.int p2), .val (.ref b1), .val (.ref b23), .val (.int (0 : Int32)), .val (.int (0 : Int32)), .val (.int (1 : Int32))] [(.int (0 : Int32)), (.ref b1)])) rfl rfl (hb hby at_135) _ ?_
        show Steps p.tables e below (T44.setTop (mkF m 136 #[.val (.int p1), .val (.int p2), .val (.ref b1), .val (.ref b23), .val (.int (0 : Int32)), .val (.int (0 : Int32)), .val (.int (1 : Int32))] [(.ref o_MALT_EXPERT)])) _
        refine XS.aloadN X44.here hx rfl (hb hby at_136) rfl rfl ?_
        show Steps p.tables e below (T44.setTop (mkF m 137 #[.val (.int p1), .val (.int p2), .val (.ref b1), .val (.ref b23), .val (.int (0 : Int32)), .val (.int (0 : Int32)), .val (.int (1 : Int32))] [(.ref b23), (.ref o_MALT_EXPERT)])) _
        refine XS.iload X44.here hx rfl (hb hby at_137) rfl ?_
        show Steps p.tables e below (T44.setTop (mkF m 139 #[.val (.int p1), .val (.int p2), .val (.ref b1), .val (.ref b23), .val (.int (0 : Int32)), .val (.int (0 : Int32)), .val (.int (1 : Int32))] [(.int (0 : Int32)), (.ref b23), (.ref o_MALT_EXPERT)])) _
        refine X44.aaload hx (j := (0 : Int32)) (v := (.ref o_MALT)) (by rw [e44]; exact Ar49.1) (State.isArrayOf_alike hZ.alike Ar49.2.1) rfl Ar49.2.2 hin49 hat49 (g := (mkF m 139 #[.val (.int p1), .val (.int p2), .val (.ref b1), .val (.ref b23), .val (.int (0 : Int32)), .val (.int (0 : Int32)), .val (.int (1 : Int32))] [(.int (0 : Int32)), (.ref b23), (.ref o_MALT_EXPERT)])) rfl rfl (hb hby at_139) _ ?_
        show Steps p.tables e below (T44.setTop (mkF m 140 #[.val (.int p1), .val (.int p2), .val (.ref b1), .val (.ref b23), .val (.int (0 : Int32)), .val (.int (0 : Int32)), .val (.int (1 : Int32))] [(.ref o_MALT), (.ref o_MALT_EXPERT)])) _
        refine st50.trans ?_
        show Steps p.tables e below (T50.setTop (mkF m 143 #[.val (.int p1), .val (.int p2), .val (.ref b1), .val (.ref b23), .val (.int (0 : Int32)), .val (.int (0 : Int32)), .val (.int (1 : Int32))] [(.int r50)])) _
        refine XS.iload X50.here hx rfl (hb hby at_143) rfl ?_
        show Steps p.tables e below (T50.setTop (mkF m 145 #[.val (.int p1), .val (.int p2), .val (.ref b1), .val (.ref b23), .val (.int (0 : Int32)), .val (.int (0 : Int32)), .val (.int (1 : Int32))] [(.int (1 : Int32)), (.int r50)])) _
        refine XS.icmpNo X50.here hx rfl (hb hby at_145) rfl ((teq (by rw [hr50, if_pos rfl] : r50 = (1 : Int32))).2) ?_
        show Steps p.tables e below (T50.setTop (mkF m 148 #[.val (.int p1), .val (.int p2), .val (.ref b1), .val (.ref b23), .val (.int (0 : Int32)), .val (.int (0 : Int32)), .val (.int (1 : Int32))] [])) _
        refine XS.iconst X50.here hx rfl (hb hby at_148) ?_
        show Steps p.tables e below (T50.setTop (mkF m 149 #[.val (.int p1), .val (.int p2), .val (.ref b1), .val (.ref b23), .val (.int (0 : Int32)), .val (.int (0 : Int32)), .val (.int (1 : Int32))] [(.int (1 : Int32))])) _
        refine XS.goto X50.here hx rfl (pc0 := 149) (pc' := 153) rfl (hb hby at_149) (by decide) (by decide) ?_
        show Steps p.tables e below (T50.setTop (mkF m 153 #[.val (.int p1), .val (.int p2), .val (.ref b1), .val (.ref b23), .val (.int (0 : Int32)), .val (.int (0 : Int32)), .val (.int (1 : Int32))] [(.int (1 : Int32))])) _
        exact retN X50 hx (t := .boolean) Bd.returns (by simp) (hb hby at_153) hr
      · exact ⟨rfl, N50⟩
    · rw [hk62]
      have f54 : AV Z h44 b1 k1 (.object "com/example/pipstill/pipstill/SixSidedStout$Assistant") 4 (updR (updR (updR (updR (fun _ => Value.null) 0 (.ref o_MALT_EXPERT)) 1 (.ref o_HOPS_IMPORTER)) 2 (.ref o_SCIENTIST)) 3 (.ref o_MASTER_BREWER)) := ((((V20.ext E23).other W34 ne_b1_b23).other W39 ne_b1_b23).other W44 ne_b1_b23)
      obtain ⟨cl53, Ar53, kc53, sz53, -, hv53⟩ := id f54
      have hin53 : ¬ ((0 : Int32) < 0 ∨ cl53.slots.size ≤ ((0 : Int32)).toNatClampNeg) := AV.inb sz53 (show ¬ (0 : Int32) < 0 ∧ ((0 : Int32)).toNatClampNeg < 4 by decide)
      have hat53 : cl53.slots[((0 : Int32)).toNatClampNeg]? = some (.ref o_MALT_EXPERT) := (hv53 _ (AV.inx (show ¬ (0 : Int32) < 0 ∧ ((0 : Int32)).toNatClampNeg < 4 by decide))).trans (congrArg some rfl)
      obtain ⟨cl55, Ar55, kc55, sz55, -, hv55⟩ := id V44
      have hin55 : ¬ ((1 : Int32) < 0 ∨ cl55.slots.size ≤ ((1 : Int32)).toNatClampNeg) := AV.inb sz55 (show ¬ (1 : Int32) < 0 ∧ ((1 : Int32)).toNatClampNeg < 3 by decide)
      have hat55 : cl55.slots[((1 : Int32)).toNatClampNeg]? = some (.ref o_HOPS) := (hv55 _ (AV.inx (show ¬ (1 : Int32) < 0 ∧ ((1 : Int32)).toNatClampNeg < 3 by decide))).trans (congrArg some rfl)
      have f57 : Fld Z h44 o_MALT_EXPERT "com/example/pipstill/pipstill/SixSidedStout$Assistant" "ware" "Lcom/example/pipstill/pipstill/SixSidedStout$Ware;" (.ref o_MALT) := (((((((((F_ware_o_MALT_EXPERT.ext E1).other W5 (Or.inl ne_o_MALT_EXPERT_b1)).other W10 (Or.inl ne_o_MALT_EXPERT_b1)).other W15 (Or.inl ne_o_MALT_EXPERT_b1)).other W20 (Or.inl ne_o_MALT_EXPERT_b1)).ext E23).other W34 (Or.inl ne_o_MALT_EXPERT_b23)).other W39 (Or.inl ne_o_MALT_EXPERT_b23)).other W44 (Or.inl ne_o_MALT_EXPERT_b23))
      have f58 : Exa Z h44 o_MALT_EXPERT "com/example/pipstill/pipstill/SixSidedStout$Assistant" := ((((f24.ext E23).wr W34).wr W39).wr W44)
      obtain ⟨cq56, kq56, q56a, q56b, q56c⟩ := isOf hZ e44 f58
      obtain ⟨_, _, ⟨T56, L56, k56, n56⟩, -, X56, ⟨Lc56, hQ56, l56, y56, z56⟩, st56⟩ := X44.virtualBack hx (y := (⟨"com/example/pipstill/pipstill/SixSidedStout$Assistant", "serves", "(Lcom/example/pipstill/pipstill/SixSidedStout$Ware;)Z"⟩ : MethodName)) (z := (⟨"com/example/pipstill/pipstill/SixSidedStout$Assistant", "serves", "(Lcom/example/pipstill/pipstill/SixSidedStout$Ware;)Z"⟩ : MethodName)) hown (mvT hZ (hw _ (List.mem_of_getElem? (i := 23) rfl))) (mvT hZ (hw _ (List.mem_of_getElem? (i := 24) rfl))) (notFace_of_selects (args := #[]) (mvT hZ (hw _ (List.mem_of_getElem? (i := 26) rfl)))) (mvT hZ (hw _ (List.mem_of_getElem? (i := 26) rfl))) (mvT hZ (hw _ (List.mem_of_getElem? (i := 25) rfl))) (by decide) (backOf (W := 0) (rm1r l Z a0 hw [] o_MALT_EXPERT o_HOPS o_MALT h44 n0 z46 f57) hZ (hw _ (List.mem_of_getElem? (i := 27) rfl)) (hw _ (List.mem_of_getElem? (i := 3) rfl)) (by decide) (by decide)) q56a q56c (g := (mkF m 140 #[.val (.int p1), .val (.int p2), .val (.ref b1), .val (.ref b23), .val (.int (0 : Int32)), .val (.int (1 : Int32)), .val (.int (0 : Int32))] [(.ref o_HOPS), (.ref o_MALT_EXPERT)])) rfl (by rw [hml]; rfl) (Steps.refl _) (argsL := [(.ref o_HOPS)]) (rest := []) (lenOf pd_0 rfl) rfl (by show 2 * 0 + _ ≤ _; exact Nat.le_of_eq rfl) (hb hby at_140) (fun _ _ => ⟨rfl, e44, (by decide : 2 + 0 ≤ _), (by decide : 7 + 0 ≤ _)⟩)
      dsimp only [Pt.U, Pt.locs, Pt.cells, Pt.slots] at X56 l56 y56 z56 st56 hQ56
      subst l56 y56 z56
      obtain ⟨r56, rfl, hr56, N56q, eq56⟩ := hQ56
      have N56 := Fr.app N44 N56q
      obtain ⟨fs, hr, hrun, hended, hW, hsame⟩ := X56.leave (v := some (.int (1 : Int32))) (fun h => by rw [Bd.returns] at h; cases h)
      refine ⟨_, _, ?_, hrun, hended, _, _, rfl, ?_, ⟨_, rfl⟩, hW, hsame.mono (by decide) (by decide)⟩
      · show Steps p.tables e below (T44.setTop (mkF m 63 #[.val (.int p1), .val (.int p2), .val (.ref b1), .val (.ref b23), .val (.int (0 : Int32)), .unset, .unset] [(.int (1 : Int32))])) _
        refine XS.istore X44.here hx rfl (hb hby at_63) rfl (l' := #[.val (.int p1), .val (.int p2), .val (.ref b1), .val (.ref b23), .val (.int (0 : Int32)), .val (.int (1 : Int32)), .unset]) rfl ?_
        show Steps p.tables e below (T44.setTop (mkF m 65 #[.val (.int p1), .val (.int p2), .val (.ref b1), .val (.ref b23), .val (.int (0 : Int32)), .val (.int (1 : Int32)), .unset] [])) _
        refine XS.iload X44.here hx rfl (hb hby at_65) rfl ?_
        show Steps p.tables e below (T44.setTop (mkF m 67 #[.val (.int p1), .val (.int p2), .val (.ref b1), .val (.ref b23), .val (.int (0 : Int32)), .val (.int (1 : Int32)), .unset] [(.int (0 : Int32))])) _
        refine XS.iconst X44.here hx rfl (hb hby at_67) ?_
        show Steps p.tables e below (T44.setTop (mkF m 68 #[.val (.int p1), .val (.int p2), .val (.ref b1), .val (.ref b23), .val (.int (0 : Int32)), .val (.int (1 : Int32)), .unset] [(.int (3 : Int32)), (.int (0 : Int32))])) _
        refine XS.icmpYes X44.here hx rfl (pc0 := 68) (pc' := 77) rfl (hb hby at_68) rfl ((feq (by decide : ¬ ((0 : Int32) = (3 : Int32)))).2) (by decide) (by decide) ?_
        show Steps p.tables e below (T44.setTop (mkF m 77 #[.val (.int p1), .val (.int p2), .val (.ref b1), .val (.ref b23), .val (.int (0 : Int32)), .val (.int (1 : Int32)), .unset] [])) _
        refine XS.iload X44.here hx rfl (hb hby at_77) rfl ?_
        show Steps p.tables e below (T44.setTop (mkF m 79 #[.val (.int p1), .val (.int p2), .val (.ref b1), .val (.ref b23), .val (.int (0 : Int32)), .val (.int (1 : Int32)), .unset] [(.int (0 : Int32))])) _
        refine XS.ifNo X44.here hx rfl (hb hby at_79) rfl ((if0 _ _).trans (teq (by decide : (0 : Int32) = (0 : Int32))).2) ?_
        show Steps p.tables e below (T44.setTop (mkF m 82 #[.val (.int p1), .val (.int p2), .val (.ref b1), .val (.ref b23), .val (.int (0 : Int32)), .val (.int (1 : Int32)), .unset] [])) _
        refine XS.iload X44.here hx rfl (hb hby at_82) rfl ?_
        show Steps p.tables e below (T44.setTop (mkF m 84 #[.val (.int p1), .val (.int p2), .val (.ref b1), .val (.ref b23), .val (.int (0 : Int32)), .val (.int (1 : Int32)), .unset] [(.int (1 : Int32))])) _
        refine XS.ifYes X44.here hx rfl (pc0 := 84) (pc' := 91) rfl (hb hby at_84) rfl ((if0 _ _).trans (feq (by decide : ¬ ((1 : Int32) = (0 : Int32)))).2) (by decide) (by decide) ?_
        show Steps p.tables e below (T44.setTop (mkF m 91 #[.val (.int p1), .val (.int p2), .val (.ref b1), .val (.ref b23), .val (.int (0 : Int32)), .val (.int (1 : Int32)), .unset] [])) _
        refine XS.iconst X44.here hx rfl (hb hby at_91) ?_
        show Steps p.tables e below (T44.setTop (mkF m 92 #[.val (.int p1), .val (.int p2), .val (.ref b1), .val (.ref b23), .val (.int (0 : Int32)), .val (.int (1 : Int32)), .unset] [(.int (0 : Int32))])) _
        refine XS.istore X44.here hx rfl (hb hby at_92) rfl (l' := #[.val (.int p1), .val (.int p2), .val (.ref b1), .val (.ref b23), .val (.int (0 : Int32)), .val (.int (1 : Int32)), .val (.int (0 : Int32))]) rfl ?_
        show Steps p.tables e below (T44.setTop (mkF m 94 #[.val (.int p1), .val (.int p2), .val (.ref b1), .val (.ref b23), .val (.int (0 : Int32)), .val (.int (1 : Int32)), .val (.int (0 : Int32))] [])) _
        refine XS.goto X44.here hx rfl (pc0 := 94) (pc' := 132) rfl (hb hby at_94) (by decide) (by decide) ?_
        show Steps p.tables e below (T44.setTop (mkF m 132 #[.val (.int p1), .val (.int p2), .val (.ref b1), .val (.ref b23), .val (.int (0 : Int32)), .val (.int (1 : Int32)), .val (.int (0 : Int32))] [])) _
        refine XS.aloadN X44.here hx rfl (hb hby at_132) rfl rfl ?_
        show Steps p.tables e below (T44.setTop (mkF m 133 #[.val (.int p1), .val (.int p2), .val (.ref b1), .val (.ref b23), .val (.int (0 : Int32)), .val (.int (1 : Int32)), .val (.int (0 : Int32))] [(.ref b1)])) _
        refine XS.iload X44.here hx rfl (hb hby at_133) rfl ?_
        show Steps p.tables e below (T44.setTop (mkF m 135 #[.val (.int p1), .val (.int p2), .val (.ref b1), .val (.ref b23), .val (.int (0 : Int32)), .val (.int (1 : Int32)), .val (.int (0 : Int32))] [(.int (0 : Int32)), (.ref b1)])) _
        refine X44.aaload hx (j := (0 : Int32)) (v := (.ref o_MALT_EXPERT)) (by rw [e44]; exact Ar53.1) (State.isArrayOf_alike hZ.alike Ar53.2.1) rfl Ar53.2.2 hin53 hat53 (g := (mkF m 135 #[.val (.int p1), .val (.int p2), .val (.ref b1), .val (.ref b23), .val (.int (0 : Int32)), .val (.int (1 : Int32)), .val (.int (0 : Int32))] [(.int (0 : Int32)), (.ref b1)])) rfl rfl (hb hby at_135) _ ?_
        show Steps p.tables e below (T44.setTop (mkF m 136 #[.val (.int p1), .val (.int p2), .val (.ref b1), .val (.ref b23), .val (.int (0 : Int32)), .val (.int (1 : Int32)), .val (.int (0 : Int32))] [(.ref o_MALT_EXPERT)])) _
        refine XS.aloadN X44.here hx rfl (hb hby at_136) rfl rfl ?_
        show Steps p.tables e below (T44.setTop (mkF m 137 #[.val (.int p1), .val (.int p2), .val (.ref b1), .val (.ref b23), .val (.int (0 : Int32)), .val (.int (1 : Int32)), .val (.int (0 : Int32))] [(.ref b23), (.ref o_MALT_EXPERT)])) _
        refine XS.iload X44.here hx rfl (hb hby at_137) rfl ?_
        show Steps p.tables e below (T44.setTop (mkF m 139 #[.val (.int p1), .val (.int p2), .val (.ref b1), .val (.ref b23), .val (.int (0 : Int32)), .val (.int (1 : Int32)), .val (.int (0 : Int32))] [(.int (1 : Int32)), (.ref b23), (.ref o_MALT_EXPERT)])) _
        refine X44.aaload hx (j := (1 : Int32)) (v := (.ref o_HOPS)) (by rw [e44]; exact Ar55.1) (State.isArrayOf_alike hZ.alike Ar55.2.1) rfl Ar55.2.2 hin55 hat55 (g := (mkF m 139 #[.val (.int p1), .val (.int p2), .val (.ref b1), .val (.ref b23), .val (.int (0 : Int32)), .val (.int (1 : Int32)), .val (.int (0 : Int32))] [(.int (1 : Int32)), (.ref b23), (.ref o_MALT_EXPERT)])) rfl rfl (hb hby at_139) _ ?_
        show Steps p.tables e below (T44.setTop (mkF m 140 #[.val (.int p1), .val (.int p2), .val (.ref b1), .val (.ref b23), .val (.int (0 : Int32)), .val (.int (1 : Int32)), .val (.int (0 : Int32))] [(.ref o_HOPS), (.ref o_MALT_EXPERT)])) _
        refine st56.trans ?_
        show Steps p.tables e below (T56.setTop (mkF m 143 #[.val (.int p1), .val (.int p2), .val (.ref b1), .val (.ref b23), .val (.int (0 : Int32)), .val (.int (1 : Int32)), .val (.int (0 : Int32))] [(.int r56)])) _
        refine XS.iload X56.here hx rfl (hb hby at_143) rfl ?_
        show Steps p.tables e below (T56.setTop (mkF m 145 #[.val (.int p1), .val (.int p2), .val (.ref b1), .val (.ref b23), .val (.int (0 : Int32)), .val (.int (1 : Int32)), .val (.int (0 : Int32))] [(.int (0 : Int32)), (.int r56)])) _
        refine XS.icmpNo X56.here hx rfl (hb hby at_145) rfl ((teq (by rw [hr56, if_neg (Ne.symm ne_o_HOPS_o_MALT)] : r56 = (0 : Int32))).2) ?_
        show Steps p.tables e below (T56.setTop (mkF m 148 #[.val (.int p1), .val (.int p2), .val (.ref b1), .val (.ref b23), .val (.int (0 : Int32)), .val (.int (1 : Int32)), .val (.int (0 : Int32))] [])) _
        refine XS.iconst X56.here hx rfl (hb hby at_148) ?_
        show Steps p.tables e below (T56.setTop (mkF m 149 #[.val (.int p1), .val (.int p2), .val (.ref b1), .val (.ref b23), .val (.int (0 : Int32)), .val (.int (1 : Int32)), .val (.int (0 : Int32))] [(.int (1 : Int32))])) _
        refine XS.goto X56.here hx rfl (pc0 := 149) (pc' := 153) rfl (hb hby at_149) (by decide) (by decide) ?_
        show Steps p.tables e below (T56.setTop (mkF m 153 #[.val (.int p1), .val (.int p2), .val (.ref b1), .val (.ref b23), .val (.int (0 : Int32)), .val (.int (1 : Int32)), .val (.int (0 : Int32))] [(.int (1 : Int32))])) _
        exact retN X56 hx (t := .boolean) Bd.returns (by simp) (hb hby at_153) hr
      · exact ⟨rfl, N56⟩
    · rw [hk62]
      have f60 : AV Z h44 b1 k1 (.object "com/example/pipstill/pipstill/SixSidedStout$Assistant") 4 (updR (updR (updR (updR (fun _ => Value.null) 0 (.ref o_MALT_EXPERT)) 1 (.ref o_HOPS_IMPORTER)) 2 (.ref o_SCIENTIST)) 3 (.ref o_MASTER_BREWER)) := ((((V20.ext E23).other W34 ne_b1_b23).other W39 ne_b1_b23).other W44 ne_b1_b23)
      obtain ⟨cl59, Ar59, kc59, sz59, -, hv59⟩ := id f60
      have hin59 : ¬ ((0 : Int32) < 0 ∨ cl59.slots.size ≤ ((0 : Int32)).toNatClampNeg) := AV.inb sz59 (show ¬ (0 : Int32) < 0 ∧ ((0 : Int32)).toNatClampNeg < 4 by decide)
      have hat59 : cl59.slots[((0 : Int32)).toNatClampNeg]? = some (.ref o_MALT_EXPERT) := (hv59 _ (AV.inx (show ¬ (0 : Int32) < 0 ∧ ((0 : Int32)).toNatClampNeg < 4 by decide))).trans (congrArg some rfl)
      obtain ⟨cl61, Ar61, kc61, sz61, -, hv61⟩ := id V44
      have hin61 : ¬ ((2 : Int32) < 0 ∨ cl61.slots.size ≤ ((2 : Int32)).toNatClampNeg) := AV.inb sz61 (show ¬ (2 : Int32) < 0 ∧ ((2 : Int32)).toNatClampNeg < 3 by decide)
      have hat61 : cl61.slots[((2 : Int32)).toNatClampNeg]? = some (.ref o_YEAST) := (hv61 _ (AV.inx (show ¬ (2 : Int32) < 0 ∧ ((2 : Int32)).toNatClampNeg < 3 by decide))).trans (congrArg some rfl)
      have f63 : Fld Z h44 o_MALT_EXPERT "com/example/pipstill/pipstill/SixSidedStout$Assistant" "ware" "Lcom/example/pipstill/pipstill/SixSidedStout$Ware;" (.ref o_MALT) := (((((((((F_ware_o_MALT_EXPERT.ext E1).other W5 (Or.inl ne_o_MALT_EXPERT_b1)).other W10 (Or.inl ne_o_MALT_EXPERT_b1)).other W15 (Or.inl ne_o_MALT_EXPERT_b1)).other W20 (Or.inl ne_o_MALT_EXPERT_b1)).ext E23).other W34 (Or.inl ne_o_MALT_EXPERT_b23)).other W39 (Or.inl ne_o_MALT_EXPERT_b23)).other W44 (Or.inl ne_o_MALT_EXPERT_b23))
      have f64 : Exa Z h44 o_MALT_EXPERT "com/example/pipstill/pipstill/SixSidedStout$Assistant" := ((((f24.ext E23).wr W34).wr W39).wr W44)
      obtain ⟨cq62, kq62, q62a, q62b, q62c⟩ := isOf hZ e44 f64
      obtain ⟨_, _, ⟨T62, L62, k62, n62⟩, -, X62, ⟨Lc62, hQ62, l62, y62, z62⟩, st62⟩ := X44.virtualBack hx (y := (⟨"com/example/pipstill/pipstill/SixSidedStout$Assistant", "serves", "(Lcom/example/pipstill/pipstill/SixSidedStout$Ware;)Z"⟩ : MethodName)) (z := (⟨"com/example/pipstill/pipstill/SixSidedStout$Assistant", "serves", "(Lcom/example/pipstill/pipstill/SixSidedStout$Ware;)Z"⟩ : MethodName)) hown (mvT hZ (hw _ (List.mem_of_getElem? (i := 23) rfl))) (mvT hZ (hw _ (List.mem_of_getElem? (i := 24) rfl))) (notFace_of_selects (args := #[]) (mvT hZ (hw _ (List.mem_of_getElem? (i := 26) rfl)))) (mvT hZ (hw _ (List.mem_of_getElem? (i := 26) rfl))) (mvT hZ (hw _ (List.mem_of_getElem? (i := 25) rfl))) (by decide) (backOf (W := 0) (rm1r l Z a0 hw [] o_MALT_EXPERT o_YEAST o_MALT h44 n0 z46 f63) hZ (hw _ (List.mem_of_getElem? (i := 27) rfl)) (hw _ (List.mem_of_getElem? (i := 3) rfl)) (by decide) (by decide)) q62a q62c (g := (mkF m 140 #[.val (.int p1), .val (.int p2), .val (.ref b1), .val (.ref b23), .val (.int (0 : Int32)), .val (.int (2 : Int32)), .val (.int (0 : Int32))] [(.ref o_YEAST), (.ref o_MALT_EXPERT)])) rfl (by rw [hml]; rfl) (Steps.refl _) (argsL := [(.ref o_YEAST)]) (rest := []) (lenOf pd_0 rfl) rfl (by show 2 * 0 + _ ≤ _; exact Nat.le_of_eq rfl) (hb hby at_140) (fun _ _ => ⟨rfl, e44, (by decide : 2 + 0 ≤ _), (by decide : 7 + 0 ≤ _)⟩)
      dsimp only [Pt.U, Pt.locs, Pt.cells, Pt.slots] at X62 l62 y62 z62 st62 hQ62
      subst l62 y62 z62
      obtain ⟨r62, rfl, hr62, N62q, eq62⟩ := hQ62
      have N62 := Fr.app N44 N62q
      obtain ⟨fs, hr, hrun, hended, hW, hsame⟩ := X62.leave (v := some (.int (1 : Int32))) (fun h => by rw [Bd.returns] at h; cases h)
      refine ⟨_, _, ?_, hrun, hended, _, _, rfl, ?_, ⟨_, rfl⟩, hW, hsame.mono (by decide) (by decide)⟩
      · show Steps p.tables e below (T44.setTop (mkF m 63 #[.val (.int p1), .val (.int p2), .val (.ref b1), .val (.ref b23), .val (.int (0 : Int32)), .unset, .unset] [(.int (2 : Int32))])) _
        refine XS.istore X44.here hx rfl (hb hby at_63) rfl (l' := #[.val (.int p1), .val (.int p2), .val (.ref b1), .val (.ref b23), .val (.int (0 : Int32)), .val (.int (2 : Int32)), .unset]) rfl ?_
        show Steps p.tables e below (T44.setTop (mkF m 65 #[.val (.int p1), .val (.int p2), .val (.ref b1), .val (.ref b23), .val (.int (0 : Int32)), .val (.int (2 : Int32)), .unset] [])) _
        refine XS.iload X44.here hx rfl (hb hby at_65) rfl ?_
        show Steps p.tables e below (T44.setTop (mkF m 67 #[.val (.int p1), .val (.int p2), .val (.ref b1), .val (.ref b23), .val (.int (0 : Int32)), .val (.int (2 : Int32)), .unset] [(.int (0 : Int32))])) _
        refine XS.iconst X44.here hx rfl (hb hby at_67) ?_
        show Steps p.tables e below (T44.setTop (mkF m 68 #[.val (.int p1), .val (.int p2), .val (.ref b1), .val (.ref b23), .val (.int (0 : Int32)), .val (.int (2 : Int32)), .unset] [(.int (3 : Int32)), (.int (0 : Int32))])) _
        refine XS.icmpYes X44.here hx rfl (pc0 := 68) (pc' := 77) rfl (hb hby at_68) rfl ((feq (by decide : ¬ ((0 : Int32) = (3 : Int32)))).2) (by decide) (by decide) ?_
        show Steps p.tables e below (T44.setTop (mkF m 77 #[.val (.int p1), .val (.int p2), .val (.ref b1), .val (.ref b23), .val (.int (0 : Int32)), .val (.int (2 : Int32)), .unset] [])) _
        refine XS.iload X44.here hx rfl (hb hby at_77) rfl ?_
        show Steps p.tables e below (T44.setTop (mkF m 79 #[.val (.int p1), .val (.int p2), .val (.ref b1), .val (.ref b23), .val (.int (0 : Int32)), .val (.int (2 : Int32)), .unset] [(.int (0 : Int32))])) _
        refine XS.ifNo X44.here hx rfl (hb hby at_79) rfl ((if0 _ _).trans (teq (by decide : (0 : Int32) = (0 : Int32))).2) ?_
        show Steps p.tables e below (T44.setTop (mkF m 82 #[.val (.int p1), .val (.int p2), .val (.ref b1), .val (.ref b23), .val (.int (0 : Int32)), .val (.int (2 : Int32)), .unset] [])) _
        refine XS.iload X44.here hx rfl (hb hby at_82) rfl ?_
        show Steps p.tables e below (T44.setTop (mkF m 84 #[.val (.int p1), .val (.int p2), .val (.ref b1), .val (.ref b23), .val (.int (0 : Int32)), .val (.int (2 : Int32)), .unset] [(.int (2 : Int32))])) _
        refine XS.ifYes X44.here hx rfl (pc0 := 84) (pc' := 91) rfl (hb hby at_84) rfl ((if0 _ _).trans (feq (by decide : ¬ ((2 : Int32) = (0 : Int32)))).2) (by decide) (by decide) ?_
        show Steps p.tables e below (T44.setTop (mkF m 91 #[.val (.int p1), .val (.int p2), .val (.ref b1), .val (.ref b23), .val (.int (0 : Int32)), .val (.int (2 : Int32)), .unset] [])) _
        refine XS.iconst X44.here hx rfl (hb hby at_91) ?_
        show Steps p.tables e below (T44.setTop (mkF m 92 #[.val (.int p1), .val (.int p2), .val (.ref b1), .val (.ref b23), .val (.int (0 : Int32)), .val (.int (2 : Int32)), .unset] [(.int (0 : Int32))])) _
        refine XS.istore X44.here hx rfl (hb hby at_92) rfl (l' := #[.val (.int p1), .val (.int p2), .val (.ref b1), .val (.ref b23), .val (.int (0 : Int32)), .val (.int (2 : Int32)), .val (.int (0 : Int32))]) rfl ?_
        show Steps p.tables e below (T44.setTop (mkF m 94 #[.val (.int p1), .val (.int p2), .val (.ref b1), .val (.ref b23), .val (.int (0 : Int32)), .val (.int (2 : Int32)), .val (.int (0 : Int32))] [])) _
        refine XS.goto X44.here hx rfl (pc0 := 94) (pc' := 132) rfl (hb hby at_94) (by decide) (by decide) ?_
        show Steps p.tables e below (T44.setTop (mkF m 132 #[.val (.int p1), .val (.int p2), .val (.ref b1), .val (.ref b23), .val (.int (0 : Int32)), .val (.int (2 : Int32)), .val (.int (0 : Int32))] [])) _
        refine XS.aloadN X44.here hx rfl (hb hby at_132) rfl rfl ?_
        show Steps p.tables e below (T44.setTop (mkF m 133 #[.val (.int p1), .val (.int p2), .val (.ref b1), .val (.ref b23), .val (.int (0 : Int32)), .val (.int (2 : Int32)), .val (.int (0 : Int32))] [(.ref b1)])) _
        refine XS.iload X44.here hx rfl (hb hby at_133) rfl ?_
        show Steps p.tables e below (T44.setTop (mkF m 135 #[.val (.int p1), .val (.int p2), .val (.ref b1), .val (.ref b23), .val (.int (0 : Int32)), .val (.int (2 : Int32)), .val (.int (0 : Int32))] [(.int (0 : Int32)), (.ref b1)])) _
        refine X44.aaload hx (j := (0 : Int32)) (v := (.ref o_MALT_EXPERT)) (by rw [e44]; exact Ar59.1) (State.isArrayOf_alike hZ.alike Ar59.2.1) rfl Ar59.2.2 hin59 hat59 (g := (mkF m 135 #[.val (.int p1), .val (.int p2), .val (.ref b1), .val (.ref b23), .val (.int (0 : Int32)), .val (.int (2 : Int32)), .val (.int (0 : Int32))] [(.int (0 : Int32)), (.ref b1)])) rfl rfl (hb hby at_135) _ ?_
        show Steps p.tables e below (T44.setTop (mkF m 136 #[.val (.int p1), .val (.int p2), .val (.ref b1), .val (.ref b23), .val (.int (0 : Int32)), .val (.int (2 : Int32)), .val (.int (0 : Int32))] [(.ref o_MALT_EXPERT)])) _
        refine XS.aloadN X44.here hx rfl (hb hby at_136) rfl rfl ?_
        show Steps p.tables e below (T44.setTop (mkF m 137 #[.val (.int p1), .val (.int p2), .val (.ref b1), .val (.ref b23), .val (.int (0 : Int32)), .val (.int (2 : Int32)), .val (.int (0 : Int32))] [(.ref b23), (.ref o_MALT_EXPERT)])) _
        refine XS.iload X44.here hx rfl (hb hby at_137) rfl ?_
        show Steps p.tables e below (T44.setTop (mkF m 139 #[.val (.int p1), .val (.int p2), .val (.ref b1), .val (.ref b23), .val (.int (0 : Int32)), .val (.int (2 : Int32)), .val (.int (0 : Int32))] [(.int (2 : Int32)), (.ref b23), (.ref o_MALT_EXPERT)])) _
        refine X44.aaload hx (j := (2 : Int32)) (v := (.ref o_YEAST)) (by rw [e44]; exact Ar61.1) (State.isArrayOf_alike hZ.alike Ar61.2.1) rfl Ar61.2.2 hin61 hat61 (g := (mkF m 139 #[.val (.int p1), .val (.int p2), .val (.ref b1), .val (.ref b23), .val (.int (0 : Int32)), .val (.int (2 : Int32)), .val (.int (0 : Int32))] [(.int (2 : Int32)), (.ref b23), (.ref o_MALT_EXPERT)])) rfl rfl (hb hby at_139) _ ?_
        show Steps p.tables e below (T44.setTop (mkF m 140 #[.val (.int p1), .val (.int p2), .val (.ref b1), .val (.ref b23), .val (.int (0 : Int32)), .val (.int (2 : Int32)), .val (.int (0 : Int32))] [(.ref o_YEAST), (.ref o_MALT_EXPERT)])) _
        refine st62.trans ?_
        show Steps p.tables e below (T62.setTop (mkF m 143 #[.val (.int p1), .val (.int p2), .val (.ref b1), .val (.ref b23), .val (.int (0 : Int32)), .val (.int (2 : Int32)), .val (.int (0 : Int32))] [(.int r62)])) _
        refine XS.iload X62.here hx rfl (hb hby at_143) rfl ?_
        show Steps p.tables e below (T62.setTop (mkF m 145 #[.val (.int p1), .val (.int p2), .val (.ref b1), .val (.ref b23), .val (.int (0 : Int32)), .val (.int (2 : Int32)), .val (.int (0 : Int32))] [(.int (0 : Int32)), (.int r62)])) _
        refine XS.icmpNo X62.here hx rfl (hb hby at_145) rfl ((teq (by rw [hr62, if_neg (Ne.symm ne_o_YEAST_o_MALT)] : r62 = (0 : Int32))).2) ?_
        show Steps p.tables e below (T62.setTop (mkF m 148 #[.val (.int p1), .val (.int p2), .val (.ref b1), .val (.ref b23), .val (.int (0 : Int32)), .val (.int (2 : Int32)), .val (.int (0 : Int32))] [])) _
        refine XS.iconst X62.here hx rfl (hb hby at_148) ?_
        show Steps p.tables e below (T62.setTop (mkF m 149 #[.val (.int p1), .val (.int p2), .val (.ref b1), .val (.ref b23), .val (.int (0 : Int32)), .val (.int (2 : Int32)), .val (.int (0 : Int32))] [(.int (1 : Int32))])) _
        refine XS.goto X62.here hx rfl (pc0 := 149) (pc' := 153) rfl (hb hby at_149) (by decide) (by decide) ?_
        show Steps p.tables e below (T62.setTop (mkF m 153 #[.val (.int p1), .val (.int p2), .val (.ref b1), .val (.ref b23), .val (.int (0 : Int32)), .val (.int (2 : Int32)), .val (.int (0 : Int32))] [(.int (1 : Int32))])) _
        exact retN X62 hx (t := .boolean) Bd.returns (by simp) (hb hby at_153) hr
      · exact ⟨rfl, N62⟩
  · rw [hk54]
    refine GoalS.lift (B := (T44.setTop (mkF m 63 #[.val (.int p1), .val (.int p2), .val (.ref b1), .val (.ref b23), .val (.int (1 : Int32)), .unset, .unset] [(.int ((p2 &&& (2147483647 : Int32)) % (3 : Int32)))]))) (fun t k => ?_) ?_
    · show Steps p.tables e below (T44.setTop (mkF m 55 #[.val (.int p1), .val (.int p2), .val (.ref b1), .val (.ref b23), .unset, .unset, .unset] [(.int (1 : Int32))])) _
      refine XS.istore X44.here hx rfl (hb hby at_55) rfl (l' := #[.val (.int p1), .val (.int p2), .val (.ref b1), .val (.ref b23), .val (.int (1 : Int32)), .unset, .unset]) rfl ?_
      show Steps p.tables e below (T44.setTop (mkF m 57 #[.val (.int p1), .val (.int p2), .val (.ref b1), .val (.ref b23), .val (.int (1 : Int32)), .unset, .unset] [])) _
      refine XS.iloadN X44.here hx rfl (hb hby at_57) rfl ?_
      show Steps p.tables e below (T44.setTop (mkF m 58 #[.val (.int p1), .val (.int p2), .val (.ref b1), .val (.ref b23), .val (.int (1 : Int32)), .unset, .unset] [(.int p2)])) _
      refine X44.ldcInt hx hown (mvT hZ (hw _ (List.mem_of_getElem? (i := 22) rfl))) (g := (mkF m 58 #[.val (.int p1), .val (.int p2), .val (.ref b1), .val (.ref b23), .val (.int (1 : Int32)), .unset, .unset] [(.int p2)])) rfl (hb hby at_58) _ ?_
      show Steps p.tables e below (T44.setTop (mkF m 60 #[.val (.int p1), .val (.int p2), .val (.ref b1), .val (.ref b23), .val (.int (1 : Int32)), .unset, .unset] [(.int (2147483647 : Int32)), (.int p2)])) _
      refine XS.iand X44.here hx rfl (hb hby at_60) rfl ?_
      show Steps p.tables e below (T44.setTop (mkF m 61 #[.val (.int p1), .val (.int p2), .val (.ref b1), .val (.ref b23), .val (.int (1 : Int32)), .unset, .unset] [(.int (p2 &&& (2147483647 : Int32)))])) _
      refine XS.iconst X44.here hx rfl (hb hby at_61) ?_
      show Steps p.tables e below (T44.setTop (mkF m 62 #[.val (.int p1), .val (.int p2), .val (.ref b1), .val (.ref b23), .val (.int (1 : Int32)), .unset, .unset] [(.int (3 : Int32)), (.int (p2 &&& (2147483647 : Int32)))])) _
      refine iremM X44 hx rfl (hb hby at_62) rfl (by decide) ?_
      exact k
    rcases own_three p2 with hk62 | hk62 | hk62
    · rw [hk62]
      have f66 : AV Z h44 b1 k1 (.object "com/example/pipstill/pipstill/SixSidedStout$Assistant") 4 (updR (updR (updR (updR (fun _ => Value.null) 0 (.ref o_MALT_EXPERT)) 1 (.ref o_HOPS_IMPORTER)) 2 (.ref o_SCIENTIST)) 3 (.ref o_MASTER_BREWER)) := ((((V20.ext E23).other W34 ne_b1_b23).other W39 ne_b1_b23).other W44 ne_b1_b23)
      obtain ⟨cl65, Ar65, kc65, sz65, -, hv65⟩ := id f66
      have hin65 : ¬ ((1 : Int32) < 0 ∨ cl65.slots.size ≤ ((1 : Int32)).toNatClampNeg) := AV.inb sz65 (show ¬ (1 : Int32) < 0 ∧ ((1 : Int32)).toNatClampNeg < 4 by decide)
      have hat65 : cl65.slots[((1 : Int32)).toNatClampNeg]? = some (.ref o_HOPS_IMPORTER) := (hv65 _ (AV.inx (show ¬ (1 : Int32) < 0 ∧ ((1 : Int32)).toNatClampNeg < 4 by decide))).trans (congrArg some rfl)
      obtain ⟨cl67, Ar67, kc67, sz67, -, hv67⟩ := id V44
      have hin67 : ¬ ((0 : Int32) < 0 ∨ cl67.slots.size ≤ ((0 : Int32)).toNatClampNeg) := AV.inb sz67 (show ¬ (0 : Int32) < 0 ∧ ((0 : Int32)).toNatClampNeg < 3 by decide)
      have hat67 : cl67.slots[((0 : Int32)).toNatClampNeg]? = some (.ref o_MALT) := (hv67 _ (AV.inx (show ¬ (0 : Int32) < 0 ∧ ((0 : Int32)).toNatClampNeg < 3 by decide))).trans (congrArg some rfl)
      have f69 : Fld Z h44 o_HOPS_IMPORTER "com/example/pipstill/pipstill/SixSidedStout$Assistant" "ware" "Lcom/example/pipstill/pipstill/SixSidedStout$Ware;" (.ref o_HOPS) := (((((((((F_ware_o_HOPS_IMPORTER.ext E1).other W5 (Or.inl ne_o_HOPS_IMPORTER_b1)).other W10 (Or.inl ne_o_HOPS_IMPORTER_b1)).other W15 (Or.inl ne_o_HOPS_IMPORTER_b1)).other W20 (Or.inl ne_o_HOPS_IMPORTER_b1)).ext E23).other W34 (Or.inl ne_o_HOPS_IMPORTER_b23)).other W39 (Or.inl ne_o_HOPS_IMPORTER_b23)).other W44 (Or.inl ne_o_HOPS_IMPORTER_b23))
      have f70 : Exa Z h44 o_HOPS_IMPORTER "com/example/pipstill/pipstill/SixSidedStout$Assistant" := ((((f25.ext E23).wr W34).wr W39).wr W44)
      obtain ⟨cq68, kq68, q68a, q68b, q68c⟩ := isOf hZ e44 f70
      obtain ⟨_, _, ⟨T68, L68, k68, n68⟩, -, X68, ⟨Lc68, hQ68, l68, y68, z68⟩, st68⟩ := X44.virtualBack hx (y := (⟨"com/example/pipstill/pipstill/SixSidedStout$Assistant", "serves", "(Lcom/example/pipstill/pipstill/SixSidedStout$Ware;)Z"⟩ : MethodName)) (z := (⟨"com/example/pipstill/pipstill/SixSidedStout$Assistant", "serves", "(Lcom/example/pipstill/pipstill/SixSidedStout$Ware;)Z"⟩ : MethodName)) hown (mvT hZ (hw _ (List.mem_of_getElem? (i := 23) rfl))) (mvT hZ (hw _ (List.mem_of_getElem? (i := 24) rfl))) (notFace_of_selects (args := #[]) (mvT hZ (hw _ (List.mem_of_getElem? (i := 26) rfl)))) (mvT hZ (hw _ (List.mem_of_getElem? (i := 26) rfl))) (mvT hZ (hw _ (List.mem_of_getElem? (i := 25) rfl))) (by decide) (backOf (W := 0) (rm1r l Z a0 hw [] o_HOPS_IMPORTER o_MALT o_HOPS h44 n0 z46 f69) hZ (hw _ (List.mem_of_getElem? (i := 27) rfl)) (hw _ (List.mem_of_getElem? (i := 3) rfl)) (by decide) (by decide)) q68a q68c (g := (mkF m 140 #[.val (.int p1), .val (.int p2), .val (.ref b1), .val (.ref b23), .val (.int (1 : Int32)), .val (.int (0 : Int32)), .val (.int (0 : Int32))] [(.ref o_MALT), (.ref o_HOPS_IMPORTER)])) rfl (by rw [hml]; rfl) (Steps.refl _) (argsL := [(.ref o_MALT)]) (rest := []) (lenOf pd_0 rfl) rfl (by show 2 * 0 + _ ≤ _; exact Nat.le_of_eq rfl) (hb hby at_140) (fun _ _ => ⟨rfl, e44, (by decide : 2 + 0 ≤ _), (by decide : 7 + 0 ≤ _)⟩)
      dsimp only [Pt.U, Pt.locs, Pt.cells, Pt.slots] at X68 l68 y68 z68 st68 hQ68
      subst l68 y68 z68
      obtain ⟨r68, rfl, hr68, N68q, eq68⟩ := hQ68
      have N68 := Fr.app N44 N68q
      obtain ⟨fs, hr, hrun, hended, hW, hsame⟩ := X68.leave (v := some (.int (1 : Int32))) (fun h => by rw [Bd.returns] at h; cases h)
      refine ⟨_, _, ?_, hrun, hended, _, _, rfl, ?_, ⟨_, rfl⟩, hW, hsame.mono (by decide) (by decide)⟩
      · show Steps p.tables e below (T44.setTop (mkF m 63 #[.val (.int p1), .val (.int p2), .val (.ref b1), .val (.ref b23), .val (.int (1 : Int32)), .unset, .unset] [(.int (0 : Int32))])) _
        refine XS.istore X44.here hx rfl (hb hby at_63) rfl (l' := #[.val (.int p1), .val (.int p2), .val (.ref b1), .val (.ref b23), .val (.int (1 : Int32)), .val (.int (0 : Int32)), .unset]) rfl ?_
        show Steps p.tables e below (T44.setTop (mkF m 65 #[.val (.int p1), .val (.int p2), .val (.ref b1), .val (.ref b23), .val (.int (1 : Int32)), .val (.int (0 : Int32)), .unset] [])) _
        refine XS.iload X44.here hx rfl (hb hby at_65) rfl ?_
        show Steps p.tables e below (T44.setTop (mkF m 67 #[.val (.int p1), .val (.int p2), .val (.ref b1), .val (.ref b23), .val (.int (1 : Int32)), .val (.int (0 : Int32)), .unset] [(.int (1 : Int32))])) _
        refine XS.iconst X44.here hx rfl (hb hby at_67) ?_
        show Steps p.tables e below (T44.setTop (mkF m 68 #[.val (.int p1), .val (.int p2), .val (.ref b1), .val (.ref b23), .val (.int (1 : Int32)), .val (.int (0 : Int32)), .unset] [(.int (3 : Int32)), (.int (1 : Int32))])) _
        refine XS.icmpYes X44.here hx rfl (pc0 := 68) (pc' := 77) rfl (hb hby at_68) rfl ((feq (by decide : ¬ ((1 : Int32) = (3 : Int32)))).2) (by decide) (by decide) ?_
        show Steps p.tables e below (T44.setTop (mkF m 77 #[.val (.int p1), .val (.int p2), .val (.ref b1), .val (.ref b23), .val (.int (1 : Int32)), .val (.int (0 : Int32)), .unset] [])) _
        refine XS.iload X44.here hx rfl (hb hby at_77) rfl ?_
        show Steps p.tables e below (T44.setTop (mkF m 79 #[.val (.int p1), .val (.int p2), .val (.ref b1), .val (.ref b23), .val (.int (1 : Int32)), .val (.int (0 : Int32)), .unset] [(.int (1 : Int32))])) _
        refine XS.ifYes X44.here hx rfl (pc0 := 79) (pc' := 97) rfl (hb hby at_79) rfl ((if0 _ _).trans (feq (by decide : ¬ ((1 : Int32) = (0 : Int32)))).2) (by decide) (by decide) ?_
        show Steps p.tables e below (T44.setTop (mkF m 97 #[.val (.int p1), .val (.int p2), .val (.ref b1), .val (.ref b23), .val (.int (1 : Int32)), .val (.int (0 : Int32)), .unset] [])) _
        refine XS.iload X44.here hx rfl (hb hby at_97) rfl ?_
        show Steps p.tables e below (T44.setTop (mkF m 99 #[.val (.int p1), .val (.int p2), .val (.ref b1), .val (.ref b23), .val (.int (1 : Int32)), .val (.int (0 : Int32)), .unset] [(.int (1 : Int32))])) _
        refine XS.iconst X44.here hx rfl (hb hby at_99) ?_
        show Steps p.tables e below (T44.setTop (mkF m 100 #[.val (.int p1), .val (.int p2), .val (.ref b1), .val (.ref b23), .val (.int (1 : Int32)), .val (.int (0 : Int32)), .unset] [(.int (1 : Int32)), (.int (1 : Int32))])) _
        refine XS.icmpNo X44.here hx rfl (hb hby at_100) rfl ((teq (by decide : (1 : Int32) = (1 : Int32))).2) ?_
        show Steps p.tables e below (T44.setTop (mkF m 103 #[.val (.int p1), .val (.int p2), .val (.ref b1), .val (.ref b23), .val (.int (1 : Int32)), .val (.int (0 : Int32)), .unset] [])) _
        refine XS.iload X44.here hx rfl (hb hby at_103) rfl ?_
        show Steps p.tables e below (T44.setTop (mkF m 105 #[.val (.int p1), .val (.int p2), .val (.ref b1), .val (.ref b23), .val (.int (1 : Int32)), .val (.int (0 : Int32)), .unset] [(.int (0 : Int32))])) _
        refine XS.iconst X44.here hx rfl (hb hby at_105) ?_
        show Steps p.tables e below (T44.setTop (mkF m 106 #[.val (.int p1), .val (.int p2), .val (.ref b1), .val (.ref b23), .val (.int (1 : Int32)), .val (.int (0 : Int32)), .unset] [(.int (1 : Int32)), (.int (0 : Int32))])) _
        refine XS.icmpYes X44.here hx rfl (pc0 := 106) (pc' := 113) rfl (hb hby at_106) rfl ((feq (by decide : ¬ ((0 : Int32) = (1 : Int32)))).2) (by decide) (by decide) ?_
        show Steps p.tables e below (T44.setTop (mkF m 113 #[.val (.int p1), .val (.int p2), .val (.ref b1), .val (.ref b23), .val (.int (1 : Int32)), .val (.int (0 : Int32)), .unset] [])) _
        refine XS.iconst X44.here hx rfl (hb hby at_113) ?_
        show Steps p.tables e below (T44.setTop (mkF m 114 #[.val (.int p1), .val (.int p2), .val (.ref b1), .val (.ref b23), .val (.int (1 : Int32)), .val (.int (0 : Int32)), .unset] [(.int (0 : Int32))])) _
        refine XS.istore X44.here hx rfl (hb hby at_114) rfl (l' := #[.val (.int p1), .val (.int p2), .val (.ref b1), .val (.ref b23), .val (.int (1 : Int32)), .val (.int (0 : Int32)), .val (.int (0 : Int32))]) rfl ?_
        show Steps p.tables e below (T44.setTop (mkF m 116 #[.val (.int p1), .val (.int p2), .val (.ref b1), .val (.ref b23), .val (.int (1 : Int32)), .val (.int (0 : Int32)), .val (.int (0 : Int32))] [])) _
        refine XS.goto X44.here hx rfl (pc0 := 116) (pc' := 132) rfl (hb hby at_116) (by decide) (by decide) ?_
        show Steps p.tables e below (T44.setTop (mkF m 132 #[.val (.int p1), .val (.int p2), .val (.ref b1), .val (.ref b23), .val (.int (1 : Int32)), .val (.int (0 : Int32)), .val (.int (0 : Int32))] [])) _
        refine XS.aloadN X44.here hx rfl (hb hby at_132) rfl rfl ?_
        show Steps p.tables e below (T44.setTop (mkF m 133 #[.val (.int p1), .val (.int p2), .val (.ref b1), .val (.ref b23), .val (.int (1 : Int32)), .val (.int (0 : Int32)), .val (.int (0 : Int32))] [(.ref b1)])) _
        refine XS.iload X44.here hx rfl (hb hby at_133) rfl ?_
        show Steps p.tables e below (T44.setTop (mkF m 135 #[.val (.int p1), .val (.int p2), .val (.ref b1), .val (.ref b23), .val (.int (1 : Int32)), .val (.int (0 : Int32)), .val (.int (0 : Int32))] [(.int (1 : Int32)), (.ref b1)])) _
        refine X44.aaload hx (j := (1 : Int32)) (v := (.ref o_HOPS_IMPORTER)) (by rw [e44]; exact Ar65.1) (State.isArrayOf_alike hZ.alike Ar65.2.1) rfl Ar65.2.2 hin65 hat65 (g := (mkF m 135 #[.val (.int p1), .val (.int p2), .val (.ref b1), .val (.ref b23), .val (.int (1 : Int32)), .val (.int (0 : Int32)), .val (.int (0 : Int32))] [(.int (1 : Int32)), (.ref b1)])) rfl rfl (hb hby at_135) _ ?_
        show Steps p.tables e below (T44.setTop (mkF m 136 #[.val (.int p1), .val (.int p2), .val (.ref b1), .val (.ref b23), .val (.int (1 : Int32)), .val (.int (0 : Int32)), .val (.int (0 : Int32))] [(.ref o_HOPS_IMPORTER)])) _
        refine XS.aloadN X44.here hx rfl (hb hby at_136) rfl rfl ?_
        show Steps p.tables e below (T44.setTop (mkF m 137 #[.val (.int p1), .val (.int p2), .val (.ref b1), .val (.ref b23), .val (.int (1 : Int32)), .val (.int (0 : Int32)), .val (.int (0 : Int32))] [(.ref b23), (.ref o_HOPS_IMPORTER)])) _
        refine XS.iload X44.here hx rfl (hb hby at_137) rfl ?_
        show Steps p.tables e below (T44.setTop (mkF m 139 #[.val (.int p1), .val (.int p2), .val (.ref b1), .val (.ref b23), .val (.int (1 : Int32)), .val (.int (0 : Int32)), .val (.int (0 : Int32))] [(.int (0 : Int32)), (.ref b23), (.ref o_HOPS_IMPORTER)])) _
        refine X44.aaload hx (j := (0 : Int32)) (v := (.ref o_MALT)) (by rw [e44]; exact Ar67.1) (State.isArrayOf_alike hZ.alike Ar67.2.1) rfl Ar67.2.2 hin67 hat67 (g := (mkF m 139 #[.val (.int p1), .val (.int p2), .val (.ref b1), .val (.ref b23), .val (.int (1 : Int32)), .val (.int (0 : Int32)), .val (.int (0 : Int32))] [(.int (0 : Int32)), (.ref b23), (.ref o_HOPS_IMPORTER)])) rfl rfl (hb hby at_139) _ ?_
        show Steps p.tables e below (T44.setTop (mkF m 140 #[.val (.int p1), .val (.int p2), .val (.ref b1), .val (.ref b23), .val (.int (1 : Int32)), .val (.int (0 : Int32)), .val (.int (0 : Int32))] [(.ref o_MALT), (.ref o_HOPS_IMPORTER)])) _
        refine st68.trans ?_
        show Steps p.tables e below (T68.setTop (mkF m 143 #[.val (.int p1), .val (.int p2), .val (.ref b1), .val (.ref b23), .val (.int (1 : Int32)), .val (.int (0 : Int32)), .val (.int (0 : Int32))] [(.int r68)])) _
        refine XS.iload X68.here hx rfl (hb hby at_143) rfl ?_
        show Steps p.tables e below (T68.setTop (mkF m 145 #[.val (.int p1), .val (.int p2), .val (.ref b1), .val (.ref b23), .val (.int (1 : Int32)), .val (.int (0 : Int32)), .val (.int (0 : Int32))] [(.int (0 : Int32)), (.int r68)])) _
        refine XS.icmpNo X68.here hx rfl (hb hby at_145) rfl ((teq (by rw [hr68, if_neg ne_o_HOPS_o_MALT] : r68 = (0 : Int32))).2) ?_
        show Steps p.tables e below (T68.setTop (mkF m 148 #[.val (.int p1), .val (.int p2), .val (.ref b1), .val (.ref b23), .val (.int (1 : Int32)), .val (.int (0 : Int32)), .val (.int (0 : Int32))] [])) _
        refine XS.iconst X68.here hx rfl (hb hby at_148) ?_
        show Steps p.tables e below (T68.setTop (mkF m 149 #[.val (.int p1), .val (.int p2), .val (.ref b1), .val (.ref b23), .val (.int (1 : Int32)), .val (.int (0 : Int32)), .val (.int (0 : Int32))] [(.int (1 : Int32))])) _
        refine XS.goto X68.here hx rfl (pc0 := 149) (pc' := 153) rfl (hb hby at_149) (by decide) (by decide) ?_
        show Steps p.tables e below (T68.setTop (mkF m 153 #[.val (.int p1), .val (.int p2), .val (.ref b1), .val (.ref b23), .val (.int (1 : Int32)), .val (.int (0 : Int32)), .val (.int (0 : Int32))] [(.int (1 : Int32))])) _
        exact retN X68 hx (t := .boolean) Bd.returns (by simp) (hb hby at_153) hr
      · exact ⟨rfl, N68⟩
    · rw [hk62]
      have f72 : AV Z h44 b1 k1 (.object "com/example/pipstill/pipstill/SixSidedStout$Assistant") 4 (updR (updR (updR (updR (fun _ => Value.null) 0 (.ref o_MALT_EXPERT)) 1 (.ref o_HOPS_IMPORTER)) 2 (.ref o_SCIENTIST)) 3 (.ref o_MASTER_BREWER)) := ((((V20.ext E23).other W34 ne_b1_b23).other W39 ne_b1_b23).other W44 ne_b1_b23)
      obtain ⟨cl71, Ar71, kc71, sz71, -, hv71⟩ := id f72
      have hin71 : ¬ ((1 : Int32) < 0 ∨ cl71.slots.size ≤ ((1 : Int32)).toNatClampNeg) := AV.inb sz71 (show ¬ (1 : Int32) < 0 ∧ ((1 : Int32)).toNatClampNeg < 4 by decide)
      have hat71 : cl71.slots[((1 : Int32)).toNatClampNeg]? = some (.ref o_HOPS_IMPORTER) := (hv71 _ (AV.inx (show ¬ (1 : Int32) < 0 ∧ ((1 : Int32)).toNatClampNeg < 4 by decide))).trans (congrArg some rfl)
      obtain ⟨cl73, Ar73, kc73, sz73, -, hv73⟩ := id V44
      have hin73 : ¬ ((1 : Int32) < 0 ∨ cl73.slots.size ≤ ((1 : Int32)).toNatClampNeg) := AV.inb sz73 (show ¬ (1 : Int32) < 0 ∧ ((1 : Int32)).toNatClampNeg < 3 by decide)
      have hat73 : cl73.slots[((1 : Int32)).toNatClampNeg]? = some (.ref o_HOPS) := (hv73 _ (AV.inx (show ¬ (1 : Int32) < 0 ∧ ((1 : Int32)).toNatClampNeg < 3 by decide))).trans (congrArg some rfl)
      have f75 : Fld Z h44 o_HOPS_IMPORTER "com/example/pipstill/pipstill/SixSidedStout$Assistant" "ware" "Lcom/example/pipstill/pipstill/SixSidedStout$Ware;" (.ref o_HOPS) := (((((((((F_ware_o_HOPS_IMPORTER.ext E1).other W5 (Or.inl ne_o_HOPS_IMPORTER_b1)).other W10 (Or.inl ne_o_HOPS_IMPORTER_b1)).other W15 (Or.inl ne_o_HOPS_IMPORTER_b1)).other W20 (Or.inl ne_o_HOPS_IMPORTER_b1)).ext E23).other W34 (Or.inl ne_o_HOPS_IMPORTER_b23)).other W39 (Or.inl ne_o_HOPS_IMPORTER_b23)).other W44 (Or.inl ne_o_HOPS_IMPORTER_b23))
      have f76 : Exa Z h44 o_HOPS_IMPORTER "com/example/pipstill/pipstill/SixSidedStout$Assistant" := ((((f25.ext E23).wr W34).wr W39).wr W44)
      obtain ⟨cq74, kq74, q74a, q74b, q74c⟩ := isOf hZ e44 f76
      obtain ⟨_, _, ⟨T74, L74, k74, n74⟩, -, X74, ⟨Lc74, hQ74, l74, y74, z74⟩, st74⟩ := X44.virtualBack hx (y := (⟨"com/example/pipstill/pipstill/SixSidedStout$Assistant", "serves", "(Lcom/example/pipstill/pipstill/SixSidedStout$Ware;)Z"⟩ : MethodName)) (z := (⟨"com/example/pipstill/pipstill/SixSidedStout$Assistant", "serves", "(Lcom/example/pipstill/pipstill/SixSidedStout$Ware;)Z"⟩ : MethodName)) hown (mvT hZ (hw _ (List.mem_of_getElem? (i := 23) rfl))) (mvT hZ (hw _ (List.mem_of_getElem? (i := 24) rfl))) (notFace_of_selects (args := #[]) (mvT hZ (hw _ (List.mem_of_getElem? (i := 26) rfl)))) (mvT hZ (hw _ (List.mem_of_getElem? (i := 26) rfl))) (mvT hZ (hw _ (List.mem_of_getElem? (i := 25) rfl))) (by decide) (backOf (W := 0) (rm1r l Z a0 hw [] o_HOPS_IMPORTER o_HOPS o_HOPS h44 n0 z46 f75) hZ (hw _ (List.mem_of_getElem? (i := 27) rfl)) (hw _ (List.mem_of_getElem? (i := 3) rfl)) (by decide) (by decide)) q74a q74c (g := (mkF m 140 #[.val (.int p1), .val (.int p2), .val (.ref b1), .val (.ref b23), .val (.int (1 : Int32)), .val (.int (1 : Int32)), .val (.int (1 : Int32))] [(.ref o_HOPS), (.ref o_HOPS_IMPORTER)])) rfl (by rw [hml]; rfl) (Steps.refl _) (argsL := [(.ref o_HOPS)]) (rest := []) (lenOf pd_0 rfl) rfl (by show 2 * 0 + _ ≤ _; exact Nat.le_of_eq rfl) (hb hby at_140) (fun _ _ => ⟨rfl, e44, (by decide : 2 + 0 ≤ _), (by decide : 7 + 0 ≤ _)⟩)
      dsimp only [Pt.U, Pt.locs, Pt.cells, Pt.slots] at X74 l74 y74 z74 st74 hQ74
      subst l74 y74 z74
      obtain ⟨r74, rfl, hr74, N74q, eq74⟩ := hQ74
      have N74 := Fr.app N44 N74q
      obtain ⟨fs, hr, hrun, hended, hW, hsame⟩ := X74.leave (v := some (.int (1 : Int32))) (fun h => by rw [Bd.returns] at h; cases h)
      refine ⟨_, _, ?_, hrun, hended, _, _, rfl, ?_, ⟨_, rfl⟩, hW, hsame.mono (by decide) (by decide)⟩
      · show Steps p.tables e below (T44.setTop (mkF m 63 #[.val (.int p1), .val (.int p2), .val (.ref b1), .val (.ref b23), .val (.int (1 : Int32)), .unset, .unset] [(.int (1 : Int32))])) _
        refine XS.istore X44.here hx rfl (hb hby at_63) rfl (l' := #[.val (.int p1), .val (.int p2), .val (.ref b1), .val (.ref b23), .val (.int (1 : Int32)), .val (.int (1 : Int32)), .unset]) rfl ?_
        show Steps p.tables e below (T44.setTop (mkF m 65 #[.val (.int p1), .val (.int p2), .val (.ref b1), .val (.ref b23), .val (.int (1 : Int32)), .val (.int (1 : Int32)), .unset] [])) _
        refine XS.iload X44.here hx rfl (hb hby at_65) rfl ?_
        show Steps p.tables e below (T44.setTop (mkF m 67 #[.val (.int p1), .val (.int p2), .val (.ref b1), .val (.ref b23), .val (.int (1 : Int32)), .val (.int (1 : Int32)), .unset] [(.int (1 : Int32))])) _
        refine XS.iconst X44.here hx rfl (hb hby at_67) ?_
        show Steps p.tables e below (T44.setTop (mkF m 68 #[.val (.int p1), .val (.int p2), .val (.ref b1), .val (.ref b23), .val (.int (1 : Int32)), .val (.int (1 : Int32)), .unset] [(.int (3 : Int32)), (.int (1 : Int32))])) _
        refine XS.icmpYes X44.here hx rfl (pc0 := 68) (pc' := 77) rfl (hb hby at_68) rfl ((feq (by decide : ¬ ((1 : Int32) = (3 : Int32)))).2) (by decide) (by decide) ?_
        show Steps p.tables e below (T44.setTop (mkF m 77 #[.val (.int p1), .val (.int p2), .val (.ref b1), .val (.ref b23), .val (.int (1 : Int32)), .val (.int (1 : Int32)), .unset] [])) _
        refine XS.iload X44.here hx rfl (hb hby at_77) rfl ?_
        show Steps p.tables e below (T44.setTop (mkF m 79 #[.val (.int p1), .val (.int p2), .val (.ref b1), .val (.ref b23), .val (.int (1 : Int32)), .val (.int (1 : Int32)), .unset] [(.int (1 : Int32))])) _
        refine XS.ifYes X44.here hx rfl (pc0 := 79) (pc' := 97) rfl (hb hby at_79) rfl ((if0 _ _).trans (feq (by decide : ¬ ((1 : Int32) = (0 : Int32)))).2) (by decide) (by decide) ?_
        show Steps p.tables e below (T44.setTop (mkF m 97 #[.val (.int p1), .val (.int p2), .val (.ref b1), .val (.ref b23), .val (.int (1 : Int32)), .val (.int (1 : Int32)), .unset] [])) _
        refine XS.iload X44.here hx rfl (hb hby at_97) rfl ?_
        show Steps p.tables e below (T44.setTop (mkF m 99 #[.val (.int p1), .val (.int p2), .val (.ref b1), .val (.ref b23), .val (.int (1 : Int32)), .val (.int (1 : Int32)), .unset] [(.int (1 : Int32))])) _
        refine XS.iconst X44.here hx rfl (hb hby at_99) ?_
        show Steps p.tables e below (T44.setTop (mkF m 100 #[.val (.int p1), .val (.int p2), .val (.ref b1), .val (.ref b23), .val (.int (1 : Int32)), .val (.int (1 : Int32)), .unset] [(.int (1 : Int32)), (.int (1 : Int32))])) _
        refine XS.icmpNo X44.here hx rfl (hb hby at_100) rfl ((teq (by decide : (1 : Int32) = (1 : Int32))).2) ?_
        show Steps p.tables e below (T44.setTop (mkF m 103 #[.val (.int p1), .val (.int p2), .val (.ref b1), .val (.ref b23), .val (.int (1 : Int32)), .val (.int (1 : Int32)), .unset] [])) _
        refine XS.iload X44.here hx rfl (hb hby at_103) rfl ?_
        show Steps p.tables e below (T44.setTop (mkF m 105 #[.val (.int p1), .val (.int p2), .val (.ref b1), .val (.ref b23), .val (.int (1 : Int32)), .val (.int (1 : Int32)), .unset] [(.int (1 : Int32))])) _
        refine XS.iconst X44.here hx rfl (hb hby at_105) ?_
        show Steps p.tables e below (T44.setTop (mkF m 106 #[.val (.int p1), .val (.int p2), .val (.ref b1), .val (.ref b23), .val (.int (1 : Int32)), .val (.int (1 : Int32)), .unset] [(.int (1 : Int32)), (.int (1 : Int32))])) _
        refine XS.icmpNo X44.here hx rfl (hb hby at_106) rfl ((teq (by decide : (1 : Int32) = (1 : Int32))).2) ?_
        show Steps p.tables e below (T44.setTop (mkF m 109 #[.val (.int p1), .val (.int p2), .val (.ref b1), .val (.ref b23), .val (.int (1 : Int32)), .val (.int (1 : Int32)), .unset] [])) _
        refine XS.iconst X44.here hx rfl (hb hby at_109) ?_
        show Steps p.tables e below (T44.setTop (mkF m 110 #[.val (.int p1), .val (.int p2), .val (.ref b1), .val (.ref b23), .val (.int (1 : Int32)), .val (.int (1 : Int32)), .unset] [(.int (1 : Int32))])) _
        refine XS.goto X44.here hx rfl (pc0 := 110) (pc' := 114) rfl (hb hby at_110) (by decide) (by decide) ?_
        show Steps p.tables e below (T44.setTop (mkF m 114 #[.val (.int p1), .val (.int p2), .val (.ref b1), .val (.ref b23), .val (.int (1 : Int32)), .val (.int (1 : Int32)), .unset] [(.int (1 : Int32))])) _
        refine XS.istore X44.here hx rfl (hb hby at_114) rfl (l' := #[.val (.int p1), .val (.int p2), .val (.ref b1), .val (.ref b23), .val (.int (1 : Int32)), .val (.int (1 : Int32)), .val (.int (1 : Int32))]) rfl ?_
        show Steps p.tables e below (T44.setTop (mkF m 116 #[.val (.int p1), .val (.int p2), .val (.ref b1), .val (.ref b23), .val (.int (1 : Int32)), .val (.int (1 : Int32)), .val (.int (1 : Int32))] [])) _
        refine XS.goto X44.here hx rfl (pc0 := 116) (pc' := 132) rfl (hb hby at_116) (by decide) (by decide) ?_
        show Steps p.tables e below (T44.setTop (mkF m 132 #[.val (.int p1), .val (.int p2), .val (.ref b1), .val (.ref b23), .val (.int (1 : Int32)), .val (.int (1 : Int32)), .val (.int (1 : Int32))] [])) _
        refine XS.aloadN X44.here hx rfl (hb hby at_132) rfl rfl ?_
        show Steps p.tables e below (T44.setTop (mkF m 133 #[.val (.int p1), .val (.int p2), .val (.ref b1), .val (.ref b23), .val (.int (1 : Int32)), .val (.int (1 : Int32)), .val (.int (1 : Int32))] [(.ref b1)])) _
        refine XS.iload X44.here hx rfl (hb hby at_133) rfl ?_
        show Steps p.tables e below (T44.setTop (mkF m 135 #[.val (.int p1), .val (.int p2), .val (.ref b1), .val (.ref b23), .val (.int (1 : Int32)), .val (.int (1 : Int32)), .val (.int (1 : Int32))] [(.int (1 : Int32)), (.ref b1)])) _
        refine X44.aaload hx (j := (1 : Int32)) (v := (.ref o_HOPS_IMPORTER)) (by rw [e44]; exact Ar71.1) (State.isArrayOf_alike hZ.alike Ar71.2.1) rfl Ar71.2.2 hin71 hat71 (g := (mkF m 135 #[.val (.int p1), .val (.int p2), .val (.ref b1), .val (.ref b23), .val (.int (1 : Int32)), .val (.int (1 : Int32)), .val (.int (1 : Int32))] [(.int (1 : Int32)), (.ref b1)])) rfl rfl (hb hby at_135) _ ?_
        show Steps p.tables e below (T44.setTop (mkF m 136 #[.val (.int p1), .val (.int p2), .val (.ref b1), .val (.ref b23), .val (.int (1 : Int32)), .val (.int (1 : Int32)), .val (.int (1 : Int32))] [(.ref o_HOPS_IMPORTER)])) _
        refine XS.aloadN X44.here hx rfl (hb hby at_136) rfl rfl ?_
        show Steps p.tables e below (T44.setTop (mkF m 137 #[.val (.int p1), .val (.int p2), .val (.ref b1), .val (.ref b23), .val (.int (1 : Int32)), .val (.int (1 : Int32)), .val (.int (1 : Int32))] [(.ref b23), (.ref o_HOPS_IMPORTER)])) _
        refine XS.iload X44.here hx rfl (hb hby at_137) rfl ?_
        show Steps p.tables e below (T44.setTop (mkF m 139 #[.val (.int p1), .val (.int p2), .val (.ref b1), .val (.ref b23), .val (.int (1 : Int32)), .val (.int (1 : Int32)), .val (.int (1 : Int32))] [(.int (1 : Int32)), (.ref b23), (.ref o_HOPS_IMPORTER)])) _
        refine X44.aaload hx (j := (1 : Int32)) (v := (.ref o_HOPS)) (by rw [e44]; exact Ar73.1) (State.isArrayOf_alike hZ.alike Ar73.2.1) rfl Ar73.2.2 hin73 hat73 (g := (mkF m 139 #[.val (.int p1), .val (.int p2), .val (.ref b1), .val (.ref b23), .val (.int (1 : Int32)), .val (.int (1 : Int32)), .val (.int (1 : Int32))] [(.int (1 : Int32)), (.ref b23), (.ref o_HOPS_IMPORTER)])) rfl rfl (hb hby at_139) _ ?_
        show Steps p.tables e below (T44.setTop (mkF m 140 #[.val (.int p1), .val (.int p2), .val (.ref b1), .val (.ref b23), .val (.int (1 : Int32)), .val (.int (1 : Int32)), .val (.int (1 : Int32))] [(.ref o_HOPS), (.ref o_HOPS_IMPORTER)])) _
        refine st74.trans ?_
        show Steps p.tables e below (T74.setTop (mkF m 143 #[.val (.int p1), .val (.int p2), .val (.ref b1), .val (.ref b23), .val (.int (1 : Int32)), .val (.int (1 : Int32)), .val (.int (1 : Int32))] [(.int r74)])) _
        refine XS.iload X74.here hx rfl (hb hby at_143) rfl ?_
        show Steps p.tables e below (T74.setTop (mkF m 145 #[.val (.int p1), .val (.int p2), .val (.ref b1), .val (.ref b23), .val (.int (1 : Int32)), .val (.int (1 : Int32)), .val (.int (1 : Int32))] [(.int (1 : Int32)), (.int r74)])) _
        refine XS.icmpNo X74.here hx rfl (hb hby at_145) rfl ((teq (by rw [hr74, if_pos rfl] : r74 = (1 : Int32))).2) ?_
        show Steps p.tables e below (T74.setTop (mkF m 148 #[.val (.int p1), .val (.int p2), .val (.ref b1), .val (.ref b23), .val (.int (1 : Int32)), .val (.int (1 : Int32)), .val (.int (1 : Int32))] [])) _
        refine XS.iconst X74.here hx rfl (hb hby at_148) ?_
        show Steps p.tables e below (T74.setTop (mkF m 149 #[.val (.int p1), .val (.int p2), .val (.ref b1), .val (.ref b23), .val (.int (1 : Int32)), .val (.int (1 : Int32)), .val (.int (1 : Int32))] [(.int (1 : Int32))])) _
        refine XS.goto X74.here hx rfl (pc0 := 149) (pc' := 153) rfl (hb hby at_149) (by decide) (by decide) ?_
        show Steps p.tables e below (T74.setTop (mkF m 153 #[.val (.int p1), .val (.int p2), .val (.ref b1), .val (.ref b23), .val (.int (1 : Int32)), .val (.int (1 : Int32)), .val (.int (1 : Int32))] [(.int (1 : Int32))])) _
        exact retN X74 hx (t := .boolean) Bd.returns (by simp) (hb hby at_153) hr
      · exact ⟨rfl, N74⟩
    · rw [hk62]
      have f78 : AV Z h44 b1 k1 (.object "com/example/pipstill/pipstill/SixSidedStout$Assistant") 4 (updR (updR (updR (updR (fun _ => Value.null) 0 (.ref o_MALT_EXPERT)) 1 (.ref o_HOPS_IMPORTER)) 2 (.ref o_SCIENTIST)) 3 (.ref o_MASTER_BREWER)) := ((((V20.ext E23).other W34 ne_b1_b23).other W39 ne_b1_b23).other W44 ne_b1_b23)
      obtain ⟨cl77, Ar77, kc77, sz77, -, hv77⟩ := id f78
      have hin77 : ¬ ((1 : Int32) < 0 ∨ cl77.slots.size ≤ ((1 : Int32)).toNatClampNeg) := AV.inb sz77 (show ¬ (1 : Int32) < 0 ∧ ((1 : Int32)).toNatClampNeg < 4 by decide)
      have hat77 : cl77.slots[((1 : Int32)).toNatClampNeg]? = some (.ref o_HOPS_IMPORTER) := (hv77 _ (AV.inx (show ¬ (1 : Int32) < 0 ∧ ((1 : Int32)).toNatClampNeg < 4 by decide))).trans (congrArg some rfl)
      obtain ⟨cl79, Ar79, kc79, sz79, -, hv79⟩ := id V44
      have hin79 : ¬ ((2 : Int32) < 0 ∨ cl79.slots.size ≤ ((2 : Int32)).toNatClampNeg) := AV.inb sz79 (show ¬ (2 : Int32) < 0 ∧ ((2 : Int32)).toNatClampNeg < 3 by decide)
      have hat79 : cl79.slots[((2 : Int32)).toNatClampNeg]? = some (.ref o_YEAST) := (hv79 _ (AV.inx (show ¬ (2 : Int32) < 0 ∧ ((2 : Int32)).toNatClampNeg < 3 by decide))).trans (congrArg some rfl)
      have f81 : Fld Z h44 o_HOPS_IMPORTER "com/example/pipstill/pipstill/SixSidedStout$Assistant" "ware" "Lcom/example/pipstill/pipstill/SixSidedStout$Ware;" (.ref o_HOPS) := (((((((((F_ware_o_HOPS_IMPORTER.ext E1).other W5 (Or.inl ne_o_HOPS_IMPORTER_b1)).other W10 (Or.inl ne_o_HOPS_IMPORTER_b1)).other W15 (Or.inl ne_o_HOPS_IMPORTER_b1)).other W20 (Or.inl ne_o_HOPS_IMPORTER_b1)).ext E23).other W34 (Or.inl ne_o_HOPS_IMPORTER_b23)).other W39 (Or.inl ne_o_HOPS_IMPORTER_b23)).other W44 (Or.inl ne_o_HOPS_IMPORTER_b23))
      have f82 : Exa Z h44 o_HOPS_IMPORTER "com/example/pipstill/pipstill/SixSidedStout$Assistant" := ((((f25.ext E23).wr W34).wr W39).wr W44)
      obtain ⟨cq80, kq80, q80a, q80b, q80c⟩ := isOf hZ e44 f82
      obtain ⟨_, _, ⟨T80, L80, k80, n80⟩, -, X80, ⟨Lc80, hQ80, l80, y80, z80⟩, st80⟩ := X44.virtualBack hx (y := (⟨"com/example/pipstill/pipstill/SixSidedStout$Assistant", "serves", "(Lcom/example/pipstill/pipstill/SixSidedStout$Ware;)Z"⟩ : MethodName)) (z := (⟨"com/example/pipstill/pipstill/SixSidedStout$Assistant", "serves", "(Lcom/example/pipstill/pipstill/SixSidedStout$Ware;)Z"⟩ : MethodName)) hown (mvT hZ (hw _ (List.mem_of_getElem? (i := 23) rfl))) (mvT hZ (hw _ (List.mem_of_getElem? (i := 24) rfl))) (notFace_of_selects (args := #[]) (mvT hZ (hw _ (List.mem_of_getElem? (i := 26) rfl)))) (mvT hZ (hw _ (List.mem_of_getElem? (i := 26) rfl))) (mvT hZ (hw _ (List.mem_of_getElem? (i := 25) rfl))) (by decide) (backOf (W := 0) (rm1r l Z a0 hw [] o_HOPS_IMPORTER o_YEAST o_HOPS h44 n0 z46 f81) hZ (hw _ (List.mem_of_getElem? (i := 27) rfl)) (hw _ (List.mem_of_getElem? (i := 3) rfl)) (by decide) (by decide)) q80a q80c (g := (mkF m 140 #[.val (.int p1), .val (.int p2), .val (.ref b1), .val (.ref b23), .val (.int (1 : Int32)), .val (.int (2 : Int32)), .val (.int (0 : Int32))] [(.ref o_YEAST), (.ref o_HOPS_IMPORTER)])) rfl (by rw [hml]; rfl) (Steps.refl _) (argsL := [(.ref o_YEAST)]) (rest := []) (lenOf pd_0 rfl) rfl (by show 2 * 0 + _ ≤ _; exact Nat.le_of_eq rfl) (hb hby at_140) (fun _ _ => ⟨rfl, e44, (by decide : 2 + 0 ≤ _), (by decide : 7 + 0 ≤ _)⟩)
      dsimp only [Pt.U, Pt.locs, Pt.cells, Pt.slots] at X80 l80 y80 z80 st80 hQ80
      subst l80 y80 z80
      obtain ⟨r80, rfl, hr80, N80q, eq80⟩ := hQ80
      have N80 := Fr.app N44 N80q
      obtain ⟨fs, hr, hrun, hended, hW, hsame⟩ := X80.leave (v := some (.int (1 : Int32))) (fun h => by rw [Bd.returns] at h; cases h)
      refine ⟨_, _, ?_, hrun, hended, _, _, rfl, ?_, ⟨_, rfl⟩, hW, hsame.mono (by decide) (by decide)⟩
      · show Steps p.tables e below (T44.setTop (mkF m 63 #[.val (.int p1), .val (.int p2), .val (.ref b1), .val (.ref b23), .val (.int (1 : Int32)), .unset, .unset] [(.int (2 : Int32))])) _
        refine XS.istore X44.here hx rfl (hb hby at_63) rfl (l' := #[.val (.int p1), .val (.int p2), .val (.ref b1), .val (.ref b23), .val (.int (1 : Int32)), .val (.int (2 : Int32)), .unset]) rfl ?_
        show Steps p.tables e below (T44.setTop (mkF m 65 #[.val (.int p1), .val (.int p2), .val (.ref b1), .val (.ref b23), .val (.int (1 : Int32)), .val (.int (2 : Int32)), .unset] [])) _
        refine XS.iload X44.here hx rfl (hb hby at_65) rfl ?_
        show Steps p.tables e below (T44.setTop (mkF m 67 #[.val (.int p1), .val (.int p2), .val (.ref b1), .val (.ref b23), .val (.int (1 : Int32)), .val (.int (2 : Int32)), .unset] [(.int (1 : Int32))])) _
        refine XS.iconst X44.here hx rfl (hb hby at_67) ?_
        show Steps p.tables e below (T44.setTop (mkF m 68 #[.val (.int p1), .val (.int p2), .val (.ref b1), .val (.ref b23), .val (.int (1 : Int32)), .val (.int (2 : Int32)), .unset] [(.int (3 : Int32)), (.int (1 : Int32))])) _
        refine XS.icmpYes X44.here hx rfl (pc0 := 68) (pc' := 77) rfl (hb hby at_68) rfl ((feq (by decide : ¬ ((1 : Int32) = (3 : Int32)))).2) (by decide) (by decide) ?_
        show Steps p.tables e below (T44.setTop (mkF m 77 #[.val (.int p1), .val (.int p2), .val (.ref b1), .val (.ref b23), .val (.int (1 : Int32)), .val (.int (2 : Int32)), .unset] [])) _
        refine XS.iload X44.here hx rfl (hb hby at_77) rfl ?_
        show Steps p.tables e below (T44.setTop (mkF m 79 #[.val (.int p1), .val (.int p2), .val (.ref b1), .val (.ref b23), .val (.int (1 : Int32)), .val (.int (2 : Int32)), .unset] [(.int (1 : Int32))])) _
        refine XS.ifYes X44.here hx rfl (pc0 := 79) (pc' := 97) rfl (hb hby at_79) rfl ((if0 _ _).trans (feq (by decide : ¬ ((1 : Int32) = (0 : Int32)))).2) (by decide) (by decide) ?_
        show Steps p.tables e below (T44.setTop (mkF m 97 #[.val (.int p1), .val (.int p2), .val (.ref b1), .val (.ref b23), .val (.int (1 : Int32)), .val (.int (2 : Int32)), .unset] [])) _
        refine XS.iload X44.here hx rfl (hb hby at_97) rfl ?_
        show Steps p.tables e below (T44.setTop (mkF m 99 #[.val (.int p1), .val (.int p2), .val (.ref b1), .val (.ref b23), .val (.int (1 : Int32)), .val (.int (2 : Int32)), .unset] [(.int (1 : Int32))])) _
        refine XS.iconst X44.here hx rfl (hb hby at_99) ?_
        show Steps p.tables e below (T44.setTop (mkF m 100 #[.val (.int p1), .val (.int p2), .val (.ref b1), .val (.ref b23), .val (.int (1 : Int32)), .val (.int (2 : Int32)), .unset] [(.int (1 : Int32)), (.int (1 : Int32))])) _
        refine XS.icmpNo X44.here hx rfl (hb hby at_100) rfl ((teq (by decide : (1 : Int32) = (1 : Int32))).2) ?_
        show Steps p.tables e below (T44.setTop (mkF m 103 #[.val (.int p1), .val (.int p2), .val (.ref b1), .val (.ref b23), .val (.int (1 : Int32)), .val (.int (2 : Int32)), .unset] [])) _
        refine XS.iload X44.here hx rfl (hb hby at_103) rfl ?_
        show Steps p.tables e below (T44.setTop (mkF m 105 #[.val (.int p1), .val (.int p2), .val (.ref b1), .val (.ref b23), .val (.int (1 : Int32)), .val (.int (2 : Int32)), .unset] [(.int (2 : Int32))])) _
        refine XS.iconst X44.here hx rfl (hb hby at_105) ?_
        show Steps p.tables e below (T44.setTop (mkF m 106 #[.val (.int p1), .val (.int p2), .val (.ref b1), .val (.ref b23), .val (.int (1 : Int32)), .val (.int (2 : Int32)), .unset] [(.int (1 : Int32)), (.int (2 : Int32))])) _
        refine XS.icmpYes X44.here hx rfl (pc0 := 106) (pc' := 113) rfl (hb hby at_106) rfl ((feq (by decide : ¬ ((2 : Int32) = (1 : Int32)))).2) (by decide) (by decide) ?_
        show Steps p.tables e below (T44.setTop (mkF m 113 #[.val (.int p1), .val (.int p2), .val (.ref b1), .val (.ref b23), .val (.int (1 : Int32)), .val (.int (2 : Int32)), .unset] [])) _
        refine XS.iconst X44.here hx rfl (hb hby at_113) ?_
        show Steps p.tables e below (T44.setTop (mkF m 114 #[.val (.int p1), .val (.int p2), .val (.ref b1), .val (.ref b23), .val (.int (1 : Int32)), .val (.int (2 : Int32)), .unset] [(.int (0 : Int32))])) _
        refine XS.istore X44.here hx rfl (hb hby at_114) rfl (l' := #[.val (.int p1), .val (.int p2), .val (.ref b1), .val (.ref b23), .val (.int (1 : Int32)), .val (.int (2 : Int32)), .val (.int (0 : Int32))]) rfl ?_
        show Steps p.tables e below (T44.setTop (mkF m 116 #[.val (.int p1), .val (.int p2), .val (.ref b1), .val (.ref b23), .val (.int (1 : Int32)), .val (.int (2 : Int32)), .val (.int (0 : Int32))] [])) _
        refine XS.goto X44.here hx rfl (pc0 := 116) (pc' := 132) rfl (hb hby at_116) (by decide) (by decide) ?_
        show Steps p.tables e below (T44.setTop (mkF m 132 #[.val (.int p1), .val (.int p2), .val (.ref b1), .val (.ref b23), .val (.int (1 : Int32)), .val (.int (2 : Int32)), .val (.int (0 : Int32))] [])) _
        refine XS.aloadN X44.here hx rfl (hb hby at_132) rfl rfl ?_
        show Steps p.tables e below (T44.setTop (mkF m 133 #[.val (.int p1), .val (.int p2), .val (.ref b1), .val (.ref b23), .val (.int (1 : Int32)), .val (.int (2 : Int32)), .val (.int (0 : Int32))] [(.ref b1)])) _
        refine XS.iload X44.here hx rfl (hb hby at_133) rfl ?_
        show Steps p.tables e below (T44.setTop (mkF m 135 #[.val (.int p1), .val (.int p2), .val (.ref b1), .val (.ref b23), .val (.int (1 : Int32)), .val (.int (2 : Int32)), .val (.int (0 : Int32))] [(.int (1 : Int32)), (.ref b1)])) _
        refine X44.aaload hx (j := (1 : Int32)) (v := (.ref o_HOPS_IMPORTER)) (by rw [e44]; exact Ar77.1) (State.isArrayOf_alike hZ.alike Ar77.2.1) rfl Ar77.2.2 hin77 hat77 (g := (mkF m 135 #[.val (.int p1), .val (.int p2), .val (.ref b1), .val (.ref b23), .val (.int (1 : Int32)), .val (.int (2 : Int32)), .val (.int (0 : Int32))] [(.int (1 : Int32)), (.ref b1)])) rfl rfl (hb hby at_135) _ ?_
        show Steps p.tables e below (T44.setTop (mkF m 136 #[.val (.int p1), .val (.int p2), .val (.ref b1), .val (.ref b23), .val (.int (1 : Int32)), .val (.int (2 : Int32)), .val (.int (0 : Int32))] [(.ref o_HOPS_IMPORTER)])) _
        refine XS.aloadN X44.here hx rfl (hb hby at_136) rfl rfl ?_
        show Steps p.tables e below (T44.setTop (mkF m 137 #[.val (.int p1), .val (.int p2), .val (.ref b1), .val (.ref b23), .val (.int (1 : Int32)), .val (.int (2 : Int32)), .val (.int (0 : Int32))] [(.ref b23), (.ref o_HOPS_IMPORTER)])) _
        refine XS.iload X44.here hx rfl (hb hby at_137) rfl ?_
        show Steps p.tables e below (T44.setTop (mkF m 139 #[.val (.int p1), .val (.int p2), .val (.ref b1), .val (.ref b23), .val (.int (1 : Int32)), .val (.int (2 : Int32)), .val (.int (0 : Int32))] [(.int (2 : Int32)), (.ref b23), (.ref o_HOPS_IMPORTER)])) _
        refine X44.aaload hx (j := (2 : Int32)) (v := (.ref o_YEAST)) (by rw [e44]; exact Ar79.1) (State.isArrayOf_alike hZ.alike Ar79.2.1) rfl Ar79.2.2 hin79 hat79 (g := (mkF m 139 #[.val (.int p1), .val (.int p2), .val (.ref b1), .val (.ref b23), .val (.int (1 : Int32)), .val (.int (2 : Int32)), .val (.int (0 : Int32))] [(.int (2 : Int32)), (.ref b23), (.ref o_HOPS_IMPORTER)])) rfl rfl (hb hby at_139) _ ?_
        show Steps p.tables e below (T44.setTop (mkF m 140 #[.val (.int p1), .val (.int p2), .val (.ref b1), .val (.ref b23), .val (.int (1 : Int32)), .val (.int (2 : Int32)), .val (.int (0 : Int32))] [(.ref o_YEAST), (.ref o_HOPS_IMPORTER)])) _
        refine st80.trans ?_
        show Steps p.tables e below (T80.setTop (mkF m 143 #[.val (.int p1), .val (.int p2), .val (.ref b1), .val (.ref b23), .val (.int (1 : Int32)), .val (.int (2 : Int32)), .val (.int (0 : Int32))] [(.int r80)])) _
        refine XS.iload X80.here hx rfl (hb hby at_143) rfl ?_
        show Steps p.tables e below (T80.setTop (mkF m 145 #[.val (.int p1), .val (.int p2), .val (.ref b1), .val (.ref b23), .val (.int (1 : Int32)), .val (.int (2 : Int32)), .val (.int (0 : Int32))] [(.int (0 : Int32)), (.int r80)])) _
        refine XS.icmpNo X80.here hx rfl (hb hby at_145) rfl ((teq (by rw [hr80, if_neg (Ne.symm ne_o_YEAST_o_HOPS)] : r80 = (0 : Int32))).2) ?_
        show Steps p.tables e below (T80.setTop (mkF m 148 #[.val (.int p1), .val (.int p2), .val (.ref b1), .val (.ref b23), .val (.int (1 : Int32)), .val (.int (2 : Int32)), .val (.int (0 : Int32))] [])) _
        refine XS.iconst X80.here hx rfl (hb hby at_148) ?_
        show Steps p.tables e below (T80.setTop (mkF m 149 #[.val (.int p1), .val (.int p2), .val (.ref b1), .val (.ref b23), .val (.int (1 : Int32)), .val (.int (2 : Int32)), .val (.int (0 : Int32))] [(.int (1 : Int32))])) _
        refine XS.goto X80.here hx rfl (pc0 := 149) (pc' := 153) rfl (hb hby at_149) (by decide) (by decide) ?_
        show Steps p.tables e below (T80.setTop (mkF m 153 #[.val (.int p1), .val (.int p2), .val (.ref b1), .val (.ref b23), .val (.int (1 : Int32)), .val (.int (2 : Int32)), .val (.int (0 : Int32))] [(.int (1 : Int32))])) _
        exact retN X80 hx (t := .boolean) Bd.returns (by simp) (hb hby at_153) hr
      · exact ⟨rfl, N80⟩
  · rw [hk54]
    refine GoalS.lift (B := (T44.setTop (mkF m 63 #[.val (.int p1), .val (.int p2), .val (.ref b1), .val (.ref b23), .val (.int (2 : Int32)), .unset, .unset] [(.int ((p2 &&& (2147483647 : Int32)) % (3 : Int32)))]))) (fun t k => ?_) ?_
    · show Steps p.tables e below (T44.setTop (mkF m 55 #[.val (.int p1), .val (.int p2), .val (.ref b1), .val (.ref b23), .unset, .unset, .unset] [(.int (2 : Int32))])) _
      refine XS.istore X44.here hx rfl (hb hby at_55) rfl (l' := #[.val (.int p1), .val (.int p2), .val (.ref b1), .val (.ref b23), .val (.int (2 : Int32)), .unset, .unset]) rfl ?_
      show Steps p.tables e below (T44.setTop (mkF m 57 #[.val (.int p1), .val (.int p2), .val (.ref b1), .val (.ref b23), .val (.int (2 : Int32)), .unset, .unset] [])) _
      refine XS.iloadN X44.here hx rfl (hb hby at_57) rfl ?_
      show Steps p.tables e below (T44.setTop (mkF m 58 #[.val (.int p1), .val (.int p2), .val (.ref b1), .val (.ref b23), .val (.int (2 : Int32)), .unset, .unset] [(.int p2)])) _
      refine X44.ldcInt hx hown (mvT hZ (hw _ (List.mem_of_getElem? (i := 22) rfl))) (g := (mkF m 58 #[.val (.int p1), .val (.int p2), .val (.ref b1), .val (.ref b23), .val (.int (2 : Int32)), .unset, .unset] [(.int p2)])) rfl (hb hby at_58) _ ?_
      show Steps p.tables e below (T44.setTop (mkF m 60 #[.val (.int p1), .val (.int p2), .val (.ref b1), .val (.ref b23), .val (.int (2 : Int32)), .unset, .unset] [(.int (2147483647 : Int32)), (.int p2)])) _
      refine XS.iand X44.here hx rfl (hb hby at_60) rfl ?_
      show Steps p.tables e below (T44.setTop (mkF m 61 #[.val (.int p1), .val (.int p2), .val (.ref b1), .val (.ref b23), .val (.int (2 : Int32)), .unset, .unset] [(.int (p2 &&& (2147483647 : Int32)))])) _
      refine XS.iconst X44.here hx rfl (hb hby at_61) ?_
      show Steps p.tables e below (T44.setTop (mkF m 62 #[.val (.int p1), .val (.int p2), .val (.ref b1), .val (.ref b23), .val (.int (2 : Int32)), .unset, .unset] [(.int (3 : Int32)), (.int (p2 &&& (2147483647 : Int32)))])) _
      refine iremM X44 hx rfl (hb hby at_62) rfl (by decide) ?_
      exact k
    rcases own_three p2 with hk62 | hk62 | hk62
    · rw [hk62]
      have f84 : AV Z h44 b1 k1 (.object "com/example/pipstill/pipstill/SixSidedStout$Assistant") 4 (updR (updR (updR (updR (fun _ => Value.null) 0 (.ref o_MALT_EXPERT)) 1 (.ref o_HOPS_IMPORTER)) 2 (.ref o_SCIENTIST)) 3 (.ref o_MASTER_BREWER)) := ((((V20.ext E23).other W34 ne_b1_b23).other W39 ne_b1_b23).other W44 ne_b1_b23)
      obtain ⟨cl83, Ar83, kc83, sz83, -, hv83⟩ := id f84
      have hin83 : ¬ ((2 : Int32) < 0 ∨ cl83.slots.size ≤ ((2 : Int32)).toNatClampNeg) := AV.inb sz83 (show ¬ (2 : Int32) < 0 ∧ ((2 : Int32)).toNatClampNeg < 4 by decide)
      have hat83 : cl83.slots[((2 : Int32)).toNatClampNeg]? = some (.ref o_SCIENTIST) := (hv83 _ (AV.inx (show ¬ (2 : Int32) < 0 ∧ ((2 : Int32)).toNatClampNeg < 4 by decide))).trans (congrArg some rfl)
      obtain ⟨cl85, Ar85, kc85, sz85, -, hv85⟩ := id V44
      have hin85 : ¬ ((0 : Int32) < 0 ∨ cl85.slots.size ≤ ((0 : Int32)).toNatClampNeg) := AV.inb sz85 (show ¬ (0 : Int32) < 0 ∧ ((0 : Int32)).toNatClampNeg < 3 by decide)
      have hat85 : cl85.slots[((0 : Int32)).toNatClampNeg]? = some (.ref o_MALT) := (hv85 _ (AV.inx (show ¬ (0 : Int32) < 0 ∧ ((0 : Int32)).toNatClampNeg < 3 by decide))).trans (congrArg some rfl)
      have f87 : Fld Z h44 o_SCIENTIST "com/example/pipstill/pipstill/SixSidedStout$Assistant" "ware" "Lcom/example/pipstill/pipstill/SixSidedStout$Ware;" (.ref o_YEAST) := (((((((((F_ware_o_SCIENTIST.ext E1).other W5 (Or.inl ne_o_SCIENTIST_b1)).other W10 (Or.inl ne_o_SCIENTIST_b1)).other W15 (Or.inl ne_o_SCIENTIST_b1)).other W20 (Or.inl ne_o_SCIENTIST_b1)).ext E23).other W34 (Or.inl ne_o_SCIENTIST_b23)).other W39 (Or.inl ne_o_SCIENTIST_b23)).other W44 (Or.inl ne_o_SCIENTIST_b23))
      have f88 : Exa Z h44 o_SCIENTIST "com/example/pipstill/pipstill/SixSidedStout$Assistant" := ((((f26.ext E23).wr W34).wr W39).wr W44)
      obtain ⟨cq86, kq86, q86a, q86b, q86c⟩ := isOf hZ e44 f88
      obtain ⟨_, _, ⟨T86, L86, k86, n86⟩, -, X86, ⟨Lc86, hQ86, l86, y86, z86⟩, st86⟩ := X44.virtualBack hx (y := (⟨"com/example/pipstill/pipstill/SixSidedStout$Assistant", "serves", "(Lcom/example/pipstill/pipstill/SixSidedStout$Ware;)Z"⟩ : MethodName)) (z := (⟨"com/example/pipstill/pipstill/SixSidedStout$Assistant", "serves", "(Lcom/example/pipstill/pipstill/SixSidedStout$Ware;)Z"⟩ : MethodName)) hown (mvT hZ (hw _ (List.mem_of_getElem? (i := 23) rfl))) (mvT hZ (hw _ (List.mem_of_getElem? (i := 24) rfl))) (notFace_of_selects (args := #[]) (mvT hZ (hw _ (List.mem_of_getElem? (i := 26) rfl)))) (mvT hZ (hw _ (List.mem_of_getElem? (i := 26) rfl))) (mvT hZ (hw _ (List.mem_of_getElem? (i := 25) rfl))) (by decide) (backOf (W := 0) (rm1r l Z a0 hw [] o_SCIENTIST o_MALT o_YEAST h44 n0 z46 f87) hZ (hw _ (List.mem_of_getElem? (i := 27) rfl)) (hw _ (List.mem_of_getElem? (i := 3) rfl)) (by decide) (by decide)) q86a q86c (g := (mkF m 140 #[.val (.int p1), .val (.int p2), .val (.ref b1), .val (.ref b23), .val (.int (2 : Int32)), .val (.int (0 : Int32)), .val (.int (0 : Int32))] [(.ref o_MALT), (.ref o_SCIENTIST)])) rfl (by rw [hml]; rfl) (Steps.refl _) (argsL := [(.ref o_MALT)]) (rest := []) (lenOf pd_0 rfl) rfl (by show 2 * 0 + _ ≤ _; exact Nat.le_of_eq rfl) (hb hby at_140) (fun _ _ => ⟨rfl, e44, (by decide : 2 + 0 ≤ _), (by decide : 7 + 0 ≤ _)⟩)
      dsimp only [Pt.U, Pt.locs, Pt.cells, Pt.slots] at X86 l86 y86 z86 st86 hQ86
      subst l86 y86 z86
      obtain ⟨r86, rfl, hr86, N86q, eq86⟩ := hQ86
      have N86 := Fr.app N44 N86q
      obtain ⟨fs, hr, hrun, hended, hW, hsame⟩ := X86.leave (v := some (.int (1 : Int32))) (fun h => by rw [Bd.returns] at h; cases h)
      refine ⟨_, _, ?_, hrun, hended, _, _, rfl, ?_, ⟨_, rfl⟩, hW, hsame.mono (by decide) (by decide)⟩
      · show Steps p.tables e below (T44.setTop (mkF m 63 #[.val (.int p1), .val (.int p2), .val (.ref b1), .val (.ref b23), .val (.int (2 : Int32)), .unset, .unset] [(.int (0 : Int32))])) _
        refine XS.istore X44.here hx rfl (hb hby at_63) rfl (l' := #[.val (.int p1), .val (.int p2), .val (.ref b1), .val (.ref b23), .val (.int (2 : Int32)), .val (.int (0 : Int32)), .unset]) rfl ?_
        show Steps p.tables e below (T44.setTop (mkF m 65 #[.val (.int p1), .val (.int p2), .val (.ref b1), .val (.ref b23), .val (.int (2 : Int32)), .val (.int (0 : Int32)), .unset] [])) _
        refine XS.iload X44.here hx rfl (hb hby at_65) rfl ?_
        show Steps p.tables e below (T44.setTop (mkF m 67 #[.val (.int p1), .val (.int p2), .val (.ref b1), .val (.ref b23), .val (.int (2 : Int32)), .val (.int (0 : Int32)), .unset] [(.int (2 : Int32))])) _
        refine XS.iconst X44.here hx rfl (hb hby at_67) ?_
        show Steps p.tables e below (T44.setTop (mkF m 68 #[.val (.int p1), .val (.int p2), .val (.ref b1), .val (.ref b23), .val (.int (2 : Int32)), .val (.int (0 : Int32)), .unset] [(.int (3 : Int32)), (.int (2 : Int32))])) _
        refine XS.icmpYes X44.here hx rfl (pc0 := 68) (pc' := 77) rfl (hb hby at_68) rfl ((feq (by decide : ¬ ((2 : Int32) = (3 : Int32)))).2) (by decide) (by decide) ?_
        show Steps p.tables e below (T44.setTop (mkF m 77 #[.val (.int p1), .val (.int p2), .val (.ref b1), .val (.ref b23), .val (.int (2 : Int32)), .val (.int (0 : Int32)), .unset] [])) _
        refine XS.iload X44.here hx rfl (hb hby at_77) rfl ?_
        show Steps p.tables e below (T44.setTop (mkF m 79 #[.val (.int p1), .val (.int p2), .val (.ref b1), .val (.ref b23), .val (.int (2 : Int32)), .val (.int (0 : Int32)), .unset] [(.int (2 : Int32))])) _
        refine XS.ifYes X44.here hx rfl (pc0 := 79) (pc' := 97) rfl (hb hby at_79) rfl ((if0 _ _).trans (feq (by decide : ¬ ((2 : Int32) = (0 : Int32)))).2) (by decide) (by decide) ?_
        show Steps p.tables e below (T44.setTop (mkF m 97 #[.val (.int p1), .val (.int p2), .val (.ref b1), .val (.ref b23), .val (.int (2 : Int32)), .val (.int (0 : Int32)), .unset] [])) _
        refine XS.iload X44.here hx rfl (hb hby at_97) rfl ?_
        show Steps p.tables e below (T44.setTop (mkF m 99 #[.val (.int p1), .val (.int p2), .val (.ref b1), .val (.ref b23), .val (.int (2 : Int32)), .val (.int (0 : Int32)), .unset] [(.int (2 : Int32))])) _
        refine XS.iconst X44.here hx rfl (hb hby at_99) ?_
        show Steps p.tables e below (T44.setTop (mkF m 100 #[.val (.int p1), .val (.int p2), .val (.ref b1), .val (.ref b23), .val (.int (2 : Int32)), .val (.int (0 : Int32)), .unset] [(.int (1 : Int32)), (.int (2 : Int32))])) _
        refine XS.icmpYes X44.here hx rfl (pc0 := 100) (pc' := 119) rfl (hb hby at_100) rfl ((feq (by decide : ¬ ((2 : Int32) = (1 : Int32)))).2) (by decide) (by decide) ?_
        show Steps p.tables e below (T44.setTop (mkF m 119 #[.val (.int p1), .val (.int p2), .val (.ref b1), .val (.ref b23), .val (.int (2 : Int32)), .val (.int (0 : Int32)), .unset] [])) _
        refine XS.iload X44.here hx rfl (hb hby at_119) rfl ?_
        show Steps p.tables e below (T44.setTop (mkF m 121 #[.val (.int p1), .val (.int p2), .val (.ref b1), .val (.ref b23), .val (.int (2 : Int32)), .val (.int (0 : Int32)), .unset] [(.int (0 : Int32))])) _
        refine XS.iconst X44.here hx rfl (hb hby at_121) ?_
        show Steps p.tables e below (T44.setTop (mkF m 122 #[.val (.int p1), .val (.int p2), .val (.ref b1), .val (.ref b23), .val (.int (2 : Int32)), .val (.int (0 : Int32)), .unset] [(.int (2 : Int32)), (.int (0 : Int32))])) _
        refine XS.icmpYes X44.here hx rfl (pc0 := 122) (pc' := 129) rfl (hb hby at_122) rfl ((feq (by decide : ¬ ((0 : Int32) = (2 : Int32)))).2) (by decide) (by decide) ?_
        show Steps p.tables e below (T44.setTop (mkF m 129 #[.val (.int p1), .val (.int p2), .val (.ref b1), .val (.ref b23), .val (.int (2 : Int32)), .val (.int (0 : Int32)), .unset] [])) _
        refine XS.iconst X44.here hx rfl (hb hby at_129) ?_
        show Steps p.tables e below (T44.setTop (mkF m 130 #[.val (.int p1), .val (.int p2), .val (.ref b1), .val (.ref b23), .val (.int (2 : Int32)), .val (.int (0 : Int32)), .unset] [(.int (0 : Int32))])) _
        refine XS.istore X44.here hx rfl (hb hby at_130) rfl (l' := #[.val (.int p1), .val (.int p2), .val (.ref b1), .val (.ref b23), .val (.int (2 : Int32)), .val (.int (0 : Int32)), .val (.int (0 : Int32))]) rfl ?_
        show Steps p.tables e below (T44.setTop (mkF m 132 #[.val (.int p1), .val (.int p2), .val (.ref b1), .val (.ref b23), .val (.int (2 : Int32)), .val (.int (0 : Int32)), .val (.int (0 : Int32))] [])) _
        refine XS.aloadN X44.here hx rfl (hb hby at_132) rfl rfl ?_
        show Steps p.tables e below (T44.setTop (mkF m 133 #[.val (.int p1), .val (.int p2), .val (.ref b1), .val (.ref b23), .val (.int (2 : Int32)), .val (.int (0 : Int32)), .val (.int (0 : Int32))] [(.ref b1)])) _
        refine XS.iload X44.here hx rfl (hb hby at_133) rfl ?_
        show Steps p.tables e below (T44.setTop (mkF m 135 #[.val (.int p1), .val (.int p2), .val (.ref b1), .val (.ref b23), .val (.int (2 : Int32)), .val (.int (0 : Int32)), .val (.int (0 : Int32))] [(.int (2 : Int32)), (.ref b1)])) _
        refine X44.aaload hx (j := (2 : Int32)) (v := (.ref o_SCIENTIST)) (by rw [e44]; exact Ar83.1) (State.isArrayOf_alike hZ.alike Ar83.2.1) rfl Ar83.2.2 hin83 hat83 (g := (mkF m 135 #[.val (.int p1), .val (.int p2), .val (.ref b1), .val (.ref b23), .val (.int (2 : Int32)), .val (.int (0 : Int32)), .val (.int (0 : Int32))] [(.int (2 : Int32)), (.ref b1)])) rfl rfl (hb hby at_135) _ ?_
        show Steps p.tables e below (T44.setTop (mkF m 136 #[.val (.int p1), .val (.int p2), .val (.ref b1), .val (.ref b23), .val (.int (2 : Int32)), .val (.int (0 : Int32)), .val (.int (0 : Int32))] [(.ref o_SCIENTIST)])) _
        refine XS.aloadN X44.here hx rfl (hb hby at_136) rfl rfl ?_
        show Steps p.tables e below (T44.setTop (mkF m 137 #[.val (.int p1), .val (.int p2), .val (.ref b1), .val (.ref b23), .val (.int (2 : Int32)), .val (.int (0 : Int32)), .val (.int (0 : Int32))] [(.ref b23), (.ref o_SCIENTIST)])) _
        refine XS.iload X44.here hx rfl (hb hby at_137) rfl ?_
        show Steps p.tables e below (T44.setTop (mkF m 139 #[.val (.int p1), .val (.int p2), .val (.ref b1), .val (.ref b23), .val (.int (2 : Int32)), .val (.int (0 : Int32)), .val (.int (0 : Int32))] [(.int (0 : Int32)), (.ref b23), (.ref o_SCIENTIST)])) _
        refine X44.aaload hx (j := (0 : Int32)) (v := (.ref o_MALT)) (by rw [e44]; exact Ar85.1) (State.isArrayOf_alike hZ.alike Ar85.2.1) rfl Ar85.2.2 hin85 hat85 (g := (mkF m 139 #[.val (.int p1), .val (.int p2), .val (.ref b1), .val (.ref b23), .val (.int (2 : Int32)), .val (.int (0 : Int32)), .val (.int (0 : Int32))] [(.int (0 : Int32)), (.ref b23), (.ref o_SCIENTIST)])) rfl rfl (hb hby at_139) _ ?_
        show Steps p.tables e below (T44.setTop (mkF m 140 #[.val (.int p1), .val (.int p2), .val (.ref b1), .val (.ref b23), .val (.int (2 : Int32)), .val (.int (0 : Int32)), .val (.int (0 : Int32))] [(.ref o_MALT), (.ref o_SCIENTIST)])) _
        refine st86.trans ?_
        show Steps p.tables e below (T86.setTop (mkF m 143 #[.val (.int p1), .val (.int p2), .val (.ref b1), .val (.ref b23), .val (.int (2 : Int32)), .val (.int (0 : Int32)), .val (.int (0 : Int32))] [(.int r86)])) _
        refine XS.iload X86.here hx rfl (hb hby at_143) rfl ?_
        show Steps p.tables e below (T86.setTop (mkF m 145 #[.val (.int p1), .val (.int p2), .val (.ref b1), .val (.ref b23), .val (.int (2 : Int32)), .val (.int (0 : Int32)), .val (.int (0 : Int32))] [(.int (0 : Int32)), (.int r86)])) _
        refine XS.icmpNo X86.here hx rfl (hb hby at_145) rfl ((teq (by rw [hr86, if_neg ne_o_YEAST_o_MALT] : r86 = (0 : Int32))).2) ?_
        show Steps p.tables e below (T86.setTop (mkF m 148 #[.val (.int p1), .val (.int p2), .val (.ref b1), .val (.ref b23), .val (.int (2 : Int32)), .val (.int (0 : Int32)), .val (.int (0 : Int32))] [])) _
        refine XS.iconst X86.here hx rfl (hb hby at_148) ?_
        show Steps p.tables e below (T86.setTop (mkF m 149 #[.val (.int p1), .val (.int p2), .val (.ref b1), .val (.ref b23), .val (.int (2 : Int32)), .val (.int (0 : Int32)), .val (.int (0 : Int32))] [(.int (1 : Int32))])) _
        refine XS.goto X86.here hx rfl (pc0 := 149) (pc' := 153) rfl (hb hby at_149) (by decide) (by decide) ?_
        show Steps p.tables e below (T86.setTop (mkF m 153 #[.val (.int p1), .val (.int p2), .val (.ref b1), .val (.ref b23), .val (.int (2 : Int32)), .val (.int (0 : Int32)), .val (.int (0 : Int32))] [(.int (1 : Int32))])) _
        exact retN X86 hx (t := .boolean) Bd.returns (by simp) (hb hby at_153) hr
      · exact ⟨rfl, N86⟩
    · rw [hk62]
      have f90 : AV Z h44 b1 k1 (.object "com/example/pipstill/pipstill/SixSidedStout$Assistant") 4 (updR (updR (updR (updR (fun _ => Value.null) 0 (.ref o_MALT_EXPERT)) 1 (.ref o_HOPS_IMPORTER)) 2 (.ref o_SCIENTIST)) 3 (.ref o_MASTER_BREWER)) := ((((V20.ext E23).other W34 ne_b1_b23).other W39 ne_b1_b23).other W44 ne_b1_b23)
      obtain ⟨cl89, Ar89, kc89, sz89, -, hv89⟩ := id f90
      have hin89 : ¬ ((2 : Int32) < 0 ∨ cl89.slots.size ≤ ((2 : Int32)).toNatClampNeg) := AV.inb sz89 (show ¬ (2 : Int32) < 0 ∧ ((2 : Int32)).toNatClampNeg < 4 by decide)
      have hat89 : cl89.slots[((2 : Int32)).toNatClampNeg]? = some (.ref o_SCIENTIST) := (hv89 _ (AV.inx (show ¬ (2 : Int32) < 0 ∧ ((2 : Int32)).toNatClampNeg < 4 by decide))).trans (congrArg some rfl)
      obtain ⟨cl91, Ar91, kc91, sz91, -, hv91⟩ := id V44
      have hin91 : ¬ ((1 : Int32) < 0 ∨ cl91.slots.size ≤ ((1 : Int32)).toNatClampNeg) := AV.inb sz91 (show ¬ (1 : Int32) < 0 ∧ ((1 : Int32)).toNatClampNeg < 3 by decide)
      have hat91 : cl91.slots[((1 : Int32)).toNatClampNeg]? = some (.ref o_HOPS) := (hv91 _ (AV.inx (show ¬ (1 : Int32) < 0 ∧ ((1 : Int32)).toNatClampNeg < 3 by decide))).trans (congrArg some rfl)
      have f93 : Fld Z h44 o_SCIENTIST "com/example/pipstill/pipstill/SixSidedStout$Assistant" "ware" "Lcom/example/pipstill/pipstill/SixSidedStout$Ware;" (.ref o_YEAST) := (((((((((F_ware_o_SCIENTIST.ext E1).other W5 (Or.inl ne_o_SCIENTIST_b1)).other W10 (Or.inl ne_o_SCIENTIST_b1)).other W15 (Or.inl ne_o_SCIENTIST_b1)).other W20 (Or.inl ne_o_SCIENTIST_b1)).ext E23).other W34 (Or.inl ne_o_SCIENTIST_b23)).other W39 (Or.inl ne_o_SCIENTIST_b23)).other W44 (Or.inl ne_o_SCIENTIST_b23))
      have f94 : Exa Z h44 o_SCIENTIST "com/example/pipstill/pipstill/SixSidedStout$Assistant" := ((((f26.ext E23).wr W34).wr W39).wr W44)
      obtain ⟨cq92, kq92, q92a, q92b, q92c⟩ := isOf hZ e44 f94
      obtain ⟨_, _, ⟨T92, L92, k92, n92⟩, -, X92, ⟨Lc92, hQ92, l92, y92, z92⟩, st92⟩ := X44.virtualBack hx (y := (⟨"com/example/pipstill/pipstill/SixSidedStout$Assistant", "serves", "(Lcom/example/pipstill/pipstill/SixSidedStout$Ware;)Z"⟩ : MethodName)) (z := (⟨"com/example/pipstill/pipstill/SixSidedStout$Assistant", "serves", "(Lcom/example/pipstill/pipstill/SixSidedStout$Ware;)Z"⟩ : MethodName)) hown (mvT hZ (hw _ (List.mem_of_getElem? (i := 23) rfl))) (mvT hZ (hw _ (List.mem_of_getElem? (i := 24) rfl))) (notFace_of_selects (args := #[]) (mvT hZ (hw _ (List.mem_of_getElem? (i := 26) rfl)))) (mvT hZ (hw _ (List.mem_of_getElem? (i := 26) rfl))) (mvT hZ (hw _ (List.mem_of_getElem? (i := 25) rfl))) (by decide) (backOf (W := 0) (rm1r l Z a0 hw [] o_SCIENTIST o_HOPS o_YEAST h44 n0 z46 f93) hZ (hw _ (List.mem_of_getElem? (i := 27) rfl)) (hw _ (List.mem_of_getElem? (i := 3) rfl)) (by decide) (by decide)) q92a q92c (g := (mkF m 140 #[.val (.int p1), .val (.int p2), .val (.ref b1), .val (.ref b23), .val (.int (2 : Int32)), .val (.int (1 : Int32)), .val (.int (0 : Int32))] [(.ref o_HOPS), (.ref o_SCIENTIST)])) rfl (by rw [hml]; rfl) (Steps.refl _) (argsL := [(.ref o_HOPS)]) (rest := []) (lenOf pd_0 rfl) rfl (by show 2 * 0 + _ ≤ _; exact Nat.le_of_eq rfl) (hb hby at_140) (fun _ _ => ⟨rfl, e44, (by decide : 2 + 0 ≤ _), (by decide : 7 + 0 ≤ _)⟩)
      dsimp only [Pt.U, Pt.locs, Pt.cells, Pt.slots] at X92 l92 y92 z92 st92 hQ92
      subst l92 y92 z92
      obtain ⟨r92, rfl, hr92, N92q, eq92⟩ := hQ92
      have N92 := Fr.app N44 N92q
      obtain ⟨fs, hr, hrun, hended, hW, hsame⟩ := X92.leave (v := some (.int (1 : Int32))) (fun h => by rw [Bd.returns] at h; cases h)
      refine ⟨_, _, ?_, hrun, hended, _, _, rfl, ?_, ⟨_, rfl⟩, hW, hsame.mono (by decide) (by decide)⟩
      · show Steps p.tables e below (T44.setTop (mkF m 63 #[.val (.int p1), .val (.int p2), .val (.ref b1), .val (.ref b23), .val (.int (2 : Int32)), .unset, .unset] [(.int (1 : Int32))])) _
        refine XS.istore X44.here hx rfl (hb hby at_63) rfl (l' := #[.val (.int p1), .val (.int p2), .val (.ref b1), .val (.ref b23), .val (.int (2 : Int32)), .val (.int (1 : Int32)), .unset]) rfl ?_
        show Steps p.tables e below (T44.setTop (mkF m 65 #[.val (.int p1), .val (.int p2), .val (.ref b1), .val (.ref b23), .val (.int (2 : Int32)), .val (.int (1 : Int32)), .unset] [])) _
        refine XS.iload X44.here hx rfl (hb hby at_65) rfl ?_
        show Steps p.tables e below (T44.setTop (mkF m 67 #[.val (.int p1), .val (.int p2), .val (.ref b1), .val (.ref b23), .val (.int (2 : Int32)), .val (.int (1 : Int32)), .unset] [(.int (2 : Int32))])) _
        refine XS.iconst X44.here hx rfl (hb hby at_67) ?_
        show Steps p.tables e below (T44.setTop (mkF m 68 #[.val (.int p1), .val (.int p2), .val (.ref b1), .val (.ref b23), .val (.int (2 : Int32)), .val (.int (1 : Int32)), .unset] [(.int (3 : Int32)), (.int (2 : Int32))])) _
        refine XS.icmpYes X44.here hx rfl (pc0 := 68) (pc' := 77) rfl (hb hby at_68) rfl ((feq (by decide : ¬ ((2 : Int32) = (3 : Int32)))).2) (by decide) (by decide) ?_
        show Steps p.tables e below (T44.setTop (mkF m 77 #[.val (.int p1), .val (.int p2), .val (.ref b1), .val (.ref b23), .val (.int (2 : Int32)), .val (.int (1 : Int32)), .unset] [])) _
        refine XS.iload X44.here hx rfl (hb hby at_77) rfl ?_
        show Steps p.tables e below (T44.setTop (mkF m 79 #[.val (.int p1), .val (.int p2), .val (.ref b1), .val (.ref b23), .val (.int (2 : Int32)), .val (.int (1 : Int32)), .unset] [(.int (2 : Int32))])) _
        refine XS.ifYes X44.here hx rfl (pc0 := 79) (pc' := 97) rfl (hb hby at_79) rfl ((if0 _ _).trans (feq (by decide : ¬ ((2 : Int32) = (0 : Int32)))).2) (by decide) (by decide) ?_
        show Steps p.tables e below (T44.setTop (mkF m 97 #[.val (.int p1), .val (.int p2), .val (.ref b1), .val (.ref b23), .val (.int (2 : Int32)), .val (.int (1 : Int32)), .unset] [])) _
        refine XS.iload X44.here hx rfl (hb hby at_97) rfl ?_
        show Steps p.tables e below (T44.setTop (mkF m 99 #[.val (.int p1), .val (.int p2), .val (.ref b1), .val (.ref b23), .val (.int (2 : Int32)), .val (.int (1 : Int32)), .unset] [(.int (2 : Int32))])) _
        refine XS.iconst X44.here hx rfl (hb hby at_99) ?_
        show Steps p.tables e below (T44.setTop (mkF m 100 #[.val (.int p1), .val (.int p2), .val (.ref b1), .val (.ref b23), .val (.int (2 : Int32)), .val (.int (1 : Int32)), .unset] [(.int (1 : Int32)), (.int (2 : Int32))])) _
        refine XS.icmpYes X44.here hx rfl (pc0 := 100) (pc' := 119) rfl (hb hby at_100) rfl ((feq (by decide : ¬ ((2 : Int32) = (1 : Int32)))).2) (by decide) (by decide) ?_
        show Steps p.tables e below (T44.setTop (mkF m 119 #[.val (.int p1), .val (.int p2), .val (.ref b1), .val (.ref b23), .val (.int (2 : Int32)), .val (.int (1 : Int32)), .unset] [])) _
        refine XS.iload X44.here hx rfl (hb hby at_119) rfl ?_
        show Steps p.tables e below (T44.setTop (mkF m 121 #[.val (.int p1), .val (.int p2), .val (.ref b1), .val (.ref b23), .val (.int (2 : Int32)), .val (.int (1 : Int32)), .unset] [(.int (1 : Int32))])) _
        refine XS.iconst X44.here hx rfl (hb hby at_121) ?_
        show Steps p.tables e below (T44.setTop (mkF m 122 #[.val (.int p1), .val (.int p2), .val (.ref b1), .val (.ref b23), .val (.int (2 : Int32)), .val (.int (1 : Int32)), .unset] [(.int (2 : Int32)), (.int (1 : Int32))])) _
        refine XS.icmpYes X44.here hx rfl (pc0 := 122) (pc' := 129) rfl (hb hby at_122) rfl ((feq (by decide : ¬ ((1 : Int32) = (2 : Int32)))).2) (by decide) (by decide) ?_
        show Steps p.tables e below (T44.setTop (mkF m 129 #[.val (.int p1), .val (.int p2), .val (.ref b1), .val (.ref b23), .val (.int (2 : Int32)), .val (.int (1 : Int32)), .unset] [])) _
        refine XS.iconst X44.here hx rfl (hb hby at_129) ?_
        show Steps p.tables e below (T44.setTop (mkF m 130 #[.val (.int p1), .val (.int p2), .val (.ref b1), .val (.ref b23), .val (.int (2 : Int32)), .val (.int (1 : Int32)), .unset] [(.int (0 : Int32))])) _
        refine XS.istore X44.here hx rfl (hb hby at_130) rfl (l' := #[.val (.int p1), .val (.int p2), .val (.ref b1), .val (.ref b23), .val (.int (2 : Int32)), .val (.int (1 : Int32)), .val (.int (0 : Int32))]) rfl ?_
        show Steps p.tables e below (T44.setTop (mkF m 132 #[.val (.int p1), .val (.int p2), .val (.ref b1), .val (.ref b23), .val (.int (2 : Int32)), .val (.int (1 : Int32)), .val (.int (0 : Int32))] [])) _
        refine XS.aloadN X44.here hx rfl (hb hby at_132) rfl rfl ?_
        show Steps p.tables e below (T44.setTop (mkF m 133 #[.val (.int p1), .val (.int p2), .val (.ref b1), .val (.ref b23), .val (.int (2 : Int32)), .val (.int (1 : Int32)), .val (.int (0 : Int32))] [(.ref b1)])) _
        refine XS.iload X44.here hx rfl (hb hby at_133) rfl ?_
        show Steps p.tables e below (T44.setTop (mkF m 135 #[.val (.int p1), .val (.int p2), .val (.ref b1), .val (.ref b23), .val (.int (2 : Int32)), .val (.int (1 : Int32)), .val (.int (0 : Int32))] [(.int (2 : Int32)), (.ref b1)])) _
        refine X44.aaload hx (j := (2 : Int32)) (v := (.ref o_SCIENTIST)) (by rw [e44]; exact Ar89.1) (State.isArrayOf_alike hZ.alike Ar89.2.1) rfl Ar89.2.2 hin89 hat89 (g := (mkF m 135 #[.val (.int p1), .val (.int p2), .val (.ref b1), .val (.ref b23), .val (.int (2 : Int32)), .val (.int (1 : Int32)), .val (.int (0 : Int32))] [(.int (2 : Int32)), (.ref b1)])) rfl rfl (hb hby at_135) _ ?_
        show Steps p.tables e below (T44.setTop (mkF m 136 #[.val (.int p1), .val (.int p2), .val (.ref b1), .val (.ref b23), .val (.int (2 : Int32)), .val (.int (1 : Int32)), .val (.int (0 : Int32))] [(.ref o_SCIENTIST)])) _
        refine XS.aloadN X44.here hx rfl (hb hby at_136) rfl rfl ?_
        show Steps p.tables e below (T44.setTop (mkF m 137 #[.val (.int p1), .val (.int p2), .val (.ref b1), .val (.ref b23), .val (.int (2 : Int32)), .val (.int (1 : Int32)), .val (.int (0 : Int32))] [(.ref b23), (.ref o_SCIENTIST)])) _
        refine XS.iload X44.here hx rfl (hb hby at_137) rfl ?_
        show Steps p.tables e below (T44.setTop (mkF m 139 #[.val (.int p1), .val (.int p2), .val (.ref b1), .val (.ref b23), .val (.int (2 : Int32)), .val (.int (1 : Int32)), .val (.int (0 : Int32))] [(.int (1 : Int32)), (.ref b23), (.ref o_SCIENTIST)])) _
        refine X44.aaload hx (j := (1 : Int32)) (v := (.ref o_HOPS)) (by rw [e44]; exact Ar91.1) (State.isArrayOf_alike hZ.alike Ar91.2.1) rfl Ar91.2.2 hin91 hat91 (g := (mkF m 139 #[.val (.int p1), .val (.int p2), .val (.ref b1), .val (.ref b23), .val (.int (2 : Int32)), .val (.int (1 : Int32)), .val (.int (0 : Int32))] [(.int (1 : Int32)), (.ref b23), (.ref o_SCIENTIST)])) rfl rfl (hb hby at_139) _ ?_
        show Steps p.tables e below (T44.setTop (mkF m 140 #[.val (.int p1), .val (.int p2), .val (.ref b1), .val (.ref b23), .val (.int (2 : Int32)), .val (.int (1 : Int32)), .val (.int (0 : Int32))] [(.ref o_HOPS), (.ref o_SCIENTIST)])) _
        refine st92.trans ?_
        show Steps p.tables e below (T92.setTop (mkF m 143 #[.val (.int p1), .val (.int p2), .val (.ref b1), .val (.ref b23), .val (.int (2 : Int32)), .val (.int (1 : Int32)), .val (.int (0 : Int32))] [(.int r92)])) _
        refine XS.iload X92.here hx rfl (hb hby at_143) rfl ?_
        show Steps p.tables e below (T92.setTop (mkF m 145 #[.val (.int p1), .val (.int p2), .val (.ref b1), .val (.ref b23), .val (.int (2 : Int32)), .val (.int (1 : Int32)), .val (.int (0 : Int32))] [(.int (0 : Int32)), (.int r92)])) _
        refine XS.icmpNo X92.here hx rfl (hb hby at_145) rfl ((teq (by rw [hr92, if_neg ne_o_YEAST_o_HOPS] : r92 = (0 : Int32))).2) ?_
        show Steps p.tables e below (T92.setTop (mkF m 148 #[.val (.int p1), .val (.int p2), .val (.ref b1), .val (.ref b23), .val (.int (2 : Int32)), .val (.int (1 : Int32)), .val (.int (0 : Int32))] [])) _
        refine XS.iconst X92.here hx rfl (hb hby at_148) ?_
        show Steps p.tables e below (T92.setTop (mkF m 149 #[.val (.int p1), .val (.int p2), .val (.ref b1), .val (.ref b23), .val (.int (2 : Int32)), .val (.int (1 : Int32)), .val (.int (0 : Int32))] [(.int (1 : Int32))])) _
        refine XS.goto X92.here hx rfl (pc0 := 149) (pc' := 153) rfl (hb hby at_149) (by decide) (by decide) ?_
        show Steps p.tables e below (T92.setTop (mkF m 153 #[.val (.int p1), .val (.int p2), .val (.ref b1), .val (.ref b23), .val (.int (2 : Int32)), .val (.int (1 : Int32)), .val (.int (0 : Int32))] [(.int (1 : Int32))])) _
        exact retN X92 hx (t := .boolean) Bd.returns (by simp) (hb hby at_153) hr
      · exact ⟨rfl, N92⟩
    · rw [hk62]
      have f96 : AV Z h44 b1 k1 (.object "com/example/pipstill/pipstill/SixSidedStout$Assistant") 4 (updR (updR (updR (updR (fun _ => Value.null) 0 (.ref o_MALT_EXPERT)) 1 (.ref o_HOPS_IMPORTER)) 2 (.ref o_SCIENTIST)) 3 (.ref o_MASTER_BREWER)) := ((((V20.ext E23).other W34 ne_b1_b23).other W39 ne_b1_b23).other W44 ne_b1_b23)
      obtain ⟨cl95, Ar95, kc95, sz95, -, hv95⟩ := id f96
      have hin95 : ¬ ((2 : Int32) < 0 ∨ cl95.slots.size ≤ ((2 : Int32)).toNatClampNeg) := AV.inb sz95 (show ¬ (2 : Int32) < 0 ∧ ((2 : Int32)).toNatClampNeg < 4 by decide)
      have hat95 : cl95.slots[((2 : Int32)).toNatClampNeg]? = some (.ref o_SCIENTIST) := (hv95 _ (AV.inx (show ¬ (2 : Int32) < 0 ∧ ((2 : Int32)).toNatClampNeg < 4 by decide))).trans (congrArg some rfl)
      obtain ⟨cl97, Ar97, kc97, sz97, -, hv97⟩ := id V44
      have hin97 : ¬ ((2 : Int32) < 0 ∨ cl97.slots.size ≤ ((2 : Int32)).toNatClampNeg) := AV.inb sz97 (show ¬ (2 : Int32) < 0 ∧ ((2 : Int32)).toNatClampNeg < 3 by decide)
      have hat97 : cl97.slots[((2 : Int32)).toNatClampNeg]? = some (.ref o_YEAST) := (hv97 _ (AV.inx (show ¬ (2 : Int32) < 0 ∧ ((2 : Int32)).toNatClampNeg < 3 by decide))).trans (congrArg some rfl)
      have f99 : Fld Z h44 o_SCIENTIST "com/example/pipstill/pipstill/SixSidedStout$Assistant" "ware" "Lcom/example/pipstill/pipstill/SixSidedStout$Ware;" (.ref o_YEAST) := (((((((((F_ware_o_SCIENTIST.ext E1).other W5 (Or.inl ne_o_SCIENTIST_b1)).other W10 (Or.inl ne_o_SCIENTIST_b1)).other W15 (Or.inl ne_o_SCIENTIST_b1)).other W20 (Or.inl ne_o_SCIENTIST_b1)).ext E23).other W34 (Or.inl ne_o_SCIENTIST_b23)).other W39 (Or.inl ne_o_SCIENTIST_b23)).other W44 (Or.inl ne_o_SCIENTIST_b23))
      have f100 : Exa Z h44 o_SCIENTIST "com/example/pipstill/pipstill/SixSidedStout$Assistant" := ((((f26.ext E23).wr W34).wr W39).wr W44)
      obtain ⟨cq98, kq98, q98a, q98b, q98c⟩ := isOf hZ e44 f100
      obtain ⟨_, _, ⟨T98, L98, k98, n98⟩, -, X98, ⟨Lc98, hQ98, l98, y98, z98⟩, st98⟩ := X44.virtualBack hx (y := (⟨"com/example/pipstill/pipstill/SixSidedStout$Assistant", "serves", "(Lcom/example/pipstill/pipstill/SixSidedStout$Ware;)Z"⟩ : MethodName)) (z := (⟨"com/example/pipstill/pipstill/SixSidedStout$Assistant", "serves", "(Lcom/example/pipstill/pipstill/SixSidedStout$Ware;)Z"⟩ : MethodName)) hown (mvT hZ (hw _ (List.mem_of_getElem? (i := 23) rfl))) (mvT hZ (hw _ (List.mem_of_getElem? (i := 24) rfl))) (notFace_of_selects (args := #[]) (mvT hZ (hw _ (List.mem_of_getElem? (i := 26) rfl)))) (mvT hZ (hw _ (List.mem_of_getElem? (i := 26) rfl))) (mvT hZ (hw _ (List.mem_of_getElem? (i := 25) rfl))) (by decide) (backOf (W := 0) (rm1r l Z a0 hw [] o_SCIENTIST o_YEAST o_YEAST h44 n0 z46 f99) hZ (hw _ (List.mem_of_getElem? (i := 27) rfl)) (hw _ (List.mem_of_getElem? (i := 3) rfl)) (by decide) (by decide)) q98a q98c (g := (mkF m 140 #[.val (.int p1), .val (.int p2), .val (.ref b1), .val (.ref b23), .val (.int (2 : Int32)), .val (.int (2 : Int32)), .val (.int (1 : Int32))] [(.ref o_YEAST), (.ref o_SCIENTIST)])) rfl (by rw [hml]; rfl) (Steps.refl _) (argsL := [(.ref o_YEAST)]) (rest := []) (lenOf pd_0 rfl) rfl (by show 2 * 0 + _ ≤ _; exact Nat.le_of_eq rfl) (hb hby at_140) (fun _ _ => ⟨rfl, e44, (by decide : 2 + 0 ≤ _), (by decide : 7 + 0 ≤ _)⟩)
      dsimp only [Pt.U, Pt.locs, Pt.cells, Pt.slots] at X98 l98 y98 z98 st98 hQ98
      subst l98 y98 z98
      obtain ⟨r98, rfl, hr98, N98q, eq98⟩ := hQ98
      have N98 := Fr.app N44 N98q
      obtain ⟨fs, hr, hrun, hended, hW, hsame⟩ := X98.leave (v := some (.int (1 : Int32))) (fun h => by rw [Bd.returns] at h; cases h)
      refine ⟨_, _, ?_, hrun, hended, _, _, rfl, ?_, ⟨_, rfl⟩, hW, hsame.mono (by decide) (by decide)⟩
      · show Steps p.tables e below (T44.setTop (mkF m 63 #[.val (.int p1), .val (.int p2), .val (.ref b1), .val (.ref b23), .val (.int (2 : Int32)), .unset, .unset] [(.int (2 : Int32))])) _
        refine XS.istore X44.here hx rfl (hb hby at_63) rfl (l' := #[.val (.int p1), .val (.int p2), .val (.ref b1), .val (.ref b23), .val (.int (2 : Int32)), .val (.int (2 : Int32)), .unset]) rfl ?_
        show Steps p.tables e below (T44.setTop (mkF m 65 #[.val (.int p1), .val (.int p2), .val (.ref b1), .val (.ref b23), .val (.int (2 : Int32)), .val (.int (2 : Int32)), .unset] [])) _
        refine XS.iload X44.here hx rfl (hb hby at_65) rfl ?_
        show Steps p.tables e below (T44.setTop (mkF m 67 #[.val (.int p1), .val (.int p2), .val (.ref b1), .val (.ref b23), .val (.int (2 : Int32)), .val (.int (2 : Int32)), .unset] [(.int (2 : Int32))])) _
        refine XS.iconst X44.here hx rfl (hb hby at_67) ?_
        show Steps p.tables e below (T44.setTop (mkF m 68 #[.val (.int p1), .val (.int p2), .val (.ref b1), .val (.ref b23), .val (.int (2 : Int32)), .val (.int (2 : Int32)), .unset] [(.int (3 : Int32)), (.int (2 : Int32))])) _
        refine XS.icmpYes X44.here hx rfl (pc0 := 68) (pc' := 77) rfl (hb hby at_68) rfl ((feq (by decide : ¬ ((2 : Int32) = (3 : Int32)))).2) (by decide) (by decide) ?_
        show Steps p.tables e below (T44.setTop (mkF m 77 #[.val (.int p1), .val (.int p2), .val (.ref b1), .val (.ref b23), .val (.int (2 : Int32)), .val (.int (2 : Int32)), .unset] [])) _
        refine XS.iload X44.here hx rfl (hb hby at_77) rfl ?_
        show Steps p.tables e below (T44.setTop (mkF m 79 #[.val (.int p1), .val (.int p2), .val (.ref b1), .val (.ref b23), .val (.int (2 : Int32)), .val (.int (2 : Int32)), .unset] [(.int (2 : Int32))])) _
        refine XS.ifYes X44.here hx rfl (pc0 := 79) (pc' := 97) rfl (hb hby at_79) rfl ((if0 _ _).trans (feq (by decide : ¬ ((2 : Int32) = (0 : Int32)))).2) (by decide) (by decide) ?_
        show Steps p.tables e below (T44.setTop (mkF m 97 #[.val (.int p1), .val (.int p2), .val (.ref b1), .val (.ref b23), .val (.int (2 : Int32)), .val (.int (2 : Int32)), .unset] [])) _
        refine XS.iload X44.here hx rfl (hb hby at_97) rfl ?_
        show Steps p.tables e below (T44.setTop (mkF m 99 #[.val (.int p1), .val (.int p2), .val (.ref b1), .val (.ref b23), .val (.int (2 : Int32)), .val (.int (2 : Int32)), .unset] [(.int (2 : Int32))])) _
        refine XS.iconst X44.here hx rfl (hb hby at_99) ?_
        show Steps p.tables e below (T44.setTop (mkF m 100 #[.val (.int p1), .val (.int p2), .val (.ref b1), .val (.ref b23), .val (.int (2 : Int32)), .val (.int (2 : Int32)), .unset] [(.int (1 : Int32)), (.int (2 : Int32))])) _
        refine XS.icmpYes X44.here hx rfl (pc0 := 100) (pc' := 119) rfl (hb hby at_100) rfl ((feq (by decide : ¬ ((2 : Int32) = (1 : Int32)))).2) (by decide) (by decide) ?_
        show Steps p.tables e below (T44.setTop (mkF m 119 #[.val (.int p1), .val (.int p2), .val (.ref b1), .val (.ref b23), .val (.int (2 : Int32)), .val (.int (2 : Int32)), .unset] [])) _
        refine XS.iload X44.here hx rfl (hb hby at_119) rfl ?_
        show Steps p.tables e below (T44.setTop (mkF m 121 #[.val (.int p1), .val (.int p2), .val (.ref b1), .val (.ref b23), .val (.int (2 : Int32)), .val (.int (2 : Int32)), .unset] [(.int (2 : Int32))])) _
        refine XS.iconst X44.here hx rfl (hb hby at_121) ?_
        show Steps p.tables e below (T44.setTop (mkF m 122 #[.val (.int p1), .val (.int p2), .val (.ref b1), .val (.ref b23), .val (.int (2 : Int32)), .val (.int (2 : Int32)), .unset] [(.int (2 : Int32)), (.int (2 : Int32))])) _
        refine XS.icmpNo X44.here hx rfl (hb hby at_122) rfl ((teq (by decide : (2 : Int32) = (2 : Int32))).2) ?_
        show Steps p.tables e below (T44.setTop (mkF m 125 #[.val (.int p1), .val (.int p2), .val (.ref b1), .val (.ref b23), .val (.int (2 : Int32)), .val (.int (2 : Int32)), .unset] [])) _
        refine XS.iconst X44.here hx rfl (hb hby at_125) ?_
        show Steps p.tables e below (T44.setTop (mkF m 126 #[.val (.int p1), .val (.int p2), .val (.ref b1), .val (.ref b23), .val (.int (2 : Int32)), .val (.int (2 : Int32)), .unset] [(.int (1 : Int32))])) _
        refine XS.goto X44.here hx rfl (pc0 := 126) (pc' := 130) rfl (hb hby at_126) (by decide) (by decide) ?_
        show Steps p.tables e below (T44.setTop (mkF m 130 #[.val (.int p1), .val (.int p2), .val (.ref b1), .val (.ref b23), .val (.int (2 : Int32)), .val (.int (2 : Int32)), .unset] [(.int (1 : Int32))])) _
        refine XS.istore X44.here hx rfl (hb hby at_130) rfl (l' := #[.val (.int p1), .val (.int p2), .val (.ref b1), .val (.ref b23), .val (.int (2 : Int32)), .val (.int (2 : Int32)), .val (.int (1 : Int32))]) rfl ?_
        show Steps p.tables e below (T44.setTop (mkF m 132 #[.val (.int p1), .val (.int p2), .val (.ref b1), .val (.ref b23), .val (.int (2 : Int32)), .val (.int (2 : Int32)), .val (.int (1 : Int32))] [])) _
        refine XS.aloadN X44.here hx rfl (hb hby at_132) rfl rfl ?_
        show Steps p.tables e below (T44.setTop (mkF m 133 #[.val (.int p1), .val (.int p2), .val (.ref b1), .val (.ref b23), .val (.int (2 : Int32)), .val (.int (2 : Int32)), .val (.int (1 : Int32))] [(.ref b1)])) _
        refine XS.iload X44.here hx rfl (hb hby at_133) rfl ?_
        show Steps p.tables e below (T44.setTop (mkF m 135 #[.val (.int p1), .val (.int p2), .val (.ref b1), .val (.ref b23), .val (.int (2 : Int32)), .val (.int (2 : Int32)), .val (.int (1 : Int32))] [(.int (2 : Int32)), (.ref b1)])) _
        refine X44.aaload hx (j := (2 : Int32)) (v := (.ref o_SCIENTIST)) (by rw [e44]; exact Ar95.1) (State.isArrayOf_alike hZ.alike Ar95.2.1) rfl Ar95.2.2 hin95 hat95 (g := (mkF m 135 #[.val (.int p1), .val (.int p2), .val (.ref b1), .val (.ref b23), .val (.int (2 : Int32)), .val (.int (2 : Int32)), .val (.int (1 : Int32))] [(.int (2 : Int32)), (.ref b1)])) rfl rfl (hb hby at_135) _ ?_
        show Steps p.tables e below (T44.setTop (mkF m 136 #[.val (.int p1), .val (.int p2), .val (.ref b1), .val (.ref b23), .val (.int (2 : Int32)), .val (.int (2 : Int32)), .val (.int (1 : Int32))] [(.ref o_SCIENTIST)])) _
        refine XS.aloadN X44.here hx rfl (hb hby at_136) rfl rfl ?_
        show Steps p.tables e below (T44.setTop (mkF m 137 #[.val (.int p1), .val (.int p2), .val (.ref b1), .val (.ref b23), .val (.int (2 : Int32)), .val (.int (2 : Int32)), .val (.int (1 : Int32))] [(.ref b23), (.ref o_SCIENTIST)])) _
        refine XS.iload X44.here hx rfl (hb hby at_137) rfl ?_
        show Steps p.tables e below (T44.setTop (mkF m 139 #[.val (.int p1), .val (.int p2), .val (.ref b1), .val (.ref b23), .val (.int (2 : Int32)), .val (.int (2 : Int32)), .val (.int (1 : Int32))] [(.int (2 : Int32)), (.ref b23), (.ref o_SCIENTIST)])) _
        refine X44.aaload hx (j := (2 : Int32)) (v := (.ref o_YEAST)) (by rw [e44]; exact Ar97.1) (State.isArrayOf_alike hZ.alike Ar97.2.1) rfl Ar97.2.2 hin97 hat97 (g := (mkF m 139 #[.val (.int p1), .val (.int p2), .val (.ref b1), .val (.ref b23), .val (.int (2 : Int32)), .val (.int (2 : Int32)), .val (.int (1 : Int32))] [(.int (2 : Int32)), (.ref b23), (.ref o_SCIENTIST)])) rfl rfl (hb hby at_139) _ ?_
        show Steps p.tables e below (T44.setTop (mkF m 140 #[.val (.int p1), .val (.int p2), .val (.ref b1), .val (.ref b23), .val (.int (2 : Int32)), .val (.int (2 : Int32)), .val (.int (1 : Int32))] [(.ref o_YEAST), (.ref o_SCIENTIST)])) _
        refine st98.trans ?_
        show Steps p.tables e below (T98.setTop (mkF m 143 #[.val (.int p1), .val (.int p2), .val (.ref b1), .val (.ref b23), .val (.int (2 : Int32)), .val (.int (2 : Int32)), .val (.int (1 : Int32))] [(.int r98)])) _
        refine XS.iload X98.here hx rfl (hb hby at_143) rfl ?_
        show Steps p.tables e below (T98.setTop (mkF m 145 #[.val (.int p1), .val (.int p2), .val (.ref b1), .val (.ref b23), .val (.int (2 : Int32)), .val (.int (2 : Int32)), .val (.int (1 : Int32))] [(.int (1 : Int32)), (.int r98)])) _
        refine XS.icmpNo X98.here hx rfl (hb hby at_145) rfl ((teq (by rw [hr98, if_pos rfl] : r98 = (1 : Int32))).2) ?_
        show Steps p.tables e below (T98.setTop (mkF m 148 #[.val (.int p1), .val (.int p2), .val (.ref b1), .val (.ref b23), .val (.int (2 : Int32)), .val (.int (2 : Int32)), .val (.int (1 : Int32))] [])) _
        refine XS.iconst X98.here hx rfl (hb hby at_148) ?_
        show Steps p.tables e below (T98.setTop (mkF m 149 #[.val (.int p1), .val (.int p2), .val (.ref b1), .val (.ref b23), .val (.int (2 : Int32)), .val (.int (2 : Int32)), .val (.int (1 : Int32))] [(.int (1 : Int32))])) _
        refine XS.goto X98.here hx rfl (pc0 := 149) (pc' := 153) rfl (hb hby at_149) (by decide) (by decide) ?_
        show Steps p.tables e below (T98.setTop (mkF m 153 #[.val (.int p1), .val (.int p2), .val (.ref b1), .val (.ref b23), .val (.int (2 : Int32)), .val (.int (2 : Int32)), .val (.int (1 : Int32))] [(.int (1 : Int32))])) _
        exact retN X98 hx (t := .boolean) Bd.returns (by simp) (hb hby at_153) hr
      · exact ⟨rfl, N98⟩
  · rw [hk54]
    refine GoalS.lift (B := (T44.setTop (mkF m 63 #[.val (.int p1), .val (.int p2), .val (.ref b1), .val (.ref b23), .val (.int (3 : Int32)), .unset, .unset] [(.int ((p2 &&& (2147483647 : Int32)) % (3 : Int32)))]))) (fun t k => ?_) ?_
    · show Steps p.tables e below (T44.setTop (mkF m 55 #[.val (.int p1), .val (.int p2), .val (.ref b1), .val (.ref b23), .unset, .unset, .unset] [(.int (3 : Int32))])) _
      refine XS.istore X44.here hx rfl (hb hby at_55) rfl (l' := #[.val (.int p1), .val (.int p2), .val (.ref b1), .val (.ref b23), .val (.int (3 : Int32)), .unset, .unset]) rfl ?_
      show Steps p.tables e below (T44.setTop (mkF m 57 #[.val (.int p1), .val (.int p2), .val (.ref b1), .val (.ref b23), .val (.int (3 : Int32)), .unset, .unset] [])) _
      refine XS.iloadN X44.here hx rfl (hb hby at_57) rfl ?_
      show Steps p.tables e below (T44.setTop (mkF m 58 #[.val (.int p1), .val (.int p2), .val (.ref b1), .val (.ref b23), .val (.int (3 : Int32)), .unset, .unset] [(.int p2)])) _
      refine X44.ldcInt hx hown (mvT hZ (hw _ (List.mem_of_getElem? (i := 22) rfl))) (g := (mkF m 58 #[.val (.int p1), .val (.int p2), .val (.ref b1), .val (.ref b23), .val (.int (3 : Int32)), .unset, .unset] [(.int p2)])) rfl (hb hby at_58) _ ?_
      show Steps p.tables e below (T44.setTop (mkF m 60 #[.val (.int p1), .val (.int p2), .val (.ref b1), .val (.ref b23), .val (.int (3 : Int32)), .unset, .unset] [(.int (2147483647 : Int32)), (.int p2)])) _
      refine XS.iand X44.here hx rfl (hb hby at_60) rfl ?_
      show Steps p.tables e below (T44.setTop (mkF m 61 #[.val (.int p1), .val (.int p2), .val (.ref b1), .val (.ref b23), .val (.int (3 : Int32)), .unset, .unset] [(.int (p2 &&& (2147483647 : Int32)))])) _
      refine XS.iconst X44.here hx rfl (hb hby at_61) ?_
      show Steps p.tables e below (T44.setTop (mkF m 62 #[.val (.int p1), .val (.int p2), .val (.ref b1), .val (.ref b23), .val (.int (3 : Int32)), .unset, .unset] [(.int (3 : Int32)), (.int (p2 &&& (2147483647 : Int32)))])) _
      refine iremM X44 hx rfl (hb hby at_62) rfl (by decide) ?_
      exact k
    rcases own_three p2 with hk62 | hk62 | hk62
    · rw [hk62]
      have f102 : AV Z h44 b1 k1 (.object "com/example/pipstill/pipstill/SixSidedStout$Assistant") 4 (updR (updR (updR (updR (fun _ => Value.null) 0 (.ref o_MALT_EXPERT)) 1 (.ref o_HOPS_IMPORTER)) 2 (.ref o_SCIENTIST)) 3 (.ref o_MASTER_BREWER)) := ((((V20.ext E23).other W34 ne_b1_b23).other W39 ne_b1_b23).other W44 ne_b1_b23)
      obtain ⟨cl101, Ar101, kc101, sz101, -, hv101⟩ := id f102
      have hin101 : ¬ ((3 : Int32) < 0 ∨ cl101.slots.size ≤ ((3 : Int32)).toNatClampNeg) := AV.inb sz101 (show ¬ (3 : Int32) < 0 ∧ ((3 : Int32)).toNatClampNeg < 4 by decide)
      have hat101 : cl101.slots[((3 : Int32)).toNatClampNeg]? = some (.ref o_MASTER_BREWER) := (hv101 _ (AV.inx (show ¬ (3 : Int32) < 0 ∧ ((3 : Int32)).toNatClampNeg < 4 by decide))).trans (congrArg some rfl)
      obtain ⟨cl103, Ar103, kc103, sz103, -, hv103⟩ := id V44
      have hin103 : ¬ ((0 : Int32) < 0 ∨ cl103.slots.size ≤ ((0 : Int32)).toNatClampNeg) := AV.inb sz103 (show ¬ (0 : Int32) < 0 ∧ ((0 : Int32)).toNatClampNeg < 3 by decide)
      have hat103 : cl103.slots[((0 : Int32)).toNatClampNeg]? = some (.ref o_MALT) := (hv103 _ (AV.inx (show ¬ (0 : Int32) < 0 ∧ ((0 : Int32)).toNatClampNeg < 3 by decide))).trans (congrArg some rfl)
      have f105 : Fld Z h44 o_MASTER_BREWER "com/example/pipstill/pipstill/SixSidedStout$Assistant" "ware" "Lcom/example/pipstill/pipstill/SixSidedStout$Ware;" .null := (((((((((F_ware_o_MASTER_BREWER.ext E1).other W5 (Or.inl ne_o_MASTER_BREWER_b1)).other W10 (Or.inl ne_o_MASTER_BREWER_b1)).other W15 (Or.inl ne_o_MASTER_BREWER_b1)).other W20 (Or.inl ne_o_MASTER_BREWER_b1)).ext E23).other W34 (Or.inl ne_o_MASTER_BREWER_b23)).other W39 (Or.inl ne_o_MASTER_BREWER_b23)).other W44 (Or.inl ne_o_MASTER_BREWER_b23))
      have f106 : Exa Z h44 o_MASTER_BREWER "com/example/pipstill/pipstill/SixSidedStout$Assistant" := ((((f27.ext E23).wr W34).wr W39).wr W44)
      obtain ⟨cq104, kq104, q104a, q104b, q104c⟩ := isOf hZ e44 f106
      obtain ⟨_, _, ⟨T104, L104, k104, n104⟩, -, X104, ⟨Lc104, hQ104, l104, y104, z104⟩, st104⟩ := X44.virtualBack hx (y := (⟨"com/example/pipstill/pipstill/SixSidedStout$Assistant", "serves", "(Lcom/example/pipstill/pipstill/SixSidedStout$Ware;)Z"⟩ : MethodName)) (z := (⟨"com/example/pipstill/pipstill/SixSidedStout$Assistant", "serves", "(Lcom/example/pipstill/pipstill/SixSidedStout$Ware;)Z"⟩ : MethodName)) hown (mvT hZ (hw _ (List.mem_of_getElem? (i := 23) rfl))) (mvT hZ (hw _ (List.mem_of_getElem? (i := 24) rfl))) (notFace_of_selects (args := #[]) (mvT hZ (hw _ (List.mem_of_getElem? (i := 26) rfl)))) (mvT hZ (hw _ (List.mem_of_getElem? (i := 26) rfl))) (mvT hZ (hw _ (List.mem_of_getElem? (i := 25) rfl))) (by decide) (backOf (W := 0) (rm1n l Z a0 hw [] o_MASTER_BREWER o_MALT h44 n0 z46 f105) hZ (hw _ (List.mem_of_getElem? (i := 27) rfl)) (hw _ (List.mem_of_getElem? (i := 3) rfl)) (by decide) (by decide)) q104a q104c (g := (mkF m 140 #[.val (.int p1), .val (.int p2), .val (.ref b1), .val (.ref b23), .val (.int (3 : Int32)), .val (.int (0 : Int32)), .val (.int (1 : Int32))] [(.ref o_MALT), (.ref o_MASTER_BREWER)])) rfl (by rw [hml]; rfl) (Steps.refl _) (argsL := [(.ref o_MALT)]) (rest := []) (lenOf pd_0 rfl) rfl (by show 2 * 0 + _ ≤ _; exact Nat.le_of_eq rfl) (hb hby at_140) (fun _ _ => ⟨rfl, e44, (by decide : 2 + 0 ≤ _), (by decide : 7 + 0 ≤ _)⟩)
      dsimp only [Pt.U, Pt.locs, Pt.cells, Pt.slots] at X104 l104 y104 z104 st104 hQ104
      subst l104 y104 z104
      obtain ⟨r104, rfl, hr104, N104q, eq104⟩ := hQ104
      have N104 := Fr.app N44 N104q
      obtain ⟨fs, hr, hrun, hended, hW, hsame⟩ := X104.leave (v := some (.int (1 : Int32))) (fun h => by rw [Bd.returns] at h; cases h)
      refine ⟨_, _, ?_, hrun, hended, _, _, rfl, ?_, ⟨_, rfl⟩, hW, hsame.mono (by decide) (by decide)⟩
      · show Steps p.tables e below (T44.setTop (mkF m 63 #[.val (.int p1), .val (.int p2), .val (.ref b1), .val (.ref b23), .val (.int (3 : Int32)), .unset, .unset] [(.int (0 : Int32))])) _
        refine XS.istore X44.here hx rfl (hb hby at_63) rfl (l' := #[.val (.int p1), .val (.int p2), .val (.ref b1), .val (.ref b23), .val (.int (3 : Int32)), .val (.int (0 : Int32)), .unset]) rfl ?_
        show Steps p.tables e below (T44.setTop (mkF m 65 #[.val (.int p1), .val (.int p2), .val (.ref b1), .val (.ref b23), .val (.int (3 : Int32)), .val (.int (0 : Int32)), .unset] [])) _
        refine XS.iload X44.here hx rfl (hb hby at_65) rfl ?_
        show Steps p.tables e below (T44.setTop (mkF m 67 #[.val (.int p1), .val (.int p2), .val (.ref b1), .val (.ref b23), .val (.int (3 : Int32)), .val (.int (0 : Int32)), .unset] [(.int (3 : Int32))])) _
        refine XS.iconst X44.here hx rfl (hb hby at_67) ?_
        show Steps p.tables e below (T44.setTop (mkF m 68 #[.val (.int p1), .val (.int p2), .val (.ref b1), .val (.ref b23), .val (.int (3 : Int32)), .val (.int (0 : Int32)), .unset] [(.int (3 : Int32)), (.int (3 : Int32))])) _
        refine XS.icmpNo X44.here hx rfl (hb hby at_68) rfl ((teq (by decide : (3 : Int32) = (3 : Int32))).2) ?_
        show Steps p.tables e below (T44.setTop (mkF m 71 #[.val (.int p1), .val (.int p2), .val (.ref b1), .val (.ref b23), .val (.int (3 : Int32)), .val (.int (0 : Int32)), .unset] [])) _
        refine XS.iconst X44.here hx rfl (hb hby at_71) ?_
        show Steps p.tables e below (T44.setTop (mkF m 72 #[.val (.int p1), .val (.int p2), .val (.ref b1), .val (.ref b23), .val (.int (3 : Int32)), .val (.int (0 : Int32)), .unset] [(.int (1 : Int32))])) _
        refine XS.istore X44.here hx rfl (hb hby at_72) rfl (l' := #[.val (.int p1), .val (.int p2), .val (.ref b1), .val (.ref b23), .val (.int (3 : Int32)), .val (.int (0 : Int32)), .val (.int (1 : Int32))]) rfl ?_
        show Steps p.tables e below (T44.setTop (mkF m 74 #[.val (.int p1), .val (.int p2), .val (.ref b1), .val (.ref b23), .val (.int (3 : Int32)), .val (.int (0 : Int32)), .val (.int (1 : Int32))] [])) _
        refine XS.goto X44.here hx rfl (pc0 := 74) (pc' := 132) rfl (hb hby at_74) (by decide) (by decide) ?_
        show Steps p.tables e below (T44.setTop (mkF m 132 #[.val (.int p1), .val (.int p2), .val (.ref b1), .val (.ref b23), .val (.int (3 : Int32)), .val (.int (0 : Int32)), .val (.int (1 : Int32))] [])) _
        refine XS.aloadN X44.here hx rfl (hb hby at_132) rfl rfl ?_
        show Steps p.tables e below (T44.setTop (mkF m 133 #[.val (.int p1), .val (.int p2), .val (.ref b1), .val (.ref b23), .val (.int (3 : Int32)), .val (.int (0 : Int32)), .val (.int (1 : Int32))] [(.ref b1)])) _
        refine XS.iload X44.here hx rfl (hb hby at_133) rfl ?_
        show Steps p.tables e below (T44.setTop (mkF m 135 #[.val (.int p1), .val (.int p2), .val (.ref b1), .val (.ref b23), .val (.int (3 : Int32)), .val (.int (0 : Int32)), .val (.int (1 : Int32))] [(.int (3 : Int32)), (.ref b1)])) _
        refine X44.aaload hx (j := (3 : Int32)) (v := (.ref o_MASTER_BREWER)) (by rw [e44]; exact Ar101.1) (State.isArrayOf_alike hZ.alike Ar101.2.1) rfl Ar101.2.2 hin101 hat101 (g := (mkF m 135 #[.val (.int p1), .val (.int p2), .val (.ref b1), .val (.ref b23), .val (.int (3 : Int32)), .val (.int (0 : Int32)), .val (.int (1 : Int32))] [(.int (3 : Int32)), (.ref b1)])) rfl rfl (hb hby at_135) _ ?_
        show Steps p.tables e below (T44.setTop (mkF m 136 #[.val (.int p1), .val (.int p2), .val (.ref b1), .val (.ref b23), .val (.int (3 : Int32)), .val (.int (0 : Int32)), .val (.int (1 : Int32))] [(.ref o_MASTER_BREWER)])) _
        refine XS.aloadN X44.here hx rfl (hb hby at_136) rfl rfl ?_
        show Steps p.tables e below (T44.setTop (mkF m 137 #[.val (.int p1), .val (.int p2), .val (.ref b1), .val (.ref b23), .val (.int (3 : Int32)), .val (.int (0 : Int32)), .val (.int (1 : Int32))] [(.ref b23), (.ref o_MASTER_BREWER)])) _
        refine XS.iload X44.here hx rfl (hb hby at_137) rfl ?_
        show Steps p.tables e below (T44.setTop (mkF m 139 #[.val (.int p1), .val (.int p2), .val (.ref b1), .val (.ref b23), .val (.int (3 : Int32)), .val (.int (0 : Int32)), .val (.int (1 : Int32))] [(.int (0 : Int32)), (.ref b23), (.ref o_MASTER_BREWER)])) _
        refine X44.aaload hx (j := (0 : Int32)) (v := (.ref o_MALT)) (by rw [e44]; exact Ar103.1) (State.isArrayOf_alike hZ.alike Ar103.2.1) rfl Ar103.2.2 hin103 hat103 (g := (mkF m 139 #[.val (.int p1), .val (.int p2), .val (.ref b1), .val (.ref b23), .val (.int (3 : Int32)), .val (.int (0 : Int32)), .val (.int (1 : Int32))] [(.int (0 : Int32)), (.ref b23), (.ref o_MASTER_BREWER)])) rfl rfl (hb hby at_139) _ ?_
        show Steps p.tables e below (T44.setTop (mkF m 140 #[.val (.int p1), .val (.int p2), .val (.ref b1), .val (.ref b23), .val (.int (3 : Int32)), .val (.int (0 : Int32)), .val (.int (1 : Int32))] [(.ref o_MALT), (.ref o_MASTER_BREWER)])) _
        refine st104.trans ?_
        show Steps p.tables e below (T104.setTop (mkF m 143 #[.val (.int p1), .val (.int p2), .val (.ref b1), .val (.ref b23), .val (.int (3 : Int32)), .val (.int (0 : Int32)), .val (.int (1 : Int32))] [(.int r104)])) _
        refine XS.iload X104.here hx rfl (hb hby at_143) rfl ?_
        show Steps p.tables e below (T104.setTop (mkF m 145 #[.val (.int p1), .val (.int p2), .val (.ref b1), .val (.ref b23), .val (.int (3 : Int32)), .val (.int (0 : Int32)), .val (.int (1 : Int32))] [(.int (1 : Int32)), (.int r104)])) _
        refine XS.icmpNo X104.here hx rfl (hb hby at_145) rfl ((teq (hr104 : r104 = (1 : Int32))).2) ?_
        show Steps p.tables e below (T104.setTop (mkF m 148 #[.val (.int p1), .val (.int p2), .val (.ref b1), .val (.ref b23), .val (.int (3 : Int32)), .val (.int (0 : Int32)), .val (.int (1 : Int32))] [])) _
        refine XS.iconst X104.here hx rfl (hb hby at_148) ?_
        show Steps p.tables e below (T104.setTop (mkF m 149 #[.val (.int p1), .val (.int p2), .val (.ref b1), .val (.ref b23), .val (.int (3 : Int32)), .val (.int (0 : Int32)), .val (.int (1 : Int32))] [(.int (1 : Int32))])) _
        refine XS.goto X104.here hx rfl (pc0 := 149) (pc' := 153) rfl (hb hby at_149) (by decide) (by decide) ?_
        show Steps p.tables e below (T104.setTop (mkF m 153 #[.val (.int p1), .val (.int p2), .val (.ref b1), .val (.ref b23), .val (.int (3 : Int32)), .val (.int (0 : Int32)), .val (.int (1 : Int32))] [(.int (1 : Int32))])) _
        exact retN X104 hx (t := .boolean) Bd.returns (by simp) (hb hby at_153) hr
      · exact ⟨rfl, N104⟩
    · rw [hk62]
      have f108 : AV Z h44 b1 k1 (.object "com/example/pipstill/pipstill/SixSidedStout$Assistant") 4 (updR (updR (updR (updR (fun _ => Value.null) 0 (.ref o_MALT_EXPERT)) 1 (.ref o_HOPS_IMPORTER)) 2 (.ref o_SCIENTIST)) 3 (.ref o_MASTER_BREWER)) := ((((V20.ext E23).other W34 ne_b1_b23).other W39 ne_b1_b23).other W44 ne_b1_b23)
      obtain ⟨cl107, Ar107, kc107, sz107, -, hv107⟩ := id f108
      have hin107 : ¬ ((3 : Int32) < 0 ∨ cl107.slots.size ≤ ((3 : Int32)).toNatClampNeg) := AV.inb sz107 (show ¬ (3 : Int32) < 0 ∧ ((3 : Int32)).toNatClampNeg < 4 by decide)
      have hat107 : cl107.slots[((3 : Int32)).toNatClampNeg]? = some (.ref o_MASTER_BREWER) := (hv107 _ (AV.inx (show ¬ (3 : Int32) < 0 ∧ ((3 : Int32)).toNatClampNeg < 4 by decide))).trans (congrArg some rfl)
      obtain ⟨cl109, Ar109, kc109, sz109, -, hv109⟩ := id V44
      have hin109 : ¬ ((1 : Int32) < 0 ∨ cl109.slots.size ≤ ((1 : Int32)).toNatClampNeg) := AV.inb sz109 (show ¬ (1 : Int32) < 0 ∧ ((1 : Int32)).toNatClampNeg < 3 by decide)
      have hat109 : cl109.slots[((1 : Int32)).toNatClampNeg]? = some (.ref o_HOPS) := (hv109 _ (AV.inx (show ¬ (1 : Int32) < 0 ∧ ((1 : Int32)).toNatClampNeg < 3 by decide))).trans (congrArg some rfl)
      have f111 : Fld Z h44 o_MASTER_BREWER "com/example/pipstill/pipstill/SixSidedStout$Assistant" "ware" "Lcom/example/pipstill/pipstill/SixSidedStout$Ware;" .null := (((((((((F_ware_o_MASTER_BREWER.ext E1).other W5 (Or.inl ne_o_MASTER_BREWER_b1)).other W10 (Or.inl ne_o_MASTER_BREWER_b1)).other W15 (Or.inl ne_o_MASTER_BREWER_b1)).other W20 (Or.inl ne_o_MASTER_BREWER_b1)).ext E23).other W34 (Or.inl ne_o_MASTER_BREWER_b23)).other W39 (Or.inl ne_o_MASTER_BREWER_b23)).other W44 (Or.inl ne_o_MASTER_BREWER_b23))
      have f112 : Exa Z h44 o_MASTER_BREWER "com/example/pipstill/pipstill/SixSidedStout$Assistant" := ((((f27.ext E23).wr W34).wr W39).wr W44)
      obtain ⟨cq110, kq110, q110a, q110b, q110c⟩ := isOf hZ e44 f112
      obtain ⟨_, _, ⟨T110, L110, k110, n110⟩, -, X110, ⟨Lc110, hQ110, l110, y110, z110⟩, st110⟩ := X44.virtualBack hx (y := (⟨"com/example/pipstill/pipstill/SixSidedStout$Assistant", "serves", "(Lcom/example/pipstill/pipstill/SixSidedStout$Ware;)Z"⟩ : MethodName)) (z := (⟨"com/example/pipstill/pipstill/SixSidedStout$Assistant", "serves", "(Lcom/example/pipstill/pipstill/SixSidedStout$Ware;)Z"⟩ : MethodName)) hown (mvT hZ (hw _ (List.mem_of_getElem? (i := 23) rfl))) (mvT hZ (hw _ (List.mem_of_getElem? (i := 24) rfl))) (notFace_of_selects (args := #[]) (mvT hZ (hw _ (List.mem_of_getElem? (i := 26) rfl)))) (mvT hZ (hw _ (List.mem_of_getElem? (i := 26) rfl))) (mvT hZ (hw _ (List.mem_of_getElem? (i := 25) rfl))) (by decide) (backOf (W := 0) (rm1n l Z a0 hw [] o_MASTER_BREWER o_HOPS h44 n0 z46 f111) hZ (hw _ (List.mem_of_getElem? (i := 27) rfl)) (hw _ (List.mem_of_getElem? (i := 3) rfl)) (by decide) (by decide)) q110a q110c (g := (mkF m 140 #[.val (.int p1), .val (.int p2), .val (.ref b1), .val (.ref b23), .val (.int (3 : Int32)), .val (.int (1 : Int32)), .val (.int (1 : Int32))] [(.ref o_HOPS), (.ref o_MASTER_BREWER)])) rfl (by rw [hml]; rfl) (Steps.refl _) (argsL := [(.ref o_HOPS)]) (rest := []) (lenOf pd_0 rfl) rfl (by show 2 * 0 + _ ≤ _; exact Nat.le_of_eq rfl) (hb hby at_140) (fun _ _ => ⟨rfl, e44, (by decide : 2 + 0 ≤ _), (by decide : 7 + 0 ≤ _)⟩)
      dsimp only [Pt.U, Pt.locs, Pt.cells, Pt.slots] at X110 l110 y110 z110 st110 hQ110
      subst l110 y110 z110
      obtain ⟨r110, rfl, hr110, N110q, eq110⟩ := hQ110
      have N110 := Fr.app N44 N110q
      obtain ⟨fs, hr, hrun, hended, hW, hsame⟩ := X110.leave (v := some (.int (1 : Int32))) (fun h => by rw [Bd.returns] at h; cases h)
      refine ⟨_, _, ?_, hrun, hended, _, _, rfl, ?_, ⟨_, rfl⟩, hW, hsame.mono (by decide) (by decide)⟩
      · show Steps p.tables e below (T44.setTop (mkF m 63 #[.val (.int p1), .val (.int p2), .val (.ref b1), .val (.ref b23), .val (.int (3 : Int32)), .unset, .unset] [(.int (1 : Int32))])) _
        refine XS.istore X44.here hx rfl (hb hby at_63) rfl (l' := #[.val (.int p1), .val (.int p2), .val (.ref b1), .val (.ref b23), .val (.int (3 : Int32)), .val (.int (1 : Int32)), .unset]) rfl ?_
        show Steps p.tables e below (T44.setTop (mkF m 65 #[.val (.int p1), .val (.int p2), .val (.ref b1), .val (.ref b23), .val (.int (3 : Int32)), .val (.int (1 : Int32)), .unset] [])) _
        refine XS.iload X44.here hx rfl (hb hby at_65) rfl ?_
        show Steps p.tables e below (T44.setTop (mkF m 67 #[.val (.int p1), .val (.int p2), .val (.ref b1), .val (.ref b23), .val (.int (3 : Int32)), .val (.int (1 : Int32)), .unset] [(.int (3 : Int32))])) _
        refine XS.iconst X44.here hx rfl (hb hby at_67) ?_
        show Steps p.tables e below (T44.setTop (mkF m 68 #[.val (.int p1), .val (.int p2), .val (.ref b1), .val (.ref b23), .val (.int (3 : Int32)), .val (.int (1 : Int32)), .unset] [(.int (3 : Int32)), (.int (3 : Int32))])) _
        refine XS.icmpNo X44.here hx rfl (hb hby at_68) rfl ((teq (by decide : (3 : Int32) = (3 : Int32))).2) ?_
        show Steps p.tables e below (T44.setTop (mkF m 71 #[.val (.int p1), .val (.int p2), .val (.ref b1), .val (.ref b23), .val (.int (3 : Int32)), .val (.int (1 : Int32)), .unset] [])) _
        refine XS.iconst X44.here hx rfl (hb hby at_71) ?_
        show Steps p.tables e below (T44.setTop (mkF m 72 #[.val (.int p1), .val (.int p2), .val (.ref b1), .val (.ref b23), .val (.int (3 : Int32)), .val (.int (1 : Int32)), .unset] [(.int (1 : Int32))])) _
        refine XS.istore X44.here hx rfl (hb hby at_72) rfl (l' := #[.val (.int p1), .val (.int p2), .val (.ref b1), .val (.ref b23), .val (.int (3 : Int32)), .val (.int (1 : Int32)), .val (.int (1 : Int32))]) rfl ?_
        show Steps p.tables e below (T44.setTop (mkF m 74 #[.val (.int p1), .val (.int p2), .val (.ref b1), .val (.ref b23), .val (.int (3 : Int32)), .val (.int (1 : Int32)), .val (.int (1 : Int32))] [])) _
        refine XS.goto X44.here hx rfl (pc0 := 74) (pc' := 132) rfl (hb hby at_74) (by decide) (by decide) ?_
        show Steps p.tables e below (T44.setTop (mkF m 132 #[.val (.int p1), .val (.int p2), .val (.ref b1), .val (.ref b23), .val (.int (3 : Int32)), .val (.int (1 : Int32)), .val (.int (1 : Int32))] [])) _
        refine XS.aloadN X44.here hx rfl (hb hby at_132) rfl rfl ?_
        show Steps p.tables e below (T44.setTop (mkF m 133 #[.val (.int p1), .val (.int p2), .val (.ref b1), .val (.ref b23), .val (.int (3 : Int32)), .val (.int (1 : Int32)), .val (.int (1 : Int32))] [(.ref b1)])) _
        refine XS.iload X44.here hx rfl (hb hby at_133) rfl ?_
        show Steps p.tables e below (T44.setTop (mkF m 135 #[.val (.int p1), .val (.int p2), .val (.ref b1), .val (.ref b23), .val (.int (3 : Int32)), .val (.int (1 : Int32)), .val (.int (1 : Int32))] [(.int (3 : Int32)), (.ref b1)])) _
        refine X44.aaload hx (j := (3 : Int32)) (v := (.ref o_MASTER_BREWER)) (by rw [e44]; exact Ar107.1) (State.isArrayOf_alike hZ.alike Ar107.2.1) rfl Ar107.2.2 hin107 hat107 (g := (mkF m 135 #[.val (.int p1), .val (.int p2), .val (.ref b1), .val (.ref b23), .val (.int (3 : Int32)), .val (.int (1 : Int32)), .val (.int (1 : Int32))] [(.int (3 : Int32)), (.ref b1)])) rfl rfl (hb hby at_135) _ ?_
        show Steps p.tables e below (T44.setTop (mkF m 136 #[.val (.int p1), .val (.int p2), .val (.ref b1), .val (.ref b23), .val (.int (3 : Int32)), .val (.int (1 : Int32)), .val (.int (1 : Int32))] [(.ref o_MASTER_BREWER)])) _
        refine XS.aloadN X44.here hx rfl (hb hby at_136) rfl rfl ?_
        show Steps p.tables e below (T44.setTop (mkF m 137 #[.val (.int p1), .val (.int p2), .val (.ref b1), .val (.ref b23), .val (.int (3 : Int32)), .val (.int (1 : Int32)), .val (.int (1 : Int32))] [(.ref b23), (.ref o_MASTER_BREWER)])) _
        refine XS.iload X44.here hx rfl (hb hby at_137) rfl ?_
        show Steps p.tables e below (T44.setTop (mkF m 139 #[.val (.int p1), .val (.int p2), .val (.ref b1), .val (.ref b23), .val (.int (3 : Int32)), .val (.int (1 : Int32)), .val (.int (1 : Int32))] [(.int (1 : Int32)), (.ref b23), (.ref o_MASTER_BREWER)])) _
        refine X44.aaload hx (j := (1 : Int32)) (v := (.ref o_HOPS)) (by rw [e44]; exact Ar109.1) (State.isArrayOf_alike hZ.alike Ar109.2.1) rfl Ar109.2.2 hin109 hat109 (g := (mkF m 139 #[.val (.int p1), .val (.int p2), .val (.ref b1), .val (.ref b23), .val (.int (3 : Int32)), .val (.int (1 : Int32)), .val (.int (1 : Int32))] [(.int (1 : Int32)), (.ref b23), (.ref o_MASTER_BREWER)])) rfl rfl (hb hby at_139) _ ?_
        show Steps p.tables e below (T44.setTop (mkF m 140 #[.val (.int p1), .val (.int p2), .val (.ref b1), .val (.ref b23), .val (.int (3 : Int32)), .val (.int (1 : Int32)), .val (.int (1 : Int32))] [(.ref o_HOPS), (.ref o_MASTER_BREWER)])) _
        refine st110.trans ?_
        show Steps p.tables e below (T110.setTop (mkF m 143 #[.val (.int p1), .val (.int p2), .val (.ref b1), .val (.ref b23), .val (.int (3 : Int32)), .val (.int (1 : Int32)), .val (.int (1 : Int32))] [(.int r110)])) _
        refine XS.iload X110.here hx rfl (hb hby at_143) rfl ?_
        show Steps p.tables e below (T110.setTop (mkF m 145 #[.val (.int p1), .val (.int p2), .val (.ref b1), .val (.ref b23), .val (.int (3 : Int32)), .val (.int (1 : Int32)), .val (.int (1 : Int32))] [(.int (1 : Int32)), (.int r110)])) _
        refine XS.icmpNo X110.here hx rfl (hb hby at_145) rfl ((teq (hr110 : r110 = (1 : Int32))).2) ?_
        show Steps p.tables e below (T110.setTop (mkF m 148 #[.val (.int p1), .val (.int p2), .val (.ref b1), .val (.ref b23), .val (.int (3 : Int32)), .val (.int (1 : Int32)), .val (.int (1 : Int32))] [])) _
        refine XS.iconst X110.here hx rfl (hb hby at_148) ?_
        show Steps p.tables e below (T110.setTop (mkF m 149 #[.val (.int p1), .val (.int p2), .val (.ref b1), .val (.ref b23), .val (.int (3 : Int32)), .val (.int (1 : Int32)), .val (.int (1 : Int32))] [(.int (1 : Int32))])) _
        refine XS.goto X110.here hx rfl (pc0 := 149) (pc' := 153) rfl (hb hby at_149) (by decide) (by decide) ?_
        show Steps p.tables e below (T110.setTop (mkF m 153 #[.val (.int p1), .val (.int p2), .val (.ref b1), .val (.ref b23), .val (.int (3 : Int32)), .val (.int (1 : Int32)), .val (.int (1 : Int32))] [(.int (1 : Int32))])) _
        exact retN X110 hx (t := .boolean) Bd.returns (by simp) (hb hby at_153) hr
      · exact ⟨rfl, N110⟩
    · rw [hk62]
      have f114 : AV Z h44 b1 k1 (.object "com/example/pipstill/pipstill/SixSidedStout$Assistant") 4 (updR (updR (updR (updR (fun _ => Value.null) 0 (.ref o_MALT_EXPERT)) 1 (.ref o_HOPS_IMPORTER)) 2 (.ref o_SCIENTIST)) 3 (.ref o_MASTER_BREWER)) := ((((V20.ext E23).other W34 ne_b1_b23).other W39 ne_b1_b23).other W44 ne_b1_b23)
      obtain ⟨cl113, Ar113, kc113, sz113, -, hv113⟩ := id f114
      have hin113 : ¬ ((3 : Int32) < 0 ∨ cl113.slots.size ≤ ((3 : Int32)).toNatClampNeg) := AV.inb sz113 (show ¬ (3 : Int32) < 0 ∧ ((3 : Int32)).toNatClampNeg < 4 by decide)
      have hat113 : cl113.slots[((3 : Int32)).toNatClampNeg]? = some (.ref o_MASTER_BREWER) := (hv113 _ (AV.inx (show ¬ (3 : Int32) < 0 ∧ ((3 : Int32)).toNatClampNeg < 4 by decide))).trans (congrArg some rfl)
      obtain ⟨cl115, Ar115, kc115, sz115, -, hv115⟩ := id V44
      have hin115 : ¬ ((2 : Int32) < 0 ∨ cl115.slots.size ≤ ((2 : Int32)).toNatClampNeg) := AV.inb sz115 (show ¬ (2 : Int32) < 0 ∧ ((2 : Int32)).toNatClampNeg < 3 by decide)
      have hat115 : cl115.slots[((2 : Int32)).toNatClampNeg]? = some (.ref o_YEAST) := (hv115 _ (AV.inx (show ¬ (2 : Int32) < 0 ∧ ((2 : Int32)).toNatClampNeg < 3 by decide))).trans (congrArg some rfl)
      have f117 : Fld Z h44 o_MASTER_BREWER "com/example/pipstill/pipstill/SixSidedStout$Assistant" "ware" "Lcom/example/pipstill/pipstill/SixSidedStout$Ware;" .null := (((((((((F_ware_o_MASTER_BREWER.ext E1).other W5 (Or.inl ne_o_MASTER_BREWER_b1)).other W10 (Or.inl ne_o_MASTER_BREWER_b1)).other W15 (Or.inl ne_o_MASTER_BREWER_b1)).other W20 (Or.inl ne_o_MASTER_BREWER_b1)).ext E23).other W34 (Or.inl ne_o_MASTER_BREWER_b23)).other W39 (Or.inl ne_o_MASTER_BREWER_b23)).other W44 (Or.inl ne_o_MASTER_BREWER_b23))
      have f118 : Exa Z h44 o_MASTER_BREWER "com/example/pipstill/pipstill/SixSidedStout$Assistant" := ((((f27.ext E23).wr W34).wr W39).wr W44)
      obtain ⟨cq116, kq116, q116a, q116b, q116c⟩ := isOf hZ e44 f118
      obtain ⟨_, _, ⟨T116, L116, k116, n116⟩, -, X116, ⟨Lc116, hQ116, l116, y116, z116⟩, st116⟩ := X44.virtualBack hx (y := (⟨"com/example/pipstill/pipstill/SixSidedStout$Assistant", "serves", "(Lcom/example/pipstill/pipstill/SixSidedStout$Ware;)Z"⟩ : MethodName)) (z := (⟨"com/example/pipstill/pipstill/SixSidedStout$Assistant", "serves", "(Lcom/example/pipstill/pipstill/SixSidedStout$Ware;)Z"⟩ : MethodName)) hown (mvT hZ (hw _ (List.mem_of_getElem? (i := 23) rfl))) (mvT hZ (hw _ (List.mem_of_getElem? (i := 24) rfl))) (notFace_of_selects (args := #[]) (mvT hZ (hw _ (List.mem_of_getElem? (i := 26) rfl)))) (mvT hZ (hw _ (List.mem_of_getElem? (i := 26) rfl))) (mvT hZ (hw _ (List.mem_of_getElem? (i := 25) rfl))) (by decide) (backOf (W := 0) (rm1n l Z a0 hw [] o_MASTER_BREWER o_YEAST h44 n0 z46 f117) hZ (hw _ (List.mem_of_getElem? (i := 27) rfl)) (hw _ (List.mem_of_getElem? (i := 3) rfl)) (by decide) (by decide)) q116a q116c (g := (mkF m 140 #[.val (.int p1), .val (.int p2), .val (.ref b1), .val (.ref b23), .val (.int (3 : Int32)), .val (.int (2 : Int32)), .val (.int (1 : Int32))] [(.ref o_YEAST), (.ref o_MASTER_BREWER)])) rfl (by rw [hml]; rfl) (Steps.refl _) (argsL := [(.ref o_YEAST)]) (rest := []) (lenOf pd_0 rfl) rfl (by show 2 * 0 + _ ≤ _; exact Nat.le_of_eq rfl) (hb hby at_140) (fun _ _ => ⟨rfl, e44, (by decide : 2 + 0 ≤ _), (by decide : 7 + 0 ≤ _)⟩)
      dsimp only [Pt.U, Pt.locs, Pt.cells, Pt.slots] at X116 l116 y116 z116 st116 hQ116
      subst l116 y116 z116
      obtain ⟨r116, rfl, hr116, N116q, eq116⟩ := hQ116
      have N116 := Fr.app N44 N116q
      obtain ⟨fs, hr, hrun, hended, hW, hsame⟩ := X116.leave (v := some (.int (1 : Int32))) (fun h => by rw [Bd.returns] at h; cases h)
      refine ⟨_, _, ?_, hrun, hended, _, _, rfl, ?_, ⟨_, rfl⟩, hW, hsame.mono (by decide) (by decide)⟩
      · show Steps p.tables e below (T44.setTop (mkF m 63 #[.val (.int p1), .val (.int p2), .val (.ref b1), .val (.ref b23), .val (.int (3 : Int32)), .unset, .unset] [(.int (2 : Int32))])) _
        refine XS.istore X44.here hx rfl (hb hby at_63) rfl (l' := #[.val (.int p1), .val (.int p2), .val (.ref b1), .val (.ref b23), .val (.int (3 : Int32)), .val (.int (2 : Int32)), .unset]) rfl ?_
        show Steps p.tables e below (T44.setTop (mkF m 65 #[.val (.int p1), .val (.int p2), .val (.ref b1), .val (.ref b23), .val (.int (3 : Int32)), .val (.int (2 : Int32)), .unset] [])) _
        refine XS.iload X44.here hx rfl (hb hby at_65) rfl ?_
        show Steps p.tables e below (T44.setTop (mkF m 67 #[.val (.int p1), .val (.int p2), .val (.ref b1), .val (.ref b23), .val (.int (3 : Int32)), .val (.int (2 : Int32)), .unset] [(.int (3 : Int32))])) _
        refine XS.iconst X44.here hx rfl (hb hby at_67) ?_
        show Steps p.tables e below (T44.setTop (mkF m 68 #[.val (.int p1), .val (.int p2), .val (.ref b1), .val (.ref b23), .val (.int (3 : Int32)), .val (.int (2 : Int32)), .unset] [(.int (3 : Int32)), (.int (3 : Int32))])) _
        refine XS.icmpNo X44.here hx rfl (hb hby at_68) rfl ((teq (by decide : (3 : Int32) = (3 : Int32))).2) ?_
        show Steps p.tables e below (T44.setTop (mkF m 71 #[.val (.int p1), .val (.int p2), .val (.ref b1), .val (.ref b23), .val (.int (3 : Int32)), .val (.int (2 : Int32)), .unset] [])) _
        refine XS.iconst X44.here hx rfl (hb hby at_71) ?_
        show Steps p.tables e below (T44.setTop (mkF m 72 #[.val (.int p1), .val (.int p2), .val (.ref b1), .val (.ref b23), .val (.int (3 : Int32)), .val (.int (2 : Int32)), .unset] [(.int (1 : Int32))])) _
        refine XS.istore X44.here hx rfl (hb hby at_72) rfl (l' := #[.val (.int p1), .val (.int p2), .val (.ref b1), .val (.ref b23), .val (.int (3 : Int32)), .val (.int (2 : Int32)), .val (.int (1 : Int32))]) rfl ?_
        show Steps p.tables e below (T44.setTop (mkF m 74 #[.val (.int p1), .val (.int p2), .val (.ref b1), .val (.ref b23), .val (.int (3 : Int32)), .val (.int (2 : Int32)), .val (.int (1 : Int32))] [])) _
        refine XS.goto X44.here hx rfl (pc0 := 74) (pc' := 132) rfl (hb hby at_74) (by decide) (by decide) ?_
        show Steps p.tables e below (T44.setTop (mkF m 132 #[.val (.int p1), .val (.int p2), .val (.ref b1), .val (.ref b23), .val (.int (3 : Int32)), .val (.int (2 : Int32)), .val (.int (1 : Int32))] [])) _
        refine XS.aloadN X44.here hx rfl (hb hby at_132) rfl rfl ?_
        show Steps p.tables e below (T44.setTop (mkF m 133 #[.val (.int p1), .val (.int p2), .val (.ref b1), .val (.ref b23), .val (.int (3 : Int32)), .val (.int (2 : Int32)), .val (.int (1 : Int32))] [(.ref b1)])) _
        refine XS.iload X44.here hx rfl (hb hby at_133) rfl ?_
        show Steps p.tables e below (T44.setTop (mkF m 135 #[.val (.int p1), .val (.int p2), .val (.ref b1), .val (.ref b23), .val (.int (3 : Int32)), .val (.int (2 : Int32)), .val (.int (1 : Int32))] [(.int (3 : Int32)), (.ref b1)])) _
        refine X44.aaload hx (j := (3 : Int32)) (v := (.ref o_MASTER_BREWER)) (by rw [e44]; exact Ar113.1) (State.isArrayOf_alike hZ.alike Ar113.2.1) rfl Ar113.2.2 hin113 hat113 (g := (mkF m 135 #[.val (.int p1), .val (.int p2), .val (.ref b1), .val (.ref b23), .val (.int (3 : Int32)), .val (.int (2 : Int32)), .val (.int (1 : Int32))] [(.int (3 : Int32)), (.ref b1)])) rfl rfl (hb hby at_135) _ ?_
        show Steps p.tables e below (T44.setTop (mkF m 136 #[.val (.int p1), .val (.int p2), .val (.ref b1), .val (.ref b23), .val (.int (3 : Int32)), .val (.int (2 : Int32)), .val (.int (1 : Int32))] [(.ref o_MASTER_BREWER)])) _
        refine XS.aloadN X44.here hx rfl (hb hby at_136) rfl rfl ?_
        show Steps p.tables e below (T44.setTop (mkF m 137 #[.val (.int p1), .val (.int p2), .val (.ref b1), .val (.ref b23), .val (.int (3 : Int32)), .val (.int (2 : Int32)), .val (.int (1 : Int32))] [(.ref b23), (.ref o_MASTER_BREWER)])) _
        refine XS.iload X44.here hx rfl (hb hby at_137) rfl ?_
        show Steps p.tables e below (T44.setTop (mkF m 139 #[.val (.int p1), .val (.int p2), .val (.ref b1), .val (.ref b23), .val (.int (3 : Int32)), .val (.int (2 : Int32)), .val (.int (1 : Int32))] [(.int (2 : Int32)), (.ref b23), (.ref o_MASTER_BREWER)])) _
        refine X44.aaload hx (j := (2 : Int32)) (v := (.ref o_YEAST)) (by rw [e44]; exact Ar115.1) (State.isArrayOf_alike hZ.alike Ar115.2.1) rfl Ar115.2.2 hin115 hat115 (g := (mkF m 139 #[.val (.int p1), .val (.int p2), .val (.ref b1), .val (.ref b23), .val (.int (3 : Int32)), .val (.int (2 : Int32)), .val (.int (1 : Int32))] [(.int (2 : Int32)), (.ref b23), (.ref o_MASTER_BREWER)])) rfl rfl (hb hby at_139) _ ?_
        show Steps p.tables e below (T44.setTop (mkF m 140 #[.val (.int p1), .val (.int p2), .val (.ref b1), .val (.ref b23), .val (.int (3 : Int32)), .val (.int (2 : Int32)), .val (.int (1 : Int32))] [(.ref o_YEAST), (.ref o_MASTER_BREWER)])) _
        refine st116.trans ?_
        show Steps p.tables e below (T116.setTop (mkF m 143 #[.val (.int p1), .val (.int p2), .val (.ref b1), .val (.ref b23), .val (.int (3 : Int32)), .val (.int (2 : Int32)), .val (.int (1 : Int32))] [(.int r116)])) _
        refine XS.iload X116.here hx rfl (hb hby at_143) rfl ?_
        show Steps p.tables e below (T116.setTop (mkF m 145 #[.val (.int p1), .val (.int p2), .val (.ref b1), .val (.ref b23), .val (.int (3 : Int32)), .val (.int (2 : Int32)), .val (.int (1 : Int32))] [(.int (1 : Int32)), (.int r116)])) _
        refine XS.icmpNo X116.here hx rfl (hb hby at_145) rfl ((teq (hr116 : r116 = (1 : Int32))).2) ?_
        show Steps p.tables e below (T116.setTop (mkF m 148 #[.val (.int p1), .val (.int p2), .val (.ref b1), .val (.ref b23), .val (.int (3 : Int32)), .val (.int (2 : Int32)), .val (.int (1 : Int32))] [])) _
        refine XS.iconst X116.here hx rfl (hb hby at_148) ?_
        show Steps p.tables e below (T116.setTop (mkF m 149 #[.val (.int p1), .val (.int p2), .val (.ref b1), .val (.ref b23), .val (.int (3 : Int32)), .val (.int (2 : Int32)), .val (.int (1 : Int32))] [(.int (1 : Int32))])) _
        refine XS.goto X116.here hx rfl (pc0 := 149) (pc' := 153) rfl (hb hby at_149) (by decide) (by decide) ?_
        show Steps p.tables e below (T116.setTop (mkF m 153 #[.val (.int p1), .val (.int p2), .val (.ref b1), .val (.ref b23), .val (.int (3 : Int32)), .val (.int (2 : Int32)), .val (.int (1 : Int32))] [(.int (1 : Int32))])) _
        exact retN X116 hx (t := .boolean) Bd.returns (by simp) (hb hby at_153) hr
      · exact ⟨rfl, N116⟩
set_option maxRecDepth 65536 in
set_option maxHeartbeats 40000000 in
theorem comes_1 {Post : Tables → Env → Array Value → State → Outcome → State → Prop} (hpost : ∀ tb e args s v u, (limb_1_1.after args s (.returned v) u = true ∧ limb_1_2.after args s (.returned v) u = true ∧ True) → FrameEnd s (.returned v) u (Jvm.fieldLocs frame_1_writes args s ++ Jvm.arrayLocs frame_1_arrays args s ++ Jvm.staticLocs frame_1_statics s) 16 128 → Post tb e args s (.returned v) u) :
    ArmFor flags0 classFile x code maxLocals ret World_1 tables_1 room_1 Calls_1 rest_1 Pre_1 Post := by
  intro l hfl _ _ p e ha hc hk s m args below hf hA hF happ hP
  obtain ⟨hcalls, hrest, hpre⟩ := hP
  obtain ⟨-, -, -, hnamed, -, -, -, hat⟩ := (Spec.applies_iff hf).mp happ
  obtain ⟨hg, hn⟩ := and_e (Cond.before_iff.mp (show (Jvm.Cond.and given_1 narrow_1).before args s = true from hpre))
  obtain ⟨g1, g2⟩ := and_e hg
  obtain ⟨g3, g4⟩ := and_e g2
  obtain ⟨w0, w1, rfl⟩ : ∃ w0 w1 : Value, args = #[w0, w1] := by
    have hs : args.size = 2 := by simpa [Cond.value, given_1] using g1
    obtain ⟨L⟩ := args
    match L, hs with
    | [w0, w1], _ => exact ⟨w0, w1, rfl⟩
  have hw := fun d (hd : d ∈ tables_1) => atoms_spec (ws := Jvm.Cond.code x code maxLocals ret :: tables_1) hat d (List.mem_cons_of_mem _ hd)
  have hfit : Fit s := fun {y c} hc i hi => by
    obtain ⟨ha, rfl⟩ := Array.getElem?_eq_some_iff.mp hc
    have q := List.all_eq_true.mp ((Array.all_eq_true_iff_forall_mem.mp hF) _ (Array.getElem_mem ha)) i (List.mem_range.mpr hi)
    simpa [Array.getElem?_eq_getElem hi] using q
  obtain ⟨i0, ei0⟩ := is_v g3
  obtain rfl : w0 = (.int i0) := Option.some.inj ei0
  obtain ⟨i1, ei1⟩ := is_v g4
  obtain rfl : w1 = (.int i1) := Option.some.inj ei1
  obtain ⟨nn1, nn2⟩ := and_e hn
  obtain ⟨nn3, nn4⟩ := and_e nn2
  obtain ⟨nn5, nn6⟩ := and_e nn4
  obtain ⟨nn7, nn8⟩ := and_e nn6
  obtain ⟨nn9, nn10⟩ := and_e nn8
  obtain ⟨nn11, nn12⟩ := and_e nn10
  obtain ⟨nn13, nn14⟩ := and_e nn12
  obtain ⟨nn15, nn16⟩ := and_e nn14
  obtain ⟨nn17, nn18⟩ := and_e nn16
  obtain ⟨nn19, nn20⟩ := and_e nn18
  obtain ⟨nn21, nn22⟩ := and_e nn20
  obtain ⟨nn23, nn24⟩ := and_e nn22
  obtain ⟨nn25, nn26⟩ := and_e nn24
  obtain ⟨o_MALT_EXPERT, ev_o_MALT_EXPERT⟩ := exa_v nn1
  obtain ⟨o_HOPS_IMPORTER, ev_o_HOPS_IMPORTER⟩ := exa_v nn3
  obtain ⟨o_SCIENTIST, ev_o_SCIENTIST⟩ := exa_v nn5
  obtain ⟨o_MASTER_BREWER, ev_o_MASTER_BREWER⟩ := exa_v nn7
  obtain ⟨o_MALT, ev_o_MALT⟩ := exa_v nn9
  obtain ⟨o_HOPS, ev_o_HOPS⟩ := exa_v nn11
  obtain ⟨o_YEAST, ev_o_YEAST⟩ := exa_v nn13
  obtain ⟨n, o, h1, h2, h3, _, L, rfl, ⟨rfl, N⟩, hq⟩ := rm0 l s _ hw tables_1 i0 i1 o_MALT_EXPERT o_HOPS_IMPORTER o_SCIENTIST o_MASTER_BREWER o_MALT o_HOPS o_YEAST s.heap s.heap.size (Nat.le_refl _) (Sta.start ev_o_MALT_EXPERT (Or.inr ⟨(hw _ (List.mem_of_getElem? (i := 3) rfl)), (hw _ (List.mem_of_getElem? (i := 4) rfl))⟩)) (Exa.start ev_o_MALT_EXPERT nn1) (Sta.start ev_o_HOPS_IMPORTER (Or.inr ⟨(hw _ (List.mem_of_getElem? (i := 3) rfl)), (hw _ (List.mem_of_getElem? (i := 7) rfl))⟩)) (Exa.start ev_o_HOPS_IMPORTER nn3) (Sta.start ev_o_SCIENTIST (Or.inr ⟨(hw _ (List.mem_of_getElem? (i := 3) rfl)), (hw _ (List.mem_of_getElem? (i := 9) rfl))⟩)) (Exa.start ev_o_SCIENTIST nn5) (Sta.start ev_o_MASTER_BREWER (Or.inr ⟨(hw _ (List.mem_of_getElem? (i := 3) rfl)), (hw _ (List.mem_of_getElem? (i := 11) rfl))⟩)) (Exa.start ev_o_MASTER_BREWER nn7) (Sta.start ev_o_MALT (Or.inr ⟨(hw _ (List.mem_of_getElem? (i := 15) rfl)), (hw _ (List.mem_of_getElem? (i := 16) rfl))⟩)) (Exa.start ev_o_MALT nn9) (Sta.start ev_o_HOPS (Or.inr ⟨(hw _ (List.mem_of_getElem? (i := 15) rfl)), (hw _ (List.mem_of_getElem? (i := 19) rfl))⟩)) (Exa.start ev_o_HOPS nn11) (Sta.start ev_o_YEAST (Or.inr ⟨(hw _ (List.mem_of_getElem? (i := 15) rfl)), (hw _ (List.mem_of_getElem? (i := 21) rfl))⟩)) (Exa.start ev_o_YEAST nn13) (own_fR ev_o_MALT_EXPERT ev_o_MALT nn15) (own_fR ev_o_SCIENTIST ev_o_YEAST nn17) (own_fI ev_o_YEAST nn19) (own_fI ev_o_HOPS nn21) (own_fI ev_o_MALT nn23) (own_fR ev_o_HOPS_IMPORTER ev_o_HOPS nn25) (own_fN ev_o_MASTER_BREWER nn26) (Fld.ne (own_fI ev_o_YEAST nn19) (own_fI ev_o_HOPS nn21) (by simp)) (Fld.ne (own_fI ev_o_YEAST nn19) (own_fI ev_o_MALT nn23) (by simp)) (Fld.ne (own_fI ev_o_HOPS nn21) (own_fI ev_o_MALT nn23) (by simp)) p e ha hc hk s m _ below hf ((Spec.applies_iff_loose hf).mp happ).1 ⟨rfl, State.Warmed39.refl s, rfl⟩ trivial
  refine ⟨n, _, h1, h2, h3, hpost _ _ _ _ _ _ ⟨Cond.after_iff.mpr rfl, Cond.after_iff.mpr (eq_i res_at (Term.int_eval (1)) rfl), trivial⟩ ⟨hq.1, hq.2.1, (hq.2.2.sift fun y hy => Or.inr (N y hy)).mono (by decide) (by decide)⟩⟩
theorem main_1_1 : Claimed_1_1 := comes_1 fun _ _ _ _ _ _ h hF => ⟨h.1, hF⟩
theorem main_1_2 : Claimed_1_2 := comes_1 fun _ _ _ _ _ _ h hF => ⟨h.2.1, hF⟩
end Jvm.Pilot.@@N@@
namespace Jvm.Pilot.@@N@@
open Jvm Jvm.ClassFile Sem Op Lib Jvm.Free Jvm.Stand Jvm.Pilot.@@N@@.Jvm.D
/-! MADE BY PROGRAM (witnessworld.py) out of the Statement's table words and the real class files: 16 classes; the members and pool entries that the words name. The judged class is class 1, her method 1. -/
namespace start1
open Jvm.ClassFile
def u (s : String) : CpInfo := .utf8 (stringToUtf16 s)
/-- a pool by its gaps: so many unusable entries, then the entry; so many at the end -/
def gap : Nat → List CpInfo → List CpInfo
  | 0, r => r
  | n + 1, r => .unusable :: gap n r
def poolList (es : List (Nat × CpInfo)) (last : Nat) : List CpInfo := es.foldr (fun e r => gap e.1 (e.2 :: r)) (gap last [])
def pool (es : List (Nat × CpInfo)) (last : Nat) : Array CpInfo := ⟨poolList es last⟩
def fileOf (pool : Array CpInfo) (this : Nat) (attrs : Array Attribute := #[]) (ms : Array MethodInfo := #[]) (fl : Nat := 33) (sup : Nat := 0) (ifs : Array Nat := #[]) (fds : Array FieldInfo := #[]) : ClassFile where
  minorVersion := 0
  majorVersion := 65
  constantPool := pool
  accessFlags := fl
  thisClass := this
  superClass := sup
  interfaces := ifs
  fields := fds
  methods := ms
  attributes := attrs
def plain (name : String) (sup : Option ClassId) : Class where
  name := name
  kind := .ordinary
  loader := none
  accessFlags := 33
  super := sup
  interfaces := #[]
  cf := none
  fields := #[]
  methods := #[]
  instanceTypes := #[]
  staticTypes := #[]
  resolved := #[]
  callSites := []
  init := .initialized
  statics := none
  mirror := none

def pool0 : Array CpInfo := pool [(5, u "<init>"), (0, u "()V"), (1, .class_ 10), (1, u "java/lang/Object")] 113

def k0m0 : Method := { name := "<init>", desc := "()V", sig := { parameters := [], returnType := none }, accessFlags := 1, code := none }
/-- java/lang/Object -/
def k0 : Class := { plain "java/lang/Object" none with
  accessFlags := 33
  interfaces := #[]
  cf := some (fileOf pool0 8 #[] #[{ accessFlags := 1, nameIndex := 5, descriptorIndex := 6, attributes := #[] }] 33 0 #[] #[])
  fields := #[]
  methods := #[k0m0]
  instanceTypes := #[]
  staticTypes := #[]
  resolved := Array.replicate 124 none
  statics := none }

def pool1 : Array CpInfo := pool [(2, .class_ 4), (1, u "java/lang/Object"), (0, u "<init>"), (0, u "()V"), (0, .class_ 8), (0, u "com/example/pipstill/pipstill/SixSidedStout$Assistant"), (0, .fieldref 7 10), (0, .nameAndType 11 12), (0, u "MALT_EXPERT"), (0, u "Lcom/example/pipstill/pipstill/SixSidedStout$Assistant;"), (0, .fieldref 7 14), (0, .nameAndType 15 12), (0, u "HOPS_IMPORTER"), (0, .fieldref 7 17), (0, .nameAndType 18 12), (0, u "SCIENTIST"), (0, .fieldref 7 20), (0, .nameAndType 21 12), (0, u "MASTER_BREWER"), (0, .class_ 23), (0, u "com/example/pipstill/pipstill/SixSidedStout$Ware"), (0, .fieldref 22 25), (0, .nameAndType 26 27), (0, u "MALT"), (0, u "Lcom/example/pipstill/pipstill/SixSidedStout$Ware;"), (0, .fieldref 22 29), (0, .nameAndType 30 27), (0, u "HOPS"), (0, .fieldref 22 32), (0, .nameAndType 33 27), (0, u "YEAST"), (0, .integer 2147483647), (0, .methodref 7 36), (0, .nameAndType 37 38), (0, u "serves"), (0, u "(Lcom/example/pipstill/pipstill/SixSidedStout$Ware;)Z"), (0, .class_ 40), (0, u "com/example/pipstill/pipstill/AssistantServesPinLaw"), (2, u "law"), (0, u "(II)Z")] 12

def k1m0 : Method := { name := "<init>", desc := "()V", sig := { parameters := [], returnType := none }, accessFlags := 2, code := none }
def k1c1 : Code := { maxStack := 4, maxLocals := 7, code := code, exceptionTable := #[], attributes := #[] }
def k1m1 : Method := { name := "law", desc := "(II)Z", sig := { parameters := [.int, .int], returnType := some .boolean }, accessFlags := 9, code := some k1c1 }
/-- com/example/pipstill/pipstill/AssistantServesPinLaw -/
def k1 : Class := { plain "com/example/pipstill/pipstill/AssistantServesPinLaw" (some 0) with
  accessFlags := 49
  interfaces := #[]
  cf := some (fileOf pool1 39 #[] #[{ accessFlags := 2, nameIndex := 5, descriptorIndex := 6, attributes := #[] }, { accessFlags := 9, nameIndex := 43, descriptorIndex := 44, attributes := #[] }] 49 2 #[] #[])
  fields := #[]
  methods := #[k1m0, k1m1]
  instanceTypes := #[]
  staticTypes := #[]
  resolved := Array.replicate 57 none
  statics := none }

def pool2 : Array CpInfo := pool [(1, .class_ 2), (0, u "java/lang/constant/Constable"), (0, .class_ 4), (0, u "java/lang/Object")] 6

/-- java/lang/constant/Constable -/
def k2 : Class := { plain "java/lang/constant/Constable" (some 0) with
  accessFlags := 1537
  interfaces := #[]
  cf := some (fileOf pool2 1 #[] #[] 1537 3 #[] #[])
  fields := #[]
  methods := #[]
  instanceTypes := #[]
  staticTypes := #[]
  resolved := Array.replicate 11 none
  statics := none }

def pool3 : Array CpInfo := pool [(1, .class_ 2), (0, u "java/lang/Comparable"), (0, .class_ 4), (0, u "java/lang/Object")] 7

/-- java/lang/Comparable -/
def k3 : Class := { plain "java/lang/Comparable" (some 0) with
  accessFlags := 1537
  interfaces := #[]
  cf := some (fileOf pool3 1 #[] #[] 1537 3 #[] #[])
  fields := #[]
  methods := #[]
  instanceTypes := #[]
  staticTypes := #[]
  resolved := Array.replicate 12 none
  statics := none }

def pool4 : Array CpInfo := pool [(1, .class_ 2), (0, u "java/io/Serializable"), (0, .class_ 4), (0, u "java/lang/Object")] 2

/-- java/io/Serializable -/
def k4 : Class := { plain "java/io/Serializable" (some 0) with
  accessFlags := 1537
  interfaces := #[]
  cf := some (fileOf pool4 1 #[] #[] 1537 3 #[] #[])
  fields := #[]
  methods := #[]
  instanceTypes := #[]
  staticTypes := #[]
  resolved := Array.replicate 7 none
  statics := none }

def pool5 : Array CpInfo := pool [(2, .class_ 4), (1, u "java/lang/Enum"), (0, u "name"), (0, u "Ljava/lang/String;"), (2, u "ordinal"), (0, u "I"), (1, .class_ 14), (1, u "java/lang/Object"), (4, u "hash"), (86, .class_ 108), (1, u "java/lang/Enum$EnumDesc"), (2, .class_ 112), (0, u "java/lang/constant/Constable"), (0, .class_ 114), (0, u "java/lang/Comparable"), (0, .class_ 116), (0, u "java/io/Serializable")] 87

/-- java/lang/Enum -/
def k5 : Class := { plain "java/lang/Enum" (some 0) with
  accessFlags := 1057
  interfaces := #[2, 3, 4]
  cf := some (fileOf pool5 2 #[.nestMembers #[106]] #[] 1057 12 #[111, 113, 115] #[{ accessFlags := 18, nameIndex := 5, descriptorIndex := 6, attributes := #[] }, { accessFlags := 18, nameIndex := 9, descriptorIndex := 10, attributes := #[] }, { accessFlags := 2, nameIndex := 19, descriptorIndex := 10, attributes := #[] }])
  fields := #[{ name := "name", type := (.object "java/lang/String"), accessFlags := 18, slot := 0, constantValue := 0 }, { name := "ordinal", type := .int, accessFlags := 18, slot := 1, constantValue := 0 }, { name := "hash", type := .int, accessFlags := 2, slot := 2, constantValue := 0 }]
  methods := #[]
  instanceTypes := #[(.object "java/lang/String"), .int, .int]
  staticTypes := #[]
  resolved := Array.replicate 204 none
  statics := none }

def pool6 : Array CpInfo := pool [(2, .class_ 4), (1, u "com/example/pipstill/pipstill/Named"), (35, .class_ 41), (0, u "java/lang/Object")] 13

/-- com/example/pipstill/pipstill/Named -/
def k6 : Class := { plain "com/example/pipstill/pipstill/Named" (some 0) with
  accessFlags := 1536
  interfaces := #[]
  cf := some (fileOf pool6 2 #[] #[] 1536 40 #[] #[])
  fields := #[]
  methods := #[]
  instanceTypes := #[]
  staticTypes := #[]
  resolved := Array.replicate 55 none
  statics := none }

def pool7 : Array CpInfo := pool [(1, .class_ 2), (0, u "com/example/pipstill/pipstill/SixSidedStout$Assistant"), (2, u "MALT_EXPERT"), (0, u "Lcom/example/pipstill/pipstill/SixSidedStout$Assistant;"), (2, u "HOPS_IMPORTER"), (2, u "SCIENTIST"), (2, u "MASTER_BREWER"), (2, u "$VALUES"), (0, u "[Lcom/example/pipstill/pipstill/SixSidedStout$Assistant;"), (6, .class_ 28), (1, u "java/lang/Enum"), (6, .fieldref 1 36), (0, .nameAndType 37 38), (0, u "ware"), (0, u "Lcom/example/pipstill/pipstill/SixSidedStout$Ware;"), (9, .class_ 50), (1, u "com/example/pipstill/pipstill/SixSidedStout"), (21, .class_ 73), (0, u "com/example/pipstill/pipstill/Named"), (7, u "serves"), (0, u "(Lcom/example/pipstill/pipstill/SixSidedStout$Ware;)Z")] 12

def k7c0 : Code := { maxStack := 2, maxLocals := 2, code := prog_29_method_4_code, exceptionTable := #[], attributes := #[] }
def k7m0 : Method := { name := "serves", desc := "(Lcom/example/pipstill/pipstill/SixSidedStout$Ware;)Z", sig := { parameters := [(.object "com/example/pipstill/pipstill/SixSidedStout$Ware")], returnType := some .boolean }, accessFlags := 0, code := some k7c0 }
/-- com/example/pipstill/pipstill/SixSidedStout$Assistant -/
def k7 : Class := { plain "com/example/pipstill/pipstill/SixSidedStout$Assistant" (some 5) with
  accessFlags := 16432
  interfaces := #[6]
  cf := some (fileOf pool7 1 #[.nestHost 48] #[{ accessFlags := 0, nameIndex := 81, descriptorIndex := 82, attributes := #[] }] 16432 26 #[72] #[{ accessFlags := 16409, nameIndex := 5, descriptorIndex := 6, attributes := #[] }, { accessFlags := 16409, nameIndex := 9, descriptorIndex := 6, attributes := #[] }, { accessFlags := 16409, nameIndex := 12, descriptorIndex := 6, attributes := #[] }, { accessFlags := 16409, nameIndex := 15, descriptorIndex := 6, attributes := #[] }, { accessFlags := 18, nameIndex := 37, descriptorIndex := 38, attributes := #[] }, { accessFlags := 4122, nameIndex := 18, descriptorIndex := 19, attributes := #[] }])
  fields := #[{ name := "MALT_EXPERT", type := (.object "com/example/pipstill/pipstill/SixSidedStout$Assistant"), accessFlags := 16409, slot := 0, constantValue := 0 }, { name := "HOPS_IMPORTER", type := (.object "com/example/pipstill/pipstill/SixSidedStout$Assistant"), accessFlags := 16409, slot := 1, constantValue := 0 }, { name := "SCIENTIST", type := (.object "com/example/pipstill/pipstill/SixSidedStout$Assistant"), accessFlags := 16409, slot := 2, constantValue := 0 }, { name := "MASTER_BREWER", type := (.object "com/example/pipstill/pipstill/SixSidedStout$Assistant"), accessFlags := 16409, slot := 3, constantValue := 0 }, { name := "ware", type := (.object "com/example/pipstill/pipstill/SixSidedStout$Ware"), accessFlags := 18, slot := 3, constantValue := 0 }, { name := "$VALUES", type := (.array (.object "com/example/pipstill/pipstill/SixSidedStout$Assistant")), accessFlags := 4122, slot := 4, constantValue := 0 }]
  methods := #[k7m0]
  instanceTypes := #[(.object "java/lang/String"), .int, .int, (.object "com/example/pipstill/pipstill/SixSidedStout$Ware")]
  staticTypes := #[(.object "com/example/pipstill/pipstill/SixSidedStout$Assistant"), (.object "com/example/pipstill/pipstill/SixSidedStout$Assistant"), (.object "com/example/pipstill/pipstill/SixSidedStout$Assistant"), (.object "com/example/pipstill/pipstill/SixSidedStout$Assistant"), (.array (.object "com/example/pipstill/pipstill/SixSidedStout$Assistant"))]
  resolved := Array.replicate 95 none
  statics := some 0 }

def pool8 : Array CpInfo := pool [(1, .class_ 2), (0, u "com/example/pipstill/pipstill/SixSidedStout$Ware"), (2, u "MALT"), (0, u "Lcom/example/pipstill/pipstill/SixSidedStout$Ware;"), (2, u "HOPS"), (2, u "YEAST"), (2, u "$VALUES"), (0, u "[Lcom/example/pipstill/pipstill/SixSidedStout$Ware;"), (6, .class_ 25), (1, u "java/lang/Enum"), (8, u "divisor"), (0, u "I"), (2, u "ingredient"), (0, u "Lcom/example/pipstill/pipstill/SixSidedStout$Ingredient;"), (7, .class_ 49), (1, u "com/example/pipstill/pipstill/SixSidedStout"), (21, .class_ 72), (0, u "com/example/pipstill/pipstill/Named")] 20

/-- com/example/pipstill/pipstill/SixSidedStout$Ware -/
def k8 : Class := { plain "com/example/pipstill/pipstill/SixSidedStout$Ware" (some 5) with
  accessFlags := 16432
  interfaces := #[6]
  cf := some (fileOf pool8 1 #[.nestHost 47] #[] 16432 23 #[71] #[{ accessFlags := 16409, nameIndex := 5, descriptorIndex := 6, attributes := #[] }, { accessFlags := 16409, nameIndex := 9, descriptorIndex := 6, attributes := #[] }, { accessFlags := 16409, nameIndex := 12, descriptorIndex := 6, attributes := #[] }, { accessFlags := 18, nameIndex := 34, descriptorIndex := 35, attributes := #[] }, { accessFlags := 18, nameIndex := 38, descriptorIndex := 39, attributes := #[] }, { accessFlags := 4122, nameIndex := 15, descriptorIndex := 16, attributes := #[] }])
  fields := #[{ name := "MALT", type := (.object "com/example/pipstill/pipstill/SixSidedStout$Ware"), accessFlags := 16409, slot := 0, constantValue := 0 }, { name := "HOPS", type := (.object "com/example/pipstill/pipstill/SixSidedStout$Ware"), accessFlags := 16409, slot := 1, constantValue := 0 }, { name := "YEAST", type := (.object "com/example/pipstill/pipstill/SixSidedStout$Ware"), accessFlags := 16409, slot := 2, constantValue := 0 }, { name := "divisor", type := .int, accessFlags := 18, slot := 3, constantValue := 0 }, { name := "ingredient", type := (.object "com/example/pipstill/pipstill/SixSidedStout$Ingredient"), accessFlags := 18, slot := 4, constantValue := 0 }, { name := "$VALUES", type := (.array (.object "com/example/pipstill/pipstill/SixSidedStout$Ware")), accessFlags := 4122, slot := 3, constantValue := 0 }]
  methods := #[]
  instanceTypes := #[(.object "java/lang/String"), .int, .int, .int, (.object "com/example/pipstill/pipstill/SixSidedStout$Ingredient")]
  staticTypes := #[(.object "com/example/pipstill/pipstill/SixSidedStout$Ware"), (.object "com/example/pipstill/pipstill/SixSidedStout$Ware"), (.object "com/example/pipstill/pipstill/SixSidedStout$Ware"), (.array (.object "com/example/pipstill/pipstill/SixSidedStout$Ware"))]
  resolved := Array.replicate 93 none
  statics := some 1 }

def pool9 : Array CpInfo := pool [(1, u "java/lang/Cloneable"), (0, .class_ 1), (0, u "java/lang/Object"), (0, .class_ 3)] 3

/-- java/lang/Cloneable -/
def k9 : Class := { plain "java/lang/Cloneable" (some 0) with
  accessFlags := 1537
  interfaces := #[]
  cf := some (fileOf pool9 2 #[] #[] 1537 4 #[] #[])
  fields := #[]
  methods := #[]
  instanceTypes := #[]
  staticTypes := #[]
  resolved := Array.replicate 8 none
  statics := none }

/-- the primitive byte -/
def k10 : Class := { plain "byte" none with kind := .primitive 'B', accessFlags := 0x411 }
/-- [B -/
def k11 : Class := { plain "[B" (some 0) with kind := .array 10 .byte, interfaces := #[9, 4], accessFlags := 1041 }

/-- the primitive int -/
def k12 : Class := { plain "int" none with kind := .primitive 'I', accessFlags := 0x411 }
/-- [I -/
def k13 : Class := { plain "[I" (some 0) with kind := .array 12 .int, interfaces := #[9, 4], accessFlags := 1041 }

/-- [Lcom/example/pipstill/pipstill/SixSidedStout$Assistant; -/
def k14 : Class := { plain "[Lcom/example/pipstill/pipstill/SixSidedStout$Assistant;" (some 0) with kind := .array 7 (.object "com/example/pipstill/pipstill/SixSidedStout$Assistant"), interfaces := #[9, 4], accessFlags := 1041 }

/-- [Lcom/example/pipstill/pipstill/SixSidedStout$Ware; -/
def k15 : Class := { plain "[Lcom/example/pipstill/pipstill/SixSidedStout$Ware;" (some 0) with kind := .array 8 (.object "com/example/pipstill/pipstill/SixSidedStout$Ware"), interfaces := #[9, 4], accessFlags := 1041 }

def heap : Heap := #[{ cls := 7, slots := #[.ref 5, .ref 6, .ref 7, .ref 8, .null], vm := .statics 7 },
  { cls := 8, slots := #[.ref 2, .ref 3, .ref 4, .null], vm := .statics 8 },
  { cls := 8, slots := #[.null, .int 0, .int 0, .int 0, .null], vm := .none },
  { cls := 8, slots := #[.null, .int 1, .int 0, .int 0, .null], vm := .none },
  { cls := 8, slots := #[.null, .int 2, .int 0, .int 0, .null], vm := .none },
  { cls := 7, slots := #[.null, .int 0, .int 0, .ref 2], vm := .none },
  { cls := 7, slots := #[.null, .int 1, .int 0, .ref 3], vm := .none },
  { cls := 7, slots := #[.null, .int 2, .int 0, .ref 4], vm := .none },
  { cls := 7, slots := #[.null, .int 3, .int 0, .null], vm := .none }]
def classes : Array Class := #[k0, k1, k2, k3, k4, k5, k6, k7, k8, k9, k10, k11, k12, k13, k14, k15]
def interned : List (Array UInt16 × Addr) := []
def slotsUsed : Nat := 40
def theMethod : MethodId := ⟨1, 1⟩
def args0 : Array Value := #[.int 5, .int 6]
def aboutOver (below : List Frame) : State where
  vm := { classes := classes, interned := interned.toArray }
  heap := heap
  slotsUsed := slotsUsed
  threads := #[{ frames := .invoking theMethod args0 :: below }]
def below0 : List Frame := [.native { method := ⟨0, 0⟩, args := #[] }]
def about1 : State := aboutOver below0
def p0 : Program := .bare "" "" ""
def e0 : Env := launch0.env 0 0 0
theorem w_frames : about1.frames = Frame.invoking theMethod args0 :: below0 := rfl
set_option maxRecDepth 65536 in
theorem w_args : argsFit about1.vm theMethod args0 = true := by decide +kernel
set_option maxRecDepth 65536 in
theorem w_heap : heapFits about1 = true := by decide +kernel
set_option maxRecDepth 65536 in
theorem w_runnable : about1.curStatus? = some .runnable := by decide +kernel
set_option maxRecDepth 65536 in
theorem w_alone : about1.alone = true := by decide +kernel
set_option maxRecDepth 65536 in
theorem w_named : about1.methodNamed? x = some theMethod := by decide +kernel
set_option maxRecDepth 65536 in
theorem w_hears : about1.hears theMethod below0 = true := by decide +kernel
set_option maxRecDepth 65536 in
theorem w_ripe : about1.ripe theMethod args0 below0 = true := by decide +kernel
theorem w_running : about1.status = .running := rfl
set_option maxRecDepth 65536 in
theorem w_room : about1.hasRoom e0.platform room_1 = true :=
  launch0.hasRoom_least _ room_1 (by decide +kernel) (by decide +kernel) (by decide +kernel) (by decide +kernel) (by decide +kernel) (by decide +kernel)
theorem allAtoms_all (ts : List Jvm.Cond) (a : Array Jvm.Value) (st : Jvm.State) : (allAtoms ts).before a st = ts.all (fun c => c.before a st) := by
  induction ts with
  | nil => rfl
  | cons c t ih =>
    show (Jvm.Cond.and c (allAtoms t)).before a st = _
    rw [Jvm.Cond.before_and, ih, List.all_cons]
def words1 : List Jvm.Cond := Jvm.Cond.code x code maxLocals ret :: tables_1
/-- a 'code' word, met by the world's own term for the bytes: nothing is compared byte by byte -/
theorem code_word {y : MethodName} {bytes : ByteArray} {mx : Nat} {rt : Option FieldType} {a : Array Value} {s : State} {m : MethodId} {meth : Method} {c : Code} (h1 : s.methodNamed? y = some m) (h2 : s.vm.method? m = some meth) (h3 : meth.code = some c) (h4 : c.code = bytes)
    (h5 : (c.maxLocals == mx && c.exceptionTable.isEmpty && decide (c.maxStack ≤ mostOperands) && decide (meth.sig.returnType = rt) && !meth.locks && decide (parseMethodDescriptor y.desc = some meth.sig)) = true) : (Jvm.Cond.code y bytes mx rt).before a s = true := by
  simp only [Bool.and_eq_true, beq_iff_eq, Bool.not_eq_true', decide_eq_true_eq] at h5
  obtain ⟨⟨⟨⟨⟨g1, g2⟩, g3⟩, g4⟩, g5⟩, g6⟩ := h5
  simp [Cond.before, Cond.holds, Cond.value, h1, h2, h3, h4, g1, g2, g3, g4, g5, g6]
def isCode : Jvm.Cond → Bool
  | .code _ _ _ _ => true
  | _ => false
theorem all_split {L : List Jvm.Cond} {P : Jvm.Cond → Bool} (h1 : L.all (fun c => isCode c || P c) = true) (h2 : ∀ c ∈ L.filter isCode, P c = true) : L.all P = true := by
  refine List.all_eq_true.mpr fun c hc => ?_
  have h := List.all_eq_true.mp h1 c hc
  rcases Bool.eq_false_or_eq_true (isCode c) with hi | hi
  · exact h2 c (List.mem_filter.mpr ⟨hc, hi⟩)
  · simpa [hi] using h
set_option maxRecDepth 65536 in
theorem w_c0 : (Jvm.Cond.code x code maxLocals ret).before args0 about1 = true := code_word (m := ⟨1, 1⟩) (meth := k1m1) (c := k1c1) (by decide +kernel) rfl rfl rfl (by decide +kernel)
set_option maxRecDepth 65536 in
theorem w_c1 : (Jvm.Cond.code ({ cls := "com/example/pipstill/pipstill/SixSidedStout$Assistant", name := "serves", desc := "(Lcom/example/pipstill/pipstill/SixSidedStout$Ware;)Z" } : Jvm.MethodName) prog_29_method_4_code (2 : Nat) (Option.some Jvm.ClassFile.FieldType.boolean)).before args0 about1 = true := code_word (m := ⟨7, 0⟩) (meth := k7m0) (c := k7c0) (by decide +kernel) rfl rfl rfl (by decide +kernel)
def codes1 : List Jvm.Cond := [Jvm.Cond.code x code maxLocals ret, Jvm.Cond.code ({ cls := "com/example/pipstill/pipstill/SixSidedStout$Assistant", name := "serves", desc := "(Lcom/example/pipstill/pipstill/SixSidedStout$Ware;)Z" } : Jvm.MethodName) prog_29_method_4_code (2 : Nat) (Option.some Jvm.ClassFile.FieldType.boolean)]
set_option maxRecDepth 65536 in
theorem codes_eq : words1.filter isCode = codes1 := rfl
theorem w_codes : ∀ c ∈ words1.filter isCode, c.before args0 about1 = true := by
  rw [codes_eq]
  intro c hc
  simp only [codes1, List.mem_cons, List.not_mem_nil, or_false] at hc
  rcases hc with rfl | rfl
  · exact w_c0
  · exact w_c1
set_option maxRecDepth 65536 in
theorem w_t1 : (words1.take 24).all (fun c => isCode c || c.before args0 about1) = true := by decide +kernel
set_option maxRecDepth 65536 in
theorem w_t2 : (words1.drop 24).all (fun c => isCode c || c.before args0 about1) = true := by decide +kernel
theorem w_tables : (allAtoms (Jvm.Cond.code x code maxLocals ret :: tables_1)).before args0 about1 = true := by
  rw [allAtoms_all]
  show words1.all (fun c => c.before args0 about1) = true
  refine all_split ?_ w_codes
  rw [← List.take_append_drop 24 words1, List.all_append, w_t1, w_t2]
  rfl
set_option maxRecDepth 65536 in
theorem w_case : (Jvm.Cond.and given_1 narrow_1).before args0 about1 = true := by decide +kernel
theorem w_applies : (headSpec (Jvm.Cond.code x code maxLocals ret :: tables_1) room_1).applies x e0.platform about1 = true :=
  (Spec.applies_iff w_frames).mpr ⟨w_running, w_runnable, w_alone, w_named, w_hears, w_ripe, w_room, w_tables⟩
theorem atStart : AtStart classFile x code maxLocals ret World_1 tables_1 room_1 Calls_1 rest_1 Pre_1 launch0 p0 e0 about1 theMethod args0 below0 :=
  ⟨lists_1, trivial, launch0.admits_env _ _ _, launch0.least_env, fairChoices_fair.cas, fairChoices_fair.clock, w_frames, w_args, w_heap, w_applies, trivial, trivial, w_case⟩
end start1
theorem witness_1 : WitnessClaimed_1 := ⟨start1.p0, start1.e0, start1.about1, start1.theMethod, start1.args0, start1.below0, start1.atStart⟩
end Jvm.Pilot.@@N@@
