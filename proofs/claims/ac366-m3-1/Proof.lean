import JvmDerived
import JvmDerived.Pilot.@@N@@Statement
import JvmDerived.Pilot.@@N@@Code
set_option linter.unusedVariables false
set_option linter.unusedSimpArgs false
namespace Jvm.RoadKit
open Sem ClassFile Op Lib Jvm.Stand Jvm.Free Jvm.LawKit
section New
variable {p : Program} {l : Launch} {e : Env} {R : Room} {s : State} {m : MethodId} {args : Array Value} {below : List Frame} {meth : Method} {c : Code} {T : State} {locs : List Loc} {cells slots : Nat}
theorem retI (X : Stand p l e R s m args below meth c T locs cells slots) (hx : p.tables.exec = Jvm.exec) {pc : Nat} {Ls : Array Slot} {z : Int32} {rest : List Value} (hret : meth.sig.returnType = some .int) (hd : decode c.code pc = .ok (.ireturn, 1)) {fs : List Frame}
    (hl : ∀ (f : JFrame) (acts : List Action), f.method = m → f.locked = none → f.entered = [] → (doReturn e (T.setTop f) acts (some (.int z))).1 = T.setFrames fs) : Steps p.tables e below (T.setTop (mkF m pc Ls (.int z :: rest))) (T.setFrames fs) := by
  have hm' : T.vm.method? m = some meth := X.method'
  have hn : narrow .int (.int z) = .int z := rfl
  show Steps p.tables e below (T.setTop { method := m, pc := pc, locals := Ls, stack := _ :: rest, locked := none }) _
  jvm_step X.here [X.here.top, hx, hd, hm', hret, hn]
  first | (intro acts; rw [hl _ acts rfl rfl rfl]) | rw [hl _ _ rfl rfl rfl]
  exact Steps.refl _
end New
end Jvm.RoadKit
namespace Jvm.Pilot.@@N@@
open Jvm Jvm.ClassFile Sem Op Lib Jvm.Free Jvm.Stand Jvm.LawKit Jvm.RoadKit Bundle Jvm.Pilot.@@N@@.Jvm.D
-- from the state st the run ends, and Q holds of what it leaves
def GoalS (tb : Tables) (e : Env) (below : List Frame) (s : State) (kc ks : Nat) (Q : Option Value → Heap → List Loc → Prop) (st : State) : Prop :=
  ∃ s₂ o, Steps tb e below st s₂ ∧ s₂.status = .running ∧ Ended s₂ below o ∧ ∃ v L, o = .returned v ∧ Q v s₂.heap L ∧ FrameEnd s o s₂ L kc ks
theorem GoalS.lift {tb : Tables} {e : Env} {below : List Frame} {s : State} {kc ks : Nat} {Q : Option Value → Heap → List Loc → Prop} {A B : State}
    (h : ∀ t, Steps tb e below B t → Steps tb e below A t) (g : GoalS tb e below s kc ks Q B) : GoalS tb e below s kc ks Q A := by
  obtain ⟨s₂, o, h1, h2⟩ := g
  exact ⟨s₂, o, h _ h1, h2⟩
-- an array of n places of which place i holds f i
def AV (Z : State) (h : Heap) (a : Addr) (k : ClassId) (ty : FieldType) (n : Nat) (f : Nat → Value) : Prop := ∃ c : Cell, Arr Z h a c ty ∧ c.cls = k ∧ c.slots.size = n ∧ n < 2147483648 ∧ ∀ i, i < n → c.slots[i]? = some (f i)
def updI (f : Nat → Int32) (j : Nat) (v : Int32) : Nat → Int32 := fun i => if i = j then v else f i
def updJ (f : Nat → Int64) (j : Nat) (v : Int64) : Nat → Int64 := fun i => if i = j then v else f i
def updR (f : Nat → Value) (j : Nat) (v : Value) : Nat → Value := fun i => if i = j then v else f i
section Own
variable {Z : State} {h h' : Heap} {a b : Addr} {k : ClassId} {ty : FieldType} {n : Nat} {f g : Nat → Value} {ws : List Addr} {v : Value} {sl : Nat}
theorem AV.lt (F : AV Z h a k ty n f) : a < h.size := by obtain ⟨c, A, -⟩ := F; exact A.lt
theorem AV.ext (F : AV Z h a k ty n f) (E : Ext h h') : AV Z h' a k ty n f := by obtain ⟨c, A, r⟩ := F; exact ⟨c, A.ext E, r⟩
theorem AV.other (F : AV Z h b k ty n f) (W : Wr h h' a sl v) (q : b ≠ a) : AV Z h' b k ty n f := by obtain ⟨c, A, r⟩ := F; exact ⟨c, A.other W q, r⟩
theorem AV.keep (F : AV Z h a k ty n f) (K : Keep h h' ws) (q : a ∉ ws) : AV Z h' a k ty n f := by obtain ⟨c, A, r⟩ := F; exact ⟨c, ⟨K.2.1 a c A.1 q, A.2⟩, r⟩
theorem AV.new {z : Int32} (A : Arr Z h a (newA k ty z) ty) (q : ¬ z < 0) (hn : z.toNatClampNeg = n) (hb : n < 2147483648) : AV Z h a k ty n (fun _ => defaultValue ty) :=
  ⟨_, A, rfl, (sz_new _ _ _).trans hn, hb, fun i hi => by simp [newA, hn, hi]⟩
theorem AV.inb {c : Cell} {j : Int32} (S : c.slots.size = n) (q : ¬ j < 0 ∧ j.toNatClampNeg < n) : ¬ (j < 0 ∨ c.slots.size ≤ j.toNatClampNeg) := fun u => u.elim q.1 fun w => by omega
theorem AV.inx {j : Int32} (q : ¬ j < 0 ∧ j.toNatClampNeg < n) : j.toNatClampNeg < n := q.2
theorem AV.conv (F : AV Z h a k ty n f) (e : ∀ i, i < n → f i = g i) : AV Z h a k ty n g := by
  obtain ⟨c, A, r1, r2, r3, r4⟩ := F; exact ⟨c, A, r1, r2, r3, fun i hi => (r4 i hi).trans (congrArg some (e i hi))⟩
theorem AV.putR {j : Nat} (F : AV Z h a k ty n f) (W : Wr h h' a j v) (hj : j < n) : AV Z h' a k ty n (updR f j v) := by
  obtain ⟨c, A, r1, r2, r3, r4⟩ := F
  refine ⟨_, A.same W, r1, (sz_set _ _ _).trans r2, r3, fun i hi => ?_⟩
  by_cases q : i = j
  · subst q; simp [Cell.setSlot, updR, r2, hi]
  · have q' : j ≠ i := fun u => q u.symm
    simp only [Cell.setSlot, updR, if_neg q]; rw [Array.getElem?_setIfInBounds_ne q']; exact r4 i hi
theorem AV.putI {j : Nat} {f : Nat → Int32} {v : Int32} (F : AV Z h a k ty n (fun i => Value.int (f i))) (W : Wr h h' a j (.int v)) (hj : j < n) : AV Z h' a k ty n (fun i => Value.int (updI f j v i)) :=
  (F.putR W hj).conv fun i _ => by simp only [updR, updI]; split <;> rfl
theorem AV.putJ {j : Nat} {f : Nat → Int64} {v : Int64} (F : AV Z h a k ty n (fun i => Value.long (f i))) (W : Wr h h' a j (.long v)) (hj : j < n) : AV Z h' a k ty n (fun i => Value.long (updJ f j v i)) :=
  (F.putR W hj).conv fun i _ => by simp only [updR, updJ]; split <;> rfl
end Own


theorem own_fI {args : Array Value} {s : State} {t : Term} {x : Addr} {C n dd : String} {k : Int32} (ht : t.eval args s none [] s = some (.ref x)) (h : (Cond.eq (Term.field t C n dd) (Term.int k)).value args s none s [] = some true) : Fld s s.heap x C n dd (.int k) := by
  apply Fld.start
  rw [← fld_at (C := C) (n := n) (dd := dd) ht]
  obtain ⟨u, w, e1, e2, k1, k2⟩ := cmp_v (Or.inl h)
  have e3 : w = .int k := (Option.some.inj ((Term.int_eval k).symm.trans e2)).symm
  subst e3
  obtain ⟨z, rfl⟩ := k2
  have : z = k := by simpa [Cond.value, e1, e2] using h
  rw [e1, this]
theorem own_fN {args : Array Value} {s : State} {t : Term} {x : Addr} {C n dd : String} (ht : t.eval args s none [] s = some (.ref x)) (h : (Cond.eq (Term.field t C n dd) Term.null).value args s none s [] = some true) : Fld s s.heap x C n dd .null := by
  apply Fld.start
  rw [← fld_at (C := C) (n := n) (dd := dd) ht]
  exact null_v h
theorem own_fR {args : Array Value} {s : State} {t t2 : Term} {x y : Addr} {C n dd : String} (ht : t.eval args s none [] s = some (.ref x)) (ht2 : t2.eval args s none [] s = some (.ref y)) (h : (Cond.eq (Term.field t C n dd) t2).value args s none s [] = some true) : Fld s s.heap x C n dd (.ref y) := by
  apply Fld.start
  rw [← fld_at (C := C) (n := n) (dd := dd) ht]
  obtain ⟨u, w, e1, e2, k1, k2⟩ := cmp_v (Or.inl h)
  have e3 : w = .ref y := (Option.some.inj (ht2.symm.trans e2)).symm
  subst e3
  have hu : u.isRef = true := k2.2
  rw [e1]
  exact congrArg some (gotT (eq_R e1 e2 hu rfl) h)

theorem own_four (x : Int32) : (x &&& (3 : Int32)) = (0 : Int32) ∨ (x &&& (3 : Int32)) = (1 : Int32) ∨ (x &&& (3 : Int32)) = (2 : Int32) ∨ (x &&& (3 : Int32)) = (3 : Int32) := by
  have h : (x &&& 3).toInt = x.toInt % (2 ^ 2 : Nat) := c_mask x 3 2 (by decide) (by decide)
  have k : ∀ y : Int32, (x &&& 3).toInt = y.toInt → (x &&& (3 : Int32)) = y := fun y q => Int32.toInt_inj.mp q
  have e0 : (0 : Int32).toInt = 0 := rfl
  have e1 : (1 : Int32).toInt = 1 := rfl
  have e2 : (2 : Int32).toInt = 2 := rfl
  have e3 : (3 : Int32).toInt = 3 := rfl
  rcases (show (x &&& 3).toInt = 0 ∨ (x &&& 3).toInt = 1 ∨ (x &&& 3).toInt = 2 ∨ (x &&& 3).toInt = 3 by omega) with q | q | q | q
  · exact Or.inl (k 0 (by omega))
  · exact Or.inr (Or.inl (k 1 (by omega)))
  · exact Or.inr (Or.inr (Or.inl (k 2 (by omega))))
  · exact Or.inr (Or.inr (Or.inr (k 3 (by omega))))

theorem d1_0 : decode method_2_code 0 = .ok (.iload_n 0, 1) := by decide +kernel
theorem d1_1 : decode method_2_code 1 = .ok (.ifCond .ne 7, 3) := by decide +kernel
theorem d1_4 : decode method_2_code 4 = .ok (.getstatic 7, 3) := by decide +kernel
theorem d1_7 : decode method_2_code 7 = .ok (.areturn, 1) := by decide +kernel
theorem d1_8 : decode method_2_code 8 = .ok (.iload_n 0, 1) := by decide +kernel
theorem d1_9 : decode method_2_code 9 = .ok (.iconst 1, 1) := by decide +kernel
theorem d1_10 : decode method_2_code 10 = .ok (.if_icmp .ne 7, 3) := by decide +kernel
theorem d1_13 : decode method_2_code 13 = .ok (.getstatic 13, 3) := by decide +kernel
theorem d1_16 : decode method_2_code 16 = .ok (.areturn, 1) := by decide +kernel
theorem d1_17 : decode method_2_code 17 = .ok (.iload_n 0, 1) := by decide +kernel
theorem d1_18 : decode method_2_code 18 = .ok (.iconst 2, 1) := by decide +kernel
theorem d1_19 : decode method_2_code 19 = .ok (.if_icmp .ne 7, 3) := by decide +kernel
theorem d1_22 : decode method_2_code 22 = .ok (.getstatic 16, 3) := by decide +kernel
theorem d1_25 : decode method_2_code 25 = .ok (.areturn, 1) := by decide +kernel
theorem d1_26 : decode method_2_code 26 = .ok (.getstatic 19, 3) := by decide +kernel
theorem d1_29 : decode method_2_code 29 = .ok (.areturn, 1) := by decide +kernel
theorem pn_0 : plainName "com/example/rialto/rialto/core/movement/WithdrawalStatusHasBeenPinLaw" = true := by first | (simp [plainName, overriddenIn]; done) | decide +kernel
theorem ef_rm1 (m : MethodId) (p1 : Int32) : entryFrame m #[(.int p1)] 1 = mkF m 0 #[.val (.int p1)] [] := by first | (simp [entryFrame, mkF, argsToLocals, Value.category]; done) | rfl
def Q1 (Z : State) (p1 : Int32) (o_PENDING : Addr) (o_RETURNED : Addr) (o_FAILED : Addr) (o_SUCCEEDED : Addr) (h0 : Heap) (n0 : Nat) (v : Option Value) (h : Heap) (L : List Loc) : Prop := ∃ r : Addr, v = some (.ref r) ∧ r = (if p1 = (0 : Int32) then o_PENDING else (if p1 = (1 : Int32) then o_SUCCEEDED else (if p1 = (2 : Int32) then o_FAILED else o_RETURNED))) ∧ Fr n0 L ∧ h = h0
set_option maxRecDepth 65536 in
set_option maxHeartbeats 40000000 in
theorem rm1 (l : Launch) (Z : State) (a0 : Array Value) (hw : ∀ d ∈ tables_1, d.before a0 Z = true) (ws : List Jvm.Cond) (p1 : Int32) (o_PENDING : Addr) (o_RETURNED : Addr) (o_FAILED : Addr) (o_SUCCEEDED : Addr) (h0 : Heap) (n0 : Nat) (Z0 : n0 ≤ h0.size) (S_PENDING : Sta Z h0 "com/example/rialto/rialto/core/movement/WithdrawalStatus" "PENDING" "Lcom/example/rialto/rialto/core/movement/WithdrawalStatus;" (.ref o_PENDING)) (S_RETURNED : Sta Z h0 "com/example/rialto/rialto/core/movement/WithdrawalStatus" "RETURNED" "Lcom/example/rialto/rialto/core/movement/WithdrawalStatus;" (.ref o_RETURNED)) (S_FAILED : Sta Z h0 "com/example/rialto/rialto/core/movement/WithdrawalStatus" "FAILED" "Lcom/example/rialto/rialto/core/movement/WithdrawalStatus;" (.ref o_FAILED)) (S_SUCCEEDED : Sta Z h0 "com/example/rialto/rialto/core/movement/WithdrawalStatus" "SUCCEEDED" "Lcom/example/rialto/rialto/core/movement/WithdrawalStatus;" (.ref o_SUCCEEDED)) :
    MetFree l (⟨"com/example/rialto/rialto/core/movement/WithdrawalStatusHasBeenPinLaw", "pick", "(I)Lcom/example/rialto/rialto/core/movement/WithdrawalStatus;"⟩ : MethodName) (head1 (Jvm.Cond.code (⟨"com/example/rialto/rialto/core/movement/WithdrawalStatusHasBeenPinLaw", "pick", "(I)Lcom/example/rialto/rialto/core/movement/WithdrawalStatus;"⟩ : MethodName) method_2_code 1 (some (.object "com/example/rialto/rialto/core/movement/WithdrawalStatus")) :: ws) ({ frames := 0, cells := 0, slots := 0, locals := 0 } : Room)) (fun a U => a = #[(.int p1)] ∧ Z.Warmed39 U.vm ∧ U.heap = h0) (fun _ _ _ _ _ => True) (fun _ U o U' => ∃ v L, o = .returned v ∧ Q1 Z p1 o_PENDING o_RETURNED o_FAILED o_SUCCEEDED h0 n0 v U'.heap L ∧ FrameEnd U o U' L ({ frames := 0, cells := 0, slots := 0, locals := 0 } : Room).cells ({ frames := 0, cells := 0, slots := 0, locals := 0 } : Room).slots) := by
  refine MetFree.of_bodySF (plainFor_of_name pn_0) hisR ?_
  intro p e s m args below meth c s₁ Bd hml0 hP hK
  obtain ⟨rfl, hZ, hh⟩ := hP
  have hx := Bd.exec
  have hby := Bd.bytes
  have hml : c.maxLocals = 1 := hml0
  have hown : s.vm.findClass "com/example/rialto/rialto/core/movement/WithdrawalStatusHasBeenPinLaw" = some m.cls := findClass_of_methodNamed Bd.named
  have hnm := (name_of_methodNamed Bd.named Bd.method).1
  have X0 : Stand p l e ({ frames := 0, cells := 0, slots := 0, locals := 0 } : Room) s m #[(.int p1)] below meth c s₁ [] 0 0 := Stand.of_body Bd
  have e0 : s₁.heap = h0 := by rw [← hh, Bd.state]; rfl
  have N0 := Fr.nil n0
  show GoalS p.tables e below s ({ frames := 0, cells := 0, slots := 0, locals := 0 } : Room).cells ({ frames := 0, cells := 0, slots := 0, locals := 0 } : Room).slots (Q1 Z p1 o_PENDING o_RETURNED o_FAILED o_SUCCEEDED h0 n0) (s₁.setTop (entryFrame m #[(.int p1)] 1))
  refine GoalS.lift (B := s₁.setTop (mkF m 0 #[.val (.int p1)] [])) (fun t k => castTop (ef_rm1 m p1) k) ?_
  have K0 : Keep h0 h0 [] := Keep.refl _ _
  refine GoalS.lift (B := (s₁.setTop (mkF m 1 #[.val (.int p1)] [(.int p1)]))) (fun t k => ?_) ?_
  · show Steps p.tables e below (s₁.setTop (mkF m 0 #[.val (.int p1)] [])) _
    refine XS.iloadN X0.here hx rfl (hb hby d1_0) rfl ?_
    show Steps p.tables e below (s₁.setTop (mkF m 1 #[.val (.int p1)] [(.int p1)])) _
    exact k
  by_cases hc1_1 : p1 = (0 : Int32)
  · obtain ⟨T2, X2, e2, st2⟩ := getS2 X0 hx hZ hown (host := "") (Or.inl (hw _ (List.mem_of_getElem? (i := 4) rfl))) Via.refl e0 S_PENDING (g := (mkF m 4 #[.val (.int p1)] [])) rfl (hb hby d1_4)
    obtain ⟨fs, hr, hrun, hended, hW, hsame⟩ := X2.leave (v := some (.ref o_PENDING)) (fun h => by rw [Bd.returns] at h; cases h)
    refine ⟨_, _, ?_, hrun, hended, _, _, rfl, ?_, ⟨_, rfl⟩, hW, hsame.mono (by decide) (by decide)⟩
    · show Steps p.tables e below (s₁.setTop (mkF m 1 #[.val (.int p1)] [(.int p1)])) _
      refine XS.ifNo X0.here hx rfl (hb hby d1_1) rfl ((if0 _ _).trans (teq hc1_1).2) ?_
      show Steps p.tables e below (s₁.setTop (mkF m 4 #[.val (.int p1)] [])) _
      refine st2 _ ?_
      show Steps p.tables e below (T2.setTop (mkF m 7 #[.val (.int p1)] [(.ref o_PENDING)])) _
      jvm_step X2.here [X2.here.top, hx, (hb hby d1_7), X2.method', Bd.returns, Value.isRef, FieldType.isReference]
      first | (intro acts; rw [hr _ acts rfl rfl rfl]) | rw [hr _ _ rfl rfl rfl]
      exact Steps.refl _
    · show Q1 Z p1 o_PENDING o_RETURNED o_FAILED o_SUCCEEDED h0 n0 _ T2.heap _
      exact ⟨_, rfl, (by simp only [if_pos hc1_1]), N0, e2⟩
  · refine GoalS.lift (B := (s₁.setTop (mkF m 10 #[.val (.int p1)] [(.int (1 : Int32)), (.int p1)]))) (fun t k => ?_) ?_
    · show Steps p.tables e below (s₁.setTop (mkF m 1 #[.val (.int p1)] [(.int p1)])) _
      refine XS.ifYes X0.here hx rfl (pc0 := 1) (pc' := 8) rfl (hb hby d1_1) rfl ((if0 _ _).trans (feq hc1_1).2) (by decide) (by decide) ?_
      show Steps p.tables e below (s₁.setTop (mkF m 8 #[.val (.int p1)] [])) _
      refine XS.iloadN X0.here hx rfl (hb hby d1_8) rfl ?_
      show Steps p.tables e below (s₁.setTop (mkF m 9 #[.val (.int p1)] [(.int p1)])) _
      refine XS.iconst X0.here hx rfl (hb hby d1_9) ?_
      show Steps p.tables e below (s₁.setTop (mkF m 10 #[.val (.int p1)] [(.int (1 : Int32)), (.int p1)])) _
      exact k
    by_cases hc10_3 : p1 = (1 : Int32)
    · obtain ⟨T4, X4, e4, st4⟩ := getS2 X0 hx hZ hown (host := "") (Or.inl (hw _ (List.mem_of_getElem? (i := 18) rfl))) Via.refl e0 S_SUCCEEDED (g := (mkF m 13 #[.val (.int p1)] [])) rfl (hb hby d1_13)
      obtain ⟨fs, hr, hrun, hended, hW, hsame⟩ := X4.leave (v := some (.ref o_SUCCEEDED)) (fun h => by rw [Bd.returns] at h; cases h)
      refine ⟨_, _, ?_, hrun, hended, _, _, rfl, ?_, ⟨_, rfl⟩, hW, hsame.mono (by decide) (by decide)⟩
      · show Steps p.tables e below (s₁.setTop (mkF m 10 #[.val (.int p1)] [(.int (1 : Int32)), (.int p1)])) _
        refine XS.icmpNo X0.here hx rfl (hb hby d1_10) rfl ((teq hc10_3).2) ?_
        show Steps p.tables e below (s₁.setTop (mkF m 13 #[.val (.int p1)] [])) _
        refine st4 _ ?_
        show Steps p.tables e below (T4.setTop (mkF m 16 #[.val (.int p1)] [(.ref o_SUCCEEDED)])) _
        jvm_step X4.here [X4.here.top, hx, (hb hby d1_16), X4.method', Bd.returns, Value.isRef, FieldType.isReference]
        first | (intro acts; rw [hr _ acts rfl rfl rfl]) | rw [hr _ _ rfl rfl rfl]
        exact Steps.refl _
      · show Q1 Z p1 o_PENDING o_RETURNED o_FAILED o_SUCCEEDED h0 n0 _ T4.heap _
        exact ⟨_, rfl, (by simp only [if_neg hc1_1, if_pos hc10_3]), N0, e4⟩
    · refine GoalS.lift (B := (s₁.setTop (mkF m 19 #[.val (.int p1)] [(.int (2 : Int32)), (.int p1)]))) (fun t k => ?_) ?_
      · show Steps p.tables e below (s₁.setTop (mkF m 10 #[.val (.int p1)] [(.int (1 : Int32)), (.int p1)])) _
        refine XS.icmpYes X0.here hx rfl (pc0 := 10) (pc' := 17) rfl (hb hby d1_10) rfl ((feq hc10_3).2) (by decide) (by decide) ?_
        show Steps p.tables e below (s₁.setTop (mkF m 17 #[.val (.int p1)] [])) _
        refine XS.iloadN X0.here hx rfl (hb hby d1_17) rfl ?_
        show Steps p.tables e below (s₁.setTop (mkF m 18 #[.val (.int p1)] [(.int p1)])) _
        refine XS.iconst X0.here hx rfl (hb hby d1_18) ?_
        show Steps p.tables e below (s₁.setTop (mkF m 19 #[.val (.int p1)] [(.int (2 : Int32)), (.int p1)])) _
        exact k
      by_cases hc19_5 : p1 = (2 : Int32)
      · obtain ⟨T6, X6, e6, st6⟩ := getS2 X0 hx hZ hown (host := "") (Or.inl (hw _ (List.mem_of_getElem? (i := 16) rfl))) Via.refl e0 S_FAILED (g := (mkF m 22 #[.val (.int p1)] [])) rfl (hb hby d1_22)
        obtain ⟨fs, hr, hrun, hended, hW, hsame⟩ := X6.leave (v := some (.ref o_FAILED)) (fun h => by rw [Bd.returns] at h; cases h)
        refine ⟨_, _, ?_, hrun, hended, _, _, rfl, ?_, ⟨_, rfl⟩, hW, hsame.mono (by decide) (by decide)⟩
        · show Steps p.tables e below (s₁.setTop (mkF m 19 #[.val (.int p1)] [(.int (2 : Int32)), (.int p1)])) _
          refine XS.icmpNo X0.here hx rfl (hb hby d1_19) rfl ((teq hc19_5).2) ?_
          show Steps p.tables e below (s₁.setTop (mkF m 22 #[.val (.int p1)] [])) _
          refine st6 _ ?_
          show Steps p.tables e below (T6.setTop (mkF m 25 #[.val (.int p1)] [(.ref o_FAILED)])) _
          jvm_step X6.here [X6.here.top, hx, (hb hby d1_25), X6.method', Bd.returns, Value.isRef, FieldType.isReference]
          first | (intro acts; rw [hr _ acts rfl rfl rfl]) | rw [hr _ _ rfl rfl rfl]
          exact Steps.refl _
        · show Q1 Z p1 o_PENDING o_RETURNED o_FAILED o_SUCCEEDED h0 n0 _ T6.heap _
          exact ⟨_, rfl, (by simp only [if_neg hc1_1, if_neg hc10_3, if_pos hc19_5]), N0, e6⟩
      · obtain ⟨T7, X7, e7, st7⟩ := getS2 X0 hx hZ hown (host := "") (Or.inl (hw _ (List.mem_of_getElem? (i := 7) rfl))) Via.refl e0 S_RETURNED (g := (mkF m 26 #[.val (.int p1)] [])) rfl (hb hby d1_26)
        obtain ⟨fs, hr, hrun, hended, hW, hsame⟩ := X7.leave (v := some (.ref o_RETURNED)) (fun h => by rw [Bd.returns] at h; cases h)
        refine ⟨_, _, ?_, hrun, hended, _, _, rfl, ?_, ⟨_, rfl⟩, hW, hsame.mono (by decide) (by decide)⟩
        · show Steps p.tables e below (s₁.setTop (mkF m 19 #[.val (.int p1)] [(.int (2 : Int32)), (.int p1)])) _
          refine XS.icmpYes X0.here hx rfl (pc0 := 19) (pc' := 26) rfl (hb hby d1_19) rfl ((feq hc19_5).2) (by decide) (by decide) ?_
          show Steps p.tables e below (s₁.setTop (mkF m 26 #[.val (.int p1)] [])) _
          refine st7 _ ?_
          show Steps p.tables e below (T7.setTop (mkF m 29 #[.val (.int p1)] [(.ref o_RETURNED)])) _
          jvm_step X7.here [X7.here.top, hx, (hb hby d1_29), X7.method', Bd.returns, Value.isRef, FieldType.isReference]
          first | (intro acts; rw [hr _ acts rfl rfl rfl]) | rw [hr _ _ rfl rfl rfl]
          exact Steps.refl _
        · show Q1 Z p1 o_PENDING o_RETURNED o_FAILED o_SUCCEEDED h0 n0 _ T7.heap _
          exact ⟨_, rfl, (by simp only [if_neg hc1_1, if_neg hc10_3, if_neg hc19_5]), N0, e7⟩
theorem d2_0 : decode prog_52_method_5_code 0 = .ok (.iconst 0, 1) := by decide +kernel
theorem d2_1 : decode prog_52_method_5_code 1 = .ok (.istore_n 2, 1) := by decide +kernel
theorem d2_2 : decode prog_52_method_5_code 2 = .ok (.aload_n 0, 1) := by decide +kernel
theorem d2_3 : decode prog_52_method_5_code 3 = .ok (.astore_n 3, 1) := by decide +kernel
theorem d2_4 : decode prog_52_method_5_code 4 = .ok (.aload_n 3, 1) := by decide +kernel
theorem d2_5 : decode prog_52_method_5_code 5 = .ok (.ifnull 26, 3) := by decide +kernel
theorem d2_8 : decode prog_52_method_5_code 8 = .ok (.iload_n 2, 1) := by decide +kernel
theorem d2_9 : decode prog_52_method_5_code 9 = .ok (.ifCond .ne 22, 3) := by decide +kernel
theorem d2_12 : decode prog_52_method_5_code 12 = .ok (.aload_n 3, 1) := by decide +kernel
theorem d2_13 : decode prog_52_method_5_code 13 = .ok (.aload_n 1, 1) := by decide +kernel
theorem d2_14 : decode prog_52_method_5_code 14 = .ok (.if_acmp .ne 7, 3) := by decide +kernel
theorem d2_17 : decode prog_52_method_5_code 17 = .ok (.iconst 1, 1) := by decide +kernel
theorem d2_18 : decode prog_52_method_5_code 18 = .ok (.goto 4, 3) := by decide +kernel
theorem d2_22 : decode prog_52_method_5_code 22 = .ok (.istore_n 2, 1) := by decide +kernel
theorem d2_23 : decode prog_52_method_5_code 23 = .ok (.aload_n 3, 1) := by decide +kernel
theorem d2_24 : decode prog_52_method_5_code 24 = .ok (.getfield 35, 3) := by decide +kernel
theorem d2_27 : decode prog_52_method_5_code 27 = .ok (.astore_n 3, 1) := by decide +kernel
theorem d2_28 : decode prog_52_method_5_code 28 = .ok (.goto (-24), 3) := by decide +kernel
theorem d2_31 : decode prog_52_method_5_code 31 = .ok (.iload_n 2, 1) := by decide +kernel
theorem d2_32 : decode prog_52_method_5_code 32 = .ok (.ireturn, 1) := by decide +kernel
theorem pn_1 : plainName "com/example/rialto/rialto/core/movement/WithdrawalStatus" = true := by first | (simp [plainName, overriddenIn]; done) | decide +kernel
theorem ef_rm2_00 (m : MethodId) (o_PENDING : Addr) : entryFrame m #[(.ref o_PENDING), (.ref o_PENDING)] 4 = mkF m 0 #[.val (.ref o_PENDING), .val (.ref o_PENDING), .unset, .unset] [] := by first | (simp [entryFrame, mkF, argsToLocals, Value.category]; done) | rfl
def Q2_00 (Z : State) (o_PENDING : Addr) (o_RETURNED : Addr) (o_FAILED : Addr) (o_SUCCEEDED : Addr) (h0 : Heap) (n0 : Nat) (v : Option Value) (h : Heap) (L : List Loc) : Prop := ∃ r : Int32, v = some (.int r) ∧ r = (1 : Int32) ∧ Fr n0 L ∧ h = h0
set_option maxRecDepth 65536 in
set_option maxHeartbeats 40000000 in
theorem rm2_00 (l : Launch) (Z : State) (a0 : Array Value) (hw : ∀ d ∈ tables_1, d.before a0 Z = true) (ws : List Jvm.Cond) (o_PENDING : Addr) (o_RETURNED : Addr) (o_FAILED : Addr) (o_SUCCEEDED : Addr) (h0 : Heap) (n0 : Nat) (Z0 : n0 ≤ h0.size) (F_reachedFrom_o_PENDING : Fld Z h0 o_PENDING "com/example/rialto/rialto/core/movement/WithdrawalStatus" "reachedFrom" "Lcom/example/rialto/rialto/core/movement/WithdrawalStatus;" .null) (F_reachedFrom_o_FAILED : Fld Z h0 o_FAILED "com/example/rialto/rialto/core/movement/WithdrawalStatus" "reachedFrom" "Lcom/example/rialto/rialto/core/movement/WithdrawalStatus;" (.ref o_PENDING)) (F_reachedFrom_o_SUCCEEDED : Fld Z h0 o_SUCCEEDED "com/example/rialto/rialto/core/movement/WithdrawalStatus" "reachedFrom" "Lcom/example/rialto/rialto/core/movement/WithdrawalStatus;" (.ref o_PENDING)) (F_reachedFrom_o_RETURNED : Fld Z h0 o_RETURNED "com/example/rialto/rialto/core/movement/WithdrawalStatus" "reachedFrom" "Lcom/example/rialto/rialto/core/movement/WithdrawalStatus;" (.ref o_SUCCEEDED)) (ne_o_PENDING_o_RETURNED : o_PENDING ≠ o_RETURNED) (ne_o_PENDING_o_FAILED : o_PENDING ≠ o_FAILED) (ne_o_PENDING_o_SUCCEEDED : o_PENDING ≠ o_SUCCEEDED) (ne_o_RETURNED_o_FAILED : o_RETURNED ≠ o_FAILED) (ne_o_RETURNED_o_SUCCEEDED : o_RETURNED ≠ o_SUCCEEDED) (ne_o_FAILED_o_SUCCEEDED : o_FAILED ≠ o_SUCCEEDED) :
    MetFree l (⟨"com/example/rialto/rialto/core/movement/WithdrawalStatus", "hasBeen", "(Lcom/example/rialto/rialto/core/movement/WithdrawalStatus;)Z"⟩ : MethodName) (head1 (Jvm.Cond.code (⟨"com/example/rialto/rialto/core/movement/WithdrawalStatus", "hasBeen", "(Lcom/example/rialto/rialto/core/movement/WithdrawalStatus;)Z"⟩ : MethodName) prog_52_method_5_code 4 (some .boolean) :: ws) ({ frames := 0, cells := 0, slots := 0, locals := 0 } : Room)) (fun a U => a = #[(.ref o_PENDING), (.ref o_PENDING)] ∧ Z.Warmed39 U.vm ∧ U.heap = h0) (fun _ _ _ _ _ => True) (fun _ U o U' => ∃ v L, o = .returned v ∧ Q2_00 Z o_PENDING o_RETURNED o_FAILED o_SUCCEEDED h0 n0 v U'.heap L ∧ FrameEnd U o U' L ({ frames := 0, cells := 0, slots := 0, locals := 0 } : Room).cells ({ frames := 0, cells := 0, slots := 0, locals := 0 } : Room).slots) := by
  refine MetFree.of_bodySF (plainFor_of_name pn_1) hisR ?_
  intro p e s m args below meth c s₁ Bd hml0 hP hK
  obtain ⟨rfl, hZ, hh⟩ := hP
  have hx := Bd.exec
  have hby := Bd.bytes
  have hml : c.maxLocals = 4 := hml0
  have hown : s.vm.findClass "com/example/rialto/rialto/core/movement/WithdrawalStatus" = some m.cls := findClass_of_methodNamed Bd.named
  have hnm := (name_of_methodNamed Bd.named Bd.method).1
  have X0 : Stand p l e ({ frames := 0, cells := 0, slots := 0, locals := 0 } : Room) s m #[(.ref o_PENDING), (.ref o_PENDING)] below meth c s₁ [] 0 0 := Stand.of_body Bd
  have e0 : s₁.heap = h0 := by rw [← hh, Bd.state]; rfl
  have N0 := Fr.nil n0
  show GoalS p.tables e below s ({ frames := 0, cells := 0, slots := 0, locals := 0 } : Room).cells ({ frames := 0, cells := 0, slots := 0, locals := 0 } : Room).slots (Q2_00 Z o_PENDING o_RETURNED o_FAILED o_SUCCEEDED h0 n0) (s₁.setTop (entryFrame m #[(.ref o_PENDING), (.ref o_PENDING)] 4))
  refine GoalS.lift (B := s₁.setTop (mkF m 0 #[.val (.ref o_PENDING), .val (.ref o_PENDING), .unset, .unset] [])) (fun t k => castTop (ef_rm2_00 m o_PENDING) k) ?_
  have K0 : Keep h0 h0 [] := Keep.refl _ _
  obtain ⟨T1, X1, e1, st1⟩ := getF X0 hx hZ hown (host := "") (Or.inl (hw _ (List.mem_of_getElem? (i := 14) rfl))) Via.refl e0 F_reachedFrom_o_PENDING (g := (mkF m 24 #[.val (.ref o_PENDING), .val (.ref o_PENDING), .val (.int (1 : Int32)), .val (.ref o_PENDING)] [(.ref o_PENDING)])) rfl rfl (hb hby d2_24)
  obtain ⟨fs, hr, hrun, hended, hW, hsame⟩ := X1.leave (v := some (.int (1 : Int32))) (fun h => by rw [Bd.returns] at h; cases h)
  refine ⟨_, _, ?_, hrun, hended, _, _, rfl, ?_, ⟨_, rfl⟩, hW, hsame.mono (by decide) (by decide)⟩
  · show Steps p.tables e below (s₁.setTop (mkF m 0 #[.val (.ref o_PENDING), .val (.ref o_PENDING), .unset, .unset] [])) _
    refine XS.iconst X0.here hx rfl (hb hby d2_0) ?_
    show Steps p.tables e below (s₁.setTop (mkF m 1 #[.val (.ref o_PENDING), .val (.ref o_PENDING), .unset, .unset] [(.int (0 : Int32))])) _
    refine XS.istoreN X0.here hx rfl (hb hby d2_1) rfl (l' := #[.val (.ref o_PENDING), .val (.ref o_PENDING), .val (.int (0 : Int32)), .unset]) rfl ?_
    show Steps p.tables e below (s₁.setTop (mkF m 2 #[.val (.ref o_PENDING), .val (.ref o_PENDING), .val (.int (0 : Int32)), .unset] [])) _
    refine XS.aloadN X0.here hx rfl (hb hby d2_2) rfl rfl ?_
    show Steps p.tables e below (s₁.setTop (mkF m 3 #[.val (.ref o_PENDING), .val (.ref o_PENDING), .val (.int (0 : Int32)), .unset] [(.ref o_PENDING)])) _
    refine XS.astoreN X0.here hx rfl (hb hby d2_3) rfl rfl (l' := #[.val (.ref o_PENDING), .val (.ref o_PENDING), .val (.int (0 : Int32)), .val (.ref o_PENDING)]) rfl ?_
    show Steps p.tables e below (s₁.setTop (mkF m 4 #[.val (.ref o_PENDING), .val (.ref o_PENDING), .val (.int (0 : Int32)), .val (.ref o_PENDING)] [])) _
    refine XS.aloadN X0.here hx rfl (hb hby d2_4) rfl rfl ?_
    show Steps p.tables e below (s₁.setTop (mkF m 5 #[.val (.ref o_PENDING), .val (.ref o_PENDING), .val (.int (0 : Int32)), .val (.ref o_PENDING)] [(.ref o_PENDING)])) _
    refine XS.ifnullNo X0.here hx rfl (hb hby d2_5) rfl ?_
    show Steps p.tables e below (s₁.setTop (mkF m 8 #[.val (.ref o_PENDING), .val (.ref o_PENDING), .val (.int (0 : Int32)), .val (.ref o_PENDING)] [])) _
    refine XS.iloadN X0.here hx rfl (hb hby d2_8) rfl ?_
    show Steps p.tables e below (s₁.setTop (mkF m 9 #[.val (.ref o_PENDING), .val (.ref o_PENDING), .val (.int (0 : Int32)), .val (.ref o_PENDING)] [(.int (0 : Int32))])) _
    refine XS.ifNo X0.here hx rfl (hb hby d2_9) rfl ((if0 _ _).trans (teq (by decide : (0 : Int32) = (0 : Int32))).2) ?_
    show Steps p.tables e below (s₁.setTop (mkF m 12 #[.val (.ref o_PENDING), .val (.ref o_PENDING), .val (.int (0 : Int32)), .val (.ref o_PENDING)] [])) _
    refine XS.aloadN X0.here hx rfl (hb hby d2_12) rfl rfl ?_
    show Steps p.tables e below (s₁.setTop (mkF m 13 #[.val (.ref o_PENDING), .val (.ref o_PENDING), .val (.int (0 : Int32)), .val (.ref o_PENDING)] [(.ref o_PENDING)])) _
    refine XS.aloadN X0.here hx rfl (hb hby d2_13) rfl rfl ?_
    show Steps p.tables e below (s₁.setTop (mkF m 14 #[.val (.ref o_PENDING), .val (.ref o_PENDING), .val (.int (0 : Int32)), .val (.ref o_PENDING)] [(.ref o_PENDING), (.ref o_PENDING)])) _
    refine Jvm.RoadKit.acmp (g := (mkF m 14 #[.val (.ref o_PENDING), .val (.ref o_PENDING), .val (.int (0 : Int32)), .val (.ref o_PENDING)] [(.ref o_PENDING), (.ref o_PENDING)])) X0 hx rfl rfl rfl (pc0 := 14) (pc' := 17) (same := true) rfl (hb hby d2_14) rfl (decide_eq_true rfl) (by decide) (by decide) ?_
    show Steps p.tables e below (s₁.setTop (mkF m 17 #[.val (.ref o_PENDING), .val (.ref o_PENDING), .val (.int (0 : Int32)), .val (.ref o_PENDING)] [])) _
    refine XS.iconst X0.here hx rfl (hb hby d2_17) ?_
    show Steps p.tables e below (s₁.setTop (mkF m 18 #[.val (.ref o_PENDING), .val (.ref o_PENDING), .val (.int (0 : Int32)), .val (.ref o_PENDING)] [(.int (1 : Int32))])) _
    refine XS.goto X0.here hx rfl (pc0 := 18) (pc' := 22) rfl (hb hby d2_18) (by decide) (by decide) ?_
    show Steps p.tables e below (s₁.setTop (mkF m 22 #[.val (.ref o_PENDING), .val (.ref o_PENDING), .val (.int (0 : Int32)), .val (.ref o_PENDING)] [(.int (1 : Int32))])) _
    refine XS.istoreN X0.here hx rfl (hb hby d2_22) rfl (l' := #[.val (.ref o_PENDING), .val (.ref o_PENDING), .val (.int (1 : Int32)), .val (.ref o_PENDING)]) rfl ?_
    show Steps p.tables e below (s₁.setTop (mkF m 23 #[.val (.ref o_PENDING), .val (.ref o_PENDING), .val (.int (1 : Int32)), .val (.ref o_PENDING)] [])) _
    refine XS.aloadN X0.here hx rfl (hb hby d2_23) rfl rfl ?_
    show Steps p.tables e below (s₁.setTop (mkF m 24 #[.val (.ref o_PENDING), .val (.ref o_PENDING), .val (.int (1 : Int32)), .val (.ref o_PENDING)] [(.ref o_PENDING)])) _
    refine st1 _ ?_
    show Steps p.tables e below (T1.setTop (mkF m 27 #[.val (.ref o_PENDING), .val (.ref o_PENDING), .val (.int (1 : Int32)), .val (.ref o_PENDING)] [.null])) _
    refine XS.astoreN X1.here hx rfl (hb hby d2_27) rfl rfl (l' := #[.val (.ref o_PENDING), .val (.ref o_PENDING), .val (.int (1 : Int32)), .val .null]) rfl ?_
    show Steps p.tables e below (T1.setTop (mkF m 28 #[.val (.ref o_PENDING), .val (.ref o_PENDING), .val (.int (1 : Int32)), .val .null] [])) _
    refine XS.goto X1.here hx rfl (pc0 := 28) (pc' := 4) rfl (hb hby d2_28) (by decide) (by decide) ?_
    show Steps p.tables e below (T1.setTop (mkF m 4 #[.val (.ref o_PENDING), .val (.ref o_PENDING), .val (.int (1 : Int32)), .val .null] [])) _
    refine XS.aloadN X1.here hx rfl (hb hby d2_4) rfl rfl ?_
    show Steps p.tables e below (T1.setTop (mkF m 5 #[.val (.ref o_PENDING), .val (.ref o_PENDING), .val (.int (1 : Int32)), .val .null] [.null])) _
    refine XS.ifnullYes X1.here hx rfl (pc0 := 5) (pc' := 31) rfl (hb hby d2_5) rfl (by decide) (by decide) ?_
    show Steps p.tables e below (T1.setTop (mkF m 31 #[.val (.ref o_PENDING), .val (.ref o_PENDING), .val (.int (1 : Int32)), .val .null] [])) _
    refine XS.iloadN X1.here hx rfl (hb hby d2_31) rfl ?_
    show Steps p.tables e below (T1.setTop (mkF m 32 #[.val (.ref o_PENDING), .val (.ref o_PENDING), .val (.int (1 : Int32)), .val .null] [(.int (1 : Int32))])) _
    exact retN X1 hx (t := .boolean) Bd.returns (by simp) (hb hby d2_32) hr
  · show Q2_00 Z o_PENDING o_RETURNED o_FAILED o_SUCCEEDED h0 n0 _ T1.heap _
    exact ⟨_, rfl, (by rfl), N0, e1⟩
theorem d2_21 : decode prog_52_method_5_code 21 = .ok (.iconst 0, 1) := by decide +kernel
theorem ef_rm2_01 (m : MethodId) (o_PENDING : Addr) (o_SUCCEEDED : Addr) : entryFrame m #[(.ref o_PENDING), (.ref o_SUCCEEDED)] 4 = mkF m 0 #[.val (.ref o_PENDING), .val (.ref o_SUCCEEDED), .unset, .unset] [] := by first | (simp [entryFrame, mkF, argsToLocals, Value.category]; done) | rfl
def Q2_01 (Z : State) (o_PENDING : Addr) (o_SUCCEEDED : Addr) (o_RETURNED : Addr) (o_FAILED : Addr) (h0 : Heap) (n0 : Nat) (v : Option Value) (h : Heap) (L : List Loc) : Prop := ∃ r : Int32, v = some (.int r) ∧ r = (0 : Int32) ∧ Fr n0 L ∧ h = h0
set_option maxRecDepth 65536 in
set_option maxHeartbeats 40000000 in
theorem rm2_01 (l : Launch) (Z : State) (a0 : Array Value) (hw : ∀ d ∈ tables_1, d.before a0 Z = true) (ws : List Jvm.Cond) (o_PENDING : Addr) (o_SUCCEEDED : Addr) (o_RETURNED : Addr) (o_FAILED : Addr) (h0 : Heap) (n0 : Nat) (Z0 : n0 ≤ h0.size) (F_reachedFrom_o_PENDING : Fld Z h0 o_PENDING "com/example/rialto/rialto/core/movement/WithdrawalStatus" "reachedFrom" "Lcom/example/rialto/rialto/core/movement/WithdrawalStatus;" .null) (F_reachedFrom_o_FAILED : Fld Z h0 o_FAILED "com/example/rialto/rialto/core/movement/WithdrawalStatus" "reachedFrom" "Lcom/example/rialto/rialto/core/movement/WithdrawalStatus;" (.ref o_PENDING)) (F_reachedFrom_o_SUCCEEDED : Fld Z h0 o_SUCCEEDED "com/example/rialto/rialto/core/movement/WithdrawalStatus" "reachedFrom" "Lcom/example/rialto/rialto/core/movement/WithdrawalStatus;" (.ref o_PENDING)) (F_reachedFrom_o_RETURNED : Fld Z h0 o_RETURNED "com/example/rialto/rialto/core/movement/WithdrawalStatus" "reachedFrom" "Lcom/example/rialto/rialto/core/movement/WithdrawalStatus;" (.ref o_SUCCEEDED)) (ne_o_PENDING_o_RETURNED : o_PENDING ≠ o_RETURNED) (ne_o_PENDING_o_FAILED : o_PENDING ≠ o_FAILED) (ne_o_PENDING_o_SUCCEEDED : o_PENDING ≠ o_SUCCEEDED) (ne_o_RETURNED_o_FAILED : o_RETURNED ≠ o_FAILED) (ne_o_RETURNED_o_SUCCEEDED : o_RETURNED ≠ o_SUCCEEDED) (ne_o_FAILED_o_SUCCEEDED : o_FAILED ≠ o_SUCCEEDED) :
    MetFree l (⟨"com/example/rialto/rialto/core/movement/WithdrawalStatus", "hasBeen", "(Lcom/example/rialto/rialto/core/movement/WithdrawalStatus;)Z"⟩ : MethodName) (head1 (Jvm.Cond.code (⟨"com/example/rialto/rialto/core/movement/WithdrawalStatus", "hasBeen", "(Lcom/example/rialto/rialto/core/movement/WithdrawalStatus;)Z"⟩ : MethodName) prog_52_method_5_code 4 (some .boolean) :: ws) ({ frames := 0, cells := 0, slots := 0, locals := 0 } : Room)) (fun a U => a = #[(.ref o_PENDING), (.ref o_SUCCEEDED)] ∧ Z.Warmed39 U.vm ∧ U.heap = h0) (fun _ _ _ _ _ => True) (fun _ U o U' => ∃ v L, o = .returned v ∧ Q2_01 Z o_PENDING o_SUCCEEDED o_RETURNED o_FAILED h0 n0 v U'.heap L ∧ FrameEnd U o U' L ({ frames := 0, cells := 0, slots := 0, locals := 0 } : Room).cells ({ frames := 0, cells := 0, slots := 0, locals := 0 } : Room).slots) := by
  refine MetFree.of_bodySF (plainFor_of_name pn_1) hisR ?_
  intro p e s m args below meth c s₁ Bd hml0 hP hK
  obtain ⟨rfl, hZ, hh⟩ := hP
  have hx := Bd.exec
  have hby := Bd.bytes
  have hml : c.maxLocals = 4 := hml0
  have hown : s.vm.findClass "com/example/rialto/rialto/core/movement/WithdrawalStatus" = some m.cls := findClass_of_methodNamed Bd.named
  have hnm := (name_of_methodNamed Bd.named Bd.method).1
  have X0 : Stand p l e ({ frames := 0, cells := 0, slots := 0, locals := 0 } : Room) s m #[(.ref o_PENDING), (.ref o_SUCCEEDED)] below meth c s₁ [] 0 0 := Stand.of_body Bd
  have e0 : s₁.heap = h0 := by rw [← hh, Bd.state]; rfl
  have N0 := Fr.nil n0
  show GoalS p.tables e below s ({ frames := 0, cells := 0, slots := 0, locals := 0 } : Room).cells ({ frames := 0, cells := 0, slots := 0, locals := 0 } : Room).slots (Q2_01 Z o_PENDING o_SUCCEEDED o_RETURNED o_FAILED h0 n0) (s₁.setTop (entryFrame m #[(.ref o_PENDING), (.ref o_SUCCEEDED)] 4))
  refine GoalS.lift (B := s₁.setTop (mkF m 0 #[.val (.ref o_PENDING), .val (.ref o_SUCCEEDED), .unset, .unset] [])) (fun t k => castTop (ef_rm2_01 m o_PENDING o_SUCCEEDED) k) ?_
  have K0 : Keep h0 h0 [] := Keep.refl _ _
  obtain ⟨T1, X1, e1, st1⟩ := getF X0 hx hZ hown (host := "") (Or.inl (hw _ (List.mem_of_getElem? (i := 14) rfl))) Via.refl e0 F_reachedFrom_o_PENDING (g := (mkF m 24 #[.val (.ref o_PENDING), .val (.ref o_SUCCEEDED), .val (.int (0 : Int32)), .val (.ref o_PENDING)] [(.ref o_PENDING)])) rfl rfl (hb hby d2_24)
  obtain ⟨fs, hr, hrun, hended, hW, hsame⟩ := X1.leave (v := some (.int (0 : Int32))) (fun h => by rw [Bd.returns] at h; cases h)
  refine ⟨_, _, ?_, hrun, hended, _, _, rfl, ?_, ⟨_, rfl⟩, hW, hsame.mono (by decide) (by decide)⟩
  · show Steps p.tables e below (s₁.setTop (mkF m 0 #[.val (.ref o_PENDING), .val (.ref o_SUCCEEDED), .unset, .unset] [])) _
    refine XS.iconst X0.here hx rfl (hb hby d2_0) ?_
    show Steps p.tables e below (s₁.setTop (mkF m 1 #[.val (.ref o_PENDING), .val (.ref o_SUCCEEDED), .unset, .unset] [(.int (0 : Int32))])) _
    refine XS.istoreN X0.here hx rfl (hb hby d2_1) rfl (l' := #[.val (.ref o_PENDING), .val (.ref o_SUCCEEDED), .val (.int (0 : Int32)), .unset]) rfl ?_
    show Steps p.tables e below (s₁.setTop (mkF m 2 #[.val (.ref o_PENDING), .val (.ref o_SUCCEEDED), .val (.int (0 : Int32)), .unset] [])) _
    refine XS.aloadN X0.here hx rfl (hb hby d2_2) rfl rfl ?_
    show Steps p.tables e below (s₁.setTop (mkF m 3 #[.val (.ref o_PENDING), .val (.ref o_SUCCEEDED), .val (.int (0 : Int32)), .unset] [(.ref o_PENDING)])) _
    refine XS.astoreN X0.here hx rfl (hb hby d2_3) rfl rfl (l' := #[.val (.ref o_PENDING), .val (.ref o_SUCCEEDED), .val (.int (0 : Int32)), .val (.ref o_PENDING)]) rfl ?_
    show Steps p.tables e below (s₁.setTop (mkF m 4 #[.val (.ref o_PENDING), .val (.ref o_SUCCEEDED), .val (.int (0 : Int32)), .val (.ref o_PENDING)] [])) _
    refine XS.aloadN X0.here hx rfl (hb hby d2_4) rfl rfl ?_
    show Steps p.tables e below (s₁.setTop (mkF m 5 #[.val (.ref o_PENDING), .val (.ref o_SUCCEEDED), .val (.int (0 : Int32)), .val (.ref o_PENDING)] [(.ref o_PENDING)])) _
    refine XS.ifnullNo X0.here hx rfl (hb hby d2_5) rfl ?_
    show Steps p.tables e below (s₁.setTop (mkF m 8 #[.val (.ref o_PENDING), .val (.ref o_SUCCEEDED), .val (.int (0 : Int32)), .val (.ref o_PENDING)] [])) _
    refine XS.iloadN X0.here hx rfl (hb hby d2_8) rfl ?_
    show Steps p.tables e below (s₁.setTop (mkF m 9 #[.val (.ref o_PENDING), .val (.ref o_SUCCEEDED), .val (.int (0 : Int32)), .val (.ref o_PENDING)] [(.int (0 : Int32))])) _
    refine XS.ifNo X0.here hx rfl (hb hby d2_9) rfl ((if0 _ _).trans (teq (by decide : (0 : Int32) = (0 : Int32))).2) ?_
    show Steps p.tables e below (s₁.setTop (mkF m 12 #[.val (.ref o_PENDING), .val (.ref o_SUCCEEDED), .val (.int (0 : Int32)), .val (.ref o_PENDING)] [])) _
    refine XS.aloadN X0.here hx rfl (hb hby d2_12) rfl rfl ?_
    show Steps p.tables e below (s₁.setTop (mkF m 13 #[.val (.ref o_PENDING), .val (.ref o_SUCCEEDED), .val (.int (0 : Int32)), .val (.ref o_PENDING)] [(.ref o_PENDING)])) _
    refine XS.aloadN X0.here hx rfl (hb hby d2_13) rfl rfl ?_
    show Steps p.tables e below (s₁.setTop (mkF m 14 #[.val (.ref o_PENDING), .val (.ref o_SUCCEEDED), .val (.int (0 : Int32)), .val (.ref o_PENDING)] [(.ref o_SUCCEEDED), (.ref o_PENDING)])) _
    refine Jvm.RoadKit.acmp (g := (mkF m 14 #[.val (.ref o_PENDING), .val (.ref o_SUCCEEDED), .val (.int (0 : Int32)), .val (.ref o_PENDING)] [(.ref o_SUCCEEDED), (.ref o_PENDING)])) X0 hx rfl rfl rfl (pc0 := 14) (pc' := 21) (same := false) rfl (hb hby d2_14) rfl (decide_eq_false fun q => ne_o_PENDING_o_SUCCEEDED (Value.ref.inj q)) (by decide) (by decide) ?_
    show Steps p.tables e below (s₁.setTop (mkF m 21 #[.val (.ref o_PENDING), .val (.ref o_SUCCEEDED), .val (.int (0 : Int32)), .val (.ref o_PENDING)] [])) _
    refine XS.iconst X0.here hx rfl (hb hby d2_21) ?_
    show Steps p.tables e below (s₁.setTop (mkF m 22 #[.val (.ref o_PENDING), .val (.ref o_SUCCEEDED), .val (.int (0 : Int32)), .val (.ref o_PENDING)] [(.int (0 : Int32))])) _
    refine XS.istoreN X0.here hx rfl (hb hby d2_22) rfl (l' := #[.val (.ref o_PENDING), .val (.ref o_SUCCEEDED), .val (.int (0 : Int32)), .val (.ref o_PENDING)]) rfl ?_
    show Steps p.tables e below (s₁.setTop (mkF m 23 #[.val (.ref o_PENDING), .val (.ref o_SUCCEEDED), .val (.int (0 : Int32)), .val (.ref o_PENDING)] [])) _
    refine XS.aloadN X0.here hx rfl (hb hby d2_23) rfl rfl ?_
    show Steps p.tables e below (s₁.setTop (mkF m 24 #[.val (.ref o_PENDING), .val (.ref o_SUCCEEDED), .val (.int (0 : Int32)), .val (.ref o_PENDING)] [(.ref o_PENDING)])) _
    refine st1 _ ?_
    show Steps p.tables e below (T1.setTop (mkF m 27 #[.val (.ref o_PENDING), .val (.ref o_SUCCEEDED), .val (.int (0 : Int32)), .val (.ref o_PENDING)] [.null])) _
    refine XS.astoreN X1.here hx rfl (hb hby d2_27) rfl rfl (l' := #[.val (.ref o_PENDING), .val (.ref o_SUCCEEDED), .val (.int (0 : Int32)), .val .null]) rfl ?_
    show Steps p.tables e below (T1.setTop (mkF m 28 #[.val (.ref o_PENDING), .val (.ref o_SUCCEEDED), .val (.int (0 : Int32)), .val .null] [])) _
    refine XS.goto X1.here hx rfl (pc0 := 28) (pc' := 4) rfl (hb hby d2_28) (by decide) (by decide) ?_
    show Steps p.tables e below (T1.setTop (mkF m 4 #[.val (.ref o_PENDING), .val (.ref o_SUCCEEDED), .val (.int (0 : Int32)), .val .null] [])) _
    refine XS.aloadN X1.here hx rfl (hb hby d2_4) rfl rfl ?_
    show Steps p.tables e below (T1.setTop (mkF m 5 #[.val (.ref o_PENDING), .val (.ref o_SUCCEEDED), .val (.int (0 : Int32)), .val .null] [.null])) _
    refine XS.ifnullYes X1.here hx rfl (pc0 := 5) (pc' := 31) rfl (hb hby d2_5) rfl (by decide) (by decide) ?_
    show Steps p.tables e below (T1.setTop (mkF m 31 #[.val (.ref o_PENDING), .val (.ref o_SUCCEEDED), .val (.int (0 : Int32)), .val .null] [])) _
    refine XS.iloadN X1.here hx rfl (hb hby d2_31) rfl ?_
    show Steps p.tables e below (T1.setTop (mkF m 32 #[.val (.ref o_PENDING), .val (.ref o_SUCCEEDED), .val (.int (0 : Int32)), .val .null] [(.int (0 : Int32))])) _
    exact retN X1 hx (t := .boolean) Bd.returns (by simp) (hb hby d2_32) hr
  · show Q2_01 Z o_PENDING o_SUCCEEDED o_RETURNED o_FAILED h0 n0 _ T1.heap _
    exact ⟨_, rfl, (by rfl), N0, e1⟩
theorem ef_rm2_02 (m : MethodId) (o_PENDING : Addr) (o_FAILED : Addr) : entryFrame m #[(.ref o_PENDING), (.ref o_FAILED)] 4 = mkF m 0 #[.val (.ref o_PENDING), .val (.ref o_FAILED), .unset, .unset] [] := by first | (simp [entryFrame, mkF, argsToLocals, Value.category]; done) | rfl
def Q2_02 (Z : State) (o_PENDING : Addr) (o_FAILED : Addr) (o_RETURNED : Addr) (o_SUCCEEDED : Addr) (h0 : Heap) (n0 : Nat) (v : Option Value) (h : Heap) (L : List Loc) : Prop := ∃ r : Int32, v = some (.int r) ∧ r = (0 : Int32) ∧ Fr n0 L ∧ h = h0
set_option maxRecDepth 65536 in
set_option maxHeartbeats 40000000 in
theorem rm2_02 (l : Launch) (Z : State) (a0 : Array Value) (hw : ∀ d ∈ tables_1, d.before a0 Z = true) (ws : List Jvm.Cond) (o_PENDING : Addr) (o_FAILED : Addr) (o_RETURNED : Addr) (o_SUCCEEDED : Addr) (h0 : Heap) (n0 : Nat) (Z0 : n0 ≤ h0.size) (F_reachedFrom_o_PENDING : Fld Z h0 o_PENDING "com/example/rialto/rialto/core/movement/WithdrawalStatus" "reachedFrom" "Lcom/example/rialto/rialto/core/movement/WithdrawalStatus;" .null) (F_reachedFrom_o_FAILED : Fld Z h0 o_FAILED "com/example/rialto/rialto/core/movement/WithdrawalStatus" "reachedFrom" "Lcom/example/rialto/rialto/core/movement/WithdrawalStatus;" (.ref o_PENDING)) (F_reachedFrom_o_SUCCEEDED : Fld Z h0 o_SUCCEEDED "com/example/rialto/rialto/core/movement/WithdrawalStatus" "reachedFrom" "Lcom/example/rialto/rialto/core/movement/WithdrawalStatus;" (.ref o_PENDING)) (F_reachedFrom_o_RETURNED : Fld Z h0 o_RETURNED "com/example/rialto/rialto/core/movement/WithdrawalStatus" "reachedFrom" "Lcom/example/rialto/rialto/core/movement/WithdrawalStatus;" (.ref o_SUCCEEDED)) (ne_o_PENDING_o_RETURNED : o_PENDING ≠ o_RETURNED) (ne_o_PENDING_o_FAILED : o_PENDING ≠ o_FAILED) (ne_o_PENDING_o_SUCCEEDED : o_PENDING ≠ o_SUCCEEDED) (ne_o_RETURNED_o_FAILED : o_RETURNED ≠ o_FAILED) (ne_o_RETURNED_o_SUCCEEDED : o_RETURNED ≠ o_SUCCEEDED) (ne_o_FAILED_o_SUCCEEDED : o_FAILED ≠ o_SUCCEEDED) :
    MetFree l (⟨"com/example/rialto/rialto/core/movement/WithdrawalStatus", "hasBeen", "(Lcom/example/rialto/rialto/core/movement/WithdrawalStatus;)Z"⟩ : MethodName) (head1 (Jvm.Cond.code (⟨"com/example/rialto/rialto/core/movement/WithdrawalStatus", "hasBeen", "(Lcom/example/rialto/rialto/core/movement/WithdrawalStatus;)Z"⟩ : MethodName) prog_52_method_5_code 4 (some .boolean) :: ws) ({ frames := 0, cells := 0, slots := 0, locals := 0 } : Room)) (fun a U => a = #[(.ref o_PENDING), (.ref o_FAILED)] ∧ Z.Warmed39 U.vm ∧ U.heap = h0) (fun _ _ _ _ _ => True) (fun _ U o U' => ∃ v L, o = .returned v ∧ Q2_02 Z o_PENDING o_FAILED o_RETURNED o_SUCCEEDED h0 n0 v U'.heap L ∧ FrameEnd U o U' L ({ frames := 0, cells := 0, slots := 0, locals := 0 } : Room).cells ({ frames := 0, cells := 0, slots := 0, locals := 0 } : Room).slots) := by
  refine MetFree.of_bodySF (plainFor_of_name pn_1) hisR ?_
  intro p e s m args below meth c s₁ Bd hml0 hP hK
  obtain ⟨rfl, hZ, hh⟩ := hP
  have hx := Bd.exec
  have hby := Bd.bytes
  have hml : c.maxLocals = 4 := hml0
  have hown : s.vm.findClass "com/example/rialto/rialto/core/movement/WithdrawalStatus" = some m.cls := findClass_of_methodNamed Bd.named
  have hnm := (name_of_methodNamed Bd.named Bd.method).1
  have X0 : Stand p l e ({ frames := 0, cells := 0, slots := 0, locals := 0 } : Room) s m #[(.ref o_PENDING), (.ref o_FAILED)] below meth c s₁ [] 0 0 := Stand.of_body Bd
  have e0 : s₁.heap = h0 := by rw [← hh, Bd.state]; rfl
  have N0 := Fr.nil n0
  show GoalS p.tables e below s ({ frames := 0, cells := 0, slots := 0, locals := 0 } : Room).cells ({ frames := 0, cells := 0, slots := 0, locals := 0 } : Room).slots (Q2_02 Z o_PENDING o_FAILED o_RETURNED o_SUCCEEDED h0 n0) (s₁.setTop (entryFrame m #[(.ref o_PENDING), (.ref o_FAILED)] 4))
  refine GoalS.lift (B := s₁.setTop (mkF m 0 #[.val (.ref o_PENDING), .val (.ref o_FAILED), .unset, .unset] [])) (fun t k => castTop (ef_rm2_02 m o_PENDING o_FAILED) k) ?_
  have K0 : Keep h0 h0 [] := Keep.refl _ _
  obtain ⟨T1, X1, e1, st1⟩ := getF X0 hx hZ hown (host := "") (Or.inl (hw _ (List.mem_of_getElem? (i := 14) rfl))) Via.refl e0 F_reachedFrom_o_PENDING (g := (mkF m 24 #[.val (.ref o_PENDING), .val (.ref o_FAILED), .val (.int (0 : Int32)), .val (.ref o_PENDING)] [(.ref o_PENDING)])) rfl rfl (hb hby d2_24)
  obtain ⟨fs, hr, hrun, hended, hW, hsame⟩ := X1.leave (v := some (.int (0 : Int32))) (fun h => by rw [Bd.returns] at h; cases h)
  refine ⟨_, _, ?_, hrun, hended, _, _, rfl, ?_, ⟨_, rfl⟩, hW, hsame.mono (by decide) (by decide)⟩
  · show Steps p.tables e below (s₁.setTop (mkF m 0 #[.val (.ref o_PENDING), .val (.ref o_FAILED), .unset, .unset] [])) _
    refine XS.iconst X0.here hx rfl (hb hby d2_0) ?_
    show Steps p.tables e below (s₁.setTop (mkF m 1 #[.val (.ref o_PENDING), .val (.ref o_FAILED), .unset, .unset] [(.int (0 : Int32))])) _
    refine XS.istoreN X0.here hx rfl (hb hby d2_1) rfl (l' := #[.val (.ref o_PENDING), .val (.ref o_FAILED), .val (.int (0 : Int32)), .unset]) rfl ?_
    show Steps p.tables e below (s₁.setTop (mkF m 2 #[.val (.ref o_PENDING), .val (.ref o_FAILED), .val (.int (0 : Int32)), .unset] [])) _
    refine XS.aloadN X0.here hx rfl (hb hby d2_2) rfl rfl ?_
    show Steps p.tables e below (s₁.setTop (mkF m 3 #[.val (.ref o_PENDING), .val (.ref o_FAILED), .val (.int (0 : Int32)), .unset] [(.ref o_PENDING)])) _
    refine XS.astoreN X0.here hx rfl (hb hby d2_3) rfl rfl (l' := #[.val (.ref o_PENDING), .val (.ref o_FAILED), .val (.int (0 : Int32)), .val (.ref o_PENDING)]) rfl ?_
    show Steps p.tables e below (s₁.setTop (mkF m 4 #[.val (.ref o_PENDING), .val (.ref o_FAILED), .val (.int (0 : Int32)), .val (.ref o_PENDING)] [])) _
    refine XS.aloadN X0.here hx rfl (hb hby d2_4) rfl rfl ?_
    show Steps p.tables e below (s₁.setTop (mkF m 5 #[.val (.ref o_PENDING), .val (.ref o_FAILED), .val (.int (0 : Int32)), .val (.ref o_PENDING)] [(.ref o_PENDING)])) _
    refine XS.ifnullNo X0.here hx rfl (hb hby d2_5) rfl ?_
    show Steps p.tables e below (s₁.setTop (mkF m 8 #[.val (.ref o_PENDING), .val (.ref o_FAILED), .val (.int (0 : Int32)), .val (.ref o_PENDING)] [])) _
    refine XS.iloadN X0.here hx rfl (hb hby d2_8) rfl ?_
    show Steps p.tables e below (s₁.setTop (mkF m 9 #[.val (.ref o_PENDING), .val (.ref o_FAILED), .val (.int (0 : Int32)), .val (.ref o_PENDING)] [(.int (0 : Int32))])) _
    refine XS.ifNo X0.here hx rfl (hb hby d2_9) rfl ((if0 _ _).trans (teq (by decide : (0 : Int32) = (0 : Int32))).2) ?_
    show Steps p.tables e below (s₁.setTop (mkF m 12 #[.val (.ref o_PENDING), .val (.ref o_FAILED), .val (.int (0 : Int32)), .val (.ref o_PENDING)] [])) _
    refine XS.aloadN X0.here hx rfl (hb hby d2_12) rfl rfl ?_
    show Steps p.tables e below (s₁.setTop (mkF m 13 #[.val (.ref o_PENDING), .val (.ref o_FAILED), .val (.int (0 : Int32)), .val (.ref o_PENDING)] [(.ref o_PENDING)])) _
    refine XS.aloadN X0.here hx rfl (hb hby d2_13) rfl rfl ?_
    show Steps p.tables e below (s₁.setTop (mkF m 14 #[.val (.ref o_PENDING), .val (.ref o_FAILED), .val (.int (0 : Int32)), .val (.ref o_PENDING)] [(.ref o_FAILED), (.ref o_PENDING)])) _
    refine Jvm.RoadKit.acmp (g := (mkF m 14 #[.val (.ref o_PENDING), .val (.ref o_FAILED), .val (.int (0 : Int32)), .val (.ref o_PENDING)] [(.ref o_FAILED), (.ref o_PENDING)])) X0 hx rfl rfl rfl (pc0 := 14) (pc' := 21) (same := false) rfl (hb hby d2_14) rfl (decide_eq_false fun q => ne_o_PENDING_o_FAILED (Value.ref.inj q)) (by decide) (by decide) ?_
    show Steps p.tables e below (s₁.setTop (mkF m 21 #[.val (.ref o_PENDING), .val (.ref o_FAILED), .val (.int (0 : Int32)), .val (.ref o_PENDING)] [])) _
    refine XS.iconst X0.here hx rfl (hb hby d2_21) ?_
    show Steps p.tables e below (s₁.setTop (mkF m 22 #[.val (.ref o_PENDING), .val (.ref o_FAILED), .val (.int (0 : Int32)), .val (.ref o_PENDING)] [(.int (0 : Int32))])) _
    refine XS.istoreN X0.here hx rfl (hb hby d2_22) rfl (l' := #[.val (.ref o_PENDING), .val (.ref o_FAILED), .val (.int (0 : Int32)), .val (.ref o_PENDING)]) rfl ?_
    show Steps p.tables e below (s₁.setTop (mkF m 23 #[.val (.ref o_PENDING), .val (.ref o_FAILED), .val (.int (0 : Int32)), .val (.ref o_PENDING)] [])) _
    refine XS.aloadN X0.here hx rfl (hb hby d2_23) rfl rfl ?_
    show Steps p.tables e below (s₁.setTop (mkF m 24 #[.val (.ref o_PENDING), .val (.ref o_FAILED), .val (.int (0 : Int32)), .val (.ref o_PENDING)] [(.ref o_PENDING)])) _
    refine st1 _ ?_
    show Steps p.tables e below (T1.setTop (mkF m 27 #[.val (.ref o_PENDING), .val (.ref o_FAILED), .val (.int (0 : Int32)), .val (.ref o_PENDING)] [.null])) _
    refine XS.astoreN X1.here hx rfl (hb hby d2_27) rfl rfl (l' := #[.val (.ref o_PENDING), .val (.ref o_FAILED), .val (.int (0 : Int32)), .val .null]) rfl ?_
    show Steps p.tables e below (T1.setTop (mkF m 28 #[.val (.ref o_PENDING), .val (.ref o_FAILED), .val (.int (0 : Int32)), .val .null] [])) _
    refine XS.goto X1.here hx rfl (pc0 := 28) (pc' := 4) rfl (hb hby d2_28) (by decide) (by decide) ?_
    show Steps p.tables e below (T1.setTop (mkF m 4 #[.val (.ref o_PENDING), .val (.ref o_FAILED), .val (.int (0 : Int32)), .val .null] [])) _
    refine XS.aloadN X1.here hx rfl (hb hby d2_4) rfl rfl ?_
    show Steps p.tables e below (T1.setTop (mkF m 5 #[.val (.ref o_PENDING), .val (.ref o_FAILED), .val (.int (0 : Int32)), .val .null] [.null])) _
    refine XS.ifnullYes X1.here hx rfl (pc0 := 5) (pc' := 31) rfl (hb hby d2_5) rfl (by decide) (by decide) ?_
    show Steps p.tables e below (T1.setTop (mkF m 31 #[.val (.ref o_PENDING), .val (.ref o_FAILED), .val (.int (0 : Int32)), .val .null] [])) _
    refine XS.iloadN X1.here hx rfl (hb hby d2_31) rfl ?_
    show Steps p.tables e below (T1.setTop (mkF m 32 #[.val (.ref o_PENDING), .val (.ref o_FAILED), .val (.int (0 : Int32)), .val .null] [(.int (0 : Int32))])) _
    exact retN X1 hx (t := .boolean) Bd.returns (by simp) (hb hby d2_32) hr
  · show Q2_02 Z o_PENDING o_FAILED o_RETURNED o_SUCCEEDED h0 n0 _ T1.heap _
    exact ⟨_, rfl, (by rfl), N0, e1⟩
theorem ef_rm2_03 (m : MethodId) (o_PENDING : Addr) (o_RETURNED : Addr) : entryFrame m #[(.ref o_PENDING), (.ref o_RETURNED)] 4 = mkF m 0 #[.val (.ref o_PENDING), .val (.ref o_RETURNED), .unset, .unset] [] := by first | (simp [entryFrame, mkF, argsToLocals, Value.category]; done) | rfl
def Q2_03 (Z : State) (o_PENDING : Addr) (o_RETURNED : Addr) (o_FAILED : Addr) (o_SUCCEEDED : Addr) (h0 : Heap) (n0 : Nat) (v : Option Value) (h : Heap) (L : List Loc) : Prop := ∃ r : Int32, v = some (.int r) ∧ r = (0 : Int32) ∧ Fr n0 L ∧ h = h0
set_option maxRecDepth 65536 in
set_option maxHeartbeats 40000000 in
theorem rm2_03 (l : Launch) (Z : State) (a0 : Array Value) (hw : ∀ d ∈ tables_1, d.before a0 Z = true) (ws : List Jvm.Cond) (o_PENDING : Addr) (o_RETURNED : Addr) (o_FAILED : Addr) (o_SUCCEEDED : Addr) (h0 : Heap) (n0 : Nat) (Z0 : n0 ≤ h0.size) (F_reachedFrom_o_PENDING : Fld Z h0 o_PENDING "com/example/rialto/rialto/core/movement/WithdrawalStatus" "reachedFrom" "Lcom/example/rialto/rialto/core/movement/WithdrawalStatus;" .null) (F_reachedFrom_o_FAILED : Fld Z h0 o_FAILED "com/example/rialto/rialto/core/movement/WithdrawalStatus" "reachedFrom" "Lcom/example/rialto/rialto/core/movement/WithdrawalStatus;" (.ref o_PENDING)) (F_reachedFrom_o_SUCCEEDED : Fld Z h0 o_SUCCEEDED "com/example/rialto/rialto/core/movement/WithdrawalStatus" "reachedFrom" "Lcom/example/rialto/rialto/core/movement/WithdrawalStatus;" (.ref o_PENDING)) (F_reachedFrom_o_RETURNED : Fld Z h0 o_RETURNED "com/example/rialto/rialto/core/movement/WithdrawalStatus" "reachedFrom" "Lcom/example/rialto/rialto/core/movement/WithdrawalStatus;" (.ref o_SUCCEEDED)) (ne_o_PENDING_o_RETURNED : o_PENDING ≠ o_RETURNED) (ne_o_PENDING_o_FAILED : o_PENDING ≠ o_FAILED) (ne_o_PENDING_o_SUCCEEDED : o_PENDING ≠ o_SUCCEEDED) (ne_o_RETURNED_o_FAILED : o_RETURNED ≠ o_FAILED) (ne_o_RETURNED_o_SUCCEEDED : o_RETURNED ≠ o_SUCCEEDED) (ne_o_FAILED_o_SUCCEEDED : o_FAILED ≠ o_SUCCEEDED) :
    MetFree l (⟨"com/example/rialto/rialto/core/movement/WithdrawalStatus", "hasBeen", "(Lcom/example/rialto/rialto/core/movement/WithdrawalStatus;)Z"⟩ : MethodName) (head1 (Jvm.Cond.code (⟨"com/example/rialto/rialto/core/movement/WithdrawalStatus", "hasBeen", "(Lcom/example/rialto/rialto/core/movement/WithdrawalStatus;)Z"⟩ : MethodName) prog_52_method_5_code 4 (some .boolean) :: ws) ({ frames := 0, cells := 0, slots := 0, locals := 0 } : Room)) (fun a U => a = #[(.ref o_PENDING), (.ref o_RETURNED)] ∧ Z.Warmed39 U.vm ∧ U.heap = h0) (fun _ _ _ _ _ => True) (fun _ U o U' => ∃ v L, o = .returned v ∧ Q2_03 Z o_PENDING o_RETURNED o_FAILED o_SUCCEEDED h0 n0 v U'.heap L ∧ FrameEnd U o U' L ({ frames := 0, cells := 0, slots := 0, locals := 0 } : Room).cells ({ frames := 0, cells := 0, slots := 0, locals := 0 } : Room).slots) := by
  refine MetFree.of_bodySF (plainFor_of_name pn_1) hisR ?_
  intro p e s m args below meth c s₁ Bd hml0 hP hK
  obtain ⟨rfl, hZ, hh⟩ := hP
  have hx := Bd.exec
  have hby := Bd.bytes
  have hml : c.maxLocals = 4 := hml0
  have hown : s.vm.findClass "com/example/rialto/rialto/core/movement/WithdrawalStatus" = some m.cls := findClass_of_methodNamed Bd.named
  have hnm := (name_of_methodNamed Bd.named Bd.method).1
  have X0 : Stand p l e ({ frames := 0, cells := 0, slots := 0, locals := 0 } : Room) s m #[(.ref o_PENDING), (.ref o_RETURNED)] below meth c s₁ [] 0 0 := Stand.of_body Bd
  have e0 : s₁.heap = h0 := by rw [← hh, Bd.state]; rfl
  have N0 := Fr.nil n0
  show GoalS p.tables e below s ({ frames := 0, cells := 0, slots := 0, locals := 0 } : Room).cells ({ frames := 0, cells := 0, slots := 0, locals := 0 } : Room).slots (Q2_03 Z o_PENDING o_RETURNED o_FAILED o_SUCCEEDED h0 n0) (s₁.setTop (entryFrame m #[(.ref o_PENDING), (.ref o_RETURNED)] 4))
  refine GoalS.lift (B := s₁.setTop (mkF m 0 #[.val (.ref o_PENDING), .val (.ref o_RETURNED), .unset, .unset] [])) (fun t k => castTop (ef_rm2_03 m o_PENDING o_RETURNED) k) ?_
  have K0 : Keep h0 h0 [] := Keep.refl _ _
  obtain ⟨T1, X1, e1, st1⟩ := getF X0 hx hZ hown (host := "") (Or.inl (hw _ (List.mem_of_getElem? (i := 14) rfl))) Via.refl e0 F_reachedFrom_o_PENDING (g := (mkF m 24 #[.val (.ref o_PENDING), .val (.ref o_RETURNED), .val (.int (0 : Int32)), .val (.ref o_PENDING)] [(.ref o_PENDING)])) rfl rfl (hb hby d2_24)
  obtain ⟨fs, hr, hrun, hended, hW, hsame⟩ := X1.leave (v := some (.int (0 : Int32))) (fun h => by rw [Bd.returns] at h; cases h)
  refine ⟨_, _, ?_, hrun, hended, _, _, rfl, ?_, ⟨_, rfl⟩, hW, hsame.mono (by decide) (by decide)⟩
  · show Steps p.tables e below (s₁.setTop (mkF m 0 #[.val (.ref o_PENDING), .val (.ref o_RETURNED), .unset, .unset] [])) _
    refine XS.iconst X0.here hx rfl (hb hby d2_0) ?_
    show Steps p.tables e below (s₁.setTop (mkF m 1 #[.val (.ref o_PENDING), .val (.ref o_RETURNED), .unset, .unset] [(.int (0 : Int32))])) _
    refine XS.istoreN X0.here hx rfl (hb hby d2_1) rfl (l' := #[.val (.ref o_PENDING), .val (.ref o_RETURNED), .val (.int (0 : Int32)), .unset]) rfl ?_
    show Steps p.tables e below (s₁.setTop (mkF m 2 #[.val (.ref o_PENDING), .val (.ref o_RETURNED), .val (.int (0 : Int32)), .unset] [])) _
    refine XS.aloadN X0.here hx rfl (hb hby d2_2) rfl rfl ?_
    show Steps p.tables e below (s₁.setTop (mkF m 3 #[.val (.ref o_PENDING), .val (.ref o_RETURNED), .val (.int (0 : Int32)), .unset] [(.ref o_PENDING)])) _
    refine XS.astoreN X0.here hx rfl (hb hby d2_3) rfl rfl (l' := #[.val (.ref o_PENDING), .val (.ref o_RETURNED), .val (.int (0 : Int32)), .val (.ref o_PENDING)]) rfl ?_
    show Steps p.tables e below (s₁.setTop (mkF m 4 #[.val (.ref o_PENDING), .val (.ref o_RETURNED), .val (.int (0 : Int32)), .val (.ref o_PENDING)] [])) _
    refine XS.aloadN X0.here hx rfl (hb hby d2_4) rfl rfl ?_
    show Steps p.tables e below (s₁.setTop (mkF m 5 #[.val (.ref o_PENDING), .val (.ref o_RETURNED), .val (.int (0 : Int32)), .val (.ref o_PENDING)] [(.ref o_PENDING)])) _
    refine XS.ifnullNo X0.here hx rfl (hb hby d2_5) rfl ?_
    show Steps p.tables e below (s₁.setTop (mkF m 8 #[.val (.ref o_PENDING), .val (.ref o_RETURNED), .val (.int (0 : Int32)), .val (.ref o_PENDING)] [])) _
    refine XS.iloadN X0.here hx rfl (hb hby d2_8) rfl ?_
    show Steps p.tables e below (s₁.setTop (mkF m 9 #[.val (.ref o_PENDING), .val (.ref o_RETURNED), .val (.int (0 : Int32)), .val (.ref o_PENDING)] [(.int (0 : Int32))])) _
    refine XS.ifNo X0.here hx rfl (hb hby d2_9) rfl ((if0 _ _).trans (teq (by decide : (0 : Int32) = (0 : Int32))).2) ?_
    show Steps p.tables e below (s₁.setTop (mkF m 12 #[.val (.ref o_PENDING), .val (.ref o_RETURNED), .val (.int (0 : Int32)), .val (.ref o_PENDING)] [])) _
    refine XS.aloadN X0.here hx rfl (hb hby d2_12) rfl rfl ?_
    show Steps p.tables e below (s₁.setTop (mkF m 13 #[.val (.ref o_PENDING), .val (.ref o_RETURNED), .val (.int (0 : Int32)), .val (.ref o_PENDING)] [(.ref o_PENDING)])) _
    refine XS.aloadN X0.here hx rfl (hb hby d2_13) rfl rfl ?_
    show Steps p.tables e below (s₁.setTop (mkF m 14 #[.val (.ref o_PENDING), .val (.ref o_RETURNED), .val (.int (0 : Int32)), .val (.ref o_PENDING)] [(.ref o_RETURNED), (.ref o_PENDING)])) _
    refine Jvm.RoadKit.acmp (g := (mkF m 14 #[.val (.ref o_PENDING), .val (.ref o_RETURNED), .val (.int (0 : Int32)), .val (.ref o_PENDING)] [(.ref o_RETURNED), (.ref o_PENDING)])) X0 hx rfl rfl rfl (pc0 := 14) (pc' := 21) (same := false) rfl (hb hby d2_14) rfl (decide_eq_false fun q => ne_o_PENDING_o_RETURNED (Value.ref.inj q)) (by decide) (by decide) ?_
    show Steps p.tables e below (s₁.setTop (mkF m 21 #[.val (.ref o_PENDING), .val (.ref o_RETURNED), .val (.int (0 : Int32)), .val (.ref o_PENDING)] [])) _
    refine XS.iconst X0.here hx rfl (hb hby d2_21) ?_
    show Steps p.tables e below (s₁.setTop (mkF m 22 #[.val (.ref o_PENDING), .val (.ref o_RETURNED), .val (.int (0 : Int32)), .val (.ref o_PENDING)] [(.int (0 : Int32))])) _
    refine XS.istoreN X0.here hx rfl (hb hby d2_22) rfl (l' := #[.val (.ref o_PENDING), .val (.ref o_RETURNED), .val (.int (0 : Int32)), .val (.ref o_PENDING)]) rfl ?_
    show Steps p.tables e below (s₁.setTop (mkF m 23 #[.val (.ref o_PENDING), .val (.ref o_RETURNED), .val (.int (0 : Int32)), .val (.ref o_PENDING)] [])) _
    refine XS.aloadN X0.here hx rfl (hb hby d2_23) rfl rfl ?_
    show Steps p.tables e below (s₁.setTop (mkF m 24 #[.val (.ref o_PENDING), .val (.ref o_RETURNED), .val (.int (0 : Int32)), .val (.ref o_PENDING)] [(.ref o_PENDING)])) _
    refine st1 _ ?_
    show Steps p.tables e below (T1.setTop (mkF m 27 #[.val (.ref o_PENDING), .val (.ref o_RETURNED), .val (.int (0 : Int32)), .val (.ref o_PENDING)] [.null])) _
    refine XS.astoreN X1.here hx rfl (hb hby d2_27) rfl rfl (l' := #[.val (.ref o_PENDING), .val (.ref o_RETURNED), .val (.int (0 : Int32)), .val .null]) rfl ?_
    show Steps p.tables e below (T1.setTop (mkF m 28 #[.val (.ref o_PENDING), .val (.ref o_RETURNED), .val (.int (0 : Int32)), .val .null] [])) _
    refine XS.goto X1.here hx rfl (pc0 := 28) (pc' := 4) rfl (hb hby d2_28) (by decide) (by decide) ?_
    show Steps p.tables e below (T1.setTop (mkF m 4 #[.val (.ref o_PENDING), .val (.ref o_RETURNED), .val (.int (0 : Int32)), .val .null] [])) _
    refine XS.aloadN X1.here hx rfl (hb hby d2_4) rfl rfl ?_
    show Steps p.tables e below (T1.setTop (mkF m 5 #[.val (.ref o_PENDING), .val (.ref o_RETURNED), .val (.int (0 : Int32)), .val .null] [.null])) _
    refine XS.ifnullYes X1.here hx rfl (pc0 := 5) (pc' := 31) rfl (hb hby d2_5) rfl (by decide) (by decide) ?_
    show Steps p.tables e below (T1.setTop (mkF m 31 #[.val (.ref o_PENDING), .val (.ref o_RETURNED), .val (.int (0 : Int32)), .val .null] [])) _
    refine XS.iloadN X1.here hx rfl (hb hby d2_31) rfl ?_
    show Steps p.tables e below (T1.setTop (mkF m 32 #[.val (.ref o_PENDING), .val (.ref o_RETURNED), .val (.int (0 : Int32)), .val .null] [(.int (0 : Int32))])) _
    exact retN X1 hx (t := .boolean) Bd.returns (by simp) (hb hby d2_32) hr
  · show Q2_03 Z o_PENDING o_RETURNED o_FAILED o_SUCCEEDED h0 n0 _ T1.heap _
    exact ⟨_, rfl, (by rfl), N0, e1⟩
theorem ef_rm2_10 (m : MethodId) (o_SUCCEEDED : Addr) (o_PENDING : Addr) : entryFrame m #[(.ref o_SUCCEEDED), (.ref o_PENDING)] 4 = mkF m 0 #[.val (.ref o_SUCCEEDED), .val (.ref o_PENDING), .unset, .unset] [] := by first | (simp [entryFrame, mkF, argsToLocals, Value.category]; done) | rfl
def Q2_10 (Z : State) (o_SUCCEEDED : Addr) (o_PENDING : Addr) (o_RETURNED : Addr) (o_FAILED : Addr) (h0 : Heap) (n0 : Nat) (v : Option Value) (h : Heap) (L : List Loc) : Prop := ∃ r : Int32, v = some (.int r) ∧ r = (1 : Int32) ∧ Fr n0 L ∧ h = h0
set_option maxRecDepth 65536 in
set_option maxHeartbeats 40000000 in
theorem rm2_10 (l : Launch) (Z : State) (a0 : Array Value) (hw : ∀ d ∈ tables_1, d.before a0 Z = true) (ws : List Jvm.Cond) (o_SUCCEEDED : Addr) (o_PENDING : Addr) (o_RETURNED : Addr) (o_FAILED : Addr) (h0 : Heap) (n0 : Nat) (Z0 : n0 ≤ h0.size) (F_reachedFrom_o_PENDING : Fld Z h0 o_PENDING "com/example/rialto/rialto/core/movement/WithdrawalStatus" "reachedFrom" "Lcom/example/rialto/rialto/core/movement/WithdrawalStatus;" .null) (F_reachedFrom_o_FAILED : Fld Z h0 o_FAILED "com/example/rialto/rialto/core/movement/WithdrawalStatus" "reachedFrom" "Lcom/example/rialto/rialto/core/movement/WithdrawalStatus;" (.ref o_PENDING)) (F_reachedFrom_o_SUCCEEDED : Fld Z h0 o_SUCCEEDED "com/example/rialto/rialto/core/movement/WithdrawalStatus" "reachedFrom" "Lcom/example/rialto/rialto/core/movement/WithdrawalStatus;" (.ref o_PENDING)) (F_reachedFrom_o_RETURNED : Fld Z h0 o_RETURNED "com/example/rialto/rialto/core/movement/WithdrawalStatus" "reachedFrom" "Lcom/example/rialto/rialto/core/movement/WithdrawalStatus;" (.ref o_SUCCEEDED)) (ne_o_PENDING_o_RETURNED : o_PENDING ≠ o_RETURNED) (ne_o_PENDING_o_FAILED : o_PENDING ≠ o_FAILED) (ne_o_PENDING_o_SUCCEEDED : o_PENDING ≠ o_SUCCEEDED) (ne_o_RETURNED_o_FAILED : o_RETURNED ≠ o_FAILED) (ne_o_RETURNED_o_SUCCEEDED : o_RETURNED ≠ o_SUCCEEDED) (ne_o_FAILED_o_SUCCEEDED : o_FAILED ≠ o_SUCCEEDED) :
    MetFree l (⟨"com/example/rialto/rialto/core/movement/WithdrawalStatus", "hasBeen", "(Lcom/example/rialto/rialto/core/movement/WithdrawalStatus;)Z"⟩ : MethodName) (head1 (Jvm.Cond.code (⟨"com/example/rialto/rialto/core/movement/WithdrawalStatus", "hasBeen", "(Lcom/example/rialto/rialto/core/movement/WithdrawalStatus;)Z"⟩ : MethodName) prog_52_method_5_code 4 (some .boolean) :: ws) ({ frames := 0, cells := 0, slots := 0, locals := 0 } : Room)) (fun a U => a = #[(.ref o_SUCCEEDED), (.ref o_PENDING)] ∧ Z.Warmed39 U.vm ∧ U.heap = h0) (fun _ _ _ _ _ => True) (fun _ U o U' => ∃ v L, o = .returned v ∧ Q2_10 Z o_SUCCEEDED o_PENDING o_RETURNED o_FAILED h0 n0 v U'.heap L ∧ FrameEnd U o U' L ({ frames := 0, cells := 0, slots := 0, locals := 0 } : Room).cells ({ frames := 0, cells := 0, slots := 0, locals := 0 } : Room).slots) := by
  refine MetFree.of_bodySF (plainFor_of_name pn_1) hisR ?_
  intro p e s m args below meth c s₁ Bd hml0 hP hK
  obtain ⟨rfl, hZ, hh⟩ := hP
  have hx := Bd.exec
  have hby := Bd.bytes
  have hml : c.maxLocals = 4 := hml0
  have hown : s.vm.findClass "com/example/rialto/rialto/core/movement/WithdrawalStatus" = some m.cls := findClass_of_methodNamed Bd.named
  have hnm := (name_of_methodNamed Bd.named Bd.method).1
  have X0 : Stand p l e ({ frames := 0, cells := 0, slots := 0, locals := 0 } : Room) s m #[(.ref o_SUCCEEDED), (.ref o_PENDING)] below meth c s₁ [] 0 0 := Stand.of_body Bd
  have e0 : s₁.heap = h0 := by rw [← hh, Bd.state]; rfl
  have N0 := Fr.nil n0
  show GoalS p.tables e below s ({ frames := 0, cells := 0, slots := 0, locals := 0 } : Room).cells ({ frames := 0, cells := 0, slots := 0, locals := 0 } : Room).slots (Q2_10 Z o_SUCCEEDED o_PENDING o_RETURNED o_FAILED h0 n0) (s₁.setTop (entryFrame m #[(.ref o_SUCCEEDED), (.ref o_PENDING)] 4))
  refine GoalS.lift (B := s₁.setTop (mkF m 0 #[.val (.ref o_SUCCEEDED), .val (.ref o_PENDING), .unset, .unset] [])) (fun t k => castTop (ef_rm2_10 m o_SUCCEEDED o_PENDING) k) ?_
  have K0 : Keep h0 h0 [] := Keep.refl _ _
  obtain ⟨T1, X1, e1, st1⟩ := getF X0 hx hZ hown (host := "") (Or.inl (hw _ (List.mem_of_getElem? (i := 14) rfl))) Via.refl e0 F_reachedFrom_o_SUCCEEDED (g := (mkF m 24 #[.val (.ref o_SUCCEEDED), .val (.ref o_PENDING), .val (.int (0 : Int32)), .val (.ref o_SUCCEEDED)] [(.ref o_SUCCEEDED)])) rfl rfl (hb hby d2_24)
  obtain ⟨T2, X2, e2, st2⟩ := getF X1 hx hZ hown (host := "") (Or.inl (hw _ (List.mem_of_getElem? (i := 14) rfl))) Via.refl e1 F_reachedFrom_o_PENDING (g := (mkF m 24 #[.val (.ref o_SUCCEEDED), .val (.ref o_PENDING), .val (.int (1 : Int32)), .val (.ref o_PENDING)] [(.ref o_PENDING)])) rfl rfl (hb hby d2_24)
  obtain ⟨fs, hr, hrun, hended, hW, hsame⟩ := X2.leave (v := some (.int (1 : Int32))) (fun h => by rw [Bd.returns] at h; cases h)
  refine ⟨_, _, ?_, hrun, hended, _, _, rfl, ?_, ⟨_, rfl⟩, hW, hsame.mono (by decide) (by decide)⟩
  · show Steps p.tables e below (s₁.setTop (mkF m 0 #[.val (.ref o_SUCCEEDED), .val (.ref o_PENDING), .unset, .unset] [])) _
    refine XS.iconst X0.here hx rfl (hb hby d2_0) ?_
    show Steps p.tables e below (s₁.setTop (mkF m 1 #[.val (.ref o_SUCCEEDED), .val (.ref o_PENDING), .unset, .unset] [(.int (0 : Int32))])) _
    refine XS.istoreN X0.here hx rfl (hb hby d2_1) rfl (l' := #[.val (.ref o_SUCCEEDED), .val (.ref o_PENDING), .val (.int (0 : Int32)), .unset]) rfl ?_
    show Steps p.tables e below (s₁.setTop (mkF m 2 #[.val (.ref o_SUCCEEDED), .val (.ref o_PENDING), .val (.int (0 : Int32)), .unset] [])) _
    refine XS.aloadN X0.here hx rfl (hb hby d2_2) rfl rfl ?_
    show Steps p.tables e below (s₁.setTop (mkF m 3 #[.val (.ref o_SUCCEEDED), .val (.ref o_PENDING), .val (.int (0 : Int32)), .unset] [(.ref o_SUCCEEDED)])) _
    refine XS.astoreN X0.here hx rfl (hb hby d2_3) rfl rfl (l' := #[.val (.ref o_SUCCEEDED), .val (.ref o_PENDING), .val (.int (0 : Int32)), .val (.ref o_SUCCEEDED)]) rfl ?_
    show Steps p.tables e below (s₁.setTop (mkF m 4 #[.val (.ref o_SUCCEEDED), .val (.ref o_PENDING), .val (.int (0 : Int32)), .val (.ref o_SUCCEEDED)] [])) _
    refine XS.aloadN X0.here hx rfl (hb hby d2_4) rfl rfl ?_
    show Steps p.tables e below (s₁.setTop (mkF m 5 #[.val (.ref o_SUCCEEDED), .val (.ref o_PENDING), .val (.int (0 : Int32)), .val (.ref o_SUCCEEDED)] [(.ref o_SUCCEEDED)])) _
    refine XS.ifnullNo X0.here hx rfl (hb hby d2_5) rfl ?_
    show Steps p.tables e below (s₁.setTop (mkF m 8 #[.val (.ref o_SUCCEEDED), .val (.ref o_PENDING), .val (.int (0 : Int32)), .val (.ref o_SUCCEEDED)] [])) _
    refine XS.iloadN X0.here hx rfl (hb hby d2_8) rfl ?_
    show Steps p.tables e below (s₁.setTop (mkF m 9 #[.val (.ref o_SUCCEEDED), .val (.ref o_PENDING), .val (.int (0 : Int32)), .val (.ref o_SUCCEEDED)] [(.int (0 : Int32))])) _
    refine XS.ifNo X0.here hx rfl (hb hby d2_9) rfl ((if0 _ _).trans (teq (by decide : (0 : Int32) = (0 : Int32))).2) ?_
    show Steps p.tables e below (s₁.setTop (mkF m 12 #[.val (.ref o_SUCCEEDED), .val (.ref o_PENDING), .val (.int (0 : Int32)), .val (.ref o_SUCCEEDED)] [])) _
    refine XS.aloadN X0.here hx rfl (hb hby d2_12) rfl rfl ?_
    show Steps p.tables e below (s₁.setTop (mkF m 13 #[.val (.ref o_SUCCEEDED), .val (.ref o_PENDING), .val (.int (0 : Int32)), .val (.ref o_SUCCEEDED)] [(.ref o_SUCCEEDED)])) _
    refine XS.aloadN X0.here hx rfl (hb hby d2_13) rfl rfl ?_
    show Steps p.tables e below (s₁.setTop (mkF m 14 #[.val (.ref o_SUCCEEDED), .val (.ref o_PENDING), .val (.int (0 : Int32)), .val (.ref o_SUCCEEDED)] [(.ref o_PENDING), (.ref o_SUCCEEDED)])) _
    refine Jvm.RoadKit.acmp (g := (mkF m 14 #[.val (.ref o_SUCCEEDED), .val (.ref o_PENDING), .val (.int (0 : Int32)), .val (.ref o_SUCCEEDED)] [(.ref o_PENDING), (.ref o_SUCCEEDED)])) X0 hx rfl rfl rfl (pc0 := 14) (pc' := 21) (same := false) rfl (hb hby d2_14) rfl (decide_eq_false fun q => (Ne.symm ne_o_PENDING_o_SUCCEEDED) (Value.ref.inj q)) (by decide) (by decide) ?_
    show Steps p.tables e below (s₁.setTop (mkF m 21 #[.val (.ref o_SUCCEEDED), .val (.ref o_PENDING), .val (.int (0 : Int32)), .val (.ref o_SUCCEEDED)] [])) _
    refine XS.iconst X0.here hx rfl (hb hby d2_21) ?_
    show Steps p.tables e below (s₁.setTop (mkF m 22 #[.val (.ref o_SUCCEEDED), .val (.ref o_PENDING), .val (.int (0 : Int32)), .val (.ref o_SUCCEEDED)] [(.int (0 : Int32))])) _
    refine XS.istoreN X0.here hx rfl (hb hby d2_22) rfl (l' := #[.val (.ref o_SUCCEEDED), .val (.ref o_PENDING), .val (.int (0 : Int32)), .val (.ref o_SUCCEEDED)]) rfl ?_
    show Steps p.tables e below (s₁.setTop (mkF m 23 #[.val (.ref o_SUCCEEDED), .val (.ref o_PENDING), .val (.int (0 : Int32)), .val (.ref o_SUCCEEDED)] [])) _
    refine XS.aloadN X0.here hx rfl (hb hby d2_23) rfl rfl ?_
    show Steps p.tables e below (s₁.setTop (mkF m 24 #[.val (.ref o_SUCCEEDED), .val (.ref o_PENDING), .val (.int (0 : Int32)), .val (.ref o_SUCCEEDED)] [(.ref o_SUCCEEDED)])) _
    refine st1 _ ?_
    show Steps p.tables e below (T1.setTop (mkF m 27 #[.val (.ref o_SUCCEEDED), .val (.ref o_PENDING), .val (.int (0 : Int32)), .val (.ref o_SUCCEEDED)] [(.ref o_PENDING)])) _
    refine XS.astoreN X1.here hx rfl (hb hby d2_27) rfl rfl (l' := #[.val (.ref o_SUCCEEDED), .val (.ref o_PENDING), .val (.int (0 : Int32)), .val (.ref o_PENDING)]) rfl ?_
    show Steps p.tables e below (T1.setTop (mkF m 28 #[.val (.ref o_SUCCEEDED), .val (.ref o_PENDING), .val (.int (0 : Int32)), .val (.ref o_PENDING)] [])) _
    refine XS.goto X1.here hx rfl (pc0 := 28) (pc' := 4) rfl (hb hby d2_28) (by decide) (by decide) ?_
    show Steps p.tables e below (T1.setTop (mkF m 4 #[.val (.ref o_SUCCEEDED), .val (.ref o_PENDING), .val (.int (0 : Int32)), .val (.ref o_PENDING)] [])) _
    refine XS.aloadN X1.here hx rfl (hb hby d2_4) rfl rfl ?_
    show Steps p.tables e below (T1.setTop (mkF m 5 #[.val (.ref o_SUCCEEDED), .val (.ref o_PENDING), .val (.int (0 : Int32)), .val (.ref o_PENDING)] [(.ref o_PENDING)])) _
    refine XS.ifnullNo X1.here hx rfl (hb hby d2_5) rfl ?_
    show Steps p.tables e below (T1.setTop (mkF m 8 #[.val (.ref o_SUCCEEDED), .val (.ref o_PENDING), .val (.int (0 : Int32)), .val (.ref o_PENDING)] [])) _
    refine XS.iloadN X1.here hx rfl (hb hby d2_8) rfl ?_
    show Steps p.tables e below (T1.setTop (mkF m 9 #[.val (.ref o_SUCCEEDED), .val (.ref o_PENDING), .val (.int (0 : Int32)), .val (.ref o_PENDING)] [(.int (0 : Int32))])) _
    refine XS.ifNo X1.here hx rfl (hb hby d2_9) rfl ((if0 _ _).trans (teq (by decide : (0 : Int32) = (0 : Int32))).2) ?_
    show Steps p.tables e below (T1.setTop (mkF m 12 #[.val (.ref o_SUCCEEDED), .val (.ref o_PENDING), .val (.int (0 : Int32)), .val (.ref o_PENDING)] [])) _
    refine XS.aloadN X1.here hx rfl (hb hby d2_12) rfl rfl ?_
    show Steps p.tables e below (T1.setTop (mkF m 13 #[.val (.ref o_SUCCEEDED), .val (.ref o_PENDING), .val (.int (0 : Int32)), .val (.ref o_PENDING)] [(.ref o_PENDING)])) _
    refine XS.aloadN X1.here hx rfl (hb hby d2_13) rfl rfl ?_
    show Steps p.tables e below (T1.setTop (mkF m 14 #[.val (.ref o_SUCCEEDED), .val (.ref o_PENDING), .val (.int (0 : Int32)), .val (.ref o_PENDING)] [(.ref o_PENDING), (.ref o_PENDING)])) _
    refine Jvm.RoadKit.acmp (g := (mkF m 14 #[.val (.ref o_SUCCEEDED), .val (.ref o_PENDING), .val (.int (0 : Int32)), .val (.ref o_PENDING)] [(.ref o_PENDING), (.ref o_PENDING)])) X1 hx rfl rfl rfl (pc0 := 14) (pc' := 17) (same := true) rfl (hb hby d2_14) rfl (decide_eq_true rfl) (by decide) (by decide) ?_
    show Steps p.tables e below (T1.setTop (mkF m 17 #[.val (.ref o_SUCCEEDED), .val (.ref o_PENDING), .val (.int (0 : Int32)), .val (.ref o_PENDING)] [])) _
    refine XS.iconst X1.here hx rfl (hb hby d2_17) ?_
    show Steps p.tables e below (T1.setTop (mkF m 18 #[.val (.ref o_SUCCEEDED), .val (.ref o_PENDING), .val (.int (0 : Int32)), .val (.ref o_PENDING)] [(.int (1 : Int32))])) _
    refine XS.goto X1.here hx rfl (pc0 := 18) (pc' := 22) rfl (hb hby d2_18) (by decide) (by decide) ?_
    show Steps p.tables e below (T1.setTop (mkF m 22 #[.val (.ref o_SUCCEEDED), .val (.ref o_PENDING), .val (.int (0 : Int32)), .val (.ref o_PENDING)] [(.int (1 : Int32))])) _
    refine XS.istoreN X1.here hx rfl (hb hby d2_22) rfl (l' := #[.val (.ref o_SUCCEEDED), .val (.ref o_PENDING), .val (.int (1 : Int32)), .val (.ref o_PENDING)]) rfl ?_
    show Steps p.tables e below (T1.setTop (mkF m 23 #[.val (.ref o_SUCCEEDED), .val (.ref o_PENDING), .val (.int (1 : Int32)), .val (.ref o_PENDING)] [])) _
    refine XS.aloadN X1.here hx rfl (hb hby d2_23) rfl rfl ?_
    show Steps p.tables e below (T1.setTop (mkF m 24 #[.val (.ref o_SUCCEEDED), .val (.ref o_PENDING), .val (.int (1 : Int32)), .val (.ref o_PENDING)] [(.ref o_PENDING)])) _
    refine st2 _ ?_
    show Steps p.tables e below (T2.setTop (mkF m 27 #[.val (.ref o_SUCCEEDED), .val (.ref o_PENDING), .val (.int (1 : Int32)), .val (.ref o_PENDING)] [.null])) _
    refine XS.astoreN X2.here hx rfl (hb hby d2_27) rfl rfl (l' := #[.val (.ref o_SUCCEEDED), .val (.ref o_PENDING), .val (.int (1 : Int32)), .val .null]) rfl ?_
    show Steps p.tables e below (T2.setTop (mkF m 28 #[.val (.ref o_SUCCEEDED), .val (.ref o_PENDING), .val (.int (1 : Int32)), .val .null] [])) _
    refine XS.goto X2.here hx rfl (pc0 := 28) (pc' := 4) rfl (hb hby d2_28) (by decide) (by decide) ?_
    show Steps p.tables e below (T2.setTop (mkF m 4 #[.val (.ref o_SUCCEEDED), .val (.ref o_PENDING), .val (.int (1 : Int32)), .val .null] [])) _
    refine XS.aloadN X2.here hx rfl (hb hby d2_4) rfl rfl ?_
    show Steps p.tables e below (T2.setTop (mkF m 5 #[.val (.ref o_SUCCEEDED), .val (.ref o_PENDING), .val (.int (1 : Int32)), .val .null] [.null])) _
    refine XS.ifnullYes X2.here hx rfl (pc0 := 5) (pc' := 31) rfl (hb hby d2_5) rfl (by decide) (by decide) ?_
    show Steps p.tables e below (T2.setTop (mkF m 31 #[.val (.ref o_SUCCEEDED), .val (.ref o_PENDING), .val (.int (1 : Int32)), .val .null] [])) _
    refine XS.iloadN X2.here hx rfl (hb hby d2_31) rfl ?_
    show Steps p.tables e below (T2.setTop (mkF m 32 #[.val (.ref o_SUCCEEDED), .val (.ref o_PENDING), .val (.int (1 : Int32)), .val .null] [(.int (1 : Int32))])) _
    exact retN X2 hx (t := .boolean) Bd.returns (by simp) (hb hby d2_32) hr
  · show Q2_10 Z o_SUCCEEDED o_PENDING o_RETURNED o_FAILED h0 n0 _ T2.heap _
    exact ⟨_, rfl, (by rfl), N0, e2⟩
theorem ef_rm2_11 (m : MethodId) (o_SUCCEEDED : Addr) : entryFrame m #[(.ref o_SUCCEEDED), (.ref o_SUCCEEDED)] 4 = mkF m 0 #[.val (.ref o_SUCCEEDED), .val (.ref o_SUCCEEDED), .unset, .unset] [] := by first | (simp [entryFrame, mkF, argsToLocals, Value.category]; done) | rfl
def Q2_11 (Z : State) (o_SUCCEEDED : Addr) (o_PENDING : Addr) (o_RETURNED : Addr) (o_FAILED : Addr) (h0 : Heap) (n0 : Nat) (v : Option Value) (h : Heap) (L : List Loc) : Prop := ∃ r : Int32, v = some (.int r) ∧ r = (1 : Int32) ∧ Fr n0 L ∧ h = h0
set_option maxRecDepth 65536 in
set_option maxHeartbeats 40000000 in
theorem rm2_11 (l : Launch) (Z : State) (a0 : Array Value) (hw : ∀ d ∈ tables_1, d.before a0 Z = true) (ws : List Jvm.Cond) (o_SUCCEEDED : Addr) (o_PENDING : Addr) (o_RETURNED : Addr) (o_FAILED : Addr) (h0 : Heap) (n0 : Nat) (Z0 : n0 ≤ h0.size) (F_reachedFrom_o_PENDING : Fld Z h0 o_PENDING "com/example/rialto/rialto/core/movement/WithdrawalStatus" "reachedFrom" "Lcom/example/rialto/rialto/core/movement/WithdrawalStatus;" .null) (F_reachedFrom_o_FAILED : Fld Z h0 o_FAILED "com/example/rialto/rialto/core/movement/WithdrawalStatus" "reachedFrom" "Lcom/example/rialto/rialto/core/movement/WithdrawalStatus;" (.ref o_PENDING)) (F_reachedFrom_o_SUCCEEDED : Fld Z h0 o_SUCCEEDED "com/example/rialto/rialto/core/movement/WithdrawalStatus" "reachedFrom" "Lcom/example/rialto/rialto/core/movement/WithdrawalStatus;" (.ref o_PENDING)) (F_reachedFrom_o_RETURNED : Fld Z h0 o_RETURNED "com/example/rialto/rialto/core/movement/WithdrawalStatus" "reachedFrom" "Lcom/example/rialto/rialto/core/movement/WithdrawalStatus;" (.ref o_SUCCEEDED)) (ne_o_PENDING_o_RETURNED : o_PENDING ≠ o_RETURNED) (ne_o_PENDING_o_FAILED : o_PENDING ≠ o_FAILED) (ne_o_PENDING_o_SUCCEEDED : o_PENDING ≠ o_SUCCEEDED) (ne_o_RETURNED_o_FAILED : o_RETURNED ≠ o_FAILED) (ne_o_RETURNED_o_SUCCEEDED : o_RETURNED ≠ o_SUCCEEDED) (ne_o_FAILED_o_SUCCEEDED : o_FAILED ≠ o_SUCCEEDED) :
    MetFree l (⟨"com/example/rialto/rialto/core/movement/WithdrawalStatus", "hasBeen", "(Lcom/example/rialto/rialto/core/movement/WithdrawalStatus;)Z"⟩ : MethodName) (head1 (Jvm.Cond.code (⟨"com/example/rialto/rialto/core/movement/WithdrawalStatus", "hasBeen", "(Lcom/example/rialto/rialto/core/movement/WithdrawalStatus;)Z"⟩ : MethodName) prog_52_method_5_code 4 (some .boolean) :: ws) ({ frames := 0, cells := 0, slots := 0, locals := 0 } : Room)) (fun a U => a = #[(.ref o_SUCCEEDED), (.ref o_SUCCEEDED)] ∧ Z.Warmed39 U.vm ∧ U.heap = h0) (fun _ _ _ _ _ => True) (fun _ U o U' => ∃ v L, o = .returned v ∧ Q2_11 Z o_SUCCEEDED o_PENDING o_RETURNED o_FAILED h0 n0 v U'.heap L ∧ FrameEnd U o U' L ({ frames := 0, cells := 0, slots := 0, locals := 0 } : Room).cells ({ frames := 0, cells := 0, slots := 0, locals := 0 } : Room).slots) := by
  refine MetFree.of_bodySF (plainFor_of_name pn_1) hisR ?_
  intro p e s m args below meth c s₁ Bd hml0 hP hK
  obtain ⟨rfl, hZ, hh⟩ := hP
  have hx := Bd.exec
  have hby := Bd.bytes
  have hml : c.maxLocals = 4 := hml0
  have hown : s.vm.findClass "com/example/rialto/rialto/core/movement/WithdrawalStatus" = some m.cls := findClass_of_methodNamed Bd.named
  have hnm := (name_of_methodNamed Bd.named Bd.method).1
  have X0 : Stand p l e ({ frames := 0, cells := 0, slots := 0, locals := 0 } : Room) s m #[(.ref o_SUCCEEDED), (.ref o_SUCCEEDED)] below meth c s₁ [] 0 0 := Stand.of_body Bd
  have e0 : s₁.heap = h0 := by rw [← hh, Bd.state]; rfl
  have N0 := Fr.nil n0
  show GoalS p.tables e below s ({ frames := 0, cells := 0, slots := 0, locals := 0 } : Room).cells ({ frames := 0, cells := 0, slots := 0, locals := 0 } : Room).slots (Q2_11 Z o_SUCCEEDED o_PENDING o_RETURNED o_FAILED h0 n0) (s₁.setTop (entryFrame m #[(.ref o_SUCCEEDED), (.ref o_SUCCEEDED)] 4))
  refine GoalS.lift (B := s₁.setTop (mkF m 0 #[.val (.ref o_SUCCEEDED), .val (.ref o_SUCCEEDED), .unset, .unset] [])) (fun t k => castTop (ef_rm2_11 m o_SUCCEEDED) k) ?_
  have K0 : Keep h0 h0 [] := Keep.refl _ _
  obtain ⟨T1, X1, e1, st1⟩ := getF X0 hx hZ hown (host := "") (Or.inl (hw _ (List.mem_of_getElem? (i := 14) rfl))) Via.refl e0 F_reachedFrom_o_SUCCEEDED (g := (mkF m 24 #[.val (.ref o_SUCCEEDED), .val (.ref o_SUCCEEDED), .val (.int (1 : Int32)), .val (.ref o_SUCCEEDED)] [(.ref o_SUCCEEDED)])) rfl rfl (hb hby d2_24)
  obtain ⟨fs, hr, hrun, hended, hW, hsame⟩ := X1.leave (v := some (.int (1 : Int32))) (fun h => by rw [Bd.returns] at h; cases h)
  refine ⟨_, _, ?_, hrun, hended, _, _, rfl, ?_, ⟨_, rfl⟩, hW, hsame.mono (by decide) (by decide)⟩
  · show Steps p.tables e below (s₁.setTop (mkF m 0 #[.val (.ref o_SUCCEEDED), .val (.ref o_SUCCEEDED), .unset, .unset] [])) _
    refine XS.iconst X0.here hx rfl (hb hby d2_0) ?_
    show Steps p.tables e below (s₁.setTop (mkF m 1 #[.val (.ref o_SUCCEEDED), .val (.ref o_SUCCEEDED), .unset, .unset] [(.int (0 : Int32))])) _
    refine XS.istoreN X0.here hx rfl (hb hby d2_1) rfl (l' := #[.val (.ref o_SUCCEEDED), .val (.ref o_SUCCEEDED), .val (.int (0 : Int32)), .unset]) rfl ?_
    show Steps p.tables e below (s₁.setTop (mkF m 2 #[.val (.ref o_SUCCEEDED), .val (.ref o_SUCCEEDED), .val (.int (0 : Int32)), .unset] [])) _
    refine XS.aloadN X0.here hx rfl (hb hby d2_2) rfl rfl ?_
    show Steps p.tables e below (s₁.setTop (mkF m 3 #[.val (.ref o_SUCCEEDED), .val (.ref o_SUCCEEDED), .val (.int (0 : Int32)), .unset] [(.ref o_SUCCEEDED)])) _
    refine XS.astoreN X0.here hx rfl (hb hby d2_3) rfl rfl (l' := #[.val (.ref o_SUCCEEDED), .val (.ref o_SUCCEEDED), .val (.int (0 : Int32)), .val (.ref o_SUCCEEDED)]) rfl ?_
    show Steps p.tables e below (s₁.setTop (mkF m 4 #[.val (.ref o_SUCCEEDED), .val (.ref o_SUCCEEDED), .val (.int (0 : Int32)), .val (.ref o_SUCCEEDED)] [])) _
    refine XS.aloadN X0.here hx rfl (hb hby d2_4) rfl rfl ?_
    show Steps p.tables e below (s₁.setTop (mkF m 5 #[.val (.ref o_SUCCEEDED), .val (.ref o_SUCCEEDED), .val (.int (0 : Int32)), .val (.ref o_SUCCEEDED)] [(.ref o_SUCCEEDED)])) _
    refine XS.ifnullNo X0.here hx rfl (hb hby d2_5) rfl ?_
    show Steps p.tables e below (s₁.setTop (mkF m 8 #[.val (.ref o_SUCCEEDED), .val (.ref o_SUCCEEDED), .val (.int (0 : Int32)), .val (.ref o_SUCCEEDED)] [])) _
    refine XS.iloadN X0.here hx rfl (hb hby d2_8) rfl ?_
    show Steps p.tables e below (s₁.setTop (mkF m 9 #[.val (.ref o_SUCCEEDED), .val (.ref o_SUCCEEDED), .val (.int (0 : Int32)), .val (.ref o_SUCCEEDED)] [(.int (0 : Int32))])) _
    refine XS.ifNo X0.here hx rfl (hb hby d2_9) rfl ((if0 _ _).trans (teq (by decide : (0 : Int32) = (0 : Int32))).2) ?_
    show Steps p.tables e below (s₁.setTop (mkF m 12 #[.val (.ref o_SUCCEEDED), .val (.ref o_SUCCEEDED), .val (.int (0 : Int32)), .val (.ref o_SUCCEEDED)] [])) _
    refine XS.aloadN X0.here hx rfl (hb hby d2_12) rfl rfl ?_
    show Steps p.tables e below (s₁.setTop (mkF m 13 #[.val (.ref o_SUCCEEDED), .val (.ref o_SUCCEEDED), .val (.int (0 : Int32)), .val (.ref o_SUCCEEDED)] [(.ref o_SUCCEEDED)])) _
    refine XS.aloadN X0.here hx rfl (hb hby d2_13) rfl rfl ?_
    show Steps p.tables e below (s₁.setTop (mkF m 14 #[.val (.ref o_SUCCEEDED), .val (.ref o_SUCCEEDED), .val (.int (0 : Int32)), .val (.ref o_SUCCEEDED)] [(.ref o_SUCCEEDED), (.ref o_SUCCEEDED)])) _
    refine Jvm.RoadKit.acmp (g := (mkF m 14 #[.val (.ref o_SUCCEEDED), .val (.ref o_SUCCEEDED), .val (.int (0 : Int32)), .val (.ref o_SUCCEEDED)] [(.ref o_SUCCEEDED), (.ref o_SUCCEEDED)])) X0 hx rfl rfl rfl (pc0 := 14) (pc' := 17) (same := true) rfl (hb hby d2_14) rfl (decide_eq_true rfl) (by decide) (by decide) ?_
    show Steps p.tables e below (s₁.setTop (mkF m 17 #[.val (.ref o_SUCCEEDED), .val (.ref o_SUCCEEDED), .val (.int (0 : Int32)), .val (.ref o_SUCCEEDED)] [])) _
    refine XS.iconst X0.here hx rfl (hb hby d2_17) ?_
    show Steps p.tables e below (s₁.setTop (mkF m 18 #[.val (.ref o_SUCCEEDED), .val (.ref o_SUCCEEDED), .val (.int (0 : Int32)), .val (.ref o_SUCCEEDED)] [(.int (1 : Int32))])) _
    refine XS.goto X0.here hx rfl (pc0 := 18) (pc' := 22) rfl (hb hby d2_18) (by decide) (by decide) ?_
    show Steps p.tables e below (s₁.setTop (mkF m 22 #[.val (.ref o_SUCCEEDED), .val (.ref o_SUCCEEDED), .val (.int (0 : Int32)), .val (.ref o_SUCCEEDED)] [(.int (1 : Int32))])) _
    refine XS.istoreN X0.here hx rfl (hb hby d2_22) rfl (l' := #[.val (.ref o_SUCCEEDED), .val (.ref o_SUCCEEDED), .val (.int (1 : Int32)), .val (.ref o_SUCCEEDED)]) rfl ?_
    show Steps p.tables e below (s₁.setTop (mkF m 23 #[.val (.ref o_SUCCEEDED), .val (.ref o_SUCCEEDED), .val (.int (1 : Int32)), .val (.ref o_SUCCEEDED)] [])) _
    refine XS.aloadN X0.here hx rfl (hb hby d2_23) rfl rfl ?_
    show Steps p.tables e below (s₁.setTop (mkF m 24 #[.val (.ref o_SUCCEEDED), .val (.ref o_SUCCEEDED), .val (.int (1 : Int32)), .val (.ref o_SUCCEEDED)] [(.ref o_SUCCEEDED)])) _
    refine st1 _ ?_
    show Steps p.tables e below (T1.setTop (mkF m 27 #[.val (.ref o_SUCCEEDED), .val (.ref o_SUCCEEDED), .val (.int (1 : Int32)), .val (.ref o_SUCCEEDED)] [(.ref o_PENDING)])) _
    refine XS.astoreN X1.here hx rfl (hb hby d2_27) rfl rfl (l' := #[.val (.ref o_SUCCEEDED), .val (.ref o_SUCCEEDED), .val (.int (1 : Int32)), .val (.ref o_PENDING)]) rfl ?_
    show Steps p.tables e below (T1.setTop (mkF m 28 #[.val (.ref o_SUCCEEDED), .val (.ref o_SUCCEEDED), .val (.int (1 : Int32)), .val (.ref o_PENDING)] [])) _
    refine XS.goto X1.here hx rfl (pc0 := 28) (pc' := 4) rfl (hb hby d2_28) (by decide) (by decide) ?_
    show Steps p.tables e below (T1.setTop (mkF m 4 #[.val (.ref o_SUCCEEDED), .val (.ref o_SUCCEEDED), .val (.int (1 : Int32)), .val (.ref o_PENDING)] [])) _
    refine XS.aloadN X1.here hx rfl (hb hby d2_4) rfl rfl ?_
    show Steps p.tables e below (T1.setTop (mkF m 5 #[.val (.ref o_SUCCEEDED), .val (.ref o_SUCCEEDED), .val (.int (1 : Int32)), .val (.ref o_PENDING)] [(.ref o_PENDING)])) _
    refine XS.ifnullNo X1.here hx rfl (hb hby d2_5) rfl ?_
    show Steps p.tables e below (T1.setTop (mkF m 8 #[.val (.ref o_SUCCEEDED), .val (.ref o_SUCCEEDED), .val (.int (1 : Int32)), .val (.ref o_PENDING)] [])) _
    refine XS.iloadN X1.here hx rfl (hb hby d2_8) rfl ?_
    show Steps p.tables e below (T1.setTop (mkF m 9 #[.val (.ref o_SUCCEEDED), .val (.ref o_SUCCEEDED), .val (.int (1 : Int32)), .val (.ref o_PENDING)] [(.int (1 : Int32))])) _
    refine XS.ifYes X1.here hx rfl (pc0 := 9) (pc' := 31) rfl (hb hby d2_9) rfl ((if0 _ _).trans (feq (by decide : ¬ ((1 : Int32) = (0 : Int32)))).2) (by decide) (by decide) ?_
    show Steps p.tables e below (T1.setTop (mkF m 31 #[.val (.ref o_SUCCEEDED), .val (.ref o_SUCCEEDED), .val (.int (1 : Int32)), .val (.ref o_PENDING)] [])) _
    refine XS.iloadN X1.here hx rfl (hb hby d2_31) rfl ?_
    show Steps p.tables e below (T1.setTop (mkF m 32 #[.val (.ref o_SUCCEEDED), .val (.ref o_SUCCEEDED), .val (.int (1 : Int32)), .val (.ref o_PENDING)] [(.int (1 : Int32))])) _
    exact retN X1 hx (t := .boolean) Bd.returns (by simp) (hb hby d2_32) hr
  · show Q2_11 Z o_SUCCEEDED o_PENDING o_RETURNED o_FAILED h0 n0 _ T1.heap _
    exact ⟨_, rfl, (by rfl), N0, e1⟩
theorem ef_rm2_12 (m : MethodId) (o_SUCCEEDED : Addr) (o_FAILED : Addr) : entryFrame m #[(.ref o_SUCCEEDED), (.ref o_FAILED)] 4 = mkF m 0 #[.val (.ref o_SUCCEEDED), .val (.ref o_FAILED), .unset, .unset] [] := by first | (simp [entryFrame, mkF, argsToLocals, Value.category]; done) | rfl
def Q2_12 (Z : State) (o_SUCCEEDED : Addr) (o_FAILED : Addr) (o_PENDING : Addr) (o_RETURNED : Addr) (h0 : Heap) (n0 : Nat) (v : Option Value) (h : Heap) (L : List Loc) : Prop := ∃ r : Int32, v = some (.int r) ∧ r = (0 : Int32) ∧ Fr n0 L ∧ h = h0
set_option maxRecDepth 65536 in
set_option maxHeartbeats 40000000 in
theorem rm2_12 (l : Launch) (Z : State) (a0 : Array Value) (hw : ∀ d ∈ tables_1, d.before a0 Z = true) (ws : List Jvm.Cond) (o_SUCCEEDED : Addr) (o_FAILED : Addr) (o_PENDING : Addr) (o_RETURNED : Addr) (h0 : Heap) (n0 : Nat) (Z0 : n0 ≤ h0.size) (F_reachedFrom_o_PENDING : Fld Z h0 o_PENDING "com/example/rialto/rialto/core/movement/WithdrawalStatus" "reachedFrom" "Lcom/example/rialto/rialto/core/movement/WithdrawalStatus;" .null) (F_reachedFrom_o_FAILED : Fld Z h0 o_FAILED "com/example/rialto/rialto/core/movement/WithdrawalStatus" "reachedFrom" "Lcom/example/rialto/rialto/core/movement/WithdrawalStatus;" (.ref o_PENDING)) (F_reachedFrom_o_SUCCEEDED : Fld Z h0 o_SUCCEEDED "com/example/rialto/rialto/core/movement/WithdrawalStatus" "reachedFrom" "Lcom/example/rialto/rialto/core/movement/WithdrawalStatus;" (.ref o_PENDING)) (F_reachedFrom_o_RETURNED : Fld Z h0 o_RETURNED "com/example/rialto/rialto/core/movement/WithdrawalStatus" "reachedFrom" "Lcom/example/rialto/rialto/core/movement/WithdrawalStatus;" (.ref o_SUCCEEDED)) (ne_o_PENDING_o_RETURNED : o_PENDING ≠ o_RETURNED) (ne_o_PENDING_o_FAILED : o_PENDING ≠ o_FAILED) (ne_o_PENDING_o_SUCCEEDED : o_PENDING ≠ o_SUCCEEDED) (ne_o_RETURNED_o_FAILED : o_RETURNED ≠ o_FAILED) (ne_o_RETURNED_o_SUCCEEDED : o_RETURNED ≠ o_SUCCEEDED) (ne_o_FAILED_o_SUCCEEDED : o_FAILED ≠ o_SUCCEEDED) :
    MetFree l (⟨"com/example/rialto/rialto/core/movement/WithdrawalStatus", "hasBeen", "(Lcom/example/rialto/rialto/core/movement/WithdrawalStatus;)Z"⟩ : MethodName) (head1 (Jvm.Cond.code (⟨"com/example/rialto/rialto/core/movement/WithdrawalStatus", "hasBeen", "(Lcom/example/rialto/rialto/core/movement/WithdrawalStatus;)Z"⟩ : MethodName) prog_52_method_5_code 4 (some .boolean) :: ws) ({ frames := 0, cells := 0, slots := 0, locals := 0 } : Room)) (fun a U => a = #[(.ref o_SUCCEEDED), (.ref o_FAILED)] ∧ Z.Warmed39 U.vm ∧ U.heap = h0) (fun _ _ _ _ _ => True) (fun _ U o U' => ∃ v L, o = .returned v ∧ Q2_12 Z o_SUCCEEDED o_FAILED o_PENDING o_RETURNED h0 n0 v U'.heap L ∧ FrameEnd U o U' L ({ frames := 0, cells := 0, slots := 0, locals := 0 } : Room).cells ({ frames := 0, cells := 0, slots := 0, locals := 0 } : Room).slots) := by
  refine MetFree.of_bodySF (plainFor_of_name pn_1) hisR ?_
  intro p e s m args below meth c s₁ Bd hml0 hP hK
  obtain ⟨rfl, hZ, hh⟩ := hP
  have hx := Bd.exec
  have hby := Bd.bytes
  have hml : c.maxLocals = 4 := hml0
  have hown : s.vm.findClass "com/example/rialto/rialto/core/movement/WithdrawalStatus" = some m.cls := findClass_of_methodNamed Bd.named
  have hnm := (name_of_methodNamed Bd.named Bd.method).1
  have X0 : Stand p l e ({ frames := 0, cells := 0, slots := 0, locals := 0 } : Room) s m #[(.ref o_SUCCEEDED), (.ref o_FAILED)] below meth c s₁ [] 0 0 := Stand.of_body Bd
  have e0 : s₁.heap = h0 := by rw [← hh, Bd.state]; rfl
  have N0 := Fr.nil n0
  show GoalS p.tables e below s ({ frames := 0, cells := 0, slots := 0, locals := 0 } : Room).cells ({ frames := 0, cells := 0, slots := 0, locals := 0 } : Room).slots (Q2_12 Z o_SUCCEEDED o_FAILED o_PENDING o_RETURNED h0 n0) (s₁.setTop (entryFrame m #[(.ref o_SUCCEEDED), (.ref o_FAILED)] 4))
  refine GoalS.lift (B := s₁.setTop (mkF m 0 #[.val (.ref o_SUCCEEDED), .val (.ref o_FAILED), .unset, .unset] [])) (fun t k => castTop (ef_rm2_12 m o_SUCCEEDED o_FAILED) k) ?_
  have K0 : Keep h0 h0 [] := Keep.refl _ _
  obtain ⟨T1, X1, e1, st1⟩ := getF X0 hx hZ hown (host := "") (Or.inl (hw _ (List.mem_of_getElem? (i := 14) rfl))) Via.refl e0 F_reachedFrom_o_SUCCEEDED (g := (mkF m 24 #[.val (.ref o_SUCCEEDED), .val (.ref o_FAILED), .val (.int (0 : Int32)), .val (.ref o_SUCCEEDED)] [(.ref o_SUCCEEDED)])) rfl rfl (hb hby d2_24)
  obtain ⟨T2, X2, e2, st2⟩ := getF X1 hx hZ hown (host := "") (Or.inl (hw _ (List.mem_of_getElem? (i := 14) rfl))) Via.refl e1 F_reachedFrom_o_PENDING (g := (mkF m 24 #[.val (.ref o_SUCCEEDED), .val (.ref o_FAILED), .val (.int (0 : Int32)), .val (.ref o_PENDING)] [(.ref o_PENDING)])) rfl rfl (hb hby d2_24)
  obtain ⟨fs, hr, hrun, hended, hW, hsame⟩ := X2.leave (v := some (.int (0 : Int32))) (fun h => by rw [Bd.returns] at h; cases h)
  refine ⟨_, _, ?_, hrun, hended, _, _, rfl, ?_, ⟨_, rfl⟩, hW, hsame.mono (by decide) (by decide)⟩
  · show Steps p.tables e below (s₁.setTop (mkF m 0 #[.val (.ref o_SUCCEEDED), .val (.ref o_FAILED), .unset, .unset] [])) _
    refine XS.iconst X0.here hx rfl (hb hby d2_0) ?_
    show Steps p.tables e below (s₁.setTop (mkF m 1 #[.val (.ref o_SUCCEEDED), .val (.ref o_FAILED), .unset, .unset] [(.int (0 : Int32))])) _
    refine XS.istoreN X0.here hx rfl (hb hby d2_1) rfl (l' := #[.val (.ref o_SUCCEEDED), .val (.ref o_FAILED), .val (.int (0 : Int32)), .unset]) rfl ?_
    show Steps p.tables e below (s₁.setTop (mkF m 2 #[.val (.ref o_SUCCEEDED), .val (.ref o_FAILED), .val (.int (0 : Int32)), .unset] [])) _
    refine XS.aloadN X0.here hx rfl (hb hby d2_2) rfl rfl ?_
    show Steps p.tables e below (s₁.setTop (mkF m 3 #[.val (.ref o_SUCCEEDED), .val (.ref o_FAILED), .val (.int (0 : Int32)), .unset] [(.ref o_SUCCEEDED)])) _
    refine XS.astoreN X0.here hx rfl (hb hby d2_3) rfl rfl (l' := #[.val (.ref o_SUCCEEDED), .val (.ref o_FAILED), .val (.int (0 : Int32)), .val (.ref o_SUCCEEDED)]) rfl ?_
    show Steps p.tables e below (s₁.setTop (mkF m 4 #[.val (.ref o_SUCCEEDED), .val (.ref o_FAILED), .val (.int (0 : Int32)), .val (.ref o_SUCCEEDED)] [])) _
    refine XS.aloadN X0.here hx rfl (hb hby d2_4) rfl rfl ?_
    show Steps p.tables e below (s₁.setTop (mkF m 5 #[.val (.ref o_SUCCEEDED), .val (.ref o_FAILED), .val (.int (0 : Int32)), .val (.ref o_SUCCEEDED)] [(.ref o_SUCCEEDED)])) _
    refine XS.ifnullNo X0.here hx rfl (hb hby d2_5) rfl ?_
    show Steps p.tables e below (s₁.setTop (mkF m 8 #[.val (.ref o_SUCCEEDED), .val (.ref o_FAILED), .val (.int (0 : Int32)), .val (.ref o_SUCCEEDED)] [])) _
    refine XS.iloadN X0.here hx rfl (hb hby d2_8) rfl ?_
    show Steps p.tables e below (s₁.setTop (mkF m 9 #[.val (.ref o_SUCCEEDED), .val (.ref o_FAILED), .val (.int (0 : Int32)), .val (.ref o_SUCCEEDED)] [(.int (0 : Int32))])) _
    refine XS.ifNo X0.here hx rfl (hb hby d2_9) rfl ((if0 _ _).trans (teq (by decide : (0 : Int32) = (0 : Int32))).2) ?_
    show Steps p.tables e below (s₁.setTop (mkF m 12 #[.val (.ref o_SUCCEEDED), .val (.ref o_FAILED), .val (.int (0 : Int32)), .val (.ref o_SUCCEEDED)] [])) _
    refine XS.aloadN X0.here hx rfl (hb hby d2_12) rfl rfl ?_
    show Steps p.tables e below (s₁.setTop (mkF m 13 #[.val (.ref o_SUCCEEDED), .val (.ref o_FAILED), .val (.int (0 : Int32)), .val (.ref o_SUCCEEDED)] [(.ref o_SUCCEEDED)])) _
    refine XS.aloadN X0.here hx rfl (hb hby d2_13) rfl rfl ?_
    show Steps p.tables e below (s₁.setTop (mkF m 14 #[.val (.ref o_SUCCEEDED), .val (.ref o_FAILED), .val (.int (0 : Int32)), .val (.ref o_SUCCEEDED)] [(.ref o_FAILED), (.ref o_SUCCEEDED)])) _
    refine Jvm.RoadKit.acmp (g := (mkF m 14 #[.val (.ref o_SUCCEEDED), .val (.ref o_FAILED), .val (.int (0 : Int32)), .val (.ref o_SUCCEEDED)] [(.ref o_FAILED), (.ref o_SUCCEEDED)])) X0 hx rfl rfl rfl (pc0 := 14) (pc' := 21) (same := false) rfl (hb hby d2_14) rfl (decide_eq_false fun q => (Ne.symm ne_o_FAILED_o_SUCCEEDED) (Value.ref.inj q)) (by decide) (by decide) ?_
    show Steps p.tables e below (s₁.setTop (mkF m 21 #[.val (.ref o_SUCCEEDED), .val (.ref o_FAILED), .val (.int (0 : Int32)), .val (.ref o_SUCCEEDED)] [])) _
    refine XS.iconst X0.here hx rfl (hb hby d2_21) ?_
    show Steps p.tables e below (s₁.setTop (mkF m 22 #[.val (.ref o_SUCCEEDED), .val (.ref o_FAILED), .val (.int (0 : Int32)), .val (.ref o_SUCCEEDED)] [(.int (0 : Int32))])) _
    refine XS.istoreN X0.here hx rfl (hb hby d2_22) rfl (l' := #[.val (.ref o_SUCCEEDED), .val (.ref o_FAILED), .val (.int (0 : Int32)), .val (.ref o_SUCCEEDED)]) rfl ?_
    show Steps p.tables e below (s₁.setTop (mkF m 23 #[.val (.ref o_SUCCEEDED), .val (.ref o_FAILED), .val (.int (0 : Int32)), .val (.ref o_SUCCEEDED)] [])) _
    refine XS.aloadN X0.here hx rfl (hb hby d2_23) rfl rfl ?_
    show Steps p.tables e below (s₁.setTop (mkF m 24 #[.val (.ref o_SUCCEEDED), .val (.ref o_FAILED), .val (.int (0 : Int32)), .val (.ref o_SUCCEEDED)] [(.ref o_SUCCEEDED)])) _
    refine st1 _ ?_
    show Steps p.tables e below (T1.setTop (mkF m 27 #[.val (.ref o_SUCCEEDED), .val (.ref o_FAILED), .val (.int (0 : Int32)), .val (.ref o_SUCCEEDED)] [(.ref o_PENDING)])) _
    refine XS.astoreN X1.here hx rfl (hb hby d2_27) rfl rfl (l' := #[.val (.ref o_SUCCEEDED), .val (.ref o_FAILED), .val (.int (0 : Int32)), .val (.ref o_PENDING)]) rfl ?_
    show Steps p.tables e below (T1.setTop (mkF m 28 #[.val (.ref o_SUCCEEDED), .val (.ref o_FAILED), .val (.int (0 : Int32)), .val (.ref o_PENDING)] [])) _
    refine XS.goto X1.here hx rfl (pc0 := 28) (pc' := 4) rfl (hb hby d2_28) (by decide) (by decide) ?_
    show Steps p.tables e below (T1.setTop (mkF m 4 #[.val (.ref o_SUCCEEDED), .val (.ref o_FAILED), .val (.int (0 : Int32)), .val (.ref o_PENDING)] [])) _
    refine XS.aloadN X1.here hx rfl (hb hby d2_4) rfl rfl ?_
    show Steps p.tables e below (T1.setTop (mkF m 5 #[.val (.ref o_SUCCEEDED), .val (.ref o_FAILED), .val (.int (0 : Int32)), .val (.ref o_PENDING)] [(.ref o_PENDING)])) _
    refine XS.ifnullNo X1.here hx rfl (hb hby d2_5) rfl ?_
    show Steps p.tables e below (T1.setTop (mkF m 8 #[.val (.ref o_SUCCEEDED), .val (.ref o_FAILED), .val (.int (0 : Int32)), .val (.ref o_PENDING)] [])) _
    refine XS.iloadN X1.here hx rfl (hb hby d2_8) rfl ?_
    show Steps p.tables e below (T1.setTop (mkF m 9 #[.val (.ref o_SUCCEEDED), .val (.ref o_FAILED), .val (.int (0 : Int32)), .val (.ref o_PENDING)] [(.int (0 : Int32))])) _
    refine XS.ifNo X1.here hx rfl (hb hby d2_9) rfl ((if0 _ _).trans (teq (by decide : (0 : Int32) = (0 : Int32))).2) ?_
    show Steps p.tables e below (T1.setTop (mkF m 12 #[.val (.ref o_SUCCEEDED), .val (.ref o_FAILED), .val (.int (0 : Int32)), .val (.ref o_PENDING)] [])) _
    refine XS.aloadN X1.here hx rfl (hb hby d2_12) rfl rfl ?_
    show Steps p.tables e below (T1.setTop (mkF m 13 #[.val (.ref o_SUCCEEDED), .val (.ref o_FAILED), .val (.int (0 : Int32)), .val (.ref o_PENDING)] [(.ref o_PENDING)])) _
    refine XS.aloadN X1.here hx rfl (hb hby d2_13) rfl rfl ?_
    show Steps p.tables e below (T1.setTop (mkF m 14 #[.val (.ref o_SUCCEEDED), .val (.ref o_FAILED), .val (.int (0 : Int32)), .val (.ref o_PENDING)] [(.ref o_FAILED), (.ref o_PENDING)])) _
    refine Jvm.RoadKit.acmp (g := (mkF m 14 #[.val (.ref o_SUCCEEDED), .val (.ref o_FAILED), .val (.int (0 : Int32)), .val (.ref o_PENDING)] [(.ref o_FAILED), (.ref o_PENDING)])) X1 hx rfl rfl rfl (pc0 := 14) (pc' := 21) (same := false) rfl (hb hby d2_14) rfl (decide_eq_false fun q => ne_o_PENDING_o_FAILED (Value.ref.inj q)) (by decide) (by decide) ?_
    show Steps p.tables e below (T1.setTop (mkF m 21 #[.val (.ref o_SUCCEEDED), .val (.ref o_FAILED), .val (.int (0 : Int32)), .val (.ref o_PENDING)] [])) _
    refine XS.iconst X1.here hx rfl (hb hby d2_21) ?_
    show Steps p.tables e below (T1.setTop (mkF m 22 #[.val (.ref o_SUCCEEDED), .val (.ref o_FAILED), .val (.int (0 : Int32)), .val (.ref o_PENDING)] [(.int (0 : Int32))])) _
    refine XS.istoreN X1.here hx rfl (hb hby d2_22) rfl (l' := #[.val (.ref o_SUCCEEDED), .val (.ref o_FAILED), .val (.int (0 : Int32)), .val (.ref o_PENDING)]) rfl ?_
    show Steps p.tables e below (T1.setTop (mkF m 23 #[.val (.ref o_SUCCEEDED), .val (.ref o_FAILED), .val (.int (0 : Int32)), .val (.ref o_PENDING)] [])) _
    refine XS.aloadN X1.here hx rfl (hb hby d2_23) rfl rfl ?_
    show Steps p.tables e below (T1.setTop (mkF m 24 #[.val (.ref o_SUCCEEDED), .val (.ref o_FAILED), .val (.int (0 : Int32)), .val (.ref o_PENDING)] [(.ref o_PENDING)])) _
    refine st2 _ ?_
    show Steps p.tables e below (T2.setTop (mkF m 27 #[.val (.ref o_SUCCEEDED), .val (.ref o_FAILED), .val (.int (0 : Int32)), .val (.ref o_PENDING)] [.null])) _
    refine XS.astoreN X2.here hx rfl (hb hby d2_27) rfl rfl (l' := #[.val (.ref o_SUCCEEDED), .val (.ref o_FAILED), .val (.int (0 : Int32)), .val .null]) rfl ?_
    show Steps p.tables e below (T2.setTop (mkF m 28 #[.val (.ref o_SUCCEEDED), .val (.ref o_FAILED), .val (.int (0 : Int32)), .val .null] [])) _
    refine XS.goto X2.here hx rfl (pc0 := 28) (pc' := 4) rfl (hb hby d2_28) (by decide) (by decide) ?_
    show Steps p.tables e below (T2.setTop (mkF m 4 #[.val (.ref o_SUCCEEDED), .val (.ref o_FAILED), .val (.int (0 : Int32)), .val .null] [])) _
    refine XS.aloadN X2.here hx rfl (hb hby d2_4) rfl rfl ?_
    show Steps p.tables e below (T2.setTop (mkF m 5 #[.val (.ref o_SUCCEEDED), .val (.ref o_FAILED), .val (.int (0 : Int32)), .val .null] [.null])) _
    refine XS.ifnullYes X2.here hx rfl (pc0 := 5) (pc' := 31) rfl (hb hby d2_5) rfl (by decide) (by decide) ?_
    show Steps p.tables e below (T2.setTop (mkF m 31 #[.val (.ref o_SUCCEEDED), .val (.ref o_FAILED), .val (.int (0 : Int32)), .val .null] [])) _
    refine XS.iloadN X2.here hx rfl (hb hby d2_31) rfl ?_
    show Steps p.tables e below (T2.setTop (mkF m 32 #[.val (.ref o_SUCCEEDED), .val (.ref o_FAILED), .val (.int (0 : Int32)), .val .null] [(.int (0 : Int32))])) _
    exact retN X2 hx (t := .boolean) Bd.returns (by simp) (hb hby d2_32) hr
  · show Q2_12 Z o_SUCCEEDED o_FAILED o_PENDING o_RETURNED h0 n0 _ T2.heap _
    exact ⟨_, rfl, (by rfl), N0, e2⟩
theorem ef_rm2_13 (m : MethodId) (o_SUCCEEDED : Addr) (o_RETURNED : Addr) : entryFrame m #[(.ref o_SUCCEEDED), (.ref o_RETURNED)] 4 = mkF m 0 #[.val (.ref o_SUCCEEDED), .val (.ref o_RETURNED), .unset, .unset] [] := by first | (simp [entryFrame, mkF, argsToLocals, Value.category]; done) | rfl
def Q2_13 (Z : State) (o_SUCCEEDED : Addr) (o_RETURNED : Addr) (o_PENDING : Addr) (o_FAILED : Addr) (h0 : Heap) (n0 : Nat) (v : Option Value) (h : Heap) (L : List Loc) : Prop := ∃ r : Int32, v = some (.int r) ∧ r = (0 : Int32) ∧ Fr n0 L ∧ h = h0
set_option maxRecDepth 65536 in
set_option maxHeartbeats 40000000 in
theorem rm2_13 (l : Launch) (Z : State) (a0 : Array Value) (hw : ∀ d ∈ tables_1, d.before a0 Z = true) (ws : List Jvm.Cond) (o_SUCCEEDED : Addr) (o_RETURNED : Addr) (o_PENDING : Addr) (o_FAILED : Addr) (h0 : Heap) (n0 : Nat) (Z0 : n0 ≤ h0.size) (F_reachedFrom_o_PENDING : Fld Z h0 o_PENDING "com/example/rialto/rialto/core/movement/WithdrawalStatus" "reachedFrom" "Lcom/example/rialto/rialto/core/movement/WithdrawalStatus;" .null) (F_reachedFrom_o_FAILED : Fld Z h0 o_FAILED "com/example/rialto/rialto/core/movement/WithdrawalStatus" "reachedFrom" "Lcom/example/rialto/rialto/core/movement/WithdrawalStatus;" (.ref o_PENDING)) (F_reachedFrom_o_SUCCEEDED : Fld Z h0 o_SUCCEEDED "com/example/rialto/rialto/core/movement/WithdrawalStatus" "reachedFrom" "Lcom/example/rialto/rialto/core/movement/WithdrawalStatus;" (.ref o_PENDING)) (F_reachedFrom_o_RETURNED : Fld Z h0 o_RETURNED "com/example/rialto/rialto/core/movement/WithdrawalStatus" "reachedFrom" "Lcom/example/rialto/rialto/core/movement/WithdrawalStatus;" (.ref o_SUCCEEDED)) (ne_o_PENDING_o_RETURNED : o_PENDING ≠ o_RETURNED) (ne_o_PENDING_o_FAILED : o_PENDING ≠ o_FAILED) (ne_o_PENDING_o_SUCCEEDED : o_PENDING ≠ o_SUCCEEDED) (ne_o_RETURNED_o_FAILED : o_RETURNED ≠ o_FAILED) (ne_o_RETURNED_o_SUCCEEDED : o_RETURNED ≠ o_SUCCEEDED) (ne_o_FAILED_o_SUCCEEDED : o_FAILED ≠ o_SUCCEEDED) :
    MetFree l (⟨"com/example/rialto/rialto/core/movement/WithdrawalStatus", "hasBeen", "(Lcom/example/rialto/rialto/core/movement/WithdrawalStatus;)Z"⟩ : MethodName) (head1 (Jvm.Cond.code (⟨"com/example/rialto/rialto/core/movement/WithdrawalStatus", "hasBeen", "(Lcom/example/rialto/rialto/core/movement/WithdrawalStatus;)Z"⟩ : MethodName) prog_52_method_5_code 4 (some .boolean) :: ws) ({ frames := 0, cells := 0, slots := 0, locals := 0 } : Room)) (fun a U => a = #[(.ref o_SUCCEEDED), (.ref o_RETURNED)] ∧ Z.Warmed39 U.vm ∧ U.heap = h0) (fun _ _ _ _ _ => True) (fun _ U o U' => ∃ v L, o = .returned v ∧ Q2_13 Z o_SUCCEEDED o_RETURNED o_PENDING o_FAILED h0 n0 v U'.heap L ∧ FrameEnd U o U' L ({ frames := 0, cells := 0, slots := 0, locals := 0 } : Room).cells ({ frames := 0, cells := 0, slots := 0, locals := 0 } : Room).slots) := by
  refine MetFree.of_bodySF (plainFor_of_name pn_1) hisR ?_
  intro p e s m args below meth c s₁ Bd hml0 hP hK
  obtain ⟨rfl, hZ, hh⟩ := hP
  have hx := Bd.exec
  have hby := Bd.bytes
  have hml : c.maxLocals = 4 := hml0
  have hown : s.vm.findClass "com/example/rialto/rialto/core/movement/WithdrawalStatus" = some m.cls := findClass_of_methodNamed Bd.named
  have hnm := (name_of_methodNamed Bd.named Bd.method).1
  have X0 : Stand p l e ({ frames := 0, cells := 0, slots := 0, locals := 0 } : Room) s m #[(.ref o_SUCCEEDED), (.ref o_RETURNED)] below meth c s₁ [] 0 0 := Stand.of_body Bd
  have e0 : s₁.heap = h0 := by rw [← hh, Bd.state]; rfl
  have N0 := Fr.nil n0
  show GoalS p.tables e below s ({ frames := 0, cells := 0, slots := 0, locals := 0 } : Room).cells ({ frames := 0, cells := 0, slots := 0, locals := 0 } : Room).slots (Q2_13 Z o_SUCCEEDED o_RETURNED o_PENDING o_FAILED h0 n0) (s₁.setTop (entryFrame m #[(.ref o_SUCCEEDED), (.ref o_RETURNED)] 4))
  refine GoalS.lift (B := s₁.setTop (mkF m 0 #[.val (.ref o_SUCCEEDED), .val (.ref o_RETURNED), .unset, .unset] [])) (fun t k => castTop (ef_rm2_13 m o_SUCCEEDED o_RETURNED) k) ?_
  have K0 : Keep h0 h0 [] := Keep.refl _ _
  obtain ⟨T1, X1, e1, st1⟩ := getF X0 hx hZ hown (host := "") (Or.inl (hw _ (List.mem_of_getElem? (i := 14) rfl))) Via.refl e0 F_reachedFrom_o_SUCCEEDED (g := (mkF m 24 #[.val (.ref o_SUCCEEDED), .val (.ref o_RETURNED), .val (.int (0 : Int32)), .val (.ref o_SUCCEEDED)] [(.ref o_SUCCEEDED)])) rfl rfl (hb hby d2_24)
  obtain ⟨T2, X2, e2, st2⟩ := getF X1 hx hZ hown (host := "") (Or.inl (hw _ (List.mem_of_getElem? (i := 14) rfl))) Via.refl e1 F_reachedFrom_o_PENDING (g := (mkF m 24 #[.val (.ref o_SUCCEEDED), .val (.ref o_RETURNED), .val (.int (0 : Int32)), .val (.ref o_PENDING)] [(.ref o_PENDING)])) rfl rfl (hb hby d2_24)
  obtain ⟨fs, hr, hrun, hended, hW, hsame⟩ := X2.leave (v := some (.int (0 : Int32))) (fun h => by rw [Bd.returns] at h; cases h)
  refine ⟨_, _, ?_, hrun, hended, _, _, rfl, ?_, ⟨_, rfl⟩, hW, hsame.mono (by decide) (by decide)⟩
  · show Steps p.tables e below (s₁.setTop (mkF m 0 #[.val (.ref o_SUCCEEDED), .val (.ref o_RETURNED), .unset, .unset] [])) _
    refine XS.iconst X0.here hx rfl (hb hby d2_0) ?_
    show Steps p.tables e below (s₁.setTop (mkF m 1 #[.val (.ref o_SUCCEEDED), .val (.ref o_RETURNED), .unset, .unset] [(.int (0 : Int32))])) _
    refine XS.istoreN X0.here hx rfl (hb hby d2_1) rfl (l' := #[.val (.ref o_SUCCEEDED), .val (.ref o_RETURNED), .val (.int (0 : Int32)), .unset]) rfl ?_
    show Steps p.tables e below (s₁.setTop (mkF m 2 #[.val (.ref o_SUCCEEDED), .val (.ref o_RETURNED), .val (.int (0 : Int32)), .unset] [])) _
    refine XS.aloadN X0.here hx rfl (hb hby d2_2) rfl rfl ?_
    show Steps p.tables e below (s₁.setTop (mkF m 3 #[.val (.ref o_SUCCEEDED), .val (.ref o_RETURNED), .val (.int (0 : Int32)), .unset] [(.ref o_SUCCEEDED)])) _
    refine XS.astoreN X0.here hx rfl (hb hby d2_3) rfl rfl (l' := #[.val (.ref o_SUCCEEDED), .val (.ref o_RETURNED), .val (.int (0 : Int32)), .val (.ref o_SUCCEEDED)]) rfl ?_
    show Steps p.tables e below (s₁.setTop (mkF m 4 #[.val (.ref o_SUCCEEDED), .val (.ref o_RETURNED), .val (.int (0 : Int32)), .val (.ref o_SUCCEEDED)] [])) _
    refine XS.aloadN X0.here hx rfl (hb hby d2_4) rfl rfl ?_
    show Steps p.tables e below (s₁.setTop (mkF m 5 #[.val (.ref o_SUCCEEDED), .val (.ref o_RETURNED), .val (.int (0 : Int32)), .val (.ref o_SUCCEEDED)] [(.ref o_SUCCEEDED)])) _
    refine XS.ifnullNo X0.here hx rfl (hb hby d2_5) rfl ?_
    show Steps p.tables e below (s₁.setTop (mkF m 8 #[.val (.ref o_SUCCEEDED), .val (.ref o_RETURNED), .val (.int (0 : Int32)), .val (.ref o_SUCCEEDED)] [])) _
    refine XS.iloadN X0.here hx rfl (hb hby d2_8) rfl ?_
    show Steps p.tables e below (s₁.setTop (mkF m 9 #[.val (.ref o_SUCCEEDED), .val (.ref o_RETURNED), .val (.int (0 : Int32)), .val (.ref o_SUCCEEDED)] [(.int (0 : Int32))])) _
    refine XS.ifNo X0.here hx rfl (hb hby d2_9) rfl ((if0 _ _).trans (teq (by decide : (0 : Int32) = (0 : Int32))).2) ?_
    show Steps p.tables e below (s₁.setTop (mkF m 12 #[.val (.ref o_SUCCEEDED), .val (.ref o_RETURNED), .val (.int (0 : Int32)), .val (.ref o_SUCCEEDED)] [])) _
    refine XS.aloadN X0.here hx rfl (hb hby d2_12) rfl rfl ?_
    show Steps p.tables e below (s₁.setTop (mkF m 13 #[.val (.ref o_SUCCEEDED), .val (.ref o_RETURNED), .val (.int (0 : Int32)), .val (.ref o_SUCCEEDED)] [(.ref o_SUCCEEDED)])) _
    refine XS.aloadN X0.here hx rfl (hb hby d2_13) rfl rfl ?_
    show Steps p.tables e below (s₁.setTop (mkF m 14 #[.val (.ref o_SUCCEEDED), .val (.ref o_RETURNED), .val (.int (0 : Int32)), .val (.ref o_SUCCEEDED)] [(.ref o_RETURNED), (.ref o_SUCCEEDED)])) _
    refine Jvm.RoadKit.acmp (g := (mkF m 14 #[.val (.ref o_SUCCEEDED), .val (.ref o_RETURNED), .val (.int (0 : Int32)), .val (.ref o_SUCCEEDED)] [(.ref o_RETURNED), (.ref o_SUCCEEDED)])) X0 hx rfl rfl rfl (pc0 := 14) (pc' := 21) (same := false) rfl (hb hby d2_14) rfl (decide_eq_false fun q => (Ne.symm ne_o_RETURNED_o_SUCCEEDED) (Value.ref.inj q)) (by decide) (by decide) ?_
    show Steps p.tables e below (s₁.setTop (mkF m 21 #[.val (.ref o_SUCCEEDED), .val (.ref o_RETURNED), .val (.int (0 : Int32)), .val (.ref o_SUCCEEDED)] [])) _
    refine XS.iconst X0.here hx rfl (hb hby d2_21) ?_
    show Steps p.tables e below (s₁.setTop (mkF m 22 #[.val (.ref o_SUCCEEDED), .val (.ref o_RETURNED), .val (.int (0 : Int32)), .val (.ref o_SUCCEEDED)] [(.int (0 : Int32))])) _
    refine XS.istoreN X0.here hx rfl (hb hby d2_22) rfl (l' := #[.val (.ref o_SUCCEEDED), .val (.ref o_RETURNED), .val (.int (0 : Int32)), .val (.ref o_SUCCEEDED)]) rfl ?_
    show Steps p.tables e below (s₁.setTop (mkF m 23 #[.val (.ref o_SUCCEEDED), .val (.ref o_RETURNED), .val (.int (0 : Int32)), .val (.ref o_SUCCEEDED)] [])) _
    refine XS.aloadN X0.here hx rfl (hb hby d2_23) rfl rfl ?_
    show Steps p.tables e below (s₁.setTop (mkF m 24 #[.val (.ref o_SUCCEEDED), .val (.ref o_RETURNED), .val (.int (0 : Int32)), .val (.ref o_SUCCEEDED)] [(.ref o_SUCCEEDED)])) _
    refine st1 _ ?_
    show Steps p.tables e below (T1.setTop (mkF m 27 #[.val (.ref o_SUCCEEDED), .val (.ref o_RETURNED), .val (.int (0 : Int32)), .val (.ref o_SUCCEEDED)] [(.ref o_PENDING)])) _
    refine XS.astoreN X1.here hx rfl (hb hby d2_27) rfl rfl (l' := #[.val (.ref o_SUCCEEDED), .val (.ref o_RETURNED), .val (.int (0 : Int32)), .val (.ref o_PENDING)]) rfl ?_
    show Steps p.tables e below (T1.setTop (mkF m 28 #[.val (.ref o_SUCCEEDED), .val (.ref o_RETURNED), .val (.int (0 : Int32)), .val (.ref o_PENDING)] [])) _
    refine XS.goto X1.here hx rfl (pc0 := 28) (pc' := 4) rfl (hb hby d2_28) (by decide) (by decide) ?_
    show Steps p.tables e below (T1.setTop (mkF m 4 #[.val (.ref o_SUCCEEDED), .val (.ref o_RETURNED), .val (.int (0 : Int32)), .val (.ref o_PENDING)] [])) _
    refine XS.aloadN X1.here hx rfl (hb hby d2_4) rfl rfl ?_
    show Steps p.tables e below (T1.setTop (mkF m 5 #[.val (.ref o_SUCCEEDED), .val (.ref o_RETURNED), .val (.int (0 : Int32)), .val (.ref o_PENDING)] [(.ref o_PENDING)])) _
    refine XS.ifnullNo X1.here hx rfl (hb hby d2_5) rfl ?_
    show Steps p.tables e below (T1.setTop (mkF m 8 #[.val (.ref o_SUCCEEDED), .val (.ref o_RETURNED), .val (.int (0 : Int32)), .val (.ref o_PENDING)] [])) _
    refine XS.iloadN X1.here hx rfl (hb hby d2_8) rfl ?_
    show Steps p.tables e below (T1.setTop (mkF m 9 #[.val (.ref o_SUCCEEDED), .val (.ref o_RETURNED), .val (.int (0 : Int32)), .val (.ref o_PENDING)] [(.int (0 : Int32))])) _
    refine XS.ifNo X1.here hx rfl (hb hby d2_9) rfl ((if0 _ _).trans (teq (by decide : (0 : Int32) = (0 : Int32))).2) ?_
    show Steps p.tables e below (T1.setTop (mkF m 12 #[.val (.ref o_SUCCEEDED), .val (.ref o_RETURNED), .val (.int (0 : Int32)), .val (.ref o_PENDING)] [])) _
    refine XS.aloadN X1.here hx rfl (hb hby d2_12) rfl rfl ?_
    show Steps p.tables e below (T1.setTop (mkF m 13 #[.val (.ref o_SUCCEEDED), .val (.ref o_RETURNED), .val (.int (0 : Int32)), .val (.ref o_PENDING)] [(.ref o_PENDING)])) _
    refine XS.aloadN X1.here hx rfl (hb hby d2_13) rfl rfl ?_
    show Steps p.tables e below (T1.setTop (mkF m 14 #[.val (.ref o_SUCCEEDED), .val (.ref o_RETURNED), .val (.int (0 : Int32)), .val (.ref o_PENDING)] [(.ref o_RETURNED), (.ref o_PENDING)])) _
    refine Jvm.RoadKit.acmp (g := (mkF m 14 #[.val (.ref o_SUCCEEDED), .val (.ref o_RETURNED), .val (.int (0 : Int32)), .val (.ref o_PENDING)] [(.ref o_RETURNED), (.ref o_PENDING)])) X1 hx rfl rfl rfl (pc0 := 14) (pc' := 21) (same := false) rfl (hb hby d2_14) rfl (decide_eq_false fun q => ne_o_PENDING_o_RETURNED (Value.ref.inj q)) (by decide) (by decide) ?_
    show Steps p.tables e below (T1.setTop (mkF m 21 #[.val (.ref o_SUCCEEDED), .val (.ref o_RETURNED), .val (.int (0 : Int32)), .val (.ref o_PENDING)] [])) _
    refine XS.iconst X1.here hx rfl (hb hby d2_21) ?_
    show Steps p.tables e below (T1.setTop (mkF m 22 #[.val (.ref o_SUCCEEDED), .val (.ref o_RETURNED), .val (.int (0 : Int32)), .val (.ref o_PENDING)] [(.int (0 : Int32))])) _
    refine XS.istoreN X1.here hx rfl (hb hby d2_22) rfl (l' := #[.val (.ref o_SUCCEEDED), .val (.ref o_RETURNED), .val (.int (0 : Int32)), .val (.ref o_PENDING)]) rfl ?_
    show Steps p.tables e below (T1.setTop (mkF m 23 #[.val (.ref o_SUCCEEDED), .val (.ref o_RETURNED), .val (.int (0 : Int32)), .val (.ref o_PENDING)] [])) _
    refine XS.aloadN X1.here hx rfl (hb hby d2_23) rfl rfl ?_
    show Steps p.tables e below (T1.setTop (mkF m 24 #[.val (.ref o_SUCCEEDED), .val (.ref o_RETURNED), .val (.int (0 : Int32)), .val (.ref o_PENDING)] [(.ref o_PENDING)])) _
    refine st2 _ ?_
    show Steps p.tables e below (T2.setTop (mkF m 27 #[.val (.ref o_SUCCEEDED), .val (.ref o_RETURNED), .val (.int (0 : Int32)), .val (.ref o_PENDING)] [.null])) _
    refine XS.astoreN X2.here hx rfl (hb hby d2_27) rfl rfl (l' := #[.val (.ref o_SUCCEEDED), .val (.ref o_RETURNED), .val (.int (0 : Int32)), .val .null]) rfl ?_
    show Steps p.tables e below (T2.setTop (mkF m 28 #[.val (.ref o_SUCCEEDED), .val (.ref o_RETURNED), .val (.int (0 : Int32)), .val .null] [])) _
    refine XS.goto X2.here hx rfl (pc0 := 28) (pc' := 4) rfl (hb hby d2_28) (by decide) (by decide) ?_
    show Steps p.tables e below (T2.setTop (mkF m 4 #[.val (.ref o_SUCCEEDED), .val (.ref o_RETURNED), .val (.int (0 : Int32)), .val .null] [])) _
    refine XS.aloadN X2.here hx rfl (hb hby d2_4) rfl rfl ?_
    show Steps p.tables e below (T2.setTop (mkF m 5 #[.val (.ref o_SUCCEEDED), .val (.ref o_RETURNED), .val (.int (0 : Int32)), .val .null] [.null])) _
    refine XS.ifnullYes X2.here hx rfl (pc0 := 5) (pc' := 31) rfl (hb hby d2_5) rfl (by decide) (by decide) ?_
    show Steps p.tables e below (T2.setTop (mkF m 31 #[.val (.ref o_SUCCEEDED), .val (.ref o_RETURNED), .val (.int (0 : Int32)), .val .null] [])) _
    refine XS.iloadN X2.here hx rfl (hb hby d2_31) rfl ?_
    show Steps p.tables e below (T2.setTop (mkF m 32 #[.val (.ref o_SUCCEEDED), .val (.ref o_RETURNED), .val (.int (0 : Int32)), .val .null] [(.int (0 : Int32))])) _
    exact retN X2 hx (t := .boolean) Bd.returns (by simp) (hb hby d2_32) hr
  · show Q2_13 Z o_SUCCEEDED o_RETURNED o_PENDING o_FAILED h0 n0 _ T2.heap _
    exact ⟨_, rfl, (by rfl), N0, e2⟩
theorem ef_rm2_20 (m : MethodId) (o_FAILED : Addr) (o_PENDING : Addr) : entryFrame m #[(.ref o_FAILED), (.ref o_PENDING)] 4 = mkF m 0 #[.val (.ref o_FAILED), .val (.ref o_PENDING), .unset, .unset] [] := by first | (simp [entryFrame, mkF, argsToLocals, Value.category]; done) | rfl
def Q2_20 (Z : State) (o_FAILED : Addr) (o_PENDING : Addr) (o_RETURNED : Addr) (o_SUCCEEDED : Addr) (h0 : Heap) (n0 : Nat) (v : Option Value) (h : Heap) (L : List Loc) : Prop := ∃ r : Int32, v = some (.int r) ∧ r = (1 : Int32) ∧ Fr n0 L ∧ h = h0
set_option maxRecDepth 65536 in
set_option maxHeartbeats 40000000 in
theorem rm2_20 (l : Launch) (Z : State) (a0 : Array Value) (hw : ∀ d ∈ tables_1, d.before a0 Z = true) (ws : List Jvm.Cond) (o_FAILED : Addr) (o_PENDING : Addr) (o_RETURNED : Addr) (o_SUCCEEDED : Addr) (h0 : Heap) (n0 : Nat) (Z0 : n0 ≤ h0.size) (F_reachedFrom_o_PENDING : Fld Z h0 o_PENDING "com/example/rialto/rialto/core/movement/WithdrawalStatus" "reachedFrom" "Lcom/example/rialto/rialto/core/movement/WithdrawalStatus;" .null) (F_reachedFrom_o_FAILED : Fld Z h0 o_FAILED "com/example/rialto/rialto/core/movement/WithdrawalStatus" "reachedFrom" "Lcom/example/rialto/rialto/core/movement/WithdrawalStatus;" (.ref o_PENDING)) (F_reachedFrom_o_SUCCEEDED : Fld Z h0 o_SUCCEEDED "com/example/rialto/rialto/core/movement/WithdrawalStatus" "reachedFrom" "Lcom/example/rialto/rialto/core/movement/WithdrawalStatus;" (.ref o_PENDING)) (F_reachedFrom_o_RETURNED : Fld Z h0 o_RETURNED "com/example/rialto/rialto/core/movement/WithdrawalStatus" "reachedFrom" "Lcom/example/rialto/rialto/core/movement/WithdrawalStatus;" (.ref o_SUCCEEDED)) (ne_o_PENDING_o_RETURNED : o_PENDING ≠ o_RETURNED) (ne_o_PENDING_o_FAILED : o_PENDING ≠ o_FAILED) (ne_o_PENDING_o_SUCCEEDED : o_PENDING ≠ o_SUCCEEDED) (ne_o_RETURNED_o_FAILED : o_RETURNED ≠ o_FAILED) (ne_o_RETURNED_o_SUCCEEDED : o_RETURNED ≠ o_SUCCEEDED) (ne_o_FAILED_o_SUCCEEDED : o_FAILED ≠ o_SUCCEEDED) :
    MetFree l (⟨"com/example/rialto/rialto/core/movement/WithdrawalStatus", "hasBeen", "(Lcom/example/rialto/rialto/core/movement/WithdrawalStatus;)Z"⟩ : MethodName) (head1 (Jvm.Cond.code (⟨"com/example/rialto/rialto/core/movement/WithdrawalStatus", "hasBeen", "(Lcom/example/rialto/rialto/core/movement/WithdrawalStatus;)Z"⟩ : MethodName) prog_52_method_5_code 4 (some .boolean) :: ws) ({ frames := 0, cells := 0, slots := 0, locals := 0 } : Room)) (fun a U => a = #[(.ref o_FAILED), (.ref o_PENDING)] ∧ Z.Warmed39 U.vm ∧ U.heap = h0) (fun _ _ _ _ _ => True) (fun _ U o U' => ∃ v L, o = .returned v ∧ Q2_20 Z o_FAILED o_PENDING o_RETURNED o_SUCCEEDED h0 n0 v U'.heap L ∧ FrameEnd U o U' L ({ frames := 0, cells := 0, slots := 0, locals := 0 } : Room).cells ({ frames := 0, cells := 0, slots := 0, locals := 0 } : Room).slots) := by
  refine MetFree.of_bodySF (plainFor_of_name pn_1) hisR ?_
  intro p e s m args below meth c s₁ Bd hml0 hP hK
  obtain ⟨rfl, hZ, hh⟩ := hP
  have hx := Bd.exec
  have hby := Bd.bytes
  have hml : c.maxLocals = 4 := hml0
  have hown : s.vm.findClass "com/example/rialto/rialto/core/movement/WithdrawalStatus" = some m.cls := findClass_of_methodNamed Bd.named
  have hnm := (name_of_methodNamed Bd.named Bd.method).1
  have X0 : Stand p l e ({ frames := 0, cells := 0, slots := 0, locals := 0 } : Room) s m #[(.ref o_FAILED), (.ref o_PENDING)] below meth c s₁ [] 0 0 := Stand.of_body Bd
  have e0 : s₁.heap = h0 := by rw [← hh, Bd.state]; rfl
  have N0 := Fr.nil n0
  show GoalS p.tables e below s ({ frames := 0, cells := 0, slots := 0, locals := 0 } : Room).cells ({ frames := 0, cells := 0, slots := 0, locals := 0 } : Room).slots (Q2_20 Z o_FAILED o_PENDING o_RETURNED o_SUCCEEDED h0 n0) (s₁.setTop (entryFrame m #[(.ref o_FAILED), (.ref o_PENDING)] 4))
  refine GoalS.lift (B := s₁.setTop (mkF m 0 #[.val (.ref o_FAILED), .val (.ref o_PENDING), .unset, .unset] [])) (fun t k => castTop (ef_rm2_20 m o_FAILED o_PENDING) k) ?_
  have K0 : Keep h0 h0 [] := Keep.refl _ _
  obtain ⟨T1, X1, e1, st1⟩ := getF X0 hx hZ hown (host := "") (Or.inl (hw _ (List.mem_of_getElem? (i := 14) rfl))) Via.refl e0 F_reachedFrom_o_FAILED (g := (mkF m 24 #[.val (.ref o_FAILED), .val (.ref o_PENDING), .val (.int (0 : Int32)), .val (.ref o_FAILED)] [(.ref o_FAILED)])) rfl rfl (hb hby d2_24)
  obtain ⟨T2, X2, e2, st2⟩ := getF X1 hx hZ hown (host := "") (Or.inl (hw _ (List.mem_of_getElem? (i := 14) rfl))) Via.refl e1 F_reachedFrom_o_PENDING (g := (mkF m 24 #[.val (.ref o_FAILED), .val (.ref o_PENDING), .val (.int (1 : Int32)), .val (.ref o_PENDING)] [(.ref o_PENDING)])) rfl rfl (hb hby d2_24)
  obtain ⟨fs, hr, hrun, hended, hW, hsame⟩ := X2.leave (v := some (.int (1 : Int32))) (fun h => by rw [Bd.returns] at h; cases h)
  refine ⟨_, _, ?_, hrun, hended, _, _, rfl, ?_, ⟨_, rfl⟩, hW, hsame.mono (by decide) (by decide)⟩
  · show Steps p.tables e below (s₁.setTop (mkF m 0 #[.val (.ref o_FAILED), .val (.ref o_PENDING), .unset, .unset] [])) _
    refine XS.iconst X0.here hx rfl (hb hby d2_0) ?_
    show Steps p.tables e below (s₁.setTop (mkF m 1 #[.val (.ref o_FAILED), .val (.ref o_PENDING), .unset, .unset] [(.int (0 : Int32))])) _
    refine XS.istoreN X0.here hx rfl (hb hby d2_1) rfl (l' := #[.val (.ref o_FAILED), .val (.ref o_PENDING), .val (.int (0 : Int32)), .unset]) rfl ?_
    show Steps p.tables e below (s₁.setTop (mkF m 2 #[.val (.ref o_FAILED), .val (.ref o_PENDING), .val (.int (0 : Int32)), .unset] [])) _
    refine XS.aloadN X0.here hx rfl (hb hby d2_2) rfl rfl ?_
    show Steps p.tables e below (s₁.setTop (mkF m 3 #[.val (.ref o_FAILED), .val (.ref o_PENDING), .val (.int (0 : Int32)), .unset] [(.ref o_FAILED)])) _
    refine XS.astoreN X0.here hx rfl (hb hby d2_3) rfl rfl (l' := #[.val (.ref o_FAILED), .val (.ref o_PENDING), .val (.int (0 : Int32)), .val (.ref o_FAILED)]) rfl ?_
    show Steps p.tables e below (s₁.setTop (mkF m 4 #[.val (.ref o_FAILED), .val (.ref o_PENDING), .val (.int (0 : Int32)), .val (.ref o_FAILED)] [])) _
    refine XS.aloadN X0.here hx rfl (hb hby d2_4) rfl rfl ?_
    show Steps p.tables e below (s₁.setTop (mkF m 5 #[.val (.ref o_FAILED), .val (.ref o_PENDING), .val (.int (0 : Int32)), .val (.ref o_FAILED)] [(.ref o_FAILED)])) _
    refine XS.ifnullNo X0.here hx rfl (hb hby d2_5) rfl ?_
    show Steps p.tables e below (s₁.setTop (mkF m 8 #[.val (.ref o_FAILED), .val (.ref o_PENDING), .val (.int (0 : Int32)), .val (.ref o_FAILED)] [])) _
    refine XS.iloadN X0.here hx rfl (hb hby d2_8) rfl ?_
    show Steps p.tables e below (s₁.setTop (mkF m 9 #[.val (.ref o_FAILED), .val (.ref o_PENDING), .val (.int (0 : Int32)), .val (.ref o_FAILED)] [(.int (0 : Int32))])) _
    refine XS.ifNo X0.here hx rfl (hb hby d2_9) rfl ((if0 _ _).trans (teq (by decide : (0 : Int32) = (0 : Int32))).2) ?_
    show Steps p.tables e below (s₁.setTop (mkF m 12 #[.val (.ref o_FAILED), .val (.ref o_PENDING), .val (.int (0 : Int32)), .val (.ref o_FAILED)] [])) _
    refine XS.aloadN X0.here hx rfl (hb hby d2_12) rfl rfl ?_
    show Steps p.tables e below (s₁.setTop (mkF m 13 #[.val (.ref o_FAILED), .val (.ref o_PENDING), .val (.int (0 : Int32)), .val (.ref o_FAILED)] [(.ref o_FAILED)])) _
    refine XS.aloadN X0.here hx rfl (hb hby d2_13) rfl rfl ?_
    show Steps p.tables e below (s₁.setTop (mkF m 14 #[.val (.ref o_FAILED), .val (.ref o_PENDING), .val (.int (0 : Int32)), .val (.ref o_FAILED)] [(.ref o_PENDING), (.ref o_FAILED)])) _
    refine Jvm.RoadKit.acmp (g := (mkF m 14 #[.val (.ref o_FAILED), .val (.ref o_PENDING), .val (.int (0 : Int32)), .val (.ref o_FAILED)] [(.ref o_PENDING), (.ref o_FAILED)])) X0 hx rfl rfl rfl (pc0 := 14) (pc' := 21) (same := false) rfl (hb hby d2_14) rfl (decide_eq_false fun q => (Ne.symm ne_o_PENDING_o_FAILED) (Value.ref.inj q)) (by decide) (by decide) ?_
    show Steps p.tables e below (s₁.setTop (mkF m 21 #[.val (.ref o_FAILED), .val (.ref o_PENDING), .val (.int (0 : Int32)), .val (.ref o_FAILED)] [])) _
    refine XS.iconst X0.here hx rfl (hb hby d2_21) ?_
    show Steps p.tables e below (s₁.setTop (mkF m 22 #[.val (.ref o_FAILED), .val (.ref o_PENDING), .val (.int (0 : Int32)), .val (.ref o_FAILED)] [(.int (0 : Int32))])) _
    refine XS.istoreN X0.here hx rfl (hb hby d2_22) rfl (l' := #[.val (.ref o_FAILED), .val (.ref o_PENDING), .val (.int (0 : Int32)), .val (.ref o_FAILED)]) rfl ?_
    show Steps p.tables e below (s₁.setTop (mkF m 23 #[.val (.ref o_FAILED), .val (.ref o_PENDING), .val (.int (0 : Int32)), .val (.ref o_FAILED)] [])) _
    refine XS.aloadN X0.here hx rfl (hb hby d2_23) rfl rfl ?_
    show Steps p.tables e below (s₁.setTop (mkF m 24 #[.val (.ref o_FAILED), .val (.ref o_PENDING), .val (.int (0 : Int32)), .val (.ref o_FAILED)] [(.ref o_FAILED)])) _
    refine st1 _ ?_
    show Steps p.tables e below (T1.setTop (mkF m 27 #[.val (.ref o_FAILED), .val (.ref o_PENDING), .val (.int (0 : Int32)), .val (.ref o_FAILED)] [(.ref o_PENDING)])) _
    refine XS.astoreN X1.here hx rfl (hb hby d2_27) rfl rfl (l' := #[.val (.ref o_FAILED), .val (.ref o_PENDING), .val (.int (0 : Int32)), .val (.ref o_PENDING)]) rfl ?_
    show Steps p.tables e below (T1.setTop (mkF m 28 #[.val (.ref o_FAILED), .val (.ref o_PENDING), .val (.int (0 : Int32)), .val (.ref o_PENDING)] [])) _
    refine XS.goto X1.here hx rfl (pc0 := 28) (pc' := 4) rfl (hb hby d2_28) (by decide) (by decide) ?_
    show Steps p.tables e below (T1.setTop (mkF m 4 #[.val (.ref o_FAILED), .val (.ref o_PENDING), .val (.int (0 : Int32)), .val (.ref o_PENDING)] [])) _
    refine XS.aloadN X1.here hx rfl (hb hby d2_4) rfl rfl ?_
    show Steps p.tables e below (T1.setTop (mkF m 5 #[.val (.ref o_FAILED), .val (.ref o_PENDING), .val (.int (0 : Int32)), .val (.ref o_PENDING)] [(.ref o_PENDING)])) _
    refine XS.ifnullNo X1.here hx rfl (hb hby d2_5) rfl ?_
    show Steps p.tables e below (T1.setTop (mkF m 8 #[.val (.ref o_FAILED), .val (.ref o_PENDING), .val (.int (0 : Int32)), .val (.ref o_PENDING)] [])) _
    refine XS.iloadN X1.here hx rfl (hb hby d2_8) rfl ?_
    show Steps p.tables e below (T1.setTop (mkF m 9 #[.val (.ref o_FAILED), .val (.ref o_PENDING), .val (.int (0 : Int32)), .val (.ref o_PENDING)] [(.int (0 : Int32))])) _
    refine XS.ifNo X1.here hx rfl (hb hby d2_9) rfl ((if0 _ _).trans (teq (by decide : (0 : Int32) = (0 : Int32))).2) ?_
    show Steps p.tables e below (T1.setTop (mkF m 12 #[.val (.ref o_FAILED), .val (.ref o_PENDING), .val (.int (0 : Int32)), .val (.ref o_PENDING)] [])) _
    refine XS.aloadN X1.here hx rfl (hb hby d2_12) rfl rfl ?_
    show Steps p.tables e below (T1.setTop (mkF m 13 #[.val (.ref o_FAILED), .val (.ref o_PENDING), .val (.int (0 : Int32)), .val (.ref o_PENDING)] [(.ref o_PENDING)])) _
    refine XS.aloadN X1.here hx rfl (hb hby d2_13) rfl rfl ?_
    show Steps p.tables e below (T1.setTop (mkF m 14 #[.val (.ref o_FAILED), .val (.ref o_PENDING), .val (.int (0 : Int32)), .val (.ref o_PENDING)] [(.ref o_PENDING), (.ref o_PENDING)])) _
    refine Jvm.RoadKit.acmp (g := (mkF m 14 #[.val (.ref o_FAILED), .val (.ref o_PENDING), .val (.int (0 : Int32)), .val (.ref o_PENDING)] [(.ref o_PENDING), (.ref o_PENDING)])) X1 hx rfl rfl rfl (pc0 := 14) (pc' := 17) (same := true) rfl (hb hby d2_14) rfl (decide_eq_true rfl) (by decide) (by decide) ?_
    show Steps p.tables e below (T1.setTop (mkF m 17 #[.val (.ref o_FAILED), .val (.ref o_PENDING), .val (.int (0 : Int32)), .val (.ref o_PENDING)] [])) _
    refine XS.iconst X1.here hx rfl (hb hby d2_17) ?_
    show Steps p.tables e below (T1.setTop (mkF m 18 #[.val (.ref o_FAILED), .val (.ref o_PENDING), .val (.int (0 : Int32)), .val (.ref o_PENDING)] [(.int (1 : Int32))])) _
    refine XS.goto X1.here hx rfl (pc0 := 18) (pc' := 22) rfl (hb hby d2_18) (by decide) (by decide) ?_
    show Steps p.tables e below (T1.setTop (mkF m 22 #[.val (.ref o_FAILED), .val (.ref o_PENDING), .val (.int (0 : Int32)), .val (.ref o_PENDING)] [(.int (1 : Int32))])) _
    refine XS.istoreN X1.here hx rfl (hb hby d2_22) rfl (l' := #[.val (.ref o_FAILED), .val (.ref o_PENDING), .val (.int (1 : Int32)), .val (.ref o_PENDING)]) rfl ?_
    show Steps p.tables e below (T1.setTop (mkF m 23 #[.val (.ref o_FAILED), .val (.ref o_PENDING), .val (.int (1 : Int32)), .val (.ref o_PENDING)] [])) _
    refine XS.aloadN X1.here hx rfl (hb hby d2_23) rfl rfl ?_
    show Steps p.tables e below (T1.setTop (mkF m 24 #[.val (.ref o_FAILED), .val (.ref o_PENDING), .val (.int (1 : Int32)), .val (.ref o_PENDING)] [(.ref o_PENDING)])) _
    refine st2 _ ?_
    show Steps p.tables e below (T2.setTop (mkF m 27 #[.val (.ref o_FAILED), .val (.ref o_PENDING), .val (.int (1 : Int32)), .val (.ref o_PENDING)] [.null])) _
    refine XS.astoreN X2.here hx rfl (hb hby d2_27) rfl rfl (l' := #[.val (.ref o_FAILED), .val (.ref o_PENDING), .val (.int (1 : Int32)), .val .null]) rfl ?_
    show Steps p.tables e below (T2.setTop (mkF m 28 #[.val (.ref o_FAILED), .val (.ref o_PENDING), .val (.int (1 : Int32)), .val .null] [])) _
    refine XS.goto X2.here hx rfl (pc0 := 28) (pc' := 4) rfl (hb hby d2_28) (by decide) (by decide) ?_
    show Steps p.tables e below (T2.setTop (mkF m 4 #[.val (.ref o_FAILED), .val (.ref o_PENDING), .val (.int (1 : Int32)), .val .null] [])) _
    refine XS.aloadN X2.here hx rfl (hb hby d2_4) rfl rfl ?_
    show Steps p.tables e below (T2.setTop (mkF m 5 #[.val (.ref o_FAILED), .val (.ref o_PENDING), .val (.int (1 : Int32)), .val .null] [.null])) _
    refine XS.ifnullYes X2.here hx rfl (pc0 := 5) (pc' := 31) rfl (hb hby d2_5) rfl (by decide) (by decide) ?_
    show Steps p.tables e below (T2.setTop (mkF m 31 #[.val (.ref o_FAILED), .val (.ref o_PENDING), .val (.int (1 : Int32)), .val .null] [])) _
    refine XS.iloadN X2.here hx rfl (hb hby d2_31) rfl ?_
    show Steps p.tables e below (T2.setTop (mkF m 32 #[.val (.ref o_FAILED), .val (.ref o_PENDING), .val (.int (1 : Int32)), .val .null] [(.int (1 : Int32))])) _
    exact retN X2 hx (t := .boolean) Bd.returns (by simp) (hb hby d2_32) hr
  · show Q2_20 Z o_FAILED o_PENDING o_RETURNED o_SUCCEEDED h0 n0 _ T2.heap _
    exact ⟨_, rfl, (by rfl), N0, e2⟩
theorem ef_rm2_21 (m : MethodId) (o_FAILED : Addr) (o_SUCCEEDED : Addr) : entryFrame m #[(.ref o_FAILED), (.ref o_SUCCEEDED)] 4 = mkF m 0 #[.val (.ref o_FAILED), .val (.ref o_SUCCEEDED), .unset, .unset] [] := by first | (simp [entryFrame, mkF, argsToLocals, Value.category]; done) | rfl
def Q2_21 (Z : State) (o_FAILED : Addr) (o_SUCCEEDED : Addr) (o_PENDING : Addr) (o_RETURNED : Addr) (h0 : Heap) (n0 : Nat) (v : Option Value) (h : Heap) (L : List Loc) : Prop := ∃ r : Int32, v = some (.int r) ∧ r = (0 : Int32) ∧ Fr n0 L ∧ h = h0
set_option maxRecDepth 65536 in
set_option maxHeartbeats 40000000 in
theorem rm2_21 (l : Launch) (Z : State) (a0 : Array Value) (hw : ∀ d ∈ tables_1, d.before a0 Z = true) (ws : List Jvm.Cond) (o_FAILED : Addr) (o_SUCCEEDED : Addr) (o_PENDING : Addr) (o_RETURNED : Addr) (h0 : Heap) (n0 : Nat) (Z0 : n0 ≤ h0.size) (F_reachedFrom_o_PENDING : Fld Z h0 o_PENDING "com/example/rialto/rialto/core/movement/WithdrawalStatus" "reachedFrom" "Lcom/example/rialto/rialto/core/movement/WithdrawalStatus;" .null) (F_reachedFrom_o_FAILED : Fld Z h0 o_FAILED "com/example/rialto/rialto/core/movement/WithdrawalStatus" "reachedFrom" "Lcom/example/rialto/rialto/core/movement/WithdrawalStatus;" (.ref o_PENDING)) (F_reachedFrom_o_SUCCEEDED : Fld Z h0 o_SUCCEEDED "com/example/rialto/rialto/core/movement/WithdrawalStatus" "reachedFrom" "Lcom/example/rialto/rialto/core/movement/WithdrawalStatus;" (.ref o_PENDING)) (F_reachedFrom_o_RETURNED : Fld Z h0 o_RETURNED "com/example/rialto/rialto/core/movement/WithdrawalStatus" "reachedFrom" "Lcom/example/rialto/rialto/core/movement/WithdrawalStatus;" (.ref o_SUCCEEDED)) (ne_o_PENDING_o_RETURNED : o_PENDING ≠ o_RETURNED) (ne_o_PENDING_o_FAILED : o_PENDING ≠ o_FAILED) (ne_o_PENDING_o_SUCCEEDED : o_PENDING ≠ o_SUCCEEDED) (ne_o_RETURNED_o_FAILED : o_RETURNED ≠ o_FAILED) (ne_o_RETURNED_o_SUCCEEDED : o_RETURNED ≠ o_SUCCEEDED) (ne_o_FAILED_o_SUCCEEDED : o_FAILED ≠ o_SUCCEEDED) :
    MetFree l (⟨"com/example/rialto/rialto/core/movement/WithdrawalStatus", "hasBeen", "(Lcom/example/rialto/rialto/core/movement/WithdrawalStatus;)Z"⟩ : MethodName) (head1 (Jvm.Cond.code (⟨"com/example/rialto/rialto/core/movement/WithdrawalStatus", "hasBeen", "(Lcom/example/rialto/rialto/core/movement/WithdrawalStatus;)Z"⟩ : MethodName) prog_52_method_5_code 4 (some .boolean) :: ws) ({ frames := 0, cells := 0, slots := 0, locals := 0 } : Room)) (fun a U => a = #[(.ref o_FAILED), (.ref o_SUCCEEDED)] ∧ Z.Warmed39 U.vm ∧ U.heap = h0) (fun _ _ _ _ _ => True) (fun _ U o U' => ∃ v L, o = .returned v ∧ Q2_21 Z o_FAILED o_SUCCEEDED o_PENDING o_RETURNED h0 n0 v U'.heap L ∧ FrameEnd U o U' L ({ frames := 0, cells := 0, slots := 0, locals := 0 } : Room).cells ({ frames := 0, cells := 0, slots := 0, locals := 0 } : Room).slots) := by
  refine MetFree.of_bodySF (plainFor_of_name pn_1) hisR ?_
  intro p e s m args below meth c s₁ Bd hml0 hP hK
  obtain ⟨rfl, hZ, hh⟩ := hP
  have hx := Bd.exec
  have hby := Bd.bytes
  have hml : c.maxLocals = 4 := hml0
  have hown : s.vm.findClass "com/example/rialto/rialto/core/movement/WithdrawalStatus" = some m.cls := findClass_of_methodNamed Bd.named
  have hnm := (name_of_methodNamed Bd.named Bd.method).1
  have X0 : Stand p l e ({ frames := 0, cells := 0, slots := 0, locals := 0 } : Room) s m #[(.ref o_FAILED), (.ref o_SUCCEEDED)] below meth c s₁ [] 0 0 := Stand.of_body Bd
  have e0 : s₁.heap = h0 := by rw [← hh, Bd.state]; rfl
  have N0 := Fr.nil n0
  show GoalS p.tables e below s ({ frames := 0, cells := 0, slots := 0, locals := 0 } : Room).cells ({ frames := 0, cells := 0, slots := 0, locals := 0 } : Room).slots (Q2_21 Z o_FAILED o_SUCCEEDED o_PENDING o_RETURNED h0 n0) (s₁.setTop (entryFrame m #[(.ref o_FAILED), (.ref o_SUCCEEDED)] 4))
  refine GoalS.lift (B := s₁.setTop (mkF m 0 #[.val (.ref o_FAILED), .val (.ref o_SUCCEEDED), .unset, .unset] [])) (fun t k => castTop (ef_rm2_21 m o_FAILED o_SUCCEEDED) k) ?_
  have K0 : Keep h0 h0 [] := Keep.refl _ _
  obtain ⟨T1, X1, e1, st1⟩ := getF X0 hx hZ hown (host := "") (Or.inl (hw _ (List.mem_of_getElem? (i := 14) rfl))) Via.refl e0 F_reachedFrom_o_FAILED (g := (mkF m 24 #[.val (.ref o_FAILED), .val (.ref o_SUCCEEDED), .val (.int (0 : Int32)), .val (.ref o_FAILED)] [(.ref o_FAILED)])) rfl rfl (hb hby d2_24)
  obtain ⟨T2, X2, e2, st2⟩ := getF X1 hx hZ hown (host := "") (Or.inl (hw _ (List.mem_of_getElem? (i := 14) rfl))) Via.refl e1 F_reachedFrom_o_PENDING (g := (mkF m 24 #[.val (.ref o_FAILED), .val (.ref o_SUCCEEDED), .val (.int (0 : Int32)), .val (.ref o_PENDING)] [(.ref o_PENDING)])) rfl rfl (hb hby d2_24)
  obtain ⟨fs, hr, hrun, hended, hW, hsame⟩ := X2.leave (v := some (.int (0 : Int32))) (fun h => by rw [Bd.returns] at h; cases h)
  refine ⟨_, _, ?_, hrun, hended, _, _, rfl, ?_, ⟨_, rfl⟩, hW, hsame.mono (by decide) (by decide)⟩
  · show Steps p.tables e below (s₁.setTop (mkF m 0 #[.val (.ref o_FAILED), .val (.ref o_SUCCEEDED), .unset, .unset] [])) _
    refine XS.iconst X0.here hx rfl (hb hby d2_0) ?_
    show Steps p.tables e below (s₁.setTop (mkF m 1 #[.val (.ref o_FAILED), .val (.ref o_SUCCEEDED), .unset, .unset] [(.int (0 : Int32))])) _
    refine XS.istoreN X0.here hx rfl (hb hby d2_1) rfl (l' := #[.val (.ref o_FAILED), .val (.ref o_SUCCEEDED), .val (.int (0 : Int32)), .unset]) rfl ?_
    show Steps p.tables e below (s₁.setTop (mkF m 2 #[.val (.ref o_FAILED), .val (.ref o_SUCCEEDED), .val (.int (0 : Int32)), .unset] [])) _
    refine XS.aloadN X0.here hx rfl (hb hby d2_2) rfl rfl ?_
    show Steps p.tables e below (s₁.setTop (mkF m 3 #[.val (.ref o_FAILED), .val (.ref o_SUCCEEDED), .val (.int (0 : Int32)), .unset] [(.ref o_FAILED)])) _
    refine XS.astoreN X0.here hx rfl (hb hby d2_3) rfl rfl (l' := #[.val (.ref o_FAILED), .val (.ref o_SUCCEEDED), .val (.int (0 : Int32)), .val (.ref o_FAILED)]) rfl ?_
    show Steps p.tables e below (s₁.setTop (mkF m 4 #[.val (.ref o_FAILED), .val (.ref o_SUCCEEDED), .val (.int (0 : Int32)), .val (.ref o_FAILED)] [])) _
    refine XS.aloadN X0.here hx rfl (hb hby d2_4) rfl rfl ?_
    show Steps p.tables e below (s₁.setTop (mkF m 5 #[.val (.ref o_FAILED), .val (.ref o_SUCCEEDED), .val (.int (0 : Int32)), .val (.ref o_FAILED)] [(.ref o_FAILED)])) _
    refine XS.ifnullNo X0.here hx rfl (hb hby d2_5) rfl ?_
    show Steps p.tables e below (s₁.setTop (mkF m 8 #[.val (.ref o_FAILED), .val (.ref o_SUCCEEDED), .val (.int (0 : Int32)), .val (.ref o_FAILED)] [])) _
    refine XS.iloadN X0.here hx rfl (hb hby d2_8) rfl ?_
    show Steps p.tables e below (s₁.setTop (mkF m 9 #[.val (.ref o_FAILED), .val (.ref o_SUCCEEDED), .val (.int (0 : Int32)), .val (.ref o_FAILED)] [(.int (0 : Int32))])) _
    refine XS.ifNo X0.here hx rfl (hb hby d2_9) rfl ((if0 _ _).trans (teq (by decide : (0 : Int32) = (0 : Int32))).2) ?_
    show Steps p.tables e below (s₁.setTop (mkF m 12 #[.val (.ref o_FAILED), .val (.ref o_SUCCEEDED), .val (.int (0 : Int32)), .val (.ref o_FAILED)] [])) _
    refine XS.aloadN X0.here hx rfl (hb hby d2_12) rfl rfl ?_
    show Steps p.tables e below (s₁.setTop (mkF m 13 #[.val (.ref o_FAILED), .val (.ref o_SUCCEEDED), .val (.int (0 : Int32)), .val (.ref o_FAILED)] [(.ref o_FAILED)])) _
    refine XS.aloadN X0.here hx rfl (hb hby d2_13) rfl rfl ?_
    show Steps p.tables e below (s₁.setTop (mkF m 14 #[.val (.ref o_FAILED), .val (.ref o_SUCCEEDED), .val (.int (0 : Int32)), .val (.ref o_FAILED)] [(.ref o_SUCCEEDED), (.ref o_FAILED)])) _
    refine Jvm.RoadKit.acmp (g := (mkF m 14 #[.val (.ref o_FAILED), .val (.ref o_SUCCEEDED), .val (.int (0 : Int32)), .val (.ref o_FAILED)] [(.ref o_SUCCEEDED), (.ref o_FAILED)])) X0 hx rfl rfl rfl (pc0 := 14) (pc' := 21) (same := false) rfl (hb hby d2_14) rfl (decide_eq_false fun q => ne_o_FAILED_o_SUCCEEDED (Value.ref.inj q)) (by decide) (by decide) ?_
    show Steps p.tables e below (s₁.setTop (mkF m 21 #[.val (.ref o_FAILED), .val (.ref o_SUCCEEDED), .val (.int (0 : Int32)), .val (.ref o_FAILED)] [])) _
    refine XS.iconst X0.here hx rfl (hb hby d2_21) ?_
    show Steps p.tables e below (s₁.setTop (mkF m 22 #[.val (.ref o_FAILED), .val (.ref o_SUCCEEDED), .val (.int (0 : Int32)), .val (.ref o_FAILED)] [(.int (0 : Int32))])) _
    refine XS.istoreN X0.here hx rfl (hb hby d2_22) rfl (l' := #[.val (.ref o_FAILED), .val (.ref o_SUCCEEDED), .val (.int (0 : Int32)), .val (.ref o_FAILED)]) rfl ?_
    show Steps p.tables e below (s₁.setTop (mkF m 23 #[.val (.ref o_FAILED), .val (.ref o_SUCCEEDED), .val (.int (0 : Int32)), .val (.ref o_FAILED)] [])) _
    refine XS.aloadN X0.here hx rfl (hb hby d2_23) rfl rfl ?_
    show Steps p.tables e below (s₁.setTop (mkF m 24 #[.val (.ref o_FAILED), .val (.ref o_SUCCEEDED), .val (.int (0 : Int32)), .val (.ref o_FAILED)] [(.ref o_FAILED)])) _
    refine st1 _ ?_
    show Steps p.tables e below (T1.setTop (mkF m 27 #[.val (.ref o_FAILED), .val (.ref o_SUCCEEDED), .val (.int (0 : Int32)), .val (.ref o_FAILED)] [(.ref o_PENDING)])) _
    refine XS.astoreN X1.here hx rfl (hb hby d2_27) rfl rfl (l' := #[.val (.ref o_FAILED), .val (.ref o_SUCCEEDED), .val (.int (0 : Int32)), .val (.ref o_PENDING)]) rfl ?_
    show Steps p.tables e below (T1.setTop (mkF m 28 #[.val (.ref o_FAILED), .val (.ref o_SUCCEEDED), .val (.int (0 : Int32)), .val (.ref o_PENDING)] [])) _
    refine XS.goto X1.here hx rfl (pc0 := 28) (pc' := 4) rfl (hb hby d2_28) (by decide) (by decide) ?_
    show Steps p.tables e below (T1.setTop (mkF m 4 #[.val (.ref o_FAILED), .val (.ref o_SUCCEEDED), .val (.int (0 : Int32)), .val (.ref o_PENDING)] [])) _
    refine XS.aloadN X1.here hx rfl (hb hby d2_4) rfl rfl ?_
    show Steps p.tables e below (T1.setTop (mkF m 5 #[.val (.ref o_FAILED), .val (.ref o_SUCCEEDED), .val (.int (0 : Int32)), .val (.ref o_PENDING)] [(.ref o_PENDING)])) _
    refine XS.ifnullNo X1.here hx rfl (hb hby d2_5) rfl ?_
    show Steps p.tables e below (T1.setTop (mkF m 8 #[.val (.ref o_FAILED), .val (.ref o_SUCCEEDED), .val (.int (0 : Int32)), .val (.ref o_PENDING)] [])) _
    refine XS.iloadN X1.here hx rfl (hb hby d2_8) rfl ?_
    show Steps p.tables e below (T1.setTop (mkF m 9 #[.val (.ref o_FAILED), .val (.ref o_SUCCEEDED), .val (.int (0 : Int32)), .val (.ref o_PENDING)] [(.int (0 : Int32))])) _
    refine XS.ifNo X1.here hx rfl (hb hby d2_9) rfl ((if0 _ _).trans (teq (by decide : (0 : Int32) = (0 : Int32))).2) ?_
    show Steps p.tables e below (T1.setTop (mkF m 12 #[.val (.ref o_FAILED), .val (.ref o_SUCCEEDED), .val (.int (0 : Int32)), .val (.ref o_PENDING)] [])) _
    refine XS.aloadN X1.here hx rfl (hb hby d2_12) rfl rfl ?_
    show Steps p.tables e below (T1.setTop (mkF m 13 #[.val (.ref o_FAILED), .val (.ref o_SUCCEEDED), .val (.int (0 : Int32)), .val (.ref o_PENDING)] [(.ref o_PENDING)])) _
    refine XS.aloadN X1.here hx rfl (hb hby d2_13) rfl rfl ?_
    show Steps p.tables e below (T1.setTop (mkF m 14 #[.val (.ref o_FAILED), .val (.ref o_SUCCEEDED), .val (.int (0 : Int32)), .val (.ref o_PENDING)] [(.ref o_SUCCEEDED), (.ref o_PENDING)])) _
    refine Jvm.RoadKit.acmp (g := (mkF m 14 #[.val (.ref o_FAILED), .val (.ref o_SUCCEEDED), .val (.int (0 : Int32)), .val (.ref o_PENDING)] [(.ref o_SUCCEEDED), (.ref o_PENDING)])) X1 hx rfl rfl rfl (pc0 := 14) (pc' := 21) (same := false) rfl (hb hby d2_14) rfl (decide_eq_false fun q => ne_o_PENDING_o_SUCCEEDED (Value.ref.inj q)) (by decide) (by decide) ?_
    show Steps p.tables e below (T1.setTop (mkF m 21 #[.val (.ref o_FAILED), .val (.ref o_SUCCEEDED), .val (.int (0 : Int32)), .val (.ref o_PENDING)] [])) _
    refine XS.iconst X1.here hx rfl (hb hby d2_21) ?_
    show Steps p.tables e below (T1.setTop (mkF m 22 #[.val (.ref o_FAILED), .val (.ref o_SUCCEEDED), .val (.int (0 : Int32)), .val (.ref o_PENDING)] [(.int (0 : Int32))])) _
    refine XS.istoreN X1.here hx rfl (hb hby d2_22) rfl (l' := #[.val (.ref o_FAILED), .val (.ref o_SUCCEEDED), .val (.int (0 : Int32)), .val (.ref o_PENDING)]) rfl ?_
    show Steps p.tables e below (T1.setTop (mkF m 23 #[.val (.ref o_FAILED), .val (.ref o_SUCCEEDED), .val (.int (0 : Int32)), .val (.ref o_PENDING)] [])) _
    refine XS.aloadN X1.here hx rfl (hb hby d2_23) rfl rfl ?_
    show Steps p.tables e below (T1.setTop (mkF m 24 #[.val (.ref o_FAILED), .val (.ref o_SUCCEEDED), .val (.int (0 : Int32)), .val (.ref o_PENDING)] [(.ref o_PENDING)])) _
    refine st2 _ ?_
    show Steps p.tables e below (T2.setTop (mkF m 27 #[.val (.ref o_FAILED), .val (.ref o_SUCCEEDED), .val (.int (0 : Int32)), .val (.ref o_PENDING)] [.null])) _
    refine XS.astoreN X2.here hx rfl (hb hby d2_27) rfl rfl (l' := #[.val (.ref o_FAILED), .val (.ref o_SUCCEEDED), .val (.int (0 : Int32)), .val .null]) rfl ?_
    show Steps p.tables e below (T2.setTop (mkF m 28 #[.val (.ref o_FAILED), .val (.ref o_SUCCEEDED), .val (.int (0 : Int32)), .val .null] [])) _
    refine XS.goto X2.here hx rfl (pc0 := 28) (pc' := 4) rfl (hb hby d2_28) (by decide) (by decide) ?_
    show Steps p.tables e below (T2.setTop (mkF m 4 #[.val (.ref o_FAILED), .val (.ref o_SUCCEEDED), .val (.int (0 : Int32)), .val .null] [])) _
    refine XS.aloadN X2.here hx rfl (hb hby d2_4) rfl rfl ?_
    show Steps p.tables e below (T2.setTop (mkF m 5 #[.val (.ref o_FAILED), .val (.ref o_SUCCEEDED), .val (.int (0 : Int32)), .val .null] [.null])) _
    refine XS.ifnullYes X2.here hx rfl (pc0 := 5) (pc' := 31) rfl (hb hby d2_5) rfl (by decide) (by decide) ?_
    show Steps p.tables e below (T2.setTop (mkF m 31 #[.val (.ref o_FAILED), .val (.ref o_SUCCEEDED), .val (.int (0 : Int32)), .val .null] [])) _
    refine XS.iloadN X2.here hx rfl (hb hby d2_31) rfl ?_
    show Steps p.tables e below (T2.setTop (mkF m 32 #[.val (.ref o_FAILED), .val (.ref o_SUCCEEDED), .val (.int (0 : Int32)), .val .null] [(.int (0 : Int32))])) _
    exact retN X2 hx (t := .boolean) Bd.returns (by simp) (hb hby d2_32) hr
  · show Q2_21 Z o_FAILED o_SUCCEEDED o_PENDING o_RETURNED h0 n0 _ T2.heap _
    exact ⟨_, rfl, (by rfl), N0, e2⟩
theorem ef_rm2_22 (m : MethodId) (o_FAILED : Addr) : entryFrame m #[(.ref o_FAILED), (.ref o_FAILED)] 4 = mkF m 0 #[.val (.ref o_FAILED), .val (.ref o_FAILED), .unset, .unset] [] := by first | (simp [entryFrame, mkF, argsToLocals, Value.category]; done) | rfl
def Q2_22 (Z : State) (o_FAILED : Addr) (o_PENDING : Addr) (o_RETURNED : Addr) (o_SUCCEEDED : Addr) (h0 : Heap) (n0 : Nat) (v : Option Value) (h : Heap) (L : List Loc) : Prop := ∃ r : Int32, v = some (.int r) ∧ r = (1 : Int32) ∧ Fr n0 L ∧ h = h0
set_option maxRecDepth 65536 in
set_option maxHeartbeats 40000000 in
theorem rm2_22 (l : Launch) (Z : State) (a0 : Array Value) (hw : ∀ d ∈ tables_1, d.before a0 Z = true) (ws : List Jvm.Cond) (o_FAILED : Addr) (o_PENDING : Addr) (o_RETURNED : Addr) (o_SUCCEEDED : Addr) (h0 : Heap) (n0 : Nat) (Z0 : n0 ≤ h0.size) (F_reachedFrom_o_PENDING : Fld Z h0 o_PENDING "com/example/rialto/rialto/core/movement/WithdrawalStatus" "reachedFrom" "Lcom/example/rialto/rialto/core/movement/WithdrawalStatus;" .null) (F_reachedFrom_o_FAILED : Fld Z h0 o_FAILED "com/example/rialto/rialto/core/movement/WithdrawalStatus" "reachedFrom" "Lcom/example/rialto/rialto/core/movement/WithdrawalStatus;" (.ref o_PENDING)) (F_reachedFrom_o_SUCCEEDED : Fld Z h0 o_SUCCEEDED "com/example/rialto/rialto/core/movement/WithdrawalStatus" "reachedFrom" "Lcom/example/rialto/rialto/core/movement/WithdrawalStatus;" (.ref o_PENDING)) (F_reachedFrom_o_RETURNED : Fld Z h0 o_RETURNED "com/example/rialto/rialto/core/movement/WithdrawalStatus" "reachedFrom" "Lcom/example/rialto/rialto/core/movement/WithdrawalStatus;" (.ref o_SUCCEEDED)) (ne_o_PENDING_o_RETURNED : o_PENDING ≠ o_RETURNED) (ne_o_PENDING_o_FAILED : o_PENDING ≠ o_FAILED) (ne_o_PENDING_o_SUCCEEDED : o_PENDING ≠ o_SUCCEEDED) (ne_o_RETURNED_o_FAILED : o_RETURNED ≠ o_FAILED) (ne_o_RETURNED_o_SUCCEEDED : o_RETURNED ≠ o_SUCCEEDED) (ne_o_FAILED_o_SUCCEEDED : o_FAILED ≠ o_SUCCEEDED) :
    MetFree l (⟨"com/example/rialto/rialto/core/movement/WithdrawalStatus", "hasBeen", "(Lcom/example/rialto/rialto/core/movement/WithdrawalStatus;)Z"⟩ : MethodName) (head1 (Jvm.Cond.code (⟨"com/example/rialto/rialto/core/movement/WithdrawalStatus", "hasBeen", "(Lcom/example/rialto/rialto/core/movement/WithdrawalStatus;)Z"⟩ : MethodName) prog_52_method_5_code 4 (some .boolean) :: ws) ({ frames := 0, cells := 0, slots := 0, locals := 0 } : Room)) (fun a U => a = #[(.ref o_FAILED), (.ref o_FAILED)] ∧ Z.Warmed39 U.vm ∧ U.heap = h0) (fun _ _ _ _ _ => True) (fun _ U o U' => ∃ v L, o = .returned v ∧ Q2_22 Z o_FAILED o_PENDING o_RETURNED o_SUCCEEDED h0 n0 v U'.heap L ∧ FrameEnd U o U' L ({ frames := 0, cells := 0, slots := 0, locals := 0 } : Room).cells ({ frames := 0, cells := 0, slots := 0, locals := 0 } : Room).slots) := by
  refine MetFree.of_bodySF (plainFor_of_name pn_1) hisR ?_
  intro p e s m args below meth c s₁ Bd hml0 hP hK
  obtain ⟨rfl, hZ, hh⟩ := hP
  have hx := Bd.exec
  have hby := Bd.bytes
  have hml : c.maxLocals = 4 := hml0
  have hown : s.vm.findClass "com/example/rialto/rialto/core/movement/WithdrawalStatus" = some m.cls := findClass_of_methodNamed Bd.named
  have hnm := (name_of_methodNamed Bd.named Bd.method).1
  have X0 : Stand p l e ({ frames := 0, cells := 0, slots := 0, locals := 0 } : Room) s m #[(.ref o_FAILED), (.ref o_FAILED)] below meth c s₁ [] 0 0 := Stand.of_body Bd
  have e0 : s₁.heap = h0 := by rw [← hh, Bd.state]; rfl
  have N0 := Fr.nil n0
  show GoalS p.tables e below s ({ frames := 0, cells := 0, slots := 0, locals := 0 } : Room).cells ({ frames := 0, cells := 0, slots := 0, locals := 0 } : Room).slots (Q2_22 Z o_FAILED o_PENDING o_RETURNED o_SUCCEEDED h0 n0) (s₁.setTop (entryFrame m #[(.ref o_FAILED), (.ref o_FAILED)] 4))
  refine GoalS.lift (B := s₁.setTop (mkF m 0 #[.val (.ref o_FAILED), .val (.ref o_FAILED), .unset, .unset] [])) (fun t k => castTop (ef_rm2_22 m o_FAILED) k) ?_
  have K0 : Keep h0 h0 [] := Keep.refl _ _
  obtain ⟨T1, X1, e1, st1⟩ := getF X0 hx hZ hown (host := "") (Or.inl (hw _ (List.mem_of_getElem? (i := 14) rfl))) Via.refl e0 F_reachedFrom_o_FAILED (g := (mkF m 24 #[.val (.ref o_FAILED), .val (.ref o_FAILED), .val (.int (1 : Int32)), .val (.ref o_FAILED)] [(.ref o_FAILED)])) rfl rfl (hb hby d2_24)
  obtain ⟨fs, hr, hrun, hended, hW, hsame⟩ := X1.leave (v := some (.int (1 : Int32))) (fun h => by rw [Bd.returns] at h; cases h)
  refine ⟨_, _, ?_, hrun, hended, _, _, rfl, ?_, ⟨_, rfl⟩, hW, hsame.mono (by decide) (by decide)⟩
  · show Steps p.tables e below (s₁.setTop (mkF m 0 #[.val (.ref o_FAILED), .val (.ref o_FAILED), .unset, .unset] [])) _
    refine XS.iconst X0.here hx rfl (hb hby d2_0) ?_
    show Steps p.tables e below (s₁.setTop (mkF m 1 #[.val (.ref o_FAILED), .val (.ref o_FAILED), .unset, .unset] [(.int (0 : Int32))])) _
    refine XS.istoreN X0.here hx rfl (hb hby d2_1) rfl (l' := #[.val (.ref o_FAILED), .val (.ref o_FAILED), .val (.int (0 : Int32)), .unset]) rfl ?_
    show Steps p.tables e below (s₁.setTop (mkF m 2 #[.val (.ref o_FAILED), .val (.ref o_FAILED), .val (.int (0 : Int32)), .unset] [])) _
    refine XS.aloadN X0.here hx rfl (hb hby d2_2) rfl rfl ?_
    show Steps p.tables e below (s₁.setTop (mkF m 3 #[.val (.ref o_FAILED), .val (.ref o_FAILED), .val (.int (0 : Int32)), .unset] [(.ref o_FAILED)])) _
    refine XS.astoreN X0.here hx rfl (hb hby d2_3) rfl rfl (l' := #[.val (.ref o_FAILED), .val (.ref o_FAILED), .val (.int (0 : Int32)), .val (.ref o_FAILED)]) rfl ?_
    show Steps p.tables e below (s₁.setTop (mkF m 4 #[.val (.ref o_FAILED), .val (.ref o_FAILED), .val (.int (0 : Int32)), .val (.ref o_FAILED)] [])) _
    refine XS.aloadN X0.here hx rfl (hb hby d2_4) rfl rfl ?_
    show Steps p.tables e below (s₁.setTop (mkF m 5 #[.val (.ref o_FAILED), .val (.ref o_FAILED), .val (.int (0 : Int32)), .val (.ref o_FAILED)] [(.ref o_FAILED)])) _
    refine XS.ifnullNo X0.here hx rfl (hb hby d2_5) rfl ?_
    show Steps p.tables e below (s₁.setTop (mkF m 8 #[.val (.ref o_FAILED), .val (.ref o_FAILED), .val (.int (0 : Int32)), .val (.ref o_FAILED)] [])) _
    refine XS.iloadN X0.here hx rfl (hb hby d2_8) rfl ?_
    show Steps p.tables e below (s₁.setTop (mkF m 9 #[.val (.ref o_FAILED), .val (.ref o_FAILED), .val (.int (0 : Int32)), .val (.ref o_FAILED)] [(.int (0 : Int32))])) _
    refine XS.ifNo X0.here hx rfl (hb hby d2_9) rfl ((if0 _ _).trans (teq (by decide : (0 : Int32) = (0 : Int32))).2) ?_
    show Steps p.tables e below (s₁.setTop (mkF m 12 #[.val (.ref o_FAILED), .val (.ref o_FAILED), .val (.int (0 : Int32)), .val (.ref o_FAILED)] [])) _
    refine XS.aloadN X0.here hx rfl (hb hby d2_12) rfl rfl ?_
    show Steps p.tables e below (s₁.setTop (mkF m 13 #[.val (.ref o_FAILED), .val (.ref o_FAILED), .val (.int (0 : Int32)), .val (.ref o_FAILED)] [(.ref o_FAILED)])) _
    refine XS.aloadN X0.here hx rfl (hb hby d2_13) rfl rfl ?_
    show Steps p.tables e below (s₁.setTop (mkF m 14 #[.val (.ref o_FAILED), .val (.ref o_FAILED), .val (.int (0 : Int32)), .val (.ref o_FAILED)] [(.ref o_FAILED), (.ref o_FAILED)])) _
    refine Jvm.RoadKit.acmp (g := (mkF m 14 #[.val (.ref o_FAILED), .val (.ref o_FAILED), .val (.int (0 : Int32)), .val (.ref o_FAILED)] [(.ref o_FAILED), (.ref o_FAILED)])) X0 hx rfl rfl rfl (pc0 := 14) (pc' := 17) (same := true) rfl (hb hby d2_14) rfl (decide_eq_true rfl) (by decide) (by decide) ?_
    show Steps p.tables e below (s₁.setTop (mkF m 17 #[.val (.ref o_FAILED), .val (.ref o_FAILED), .val (.int (0 : Int32)), .val (.ref o_FAILED)] [])) _
    refine XS.iconst X0.here hx rfl (hb hby d2_17) ?_
    show Steps p.tables e below (s₁.setTop (mkF m 18 #[.val (.ref o_FAILED), .val (.ref o_FAILED), .val (.int (0 : Int32)), .val (.ref o_FAILED)] [(.int (1 : Int32))])) _
    refine XS.goto X0.here hx rfl (pc0 := 18) (pc' := 22) rfl (hb hby d2_18) (by decide) (by decide) ?_
    show Steps p.tables e below (s₁.setTop (mkF m 22 #[.val (.ref o_FAILED), .val (.ref o_FAILED), .val (.int (0 : Int32)), .val (.ref o_FAILED)] [(.int (1 : Int32))])) _
    refine XS.istoreN X0.here hx rfl (hb hby d2_22) rfl (l' := #[.val (.ref o_FAILED), .val (.ref o_FAILED), .val (.int (1 : Int32)), .val (.ref o_FAILED)]) rfl ?_
    show Steps p.tables e below (s₁.setTop (mkF m 23 #[.val (.ref o_FAILED), .val (.ref o_FAILED), .val (.int (1 : Int32)), .val (.ref o_FAILED)] [])) _
    refine XS.aloadN X0.here hx rfl (hb hby d2_23) rfl rfl ?_
    show Steps p.tables e below (s₁.setTop (mkF m 24 #[.val (.ref o_FAILED), .val (.ref o_FAILED), .val (.int (1 : Int32)), .val (.ref o_FAILED)] [(.ref o_FAILED)])) _
    refine st1 _ ?_
    show Steps p.tables e below (T1.setTop (mkF m 27 #[.val (.ref o_FAILED), .val (.ref o_FAILED), .val (.int (1 : Int32)), .val (.ref o_FAILED)] [(.ref o_PENDING)])) _
    refine XS.astoreN X1.here hx rfl (hb hby d2_27) rfl rfl (l' := #[.val (.ref o_FAILED), .val (.ref o_FAILED), .val (.int (1 : Int32)), .val (.ref o_PENDING)]) rfl ?_
    show Steps p.tables e below (T1.setTop (mkF m 28 #[.val (.ref o_FAILED), .val (.ref o_FAILED), .val (.int (1 : Int32)), .val (.ref o_PENDING)] [])) _
    refine XS.goto X1.here hx rfl (pc0 := 28) (pc' := 4) rfl (hb hby d2_28) (by decide) (by decide) ?_
    show Steps p.tables e below (T1.setTop (mkF m 4 #[.val (.ref o_FAILED), .val (.ref o_FAILED), .val (.int (1 : Int32)), .val (.ref o_PENDING)] [])) _
    refine XS.aloadN X1.here hx rfl (hb hby d2_4) rfl rfl ?_
    show Steps p.tables e below (T1.setTop (mkF m 5 #[.val (.ref o_FAILED), .val (.ref o_FAILED), .val (.int (1 : Int32)), .val (.ref o_PENDING)] [(.ref o_PENDING)])) _
    refine XS.ifnullNo X1.here hx rfl (hb hby d2_5) rfl ?_
    show Steps p.tables e below (T1.setTop (mkF m 8 #[.val (.ref o_FAILED), .val (.ref o_FAILED), .val (.int (1 : Int32)), .val (.ref o_PENDING)] [])) _
    refine XS.iloadN X1.here hx rfl (hb hby d2_8) rfl ?_
    show Steps p.tables e below (T1.setTop (mkF m 9 #[.val (.ref o_FAILED), .val (.ref o_FAILED), .val (.int (1 : Int32)), .val (.ref o_PENDING)] [(.int (1 : Int32))])) _
    refine XS.ifYes X1.here hx rfl (pc0 := 9) (pc' := 31) rfl (hb hby d2_9) rfl ((if0 _ _).trans (feq (by decide : ¬ ((1 : Int32) = (0 : Int32)))).2) (by decide) (by decide) ?_
    show Steps p.tables e below (T1.setTop (mkF m 31 #[.val (.ref o_FAILED), .val (.ref o_FAILED), .val (.int (1 : Int32)), .val (.ref o_PENDING)] [])) _
    refine XS.iloadN X1.here hx rfl (hb hby d2_31) rfl ?_
    show Steps p.tables e below (T1.setTop (mkF m 32 #[.val (.ref o_FAILED), .val (.ref o_FAILED), .val (.int (1 : Int32)), .val (.ref o_PENDING)] [(.int (1 : Int32))])) _
    exact retN X1 hx (t := .boolean) Bd.returns (by simp) (hb hby d2_32) hr
  · show Q2_22 Z o_FAILED o_PENDING o_RETURNED o_SUCCEEDED h0 n0 _ T1.heap _
    exact ⟨_, rfl, (by rfl), N0, e1⟩
theorem ef_rm2_23 (m : MethodId) (o_FAILED : Addr) (o_RETURNED : Addr) : entryFrame m #[(.ref o_FAILED), (.ref o_RETURNED)] 4 = mkF m 0 #[.val (.ref o_FAILED), .val (.ref o_RETURNED), .unset, .unset] [] := by first | (simp [entryFrame, mkF, argsToLocals, Value.category]; done) | rfl
def Q2_23 (Z : State) (o_FAILED : Addr) (o_RETURNED : Addr) (o_PENDING : Addr) (o_SUCCEEDED : Addr) (h0 : Heap) (n0 : Nat) (v : Option Value) (h : Heap) (L : List Loc) : Prop := ∃ r : Int32, v = some (.int r) ∧ r = (0 : Int32) ∧ Fr n0 L ∧ h = h0
set_option maxRecDepth 65536 in
set_option maxHeartbeats 40000000 in
theorem rm2_23 (l : Launch) (Z : State) (a0 : Array Value) (hw : ∀ d ∈ tables_1, d.before a0 Z = true) (ws : List Jvm.Cond) (o_FAILED : Addr) (o_RETURNED : Addr) (o_PENDING : Addr) (o_SUCCEEDED : Addr) (h0 : Heap) (n0 : Nat) (Z0 : n0 ≤ h0.size) (F_reachedFrom_o_PENDING : Fld Z h0 o_PENDING "com/example/rialto/rialto/core/movement/WithdrawalStatus" "reachedFrom" "Lcom/example/rialto/rialto/core/movement/WithdrawalStatus;" .null) (F_reachedFrom_o_FAILED : Fld Z h0 o_FAILED "com/example/rialto/rialto/core/movement/WithdrawalStatus" "reachedFrom" "Lcom/example/rialto/rialto/core/movement/WithdrawalStatus;" (.ref o_PENDING)) (F_reachedFrom_o_SUCCEEDED : Fld Z h0 o_SUCCEEDED "com/example/rialto/rialto/core/movement/WithdrawalStatus" "reachedFrom" "Lcom/example/rialto/rialto/core/movement/WithdrawalStatus;" (.ref o_PENDING)) (F_reachedFrom_o_RETURNED : Fld Z h0 o_RETURNED "com/example/rialto/rialto/core/movement/WithdrawalStatus" "reachedFrom" "Lcom/example/rialto/rialto/core/movement/WithdrawalStatus;" (.ref o_SUCCEEDED)) (ne_o_PENDING_o_RETURNED : o_PENDING ≠ o_RETURNED) (ne_o_PENDING_o_FAILED : o_PENDING ≠ o_FAILED) (ne_o_PENDING_o_SUCCEEDED : o_PENDING ≠ o_SUCCEEDED) (ne_o_RETURNED_o_FAILED : o_RETURNED ≠ o_FAILED) (ne_o_RETURNED_o_SUCCEEDED : o_RETURNED ≠ o_SUCCEEDED) (ne_o_FAILED_o_SUCCEEDED : o_FAILED ≠ o_SUCCEEDED) :
    MetFree l (⟨"com/example/rialto/rialto/core/movement/WithdrawalStatus", "hasBeen", "(Lcom/example/rialto/rialto/core/movement/WithdrawalStatus;)Z"⟩ : MethodName) (head1 (Jvm.Cond.code (⟨"com/example/rialto/rialto/core/movement/WithdrawalStatus", "hasBeen", "(Lcom/example/rialto/rialto/core/movement/WithdrawalStatus;)Z"⟩ : MethodName) prog_52_method_5_code 4 (some .boolean) :: ws) ({ frames := 0, cells := 0, slots := 0, locals := 0 } : Room)) (fun a U => a = #[(.ref o_FAILED), (.ref o_RETURNED)] ∧ Z.Warmed39 U.vm ∧ U.heap = h0) (fun _ _ _ _ _ => True) (fun _ U o U' => ∃ v L, o = .returned v ∧ Q2_23 Z o_FAILED o_RETURNED o_PENDING o_SUCCEEDED h0 n0 v U'.heap L ∧ FrameEnd U o U' L ({ frames := 0, cells := 0, slots := 0, locals := 0 } : Room).cells ({ frames := 0, cells := 0, slots := 0, locals := 0 } : Room).slots) := by
  refine MetFree.of_bodySF (plainFor_of_name pn_1) hisR ?_
  intro p e s m args below meth c s₁ Bd hml0 hP hK
  obtain ⟨rfl, hZ, hh⟩ := hP
  have hx := Bd.exec
  have hby := Bd.bytes
  have hml : c.maxLocals = 4 := hml0
  have hown : s.vm.findClass "com/example/rialto/rialto/core/movement/WithdrawalStatus" = some m.cls := findClass_of_methodNamed Bd.named
  have hnm := (name_of_methodNamed Bd.named Bd.method).1
  have X0 : Stand p l e ({ frames := 0, cells := 0, slots := 0, locals := 0 } : Room) s m #[(.ref o_FAILED), (.ref o_RETURNED)] below meth c s₁ [] 0 0 := Stand.of_body Bd
  have e0 : s₁.heap = h0 := by rw [← hh, Bd.state]; rfl
  have N0 := Fr.nil n0
  show GoalS p.tables e below s ({ frames := 0, cells := 0, slots := 0, locals := 0 } : Room).cells ({ frames := 0, cells := 0, slots := 0, locals := 0 } : Room).slots (Q2_23 Z o_FAILED o_RETURNED o_PENDING o_SUCCEEDED h0 n0) (s₁.setTop (entryFrame m #[(.ref o_FAILED), (.ref o_RETURNED)] 4))
  refine GoalS.lift (B := s₁.setTop (mkF m 0 #[.val (.ref o_FAILED), .val (.ref o_RETURNED), .unset, .unset] [])) (fun t k => castTop (ef_rm2_23 m o_FAILED o_RETURNED) k) ?_
  have K0 : Keep h0 h0 [] := Keep.refl _ _
  obtain ⟨T1, X1, e1, st1⟩ := getF X0 hx hZ hown (host := "") (Or.inl (hw _ (List.mem_of_getElem? (i := 14) rfl))) Via.refl e0 F_reachedFrom_o_FAILED (g := (mkF m 24 #[.val (.ref o_FAILED), .val (.ref o_RETURNED), .val (.int (0 : Int32)), .val (.ref o_FAILED)] [(.ref o_FAILED)])) rfl rfl (hb hby d2_24)
  obtain ⟨T2, X2, e2, st2⟩ := getF X1 hx hZ hown (host := "") (Or.inl (hw _ (List.mem_of_getElem? (i := 14) rfl))) Via.refl e1 F_reachedFrom_o_PENDING (g := (mkF m 24 #[.val (.ref o_FAILED), .val (.ref o_RETURNED), .val (.int (0 : Int32)), .val (.ref o_PENDING)] [(.ref o_PENDING)])) rfl rfl (hb hby d2_24)
  obtain ⟨fs, hr, hrun, hended, hW, hsame⟩ := X2.leave (v := some (.int (0 : Int32))) (fun h => by rw [Bd.returns] at h; cases h)
  refine ⟨_, _, ?_, hrun, hended, _, _, rfl, ?_, ⟨_, rfl⟩, hW, hsame.mono (by decide) (by decide)⟩
  · show Steps p.tables e below (s₁.setTop (mkF m 0 #[.val (.ref o_FAILED), .val (.ref o_RETURNED), .unset, .unset] [])) _
    refine XS.iconst X0.here hx rfl (hb hby d2_0) ?_
    show Steps p.tables e below (s₁.setTop (mkF m 1 #[.val (.ref o_FAILED), .val (.ref o_RETURNED), .unset, .unset] [(.int (0 : Int32))])) _
    refine XS.istoreN X0.here hx rfl (hb hby d2_1) rfl (l' := #[.val (.ref o_FAILED), .val (.ref o_RETURNED), .val (.int (0 : Int32)), .unset]) rfl ?_
    show Steps p.tables e below (s₁.setTop (mkF m 2 #[.val (.ref o_FAILED), .val (.ref o_RETURNED), .val (.int (0 : Int32)), .unset] [])) _
    refine XS.aloadN X0.here hx rfl (hb hby d2_2) rfl rfl ?_
    show Steps p.tables e below (s₁.setTop (mkF m 3 #[.val (.ref o_FAILED), .val (.ref o_RETURNED), .val (.int (0 : Int32)), .unset] [(.ref o_FAILED)])) _
    refine XS.astoreN X0.here hx rfl (hb hby d2_3) rfl rfl (l' := #[.val (.ref o_FAILED), .val (.ref o_RETURNED), .val (.int (0 : Int32)), .val (.ref o_FAILED)]) rfl ?_
    show Steps p.tables e below (s₁.setTop (mkF m 4 #[.val (.ref o_FAILED), .val (.ref o_RETURNED), .val (.int (0 : Int32)), .val (.ref o_FAILED)] [])) _
    refine XS.aloadN X0.here hx rfl (hb hby d2_4) rfl rfl ?_
    show Steps p.tables e below (s₁.setTop (mkF m 5 #[.val (.ref o_FAILED), .val (.ref o_RETURNED), .val (.int (0 : Int32)), .val (.ref o_FAILED)] [(.ref o_FAILED)])) _
    refine XS.ifnullNo X0.here hx rfl (hb hby d2_5) rfl ?_
    show Steps p.tables e below (s₁.setTop (mkF m 8 #[.val (.ref o_FAILED), .val (.ref o_RETURNED), .val (.int (0 : Int32)), .val (.ref o_FAILED)] [])) _
    refine XS.iloadN X0.here hx rfl (hb hby d2_8) rfl ?_
    show Steps p.tables e below (s₁.setTop (mkF m 9 #[.val (.ref o_FAILED), .val (.ref o_RETURNED), .val (.int (0 : Int32)), .val (.ref o_FAILED)] [(.int (0 : Int32))])) _
    refine XS.ifNo X0.here hx rfl (hb hby d2_9) rfl ((if0 _ _).trans (teq (by decide : (0 : Int32) = (0 : Int32))).2) ?_
    show Steps p.tables e below (s₁.setTop (mkF m 12 #[.val (.ref o_FAILED), .val (.ref o_RETURNED), .val (.int (0 : Int32)), .val (.ref o_FAILED)] [])) _
    refine XS.aloadN X0.here hx rfl (hb hby d2_12) rfl rfl ?_
    show Steps p.tables e below (s₁.setTop (mkF m 13 #[.val (.ref o_FAILED), .val (.ref o_RETURNED), .val (.int (0 : Int32)), .val (.ref o_FAILED)] [(.ref o_FAILED)])) _
    refine XS.aloadN X0.here hx rfl (hb hby d2_13) rfl rfl ?_
    show Steps p.tables e below (s₁.setTop (mkF m 14 #[.val (.ref o_FAILED), .val (.ref o_RETURNED), .val (.int (0 : Int32)), .val (.ref o_FAILED)] [(.ref o_RETURNED), (.ref o_FAILED)])) _
    refine Jvm.RoadKit.acmp (g := (mkF m 14 #[.val (.ref o_FAILED), .val (.ref o_RETURNED), .val (.int (0 : Int32)), .val (.ref o_FAILED)] [(.ref o_RETURNED), (.ref o_FAILED)])) X0 hx rfl rfl rfl (pc0 := 14) (pc' := 21) (same := false) rfl (hb hby d2_14) rfl (decide_eq_false fun q => (Ne.symm ne_o_RETURNED_o_FAILED) (Value.ref.inj q)) (by decide) (by decide) ?_
    show Steps p.tables e below (s₁.setTop (mkF m 21 #[.val (.ref o_FAILED), .val (.ref o_RETURNED), .val (.int (0 : Int32)), .val (.ref o_FAILED)] [])) _
    refine XS.iconst X0.here hx rfl (hb hby d2_21) ?_
    show Steps p.tables e below (s₁.setTop (mkF m 22 #[.val (.ref o_FAILED), .val (.ref o_RETURNED), .val (.int (0 : Int32)), .val (.ref o_FAILED)] [(.int (0 : Int32))])) _
    refine XS.istoreN X0.here hx rfl (hb hby d2_22) rfl (l' := #[.val (.ref o_FAILED), .val (.ref o_RETURNED), .val (.int (0 : Int32)), .val (.ref o_FAILED)]) rfl ?_
    show Steps p.tables e below (s₁.setTop (mkF m 23 #[.val (.ref o_FAILED), .val (.ref o_RETURNED), .val (.int (0 : Int32)), .val (.ref o_FAILED)] [])) _
    refine XS.aloadN X0.here hx rfl (hb hby d2_23) rfl rfl ?_
    show Steps p.tables e below (s₁.setTop (mkF m 24 #[.val (.ref o_FAILED), .val (.ref o_RETURNED), .val (.int (0 : Int32)), .val (.ref o_FAILED)] [(.ref o_FAILED)])) _
    refine st1 _ ?_
    show Steps p.tables e below (T1.setTop (mkF m 27 #[.val (.ref o_FAILED), .val (.ref o_RETURNED), .val (.int (0 : Int32)), .val (.ref o_FAILED)] [(.ref o_PENDING)])) _
    refine XS.astoreN X1.here hx rfl (hb hby d2_27) rfl rfl (l' := #[.val (.ref o_FAILED), .val (.ref o_RETURNED), .val (.int (0 : Int32)), .val (.ref o_PENDING)]) rfl ?_
    show Steps p.tables e below (T1.setTop (mkF m 28 #[.val (.ref o_FAILED), .val (.ref o_RETURNED), .val (.int (0 : Int32)), .val (.ref o_PENDING)] [])) _
    refine XS.goto X1.here hx rfl (pc0 := 28) (pc' := 4) rfl (hb hby d2_28) (by decide) (by decide) ?_
    show Steps p.tables e below (T1.setTop (mkF m 4 #[.val (.ref o_FAILED), .val (.ref o_RETURNED), .val (.int (0 : Int32)), .val (.ref o_PENDING)] [])) _
    refine XS.aloadN X1.here hx rfl (hb hby d2_4) rfl rfl ?_
    show Steps p.tables e below (T1.setTop (mkF m 5 #[.val (.ref o_FAILED), .val (.ref o_RETURNED), .val (.int (0 : Int32)), .val (.ref o_PENDING)] [(.ref o_PENDING)])) _
    refine XS.ifnullNo X1.here hx rfl (hb hby d2_5) rfl ?_
    show Steps p.tables e below (T1.setTop (mkF m 8 #[.val (.ref o_FAILED), .val (.ref o_RETURNED), .val (.int (0 : Int32)), .val (.ref o_PENDING)] [])) _
    refine XS.iloadN X1.here hx rfl (hb hby d2_8) rfl ?_
    show Steps p.tables e below (T1.setTop (mkF m 9 #[.val (.ref o_FAILED), .val (.ref o_RETURNED), .val (.int (0 : Int32)), .val (.ref o_PENDING)] [(.int (0 : Int32))])) _
    refine XS.ifNo X1.here hx rfl (hb hby d2_9) rfl ((if0 _ _).trans (teq (by decide : (0 : Int32) = (0 : Int32))).2) ?_
    show Steps p.tables e below (T1.setTop (mkF m 12 #[.val (.ref o_FAILED), .val (.ref o_RETURNED), .val (.int (0 : Int32)), .val (.ref o_PENDING)] [])) _
    refine XS.aloadN X1.here hx rfl (hb hby d2_12) rfl rfl ?_
    show Steps p.tables e below (T1.setTop (mkF m 13 #[.val (.ref o_FAILED), .val (.ref o_RETURNED), .val (.int (0 : Int32)), .val (.ref o_PENDING)] [(.ref o_PENDING)])) _
    refine XS.aloadN X1.here hx rfl (hb hby d2_13) rfl rfl ?_
    show Steps p.tables e below (T1.setTop (mkF m 14 #[.val (.ref o_FAILED), .val (.ref o_RETURNED), .val (.int (0 : Int32)), .val (.ref o_PENDING)] [(.ref o_RETURNED), (.ref o_PENDING)])) _
    refine Jvm.RoadKit.acmp (g := (mkF m 14 #[.val (.ref o_FAILED), .val (.ref o_RETURNED), .val (.int (0 : Int32)), .val (.ref o_PENDING)] [(.ref o_RETURNED), (.ref o_PENDING)])) X1 hx rfl rfl rfl (pc0 := 14) (pc' := 21) (same := false) rfl (hb hby d2_14) rfl (decide_eq_false fun q => ne_o_PENDING_o_RETURNED (Value.ref.inj q)) (by decide) (by decide) ?_
    show Steps p.tables e below (T1.setTop (mkF m 21 #[.val (.ref o_FAILED), .val (.ref o_RETURNED), .val (.int (0 : Int32)), .val (.ref o_PENDING)] [])) _
    refine XS.iconst X1.here hx rfl (hb hby d2_21) ?_
    show Steps p.tables e below (T1.setTop (mkF m 22 #[.val (.ref o_FAILED), .val (.ref o_RETURNED), .val (.int (0 : Int32)), .val (.ref o_PENDING)] [(.int (0 : Int32))])) _
    refine XS.istoreN X1.here hx rfl (hb hby d2_22) rfl (l' := #[.val (.ref o_FAILED), .val (.ref o_RETURNED), .val (.int (0 : Int32)), .val (.ref o_PENDING)]) rfl ?_
    show Steps p.tables e below (T1.setTop (mkF m 23 #[.val (.ref o_FAILED), .val (.ref o_RETURNED), .val (.int (0 : Int32)), .val (.ref o_PENDING)] [])) _
    refine XS.aloadN X1.here hx rfl (hb hby d2_23) rfl rfl ?_
    show Steps p.tables e below (T1.setTop (mkF m 24 #[.val (.ref o_FAILED), .val (.ref o_RETURNED), .val (.int (0 : Int32)), .val (.ref o_PENDING)] [(.ref o_PENDING)])) _
    refine st2 _ ?_
    show Steps p.tables e below (T2.setTop (mkF m 27 #[.val (.ref o_FAILED), .val (.ref o_RETURNED), .val (.int (0 : Int32)), .val (.ref o_PENDING)] [.null])) _
    refine XS.astoreN X2.here hx rfl (hb hby d2_27) rfl rfl (l' := #[.val (.ref o_FAILED), .val (.ref o_RETURNED), .val (.int (0 : Int32)), .val .null]) rfl ?_
    show Steps p.tables e below (T2.setTop (mkF m 28 #[.val (.ref o_FAILED), .val (.ref o_RETURNED), .val (.int (0 : Int32)), .val .null] [])) _
    refine XS.goto X2.here hx rfl (pc0 := 28) (pc' := 4) rfl (hb hby d2_28) (by decide) (by decide) ?_
    show Steps p.tables e below (T2.setTop (mkF m 4 #[.val (.ref o_FAILED), .val (.ref o_RETURNED), .val (.int (0 : Int32)), .val .null] [])) _
    refine XS.aloadN X2.here hx rfl (hb hby d2_4) rfl rfl ?_
    show Steps p.tables e below (T2.setTop (mkF m 5 #[.val (.ref o_FAILED), .val (.ref o_RETURNED), .val (.int (0 : Int32)), .val .null] [.null])) _
    refine XS.ifnullYes X2.here hx rfl (pc0 := 5) (pc' := 31) rfl (hb hby d2_5) rfl (by decide) (by decide) ?_
    show Steps p.tables e below (T2.setTop (mkF m 31 #[.val (.ref o_FAILED), .val (.ref o_RETURNED), .val (.int (0 : Int32)), .val .null] [])) _
    refine XS.iloadN X2.here hx rfl (hb hby d2_31) rfl ?_
    show Steps p.tables e below (T2.setTop (mkF m 32 #[.val (.ref o_FAILED), .val (.ref o_RETURNED), .val (.int (0 : Int32)), .val .null] [(.int (0 : Int32))])) _
    exact retN X2 hx (t := .boolean) Bd.returns (by simp) (hb hby d2_32) hr
  · show Q2_23 Z o_FAILED o_RETURNED o_PENDING o_SUCCEEDED h0 n0 _ T2.heap _
    exact ⟨_, rfl, (by rfl), N0, e2⟩
theorem ef_rm2_30 (m : MethodId) (o_RETURNED : Addr) (o_PENDING : Addr) : entryFrame m #[(.ref o_RETURNED), (.ref o_PENDING)] 4 = mkF m 0 #[.val (.ref o_RETURNED), .val (.ref o_PENDING), .unset, .unset] [] := by first | (simp [entryFrame, mkF, argsToLocals, Value.category]; done) | rfl
def Q2_30 (Z : State) (o_RETURNED : Addr) (o_PENDING : Addr) (o_FAILED : Addr) (o_SUCCEEDED : Addr) (h0 : Heap) (n0 : Nat) (v : Option Value) (h : Heap) (L : List Loc) : Prop := ∃ r : Int32, v = some (.int r) ∧ r = (1 : Int32) ∧ Fr n0 L ∧ h = h0
set_option maxRecDepth 65536 in
set_option maxHeartbeats 40000000 in
theorem rm2_30 (l : Launch) (Z : State) (a0 : Array Value) (hw : ∀ d ∈ tables_1, d.before a0 Z = true) (ws : List Jvm.Cond) (o_RETURNED : Addr) (o_PENDING : Addr) (o_FAILED : Addr) (o_SUCCEEDED : Addr) (h0 : Heap) (n0 : Nat) (Z0 : n0 ≤ h0.size) (F_reachedFrom_o_PENDING : Fld Z h0 o_PENDING "com/example/rialto/rialto/core/movement/WithdrawalStatus" "reachedFrom" "Lcom/example/rialto/rialto/core/movement/WithdrawalStatus;" .null) (F_reachedFrom_o_FAILED : Fld Z h0 o_FAILED "com/example/rialto/rialto/core/movement/WithdrawalStatus" "reachedFrom" "Lcom/example/rialto/rialto/core/movement/WithdrawalStatus;" (.ref o_PENDING)) (F_reachedFrom_o_SUCCEEDED : Fld Z h0 o_SUCCEEDED "com/example/rialto/rialto/core/movement/WithdrawalStatus" "reachedFrom" "Lcom/example/rialto/rialto/core/movement/WithdrawalStatus;" (.ref o_PENDING)) (F_reachedFrom_o_RETURNED : Fld Z h0 o_RETURNED "com/example/rialto/rialto/core/movement/WithdrawalStatus" "reachedFrom" "Lcom/example/rialto/rialto/core/movement/WithdrawalStatus;" (.ref o_SUCCEEDED)) (ne_o_PENDING_o_RETURNED : o_PENDING ≠ o_RETURNED) (ne_o_PENDING_o_FAILED : o_PENDING ≠ o_FAILED) (ne_o_PENDING_o_SUCCEEDED : o_PENDING ≠ o_SUCCEEDED) (ne_o_RETURNED_o_FAILED : o_RETURNED ≠ o_FAILED) (ne_o_RETURNED_o_SUCCEEDED : o_RETURNED ≠ o_SUCCEEDED) (ne_o_FAILED_o_SUCCEEDED : o_FAILED ≠ o_SUCCEEDED) :
    MetFree l (⟨"com/example/rialto/rialto/core/movement/WithdrawalStatus", "hasBeen", "(Lcom/example/rialto/rialto/core/movement/WithdrawalStatus;)Z"⟩ : MethodName) (head1 (Jvm.Cond.code (⟨"com/example/rialto/rialto/core/movement/WithdrawalStatus", "hasBeen", "(Lcom/example/rialto/rialto/core/movement/WithdrawalStatus;)Z"⟩ : MethodName) prog_52_method_5_code 4 (some .boolean) :: ws) ({ frames := 0, cells := 0, slots := 0, locals := 0 } : Room)) (fun a U => a = #[(.ref o_RETURNED), (.ref o_PENDING)] ∧ Z.Warmed39 U.vm ∧ U.heap = h0) (fun _ _ _ _ _ => True) (fun _ U o U' => ∃ v L, o = .returned v ∧ Q2_30 Z o_RETURNED o_PENDING o_FAILED o_SUCCEEDED h0 n0 v U'.heap L ∧ FrameEnd U o U' L ({ frames := 0, cells := 0, slots := 0, locals := 0 } : Room).cells ({ frames := 0, cells := 0, slots := 0, locals := 0 } : Room).slots) := by
  refine MetFree.of_bodySF (plainFor_of_name pn_1) hisR ?_
  intro p e s m args below meth c s₁ Bd hml0 hP hK
  obtain ⟨rfl, hZ, hh⟩ := hP
  have hx := Bd.exec
  have hby := Bd.bytes
  have hml : c.maxLocals = 4 := hml0
  have hown : s.vm.findClass "com/example/rialto/rialto/core/movement/WithdrawalStatus" = some m.cls := findClass_of_methodNamed Bd.named
  have hnm := (name_of_methodNamed Bd.named Bd.method).1
  have X0 : Stand p l e ({ frames := 0, cells := 0, slots := 0, locals := 0 } : Room) s m #[(.ref o_RETURNED), (.ref o_PENDING)] below meth c s₁ [] 0 0 := Stand.of_body Bd
  have e0 : s₁.heap = h0 := by rw [← hh, Bd.state]; rfl
  have N0 := Fr.nil n0
  show GoalS p.tables e below s ({ frames := 0, cells := 0, slots := 0, locals := 0 } : Room).cells ({ frames := 0, cells := 0, slots := 0, locals := 0 } : Room).slots (Q2_30 Z o_RETURNED o_PENDING o_FAILED o_SUCCEEDED h0 n0) (s₁.setTop (entryFrame m #[(.ref o_RETURNED), (.ref o_PENDING)] 4))
  refine GoalS.lift (B := s₁.setTop (mkF m 0 #[.val (.ref o_RETURNED), .val (.ref o_PENDING), .unset, .unset] [])) (fun t k => castTop (ef_rm2_30 m o_RETURNED o_PENDING) k) ?_
  have K0 : Keep h0 h0 [] := Keep.refl _ _
  obtain ⟨T1, X1, e1, st1⟩ := getF X0 hx hZ hown (host := "") (Or.inl (hw _ (List.mem_of_getElem? (i := 14) rfl))) Via.refl e0 F_reachedFrom_o_RETURNED (g := (mkF m 24 #[.val (.ref o_RETURNED), .val (.ref o_PENDING), .val (.int (0 : Int32)), .val (.ref o_RETURNED)] [(.ref o_RETURNED)])) rfl rfl (hb hby d2_24)
  obtain ⟨T2, X2, e2, st2⟩ := getF X1 hx hZ hown (host := "") (Or.inl (hw _ (List.mem_of_getElem? (i := 14) rfl))) Via.refl e1 F_reachedFrom_o_SUCCEEDED (g := (mkF m 24 #[.val (.ref o_RETURNED), .val (.ref o_PENDING), .val (.int (0 : Int32)), .val (.ref o_SUCCEEDED)] [(.ref o_SUCCEEDED)])) rfl rfl (hb hby d2_24)
  obtain ⟨T3, X3, e3, st3⟩ := getF X2 hx hZ hown (host := "") (Or.inl (hw _ (List.mem_of_getElem? (i := 14) rfl))) Via.refl e2 F_reachedFrom_o_PENDING (g := (mkF m 24 #[.val (.ref o_RETURNED), .val (.ref o_PENDING), .val (.int (1 : Int32)), .val (.ref o_PENDING)] [(.ref o_PENDING)])) rfl rfl (hb hby d2_24)
  obtain ⟨fs, hr, hrun, hended, hW, hsame⟩ := X3.leave (v := some (.int (1 : Int32))) (fun h => by rw [Bd.returns] at h; cases h)
  refine ⟨_, _, ?_, hrun, hended, _, _, rfl, ?_, ⟨_, rfl⟩, hW, hsame.mono (by decide) (by decide)⟩
  · show Steps p.tables e below (s₁.setTop (mkF m 0 #[.val (.ref o_RETURNED), .val (.ref o_PENDING), .unset, .unset] [])) _
    refine XS.iconst X0.here hx rfl (hb hby d2_0) ?_
    show Steps p.tables e below (s₁.setTop (mkF m 1 #[.val (.ref o_RETURNED), .val (.ref o_PENDING), .unset, .unset] [(.int (0 : Int32))])) _
    refine XS.istoreN X0.here hx rfl (hb hby d2_1) rfl (l' := #[.val (.ref o_RETURNED), .val (.ref o_PENDING), .val (.int (0 : Int32)), .unset]) rfl ?_
    show Steps p.tables e below (s₁.setTop (mkF m 2 #[.val (.ref o_RETURNED), .val (.ref o_PENDING), .val (.int (0 : Int32)), .unset] [])) _
    refine XS.aloadN X0.here hx rfl (hb hby d2_2) rfl rfl ?_
    show Steps p.tables e below (s₁.setTop (mkF m 3 #[.val (.ref o_RETURNED), .val (.ref o_PENDING), .val (.int (0 : Int32)), .unset] [(.ref o_RETURNED)])) _
    refine XS.astoreN X0.here hx rfl (hb hby d2_3) rfl rfl (l' := #[.val (.ref o_RETURNED), .val (.ref o_PENDING), .val (.int (0 : Int32)), .val (.ref o_RETURNED)]) rfl ?_
    show Steps p.tables e below (s₁.setTop (mkF m 4 #[.val (.ref o_RETURNED), .val (.ref o_PENDING), .val (.int (0 : Int32)), .val (.ref o_RETURNED)] [])) _
    refine XS.aloadN X0.here hx rfl (hb hby d2_4) rfl rfl ?_
    show Steps p.tables e below (s₁.setTop (mkF m 5 #[.val (.ref o_RETURNED), .val (.ref o_PENDING), .val (.int (0 : Int32)), .val (.ref o_RETURNED)] [(.ref o_RETURNED)])) _
    refine XS.ifnullNo X0.here hx rfl (hb hby d2_5) rfl ?_
    show Steps p.tables e below (s₁.setTop (mkF m 8 #[.val (.ref o_RETURNED), .val (.ref o_PENDING), .val (.int (0 : Int32)), .val (.ref o_RETURNED)] [])) _
    refine XS.iloadN X0.here hx rfl (hb hby d2_8) rfl ?_
    show Steps p.tables e below (s₁.setTop (mkF m 9 #[.val (.ref o_RETURNED), .val (.ref o_PENDING), .val (.int (0 : Int32)), .val (.ref o_RETURNED)] [(.int (0 : Int32))])) _
    refine XS.ifNo X0.here hx rfl (hb hby d2_9) rfl ((if0 _ _).trans (teq (by decide : (0 : Int32) = (0 : Int32))).2) ?_
    show Steps p.tables e below (s₁.setTop (mkF m 12 #[.val (.ref o_RETURNED), .val (.ref o_PENDING), .val (.int (0 : Int32)), .val (.ref o_RETURNED)] [])) _
    refine XS.aloadN X0.here hx rfl (hb hby d2_12) rfl rfl ?_
    show Steps p.tables e below (s₁.setTop (mkF m 13 #[.val (.ref o_RETURNED), .val (.ref o_PENDING), .val (.int (0 : Int32)), .val (.ref o_RETURNED)] [(.ref o_RETURNED)])) _
    refine XS.aloadN X0.here hx rfl (hb hby d2_13) rfl rfl ?_
    show Steps p.tables e below (s₁.setTop (mkF m 14 #[.val (.ref o_RETURNED), .val (.ref o_PENDING), .val (.int (0 : Int32)), .val (.ref o_RETURNED)] [(.ref o_PENDING), (.ref o_RETURNED)])) _
    refine Jvm.RoadKit.acmp (g := (mkF m 14 #[.val (.ref o_RETURNED), .val (.ref o_PENDING), .val (.int (0 : Int32)), .val (.ref o_RETURNED)] [(.ref o_PENDING), (.ref o_RETURNED)])) X0 hx rfl rfl rfl (pc0 := 14) (pc' := 21) (same := false) rfl (hb hby d2_14) rfl (decide_eq_false fun q => (Ne.symm ne_o_PENDING_o_RETURNED) (Value.ref.inj q)) (by decide) (by decide) ?_
    show Steps p.tables e below (s₁.setTop (mkF m 21 #[.val (.ref o_RETURNED), .val (.ref o_PENDING), .val (.int (0 : Int32)), .val (.ref o_RETURNED)] [])) _
    refine XS.iconst X0.here hx rfl (hb hby d2_21) ?_
    show Steps p.tables e below (s₁.setTop (mkF m 22 #[.val (.ref o_RETURNED), .val (.ref o_PENDING), .val (.int (0 : Int32)), .val (.ref o_RETURNED)] [(.int (0 : Int32))])) _
    refine XS.istoreN X0.here hx rfl (hb hby d2_22) rfl (l' := #[.val (.ref o_RETURNED), .val (.ref o_PENDING), .val (.int (0 : Int32)), .val (.ref o_RETURNED)]) rfl ?_
    show Steps p.tables e below (s₁.setTop (mkF m 23 #[.val (.ref o_RETURNED), .val (.ref o_PENDING), .val (.int (0 : Int32)), .val (.ref o_RETURNED)] [])) _
    refine XS.aloadN X0.here hx rfl (hb hby d2_23) rfl rfl ?_
    show Steps p.tables e below (s₁.setTop (mkF m 24 #[.val (.ref o_RETURNED), .val (.ref o_PENDING), .val (.int (0 : Int32)), .val (.ref o_RETURNED)] [(.ref o_RETURNED)])) _
    refine st1 _ ?_
    show Steps p.tables e below (T1.setTop (mkF m 27 #[.val (.ref o_RETURNED), .val (.ref o_PENDING), .val (.int (0 : Int32)), .val (.ref o_RETURNED)] [(.ref o_SUCCEEDED)])) _
    refine XS.astoreN X1.here hx rfl (hb hby d2_27) rfl rfl (l' := #[.val (.ref o_RETURNED), .val (.ref o_PENDING), .val (.int (0 : Int32)), .val (.ref o_SUCCEEDED)]) rfl ?_
    show Steps p.tables e below (T1.setTop (mkF m 28 #[.val (.ref o_RETURNED), .val (.ref o_PENDING), .val (.int (0 : Int32)), .val (.ref o_SUCCEEDED)] [])) _
    refine XS.goto X1.here hx rfl (pc0 := 28) (pc' := 4) rfl (hb hby d2_28) (by decide) (by decide) ?_
    show Steps p.tables e below (T1.setTop (mkF m 4 #[.val (.ref o_RETURNED), .val (.ref o_PENDING), .val (.int (0 : Int32)), .val (.ref o_SUCCEEDED)] [])) _
    refine XS.aloadN X1.here hx rfl (hb hby d2_4) rfl rfl ?_
    show Steps p.tables e below (T1.setTop (mkF m 5 #[.val (.ref o_RETURNED), .val (.ref o_PENDING), .val (.int (0 : Int32)), .val (.ref o_SUCCEEDED)] [(.ref o_SUCCEEDED)])) _
    refine XS.ifnullNo X1.here hx rfl (hb hby d2_5) rfl ?_
    show Steps p.tables e below (T1.setTop (mkF m 8 #[.val (.ref o_RETURNED), .val (.ref o_PENDING), .val (.int (0 : Int32)), .val (.ref o_SUCCEEDED)] [])) _
    refine XS.iloadN X1.here hx rfl (hb hby d2_8) rfl ?_
    show Steps p.tables e below (T1.setTop (mkF m 9 #[.val (.ref o_RETURNED), .val (.ref o_PENDING), .val (.int (0 : Int32)), .val (.ref o_SUCCEEDED)] [(.int (0 : Int32))])) _
    refine XS.ifNo X1.here hx rfl (hb hby d2_9) rfl ((if0 _ _).trans (teq (by decide : (0 : Int32) = (0 : Int32))).2) ?_
    show Steps p.tables e below (T1.setTop (mkF m 12 #[.val (.ref o_RETURNED), .val (.ref o_PENDING), .val (.int (0 : Int32)), .val (.ref o_SUCCEEDED)] [])) _
    refine XS.aloadN X1.here hx rfl (hb hby d2_12) rfl rfl ?_
    show Steps p.tables e below (T1.setTop (mkF m 13 #[.val (.ref o_RETURNED), .val (.ref o_PENDING), .val (.int (0 : Int32)), .val (.ref o_SUCCEEDED)] [(.ref o_SUCCEEDED)])) _
    refine XS.aloadN X1.here hx rfl (hb hby d2_13) rfl rfl ?_
    show Steps p.tables e below (T1.setTop (mkF m 14 #[.val (.ref o_RETURNED), .val (.ref o_PENDING), .val (.int (0 : Int32)), .val (.ref o_SUCCEEDED)] [(.ref o_PENDING), (.ref o_SUCCEEDED)])) _
    refine Jvm.RoadKit.acmp (g := (mkF m 14 #[.val (.ref o_RETURNED), .val (.ref o_PENDING), .val (.int (0 : Int32)), .val (.ref o_SUCCEEDED)] [(.ref o_PENDING), (.ref o_SUCCEEDED)])) X1 hx rfl rfl rfl (pc0 := 14) (pc' := 21) (same := false) rfl (hb hby d2_14) rfl (decide_eq_false fun q => (Ne.symm ne_o_PENDING_o_SUCCEEDED) (Value.ref.inj q)) (by decide) (by decide) ?_
    show Steps p.tables e below (T1.setTop (mkF m 21 #[.val (.ref o_RETURNED), .val (.ref o_PENDING), .val (.int (0 : Int32)), .val (.ref o_SUCCEEDED)] [])) _
    refine XS.iconst X1.here hx rfl (hb hby d2_21) ?_
    show Steps p.tables e below (T1.setTop (mkF m 22 #[.val (.ref o_RETURNED), .val (.ref o_PENDING), .val (.int (0 : Int32)), .val (.ref o_SUCCEEDED)] [(.int (0 : Int32))])) _
    refine XS.istoreN X1.here hx rfl (hb hby d2_22) rfl (l' := #[.val (.ref o_RETURNED), .val (.ref o_PENDING), .val (.int (0 : Int32)), .val (.ref o_SUCCEEDED)]) rfl ?_
    show Steps p.tables e below (T1.setTop (mkF m 23 #[.val (.ref o_RETURNED), .val (.ref o_PENDING), .val (.int (0 : Int32)), .val (.ref o_SUCCEEDED)] [])) _
    refine XS.aloadN X1.here hx rfl (hb hby d2_23) rfl rfl ?_
    show Steps p.tables e below (T1.setTop (mkF m 24 #[.val (.ref o_RETURNED), .val (.ref o_PENDING), .val (.int (0 : Int32)), .val (.ref o_SUCCEEDED)] [(.ref o_SUCCEEDED)])) _
    refine st2 _ ?_
    show Steps p.tables e below (T2.setTop (mkF m 27 #[.val (.ref o_RETURNED), .val (.ref o_PENDING), .val (.int (0 : Int32)), .val (.ref o_SUCCEEDED)] [(.ref o_PENDING)])) _
    refine XS.astoreN X2.here hx rfl (hb hby d2_27) rfl rfl (l' := #[.val (.ref o_RETURNED), .val (.ref o_PENDING), .val (.int (0 : Int32)), .val (.ref o_PENDING)]) rfl ?_
    show Steps p.tables e below (T2.setTop (mkF m 28 #[.val (.ref o_RETURNED), .val (.ref o_PENDING), .val (.int (0 : Int32)), .val (.ref o_PENDING)] [])) _
    refine XS.goto X2.here hx rfl (pc0 := 28) (pc' := 4) rfl (hb hby d2_28) (by decide) (by decide) ?_
    show Steps p.tables e below (T2.setTop (mkF m 4 #[.val (.ref o_RETURNED), .val (.ref o_PENDING), .val (.int (0 : Int32)), .val (.ref o_PENDING)] [])) _
    refine XS.aloadN X2.here hx rfl (hb hby d2_4) rfl rfl ?_
    show Steps p.tables e below (T2.setTop (mkF m 5 #[.val (.ref o_RETURNED), .val (.ref o_PENDING), .val (.int (0 : Int32)), .val (.ref o_PENDING)] [(.ref o_PENDING)])) _
    refine XS.ifnullNo X2.here hx rfl (hb hby d2_5) rfl ?_
    show Steps p.tables e below (T2.setTop (mkF m 8 #[.val (.ref o_RETURNED), .val (.ref o_PENDING), .val (.int (0 : Int32)), .val (.ref o_PENDING)] [])) _
    refine XS.iloadN X2.here hx rfl (hb hby d2_8) rfl ?_
    show Steps p.tables e below (T2.setTop (mkF m 9 #[.val (.ref o_RETURNED), .val (.ref o_PENDING), .val (.int (0 : Int32)), .val (.ref o_PENDING)] [(.int (0 : Int32))])) _
    refine XS.ifNo X2.here hx rfl (hb hby d2_9) rfl ((if0 _ _).trans (teq (by decide : (0 : Int32) = (0 : Int32))).2) ?_
    show Steps p.tables e below (T2.setTop (mkF m 12 #[.val (.ref o_RETURNED), .val (.ref o_PENDING), .val (.int (0 : Int32)), .val (.ref o_PENDING)] [])) _
    refine XS.aloadN X2.here hx rfl (hb hby d2_12) rfl rfl ?_
    show Steps p.tables e below (T2.setTop (mkF m 13 #[.val (.ref o_RETURNED), .val (.ref o_PENDING), .val (.int (0 : Int32)), .val (.ref o_PENDING)] [(.ref o_PENDING)])) _
    refine XS.aloadN X2.here hx rfl (hb hby d2_13) rfl rfl ?_
    show Steps p.tables e below (T2.setTop (mkF m 14 #[.val (.ref o_RETURNED), .val (.ref o_PENDING), .val (.int (0 : Int32)), .val (.ref o_PENDING)] [(.ref o_PENDING), (.ref o_PENDING)])) _
    refine Jvm.RoadKit.acmp (g := (mkF m 14 #[.val (.ref o_RETURNED), .val (.ref o_PENDING), .val (.int (0 : Int32)), .val (.ref o_PENDING)] [(.ref o_PENDING), (.ref o_PENDING)])) X2 hx rfl rfl rfl (pc0 := 14) (pc' := 17) (same := true) rfl (hb hby d2_14) rfl (decide_eq_true rfl) (by decide) (by decide) ?_
    show Steps p.tables e below (T2.setTop (mkF m 17 #[.val (.ref o_RETURNED), .val (.ref o_PENDING), .val (.int (0 : Int32)), .val (.ref o_PENDING)] [])) _
    refine XS.iconst X2.here hx rfl (hb hby d2_17) ?_
    show Steps p.tables e below (T2.setTop (mkF m 18 #[.val (.ref o_RETURNED), .val (.ref o_PENDING), .val (.int (0 : Int32)), .val (.ref o_PENDING)] [(.int (1 : Int32))])) _
    refine XS.goto X2.here hx rfl (pc0 := 18) (pc' := 22) rfl (hb hby d2_18) (by decide) (by decide) ?_
    show Steps p.tables e below (T2.setTop (mkF m 22 #[.val (.ref o_RETURNED), .val (.ref o_PENDING), .val (.int (0 : Int32)), .val (.ref o_PENDING)] [(.int (1 : Int32))])) _
    refine XS.istoreN X2.here hx rfl (hb hby d2_22) rfl (l' := #[.val (.ref o_RETURNED), .val (.ref o_PENDING), .val (.int (1 : Int32)), .val (.ref o_PENDING)]) rfl ?_
    show Steps p.tables e below (T2.setTop (mkF m 23 #[.val (.ref o_RETURNED), .val (.ref o_PENDING), .val (.int (1 : Int32)), .val (.ref o_PENDING)] [])) _
    refine XS.aloadN X2.here hx rfl (hb hby d2_23) rfl rfl ?_
    show Steps p.tables e below (T2.setTop (mkF m 24 #[.val (.ref o_RETURNED), .val (.ref o_PENDING), .val (.int (1 : Int32)), .val (.ref o_PENDING)] [(.ref o_PENDING)])) _
    refine st3 _ ?_
    show Steps p.tables e below (T3.setTop (mkF m 27 #[.val (.ref o_RETURNED), .val (.ref o_PENDING), .val (.int (1 : Int32)), .val (.ref o_PENDING)] [.null])) _
    refine XS.astoreN X3.here hx rfl (hb hby d2_27) rfl rfl (l' := #[.val (.ref o_RETURNED), .val (.ref o_PENDING), .val (.int (1 : Int32)), .val .null]) rfl ?_
    show Steps p.tables e below (T3.setTop (mkF m 28 #[.val (.ref o_RETURNED), .val (.ref o_PENDING), .val (.int (1 : Int32)), .val .null] [])) _
    refine XS.goto X3.here hx rfl (pc0 := 28) (pc' := 4) rfl (hb hby d2_28) (by decide) (by decide) ?_
    show Steps p.tables e below (T3.setTop (mkF m 4 #[.val (.ref o_RETURNED), .val (.ref o_PENDING), .val (.int (1 : Int32)), .val .null] [])) _
    refine XS.aloadN X3.here hx rfl (hb hby d2_4) rfl rfl ?_
    show Steps p.tables e below (T3.setTop (mkF m 5 #[.val (.ref o_RETURNED), .val (.ref o_PENDING), .val (.int (1 : Int32)), .val .null] [.null])) _
    refine XS.ifnullYes X3.here hx rfl (pc0 := 5) (pc' := 31) rfl (hb hby d2_5) rfl (by decide) (by decide) ?_
    show Steps p.tables e below (T3.setTop (mkF m 31 #[.val (.ref o_RETURNED), .val (.ref o_PENDING), .val (.int (1 : Int32)), .val .null] [])) _
    refine XS.iloadN X3.here hx rfl (hb hby d2_31) rfl ?_
    show Steps p.tables e below (T3.setTop (mkF m 32 #[.val (.ref o_RETURNED), .val (.ref o_PENDING), .val (.int (1 : Int32)), .val .null] [(.int (1 : Int32))])) _
    exact retN X3 hx (t := .boolean) Bd.returns (by simp) (hb hby d2_32) hr
  · show Q2_30 Z o_RETURNED o_PENDING o_FAILED o_SUCCEEDED h0 n0 _ T3.heap _
    exact ⟨_, rfl, (by rfl), N0, e3⟩
theorem ef_rm2_31 (m : MethodId) (o_RETURNED : Addr) (o_SUCCEEDED : Addr) : entryFrame m #[(.ref o_RETURNED), (.ref o_SUCCEEDED)] 4 = mkF m 0 #[.val (.ref o_RETURNED), .val (.ref o_SUCCEEDED), .unset, .unset] [] := by first | (simp [entryFrame, mkF, argsToLocals, Value.category]; done) | rfl
def Q2_31 (Z : State) (o_RETURNED : Addr) (o_SUCCEEDED : Addr) (o_PENDING : Addr) (o_FAILED : Addr) (h0 : Heap) (n0 : Nat) (v : Option Value) (h : Heap) (L : List Loc) : Prop := ∃ r : Int32, v = some (.int r) ∧ r = (1 : Int32) ∧ Fr n0 L ∧ h = h0
set_option maxRecDepth 65536 in
set_option maxHeartbeats 40000000 in
theorem rm2_31 (l : Launch) (Z : State) (a0 : Array Value) (hw : ∀ d ∈ tables_1, d.before a0 Z = true) (ws : List Jvm.Cond) (o_RETURNED : Addr) (o_SUCCEEDED : Addr) (o_PENDING : Addr) (o_FAILED : Addr) (h0 : Heap) (n0 : Nat) (Z0 : n0 ≤ h0.size) (F_reachedFrom_o_PENDING : Fld Z h0 o_PENDING "com/example/rialto/rialto/core/movement/WithdrawalStatus" "reachedFrom" "Lcom/example/rialto/rialto/core/movement/WithdrawalStatus;" .null) (F_reachedFrom_o_FAILED : Fld Z h0 o_FAILED "com/example/rialto/rialto/core/movement/WithdrawalStatus" "reachedFrom" "Lcom/example/rialto/rialto/core/movement/WithdrawalStatus;" (.ref o_PENDING)) (F_reachedFrom_o_SUCCEEDED : Fld Z h0 o_SUCCEEDED "com/example/rialto/rialto/core/movement/WithdrawalStatus" "reachedFrom" "Lcom/example/rialto/rialto/core/movement/WithdrawalStatus;" (.ref o_PENDING)) (F_reachedFrom_o_RETURNED : Fld Z h0 o_RETURNED "com/example/rialto/rialto/core/movement/WithdrawalStatus" "reachedFrom" "Lcom/example/rialto/rialto/core/movement/WithdrawalStatus;" (.ref o_SUCCEEDED)) (ne_o_PENDING_o_RETURNED : o_PENDING ≠ o_RETURNED) (ne_o_PENDING_o_FAILED : o_PENDING ≠ o_FAILED) (ne_o_PENDING_o_SUCCEEDED : o_PENDING ≠ o_SUCCEEDED) (ne_o_RETURNED_o_FAILED : o_RETURNED ≠ o_FAILED) (ne_o_RETURNED_o_SUCCEEDED : o_RETURNED ≠ o_SUCCEEDED) (ne_o_FAILED_o_SUCCEEDED : o_FAILED ≠ o_SUCCEEDED) :
    MetFree l (⟨"com/example/rialto/rialto/core/movement/WithdrawalStatus", "hasBeen", "(Lcom/example/rialto/rialto/core/movement/WithdrawalStatus;)Z"⟩ : MethodName) (head1 (Jvm.Cond.code (⟨"com/example/rialto/rialto/core/movement/WithdrawalStatus", "hasBeen", "(Lcom/example/rialto/rialto/core/movement/WithdrawalStatus;)Z"⟩ : MethodName) prog_52_method_5_code 4 (some .boolean) :: ws) ({ frames := 0, cells := 0, slots := 0, locals := 0 } : Room)) (fun a U => a = #[(.ref o_RETURNED), (.ref o_SUCCEEDED)] ∧ Z.Warmed39 U.vm ∧ U.heap = h0) (fun _ _ _ _ _ => True) (fun _ U o U' => ∃ v L, o = .returned v ∧ Q2_31 Z o_RETURNED o_SUCCEEDED o_PENDING o_FAILED h0 n0 v U'.heap L ∧ FrameEnd U o U' L ({ frames := 0, cells := 0, slots := 0, locals := 0 } : Room).cells ({ frames := 0, cells := 0, slots := 0, locals := 0 } : Room).slots) := by
  refine MetFree.of_bodySF (plainFor_of_name pn_1) hisR ?_
  intro p e s m args below meth c s₁ Bd hml0 hP hK
  obtain ⟨rfl, hZ, hh⟩ := hP
  have hx := Bd.exec
  have hby := Bd.bytes
  have hml : c.maxLocals = 4 := hml0
  have hown : s.vm.findClass "com/example/rialto/rialto/core/movement/WithdrawalStatus" = some m.cls := findClass_of_methodNamed Bd.named
  have hnm := (name_of_methodNamed Bd.named Bd.method).1
  have X0 : Stand p l e ({ frames := 0, cells := 0, slots := 0, locals := 0 } : Room) s m #[(.ref o_RETURNED), (.ref o_SUCCEEDED)] below meth c s₁ [] 0 0 := Stand.of_body Bd
  have e0 : s₁.heap = h0 := by rw [← hh, Bd.state]; rfl
  have N0 := Fr.nil n0
  show GoalS p.tables e below s ({ frames := 0, cells := 0, slots := 0, locals := 0 } : Room).cells ({ frames := 0, cells := 0, slots := 0, locals := 0 } : Room).slots (Q2_31 Z o_RETURNED o_SUCCEEDED o_PENDING o_FAILED h0 n0) (s₁.setTop (entryFrame m #[(.ref o_RETURNED), (.ref o_SUCCEEDED)] 4))
  refine GoalS.lift (B := s₁.setTop (mkF m 0 #[.val (.ref o_RETURNED), .val (.ref o_SUCCEEDED), .unset, .unset] [])) (fun t k => castTop (ef_rm2_31 m o_RETURNED o_SUCCEEDED) k) ?_
  have K0 : Keep h0 h0 [] := Keep.refl _ _
  obtain ⟨T1, X1, e1, st1⟩ := getF X0 hx hZ hown (host := "") (Or.inl (hw _ (List.mem_of_getElem? (i := 14) rfl))) Via.refl e0 F_reachedFrom_o_RETURNED (g := (mkF m 24 #[.val (.ref o_RETURNED), .val (.ref o_SUCCEEDED), .val (.int (0 : Int32)), .val (.ref o_RETURNED)] [(.ref o_RETURNED)])) rfl rfl (hb hby d2_24)
  obtain ⟨T2, X2, e2, st2⟩ := getF X1 hx hZ hown (host := "") (Or.inl (hw _ (List.mem_of_getElem? (i := 14) rfl))) Via.refl e1 F_reachedFrom_o_SUCCEEDED (g := (mkF m 24 #[.val (.ref o_RETURNED), .val (.ref o_SUCCEEDED), .val (.int (1 : Int32)), .val (.ref o_SUCCEEDED)] [(.ref o_SUCCEEDED)])) rfl rfl (hb hby d2_24)
  obtain ⟨fs, hr, hrun, hended, hW, hsame⟩ := X2.leave (v := some (.int (1 : Int32))) (fun h => by rw [Bd.returns] at h; cases h)
  refine ⟨_, _, ?_, hrun, hended, _, _, rfl, ?_, ⟨_, rfl⟩, hW, hsame.mono (by decide) (by decide)⟩
  · show Steps p.tables e below (s₁.setTop (mkF m 0 #[.val (.ref o_RETURNED), .val (.ref o_SUCCEEDED), .unset, .unset] [])) _
    refine XS.iconst X0.here hx rfl (hb hby d2_0) ?_
    show Steps p.tables e below (s₁.setTop (mkF m 1 #[.val (.ref o_RETURNED), .val (.ref o_SUCCEEDED), .unset, .unset] [(.int (0 : Int32))])) _
    refine XS.istoreN X0.here hx rfl (hb hby d2_1) rfl (l' := #[.val (.ref o_RETURNED), .val (.ref o_SUCCEEDED), .val (.int (0 : Int32)), .unset]) rfl ?_
    show Steps p.tables e below (s₁.setTop (mkF m 2 #[.val (.ref o_RETURNED), .val (.ref o_SUCCEEDED), .val (.int (0 : Int32)), .unset] [])) _
    refine XS.aloadN X0.here hx rfl (hb hby d2_2) rfl rfl ?_
    show Steps p.tables e below (s₁.setTop (mkF m 3 #[.val (.ref o_RETURNED), .val (.ref o_SUCCEEDED), .val (.int (0 : Int32)), .unset] [(.ref o_RETURNED)])) _
    refine XS.astoreN X0.here hx rfl (hb hby d2_3) rfl rfl (l' := #[.val (.ref o_RETURNED), .val (.ref o_SUCCEEDED), .val (.int (0 : Int32)), .val (.ref o_RETURNED)]) rfl ?_
    show Steps p.tables e below (s₁.setTop (mkF m 4 #[.val (.ref o_RETURNED), .val (.ref o_SUCCEEDED), .val (.int (0 : Int32)), .val (.ref o_RETURNED)] [])) _
    refine XS.aloadN X0.here hx rfl (hb hby d2_4) rfl rfl ?_
    show Steps p.tables e below (s₁.setTop (mkF m 5 #[.val (.ref o_RETURNED), .val (.ref o_SUCCEEDED), .val (.int (0 : Int32)), .val (.ref o_RETURNED)] [(.ref o_RETURNED)])) _
    refine XS.ifnullNo X0.here hx rfl (hb hby d2_5) rfl ?_
    show Steps p.tables e below (s₁.setTop (mkF m 8 #[.val (.ref o_RETURNED), .val (.ref o_SUCCEEDED), .val (.int (0 : Int32)), .val (.ref o_RETURNED)] [])) _
    refine XS.iloadN X0.here hx rfl (hb hby d2_8) rfl ?_
    show Steps p.tables e below (s₁.setTop (mkF m 9 #[.val (.ref o_RETURNED), .val (.ref o_SUCCEEDED), .val (.int (0 : Int32)), .val (.ref o_RETURNED)] [(.int (0 : Int32))])) _
    refine XS.ifNo X0.here hx rfl (hb hby d2_9) rfl ((if0 _ _).trans (teq (by decide : (0 : Int32) = (0 : Int32))).2) ?_
    show Steps p.tables e below (s₁.setTop (mkF m 12 #[.val (.ref o_RETURNED), .val (.ref o_SUCCEEDED), .val (.int (0 : Int32)), .val (.ref o_RETURNED)] [])) _
    refine XS.aloadN X0.here hx rfl (hb hby d2_12) rfl rfl ?_
    show Steps p.tables e below (s₁.setTop (mkF m 13 #[.val (.ref o_RETURNED), .val (.ref o_SUCCEEDED), .val (.int (0 : Int32)), .val (.ref o_RETURNED)] [(.ref o_RETURNED)])) _
    refine XS.aloadN X0.here hx rfl (hb hby d2_13) rfl rfl ?_
    show Steps p.tables e below (s₁.setTop (mkF m 14 #[.val (.ref o_RETURNED), .val (.ref o_SUCCEEDED), .val (.int (0 : Int32)), .val (.ref o_RETURNED)] [(.ref o_SUCCEEDED), (.ref o_RETURNED)])) _
    refine Jvm.RoadKit.acmp (g := (mkF m 14 #[.val (.ref o_RETURNED), .val (.ref o_SUCCEEDED), .val (.int (0 : Int32)), .val (.ref o_RETURNED)] [(.ref o_SUCCEEDED), (.ref o_RETURNED)])) X0 hx rfl rfl rfl (pc0 := 14) (pc' := 21) (same := false) rfl (hb hby d2_14) rfl (decide_eq_false fun q => ne_o_RETURNED_o_SUCCEEDED (Value.ref.inj q)) (by decide) (by decide) ?_
    show Steps p.tables e below (s₁.setTop (mkF m 21 #[.val (.ref o_RETURNED), .val (.ref o_SUCCEEDED), .val (.int (0 : Int32)), .val (.ref o_RETURNED)] [])) _
    refine XS.iconst X0.here hx rfl (hb hby d2_21) ?_
    show Steps p.tables e below (s₁.setTop (mkF m 22 #[.val (.ref o_RETURNED), .val (.ref o_SUCCEEDED), .val (.int (0 : Int32)), .val (.ref o_RETURNED)] [(.int (0 : Int32))])) _
    refine XS.istoreN X0.here hx rfl (hb hby d2_22) rfl (l' := #[.val (.ref o_RETURNED), .val (.ref o_SUCCEEDED), .val (.int (0 : Int32)), .val (.ref o_RETURNED)]) rfl ?_
    show Steps p.tables e below (s₁.setTop (mkF m 23 #[.val (.ref o_RETURNED), .val (.ref o_SUCCEEDED), .val (.int (0 : Int32)), .val (.ref o_RETURNED)] [])) _
    refine XS.aloadN X0.here hx rfl (hb hby d2_23) rfl rfl ?_
    show Steps p.tables e below (s₁.setTop (mkF m 24 #[.val (.ref o_RETURNED), .val (.ref o_SUCCEEDED), .val (.int (0 : Int32)), .val (.ref o_RETURNED)] [(.ref o_RETURNED)])) _
    refine st1 _ ?_
    show Steps p.tables e below (T1.setTop (mkF m 27 #[.val (.ref o_RETURNED), .val (.ref o_SUCCEEDED), .val (.int (0 : Int32)), .val (.ref o_RETURNED)] [(.ref o_SUCCEEDED)])) _
    refine XS.astoreN X1.here hx rfl (hb hby d2_27) rfl rfl (l' := #[.val (.ref o_RETURNED), .val (.ref o_SUCCEEDED), .val (.int (0 : Int32)), .val (.ref o_SUCCEEDED)]) rfl ?_
    show Steps p.tables e below (T1.setTop (mkF m 28 #[.val (.ref o_RETURNED), .val (.ref o_SUCCEEDED), .val (.int (0 : Int32)), .val (.ref o_SUCCEEDED)] [])) _
    refine XS.goto X1.here hx rfl (pc0 := 28) (pc' := 4) rfl (hb hby d2_28) (by decide) (by decide) ?_
    show Steps p.tables e below (T1.setTop (mkF m 4 #[.val (.ref o_RETURNED), .val (.ref o_SUCCEEDED), .val (.int (0 : Int32)), .val (.ref o_SUCCEEDED)] [])) _
    refine XS.aloadN X1.here hx rfl (hb hby d2_4) rfl rfl ?_
    show Steps p.tables e below (T1.setTop (mkF m 5 #[.val (.ref o_RETURNED), .val (.ref o_SUCCEEDED), .val (.int (0 : Int32)), .val (.ref o_SUCCEEDED)] [(.ref o_SUCCEEDED)])) _
    refine XS.ifnullNo X1.here hx rfl (hb hby d2_5) rfl ?_
    show Steps p.tables e below (T1.setTop (mkF m 8 #[.val (.ref o_RETURNED), .val (.ref o_SUCCEEDED), .val (.int (0 : Int32)), .val (.ref o_SUCCEEDED)] [])) _
    refine XS.iloadN X1.here hx rfl (hb hby d2_8) rfl ?_
    show Steps p.tables e below (T1.setTop (mkF m 9 #[.val (.ref o_RETURNED), .val (.ref o_SUCCEEDED), .val (.int (0 : Int32)), .val (.ref o_SUCCEEDED)] [(.int (0 : Int32))])) _
    refine XS.ifNo X1.here hx rfl (hb hby d2_9) rfl ((if0 _ _).trans (teq (by decide : (0 : Int32) = (0 : Int32))).2) ?_
    show Steps p.tables e below (T1.setTop (mkF m 12 #[.val (.ref o_RETURNED), .val (.ref o_SUCCEEDED), .val (.int (0 : Int32)), .val (.ref o_SUCCEEDED)] [])) _
    refine XS.aloadN X1.here hx rfl (hb hby d2_12) rfl rfl ?_
    show Steps p.tables e below (T1.setTop (mkF m 13 #[.val (.ref o_RETURNED), .val (.ref o_SUCCEEDED), .val (.int (0 : Int32)), .val (.ref o_SUCCEEDED)] [(.ref o_SUCCEEDED)])) _
    refine XS.aloadN X1.here hx rfl (hb hby d2_13) rfl rfl ?_
    show Steps p.tables e below (T1.setTop (mkF m 14 #[.val (.ref o_RETURNED), .val (.ref o_SUCCEEDED), .val (.int (0 : Int32)), .val (.ref o_SUCCEEDED)] [(.ref o_SUCCEEDED), (.ref o_SUCCEEDED)])) _
    refine Jvm.RoadKit.acmp (g := (mkF m 14 #[.val (.ref o_RETURNED), .val (.ref o_SUCCEEDED), .val (.int (0 : Int32)), .val (.ref o_SUCCEEDED)] [(.ref o_SUCCEEDED), (.ref o_SUCCEEDED)])) X1 hx rfl rfl rfl (pc0 := 14) (pc' := 17) (same := true) rfl (hb hby d2_14) rfl (decide_eq_true rfl) (by decide) (by decide) ?_
    show Steps p.tables e below (T1.setTop (mkF m 17 #[.val (.ref o_RETURNED), .val (.ref o_SUCCEEDED), .val (.int (0 : Int32)), .val (.ref o_SUCCEEDED)] [])) _
    refine XS.iconst X1.here hx rfl (hb hby d2_17) ?_
    show Steps p.tables e below (T1.setTop (mkF m 18 #[.val (.ref o_RETURNED), .val (.ref o_SUCCEEDED), .val (.int (0 : Int32)), .val (.ref o_SUCCEEDED)] [(.int (1 : Int32))])) _
    refine XS.goto X1.here hx rfl (pc0 := 18) (pc' := 22) rfl (hb hby d2_18) (by decide) (by decide) ?_
    show Steps p.tables e below (T1.setTop (mkF m 22 #[.val (.ref o_RETURNED), .val (.ref o_SUCCEEDED), .val (.int (0 : Int32)), .val (.ref o_SUCCEEDED)] [(.int (1 : Int32))])) _
    refine XS.istoreN X1.here hx rfl (hb hby d2_22) rfl (l' := #[.val (.ref o_RETURNED), .val (.ref o_SUCCEEDED), .val (.int (1 : Int32)), .val (.ref o_SUCCEEDED)]) rfl ?_
    show Steps p.tables e below (T1.setTop (mkF m 23 #[.val (.ref o_RETURNED), .val (.ref o_SUCCEEDED), .val (.int (1 : Int32)), .val (.ref o_SUCCEEDED)] [])) _
    refine XS.aloadN X1.here hx rfl (hb hby d2_23) rfl rfl ?_
    show Steps p.tables e below (T1.setTop (mkF m 24 #[.val (.ref o_RETURNED), .val (.ref o_SUCCEEDED), .val (.int (1 : Int32)), .val (.ref o_SUCCEEDED)] [(.ref o_SUCCEEDED)])) _
    refine st2 _ ?_
    show Steps p.tables e below (T2.setTop (mkF m 27 #[.val (.ref o_RETURNED), .val (.ref o_SUCCEEDED), .val (.int (1 : Int32)), .val (.ref o_SUCCEEDED)] [(.ref o_PENDING)])) _
    refine XS.astoreN X2.here hx rfl (hb hby d2_27) rfl rfl (l' := #[.val (.ref o_RETURNED), .val (.ref o_SUCCEEDED), .val (.int (1 : Int32)), .val (.ref o_PENDING)]) rfl ?_
    show Steps p.tables e below (T2.setTop (mkF m 28 #[.val (.ref o_RETURNED), .val (.ref o_SUCCEEDED), .val (.int (1 : Int32)), .val (.ref o_PENDING)] [])) _
    refine XS.goto X2.here hx rfl (pc0 := 28) (pc' := 4) rfl (hb hby d2_28) (by decide) (by decide) ?_
    show Steps p.tables e below (T2.setTop (mkF m 4 #[.val (.ref o_RETURNED), .val (.ref o_SUCCEEDED), .val (.int (1 : Int32)), .val (.ref o_PENDING)] [])) _
    refine XS.aloadN X2.here hx rfl (hb hby d2_4) rfl rfl ?_
    show Steps p.tables e below (T2.setTop (mkF m 5 #[.val (.ref o_RETURNED), .val (.ref o_SUCCEEDED), .val (.int (1 : Int32)), .val (.ref o_PENDING)] [(.ref o_PENDING)])) _
    refine XS.ifnullNo X2.here hx rfl (hb hby d2_5) rfl ?_
    show Steps p.tables e below (T2.setTop (mkF m 8 #[.val (.ref o_RETURNED), .val (.ref o_SUCCEEDED), .val (.int (1 : Int32)), .val (.ref o_PENDING)] [])) _
    refine XS.iloadN X2.here hx rfl (hb hby d2_8) rfl ?_
    show Steps p.tables e below (T2.setTop (mkF m 9 #[.val (.ref o_RETURNED), .val (.ref o_SUCCEEDED), .val (.int (1 : Int32)), .val (.ref o_PENDING)] [(.int (1 : Int32))])) _
    refine XS.ifYes X2.here hx rfl (pc0 := 9) (pc' := 31) rfl (hb hby d2_9) rfl ((if0 _ _).trans (feq (by decide : ¬ ((1 : Int32) = (0 : Int32)))).2) (by decide) (by decide) ?_
    show Steps p.tables e below (T2.setTop (mkF m 31 #[.val (.ref o_RETURNED), .val (.ref o_SUCCEEDED), .val (.int (1 : Int32)), .val (.ref o_PENDING)] [])) _
    refine XS.iloadN X2.here hx rfl (hb hby d2_31) rfl ?_
    show Steps p.tables e below (T2.setTop (mkF m 32 #[.val (.ref o_RETURNED), .val (.ref o_SUCCEEDED), .val (.int (1 : Int32)), .val (.ref o_PENDING)] [(.int (1 : Int32))])) _
    exact retN X2 hx (t := .boolean) Bd.returns (by simp) (hb hby d2_32) hr
  · show Q2_31 Z o_RETURNED o_SUCCEEDED o_PENDING o_FAILED h0 n0 _ T2.heap _
    exact ⟨_, rfl, (by rfl), N0, e2⟩
theorem ef_rm2_32 (m : MethodId) (o_RETURNED : Addr) (o_FAILED : Addr) : entryFrame m #[(.ref o_RETURNED), (.ref o_FAILED)] 4 = mkF m 0 #[.val (.ref o_RETURNED), .val (.ref o_FAILED), .unset, .unset] [] := by first | (simp [entryFrame, mkF, argsToLocals, Value.category]; done) | rfl
def Q2_32 (Z : State) (o_RETURNED : Addr) (o_FAILED : Addr) (o_PENDING : Addr) (o_SUCCEEDED : Addr) (h0 : Heap) (n0 : Nat) (v : Option Value) (h : Heap) (L : List Loc) : Prop := ∃ r : Int32, v = some (.int r) ∧ r = (0 : Int32) ∧ Fr n0 L ∧ h = h0
set_option maxRecDepth 65536 in
set_option maxHeartbeats 40000000 in
theorem rm2_32 (l : Launch) (Z : State) (a0 : Array Value) (hw : ∀ d ∈ tables_1, d.before a0 Z = true) (ws : List Jvm.Cond) (o_RETURNED : Addr) (o_FAILED : Addr) (o_PENDING : Addr) (o_SUCCEEDED : Addr) (h0 : Heap) (n0 : Nat) (Z0 : n0 ≤ h0.size) (F_reachedFrom_o_PENDING : Fld Z h0 o_PENDING "com/example/rialto/rialto/core/movement/WithdrawalStatus" "reachedFrom" "Lcom/example/rialto/rialto/core/movement/WithdrawalStatus;" .null) (F_reachedFrom_o_FAILED : Fld Z h0 o_FAILED "com/example/rialto/rialto/core/movement/WithdrawalStatus" "reachedFrom" "Lcom/example/rialto/rialto/core/movement/WithdrawalStatus;" (.ref o_PENDING)) (F_reachedFrom_o_SUCCEEDED : Fld Z h0 o_SUCCEEDED "com/example/rialto/rialto/core/movement/WithdrawalStatus" "reachedFrom" "Lcom/example/rialto/rialto/core/movement/WithdrawalStatus;" (.ref o_PENDING)) (F_reachedFrom_o_RETURNED : Fld Z h0 o_RETURNED "com/example/rialto/rialto/core/movement/WithdrawalStatus" "reachedFrom" "Lcom/example/rialto/rialto/core/movement/WithdrawalStatus;" (.ref o_SUCCEEDED)) (ne_o_PENDING_o_RETURNED : o_PENDING ≠ o_RETURNED) (ne_o_PENDING_o_FAILED : o_PENDING ≠ o_FAILED) (ne_o_PENDING_o_SUCCEEDED : o_PENDING ≠ o_SUCCEEDED) (ne_o_RETURNED_o_FAILED : o_RETURNED ≠ o_FAILED) (ne_o_RETURNED_o_SUCCEEDED : o_RETURNED ≠ o_SUCCEEDED) (ne_o_FAILED_o_SUCCEEDED : o_FAILED ≠ o_SUCCEEDED) :
    MetFree l (⟨"com/example/rialto/rialto/core/movement/WithdrawalStatus", "hasBeen", "(Lcom/example/rialto/rialto/core/movement/WithdrawalStatus;)Z"⟩ : MethodName) (head1 (Jvm.Cond.code (⟨"com/example/rialto/rialto/core/movement/WithdrawalStatus", "hasBeen", "(Lcom/example/rialto/rialto/core/movement/WithdrawalStatus;)Z"⟩ : MethodName) prog_52_method_5_code 4 (some .boolean) :: ws) ({ frames := 0, cells := 0, slots := 0, locals := 0 } : Room)) (fun a U => a = #[(.ref o_RETURNED), (.ref o_FAILED)] ∧ Z.Warmed39 U.vm ∧ U.heap = h0) (fun _ _ _ _ _ => True) (fun _ U o U' => ∃ v L, o = .returned v ∧ Q2_32 Z o_RETURNED o_FAILED o_PENDING o_SUCCEEDED h0 n0 v U'.heap L ∧ FrameEnd U o U' L ({ frames := 0, cells := 0, slots := 0, locals := 0 } : Room).cells ({ frames := 0, cells := 0, slots := 0, locals := 0 } : Room).slots) := by
  refine MetFree.of_bodySF (plainFor_of_name pn_1) hisR ?_
  intro p e s m args below meth c s₁ Bd hml0 hP hK
  obtain ⟨rfl, hZ, hh⟩ := hP
  have hx := Bd.exec
  have hby := Bd.bytes
  have hml : c.maxLocals = 4 := hml0
  have hown : s.vm.findClass "com/example/rialto/rialto/core/movement/WithdrawalStatus" = some m.cls := findClass_of_methodNamed Bd.named
  have hnm := (name_of_methodNamed Bd.named Bd.method).1
  have X0 : Stand p l e ({ frames := 0, cells := 0, slots := 0, locals := 0 } : Room) s m #[(.ref o_RETURNED), (.ref o_FAILED)] below meth c s₁ [] 0 0 := Stand.of_body Bd
  have e0 : s₁.heap = h0 := by rw [← hh, Bd.state]; rfl
  have N0 := Fr.nil n0
  show GoalS p.tables e below s ({ frames := 0, cells := 0, slots := 0, locals := 0 } : Room).cells ({ frames := 0, cells := 0, slots := 0, locals := 0 } : Room).slots (Q2_32 Z o_RETURNED o_FAILED o_PENDING o_SUCCEEDED h0 n0) (s₁.setTop (entryFrame m #[(.ref o_RETURNED), (.ref o_FAILED)] 4))
  refine GoalS.lift (B := s₁.setTop (mkF m 0 #[.val (.ref o_RETURNED), .val (.ref o_FAILED), .unset, .unset] [])) (fun t k => castTop (ef_rm2_32 m o_RETURNED o_FAILED) k) ?_
  have K0 : Keep h0 h0 [] := Keep.refl _ _
  obtain ⟨T1, X1, e1, st1⟩ := getF X0 hx hZ hown (host := "") (Or.inl (hw _ (List.mem_of_getElem? (i := 14) rfl))) Via.refl e0 F_reachedFrom_o_RETURNED (g := (mkF m 24 #[.val (.ref o_RETURNED), .val (.ref o_FAILED), .val (.int (0 : Int32)), .val (.ref o_RETURNED)] [(.ref o_RETURNED)])) rfl rfl (hb hby d2_24)
  obtain ⟨T2, X2, e2, st2⟩ := getF X1 hx hZ hown (host := "") (Or.inl (hw _ (List.mem_of_getElem? (i := 14) rfl))) Via.refl e1 F_reachedFrom_o_SUCCEEDED (g := (mkF m 24 #[.val (.ref o_RETURNED), .val (.ref o_FAILED), .val (.int (0 : Int32)), .val (.ref o_SUCCEEDED)] [(.ref o_SUCCEEDED)])) rfl rfl (hb hby d2_24)
  obtain ⟨T3, X3, e3, st3⟩ := getF X2 hx hZ hown (host := "") (Or.inl (hw _ (List.mem_of_getElem? (i := 14) rfl))) Via.refl e2 F_reachedFrom_o_PENDING (g := (mkF m 24 #[.val (.ref o_RETURNED), .val (.ref o_FAILED), .val (.int (0 : Int32)), .val (.ref o_PENDING)] [(.ref o_PENDING)])) rfl rfl (hb hby d2_24)
  obtain ⟨fs, hr, hrun, hended, hW, hsame⟩ := X3.leave (v := some (.int (0 : Int32))) (fun h => by rw [Bd.returns] at h; cases h)
  refine ⟨_, _, ?_, hrun, hended, _, _, rfl, ?_, ⟨_, rfl⟩, hW, hsame.mono (by decide) (by decide)⟩
  · show Steps p.tables e below (s₁.setTop (mkF m 0 #[.val (.ref o_RETURNED), .val (.ref o_FAILED), .unset, .unset] [])) _
    refine XS.iconst X0.here hx rfl (hb hby d2_0) ?_
    show Steps p.tables e below (s₁.setTop (mkF m 1 #[.val (.ref o_RETURNED), .val (.ref o_FAILED), .unset, .unset] [(.int (0 : Int32))])) _
    refine XS.istoreN X0.here hx rfl (hb hby d2_1) rfl (l' := #[.val (.ref o_RETURNED), .val (.ref o_FAILED), .val (.int (0 : Int32)), .unset]) rfl ?_
    show Steps p.tables e below (s₁.setTop (mkF m 2 #[.val (.ref o_RETURNED), .val (.ref o_FAILED), .val (.int (0 : Int32)), .unset] [])) _
    refine XS.aloadN X0.here hx rfl (hb hby d2_2) rfl rfl ?_
    show Steps p.tables e below (s₁.setTop (mkF m 3 #[.val (.ref o_RETURNED), .val (.ref o_FAILED), .val (.int (0 : Int32)), .unset] [(.ref o_RETURNED)])) _
    refine XS.astoreN X0.here hx rfl (hb hby d2_3) rfl rfl (l' := #[.val (.ref o_RETURNED), .val (.ref o_FAILED), .val (.int (0 : Int32)), .val (.ref o_RETURNED)]) rfl ?_
    show Steps p.tables e below (s₁.setTop (mkF m 4 #[.val (.ref o_RETURNED), .val (.ref o_FAILED), .val (.int (0 : Int32)), .val (.ref o_RETURNED)] [])) _
    refine XS.aloadN X0.here hx rfl (hb hby d2_4) rfl rfl ?_
    show Steps p.tables e below (s₁.setTop (mkF m 5 #[.val (.ref o_RETURNED), .val (.ref o_FAILED), .val (.int (0 : Int32)), .val (.ref o_RETURNED)] [(.ref o_RETURNED)])) _
    refine XS.ifnullNo X0.here hx rfl (hb hby d2_5) rfl ?_
    show Steps p.tables e below (s₁.setTop (mkF m 8 #[.val (.ref o_RETURNED), .val (.ref o_FAILED), .val (.int (0 : Int32)), .val (.ref o_RETURNED)] [])) _
    refine XS.iloadN X0.here hx rfl (hb hby d2_8) rfl ?_
    show Steps p.tables e below (s₁.setTop (mkF m 9 #[.val (.ref o_RETURNED), .val (.ref o_FAILED), .val (.int (0 : Int32)), .val (.ref o_RETURNED)] [(.int (0 : Int32))])) _
    refine XS.ifNo X0.here hx rfl (hb hby d2_9) rfl ((if0 _ _).trans (teq (by decide : (0 : Int32) = (0 : Int32))).2) ?_
    show Steps p.tables e below (s₁.setTop (mkF m 12 #[.val (.ref o_RETURNED), .val (.ref o_FAILED), .val (.int (0 : Int32)), .val (.ref o_RETURNED)] [])) _
    refine XS.aloadN X0.here hx rfl (hb hby d2_12) rfl rfl ?_
    show Steps p.tables e below (s₁.setTop (mkF m 13 #[.val (.ref o_RETURNED), .val (.ref o_FAILED), .val (.int (0 : Int32)), .val (.ref o_RETURNED)] [(.ref o_RETURNED)])) _
    refine XS.aloadN X0.here hx rfl (hb hby d2_13) rfl rfl ?_
    show Steps p.tables e below (s₁.setTop (mkF m 14 #[.val (.ref o_RETURNED), .val (.ref o_FAILED), .val (.int (0 : Int32)), .val (.ref o_RETURNED)] [(.ref o_FAILED), (.ref o_RETURNED)])) _
    refine Jvm.RoadKit.acmp (g := (mkF m 14 #[.val (.ref o_RETURNED), .val (.ref o_FAILED), .val (.int (0 : Int32)), .val (.ref o_RETURNED)] [(.ref o_FAILED), (.ref o_RETURNED)])) X0 hx rfl rfl rfl (pc0 := 14) (pc' := 21) (same := false) rfl (hb hby d2_14) rfl (decide_eq_false fun q => ne_o_RETURNED_o_FAILED (Value.ref.inj q)) (by decide) (by decide) ?_
    show Steps p.tables e below (s₁.setTop (mkF m 21 #[.val (.ref o_RETURNED), .val (.ref o_FAILED), .val (.int (0 : Int32)), .val (.ref o_RETURNED)] [])) _
    refine XS.iconst X0.here hx rfl (hb hby d2_21) ?_
    show Steps p.tables e below (s₁.setTop (mkF m 22 #[.val (.ref o_RETURNED), .val (.ref o_FAILED), .val (.int (0 : Int32)), .val (.ref o_RETURNED)] [(.int (0 : Int32))])) _
    refine XS.istoreN X0.here hx rfl (hb hby d2_22) rfl (l' := #[.val (.ref o_RETURNED), .val (.ref o_FAILED), .val (.int (0 : Int32)), .val (.ref o_RETURNED)]) rfl ?_
    show Steps p.tables e below (s₁.setTop (mkF m 23 #[.val (.ref o_RETURNED), .val (.ref o_FAILED), .val (.int (0 : Int32)), .val (.ref o_RETURNED)] [])) _
    refine XS.aloadN X0.here hx rfl (hb hby d2_23) rfl rfl ?_
    show Steps p.tables e below (s₁.setTop (mkF m 24 #[.val (.ref o_RETURNED), .val (.ref o_FAILED), .val (.int (0 : Int32)), .val (.ref o_RETURNED)] [(.ref o_RETURNED)])) _
    refine st1 _ ?_
    show Steps p.tables e below (T1.setTop (mkF m 27 #[.val (.ref o_RETURNED), .val (.ref o_FAILED), .val (.int (0 : Int32)), .val (.ref o_RETURNED)] [(.ref o_SUCCEEDED)])) _
    refine XS.astoreN X1.here hx rfl (hb hby d2_27) rfl rfl (l' := #[.val (.ref o_RETURNED), .val (.ref o_FAILED), .val (.int (0 : Int32)), .val (.ref o_SUCCEEDED)]) rfl ?_
    show Steps p.tables e below (T1.setTop (mkF m 28 #[.val (.ref o_RETURNED), .val (.ref o_FAILED), .val (.int (0 : Int32)), .val (.ref o_SUCCEEDED)] [])) _
    refine XS.goto X1.here hx rfl (pc0 := 28) (pc' := 4) rfl (hb hby d2_28) (by decide) (by decide) ?_
    show Steps p.tables e below (T1.setTop (mkF m 4 #[.val (.ref o_RETURNED), .val (.ref o_FAILED), .val (.int (0 : Int32)), .val (.ref o_SUCCEEDED)] [])) _
    refine XS.aloadN X1.here hx rfl (hb hby d2_4) rfl rfl ?_
    show Steps p.tables e below (T1.setTop (mkF m 5 #[.val (.ref o_RETURNED), .val (.ref o_FAILED), .val (.int (0 : Int32)), .val (.ref o_SUCCEEDED)] [(.ref o_SUCCEEDED)])) _
    refine XS.ifnullNo X1.here hx rfl (hb hby d2_5) rfl ?_
    show Steps p.tables e below (T1.setTop (mkF m 8 #[.val (.ref o_RETURNED), .val (.ref o_FAILED), .val (.int (0 : Int32)), .val (.ref o_SUCCEEDED)] [])) _
    refine XS.iloadN X1.here hx rfl (hb hby d2_8) rfl ?_
    show Steps p.tables e below (T1.setTop (mkF m 9 #[.val (.ref o_RETURNED), .val (.ref o_FAILED), .val (.int (0 : Int32)), .val (.ref o_SUCCEEDED)] [(.int (0 : Int32))])) _
    refine XS.ifNo X1.here hx rfl (hb hby d2_9) rfl ((if0 _ _).trans (teq (by decide : (0 : Int32) = (0 : Int32))).2) ?_
    show Steps p.tables e below (T1.setTop (mkF m 12 #[.val (.ref o_RETURNED), .val (.ref o_FAILED), .val (.int (0 : Int32)), .val (.ref o_SUCCEEDED)] [])) _
    refine XS.aloadN X1.here hx rfl (hb hby d2_12) rfl rfl ?_
    show Steps p.tables e below (T1.setTop (mkF m 13 #[.val (.ref o_RETURNED), .val (.ref o_FAILED), .val (.int (0 : Int32)), .val (.ref o_SUCCEEDED)] [(.ref o_SUCCEEDED)])) _
    refine XS.aloadN X1.here hx rfl (hb hby d2_13) rfl rfl ?_
    show Steps p.tables e below (T1.setTop (mkF m 14 #[.val (.ref o_RETURNED), .val (.ref o_FAILED), .val (.int (0 : Int32)), .val (.ref o_SUCCEEDED)] [(.ref o_FAILED), (.ref o_SUCCEEDED)])) _
    refine Jvm.RoadKit.acmp (g := (mkF m 14 #[.val (.ref o_RETURNED), .val (.ref o_FAILED), .val (.int (0 : Int32)), .val (.ref o_SUCCEEDED)] [(.ref o_FAILED), (.ref o_SUCCEEDED)])) X1 hx rfl rfl rfl (pc0 := 14) (pc' := 21) (same := false) rfl (hb hby d2_14) rfl (decide_eq_false fun q => (Ne.symm ne_o_FAILED_o_SUCCEEDED) (Value.ref.inj q)) (by decide) (by decide) ?_
    show Steps p.tables e below (T1.setTop (mkF m 21 #[.val (.ref o_RETURNED), .val (.ref o_FAILED), .val (.int (0 : Int32)), .val (.ref o_SUCCEEDED)] [])) _
    refine XS.iconst X1.here hx rfl (hb hby d2_21) ?_
    show Steps p.tables e below (T1.setTop (mkF m 22 #[.val (.ref o_RETURNED), .val (.ref o_FAILED), .val (.int (0 : Int32)), .val (.ref o_SUCCEEDED)] [(.int (0 : Int32))])) _
    refine XS.istoreN X1.here hx rfl (hb hby d2_22) rfl (l' := #[.val (.ref o_RETURNED), .val (.ref o_FAILED), .val (.int (0 : Int32)), .val (.ref o_SUCCEEDED)]) rfl ?_
    show Steps p.tables e below (T1.setTop (mkF m 23 #[.val (.ref o_RETURNED), .val (.ref o_FAILED), .val (.int (0 : Int32)), .val (.ref o_SUCCEEDED)] [])) _
    refine XS.aloadN X1.here hx rfl (hb hby d2_23) rfl rfl ?_
    show Steps p.tables e below (T1.setTop (mkF m 24 #[.val (.ref o_RETURNED), .val (.ref o_FAILED), .val (.int (0 : Int32)), .val (.ref o_SUCCEEDED)] [(.ref o_SUCCEEDED)])) _
    refine st2 _ ?_
    show Steps p.tables e below (T2.setTop (mkF m 27 #[.val (.ref o_RETURNED), .val (.ref o_FAILED), .val (.int (0 : Int32)), .val (.ref o_SUCCEEDED)] [(.ref o_PENDING)])) _
    refine XS.astoreN X2.here hx rfl (hb hby d2_27) rfl rfl (l' := #[.val (.ref o_RETURNED), .val (.ref o_FAILED), .val (.int (0 : Int32)), .val (.ref o_PENDING)]) rfl ?_
    show Steps p.tables e below (T2.setTop (mkF m 28 #[.val (.ref o_RETURNED), .val (.ref o_FAILED), .val (.int (0 : Int32)), .val (.ref o_PENDING)] [])) _
    refine XS.goto X2.here hx rfl (pc0 := 28) (pc' := 4) rfl (hb hby d2_28) (by decide) (by decide) ?_
    show Steps p.tables e below (T2.setTop (mkF m 4 #[.val (.ref o_RETURNED), .val (.ref o_FAILED), .val (.int (0 : Int32)), .val (.ref o_PENDING)] [])) _
    refine XS.aloadN X2.here hx rfl (hb hby d2_4) rfl rfl ?_
    show Steps p.tables e below (T2.setTop (mkF m 5 #[.val (.ref o_RETURNED), .val (.ref o_FAILED), .val (.int (0 : Int32)), .val (.ref o_PENDING)] [(.ref o_PENDING)])) _
    refine XS.ifnullNo X2.here hx rfl (hb hby d2_5) rfl ?_
    show Steps p.tables e below (T2.setTop (mkF m 8 #[.val (.ref o_RETURNED), .val (.ref o_FAILED), .val (.int (0 : Int32)), .val (.ref o_PENDING)] [])) _
    refine XS.iloadN X2.here hx rfl (hb hby d2_8) rfl ?_
    show Steps p.tables e below (T2.setTop (mkF m 9 #[.val (.ref o_RETURNED), .val (.ref o_FAILED), .val (.int (0 : Int32)), .val (.ref o_PENDING)] [(.int (0 : Int32))])) _
    refine XS.ifNo X2.here hx rfl (hb hby d2_9) rfl ((if0 _ _).trans (teq (by decide : (0 : Int32) = (0 : Int32))).2) ?_
    show Steps p.tables e below (T2.setTop (mkF m 12 #[.val (.ref o_RETURNED), .val (.ref o_FAILED), .val (.int (0 : Int32)), .val (.ref o_PENDING)] [])) _
    refine XS.aloadN X2.here hx rfl (hb hby d2_12) rfl rfl ?_
    show Steps p.tables e below (T2.setTop (mkF m 13 #[.val (.ref o_RETURNED), .val (.ref o_FAILED), .val (.int (0 : Int32)), .val (.ref o_PENDING)] [(.ref o_PENDING)])) _
    refine XS.aloadN X2.here hx rfl (hb hby d2_13) rfl rfl ?_
    show Steps p.tables e below (T2.setTop (mkF m 14 #[.val (.ref o_RETURNED), .val (.ref o_FAILED), .val (.int (0 : Int32)), .val (.ref o_PENDING)] [(.ref o_FAILED), (.ref o_PENDING)])) _
    refine Jvm.RoadKit.acmp (g := (mkF m 14 #[.val (.ref o_RETURNED), .val (.ref o_FAILED), .val (.int (0 : Int32)), .val (.ref o_PENDING)] [(.ref o_FAILED), (.ref o_PENDING)])) X2 hx rfl rfl rfl (pc0 := 14) (pc' := 21) (same := false) rfl (hb hby d2_14) rfl (decide_eq_false fun q => ne_o_PENDING_o_FAILED (Value.ref.inj q)) (by decide) (by decide) ?_
    show Steps p.tables e below (T2.setTop (mkF m 21 #[.val (.ref o_RETURNED), .val (.ref o_FAILED), .val (.int (0 : Int32)), .val (.ref o_PENDING)] [])) _
    refine XS.iconst X2.here hx rfl (hb hby d2_21) ?_
    show Steps p.tables e below (T2.setTop (mkF m 22 #[.val (.ref o_RETURNED), .val (.ref o_FAILED), .val (.int (0 : Int32)), .val (.ref o_PENDING)] [(.int (0 : Int32))])) _
    refine XS.istoreN X2.here hx rfl (hb hby d2_22) rfl (l' := #[.val (.ref o_RETURNED), .val (.ref o_FAILED), .val (.int (0 : Int32)), .val (.ref o_PENDING)]) rfl ?_
    show Steps p.tables e below (T2.setTop (mkF m 23 #[.val (.ref o_RETURNED), .val (.ref o_FAILED), .val (.int (0 : Int32)), .val (.ref o_PENDING)] [])) _
    refine XS.aloadN X2.here hx rfl (hb hby d2_23) rfl rfl ?_
    show Steps p.tables e below (T2.setTop (mkF m 24 #[.val (.ref o_RETURNED), .val (.ref o_FAILED), .val (.int (0 : Int32)), .val (.ref o_PENDING)] [(.ref o_PENDING)])) _
    refine st3 _ ?_
    show Steps p.tables e below (T3.setTop (mkF m 27 #[.val (.ref o_RETURNED), .val (.ref o_FAILED), .val (.int (0 : Int32)), .val (.ref o_PENDING)] [.null])) _
    refine XS.astoreN X3.here hx rfl (hb hby d2_27) rfl rfl (l' := #[.val (.ref o_RETURNED), .val (.ref o_FAILED), .val (.int (0 : Int32)), .val .null]) rfl ?_
    show Steps p.tables e below (T3.setTop (mkF m 28 #[.val (.ref o_RETURNED), .val (.ref o_FAILED), .val (.int (0 : Int32)), .val .null] [])) _
    refine XS.goto X3.here hx rfl (pc0 := 28) (pc' := 4) rfl (hb hby d2_28) (by decide) (by decide) ?_
    show Steps p.tables e below (T3.setTop (mkF m 4 #[.val (.ref o_RETURNED), .val (.ref o_FAILED), .val (.int (0 : Int32)), .val .null] [])) _
    refine XS.aloadN X3.here hx rfl (hb hby d2_4) rfl rfl ?_
    show Steps p.tables e below (T3.setTop (mkF m 5 #[.val (.ref o_RETURNED), .val (.ref o_FAILED), .val (.int (0 : Int32)), .val .null] [.null])) _
    refine XS.ifnullYes X3.here hx rfl (pc0 := 5) (pc' := 31) rfl (hb hby d2_5) rfl (by decide) (by decide) ?_
    show Steps p.tables e below (T3.setTop (mkF m 31 #[.val (.ref o_RETURNED), .val (.ref o_FAILED), .val (.int (0 : Int32)), .val .null] [])) _
    refine XS.iloadN X3.here hx rfl (hb hby d2_31) rfl ?_
    show Steps p.tables e below (T3.setTop (mkF m 32 #[.val (.ref o_RETURNED), .val (.ref o_FAILED), .val (.int (0 : Int32)), .val .null] [(.int (0 : Int32))])) _
    exact retN X3 hx (t := .boolean) Bd.returns (by simp) (hb hby d2_32) hr
  · show Q2_32 Z o_RETURNED o_FAILED o_PENDING o_SUCCEEDED h0 n0 _ T3.heap _
    exact ⟨_, rfl, (by rfl), N0, e3⟩
theorem ef_rm2_33 (m : MethodId) (o_RETURNED : Addr) : entryFrame m #[(.ref o_RETURNED), (.ref o_RETURNED)] 4 = mkF m 0 #[.val (.ref o_RETURNED), .val (.ref o_RETURNED), .unset, .unset] [] := by first | (simp [entryFrame, mkF, argsToLocals, Value.category]; done) | rfl
def Q2_33 (Z : State) (o_RETURNED : Addr) (o_PENDING : Addr) (o_FAILED : Addr) (o_SUCCEEDED : Addr) (h0 : Heap) (n0 : Nat) (v : Option Value) (h : Heap) (L : List Loc) : Prop := ∃ r : Int32, v = some (.int r) ∧ r = (1 : Int32) ∧ Fr n0 L ∧ h = h0
set_option maxRecDepth 65536 in
set_option maxHeartbeats 40000000 in
theorem rm2_33 (l : Launch) (Z : State) (a0 : Array Value) (hw : ∀ d ∈ tables_1, d.before a0 Z = true) (ws : List Jvm.Cond) (o_RETURNED : Addr) (o_PENDING : Addr) (o_FAILED : Addr) (o_SUCCEEDED : Addr) (h0 : Heap) (n0 : Nat) (Z0 : n0 ≤ h0.size) (F_reachedFrom_o_PENDING : Fld Z h0 o_PENDING "com/example/rialto/rialto/core/movement/WithdrawalStatus" "reachedFrom" "Lcom/example/rialto/rialto/core/movement/WithdrawalStatus;" .null) (F_reachedFrom_o_FAILED : Fld Z h0 o_FAILED "com/example/rialto/rialto/core/movement/WithdrawalStatus" "reachedFrom" "Lcom/example/rialto/rialto/core/movement/WithdrawalStatus;" (.ref o_PENDING)) (F_reachedFrom_o_SUCCEEDED : Fld Z h0 o_SUCCEEDED "com/example/rialto/rialto/core/movement/WithdrawalStatus" "reachedFrom" "Lcom/example/rialto/rialto/core/movement/WithdrawalStatus;" (.ref o_PENDING)) (F_reachedFrom_o_RETURNED : Fld Z h0 o_RETURNED "com/example/rialto/rialto/core/movement/WithdrawalStatus" "reachedFrom" "Lcom/example/rialto/rialto/core/movement/WithdrawalStatus;" (.ref o_SUCCEEDED)) (ne_o_PENDING_o_RETURNED : o_PENDING ≠ o_RETURNED) (ne_o_PENDING_o_FAILED : o_PENDING ≠ o_FAILED) (ne_o_PENDING_o_SUCCEEDED : o_PENDING ≠ o_SUCCEEDED) (ne_o_RETURNED_o_FAILED : o_RETURNED ≠ o_FAILED) (ne_o_RETURNED_o_SUCCEEDED : o_RETURNED ≠ o_SUCCEEDED) (ne_o_FAILED_o_SUCCEEDED : o_FAILED ≠ o_SUCCEEDED) :
    MetFree l (⟨"com/example/rialto/rialto/core/movement/WithdrawalStatus", "hasBeen", "(Lcom/example/rialto/rialto/core/movement/WithdrawalStatus;)Z"⟩ : MethodName) (head1 (Jvm.Cond.code (⟨"com/example/rialto/rialto/core/movement/WithdrawalStatus", "hasBeen", "(Lcom/example/rialto/rialto/core/movement/WithdrawalStatus;)Z"⟩ : MethodName) prog_52_method_5_code 4 (some .boolean) :: ws) ({ frames := 0, cells := 0, slots := 0, locals := 0 } : Room)) (fun a U => a = #[(.ref o_RETURNED), (.ref o_RETURNED)] ∧ Z.Warmed39 U.vm ∧ U.heap = h0) (fun _ _ _ _ _ => True) (fun _ U o U' => ∃ v L, o = .returned v ∧ Q2_33 Z o_RETURNED o_PENDING o_FAILED o_SUCCEEDED h0 n0 v U'.heap L ∧ FrameEnd U o U' L ({ frames := 0, cells := 0, slots := 0, locals := 0 } : Room).cells ({ frames := 0, cells := 0, slots := 0, locals := 0 } : Room).slots) := by
  refine MetFree.of_bodySF (plainFor_of_name pn_1) hisR ?_
  intro p e s m args below meth c s₁ Bd hml0 hP hK
  obtain ⟨rfl, hZ, hh⟩ := hP
  have hx := Bd.exec
  have hby := Bd.bytes
  have hml : c.maxLocals = 4 := hml0
  have hown : s.vm.findClass "com/example/rialto/rialto/core/movement/WithdrawalStatus" = some m.cls := findClass_of_methodNamed Bd.named
  have hnm := (name_of_methodNamed Bd.named Bd.method).1
  have X0 : Stand p l e ({ frames := 0, cells := 0, slots := 0, locals := 0 } : Room) s m #[(.ref o_RETURNED), (.ref o_RETURNED)] below meth c s₁ [] 0 0 := Stand.of_body Bd
  have e0 : s₁.heap = h0 := by rw [← hh, Bd.state]; rfl
  have N0 := Fr.nil n0
  show GoalS p.tables e below s ({ frames := 0, cells := 0, slots := 0, locals := 0 } : Room).cells ({ frames := 0, cells := 0, slots := 0, locals := 0 } : Room).slots (Q2_33 Z o_RETURNED o_PENDING o_FAILED o_SUCCEEDED h0 n0) (s₁.setTop (entryFrame m #[(.ref o_RETURNED), (.ref o_RETURNED)] 4))
  refine GoalS.lift (B := s₁.setTop (mkF m 0 #[.val (.ref o_RETURNED), .val (.ref o_RETURNED), .unset, .unset] [])) (fun t k => castTop (ef_rm2_33 m o_RETURNED) k) ?_
  have K0 : Keep h0 h0 [] := Keep.refl _ _
  obtain ⟨T1, X1, e1, st1⟩ := getF X0 hx hZ hown (host := "") (Or.inl (hw _ (List.mem_of_getElem? (i := 14) rfl))) Via.refl e0 F_reachedFrom_o_RETURNED (g := (mkF m 24 #[.val (.ref o_RETURNED), .val (.ref o_RETURNED), .val (.int (1 : Int32)), .val (.ref o_RETURNED)] [(.ref o_RETURNED)])) rfl rfl (hb hby d2_24)
  obtain ⟨fs, hr, hrun, hended, hW, hsame⟩ := X1.leave (v := some (.int (1 : Int32))) (fun h => by rw [Bd.returns] at h; cases h)
  refine ⟨_, _, ?_, hrun, hended, _, _, rfl, ?_, ⟨_, rfl⟩, hW, hsame.mono (by decide) (by decide)⟩
  · show Steps p.tables e below (s₁.setTop (mkF m 0 #[.val (.ref o_RETURNED), .val (.ref o_RETURNED), .unset, .unset] [])) _
    refine XS.iconst X0.here hx rfl (hb hby d2_0) ?_
    show Steps p.tables e below (s₁.setTop (mkF m 1 #[.val (.ref o_RETURNED), .val (.ref o_RETURNED), .unset, .unset] [(.int (0 : Int32))])) _
    refine XS.istoreN X0.here hx rfl (hb hby d2_1) rfl (l' := #[.val (.ref o_RETURNED), .val (.ref o_RETURNED), .val (.int (0 : Int32)), .unset]) rfl ?_
    show Steps p.tables e below (s₁.setTop (mkF m 2 #[.val (.ref o_RETURNED), .val (.ref o_RETURNED), .val (.int (0 : Int32)), .unset] [])) _
    refine XS.aloadN X0.here hx rfl (hb hby d2_2) rfl rfl ?_
    show Steps p.tables e below (s₁.setTop (mkF m 3 #[.val (.ref o_RETURNED), .val (.ref o_RETURNED), .val (.int (0 : Int32)), .unset] [(.ref o_RETURNED)])) _
    refine XS.astoreN X0.here hx rfl (hb hby d2_3) rfl rfl (l' := #[.val (.ref o_RETURNED), .val (.ref o_RETURNED), .val (.int (0 : Int32)), .val (.ref o_RETURNED)]) rfl ?_
    show Steps p.tables e below (s₁.setTop (mkF m 4 #[.val (.ref o_RETURNED), .val (.ref o_RETURNED), .val (.int (0 : Int32)), .val (.ref o_RETURNED)] [])) _
    refine XS.aloadN X0.here hx rfl (hb hby d2_4) rfl rfl ?_
    show Steps p.tables e below (s₁.setTop (mkF m 5 #[.val (.ref o_RETURNED), .val (.ref o_RETURNED), .val (.int (0 : Int32)), .val (.ref o_RETURNED)] [(.ref o_RETURNED)])) _
    refine XS.ifnullNo X0.here hx rfl (hb hby d2_5) rfl ?_
    show Steps p.tables e below (s₁.setTop (mkF m 8 #[.val (.ref o_RETURNED), .val (.ref o_RETURNED), .val (.int (0 : Int32)), .val (.ref o_RETURNED)] [])) _
    refine XS.iloadN X0.here hx rfl (hb hby d2_8) rfl ?_
    show Steps p.tables e below (s₁.setTop (mkF m 9 #[.val (.ref o_RETURNED), .val (.ref o_RETURNED), .val (.int (0 : Int32)), .val (.ref o_RETURNED)] [(.int (0 : Int32))])) _
    refine XS.ifNo X0.here hx rfl (hb hby d2_9) rfl ((if0 _ _).trans (teq (by decide : (0 : Int32) = (0 : Int32))).2) ?_
    show Steps p.tables e below (s₁.setTop (mkF m 12 #[.val (.ref o_RETURNED), .val (.ref o_RETURNED), .val (.int (0 : Int32)), .val (.ref o_RETURNED)] [])) _
    refine XS.aloadN X0.here hx rfl (hb hby d2_12) rfl rfl ?_
    show Steps p.tables e below (s₁.setTop (mkF m 13 #[.val (.ref o_RETURNED), .val (.ref o_RETURNED), .val (.int (0 : Int32)), .val (.ref o_RETURNED)] [(.ref o_RETURNED)])) _
    refine XS.aloadN X0.here hx rfl (hb hby d2_13) rfl rfl ?_
    show Steps p.tables e below (s₁.setTop (mkF m 14 #[.val (.ref o_RETURNED), .val (.ref o_RETURNED), .val (.int (0 : Int32)), .val (.ref o_RETURNED)] [(.ref o_RETURNED), (.ref o_RETURNED)])) _
    refine Jvm.RoadKit.acmp (g := (mkF m 14 #[.val (.ref o_RETURNED), .val (.ref o_RETURNED), .val (.int (0 : Int32)), .val (.ref o_RETURNED)] [(.ref o_RETURNED), (.ref o_RETURNED)])) X0 hx rfl rfl rfl (pc0 := 14) (pc' := 17) (same := true) rfl (hb hby d2_14) rfl (decide_eq_true rfl) (by decide) (by decide) ?_
    show Steps p.tables e below (s₁.setTop (mkF m 17 #[.val (.ref o_RETURNED), .val (.ref o_RETURNED), .val (.int (0 : Int32)), .val (.ref o_RETURNED)] [])) _
    refine XS.iconst X0.here hx rfl (hb hby d2_17) ?_
    show Steps p.tables e below (s₁.setTop (mkF m 18 #[.val (.ref o_RETURNED), .val (.ref o_RETURNED), .val (.int (0 : Int32)), .val (.ref o_RETURNED)] [(.int (1 : Int32))])) _
    refine XS.goto X0.here hx rfl (pc0 := 18) (pc' := 22) rfl (hb hby d2_18) (by decide) (by decide) ?_
    show Steps p.tables e below (s₁.setTop (mkF m 22 #[.val (.ref o_RETURNED), .val (.ref o_RETURNED), .val (.int (0 : Int32)), .val (.ref o_RETURNED)] [(.int (1 : Int32))])) _
    refine XS.istoreN X0.here hx rfl (hb hby d2_22) rfl (l' := #[.val (.ref o_RETURNED), .val (.ref o_RETURNED), .val (.int (1 : Int32)), .val (.ref o_RETURNED)]) rfl ?_
    show Steps p.tables e below (s₁.setTop (mkF m 23 #[.val (.ref o_RETURNED), .val (.ref o_RETURNED), .val (.int (1 : Int32)), .val (.ref o_RETURNED)] [])) _
    refine XS.aloadN X0.here hx rfl (hb hby d2_23) rfl rfl ?_
    show Steps p.tables e below (s₁.setTop (mkF m 24 #[.val (.ref o_RETURNED), .val (.ref o_RETURNED), .val (.int (1 : Int32)), .val (.ref o_RETURNED)] [(.ref o_RETURNED)])) _
    refine st1 _ ?_
    show Steps p.tables e below (T1.setTop (mkF m 27 #[.val (.ref o_RETURNED), .val (.ref o_RETURNED), .val (.int (1 : Int32)), .val (.ref o_RETURNED)] [(.ref o_SUCCEEDED)])) _
    refine XS.astoreN X1.here hx rfl (hb hby d2_27) rfl rfl (l' := #[.val (.ref o_RETURNED), .val (.ref o_RETURNED), .val (.int (1 : Int32)), .val (.ref o_SUCCEEDED)]) rfl ?_
    show Steps p.tables e below (T1.setTop (mkF m 28 #[.val (.ref o_RETURNED), .val (.ref o_RETURNED), .val (.int (1 : Int32)), .val (.ref o_SUCCEEDED)] [])) _
    refine XS.goto X1.here hx rfl (pc0 := 28) (pc' := 4) rfl (hb hby d2_28) (by decide) (by decide) ?_
    show Steps p.tables e below (T1.setTop (mkF m 4 #[.val (.ref o_RETURNED), .val (.ref o_RETURNED), .val (.int (1 : Int32)), .val (.ref o_SUCCEEDED)] [])) _
    refine XS.aloadN X1.here hx rfl (hb hby d2_4) rfl rfl ?_
    show Steps p.tables e below (T1.setTop (mkF m 5 #[.val (.ref o_RETURNED), .val (.ref o_RETURNED), .val (.int (1 : Int32)), .val (.ref o_SUCCEEDED)] [(.ref o_SUCCEEDED)])) _
    refine XS.ifnullNo X1.here hx rfl (hb hby d2_5) rfl ?_
    show Steps p.tables e below (T1.setTop (mkF m 8 #[.val (.ref o_RETURNED), .val (.ref o_RETURNED), .val (.int (1 : Int32)), .val (.ref o_SUCCEEDED)] [])) _
    refine XS.iloadN X1.here hx rfl (hb hby d2_8) rfl ?_
    show Steps p.tables e below (T1.setTop (mkF m 9 #[.val (.ref o_RETURNED), .val (.ref o_RETURNED), .val (.int (1 : Int32)), .val (.ref o_SUCCEEDED)] [(.int (1 : Int32))])) _
    refine XS.ifYes X1.here hx rfl (pc0 := 9) (pc' := 31) rfl (hb hby d2_9) rfl ((if0 _ _).trans (feq (by decide : ¬ ((1 : Int32) = (0 : Int32)))).2) (by decide) (by decide) ?_
    show Steps p.tables e below (T1.setTop (mkF m 31 #[.val (.ref o_RETURNED), .val (.ref o_RETURNED), .val (.int (1 : Int32)), .val (.ref o_SUCCEEDED)] [])) _
    refine XS.iloadN X1.here hx rfl (hb hby d2_31) rfl ?_
    show Steps p.tables e below (T1.setTop (mkF m 32 #[.val (.ref o_RETURNED), .val (.ref o_RETURNED), .val (.int (1 : Int32)), .val (.ref o_SUCCEEDED)] [(.int (1 : Int32))])) _
    exact retN X1 hx (t := .boolean) Bd.returns (by simp) (hb hby d2_32) hr
  · show Q2_33 Z o_RETURNED o_PENDING o_FAILED o_SUCCEEDED h0 n0 _ T1.heap _
    exact ⟨_, rfl, (by rfl), N0, e1⟩
theorem pd_0 : parseMethodDescriptor "(I)Lcom/example/rialto/rialto/core/movement/WithdrawalStatus;" = some ⟨[.int], some (.object "com/example/rialto/rialto/core/movement/WithdrawalStatus")⟩ := by decide +kernel
theorem pd_1 : parseMethodDescriptor "(Lcom/example/rialto/rialto/core/movement/WithdrawalStatus;)Z" = some ⟨[(.object "com/example/rialto/rialto/core/movement/WithdrawalStatus")], some .boolean⟩ := by decide +kernel
theorem ef_rm0 (m : MethodId) (p1 : Int32) (p2 : Int32) : entryFrame m #[(.int p1), (.int p2)] maxLocals = mkF m 0 #[.val (.int p1), .val (.int p2), .unset, .unset, .unset] [] := by first | (simp [entryFrame, mkF, argsToLocals, Value.category, maxLocals]; done) | rfl
def Q0 (Z : State) (p1 : Int32) (p2 : Int32) (o_PENDING : Addr) (o_RETURNED : Addr) (o_FAILED : Addr) (o_SUCCEEDED : Addr) (h0 : Heap) (n0 : Nat) (v : Option Value) (h : Heap) (L : List Loc) : Prop := v = some (.int (1 : Int32)) ∧ Fr n0 L
set_option maxRecDepth 65536 in
set_option maxHeartbeats 40000000 in
theorem rm0 (l : Launch) (Z : State) (a0 : Array Value) (hw : ∀ d ∈ tables_1, d.before a0 Z = true) (ws : List Jvm.Cond) (p1 : Int32) (p2 : Int32) (o_PENDING : Addr) (o_RETURNED : Addr) (o_FAILED : Addr) (o_SUCCEEDED : Addr) (h0 : Heap) (n0 : Nat) (Z0 : n0 ≤ h0.size) (S_PENDING : Sta Z h0 "com/example/rialto/rialto/core/movement/WithdrawalStatus" "PENDING" "Lcom/example/rialto/rialto/core/movement/WithdrawalStatus;" (.ref o_PENDING)) (E_o_PENDING : Exa Z h0 o_PENDING "com/example/rialto/rialto/core/movement/WithdrawalStatus") (S_RETURNED : Sta Z h0 "com/example/rialto/rialto/core/movement/WithdrawalStatus" "RETURNED" "Lcom/example/rialto/rialto/core/movement/WithdrawalStatus;" (.ref o_RETURNED)) (E_o_RETURNED : Exa Z h0 o_RETURNED "com/example/rialto/rialto/core/movement/WithdrawalStatus") (S_FAILED : Sta Z h0 "com/example/rialto/rialto/core/movement/WithdrawalStatus" "FAILED" "Lcom/example/rialto/rialto/core/movement/WithdrawalStatus;" (.ref o_FAILED)) (E_o_FAILED : Exa Z h0 o_FAILED "com/example/rialto/rialto/core/movement/WithdrawalStatus") (S_SUCCEEDED : Sta Z h0 "com/example/rialto/rialto/core/movement/WithdrawalStatus" "SUCCEEDED" "Lcom/example/rialto/rialto/core/movement/WithdrawalStatus;" (.ref o_SUCCEEDED)) (E_o_SUCCEEDED : Exa Z h0 o_SUCCEEDED "com/example/rialto/rialto/core/movement/WithdrawalStatus") (F_ordinal_o_PENDING : Fld Z h0 o_PENDING "java/lang/Enum" "ordinal" "I" (.int (0 : Int32))) (F_ordinal_o_RETURNED : Fld Z h0 o_RETURNED "java/lang/Enum" "ordinal" "I" (.int (3 : Int32))) (F_reachedFrom_o_PENDING : Fld Z h0 o_PENDING "com/example/rialto/rialto/core/movement/WithdrawalStatus" "reachedFrom" "Lcom/example/rialto/rialto/core/movement/WithdrawalStatus;" .null) (F_ordinal_o_FAILED : Fld Z h0 o_FAILED "java/lang/Enum" "ordinal" "I" (.int (2 : Int32))) (F_ordinal_o_SUCCEEDED : Fld Z h0 o_SUCCEEDED "java/lang/Enum" "ordinal" "I" (.int (1 : Int32))) (F_reachedFrom_o_FAILED : Fld Z h0 o_FAILED "com/example/rialto/rialto/core/movement/WithdrawalStatus" "reachedFrom" "Lcom/example/rialto/rialto/core/movement/WithdrawalStatus;" (.ref o_PENDING)) (F_reachedFrom_o_SUCCEEDED : Fld Z h0 o_SUCCEEDED "com/example/rialto/rialto/core/movement/WithdrawalStatus" "reachedFrom" "Lcom/example/rialto/rialto/core/movement/WithdrawalStatus;" (.ref o_PENDING)) (F_reachedFrom_o_RETURNED : Fld Z h0 o_RETURNED "com/example/rialto/rialto/core/movement/WithdrawalStatus" "reachedFrom" "Lcom/example/rialto/rialto/core/movement/WithdrawalStatus;" (.ref o_SUCCEEDED)) (ne_o_PENDING_o_RETURNED : o_PENDING ≠ o_RETURNED) (ne_o_PENDING_o_FAILED : o_PENDING ≠ o_FAILED) (ne_o_PENDING_o_SUCCEEDED : o_PENDING ≠ o_SUCCEEDED) (ne_o_RETURNED_o_FAILED : o_RETURNED ≠ o_FAILED) (ne_o_RETURNED_o_SUCCEEDED : o_RETURNED ≠ o_SUCCEEDED) (ne_o_FAILED_o_SUCCEEDED : o_FAILED ≠ o_SUCCEEDED) :
    MetFree l x (head1 (Jvm.Cond.code x code maxLocals ret :: ws) room_1) (fun a U => a = #[(.int p1), (.int p2)] ∧ Z.Warmed39 U.vm ∧ U.heap = h0) (fun _ _ _ _ _ => True) (fun _ U o U' => ∃ v L, o = .returned v ∧ Q0 Z p1 p2 o_PENDING o_RETURNED o_FAILED o_SUCCEEDED h0 n0 v U'.heap L ∧ FrameEnd U o U' L 0 0) := by
  refine MetFree.of_bodySF (plainFor_of_name pn_0) hisR ?_
  intro p e s m args below meth c s₁ Bd hml0 hP hK
  obtain ⟨rfl, hZ, hh⟩ := hP
  have hx := Bd.exec
  have hby := Bd.bytes
  have hml : c.maxLocals = 5 := hml0
  have hown : s.vm.findClass "com/example/rialto/rialto/core/movement/WithdrawalStatusHasBeenPinLaw" = some m.cls := findClass_of_methodNamed Bd.named
  have hnm := (name_of_methodNamed Bd.named Bd.method).1
  have X0 : Stand p l e room_1 s m #[(.int p1), (.int p2)] below meth c s₁ [] 0 0 := Stand.of_body Bd
  have e0 : s₁.heap = h0 := by rw [← hh, Bd.state]; rfl
  have N0 := Fr.nil n0
  show GoalS p.tables e below s 0 0 (Q0 Z p1 p2 o_PENDING o_RETURNED o_FAILED o_SUCCEEDED h0 n0) (s₁.setTop (entryFrame m #[(.int p1), (.int p2)] maxLocals))
  refine GoalS.lift (B := s₁.setTop (mkF m 0 #[.val (.int p1), .val (.int p2), .unset, .unset, .unset] [])) (fun t k => castTop (ef_rm0 m p1 p2) k) ?_
  refine GoalS.lift (B := (s₁.setTop (mkF m 3 #[.val (.int p1), .val (.int p2), .unset, .unset, .unset] [(.int (p1 &&& (3 : Int32)))]))) (fun t k => ?_) ?_
  · show Steps p.tables e below (s₁.setTop (mkF m 0 #[.val (.int p1), .val (.int p2), .unset, .unset, .unset] [])) _
    refine XS.iloadN X0.here hx rfl (hb hby at_0) rfl ?_
    show Steps p.tables e below (s₁.setTop (mkF m 1 #[.val (.int p1), .val (.int p2), .unset, .unset, .unset] [(.int p1)])) _
    refine XS.iconst X0.here hx rfl (hb hby at_1) ?_
    show Steps p.tables e below (s₁.setTop (mkF m 2 #[.val (.int p1), .val (.int p2), .unset, .unset, .unset] [(.int (3 : Int32)), (.int p1)])) _
    refine XS.iand X0.here hx rfl (hb hby at_2) rfl ?_
    exact k
  rcases own_four p1 with hk2 | hk2 | hk2 | hk2
  · rw [hk2]
    refine GoalS.lift (B := (s₁.setTop (mkF m 7 #[.val (.int p1), .val (.int p2), .val (.int (0 : Int32)), .unset, .unset] [(.int (p2 &&& (3 : Int32)))]))) (fun t k => ?_) ?_
    · show Steps p.tables e below (s₁.setTop (mkF m 3 #[.val (.int p1), .val (.int p2), .unset, .unset, .unset] [(.int (0 : Int32))])) _
      refine XS.istoreN X0.here hx rfl (hb hby at_3) rfl (l' := #[.val (.int p1), .val (.int p2), .val (.int (0 : Int32)), .unset, .unset]) rfl ?_
      show Steps p.tables e below (s₁.setTop (mkF m 4 #[.val (.int p1), .val (.int p2), .val (.int (0 : Int32)), .unset, .unset] [])) _
      refine XS.iloadN X0.here hx rfl (hb hby at_4) rfl ?_
      show Steps p.tables e below (s₁.setTop (mkF m 5 #[.val (.int p1), .val (.int p2), .val (.int (0 : Int32)), .unset, .unset] [(.int p2)])) _
      refine XS.iconst X0.here hx rfl (hb hby at_5) ?_
      show Steps p.tables e below (s₁.setTop (mkF m 6 #[.val (.int p1), .val (.int p2), .val (.int (0 : Int32)), .unset, .unset] [(.int (3 : Int32)), (.int p2)])) _
      refine XS.iand X0.here hx rfl (hb hby at_6) rfl ?_
      exact k
    rcases own_four p2 with hk6 | hk6 | hk6 | hk6
    · rw [hk6]
      obtain ⟨_, _, ⟨T1, L1, k1, n1⟩, -, X1, ⟨Lc1, hQ1, l1, y1, z1⟩, st1⟩ := Jvm.LawKit.callS X0 hx (y := (⟨"com/example/rialto/rialto/core/movement/WithdrawalStatusHasBeenPinLaw", "pick", "(I)Lcom/example/rialto/rialto/core/movement/WithdrawalStatus;"⟩ : MethodName)) hown (mvT hZ (hw _ (List.mem_of_getElem? (i := 0) rfl))) (mvT hZ (hw _ (List.mem_of_getElem? (i := 1) rfl))) (mvT hZ (hw _ (List.mem_of_getElem? (i := 2) rfl))) (mvT hZ (hw _ (List.mem_of_getElem? (i := 3) rfl))) (by decide) (backOf (W := 0) (rm1 l Z a0 hw [] (0 : Int32) o_PENDING o_RETURNED o_FAILED o_SUCCEEDED h0 n0 Z0 S_PENDING S_RETURNED S_FAILED S_SUCCEEDED) hZ (hw _ (List.mem_of_getElem? (i := 3) rfl)) (hw _ (List.mem_of_getElem? (i := 2) rfl)) (by decide) (by decide)) (g := (mkF m 35 #[.val (.int p1), .val (.int p2), .val (.int (0 : Int32)), .val (.int (0 : Int32)), .val (.int (1 : Int32))] [(.int (0 : Int32))])) rfl (by rw [hml]; rfl) (argsL := [(.int (0 : Int32))]) (rest := []) (lenOf pd_0 rfl) rfl (by show 2 * 0 + _ ≤ _; exact Nat.le_of_eq rfl) (hb hby at_35) (fun _ _ => ⟨rfl, e0, (by decide : 0 + 0 ≤ _), (by decide : 0 + 0 ≤ _)⟩)
      dsimp only [Pt.U, Pt.locs, Pt.cells, Pt.slots] at X1 l1 y1 z1 st1 hQ1
      subst l1 y1 z1
      obtain ⟨r1, rfl, hr1, N1q, eq1⟩ := hQ1
      have N1 := Fr.app N0 N1q
      have hqr1 : r1 = o_PENDING := by rw [hr1]; rfl
      refine GoalS.lift (B := (T1.setTop (mkF m 38 #[.val (.int p1), .val (.int p2), .val (.int (0 : Int32)), .val (.int (0 : Int32)), .val (.int (1 : Int32))] [(.ref r1)]))) (fun t k => ?_) ?_
      · show Steps p.tables e below (s₁.setTop (mkF m 7 #[.val (.int p1), .val (.int p2), .val (.int (0 : Int32)), .unset, .unset] [(.int (0 : Int32))])) _
        refine XS.istoreN X0.here hx rfl (hb hby at_7) rfl (l' := #[.val (.int p1), .val (.int p2), .val (.int (0 : Int32)), .val (.int (0 : Int32)), .unset]) rfl ?_
        show Steps p.tables e below (s₁.setTop (mkF m 8 #[.val (.int p1), .val (.int p2), .val (.int (0 : Int32)), .val (.int (0 : Int32)), .unset] [])) _
        refine XS.iloadN X0.here hx rfl (hb hby at_8) rfl ?_
        show Steps p.tables e below (s₁.setTop (mkF m 9 #[.val (.int p1), .val (.int p2), .val (.int (0 : Int32)), .val (.int (0 : Int32)), .unset] [(.int (0 : Int32))])) _
        refine XS.iloadN X0.here hx rfl (hb hby at_9) rfl ?_
        show Steps p.tables e below (s₁.setTop (mkF m 10 #[.val (.int p1), .val (.int p2), .val (.int (0 : Int32)), .val (.int (0 : Int32)), .unset] [(.int (0 : Int32)), (.int (0 : Int32))])) _
        refine XS.icmpYes X0.here hx rfl (pc0 := 10) (pc' := 27) rfl (hb hby at_10) rfl ((teq (by decide : (0 : Int32) = (0 : Int32))).1) (by decide) (by decide) ?_
        show Steps p.tables e below (s₁.setTop (mkF m 27 #[.val (.int p1), .val (.int p2), .val (.int (0 : Int32)), .val (.int (0 : Int32)), .unset] [])) _
        refine XS.iconst X0.here hx rfl (hb hby at_27) ?_
        show Steps p.tables e below (s₁.setTop (mkF m 28 #[.val (.int p1), .val (.int p2), .val (.int (0 : Int32)), .val (.int (0 : Int32)), .unset] [(.int (1 : Int32))])) _
        refine XS.goto X0.here hx rfl (pc0 := 28) (pc' := 32) rfl (hb hby at_28) (by decide) (by decide) ?_
        show Steps p.tables e below (s₁.setTop (mkF m 32 #[.val (.int p1), .val (.int p2), .val (.int (0 : Int32)), .val (.int (0 : Int32)), .unset] [(.int (1 : Int32))])) _
        refine XS.istore X0.here hx rfl (hb hby at_32) rfl (l' := #[.val (.int p1), .val (.int p2), .val (.int (0 : Int32)), .val (.int (0 : Int32)), .val (.int (1 : Int32))]) rfl ?_
        show Steps p.tables e below (s₁.setTop (mkF m 34 #[.val (.int p1), .val (.int p2), .val (.int (0 : Int32)), .val (.int (0 : Int32)), .val (.int (1 : Int32))] [])) _
        refine XS.iloadN X0.here hx rfl (hb hby at_34) rfl ?_
        show Steps p.tables e below (s₁.setTop (mkF m 35 #[.val (.int p1), .val (.int p2), .val (.int (0 : Int32)), .val (.int (0 : Int32)), .val (.int (1 : Int32))] [(.int (0 : Int32))])) _
        refine st1 _ ?_
        exact k
      rw [hqr1]
      obtain ⟨_, _, ⟨T2, L2, k2, n2⟩, -, X2, ⟨Lc2, hQ2, l2, y2, z2⟩, st2⟩ := Jvm.LawKit.callS X1 hx (y := (⟨"com/example/rialto/rialto/core/movement/WithdrawalStatusHasBeenPinLaw", "pick", "(I)Lcom/example/rialto/rialto/core/movement/WithdrawalStatus;"⟩ : MethodName)) hown (mvT hZ (hw _ (List.mem_of_getElem? (i := 0) rfl))) (mvT hZ (hw _ (List.mem_of_getElem? (i := 1) rfl))) (mvT hZ (hw _ (List.mem_of_getElem? (i := 2) rfl))) (mvT hZ (hw _ (List.mem_of_getElem? (i := 3) rfl))) (by decide) (backOf (W := 1) (rm1 l Z a0 hw [] (0 : Int32) o_PENDING o_RETURNED o_FAILED o_SUCCEEDED h0 n0 Z0 S_PENDING S_RETURNED S_FAILED S_SUCCEEDED) hZ (hw _ (List.mem_of_getElem? (i := 3) rfl)) (hw _ (List.mem_of_getElem? (i := 2) rfl)) (by decide) (by decide)) (g := (mkF m 39 #[.val (.int p1), .val (.int p2), .val (.int (0 : Int32)), .val (.int (0 : Int32)), .val (.int (1 : Int32))] [(.int (0 : Int32)), (.ref o_PENDING)])) rfl (by rw [hml]; rfl) (argsL := [(.int (0 : Int32))]) (rest := [(.ref o_PENDING)]) (lenOf pd_0 rfl) rfl (by show 2 * 0 + _ ≤ _; exact Nat.le_of_eq rfl) (hb hby at_39) (fun _ _ => ⟨rfl, eq1, (by decide : 0 + 0 ≤ _), (by decide : 0 + 0 ≤ _)⟩)
      dsimp only [Pt.U, Pt.locs, Pt.cells, Pt.slots] at X2 l2 y2 z2 st2 hQ2
      subst l2 y2 z2
      obtain ⟨r2, rfl, hr2, N2q, eq2⟩ := hQ2
      have N2 := Fr.app N1 N2q
      have hqr2 : r2 = o_PENDING := by rw [hr2]; rfl
      refine GoalS.lift (B := (T2.setTop (mkF m 42 #[.val (.int p1), .val (.int p2), .val (.int (0 : Int32)), .val (.int (0 : Int32)), .val (.int (1 : Int32))] [(.ref r2), (.ref o_PENDING)]))) (fun t k => ?_) ?_
      · show Steps p.tables e below (T1.setTop (mkF m 38 #[.val (.int p1), .val (.int p2), .val (.int (0 : Int32)), .val (.int (0 : Int32)), .val (.int (1 : Int32))] [(.ref o_PENDING)])) _
        refine XS.iloadN X1.here hx rfl (hb hby at_38) rfl ?_
        show Steps p.tables e below (T1.setTop (mkF m 39 #[.val (.int p1), .val (.int p2), .val (.int (0 : Int32)), .val (.int (0 : Int32)), .val (.int (1 : Int32))] [(.int (0 : Int32)), (.ref o_PENDING)])) _
        refine st2 _ ?_
        exact k
      rw [hqr2]
      obtain ⟨cq3, kq3, q3a, q3b, q3c⟩ := isOf hZ eq2 E_o_PENDING
      obtain ⟨_, _, ⟨T3, L3, k3, n3⟩, -, X3, ⟨Lc3, hQ3, l3, y3, z3⟩, st3⟩ := X2.virtualBack hx (y := (⟨"com/example/rialto/rialto/core/movement/WithdrawalStatus", "hasBeen", "(Lcom/example/rialto/rialto/core/movement/WithdrawalStatus;)Z"⟩ : MethodName)) (z := (⟨"com/example/rialto/rialto/core/movement/WithdrawalStatus", "hasBeen", "(Lcom/example/rialto/rialto/core/movement/WithdrawalStatus;)Z"⟩ : MethodName)) hown (mvT hZ (hw _ (List.mem_of_getElem? (i := 9) rfl))) (mvT hZ (hw _ (List.mem_of_getElem? (i := 10) rfl))) (notFace_of_selects (args := #[]) (mvT hZ (hw _ (List.mem_of_getElem? (i := 12) rfl)))) (mvT hZ (hw _ (List.mem_of_getElem? (i := 12) rfl))) (mvT hZ (hw _ (List.mem_of_getElem? (i := 11) rfl))) (by decide) (backOf (W := 0) (rm2_00 l Z a0 hw [] o_PENDING o_RETURNED o_FAILED o_SUCCEEDED h0 n0 Z0 F_reachedFrom_o_PENDING F_reachedFrom_o_FAILED F_reachedFrom_o_SUCCEEDED F_reachedFrom_o_RETURNED ne_o_PENDING_o_RETURNED ne_o_PENDING_o_FAILED ne_o_PENDING_o_SUCCEEDED ne_o_RETURNED_o_FAILED ne_o_RETURNED_o_SUCCEEDED ne_o_FAILED_o_SUCCEEDED) hZ (hw _ (List.mem_of_getElem? (i := 13) rfl)) (hw _ (List.mem_of_getElem? (i := 5) rfl)) (by decide) (by decide)) q3a q3c (g := (mkF m 42 #[.val (.int p1), .val (.int p2), .val (.int (0 : Int32)), .val (.int (0 : Int32)), .val (.int (1 : Int32))] [(.ref o_PENDING), (.ref o_PENDING)])) rfl (by rw [hml]; rfl) (Steps.refl _) (argsL := [(.ref o_PENDING)]) (rest := []) (lenOf pd_1 rfl) rfl (by show 2 * 0 + _ ≤ _; exact Nat.le_of_eq rfl) (hb hby at_42) (fun _ _ => ⟨rfl, eq2, (by decide : 0 + 0 ≤ _), (by decide : 0 + 0 ≤ _)⟩)
      dsimp only [Pt.U, Pt.locs, Pt.cells, Pt.slots] at X3 l3 y3 z3 st3 hQ3
      subst l3 y3 z3
      obtain ⟨r3, rfl, hr3, N3q, eq3⟩ := hQ3
      have N3 := Fr.app N2 N3q
      obtain ⟨fs, hr, hrun, hended, hW, hsame⟩ := X3.leave (v := some (.int (1 : Int32))) (fun h => by rw [Bd.returns] at h; cases h)
      refine ⟨_, _, ?_, hrun, hended, _, _, rfl, ?_, ⟨_, rfl⟩, hW, hsame.mono (by decide) (by decide)⟩
      · show Steps p.tables e below (T2.setTop (mkF m 42 #[.val (.int p1), .val (.int p2), .val (.int (0 : Int32)), .val (.int (0 : Int32)), .val (.int (1 : Int32))] [(.ref o_PENDING), (.ref o_PENDING)])) _
        refine st3.trans ?_
        show Steps p.tables e below (T3.setTop (mkF m 45 #[.val (.int p1), .val (.int p2), .val (.int (0 : Int32)), .val (.int (0 : Int32)), .val (.int (1 : Int32))] [(.int r3)])) _
        refine XS.iload X3.here hx rfl (hb hby at_45) rfl ?_
        show Steps p.tables e below (T3.setTop (mkF m 47 #[.val (.int p1), .val (.int p2), .val (.int (0 : Int32)), .val (.int (0 : Int32)), .val (.int (1 : Int32))] [(.int (1 : Int32)), (.int r3)])) _
        refine XS.icmpNo X3.here hx rfl (hb hby at_47) rfl ((teq (by rw [hr3] : r3 = (1 : Int32))).2) ?_
        show Steps p.tables e below (T3.setTop (mkF m 50 #[.val (.int p1), .val (.int p2), .val (.int (0 : Int32)), .val (.int (0 : Int32)), .val (.int (1 : Int32))] [])) _
        refine XS.iconst X3.here hx rfl (hb hby at_50) ?_
        show Steps p.tables e below (T3.setTop (mkF m 51 #[.val (.int p1), .val (.int p2), .val (.int (0 : Int32)), .val (.int (0 : Int32)), .val (.int (1 : Int32))] [(.int (1 : Int32))])) _
        refine XS.goto X3.here hx rfl (pc0 := 51) (pc' := 55) rfl (hb hby at_51) (by decide) (by decide) ?_
        show Steps p.tables e below (T3.setTop (mkF m 55 #[.val (.int p1), .val (.int p2), .val (.int (0 : Int32)), .val (.int (0 : Int32)), .val (.int (1 : Int32))] [(.int (1 : Int32))])) _
        exact retN X3 hx (t := .boolean) Bd.returns (by simp) (hb hby at_55) hr
      · exact ⟨rfl, N3⟩
    · rw [hk6]
      obtain ⟨_, _, ⟨T4, L4, k4, n4⟩, -, X4, ⟨Lc4, hQ4, l4, y4, z4⟩, st4⟩ := Jvm.LawKit.callS X0 hx (y := (⟨"com/example/rialto/rialto/core/movement/WithdrawalStatusHasBeenPinLaw", "pick", "(I)Lcom/example/rialto/rialto/core/movement/WithdrawalStatus;"⟩ : MethodName)) hown (mvT hZ (hw _ (List.mem_of_getElem? (i := 0) rfl))) (mvT hZ (hw _ (List.mem_of_getElem? (i := 1) rfl))) (mvT hZ (hw _ (List.mem_of_getElem? (i := 2) rfl))) (mvT hZ (hw _ (List.mem_of_getElem? (i := 3) rfl))) (by decide) (backOf (W := 0) (rm1 l Z a0 hw [] (0 : Int32) o_PENDING o_RETURNED o_FAILED o_SUCCEEDED h0 n0 Z0 S_PENDING S_RETURNED S_FAILED S_SUCCEEDED) hZ (hw _ (List.mem_of_getElem? (i := 3) rfl)) (hw _ (List.mem_of_getElem? (i := 2) rfl)) (by decide) (by decide)) (g := (mkF m 35 #[.val (.int p1), .val (.int p2), .val (.int (0 : Int32)), .val (.int (1 : Int32)), .val (.int (0 : Int32))] [(.int (0 : Int32))])) rfl (by rw [hml]; rfl) (argsL := [(.int (0 : Int32))]) (rest := []) (lenOf pd_0 rfl) rfl (by show 2 * 0 + _ ≤ _; exact Nat.le_of_eq rfl) (hb hby at_35) (fun _ _ => ⟨rfl, e0, (by decide : 0 + 0 ≤ _), (by decide : 0 + 0 ≤ _)⟩)
      dsimp only [Pt.U, Pt.locs, Pt.cells, Pt.slots] at X4 l4 y4 z4 st4 hQ4
      subst l4 y4 z4
      obtain ⟨r4, rfl, hr4, N4q, eq4⟩ := hQ4
      have N4 := Fr.app N0 N4q
      have hqr4 : r4 = o_PENDING := by rw [hr4]; rfl
      refine GoalS.lift (B := (T4.setTop (mkF m 38 #[.val (.int p1), .val (.int p2), .val (.int (0 : Int32)), .val (.int (1 : Int32)), .val (.int (0 : Int32))] [(.ref r4)]))) (fun t k => ?_) ?_
      · show Steps p.tables e below (s₁.setTop (mkF m 7 #[.val (.int p1), .val (.int p2), .val (.int (0 : Int32)), .unset, .unset] [(.int (1 : Int32))])) _
        refine XS.istoreN X0.here hx rfl (hb hby at_7) rfl (l' := #[.val (.int p1), .val (.int p2), .val (.int (0 : Int32)), .val (.int (1 : Int32)), .unset]) rfl ?_
        show Steps p.tables e below (s₁.setTop (mkF m 8 #[.val (.int p1), .val (.int p2), .val (.int (0 : Int32)), .val (.int (1 : Int32)), .unset] [])) _
        refine XS.iloadN X0.here hx rfl (hb hby at_8) rfl ?_
        show Steps p.tables e below (s₁.setTop (mkF m 9 #[.val (.int p1), .val (.int p2), .val (.int (0 : Int32)), .val (.int (1 : Int32)), .unset] [(.int (0 : Int32))])) _
        refine XS.iloadN X0.here hx rfl (hb hby at_9) rfl ?_
        show Steps p.tables e below (s₁.setTop (mkF m 10 #[.val (.int p1), .val (.int p2), .val (.int (0 : Int32)), .val (.int (1 : Int32)), .unset] [(.int (1 : Int32)), (.int (0 : Int32))])) _
        refine XS.icmpNo X0.here hx rfl (hb hby at_10) rfl ((feq (by decide : ¬ ((0 : Int32) = (1 : Int32)))).1) ?_
        show Steps p.tables e below (s₁.setTop (mkF m 13 #[.val (.int p1), .val (.int p2), .val (.int (0 : Int32)), .val (.int (1 : Int32)), .unset] [])) _
        refine XS.iloadN X0.here hx rfl (hb hby at_13) rfl ?_
        show Steps p.tables e below (s₁.setTop (mkF m 14 #[.val (.int p1), .val (.int p2), .val (.int (0 : Int32)), .val (.int (1 : Int32)), .unset] [(.int (1 : Int32))])) _
        refine XS.ifNo X0.here hx rfl (hb hby at_14) rfl ((if0 _ _).trans (feq (by decide : ¬ ((1 : Int32) = (0 : Int32)))).1) ?_
        show Steps p.tables e below (s₁.setTop (mkF m 17 #[.val (.int p1), .val (.int p2), .val (.int (0 : Int32)), .val (.int (1 : Int32)), .unset] [])) _
        refine XS.iloadN X0.here hx rfl (hb hby at_17) rfl ?_
        show Steps p.tables e below (s₁.setTop (mkF m 18 #[.val (.int p1), .val (.int p2), .val (.int (0 : Int32)), .val (.int (1 : Int32)), .unset] [(.int (0 : Int32))])) _
        refine XS.iconst X0.here hx rfl (hb hby at_18) ?_
        show Steps p.tables e below (s₁.setTop (mkF m 19 #[.val (.int p1), .val (.int p2), .val (.int (0 : Int32)), .val (.int (1 : Int32)), .unset] [(.int (3 : Int32)), (.int (0 : Int32))])) _
        refine XS.icmpYes X0.here hx rfl (pc0 := 19) (pc' := 31) rfl (hb hby at_19) rfl ((feq (by decide : ¬ ((0 : Int32) = (3 : Int32)))).2) (by decide) (by decide) ?_
        show Steps p.tables e below (s₁.setTop (mkF m 31 #[.val (.int p1), .val (.int p2), .val (.int (0 : Int32)), .val (.int (1 : Int32)), .unset] [])) _
        refine XS.iconst X0.here hx rfl (hb hby at_31) ?_
        show Steps p.tables e below (s₁.setTop (mkF m 32 #[.val (.int p1), .val (.int p2), .val (.int (0 : Int32)), .val (.int (1 : Int32)), .unset] [(.int (0 : Int32))])) _
        refine XS.istore X0.here hx rfl (hb hby at_32) rfl (l' := #[.val (.int p1), .val (.int p2), .val (.int (0 : Int32)), .val (.int (1 : Int32)), .val (.int (0 : Int32))]) rfl ?_
        show Steps p.tables e below (s₁.setTop (mkF m 34 #[.val (.int p1), .val (.int p2), .val (.int (0 : Int32)), .val (.int (1 : Int32)), .val (.int (0 : Int32))] [])) _
        refine XS.iloadN X0.here hx rfl (hb hby at_34) rfl ?_
        show Steps p.tables e below (s₁.setTop (mkF m 35 #[.val (.int p1), .val (.int p2), .val (.int (0 : Int32)), .val (.int (1 : Int32)), .val (.int (0 : Int32))] [(.int (0 : Int32))])) _
        refine st4 _ ?_
        exact k
      rw [hqr4]
      obtain ⟨_, _, ⟨T5, L5, k5, n5⟩, -, X5, ⟨Lc5, hQ5, l5, y5, z5⟩, st5⟩ := Jvm.LawKit.callS X4 hx (y := (⟨"com/example/rialto/rialto/core/movement/WithdrawalStatusHasBeenPinLaw", "pick", "(I)Lcom/example/rialto/rialto/core/movement/WithdrawalStatus;"⟩ : MethodName)) hown (mvT hZ (hw _ (List.mem_of_getElem? (i := 0) rfl))) (mvT hZ (hw _ (List.mem_of_getElem? (i := 1) rfl))) (mvT hZ (hw _ (List.mem_of_getElem? (i := 2) rfl))) (mvT hZ (hw _ (List.mem_of_getElem? (i := 3) rfl))) (by decide) (backOf (W := 1) (rm1 l Z a0 hw [] (1 : Int32) o_PENDING o_RETURNED o_FAILED o_SUCCEEDED h0 n0 Z0 S_PENDING S_RETURNED S_FAILED S_SUCCEEDED) hZ (hw _ (List.mem_of_getElem? (i := 3) rfl)) (hw _ (List.mem_of_getElem? (i := 2) rfl)) (by decide) (by decide)) (g := (mkF m 39 #[.val (.int p1), .val (.int p2), .val (.int (0 : Int32)), .val (.int (1 : Int32)), .val (.int (0 : Int32))] [(.int (1 : Int32)), (.ref o_PENDING)])) rfl (by rw [hml]; rfl) (argsL := [(.int (1 : Int32))]) (rest := [(.ref o_PENDING)]) (lenOf pd_0 rfl) rfl (by show 2 * 0 + _ ≤ _; exact Nat.le_of_eq rfl) (hb hby at_39) (fun _ _ => ⟨rfl, eq4, (by decide : 0 + 0 ≤ _), (by decide : 0 + 0 ≤ _)⟩)
      dsimp only [Pt.U, Pt.locs, Pt.cells, Pt.slots] at X5 l5 y5 z5 st5 hQ5
      subst l5 y5 z5
      obtain ⟨r5, rfl, hr5, N5q, eq5⟩ := hQ5
      have N5 := Fr.app N4 N5q
      have hqr5 : r5 = o_SUCCEEDED := by rw [hr5]; rfl
      refine GoalS.lift (B := (T5.setTop (mkF m 42 #[.val (.int p1), .val (.int p2), .val (.int (0 : Int32)), .val (.int (1 : Int32)), .val (.int (0 : Int32))] [(.ref r5), (.ref o_PENDING)]))) (fun t k => ?_) ?_
      · show Steps p.tables e below (T4.setTop (mkF m 38 #[.val (.int p1), .val (.int p2), .val (.int (0 : Int32)), .val (.int (1 : Int32)), .val (.int (0 : Int32))] [(.ref o_PENDING)])) _
        refine XS.iloadN X4.here hx rfl (hb hby at_38) rfl ?_
        show Steps p.tables e below (T4.setTop (mkF m 39 #[.val (.int p1), .val (.int p2), .val (.int (0 : Int32)), .val (.int (1 : Int32)), .val (.int (0 : Int32))] [(.int (1 : Int32)), (.ref o_PENDING)])) _
        refine st5 _ ?_
        exact k
      rw [hqr5]
      obtain ⟨cq6, kq6, q6a, q6b, q6c⟩ := isOf hZ eq5 E_o_PENDING
      obtain ⟨_, _, ⟨T6, L6, k6, n6⟩, -, X6, ⟨Lc6, hQ6, l6, y6, z6⟩, st6⟩ := X5.virtualBack hx (y := (⟨"com/example/rialto/rialto/core/movement/WithdrawalStatus", "hasBeen", "(Lcom/example/rialto/rialto/core/movement/WithdrawalStatus;)Z"⟩ : MethodName)) (z := (⟨"com/example/rialto/rialto/core/movement/WithdrawalStatus", "hasBeen", "(Lcom/example/rialto/rialto/core/movement/WithdrawalStatus;)Z"⟩ : MethodName)) hown (mvT hZ (hw _ (List.mem_of_getElem? (i := 9) rfl))) (mvT hZ (hw _ (List.mem_of_getElem? (i := 10) rfl))) (notFace_of_selects (args := #[]) (mvT hZ (hw _ (List.mem_of_getElem? (i := 12) rfl)))) (mvT hZ (hw _ (List.mem_of_getElem? (i := 12) rfl))) (mvT hZ (hw _ (List.mem_of_getElem? (i := 11) rfl))) (by decide) (backOf (W := 0) (rm2_01 l Z a0 hw [] o_PENDING o_SUCCEEDED o_RETURNED o_FAILED h0 n0 Z0 F_reachedFrom_o_PENDING F_reachedFrom_o_FAILED F_reachedFrom_o_SUCCEEDED F_reachedFrom_o_RETURNED ne_o_PENDING_o_RETURNED ne_o_PENDING_o_FAILED ne_o_PENDING_o_SUCCEEDED ne_o_RETURNED_o_FAILED ne_o_RETURNED_o_SUCCEEDED ne_o_FAILED_o_SUCCEEDED) hZ (hw _ (List.mem_of_getElem? (i := 13) rfl)) (hw _ (List.mem_of_getElem? (i := 5) rfl)) (by decide) (by decide)) q6a q6c (g := (mkF m 42 #[.val (.int p1), .val (.int p2), .val (.int (0 : Int32)), .val (.int (1 : Int32)), .val (.int (0 : Int32))] [(.ref o_SUCCEEDED), (.ref o_PENDING)])) rfl (by rw [hml]; rfl) (Steps.refl _) (argsL := [(.ref o_SUCCEEDED)]) (rest := []) (lenOf pd_1 rfl) rfl (by show 2 * 0 + _ ≤ _; exact Nat.le_of_eq rfl) (hb hby at_42) (fun _ _ => ⟨rfl, eq5, (by decide : 0 + 0 ≤ _), (by decide : 0 + 0 ≤ _)⟩)
      dsimp only [Pt.U, Pt.locs, Pt.cells, Pt.slots] at X6 l6 y6 z6 st6 hQ6
      subst l6 y6 z6
      obtain ⟨r6, rfl, hr6, N6q, eq6⟩ := hQ6
      have N6 := Fr.app N5 N6q
      obtain ⟨fs, hr, hrun, hended, hW, hsame⟩ := X6.leave (v := some (.int (1 : Int32))) (fun h => by rw [Bd.returns] at h; cases h)
      refine ⟨_, _, ?_, hrun, hended, _, _, rfl, ?_, ⟨_, rfl⟩, hW, hsame.mono (by decide) (by decide)⟩
      · show Steps p.tables e below (T5.setTop (mkF m 42 #[.val (.int p1), .val (.int p2), .val (.int (0 : Int32)), .val (.int (1 : Int32)), .val (.int (0 : Int32))] [(.ref o_SUCCEEDED), (.ref o_PENDING)])) _
        refine st6.trans ?_
        show Steps p.tables e below (T6.setTop (mkF m 45 #[.val (.int p1), .val (.int p2), .val (.int (0 : Int32)), .val (.int (1 : Int32)), .val (.int (0 : Int32))] [(.int r6)])) _
        refine XS.iload X6.here hx rfl (hb hby at_45) rfl ?_
        show Steps p.tables e below (T6.setTop (mkF m 47 #[.val (.int p1), .val (.int p2), .val (.int (0 : Int32)), .val (.int (1 : Int32)), .val (.int (0 : Int32))] [(.int (0 : Int32)), (.int r6)])) _
        refine XS.icmpNo X6.here hx rfl (hb hby at_47) rfl ((teq (by rw [hr6] : r6 = (0 : Int32))).2) ?_
        show Steps p.tables e below (T6.setTop (mkF m 50 #[.val (.int p1), .val (.int p2), .val (.int (0 : Int32)), .val (.int (1 : Int32)), .val (.int (0 : Int32))] [])) _
        refine XS.iconst X6.here hx rfl (hb hby at_50) ?_
        show Steps p.tables e below (T6.setTop (mkF m 51 #[.val (.int p1), .val (.int p2), .val (.int (0 : Int32)), .val (.int (1 : Int32)), .val (.int (0 : Int32))] [(.int (1 : Int32))])) _
        refine XS.goto X6.here hx rfl (pc0 := 51) (pc' := 55) rfl (hb hby at_51) (by decide) (by decide) ?_
        show Steps p.tables e below (T6.setTop (mkF m 55 #[.val (.int p1), .val (.int p2), .val (.int (0 : Int32)), .val (.int (1 : Int32)), .val (.int (0 : Int32))] [(.int (1 : Int32))])) _
        exact retN X6 hx (t := .boolean) Bd.returns (by simp) (hb hby at_55) hr
      · exact ⟨rfl, N6⟩
    · rw [hk6]
      obtain ⟨_, _, ⟨T7, L7, k7, n7⟩, -, X7, ⟨Lc7, hQ7, l7, y7, z7⟩, st7⟩ := Jvm.LawKit.callS X0 hx (y := (⟨"com/example/rialto/rialto/core/movement/WithdrawalStatusHasBeenPinLaw", "pick", "(I)Lcom/example/rialto/rialto/core/movement/WithdrawalStatus;"⟩ : MethodName)) hown (mvT hZ (hw _ (List.mem_of_getElem? (i := 0) rfl))) (mvT hZ (hw _ (List.mem_of_getElem? (i := 1) rfl))) (mvT hZ (hw _ (List.mem_of_getElem? (i := 2) rfl))) (mvT hZ (hw _ (List.mem_of_getElem? (i := 3) rfl))) (by decide) (backOf (W := 0) (rm1 l Z a0 hw [] (0 : Int32) o_PENDING o_RETURNED o_FAILED o_SUCCEEDED h0 n0 Z0 S_PENDING S_RETURNED S_FAILED S_SUCCEEDED) hZ (hw _ (List.mem_of_getElem? (i := 3) rfl)) (hw _ (List.mem_of_getElem? (i := 2) rfl)) (by decide) (by decide)) (g := (mkF m 35 #[.val (.int p1), .val (.int p2), .val (.int (0 : Int32)), .val (.int (2 : Int32)), .val (.int (0 : Int32))] [(.int (0 : Int32))])) rfl (by rw [hml]; rfl) (argsL := [(.int (0 : Int32))]) (rest := []) (lenOf pd_0 rfl) rfl (by show 2 * 0 + _ ≤ _; exact Nat.le_of_eq rfl) (hb hby at_35) (fun _ _ => ⟨rfl, e0, (by decide : 0 + 0 ≤ _), (by decide : 0 + 0 ≤ _)⟩)
      dsimp only [Pt.U, Pt.locs, Pt.cells, Pt.slots] at X7 l7 y7 z7 st7 hQ7
      subst l7 y7 z7
      obtain ⟨r7, rfl, hr7, N7q, eq7⟩ := hQ7
      have N7 := Fr.app N0 N7q
      have hqr7 : r7 = o_PENDING := by rw [hr7]; rfl
      refine GoalS.lift (B := (T7.setTop (mkF m 38 #[.val (.int p1), .val (.int p2), .val (.int (0 : Int32)), .val (.int (2 : Int32)), .val (.int (0 : Int32))] [(.ref r7)]))) (fun t k => ?_) ?_
      · show Steps p.tables e below (s₁.setTop (mkF m 7 #[.val (.int p1), .val (.int p2), .val (.int (0 : Int32)), .unset, .unset] [(.int (2 : Int32))])) _
        refine XS.istoreN X0.here hx rfl (hb hby at_7) rfl (l' := #[.val (.int p1), .val (.int p2), .val (.int (0 : Int32)), .val (.int (2 : Int32)), .unset]) rfl ?_
        show Steps p.tables e below (s₁.setTop (mkF m 8 #[.val (.int p1), .val (.int p2), .val (.int (0 : Int32)), .val (.int (2 : Int32)), .unset] [])) _
        refine XS.iloadN X0.here hx rfl (hb hby at_8) rfl ?_
        show Steps p.tables e below (s₁.setTop (mkF m 9 #[.val (.int p1), .val (.int p2), .val (.int (0 : Int32)), .val (.int (2 : Int32)), .unset] [(.int (0 : Int32))])) _
        refine XS.iloadN X0.here hx rfl (hb hby at_9) rfl ?_
        show Steps p.tables e below (s₁.setTop (mkF m 10 #[.val (.int p1), .val (.int p2), .val (.int (0 : Int32)), .val (.int (2 : Int32)), .unset] [(.int (2 : Int32)), (.int (0 : Int32))])) _
        refine XS.icmpNo X0.here hx rfl (hb hby at_10) rfl ((feq (by decide : ¬ ((0 : Int32) = (2 : Int32)))).1) ?_
        show Steps p.tables e below (s₁.setTop (mkF m 13 #[.val (.int p1), .val (.int p2), .val (.int (0 : Int32)), .val (.int (2 : Int32)), .unset] [])) _
        refine XS.iloadN X0.here hx rfl (hb hby at_13) rfl ?_
        show Steps p.tables e below (s₁.setTop (mkF m 14 #[.val (.int p1), .val (.int p2), .val (.int (0 : Int32)), .val (.int (2 : Int32)), .unset] [(.int (2 : Int32))])) _
        refine XS.ifNo X0.here hx rfl (hb hby at_14) rfl ((if0 _ _).trans (feq (by decide : ¬ ((2 : Int32) = (0 : Int32)))).1) ?_
        show Steps p.tables e below (s₁.setTop (mkF m 17 #[.val (.int p1), .val (.int p2), .val (.int (0 : Int32)), .val (.int (2 : Int32)), .unset] [])) _
        refine XS.iloadN X0.here hx rfl (hb hby at_17) rfl ?_
        show Steps p.tables e below (s₁.setTop (mkF m 18 #[.val (.int p1), .val (.int p2), .val (.int (0 : Int32)), .val (.int (2 : Int32)), .unset] [(.int (0 : Int32))])) _
        refine XS.iconst X0.here hx rfl (hb hby at_18) ?_
        show Steps p.tables e below (s₁.setTop (mkF m 19 #[.val (.int p1), .val (.int p2), .val (.int (0 : Int32)), .val (.int (2 : Int32)), .unset] [(.int (3 : Int32)), (.int (0 : Int32))])) _
        refine XS.icmpYes X0.here hx rfl (pc0 := 19) (pc' := 31) rfl (hb hby at_19) rfl ((feq (by decide : ¬ ((0 : Int32) = (3 : Int32)))).2) (by decide) (by decide) ?_
        show Steps p.tables e below (s₁.setTop (mkF m 31 #[.val (.int p1), .val (.int p2), .val (.int (0 : Int32)), .val (.int (2 : Int32)), .unset] [])) _
        refine XS.iconst X0.here hx rfl (hb hby at_31) ?_
        show Steps p.tables e below (s₁.setTop (mkF m 32 #[.val (.int p1), .val (.int p2), .val (.int (0 : Int32)), .val (.int (2 : Int32)), .unset] [(.int (0 : Int32))])) _
        refine XS.istore X0.here hx rfl (hb hby at_32) rfl (l' := #[.val (.int p1), .val (.int p2), .val (.int (0 : Int32)), .val (.int (2 : Int32)), .val (.int (0 : Int32))]) rfl ?_
        show Steps p.tables e below (s₁.setTop (mkF m 34 #[.val (.int p1), .val (.int p2), .val (.int (0 : Int32)), .val (.int (2 : Int32)), .val (.int (0 : Int32))] [])) _
        refine XS.iloadN X0.here hx rfl (hb hby at_34) rfl ?_
        show Steps p.tables e below (s₁.setTop (mkF m 35 #[.val (.int p1), .val (.int p2), .val (.int (0 : Int32)), .val (.int (2 : Int32)), .val (.int (0 : Int32))] [(.int (0 : Int32))])) _
        refine st7 _ ?_
        exact k
      rw [hqr7]
      obtain ⟨_, _, ⟨T8, L8, k8, n8⟩, -, X8, ⟨Lc8, hQ8, l8, y8, z8⟩, st8⟩ := Jvm.LawKit.callS X7 hx (y := (⟨"com/example/rialto/rialto/core/movement/WithdrawalStatusHasBeenPinLaw", "pick", "(I)Lcom/example/rialto/rialto/core/movement/WithdrawalStatus;"⟩ : MethodName)) hown (mvT hZ (hw _ (List.mem_of_getElem? (i := 0) rfl))) (mvT hZ (hw _ (List.mem_of_getElem? (i := 1) rfl))) (mvT hZ (hw _ (List.mem_of_getElem? (i := 2) rfl))) (mvT hZ (hw _ (List.mem_of_getElem? (i := 3) rfl))) (by decide) (backOf (W := 1) (rm1 l Z a0 hw [] (2 : Int32) o_PENDING o_RETURNED o_FAILED o_SUCCEEDED h0 n0 Z0 S_PENDING S_RETURNED S_FAILED S_SUCCEEDED) hZ (hw _ (List.mem_of_getElem? (i := 3) rfl)) (hw _ (List.mem_of_getElem? (i := 2) rfl)) (by decide) (by decide)) (g := (mkF m 39 #[.val (.int p1), .val (.int p2), .val (.int (0 : Int32)), .val (.int (2 : Int32)), .val (.int (0 : Int32))] [(.int (2 : Int32)), (.ref o_PENDING)])) rfl (by rw [hml]; rfl) (argsL := [(.int (2 : Int32))]) (rest := [(.ref o_PENDING)]) (lenOf pd_0 rfl) rfl (by show 2 * 0 + _ ≤ _; exact Nat.le_of_eq rfl) (hb hby at_39) (fun _ _ => ⟨rfl, eq7, (by decide : 0 + 0 ≤ _), (by decide : 0 + 0 ≤ _)⟩)
      dsimp only [Pt.U, Pt.locs, Pt.cells, Pt.slots] at X8 l8 y8 z8 st8 hQ8
      subst l8 y8 z8
      obtain ⟨r8, rfl, hr8, N8q, eq8⟩ := hQ8
      have N8 := Fr.app N7 N8q
      have hqr8 : r8 = o_FAILED := by rw [hr8]; rfl
      refine GoalS.lift (B := (T8.setTop (mkF m 42 #[.val (.int p1), .val (.int p2), .val (.int (0 : Int32)), .val (.int (2 : Int32)), .val (.int (0 : Int32))] [(.ref r8), (.ref o_PENDING)]))) (fun t k => ?_) ?_
      · show Steps p.tables e below (T7.setTop (mkF m 38 #[.val (.int p1), .val (.int p2), .val (.int (0 : Int32)), .val (.int (2 : Int32)), .val (.int (0 : Int32))] [(.ref o_PENDING)])) _
        refine XS.iloadN X7.here hx rfl (hb hby at_38) rfl ?_
        show Steps p.tables e below (T7.setTop (mkF m 39 #[.val (.int p1), .val (.int p2), .val (.int (0 : Int32)), .val (.int (2 : Int32)), .val (.int (0 : Int32))] [(.int (2 : Int32)), (.ref o_PENDING)])) _
        refine st8 _ ?_
        exact k
      rw [hqr8]
      obtain ⟨cq9, kq9, q9a, q9b, q9c⟩ := isOf hZ eq8 E_o_PENDING
      obtain ⟨_, _, ⟨T9, L9, k9, n9⟩, -, X9, ⟨Lc9, hQ9, l9, y9, z9⟩, st9⟩ := X8.virtualBack hx (y := (⟨"com/example/rialto/rialto/core/movement/WithdrawalStatus", "hasBeen", "(Lcom/example/rialto/rialto/core/movement/WithdrawalStatus;)Z"⟩ : MethodName)) (z := (⟨"com/example/rialto/rialto/core/movement/WithdrawalStatus", "hasBeen", "(Lcom/example/rialto/rialto/core/movement/WithdrawalStatus;)Z"⟩ : MethodName)) hown (mvT hZ (hw _ (List.mem_of_getElem? (i := 9) rfl))) (mvT hZ (hw _ (List.mem_of_getElem? (i := 10) rfl))) (notFace_of_selects (args := #[]) (mvT hZ (hw _ (List.mem_of_getElem? (i := 12) rfl)))) (mvT hZ (hw _ (List.mem_of_getElem? (i := 12) rfl))) (mvT hZ (hw _ (List.mem_of_getElem? (i := 11) rfl))) (by decide) (backOf (W := 0) (rm2_02 l Z a0 hw [] o_PENDING o_FAILED o_RETURNED o_SUCCEEDED h0 n0 Z0 F_reachedFrom_o_PENDING F_reachedFrom_o_FAILED F_reachedFrom_o_SUCCEEDED F_reachedFrom_o_RETURNED ne_o_PENDING_o_RETURNED ne_o_PENDING_o_FAILED ne_o_PENDING_o_SUCCEEDED ne_o_RETURNED_o_FAILED ne_o_RETURNED_o_SUCCEEDED ne_o_FAILED_o_SUCCEEDED) hZ (hw _ (List.mem_of_getElem? (i := 13) rfl)) (hw _ (List.mem_of_getElem? (i := 5) rfl)) (by decide) (by decide)) q9a q9c (g := (mkF m 42 #[.val (.int p1), .val (.int p2), .val (.int (0 : Int32)), .val (.int (2 : Int32)), .val (.int (0 : Int32))] [(.ref o_FAILED), (.ref o_PENDING)])) rfl (by rw [hml]; rfl) (Steps.refl _) (argsL := [(.ref o_FAILED)]) (rest := []) (lenOf pd_1 rfl) rfl (by show 2 * 0 + _ ≤ _; exact Nat.le_of_eq rfl) (hb hby at_42) (fun _ _ => ⟨rfl, eq8, (by decide : 0 + 0 ≤ _), (by decide : 0 + 0 ≤ _)⟩)
      dsimp only [Pt.U, Pt.locs, Pt.cells, Pt.slots] at X9 l9 y9 z9 st9 hQ9
      subst l9 y9 z9
      obtain ⟨r9, rfl, hr9, N9q, eq9⟩ := hQ9
      have N9 := Fr.app N8 N9q
      obtain ⟨fs, hr, hrun, hended, hW, hsame⟩ := X9.leave (v := some (.int (1 : Int32))) (fun h => by rw [Bd.returns] at h; cases h)
      refine ⟨_, _, ?_, hrun, hended, _, _, rfl, ?_, ⟨_, rfl⟩, hW, hsame.mono (by decide) (by decide)⟩
      · show Steps p.tables e below (T8.setTop (mkF m 42 #[.val (.int p1), .val (.int p2), .val (.int (0 : Int32)), .val (.int (2 : Int32)), .val (.int (0 : Int32))] [(.ref o_FAILED), (.ref o_PENDING)])) _
        refine st9.trans ?_
        show Steps p.tables e below (T9.setTop (mkF m 45 #[.val (.int p1), .val (.int p2), .val (.int (0 : Int32)), .val (.int (2 : Int32)), .val (.int (0 : Int32))] [(.int r9)])) _
        refine XS.iload X9.here hx rfl (hb hby at_45) rfl ?_
        show Steps p.tables e below (T9.setTop (mkF m 47 #[.val (.int p1), .val (.int p2), .val (.int (0 : Int32)), .val (.int (2 : Int32)), .val (.int (0 : Int32))] [(.int (0 : Int32)), (.int r9)])) _
        refine XS.icmpNo X9.here hx rfl (hb hby at_47) rfl ((teq (by rw [hr9] : r9 = (0 : Int32))).2) ?_
        show Steps p.tables e below (T9.setTop (mkF m 50 #[.val (.int p1), .val (.int p2), .val (.int (0 : Int32)), .val (.int (2 : Int32)), .val (.int (0 : Int32))] [])) _
        refine XS.iconst X9.here hx rfl (hb hby at_50) ?_
        show Steps p.tables e below (T9.setTop (mkF m 51 #[.val (.int p1), .val (.int p2), .val (.int (0 : Int32)), .val (.int (2 : Int32)), .val (.int (0 : Int32))] [(.int (1 : Int32))])) _
        refine XS.goto X9.here hx rfl (pc0 := 51) (pc' := 55) rfl (hb hby at_51) (by decide) (by decide) ?_
        show Steps p.tables e below (T9.setTop (mkF m 55 #[.val (.int p1), .val (.int p2), .val (.int (0 : Int32)), .val (.int (2 : Int32)), .val (.int (0 : Int32))] [(.int (1 : Int32))])) _
        exact retN X9 hx (t := .boolean) Bd.returns (by simp) (hb hby at_55) hr
      · exact ⟨rfl, N9⟩
    · rw [hk6]
      obtain ⟨_, _, ⟨T10, L10, k10, n10⟩, -, X10, ⟨Lc10, hQ10, l10, y10, z10⟩, st10⟩ := Jvm.LawKit.callS X0 hx (y := (⟨"com/example/rialto/rialto/core/movement/WithdrawalStatusHasBeenPinLaw", "pick", "(I)Lcom/example/rialto/rialto/core/movement/WithdrawalStatus;"⟩ : MethodName)) hown (mvT hZ (hw _ (List.mem_of_getElem? (i := 0) rfl))) (mvT hZ (hw _ (List.mem_of_getElem? (i := 1) rfl))) (mvT hZ (hw _ (List.mem_of_getElem? (i := 2) rfl))) (mvT hZ (hw _ (List.mem_of_getElem? (i := 3) rfl))) (by decide) (backOf (W := 0) (rm1 l Z a0 hw [] (0 : Int32) o_PENDING o_RETURNED o_FAILED o_SUCCEEDED h0 n0 Z0 S_PENDING S_RETURNED S_FAILED S_SUCCEEDED) hZ (hw _ (List.mem_of_getElem? (i := 3) rfl)) (hw _ (List.mem_of_getElem? (i := 2) rfl)) (by decide) (by decide)) (g := (mkF m 35 #[.val (.int p1), .val (.int p2), .val (.int (0 : Int32)), .val (.int (3 : Int32)), .val (.int (0 : Int32))] [(.int (0 : Int32))])) rfl (by rw [hml]; rfl) (argsL := [(.int (0 : Int32))]) (rest := []) (lenOf pd_0 rfl) rfl (by show 2 * 0 + _ ≤ _; exact Nat.le_of_eq rfl) (hb hby at_35) (fun _ _ => ⟨rfl, e0, (by decide : 0 + 0 ≤ _), (by decide : 0 + 0 ≤ _)⟩)
      dsimp only [Pt.U, Pt.locs, Pt.cells, Pt.slots] at X10 l10 y10 z10 st10 hQ10
      subst l10 y10 z10
      obtain ⟨r10, rfl, hr10, N10q, eq10⟩ := hQ10
      have N10 := Fr.app N0 N10q
      have hqr10 : r10 = o_PENDING := by rw [hr10]; rfl
      refine GoalS.lift (B := (T10.setTop (mkF m 38 #[.val (.int p1), .val (.int p2), .val (.int (0 : Int32)), .val (.int (3 : Int32)), .val (.int (0 : Int32))] [(.ref r10)]))) (fun t k => ?_) ?_
      · show Steps p.tables e below (s₁.setTop (mkF m 7 #[.val (.int p1), .val (.int p2), .val (.int (0 : Int32)), .unset, .unset] [(.int (3 : Int32))])) _
        refine XS.istoreN X0.here hx rfl (hb hby at_7) rfl (l' := #[.val (.int p1), .val (.int p2), .val (.int (0 : Int32)), .val (.int (3 : Int32)), .unset]) rfl ?_
        show Steps p.tables e below (s₁.setTop (mkF m 8 #[.val (.int p1), .val (.int p2), .val (.int (0 : Int32)), .val (.int (3 : Int32)), .unset] [])) _
        refine XS.iloadN X0.here hx rfl (hb hby at_8) rfl ?_
        show Steps p.tables e below (s₁.setTop (mkF m 9 #[.val (.int p1), .val (.int p2), .val (.int (0 : Int32)), .val (.int (3 : Int32)), .unset] [(.int (0 : Int32))])) _
        refine XS.iloadN X0.here hx rfl (hb hby at_9) rfl ?_
        show Steps p.tables e below (s₁.setTop (mkF m 10 #[.val (.int p1), .val (.int p2), .val (.int (0 : Int32)), .val (.int (3 : Int32)), .unset] [(.int (3 : Int32)), (.int (0 : Int32))])) _
        refine XS.icmpNo X0.here hx rfl (hb hby at_10) rfl ((feq (by decide : ¬ ((0 : Int32) = (3 : Int32)))).1) ?_
        show Steps p.tables e below (s₁.setTop (mkF m 13 #[.val (.int p1), .val (.int p2), .val (.int (0 : Int32)), .val (.int (3 : Int32)), .unset] [])) _
        refine XS.iloadN X0.here hx rfl (hb hby at_13) rfl ?_
        show Steps p.tables e below (s₁.setTop (mkF m 14 #[.val (.int p1), .val (.int p2), .val (.int (0 : Int32)), .val (.int (3 : Int32)), .unset] [(.int (3 : Int32))])) _
        refine XS.ifNo X0.here hx rfl (hb hby at_14) rfl ((if0 _ _).trans (feq (by decide : ¬ ((3 : Int32) = (0 : Int32)))).1) ?_
        show Steps p.tables e below (s₁.setTop (mkF m 17 #[.val (.int p1), .val (.int p2), .val (.int (0 : Int32)), .val (.int (3 : Int32)), .unset] [])) _
        refine XS.iloadN X0.here hx rfl (hb hby at_17) rfl ?_
        show Steps p.tables e below (s₁.setTop (mkF m 18 #[.val (.int p1), .val (.int p2), .val (.int (0 : Int32)), .val (.int (3 : Int32)), .unset] [(.int (0 : Int32))])) _
        refine XS.iconst X0.here hx rfl (hb hby at_18) ?_
        show Steps p.tables e below (s₁.setTop (mkF m 19 #[.val (.int p1), .val (.int p2), .val (.int (0 : Int32)), .val (.int (3 : Int32)), .unset] [(.int (3 : Int32)), (.int (0 : Int32))])) _
        refine XS.icmpYes X0.here hx rfl (pc0 := 19) (pc' := 31) rfl (hb hby at_19) rfl ((feq (by decide : ¬ ((0 : Int32) = (3 : Int32)))).2) (by decide) (by decide) ?_
        show Steps p.tables e below (s₁.setTop (mkF m 31 #[.val (.int p1), .val (.int p2), .val (.int (0 : Int32)), .val (.int (3 : Int32)), .unset] [])) _
        refine XS.iconst X0.here hx rfl (hb hby at_31) ?_
        show Steps p.tables e below (s₁.setTop (mkF m 32 #[.val (.int p1), .val (.int p2), .val (.int (0 : Int32)), .val (.int (3 : Int32)), .unset] [(.int (0 : Int32))])) _
        refine XS.istore X0.here hx rfl (hb hby at_32) rfl (l' := #[.val (.int p1), .val (.int p2), .val (.int (0 : Int32)), .val (.int (3 : Int32)), .val (.int (0 : Int32))]) rfl ?_
        show Steps p.tables e below (s₁.setTop (mkF m 34 #[.val (.int p1), .val (.int p2), .val (.int (0 : Int32)), .val (.int (3 : Int32)), .val (.int (0 : Int32))] [])) _
        refine XS.iloadN X0.here hx rfl (hb hby at_34) rfl ?_
        show Steps p.tables e below (s₁.setTop (mkF m 35 #[.val (.int p1), .val (.int p2), .val (.int (0 : Int32)), .val (.int (3 : Int32)), .val (.int (0 : Int32))] [(.int (0 : Int32))])) _
        refine st10 _ ?_
        exact k
      rw [hqr10]
      obtain ⟨_, _, ⟨T11, L11, k11, n11⟩, -, X11, ⟨Lc11, hQ11, l11, y11, z11⟩, st11⟩ := Jvm.LawKit.callS X10 hx (y := (⟨"com/example/rialto/rialto/core/movement/WithdrawalStatusHasBeenPinLaw", "pick", "(I)Lcom/example/rialto/rialto/core/movement/WithdrawalStatus;"⟩ : MethodName)) hown (mvT hZ (hw _ (List.mem_of_getElem? (i := 0) rfl))) (mvT hZ (hw _ (List.mem_of_getElem? (i := 1) rfl))) (mvT hZ (hw _ (List.mem_of_getElem? (i := 2) rfl))) (mvT hZ (hw _ (List.mem_of_getElem? (i := 3) rfl))) (by decide) (backOf (W := 1) (rm1 l Z a0 hw [] (3 : Int32) o_PENDING o_RETURNED o_FAILED o_SUCCEEDED h0 n0 Z0 S_PENDING S_RETURNED S_FAILED S_SUCCEEDED) hZ (hw _ (List.mem_of_getElem? (i := 3) rfl)) (hw _ (List.mem_of_getElem? (i := 2) rfl)) (by decide) (by decide)) (g := (mkF m 39 #[.val (.int p1), .val (.int p2), .val (.int (0 : Int32)), .val (.int (3 : Int32)), .val (.int (0 : Int32))] [(.int (3 : Int32)), (.ref o_PENDING)])) rfl (by rw [hml]; rfl) (argsL := [(.int (3 : Int32))]) (rest := [(.ref o_PENDING)]) (lenOf pd_0 rfl) rfl (by show 2 * 0 + _ ≤ _; exact Nat.le_of_eq rfl) (hb hby at_39) (fun _ _ => ⟨rfl, eq10, (by decide : 0 + 0 ≤ _), (by decide : 0 + 0 ≤ _)⟩)
      dsimp only [Pt.U, Pt.locs, Pt.cells, Pt.slots] at X11 l11 y11 z11 st11 hQ11
      subst l11 y11 z11
      obtain ⟨r11, rfl, hr11, N11q, eq11⟩ := hQ11
      have N11 := Fr.app N10 N11q
      have hqr11 : r11 = o_RETURNED := by rw [hr11]; rfl
      refine GoalS.lift (B := (T11.setTop (mkF m 42 #[.val (.int p1), .val (.int p2), .val (.int (0 : Int32)), .val (.int (3 : Int32)), .val (.int (0 : Int32))] [(.ref r11), (.ref o_PENDING)]))) (fun t k => ?_) ?_
      · show Steps p.tables e below (T10.setTop (mkF m 38 #[.val (.int p1), .val (.int p2), .val (.int (0 : Int32)), .val (.int (3 : Int32)), .val (.int (0 : Int32))] [(.ref o_PENDING)])) _
        refine XS.iloadN X10.here hx rfl (hb hby at_38) rfl ?_
        show Steps p.tables e below (T10.setTop (mkF m 39 #[.val (.int p1), .val (.int p2), .val (.int (0 : Int32)), .val (.int (3 : Int32)), .val (.int (0 : Int32))] [(.int (3 : Int32)), (.ref o_PENDING)])) _
        refine st11 _ ?_
        exact k
      rw [hqr11]
      obtain ⟨cq12, kq12, q12a, q12b, q12c⟩ := isOf hZ eq11 E_o_PENDING
      obtain ⟨_, _, ⟨T12, L12, k12, n12⟩, -, X12, ⟨Lc12, hQ12, l12, y12, z12⟩, st12⟩ := X11.virtualBack hx (y := (⟨"com/example/rialto/rialto/core/movement/WithdrawalStatus", "hasBeen", "(Lcom/example/rialto/rialto/core/movement/WithdrawalStatus;)Z"⟩ : MethodName)) (z := (⟨"com/example/rialto/rialto/core/movement/WithdrawalStatus", "hasBeen", "(Lcom/example/rialto/rialto/core/movement/WithdrawalStatus;)Z"⟩ : MethodName)) hown (mvT hZ (hw _ (List.mem_of_getElem? (i := 9) rfl))) (mvT hZ (hw _ (List.mem_of_getElem? (i := 10) rfl))) (notFace_of_selects (args := #[]) (mvT hZ (hw _ (List.mem_of_getElem? (i := 12) rfl)))) (mvT hZ (hw _ (List.mem_of_getElem? (i := 12) rfl))) (mvT hZ (hw _ (List.mem_of_getElem? (i := 11) rfl))) (by decide) (backOf (W := 0) (rm2_03 l Z a0 hw [] o_PENDING o_RETURNED o_FAILED o_SUCCEEDED h0 n0 Z0 F_reachedFrom_o_PENDING F_reachedFrom_o_FAILED F_reachedFrom_o_SUCCEEDED F_reachedFrom_o_RETURNED ne_o_PENDING_o_RETURNED ne_o_PENDING_o_FAILED ne_o_PENDING_o_SUCCEEDED ne_o_RETURNED_o_FAILED ne_o_RETURNED_o_SUCCEEDED ne_o_FAILED_o_SUCCEEDED) hZ (hw _ (List.mem_of_getElem? (i := 13) rfl)) (hw _ (List.mem_of_getElem? (i := 5) rfl)) (by decide) (by decide)) q12a q12c (g := (mkF m 42 #[.val (.int p1), .val (.int p2), .val (.int (0 : Int32)), .val (.int (3 : Int32)), .val (.int (0 : Int32))] [(.ref o_RETURNED), (.ref o_PENDING)])) rfl (by rw [hml]; rfl) (Steps.refl _) (argsL := [(.ref o_RETURNED)]) (rest := []) (lenOf pd_1 rfl) rfl (by show 2 * 0 + _ ≤ _; exact Nat.le_of_eq rfl) (hb hby at_42) (fun _ _ => ⟨rfl, eq11, (by decide : 0 + 0 ≤ _), (by decide : 0 + 0 ≤ _)⟩)
      dsimp only [Pt.U, Pt.locs, Pt.cells, Pt.slots] at X12 l12 y12 z12 st12 hQ12
      subst l12 y12 z12
      obtain ⟨r12, rfl, hr12, N12q, eq12⟩ := hQ12
      have N12 := Fr.app N11 N12q
      obtain ⟨fs, hr, hrun, hended, hW, hsame⟩ := X12.leave (v := some (.int (1 : Int32))) (fun h => by rw [Bd.returns] at h; cases h)
      refine ⟨_, _, ?_, hrun, hended, _, _, rfl, ?_, ⟨_, rfl⟩, hW, hsame.mono (by decide) (by decide)⟩
      · show Steps p.tables e below (T11.setTop (mkF m 42 #[.val (.int p1), .val (.int p2), .val (.int (0 : Int32)), .val (.int (3 : Int32)), .val (.int (0 : Int32))] [(.ref o_RETURNED), (.ref o_PENDING)])) _
        refine st12.trans ?_
        show Steps p.tables e below (T12.setTop (mkF m 45 #[.val (.int p1), .val (.int p2), .val (.int (0 : Int32)), .val (.int (3 : Int32)), .val (.int (0 : Int32))] [(.int r12)])) _
        refine XS.iload X12.here hx rfl (hb hby at_45) rfl ?_
        show Steps p.tables e below (T12.setTop (mkF m 47 #[.val (.int p1), .val (.int p2), .val (.int (0 : Int32)), .val (.int (3 : Int32)), .val (.int (0 : Int32))] [(.int (0 : Int32)), (.int r12)])) _
        refine XS.icmpNo X12.here hx rfl (hb hby at_47) rfl ((teq (by rw [hr12] : r12 = (0 : Int32))).2) ?_
        show Steps p.tables e below (T12.setTop (mkF m 50 #[.val (.int p1), .val (.int p2), .val (.int (0 : Int32)), .val (.int (3 : Int32)), .val (.int (0 : Int32))] [])) _
        refine XS.iconst X12.here hx rfl (hb hby at_50) ?_
        show Steps p.tables e below (T12.setTop (mkF m 51 #[.val (.int p1), .val (.int p2), .val (.int (0 : Int32)), .val (.int (3 : Int32)), .val (.int (0 : Int32))] [(.int (1 : Int32))])) _
        refine XS.goto X12.here hx rfl (pc0 := 51) (pc' := 55) rfl (hb hby at_51) (by decide) (by decide) ?_
        show Steps p.tables e below (T12.setTop (mkF m 55 #[.val (.int p1), .val (.int p2), .val (.int (0 : Int32)), .val (.int (3 : Int32)), .val (.int (0 : Int32))] [(.int (1 : Int32))])) _
        exact retN X12 hx (t := .boolean) Bd.returns (by simp) (hb hby at_55) hr
      · exact ⟨rfl, N12⟩
  · rw [hk2]
    refine GoalS.lift (B := (s₁.setTop (mkF m 7 #[.val (.int p1), .val (.int p2), .val (.int (1 : Int32)), .unset, .unset] [(.int (p2 &&& (3 : Int32)))]))) (fun t k => ?_) ?_
    · show Steps p.tables e below (s₁.setTop (mkF m 3 #[.val (.int p1), .val (.int p2), .unset, .unset, .unset] [(.int (1 : Int32))])) _
      refine XS.istoreN X0.here hx rfl (hb hby at_3) rfl (l' := #[.val (.int p1), .val (.int p2), .val (.int (1 : Int32)), .unset, .unset]) rfl ?_
      show Steps p.tables e below (s₁.setTop (mkF m 4 #[.val (.int p1), .val (.int p2), .val (.int (1 : Int32)), .unset, .unset] [])) _
      refine XS.iloadN X0.here hx rfl (hb hby at_4) rfl ?_
      show Steps p.tables e below (s₁.setTop (mkF m 5 #[.val (.int p1), .val (.int p2), .val (.int (1 : Int32)), .unset, .unset] [(.int p2)])) _
      refine XS.iconst X0.here hx rfl (hb hby at_5) ?_
      show Steps p.tables e below (s₁.setTop (mkF m 6 #[.val (.int p1), .val (.int p2), .val (.int (1 : Int32)), .unset, .unset] [(.int (3 : Int32)), (.int p2)])) _
      refine XS.iand X0.here hx rfl (hb hby at_6) rfl ?_
      exact k
    rcases own_four p2 with hk6 | hk6 | hk6 | hk6
    · rw [hk6]
      obtain ⟨_, _, ⟨T13, L13, k13, n13⟩, -, X13, ⟨Lc13, hQ13, l13, y13, z13⟩, st13⟩ := Jvm.LawKit.callS X0 hx (y := (⟨"com/example/rialto/rialto/core/movement/WithdrawalStatusHasBeenPinLaw", "pick", "(I)Lcom/example/rialto/rialto/core/movement/WithdrawalStatus;"⟩ : MethodName)) hown (mvT hZ (hw _ (List.mem_of_getElem? (i := 0) rfl))) (mvT hZ (hw _ (List.mem_of_getElem? (i := 1) rfl))) (mvT hZ (hw _ (List.mem_of_getElem? (i := 2) rfl))) (mvT hZ (hw _ (List.mem_of_getElem? (i := 3) rfl))) (by decide) (backOf (W := 0) (rm1 l Z a0 hw [] (1 : Int32) o_PENDING o_RETURNED o_FAILED o_SUCCEEDED h0 n0 Z0 S_PENDING S_RETURNED S_FAILED S_SUCCEEDED) hZ (hw _ (List.mem_of_getElem? (i := 3) rfl)) (hw _ (List.mem_of_getElem? (i := 2) rfl)) (by decide) (by decide)) (g := (mkF m 35 #[.val (.int p1), .val (.int p2), .val (.int (1 : Int32)), .val (.int (0 : Int32)), .val (.int (1 : Int32))] [(.int (1 : Int32))])) rfl (by rw [hml]; rfl) (argsL := [(.int (1 : Int32))]) (rest := []) (lenOf pd_0 rfl) rfl (by show 2 * 0 + _ ≤ _; exact Nat.le_of_eq rfl) (hb hby at_35) (fun _ _ => ⟨rfl, e0, (by decide : 0 + 0 ≤ _), (by decide : 0 + 0 ≤ _)⟩)
      dsimp only [Pt.U, Pt.locs, Pt.cells, Pt.slots] at X13 l13 y13 z13 st13 hQ13
      subst l13 y13 z13
      obtain ⟨r13, rfl, hr13, N13q, eq13⟩ := hQ13
      have N13 := Fr.app N0 N13q
      have hqr13 : r13 = o_SUCCEEDED := by rw [hr13]; rfl
      refine GoalS.lift (B := (T13.setTop (mkF m 38 #[.val (.int p1), .val (.int p2), .val (.int (1 : Int32)), .val (.int (0 : Int32)), .val (.int (1 : Int32))] [(.ref r13)]))) (fun t k => ?_) ?_
      · show Steps p.tables e below (s₁.setTop (mkF m 7 #[.val (.int p1), .val (.int p2), .val (.int (1 : Int32)), .unset, .unset] [(.int (0 : Int32))])) _
        refine XS.istoreN X0.here hx rfl (hb hby at_7) rfl (l' := #[.val (.int p1), .val (.int p2), .val (.int (1 : Int32)), .val (.int (0 : Int32)), .unset]) rfl ?_
        show Steps p.tables e below (s₁.setTop (mkF m 8 #[.val (.int p1), .val (.int p2), .val (.int (1 : Int32)), .val (.int (0 : Int32)), .unset] [])) _
        refine XS.iloadN X0.here hx rfl (hb hby at_8) rfl ?_
        show Steps p.tables e below (s₁.setTop (mkF m 9 #[.val (.int p1), .val (.int p2), .val (.int (1 : Int32)), .val (.int (0 : Int32)), .unset] [(.int (1 : Int32))])) _
        refine XS.iloadN X0.here hx rfl (hb hby at_9) rfl ?_
        show Steps p.tables e below (s₁.setTop (mkF m 10 #[.val (.int p1), .val (.int p2), .val (.int (1 : Int32)), .val (.int (0 : Int32)), .unset] [(.int (0 : Int32)), (.int (1 : Int32))])) _
        refine XS.icmpNo X0.here hx rfl (hb hby at_10) rfl ((feq (by decide : ¬ ((1 : Int32) = (0 : Int32)))).1) ?_
        show Steps p.tables e below (s₁.setTop (mkF m 13 #[.val (.int p1), .val (.int p2), .val (.int (1 : Int32)), .val (.int (0 : Int32)), .unset] [])) _
        refine XS.iloadN X0.here hx rfl (hb hby at_13) rfl ?_
        show Steps p.tables e below (s₁.setTop (mkF m 14 #[.val (.int p1), .val (.int p2), .val (.int (1 : Int32)), .val (.int (0 : Int32)), .unset] [(.int (0 : Int32))])) _
        refine XS.ifYes X0.here hx rfl (pc0 := 14) (pc' := 27) rfl (hb hby at_14) rfl ((if0 _ _).trans (teq (by decide : (0 : Int32) = (0 : Int32))).1) (by decide) (by decide) ?_
        show Steps p.tables e below (s₁.setTop (mkF m 27 #[.val (.int p1), .val (.int p2), .val (.int (1 : Int32)), .val (.int (0 : Int32)), .unset] [])) _
        refine XS.iconst X0.here hx rfl (hb hby at_27) ?_
        show Steps p.tables e below (s₁.setTop (mkF m 28 #[.val (.int p1), .val (.int p2), .val (.int (1 : Int32)), .val (.int (0 : Int32)), .unset] [(.int (1 : Int32))])) _
        refine XS.goto X0.here hx rfl (pc0 := 28) (pc' := 32) rfl (hb hby at_28) (by decide) (by decide) ?_
        show Steps p.tables e below (s₁.setTop (mkF m 32 #[.val (.int p1), .val (.int p2), .val (.int (1 : Int32)), .val (.int (0 : Int32)), .unset] [(.int (1 : Int32))])) _
        refine XS.istore X0.here hx rfl (hb hby at_32) rfl (l' := #[.val (.int p1), .val (.int p2), .val (.int (1 : Int32)), .val (.int (0 : Int32)), .val (.int (1 : Int32))]) rfl ?_
        show Steps p.tables e below (s₁.setTop (mkF m 34 #[.val (.int p1), .val (.int p2), .val (.int (1 : Int32)), .val (.int (0 : Int32)), .val (.int (1 : Int32))] [])) _
        refine XS.iloadN X0.here hx rfl (hb hby at_34) rfl ?_
        show Steps p.tables e below (s₁.setTop (mkF m 35 #[.val (.int p1), .val (.int p2), .val (.int (1 : Int32)), .val (.int (0 : Int32)), .val (.int (1 : Int32))] [(.int (1 : Int32))])) _
        refine st13 _ ?_
        exact k
      rw [hqr13]
      obtain ⟨_, _, ⟨T14, L14, k14, n14⟩, -, X14, ⟨Lc14, hQ14, l14, y14, z14⟩, st14⟩ := Jvm.LawKit.callS X13 hx (y := (⟨"com/example/rialto/rialto/core/movement/WithdrawalStatusHasBeenPinLaw", "pick", "(I)Lcom/example/rialto/rialto/core/movement/WithdrawalStatus;"⟩ : MethodName)) hown (mvT hZ (hw _ (List.mem_of_getElem? (i := 0) rfl))) (mvT hZ (hw _ (List.mem_of_getElem? (i := 1) rfl))) (mvT hZ (hw _ (List.mem_of_getElem? (i := 2) rfl))) (mvT hZ (hw _ (List.mem_of_getElem? (i := 3) rfl))) (by decide) (backOf (W := 1) (rm1 l Z a0 hw [] (0 : Int32) o_PENDING o_RETURNED o_FAILED o_SUCCEEDED h0 n0 Z0 S_PENDING S_RETURNED S_FAILED S_SUCCEEDED) hZ (hw _ (List.mem_of_getElem? (i := 3) rfl)) (hw _ (List.mem_of_getElem? (i := 2) rfl)) (by decide) (by decide)) (g := (mkF m 39 #[.val (.int p1), .val (.int p2), .val (.int (1 : Int32)), .val (.int (0 : Int32)), .val (.int (1 : Int32))] [(.int (0 : Int32)), (.ref o_SUCCEEDED)])) rfl (by rw [hml]; rfl) (argsL := [(.int (0 : Int32))]) (rest := [(.ref o_SUCCEEDED)]) (lenOf pd_0 rfl) rfl (by show 2 * 0 + _ ≤ _; exact Nat.le_of_eq rfl) (hb hby at_39) (fun _ _ => ⟨rfl, eq13, (by decide : 0 + 0 ≤ _), (by decide : 0 + 0 ≤ _)⟩)
      dsimp only [Pt.U, Pt.locs, Pt.cells, Pt.slots] at X14 l14 y14 z14 st14 hQ14
      subst l14 y14 z14
      obtain ⟨r14, rfl, hr14, N14q, eq14⟩ := hQ14
      have N14 := Fr.app N13 N14q
      have hqr14 : r14 = o_PENDING := by rw [hr14]; rfl
      refine GoalS.lift (B := (T14.setTop (mkF m 42 #[.val (.int p1), .val (.int p2), .val (.int (1 : Int32)), .val (.int (0 : Int32)), .val (.int (1 : Int32))] [(.ref r14), (.ref o_SUCCEEDED)]))) (fun t k => ?_) ?_
      · show Steps p.tables e below (T13.setTop (mkF m 38 #[.val (.int p1), .val (.int p2), .val (.int (1 : Int32)), .val (.int (0 : Int32)), .val (.int (1 : Int32))] [(.ref o_SUCCEEDED)])) _
        refine XS.iloadN X13.here hx rfl (hb hby at_38) rfl ?_
        show Steps p.tables e below (T13.setTop (mkF m 39 #[.val (.int p1), .val (.int p2), .val (.int (1 : Int32)), .val (.int (0 : Int32)), .val (.int (1 : Int32))] [(.int (0 : Int32)), (.ref o_SUCCEEDED)])) _
        refine st14 _ ?_
        exact k
      rw [hqr14]
      obtain ⟨cq15, kq15, q15a, q15b, q15c⟩ := isOf hZ eq14 E_o_SUCCEEDED
      obtain ⟨_, _, ⟨T15, L15, k15, n15⟩, -, X15, ⟨Lc15, hQ15, l15, y15, z15⟩, st15⟩ := X14.virtualBack hx (y := (⟨"com/example/rialto/rialto/core/movement/WithdrawalStatus", "hasBeen", "(Lcom/example/rialto/rialto/core/movement/WithdrawalStatus;)Z"⟩ : MethodName)) (z := (⟨"com/example/rialto/rialto/core/movement/WithdrawalStatus", "hasBeen", "(Lcom/example/rialto/rialto/core/movement/WithdrawalStatus;)Z"⟩ : MethodName)) hown (mvT hZ (hw _ (List.mem_of_getElem? (i := 9) rfl))) (mvT hZ (hw _ (List.mem_of_getElem? (i := 10) rfl))) (notFace_of_selects (args := #[]) (mvT hZ (hw _ (List.mem_of_getElem? (i := 12) rfl)))) (mvT hZ (hw _ (List.mem_of_getElem? (i := 12) rfl))) (mvT hZ (hw _ (List.mem_of_getElem? (i := 11) rfl))) (by decide) (backOf (W := 0) (rm2_10 l Z a0 hw [] o_SUCCEEDED o_PENDING o_RETURNED o_FAILED h0 n0 Z0 F_reachedFrom_o_PENDING F_reachedFrom_o_FAILED F_reachedFrom_o_SUCCEEDED F_reachedFrom_o_RETURNED ne_o_PENDING_o_RETURNED ne_o_PENDING_o_FAILED ne_o_PENDING_o_SUCCEEDED ne_o_RETURNED_o_FAILED ne_o_RETURNED_o_SUCCEEDED ne_o_FAILED_o_SUCCEEDED) hZ (hw _ (List.mem_of_getElem? (i := 13) rfl)) (hw _ (List.mem_of_getElem? (i := 5) rfl)) (by decide) (by decide)) q15a q15c (g := (mkF m 42 #[.val (.int p1), .val (.int p2), .val (.int (1 : Int32)), .val (.int (0 : Int32)), .val (.int (1 : Int32))] [(.ref o_PENDING), (.ref o_SUCCEEDED)])) rfl (by rw [hml]; rfl) (Steps.refl _) (argsL := [(.ref o_PENDING)]) (rest := []) (lenOf pd_1 rfl) rfl (by show 2 * 0 + _ ≤ _; exact Nat.le_of_eq rfl) (hb hby at_42) (fun _ _ => ⟨rfl, eq14, (by decide : 0 + 0 ≤ _), (by decide : 0 + 0 ≤ _)⟩)
      dsimp only [Pt.U, Pt.locs, Pt.cells, Pt.slots] at X15 l15 y15 z15 st15 hQ15
      subst l15 y15 z15
      obtain ⟨r15, rfl, hr15, N15q, eq15⟩ := hQ15
      have N15 := Fr.app N14 N15q
      obtain ⟨fs, hr, hrun, hended, hW, hsame⟩ := X15.leave (v := some (.int (1 : Int32))) (fun h => by rw [Bd.returns] at h; cases h)
      refine ⟨_, _, ?_, hrun, hended, _, _, rfl, ?_, ⟨_, rfl⟩, hW, hsame.mono (by decide) (by decide)⟩
      · show Steps p.tables e below (T14.setTop (mkF m 42 #[.val (.int p1), .val (.int p2), .val (.int (1 : Int32)), .val (.int (0 : Int32)), .val (.int (1 : Int32))] [(.ref o_PENDING), (.ref o_SUCCEEDED)])) _
        refine st15.trans ?_
        show Steps p.tables e below (T15.setTop (mkF m 45 #[.val (.int p1), .val (.int p2), .val (.int (1 : Int32)), .val (.int (0 : Int32)), .val (.int (1 : Int32))] [(.int r15)])) _
        refine XS.iload X15.here hx rfl (hb hby at_45) rfl ?_
        show Steps p.tables e below (T15.setTop (mkF m 47 #[.val (.int p1), .val (.int p2), .val (.int (1 : Int32)), .val (.int (0 : Int32)), .val (.int (1 : Int32))] [(.int (1 : Int32)), (.int r15)])) _
        refine XS.icmpNo X15.here hx rfl (hb hby at_47) rfl ((teq (by rw [hr15] : r15 = (1 : Int32))).2) ?_
        show Steps p.tables e below (T15.setTop (mkF m 50 #[.val (.int p1), .val (.int p2), .val (.int (1 : Int32)), .val (.int (0 : Int32)), .val (.int (1 : Int32))] [])) _
        refine XS.iconst X15.here hx rfl (hb hby at_50) ?_
        show Steps p.tables e below (T15.setTop (mkF m 51 #[.val (.int p1), .val (.int p2), .val (.int (1 : Int32)), .val (.int (0 : Int32)), .val (.int (1 : Int32))] [(.int (1 : Int32))])) _
        refine XS.goto X15.here hx rfl (pc0 := 51) (pc' := 55) rfl (hb hby at_51) (by decide) (by decide) ?_
        show Steps p.tables e below (T15.setTop (mkF m 55 #[.val (.int p1), .val (.int p2), .val (.int (1 : Int32)), .val (.int (0 : Int32)), .val (.int (1 : Int32))] [(.int (1 : Int32))])) _
        exact retN X15 hx (t := .boolean) Bd.returns (by simp) (hb hby at_55) hr
      · exact ⟨rfl, N15⟩
    · rw [hk6]
      obtain ⟨_, _, ⟨T16, L16, k16, n16⟩, -, X16, ⟨Lc16, hQ16, l16, y16, z16⟩, st16⟩ := Jvm.LawKit.callS X0 hx (y := (⟨"com/example/rialto/rialto/core/movement/WithdrawalStatusHasBeenPinLaw", "pick", "(I)Lcom/example/rialto/rialto/core/movement/WithdrawalStatus;"⟩ : MethodName)) hown (mvT hZ (hw _ (List.mem_of_getElem? (i := 0) rfl))) (mvT hZ (hw _ (List.mem_of_getElem? (i := 1) rfl))) (mvT hZ (hw _ (List.mem_of_getElem? (i := 2) rfl))) (mvT hZ (hw _ (List.mem_of_getElem? (i := 3) rfl))) (by decide) (backOf (W := 0) (rm1 l Z a0 hw [] (1 : Int32) o_PENDING o_RETURNED o_FAILED o_SUCCEEDED h0 n0 Z0 S_PENDING S_RETURNED S_FAILED S_SUCCEEDED) hZ (hw _ (List.mem_of_getElem? (i := 3) rfl)) (hw _ (List.mem_of_getElem? (i := 2) rfl)) (by decide) (by decide)) (g := (mkF m 35 #[.val (.int p1), .val (.int p2), .val (.int (1 : Int32)), .val (.int (1 : Int32)), .val (.int (1 : Int32))] [(.int (1 : Int32))])) rfl (by rw [hml]; rfl) (argsL := [(.int (1 : Int32))]) (rest := []) (lenOf pd_0 rfl) rfl (by show 2 * 0 + _ ≤ _; exact Nat.le_of_eq rfl) (hb hby at_35) (fun _ _ => ⟨rfl, e0, (by decide : 0 + 0 ≤ _), (by decide : 0 + 0 ≤ _)⟩)
      dsimp only [Pt.U, Pt.locs, Pt.cells, Pt.slots] at X16 l16 y16 z16 st16 hQ16
      subst l16 y16 z16
      obtain ⟨r16, rfl, hr16, N16q, eq16⟩ := hQ16
      have N16 := Fr.app N0 N16q
      have hqr16 : r16 = o_SUCCEEDED := by rw [hr16]; rfl
      refine GoalS.lift (B := (T16.setTop (mkF m 38 #[.val (.int p1), .val (.int p2), .val (.int (1 : Int32)), .val (.int (1 : Int32)), .val (.int (1 : Int32))] [(.ref r16)]))) (fun t k => ?_) ?_
      · show Steps p.tables e below (s₁.setTop (mkF m 7 #[.val (.int p1), .val (.int p2), .val (.int (1 : Int32)), .unset, .unset] [(.int (1 : Int32))])) _
        refine XS.istoreN X0.here hx rfl (hb hby at_7) rfl (l' := #[.val (.int p1), .val (.int p2), .val (.int (1 : Int32)), .val (.int (1 : Int32)), .unset]) rfl ?_
        show Steps p.tables e below (s₁.setTop (mkF m 8 #[.val (.int p1), .val (.int p2), .val (.int (1 : Int32)), .val (.int (1 : Int32)), .unset] [])) _
        refine XS.iloadN X0.here hx rfl (hb hby at_8) rfl ?_
        show Steps p.tables e below (s₁.setTop (mkF m 9 #[.val (.int p1), .val (.int p2), .val (.int (1 : Int32)), .val (.int (1 : Int32)), .unset] [(.int (1 : Int32))])) _
        refine XS.iloadN X0.here hx rfl (hb hby at_9) rfl ?_
        show Steps p.tables e below (s₁.setTop (mkF m 10 #[.val (.int p1), .val (.int p2), .val (.int (1 : Int32)), .val (.int (1 : Int32)), .unset] [(.int (1 : Int32)), (.int (1 : Int32))])) _
        refine XS.icmpYes X0.here hx rfl (pc0 := 10) (pc' := 27) rfl (hb hby at_10) rfl ((teq (by decide : (1 : Int32) = (1 : Int32))).1) (by decide) (by decide) ?_
        show Steps p.tables e below (s₁.setTop (mkF m 27 #[.val (.int p1), .val (.int p2), .val (.int (1 : Int32)), .val (.int (1 : Int32)), .unset] [])) _
        refine XS.iconst X0.here hx rfl (hb hby at_27) ?_
        show Steps p.tables e below (s₁.setTop (mkF m 28 #[.val (.int p1), .val (.int p2), .val (.int (1 : Int32)), .val (.int (1 : Int32)), .unset] [(.int (1 : Int32))])) _
        refine XS.goto X0.here hx rfl (pc0 := 28) (pc' := 32) rfl (hb hby at_28) (by decide) (by decide) ?_
        show Steps p.tables e below (s₁.setTop (mkF m 32 #[.val (.int p1), .val (.int p2), .val (.int (1 : Int32)), .val (.int (1 : Int32)), .unset] [(.int (1 : Int32))])) _
        refine XS.istore X0.here hx rfl (hb hby at_32) rfl (l' := #[.val (.int p1), .val (.int p2), .val (.int (1 : Int32)), .val (.int (1 : Int32)), .val (.int (1 : Int32))]) rfl ?_
        show Steps p.tables e below (s₁.setTop (mkF m 34 #[.val (.int p1), .val (.int p2), .val (.int (1 : Int32)), .val (.int (1 : Int32)), .val (.int (1 : Int32))] [])) _
        refine XS.iloadN X0.here hx rfl (hb hby at_34) rfl ?_
        show Steps p.tables e below (s₁.setTop (mkF m 35 #[.val (.int p1), .val (.int p2), .val (.int (1 : Int32)), .val (.int (1 : Int32)), .val (.int (1 : Int32))] [(.int (1 : Int32))])) _
        refine st16 _ ?_
        exact k
      rw [hqr16]
      obtain ⟨_, _, ⟨T17, L17, k17, n17⟩, -, X17, ⟨Lc17, hQ17, l17, y17, z17⟩, st17⟩ := Jvm.LawKit.callS X16 hx (y := (⟨"com/example/rialto/rialto/core/movement/WithdrawalStatusHasBeenPinLaw", "pick", "(I)Lcom/example/rialto/rialto/core/movement/WithdrawalStatus;"⟩ : MethodName)) hown (mvT hZ (hw _ (List.mem_of_getElem? (i := 0) rfl))) (mvT hZ (hw _ (List.mem_of_getElem? (i := 1) rfl))) (mvT hZ (hw _ (List.mem_of_getElem? (i := 2) rfl))) (mvT hZ (hw _ (List.mem_of_getElem? (i := 3) rfl))) (by decide) (backOf (W := 1) (rm1 l Z a0 hw [] (1 : Int32) o_PENDING o_RETURNED o_FAILED o_SUCCEEDED h0 n0 Z0 S_PENDING S_RETURNED S_FAILED S_SUCCEEDED) hZ (hw _ (List.mem_of_getElem? (i := 3) rfl)) (hw _ (List.mem_of_getElem? (i := 2) rfl)) (by decide) (by decide)) (g := (mkF m 39 #[.val (.int p1), .val (.int p2), .val (.int (1 : Int32)), .val (.int (1 : Int32)), .val (.int (1 : Int32))] [(.int (1 : Int32)), (.ref o_SUCCEEDED)])) rfl (by rw [hml]; rfl) (argsL := [(.int (1 : Int32))]) (rest := [(.ref o_SUCCEEDED)]) (lenOf pd_0 rfl) rfl (by show 2 * 0 + _ ≤ _; exact Nat.le_of_eq rfl) (hb hby at_39) (fun _ _ => ⟨rfl, eq16, (by decide : 0 + 0 ≤ _), (by decide : 0 + 0 ≤ _)⟩)
      dsimp only [Pt.U, Pt.locs, Pt.cells, Pt.slots] at X17 l17 y17 z17 st17 hQ17
      subst l17 y17 z17
      obtain ⟨r17, rfl, hr17, N17q, eq17⟩ := hQ17
      have N17 := Fr.app N16 N17q
      have hqr17 : r17 = o_SUCCEEDED := by rw [hr17]; rfl
      refine GoalS.lift (B := (T17.setTop (mkF m 42 #[.val (.int p1), .val (.int p2), .val (.int (1 : Int32)), .val (.int (1 : Int32)), .val (.int (1 : Int32))] [(.ref r17), (.ref o_SUCCEEDED)]))) (fun t k => ?_) ?_
      · show Steps p.tables e below (T16.setTop (mkF m 38 #[.val (.int p1), .val (.int p2), .val (.int (1 : Int32)), .val (.int (1 : Int32)), .val (.int (1 : Int32))] [(.ref o_SUCCEEDED)])) _
        refine XS.iloadN X16.here hx rfl (hb hby at_38) rfl ?_
        show Steps p.tables e below (T16.setTop (mkF m 39 #[.val (.int p1), .val (.int p2), .val (.int (1 : Int32)), .val (.int (1 : Int32)), .val (.int (1 : Int32))] [(.int (1 : Int32)), (.ref o_SUCCEEDED)])) _
        refine st17 _ ?_
        exact k
      rw [hqr17]
      obtain ⟨cq18, kq18, q18a, q18b, q18c⟩ := isOf hZ eq17 E_o_SUCCEEDED
      obtain ⟨_, _, ⟨T18, L18, k18, n18⟩, -, X18, ⟨Lc18, hQ18, l18, y18, z18⟩, st18⟩ := X17.virtualBack hx (y := (⟨"com/example/rialto/rialto/core/movement/WithdrawalStatus", "hasBeen", "(Lcom/example/rialto/rialto/core/movement/WithdrawalStatus;)Z"⟩ : MethodName)) (z := (⟨"com/example/rialto/rialto/core/movement/WithdrawalStatus", "hasBeen", "(Lcom/example/rialto/rialto/core/movement/WithdrawalStatus;)Z"⟩ : MethodName)) hown (mvT hZ (hw _ (List.mem_of_getElem? (i := 9) rfl))) (mvT hZ (hw _ (List.mem_of_getElem? (i := 10) rfl))) (notFace_of_selects (args := #[]) (mvT hZ (hw _ (List.mem_of_getElem? (i := 12) rfl)))) (mvT hZ (hw _ (List.mem_of_getElem? (i := 12) rfl))) (mvT hZ (hw _ (List.mem_of_getElem? (i := 11) rfl))) (by decide) (backOf (W := 0) (rm2_11 l Z a0 hw [] o_SUCCEEDED o_PENDING o_RETURNED o_FAILED h0 n0 Z0 F_reachedFrom_o_PENDING F_reachedFrom_o_FAILED F_reachedFrom_o_SUCCEEDED F_reachedFrom_o_RETURNED ne_o_PENDING_o_RETURNED ne_o_PENDING_o_FAILED ne_o_PENDING_o_SUCCEEDED ne_o_RETURNED_o_FAILED ne_o_RETURNED_o_SUCCEEDED ne_o_FAILED_o_SUCCEEDED) hZ (hw _ (List.mem_of_getElem? (i := 13) rfl)) (hw _ (List.mem_of_getElem? (i := 5) rfl)) (by decide) (by decide)) q18a q18c (g := (mkF m 42 #[.val (.int p1), .val (.int p2), .val (.int (1 : Int32)), .val (.int (1 : Int32)), .val (.int (1 : Int32))] [(.ref o_SUCCEEDED), (.ref o_SUCCEEDED)])) rfl (by rw [hml]; rfl) (Steps.refl _) (argsL := [(.ref o_SUCCEEDED)]) (rest := []) (lenOf pd_1 rfl) rfl (by show 2 * 0 + _ ≤ _; exact Nat.le_of_eq rfl) (hb hby at_42) (fun _ _ => ⟨rfl, eq17, (by decide : 0 + 0 ≤ _), (by decide : 0 + 0 ≤ _)⟩)
      dsimp only [Pt.U, Pt.locs, Pt.cells, Pt.slots] at X18 l18 y18 z18 st18 hQ18
      subst l18 y18 z18
      obtain ⟨r18, rfl, hr18, N18q, eq18⟩ := hQ18
      have N18 := Fr.app N17 N18q
      obtain ⟨fs, hr, hrun, hended, hW, hsame⟩ := X18.leave (v := some (.int (1 : Int32))) (fun h => by rw [Bd.returns] at h; cases h)
      refine ⟨_, _, ?_, hrun, hended, _, _, rfl, ?_, ⟨_, rfl⟩, hW, hsame.mono (by decide) (by decide)⟩
      · show Steps p.tables e below (T17.setTop (mkF m 42 #[.val (.int p1), .val (.int p2), .val (.int (1 : Int32)), .val (.int (1 : Int32)), .val (.int (1 : Int32))] [(.ref o_SUCCEEDED), (.ref o_SUCCEEDED)])) _
        refine st18.trans ?_
        show Steps p.tables e below (T18.setTop (mkF m 45 #[.val (.int p1), .val (.int p2), .val (.int (1 : Int32)), .val (.int (1 : Int32)), .val (.int (1 : Int32))] [(.int r18)])) _
        refine XS.iload X18.here hx rfl (hb hby at_45) rfl ?_
        show Steps p.tables e below (T18.setTop (mkF m 47 #[.val (.int p1), .val (.int p2), .val (.int (1 : Int32)), .val (.int (1 : Int32)), .val (.int (1 : Int32))] [(.int (1 : Int32)), (.int r18)])) _
        refine XS.icmpNo X18.here hx rfl (hb hby at_47) rfl ((teq (by rw [hr18] : r18 = (1 : Int32))).2) ?_
        show Steps p.tables e below (T18.setTop (mkF m 50 #[.val (.int p1), .val (.int p2), .val (.int (1 : Int32)), .val (.int (1 : Int32)), .val (.int (1 : Int32))] [])) _
        refine XS.iconst X18.here hx rfl (hb hby at_50) ?_
        show Steps p.tables e below (T18.setTop (mkF m 51 #[.val (.int p1), .val (.int p2), .val (.int (1 : Int32)), .val (.int (1 : Int32)), .val (.int (1 : Int32))] [(.int (1 : Int32))])) _
        refine XS.goto X18.here hx rfl (pc0 := 51) (pc' := 55) rfl (hb hby at_51) (by decide) (by decide) ?_
        show Steps p.tables e below (T18.setTop (mkF m 55 #[.val (.int p1), .val (.int p2), .val (.int (1 : Int32)), .val (.int (1 : Int32)), .val (.int (1 : Int32))] [(.int (1 : Int32))])) _
        exact retN X18 hx (t := .boolean) Bd.returns (by simp) (hb hby at_55) hr
      · exact ⟨rfl, N18⟩
    · rw [hk6]
      obtain ⟨_, _, ⟨T19, L19, k19, n19⟩, -, X19, ⟨Lc19, hQ19, l19, y19, z19⟩, st19⟩ := Jvm.LawKit.callS X0 hx (y := (⟨"com/example/rialto/rialto/core/movement/WithdrawalStatusHasBeenPinLaw", "pick", "(I)Lcom/example/rialto/rialto/core/movement/WithdrawalStatus;"⟩ : MethodName)) hown (mvT hZ (hw _ (List.mem_of_getElem? (i := 0) rfl))) (mvT hZ (hw _ (List.mem_of_getElem? (i := 1) rfl))) (mvT hZ (hw _ (List.mem_of_getElem? (i := 2) rfl))) (mvT hZ (hw _ (List.mem_of_getElem? (i := 3) rfl))) (by decide) (backOf (W := 0) (rm1 l Z a0 hw [] (1 : Int32) o_PENDING o_RETURNED o_FAILED o_SUCCEEDED h0 n0 Z0 S_PENDING S_RETURNED S_FAILED S_SUCCEEDED) hZ (hw _ (List.mem_of_getElem? (i := 3) rfl)) (hw _ (List.mem_of_getElem? (i := 2) rfl)) (by decide) (by decide)) (g := (mkF m 35 #[.val (.int p1), .val (.int p2), .val (.int (1 : Int32)), .val (.int (2 : Int32)), .val (.int (0 : Int32))] [(.int (1 : Int32))])) rfl (by rw [hml]; rfl) (argsL := [(.int (1 : Int32))]) (rest := []) (lenOf pd_0 rfl) rfl (by show 2 * 0 + _ ≤ _; exact Nat.le_of_eq rfl) (hb hby at_35) (fun _ _ => ⟨rfl, e0, (by decide : 0 + 0 ≤ _), (by decide : 0 + 0 ≤ _)⟩)
      dsimp only [Pt.U, Pt.locs, Pt.cells, Pt.slots] at X19 l19 y19 z19 st19 hQ19
      subst l19 y19 z19
      obtain ⟨r19, rfl, hr19, N19q, eq19⟩ := hQ19
      have N19 := Fr.app N0 N19q
      have hqr19 : r19 = o_SUCCEEDED := by rw [hr19]; rfl
      refine GoalS.lift (B := (T19.setTop (mkF m 38 #[.val (.int p1), .val (.int p2), .val (.int (1 : Int32)), .val (.int (2 : Int32)), .val (.int (0 : Int32))] [(.ref r19)]))) (fun t k => ?_) ?_
      · show Steps p.tables e below (s₁.setTop (mkF m 7 #[.val (.int p1), .val (.int p2), .val (.int (1 : Int32)), .unset, .unset] [(.int (2 : Int32))])) _
        refine XS.istoreN X0.here hx rfl (hb hby at_7) rfl (l' := #[.val (.int p1), .val (.int p2), .val (.int (1 : Int32)), .val (.int (2 : Int32)), .unset]) rfl ?_
        show Steps p.tables e below (s₁.setTop (mkF m 8 #[.val (.int p1), .val (.int p2), .val (.int (1 : Int32)), .val (.int (2 : Int32)), .unset] [])) _
        refine XS.iloadN X0.here hx rfl (hb hby at_8) rfl ?_
        show Steps p.tables e below (s₁.setTop (mkF m 9 #[.val (.int p1), .val (.int p2), .val (.int (1 : Int32)), .val (.int (2 : Int32)), .unset] [(.int (1 : Int32))])) _
        refine XS.iloadN X0.here hx rfl (hb hby at_9) rfl ?_
        show Steps p.tables e below (s₁.setTop (mkF m 10 #[.val (.int p1), .val (.int p2), .val (.int (1 : Int32)), .val (.int (2 : Int32)), .unset] [(.int (2 : Int32)), (.int (1 : Int32))])) _
        refine XS.icmpNo X0.here hx rfl (hb hby at_10) rfl ((feq (by decide : ¬ ((1 : Int32) = (2 : Int32)))).1) ?_
        show Steps p.tables e below (s₁.setTop (mkF m 13 #[.val (.int p1), .val (.int p2), .val (.int (1 : Int32)), .val (.int (2 : Int32)), .unset] [])) _
        refine XS.iloadN X0.here hx rfl (hb hby at_13) rfl ?_
        show Steps p.tables e below (s₁.setTop (mkF m 14 #[.val (.int p1), .val (.int p2), .val (.int (1 : Int32)), .val (.int (2 : Int32)), .unset] [(.int (2 : Int32))])) _
        refine XS.ifNo X0.here hx rfl (hb hby at_14) rfl ((if0 _ _).trans (feq (by decide : ¬ ((2 : Int32) = (0 : Int32)))).1) ?_
        show Steps p.tables e below (s₁.setTop (mkF m 17 #[.val (.int p1), .val (.int p2), .val (.int (1 : Int32)), .val (.int (2 : Int32)), .unset] [])) _
        refine XS.iloadN X0.here hx rfl (hb hby at_17) rfl ?_
        show Steps p.tables e below (s₁.setTop (mkF m 18 #[.val (.int p1), .val (.int p2), .val (.int (1 : Int32)), .val (.int (2 : Int32)), .unset] [(.int (1 : Int32))])) _
        refine XS.iconst X0.here hx rfl (hb hby at_18) ?_
        show Steps p.tables e below (s₁.setTop (mkF m 19 #[.val (.int p1), .val (.int p2), .val (.int (1 : Int32)), .val (.int (2 : Int32)), .unset] [(.int (3 : Int32)), (.int (1 : Int32))])) _
        refine XS.icmpYes X0.here hx rfl (pc0 := 19) (pc' := 31) rfl (hb hby at_19) rfl ((feq (by decide : ¬ ((1 : Int32) = (3 : Int32)))).2) (by decide) (by decide) ?_
        show Steps p.tables e below (s₁.setTop (mkF m 31 #[.val (.int p1), .val (.int p2), .val (.int (1 : Int32)), .val (.int (2 : Int32)), .unset] [])) _
        refine XS.iconst X0.here hx rfl (hb hby at_31) ?_
        show Steps p.tables e below (s₁.setTop (mkF m 32 #[.val (.int p1), .val (.int p2), .val (.int (1 : Int32)), .val (.int (2 : Int32)), .unset] [(.int (0 : Int32))])) _
        refine XS.istore X0.here hx rfl (hb hby at_32) rfl (l' := #[.val (.int p1), .val (.int p2), .val (.int (1 : Int32)), .val (.int (2 : Int32)), .val (.int (0 : Int32))]) rfl ?_
        show Steps p.tables e below (s₁.setTop (mkF m 34 #[.val (.int p1), .val (.int p2), .val (.int (1 : Int32)), .val (.int (2 : Int32)), .val (.int (0 : Int32))] [])) _
        refine XS.iloadN X0.here hx rfl (hb hby at_34) rfl ?_
        show Steps p.tables e below (s₁.setTop (mkF m 35 #[.val (.int p1), .val (.int p2), .val (.int (1 : Int32)), .val (.int (2 : Int32)), .val (.int (0 : Int32))] [(.int (1 : Int32))])) _
        refine st19 _ ?_
        exact k
      rw [hqr19]
      obtain ⟨_, _, ⟨T20, L20, k20, n20⟩, -, X20, ⟨Lc20, hQ20, l20, y20, z20⟩, st20⟩ := Jvm.LawKit.callS X19 hx (y := (⟨"com/example/rialto/rialto/core/movement/WithdrawalStatusHasBeenPinLaw", "pick", "(I)Lcom/example/rialto/rialto/core/movement/WithdrawalStatus;"⟩ : MethodName)) hown (mvT hZ (hw _ (List.mem_of_getElem? (i := 0) rfl))) (mvT hZ (hw _ (List.mem_of_getElem? (i := 1) rfl))) (mvT hZ (hw _ (List.mem_of_getElem? (i := 2) rfl))) (mvT hZ (hw _ (List.mem_of_getElem? (i := 3) rfl))) (by decide) (backOf (W := 1) (rm1 l Z a0 hw [] (2 : Int32) o_PENDING o_RETURNED o_FAILED o_SUCCEEDED h0 n0 Z0 S_PENDING S_RETURNED S_FAILED S_SUCCEEDED) hZ (hw _ (List.mem_of_getElem? (i := 3) rfl)) (hw _ (List.mem_of_getElem? (i := 2) rfl)) (by decide) (by decide)) (g := (mkF m 39 #[.val (.int p1), .val (.int p2), .val (.int (1 : Int32)), .val (.int (2 : Int32)), .val (.int (0 : Int32))] [(.int (2 : Int32)), (.ref o_SUCCEEDED)])) rfl (by rw [hml]; rfl) (argsL := [(.int (2 : Int32))]) (rest := [(.ref o_SUCCEEDED)]) (lenOf pd_0 rfl) rfl (by show 2 * 0 + _ ≤ _; exact Nat.le_of_eq rfl) (hb hby at_39) (fun _ _ => ⟨rfl, eq19, (by decide : 0 + 0 ≤ _), (by decide : 0 + 0 ≤ _)⟩)
      dsimp only [Pt.U, Pt.locs, Pt.cells, Pt.slots] at X20 l20 y20 z20 st20 hQ20
      subst l20 y20 z20
      obtain ⟨r20, rfl, hr20, N20q, eq20⟩ := hQ20
      have N20 := Fr.app N19 N20q
      have hqr20 : r20 = o_FAILED := by rw [hr20]; rfl
      refine GoalS.lift (B := (T20.setTop (mkF m 42 #[.val (.int p1), .val (.int p2), .val (.int (1 : Int32)), .val (.int (2 : Int32)), .val (.int (0 : Int32))] [(.ref r20), (.ref o_SUCCEEDED)]))) (fun t k => ?_) ?_
      · show Steps p.tables e below (T19.setTop (mkF m 38 #[.val (.int p1), .val (.int p2), .val (.int (1 : Int32)), .val (.int (2 : Int32)), .val (.int (0 : Int32))] [(.ref o_SUCCEEDED)])) _
        refine XS.iloadN X19.here hx rfl (hb hby at_38) rfl ?_
        show Steps p.tables e below (T19.setTop (mkF m 39 #[.val (.int p1), .val (.int p2), .val (.int (1 : Int32)), .val (.int (2 : Int32)), .val (.int (0 : Int32))] [(.int (2 : Int32)), (.ref o_SUCCEEDED)])) _
        refine st20 _ ?_
        exact k
      rw [hqr20]
      obtain ⟨cq21, kq21, q21a, q21b, q21c⟩ := isOf hZ eq20 E_o_SUCCEEDED
      obtain ⟨_, _, ⟨T21, L21, k21, n21⟩, -, X21, ⟨Lc21, hQ21, l21, y21, z21⟩, st21⟩ := X20.virtualBack hx (y := (⟨"com/example/rialto/rialto/core/movement/WithdrawalStatus", "hasBeen", "(Lcom/example/rialto/rialto/core/movement/WithdrawalStatus;)Z"⟩ : MethodName)) (z := (⟨"com/example/rialto/rialto/core/movement/WithdrawalStatus", "hasBeen", "(Lcom/example/rialto/rialto/core/movement/WithdrawalStatus;)Z"⟩ : MethodName)) hown (mvT hZ (hw _ (List.mem_of_getElem? (i := 9) rfl))) (mvT hZ (hw _ (List.mem_of_getElem? (i := 10) rfl))) (notFace_of_selects (args := #[]) (mvT hZ (hw _ (List.mem_of_getElem? (i := 12) rfl)))) (mvT hZ (hw _ (List.mem_of_getElem? (i := 12) rfl))) (mvT hZ (hw _ (List.mem_of_getElem? (i := 11) rfl))) (by decide) (backOf (W := 0) (rm2_12 l Z a0 hw [] o_SUCCEEDED o_FAILED o_PENDING o_RETURNED h0 n0 Z0 F_reachedFrom_o_PENDING F_reachedFrom_o_FAILED F_reachedFrom_o_SUCCEEDED F_reachedFrom_o_RETURNED ne_o_PENDING_o_RETURNED ne_o_PENDING_o_FAILED ne_o_PENDING_o_SUCCEEDED ne_o_RETURNED_o_FAILED ne_o_RETURNED_o_SUCCEEDED ne_o_FAILED_o_SUCCEEDED) hZ (hw _ (List.mem_of_getElem? (i := 13) rfl)) (hw _ (List.mem_of_getElem? (i := 5) rfl)) (by decide) (by decide)) q21a q21c (g := (mkF m 42 #[.val (.int p1), .val (.int p2), .val (.int (1 : Int32)), .val (.int (2 : Int32)), .val (.int (0 : Int32))] [(.ref o_FAILED), (.ref o_SUCCEEDED)])) rfl (by rw [hml]; rfl) (Steps.refl _) (argsL := [(.ref o_FAILED)]) (rest := []) (lenOf pd_1 rfl) rfl (by show 2 * 0 + _ ≤ _; exact Nat.le_of_eq rfl) (hb hby at_42) (fun _ _ => ⟨rfl, eq20, (by decide : 0 + 0 ≤ _), (by decide : 0 + 0 ≤ _)⟩)
      dsimp only [Pt.U, Pt.locs, Pt.cells, Pt.slots] at X21 l21 y21 z21 st21 hQ21
      subst l21 y21 z21
      obtain ⟨r21, rfl, hr21, N21q, eq21⟩ := hQ21
      have N21 := Fr.app N20 N21q
      obtain ⟨fs, hr, hrun, hended, hW, hsame⟩ := X21.leave (v := some (.int (1 : Int32))) (fun h => by rw [Bd.returns] at h; cases h)
      refine ⟨_, _, ?_, hrun, hended, _, _, rfl, ?_, ⟨_, rfl⟩, hW, hsame.mono (by decide) (by decide)⟩
      · show Steps p.tables e below (T20.setTop (mkF m 42 #[.val (.int p1), .val (.int p2), .val (.int (1 : Int32)), .val (.int (2 : Int32)), .val (.int (0 : Int32))] [(.ref o_FAILED), (.ref o_SUCCEEDED)])) _
        refine st21.trans ?_
        show Steps p.tables e below (T21.setTop (mkF m 45 #[.val (.int p1), .val (.int p2), .val (.int (1 : Int32)), .val (.int (2 : Int32)), .val (.int (0 : Int32))] [(.int r21)])) _
        refine XS.iload X21.here hx rfl (hb hby at_45) rfl ?_
        show Steps p.tables e below (T21.setTop (mkF m 47 #[.val (.int p1), .val (.int p2), .val (.int (1 : Int32)), .val (.int (2 : Int32)), .val (.int (0 : Int32))] [(.int (0 : Int32)), (.int r21)])) _
        refine XS.icmpNo X21.here hx rfl (hb hby at_47) rfl ((teq (by rw [hr21] : r21 = (0 : Int32))).2) ?_
        show Steps p.tables e below (T21.setTop (mkF m 50 #[.val (.int p1), .val (.int p2), .val (.int (1 : Int32)), .val (.int (2 : Int32)), .val (.int (0 : Int32))] [])) _
        refine XS.iconst X21.here hx rfl (hb hby at_50) ?_
        show Steps p.tables e below (T21.setTop (mkF m 51 #[.val (.int p1), .val (.int p2), .val (.int (1 : Int32)), .val (.int (2 : Int32)), .val (.int (0 : Int32))] [(.int (1 : Int32))])) _
        refine XS.goto X21.here hx rfl (pc0 := 51) (pc' := 55) rfl (hb hby at_51) (by decide) (by decide) ?_
        show Steps p.tables e below (T21.setTop (mkF m 55 #[.val (.int p1), .val (.int p2), .val (.int (1 : Int32)), .val (.int (2 : Int32)), .val (.int (0 : Int32))] [(.int (1 : Int32))])) _
        exact retN X21 hx (t := .boolean) Bd.returns (by simp) (hb hby at_55) hr
      · exact ⟨rfl, N21⟩
    · rw [hk6]
      obtain ⟨_, _, ⟨T22, L22, k22, n22⟩, -, X22, ⟨Lc22, hQ22, l22, y22, z22⟩, st22⟩ := Jvm.LawKit.callS X0 hx (y := (⟨"com/example/rialto/rialto/core/movement/WithdrawalStatusHasBeenPinLaw", "pick", "(I)Lcom/example/rialto/rialto/core/movement/WithdrawalStatus;"⟩ : MethodName)) hown (mvT hZ (hw _ (List.mem_of_getElem? (i := 0) rfl))) (mvT hZ (hw _ (List.mem_of_getElem? (i := 1) rfl))) (mvT hZ (hw _ (List.mem_of_getElem? (i := 2) rfl))) (mvT hZ (hw _ (List.mem_of_getElem? (i := 3) rfl))) (by decide) (backOf (W := 0) (rm1 l Z a0 hw [] (1 : Int32) o_PENDING o_RETURNED o_FAILED o_SUCCEEDED h0 n0 Z0 S_PENDING S_RETURNED S_FAILED S_SUCCEEDED) hZ (hw _ (List.mem_of_getElem? (i := 3) rfl)) (hw _ (List.mem_of_getElem? (i := 2) rfl)) (by decide) (by decide)) (g := (mkF m 35 #[.val (.int p1), .val (.int p2), .val (.int (1 : Int32)), .val (.int (3 : Int32)), .val (.int (0 : Int32))] [(.int (1 : Int32))])) rfl (by rw [hml]; rfl) (argsL := [(.int (1 : Int32))]) (rest := []) (lenOf pd_0 rfl) rfl (by show 2 * 0 + _ ≤ _; exact Nat.le_of_eq rfl) (hb hby at_35) (fun _ _ => ⟨rfl, e0, (by decide : 0 + 0 ≤ _), (by decide : 0 + 0 ≤ _)⟩)
      dsimp only [Pt.U, Pt.locs, Pt.cells, Pt.slots] at X22 l22 y22 z22 st22 hQ22
      subst l22 y22 z22
      obtain ⟨r22, rfl, hr22, N22q, eq22⟩ := hQ22
      have N22 := Fr.app N0 N22q
      have hqr22 : r22 = o_SUCCEEDED := by rw [hr22]; rfl
      refine GoalS.lift (B := (T22.setTop (mkF m 38 #[.val (.int p1), .val (.int p2), .val (.int (1 : Int32)), .val (.int (3 : Int32)), .val (.int (0 : Int32))] [(.ref r22)]))) (fun t k => ?_) ?_
      · show Steps p.tables e below (s₁.setTop (mkF m 7 #[.val (.int p1), .val (.int p2), .val (.int (1 : Int32)), .unset, .unset] [(.int (3 : Int32))])) _
        refine XS.istoreN X0.here hx rfl (hb hby at_7) rfl (l' := #[.val (.int p1), .val (.int p2), .val (.int (1 : Int32)), .val (.int (3 : Int32)), .unset]) rfl ?_
        show Steps p.tables e below (s₁.setTop (mkF m 8 #[.val (.int p1), .val (.int p2), .val (.int (1 : Int32)), .val (.int (3 : Int32)), .unset] [])) _
        refine XS.iloadN X0.here hx rfl (hb hby at_8) rfl ?_
        show Steps p.tables e below (s₁.setTop (mkF m 9 #[.val (.int p1), .val (.int p2), .val (.int (1 : Int32)), .val (.int (3 : Int32)), .unset] [(.int (1 : Int32))])) _
        refine XS.iloadN X0.here hx rfl (hb hby at_9) rfl ?_
        show Steps p.tables e below (s₁.setTop (mkF m 10 #[.val (.int p1), .val (.int p2), .val (.int (1 : Int32)), .val (.int (3 : Int32)), .unset] [(.int (3 : Int32)), (.int (1 : Int32))])) _
        refine XS.icmpNo X0.here hx rfl (hb hby at_10) rfl ((feq (by decide : ¬ ((1 : Int32) = (3 : Int32)))).1) ?_
        show Steps p.tables e below (s₁.setTop (mkF m 13 #[.val (.int p1), .val (.int p2), .val (.int (1 : Int32)), .val (.int (3 : Int32)), .unset] [])) _
        refine XS.iloadN X0.here hx rfl (hb hby at_13) rfl ?_
        show Steps p.tables e below (s₁.setTop (mkF m 14 #[.val (.int p1), .val (.int p2), .val (.int (1 : Int32)), .val (.int (3 : Int32)), .unset] [(.int (3 : Int32))])) _
        refine XS.ifNo X0.here hx rfl (hb hby at_14) rfl ((if0 _ _).trans (feq (by decide : ¬ ((3 : Int32) = (0 : Int32)))).1) ?_
        show Steps p.tables e below (s₁.setTop (mkF m 17 #[.val (.int p1), .val (.int p2), .val (.int (1 : Int32)), .val (.int (3 : Int32)), .unset] [])) _
        refine XS.iloadN X0.here hx rfl (hb hby at_17) rfl ?_
        show Steps p.tables e below (s₁.setTop (mkF m 18 #[.val (.int p1), .val (.int p2), .val (.int (1 : Int32)), .val (.int (3 : Int32)), .unset] [(.int (1 : Int32))])) _
        refine XS.iconst X0.here hx rfl (hb hby at_18) ?_
        show Steps p.tables e below (s₁.setTop (mkF m 19 #[.val (.int p1), .val (.int p2), .val (.int (1 : Int32)), .val (.int (3 : Int32)), .unset] [(.int (3 : Int32)), (.int (1 : Int32))])) _
        refine XS.icmpYes X0.here hx rfl (pc0 := 19) (pc' := 31) rfl (hb hby at_19) rfl ((feq (by decide : ¬ ((1 : Int32) = (3 : Int32)))).2) (by decide) (by decide) ?_
        show Steps p.tables e below (s₁.setTop (mkF m 31 #[.val (.int p1), .val (.int p2), .val (.int (1 : Int32)), .val (.int (3 : Int32)), .unset] [])) _
        refine XS.iconst X0.here hx rfl (hb hby at_31) ?_
        show Steps p.tables e below (s₁.setTop (mkF m 32 #[.val (.int p1), .val (.int p2), .val (.int (1 : Int32)), .val (.int (3 : Int32)), .unset] [(.int (0 : Int32))])) _
        refine XS.istore X0.here hx rfl (hb hby at_32) rfl (l' := #[.val (.int p1), .val (.int p2), .val (.int (1 : Int32)), .val (.int (3 : Int32)), .val (.int (0 : Int32))]) rfl ?_
        show Steps p.tables e below (s₁.setTop (mkF m 34 #[.val (.int p1), .val (.int p2), .val (.int (1 : Int32)), .val (.int (3 : Int32)), .val (.int (0 : Int32))] [])) _
        refine XS.iloadN X0.here hx rfl (hb hby at_34) rfl ?_
        show Steps p.tables e below (s₁.setTop (mkF m 35 #[.val (.int p1), .val (.int p2), .val (.int (1 : Int32)), .val (.int (3 : Int32)), .val (.int (0 : Int32))] [(.int (1 : Int32))])) _
        refine st22 _ ?_
        exact k
      rw [hqr22]
      obtain ⟨_, _, ⟨T23, L23, k23, n23⟩, -, X23, ⟨Lc23, hQ23, l23, y23, z23⟩, st23⟩ := Jvm.LawKit.callS X22 hx (y := (⟨"com/example/rialto/rialto/core/movement/WithdrawalStatusHasBeenPinLaw", "pick", "(I)Lcom/example/rialto/rialto/core/movement/WithdrawalStatus;"⟩ : MethodName)) hown (mvT hZ (hw _ (List.mem_of_getElem? (i := 0) rfl))) (mvT hZ (hw _ (List.mem_of_getElem? (i := 1) rfl))) (mvT hZ (hw _ (List.mem_of_getElem? (i := 2) rfl))) (mvT hZ (hw _ (List.mem_of_getElem? (i := 3) rfl))) (by decide) (backOf (W := 1) (rm1 l Z a0 hw [] (3 : Int32) o_PENDING o_RETURNED o_FAILED o_SUCCEEDED h0 n0 Z0 S_PENDING S_RETURNED S_FAILED S_SUCCEEDED) hZ (hw _ (List.mem_of_getElem? (i := 3) rfl)) (hw _ (List.mem_of_getElem? (i := 2) rfl)) (by decide) (by decide)) (g := (mkF m 39 #[.val (.int p1), .val (.int p2), .val (.int (1 : Int32)), .val (.int (3 : Int32)), .val (.int (0 : Int32))] [(.int (3 : Int32)), (.ref o_SUCCEEDED)])) rfl (by rw [hml]; rfl) (argsL := [(.int (3 : Int32))]) (rest := [(.ref o_SUCCEEDED)]) (lenOf pd_0 rfl) rfl (by show 2 * 0 + _ ≤ _; exact Nat.le_of_eq rfl) (hb hby at_39) (fun _ _ => ⟨rfl, eq22, (by decide : 0 + 0 ≤ _), (by decide : 0 + 0 ≤ _)⟩)
      dsimp only [Pt.U, Pt.locs, Pt.cells, Pt.slots] at X23 l23 y23 z23 st23 hQ23
      subst l23 y23 z23
      obtain ⟨r23, rfl, hr23, N23q, eq23⟩ := hQ23
      have N23 := Fr.app N22 N23q
      have hqr23 : r23 = o_RETURNED := by rw [hr23]; rfl
      refine GoalS.lift (B := (T23.setTop (mkF m 42 #[.val (.int p1), .val (.int p2), .val (.int (1 : Int32)), .val (.int (3 : Int32)), .val (.int (0 : Int32))] [(.ref r23), (.ref o_SUCCEEDED)]))) (fun t k => ?_) ?_
      · show Steps p.tables e below (T22.setTop (mkF m 38 #[.val (.int p1), .val (.int p2), .val (.int (1 : Int32)), .val (.int (3 : Int32)), .val (.int (0 : Int32))] [(.ref o_SUCCEEDED)])) _
        refine XS.iloadN X22.here hx rfl (hb hby at_38) rfl ?_
        show Steps p.tables e below (T22.setTop (mkF m 39 #[.val (.int p1), .val (.int p2), .val (.int (1 : Int32)), .val (.int (3 : Int32)), .val (.int (0 : Int32))] [(.int (3 : Int32)), (.ref o_SUCCEEDED)])) _
        refine st23 _ ?_
        exact k
      rw [hqr23]
      obtain ⟨cq24, kq24, q24a, q24b, q24c⟩ := isOf hZ eq23 E_o_SUCCEEDED
      obtain ⟨_, _, ⟨T24, L24, k24, n24⟩, -, X24, ⟨Lc24, hQ24, l24, y24, z24⟩, st24⟩ := X23.virtualBack hx (y := (⟨"com/example/rialto/rialto/core/movement/WithdrawalStatus", "hasBeen", "(Lcom/example/rialto/rialto/core/movement/WithdrawalStatus;)Z"⟩ : MethodName)) (z := (⟨"com/example/rialto/rialto/core/movement/WithdrawalStatus", "hasBeen", "(Lcom/example/rialto/rialto/core/movement/WithdrawalStatus;)Z"⟩ : MethodName)) hown (mvT hZ (hw _ (List.mem_of_getElem? (i := 9) rfl))) (mvT hZ (hw _ (List.mem_of_getElem? (i := 10) rfl))) (notFace_of_selects (args := #[]) (mvT hZ (hw _ (List.mem_of_getElem? (i := 12) rfl)))) (mvT hZ (hw _ (List.mem_of_getElem? (i := 12) rfl))) (mvT hZ (hw _ (List.mem_of_getElem? (i := 11) rfl))) (by decide) (backOf (W := 0) (rm2_13 l Z a0 hw [] o_SUCCEEDED o_RETURNED o_PENDING o_FAILED h0 n0 Z0 F_reachedFrom_o_PENDING F_reachedFrom_o_FAILED F_reachedFrom_o_SUCCEEDED F_reachedFrom_o_RETURNED ne_o_PENDING_o_RETURNED ne_o_PENDING_o_FAILED ne_o_PENDING_o_SUCCEEDED ne_o_RETURNED_o_FAILED ne_o_RETURNED_o_SUCCEEDED ne_o_FAILED_o_SUCCEEDED) hZ (hw _ (List.mem_of_getElem? (i := 13) rfl)) (hw _ (List.mem_of_getElem? (i := 5) rfl)) (by decide) (by decide)) q24a q24c (g := (mkF m 42 #[.val (.int p1), .val (.int p2), .val (.int (1 : Int32)), .val (.int (3 : Int32)), .val (.int (0 : Int32))] [(.ref o_RETURNED), (.ref o_SUCCEEDED)])) rfl (by rw [hml]; rfl) (Steps.refl _) (argsL := [(.ref o_RETURNED)]) (rest := []) (lenOf pd_1 rfl) rfl (by show 2 * 0 + _ ≤ _; exact Nat.le_of_eq rfl) (hb hby at_42) (fun _ _ => ⟨rfl, eq23, (by decide : 0 + 0 ≤ _), (by decide : 0 + 0 ≤ _)⟩)
      dsimp only [Pt.U, Pt.locs, Pt.cells, Pt.slots] at X24 l24 y24 z24 st24 hQ24
      subst l24 y24 z24
      obtain ⟨r24, rfl, hr24, N24q, eq24⟩ := hQ24
      have N24 := Fr.app N23 N24q
      obtain ⟨fs, hr, hrun, hended, hW, hsame⟩ := X24.leave (v := some (.int (1 : Int32))) (fun h => by rw [Bd.returns] at h; cases h)
      refine ⟨_, _, ?_, hrun, hended, _, _, rfl, ?_, ⟨_, rfl⟩, hW, hsame.mono (by decide) (by decide)⟩
      · show Steps p.tables e below (T23.setTop (mkF m 42 #[.val (.int p1), .val (.int p2), .val (.int (1 : Int32)), .val (.int (3 : Int32)), .val (.int (0 : Int32))] [(.ref o_RETURNED), (.ref o_SUCCEEDED)])) _
        refine st24.trans ?_
        show Steps p.tables e below (T24.setTop (mkF m 45 #[.val (.int p1), .val (.int p2), .val (.int (1 : Int32)), .val (.int (3 : Int32)), .val (.int (0 : Int32))] [(.int r24)])) _
        refine XS.iload X24.here hx rfl (hb hby at_45) rfl ?_
        show Steps p.tables e below (T24.setTop (mkF m 47 #[.val (.int p1), .val (.int p2), .val (.int (1 : Int32)), .val (.int (3 : Int32)), .val (.int (0 : Int32))] [(.int (0 : Int32)), (.int r24)])) _
        refine XS.icmpNo X24.here hx rfl (hb hby at_47) rfl ((teq (by rw [hr24] : r24 = (0 : Int32))).2) ?_
        show Steps p.tables e below (T24.setTop (mkF m 50 #[.val (.int p1), .val (.int p2), .val (.int (1 : Int32)), .val (.int (3 : Int32)), .val (.int (0 : Int32))] [])) _
        refine XS.iconst X24.here hx rfl (hb hby at_50) ?_
        show Steps p.tables e below (T24.setTop (mkF m 51 #[.val (.int p1), .val (.int p2), .val (.int (1 : Int32)), .val (.int (3 : Int32)), .val (.int (0 : Int32))] [(.int (1 : Int32))])) _
        refine XS.goto X24.here hx rfl (pc0 := 51) (pc' := 55) rfl (hb hby at_51) (by decide) (by decide) ?_
        show Steps p.tables e below (T24.setTop (mkF m 55 #[.val (.int p1), .val (.int p2), .val (.int (1 : Int32)), .val (.int (3 : Int32)), .val (.int (0 : Int32))] [(.int (1 : Int32))])) _
        exact retN X24 hx (t := .boolean) Bd.returns (by simp) (hb hby at_55) hr
      · exact ⟨rfl, N24⟩
  · rw [hk2]
    refine GoalS.lift (B := (s₁.setTop (mkF m 7 #[.val (.int p1), .val (.int p2), .val (.int (2 : Int32)), .unset, .unset] [(.int (p2 &&& (3 : Int32)))]))) (fun t k => ?_) ?_
    · show Steps p.tables e below (s₁.setTop (mkF m 3 #[.val (.int p1), .val (.int p2), .unset, .unset, .unset] [(.int (2 : Int32))])) _
      refine XS.istoreN X0.here hx rfl (hb hby at_3) rfl (l' := #[.val (.int p1), .val (.int p2), .val (.int (2 : Int32)), .unset, .unset]) rfl ?_
      show Steps p.tables e below (s₁.setTop (mkF m 4 #[.val (.int p1), .val (.int p2), .val (.int (2 : Int32)), .unset, .unset] [])) _
      refine XS.iloadN X0.here hx rfl (hb hby at_4) rfl ?_
      show Steps p.tables e below (s₁.setTop (mkF m 5 #[.val (.int p1), .val (.int p2), .val (.int (2 : Int32)), .unset, .unset] [(.int p2)])) _
      refine XS.iconst X0.here hx rfl (hb hby at_5) ?_
      show Steps p.tables e below (s₁.setTop (mkF m 6 #[.val (.int p1), .val (.int p2), .val (.int (2 : Int32)), .unset, .unset] [(.int (3 : Int32)), (.int p2)])) _
      refine XS.iand X0.here hx rfl (hb hby at_6) rfl ?_
      exact k
    rcases own_four p2 with hk6 | hk6 | hk6 | hk6
    · rw [hk6]
      obtain ⟨_, _, ⟨T25, L25, k25, n25⟩, -, X25, ⟨Lc25, hQ25, l25, y25, z25⟩, st25⟩ := Jvm.LawKit.callS X0 hx (y := (⟨"com/example/rialto/rialto/core/movement/WithdrawalStatusHasBeenPinLaw", "pick", "(I)Lcom/example/rialto/rialto/core/movement/WithdrawalStatus;"⟩ : MethodName)) hown (mvT hZ (hw _ (List.mem_of_getElem? (i := 0) rfl))) (mvT hZ (hw _ (List.mem_of_getElem? (i := 1) rfl))) (mvT hZ (hw _ (List.mem_of_getElem? (i := 2) rfl))) (mvT hZ (hw _ (List.mem_of_getElem? (i := 3) rfl))) (by decide) (backOf (W := 0) (rm1 l Z a0 hw [] (2 : Int32) o_PENDING o_RETURNED o_FAILED o_SUCCEEDED h0 n0 Z0 S_PENDING S_RETURNED S_FAILED S_SUCCEEDED) hZ (hw _ (List.mem_of_getElem? (i := 3) rfl)) (hw _ (List.mem_of_getElem? (i := 2) rfl)) (by decide) (by decide)) (g := (mkF m 35 #[.val (.int p1), .val (.int p2), .val (.int (2 : Int32)), .val (.int (0 : Int32)), .val (.int (1 : Int32))] [(.int (2 : Int32))])) rfl (by rw [hml]; rfl) (argsL := [(.int (2 : Int32))]) (rest := []) (lenOf pd_0 rfl) rfl (by show 2 * 0 + _ ≤ _; exact Nat.le_of_eq rfl) (hb hby at_35) (fun _ _ => ⟨rfl, e0, (by decide : 0 + 0 ≤ _), (by decide : 0 + 0 ≤ _)⟩)
      dsimp only [Pt.U, Pt.locs, Pt.cells, Pt.slots] at X25 l25 y25 z25 st25 hQ25
      subst l25 y25 z25
      obtain ⟨r25, rfl, hr25, N25q, eq25⟩ := hQ25
      have N25 := Fr.app N0 N25q
      have hqr25 : r25 = o_FAILED := by rw [hr25]; rfl
      refine GoalS.lift (B := (T25.setTop (mkF m 38 #[.val (.int p1), .val (.int p2), .val (.int (2 : Int32)), .val (.int (0 : Int32)), .val (.int (1 : Int32))] [(.ref r25)]))) (fun t k => ?_) ?_
      · show Steps p.tables e below (s₁.setTop (mkF m 7 #[.val (.int p1), .val (.int p2), .val (.int (2 : Int32)), .unset, .unset] [(.int (0 : Int32))])) _
        refine XS.istoreN X0.here hx rfl (hb hby at_7) rfl (l' := #[.val (.int p1), .val (.int p2), .val (.int (2 : Int32)), .val (.int (0 : Int32)), .unset]) rfl ?_
        show Steps p.tables e below (s₁.setTop (mkF m 8 #[.val (.int p1), .val (.int p2), .val (.int (2 : Int32)), .val (.int (0 : Int32)), .unset] [])) _
        refine XS.iloadN X0.here hx rfl (hb hby at_8) rfl ?_
        show Steps p.tables e below (s₁.setTop (mkF m 9 #[.val (.int p1), .val (.int p2), .val (.int (2 : Int32)), .val (.int (0 : Int32)), .unset] [(.int (2 : Int32))])) _
        refine XS.iloadN X0.here hx rfl (hb hby at_9) rfl ?_
        show Steps p.tables e below (s₁.setTop (mkF m 10 #[.val (.int p1), .val (.int p2), .val (.int (2 : Int32)), .val (.int (0 : Int32)), .unset] [(.int (0 : Int32)), (.int (2 : Int32))])) _
        refine XS.icmpNo X0.here hx rfl (hb hby at_10) rfl ((feq (by decide : ¬ ((2 : Int32) = (0 : Int32)))).1) ?_
        show Steps p.tables e below (s₁.setTop (mkF m 13 #[.val (.int p1), .val (.int p2), .val (.int (2 : Int32)), .val (.int (0 : Int32)), .unset] [])) _
        refine XS.iloadN X0.here hx rfl (hb hby at_13) rfl ?_
        show Steps p.tables e below (s₁.setTop (mkF m 14 #[.val (.int p1), .val (.int p2), .val (.int (2 : Int32)), .val (.int (0 : Int32)), .unset] [(.int (0 : Int32))])) _
        refine XS.ifYes X0.here hx rfl (pc0 := 14) (pc' := 27) rfl (hb hby at_14) rfl ((if0 _ _).trans (teq (by decide : (0 : Int32) = (0 : Int32))).1) (by decide) (by decide) ?_
        show Steps p.tables e below (s₁.setTop (mkF m 27 #[.val (.int p1), .val (.int p2), .val (.int (2 : Int32)), .val (.int (0 : Int32)), .unset] [])) _
        refine XS.iconst X0.here hx rfl (hb hby at_27) ?_
        show Steps p.tables e below (s₁.setTop (mkF m 28 #[.val (.int p1), .val (.int p2), .val (.int (2 : Int32)), .val (.int (0 : Int32)), .unset] [(.int (1 : Int32))])) _
        refine XS.goto X0.here hx rfl (pc0 := 28) (pc' := 32) rfl (hb hby at_28) (by decide) (by decide) ?_
        show Steps p.tables e below (s₁.setTop (mkF m 32 #[.val (.int p1), .val (.int p2), .val (.int (2 : Int32)), .val (.int (0 : Int32)), .unset] [(.int (1 : Int32))])) _
        refine XS.istore X0.here hx rfl (hb hby at_32) rfl (l' := #[.val (.int p1), .val (.int p2), .val (.int (2 : Int32)), .val (.int (0 : Int32)), .val (.int (1 : Int32))]) rfl ?_
        show Steps p.tables e below (s₁.setTop (mkF m 34 #[.val (.int p1), .val (.int p2), .val (.int (2 : Int32)), .val (.int (0 : Int32)), .val (.int (1 : Int32))] [])) _
        refine XS.iloadN X0.here hx rfl (hb hby at_34) rfl ?_
        show Steps p.tables e below (s₁.setTop (mkF m 35 #[.val (.int p1), .val (.int p2), .val (.int (2 : Int32)), .val (.int (0 : Int32)), .val (.int (1 : Int32))] [(.int (2 : Int32))])) _
        refine st25 _ ?_
        exact k
      rw [hqr25]
      obtain ⟨_, _, ⟨T26, L26, k26, n26⟩, -, X26, ⟨Lc26, hQ26, l26, y26, z26⟩, st26⟩ := Jvm.LawKit.callS X25 hx (y := (⟨"com/example/rialto/rialto/core/movement/WithdrawalStatusHasBeenPinLaw", "pick", "(I)Lcom/example/rialto/rialto/core/movement/WithdrawalStatus;"⟩ : MethodName)) hown (mvT hZ (hw _ (List.mem_of_getElem? (i := 0) rfl))) (mvT hZ (hw _ (List.mem_of_getElem? (i := 1) rfl))) (mvT hZ (hw _ (List.mem_of_getElem? (i := 2) rfl))) (mvT hZ (hw _ (List.mem_of_getElem? (i := 3) rfl))) (by decide) (backOf (W := 1) (rm1 l Z a0 hw [] (0 : Int32) o_PENDING o_RETURNED o_FAILED o_SUCCEEDED h0 n0 Z0 S_PENDING S_RETURNED S_FAILED S_SUCCEEDED) hZ (hw _ (List.mem_of_getElem? (i := 3) rfl)) (hw _ (List.mem_of_getElem? (i := 2) rfl)) (by decide) (by decide)) (g := (mkF m 39 #[.val (.int p1), .val (.int p2), .val (.int (2 : Int32)), .val (.int (0 : Int32)), .val (.int (1 : Int32))] [(.int (0 : Int32)), (.ref o_FAILED)])) rfl (by rw [hml]; rfl) (argsL := [(.int (0 : Int32))]) (rest := [(.ref o_FAILED)]) (lenOf pd_0 rfl) rfl (by show 2 * 0 + _ ≤ _; exact Nat.le_of_eq rfl) (hb hby at_39) (fun _ _ => ⟨rfl, eq25, (by decide : 0 + 0 ≤ _), (by decide : 0 + 0 ≤ _)⟩)
      dsimp only [Pt.U, Pt.locs, Pt.cells, Pt.slots] at X26 l26 y26 z26 st26 hQ26
      subst l26 y26 z26
      obtain ⟨r26, rfl, hr26, N26q, eq26⟩ := hQ26
      have N26 := Fr.app N25 N26q
      have hqr26 : r26 = o_PENDING := by rw [hr26]; rfl
      refine GoalS.lift (B := (T26.setTop (mkF m 42 #[.val (.int p1), .val (.int p2), .val (.int (2 : Int32)), .val (.int (0 : Int32)), .val (.int (1 : Int32))] [(.ref r26), (.ref o_FAILED)]))) (fun t k => ?_) ?_
      · show Steps p.tables e below (T25.setTop (mkF m 38 #[.val (.int p1), .val (.int p2), .val (.int (2 : Int32)), .val (.int (0 : Int32)), .val (.int (1 : Int32))] [(.ref o_FAILED)])) _
        refine XS.iloadN X25.here hx rfl (hb hby at_38) rfl ?_
        show Steps p.tables e below (T25.setTop (mkF m 39 #[.val (.int p1), .val (.int p2), .val (.int (2 : Int32)), .val (.int (0 : Int32)), .val (.int (1 : Int32))] [(.int (0 : Int32)), (.ref o_FAILED)])) _
        refine st26 _ ?_
        exact k
      rw [hqr26]
      obtain ⟨cq27, kq27, q27a, q27b, q27c⟩ := isOf hZ eq26 E_o_FAILED
      obtain ⟨_, _, ⟨T27, L27, k27, n27⟩, -, X27, ⟨Lc27, hQ27, l27, y27, z27⟩, st27⟩ := X26.virtualBack hx (y := (⟨"com/example/rialto/rialto/core/movement/WithdrawalStatus", "hasBeen", "(Lcom/example/rialto/rialto/core/movement/WithdrawalStatus;)Z"⟩ : MethodName)) (z := (⟨"com/example/rialto/rialto/core/movement/WithdrawalStatus", "hasBeen", "(Lcom/example/rialto/rialto/core/movement/WithdrawalStatus;)Z"⟩ : MethodName)) hown (mvT hZ (hw _ (List.mem_of_getElem? (i := 9) rfl))) (mvT hZ (hw _ (List.mem_of_getElem? (i := 10) rfl))) (notFace_of_selects (args := #[]) (mvT hZ (hw _ (List.mem_of_getElem? (i := 12) rfl)))) (mvT hZ (hw _ (List.mem_of_getElem? (i := 12) rfl))) (mvT hZ (hw _ (List.mem_of_getElem? (i := 11) rfl))) (by decide) (backOf (W := 0) (rm2_20 l Z a0 hw [] o_FAILED o_PENDING o_RETURNED o_SUCCEEDED h0 n0 Z0 F_reachedFrom_o_PENDING F_reachedFrom_o_FAILED F_reachedFrom_o_SUCCEEDED F_reachedFrom_o_RETURNED ne_o_PENDING_o_RETURNED ne_o_PENDING_o_FAILED ne_o_PENDING_o_SUCCEEDED ne_o_RETURNED_o_FAILED ne_o_RETURNED_o_SUCCEEDED ne_o_FAILED_o_SUCCEEDED) hZ (hw _ (List.mem_of_getElem? (i := 13) rfl)) (hw _ (List.mem_of_getElem? (i := 5) rfl)) (by decide) (by decide)) q27a q27c (g := (mkF m 42 #[.val (.int p1), .val (.int p2), .val (.int (2 : Int32)), .val (.int (0 : Int32)), .val (.int (1 : Int32))] [(.ref o_PENDING), (.ref o_FAILED)])) rfl (by rw [hml]; rfl) (Steps.refl _) (argsL := [(.ref o_PENDING)]) (rest := []) (lenOf pd_1 rfl) rfl (by show 2 * 0 + _ ≤ _; exact Nat.le_of_eq rfl) (hb hby at_42) (fun _ _ => ⟨rfl, eq26, (by decide : 0 + 0 ≤ _), (by decide : 0 + 0 ≤ _)⟩)
      dsimp only [Pt.U, Pt.locs, Pt.cells, Pt.slots] at X27 l27 y27 z27 st27 hQ27
      subst l27 y27 z27
      obtain ⟨r27, rfl, hr27, N27q, eq27⟩ := hQ27
      have N27 := Fr.app N26 N27q
      obtain ⟨fs, hr, hrun, hended, hW, hsame⟩ := X27.leave (v := some (.int (1 : Int32))) (fun h => by rw [Bd.returns] at h; cases h)
      refine ⟨_, _, ?_, hrun, hended, _, _, rfl, ?_, ⟨_, rfl⟩, hW, hsame.mono (by decide) (by decide)⟩
      · show Steps p.tables e below (T26.setTop (mkF m 42 #[.val (.int p1), .val (.int p2), .val (.int (2 : Int32)), .val (.int (0 : Int32)), .val (.int (1 : Int32))] [(.ref o_PENDING), (.ref o_FAILED)])) _
        refine st27.trans ?_
        show Steps p.tables e below (T27.setTop (mkF m 45 #[.val (.int p1), .val (.int p2), .val (.int (2 : Int32)), .val (.int (0 : Int32)), .val (.int (1 : Int32))] [(.int r27)])) _
        refine XS.iload X27.here hx rfl (hb hby at_45) rfl ?_
        show Steps p.tables e below (T27.setTop (mkF m 47 #[.val (.int p1), .val (.int p2), .val (.int (2 : Int32)), .val (.int (0 : Int32)), .val (.int (1 : Int32))] [(.int (1 : Int32)), (.int r27)])) _
        refine XS.icmpNo X27.here hx rfl (hb hby at_47) rfl ((teq (by rw [hr27] : r27 = (1 : Int32))).2) ?_
        show Steps p.tables e below (T27.setTop (mkF m 50 #[.val (.int p1), .val (.int p2), .val (.int (2 : Int32)), .val (.int (0 : Int32)), .val (.int (1 : Int32))] [])) _
        refine XS.iconst X27.here hx rfl (hb hby at_50) ?_
        show Steps p.tables e below (T27.setTop (mkF m 51 #[.val (.int p1), .val (.int p2), .val (.int (2 : Int32)), .val (.int (0 : Int32)), .val (.int (1 : Int32))] [(.int (1 : Int32))])) _
        refine XS.goto X27.here hx rfl (pc0 := 51) (pc' := 55) rfl (hb hby at_51) (by decide) (by decide) ?_
        show Steps p.tables e below (T27.setTop (mkF m 55 #[.val (.int p1), .val (.int p2), .val (.int (2 : Int32)), .val (.int (0 : Int32)), .val (.int (1 : Int32))] [(.int (1 : Int32))])) _
        exact retN X27 hx (t := .boolean) Bd.returns (by simp) (hb hby at_55) hr
      · exact ⟨rfl, N27⟩
    · rw [hk6]
      obtain ⟨_, _, ⟨T28, L28, k28, n28⟩, -, X28, ⟨Lc28, hQ28, l28, y28, z28⟩, st28⟩ := Jvm.LawKit.callS X0 hx (y := (⟨"com/example/rialto/rialto/core/movement/WithdrawalStatusHasBeenPinLaw", "pick", "(I)Lcom/example/rialto/rialto/core/movement/WithdrawalStatus;"⟩ : MethodName)) hown (mvT hZ (hw _ (List.mem_of_getElem? (i := 0) rfl))) (mvT hZ (hw _ (List.mem_of_getElem? (i := 1) rfl))) (mvT hZ (hw _ (List.mem_of_getElem? (i := 2) rfl))) (mvT hZ (hw _ (List.mem_of_getElem? (i := 3) rfl))) (by decide) (backOf (W := 0) (rm1 l Z a0 hw [] (2 : Int32) o_PENDING o_RETURNED o_FAILED o_SUCCEEDED h0 n0 Z0 S_PENDING S_RETURNED S_FAILED S_SUCCEEDED) hZ (hw _ (List.mem_of_getElem? (i := 3) rfl)) (hw _ (List.mem_of_getElem? (i := 2) rfl)) (by decide) (by decide)) (g := (mkF m 35 #[.val (.int p1), .val (.int p2), .val (.int (2 : Int32)), .val (.int (1 : Int32)), .val (.int (0 : Int32))] [(.int (2 : Int32))])) rfl (by rw [hml]; rfl) (argsL := [(.int (2 : Int32))]) (rest := []) (lenOf pd_0 rfl) rfl (by show 2 * 0 + _ ≤ _; exact Nat.le_of_eq rfl) (hb hby at_35) (fun _ _ => ⟨rfl, e0, (by decide : 0 + 0 ≤ _), (by decide : 0 + 0 ≤ _)⟩)
      dsimp only [Pt.U, Pt.locs, Pt.cells, Pt.slots] at X28 l28 y28 z28 st28 hQ28
      subst l28 y28 z28
      obtain ⟨r28, rfl, hr28, N28q, eq28⟩ := hQ28
      have N28 := Fr.app N0 N28q
      have hqr28 : r28 = o_FAILED := by rw [hr28]; rfl
      refine GoalS.lift (B := (T28.setTop (mkF m 38 #[.val (.int p1), .val (.int p2), .val (.int (2 : Int32)), .val (.int (1 : Int32)), .val (.int (0 : Int32))] [(.ref r28)]))) (fun t k => ?_) ?_
      · show Steps p.tables e below (s₁.setTop (mkF m 7 #[.val (.int p1), .val (.int p2), .val (.int (2 : Int32)), .unset, .unset] [(.int (1 : Int32))])) _
        refine XS.istoreN X0.here hx rfl (hb hby at_7) rfl (l' := #[.val (.int p1), .val (.int p2), .val (.int (2 : Int32)), .val (.int (1 : Int32)), .unset]) rfl ?_
        show Steps p.tables e below (s₁.setTop (mkF m 8 #[.val (.int p1), .val (.int p2), .val (.int (2 : Int32)), .val (.int (1 : Int32)), .unset] [])) _
        refine XS.iloadN X0.here hx rfl (hb hby at_8) rfl ?_
        show Steps p.tables e below (s₁.setTop (mkF m 9 #[.val (.int p1), .val (.int p2), .val (.int (2 : Int32)), .val (.int (1 : Int32)), .unset] [(.int (2 : Int32))])) _
        refine XS.iloadN X0.here hx rfl (hb hby at_9) rfl ?_
        show Steps p.tables e below (s₁.setTop (mkF m 10 #[.val (.int p1), .val (.int p2), .val (.int (2 : Int32)), .val (.int (1 : Int32)), .unset] [(.int (1 : Int32)), (.int (2 : Int32))])) _
        refine XS.icmpNo X0.here hx rfl (hb hby at_10) rfl ((feq (by decide : ¬ ((2 : Int32) = (1 : Int32)))).1) ?_
        show Steps p.tables e below (s₁.setTop (mkF m 13 #[.val (.int p1), .val (.int p2), .val (.int (2 : Int32)), .val (.int (1 : Int32)), .unset] [])) _
        refine XS.iloadN X0.here hx rfl (hb hby at_13) rfl ?_
        show Steps p.tables e below (s₁.setTop (mkF m 14 #[.val (.int p1), .val (.int p2), .val (.int (2 : Int32)), .val (.int (1 : Int32)), .unset] [(.int (1 : Int32))])) _
        refine XS.ifNo X0.here hx rfl (hb hby at_14) rfl ((if0 _ _).trans (feq (by decide : ¬ ((1 : Int32) = (0 : Int32)))).1) ?_
        show Steps p.tables e below (s₁.setTop (mkF m 17 #[.val (.int p1), .val (.int p2), .val (.int (2 : Int32)), .val (.int (1 : Int32)), .unset] [])) _
        refine XS.iloadN X0.here hx rfl (hb hby at_17) rfl ?_
        show Steps p.tables e below (s₁.setTop (mkF m 18 #[.val (.int p1), .val (.int p2), .val (.int (2 : Int32)), .val (.int (1 : Int32)), .unset] [(.int (2 : Int32))])) _
        refine XS.iconst X0.here hx rfl (hb hby at_18) ?_
        show Steps p.tables e below (s₁.setTop (mkF m 19 #[.val (.int p1), .val (.int p2), .val (.int (2 : Int32)), .val (.int (1 : Int32)), .unset] [(.int (3 : Int32)), (.int (2 : Int32))])) _
        refine XS.icmpYes X0.here hx rfl (pc0 := 19) (pc' := 31) rfl (hb hby at_19) rfl ((feq (by decide : ¬ ((2 : Int32) = (3 : Int32)))).2) (by decide) (by decide) ?_
        show Steps p.tables e below (s₁.setTop (mkF m 31 #[.val (.int p1), .val (.int p2), .val (.int (2 : Int32)), .val (.int (1 : Int32)), .unset] [])) _
        refine XS.iconst X0.here hx rfl (hb hby at_31) ?_
        show Steps p.tables e below (s₁.setTop (mkF m 32 #[.val (.int p1), .val (.int p2), .val (.int (2 : Int32)), .val (.int (1 : Int32)), .unset] [(.int (0 : Int32))])) _
        refine XS.istore X0.here hx rfl (hb hby at_32) rfl (l' := #[.val (.int p1), .val (.int p2), .val (.int (2 : Int32)), .val (.int (1 : Int32)), .val (.int (0 : Int32))]) rfl ?_
        show Steps p.tables e below (s₁.setTop (mkF m 34 #[.val (.int p1), .val (.int p2), .val (.int (2 : Int32)), .val (.int (1 : Int32)), .val (.int (0 : Int32))] [])) _
        refine XS.iloadN X0.here hx rfl (hb hby at_34) rfl ?_
        show Steps p.tables e below (s₁.setTop (mkF m 35 #[.val (.int p1), .val (.int p2), .val (.int (2 : Int32)), .val (.int (1 : Int32)), .val (.int (0 : Int32))] [(.int (2 : Int32))])) _
        refine st28 _ ?_
        exact k
      rw [hqr28]
      obtain ⟨_, _, ⟨T29, L29, k29, n29⟩, -, X29, ⟨Lc29, hQ29, l29, y29, z29⟩, st29⟩ := Jvm.LawKit.callS X28 hx (y := (⟨"com/example/rialto/rialto/core/movement/WithdrawalStatusHasBeenPinLaw", "pick", "(I)Lcom/example/rialto/rialto/core/movement/WithdrawalStatus;"⟩ : MethodName)) hown (mvT hZ (hw _ (List.mem_of_getElem? (i := 0) rfl))) (mvT hZ (hw _ (List.mem_of_getElem? (i := 1) rfl))) (mvT hZ (hw _ (List.mem_of_getElem? (i := 2) rfl))) (mvT hZ (hw _ (List.mem_of_getElem? (i := 3) rfl))) (by decide) (backOf (W := 1) (rm1 l Z a0 hw [] (1 : Int32) o_PENDING o_RETURNED o_FAILED o_SUCCEEDED h0 n0 Z0 S_PENDING S_RETURNED S_FAILED S_SUCCEEDED) hZ (hw _ (List.mem_of_getElem? (i := 3) rfl)) (hw _ (List.mem_of_getElem? (i := 2) rfl)) (by decide) (by decide)) (g := (mkF m 39 #[.val (.int p1), .val (.int p2), .val (.int (2 : Int32)), .val (.int (1 : Int32)), .val (.int (0 : Int32))] [(.int (1 : Int32)), (.ref o_FAILED)])) rfl (by rw [hml]; rfl) (argsL := [(.int (1 : Int32))]) (rest := [(.ref o_FAILED)]) (lenOf pd_0 rfl) rfl (by show 2 * 0 + _ ≤ _; exact Nat.le_of_eq rfl) (hb hby at_39) (fun _ _ => ⟨rfl, eq28, (by decide : 0 + 0 ≤ _), (by decide : 0 + 0 ≤ _)⟩)
      dsimp only [Pt.U, Pt.locs, Pt.cells, Pt.slots] at X29 l29 y29 z29 st29 hQ29
      subst l29 y29 z29
      obtain ⟨r29, rfl, hr29, N29q, eq29⟩ := hQ29
      have N29 := Fr.app N28 N29q
      have hqr29 : r29 = o_SUCCEEDED := by rw [hr29]; rfl
      refine GoalS.lift (B := (T29.setTop (mkF m 42 #[.val (.int p1), .val (.int p2), .val (.int (2 : Int32)), .val (.int (1 : Int32)), .val (.int (0 : Int32))] [(.ref r29), (.ref o_FAILED)]))) (fun t k => ?_) ?_
      · show Steps p.tables e below (T28.setTop (mkF m 38 #[.val (.int p1), .val (.int p2), .val (.int (2 : Int32)), .val (.int (1 : Int32)), .val (.int (0 : Int32))] [(.ref o_FAILED)])) _
        refine XS.iloadN X28.here hx rfl (hb hby at_38) rfl ?_
        show Steps p.tables e below (T28.setTop (mkF m 39 #[.val (.int p1), .val (.int p2), .val (.int (2 : Int32)), .val (.int (1 : Int32)), .val (.int (0 : Int32))] [(.int (1 : Int32)), (.ref o_FAILED)])) _
        refine st29 _ ?_
        exact k
      rw [hqr29]
      obtain ⟨cq30, kq30, q30a, q30b, q30c⟩ := isOf hZ eq29 E_o_FAILED
      obtain ⟨_, _, ⟨T30, L30, k30, n30⟩, -, X30, ⟨Lc30, hQ30, l30, y30, z30⟩, st30⟩ := X29.virtualBack hx (y := (⟨"com/example/rialto/rialto/core/movement/WithdrawalStatus", "hasBeen", "(Lcom/example/rialto/rialto/core/movement/WithdrawalStatus;)Z"⟩ : MethodName)) (z := (⟨"com/example/rialto/rialto/core/movement/WithdrawalStatus", "hasBeen", "(Lcom/example/rialto/rialto/core/movement/WithdrawalStatus;)Z"⟩ : MethodName)) hown (mvT hZ (hw _ (List.mem_of_getElem? (i := 9) rfl))) (mvT hZ (hw _ (List.mem_of_getElem? (i := 10) rfl))) (notFace_of_selects (args := #[]) (mvT hZ (hw _ (List.mem_of_getElem? (i := 12) rfl)))) (mvT hZ (hw _ (List.mem_of_getElem? (i := 12) rfl))) (mvT hZ (hw _ (List.mem_of_getElem? (i := 11) rfl))) (by decide) (backOf (W := 0) (rm2_21 l Z a0 hw [] o_FAILED o_SUCCEEDED o_PENDING o_RETURNED h0 n0 Z0 F_reachedFrom_o_PENDING F_reachedFrom_o_FAILED F_reachedFrom_o_SUCCEEDED F_reachedFrom_o_RETURNED ne_o_PENDING_o_RETURNED ne_o_PENDING_o_FAILED ne_o_PENDING_o_SUCCEEDED ne_o_RETURNED_o_FAILED ne_o_RETURNED_o_SUCCEEDED ne_o_FAILED_o_SUCCEEDED) hZ (hw _ (List.mem_of_getElem? (i := 13) rfl)) (hw _ (List.mem_of_getElem? (i := 5) rfl)) (by decide) (by decide)) q30a q30c (g := (mkF m 42 #[.val (.int p1), .val (.int p2), .val (.int (2 : Int32)), .val (.int (1 : Int32)), .val (.int (0 : Int32))] [(.ref o_SUCCEEDED), (.ref o_FAILED)])) rfl (by rw [hml]; rfl) (Steps.refl _) (argsL := [(.ref o_SUCCEEDED)]) (rest := []) (lenOf pd_1 rfl) rfl (by show 2 * 0 + _ ≤ _; exact Nat.le_of_eq rfl) (hb hby at_42) (fun _ _ => ⟨rfl, eq29, (by decide : 0 + 0 ≤ _), (by decide : 0 + 0 ≤ _)⟩)
      dsimp only [Pt.U, Pt.locs, Pt.cells, Pt.slots] at X30 l30 y30 z30 st30 hQ30
      subst l30 y30 z30
      obtain ⟨r30, rfl, hr30, N30q, eq30⟩ := hQ30
      have N30 := Fr.app N29 N30q
      obtain ⟨fs, hr, hrun, hended, hW, hsame⟩ := X30.leave (v := some (.int (1 : Int32))) (fun h => by rw [Bd.returns] at h; cases h)
      refine ⟨_, _, ?_, hrun, hended, _, _, rfl, ?_, ⟨_, rfl⟩, hW, hsame.mono (by decide) (by decide)⟩
      · show Steps p.tables e below (T29.setTop (mkF m 42 #[.val (.int p1), .val (.int p2), .val (.int (2 : Int32)), .val (.int (1 : Int32)), .val (.int (0 : Int32))] [(.ref o_SUCCEEDED), (.ref o_FAILED)])) _
        refine st30.trans ?_
        show Steps p.tables e below (T30.setTop (mkF m 45 #[.val (.int p1), .val (.int p2), .val (.int (2 : Int32)), .val (.int (1 : Int32)), .val (.int (0 : Int32))] [(.int r30)])) _
        refine XS.iload X30.here hx rfl (hb hby at_45) rfl ?_
        show Steps p.tables e below (T30.setTop (mkF m 47 #[.val (.int p1), .val (.int p2), .val (.int (2 : Int32)), .val (.int (1 : Int32)), .val (.int (0 : Int32))] [(.int (0 : Int32)), (.int r30)])) _
        refine XS.icmpNo X30.here hx rfl (hb hby at_47) rfl ((teq (by rw [hr30] : r30 = (0 : Int32))).2) ?_
        show Steps p.tables e below (T30.setTop (mkF m 50 #[.val (.int p1), .val (.int p2), .val (.int (2 : Int32)), .val (.int (1 : Int32)), .val (.int (0 : Int32))] [])) _
        refine XS.iconst X30.here hx rfl (hb hby at_50) ?_
        show Steps p.tables e below (T30.setTop (mkF m 51 #[.val (.int p1), .val (.int p2), .val (.int (2 : Int32)), .val (.int (1 : Int32)), .val (.int (0 : Int32))] [(.int (1 : Int32))])) _
        refine XS.goto X30.here hx rfl (pc0 := 51) (pc' := 55) rfl (hb hby at_51) (by decide) (by decide) ?_
        show Steps p.tables e below (T30.setTop (mkF m 55 #[.val (.int p1), .val (.int p2), .val (.int (2 : Int32)), .val (.int (1 : Int32)), .val (.int (0 : Int32))] [(.int (1 : Int32))])) _
        exact retN X30 hx (t := .boolean) Bd.returns (by simp) (hb hby at_55) hr
      · exact ⟨rfl, N30⟩
    · rw [hk6]
      obtain ⟨_, _, ⟨T31, L31, k31, n31⟩, -, X31, ⟨Lc31, hQ31, l31, y31, z31⟩, st31⟩ := Jvm.LawKit.callS X0 hx (y := (⟨"com/example/rialto/rialto/core/movement/WithdrawalStatusHasBeenPinLaw", "pick", "(I)Lcom/example/rialto/rialto/core/movement/WithdrawalStatus;"⟩ : MethodName)) hown (mvT hZ (hw _ (List.mem_of_getElem? (i := 0) rfl))) (mvT hZ (hw _ (List.mem_of_getElem? (i := 1) rfl))) (mvT hZ (hw _ (List.mem_of_getElem? (i := 2) rfl))) (mvT hZ (hw _ (List.mem_of_getElem? (i := 3) rfl))) (by decide) (backOf (W := 0) (rm1 l Z a0 hw [] (2 : Int32) o_PENDING o_RETURNED o_FAILED o_SUCCEEDED h0 n0 Z0 S_PENDING S_RETURNED S_FAILED S_SUCCEEDED) hZ (hw _ (List.mem_of_getElem? (i := 3) rfl)) (hw _ (List.mem_of_getElem? (i := 2) rfl)) (by decide) (by decide)) (g := (mkF m 35 #[.val (.int p1), .val (.int p2), .val (.int (2 : Int32)), .val (.int (2 : Int32)), .val (.int (1 : Int32))] [(.int (2 : Int32))])) rfl (by rw [hml]; rfl) (argsL := [(.int (2 : Int32))]) (rest := []) (lenOf pd_0 rfl) rfl (by show 2 * 0 + _ ≤ _; exact Nat.le_of_eq rfl) (hb hby at_35) (fun _ _ => ⟨rfl, e0, (by decide : 0 + 0 ≤ _), (by decide : 0 + 0 ≤ _)⟩)
      dsimp only [Pt.U, Pt.locs, Pt.cells, Pt.slots] at X31 l31 y31 z31 st31 hQ31
      subst l31 y31 z31
      obtain ⟨r31, rfl, hr31, N31q, eq31⟩ := hQ31
      have N31 := Fr.app N0 N31q
      have hqr31 : r31 = o_FAILED := by rw [hr31]; rfl
      refine GoalS.lift (B := (T31.setTop (mkF m 38 #[.val (.int p1), .val (.int p2), .val (.int (2 : Int32)), .val (.int (2 : Int32)), .val (.int (1 : Int32))] [(.ref r31)]))) (fun t k => ?_) ?_
      · show Steps p.tables e below (s₁.setTop (mkF m 7 #[.val (.int p1), .val (.int p2), .val (.int (2 : Int32)), .unset, .unset] [(.int (2 : Int32))])) _
        refine XS.istoreN X0.here hx rfl (hb hby at_7) rfl (l' := #[.val (.int p1), .val (.int p2), .val (.int (2 : Int32)), .val (.int (2 : Int32)), .unset]) rfl ?_
        show Steps p.tables e below (s₁.setTop (mkF m 8 #[.val (.int p1), .val (.int p2), .val (.int (2 : Int32)), .val (.int (2 : Int32)), .unset] [])) _
        refine XS.iloadN X0.here hx rfl (hb hby at_8) rfl ?_
        show Steps p.tables e below (s₁.setTop (mkF m 9 #[.val (.int p1), .val (.int p2), .val (.int (2 : Int32)), .val (.int (2 : Int32)), .unset] [(.int (2 : Int32))])) _
        refine XS.iloadN X0.here hx rfl (hb hby at_9) rfl ?_
        show Steps p.tables e below (s₁.setTop (mkF m 10 #[.val (.int p1), .val (.int p2), .val (.int (2 : Int32)), .val (.int (2 : Int32)), .unset] [(.int (2 : Int32)), (.int (2 : Int32))])) _
        refine XS.icmpYes X0.here hx rfl (pc0 := 10) (pc' := 27) rfl (hb hby at_10) rfl ((teq (by decide : (2 : Int32) = (2 : Int32))).1) (by decide) (by decide) ?_
        show Steps p.tables e below (s₁.setTop (mkF m 27 #[.val (.int p1), .val (.int p2), .val (.int (2 : Int32)), .val (.int (2 : Int32)), .unset] [])) _
        refine XS.iconst X0.here hx rfl (hb hby at_27) ?_
        show Steps p.tables e below (s₁.setTop (mkF m 28 #[.val (.int p1), .val (.int p2), .val (.int (2 : Int32)), .val (.int (2 : Int32)), .unset] [(.int (1 : Int32))])) _
        refine XS.goto X0.here hx rfl (pc0 := 28) (pc' := 32) rfl (hb hby at_28) (by decide) (by decide) ?_
        show Steps p.tables e below (s₁.setTop (mkF m 32 #[.val (.int p1), .val (.int p2), .val (.int (2 : Int32)), .val (.int (2 : Int32)), .unset] [(.int (1 : Int32))])) _
        refine XS.istore X0.here hx rfl (hb hby at_32) rfl (l' := #[.val (.int p1), .val (.int p2), .val (.int (2 : Int32)), .val (.int (2 : Int32)), .val (.int (1 : Int32))]) rfl ?_
        show Steps p.tables e below (s₁.setTop (mkF m 34 #[.val (.int p1), .val (.int p2), .val (.int (2 : Int32)), .val (.int (2 : Int32)), .val (.int (1 : Int32))] [])) _
        refine XS.iloadN X0.here hx rfl (hb hby at_34) rfl ?_
        show Steps p.tables e below (s₁.setTop (mkF m 35 #[.val (.int p1), .val (.int p2), .val (.int (2 : Int32)), .val (.int (2 : Int32)), .val (.int (1 : Int32))] [(.int (2 : Int32))])) _
        refine st31 _ ?_
        exact k
      rw [hqr31]
      obtain ⟨_, _, ⟨T32, L32, k32, n32⟩, -, X32, ⟨Lc32, hQ32, l32, y32, z32⟩, st32⟩ := Jvm.LawKit.callS X31 hx (y := (⟨"com/example/rialto/rialto/core/movement/WithdrawalStatusHasBeenPinLaw", "pick", "(I)Lcom/example/rialto/rialto/core/movement/WithdrawalStatus;"⟩ : MethodName)) hown (mvT hZ (hw _ (List.mem_of_getElem? (i := 0) rfl))) (mvT hZ (hw _ (List.mem_of_getElem? (i := 1) rfl))) (mvT hZ (hw _ (List.mem_of_getElem? (i := 2) rfl))) (mvT hZ (hw _ (List.mem_of_getElem? (i := 3) rfl))) (by decide) (backOf (W := 1) (rm1 l Z a0 hw [] (2 : Int32) o_PENDING o_RETURNED o_FAILED o_SUCCEEDED h0 n0 Z0 S_PENDING S_RETURNED S_FAILED S_SUCCEEDED) hZ (hw _ (List.mem_of_getElem? (i := 3) rfl)) (hw _ (List.mem_of_getElem? (i := 2) rfl)) (by decide) (by decide)) (g := (mkF m 39 #[.val (.int p1), .val (.int p2), .val (.int (2 : Int32)), .val (.int (2 : Int32)), .val (.int (1 : Int32))] [(.int (2 : Int32)), (.ref o_FAILED)])) rfl (by rw [hml]; rfl) (argsL := [(.int (2 : Int32))]) (rest := [(.ref o_FAILED)]) (lenOf pd_0 rfl) rfl (by show 2 * 0 + _ ≤ _; exact Nat.le_of_eq rfl) (hb hby at_39) (fun _ _ => ⟨rfl, eq31, (by decide : 0 + 0 ≤ _), (by decide : 0 + 0 ≤ _)⟩)
      dsimp only [Pt.U, Pt.locs, Pt.cells, Pt.slots] at X32 l32 y32 z32 st32 hQ32
      subst l32 y32 z32
      obtain ⟨r32, rfl, hr32, N32q, eq32⟩ := hQ32
      have N32 := Fr.app N31 N32q
      have hqr32 : r32 = o_FAILED := by rw [hr32]; rfl
      refine GoalS.lift (B := (T32.setTop (mkF m 42 #[.val (.int p1), .val (.int p2), .val (.int (2 : Int32)), .val (.int (2 : Int32)), .val (.int (1 : Int32))] [(.ref r32), (.ref o_FAILED)]))) (fun t k => ?_) ?_
      · show Steps p.tables e below (T31.setTop (mkF m 38 #[.val (.int p1), .val (.int p2), .val (.int (2 : Int32)), .val (.int (2 : Int32)), .val (.int (1 : Int32))] [(.ref o_FAILED)])) _
        refine XS.iloadN X31.here hx rfl (hb hby at_38) rfl ?_
        show Steps p.tables e below (T31.setTop (mkF m 39 #[.val (.int p1), .val (.int p2), .val (.int (2 : Int32)), .val (.int (2 : Int32)), .val (.int (1 : Int32))] [(.int (2 : Int32)), (.ref o_FAILED)])) _
        refine st32 _ ?_
        exact k
      rw [hqr32]
      obtain ⟨cq33, kq33, q33a, q33b, q33c⟩ := isOf hZ eq32 E_o_FAILED
      obtain ⟨_, _, ⟨T33, L33, k33, n33⟩, -, X33, ⟨Lc33, hQ33, l33, y33, z33⟩, st33⟩ := X32.virtualBack hx (y := (⟨"com/example/rialto/rialto/core/movement/WithdrawalStatus", "hasBeen", "(Lcom/example/rialto/rialto/core/movement/WithdrawalStatus;)Z"⟩ : MethodName)) (z := (⟨"com/example/rialto/rialto/core/movement/WithdrawalStatus", "hasBeen", "(Lcom/example/rialto/rialto/core/movement/WithdrawalStatus;)Z"⟩ : MethodName)) hown (mvT hZ (hw _ (List.mem_of_getElem? (i := 9) rfl))) (mvT hZ (hw _ (List.mem_of_getElem? (i := 10) rfl))) (notFace_of_selects (args := #[]) (mvT hZ (hw _ (List.mem_of_getElem? (i := 12) rfl)))) (mvT hZ (hw _ (List.mem_of_getElem? (i := 12) rfl))) (mvT hZ (hw _ (List.mem_of_getElem? (i := 11) rfl))) (by decide) (backOf (W := 0) (rm2_22 l Z a0 hw [] o_FAILED o_PENDING o_RETURNED o_SUCCEEDED h0 n0 Z0 F_reachedFrom_o_PENDING F_reachedFrom_o_FAILED F_reachedFrom_o_SUCCEEDED F_reachedFrom_o_RETURNED ne_o_PENDING_o_RETURNED ne_o_PENDING_o_FAILED ne_o_PENDING_o_SUCCEEDED ne_o_RETURNED_o_FAILED ne_o_RETURNED_o_SUCCEEDED ne_o_FAILED_o_SUCCEEDED) hZ (hw _ (List.mem_of_getElem? (i := 13) rfl)) (hw _ (List.mem_of_getElem? (i := 5) rfl)) (by decide) (by decide)) q33a q33c (g := (mkF m 42 #[.val (.int p1), .val (.int p2), .val (.int (2 : Int32)), .val (.int (2 : Int32)), .val (.int (1 : Int32))] [(.ref o_FAILED), (.ref o_FAILED)])) rfl (by rw [hml]; rfl) (Steps.refl _) (argsL := [(.ref o_FAILED)]) (rest := []) (lenOf pd_1 rfl) rfl (by show 2 * 0 + _ ≤ _; exact Nat.le_of_eq rfl) (hb hby at_42) (fun _ _ => ⟨rfl, eq32, (by decide : 0 + 0 ≤ _), (by decide : 0 + 0 ≤ _)⟩)
      dsimp only [Pt.U, Pt.locs, Pt.cells, Pt.slots] at X33 l33 y33 z33 st33 hQ33
      subst l33 y33 z33
      obtain ⟨r33, rfl, hr33, N33q, eq33⟩ := hQ33
      have N33 := Fr.app N32 N33q
      obtain ⟨fs, hr, hrun, hended, hW, hsame⟩ := X33.leave (v := some (.int (1 : Int32))) (fun h => by rw [Bd.returns] at h; cases h)
      refine ⟨_, _, ?_, hrun, hended, _, _, rfl, ?_, ⟨_, rfl⟩, hW, hsame.mono (by decide) (by decide)⟩
      · show Steps p.tables e below (T32.setTop (mkF m 42 #[.val (.int p1), .val (.int p2), .val (.int (2 : Int32)), .val (.int (2 : Int32)), .val (.int (1 : Int32))] [(.ref o_FAILED), (.ref o_FAILED)])) _
        refine st33.trans ?_
        show Steps p.tables e below (T33.setTop (mkF m 45 #[.val (.int p1), .val (.int p2), .val (.int (2 : Int32)), .val (.int (2 : Int32)), .val (.int (1 : Int32))] [(.int r33)])) _
        refine XS.iload X33.here hx rfl (hb hby at_45) rfl ?_
        show Steps p.tables e below (T33.setTop (mkF m 47 #[.val (.int p1), .val (.int p2), .val (.int (2 : Int32)), .val (.int (2 : Int32)), .val (.int (1 : Int32))] [(.int (1 : Int32)), (.int r33)])) _
        refine XS.icmpNo X33.here hx rfl (hb hby at_47) rfl ((teq (by rw [hr33] : r33 = (1 : Int32))).2) ?_
        show Steps p.tables e below (T33.setTop (mkF m 50 #[.val (.int p1), .val (.int p2), .val (.int (2 : Int32)), .val (.int (2 : Int32)), .val (.int (1 : Int32))] [])) _
        refine XS.iconst X33.here hx rfl (hb hby at_50) ?_
        show Steps p.tables e below (T33.setTop (mkF m 51 #[.val (.int p1), .val (.int p2), .val (.int (2 : Int32)), .val (.int (2 : Int32)), .val (.int (1 : Int32))] [(.int (1 : Int32))])) _
        refine XS.goto X33.here hx rfl (pc0 := 51) (pc' := 55) rfl (hb hby at_51) (by decide) (by decide) ?_
        show Steps p.tables e below (T33.setTop (mkF m 55 #[.val (.int p1), .val (.int p2), .val (.int (2 : Int32)), .val (.int (2 : Int32)), .val (.int (1 : Int32))] [(.int (1 : Int32))])) _
        exact retN X33 hx (t := .boolean) Bd.returns (by simp) (hb hby at_55) hr
      · exact ⟨rfl, N33⟩
    · rw [hk6]
      obtain ⟨_, _, ⟨T34, L34, k34, n34⟩, -, X34, ⟨Lc34, hQ34, l34, y34, z34⟩, st34⟩ := Jvm.LawKit.callS X0 hx (y := (⟨"com/example/rialto/rialto/core/movement/WithdrawalStatusHasBeenPinLaw", "pick", "(I)Lcom/example/rialto/rialto/core/movement/WithdrawalStatus;"⟩ : MethodName)) hown (mvT hZ (hw _ (List.mem_of_getElem? (i := 0) rfl))) (mvT hZ (hw _ (List.mem_of_getElem? (i := 1) rfl))) (mvT hZ (hw _ (List.mem_of_getElem? (i := 2) rfl))) (mvT hZ (hw _ (List.mem_of_getElem? (i := 3) rfl))) (by decide) (backOf (W := 0) (rm1 l Z a0 hw [] (2 : Int32) o_PENDING o_RETURNED o_FAILED o_SUCCEEDED h0 n0 Z0 S_PENDING S_RETURNED S_FAILED S_SUCCEEDED) hZ (hw _ (List.mem_of_getElem? (i := 3) rfl)) (hw _ (List.mem_of_getElem? (i := 2) rfl)) (by decide) (by decide)) (g := (mkF m 35 #[.val (.int p1), .val (.int p2), .val (.int (2 : Int32)), .val (.int (3 : Int32)), .val (.int (0 : Int32))] [(.int (2 : Int32))])) rfl (by rw [hml]; rfl) (argsL := [(.int (2 : Int32))]) (rest := []) (lenOf pd_0 rfl) rfl (by show 2 * 0 + _ ≤ _; exact Nat.le_of_eq rfl) (hb hby at_35) (fun _ _ => ⟨rfl, e0, (by decide : 0 + 0 ≤ _), (by decide : 0 + 0 ≤ _)⟩)
      dsimp only [Pt.U, Pt.locs, Pt.cells, Pt.slots] at X34 l34 y34 z34 st34 hQ34
      subst l34 y34 z34
      obtain ⟨r34, rfl, hr34, N34q, eq34⟩ := hQ34
      have N34 := Fr.app N0 N34q
      have hqr34 : r34 = o_FAILED := by rw [hr34]; rfl
      refine GoalS.lift (B := (T34.setTop (mkF m 38 #[.val (.int p1), .val (.int p2), .val (.int (2 : Int32)), .val (.int (3 : Int32)), .val (.int (0 : Int32))] [(.ref r34)]))) (fun t k => ?_) ?_
      · show Steps p.tables e below (s₁.setTop (mkF m 7 #[.val (.int p1), .val (.int p2), .val (.int (2 : Int32)), .unset, .unset] [(.int (3 : Int32))])) _
        refine XS.istoreN X0.here hx rfl (hb hby at_7) rfl (l' := #[.val (.int p1), .val (.int p2), .val (.int (2 : Int32)), .val (.int (3 : Int32)), .unset]) rfl ?_
        show Steps p.tables e below (s₁.setTop (mkF m 8 #[.val (.int p1), .val (.int p2), .val (.int (2 : Int32)), .val (.int (3 : Int32)), .unset] [])) _
        refine XS.iloadN X0.here hx rfl (hb hby at_8) rfl ?_
        show Steps p.tables e below (s₁.setTop (mkF m 9 #[.val (.int p1), .val (.int p2), .val (.int (2 : Int32)), .val (.int (3 : Int32)), .unset] [(.int (2 : Int32))])) _
        refine XS.iloadN X0.here hx rfl (hb hby at_9) rfl ?_
        show Steps p.tables e below (s₁.setTop (mkF m 10 #[.val (.int p1), .val (.int p2), .val (.int (2 : Int32)), .val (.int (3 : Int32)), .unset] [(.int (3 : Int32)), (.int (2 : Int32))])) _
        refine XS.icmpNo X0.here hx rfl (hb hby at_10) rfl ((feq (by decide : ¬ ((2 : Int32) = (3 : Int32)))).1) ?_
        show Steps p.tables e below (s₁.setTop (mkF m 13 #[.val (.int p1), .val (.int p2), .val (.int (2 : Int32)), .val (.int (3 : Int32)), .unset] [])) _
        refine XS.iloadN X0.here hx rfl (hb hby at_13) rfl ?_
        show Steps p.tables e below (s₁.setTop (mkF m 14 #[.val (.int p1), .val (.int p2), .val (.int (2 : Int32)), .val (.int (3 : Int32)), .unset] [(.int (3 : Int32))])) _
        refine XS.ifNo X0.here hx rfl (hb hby at_14) rfl ((if0 _ _).trans (feq (by decide : ¬ ((3 : Int32) = (0 : Int32)))).1) ?_
        show Steps p.tables e below (s₁.setTop (mkF m 17 #[.val (.int p1), .val (.int p2), .val (.int (2 : Int32)), .val (.int (3 : Int32)), .unset] [])) _
        refine XS.iloadN X0.here hx rfl (hb hby at_17) rfl ?_
        show Steps p.tables e below (s₁.setTop (mkF m 18 #[.val (.int p1), .val (.int p2), .val (.int (2 : Int32)), .val (.int (3 : Int32)), .unset] [(.int (2 : Int32))])) _
        refine XS.iconst X0.here hx rfl (hb hby at_18) ?_
        show Steps p.tables e below (s₁.setTop (mkF m 19 #[.val (.int p1), .val (.int p2), .val (.int (2 : Int32)), .val (.int (3 : Int32)), .unset] [(.int (3 : Int32)), (.int (2 : Int32))])) _
        refine XS.icmpYes X0.here hx rfl (pc0 := 19) (pc' := 31) rfl (hb hby at_19) rfl ((feq (by decide : ¬ ((2 : Int32) = (3 : Int32)))).2) (by decide) (by decide) ?_
        show Steps p.tables e below (s₁.setTop (mkF m 31 #[.val (.int p1), .val (.int p2), .val (.int (2 : Int32)), .val (.int (3 : Int32)), .unset] [])) _
        refine XS.iconst X0.here hx rfl (hb hby at_31) ?_
        show Steps p.tables e below (s₁.setTop (mkF m 32 #[.val (.int p1), .val (.int p2), .val (.int (2 : Int32)), .val (.int (3 : Int32)), .unset] [(.int (0 : Int32))])) _
        refine XS.istore X0.here hx rfl (hb hby at_32) rfl (l' := #[.val (.int p1), .val (.int p2), .val (.int (2 : Int32)), .val (.int (3 : Int32)), .val (.int (0 : Int32))]) rfl ?_
        show Steps p.tables e below (s₁.setTop (mkF m 34 #[.val (.int p1), .val (.int p2), .val (.int (2 : Int32)), .val (.int (3 : Int32)), .val (.int (0 : Int32))] [])) _
        refine XS.iloadN X0.here hx rfl (hb hby at_34) rfl ?_
        show Steps p.tables e below (s₁.setTop (mkF m 35 #[.val (.int p1), .val (.int p2), .val (.int (2 : Int32)), .val (.int (3 : Int32)), .val (.int (0 : Int32))] [(.int (2 : Int32))])) _
        refine st34 _ ?_
        exact k
      rw [hqr34]
      obtain ⟨_, _, ⟨T35, L35, k35, n35⟩, -, X35, ⟨Lc35, hQ35, l35, y35, z35⟩, st35⟩ := Jvm.LawKit.callS X34 hx (y := (⟨"com/example/rialto/rialto/core/movement/WithdrawalStatusHasBeenPinLaw", "pick", "(I)Lcom/example/rialto/rialto/core/movement/WithdrawalStatus;"⟩ : MethodName)) hown (mvT hZ (hw _ (List.mem_of_getElem? (i := 0) rfl))) (mvT hZ (hw _ (List.mem_of_getElem? (i := 1) rfl))) (mvT hZ (hw _ (List.mem_of_getElem? (i := 2) rfl))) (mvT hZ (hw _ (List.mem_of_getElem? (i := 3) rfl))) (by decide) (backOf (W := 1) (rm1 l Z a0 hw [] (3 : Int32) o_PENDING o_RETURNED o_FAILED o_SUCCEEDED h0 n0 Z0 S_PENDING S_RETURNED S_FAILED S_SUCCEEDED) hZ (hw _ (List.mem_of_getElem? (i := 3) rfl)) (hw _ (List.mem_of_getElem? (i := 2) rfl)) (by decide) (by decide)) (g := (mkF m 39 #[.val (.int p1), .val (.int p2), .val (.int (2 : Int32)), .val (.int (3 : Int32)), .val (.int (0 : Int32))] [(.int (3 : Int32)), (.ref o_FAILED)])) rfl (by rw [hml]; rfl) (argsL := [(.int (3 : Int32))]) (rest := [(.ref o_FAILED)]) (lenOf pd_0 rfl) rfl (by show 2 * 0 + _ ≤ _; exact Nat.le_of_eq rfl) (hb hby at_39) (fun _ _ => ⟨rfl, eq34, (by decide : 0 + 0 ≤ _), (by decide : 0 + 0 ≤ _)⟩)
      dsimp only [Pt.U, Pt.locs, Pt.cells, Pt.slots] at X35 l35 y35 z35 st35 hQ35
      subst l35 y35 z35
      obtain ⟨r35, rfl, hr35, N35q, eq35⟩ := hQ35
      have N35 := Fr.app N34 N35q
      have hqr35 : r35 = o_RETURNED := by rw [hr35]; rfl
      refine GoalS.lift (B := (T35.setTop (mkF m 42 #[.val (.int p1), .val (.int p2), .val (.int (2 : Int32)), .val (.int (3 : Int32)), .val (.int (0 : Int32))] [(.ref r35), (.ref o_FAILED)]))) (fun t k => ?_) ?_
      · show Steps p.tables e below (T34.setTop (mkF m 38 #[.val (.int p1), .val (.int p2), .val (.int (2 : Int32)), .val (.int (3 : Int32)), .val (.int (0 : Int32))] [(.ref o_FAILED)])) _
        refine XS.iloadN X34.here hx rfl (hb hby at_38) rfl ?_
        show Steps p.tables e below (T34.setTop (mkF m 39 #[.val (.int p1), .val (.int p2), .val (.int (2 : Int32)), .val (.int (3 : Int32)), .val (.int (0 : Int32))] [(.int (3 : Int32)), (.ref o_FAILED)])) _
        refine st35 _ ?_
        exact k
      rw [hqr35]
      obtain ⟨cq36, kq36, q36a, q36b, q36c⟩ := isOf hZ eq35 E_o_FAILED
      obtain ⟨_, _, ⟨T36, L36, k36, n36⟩, -, X36, ⟨Lc36, hQ36, l36, y36, z36⟩, st36⟩ := X35.virtualBack hx (y := (⟨"com/example/rialto/rialto/core/movement/WithdrawalStatus", "hasBeen", "(Lcom/example/rialto/rialto/core/movement/WithdrawalStatus;)Z"⟩ : MethodName)) (z := (⟨"com/example/rialto/rialto/core/movement/WithdrawalStatus", "hasBeen", "(Lcom/example/rialto/rialto/core/movement/WithdrawalStatus;)Z"⟩ : MethodName)) hown (mvT hZ (hw _ (List.mem_of_getElem? (i := 9) rfl))) (mvT hZ (hw _ (List.mem_of_getElem? (i := 10) rfl))) (notFace_of_selects (args := #[]) (mvT hZ (hw _ (List.mem_of_getElem? (i := 12) rfl)))) (mvT hZ (hw _ (List.mem_of_getElem? (i := 12) rfl))) (mvT hZ (hw _ (List.mem_of_getElem? (i := 11) rfl))) (by decide) (backOf (W := 0) (rm2_23 l Z a0 hw [] o_FAILED o_RETURNED o_PENDING o_SUCCEEDED h0 n0 Z0 F_reachedFrom_o_PENDING F_reachedFrom_o_FAILED F_reachedFrom_o_SUCCEEDED F_reachedFrom_o_RETURNED ne_o_PENDING_o_RETURNED ne_o_PENDING_o_FAILED ne_o_PENDING_o_SUCCEEDED ne_o_RETURNED_o_FAILED ne_o_RETURNED_o_SUCCEEDED ne_o_FAILED_o_SUCCEEDED) hZ (hw _ (List.mem_of_getElem? (i := 13) rfl)) (hw _ (List.mem_of_getElem? (i := 5) rfl)) (by decide) (by decide)) q36a q36c (g := (mkF m 42 #[.val (.int p1), .val (.int p2), .val (.int (2 : Int32)), .val (.int (3 : Int32)), .val (.int (0 : Int32))] [(.ref o_RETURNED), (.ref o_FAILED)])) rfl (by rw [hml]; rfl) (Steps.refl _) (argsL := [(.ref o_RETURNED)]) (rest := []) (lenOf pd_1 rfl) rfl (by show 2 * 0 + _ ≤ _; exact Nat.le_of_eq rfl) (hb hby at_42) (fun _ _ => ⟨rfl, eq35, (by decide : 0 + 0 ≤ _), (by decide : 0 + 0 ≤ _)⟩)
      dsimp only [Pt.U, Pt.locs, Pt.cells, Pt.slots] at X36 l36 y36 z36 st36 hQ36
      subst l36 y36 z36
      obtain ⟨r36, rfl, hr36, N36q, eq36⟩ := hQ36
      have N36 := Fr.app N35 N36q
      obtain ⟨fs, hr, hrun, hended, hW, hsame⟩ := X36.leave (v := some (.int (1 : Int32))) (fun h => by rw [Bd.returns] at h; cases h)
      refine ⟨_, _, ?_, hrun, hended, _, _, rfl, ?_, ⟨_, rfl⟩, hW, hsame.mono (by decide) (by decide)⟩
      · show Steps p.tables e below (T35.setTop (mkF m 42 #[.val (.int p1), .val (.int p2), .val (.int (2 : Int32)), .val (.int (3 : Int32)), .val (.int (0 : Int32))] [(.ref o_RETURNED), (.ref o_FAILED)])) _
        refine st36.trans ?_
        show Steps p.tables e below (T36.setTop (mkF m 45 #[.val (.int p1), .val (.int p2), .val (.int (2 : Int32)), .val (.int (3 : Int32)), .val (.int (0 : Int32))] [(.int r36)])) _
        refine XS.iload X36.here hx rfl (hb hby at_45) rfl ?_
        show Steps p.tables e below (T36.setTop (mkF m 47 #[.val (.int p1), .val (.int p2), .val (.int (2 : Int32)), .val (.int (3 : Int32)), .val (.int (0 : Int32))] [(.int (0 : Int32)), (.int r36)])) _
        refine XS.icmpNo X36.here hx rfl (hb hby at_47) rfl ((teq (by rw [hr36] : r36 = (0 : Int32))).2) ?_
        show Steps p.tables e below (T36.setTop (mkF m 50 #[.val (.int p1), .val (.int p2), .val (.int (2 : Int32)), .val (.int (3 : Int32)), .val (.int (0 : Int32))] [])) _
        refine XS.iconst X36.here hx rfl (hb hby at_50) ?_
        show Steps p.tables e below (T36.setTop (mkF m 51 #[.val (.int p1), .val (.int p2), .val (.int (2 : Int32)), .val (.int (3 : Int32)), .val (.int (0 : Int32))] [(.int (1 : Int32))])) _
        refine XS.goto X36.here hx rfl (pc0 := 51) (pc' := 55) rfl (hb hby at_51) (by decide) (by decide) ?_
        show Steps p.tables e below (T36.setTop (mkF m 55 #[.val (.int p1), .val (.int p2), .val (.int (2 : Int32)), .val (.int (3 : Int32)), .val (.int (0 : Int32))] [(.int (1 : Int32))])) _
        exact retN X36 hx (t := .boolean) Bd.returns (by simp) (hb hby at_55) hr
      · exact ⟨rfl, N36⟩
  · rw [hk2]
    refine GoalS.lift (B := (s₁.setTop (mkF m 7 #[.val (.int p1), .val (.int p2), .val (.int (3 : Int32)), .unset, .unset] [(.int (p2 &&& (3 : Int32)))]))) (fun t k => ?_) ?_
    · show Steps p.tables e below (s₁.setTop (mkF m 3 #[.val (.int p1), .val (.int p2), .unset, .unset, .unset] [(.int (3 : Int32))])) _
      refine XS.istoreN X0.here hx rfl (hb hby at_3) rfl (l' := #[.val (.int p1), .val (.int p2), .val (.int (3 : Int32)), .unset, .unset]) rfl ?_
      show Steps p.tables e below (s₁.setTop (mkF m 4 #[.val (.int p1), .val (.int p2), .val (.int (3 : Int32)), .unset, .unset] [])) _
      refine XS.iloadN X0.here hx rfl (hb hby at_4) rfl ?_
      show Steps p.tables e below (s₁.setTop (mkF m 5 #[.val (.int p1), .val (.int p2), .val (.int (3 : Int32)), .unset, .unset] [(.int p2)])) _
      refine XS.iconst X0.here hx rfl (hb hby at_5) ?_
      show Steps p.tables e below (s₁.setTop (mkF m 6 #[.val (.int p1), .val (.int p2), .val (.int (3 : Int32)), .unset, .unset] [(.int (3 : Int32)), (.int p2)])) _
      refine XS.iand X0.here hx rfl (hb hby at_6) rfl ?_
      exact k
    rcases own_four p2 with hk6 | hk6 | hk6 | hk6
    · rw [hk6]
      obtain ⟨_, _, ⟨T37, L37, k37, n37⟩, -, X37, ⟨Lc37, hQ37, l37, y37, z37⟩, st37⟩ := Jvm.LawKit.callS X0 hx (y := (⟨"com/example/rialto/rialto/core/movement/WithdrawalStatusHasBeenPinLaw", "pick", "(I)Lcom/example/rialto/rialto/core/movement/WithdrawalStatus;"⟩ : MethodName)) hown (mvT hZ (hw _ (List.mem_of_getElem? (i := 0) rfl))) (mvT hZ (hw _ (List.mem_of_getElem? (i := 1) rfl))) (mvT hZ (hw _ (List.mem_of_getElem? (i := 2) rfl))) (mvT hZ (hw _ (List.mem_of_getElem? (i := 3) rfl))) (by decide) (backOf (W := 0) (rm1 l Z a0 hw [] (3 : Int32) o_PENDING o_RETURNED o_FAILED o_SUCCEEDED h0 n0 Z0 S_PENDING S_RETURNED S_FAILED S_SUCCEEDED) hZ (hw _ (List.mem_of_getElem? (i := 3) rfl)) (hw _ (List.mem_of_getElem? (i := 2) rfl)) (by decide) (by decide)) (g := (mkF m 35 #[.val (.int p1), .val (.int p2), .val (.int (3 : Int32)), .val (.int (0 : Int32)), .val (.int (1 : Int32))] [(.int (3 : Int32))])) rfl (by rw [hml]; rfl) (argsL := [(.int (3 : Int32))]) (rest := []) (lenOf pd_0 rfl) rfl (by show 2 * 0 + _ ≤ _; exact Nat.le_of_eq rfl) (hb hby at_35) (fun _ _ => ⟨rfl, e0, (by decide : 0 + 0 ≤ _), (by decide : 0 + 0 ≤ _)⟩)
      dsimp only [Pt.U, Pt.locs, Pt.cells, Pt.slots] at X37 l37 y37 z37 st37 hQ37
      subst l37 y37 z37
      obtain ⟨r37, rfl, hr37, N37q, eq37⟩ := hQ37
      have N37 := Fr.app N0 N37q
      have hqr37 : r37 = o_RETURNED := by rw [hr37]; rfl
      refine GoalS.lift (B := (T37.setTop (mkF m 38 #[.val (.int p1), .val (.int p2), .val (.int (3 : Int32)), .val (.int (0 : Int32)), .val (.int (1 : Int32))] [(.ref r37)]))) (fun t k => ?_) ?_
      · show Steps p.tables e below (s₁.setTop (mkF m 7 #[.val (.int p1), .val (.int p2), .val (.int (3 : Int32)), .unset, .unset] [(.int (0 : Int32))])) _
        refine XS.istoreN X0.here hx rfl (hb hby at_7) rfl (l' := #[.val (.int p1), .val (.int p2), .val (.int (3 : Int32)), .val (.int (0 : Int32)), .unset]) rfl ?_
        show Steps p.tables e below (s₁.setTop (mkF m 8 #[.val (.int p1), .val (.int p2), .val (.int (3 : Int32)), .val (.int (0 : Int32)), .unset] [])) _
        refine XS.iloadN X0.here hx rfl (hb hby at_8) rfl ?_
        show Steps p.tables e below (s₁.setTop (mkF m 9 #[.val (.int p1), .val (.int p2), .val (.int (3 : Int32)), .val (.int (0 : Int32)), .unset] [(.int (3 : Int32))])) _
        refine XS.iloadN X0.here hx rfl (hb hby at_9) rfl ?_
        show Steps p.tables e below (s₁.setTop (mkF m 10 #[.val (.int p1), .val (.int p2), .val (.int (3 : Int32)), .val (.int (0 : Int32)), .unset] [(.int (0 : Int32)), (.int (3 : Int32))])) _
        refine XS.icmpNo X0.here hx rfl (hb hby at_10) rfl ((feq (by decide : ¬ ((3 : Int32) = (0 : Int32)))).1) ?_
        show Steps p.tables e below (s₁.setTop (mkF m 13 #[.val (.int p1), .val (.int p2), .val (.int (3 : Int32)), .val (.int (0 : Int32)), .unset] [])) _
        refine XS.iloadN X0.here hx rfl (hb hby at_13) rfl ?_
        show Steps p.tables e below (s₁.setTop (mkF m 14 #[.val (.int p1), .val (.int p2), .val (.int (3 : Int32)), .val (.int (0 : Int32)), .unset] [(.int (0 : Int32))])) _
        refine XS.ifYes X0.here hx rfl (pc0 := 14) (pc' := 27) rfl (hb hby at_14) rfl ((if0 _ _).trans (teq (by decide : (0 : Int32) = (0 : Int32))).1) (by decide) (by decide) ?_
        show Steps p.tables e below (s₁.setTop (mkF m 27 #[.val (.int p1), .val (.int p2), .val (.int (3 : Int32)), .val (.int (0 : Int32)), .unset] [])) _
        refine XS.iconst X0.here hx rfl (hb hby at_27) ?_
        show Steps p.tables e below (s₁.setTop (mkF m 28 #[.val (.int p1), .val (.int p2), .val (.int (3 : Int32)), .val (.int (0 : Int32)), .unset] [(.int (1 : Int32))])) _
        refine XS.goto X0.here hx rfl (pc0 := 28) (pc' := 32) rfl (hb hby at_28) (by decide) (by decide) ?_
        show Steps p.tables e below (s₁.setTop (mkF m 32 #[.val (.int p1), .val (.int p2), .val (.int (3 : Int32)), .val (.int (0 : Int32)), .unset] [(.int (1 : Int32))])) _
        refine XS.istore X0.here hx rfl (hb hby at_32) rfl (l' := #[.val (.int p1), .val (.int p2), .val (.int (3 : Int32)), .val (.int (0 : Int32)), .val (.int (1 : Int32))]) rfl ?_
        show Steps p.tables e below (s₁.setTop (mkF m 34 #[.val (.int p1), .val (.int p2), .val (.int (3 : Int32)), .val (.int (0 : Int32)), .val (.int (1 : Int32))] [])) _
        refine XS.iloadN X0.here hx rfl (hb hby at_34) rfl ?_
        show Steps p.tables e below (s₁.setTop (mkF m 35 #[.val (.int p1), .val (.int p2), .val (.int (3 : Int32)), .val (.int (0 : Int32)), .val (.int (1 : Int32))] [(.int (3 : Int32))])) _
        refine st37 _ ?_
        exact k
      rw [hqr37]
      obtain ⟨_, _, ⟨T38, L38, k38, n38⟩, -, X38, ⟨Lc38, hQ38, l38, y38, z38⟩, st38⟩ := Jvm.LawKit.callS X37 hx (y := (⟨"com/example/rialto/rialto/core/movement/WithdrawalStatusHasBeenPinLaw", "pick", "(I)Lcom/example/rialto/rialto/core/movement/WithdrawalStatus;"⟩ : MethodName)) hown (mvT hZ (hw _ (List.mem_of_getElem? (i := 0) rfl))) (mvT hZ (hw _ (List.mem_of_getElem? (i := 1) rfl))) (mvT hZ (hw _ (List.mem_of_getElem? (i := 2) rfl))) (mvT hZ (hw _ (List.mem_of_getElem? (i := 3) rfl))) (by decide) (backOf (W := 1) (rm1 l Z a0 hw [] (0 : Int32) o_PENDING o_RETURNED o_FAILED o_SUCCEEDED h0 n0 Z0 S_PENDING S_RETURNED S_FAILED S_SUCCEEDED) hZ (hw _ (List.mem_of_getElem? (i := 3) rfl)) (hw _ (List.mem_of_getElem? (i := 2) rfl)) (by decide) (by decide)) (g := (mkF m 39 #[.val (.int p1), .val (.int p2), .val (.int (3 : Int32)), .val (.int (0 : Int32)), .val (.int (1 : Int32))] [(.int (0 : Int32)), (.ref o_RETURNED)])) rfl (by rw [hml]; rfl) (argsL := [(.int (0 : Int32))]) (rest := [(.ref o_RETURNED)]) (lenOf pd_0 rfl) rfl (by show 2 * 0 + _ ≤ _; exact Nat.le_of_eq rfl) (hb hby at_39) (fun _ _ => ⟨rfl, eq37, (by decide : 0 + 0 ≤ _), (by decide : 0 + 0 ≤ _)⟩)
      dsimp only [Pt.U, Pt.locs, Pt.cells, Pt.slots] at X38 l38 y38 z38 st38 hQ38
      subst l38 y38 z38
      obtain ⟨r38, rfl, hr38, N38q, eq38⟩ := hQ38
      have N38 := Fr.app N37 N38q
      have hqr38 : r38 = o_PENDING := by rw [hr38]; rfl
      refine GoalS.lift (B := (T38.setTop (mkF m 42 #[.val (.int p1), .val (.int p2), .val (.int (3 : Int32)), .val (.int (0 : Int32)), .val (.int (1 : Int32))] [(.ref r38), (.ref o_RETURNED)]))) (fun t k => ?_) ?_
      · show Steps p.tables e below (T37.setTop (mkF m 38 #[.val (.int p1), .val (.int p2), .val (.int (3 : Int32)), .val (.int (0 : Int32)), .val (.int (1 : Int32))] [(.ref o_RETURNED)])) _
        refine XS.iloadN X37.here hx rfl (hb hby at_38) rfl ?_
        show Steps p.tables e below (T37.setTop (mkF m 39 #[.val (.int p1), .val (.int p2), .val (.int (3 : Int32)), .val (.int (0 : Int32)), .val (.int (1 : Int32))] [(.int (0 : Int32)), (.ref o_RETURNED)])) _
        refine st38 _ ?_
        exact k
      rw [hqr38]
      obtain ⟨cq39, kq39, q39a, q39b, q39c⟩ := isOf hZ eq38 E_o_RETURNED
      obtain ⟨_, _, ⟨T39, L39, k39, n39⟩, -, X39, ⟨Lc39, hQ39, l39, y39, z39⟩, st39⟩ := X38.virtualBack hx (y := (⟨"com/example/rialto/rialto/core/movement/WithdrawalStatus", "hasBeen", "(Lcom/example/rialto/rialto/core/movement/WithdrawalStatus;)Z"⟩ : MethodName)) (z := (⟨"com/example/rialto/rialto/core/movement/WithdrawalStatus", "hasBeen", "(Lcom/example/rialto/rialto/core/movement/WithdrawalStatus;)Z"⟩ : MethodName)) hown (mvT hZ (hw _ (List.mem_of_getElem? (i := 9) rfl))) (mvT hZ (hw _ (List.mem_of_getElem? (i := 10) rfl))) (notFace_of_selects (args := #[]) (mvT hZ (hw _ (List.mem_of_getElem? (i := 12) rfl)))) (mvT hZ (hw _ (List.mem_of_getElem? (i := 12) rfl))) (mvT hZ (hw _ (List.mem_of_getElem? (i := 11) rfl))) (by decide) (backOf (W := 0) (rm2_30 l Z a0 hw [] o_RETURNED o_PENDING o_FAILED o_SUCCEEDED h0 n0 Z0 F_reachedFrom_o_PENDING F_reachedFrom_o_FAILED F_reachedFrom_o_SUCCEEDED F_reachedFrom_o_RETURNED ne_o_PENDING_o_RETURNED ne_o_PENDING_o_FAILED ne_o_PENDING_o_SUCCEEDED ne_o_RETURNED_o_FAILED ne_o_RETURNED_o_SUCCEEDED ne_o_FAILED_o_SUCCEEDED) hZ (hw _ (List.mem_of_getElem? (i := 13) rfl)) (hw _ (List.mem_of_getElem? (i := 5) rfl)) (by decide) (by decide)) q39a q39c (g := (mkF m 42 #[.val (.int p1), .val (.int p2), .val (.int (3 : Int32)), .val (.int (0 : Int32)), .val (.int (1 : Int32))] [(.ref o_PENDING), (.ref o_RETURNED)])) rfl (by rw [hml]; rfl) (Steps.refl _) (argsL := [(.ref o_PENDING)]) (rest := []) (lenOf pd_1 rfl) rfl (by show 2 * 0 + _ ≤ _; exact Nat.le_of_eq rfl) (hb hby at_42) (fun _ _ => ⟨rfl, eq38, (by decide : 0 + 0 ≤ _), (by decide : 0 + 0 ≤ _)⟩)
      dsimp only [Pt.U, Pt.locs, Pt.cells, Pt.slots] at X39 l39 y39 z39 st39 hQ39
      subst l39 y39 z39
      obtain ⟨r39, rfl, hr39, N39q, eq39⟩ := hQ39
      have N39 := Fr.app N38 N39q
      obtain ⟨fs, hr, hrun, hended, hW, hsame⟩ := X39.leave (v := some (.int (1 : Int32))) (fun h => by rw [Bd.returns] at h; cases h)
      refine ⟨_, _, ?_, hrun, hended, _, _, rfl, ?_, ⟨_, rfl⟩, hW, hsame.mono (by decide) (by decide)⟩
      · show Steps p.tables e below (T38.setTop (mkF m 42 #[.val (.int p1), .val (.int p2), .val (.int (3 : Int32)), .val (.int (0 : Int32)), .val (.int (1 : Int32))] [(.ref o_PENDING), (.ref o_RETURNED)])) _
        refine st39.trans ?_
        show Steps p.tables e below (T39.setTop (mkF m 45 #[.val (.int p1), .val (.int p2), .val (.int (3 : Int32)), .val (.int (0 : Int32)), .val (.int (1 : Int32))] [(.int r39)])) _
        refine XS.iload X39.here hx rfl (hb hby at_45) rfl ?_
        show Steps p.tables e below (T39.setTop (mkF m 47 #[.val (.int p1), .val (.int p2), .val (.int (3 : Int32)), .val (.int (0 : Int32)), .val (.int (1 : Int32))] [(.int (1 : Int32)), (.int r39)])) _
        refine XS.icmpNo X39.here hx rfl (hb hby at_47) rfl ((teq (by rw [hr39] : r39 = (1 : Int32))).2) ?_
        show Steps p.tables e below (T39.setTop (mkF m 50 #[.val (.int p1), .val (.int p2), .val (.int (3 : Int32)), .val (.int (0 : Int32)), .val (.int (1 : Int32))] [])) _
        refine XS.iconst X39.here hx rfl (hb hby at_50) ?_
        show Steps p.tables e below (T39.setTop (mkF m 51 #[.val (.int p1), .val (.int p2), .val (.int (3 : Int32)), .val (.int (0 : Int32)), .val (.int (1 : Int32))] [(.int (1 : Int32))])) _
        refine XS.goto X39.here hx rfl (pc0 := 51) (pc' := 55) rfl (hb hby at_51) (by decide) (by decide) ?_
        show Steps p.tables e below (T39.setTop (mkF m 55 #[.val (.int p1), .val (.int p2), .val (.int (3 : Int32)), .val (.int (0 : Int32)), .val (.int (1 : Int32))] [(.int (1 : Int32))])) _
        exact retN X39 hx (t := .boolean) Bd.returns (by simp) (hb hby at_55) hr
      · exact ⟨rfl, N39⟩
    · rw [hk6]
      obtain ⟨_, _, ⟨T40, L40, k40, n40⟩, -, X40, ⟨Lc40, hQ40, l40, y40, z40⟩, st40⟩ := Jvm.LawKit.callS X0 hx (y := (⟨"com/example/rialto/rialto/core/movement/WithdrawalStatusHasBeenPinLaw", "pick", "(I)Lcom/example/rialto/rialto/core/movement/WithdrawalStatus;"⟩ : MethodName)) hown (mvT hZ (hw _ (List.mem_of_getElem? (i := 0) rfl))) (mvT hZ (hw _ (List.mem_of_getElem? (i := 1) rfl))) (mvT hZ (hw _ (List.mem_of_getElem? (i := 2) rfl))) (mvT hZ (hw _ (List.mem_of_getElem? (i := 3) rfl))) (by decide) (backOf (W := 0) (rm1 l Z a0 hw [] (3 : Int32) o_PENDING o_RETURNED o_FAILED o_SUCCEEDED h0 n0 Z0 S_PENDING S_RETURNED S_FAILED S_SUCCEEDED) hZ (hw _ (List.mem_of_getElem? (i := 3) rfl)) (hw _ (List.mem_of_getElem? (i := 2) rfl)) (by decide) (by decide)) (g := (mkF m 35 #[.val (.int p1), .val (.int p2), .val (.int (3 : Int32)), .val (.int (1 : Int32)), .val (.int (1 : Int32))] [(.int (3 : Int32))])) rfl (by rw [hml]; rfl) (argsL := [(.int (3 : Int32))]) (rest := []) (lenOf pd_0 rfl) rfl (by show 2 * 0 + _ ≤ _; exact Nat.le_of_eq rfl) (hb hby at_35) (fun _ _ => ⟨rfl, e0, (by decide : 0 + 0 ≤ _), (by decide : 0 + 0 ≤ _)⟩)
      dsimp only [Pt.U, Pt.locs, Pt.cells, Pt.slots] at X40 l40 y40 z40 st40 hQ40
      subst l40 y40 z40
      obtain ⟨r40, rfl, hr40, N40q, eq40⟩ := hQ40
      have N40 := Fr.app N0 N40q
      have hqr40 : r40 = o_RETURNED := by rw [hr40]; rfl
      refine GoalS.lift (B := (T40.setTop (mkF m 38 #[.val (.int p1), .val (.int p2), .val (.int (3 : Int32)), .val (.int (1 : Int32)), .val (.int (1 : Int32))] [(.ref r40)]))) (fun t k => ?_) ?_
      · show Steps p.tables e below (s₁.setTop (mkF m 7 #[.val (.int p1), .val (.int p2), .val (.int (3 : Int32)), .unset, .unset] [(.int (1 : Int32))])) _
        refine XS.istoreN X0.here hx rfl (hb hby at_7) rfl (l' := #[.val (.int p1), .val (.int p2), .val (.int (3 : Int32)), .val (.int (1 : Int32)), .unset]) rfl ?_
        show Steps p.tables e below (s₁.setTop (mkF m 8 #[.val (.int p1), .val (.int p2), .val (.int (3 : Int32)), .val (.int (1 : Int32)), .unset] [])) _
        refine XS.iloadN X0.here hx rfl (hb hby at_8) rfl ?_
        show Steps p.tables e below (s₁.setTop (mkF m 9 #[.val (.int p1), .val (.int p2), .val (.int (3 : Int32)), .val (.int (1 : Int32)), .unset] [(.int (3 : Int32))])) _
        refine XS.iloadN X0.here hx rfl (hb hby at_9) rfl ?_
        show Steps p.tables e below (s₁.setTop (mkF m 10 #[.val (.int p1), .val (.int p2), .val (.int (3 : Int32)), .val (.int (1 : Int32)), .unset] [(.int (1 : Int32)), (.int (3 : Int32))])) _
        refine XS.icmpNo X0.here hx rfl (hb hby at_10) rfl ((feq (by decide : ¬ ((3 : Int32) = (1 : Int32)))).1) ?_
        show Steps p.tables e below (s₁.setTop (mkF m 13 #[.val (.int p1), .val (.int p2), .val (.int (3 : Int32)), .val (.int (1 : Int32)), .unset] [])) _
        refine XS.iloadN X0.here hx rfl (hb hby at_13) rfl ?_
        show Steps p.tables e below (s₁.setTop (mkF m 14 #[.val (.int p1), .val (.int p2), .val (.int (3 : Int32)), .val (.int (1 : Int32)), .unset] [(.int (1 : Int32))])) _
        refine XS.ifNo X0.here hx rfl (hb hby at_14) rfl ((if0 _ _).trans (feq (by decide : ¬ ((1 : Int32) = (0 : Int32)))).1) ?_
        show Steps p.tables e below (s₁.setTop (mkF m 17 #[.val (.int p1), .val (.int p2), .val (.int (3 : Int32)), .val (.int (1 : Int32)), .unset] [])) _
        refine XS.iloadN X0.here hx rfl (hb hby at_17) rfl ?_
        show Steps p.tables e below (s₁.setTop (mkF m 18 #[.val (.int p1), .val (.int p2), .val (.int (3 : Int32)), .val (.int (1 : Int32)), .unset] [(.int (3 : Int32))])) _
        refine XS.iconst X0.here hx rfl (hb hby at_18) ?_
        show Steps p.tables e below (s₁.setTop (mkF m 19 #[.val (.int p1), .val (.int p2), .val (.int (3 : Int32)), .val (.int (1 : Int32)), .unset] [(.int (3 : Int32)), (.int (3 : Int32))])) _
        refine XS.icmpNo X0.here hx rfl (hb hby at_19) rfl ((teq (by decide : (3 : Int32) = (3 : Int32))).2) ?_
        show Steps p.tables e below (s₁.setTop (mkF m 22 #[.val (.int p1), .val (.int p2), .val (.int (3 : Int32)), .val (.int (1 : Int32)), .unset] [])) _
        refine XS.iloadN X0.here hx rfl (hb hby at_22) rfl ?_
        show Steps p.tables e below (s₁.setTop (mkF m 23 #[.val (.int p1), .val (.int p2), .val (.int (3 : Int32)), .val (.int (1 : Int32)), .unset] [(.int (1 : Int32))])) _
        refine XS.iconst X0.here hx rfl (hb hby at_23) ?_
        show Steps p.tables e below (s₁.setTop (mkF m 24 #[.val (.int p1), .val (.int p2), .val (.int (3 : Int32)), .val (.int (1 : Int32)), .unset] [(.int (1 : Int32)), (.int (1 : Int32))])) _
        refine XS.icmpNo X0.here hx rfl (hb hby at_24) rfl ((teq (by decide : (1 : Int32) = (1 : Int32))).2) ?_
        show Steps p.tables e below (s₁.setTop (mkF m 27 #[.val (.int p1), .val (.int p2), .val (.int (3 : Int32)), .val (.int (1 : Int32)), .unset] [])) _
        refine XS.iconst X0.here hx rfl (hb hby at_27) ?_
        show Steps p.tables e below (s₁.setTop (mkF m 28 #[.val (.int p1), .val (.int p2), .val (.int (3 : Int32)), .val (.int (1 : Int32)), .unset] [(.int (1 : Int32))])) _
        refine XS.goto X0.here hx rfl (pc0 := 28) (pc' := 32) rfl (hb hby at_28) (by decide) (by decide) ?_
        show Steps p.tables e below (s₁.setTop (mkF m 32 #[.val (.int p1), .val (.int p2), .val (.int (3 : Int32)), .val (.int (1 : Int32)), .unset] [(.int (1 : Int32))])) _
        refine XS.istore X0.here hx rfl (hb hby at_32) rfl (l' := #[.val (.int p1), .val (.int p2), .val (.int (3 : Int32)), .val (.int (1 : Int32)), .val (.int (1 : Int32))]) rfl ?_
        show Steps p.tables e below (s₁.setTop (mkF m 34 #[.val (.int p1), .val (.int p2), .val (.int (3 : Int32)), .val (.int (1 : Int32)), .val (.int (1 : Int32))] [])) _
        refine XS.iloadN X0.here hx rfl (hb hby at_34) rfl ?_
        show Steps p.tables e below (s₁.setTop (mkF m 35 #[.val (.int p1), .val (.int p2), .val (.int (3 : Int32)), .val (.int (1 : Int32)), .val (.int (1 : Int32))] [(.int (3 : Int32))])) _
        refine st40 _ ?_
        exact k
      rw [hqr40]
      obtain ⟨_, _, ⟨T41, L41, k41, n41⟩, -, X41, ⟨Lc41, hQ41, l41, y41, z41⟩, st41⟩ := Jvm.LawKit.callS X40 hx (y := (⟨"com/example/rialto/rialto/core/movement/WithdrawalStatusHasBeenPinLaw", "pick", "(I)Lcom/example/rialto/rialto/core/movement/WithdrawalStatus;"⟩ : MethodName)) hown (mvT hZ (hw _ (List.mem_of_getElem? (i := 0) rfl))) (mvT hZ (hw _ (List.mem_of_getElem? (i := 1) rfl))) (mvT hZ (hw _ (List.mem_of_getElem? (i := 2) rfl))) (mvT hZ (hw _ (List.mem_of_getElem? (i := 3) rfl))) (by decide) (backOf (W := 1) (rm1 l Z a0 hw [] (1 : Int32) o_PENDING o_RETURNED o_FAILED o_SUCCEEDED h0 n0 Z0 S_PENDING S_RETURNED S_FAILED S_SUCCEEDED) hZ (hw _ (List.mem_of_getElem? (i := 3) rfl)) (hw _ (List.mem_of_getElem? (i := 2) rfl)) (by decide) (by decide)) (g := (mkF m 39 #[.val (.int p1), .val (.int p2), .val (.int (3 : Int32)), .val (.int (1 : Int32)), .val (.int (1 : Int32))] [(.int (1 : Int32)), (.ref o_RETURNED)])) rfl (by rw [hml]; rfl) (argsL := [(.int (1 : Int32))]) (rest := [(.ref o_RETURNED)]) (lenOf pd_0 rfl) rfl (by show 2 * 0 + _ ≤ _; exact Nat.le_of_eq rfl) (hb hby at_39) (fun _ _ => ⟨rfl, eq40, (by decide : 0 + 0 ≤ _), (by decide : 0 + 0 ≤ _)⟩)
      dsimp only [Pt.U, Pt.locs, Pt.cells, Pt.slots] at X41 l41 y41 z41 st41 hQ41
      subst l41 y41 z41
      obtain ⟨r41, rfl, hr41, N41q, eq41⟩ := hQ41
      have N41 := Fr.app N40 N41q
      have hqr41 : r41 = o_SUCCEEDED := by rw [hr41]; rfl
      refine GoalS.lift (B := (T41.setTop (mkF m 42 #[.val (.int p1), .val (.int p2), .val (.int (3 : Int32)), .val (.int (1 : Int32)), .val (.int (1 : Int32))] [(.ref r41), (.ref o_RETURNED)]))) (fun t k => ?_) ?_
      · show Steps p.tables e below (T40.setTop (mkF m 38 #[.val (.int p1), .val (.int p2), .val (.int (3 : Int32)), .val (.int (1 : Int32)), .val (.int (1 : Int32))] [(.ref o_RETURNED)])) _
        refine XS.iloadN X40.here hx rfl (hb hby at_38) rfl ?_
        show Steps p.tables e below (T40.setTop (mkF m 39 #[.val (.int p1), .val (.int p2), .val (.int (3 : Int32)), .val (.int (1 : Int32)), .val (.int (1 : Int32))] [(.int (1 : Int32)), (.ref o_RETURNED)])) _
        refine st41 _ ?_
        exact k
      rw [hqr41]
      obtain ⟨cq42, kq42, q42a, q42b, q42c⟩ := isOf hZ eq41 E_o_RETURNED
      obtain ⟨_, _, ⟨T42, L42, k42, n42⟩, -, X42, ⟨Lc42, hQ42, l42, y42, z42⟩, st42⟩ := X41.virtualBack hx (y := (⟨"com/example/rialto/rialto/core/movement/WithdrawalStatus", "hasBeen", "(Lcom/example/rialto/rialto/core/movement/WithdrawalStatus;)Z"⟩ : MethodName)) (z := (⟨"com/example/rialto/rialto/core/movement/WithdrawalStatus", "hasBeen", "(Lcom/example/rialto/rialto/core/movement/WithdrawalStatus;)Z"⟩ : MethodName)) hown (mvT hZ (hw _ (List.mem_of_getElem? (i := 9) rfl))) (mvT hZ (hw _ (List.mem_of_getElem? (i := 10) rfl))) (notFace_of_selects (args := #[]) (mvT hZ (hw _ (List.mem_of_getElem? (i := 12) rfl)))) (mvT hZ (hw _ (List.mem_of_getElem? (i := 12) rfl))) (mvT hZ (hw _ (List.mem_of_getElem? (i := 11) rfl))) (by decide) (backOf (W := 0) (rm2_31 l Z a0 hw [] o_RETURNED o_SUCCEEDED o_PENDING o_FAILED h0 n0 Z0 F_reachedFrom_o_PENDING F_reachedFrom_o_FAILED F_reachedFrom_o_SUCCEEDED F_reachedFrom_o_RETURNED ne_o_PENDING_o_RETURNED ne_o_PENDING_o_FAILED ne_o_PENDING_o_SUCCEEDED ne_o_RETURNED_o_FAILED ne_o_RETURNED_o_SUCCEEDED ne_o_FAILED_o_SUCCEEDED) hZ (hw _ (List.mem_of_getElem? (i := 13) rfl)) (hw _ (List.mem_of_getElem? (i := 5) rfl)) (by decide) (by decide)) q42a q42c (g := (mkF m 42 #[.val (.int p1), .val (.int p2), .val (.int (3 : Int32)), .val (.int (1 : Int32)), .val (.int (1 : Int32))] [(.ref o_SUCCEEDED), (.ref o_RETURNED)])) rfl (by rw [hml]; rfl) (Steps.refl _) (argsL := [(.ref o_SUCCEEDED)]) (rest := []) (lenOf pd_1 rfl) rfl (by show 2 * 0 + _ ≤ _; exact Nat.le_of_eq rfl) (hb hby at_42) (fun _ _ => ⟨rfl, eq41, (by decide : 0 + 0 ≤ _), (by decide : 0 + 0 ≤ _)⟩)
      dsimp only [Pt.U, Pt.locs, Pt.cells, Pt.slots] at X42 l42 y42 z42 st42 hQ42
      subst l42 y42 z42
      obtain ⟨r42, rfl, hr42, N42q, eq42⟩ := hQ42
      have N42 := Fr.app N41 N42q
      obtain ⟨fs, hr, hrun, hended, hW, hsame⟩ := X42.leave (v := some (.int (1 : Int32))) (fun h => by rw [Bd.returns] at h; cases h)
      refine ⟨_, _, ?_, hrun, hended, _, _, rfl, ?_, ⟨_, rfl⟩, hW, hsame.mono (by decide) (by decide)⟩
      · show Steps p.tables e below (T41.setTop (mkF m 42 #[.val (.int p1), .val (.int p2), .val (.int (3 : Int32)), .val (.int (1 : Int32)), .val (.int (1 : Int32))] [(.ref o_SUCCEEDED), (.ref o_RETURNED)])) _
        refine st42.trans ?_
        show Steps p.tables e below (T42.setTop (mkF m 45 #[.val (.int p1), .val (.int p2), .val (.int (3 : Int32)), .val (.int (1 : Int32)), .val (.int (1 : Int32))] [(.int r42)])) _
        refine XS.iload X42.here hx rfl (hb hby at_45) rfl ?_
        show Steps p.tables e below (T42.setTop (mkF m 47 #[.val (.int p1), .val (.int p2), .val (.int (3 : Int32)), .val (.int (1 : Int32)), .val (.int (1 : Int32))] [(.int (1 : Int32)), (.int r42)])) _
        refine XS.icmpNo X42.here hx rfl (hb hby at_47) rfl ((teq (by rw [hr42] : r42 = (1 : Int32))).2) ?_
        show Steps p.tables e below (T42.setTop (mkF m 50 #[.val (.int p1), .val (.int p2), .val (.int (3 : Int32)), .val (.int (1 : Int32)), .val (.int (1 : Int32))] [])) _
        refine XS.iconst X42.here hx rfl (hb hby at_50) ?_
        show Steps p.tables e below (T42.setTop (mkF m 51 #[.val (.int p1), .val (.int p2), .val (.int (3 : Int32)), .val (.int (1 : Int32)), .val (.int (1 : Int32))] [(.int (1 : Int32))])) _
        refine XS.goto X42.here hx rfl (pc0 := 51) (pc' := 55) rfl (hb hby at_51) (by decide) (by decide) ?_
        show Steps p.tables e below (T42.setTop (mkF m 55 #[.val (.int p1), .val (.int p2), .val (.int (3 : Int32)), .val (.int (1 : Int32)), .val (.int (1 : Int32))] [(.int (1 : Int32))])) _
        exact retN X42 hx (t := .boolean) Bd.returns (by simp) (hb hby at_55) hr
      · exact ⟨rfl, N42⟩
    · rw [hk6]
      obtain ⟨_, _, ⟨T43, L43, k43, n43⟩, -, X43, ⟨Lc43, hQ43, l43, y43, z43⟩, st43⟩ := Jvm.LawKit.callS X0 hx (y := (⟨"com/example/rialto/rialto/core/movement/WithdrawalStatusHasBeenPinLaw", "pick", "(I)Lcom/example/rialto/rialto/core/movement/WithdrawalStatus;"⟩ : MethodName)) hown (mvT hZ (hw _ (List.mem_of_getElem? (i := 0) rfl))) (mvT hZ (hw _ (List.mem_of_getElem? (i := 1) rfl))) (mvT hZ (hw _ (List.mem_of_getElem? (i := 2) rfl))) (mvT hZ (hw _ (List.mem_of_getElem? (i := 3) rfl))) (by decide) (backOf (W := 0) (rm1 l Z a0 hw [] (3 : Int32) o_PENDING o_RETURNED o_FAILED o_SUCCEEDED h0 n0 Z0 S_PENDING S_RETURNED S_FAILED S_SUCCEEDED) hZ (hw _ (List.mem_of_getElem? (i := 3) rfl)) (hw _ (List.mem_of_getElem? (i := 2) rfl)) (by decide) (by decide)) (g := (mkF m 35 #[.val (.int p1), .val (.int p2), .val (.int (3 : Int32)), .val (.int (2 : Int32)), .val (.int (0 : Int32))] [(.int (3 : Int32))])) rfl (by rw [hml]; rfl) (argsL := [(.int (3 : Int32))]) (rest := []) (lenOf pd_0 rfl) rfl (by show 2 * 0 + _ ≤ _; exact Nat.le_of_eq rfl) (hb hby at_35) (fun _ _ => ⟨rfl, e0, (by decide : 0 + 0 ≤ _), (by decide : 0 + 0 ≤ _)⟩)
      dsimp only [Pt.U, Pt.locs, Pt.cells, Pt.slots] at X43 l43 y43 z43 st43 hQ43
      subst l43 y43 z43
      obtain ⟨r43, rfl, hr43, N43q, eq43⟩ := hQ43
      have N43 := Fr.app N0 N43q
      have hqr43 : r43 = o_RETURNED := by rw [hr43]; rfl
      refine GoalS.lift (B := (T43.setTop (mkF m 38 #[.val (.int p1), .val (.int p2), .val (.int (3 : Int32)), .val (.int (2 : Int32)), .val (.int (0 : Int32))] [(.ref r43)]))) (fun t k => ?_) ?_
      · show Steps p.tables e below (s₁.setTop (mkF m 7 #[.val (.int p1), .val (.int p2), .val (.int (3 : Int32)), .unset, .unset] [(.int (2 : Int32))])) _
        refine XS.istoreN X0.here hx rfl (hb hby at_7) rfl (l' := #[.val (.int p1), .val (.int p2), .val (.int (3 : Int32)), .val (.int (2 : Int32)), .unset]) rfl ?_
        show Steps p.tables e below (s₁.setTop (mkF m 8 #[.val (.int p1), .val (.int p2), .val (.int (3 : Int32)), .val (.int (2 : Int32)), .unset] [])) _
        refine XS.iloadN X0.here hx rfl (hb hby at_8) rfl ?_
        show Steps p.tables e below (s₁.setTop (mkF m 9 #[.val (.int p1), .val (.int p2), .val (.int (3 : Int32)), .val (.int (2 : Int32)), .unset] [(.int (3 : Int32))])) _
        refine XS.iloadN X0.here hx rfl (hb hby at_9) rfl ?_
        show Steps p.tables e below (s₁.setTop (mkF m 10 #[.val (.int p1), .val (.int p2), .val (.int (3 : Int32)), .val (.int (2 : Int32)), .unset] [(.int (2 : Int32)), (.int (3 : Int32))])) _
        refine XS.icmpNo X0.here hx rfl (hb hby at_10) rfl ((feq (by decide : ¬ ((3 : Int32) = (2 : Int32)))).1) ?_
        show Steps p.tables e below (s₁.setTop (mkF m 13 #[.val (.int p1), .val (.int p2), .val (.int (3 : Int32)), .val (.int (2 : Int32)), .unset] [])) _
        refine XS.iloadN X0.here hx rfl (hb hby at_13) rfl ?_
        show Steps p.tables e below (s₁.setTop (mkF m 14 #[.val (.int p1), .val (.int p2), .val (.int (3 : Int32)), .val (.int (2 : Int32)), .unset] [(.int (2 : Int32))])) _
        refine XS.ifNo X0.here hx rfl (hb hby at_14) rfl ((if0 _ _).trans (feq (by decide : ¬ ((2 : Int32) = (0 : Int32)))).1) ?_
        show Steps p.tables e below (s₁.setTop (mkF m 17 #[.val (.int p1), .val (.int p2), .val (.int (3 : Int32)), .val (.int (2 : Int32)), .unset] [])) _
        refine XS.iloadN X0.here hx rfl (hb hby at_17) rfl ?_
        show Steps p.tables e below (s₁.setTop (mkF m 18 #[.val (.int p1), .val (.int p2), .val (.int (3 : Int32)), .val (.int (2 : Int32)), .unset] [(.int (3 : Int32))])) _
        refine XS.iconst X0.here hx rfl (hb hby at_18) ?_
        show Steps p.tables e below (s₁.setTop (mkF m 19 #[.val (.int p1), .val (.int p2), .val (.int (3 : Int32)), .val (.int (2 : Int32)), .unset] [(.int (3 : Int32)), (.int (3 : Int32))])) _
        refine XS.icmpNo X0.here hx rfl (hb hby at_19) rfl ((teq (by decide : (3 : Int32) = (3 : Int32))).2) ?_
        show Steps p.tables e below (s₁.setTop (mkF m 22 #[.val (.int p1), .val (.int p2), .val (.int (3 : Int32)), .val (.int (2 : Int32)), .unset] [])) _
        refine XS.iloadN X0.here hx rfl (hb hby at_22) rfl ?_
        show Steps p.tables e below (s₁.setTop (mkF m 23 #[.val (.int p1), .val (.int p2), .val (.int (3 : Int32)), .val (.int (2 : Int32)), .unset] [(.int (2 : Int32))])) _
        refine XS.iconst X0.here hx rfl (hb hby at_23) ?_
        show Steps p.tables e below (s₁.setTop (mkF m 24 #[.val (.int p1), .val (.int p2), .val (.int (3 : Int32)), .val (.int (2 : Int32)), .unset] [(.int (1 : Int32)), (.int (2 : Int32))])) _
        refine XS.icmpYes X0.here hx rfl (pc0 := 24) (pc' := 31) rfl (hb hby at_24) rfl ((feq (by decide : ¬ ((2 : Int32) = (1 : Int32)))).2) (by decide) (by decide) ?_
        show Steps p.tables e below (s₁.setTop (mkF m 31 #[.val (.int p1), .val (.int p2), .val (.int (3 : Int32)), .val (.int (2 : Int32)), .unset] [])) _
        refine XS.iconst X0.here hx rfl (hb hby at_31) ?_
        show Steps p.tables e below (s₁.setTop (mkF m 32 #[.val (.int p1), .val (.int p2), .val (.int (3 : Int32)), .val (.int (2 : Int32)), .unset] [(.int (0 : Int32))])) _
        refine XS.istore X0.here hx rfl (hb hby at_32) rfl (l' := #[.val (.int p1), .val (.int p2), .val (.int (3 : Int32)), .val (.int (2 : Int32)), .val (.int (0 : Int32))]) rfl ?_
        show Steps p.tables e below (s₁.setTop (mkF m 34 #[.val (.int p1), .val (.int p2), .val (.int (3 : Int32)), .val (.int (2 : Int32)), .val (.int (0 : Int32))] [])) _
        refine XS.iloadN X0.here hx rfl (hb hby at_34) rfl ?_
        show Steps p.tables e below (s₁.setTop (mkF m 35 #[.val (.int p1), .val (.int p2), .val (.int (3 : Int32)), .val (.int (2 : Int32)), .val (.int (0 : Int32))] [(.int (3 : Int32))])) _
        refine st43 _ ?_
        exact k
      rw [hqr43]
      obtain ⟨_, _, ⟨T44, L44, k44, n44⟩, -, X44, ⟨Lc44, hQ44, l44, y44, z44⟩, st44⟩ := Jvm.LawKit.callS X43 hx (y := (⟨"com/example/rialto/rialto/core/movement/WithdrawalStatusHasBeenPinLaw", "pick", "(I)Lcom/example/rialto/rialto/core/movement/WithdrawalStatus;"⟩ : MethodName)) hown (mvT hZ (hw _ (List.mem_of_getElem? (i := 0) rfl))) (mvT hZ (hw _ (List.mem_of_getElem? (i := 1) rfl))) (mvT hZ (hw _ (List.mem_of_getElem? (i := 2) rfl))) (mvT hZ (hw _ (List.mem_of_getElem? (i := 3) rfl))) (by decide) (backOf (W := 1) (rm1 l Z a0 hw [] (2 : Int32) o_PENDING o_RETURNED o_FAILED o_SUCCEEDED h0 n0 Z0 S_PENDING S_RETURNED S_FAILED S_SUCCEEDED) hZ (hw _ (List.mem_of_getElem? (i := 3) rfl)) (hw _ (List.mem_of_getElem? (i := 2) rfl)) (by decide) (by decide)) (g := (mkF m 39 #[.val (.int p1), .val (.int p2), .val (.int (3 : Int32)), .val (.int (2 : Int32)), .val (.int (0 : Int32))] [(.int (2 : Int32)), (.ref o_RETURNED)])) rfl (by rw [hml]; rfl) (argsL := [(.int (2 : Int32))]) (rest := [(.ref o_RETURNED)]) (lenOf pd_0 rfl) rfl (by show 2 * 0 + _ ≤ _; exact Nat.le_of_eq rfl) (hb hby at_39) (fun _ _ => ⟨rfl, eq43, (by decide : 0 + 0 ≤ _), (by decide : 0 + 0 ≤ _)⟩)
      dsimp only [Pt.U, Pt.locs, Pt.cells, Pt.slots] at X44 l44 y44 z44 st44 hQ44
      subst l44 y44 z44
      obtain ⟨r44, rfl, hr44, N44q, eq44⟩ := hQ44
      have N44 := Fr.app N43 N44q
      have hqr44 : r44 = o_FAILED := by rw [hr44]; rfl
      refine GoalS.lift (B := (T44.setTop (mkF m 42 #[.val (.int p1), .val (.int p2), .val (.int (3 : Int32)), .val (.int (2 : Int32)), .val (.int (0 : Int32))] [(.ref r44), (.ref o_RETURNED)]))) (fun t k => ?_) ?_
      · show Steps p.tables e below (T43.setTop (mkF m 38 #[.val (.int p1), .val (.int p2), .val (.int (3 : Int32)), .val (.int (2 : Int32)), .val (.int (0 : Int32))] [(.ref o_RETURNED)])) _
        refine XS.iloadN X43.here hx rfl (hb hby at_38) rfl ?_
        show Steps p.tables e below (T43.setTop (mkF m 39 #[.val (.int p1), .val (.int p2), .val (.int (3 : Int32)), .val (.int (2 : Int32)), .val (.int (0 : Int32))] [(.int (2 : Int32)), (.ref o_RETURNED)])) _
        refine st44 _ ?_
        exact k
      rw [hqr44]
      obtain ⟨cq45, kq45, q45a, q45b, q45c⟩ := isOf hZ eq44 E_o_RETURNED
      obtain ⟨_, _, ⟨T45, L45, k45, n45⟩, -, X45, ⟨Lc45, hQ45, l45, y45, z45⟩, st45⟩ := X44.virtualBack hx (y := (⟨"com/example/rialto/rialto/core/movement/WithdrawalStatus", "hasBeen", "(Lcom/example/rialto/rialto/core/movement/WithdrawalStatus;)Z"⟩ : MethodName)) (z := (⟨"com/example/rialto/rialto/core/movement/WithdrawalStatus", "hasBeen", "(Lcom/example/rialto/rialto/core/movement/WithdrawalStatus;)Z"⟩ : MethodName)) hown (mvT hZ (hw _ (List.mem_of_getElem? (i := 9) rfl))) (mvT hZ (hw _ (List.mem_of_getElem? (i := 10) rfl))) (notFace_of_selects (args := #[]) (mvT hZ (hw _ (List.mem_of_getElem? (i := 12) rfl)))) (mvT hZ (hw _ (List.mem_of_getElem? (i := 12) rfl))) (mvT hZ (hw _ (List.mem_of_getElem? (i := 11) rfl))) (by decide) (backOf (W := 0) (rm2_32 l Z a0 hw [] o_RETURNED o_FAILED o_PENDING o_SUCCEEDED h0 n0 Z0 F_reachedFrom_o_PENDING F_reachedFrom_o_FAILED F_reachedFrom_o_SUCCEEDED F_reachedFrom_o_RETURNED ne_o_PENDING_o_RETURNED ne_o_PENDING_o_FAILED ne_o_PENDING_o_SUCCEEDED ne_o_RETURNED_o_FAILED ne_o_RETURNED_o_SUCCEEDED ne_o_FAILED_o_SUCCEEDED) hZ (hw _ (List.mem_of_getElem? (i := 13) rfl)) (hw _ (List.mem_of_getElem? (i := 5) rfl)) (by decide) (by decide)) q45a q45c (g := (mkF m 42 #[.val (.int p1), .val (.int p2), .val (.int (3 : Int32)), .val (.int (2 : Int32)), .val (.int (0 : Int32))] [(.ref o_FAILED), (.ref o_RETURNED)])) rfl (by rw [hml]; rfl) (Steps.refl _) (argsL := [(.ref o_FAILED)]) (rest := []) (lenOf pd_1 rfl) rfl (by show 2 * 0 + _ ≤ _; exact Nat.le_of_eq rfl) (hb hby at_42) (fun _ _ => ⟨rfl, eq44, (by decide : 0 + 0 ≤ _), (by decide : 0 + 0 ≤ _)⟩)
      dsimp only [Pt.U, Pt.locs, Pt.cells, Pt.slots] at X45 l45 y45 z45 st45 hQ45
      subst l45 y45 z45
      obtain ⟨r45, rfl, hr45, N45q, eq45⟩ := hQ45
      have N45 := Fr.app N44 N45q
      obtain ⟨fs, hr, hrun, hended, hW, hsame⟩ := X45.leave (v := some (.int (1 : Int32))) (fun h => by rw [Bd.returns] at h; cases h)
      refine ⟨_, _, ?_, hrun, hended, _, _, rfl, ?_, ⟨_, rfl⟩, hW, hsame.mono (by decide) (by decide)⟩
      · show Steps p.tables e below (T44.setTop (mkF m 42 #[.val (.int p1), .val (.int p2), .val (.int (3 : Int32)), .val (.int (2 : Int32)), .val (.int (0 : Int32))] [(.ref o_FAILED), (.ref o_RETURNED)])) _
        refine st45.trans ?_
        show Steps p.tables e below (T45.setTop (mkF m 45 #[.val (.int p1), .val (.int p2), .val (.int (3 : Int32)), .val (.int (2 : Int32)), .val (.int (0 : Int32))] [(.int r45)])) _
        refine XS.iload X45.here hx rfl (hb hby at_45) rfl ?_
        show Steps p.tables e below (T45.setTop (mkF m 47 #[.val (.int p1), .val (.int p2), .val (.int (3 : Int32)), .val (.int (2 : Int32)), .val (.int (0 : Int32))] [(.int (0 : Int32)), (.int r45)])) _
        refine XS.icmpNo X45.here hx rfl (hb hby at_47) rfl ((teq (by rw [hr45] : r45 = (0 : Int32))).2) ?_
        show Steps p.tables e below (T45.setTop (mkF m 50 #[.val (.int p1), .val (.int p2), .val (.int (3 : Int32)), .val (.int (2 : Int32)), .val (.int (0 : Int32))] [])) _
        refine XS.iconst X45.here hx rfl (hb hby at_50) ?_
        show Steps p.tables e below (T45.setTop (mkF m 51 #[.val (.int p1), .val (.int p2), .val (.int (3 : Int32)), .val (.int (2 : Int32)), .val (.int (0 : Int32))] [(.int (1 : Int32))])) _
        refine XS.goto X45.here hx rfl (pc0 := 51) (pc' := 55) rfl (hb hby at_51) (by decide) (by decide) ?_
        show Steps p.tables e below (T45.setTop (mkF m 55 #[.val (.int p1), .val (.int p2), .val (.int (3 : Int32)), .val (.int (2 : Int32)), .val (.int (0 : Int32))] [(.int (1 : Int32))])) _
        exact retN X45 hx (t := .boolean) Bd.returns (by simp) (hb hby at_55) hr
      · exact ⟨rfl, N45⟩
    · rw [hk6]
      obtain ⟨_, _, ⟨T46, L46, k46, n46⟩, -, X46, ⟨Lc46, hQ46, l46, y46, z46⟩, st46⟩ := Jvm.LawKit.callS X0 hx (y := (⟨"com/example/rialto/rialto/core/movement/WithdrawalStatusHasBeenPinLaw", "pick", "(I)Lcom/example/rialto/rialto/core/movement/WithdrawalStatus;"⟩ : MethodName)) hown (mvT hZ (hw _ (List.mem_of_getElem? (i := 0) rfl))) (mvT hZ (hw _ (List.mem_of_getElem? (i := 1) rfl))) (mvT hZ (hw _ (List.mem_of_getElem? (i := 2) rfl))) (mvT hZ (hw _ (List.mem_of_getElem? (i := 3) rfl))) (by decide) (backOf (W := 0) (rm1 l Z a0 hw [] (3 : Int32) o_PENDING o_RETURNED o_FAILED o_SUCCEEDED h0 n0 Z0 S_PENDING S_RETURNED S_FAILED S_SUCCEEDED) hZ (hw _ (List.mem_of_getElem? (i := 3) rfl)) (hw _ (List.mem_of_getElem? (i := 2) rfl)) (by decide) (by decide)) (g := (mkF m 35 #[.val (.int p1), .val (.int p2), .val (.int (3 : Int32)), .val (.int (3 : Int32)), .val (.int (1 : Int32))] [(.int (3 : Int32))])) rfl (by rw [hml]; rfl) (argsL := [(.int (3 : Int32))]) (rest := []) (lenOf pd_0 rfl) rfl (by show 2 * 0 + _ ≤ _; exact Nat.le_of_eq rfl) (hb hby at_35) (fun _ _ => ⟨rfl, e0, (by decide : 0 + 0 ≤ _), (by decide : 0 + 0 ≤ _)⟩)
      dsimp only [Pt.U, Pt.locs, Pt.cells, Pt.slots] at X46 l46 y46 z46 st46 hQ46
      subst l46 y46 z46
      obtain ⟨r46, rfl, hr46, N46q, eq46⟩ := hQ46
      have N46 := Fr.app N0 N46q
      have hqr46 : r46 = o_RETURNED := by rw [hr46]; rfl
      refine GoalS.lift (B := (T46.setTop (mkF m 38 #[.val (.int p1), .val (.int p2), .val (.int (3 : Int32)), .val (.int (3 : Int32)), .val (.int (1 : Int32))] [(.ref r46)]))) (fun t k => ?_) ?_
      · show Steps p.tables e below (s₁.setTop (mkF m 7 #[.val (.int p1), .val (.int p2), .val (.int (3 : Int32)), .unset, .unset] [(.int (3 : Int32))])) _
        refine XS.istoreN X0.here hx rfl (hb hby at_7) rfl (l' := #[.val (.int p1), .val (.int p2), .val (.int (3 : Int32)), .val (.int (3 : Int32)), .unset]) rfl ?_
        show Steps p.tables e below (s₁.setTop (mkF m 8 #[.val (.int p1), .val (.int p2), .val (.int (3 : Int32)), .val (.int (3 : Int32)), .unset] [])) _
        refine XS.iloadN X0.here hx rfl (hb hby at_8) rfl ?_
        show Steps p.tables e below (s₁.setTop (mkF m 9 #[.val (.int p1), .val (.int p2), .val (.int (3 : Int32)), .val (.int (3 : Int32)), .unset] [(.int (3 : Int32))])) _
        refine XS.iloadN X0.here hx rfl (hb hby at_9) rfl ?_
        show Steps p.tables e below (s₁.setTop (mkF m 10 #[.val (.int p1), .val (.int p2), .val (.int (3 : Int32)), .val (.int (3 : Int32)), .unset] [(.int (3 : Int32)), (.int (3 : Int32))])) _
        refine XS.icmpYes X0.here hx rfl (pc0 := 10) (pc' := 27) rfl (hb hby at_10) rfl ((teq (by decide : (3 : Int32) = (3 : Int32))).1) (by decide) (by decide) ?_
        show Steps p.tables e below (s₁.setTop (mkF m 27 #[.val (.int p1), .val (.int p2), .val (.int (3 : Int32)), .val (.int (3 : Int32)), .unset] [])) _
        refine XS.iconst X0.here hx rfl (hb hby at_27) ?_
        show Steps p.tables e below (s₁.setTop (mkF m 28 #[.val (.int p1), .val (.int p2), .val (.int (3 : Int32)), .val (.int (3 : Int32)), .unset] [(.int (1 : Int32))])) _
        refine XS.goto X0.here hx rfl (pc0 := 28) (pc' := 32) rfl (hb hby at_28) (by decide) (by decide) ?_
        show Steps p.tables e below (s₁.setTop (mkF m 32 #[.val (.int p1), .val (.int p2), .val (.int (3 : Int32)), .val (.int (3 : Int32)), .unset] [(.int (1 : Int32))])) _
        refine XS.istore X0.here hx rfl (hb hby at_32) rfl (l' := #[.val (.int p1), .val (.int p2), .val (.int (3 : Int32)), .val (.int (3 : Int32)), .val (.int (1 : Int32))]) rfl ?_
        show Steps p.tables e below (s₁.setTop (mkF m 34 #[.val (.int p1), .val (.int p2), .val (.int (3 : Int32)), .val (.int (3 : Int32)), .val (.int (1 : Int32))] [])) _
        refine XS.iloadN X0.here hx rfl (hb hby at_34) rfl ?_
        show Steps p.tables e below (s₁.setTop (mkF m 35 #[.val (.int p1), .val (.int p2), .val (.int (3 : Int32)), .val (.int (3 : Int32)), .val (.int (1 : Int32))] [(.int (3 : Int32))])) _
        refine st46 _ ?_
        exact k
      rw [hqr46]
      obtain ⟨_, _, ⟨T47, L47, k47, n47⟩, -, X47, ⟨Lc47, hQ47, l47, y47, z47⟩, st47⟩ := Jvm.LawKit.callS X46 hx (y := (⟨"com/example/rialto/rialto/core/movement/WithdrawalStatusHasBeenPinLaw", "pick", "(I)Lcom/example/rialto/rialto/core/movement/WithdrawalStatus;"⟩ : MethodName)) hown (mvT hZ (hw _ (List.mem_of_getElem? (i := 0) rfl))) (mvT hZ (hw _ (List.mem_of_getElem? (i := 1) rfl))) (mvT hZ (hw _ (List.mem_of_getElem? (i := 2) rfl))) (mvT hZ (hw _ (List.mem_of_getElem? (i := 3) rfl))) (by decide) (backOf (W := 1) (rm1 l Z a0 hw [] (3 : Int32) o_PENDING o_RETURNED o_FAILED o_SUCCEEDED h0 n0 Z0 S_PENDING S_RETURNED S_FAILED S_SUCCEEDED) hZ (hw _ (List.mem_of_getElem? (i := 3) rfl)) (hw _ (List.mem_of_getElem? (i := 2) rfl)) (by decide) (by decide)) (g := (mkF m 39 #[.val (.int p1), .val (.int p2), .val (.int (3 : Int32)), .val (.int (3 : Int32)), .val (.int (1 : Int32))] [(.int (3 : Int32)), (.ref o_RETURNED)])) rfl (by rw [hml]; rfl) (argsL := [(.int (3 : Int32))]) (rest := [(.ref o_RETURNED)]) (lenOf pd_0 rfl) rfl (by show 2 * 0 + _ ≤ _; exact Nat.le_of_eq rfl) (hb hby at_39) (fun _ _ => ⟨rfl, eq46, (by decide : 0 + 0 ≤ _), (by decide : 0 + 0 ≤ _)⟩)
      dsimp only [Pt.U, Pt.locs, Pt.cells, Pt.slots] at X47 l47 y47 z47 st47 hQ47
      subst l47 y47 z47
      obtain ⟨r47, rfl, hr47, N47q, eq47⟩ := hQ47
      have N47 := Fr.app N46 N47q
      have hqr47 : r47 = o_RETURNED := by rw [hr47]; rfl
      refine GoalS.lift (B := (T47.setTop (mkF m 42 #[.val (.int p1), .val (.int p2), .val (.int (3 : Int32)), .val (.int (3 : Int32)), .val (.int (1 : Int32))] [(.ref r47), (.ref o_RETURNED)]))) (fun t k => ?_) ?_
      · show Steps p.tables e below (T46.setTop (mkF m 38 #[.val (.int p1), .val (.int p2), .val (.int (3 : Int32)), .val (.int (3 : Int32)), .val (.int (1 : Int32))] [(.ref o_RETURNED)])) _
        refine XS.iloadN X46.here hx rfl (hb hby at_38) rfl ?_
        show Steps p.tables e below (T46.setTop (mkF m 39 #[.val (.int p1), .val (.int p2), .val (.int (3 : Int32)), .val (.int (3 : Int32)), .val (.int (1 : Int32))] [(.int (3 : Int32)), (.ref o_RETURNED)])) _
        refine st47 _ ?_
        exact k
      rw [hqr47]
      obtain ⟨cq48, kq48, q48a, q48b, q48c⟩ := isOf hZ eq47 E_o_RETURNED
      obtain ⟨_, _, ⟨T48, L48, k48, n48⟩, -, X48, ⟨Lc48, hQ48, l48, y48, z48⟩, st48⟩ := X47.virtualBack hx (y := (⟨"com/example/rialto/rialto/core/movement/WithdrawalStatus", "hasBeen", "(Lcom/example/rialto/rialto/core/movement/WithdrawalStatus;)Z"⟩ : MethodName)) (z := (⟨"com/example/rialto/rialto/core/movement/WithdrawalStatus", "hasBeen", "(Lcom/example/rialto/rialto/core/movement/WithdrawalStatus;)Z"⟩ : MethodName)) hown (mvT hZ (hw _ (List.mem_of_getElem? (i := 9) rfl))) (mvT hZ (hw _ (List.mem_of_getElem? (i := 10) rfl))) (notFace_of_selects (args := #[]) (mvT hZ (hw _ (List.mem_of_getElem? (i := 12) rfl)))) (mvT hZ (hw _ (List.mem_of_getElem? (i := 12) rfl))) (mvT hZ (hw _ (List.mem_of_getElem? (i := 11) rfl))) (by decide) (backOf (W := 0) (rm2_33 l Z a0 hw [] o_RETURNED o_PENDING o_FAILED o_SUCCEEDED h0 n0 Z0 F_reachedFrom_o_PENDING F_reachedFrom_o_FAILED F_reachedFrom_o_SUCCEEDED F_reachedFrom_o_RETURNED ne_o_PENDING_o_RETURNED ne_o_PENDING_o_FAILED ne_o_PENDING_o_SUCCEEDED ne_o_RETURNED_o_FAILED ne_o_RETURNED_o_SUCCEEDED ne_o_FAILED_o_SUCCEEDED) hZ (hw _ (List.mem_of_getElem? (i := 13) rfl)) (hw _ (List.mem_of_getElem? (i := 5) rfl)) (by decide) (by decide)) q48a q48c (g := (mkF m 42 #[.val (.int p1), .val (.int p2), .val (.int (3 : Int32)), .val (.int (3 : Int32)), .val (.int (1 : Int32))] [(.ref o_RETURNED), (.ref o_RETURNED)])) rfl (by rw [hml]; rfl) (Steps.refl _) (argsL := [(.ref o_RETURNED)]) (rest := []) (lenOf pd_1 rfl) rfl (by show 2 * 0 + _ ≤ _; exact Nat.le_of_eq rfl) (hb hby at_42) (fun _ _ => ⟨rfl, eq47, (by decide : 0 + 0 ≤ _), (by decide : 0 + 0 ≤ _)⟩)
      dsimp only [Pt.U, Pt.locs, Pt.cells, Pt.slots] at X48 l48 y48 z48 st48 hQ48
      subst l48 y48 z48
      obtain ⟨r48, rfl, hr48, N48q, eq48⟩ := hQ48
      have N48 := Fr.app N47 N48q
      obtain ⟨fs, hr, hrun, hended, hW, hsame⟩ := X48.leave (v := some (.int (1 : Int32))) (fun h => by rw [Bd.returns] at h; cases h)
      refine ⟨_, _, ?_, hrun, hended, _, _, rfl, ?_, ⟨_, rfl⟩, hW, hsame.mono (by decide) (by decide)⟩
      · show Steps p.tables e below (T47.setTop (mkF m 42 #[.val (.int p1), .val (.int p2), .val (.int (3 : Int32)), .val (.int (3 : Int32)), .val (.int (1 : Int32))] [(.ref o_RETURNED), (.ref o_RETURNED)])) _
        refine st48.trans ?_
        show Steps p.tables e below (T48.setTop (mkF m 45 #[.val (.int p1), .val (.int p2), .val (.int (3 : Int32)), .val (.int (3 : Int32)), .val (.int (1 : Int32))] [(.int r48)])) _
        refine XS.iload X48.here hx rfl (hb hby at_45) rfl ?_
        show Steps p.tables e below (T48.setTop (mkF m 47 #[.val (.int p1), .val (.int p2), .val (.int (3 : Int32)), .val (.int (3 : Int32)), .val (.int (1 : Int32))] [(.int (1 : Int32)), (.int r48)])) _
        refine XS.icmpNo X48.here hx rfl (hb hby at_47) rfl ((teq (by rw [hr48] : r48 = (1 : Int32))).2) ?_
        show Steps p.tables e below (T48.setTop (mkF m 50 #[.val (.int p1), .val (.int p2), .val (.int (3 : Int32)), .val (.int (3 : Int32)), .val (.int (1 : Int32))] [])) _
        refine XS.iconst X48.here hx rfl (hb hby at_50) ?_
        show Steps p.tables e below (T48.setTop (mkF m 51 #[.val (.int p1), .val (.int p2), .val (.int (3 : Int32)), .val (.int (3 : Int32)), .val (.int (1 : Int32))] [(.int (1 : Int32))])) _
        refine XS.goto X48.here hx rfl (pc0 := 51) (pc' := 55) rfl (hb hby at_51) (by decide) (by decide) ?_
        show Steps p.tables e below (T48.setTop (mkF m 55 #[.val (.int p1), .val (.int p2), .val (.int (3 : Int32)), .val (.int (3 : Int32)), .val (.int (1 : Int32))] [(.int (1 : Int32))])) _
        exact retN X48 hx (t := .boolean) Bd.returns (by simp) (hb hby at_55) hr
      · exact ⟨rfl, N48⟩
set_option maxRecDepth 65536 in
set_option maxHeartbeats 40000000 in
theorem comes_1 {Post : Tables → Env → Array Value → State → Outcome → State → Prop} (hpost : ∀ tb e args s v u, (limb_1_1.after args s (.returned v) u = true ∧ limb_1_2.after args s (.returned v) u = true ∧ True) → FrameEnd s (.returned v) u (Jvm.fieldLocs frame_1_writes args s ++ Jvm.arrayLocs frame_1_arrays args s ++ Jvm.staticLocs frame_1_statics s) 0 0 → Post tb e args s (.returned v) u) :
    ArmFor flags0 classFile x code maxLocals ret World_1 tables_1 room_1 Calls_1 rest_1 Pre_1 Post := by
  intro l hfl _ _ p e ha hc hk s m args below hf hA hF happ hP
  obtain ⟨hcalls, hrest, hpre⟩ := hP
  obtain ⟨-, -, -, hnamed, -, -, -, hat⟩ := (Spec.applies_iff hf).mp happ
  obtain ⟨hg, hn⟩ := and_e (Cond.before_iff.mp (show (Jvm.Cond.and given_1 narrow_1).before args s = true from hpre))
  obtain ⟨g1, g2⟩ := and_e hg
  obtain ⟨g3, g4⟩ := and_e g2
  obtain ⟨w0, w1, rfl⟩ : ∃ w0 w1 : Value, args = #[w0, w1] := by
    have hs : args.size = 2 := by simpa [Cond.value, given_1] using g1
    obtain ⟨L⟩ := args
    match L, hs with
    | [w0, w1], _ => exact ⟨w0, w1, rfl⟩
  have hw := fun d (hd : d ∈ tables_1) => atoms_spec (ws := Jvm.Cond.code x code maxLocals ret :: tables_1) hat d (List.mem_cons_of_mem _ hd)
  have hfit : Fit s := fun {y c} hc i hi => by
    obtain ⟨ha, rfl⟩ := Array.getElem?_eq_some_iff.mp hc
    have q := List.all_eq_true.mp ((Array.all_eq_true_iff_forall_mem.mp hF) _ (Array.getElem_mem ha)) i (List.mem_range.mpr hi)
    simpa [Array.getElem?_eq_getElem hi] using q
  obtain ⟨i0, ei0⟩ := is_v g3
  obtain rfl : w0 = (.int i0) := Option.some.inj ei0
  obtain ⟨i1, ei1⟩ := is_v g4
  obtain rfl : w1 = (.int i1) := Option.some.inj ei1
  obtain ⟨nn1, nn2⟩ := and_e hn
  obtain ⟨nn3, nn4⟩ := and_e nn2
  obtain ⟨nn5, nn6⟩ := and_e nn4
  obtain ⟨nn7, nn8⟩ := and_e nn6
  obtain ⟨nn9, nn10⟩ := and_e nn8
  obtain ⟨nn11, nn12⟩ := and_e nn10
  obtain ⟨nn13, nn14⟩ := and_e nn12
  obtain ⟨nn15, nn16⟩ := and_e nn14
  obtain ⟨nn17, nn18⟩ := and_e nn16
  obtain ⟨nn19, nn20⟩ := and_e nn18
  obtain ⟨nn21, nn22⟩ := and_e nn20
  obtain ⟨o_PENDING, ev_o_PENDING⟩ := exa_v nn1
  obtain ⟨o_RETURNED, ev_o_RETURNED⟩ := exa_v nn3
  obtain ⟨o_FAILED, ev_o_FAILED⟩ := exa_v nn11
  obtain ⟨o_SUCCEEDED, ev_o_SUCCEEDED⟩ := exa_v nn13
  obtain ⟨n, o, h1, h2, h3, _, L, rfl, ⟨rfl, N⟩, hq⟩ := rm0 l s _ hw tables_1 i0 i1 o_PENDING o_RETURNED o_FAILED o_SUCCEEDED s.heap s.heap.size (Nat.le_refl _) (Sta.start ev_o_PENDING (Or.inr ⟨(hw _ (List.mem_of_getElem? (i := 5) rfl)), (hw _ (List.mem_of_getElem? (i := 6) rfl))⟩)) (Exa.start ev_o_PENDING nn1) (Sta.start ev_o_RETURNED (Or.inr ⟨(hw _ (List.mem_of_getElem? (i := 5) rfl)), (hw _ (List.mem_of_getElem? (i := 8) rfl))⟩)) (Exa.start ev_o_RETURNED nn3) (Sta.start ev_o_FAILED (Or.inr ⟨(hw _ (List.mem_of_getElem? (i := 5) rfl)), (hw _ (List.mem_of_getElem? (i := 17) rfl))⟩)) (Exa.start ev_o_FAILED nn11) (Sta.start ev_o_SUCCEEDED (Or.inr ⟨(hw _ (List.mem_of_getElem? (i := 5) rfl)), (hw _ (List.mem_of_getElem? (i := 19) rfl))⟩)) (Exa.start ev_o_SUCCEEDED nn13) (own_fI ev_o_PENDING nn5) (own_fI ev_o_RETURNED nn7) (own_fN ev_o_PENDING nn9) (own_fI ev_o_FAILED nn15) (own_fI ev_o_SUCCEEDED nn17) (own_fR ev_o_FAILED ev_o_PENDING nn19) (own_fR ev_o_SUCCEEDED ev_o_PENDING nn21) (own_fR ev_o_RETURNED ev_o_SUCCEEDED nn22) (Fld.ne (own_fI ev_o_PENDING nn5) (own_fI ev_o_RETURNED nn7) (by simp)) (Fld.ne (own_fI ev_o_PENDING nn5) (own_fI ev_o_FAILED nn15) (by simp)) (Fld.ne (own_fI ev_o_PENDING nn5) (own_fI ev_o_SUCCEEDED nn17) (by simp)) (Fld.ne (own_fI ev_o_RETURNED nn7) (own_fI ev_o_FAILED nn15) (by simp)) (Fld.ne (own_fI ev_o_RETURNED nn7) (own_fI ev_o_SUCCEEDED nn17) (by simp)) (Fld.ne (own_fI ev_o_FAILED nn15) (own_fI ev_o_SUCCEEDED nn17) (by simp)) p e ha hc hk s m _ below hf ((Spec.applies_iff_loose hf).mp happ).1 ⟨rfl, State.Warmed39.refl s, rfl⟩ trivial
  refine ⟨n, _, h1, h2, h3, hpost _ _ _ _ _ _ ⟨Cond.after_iff.mpr rfl, Cond.after_iff.mpr (eq_i res_at (Term.int_eval (1)) rfl), trivial⟩ ⟨hq.1, hq.2.1, (hq.2.2.sift fun y hy => Or.inr (N y hy)).mono (by decide) (by decide)⟩⟩
theorem main_1_1 : Claimed_1_1 := comes_1 fun _ _ _ _ _ _ h hF => ⟨h.1, hF⟩
theorem main_1_2 : Claimed_1_2 := comes_1 fun _ _ _ _ _ _ h hF => ⟨h.2.1, hF⟩
end Jvm.Pilot.@@N@@
namespace Jvm.Pilot.@@N@@
open Jvm Jvm.ClassFile Sem Op Lib Jvm.Free Jvm.Stand Jvm.Pilot.@@N@@.Jvm.D
/-! MADE BY PROGRAM (witnessworld.py) out of the Statement's table words and the real class files: 12 classes; the members and pool entries that the words name. The judged class is class 1, her method 2. -/
namespace start1
open Jvm.ClassFile
def u (s : String) : CpInfo := .utf8 (stringToUtf16 s)
/-- a pool by its gaps: so many unusable entries, then the entry; so many at the end -/
def gap : Nat → List CpInfo → List CpInfo
  | 0, r => r
  | n + 1, r => .unusable :: gap n r
def poolList (es : List (Nat × CpInfo)) (last : Nat) : List CpInfo := es.foldr (fun e r => gap e.1 (e.2 :: r)) (gap last [])
def pool (es : List (Nat × CpInfo)) (last : Nat) : Array CpInfo := ⟨poolList es last⟩
def fileOf (pool : Array CpInfo) (this : Nat) (attrs : Array Attribute := #[]) (ms : Array MethodInfo := #[]) (fl : Nat := 33) (sup : Nat := 0) (ifs : Array Nat := #[]) (fds : Array FieldInfo := #[]) : ClassFile where
  minorVersion := 0
  majorVersion := 65
  constantPool := pool
  accessFlags := fl
  thisClass := this
  superClass := sup
  interfaces := ifs
  fields := fds
  methods := ms
  attributes := attrs
def plain (name : String) (sup : Option ClassId) : Class where
  name := name
  kind := .ordinary
  loader := none
  accessFlags := 33
  super := sup
  interfaces := #[]
  cf := none
  fields := #[]
  methods := #[]
  instanceTypes := #[]
  staticTypes := #[]
  resolved := #[]
  callSites := []
  init := .initialized
  statics := none
  mirror := none

def pool0 : Array CpInfo := pool [(5, u "<init>"), (0, u "()V"), (1, .class_ 10), (1, u "java/lang/Object")] 113

def k0m0 : Method := { name := "<init>", desc := "()V", sig := { parameters := [], returnType := none }, accessFlags := 1, code := none }
/-- java/lang/Object -/
def k0 : Class := { plain "java/lang/Object" none with
  accessFlags := 33
  interfaces := #[]
  cf := some (fileOf pool0 8 #[] #[{ accessFlags := 1, nameIndex := 5, descriptorIndex := 6, attributes := #[] }] 33 0 #[] #[])
  fields := #[]
  methods := #[k0m0]
  instanceTypes := #[]
  staticTypes := #[]
  resolved := Array.replicate 124 none
  statics := none }

def pool1 : Array CpInfo := pool [(2, .class_ 4), (1, u "java/lang/Object"), (0, u "<init>"), (0, u "()V"), (0, .fieldref 8 9), (0, .class_ 10), (0, .nameAndType 11 12), (0, u "com/example/rialto/rialto/core/movement/WithdrawalStatus"), (0, u "PENDING"), (0, u "Lcom/example/rialto/rialto/core/movement/WithdrawalStatus;"), (0, .fieldref 8 14), (0, .nameAndType 15 12), (0, u "SUCCEEDED"), (0, .fieldref 8 17), (0, .nameAndType 18 12), (0, u "FAILED"), (0, .fieldref 8 20), (0, .nameAndType 21 12), (0, u "RETURNED"), (0, .methodref 23 24), (0, .class_ 25), (0, .nameAndType 26 27), (0, u "com/example/rialto/rialto/core/movement/WithdrawalStatusHasBeenPinLaw"), (0, u "pick"), (0, u "(I)Lcom/example/rialto/rialto/core/movement/WithdrawalStatus;"), (0, .methodref 8 29), (0, .nameAndType 30 31), (0, u "hasBeen"), (0, u "(Lcom/example/rialto/rialto/core/movement/WithdrawalStatus;)Z"), (3, u "law"), (0, u "(II)Z")] 2

def k1m0 : Method := { name := "<init>", desc := "()V", sig := { parameters := [], returnType := none }, accessFlags := 1, code := none }
def k1c1 : Code := { maxStack := 2, maxLocals := 1, code := method_2_code, exceptionTable := #[], attributes := #[] }
def k1m1 : Method := { name := "pick", desc := "(I)Lcom/example/rialto/rialto/core/movement/WithdrawalStatus;", sig := { parameters := [.int], returnType := some (.object "com/example/rialto/rialto/core/movement/WithdrawalStatus") }, accessFlags := 10, code := some k1c1 }
def k1c2 : Code := { maxStack := 2, maxLocals := 5, code := code, exceptionTable := #[], attributes := #[] }
def k1m2 : Method := { name := "law", desc := "(II)Z", sig := { parameters := [.int, .int], returnType := some .boolean }, accessFlags := 9, code := some k1c2 }
/-- com/example/rialto/rialto/core/movement/WithdrawalStatusHasBeenPinLaw -/
def k1 : Class := { plain "com/example/rialto/rialto/core/movement/WithdrawalStatusHasBeenPinLaw" (some 0) with
  accessFlags := 49
  interfaces := #[]
  cf := some (fileOf pool1 23 #[] #[{ accessFlags := 1, nameIndex := 5, descriptorIndex := 6, attributes := #[] }, { accessFlags := 10, nameIndex := 26, descriptorIndex := 27, attributes := #[] }, { accessFlags := 9, nameIndex := 35, descriptorIndex := 36, attributes := #[] }] 49 2 #[] #[])
  fields := #[]
  methods := #[k1m0, k1m1, k1m2]
  instanceTypes := #[]
  staticTypes := #[]
  resolved := Array.replicate 39 none
  statics := none }

def pool2 : Array CpInfo := pool [(1, .class_ 2), (0, u "java/lang/constant/Constable"), (0, .class_ 4), (0, u "java/lang/Object")] 6

/-- java/lang/constant/Constable -/
def k2 : Class := { plain "java/lang/constant/Constable" (some 0) with
  accessFlags := 1537
  interfaces := #[]
  cf := some (fileOf pool2 1 #[] #[] 1537 3 #[] #[])
  fields := #[]
  methods := #[]
  instanceTypes := #[]
  staticTypes := #[]
  resolved := Array.replicate 11 none
  statics := none }

def pool3 : Array CpInfo := pool [(1, .class_ 2), (0, u "java/lang/Comparable"), (0, .class_ 4), (0, u "java/lang/Object")] 7

/-- java/lang/Comparable -/
def k3 : Class := { plain "java/lang/Comparable" (some 0) with
  accessFlags := 1537
  interfaces := #[]
  cf := some (fileOf pool3 1 #[] #[] 1537 3 #[] #[])
  fields := #[]
  methods := #[]
  instanceTypes := #[]
  staticTypes := #[]
  resolved := Array.replicate 12 none
  statics := none }

def pool4 : Array CpInfo := pool [(1, .class_ 2), (0, u "java/io/Serializable"), (0, .class_ 4), (0, u "java/lang/Object")] 2

/-- java/io/Serializable -/
def k4 : Class := { plain "java/io/Serializable" (some 0) with
  accessFlags := 1537
  interfaces := #[]
  cf := some (fileOf pool4 1 #[] #[] 1537 3 #[] #[])
  fields := #[]
  methods := #[]
  instanceTypes := #[]
  staticTypes := #[]
  resolved := Array.replicate 7 none
  statics := none }

def pool5 : Array CpInfo := pool [(2, .class_ 4), (1, u "java/lang/Enum"), (0, u "name"), (0, u "Ljava/lang/String;"), (2, u "ordinal"), (0, u "I"), (1, .class_ 14), (1, u "java/lang/Object"), (4, u "hash"), (86, .class_ 108), (1, u "java/lang/Enum$EnumDesc"), (2, .class_ 112), (0, u "java/lang/constant/Constable"), (0, .class_ 114), (0, u "java/lang/Comparable"), (0, .class_ 116), (0, u "java/io/Serializable")] 87

/-- java/lang/Enum -/
def k5 : Class := { plain "java/lang/Enum" (some 0) with
  accessFlags := 1057
  interfaces := #[2, 3, 4]
  cf := some (fileOf pool5 2 #[.nestMembers #[106]] #[] 1057 12 #[111, 113, 115] #[{ accessFlags := 18, nameIndex := 5, descriptorIndex := 6, attributes := #[] }, { accessFlags := 18, nameIndex := 9, descriptorIndex := 10, attributes := #[] }, { accessFlags := 2, nameIndex := 19, descriptorIndex := 10, attributes := #[] }])
  fields := #[{ name := "name", type := (.object "java/lang/String"), accessFlags := 18, slot := 0, constantValue := 0 }, { name := "ordinal", type := .int, accessFlags := 18, slot := 1, constantValue := 0 }, { name := "hash", type := .int, accessFlags := 2, slot := 2, constantValue := 0 }]
  methods := #[]
  instanceTypes := #[(.object "java/lang/String"), .int, .int]
  staticTypes := #[]
  resolved := Array.replicate 204 none
  statics := none }

def pool6 : Array CpInfo := pool [(1, .class_ 2), (0, u "com/example/rialto/rialto/core/movement/WithdrawalStatus"), (2, u "PENDING"), (0, u "Lcom/example/rialto/rialto/core/movement/WithdrawalStatus;"), (2, u "SUCCEEDED"), (2, u "FAILED"), (2, u "RETURNED"), (2, u "$VALUES"), (0, u "[Lcom/example/rialto/rialto/core/movement/WithdrawalStatus;"), (6, .class_ 28), (1, u "java/lang/Enum"), (6, .fieldref 1 36), (0, .nameAndType 37 6), (0, u "reachedFrom"), (2, u "postingKind"), (0, u "Lcom/example/rialto/rialto/core/PostingKind;"), (75, u "hasBeen"), (0, u "(Lcom/example/rialto/rialto/core/movement/WithdrawalStatus;)Z")] 9

def k6c0 : Code := { maxStack := 2, maxLocals := 4, code := prog_52_method_5_code, exceptionTable := #[], attributes := #[] }
def k6m0 : Method := { name := "hasBeen", desc := "(Lcom/example/rialto/rialto/core/movement/WithdrawalStatus;)Z", sig := { parameters := [(.object "com/example/rialto/rialto/core/movement/WithdrawalStatus")], returnType := some .boolean }, accessFlags := 1, code := some k6c0 }
/-- com/example/rialto/rialto/core/movement/WithdrawalStatus -/
def k6 : Class := { plain "com/example/rialto/rialto/core/movement/WithdrawalStatus" (some 5) with
  accessFlags := 16433
  interfaces := #[]
  cf := some (fileOf pool6 1 #[] #[{ accessFlags := 1, nameIndex := 117, descriptorIndex := 118, attributes := #[] }] 16433 26 #[] #[{ accessFlags := 16409, nameIndex := 5, descriptorIndex := 6, attributes := #[] }, { accessFlags := 16409, nameIndex := 9, descriptorIndex := 6, attributes := #[] }, { accessFlags := 16409, nameIndex := 12, descriptorIndex := 6, attributes := #[] }, { accessFlags := 16409, nameIndex := 15, descriptorIndex := 6, attributes := #[] }, { accessFlags := 18, nameIndex := 37, descriptorIndex := 6, attributes := #[] }, { accessFlags := 18, nameIndex := 40, descriptorIndex := 41, attributes := #[] }, { accessFlags := 4122, nameIndex := 18, descriptorIndex := 19, attributes := #[] }])
  fields := #[{ name := "PENDING", type := (.object "com/example/rialto/rialto/core/movement/WithdrawalStatus"), accessFlags := 16409, slot := 0, constantValue := 0 }, { name := "SUCCEEDED", type := (.object "com/example/rialto/rialto/core/movement/WithdrawalStatus"), accessFlags := 16409, slot := 1, constantValue := 0 }, { name := "FAILED", type := (.object "com/example/rialto/rialto/core/movement/WithdrawalStatus"), accessFlags := 16409, slot := 2, constantValue := 0 }, { name := "RETURNED", type := (.object "com/example/rialto/rialto/core/movement/WithdrawalStatus"), accessFlags := 16409, slot := 3, constantValue := 0 }, { name := "reachedFrom", type := (.object "com/example/rialto/rialto/core/movement/WithdrawalStatus"), accessFlags := 18, slot := 3, constantValue := 0 }, { name := "postingKind", type := (.object "com/example/rialto/rialto/core/PostingKind"), accessFlags := 18, slot := 4, constantValue := 0 }, { name := "$VALUES", type := (.array (.object "com/example/rialto/rialto/core/movement/WithdrawalStatus")), accessFlags := 4122, slot := 4, constantValue := 0 }]
  methods := #[k6m0]
  instanceTypes := #[(.object "java/lang/String"), .int, .int, (.object "com/example/rialto/rialto/core/movement/WithdrawalStatus"), (.object "com/example/rialto/rialto/core/PostingKind")]
  staticTypes := #[(.object "com/example/rialto/rialto/core/movement/WithdrawalStatus"), (.object "com/example/rialto/rialto/core/movement/WithdrawalStatus"), (.object "com/example/rialto/rialto/core/movement/WithdrawalStatus"), (.object "com/example/rialto/rialto/core/movement/WithdrawalStatus"), (.array (.object "com/example/rialto/rialto/core/movement/WithdrawalStatus"))]
  resolved := Array.replicate 128 none
  statics := some 0 }

def pool7 : Array CpInfo := pool [(1, u "java/lang/Cloneable"), (0, .class_ 1), (0, u "java/lang/Object"), (0, .class_ 3)] 3

/-- java/lang/Cloneable -/
def k7 : Class := { plain "java/lang/Cloneable" (some 0) with
  accessFlags := 1537
  interfaces := #[]
  cf := some (fileOf pool7 2 #[] #[] 1537 4 #[] #[])
  fields := #[]
  methods := #[]
  instanceTypes := #[]
  staticTypes := #[]
  resolved := Array.replicate 8 none
  statics := none }

/-- the primitive byte -/
def k8 : Class := { plain "byte" none with kind := .primitive 'B', accessFlags := 0x411 }
/-- [B -/
def k9 : Class := { plain "[B" (some 0) with kind := .array 8 .byte, interfaces := #[7, 4], accessFlags := 1041 }

/-- the primitive int -/
def k10 : Class := { plain "int" none with kind := .primitive 'I', accessFlags := 0x411 }
/-- [I -/
def k11 : Class := { plain "[I" (some 0) with kind := .array 10 .int, interfaces := #[7, 4], accessFlags := 1041 }

def heap : Heap := #[{ cls := 6, slots := #[.ref 1, .ref 2, .ref 3, .ref 4, .null], vm := .statics 6 },
  { cls := 6, slots := #[.null, .int 0, .int 0, .null, .null], vm := .none },
  { cls := 6, slots := #[.null, .int 1, .int 0, .ref 1, .null], vm := .none },
  { cls := 6, slots := #[.null, .int 2, .int 0, .ref 1, .null], vm := .none },
  { cls := 6, slots := #[.null, .int 3, .int 0, .ref 2, .null], vm := .none }]
def classes : Array Class := #[k0, k1, k2, k3, k4, k5, k6, k7, k8, k9, k10, k11]
def interned : List (Array UInt16 × Addr) := []
def slotsUsed : Nat := 25
def theMethod : MethodId := ⟨1, 2⟩
def args0 : Array Value := #[.int 5, .int 6]
def aboutOver (below : List Frame) : State where
  vm := { classes := classes, interned := interned.toArray }
  heap := heap
  slotsUsed := slotsUsed
  threads := #[{ frames := .invoking theMethod args0 :: below }]
def below0 : List Frame := [.native { method := ⟨0, 0⟩, args := #[] }]
def about1 : State := aboutOver below0
def p0 : Program := .bare "" "" ""
def e0 : Env := launch0.env 0 0 0
theorem w_frames : about1.frames = Frame.invoking theMethod args0 :: below0 := rfl
set_option maxRecDepth 65536 in
theorem w_args : argsFit about1.vm theMethod args0 = true := by decide +kernel
set_option maxRecDepth 65536 in
theorem w_heap : heapFits about1 = true := by decide +kernel
set_option maxRecDepth 65536 in
theorem w_runnable : about1.curStatus? = some .runnable := by decide +kernel
set_option maxRecDepth 65536 in
theorem w_alone : about1.alone = true := by decide +kernel
set_option maxRecDepth 65536 in
theorem w_named : about1.methodNamed? x = some theMethod := by decide +kernel
set_option maxRecDepth 65536 in
theorem w_hears : about1.hears theMethod below0 = true := by decide +kernel
set_option maxRecDepth 65536 in
theorem w_ripe : about1.ripe theMethod args0 below0 = true := by decide +kernel
theorem w_running : about1.status = .running := rfl
set_option maxRecDepth 65536 in
theorem w_room : about1.hasRoom e0.platform room_1 = true :=
  launch0.hasRoom_least _ room_1 (by decide +kernel) (by decide +kernel) (by decide +kernel) (by decide +kernel) (by decide +kernel) (by decide +kernel)
theorem allAtoms_all (ts : List Jvm.Cond) (a : Array Jvm.Value) (st : Jvm.State) : (allAtoms ts).before a st = ts.all (fun c => c.before a st) := by
  induction ts with
  | nil => rfl
  | cons c t ih =>
    show (Jvm.Cond.and c (allAtoms t)).before a st = _
    rw [Jvm.Cond.before_and, ih, List.all_cons]
def words1 : List Jvm.Cond := Jvm.Cond.code x code maxLocals ret :: tables_1
/-- a 'code' word, met by the world's own term for the bytes: nothing is compared byte by byte -/
theorem code_word {y : MethodName} {bytes : ByteArray} {mx : Nat} {rt : Option FieldType} {a : Array Value} {s : State} {m : MethodId} {meth : Method} {c : Code} (h1 : s.methodNamed? y = some m) (h2 : s.vm.method? m = some meth) (h3 : meth.code = some c) (h4 : c.code = bytes)
    (h5 : (c.maxLocals == mx && c.exceptionTable.isEmpty && decide (c.maxStack ≤ mostOperands) && decide (meth.sig.returnType = rt) && !meth.locks && decide (parseMethodDescriptor y.desc = some meth.sig)) = true) : (Jvm.Cond.code y bytes mx rt).before a s = true := by
  simp only [Bool.and_eq_true, beq_iff_eq, Bool.not_eq_true', decide_eq_true_eq] at h5
  obtain ⟨⟨⟨⟨⟨g1, g2⟩, g3⟩, g4⟩, g5⟩, g6⟩ := h5
  simp [Cond.before, Cond.holds, Cond.value, h1, h2, h3, h4, g1, g2, g3, g4, g5, g6]
def isCode : Jvm.Cond → Bool
  | .code _ _ _ _ => true
  | _ => false
theorem all_split {L : List Jvm.Cond} {P : Jvm.Cond → Bool} (h1 : L.all (fun c => isCode c || P c) = true) (h2 : ∀ c ∈ L.filter isCode, P c = true) : L.all P = true := by
  refine List.all_eq_true.mpr fun c hc => ?_
  have h := List.all_eq_true.mp h1 c hc
  rcases Bool.eq_false_or_eq_true (isCode c) with hi | hi
  · exact h2 c (List.mem_filter.mpr ⟨hc, hi⟩)
  · simpa [hi] using h
set_option maxRecDepth 65536 in
theorem w_c0 : (Jvm.Cond.code x code maxLocals ret).before args0 about1 = true := code_word (m := ⟨1, 2⟩) (meth := k1m2) (c := k1c2) (by decide +kernel) rfl rfl rfl (by decide +kernel)
set_option maxRecDepth 65536 in
theorem w_c1 : (Jvm.Cond.code ({ cls := "com/example/rialto/rialto/core/movement/WithdrawalStatusHasBeenPinLaw", name := "pick", desc := "(I)Lcom/example/rialto/rialto/core/movement/WithdrawalStatus;" } : Jvm.MethodName) method_2_code (1 : Nat) (Option.some (Jvm.ClassFile.FieldType.object "com/example/rialto/rialto/core/movement/WithdrawalStatus"))).before args0 about1 = true := code_word (m := ⟨1, 1⟩) (meth := k1m1) (c := k1c1) (by decide +kernel) rfl rfl rfl (by decide +kernel)
set_option maxRecDepth 65536 in
theorem w_c2 : (Jvm.Cond.code ({ cls := "com/example/rialto/rialto/core/movement/WithdrawalStatus", name := "hasBeen", desc := "(Lcom/example/rialto/rialto/core/movement/WithdrawalStatus;)Z" } : Jvm.MethodName) prog_52_method_5_code (4 : Nat) (Option.some Jvm.ClassFile.FieldType.boolean)).before args0 about1 = true := code_word (m := ⟨6, 0⟩) (meth := k6m0) (c := k6c0) (by decide +kernel) rfl rfl rfl (by decide +kernel)
def codes1 : List Jvm.Cond := [Jvm.Cond.code x code maxLocals ret, Jvm.Cond.code ({ cls := "com/example/rialto/rialto/core/movement/WithdrawalStatusHasBeenPinLaw", name := "pick", desc := "(I)Lcom/example/rialto/rialto/core/movement/WithdrawalStatus;" } : Jvm.MethodName) method_2_code (1 : Nat) (Option.some (Jvm.ClassFile.FieldType.object "com/example/rialto/rialto/core/movement/WithdrawalStatus")), Jvm.Cond.code ({ cls := "com/example/rialto/rialto/core/movement/WithdrawalStatus", name := "hasBeen", desc := "(Lcom/example/rialto/rialto/core/movement/WithdrawalStatus;)Z" } : Jvm.MethodName) prog_52_method_5_code (4 : Nat) (Option.some Jvm.ClassFile.FieldType.boolean)]
set_option maxRecDepth 65536 in
theorem codes_eq : words1.filter isCode = codes1 := rfl
theorem w_codes : ∀ c ∈ words1.filter isCode, c.before args0 about1 = true := by
  rw [codes_eq]
  intro c hc
  simp only [codes1, List.mem_cons, List.not_mem_nil, or_false] at hc
  rcases hc with rfl | rfl | rfl
  · exact w_c0
  · exact w_c1
  · exact w_c2
set_option maxRecDepth 65536 in
theorem w_t1 : words1.all (fun c => isCode c || c.before args0 about1) = true := by decide +kernel
theorem w_tables : (allAtoms (Jvm.Cond.code x code maxLocals ret :: tables_1)).before args0 about1 = true := by
  rw [allAtoms_all]
  show words1.all (fun c => c.before args0 about1) = true
  refine all_split ?_ w_codes
  rw [w_t1]
set_option maxRecDepth 65536 in
theorem w_case : (Jvm.Cond.and given_1 narrow_1).before args0 about1 = true := by decide +kernel
theorem w_applies : (headSpec (Jvm.Cond.code x code maxLocals ret :: tables_1) room_1).applies x e0.platform about1 = true :=
  (Spec.applies_iff w_frames).mpr ⟨w_running, w_runnable, w_alone, w_named, w_hears, w_ripe, w_room, w_tables⟩
theorem atStart : AtStart classFile x code maxLocals ret World_1 tables_1 room_1 Calls_1 rest_1 Pre_1 launch0 p0 e0 about1 theMethod args0 below0 :=
  ⟨lists_1, trivial, launch0.admits_env _ _ _, launch0.least_env, fairChoices_fair.cas, fairChoices_fair.clock, w_frames, w_args, w_heap, w_applies, trivial, trivial, w_case⟩
end start1
theorem witness_1 : WitnessClaimed_1 := ⟨start1.p0, start1.e0, start1.about1, start1.theMethod, start1.args0, start1.below0, start1.atStart⟩
end Jvm.Pilot.@@N@@
