import JvmDerived
import JvmDerived.Pilot.@@N@@Statement
import JvmDerived.Pilot.@@N@@Code
set_option linter.unusedVariables false
set_option linter.unusedSimpArgs false
namespace Jvm.RoadKit
open Sem ClassFile Op Lib Jvm.Stand Jvm.Free Jvm.LawKit
section New
variable {p : Program} {l : Launch} {e : Env} {R : Room} {s : State} {m : MethodId} {args : Array Value} {below : List Frame} {meth : Method} {c : Code} {T : State} {locs : List Loc} {cells slots : Nat}
theorem retI (X : Stand p l e R s m args below meth c T locs cells slots) (hx : p.tables.exec = Jvm.exec) {pc : Nat} {Ls : Array Slot} {z : Int32} {rest : List Value} (hret : meth.sig.returnType = some .int) (hd : decode c.code pc = .ok (.ireturn, 1)) {fs : List Frame}
    (hl : ∀ (f : JFrame) (acts : List Action), f.method = m → f.locked = none → f.entered = [] → (doReturn e (T.setTop f) acts (some (.int z))).1 = T.setFrames fs) : Steps p.tables e below (T.setTop (mkF m pc Ls (.int z :: rest))) (T.setFrames fs) := by
  have hm' : T.vm.method? m = some meth := X.method'
  have hn : narrow .int (.int z) = .int z := rfl
  show Steps p.tables e below (T.setTop { method := m, pc := pc, locals := Ls, stack := _ :: rest, locked := none }) _
  jvm_step X.here [X.here.top, hx, hd, hm', hret, hn]
  first | (intro acts; rw [hl _ acts rfl rfl rfl]) | rw [hl _ _ rfl rfl rfl]
  exact Steps.refl _
end New
end Jvm.RoadKit
namespace Jvm.Pilot.@@N@@
open Jvm Jvm.ClassFile Sem Op Lib Jvm.Free Jvm.Stand Jvm.LawKit Jvm.RoadKit Bundle Jvm.Pilot.@@N@@.Jvm.D
-- from the state st the run ends, and Q holds of what it leaves
def GoalS (tb : Tables) (e : Env) (below : List Frame) (s : State) (kc ks : Nat) (Q : Option Value → Heap → List Loc → Prop) (st : State) : Prop :=
  ∃ s₂ o, Steps tb e below st s₂ ∧ s₂.status = .running ∧ Ended s₂ below o ∧ ∃ v L, o = .returned v ∧ Q v s₂.heap L ∧ FrameEnd s o s₂ L kc ks
theorem GoalS.lift {tb : Tables} {e : Env} {below : List Frame} {s : State} {kc ks : Nat} {Q : Option Value → Heap → List Loc → Prop} {A B : State}
    (h : ∀ t, Steps tb e below B t → Steps tb e below A t) (g : GoalS tb e below s kc ks Q B) : GoalS tb e below s kc ks Q A := by
  obtain ⟨s₂, o, h1, h2⟩ := g
  exact ⟨s₂, o, h _ h1, h2⟩
-- an array of n places of which place i holds f i
def AV (Z : State) (h : Heap) (a : Addr) (k : ClassId) (ty : FieldType) (n : Nat) (f : Nat → Value) : Prop := ∃ c : Cell, Arr Z h a c ty ∧ c.cls = k ∧ c.slots.size = n ∧ n < 2147483648 ∧ ∀ i, i < n → c.slots[i]? = some (f i)
def updI (f : Nat → Int32) (j : Nat) (v : Int32) : Nat → Int32 := fun i => if i = j then v else f i
def updJ (f : Nat → Int64) (j : Nat) (v : Int64) : Nat → Int64 := fun i => if i = j then v else f i
def updR (f : Nat → Value) (j : Nat) (v : Value) : Nat → Value := fun i => if i = j then v else f i
section Own
variable {Z : State} {h h' : Heap} {a b : Addr} {k : ClassId} {ty : FieldType} {n : Nat} {f g : Nat → Value} {ws : List Addr} {v : Value} {sl : Nat}
theorem AV.lt (F : AV Z h a k ty n f) : a < h.size := by obtain ⟨c, A, -⟩ := F; exact A.lt
theorem AV.ext (F : AV Z h a k ty n f) (E : Ext h h') : AV Z h' a k ty n f := by obtain ⟨c, A, r⟩ := F; exact ⟨c, A.ext E, r⟩
theorem AV.other (F : AV Z h b k ty n f) (W : Wr h h' a sl v) (q : b ≠ a) : AV Z h' b k ty n f := by obtain ⟨c, A, r⟩ := F; exact ⟨c, A.other W q, r⟩
theorem AV.keep (F : AV Z h a k ty n f) (K : Keep h h' ws) (q : a ∉ ws) : AV Z h' a k ty n f := by obtain ⟨c, A, r⟩ := F; exact ⟨c, ⟨K.2.1 a c A.1 q, A.2⟩, r⟩
theorem AV.new {z : Int32} (A : Arr Z h a (newA k ty z) ty) (q : ¬ z < 0) (hn : z.toNatClampNeg = n) (hb : n < 2147483648) : AV Z h a k ty n (fun _ => defaultValue ty) :=
  ⟨_, A, rfl, (sz_new _ _ _).trans hn, hb, fun i hi => by simp [newA, hn, hi]⟩
theorem AV.inb {c : Cell} {j : Int32} (S : c.slots.size = n) (q : ¬ j < 0 ∧ j.toNatClampNeg < n) : ¬ (j < 0 ∨ c.slots.size ≤ j.toNatClampNeg) := fun u => u.elim q.1 fun w => by omega
theorem AV.inx {j : Int32} (q : ¬ j < 0 ∧ j.toNatClampNeg < n) : j.toNatClampNeg < n := q.2
theorem AV.conv (F : AV Z h a k ty n f) (e : ∀ i, i < n → f i = g i) : AV Z h a k ty n g := by
  obtain ⟨c, A, r1, r2, r3, r4⟩ := F; exact ⟨c, A, r1, r2, r3, fun i hi => (r4 i hi).trans (congrArg some (e i hi))⟩
theorem AV.putR {j : Nat} (F : AV Z h a k ty n f) (W : Wr h h' a j v) (hj : j < n) : AV Z h' a k ty n (updR f j v) := by
  obtain ⟨c, A, r1, r2, r3, r4⟩ := F
  refine ⟨_, A.same W, r1, (sz_set _ _ _).trans r2, r3, fun i hi => ?_⟩
  by_cases q : i = j
  · subst q; simp [Cell.setSlot, updR, r2, hi]
  · have q' : j ≠ i := fun u => q u.symm
    simp only [Cell.setSlot, updR, if_neg q]; rw [Array.getElem?_setIfInBounds_ne q']; exact r4 i hi
theorem AV.putI {j : Nat} {f : Nat → Int32} {v : Int32} (F : AV Z h a k ty n (fun i => Value.int (f i))) (W : Wr h h' a j (.int v)) (hj : j < n) : AV Z h' a k ty n (fun i => Value.int (updI f j v i)) :=
  (F.putR W hj).conv fun i _ => by simp only [updR, updI]; split <;> rfl
theorem AV.putJ {j : Nat} {f : Nat → Int64} {v : Int64} (F : AV Z h a k ty n (fun i => Value.long (f i))) (W : Wr h h' a j (.long v)) (hj : j < n) : AV Z h' a k ty n (fun i => Value.long (updJ f j v i)) :=
  (F.putR W hj).conv fun i _ => by simp only [updR, updJ]; split <;> rfl
end Own


def own_sh (z : Int64) (k : Int32) : Int64 := ((z).toUInt64 >>> (k &&& 0x3f).toInt64.toUInt64).toInt64
def own_m1 (z : Int64) : Int64 := (z ^^^ own_sh z 30) * (-4658895280553007687 : Int64)
def own_m2 (z : Int64) : Int64 := (z ^^^ own_sh z 27) * (-7723592293110705685 : Int64)
def own_m3 (z : Int64) : Int64 := z ^^^ own_sh z 31
def own_mix (z : Int64) : Int64 := own_m3 (own_m2 (own_m1 z))


def own_it (m x : Int64) : Int64 := x * ((2 : Int64) - m * x)
def own_inv (m : Int64) : Int64 := own_it m (own_it m (own_it m (own_it m (own_it m m))))
def own_u (z : Int64) (a b : Int32) : Int64 := (z ^^^ own_sh z a) ^^^ own_sh z b
def own_un (z : Int64) : Int64 := own_u (own_u (own_u z 31 62 * own_inv (-7723592293110705685 : Int64)) 27 54 * own_inv (-4658895280553007687 : Int64)) 30 60
theorem own_sh_bv (z : Int64) (k : Int32) (n : Nat) (h : ((k &&& 0x3f).toInt64.toUInt64).toBitVec % 64#64 = BitVec.ofNat 64 n) (hn : n < 64) : (own_sh z k).toBitVec = z.toBitVec >>> n := by
  show (z.toUInt64 >>> (k &&& 0x3f).toInt64.toUInt64).toBitVec = _
  have h' : ((k &&& 0x3f).toInt64.toUInt64).toBitVec % 64 = BitVec.ofNat 64 n := h
  rw [UInt64.toBitVec_shiftRight, h']
  show z.toBitVec >>> (BitVec.ofNat 64 n) = _
  rw [BitVec.ushiftRight_eq', BitVec.toNat_ofNat, Nat.mod_eq_of_lt (by omega)]
theorem own_back (x : BitVec 64) (s : Nat) (hs : 22 ≤ s) : ((x ^^^ (x >>> s)) ^^^ ((x ^^^ (x >>> s)) >>> s)) ^^^ ((x ^^^ (x >>> s)) >>> (2 * s)) = x := by
  apply BitVec.eq_of_getLsbD_eq
  intro i hi
  simp only [BitVec.getLsbD_xor, BitVec.getLsbD_ushiftRight]
  have h1 : x.getLsbD (s + (2 * s + i)) = false := BitVec.getLsbD_of_ge _ _ (by omega)
  have h2 : s + (s + i) = 2 * s + i := by omega
  rw [h1, h2]
  cases x.getLsbD i <;> cases x.getLsbD (s + i) <;> cases x.getLsbD (2 * s + i) <;> rfl
theorem own_inv1 : (-7723592293110705685 : Int64) * own_inv (-7723592293110705685 : Int64) = 1 := by decide +kernel
theorem own_inv2 : (-4658895280553007687 : Int64) * own_inv (-4658895280553007687 : Int64) = 1 := by decide +kernel
theorem own_ub (x : Int64) (a b : Int32) (s : Nat) (h1 : ((a &&& 0x3f).toInt64.toUInt64).toBitVec % 64#64 = BitVec.ofNat 64 s) (h2 : ((b &&& 0x3f).toInt64.toUInt64).toBitVec % 64#64 = BitVec.ofNat 64 (2 * s)) (hs : 22 ≤ s) (hs' : 2 * s < 64) : own_u (x ^^^ own_sh x a) a b = x := by
  apply Int64.toBitVec_inj.mp
  rw [own_u, Int64.toBitVec_xor, Int64.toBitVec_xor, own_sh_bv _ a s h1 (by omega), own_sh_bv _ b (2 * s) h2 hs', Int64.toBitVec_xor, own_sh_bv _ a s h1 (by omega)]
  exact own_back _ s hs
theorem own_law (s : Int64) : own_un (own_mix s) = s := by
  rw [own_un, own_mix, own_m3, own_ub _ 31 62 31 (by decide) (by decide) (by omega) (by omega), own_m2, Int64.mul_assoc, own_inv1, Int64.mul_one, own_ub _ 27 54 27 (by decide) (by decide) (by omega) (by omega), own_m1, Int64.mul_assoc, own_inv2, Int64.mul_one, own_ub _ 30 60 30 (by decide) (by decide) (by omega) (by omega)]

theorem d1_0 : decode prog_4_method_1_code 0 = .ok (.aload_n 0, 1) := by decide +kernel
theorem d1_1 : decode prog_4_method_1_code 1 = .ok (.invokespecial 1, 3) := by decide +kernel
theorem d1_4 : decode prog_4_method_1_code 4 = .ok (.aload_n 0, 1) := by decide +kernel
theorem d1_5 : decode prog_4_method_1_code 5 = .ok (.lload_n 1, 1) := by decide +kernel
theorem d1_6 : decode prog_4_method_1_code 6 = .ok (.putfield 7, 3) := by decide +kernel
theorem d1_9 : decode prog_4_method_1_code 9 = .ok (.return_, 1) := by decide +kernel
theorem pn_0 : plainName "com/example/pipstill/pipstill/Dice" = true := by first | (simp [plainName, overriddenIn]; done) | decide +kernel
theorem ef_rm1 (m : MethodId) (a1 : Addr) (q2 : Int64) : entryFrame m #[(.ref a1), (.long q2)] 3 = mkF m 0 #[.val (.ref a1), .val (.long q2), .second] [] := by first | (simp [entryFrame, mkF, argsToLocals, Value.category]; done) | rfl
def Q1 (Z : State) (a1 : Addr) (q2 : Int64) (u_state : Value) (h0 : Heap) (n0 : Nat) (v : Option Value) (h : Heap) (L : List Loc) : Prop := v = none ∧ Fr n0 L ∧ Keep h0 h [a1] ∧ (Exa Z h a1 "com/example/pipstill/pipstill/Dice") ∧ (Fld Z h a1 "com/example/pipstill/pipstill/Dice" "state" "J" (.long q2))
set_option maxRecDepth 65536 in
set_option maxHeartbeats 40000000 in
theorem rm1 (l : Launch) (Z : State) (a0 : Array Value) (hw : ∀ d ∈ tables_1, d.before a0 Z = true) (ws : List Jvm.Cond) (a1 : Addr) (q2 : Int64) (u_state : Value) (h0 : Heap) (n0 : Nat) (Z0 : n0 ≤ h0.size) (E_a1 : Exa Z h0 a1 "com/example/pipstill/pipstill/Dice") (g_a1 : n0 ≤ a1) (F_state_a1 : Fld Z h0 a1 "com/example/pipstill/pipstill/Dice" "state" "J" u_state) :
    MetFree l (⟨"com/example/pipstill/pipstill/Dice", "<init>", "(J)V"⟩ : MethodName) (head1 (Jvm.Cond.code (⟨"com/example/pipstill/pipstill/Dice", "<init>", "(J)V"⟩ : MethodName) prog_4_method_1_code 3 none :: ws) ({ frames := 1, cells := 0, slots := 0, locals := 12 } : Room)) (fun a U => a = #[(.ref a1), (.long q2)] ∧ Z.Warmed39 U.vm ∧ U.heap = h0) (fun _ _ _ _ _ => True) (fun _ U o U' => ∃ v L, o = .returned v ∧ Q1 Z a1 q2 u_state h0 n0 v U'.heap L ∧ FrameEnd U o U' L ({ frames := 1, cells := 0, slots := 0, locals := 12 } : Room).cells ({ frames := 1, cells := 0, slots := 0, locals := 12 } : Room).slots) := by
  refine MetFree.of_bodySF (plainFor_of_name pn_0) hisR ?_
  intro p e s m args below meth c s₁ Bd hml0 hP hK
  obtain ⟨rfl, hZ, hh⟩ := hP
  have hx := Bd.exec
  have hby := Bd.bytes
  have hml : c.maxLocals = 3 := hml0
  have hown : s.vm.findClass "com/example/pipstill/pipstill/Dice" = some m.cls := findClass_of_methodNamed Bd.named
  have hnm := (name_of_methodNamed Bd.named Bd.method).1
  have X0 : Stand p l e ({ frames := 1, cells := 0, slots := 0, locals := 12 } : Room) s m #[(.ref a1), (.long q2)] below meth c s₁ [] 0 0 := Stand.of_body Bd
  have e0 : s₁.heap = h0 := by rw [← hh, Bd.state]; rfl
  have N0 := Fr.nil n0
  show GoalS p.tables e below s ({ frames := 1, cells := 0, slots := 0, locals := 12 } : Room).cells ({ frames := 1, cells := 0, slots := 0, locals := 12 } : Room).slots (Q1 Z a1 q2 u_state h0 n0) (s₁.setTop (entryFrame m #[(.ref a1), (.long q2)] 3))
  refine GoalS.lift (B := s₁.setTop (mkF m 0 #[.val (.ref a1), .val (.long q2), .second] [])) (fun t k => castTop (ef_rm1 m a1 q2) k) ?_
  have K0 : Keep h0 h0 [a1] := Keep.refl _ _
  obtain ⟨T1, X1, e1, st1⟩ := initO X0 hx hZ hown (hw _ (List.mem_of_getElem? (i := 6) rfl)) (hw _ (List.mem_of_getElem? (i := 7) rfl)) (hw _ (List.mem_of_getElem? (i := 8) rfl)) e0 (g := (mkF m 1 #[.val (.ref a1), .val (.long q2), .second] [(.ref a1)])) rfl (by rw [hml]; rfl) rfl (hb hby d1_1) (by decide) (W := 0) (by show 2 * 0 + _ ≤ _; exact Nat.le_of_eq rfl) (by decide)
  obtain ⟨T2, h2, X2, e2, W2, st2⟩ := putF X1 hx hZ hown (host := "") (Or.inl (hw _ (List.mem_of_getElem? (i := 9) rfl))) Via.refl e1 F_state_a1 E_a1 (Or.inl (hw _ (List.mem_of_getElem? (i := 10) rfl))) (hw _ (List.mem_of_getElem? (i := 1) rfl)) (ty := .long) (by decide) rfl rfl (g := (mkF m 6 #[.val (.ref a1), .val (.long q2), .second] [(.long q2), (.ref a1)])) rfl rfl (hb hby d1_6)
  have z3 : n0 ≤ h2.size := Nat.le_trans Z0 (Keep.of_wr W2).1
  have K4 : Keep h0 h2 [a1] := K0.wr W2 (Or.inl (List.mem_of_getElem? (i := 0) rfl))
  have Fw2 : Fld Z h2 a1 "com/example/pipstill/pipstill/Dice" "state" "J" (.long q2) := F_state_a1.same W2
  have N2 := Fr.snoc X2 N0 g_a1
  obtain ⟨fs, hr, hrun, hended, hW, hsame⟩ := X2.leave (v := none) (fun _ => rfl)
  refine ⟨_, _, ?_, hrun, hended, _, _, rfl, ?_, ⟨_, rfl⟩, hW, hsame.mono (by decide) (by decide)⟩
  · show Steps p.tables e below (s₁.setTop (mkF m 0 #[.val (.ref a1), .val (.long q2), .second] [])) _
    refine XS.aloadN X0.here hx rfl (hb hby d1_0) rfl rfl ?_
    show Steps p.tables e below (s₁.setTop (mkF m 1 #[.val (.ref a1), .val (.long q2), .second] [(.ref a1)])) _
    refine st1 _ ?_
    show Steps p.tables e below (T1.setTop (mkF m 4 #[.val (.ref a1), .val (.long q2), .second] [])) _
    refine XS.aloadN X1.here hx rfl (hb hby d1_4) rfl rfl ?_
    show Steps p.tables e below (T1.setTop (mkF m 5 #[.val (.ref a1), .val (.long q2), .second] [(.ref a1)])) _
    refine XS.lloadN X1.here hx rfl (hb hby d1_5) rfl ?_
    show Steps p.tables e below (T1.setTop (mkF m 6 #[.val (.ref a1), .val (.long q2), .second] [(.long q2), (.ref a1)])) _
    refine st2 _ ?_
    show Steps p.tables e below (T2.setTop (mkF m 9 #[.val (.ref a1), .val (.long q2), .second] [])) _
    exact X2.returnOut hx Bd.returns (hb hby d1_9) hr
  · have f5 : Exa Z h2 a1 "com/example/pipstill/pipstill/Dice" := (E_a1.wr W2)
    show Q1 Z a1 q2 u_state h0 n0 _ T2.heap _
    rw [e2]
    exact ⟨rfl, N2, K4, f5, Fw2⟩
theorem d3_0 : decode prog_4_method_2_code 0 = .ok (.aload_n 0, 1) := by decide +kernel
theorem d3_1 : decode prog_4_method_2_code 1 = .ok (.dup, 1) := by decide +kernel
theorem d3_2 : decode prog_4_method_2_code 2 = .ok (.getfield 7, 3) := by decide +kernel
theorem d3_5 : decode prog_4_method_2_code 5 = .ok (.ldc2_w 13, 3) := by decide +kernel
theorem d3_8 : decode prog_4_method_2_code 8 = .ok (.ladd, 1) := by decide +kernel
theorem d3_9 : decode prog_4_method_2_code 9 = .ok (.putfield 7, 3) := by decide +kernel
theorem d3_12 : decode prog_4_method_2_code 12 = .ok (.aload_n 0, 1) := by decide +kernel
theorem d3_13 : decode prog_4_method_2_code 13 = .ok (.getfield 7, 3) := by decide +kernel
theorem d3_16 : decode prog_4_method_2_code 16 = .ok (.lstore_n 1, 1) := by decide +kernel
theorem d3_17 : decode prog_4_method_2_code 17 = .ok (.lload_n 1, 1) := by decide +kernel
theorem d3_18 : decode prog_4_method_2_code 18 = .ok (.lload_n 1, 1) := by decide +kernel
theorem d3_19 : decode prog_4_method_2_code 19 = .ok (.bipush 30, 2) := by decide +kernel
theorem d3_21 : decode prog_4_method_2_code 21 = .ok (.lushr, 1) := by decide +kernel
theorem d3_22 : decode prog_4_method_2_code 22 = .ok (.lxor, 1) := by decide +kernel
theorem d3_23 : decode prog_4_method_2_code 23 = .ok (.ldc2_w 15, 3) := by decide +kernel
theorem d3_26 : decode prog_4_method_2_code 26 = .ok (.lmul, 1) := by decide +kernel
theorem d3_27 : decode prog_4_method_2_code 27 = .ok (.lstore_n 1, 1) := by decide +kernel
theorem d3_28 : decode prog_4_method_2_code 28 = .ok (.lload_n 1, 1) := by decide +kernel
theorem d3_29 : decode prog_4_method_2_code 29 = .ok (.lload_n 1, 1) := by decide +kernel
theorem d3_30 : decode prog_4_method_2_code 30 = .ok (.bipush 27, 2) := by decide +kernel
theorem d3_32 : decode prog_4_method_2_code 32 = .ok (.lushr, 1) := by decide +kernel
theorem d3_33 : decode prog_4_method_2_code 33 = .ok (.lxor, 1) := by decide +kernel
theorem d3_34 : decode prog_4_method_2_code 34 = .ok (.ldc2_w 17, 3) := by decide +kernel
theorem d3_37 : decode prog_4_method_2_code 37 = .ok (.lmul, 1) := by decide +kernel
theorem d3_38 : decode prog_4_method_2_code 38 = .ok (.lstore_n 1, 1) := by decide +kernel
theorem d3_39 : decode prog_4_method_2_code 39 = .ok (.lload_n 1, 1) := by decide +kernel
theorem d3_40 : decode prog_4_method_2_code 40 = .ok (.lload_n 1, 1) := by decide +kernel
theorem d3_41 : decode prog_4_method_2_code 41 = .ok (.bipush 31, 2) := by decide +kernel
theorem d3_43 : decode prog_4_method_2_code 43 = .ok (.lushr, 1) := by decide +kernel
theorem d3_44 : decode prog_4_method_2_code 44 = .ok (.lxor, 1) := by decide +kernel
theorem d3_45 : decode prog_4_method_2_code 45 = .ok (.lreturn, 1) := by decide +kernel
theorem ef_rm3 (m : MethodId) (a1 : Addr) : entryFrame m #[(.ref a1)] 3 = mkF m 0 #[.val (.ref a1), .unset, .unset] [] := by first | (simp [entryFrame, mkF, argsToLocals, Value.category]; done) | rfl
def Q3 (Z : State) (a1 : Addr) (w : Int64) (h0 : Heap) (n0 : Nat) (v : Option Value) (h : Heap) (L : List Loc) : Prop := ∃ r : Int64, v = some (.long r) ∧ r = own_mix (w + (-7046029254386353131 : Int64)) ∧ Fr n0 L ∧ Keep h0 h [a1] ∧ (Exa Z h a1 "com/example/pipstill/pipstill/Dice") ∧ (Fld Z h a1 "com/example/pipstill/pipstill/Dice" "state" "J" (.long (w + (-7046029254386353131 : Int64))))
set_option maxRecDepth 65536 in
set_option maxHeartbeats 40000000 in
theorem rm3 (l : Launch) (Z : State) (a0 : Array Value) (hw : ∀ d ∈ tables_1, d.before a0 Z = true) (ws : List Jvm.Cond) (a1 : Addr) (w : Int64) (h0 : Heap) (n0 : Nat) (Z0 : n0 ≤ h0.size) (E_a1 : Exa Z h0 a1 "com/example/pipstill/pipstill/Dice") (g_a1 : n0 ≤ a1) (F_state_a1 : Fld Z h0 a1 "com/example/pipstill/pipstill/Dice" "state" "J" (.long w)) :
    MetFree l (⟨"com/example/pipstill/pipstill/Dice", "nextLong", "()J"⟩ : MethodName) (head1 (Jvm.Cond.code (⟨"com/example/pipstill/pipstill/Dice", "nextLong", "()J"⟩ : MethodName) prog_4_method_2_code 3 (some .long) :: ws) ({ frames := 0, cells := 0, slots := 0, locals := 0 } : Room)) (fun a U => a = #[(.ref a1)] ∧ Z.Warmed39 U.vm ∧ U.heap = h0) (fun _ _ _ _ _ => True) (fun _ U o U' => ∃ v L, o = .returned v ∧ Q3 Z a1 w h0 n0 v U'.heap L ∧ FrameEnd U o U' L ({ frames := 0, cells := 0, slots := 0, locals := 0 } : Room).cells ({ frames := 0, cells := 0, slots := 0, locals := 0 } : Room).slots) := by
  refine MetFree.of_bodySF (plainFor_of_name pn_0) hisR ?_
  intro p e s m args below meth c s₁ Bd hml0 hP hK
  obtain ⟨rfl, hZ, hh⟩ := hP
  have hx := Bd.exec
  have hby := Bd.bytes
  have hml : c.maxLocals = 3 := hml0
  have hown : s.vm.findClass "com/example/pipstill/pipstill/Dice" = some m.cls := findClass_of_methodNamed Bd.named
  have hnm := (name_of_methodNamed Bd.named Bd.method).1
  have X0 : Stand p l e ({ frames := 0, cells := 0, slots := 0, locals := 0 } : Room) s m #[(.ref a1)] below meth c s₁ [] 0 0 := Stand.of_body Bd
  have e0 : s₁.heap = h0 := by rw [← hh, Bd.state]; rfl
  have N0 := Fr.nil n0
  show GoalS p.tables e below s ({ frames := 0, cells := 0, slots := 0, locals := 0 } : Room).cells ({ frames := 0, cells := 0, slots := 0, locals := 0 } : Room).slots (Q3 Z a1 w h0 n0) (s₁.setTop (entryFrame m #[(.ref a1)] 3))
  refine GoalS.lift (B := s₁.setTop (mkF m 0 #[.val (.ref a1), .unset, .unset] [])) (fun t k => castTop (ef_rm3 m a1) k) ?_
  have K0 : Keep h0 h0 [a1] := Keep.refl _ _
  obtain ⟨T1, X1, e1, st1⟩ := getF X0 hx hZ hown (host := "") (Or.inl (hw _ (List.mem_of_getElem? (i := 9) rfl))) Via.refl e0 F_state_a1 (g := (mkF m 2 #[.val (.ref a1), .unset, .unset] [(.ref a1), (.ref a1)])) rfl rfl (hb hby d3_2)
  obtain ⟨T2, h2, X2, e2, W2, st2⟩ := putF X1 hx hZ hown (host := "") (Or.inl (hw _ (List.mem_of_getElem? (i := 9) rfl))) Via.refl e1 F_state_a1 E_a1 (Or.inl (hw _ (List.mem_of_getElem? (i := 10) rfl))) (hw _ (List.mem_of_getElem? (i := 1) rfl)) (ty := .long) (by decide) rfl rfl (g := (mkF m 9 #[.val (.ref a1), .unset, .unset] [(.long (w + (-7046029254386353131 : Int64))), (.ref a1)])) rfl rfl (hb hby d3_9)
  have z3 : n0 ≤ h2.size := Nat.le_trans Z0 (Keep.of_wr W2).1
  have K4 : Keep h0 h2 [a1] := K0.wr W2 (Or.inl (List.mem_of_getElem? (i := 0) rfl))
  have Fw2 : Fld Z h2 a1 "com/example/pipstill/pipstill/Dice" "state" "J" (.long (w + (-7046029254386353131 : Int64))) := F_state_a1.same W2
  have N2 := Fr.snoc X2 N0 g_a1
  obtain ⟨T5, X5, e5, st5⟩ := getF X2 hx hZ hown (host := "") (Or.inl (hw _ (List.mem_of_getElem? (i := 9) rfl))) Via.refl e2 Fw2 (g := (mkF m 13 #[.val (.ref a1), .unset, .unset] [(.ref a1)])) rfl rfl (hb hby d3_13)
  obtain ⟨z1, hz1⟩ : ∃ z : Int64, z = (((w + (-7046029254386353131 : Int64)) ^^^ ((((w + (-7046029254386353131 : Int64))).toUInt64 >>> ((30 : Int32) &&& 0x3f).toInt64.toUInt64).toInt64)) * (-4658895280553007687 : Int64)) := ⟨_, rfl⟩
  refine GoalS.lift (B := (T5.setTop (mkF m 27 #[.val (.ref a1), .val (.long (w + (-7046029254386353131 : Int64))), .second] [(.long z1)]))) (fun t k => ?_) ?_
  · show Steps p.tables e below (s₁.setTop (mkF m 0 #[.val (.ref a1), .unset, .unset] [])) _
    refine XS.aloadN X0.here hx rfl (hb hby d3_0) rfl rfl ?_
    show Steps p.tables e below (s₁.setTop (mkF m 1 #[.val (.ref a1), .unset, .unset] [(.ref a1)])) _
    refine XS.dup X0.here hx rfl (hb hby d3_1) rfl rfl ?_
    show Steps p.tables e below (s₁.setTop (mkF m 2 #[.val (.ref a1), .unset, .unset] [(.ref a1), (.ref a1)])) _
    refine st1 _ ?_
    show Steps p.tables e below (T1.setTop (mkF m 5 #[.val (.ref a1), .unset, .unset] [(.long w), (.ref a1)])) _
    refine X1.ldc2Long hx hown (mvT hZ (hw _ (List.mem_of_getElem? (i := 16) rfl))) (g := (mkF m 5 #[.val (.ref a1), .unset, .unset] [(.long w), (.ref a1)])) rfl (hb hby d3_5) _ ?_
    show Steps p.tables e below (T1.setTop (mkF m 8 #[.val (.ref a1), .unset, .unset] [(.long (-7046029254386353131 : Int64)), (.long w), (.ref a1)])) _
    refine XS.ladd X1.here hx rfl (hb hby d3_8) rfl ?_
    show Steps p.tables e below (T1.setTop (mkF m 9 #[.val (.ref a1), .unset, .unset] [(.long (w + (-7046029254386353131 : Int64))), (.ref a1)])) _
    refine st2 _ ?_
    show Steps p.tables e below (T2.setTop (mkF m 12 #[.val (.ref a1), .unset, .unset] [])) _
    refine XS.aloadN X2.here hx rfl (hb hby d3_12) rfl rfl ?_
    show Steps p.tables e below (T2.setTop (mkF m 13 #[.val (.ref a1), .unset, .unset] [(.ref a1)])) _
    refine st5 _ ?_
    show Steps p.tables e below (T5.setTop (mkF m 16 #[.val (.ref a1), .unset, .unset] [(.long (w + (-7046029254386353131 : Int64)))])) _
    refine XS.lstoreN X5.here hx rfl (hb hby d3_16) rfl (l' := #[.val (.ref a1), .val (.long (w + (-7046029254386353131 : Int64))), .second]) rfl ?_
    show Steps p.tables e below (T5.setTop (mkF m 17 #[.val (.ref a1), .val (.long (w + (-7046029254386353131 : Int64))), .second] [])) _
    refine XS.lloadN X5.here hx rfl (hb hby d3_17) rfl ?_
    show Steps p.tables e below (T5.setTop (mkF m 18 #[.val (.ref a1), .val (.long (w + (-7046029254386353131 : Int64))), .second] [(.long (w + (-7046029254386353131 : Int64)))])) _
    refine XS.lloadN X5.here hx rfl (hb hby d3_18) rfl ?_
    show Steps p.tables e below (T5.setTop (mkF m 19 #[.val (.ref a1), .val (.long (w + (-7046029254386353131 : Int64))), .second] [(.long (w + (-7046029254386353131 : Int64))), (.long (w + (-7046029254386353131 : Int64)))])) _
    refine XS.bipush X5.here hx rfl (hb hby d3_19) ?_
    show Steps p.tables e below (T5.setTop (mkF m 21 #[.val (.ref a1), .val (.long (w + (-7046029254386353131 : Int64))), .second] [(.int (30 : Int32)), (.long (w + (-7046029254386353131 : Int64))), (.long (w + (-7046029254386353131 : Int64)))])) _
    refine XS.lushr X5.here hx rfl (hb hby d3_21) rfl ?_
    show Steps p.tables e below (T5.setTop (mkF m 22 #[.val (.ref a1), .val (.long (w + (-7046029254386353131 : Int64))), .second] [(.long ((((w + (-7046029254386353131 : Int64))).toUInt64 >>> ((30 : Int32) &&& 0x3f).toInt64.toUInt64).toInt64)), (.long (w + (-7046029254386353131 : Int64)))])) _
    refine XS.lxor X5.here hx rfl (hb hby d3_22) rfl ?_
    show Steps p.tables e below (T5.setTop (mkF m 23 #[.val (.ref a1), .val (.long (w + (-7046029254386353131 : Int64))), .second] [(.long ((w + (-7046029254386353131 : Int64)) ^^^ ((((w + (-7046029254386353131 : Int64))).toUInt64 >>> ((30 : Int32) &&& 0x3f).toInt64.toUInt64).toInt64)))])) _
    refine X5.ldc2Long hx hown (mvT hZ (hw _ (List.mem_of_getElem? (i := 17) rfl))) (g := (mkF m 23 #[.val (.ref a1), .val (.long (w + (-7046029254386353131 : Int64))), .second] [(.long ((w + (-7046029254386353131 : Int64)) ^^^ ((((w + (-7046029254386353131 : Int64))).toUInt64 >>> ((30 : Int32) &&& 0x3f).toInt64.toUInt64).toInt64)))])) rfl (hb hby d3_23) _ ?_
    show Steps p.tables e below (T5.setTop (mkF m 26 #[.val (.ref a1), .val (.long (w + (-7046029254386353131 : Int64))), .second] [(.long (-4658895280553007687 : Int64)), (.long ((w + (-7046029254386353131 : Int64)) ^^^ ((((w + (-7046029254386353131 : Int64))).toUInt64 >>> ((30 : Int32) &&& 0x3f).toInt64.toUInt64).toInt64)))])) _
    refine XS.lmul X5.here hx rfl (hb hby d3_26) rfl ?_
    rw [hz1] at k
    exact k
  obtain ⟨z2, hz2⟩ : ∃ z : Int64, z = ((z1 ^^^ (((z1).toUInt64 >>> ((27 : Int32) &&& 0x3f).toInt64.toUInt64).toInt64)) * (-7723592293110705685 : Int64)) := ⟨_, rfl⟩
  refine GoalS.lift (B := (T5.setTop (mkF m 38 #[.val (.ref a1), .val (.long z1), .second] [(.long z2)]))) (fun t k => ?_) ?_
  · show Steps p.tables e below (T5.setTop (mkF m 27 #[.val (.ref a1), .val (.long (w + (-7046029254386353131 : Int64))), .second] [(.long z1)])) _
    refine XS.lstoreN X5.here hx rfl (hb hby d3_27) rfl (l' := #[.val (.ref a1), .val (.long z1), .second]) rfl ?_
    show Steps p.tables e below (T5.setTop (mkF m 28 #[.val (.ref a1), .val (.long z1), .second] [])) _
    refine XS.lloadN X5.here hx rfl (hb hby d3_28) rfl ?_
    show Steps p.tables e below (T5.setTop (mkF m 29 #[.val (.ref a1), .val (.long z1), .second] [(.long z1)])) _
    refine XS.lloadN X5.here hx rfl (hb hby d3_29) rfl ?_
    show Steps p.tables e below (T5.setTop (mkF m 30 #[.val (.ref a1), .val (.long z1), .second] [(.long z1), (.long z1)])) _
    refine XS.bipush X5.here hx rfl (hb hby d3_30) ?_
    show Steps p.tables e below (T5.setTop (mkF m 32 #[.val (.ref a1), .val (.long z1), .second] [(.int (27 : Int32)), (.long z1), (.long z1)])) _
    refine XS.lushr X5.here hx rfl (hb hby d3_32) rfl ?_
    show Steps p.tables e below (T5.setTop (mkF m 33 #[.val (.ref a1), .val (.long z1), .second] [(.long (((z1).toUInt64 >>> ((27 : Int32) &&& 0x3f).toInt64.toUInt64).toInt64)), (.long z1)])) _
    refine XS.lxor X5.here hx rfl (hb hby d3_33) rfl ?_
    show Steps p.tables e below (T5.setTop (mkF m 34 #[.val (.ref a1), .val (.long z1), .second] [(.long (z1 ^^^ (((z1).toUInt64 >>> ((27 : Int32) &&& 0x3f).toInt64.toUInt64).toInt64)))])) _
    refine X5.ldc2Long hx hown (mvT hZ (hw _ (List.mem_of_getElem? (i := 18) rfl))) (g := (mkF m 34 #[.val (.ref a1), .val (.long z1), .second] [(.long (z1 ^^^ (((z1).toUInt64 >>> ((27 : Int32) &&& 0x3f).toInt64.toUInt64).toInt64)))])) rfl (hb hby d3_34) _ ?_
    show Steps p.tables e below (T5.setTop (mkF m 37 #[.val (.ref a1), .val (.long z1), .second] [(.long (-7723592293110705685 : Int64)), (.long (z1 ^^^ (((z1).toUInt64 >>> ((27 : Int32) &&& 0x3f).toInt64.toUInt64).toInt64)))])) _
    refine XS.lmul X5.here hx rfl (hb hby d3_37) rfl ?_
    rw [hz2] at k
    exact k
  obtain ⟨fs, hr, hrun, hended, hW, hsame⟩ := X5.leave (v := some (.long (z2 ^^^ (((z2).toUInt64 >>> ((31 : Int32) &&& 0x3f).toInt64.toUInt64).toInt64)))) (fun h => by rw [Bd.returns] at h; cases h)
  refine ⟨_, _, ?_, hrun, hended, _, _, rfl, ?_, ⟨_, rfl⟩, hW, hsame.mono (by decide) (by decide)⟩
  · show Steps p.tables e below (T5.setTop (mkF m 38 #[.val (.ref a1), .val (.long z1), .second] [(.long z2)])) _
    refine XS.lstoreN X5.here hx rfl (hb hby d3_38) rfl (l' := #[.val (.ref a1), .val (.long z2), .second]) rfl ?_
    show Steps p.tables e below (T5.setTop (mkF m 39 #[.val (.ref a1), .val (.long z2), .second] [])) _
    refine XS.lloadN X5.here hx rfl (hb hby d3_39) rfl ?_
    show Steps p.tables e below (T5.setTop (mkF m 40 #[.val (.ref a1), .val (.long z2), .second] [(.long z2)])) _
    refine XS.lloadN X5.here hx rfl (hb hby d3_40) rfl ?_
    show Steps p.tables e below (T5.setTop (mkF m 41 #[.val (.ref a1), .val (.long z2), .second] [(.long z2), (.long z2)])) _
    refine XS.bipush X5.here hx rfl (hb hby d3_41) ?_
    show Steps p.tables e below (T5.setTop (mkF m 43 #[.val (.ref a1), .val (.long z2), .second] [(.int (31 : Int32)), (.long z2), (.long z2)])) _
    refine XS.lushr X5.here hx rfl (hb hby d3_43) rfl ?_
    show Steps p.tables e below (T5.setTop (mkF m 44 #[.val (.ref a1), .val (.long z2), .second] [(.long (((z2).toUInt64 >>> ((31 : Int32) &&& 0x3f).toInt64.toUInt64).toInt64)), (.long z2)])) _
    refine XS.lxor X5.here hx rfl (hb hby d3_44) rfl ?_
    show Steps p.tables e below (T5.setTop (mkF m 45 #[.val (.ref a1), .val (.long z2), .second] [(.long (z2 ^^^ (((z2).toUInt64 >>> ((31 : Int32) &&& 0x3f).toInt64.toUInt64).toInt64)))])) _
    exact X5.lreturnOut hx Bd.returns (hb hby d3_45) hr
  · have f6 : Exa Z h2 a1 "com/example/pipstill/pipstill/Dice" := (E_a1.wr W2)
    show Q3 Z a1 w h0 n0 _ T5.heap _
    rw [e5]
    exact ⟨_, rfl, (by rw [hz2, hz1]; rfl), N2, K4, f6, Fw2⟩
theorem d5_0 : decode method_3_code 0 = .ok (.lload_n 0, 1) := by decide +kernel
theorem d5_1 : decode method_3_code 1 = .ok (.lstore_n 2, 1) := by decide +kernel
theorem d5_2 : decode method_3_code 2 = .ok (.lload_n 2, 1) := by decide +kernel
theorem d5_3 : decode method_3_code 3 = .ok (.ldc2_w 24, 3) := by decide +kernel
theorem d5_6 : decode method_3_code 6 = .ok (.lload_n 0, 1) := by decide +kernel
theorem d5_7 : decode method_3_code 7 = .ok (.lload_n 2, 1) := by decide +kernel
theorem d5_8 : decode method_3_code 8 = .ok (.lmul, 1) := by decide +kernel
theorem d5_9 : decode method_3_code 9 = .ok (.lsub, 1) := by decide +kernel
theorem d5_10 : decode method_3_code 10 = .ok (.lmul, 1) := by decide +kernel
theorem d5_11 : decode method_3_code 11 = .ok (.lstore_n 2, 1) := by decide +kernel
theorem d5_12 : decode method_3_code 12 = .ok (.lload_n 2, 1) := by decide +kernel
theorem d5_13 : decode method_3_code 13 = .ok (.ldc2_w 24, 3) := by decide +kernel
theorem d5_16 : decode method_3_code 16 = .ok (.lload_n 0, 1) := by decide +kernel
theorem d5_17 : decode method_3_code 17 = .ok (.lload_n 2, 1) := by decide +kernel
theorem d5_18 : decode method_3_code 18 = .ok (.lmul, 1) := by decide +kernel
theorem d5_19 : decode method_3_code 19 = .ok (.lsub, 1) := by decide +kernel
theorem d5_20 : decode method_3_code 20 = .ok (.lmul, 1) := by decide +kernel
theorem d5_21 : decode method_3_code 21 = .ok (.lstore_n 2, 1) := by decide +kernel
theorem d5_22 : decode method_3_code 22 = .ok (.lload_n 2, 1) := by decide +kernel
theorem d5_23 : decode method_3_code 23 = .ok (.ldc2_w 24, 3) := by decide +kernel
theorem d5_26 : decode method_3_code 26 = .ok (.lload_n 0, 1) := by decide +kernel
theorem d5_27 : decode method_3_code 27 = .ok (.lload_n 2, 1) := by decide +kernel
theorem d5_28 : decode method_3_code 28 = .ok (.lmul, 1) := by decide +kernel
theorem d5_29 : decode method_3_code 29 = .ok (.lsub, 1) := by decide +kernel
theorem d5_30 : decode method_3_code 30 = .ok (.lmul, 1) := by decide +kernel
theorem d5_31 : decode method_3_code 31 = .ok (.lstore_n 2, 1) := by decide +kernel
theorem d5_32 : decode method_3_code 32 = .ok (.lload_n 2, 1) := by decide +kernel
theorem d5_33 : decode method_3_code 33 = .ok (.ldc2_w 24, 3) := by decide +kernel
theorem d5_36 : decode method_3_code 36 = .ok (.lload_n 0, 1) := by decide +kernel
theorem d5_37 : decode method_3_code 37 = .ok (.lload_n 2, 1) := by decide +kernel
theorem d5_38 : decode method_3_code 38 = .ok (.lmul, 1) := by decide +kernel
theorem d5_39 : decode method_3_code 39 = .ok (.lsub, 1) := by decide +kernel
theorem d5_40 : decode method_3_code 40 = .ok (.lmul, 1) := by decide +kernel
theorem d5_41 : decode method_3_code 41 = .ok (.lstore_n 2, 1) := by decide +kernel
theorem d5_42 : decode method_3_code 42 = .ok (.lload_n 2, 1) := by decide +kernel
theorem d5_43 : decode method_3_code 43 = .ok (.ldc2_w 24, 3) := by decide +kernel
theorem d5_46 : decode method_3_code 46 = .ok (.lload_n 0, 1) := by decide +kernel
theorem d5_47 : decode method_3_code 47 = .ok (.lload_n 2, 1) := by decide +kernel
theorem d5_48 : decode method_3_code 48 = .ok (.lmul, 1) := by decide +kernel
theorem d5_49 : decode method_3_code 49 = .ok (.lsub, 1) := by decide +kernel
theorem d5_50 : decode method_3_code 50 = .ok (.lmul, 1) := by decide +kernel
theorem d5_51 : decode method_3_code 51 = .ok (.lstore_n 2, 1) := by decide +kernel
theorem d5_52 : decode method_3_code 52 = .ok (.lload_n 2, 1) := by decide +kernel
theorem d5_53 : decode method_3_code 53 = .ok (.lreturn, 1) := by decide +kernel
theorem pn_1 : plainName "com/example/pipstill/pipstill/DiceNextLongPinLaw" = true := by first | (simp [plainName, overriddenIn]; done) | decide +kernel
theorem ef_rm5 (m : MethodId) (q1 : Int64) : entryFrame m #[(.long q1)] 4 = mkF m 0 #[.val (.long q1), .second, .unset, .unset] [] := by first | (simp [entryFrame, mkF, argsToLocals, Value.category]; done) | rfl
def Q5 (Z : State) (q1 : Int64) (h0 : Heap) (n0 : Nat) (v : Option Value) (h : Heap) (L : List Loc) : Prop := ∃ r : Int64, v = some (.long r) ∧ r = own_inv q1 ∧ Fr n0 L ∧ h = h0
set_option maxRecDepth 65536 in
set_option maxHeartbeats 40000000 in
theorem rm5 (l : Launch) (Z : State) (a0 : Array Value) (hw : ∀ d ∈ tables_1, d.before a0 Z = true) (ws : List Jvm.Cond) (q1 : Int64) (h0 : Heap) (n0 : Nat) (Z0 : n0 ≤ h0.size) :
    MetFree l (⟨"com/example/pipstill/pipstill/DiceNextLongPinLaw", "inverse", "(J)J"⟩ : MethodName) (head1 (Jvm.Cond.code (⟨"com/example/pipstill/pipstill/DiceNextLongPinLaw", "inverse", "(J)J"⟩ : MethodName) method_3_code 4 (some .long) :: ws) ({ frames := 0, cells := 0, slots := 0, locals := 0 } : Room)) (fun a U => a = #[(.long q1)] ∧ Z.Warmed39 U.vm ∧ U.heap = h0) (fun _ _ _ _ _ => True) (fun _ U o U' => ∃ v L, o = .returned v ∧ Q5 Z q1 h0 n0 v U'.heap L ∧ FrameEnd U o U' L ({ frames := 0, cells := 0, slots := 0, locals := 0 } : Room).cells ({ frames := 0, cells := 0, slots := 0, locals := 0 } : Room).slots) := by
  refine MetFree.of_bodySF (plainFor_of_name pn_1) hisR ?_
  intro p e s m args below meth c s₁ Bd hml0 hP hK
  obtain ⟨rfl, hZ, hh⟩ := hP
  have hx := Bd.exec
  have hby := Bd.bytes
  have hml : c.maxLocals = 4 := hml0
  have hown : s.vm.findClass "com/example/pipstill/pipstill/DiceNextLongPinLaw" = some m.cls := findClass_of_methodNamed Bd.named
  have hnm := (name_of_methodNamed Bd.named Bd.method).1
  have X0 : Stand p l e ({ frames := 0, cells := 0, slots := 0, locals := 0 } : Room) s m #[(.long q1)] below meth c s₁ [] 0 0 := Stand.of_body Bd
  have e0 : s₁.heap = h0 := by rw [← hh, Bd.state]; rfl
  have N0 := Fr.nil n0
  show GoalS p.tables e below s ({ frames := 0, cells := 0, slots := 0, locals := 0 } : Room).cells ({ frames := 0, cells := 0, slots := 0, locals := 0 } : Room).slots (Q5 Z q1 h0 n0) (s₁.setTop (entryFrame m #[(.long q1)] 4))
  refine GoalS.lift (B := s₁.setTop (mkF m 0 #[.val (.long q1), .second, .unset, .unset] [])) (fun t k => castTop (ef_rm5 m q1) k) ?_
  have K0 : Keep h0 h0 [] := Keep.refl _ _
  obtain ⟨x10, hx10⟩ : ∃ z : Int64, z = (q1 * ((2 : Int64) - (q1 * q1))) := ⟨_, rfl⟩
  refine GoalS.lift (B := (s₁.setTop (mkF m 11 #[.val (.long q1), .second, .val (.long q1), .second] [(.long x10)]))) (fun t k => ?_) ?_
  · show Steps p.tables e below (s₁.setTop (mkF m 0 #[.val (.long q1), .second, .unset, .unset] [])) _
    refine XS.lloadN X0.here hx rfl (hb hby d5_0) rfl ?_
    show Steps p.tables e below (s₁.setTop (mkF m 1 #[.val (.long q1), .second, .unset, .unset] [(.long q1)])) _
    refine XS.lstoreN X0.here hx rfl (hb hby d5_1) rfl (l' := #[.val (.long q1), .second, .val (.long q1), .second]) rfl ?_
    show Steps p.tables e below (s₁.setTop (mkF m 2 #[.val (.long q1), .second, .val (.long q1), .second] [])) _
    refine XS.lloadN X0.here hx rfl (hb hby d5_2) rfl ?_
    show Steps p.tables e below (s₁.setTop (mkF m 3 #[.val (.long q1), .second, .val (.long q1), .second] [(.long q1)])) _
    refine X0.ldc2Long hx hown (mvT hZ (hw _ (List.mem_of_getElem? (i := 28) rfl))) (g := (mkF m 3 #[.val (.long q1), .second, .val (.long q1), .second] [(.long q1)])) rfl (hb hby d5_3) _ ?_
    show Steps p.tables e below (s₁.setTop (mkF m 6 #[.val (.long q1), .second, .val (.long q1), .second] [(.long (2 : Int64)), (.long q1)])) _
    refine XS.lloadN X0.here hx rfl (hb hby d5_6) rfl ?_
    show Steps p.tables e below (s₁.setTop (mkF m 7 #[.val (.long q1), .second, .val (.long q1), .second] [(.long q1), (.long (2 : Int64)), (.long q1)])) _
    refine XS.lloadN X0.here hx rfl (hb hby d5_7) rfl ?_
    show Steps p.tables e below (s₁.setTop (mkF m 8 #[.val (.long q1), .second, .val (.long q1), .second] [(.long q1), (.long q1), (.long (2 : Int64)), (.long q1)])) _
    refine XS.lmul X0.here hx rfl (hb hby d5_8) rfl ?_
    show Steps p.tables e below (s₁.setTop (mkF m 9 #[.val (.long q1), .second, .val (.long q1), .second] [(.long (q1 * q1)), (.long (2 : Int64)), (.long q1)])) _
    refine XS.lsub X0.here hx rfl (hb hby d5_9) rfl ?_
    show Steps p.tables e below (s₁.setTop (mkF m 10 #[.val (.long q1), .second, .val (.long q1), .second] [(.long ((2 : Int64) - (q1 * q1))), (.long q1)])) _
    refine XS.lmul X0.here hx rfl (hb hby d5_10) rfl ?_
    rw [hx10] at k
    exact k
  obtain ⟨x20, hx20⟩ : ∃ z : Int64, z = (x10 * ((2 : Int64) - (q1 * x10))) := ⟨_, rfl⟩
  refine GoalS.lift (B := (s₁.setTop (mkF m 21 #[.val (.long q1), .second, .val (.long x10), .second] [(.long x20)]))) (fun t k => ?_) ?_
  · show Steps p.tables e below (s₁.setTop (mkF m 11 #[.val (.long q1), .second, .val (.long q1), .second] [(.long x10)])) _
    refine XS.lstoreN X0.here hx rfl (hb hby d5_11) rfl (l' := #[.val (.long q1), .second, .val (.long x10), .second]) rfl ?_
    show Steps p.tables e below (s₁.setTop (mkF m 12 #[.val (.long q1), .second, .val (.long x10), .second] [])) _
    refine XS.lloadN X0.here hx rfl (hb hby d5_12) rfl ?_
    show Steps p.tables e below (s₁.setTop (mkF m 13 #[.val (.long q1), .second, .val (.long x10), .second] [(.long x10)])) _
    refine X0.ldc2Long hx hown (mvT hZ (hw _ (List.mem_of_getElem? (i := 28) rfl))) (g := (mkF m 13 #[.val (.long q1), .second, .val (.long x10), .second] [(.long x10)])) rfl (hb hby d5_13) _ ?_
    show Steps p.tables e below (s₁.setTop (mkF m 16 #[.val (.long q1), .second, .val (.long x10), .second] [(.long (2 : Int64)), (.long x10)])) _
    refine XS.lloadN X0.here hx rfl (hb hby d5_16) rfl ?_
    show Steps p.tables e below (s₁.setTop (mkF m 17 #[.val (.long q1), .second, .val (.long x10), .second] [(.long q1), (.long (2 : Int64)), (.long x10)])) _
    refine XS.lloadN X0.here hx rfl (hb hby d5_17) rfl ?_
    show Steps p.tables e below (s₁.setTop (mkF m 18 #[.val (.long q1), .second, .val (.long x10), .second] [(.long x10), (.long q1), (.long (2 : Int64)), (.long x10)])) _
    refine XS.lmul X0.here hx rfl (hb hby d5_18) rfl ?_
    show Steps p.tables e below (s₁.setTop (mkF m 19 #[.val (.long q1), .second, .val (.long x10), .second] [(.long (q1 * x10)), (.long (2 : Int64)), (.long x10)])) _
    refine XS.lsub X0.here hx rfl (hb hby d5_19) rfl ?_
    show Steps p.tables e below (s₁.setTop (mkF m 20 #[.val (.long q1), .second, .val (.long x10), .second] [(.long ((2 : Int64) - (q1 * x10))), (.long x10)])) _
    refine XS.lmul X0.here hx rfl (hb hby d5_20) rfl ?_
    rw [hx20] at k
    exact k
  obtain ⟨x30, hx30⟩ : ∃ z : Int64, z = (x20 * ((2 : Int64) - (q1 * x20))) := ⟨_, rfl⟩
  refine GoalS.lift (B := (s₁.setTop (mkF m 31 #[.val (.long q1), .second, .val (.long x20), .second] [(.long x30)]))) (fun t k => ?_) ?_
  · show Steps p.tables e below (s₁.setTop (mkF m 21 #[.val (.long q1), .second, .val (.long x10), .second] [(.long x20)])) _
    refine XS.lstoreN X0.here hx rfl (hb hby d5_21) rfl (l' := #[.val (.long q1), .second, .val (.long x20), .second]) rfl ?_
    show Steps p.tables e below (s₁.setTop (mkF m 22 #[.val (.long q1), .second, .val (.long x20), .second] [])) _
    refine XS.lloadN X0.here hx rfl (hb hby d5_22) rfl ?_
    show Steps p.tables e below (s₁.setTop (mkF m 23 #[.val (.long q1), .second, .val (.long x20), .second] [(.long x20)])) _
    refine X0.ldc2Long hx hown (mvT hZ (hw _ (List.mem_of_getElem? (i := 28) rfl))) (g := (mkF m 23 #[.val (.long q1), .second, .val (.long x20), .second] [(.long x20)])) rfl (hb hby d5_23) _ ?_
    show Steps p.tables e below (s₁.setTop (mkF m 26 #[.val (.long q1), .second, .val (.long x20), .second] [(.long (2 : Int64)), (.long x20)])) _
    refine XS.lloadN X0.here hx rfl (hb hby d5_26) rfl ?_
    show Steps p.tables e below (s₁.setTop (mkF m 27 #[.val (.long q1), .second, .val (.long x20), .second] [(.long q1), (.long (2 : Int64)), (.long x20)])) _
    refine XS.lloadN X0.here hx rfl (hb hby d5_27) rfl ?_
    show Steps p.tables e below (s₁.setTop (mkF m 28 #[.val (.long q1), .second, .val (.long x20), .second] [(.long x20), (.long q1), (.long (2 : Int64)), (.long x20)])) _
    refine XS.lmul X0.here hx rfl (hb hby d5_28) rfl ?_
    show Steps p.tables e below (s₁.setTop (mkF m 29 #[.val (.long q1), .second, .val (.long x20), .second] [(.long (q1 * x20)), (.long (2 : Int64)), (.long x20)])) _
    refine XS.lsub X0.here hx rfl (hb hby d5_29) rfl ?_
    show Steps p.tables e below (s₁.setTop (mkF m 30 #[.val (.long q1), .second, .val (.long x20), .second] [(.long ((2 : Int64) - (q1 * x20))), (.long x20)])) _
    refine XS.lmul X0.here hx rfl (hb hby d5_30) rfl ?_
    rw [hx30] at k
    exact k
  obtain ⟨x40, hx40⟩ : ∃ z : Int64, z = (x30 * ((2 : Int64) - (q1 * x30))) := ⟨_, rfl⟩
  refine GoalS.lift (B := (s₁.setTop (mkF m 41 #[.val (.long q1), .second, .val (.long x30), .second] [(.long x40)]))) (fun t k => ?_) ?_
  · show Steps p.tables e below (s₁.setTop (mkF m 31 #[.val (.long q1), .second, .val (.long x20), .second] [(.long x30)])) _
    refine XS.lstoreN X0.here hx rfl (hb hby d5_31) rfl (l' := #[.val (.long q1), .second, .val (.long x30), .second]) rfl ?_
    show Steps p.tables e below (s₁.setTop (mkF m 32 #[.val (.long q1), .second, .val (.long x30), .second] [])) _
    refine XS.lloadN X0.here hx rfl (hb hby d5_32) rfl ?_
    show Steps p.tables e below (s₁.setTop (mkF m 33 #[.val (.long q1), .second, .val (.long x30), .second] [(.long x30)])) _
    refine X0.ldc2Long hx hown (mvT hZ (hw _ (List.mem_of_getElem? (i := 28) rfl))) (g := (mkF m 33 #[.val (.long q1), .second, .val (.long x30), .second] [(.long x30)])) rfl (hb hby d5_33) _ ?_
    show Steps p.tables e below (s₁.setTop (mkF m 36 #[.val (.long q1), .second, .val (.long x30), .second] [(.long (2 : Int64)), (.long x30)])) _
    refine XS.lloadN X0.here hx rfl (hb hby d5_36) rfl ?_
    show Steps p.tables e below (s₁.setTop (mkF m 37 #[.val (.long q1), .second, .val (.long x30), .second] [(.long q1), (.long (2 : Int64)), (.long x30)])) _
    refine XS.lloadN X0.here hx rfl (hb hby d5_37) rfl ?_
    show Steps p.tables e below (s₁.setTop (mkF m 38 #[.val (.long q1), .second, .val (.long x30), .second] [(.long x30), (.long q1), (.long (2 : Int64)), (.long x30)])) _
    refine XS.lmul X0.here hx rfl (hb hby d5_38) rfl ?_
    show Steps p.tables e below (s₁.setTop (mkF m 39 #[.val (.long q1), .second, .val (.long x30), .second] [(.long (q1 * x30)), (.long (2 : Int64)), (.long x30)])) _
    refine XS.lsub X0.here hx rfl (hb hby d5_39) rfl ?_
    show Steps p.tables e below (s₁.setTop (mkF m 40 #[.val (.long q1), .second, .val (.long x30), .second] [(.long ((2 : Int64) - (q1 * x30))), (.long x30)])) _
    refine XS.lmul X0.here hx rfl (hb hby d5_40) rfl ?_
    rw [hx40] at k
    exact k
  obtain ⟨fs, hr, hrun, hended, hW, hsame⟩ := X0.leave (v := some (.long (x40 * ((2 : Int64) - (q1 * x40))))) (fun h => by rw [Bd.returns] at h; cases h)
  refine ⟨_, _, ?_, hrun, hended, _, _, rfl, ?_, ⟨_, rfl⟩, hW, hsame.mono (by decide) (by decide)⟩
  · show Steps p.tables e below (s₁.setTop (mkF m 41 #[.val (.long q1), .second, .val (.long x30), .second] [(.long x40)])) _
    refine XS.lstoreN X0.here hx rfl (hb hby d5_41) rfl (l' := #[.val (.long q1), .second, .val (.long x40), .second]) rfl ?_
    show Steps p.tables e below (s₁.setTop (mkF m 42 #[.val (.long q1), .second, .val (.long x40), .second] [])) _
    refine XS.lloadN X0.here hx rfl (hb hby d5_42) rfl ?_
    show Steps p.tables e below (s₁.setTop (mkF m 43 #[.val (.long q1), .second, .val (.long x40), .second] [(.long x40)])) _
    refine X0.ldc2Long hx hown (mvT hZ (hw _ (List.mem_of_getElem? (i := 28) rfl))) (g := (mkF m 43 #[.val (.long q1), .second, .val (.long x40), .second] [(.long x40)])) rfl (hb hby d5_43) _ ?_
    show Steps p.tables e below (s₁.setTop (mkF m 46 #[.val (.long q1), .second, .val (.long x40), .second] [(.long (2 : Int64)), (.long x40)])) _
    refine XS.lloadN X0.here hx rfl (hb hby d5_46) rfl ?_
    show Steps p.tables e below (s₁.setTop (mkF m 47 #[.val (.long q1), .second, .val (.long x40), .second] [(.long q1), (.long (2 : Int64)), (.long x40)])) _
    refine XS.lloadN X0.here hx rfl (hb hby d5_47) rfl ?_
    show Steps p.tables e below (s₁.setTop (mkF m 48 #[.val (.long q1), .second, .val (.long x40), .second] [(.long x40), (.long q1), (.long (2 : Int64)), (.long x40)])) _
    refine XS.lmul X0.here hx rfl (hb hby d5_48) rfl ?_
    show Steps p.tables e below (s₁.setTop (mkF m 49 #[.val (.long q1), .second, .val (.long x40), .second] [(.long (q1 * x40)), (.long (2 : Int64)), (.long x40)])) _
    refine XS.lsub X0.here hx rfl (hb hby d5_49) rfl ?_
    show Steps p.tables e below (s₁.setTop (mkF m 50 #[.val (.long q1), .second, .val (.long x40), .second] [(.long ((2 : Int64) - (q1 * x40))), (.long x40)])) _
    refine XS.lmul X0.here hx rfl (hb hby d5_50) rfl ?_
    show Steps p.tables e below (s₁.setTop (mkF m 51 #[.val (.long q1), .second, .val (.long x40), .second] [(.long (x40 * ((2 : Int64) - (q1 * x40))))])) _
    refine XS.lstoreN X0.here hx rfl (hb hby d5_51) rfl (l' := #[.val (.long q1), .second, .val (.long (x40 * ((2 : Int64) - (q1 * x40)))), .second]) rfl ?_
    show Steps p.tables e below (s₁.setTop (mkF m 52 #[.val (.long q1), .second, .val (.long (x40 * ((2 : Int64) - (q1 * x40)))), .second] [])) _
    refine XS.lloadN X0.here hx rfl (hb hby d5_52) rfl ?_
    show Steps p.tables e below (s₁.setTop (mkF m 53 #[.val (.long q1), .second, .val (.long (x40 * ((2 : Int64) - (q1 * x40)))), .second] [(.long (x40 * ((2 : Int64) - (q1 * x40))))])) _
    exact X0.lreturnOut hx Bd.returns (hb hby d5_53) hr
  · show Q5 Z q1 h0 n0 _ s₁.heap _
    exact ⟨_, rfl, (by rw [hx40, hx30, hx20, hx10]; rfl), N0, e0⟩
theorem d4_0 : decode method_4_code 0 = .ok (.lload_n 0, 1) := by decide +kernel
theorem d4_1 : decode method_4_code 1 = .ok (.lload_n 0, 1) := by decide +kernel
theorem d4_2 : decode method_4_code 2 = .ok (.bipush 31, 2) := by decide +kernel
theorem d4_4 : decode method_4_code 4 = .ok (.lushr, 1) := by decide +kernel
theorem d4_5 : decode method_4_code 5 = .ok (.lxor, 1) := by decide +kernel
theorem d4_6 : decode method_4_code 6 = .ok (.lload_n 0, 1) := by decide +kernel
theorem d4_7 : decode method_4_code 7 = .ok (.bipush 62, 2) := by decide +kernel
theorem d4_9 : decode method_4_code 9 = .ok (.lushr, 1) := by decide +kernel
theorem d4_10 : decode method_4_code 10 = .ok (.lxor, 1) := by decide +kernel
theorem d4_11 : decode method_4_code 11 = .ok (.lstore_n 2, 1) := by decide +kernel
theorem d4_12 : decode method_4_code 12 = .ok (.lload_n 2, 1) := by decide +kernel
theorem d4_13 : decode method_4_code 13 = .ok (.ldc2_w 26, 3) := by decide +kernel
theorem d4_16 : decode method_4_code 16 = .ok (.invokestatic 28, 3) := by decide +kernel
theorem d4_19 : decode method_4_code 19 = .ok (.lmul, 1) := by decide +kernel
theorem d4_20 : decode method_4_code 20 = .ok (.lstore_n 2, 1) := by decide +kernel
theorem d4_21 : decode method_4_code 21 = .ok (.lload_n 2, 1) := by decide +kernel
theorem d4_22 : decode method_4_code 22 = .ok (.lload_n 2, 1) := by decide +kernel
theorem d4_23 : decode method_4_code 23 = .ok (.bipush 27, 2) := by decide +kernel
theorem d4_25 : decode method_4_code 25 = .ok (.lushr, 1) := by decide +kernel
theorem d4_26 : decode method_4_code 26 = .ok (.lxor, 1) := by decide +kernel
theorem d4_27 : decode method_4_code 27 = .ok (.lload_n 2, 1) := by decide +kernel
theorem d4_28 : decode method_4_code 28 = .ok (.bipush 54, 2) := by decide +kernel
theorem d4_30 : decode method_4_code 30 = .ok (.lushr, 1) := by decide +kernel
theorem d4_31 : decode method_4_code 31 = .ok (.lxor, 1) := by decide +kernel
theorem d4_32 : decode method_4_code 32 = .ok (.lstore_n 2, 1) := by decide +kernel
theorem d4_33 : decode method_4_code 33 = .ok (.lload_n 2, 1) := by decide +kernel
theorem d4_34 : decode method_4_code 34 = .ok (.ldc2_w 31, 3) := by decide +kernel
theorem d4_37 : decode method_4_code 37 = .ok (.invokestatic 28, 3) := by decide +kernel
theorem d4_40 : decode method_4_code 40 = .ok (.lmul, 1) := by decide +kernel
theorem d4_41 : decode method_4_code 41 = .ok (.lstore_n 2, 1) := by decide +kernel
theorem d4_42 : decode method_4_code 42 = .ok (.lload_n 2, 1) := by decide +kernel
theorem d4_43 : decode method_4_code 43 = .ok (.lload_n 2, 1) := by decide +kernel
theorem d4_44 : decode method_4_code 44 = .ok (.bipush 30, 2) := by decide +kernel
theorem d4_46 : decode method_4_code 46 = .ok (.lushr, 1) := by decide +kernel
theorem d4_47 : decode method_4_code 47 = .ok (.lxor, 1) := by decide +kernel
theorem d4_48 : decode method_4_code 48 = .ok (.lload_n 2, 1) := by decide +kernel
theorem d4_49 : decode method_4_code 49 = .ok (.bipush 60, 2) := by decide +kernel
theorem d4_51 : decode method_4_code 51 = .ok (.lushr, 1) := by decide +kernel
theorem d4_52 : decode method_4_code 52 = .ok (.lxor, 1) := by decide +kernel
theorem d4_53 : decode method_4_code 53 = .ok (.lstore_n 2, 1) := by decide +kernel
theorem d4_54 : decode method_4_code 54 = .ok (.lload_n 2, 1) := by decide +kernel
theorem d4_55 : decode method_4_code 55 = .ok (.lreturn, 1) := by decide +kernel
theorem pd_0 : parseMethodDescriptor "(J)J" = some ⟨[.long], some .long⟩ := by decide +kernel
theorem ef_rm4 (m : MethodId) (q1 : Int64) : entryFrame m #[(.long q1)] 4 = mkF m 0 #[.val (.long q1), .second, .unset, .unset] [] := by first | (simp [entryFrame, mkF, argsToLocals, Value.category]; done) | rfl
def Q4 (Z : State) (q1 : Int64) (h0 : Heap) (n0 : Nat) (v : Option Value) (h : Heap) (L : List Loc) : Prop := ∃ r : Int64, v = some (.long r) ∧ r = own_un q1 ∧ Fr n0 L ∧ h = h0
set_option maxRecDepth 65536 in
set_option maxHeartbeats 40000000 in
theorem rm4 (l : Launch) (Z : State) (a0 : Array Value) (hw : ∀ d ∈ tables_1, d.before a0 Z = true) (ws : List Jvm.Cond) (q1 : Int64) (h0 : Heap) (n0 : Nat) (Z0 : n0 ≤ h0.size) :
    MetFree l (⟨"com/example/pipstill/pipstill/DiceNextLongPinLaw", "unmix", "(J)J"⟩ : MethodName) (head1 (Jvm.Cond.code (⟨"com/example/pipstill/pipstill/DiceNextLongPinLaw", "unmix", "(J)J"⟩ : MethodName) method_4_code 4 (some .long) :: ws) ({ frames := 1, cells := 0, slots := 0, locals := 17 } : Room)) (fun a U => a = #[(.long q1)] ∧ Z.Warmed39 U.vm ∧ U.heap = h0) (fun _ _ _ _ _ => True) (fun _ U o U' => ∃ v L, o = .returned v ∧ Q4 Z q1 h0 n0 v U'.heap L ∧ FrameEnd U o U' L ({ frames := 1, cells := 0, slots := 0, locals := 17 } : Room).cells ({ frames := 1, cells := 0, slots := 0, locals := 17 } : Room).slots) := by
  refine MetFree.of_bodySF (plainFor_of_name pn_1) hisR ?_
  intro p e s m args below meth c s₁ Bd hml0 hP hK
  obtain ⟨rfl, hZ, hh⟩ := hP
  have hx := Bd.exec
  have hby := Bd.bytes
  have hml : c.maxLocals = 4 := hml0
  have hown : s.vm.findClass "com/example/pipstill/pipstill/DiceNextLongPinLaw" = some m.cls := findClass_of_methodNamed Bd.named
  have hnm := (name_of_methodNamed Bd.named Bd.method).1
  have X0 : Stand p l e ({ frames := 1, cells := 0, slots := 0, locals := 17 } : Room) s m #[(.long q1)] below meth c s₁ [] 0 0 := Stand.of_body Bd
  have e0 : s₁.heap = h0 := by rw [← hh, Bd.state]; rfl
  have N0 := Fr.nil n0
  show GoalS p.tables e below s ({ frames := 1, cells := 0, slots := 0, locals := 17 } : Room).cells ({ frames := 1, cells := 0, slots := 0, locals := 17 } : Room).slots (Q4 Z q1 h0 n0) (s₁.setTop (entryFrame m #[(.long q1)] 4))
  refine GoalS.lift (B := s₁.setTop (mkF m 0 #[.val (.long q1), .second, .unset, .unset] [])) (fun t k => castTop (ef_rm4 m q1) k) ?_
  have K0 : Keep h0 h0 [] := Keep.refl _ _
  obtain ⟨y10, hy10⟩ : ∃ z : Int64, z = ((q1 ^^^ (((q1).toUInt64 >>> ((31 : Int32) &&& 0x3f).toInt64.toUInt64).toInt64)) ^^^ (((q1).toUInt64 >>> ((62 : Int32) &&& 0x3f).toInt64.toUInt64).toInt64)) := ⟨_, rfl⟩
  refine GoalS.lift (B := (s₁.setTop (mkF m 11 #[.val (.long q1), .second, .unset, .unset] [(.long y10)]))) (fun t k => ?_) ?_
  · show Steps p.tables e below (s₁.setTop (mkF m 0 #[.val (.long q1), .second, .unset, .unset] [])) _
    refine XS.lloadN X0.here hx rfl (hb hby d4_0) rfl ?_
    show Steps p.tables e below (s₁.setTop (mkF m 1 #[.val (.long q1), .second, .unset, .unset] [(.long q1)])) _
    refine XS.lloadN X0.here hx rfl (hb hby d4_1) rfl ?_
    show Steps p.tables e below (s₁.setTop (mkF m 2 #[.val (.long q1), .second, .unset, .unset] [(.long q1), (.long q1)])) _
    refine XS.bipush X0.here hx rfl (hb hby d4_2) ?_
    show Steps p.tables e below (s₁.setTop (mkF m 4 #[.val (.long q1), .second, .unset, .unset] [(.int (31 : Int32)), (.long q1), (.long q1)])) _
    refine XS.lushr X0.here hx rfl (hb hby d4_4) rfl ?_
    show Steps p.tables e below (s₁.setTop (mkF m 5 #[.val (.long q1), .second, .unset, .unset] [(.long (((q1).toUInt64 >>> ((31 : Int32) &&& 0x3f).toInt64.toUInt64).toInt64)), (.long q1)])) _
    refine XS.lxor X0.here hx rfl (hb hby d4_5) rfl ?_
    show Steps p.tables e below (s₁.setTop (mkF m 6 #[.val (.long q1), .second, .unset, .unset] [(.long (q1 ^^^ (((q1).toUInt64 >>> ((31 : Int32) &&& 0x3f).toInt64.toUInt64).toInt64)))])) _
    refine XS.lloadN X0.here hx rfl (hb hby d4_6) rfl ?_
    show Steps p.tables e below (s₁.setTop (mkF m 7 #[.val (.long q1), .second, .unset, .unset] [(.long q1), (.long (q1 ^^^ (((q1).toUInt64 >>> ((31 : Int32) &&& 0x3f).toInt64.toUInt64).toInt64)))])) _
    refine XS.bipush X0.here hx rfl (hb hby d4_7) ?_
    show Steps p.tables e below (s₁.setTop (mkF m 9 #[.val (.long q1), .second, .unset, .unset] [(.int (62 : Int32)), (.long q1), (.long (q1 ^^^ (((q1).toUInt64 >>> ((31 : Int32) &&& 0x3f).toInt64.toUInt64).toInt64)))])) _
    refine XS.lushr X0.here hx rfl (hb hby d4_9) rfl ?_
    show Steps p.tables e below (s₁.setTop (mkF m 10 #[.val (.long q1), .second, .unset, .unset] [(.long (((q1).toUInt64 >>> ((62 : Int32) &&& 0x3f).toInt64.toUInt64).toInt64)), (.long (q1 ^^^ (((q1).toUInt64 >>> ((31 : Int32) &&& 0x3f).toInt64.toUInt64).toInt64)))])) _
    refine XS.lxor X0.here hx rfl (hb hby d4_10) rfl ?_
    rw [hy10] at k
    exact k
  obtain ⟨_, _, ⟨T1, L1, k1, n1⟩, -, X1, ⟨Lc1, hQ1, l1, y1, z1⟩, st1⟩ := Jvm.LawKit.callS X0 hx (y := (⟨"com/example/pipstill/pipstill/DiceNextLongPinLaw", "inverse", "(J)J"⟩ : MethodName)) hown (mvT hZ (hw _ (List.mem_of_getElem? (i := 25) rfl))) (mvT hZ (hw _ (List.mem_of_getElem? (i := 26) rfl))) (mvT hZ (hw _ (List.mem_of_getElem? (i := 22) rfl))) (mvT hZ (hw _ (List.mem_of_getElem? (i := 27) rfl))) (by decide) (backOf (W := 2) (rm5 l Z a0 hw [] (-7723592293110705685 : Int64) h0 n0 Z0) hZ (hw _ (List.mem_of_getElem? (i := 27) rfl)) (hw _ (List.mem_of_getElem? (i := 22) rfl)) (by decide) (by decide)) (g := (mkF m 16 #[.val (.long q1), .second, .val (.long y10), .second] [(.long (-7723592293110705685 : Int64)), (.long y10)])) rfl (by rw [hml]; rfl) (argsL := [(.long (-7723592293110705685 : Int64))]) (rest := [(.long y10)]) (lenOf pd_0 rfl) rfl (by show 2 * 0 + _ ≤ _; exact Nat.le_of_eq rfl) (hb hby d4_16) (fun _ _ => ⟨rfl, e0, (by decide : 0 + 0 ≤ _), (by decide : 0 + 0 ≤ _)⟩)
  dsimp only [Pt.U, Pt.locs, Pt.cells, Pt.slots] at X1 l1 y1 z1 st1 hQ1
  subst l1 y1 z1
  obtain ⟨r1, rfl, hr1, N1q, eq1⟩ := hQ1
  have N1 := Fr.app N0 N1q
  obtain ⟨y19, hy19⟩ : ∃ z : Int64, z = (y10 * r1) := ⟨_, rfl⟩
  refine GoalS.lift (B := (T1.setTop (mkF m 20 #[.val (.long q1), .second, .val (.long y10), .second] [(.long y19)]))) (fun t k => ?_) ?_
  · show Steps p.tables e below (s₁.setTop (mkF m 11 #[.val (.long q1), .second, .unset, .unset] [(.long y10)])) _
    refine XS.lstoreN X0.here hx rfl (hb hby d4_11) rfl (l' := #[.val (.long q1), .second, .val (.long y10), .second]) rfl ?_
    show Steps p.tables e below (s₁.setTop (mkF m 12 #[.val (.long q1), .second, .val (.long y10), .second] [])) _
    refine XS.lloadN X0.here hx rfl (hb hby d4_12) rfl ?_
    show Steps p.tables e below (s₁.setTop (mkF m 13 #[.val (.long q1), .second, .val (.long y10), .second] [(.long y10)])) _
    refine X0.ldc2Long hx hown (mvT hZ (hw _ (List.mem_of_getElem? (i := 24) rfl))) (g := (mkF m 13 #[.val (.long q1), .second, .val (.long y10), .second] [(.long y10)])) rfl (hb hby d4_13) _ ?_
    show Steps p.tables e below (s₁.setTop (mkF m 16 #[.val (.long q1), .second, .val (.long y10), .second] [(.long (-7723592293110705685 : Int64)), (.long y10)])) _
    refine st1 _ ?_
    show Steps p.tables e below (T1.setTop (mkF m 19 #[.val (.long q1), .second, .val (.long y10), .second] [(.long r1), (.long y10)])) _
    refine XS.lmul X1.here hx rfl (hb hby d4_19) rfl ?_
    rw [hy19] at k
    exact k
  obtain ⟨y31, hy31⟩ : ∃ z : Int64, z = ((y19 ^^^ (((y19).toUInt64 >>> ((27 : Int32) &&& 0x3f).toInt64.toUInt64).toInt64)) ^^^ (((y19).toUInt64 >>> ((54 : Int32) &&& 0x3f).toInt64.toUInt64).toInt64)) := ⟨_, rfl⟩
  refine GoalS.lift (B := (T1.setTop (mkF m 32 #[.val (.long q1), .second, .val (.long y19), .second] [(.long y31)]))) (fun t k => ?_) ?_
  · show Steps p.tables e below (T1.setTop (mkF m 20 #[.val (.long q1), .second, .val (.long y10), .second] [(.long y19)])) _
    refine XS.lstoreN X1.here hx rfl (hb hby d4_20) rfl (l' := #[.val (.long q1), .second, .val (.long y19), .second]) rfl ?_
    show Steps p.tables e below (T1.setTop (mkF m 21 #[.val (.long q1), .second, .val (.long y19), .second] [])) _
    refine XS.lloadN X1.here hx rfl (hb hby d4_21) rfl ?_
    show Steps p.tables e below (T1.setTop (mkF m 22 #[.val (.long q1), .second, .val (.long y19), .second] [(.long y19)])) _
    refine XS.lloadN X1.here hx rfl (hb hby d4_22) rfl ?_
    show Steps p.tables e below (T1.setTop (mkF m 23 #[.val (.long q1), .second, .val (.long y19), .second] [(.long y19), (.long y19)])) _
    refine XS.bipush X1.here hx rfl (hb hby d4_23) ?_
    show Steps p.tables e below (T1.setTop (mkF m 25 #[.val (.long q1), .second, .val (.long y19), .second] [(.int (27 : Int32)), (.long y19), (.long y19)])) _
    refine XS.lushr X1.here hx rfl (hb hby d4_25) rfl ?_
    show Steps p.tables e below (T1.setTop (mkF m 26 #[.val (.long q1), .second, .val (.long y19), .second] [(.long (((y19).toUInt64 >>> ((27 : Int32) &&& 0x3f).toInt64.toUInt64).toInt64)), (.long y19)])) _
    refine XS.lxor X1.here hx rfl (hb hby d4_26) rfl ?_
    show Steps p.tables e below (T1.setTop (mkF m 27 #[.val (.long q1), .second, .val (.long y19), .second] [(.long (y19 ^^^ (((y19).toUInt64 >>> ((27 : Int32) &&& 0x3f).toInt64.toUInt64).toInt64)))])) _
    refine XS.lloadN X1.here hx rfl (hb hby d4_27) rfl ?_
    show Steps p.tables e below (T1.setTop (mkF m 28 #[.val (.long q1), .second, .val (.long y19), .second] [(.long y19), (.long (y19 ^^^ (((y19).toUInt64 >>> ((27 : Int32) &&& 0x3f).toInt64.toUInt64).toInt64)))])) _
    refine XS.bipush X1.here hx rfl (hb hby d4_28) ?_
    show Steps p.tables e below (T1.setTop (mkF m 30 #[.val (.long q1), .second, .val (.long y19), .second] [(.int (54 : Int32)), (.long y19), (.long (y19 ^^^ (((y19).toUInt64 >>> ((27 : Int32) &&& 0x3f).toInt64.toUInt64).toInt64)))])) _
    refine XS.lushr X1.here hx rfl (hb hby d4_30) rfl ?_
    show Steps p.tables e below (T1.setTop (mkF m 31 #[.val (.long q1), .second, .val (.long y19), .second] [(.long (((y19).toUInt64 >>> ((54 : Int32) &&& 0x3f).toInt64.toUInt64).toInt64)), (.long (y19 ^^^ (((y19).toUInt64 >>> ((27 : Int32) &&& 0x3f).toInt64.toUInt64).toInt64)))])) _
    refine XS.lxor X1.here hx rfl (hb hby d4_31) rfl ?_
    rw [hy31] at k
    exact k
  obtain ⟨_, _, ⟨T2, L2, k2, n2⟩, -, X2, ⟨Lc2, hQ2, l2, y2, z2⟩, st2⟩ := Jvm.LawKit.callS X1 hx (y := (⟨"com/example/pipstill/pipstill/DiceNextLongPinLaw", "inverse", "(J)J"⟩ : MethodName)) hown (mvT hZ (hw _ (List.mem_of_getElem? (i := 25) rfl))) (mvT hZ (hw _ (List.mem_of_getElem? (i := 26) rfl))) (mvT hZ (hw _ (List.mem_of_getElem? (i := 22) rfl))) (mvT hZ (hw _ (List.mem_of_getElem? (i := 27) rfl))) (by decide) (backOf (W := 2) (rm5 l Z a0 hw [] (-4658895280553007687 : Int64) h0 n0 Z0) hZ (hw _ (List.mem_of_getElem? (i := 27) rfl)) (hw _ (List.mem_of_getElem? (i := 22) rfl)) (by decide) (by decide)) (g := (mkF m 37 #[.val (.long q1), .second, .val (.long y31), .second] [(.long (-4658895280553007687 : Int64)), (.long y31)])) rfl (by rw [hml]; rfl) (argsL := [(.long (-4658895280553007687 : Int64))]) (rest := [(.long y31)]) (lenOf pd_0 rfl) rfl (by show 2 * 0 + _ ≤ _; exact Nat.le_of_eq rfl) (hb hby d4_37) (fun _ _ => ⟨rfl, eq1, (by decide : 0 + 0 ≤ _), (by decide : 0 + 0 ≤ _)⟩)
  dsimp only [Pt.U, Pt.locs, Pt.cells, Pt.slots] at X2 l2 y2 z2 st2 hQ2
  subst l2 y2 z2
  obtain ⟨r2, rfl, hr2, N2q, eq2⟩ := hQ2
  have N2 := Fr.app N1 N2q
  obtain ⟨y40, hy40⟩ : ∃ z : Int64, z = (y31 * r2) := ⟨_, rfl⟩
  refine GoalS.lift (B := (T2.setTop (mkF m 41 #[.val (.long q1), .second, .val (.long y31), .second] [(.long y40)]))) (fun t k => ?_) ?_
  · show Steps p.tables e below (T1.setTop (mkF m 32 #[.val (.long q1), .second, .val (.long y19), .second] [(.long y31)])) _
    refine XS.lstoreN X1.here hx rfl (hb hby d4_32) rfl (l' := #[.val (.long q1), .second, .val (.long y31), .second]) rfl ?_
    show Steps p.tables e below (T1.setTop (mkF m 33 #[.val (.long q1), .second, .val (.long y31), .second] [])) _
    refine XS.lloadN X1.here hx rfl (hb hby d4_33) rfl ?_
    show Steps p.tables e below (T1.setTop (mkF m 34 #[.val (.long q1), .second, .val (.long y31), .second] [(.long y31)])) _
    refine X1.ldc2Long hx hown (mvT hZ (hw _ (List.mem_of_getElem? (i := 29) rfl))) (g := (mkF m 34 #[.val (.long q1), .second, .val (.long y31), .second] [(.long y31)])) rfl (hb hby d4_34) _ ?_
    show Steps p.tables e below (T1.setTop (mkF m 37 #[.val (.long q1), .second, .val (.long y31), .second] [(.long (-4658895280553007687 : Int64)), (.long y31)])) _
    refine st2 _ ?_
    show Steps p.tables e below (T2.setTop (mkF m 40 #[.val (.long q1), .second, .val (.long y31), .second] [(.long r2), (.long y31)])) _
    refine XS.lmul X2.here hx rfl (hb hby d4_40) rfl ?_
    rw [hy40] at k
    exact k
  obtain ⟨fs, hr, hrun, hended, hW, hsame⟩ := X2.leave (v := some (.long ((y40 ^^^ (((y40).toUInt64 >>> ((30 : Int32) &&& 0x3f).toInt64.toUInt64).toInt64)) ^^^ (((y40).toUInt64 >>> ((60 : Int32) &&& 0x3f).toInt64.toUInt64).toInt64)))) (fun h => by rw [Bd.returns] at h; cases h)
  refine ⟨_, _, ?_, hrun, hended, _, _, rfl, ?_, ⟨_, rfl⟩, hW, hsame.mono (by decide) (by decide)⟩
  · show Steps p.tables e below (T2.setTop (mkF m 41 #[.val (.long q1), .second, .val (.long y31), .second] [(.long y40)])) _
    refine XS.lstoreN X2.here hx rfl (hb hby d4_41) rfl (l' := #[.val (.long q1), .second, .val (.long y40), .second]) rfl ?_
    show Steps p.tables e below (T2.setTop (mkF m 42 #[.val (.long q1), .second, .val (.long y40), .second] [])) _
    refine XS.lloadN X2.here hx rfl (hb hby d4_42) rfl ?_
    show Steps p.tables e below (T2.setTop (mkF m 43 #[.val (.long q1), .second, .val (.long y40), .second] [(.long y40)])) _
    refine XS.lloadN X2.here hx rfl (hb hby d4_43) rfl ?_
    show Steps p.tables e below (T2.setTop (mkF m 44 #[.val (.long q1), .second, .val (.long y40), .second] [(.long y40), (.long y40)])) _
    refine XS.bipush X2.here hx rfl (hb hby d4_44) ?_
    show Steps p.tables e below (T2.setTop (mkF m 46 #[.val (.long q1), .second, .val (.long y40), .second] [(.int (30 : Int32)), (.long y40), (.long y40)])) _
    refine XS.lushr X2.here hx rfl (hb hby d4_46) rfl ?_
    show Steps p.tables e below (T2.setTop (mkF m 47 #[.val (.long q1), .second, .val (.long y40), .second] [(.long (((y40).toUInt64 >>> ((30 : Int32) &&& 0x3f).toInt64.toUInt64).toInt64)), (.long y40)])) _
    refine XS.lxor X2.here hx rfl (hb hby d4_47) rfl ?_
    show Steps p.tables e below (T2.setTop (mkF m 48 #[.val (.long q1), .second, .val (.long y40), .second] [(.long (y40 ^^^ (((y40).toUInt64 >>> ((30 : Int32) &&& 0x3f).toInt64.toUInt64).toInt64)))])) _
    refine XS.lloadN X2.here hx rfl (hb hby d4_48) rfl ?_
    show Steps p.tables e below (T2.setTop (mkF m 49 #[.val (.long q1), .second, .val (.long y40), .second] [(.long y40), (.long (y40 ^^^ (((y40).toUInt64 >>> ((30 : Int32) &&& 0x3f).toInt64.toUInt64).toInt64)))])) _
    refine XS.bipush X2.here hx rfl (hb hby d4_49) ?_
    show Steps p.tables e below (T2.setTop (mkF m 51 #[.val (.long q1), .second, .val (.long y40), .second] [(.int (60 : Int32)), (.long y40), (.long (y40 ^^^ (((y40).toUInt64 >>> ((30 : Int32) &&& 0x3f).toInt64.toUInt64).toInt64)))])) _
    refine XS.lushr X2.here hx rfl (hb hby d4_51) rfl ?_
    show Steps p.tables e below (T2.setTop (mkF m 52 #[.val (.long q1), .second, .val (.long y40), .second] [(.long (((y40).toUInt64 >>> ((60 : Int32) &&& 0x3f).toInt64.toUInt64).toInt64)), (.long (y40 ^^^ (((y40).toUInt64 >>> ((30 : Int32) &&& 0x3f).toInt64.toUInt64).toInt64)))])) _
    refine XS.lxor X2.here hx rfl (hb hby d4_52) rfl ?_
    show Steps p.tables e below (T2.setTop (mkF m 53 #[.val (.long q1), .second, .val (.long y40), .second] [(.long ((y40 ^^^ (((y40).toUInt64 >>> ((30 : Int32) &&& 0x3f).toInt64.toUInt64).toInt64)) ^^^ (((y40).toUInt64 >>> ((60 : Int32) &&& 0x3f).toInt64.toUInt64).toInt64)))])) _
    refine XS.lstoreN X2.here hx rfl (hb hby d4_53) rfl (l' := #[.val (.long q1), .second, .val (.long ((y40 ^^^ (((y40).toUInt64 >>> ((30 : Int32) &&& 0x3f).toInt64.toUInt64).toInt64)) ^^^ (((y40).toUInt64 >>> ((60 : Int32) &&& 0x3f).toInt64.toUInt64).toInt64))), .second]) rfl ?_
    show Steps p.tables e below (T2.setTop (mkF m 54 #[.val (.long q1), .second, .val (.long ((y40 ^^^ (((y40).toUInt64 >>> ((30 : Int32) &&& 0x3f).toInt64.toUInt64).toInt64)) ^^^ (((y40).toUInt64 >>> ((60 : Int32) &&& 0x3f).toInt64.toUInt64).toInt64))), .second] [])) _
    refine XS.lloadN X2.here hx rfl (hb hby d4_54) rfl ?_
    show Steps p.tables e below (T2.setTop (mkF m 55 #[.val (.long q1), .second, .val (.long ((y40 ^^^ (((y40).toUInt64 >>> ((30 : Int32) &&& 0x3f).toInt64.toUInt64).toInt64)) ^^^ (((y40).toUInt64 >>> ((60 : Int32) &&& 0x3f).toInt64.toUInt64).toInt64))), .second] [(.long ((y40 ^^^ (((y40).toUInt64 >>> ((30 : Int32) &&& 0x3f).toInt64.toUInt64).toInt64)) ^^^ (((y40).toUInt64 >>> ((60 : Int32) &&& 0x3f).toInt64.toUInt64).toInt64)))])) _
    exact X2.lreturnOut hx Bd.returns (hb hby d4_55) hr
  · show Q4 Z q1 h0 n0 _ T2.heap _
    exact ⟨_, rfl, (by rw [hy40, hy31, hy19, hy10, hr1, hr2]; rfl), N2, eq2⟩
theorem pd_1 : parseMethodDescriptor "(J)V" = some ⟨[.long], none⟩ := by decide +kernel
theorem pd_2 : parseMethodDescriptor "()J" = some ⟨[], some .long⟩ := by decide +kernel
theorem ef_rm0 (m : MethodId) (q1 : Int64) : entryFrame m #[(.long q1)] maxLocals = mkF m 0 #[.val (.long q1), .second, .unset, .unset, .unset, .unset, .unset, .unset, .unset, .unset, .unset, .unset, .unset] [] := by first | (simp [entryFrame, mkF, argsToLocals, Value.category, maxLocals]; done) | rfl
def Q0 (Z : State) (q1 : Int64) (h0 : Heap) (n0 : Nat) (v : Option Value) (h : Heap) (L : List Loc) : Prop := v = some (.int (1 : Int32)) ∧ Fr n0 L
set_option maxRecDepth 65536 in
set_option maxHeartbeats 40000000 in
theorem rm0 (l : Launch) (Z : State) (a0 : Array Value) (hw : ∀ d ∈ tables_1, d.before a0 Z = true) (ws : List Jvm.Cond) (q1 : Int64) (h0 : Heap) (n0 : Nat) (Z0 : n0 ≤ h0.size) :
    MetFree l x (head1 (Jvm.Cond.code x code maxLocals ret :: ws) room_1) (fun a U => a = #[(.long q1)] ∧ Z.Warmed39 U.vm ∧ U.heap = h0) (fun _ _ _ _ _ => True) (fun _ U o U' => ∃ v L, o = .returned v ∧ Q0 Z q1 h0 n0 v U'.heap L ∧ FrameEnd U o U' L 16 128) := by
  refine MetFree.of_bodySF (plainFor_of_name pn_1) hisR ?_
  intro p e s m args below meth c s₁ Bd hml0 hP hK
  obtain ⟨rfl, hZ, hh⟩ := hP
  have hx := Bd.exec
  have hby := Bd.bytes
  have hml : c.maxLocals = 13 := hml0
  have hown : s.vm.findClass "com/example/pipstill/pipstill/DiceNextLongPinLaw" = some m.cls := findClass_of_methodNamed Bd.named
  have hnm := (name_of_methodNamed Bd.named Bd.method).1
  have X0 : Stand p l e room_1 s m #[(.long q1)] below meth c s₁ [] 0 0 := Stand.of_body Bd
  have e0 : s₁.heap = h0 := by rw [← hh, Bd.state]; rfl
  have N0 := Fr.nil n0
  show GoalS p.tables e below s 16 128 (Q0 Z q1 h0 n0) (s₁.setTop (entryFrame m #[(.long q1)] maxLocals))
  refine GoalS.lift (B := s₁.setTop (mkF m 0 #[.val (.long q1), .second, .unset, .unset, .unset, .unset, .unset, .unset, .unset, .unset, .unset, .unset, .unset] [])) (fun t k => castTop (ef_rm0 m q1) k) ?_
  obtain ⟨T1, h1, X1, e1, E1, A1, D1, -, st1⟩ := newO X0 hx hZ hown (hw _ (List.mem_of_getElem? (i := 0) rfl)) (hw _ (List.mem_of_getElem? (i := 1) rfl)) (hw _ (List.mem_of_getElem? (i := 2) rfl)) e0 (g := (mkF m 0 #[.val (.long q1), .second, .unset, .unset, .unset, .unset, .unset, .unset, .unset, .unset, .unset, .unset, .unset] [])) rfl (hb hby at_0) (by decide) (by decide)
  obtain ⟨b1, g1⟩ : ∃ z, z = h0.size := ⟨_, rfl⟩
  rw [← g1] at A1 D1 st1
  have g_b1 : n0 ≤ b1 := Nat.le_trans Z0 (Nat.le_of_eq g1.symm)
  have z2 : n0 ≤ h1.size := Nat.le_trans Z0 E1.1
  have F_state_b1 : Fld Z h1 b1 "com/example/pipstill/pipstill/Dice" "state" "J" (.long (0 : Int64)) := D1 (Or.inl (hw _ (List.mem_of_getElem? (i := 10) rfl))) (ty := .long) (by decide)
  obtain ⟨_, _, ⟨T3, L3, k3, n3⟩, -, X3, ⟨Lc3, hQ3, l3, y3, z3⟩, st3⟩ := X1.specialBack hx (y := (⟨"com/example/pipstill/pipstill/Dice", "<init>", "(J)V"⟩ : MethodName)) rfl hown (mvT hZ (hw _ (List.mem_of_getElem? (i := 3) rfl))) (mvT hZ (hw _ (List.mem_of_getElem? (i := 4) rfl))) (mvT hZ (hw _ (List.mem_of_getElem? (i := 5) rfl))) (by decide) (backOf (W := 1) (rm1 l Z a0 hw [] b1 q1 (.long (0 : Int64)) h1 n0 z2 A1 g_b1 F_state_b1) hZ (hw _ (List.mem_of_getElem? (i := 5) rfl)) (hw _ (List.mem_of_getElem? (i := 2) rfl)) (by decide) (by decide)) (g := (mkF m 5 #[.val (.long q1), .second, .unset, .unset, .unset, .unset, .unset, .unset, .unset, .unset, .unset, .unset, .unset] [(.long q1), (.ref b1), (.ref b1)])) rfl (by rw [hml]; rfl) (Steps.refl _) (a := b1) (argsL := [(.long q1)]) (rest := [(.ref b1)]) (lenOf pd_1 rfl) rfl (by show 2 * 0 + _ ≤ _; exact Nat.le_of_eq rfl) (hb hby at_5) (fun _ _ => ⟨rfl, e1, (by decide : 1 + 0 ≤ _), (by decide : 1 + 0 ≤ _)⟩)
  dsimp only [Pt.U, Pt.locs, Pt.cells, Pt.slots] at X3 l3 y3 z3 st3 hQ3
  subst l3 y3 z3
  obtain ⟨rfl, N3q, p3_0, p3_1, p3_2⟩ := hQ3
  have N3 := Fr.app N0 N3q
  have z4 : n0 ≤ T3.heap.size := Nat.le_trans z2 p3_0.1
  obtain ⟨cq5, kq5, q5a, q5b, q5c⟩ := isOf hZ rfl p3_1
  obtain ⟨_, _, ⟨T5, L5, k5, n5⟩, -, X5, ⟨Lc5, hQ5, l5, y5, z5⟩, st5⟩ := X3.virtualBack hx (y := (⟨"com/example/pipstill/pipstill/Dice", "nextLong", "()J"⟩ : MethodName)) (z := (⟨"com/example/pipstill/pipstill/Dice", "nextLong", "()J"⟩ : MethodName)) hown (mvT hZ (hw _ (List.mem_of_getElem? (i := 11) rfl))) (mvT hZ (hw _ (List.mem_of_getElem? (i := 12) rfl))) (notFace_of_selects (args := #[]) (mvT hZ (hw _ (List.mem_of_getElem? (i := 14) rfl)))) (mvT hZ (hw _ (List.mem_of_getElem? (i := 14) rfl))) (mvT hZ (hw _ (List.mem_of_getElem? (i := 13) rfl))) (by decide) (backOf (W := 0) (rm3 l Z a0 hw [] b1 q1 T3.heap n0 z4 p3_1 g_b1 p3_2) hZ (hw _ (List.mem_of_getElem? (i := 15) rfl)) (hw _ (List.mem_of_getElem? (i := 2) rfl)) (by decide) (by decide)) q5a q5c (g := (mkF m 10 #[.val (.long q1), .second, .val (.ref b1), .unset, .unset, .unset, .unset, .unset, .unset, .unset, .unset, .unset, .unset] [(.ref b1)])) rfl (by rw [hml]; rfl) (Steps.refl _) (argsL := []) (rest := []) (lenOf pd_2 rfl) rfl (by show 2 * 0 + _ ≤ _; exact Nat.le_of_eq rfl) (hb hby at_10) (fun _ _ => ⟨rfl, rfl, (by decide : 1 + 0 ≤ _), (by decide : 1 + 0 ≤ _)⟩)
  dsimp only [Pt.U, Pt.locs, Pt.cells, Pt.slots] at X5 l5 y5 z5 st5 hQ5
  subst l5 y5 z5
  obtain ⟨r5, rfl, hr5, N5q, p5_0, p5_1, p5_2⟩ := hQ5
  have N5 := Fr.app N3 N5q
  have z6 : n0 ≤ T5.heap.size := Nat.le_trans z4 p5_0.1
  obtain ⟨cq7, kq7, q7a, q7b, q7c⟩ := isOf hZ rfl p5_1
  obtain ⟨_, _, ⟨T7, L7, k7, n7⟩, -, X7, ⟨Lc7, hQ7, l7, y7, z7⟩, st7⟩ := X5.virtualBack hx (y := (⟨"com/example/pipstill/pipstill/Dice", "nextLong", "()J"⟩ : MethodName)) (z := (⟨"com/example/pipstill/pipstill/Dice", "nextLong", "()J"⟩ : MethodName)) hown (mvT hZ (hw _ (List.mem_of_getElem? (i := 11) rfl))) (mvT hZ (hw _ (List.mem_of_getElem? (i := 12) rfl))) (notFace_of_selects (args := #[]) (mvT hZ (hw _ (List.mem_of_getElem? (i := 14) rfl)))) (mvT hZ (hw _ (List.mem_of_getElem? (i := 14) rfl))) (mvT hZ (hw _ (List.mem_of_getElem? (i := 13) rfl))) (by decide) (backOf (W := 0) (rm3 l Z a0 hw [] b1 (q1 + (-7046029254386353131 : Int64)) T5.heap n0 z6 p5_1 g_b1 p5_2) hZ (hw _ (List.mem_of_getElem? (i := 15) rfl)) (hw _ (List.mem_of_getElem? (i := 2) rfl)) (by decide) (by decide)) q7a q7c (g := (mkF m 15 #[.val (.long q1), .second, .val (.ref b1), .val (.long r5), .second, .unset, .unset, .unset, .unset, .unset, .unset, .unset, .unset] [(.ref b1)])) rfl (by rw [hml]; rfl) (Steps.refl _) (argsL := []) (rest := []) (lenOf pd_2 rfl) rfl (by show 2 * 0 + _ ≤ _; exact Nat.le_of_eq rfl) (hb hby at_15) (fun _ _ => ⟨rfl, rfl, (by decide : 1 + 0 ≤ _), (by decide : 1 + 0 ≤ _)⟩)
  dsimp only [Pt.U, Pt.locs, Pt.cells, Pt.slots] at X7 l7 y7 z7 st7 hQ7
  subst l7 y7 z7
  obtain ⟨r7, rfl, hr7, N7q, p7_0, p7_1, p7_2⟩ := hQ7
  have N7 := Fr.app N5 N7q
  have z8 : n0 ≤ T7.heap.size := Nat.le_trans z6 p7_0.1
  obtain ⟨_, _, ⟨T9, L9, k9, n9⟩, -, X9, ⟨Lc9, hQ9, l9, y9, z9⟩, st9⟩ := Jvm.LawKit.callS X7 hx (y := (⟨"com/example/pipstill/pipstill/DiceNextLongPinLaw", "unmix", "(J)J"⟩ : MethodName)) hown (mvT hZ (hw _ (List.mem_of_getElem? (i := 20) rfl))) (mvT hZ (hw _ (List.mem_of_getElem? (i := 21) rfl))) (mvT hZ (hw _ (List.mem_of_getElem? (i := 22) rfl))) (mvT hZ (hw _ (List.mem_of_getElem? (i := 23) rfl))) (by decide) (backOf (W := 0) (rm4 l Z a0 hw [] r5 T7.heap n0 z8) hZ (hw _ (List.mem_of_getElem? (i := 23) rfl)) (hw _ (List.mem_of_getElem? (i := 22) rfl)) (by decide) (by decide)) (g := (mkF m 39 #[.val (.long q1), .second, .val (.ref b1), .val (.long r5), .second, .val (.long r7), .second, .val (.long (-7046029254386353131 : Int64)), .second, .val (.long (q1 + (-7046029254386353131 : Int64))), .second, .val (.long ((q1 + (-7046029254386353131 : Int64)) + (-7046029254386353131 : Int64))), .second] [(.long r5)])) rfl (by rw [hml]; rfl) (argsL := [(.long r5)]) (rest := []) (lenOf pd_0 rfl) rfl (by show 2 * 0 + _ ≤ _; exact Nat.le_of_eq rfl) (hb hby at_39) (fun _ _ => ⟨rfl, rfl, (by decide : 1 + 0 ≤ _), (by decide : 1 + 0 ≤ _)⟩)
  dsimp only [Pt.U, Pt.locs, Pt.cells, Pt.slots] at X9 l9 y9 z9 st9 hQ9
  subst l9 y9 z9
  obtain ⟨r9, rfl, hr9, N9q, eq9⟩ := hQ9
  have N9 := Fr.app N7 N9q
  obtain ⟨_, _, ⟨T10, L10, k10, n10⟩, -, X10, ⟨Lc10, hQ10, l10, y10, z10⟩, st10⟩ := Jvm.LawKit.callS X9 hx (y := (⟨"com/example/pipstill/pipstill/DiceNextLongPinLaw", "unmix", "(J)J"⟩ : MethodName)) hown (mvT hZ (hw _ (List.mem_of_getElem? (i := 20) rfl))) (mvT hZ (hw _ (List.mem_of_getElem? (i := 21) rfl))) (mvT hZ (hw _ (List.mem_of_getElem? (i := 22) rfl))) (mvT hZ (hw _ (List.mem_of_getElem? (i := 23) rfl))) (by decide) (backOf (W := 0) (rm4 l Z a0 hw [] r7 T7.heap n0 z8) hZ (hw _ (List.mem_of_getElem? (i := 23) rfl)) (hw _ (List.mem_of_getElem? (i := 22) rfl)) (by decide) (by decide)) (g := (mkF m 50 #[.val (.long q1), .second, .val (.ref b1), .val (.long r5), .second, .val (.long r7), .second, .val (.long (-7046029254386353131 : Int64)), .second, .val (.long (q1 + (-7046029254386353131 : Int64))), .second, .val (.long ((q1 + (-7046029254386353131 : Int64)) + (-7046029254386353131 : Int64))), .second] [(.long r7)])) rfl (by rw [hml]; rfl) (argsL := [(.long r7)]) (rest := []) (lenOf pd_0 rfl) rfl (by show 2 * 0 + _ ≤ _; exact Nat.le_of_eq rfl) (hb hby at_50) (fun _ _ => ⟨rfl, eq9, (by decide : 1 + 0 ≤ _), (by decide : 1 + 0 ≤ _)⟩)
  dsimp only [Pt.U, Pt.locs, Pt.cells, Pt.slots] at X10 l10 y10 z10 st10 hQ10
  subst l10 y10 z10
  obtain ⟨r10, rfl, hr10, N10q, eq10⟩ := hQ10
  have N10 := Fr.app N9 N10q
  obtain ⟨fs, hr, hrun, hended, hW, hsame⟩ := X10.leave (v := some (.int (1 : Int32))) (fun h => by rw [Bd.returns] at h; cases h)
  refine ⟨_, _, ?_, hrun, hended, _, _, rfl, ?_, ⟨_, rfl⟩, hW, hsame.mono (by decide) (by decide)⟩
  · show Steps p.tables e below (s₁.setTop (mkF m 0 #[.val (.long q1), .second, .unset, .unset, .unset, .unset, .unset, .unset, .unset, .unset, .unset, .unset, .unset] [])) _
    refine st1 _ ?_
    show Steps p.tables e below (T1.setTop (mkF m 3 #[.val (.long q1), .second, .unset, .unset, .unset, .unset, .unset, .unset, .unset, .unset, .unset, .unset, .unset] [(.ref b1)])) _
    refine XS.dup X1.here hx rfl (hb hby at_3) rfl rfl ?_
    show Steps p.tables e below (T1.setTop (mkF m 4 #[.val (.long q1), .second, .unset, .unset, .unset, .unset, .unset, .unset, .unset, .unset, .unset, .unset, .unset] [(.ref b1), (.ref b1)])) _
    refine XS.lloadN X1.here hx rfl (hb hby at_4) rfl ?_
    show Steps p.tables e below (T1.setTop (mkF m 5 #[.val (.long q1), .second, .unset, .unset, .unset, .unset, .unset, .unset, .unset, .unset, .unset, .unset, .unset] [(.long q1), (.ref b1), (.ref b1)])) _
    refine st3.trans ?_
    show Steps p.tables e below (T3.setTop (mkF m 8 #[.val (.long q1), .second, .unset, .unset, .unset, .unset, .unset, .unset, .unset, .unset, .unset, .unset, .unset] [(.ref b1)])) _
    refine XS.astoreN X3.here hx rfl (hb hby at_8) rfl rfl (l' := #[.val (.long q1), .second, .val (.ref b1), .unset, .unset, .unset, .unset, .unset, .unset, .unset, .unset, .unset, .unset]) rfl ?_
    show Steps p.tables e below (T3.setTop (mkF m 9 #[.val (.long q1), .second, .val (.ref b1), .unset, .unset, .unset, .unset, .unset, .unset, .unset, .unset, .unset, .unset] [])) _
    refine XS.aloadN X3.here hx rfl (hb hby at_9) rfl rfl ?_
    show Steps p.tables e below (T3.setTop (mkF m 10 #[.val (.long q1), .second, .val (.ref b1), .unset, .unset, .unset, .unset, .unset, .unset, .unset, .unset, .unset, .unset] [(.ref b1)])) _
    refine st5.trans ?_
    show Steps p.tables e below (T5.setTop (mkF m 13 #[.val (.long q1), .second, .val (.ref b1), .unset, .unset, .unset, .unset, .unset, .unset, .unset, .unset, .unset, .unset] [(.long r5)])) _
    refine XS.lstoreN X5.here hx rfl (hb hby at_13) rfl (l' := #[.val (.long q1), .second, .val (.ref b1), .val (.long r5), .second, .unset, .unset, .unset, .unset, .unset, .unset, .unset, .unset]) rfl ?_
    show Steps p.tables e below (T5.setTop (mkF m 14 #[.val (.long q1), .second, .val (.ref b1), .val (.long r5), .second, .unset, .unset, .unset, .unset, .unset, .unset, .unset, .unset] [])) _
    refine XS.aloadN X5.here hx rfl (hb hby at_14) rfl rfl ?_
    show Steps p.tables e below (T5.setTop (mkF m 15 #[.val (.long q1), .second, .val (.ref b1), .val (.long r5), .second, .unset, .unset, .unset, .unset, .unset, .unset, .unset, .unset] [(.ref b1)])) _
    refine st7.trans ?_
    show Steps p.tables e below (T7.setTop (mkF m 18 #[.val (.long q1), .second, .val (.ref b1), .val (.long r5), .second, .unset, .unset, .unset, .unset, .unset, .unset, .unset, .unset] [(.long r7)])) _
    refine XS.lstore X7.here hx rfl (hb hby at_18) rfl (l' := #[.val (.long q1), .second, .val (.ref b1), .val (.long r5), .second, .val (.long r7), .second, .unset, .unset, .unset, .unset, .unset, .unset]) rfl ?_
    show Steps p.tables e below (T7.setTop (mkF m 20 #[.val (.long q1), .second, .val (.ref b1), .val (.long r5), .second, .val (.long r7), .second, .unset, .unset, .unset, .unset, .unset, .unset] [])) _
    refine X7.ldc2Long hx hown (mvT hZ (hw _ (List.mem_of_getElem? (i := 19) rfl))) (g := (mkF m 20 #[.val (.long q1), .second, .val (.ref b1), .val (.long r5), .second, .val (.long r7), .second, .unset, .unset, .unset, .unset, .unset, .unset] [])) rfl (hb hby at_20) _ ?_
    show Steps p.tables e below (T7.setTop (mkF m 23 #[.val (.long q1), .second, .val (.ref b1), .val (.long r5), .second, .val (.long r7), .second, .unset, .unset, .unset, .unset, .unset, .unset] [(.long (-7046029254386353131 : Int64))])) _
    refine XS.lstore X7.here hx rfl (hb hby at_23) rfl (l' := #[.val (.long q1), .second, .val (.ref b1), .val (.long r5), .second, .val (.long r7), .second, .val (.long (-7046029254386353131 : Int64)), .second, .unset, .unset, .unset, .unset]) rfl ?_
    show Steps p.tables e below (T7.setTop (mkF m 25 #[.val (.long q1), .second, .val (.ref b1), .val (.long r5), .second, .val (.long r7), .second, .val (.long (-7046029254386353131 : Int64)), .second, .unset, .unset, .unset, .unset] [])) _
    refine XS.lloadN X7.here hx rfl (hb hby at_25) rfl ?_
    show Steps p.tables e below (T7.setTop (mkF m 26 #[.val (.long q1), .second, .val (.ref b1), .val (.long r5), .second, .val (.long r7), .second, .val (.long (-7046029254386353131 : Int64)), .second, .unset, .unset, .unset, .unset] [(.long q1)])) _
    refine XS.lload X7.here hx rfl (hb hby at_26) rfl ?_
    show Steps p.tables e below (T7.setTop (mkF m 28 #[.val (.long q1), .second, .val (.ref b1), .val (.long r5), .second, .val (.long r7), .second, .val (.long (-7046029254386353131 : Int64)), .second, .unset, .unset, .unset, .unset] [(.long (-7046029254386353131 : Int64)), (.long q1)])) _
    refine XS.ladd X7.here hx rfl (hb hby at_28) rfl ?_
    show Steps p.tables e below (T7.setTop (mkF m 29 #[.val (.long q1), .second, .val (.ref b1), .val (.long r5), .second, .val (.long r7), .second, .val (.long (-7046029254386353131 : Int64)), .second, .unset, .unset, .unset, .unset] [(.long (q1 + (-7046029254386353131 : Int64)))])) _
    refine XS.lstore X7.here hx rfl (hb hby at_29) rfl (l' := #[.val (.long q1), .second, .val (.ref b1), .val (.long r5), .second, .val (.long r7), .second, .val (.long (-7046029254386353131 : Int64)), .second, .val (.long (q1 + (-7046029254386353131 : Int64))), .second, .unset, .unset]) rfl ?_
    show Steps p.tables e below (T7.setTop (mkF m 31 #[.val (.long q1), .second, .val (.ref b1), .val (.long r5), .second, .val (.long r7), .second, .val (.long (-7046029254386353131 : Int64)), .second, .val (.long (q1 + (-7046029254386353131 : Int64))), .second, .unset, .unset] [])) _
    refine XS.lload X7.here hx rfl (hb hby at_31) rfl ?_
    show Steps p.tables e below (T7.setTop (mkF m 33 #[.val (.long q1), .second, .val (.ref b1), .val (.long r5), .second, .val (.long r7), .second, .val (.long (-7046029254386353131 : Int64)), .second, .val (.long (q1 + (-7046029254386353131 : Int64))), .second, .unset, .unset] [(.long (q1 + (-7046029254386353131 : Int64)))])) _
    refine XS.lload X7.here hx rfl (hb hby at_33) rfl ?_
    show Steps p.tables e below (T7.setTop (mkF m 35 #[.val (.long q1), .second, .val (.ref b1), .val (.long r5), .second, .val (.long r7), .second, .val (.long (-7046029254386353131 : Int64)), .second, .val (.long (q1 + (-7046029254386353131 : Int64))), .second, .unset, .unset] [(.long (-7046029254386353131 : Int64)), (.long (q1 + (-7046029254386353131 : Int64)))])) _
    refine XS.ladd X7.here hx rfl (hb hby at_35) rfl ?_
    show Steps p.tables e below (T7.setTop (mkF m 36 #[.val (.long q1), .second, .val (.ref b1), .val (.long r5), .second, .val (.long r7), .second, .val (.long (-7046029254386353131 : Int64)), .second, .val (.long (q1 + (-7046029254386353131 : Int64))), .second, .unset, .unset] [(.long ((q1 + (-7046029254386353131 : Int64)) + (-7046029254386353131 : Int64)))])) _
    refine XS.lstore X7.here hx rfl (hb hby at_36) rfl (l' := #[.val (.long q1), .second, .val (.ref b1), .val (.long r5), .second, .val (.long r7), .second, .val (.long (-7046029254386353131 : Int64)), .second, .val (.long (q1 + (-7046029254386353131 : Int64))), .second, .val (.long ((q1 + (-7046029254386353131 : Int64)) + (-7046029254386353131 : Int64))), .second]) rfl ?_
    show Steps p.tables e below (T7.setTop (mkF m 38 #[.val (.long q1), .second, .val (.ref b1), .val (.long r5), .second, .val (.long r7), .second, .val (.long (-7046029254386353131 : Int64)), .second, .val (.long (q1 + (-7046029254386353131 : Int64))), .second, .val (.long ((q1 + (-7046029254386353131 : Int64)) + (-7046029254386353131 : Int64))), .second] [])) _
    refine XS.lloadN X7.here hx rfl (hb hby at_38) rfl ?_
    show Steps p.tables e below (T7.setTop (mkF m 39 #[.val (.long q1), .second, .val (.ref b1), .val (.long r5), .second, .val (.long r7), .second, .val (.long (-7046029254386353131 : Int64)), .second, .val (.long (q1 + (-7046029254386353131 : Int64))), .second, .val (.long ((q1 + (-7046029254386353131 : Int64)) + (-7046029254386353131 : Int64))), .second] [(.long r5)])) _
    refine st9 _ ?_
    show Steps p.tables e below (T9.setTop (mkF m 42 #[.val (.long q1), .second, .val (.ref b1), .val (.long r5), .second, .val (.long r7), .second, .val (.long (-7046029254386353131 : Int64)), .second, .val (.long (q1 + (-7046029254386353131 : Int64))), .second, .val (.long ((q1 + (-7046029254386353131 : Int64)) + (-7046029254386353131 : Int64))), .second] [(.long r9)])) _
    refine XS.lload X9.here hx rfl (hb hby at_42) rfl ?_
    show Steps p.tables e below (T9.setTop (mkF m 44 #[.val (.long q1), .second, .val (.ref b1), .val (.long r5), .second, .val (.long r7), .second, .val (.long (-7046029254386353131 : Int64)), .second, .val (.long (q1 + (-7046029254386353131 : Int64))), .second, .val (.long ((q1 + (-7046029254386353131 : Int64)) + (-7046029254386353131 : Int64))), .second] [(.long (q1 + (-7046029254386353131 : Int64))), (.long r9)])) _
    refine XS.lcmp X9.here hx rfl (hb hby at_44) rfl ?_
    show Steps p.tables e below (T9.setTop (mkF m 45 #[.val (.long q1), .second, .val (.ref b1), .val (.long r5), .second, .val (.long r7), .second, .val (.long (-7046029254386353131 : Int64)), .second, .val (.long (q1 + (-7046029254386353131 : Int64))), .second, .val (.long ((q1 + (-7046029254386353131 : Int64)) + (-7046029254386353131 : Int64))), .second] [(.int (lcmpW r9 (q1 + (-7046029254386353131 : Int64))))])) _
    refine XS.ifNo X9.here hx rfl (hb hby at_45) rfl ((if0 _ _).trans (teq ((lw_eq r9 (q1 + (-7046029254386353131 : Int64))).mpr (by rw [hr9, hr5]; exact own_law _ : r9 = (q1 + (-7046029254386353131 : Int64))))).2) ?_
    show Steps p.tables e below (T9.setTop (mkF m 48 #[.val (.long q1), .second, .val (.ref b1), .val (.long r5), .second, .val (.long r7), .second, .val (.long (-7046029254386353131 : Int64)), .second, .val (.long (q1 + (-7046029254386353131 : Int64))), .second, .val (.long ((q1 + (-7046029254386353131 : Int64)) + (-7046029254386353131 : Int64))), .second] [])) _
    refine XS.lload X9.here hx rfl (hb hby at_48) rfl ?_
    show Steps p.tables e below (T9.setTop (mkF m 50 #[.val (.long q1), .second, .val (.ref b1), .val (.long r5), .second, .val (.long r7), .second, .val (.long (-7046029254386353131 : Int64)), .second, .val (.long (q1 + (-7046029254386353131 : Int64))), .second, .val (.long ((q1 + (-7046029254386353131 : Int64)) + (-7046029254386353131 : Int64))), .second] [(.long r7)])) _
    refine st10 _ ?_
    show Steps p.tables e below (T10.setTop (mkF m 53 #[.val (.long q1), .second, .val (.ref b1), .val (.long r5), .second, .val (.long r7), .second, .val (.long (-7046029254386353131 : Int64)), .second, .val (.long (q1 + (-7046029254386353131 : Int64))), .second, .val (.long ((q1 + (-7046029254386353131 : Int64)) + (-7046029254386353131 : Int64))), .second] [(.long r10)])) _
    refine XS.lload X10.here hx rfl (hb hby at_53) rfl ?_
    show Steps p.tables e below (T10.setTop (mkF m 55 #[.val (.long q1), .second, .val (.ref b1), .val (.long r5), .second, .val (.long r7), .second, .val (.long (-7046029254386353131 : Int64)), .second, .val (.long (q1 + (-7046029254386353131 : Int64))), .second, .val (.long ((q1 + (-7046029254386353131 : Int64)) + (-7046029254386353131 : Int64))), .second] [(.long ((q1 + (-7046029254386353131 : Int64)) + (-7046029254386353131 : Int64))), (.long r10)])) _
    refine XS.lcmp X10.here hx rfl (hb hby at_55) rfl ?_
    show Steps p.tables e below (T10.setTop (mkF m 56 #[.val (.long q1), .second, .val (.ref b1), .val (.long r5), .second, .val (.long r7), .second, .val (.long (-7046029254386353131 : Int64)), .second, .val (.long (q1 + (-7046029254386353131 : Int64))), .second, .val (.long ((q1 + (-7046029254386353131 : Int64)) + (-7046029254386353131 : Int64))), .second] [(.int (lcmpW r10 ((q1 + (-7046029254386353131 : Int64)) + (-7046029254386353131 : Int64))))])) _
    refine XS.ifNo X10.here hx rfl (hb hby at_56) rfl ((if0 _ _).trans (teq ((lw_eq r10 ((q1 + (-7046029254386353131 : Int64)) + (-7046029254386353131 : Int64))).mpr (by rw [hr10, hr7]; exact own_law _ : r10 = ((q1 + (-7046029254386353131 : Int64)) + (-7046029254386353131 : Int64))))).2) ?_
    show Steps p.tables e below (T10.setTop (mkF m 59 #[.val (.long q1), .second, .val (.ref b1), .val (.long r5), .second, .val (.long r7), .second, .val (.long (-7046029254386353131 : Int64)), .second, .val (.long (q1 + (-7046029254386353131 : Int64))), .second, .val (.long ((q1 + (-7046029254386353131 : Int64)) + (-7046029254386353131 : Int64))), .second] [])) _
    refine XS.iconst X10.here hx rfl (hb hby at_59) ?_
    show Steps p.tables e below (T10.setTop (mkF m 60 #[.val (.long q1), .second, .val (.ref b1), .val (.long r5), .second, .val (.long r7), .second, .val (.long (-7046029254386353131 : Int64)), .second, .val (.long (q1 + (-7046029254386353131 : Int64))), .second, .val (.long ((q1 + (-7046029254386353131 : Int64)) + (-7046029254386353131 : Int64))), .second] [(.int (1 : Int32))])) _
    refine XS.goto X10.here hx rfl (pc0 := 60) (pc' := 64) rfl (hb hby at_60) (by decide) (by decide) ?_
    show Steps p.tables e below (T10.setTop (mkF m 64 #[.val (.long q1), .second, .val (.ref b1), .val (.long r5), .second, .val (.long r7), .second, .val (.long (-7046029254386353131 : Int64)), .second, .val (.long (q1 + (-7046029254386353131 : Int64))), .second, .val (.long ((q1 + (-7046029254386353131 : Int64)) + (-7046029254386353131 : Int64))), .second] [(.int (1 : Int32))])) _
    exact retN X10 hx (t := .boolean) Bd.returns (by simp) (hb hby at_64) hr
  · exact ⟨rfl, N10⟩
set_option maxRecDepth 65536 in
set_option maxHeartbeats 40000000 in
theorem comes_1 {Post : Tables → Env → Array Value → State → Outcome → State → Prop} (hpost : ∀ tb e args s v u, (limb_1_1.after args s (.returned v) u = true ∧ limb_1_2.after args s (.returned v) u = true ∧ True) → FrameEnd s (.returned v) u (Jvm.fieldLocs frame_1_writes args s ++ Jvm.arrayLocs frame_1_arrays args s ++ Jvm.staticLocs frame_1_statics s) 16 128 → Post tb e args s (.returned v) u) :
    ArmFor flags0 classFile x code maxLocals ret World_1 tables_1 room_1 Calls_1 rest_1 Pre_1 Post := by
  intro l hfl _ _ p e ha hc hk s m args below hf hA hF happ hP
  obtain ⟨hcalls, hrest, hpre⟩ := hP
  obtain ⟨-, -, -, hnamed, -, -, -, hat⟩ := (Spec.applies_iff hf).mp happ
  obtain ⟨hg, hn⟩ := and_e (Cond.before_iff.mp (show (Jvm.Cond.and given_1 narrow_1).before args s = true from hpre))
  obtain ⟨g1, g2⟩ := and_e hg
  obtain ⟨w0, rfl⟩ : ∃ w0 : Value, args = #[w0] := by
    have hs : args.size = 1 := by simpa [Cond.value, given_1] using g1
    obtain ⟨L⟩ := args
    match L, hs with
    | [w0], _ => exact ⟨w0, rfl⟩
  have hw := fun d (hd : d ∈ tables_1) => atoms_spec (ws := Jvm.Cond.code x code maxLocals ret :: tables_1) hat d (List.mem_cons_of_mem _ hd)
  have hfit : Fit s := fun {y c} hc i hi => by
    obtain ⟨ha, rfl⟩ := Array.getElem?_eq_some_iff.mp hc
    have q := List.all_eq_true.mp ((Array.all_eq_true_iff_forall_mem.mp hF) _ (Array.getElem_mem ha)) i (List.mem_range.mpr hi)
    simpa [Array.getElem?_eq_getElem hi] using q
  obtain ⟨i0, ei0⟩ := isL_v g2
  obtain rfl : w0 = (.long i0) := Option.some.inj ei0
  obtain ⟨n, o, h1, h2, h3, _, L, rfl, ⟨rfl, N⟩, hq⟩ := rm0 l s _ hw tables_1 i0  s.heap s.heap.size (Nat.le_refl _)  p e ha hc hk s m _ below hf ((Spec.applies_iff_loose hf).mp happ).1 ⟨rfl, State.Warmed39.refl s, rfl⟩ trivial
  refine ⟨n, _, h1, h2, h3, hpost _ _ _ _ _ _ ⟨Cond.after_iff.mpr rfl, Cond.after_iff.mpr (eq_i res_at (Term.int_eval (1)) rfl), trivial⟩ ⟨hq.1, hq.2.1, (hq.2.2.sift fun y hy => Or.inr (N y hy)).mono (by decide) (by decide)⟩⟩
theorem main_1_1 : Claimed_1_1 := comes_1 fun _ _ _ _ _ _ h hF => ⟨h.1, hF⟩
theorem main_1_2 : Claimed_1_2 := comes_1 fun _ _ _ _ _ _ h hF => ⟨h.2.1, hF⟩
end Jvm.Pilot.@@N@@
namespace Jvm.Pilot.@@N@@
open Jvm Jvm.ClassFile Sem Op Lib Jvm.Free Jvm.Stand Jvm.Pilot.@@N@@.Jvm.D
/-! MADE BY PROGRAM (witnessworld.py) out of the Statement's table words and the real class files: 9 classes; the members and pool entries that the words name. The judged class is class 1, her method 1. -/
namespace start1
open Jvm.ClassFile
def u (s : String) : CpInfo := .utf8 (stringToUtf16 s)
/-- a pool by its gaps: so many unusable entries, then the entry; so many at the end -/
def gap : Nat → List CpInfo → List CpInfo
  | 0, r => r
  | n + 1, r => .unusable :: gap n r
def poolList (es : List (Nat × CpInfo)) (last : Nat) : List CpInfo := es.foldr (fun e r => gap e.1 (e.2 :: r)) (gap last [])
def pool (es : List (Nat × CpInfo)) (last : Nat) : Array CpInfo := ⟨poolList es last⟩
def fileOf (pool : Array CpInfo) (this : Nat) (attrs : Array Attribute := #[]) (ms : Array MethodInfo := #[]) (fl : Nat := 33) (sup : Nat := 0) (ifs : Array Nat := #[]) (fds : Array FieldInfo := #[]) : ClassFile where
  minorVersion := 0
  majorVersion := 65
  constantPool := pool
  accessFlags := fl
  thisClass := this
  superClass := sup
  interfaces := ifs
  fields := fds
  methods := ms
  attributes := attrs
def plain (name : String) (sup : Option ClassId) : Class where
  name := name
  kind := .ordinary
  loader := none
  accessFlags := 33
  super := sup
  interfaces := #[]
  cf := none
  fields := #[]
  methods := #[]
  instanceTypes := #[]
  staticTypes := #[]
  resolved := #[]
  callSites := []
  init := .initialized
  statics := none
  mirror := none

def pool0 : Array CpInfo := pool [(5, u "<init>"), (0, u "()V"), (1, .class_ 10), (1, u "java/lang/Object")] 113

def k0c0 : Code := { maxStack := 0, maxLocals := 1, code := object_method_1_code, exceptionTable := #[], attributes := #[] }
def k0m0 : Method := { name := "<init>", desc := "()V", sig := { parameters := [], returnType := none }, accessFlags := 1, code := some k0c0 }
/-- java/lang/Object -/
def k0 : Class := { plain "java/lang/Object" none with
  accessFlags := 33
  interfaces := #[]
  cf := some (fileOf pool0 8 #[] #[{ accessFlags := 1, nameIndex := 5, descriptorIndex := 6, attributes := #[] }] 33 0 #[] #[])
  fields := #[]
  methods := #[k0m0]
  instanceTypes := #[]
  staticTypes := #[]
  resolved := Array.replicate 124 none
  statics := none }

def pool1 : Array CpInfo := pool [(2, .class_ 4), (1, u "java/lang/Object"), (0, u "<init>"), (0, u "()V"), (0, .class_ 8), (0, u "com/example/pipstill/pipstill/Dice"), (0, .methodref 7 10), (0, .nameAndType 5 11), (0, u "(J)V"), (0, .methodref 7 13), (0, .nameAndType 14 15), (0, u "nextLong"), (0, u "()J"), (0, .long 11400714819323198485), (1, .methodref 19 20), (0, .class_ 21), (0, .nameAndType 22 23), (0, u "com/example/pipstill/pipstill/DiceNextLongPinLaw"), (0, u "unmix"), (0, u "(J)J"), (0, .long 2), (1, .long 10723151780598845931), (1, .methodref 19 29), (0, .nameAndType 30 23), (0, u "inverse"), (0, .long 13787848793156543929), (3, u "law"), (0, u "(J)Z")] 3

def k1m0 : Method := { name := "<init>", desc := "()V", sig := { parameters := [], returnType := none }, accessFlags := 1, code := none }
def k1c1 : Code := { maxStack := 4, maxLocals := 13, code := code, exceptionTable := #[], attributes := #[] }
def k1m1 : Method := { name := "law", desc := "(J)Z", sig := { parameters := [.long], returnType := some .boolean }, accessFlags := 9, code := some k1c1 }
def k1c2 : Code := { maxStack := 8, maxLocals := 4, code := method_3_code, exceptionTable := #[], attributes := #[] }
def k1m2 : Method := { name := "inverse", desc := "(J)J", sig := { parameters := [.long], returnType := some .long }, accessFlags := 10, code := some k1c2 }
def k1c3 : Code := { maxStack := 5, maxLocals := 4, code := method_4_code, exceptionTable := #[], attributes := #[] }
def k1m3 : Method := { name := "unmix", desc := "(J)J", sig := { parameters := [.long], returnType := some .long }, accessFlags := 10, code := some k1c3 }
/-- com/example/pipstill/pipstill/DiceNextLongPinLaw -/
def k1 : Class := { plain "com/example/pipstill/pipstill/DiceNextLongPinLaw" (some 0) with
  accessFlags := 49
  interfaces := #[]
  cf := some (fileOf pool1 19 #[] #[{ accessFlags := 1, nameIndex := 5, descriptorIndex := 6, attributes := #[] }, { accessFlags := 9, nameIndex := 35, descriptorIndex := 36, attributes := #[] }, { accessFlags := 10, nameIndex := 30, descriptorIndex := 23, attributes := #[] }, { accessFlags := 10, nameIndex := 22, descriptorIndex := 23, attributes := #[] }] 49 2 #[] #[])
  fields := #[]
  methods := #[k1m0, k1m1, k1m2, k1m3]
  instanceTypes := #[]
  staticTypes := #[]
  resolved := Array.replicate 40 none
  statics := none }

def pool2 : Array CpInfo := pool [(1, .methodref 2 3), (0, .class_ 4), (0, .nameAndType 5 6), (0, u "java/lang/Object"), (0, u "<init>"), (0, u "()V"), (0, .fieldref 8 9), (0, .class_ 10), (0, .nameAndType 11 12), (0, u "com/example/pipstill/pipstill/Dice"), (0, u "state"), (0, u "J"), (0, .long 11400714819323198485), (1, .long 13787848793156543929), (1, .long 10723151780598845931), (3, u "nextLong"), (0, u "()J"), (0, u "FACES"), (0, u "I"), (2, u "GOLDEN_GAMMA"), (0, u "(J)V")] 8

def k2c0 : Code := { maxStack := 3, maxLocals := 3, code := prog_4_method_1_code, exceptionTable := #[], attributes := #[] }
def k2m0 : Method := { name := "<init>", desc := "(J)V", sig := { parameters := [.long], returnType := none }, accessFlags := 1, code := some k2c0 }
def k2c1 : Code := { maxStack := 5, maxLocals := 3, code := prog_4_method_2_code, exceptionTable := #[], attributes := #[] }
def k2m1 : Method := { name := "nextLong", desc := "()J", sig := { parameters := [], returnType := some .long }, accessFlags := 1, code := some k2c1 }
/-- com/example/pipstill/pipstill/Dice -/
def k2 : Class := { plain "com/example/pipstill/pipstill/Dice" (some 0) with
  accessFlags := 49
  interfaces := #[]
  cf := some (fileOf pool2 8 #[] #[{ accessFlags := 1, nameIndex := 5, descriptorIndex := 28, attributes := #[] }, { accessFlags := 1, nameIndex := 21, descriptorIndex := 22, attributes := #[] }] 49 2 #[] #[{ accessFlags := 24, nameIndex := 23, descriptorIndex := 24, attributes := #[] }, { accessFlags := 26, nameIndex := 27, descriptorIndex := 12, attributes := #[] }, { accessFlags := 2, nameIndex := 11, descriptorIndex := 12, attributes := #[] }])
  fields := #[{ name := "FACES", type := .int, accessFlags := 24, slot := 0, constantValue := 0 }, { name := "GOLDEN_GAMMA", type := .long, accessFlags := 26, slot := 1, constantValue := 0 }, { name := "state", type := .long, accessFlags := 2, slot := 0, constantValue := 0 }]
  methods := #[k2m0, k2m1]
  instanceTypes := #[.long]
  staticTypes := #[.int, .long]
  resolved := Array.replicate 37 none
  statics := none }

def pool3 : Array CpInfo := pool [(1, u "java/lang/Cloneable"), (0, .class_ 1), (0, u "java/lang/Object"), (0, .class_ 3)] 3

/-- java/lang/Cloneable -/
def k3 : Class := { plain "java/lang/Cloneable" (some 0) with
  accessFlags := 1537
  interfaces := #[]
  cf := some (fileOf pool3 2 #[] #[] 1537 4 #[] #[])
  fields := #[]
  methods := #[]
  instanceTypes := #[]
  staticTypes := #[]
  resolved := Array.replicate 8 none
  statics := none }

def pool4 : Array CpInfo := pool [(1, u "java/io/Serializable"), (0, .class_ 1), (0, u "java/lang/Object"), (0, .class_ 3)] 3

/-- java/io/Serializable -/
def k4 : Class := { plain "java/io/Serializable" (some 0) with
  accessFlags := 1537
  interfaces := #[]
  cf := some (fileOf pool4 2 #[] #[] 1537 4 #[] #[])
  fields := #[]
  methods := #[]
  instanceTypes := #[]
  staticTypes := #[]
  resolved := Array.replicate 8 none
  statics := none }

/-- the primitive byte -/
def k5 : Class := { plain "byte" none with kind := .primitive 'B', accessFlags := 0x411 }
/-- [B -/
def k6 : Class := { plain "[B" (some 0) with kind := .array 5 .byte, interfaces := #[3, 4], accessFlags := 1041 }

/-- the primitive int -/
def k7 : Class := { plain "int" none with kind := .primitive 'I', accessFlags := 0x411 }
/-- [I -/
def k8 : Class := { plain "[I" (some 0) with kind := .array 7 .int, interfaces := #[3, 4], accessFlags := 1041 }

def heap : Heap := #[]
def classes : Array Class := #[k0, k1, k2, k3, k4, k5, k6, k7, k8]
def interned : List (Array UInt16 × Addr) := []
def slotsUsed : Nat := 0
def theMethod : MethodId := ⟨1, 1⟩
def args0 : Array Value := #[.long 5]
def aboutOver (below : List Frame) : State where
  vm := { classes := classes, interned := interned.toArray }
  heap := heap
  slotsUsed := slotsUsed
  threads := #[{ frames := .invoking theMethod args0 :: below }]
def below0 : List Frame := [.native { method := ⟨0, 0⟩, args := #[] }]
def about1 : State := aboutOver below0
def p0 : Program := .bare "" "" ""
def e0 : Env := launch0.env 0 0 0
theorem w_frames : about1.frames = Frame.invoking theMethod args0 :: below0 := rfl
set_option maxRecDepth 65536 in
theorem w_args : argsFit about1.vm theMethod args0 = true := by decide +kernel
set_option maxRecDepth 65536 in
theorem w_heap : heapFits about1 = true := by decide +kernel
set_option maxRecDepth 65536 in
theorem w_runnable : about1.curStatus? = some .runnable := by decide +kernel
set_option maxRecDepth 65536 in
theorem w_alone : about1.alone = true := by decide +kernel
set_option maxRecDepth 65536 in
theorem w_named : about1.methodNamed? x = some theMethod := by decide +kernel
set_option maxRecDepth 65536 in
theorem w_hears : about1.hears theMethod below0 = true := by decide +kernel
set_option maxRecDepth 65536 in
theorem w_ripe : about1.ripe theMethod args0 below0 = true := by decide +kernel
theorem w_running : about1.status = .running := rfl
set_option maxRecDepth 65536 in
theorem w_room : about1.hasRoom e0.platform room_1 = true :=
  launch0.hasRoom_least _ room_1 (by decide +kernel) (by decide +kernel) (by decide +kernel) (by decide +kernel) (by decide +kernel) (by decide +kernel)
theorem allAtoms_all (ts : List Jvm.Cond) (a : Array Jvm.Value) (st : Jvm.State) : (allAtoms ts).before a st = ts.all (fun c => c.before a st) := by
  induction ts with
  | nil => rfl
  | cons c t ih =>
    show (Jvm.Cond.and c (allAtoms t)).before a st = _
    rw [Jvm.Cond.before_and, ih, List.all_cons]
def words1 : List Jvm.Cond := Jvm.Cond.code x code maxLocals ret :: tables_1
/-- a 'code' word, met by the world's own term for the bytes: nothing is compared byte by byte -/
theorem code_word {y : MethodName} {bytes : ByteArray} {mx : Nat} {rt : Option FieldType} {a : Array Value} {s : State} {m : MethodId} {meth : Method} {c : Code} (h1 : s.methodNamed? y = some m) (h2 : s.vm.method? m = some meth) (h3 : meth.code = some c) (h4 : c.code = bytes)
    (h5 : (c.maxLocals == mx && c.exceptionTable.isEmpty && decide (c.maxStack ≤ mostOperands) && decide (meth.sig.returnType = rt) && !meth.locks && decide (parseMethodDescriptor y.desc = some meth.sig)) = true) : (Jvm.Cond.code y bytes mx rt).before a s = true := by
  simp only [Bool.and_eq_true, beq_iff_eq, Bool.not_eq_true', decide_eq_true_eq] at h5
  obtain ⟨⟨⟨⟨⟨g1, g2⟩, g3⟩, g4⟩, g5⟩, g6⟩ := h5
  simp [Cond.before, Cond.holds, Cond.value, h1, h2, h3, h4, g1, g2, g3, g4, g5, g6]
def isCode : Jvm.Cond → Bool
  | .code _ _ _ _ => true
  | _ => false
theorem all_split {L : List Jvm.Cond} {P : Jvm.Cond → Bool} (h1 : L.all (fun c => isCode c || P c) = true) (h2 : ∀ c ∈ L.filter isCode, P c = true) : L.all P = true := by
  refine List.all_eq_true.mpr fun c hc => ?_
  have h := List.all_eq_true.mp h1 c hc
  rcases Bool.eq_false_or_eq_true (isCode c) with hi | hi
  · exact h2 c (List.mem_filter.mpr ⟨hc, hi⟩)
  · simpa [hi] using h
set_option maxRecDepth 65536 in
theorem w_c0 : (Jvm.Cond.code x code maxLocals ret).before args0 about1 = true := code_word (m := ⟨1, 1⟩) (meth := k1m1) (c := k1c1) (by decide +kernel) rfl rfl rfl (by decide +kernel)
set_option maxRecDepth 65536 in
theorem w_c1 : (Jvm.Cond.code ({ cls := "com/example/pipstill/pipstill/Dice", name := "<init>", desc := "(J)V" } : Jvm.MethodName) prog_4_method_1_code (3 : Nat) (Option.none : Option Jvm.ClassFile.FieldType)).before args0 about1 = true := code_word (m := ⟨2, 0⟩) (meth := k2m0) (c := k2c0) (by decide +kernel) rfl rfl rfl (by decide +kernel)
set_option maxRecDepth 65536 in
theorem w_c2 : (Jvm.Cond.code ({ cls := "java/lang/Object", name := "<init>", desc := "()V" } : Jvm.MethodName) object_method_1_code (1 : Nat) (Option.none : Option Jvm.ClassFile.FieldType)).before args0 about1 = true := code_word (m := ⟨0, 0⟩) (meth := k0m0) (c := k0c0) (by decide +kernel) rfl rfl rfl (by decide +kernel)
set_option maxRecDepth 65536 in
theorem w_c3 : (Jvm.Cond.code ({ cls := "com/example/pipstill/pipstill/Dice", name := "nextLong", desc := "()J" } : Jvm.MethodName) prog_4_method_2_code (3 : Nat) (Option.some Jvm.ClassFile.FieldType.long)).before args0 about1 = true := code_word (m := ⟨2, 1⟩) (meth := k2m1) (c := k2c1) (by decide +kernel) rfl rfl rfl (by decide +kernel)
set_option maxRecDepth 65536 in
theorem w_c4 : (Jvm.Cond.code ({ cls := "com/example/pipstill/pipstill/DiceNextLongPinLaw", name := "unmix", desc := "(J)J" } : Jvm.MethodName) method_4_code (4 : Nat) (Option.some Jvm.ClassFile.FieldType.long)).before args0 about1 = true := code_word (m := ⟨1, 3⟩) (meth := k1m3) (c := k1c3) (by decide +kernel) rfl rfl rfl (by decide +kernel)
set_option maxRecDepth 65536 in
theorem w_c5 : (Jvm.Cond.code ({ cls := "com/example/pipstill/pipstill/DiceNextLongPinLaw", name := "inverse", desc := "(J)J" } : Jvm.MethodName) method_3_code (4 : Nat) (Option.some Jvm.ClassFile.FieldType.long)).before args0 about1 = true := code_word (m := ⟨1, 2⟩) (meth := k1m2) (c := k1c2) (by decide +kernel) rfl rfl rfl (by decide +kernel)
def codes1 : List Jvm.Cond := [Jvm.Cond.code x code maxLocals ret, Jvm.Cond.code ({ cls := "com/example/pipstill/pipstill/Dice", name := "<init>", desc := "(J)V" } : Jvm.MethodName) prog_4_method_1_code (3 : Nat) (Option.none : Option Jvm.ClassFile.FieldType), Jvm.Cond.code ({ cls := "java/lang/Object", name := "<init>", desc := "()V" } : Jvm.MethodName) object_method_1_code (1 : Nat) (Option.none : Option Jvm.ClassFile.FieldType), Jvm.Cond.code ({ cls := "com/example/pipstill/pipstill/Dice", name := "nextLong", desc := "()J" } : Jvm.MethodName) prog_4_method_2_code (3 : Nat) (Option.some Jvm.ClassFile.FieldType.long), Jvm.Cond.code ({ cls := "com/example/pipstill/pipstill/DiceNextLongPinLaw", name := "unmix", desc := "(J)J" } : Jvm.MethodName) method_4_code (4 : Nat) (Option.some Jvm.ClassFile.FieldType.long), Jvm.Cond.code ({ cls := "com/example/pipstill/pipstill/DiceNextLongPinLaw", name := "inverse", desc := "(J)J" } : Jvm.MethodName) method_3_code (4 : Nat) (Option.some Jvm.ClassFile.FieldType.long)]
set_option maxRecDepth 65536 in
theorem codes_eq : words1.filter isCode = codes1 := rfl
theorem w_codes : ∀ c ∈ words1.filter isCode, c.before args0 about1 = true := by
  rw [codes_eq]
  intro c hc
  simp only [codes1, List.mem_cons, List.not_mem_nil, or_false] at hc
  rcases hc with rfl | rfl | rfl | rfl | rfl | rfl
  · exact w_c0
  · exact w_c1
  · exact w_c2
  · exact w_c3
  · exact w_c4
  · exact w_c5
set_option maxRecDepth 65536 in
theorem w_t1 : (words1.take 24).all (fun c => isCode c || c.before args0 about1) = true := by decide +kernel
set_option maxRecDepth 65536 in
theorem w_t2 : (words1.drop 24).all (fun c => isCode c || c.before args0 about1) = true := by decide +kernel
theorem w_tables : (allAtoms (Jvm.Cond.code x code maxLocals ret :: tables_1)).before args0 about1 = true := by
  rw [allAtoms_all]
  show words1.all (fun c => c.before args0 about1) = true
  refine all_split ?_ w_codes
  rw [← List.take_append_drop 24 words1, List.all_append, w_t1, w_t2]
  rfl
set_option maxRecDepth 65536 in
theorem w_case : (Jvm.Cond.and given_1 narrow_1).before args0 about1 = true := by decide +kernel
theorem w_applies : (headSpec (Jvm.Cond.code x code maxLocals ret :: tables_1) room_1).applies x e0.platform about1 = true :=
  (Spec.applies_iff w_frames).mpr ⟨w_running, w_runnable, w_alone, w_named, w_hears, w_ripe, w_room, w_tables⟩
theorem atStart : AtStart classFile x code maxLocals ret World_1 tables_1 room_1 Calls_1 rest_1 Pre_1 launch0 p0 e0 about1 theMethod args0 below0 :=
  ⟨lists_1, trivial, launch0.admits_env _ _ _, launch0.least_env, fairChoices_fair.cas, fairChoices_fair.clock, w_frames, w_args, w_heap, w_applies, trivial, trivial, w_case⟩
end start1
theorem witness_1 : WitnessClaimed_1 := ⟨start1.p0, start1.e0, start1.about1, start1.theMethod, start1.args0, start1.below0, start1.atStart⟩
end Jvm.Pilot.@@N@@
