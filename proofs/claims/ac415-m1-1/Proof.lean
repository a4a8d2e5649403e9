import JvmDerived
import JvmDerived.Pilot.@@N@@Statement
import JvmDerived.Pilot.@@N@@Code
set_option linter.unusedVariables false
set_option linter.unusedSimpArgs false
namespace Jvm.RoadKit
open Sem ClassFile Op Lib Jvm.Stand Jvm.Free Jvm.LawKit
section New
variable {p : Program} {l : Launch} {e : Env} {R : Room} {s : State} {m : MethodId} {args : Array Value} {below : List Frame} {meth : Method} {c : Code} {T : State} {locs : List Loc} {cells slots : Nat}
theorem retI (X : Stand p l e R s m args below meth c T locs cells slots) (hx : p.tables.exec = Jvm.exec) {pc : Nat} {Ls : Array Slot} {z : Int32} {rest : List Value} (hret : meth.sig.returnType = some .int) (hd : decode c.code pc = .ok (.ireturn, 1)) {fs : List Frame}
    (hl : ∀ (f : JFrame) (acts : List Action), f.method = m → f.locked = none → f.entered = [] → (doReturn e (T.setTop f) acts (some (.int z))).1 = T.setFrames fs) : Steps p.tables e below (T.setTop (mkF m pc Ls (.int z :: rest))) (T.setFrames fs) := by
  have hm' : T.vm.method? m = some meth := X.method'
  have hn : narrow .int (.int z) = .int z := rfl
  show Steps p.tables e below (T.setTop { method := m, pc := pc, locals := Ls, stack := _ :: rest, locked := none }) _
  jvm_step X.here [X.here.top, hx, hd, hm', hret, hn]
  first | (intro acts; rw [hl _ acts rfl rfl rfl]) | rw [hl _ _ rfl rfl rfl]
  exact Steps.refl _
end New
end Jvm.RoadKit
namespace Jvm.Pilot.@@N@@
open Jvm Jvm.ClassFile Sem Op Lib Jvm.Free Jvm.Stand Jvm.LawKit Jvm.RoadKit Bundle Jvm.Pilot.@@N@@.Jvm.D
-- from the state st the run ends, and Q holds of what it leaves
def GoalS (tb : Tables) (e : Env) (below : List Frame) (s : State) (kc ks : Nat) (Q : Option Value → Heap → List Loc → Prop) (st : State) : Prop :=
  ∃ s₂ o, Steps tb e below st s₂ ∧ s₂.status = .running ∧ Ended s₂ below o ∧ ∃ v L, o = .returned v ∧ Q v s₂.heap L ∧ FrameEnd s o s₂ L kc ks
theorem GoalS.lift {tb : Tables} {e : Env} {below : List Frame} {s : State} {kc ks : Nat} {Q : Option Value → Heap → List Loc → Prop} {A B : State}
    (h : ∀ t, Steps tb e below B t → Steps tb e below A t) (g : GoalS tb e below s kc ks Q B) : GoalS tb e below s kc ks Q A := by
  obtain ⟨s₂, o, h1, h2⟩ := g
  exact ⟨s₂, o, h _ h1, h2⟩
-- an array of n places of which place i holds f i
def AV (Z : State) (h : Heap) (a : Addr) (k : ClassId) (ty : FieldType) (n : Nat) (f : Nat → Value) : Prop := ∃ c : Cell, Arr Z h a c ty ∧ c.cls = k ∧ c.slots.size = n ∧ n < 2147483648 ∧ ∀ i, i < n → c.slots[i]? = some (f i)
def updI (f : Nat → Int32) (j : Nat) (v : Int32) : Nat → Int32 := fun i => if i = j then v else f i
def updJ (f : Nat → Int64) (j : Nat) (v : Int64) : Nat → Int64 := fun i => if i = j then v else f i
def updR (f : Nat → Value) (j : Nat) (v : Value) : Nat → Value := fun i => if i = j then v else f i
section Own
variable {Z : State} {h h' : Heap} {a b : Addr} {k : ClassId} {ty : FieldType} {n : Nat} {f g : Nat → Value} {ws : List Addr} {v : Value} {sl : Nat}
theorem AV.lt (F : AV Z h a k ty n f) : a < h.size := by obtain ⟨c, A, -⟩ := F; exact A.lt
theorem AV.ext (F : AV Z h a k ty n f) (E : Ext h h') : AV Z h' a k ty n f := by obtain ⟨c, A, r⟩ := F; exact ⟨c, A.ext E, r⟩
theorem AV.other (F : AV Z h b k ty n f) (W : Wr h h' a sl v) (q : b ≠ a) : AV Z h' b k ty n f := by obtain ⟨c, A, r⟩ := F; exact ⟨c, A.other W q, r⟩
theorem AV.keep (F : AV Z h a k ty n f) (K : Keep h h' ws) (q : a ∉ ws) : AV Z h' a k ty n f := by obtain ⟨c, A, r⟩ := F; exact ⟨c, ⟨K.2.1 a c A.1 q, A.2⟩, r⟩
theorem AV.new {z : Int32} (A : Arr Z h a (newA k ty z) ty) (q : ¬ z < 0) (hn : z.toNatClampNeg = n) (hb : n < 2147483648) : AV Z h a k ty n (fun _ => defaultValue ty) :=
  ⟨_, A, rfl, (sz_new _ _ _).trans hn, hb, fun i hi => by simp [newA, hn, hi]⟩
theorem AV.inb {c : Cell} {j : Int32} (S : c.slots.size = n) (q : ¬ j < 0 ∧ j.toNatClampNeg < n) : ¬ (j < 0 ∨ c.slots.size ≤ j.toNatClampNeg) := fun u => u.elim q.1 fun w => by omega
theorem AV.inx {j : Int32} (q : ¬ j < 0 ∧ j.toNatClampNeg < n) : j.toNatClampNeg < n := q.2
theorem AV.conv (F : AV Z h a k ty n f) (e : ∀ i, i < n → f i = g i) : AV Z h a k ty n g := by
  obtain ⟨c, A, r1, r2, r3, r4⟩ := F; exact ⟨c, A, r1, r2, r3, fun i hi => (r4 i hi).trans (congrArg some (e i hi))⟩
theorem AV.putR {j : Nat} (F : AV Z h a k ty n f) (W : Wr h h' a j v) (hj : j < n) : AV Z h' a k ty n (updR f j v) := by
  obtain ⟨c, A, r1, r2, r3, r4⟩ := F
  refine ⟨_, A.same W, r1, (sz_set _ _ _).trans r2, r3, fun i hi => ?_⟩
  by_cases q : i = j
  · subst q; simp [Cell.setSlot, updR, r2, hi]
  · have q' : j ≠ i := fun u => q u.symm
    simp only [Cell.setSlot, updR, if_neg q]; rw [Array.getElem?_setIfInBounds_ne q']; exact r4 i hi
theorem AV.putI {j : Nat} {f : Nat → Int32} {v : Int32} (F : AV Z h a k ty n (fun i => Value.int (f i))) (W : Wr h h' a j (.int v)) (hj : j < n) : AV Z h' a k ty n (fun i => Value.int (updI f j v i)) :=
  (F.putR W hj).conv fun i _ => by simp only [updR, updI]; split <;> rfl
theorem AV.putJ {j : Nat} {f : Nat → Int64} {v : Int64} (F : AV Z h a k ty n (fun i => Value.long (f i))) (W : Wr h h' a j (.long v)) (hj : j < n) : AV Z h' a k ty n (fun i => Value.long (updJ f j v i)) :=
  (F.putR W hj).conv fun i _ => by simp only [updR, updJ]; split <;> rfl
end Own


theorem own_fI {args : Array Value} {s : State} {t : Term} {x : Addr} {C n dd : String} {k : Int32} (ht : t.eval args s none [] s = some (.ref x)) (h : (Cond.eq (Term.field t C n dd) (Term.int k)).value args s none s [] = some true) : Fld s s.heap x C n dd (.int k) := by
  apply Fld.start
  rw [← fld_at (C := C) (n := n) (dd := dd) ht]
  obtain ⟨u, w, e1, e2, k1, k2⟩ := cmp_v (Or.inl h)
  have e3 : w = .int k := (Option.some.inj ((Term.int_eval k).symm.trans e2)).symm
  subst e3
  obtain ⟨z, rfl⟩ := k2
  have : z = k := by simpa [Cond.value, e1, e2] using h
  rw [e1, this]
theorem own_fN {args : Array Value} {s : State} {t : Term} {x : Addr} {C n dd : String} (ht : t.eval args s none [] s = some (.ref x)) (h : (Cond.eq (Term.field t C n dd) Term.null).value args s none s [] = some true) : Fld s s.heap x C n dd .null := by
  apply Fld.start
  rw [← fld_at (C := C) (n := n) (dd := dd) ht]
  exact null_v h
theorem own_fR {args : Array Value} {s : State} {t t2 : Term} {x y : Addr} {C n dd : String} (ht : t.eval args s none [] s = some (.ref x)) (ht2 : t2.eval args s none [] s = some (.ref y)) (h : (Cond.eq (Term.field t C n dd) t2).value args s none s [] = some true) : Fld s s.heap x C n dd (.ref y) := by
  apply Fld.start
  rw [← fld_at (C := C) (n := n) (dd := dd) ht]
  obtain ⟨u, w, e1, e2, k1, k2⟩ := cmp_v (Or.inl h)
  have e3 : w = .ref y := (Option.some.inj (ht2.symm.trans e2)).symm
  subst e3
  have hu : u.isRef = true := k2.2
  rw [e1]
  exact congrArg some (gotT (eq_R e1 e2 hu rfl) h)
theorem own_seven (x : Int32) : ((x &&& (2147483647 : Int32)) % (7 : Int32)) = (0 : Int32) ∨ ((x &&& (2147483647 : Int32)) % (7 : Int32)) = (1 : Int32) ∨ ((x &&& (2147483647 : Int32)) % (7 : Int32)) = (2 : Int32) ∨ ((x &&& (2147483647 : Int32)) % (7 : Int32)) = (3 : Int32) ∨ ((x &&& (2147483647 : Int32)) % (7 : Int32)) = (4 : Int32) ∨ ((x &&& (2147483647 : Int32)) % (7 : Int32)) = (5 : Int32) ∨ ((x &&& (2147483647 : Int32)) % (7 : Int32)) = (6 : Int32) := by
  have h1 : 0 ≤ (x &&& (2147483647 : Int32)).toInt := (c_andS x (2147483647 : Int32)).2.2 (by decide)
  have h2 := (c_irem (x &&& (2147483647 : Int32)) (7 : Int32) 7 rfl).1 h1
  have k : ∀ (n : Int) (y : Int32), y.toInt = n → (((x &&& (2147483647 : Int32)) % (7 : Int32))).toInt = n → ((x &&& (2147483647 : Int32)) % (7 : Int32)) = y := fun n y q r => Int32.toInt_inj.mp (r.trans q.symm)
  rcases (show (((x &&& (2147483647 : Int32)) % (7 : Int32))).toInt = 0 ∨ (((x &&& (2147483647 : Int32)) % (7 : Int32))).toInt = 1 ∨ (((x &&& (2147483647 : Int32)) % (7 : Int32))).toInt = 2 ∨ (((x &&& (2147483647 : Int32)) % (7 : Int32))).toInt = 3 ∨ (((x &&& (2147483647 : Int32)) % (7 : Int32))).toInt = 4 ∨ (((x &&& (2147483647 : Int32)) % (7 : Int32))).toInt = 5 ∨ (((x &&& (2147483647 : Int32)) % (7 : Int32))).toInt = 6 by omega) with q | q | q | q | q | q | q
  · exact Or.inl (k 0 0 rfl q)
  · exact Or.inr (Or.inl (k 1 1 rfl q))
  · exact Or.inr (Or.inr (Or.inl (k 2 2 rfl q)))
  · exact Or.inr (Or.inr (Or.inr (Or.inl (k 3 3 rfl q))))
  · exact Or.inr (Or.inr (Or.inr (Or.inr (Or.inl (k 4 4 rfl q)))))
  · exact Or.inr (Or.inr (Or.inr (Or.inr (Or.inr (Or.inl (k 5 5 rfl q))))))
  · exact Or.inr (Or.inr (Or.inr (Or.inr (Or.inr (Or.inr ((k 6 6 rfl q)))))))

def own_nines : Nat → Int64
  | 0 => 0
  | n + 1 => own_nines n * 10 + 9
theorem own_lt {a n : Nat} (hn : n < 64) (ha : a ≤ n) : (Int32.ofNat a < Int32.ofNat n) ↔ a < n := by
  rw [Int32.lt_iff_toInt_lt, Int32.toInt_ofNat_of_lt (by omega), Int32.toInt_ofNat_of_lt (by omega)]; omega
theorem own_up (a : Nat) : Int32.ofNat a + (1 : Int32) = Int32.ofNat (a + 1) := by rw [Int32.ofNat_add]; rfl
theorem own_dig (x : Int32) : ∃ N : Nat, N < 19 ∧ ((x &&& (2147483647 : Int32)) % (19 : Int32)) = Int32.ofNat N := by
  have h1 : 0 ≤ (x &&& (2147483647 : Int32)).toInt := (c_andS x (2147483647 : Int32)).2.2 (by decide)
  have h2 := (c_irem (x &&& (2147483647 : Int32)) (19 : Int32) 19 rfl).1 h1
  refine ⟨((x &&& (2147483647 : Int32)).toInt % 19).toNat, by omega, ?_⟩
  apply Int32.toInt_inj.mp
  rw [h2, Int32.toInt_ofNat_of_lt (by omega)]; omega
theorem own_nat {x : Int32} {N : Nat} (h : x = Int32.ofNat N) (hN : N < 19) : ¬ x < 0 ∧ x.toNatClampNeg = N := by
  have e : x.toInt = N := by rw [h, Int32.toInt_ofNat_of_lt (by omega)]
  have e0 : (0 : Int32).toInt = 0 := rfl
  refine ⟨by rw [Int32.lt_iff_toInt_lt]; omega, ?_⟩
  show x.toInt.toNat = N
  omega
theorem own_tens : ∀ n : Fin 19, own_nines n.1 = (updJ (updJ (updJ (updJ (updJ (updJ (updJ (updJ (updJ (updJ (updJ (updJ (updJ (updJ (updJ (updJ (updJ (updJ (updJ (fun _ => (0 : Int64)) 0 (1 : Int64)) 1 (10 : Int64)) 2 (100 : Int64)) 3 (1000 : Int64)) 4 (10000 : Int64)) 5 (100000 : Int64)) 6 (1000000 : Int64)) 7 (10000000 : Int64)) 8 (100000000 : Int64)) 9 (1000000000 : Int64)) 10 (10000000000 : Int64)) 11 (100000000000 : Int64)) 12 (1000000000000 : Int64)) 13 (10000000000000 : Int64)) 14 (100000000000000 : Int64)) 15 (1000000000000000 : Int64)) 16 (10000000000000000 : Int64)) 17 (100000000000000000 : Int64)) 18 (1000000000000000000 : Int64)) n.1 - (1 : Int64) := by decide +kernel

theorem d1_0 : decode prog_12_method_11_code 0 = .ok (.aload_n 0, 1) := by decide +kernel
theorem d1_1 : decode prog_12_method_11_code 1 = .ok (.getstatic 10, 3) := by decide +kernel
theorem d1_4 : decode prog_12_method_11_code 4 = .ok (.if_acmp .ne 9, 3) := by decide +kernel
theorem d1_7 : decode prog_12_method_11_code 7 = .ok (.iload_n 1, 1) := by decide +kernel
theorem d1_8 : decode prog_12_method_11_code 8 = .ok (.iconst 1, 1) := by decide +kernel
theorem d1_9 : decode prog_12_method_11_code 9 = .ok (.isub, 1) := by decide +kernel
theorem d1_10 : decode prog_12_method_11_code 10 = .ok (.goto 4, 3) := by decide +kernel
theorem d1_14 : decode prog_12_method_11_code 14 = .ok (.istore_n 2, 1) := by decide +kernel
theorem d1_15 : decode prog_12_method_11_code 15 = .ok (.lconst 0, 1) := by decide +kernel
theorem d1_16 : decode prog_12_method_11_code 16 = .ok (.lstore_n 3, 1) := by decide +kernel
theorem d1_17 : decode prog_12_method_11_code 17 = .ok (.iconst 0, 1) := by decide +kernel
theorem d1_18 : decode prog_12_method_11_code 18 = .ok (.istore 5, 2) := by decide +kernel
theorem d1_20 : decode prog_12_method_11_code 20 = .ok (.iload 5, 2) := by decide +kernel
theorem d1_22 : decode prog_12_method_11_code 22 = .ok (.iload_n 2, 1) := by decide +kernel
theorem d1_23 : decode prog_12_method_11_code 23 = .ok (.if_icmp .ge 19, 3) := by decide +kernel
theorem d1_26 : decode prog_12_method_11_code 26 = .ok (.lload_n 3, 1) := by decide +kernel
theorem d1_27 : decode prog_12_method_11_code 27 = .ok (.ldc2_w 141, 3) := by decide +kernel
theorem d1_30 : decode prog_12_method_11_code 30 = .ok (.lmul, 1) := by decide +kernel
theorem d1_31 : decode prog_12_method_11_code 31 = .ok (.ldc2_w 143, 3) := by decide +kernel
theorem d1_34 : decode prog_12_method_11_code 34 = .ok (.ladd, 1) := by decide +kernel
theorem d1_35 : decode prog_12_method_11_code 35 = .ok (.lstore_n 3, 1) := by decide +kernel
theorem d1_36 : decode prog_12_method_11_code 36 = .ok (.iinc 5 1, 3) := by decide +kernel
theorem d1_39 : decode prog_12_method_11_code 39 = .ok (.goto (-19), 3) := by decide +kernel
theorem d1_42 : decode prog_12_method_11_code 42 = .ok (.lload_n 3, 1) := by decide +kernel
theorem d1_43 : decode prog_12_method_11_code 43 = .ok (.lreturn, 1) := by decide +kernel
theorem pn_0 : plainName "com/example/poukaz/poukaz/FieldKind" = true := by first | (simp [plainName, overriddenIn]; done) | decide +kernel
theorem ef_rm1d (m : MethodId) (o_DECIMAL : Addr) (p2 : Int32) : entryFrame m #[(.ref o_DECIMAL), (.int p2)] 6 = mkF m 0 #[.val (.ref o_DECIMAL), .val (.int p2), .unset, .unset, .unset, .unset] [] := by first | (simp [entryFrame, mkF, argsToLocals, Value.category]; done) | rfl
def Q1d (Z : State) (o_DECIMAL : Addr) (p2 : Int32) (N : Nat) (h0 : Heap) (n0 : Nat) (v : Option Value) (h : Heap) (L : List Loc) : Prop := ∃ r : Int64, v = some (.long r) ∧ r = own_nines N ∧ Fr n0 L ∧ h = h0
set_option maxRecDepth 65536 in
set_option maxHeartbeats 40000000 in
theorem rm1d (l : Launch) (Z : State) (a0 : Array Value) (hw : ∀ d ∈ tables_1, d.before a0 Z = true) (ws : List Jvm.Cond) (o_DECIMAL : Addr) (p2 : Int32) (N : Nat) (h0 : Heap) (n0 : Nat) (Z0 : n0 ≤ h0.size) (S_DECIMAL : Sta Z h0 "com/example/poukaz/poukaz/FieldKind" "DECIMAL" "Lcom/example/poukaz/poukaz/FieldKind;" (.ref o_DECIMAL)) (hN : N < 19) (hp : p2 - (1 : Int32) = Int32.ofNat N) :
    MetFree l (⟨"com/example/poukaz/poukaz/FieldKind", "largestNumber", "(I)J"⟩ : MethodName) (head1 (Jvm.Cond.code (⟨"com/example/poukaz/poukaz/FieldKind", "largestNumber", "(I)J"⟩ : MethodName) prog_12_method_11_code 6 (some .long) :: ws) ({ frames := 0, cells := 0, slots := 0, locals := 0 } : Room)) (fun a U => a = #[(.ref o_DECIMAL), (.int p2)] ∧ Z.Warmed39 U.vm ∧ U.heap = h0) (fun _ _ _ _ _ => True) (fun _ U o U' => ∃ v L, o = .returned v ∧ Q1d Z o_DECIMAL p2 N h0 n0 v U'.heap L ∧ FrameEnd U o U' L ({ frames := 0, cells := 0, slots := 0, locals := 0 } : Room).cells ({ frames := 0, cells := 0, slots := 0, locals := 0 } : Room).slots) := by
  refine MetFree.of_bodySF (plainFor_of_name pn_0) hisR ?_
  intro p e s m args below meth c s₁ Bd hml0 hP hK
  obtain ⟨rfl, hZ, hh⟩ := hP
  have hx := Bd.exec
  have hby := Bd.bytes
  have hml : c.maxLocals = 6 := hml0
  have hown : s.vm.findClass "com/example/poukaz/poukaz/FieldKind" = some m.cls := findClass_of_methodNamed Bd.named
  have hnm := (name_of_methodNamed Bd.named Bd.method).1
  have X0 : Stand p l e ({ frames := 0, cells := 0, slots := 0, locals := 0 } : Room) s m #[(.ref o_DECIMAL), (.int p2)] below meth c s₁ [] 0 0 := Stand.of_body Bd
  have e0 : s₁.heap = h0 := by rw [← hh, Bd.state]; rfl
  have N0 := Fr.nil n0
  show GoalS p.tables e below s ({ frames := 0, cells := 0, slots := 0, locals := 0 } : Room).cells ({ frames := 0, cells := 0, slots := 0, locals := 0 } : Room).slots (Q1d Z o_DECIMAL p2 N h0 n0) (s₁.setTop (entryFrame m #[(.ref o_DECIMAL), (.int p2)] 6))
  refine GoalS.lift (B := s₁.setTop (mkF m 0 #[.val (.ref o_DECIMAL), .val (.int p2), .unset, .unset, .unset, .unset] [])) (fun t k => castTop (ef_rm1d m o_DECIMAL p2) k) ?_
  have K0 : Keep h0 h0 [] := Keep.refl _ _
  obtain ⟨T1, X1, e1, st1⟩ := getS2 X0 hx hZ hown (host := "") (Or.inl (hw _ (List.mem_of_getElem? (i := 43) rfl))) Via.refl e0 S_DECIMAL (g := (mkF m 1 #[.val (.ref o_DECIMAL), .val (.int p2), .unset, .unset, .unset, .unset] [(.ref o_DECIMAL)])) rfl (hb hby d1_1)
  refine GoalS.lift (B := (T1.setTop (mkF m 20 #[.val (.ref o_DECIMAL), .val (.int p2), .val (.int (p2 - (1 : Int32))), .val (.long (0 : Int64)), .second, .val (.int (0 : Int32))] []))) (fun t k => ?_) ?_
  · show Steps p.tables e below (s₁.setTop (mkF m 0 #[.val (.ref o_DECIMAL), .val (.int p2), .unset, .unset, .unset, .unset] [])) _
    refine XS.aloadN X0.here hx rfl (hb hby d1_0) rfl rfl ?_
    show Steps p.tables e below (s₁.setTop (mkF m 1 #[.val (.ref o_DECIMAL), .val (.int p2), .unset, .unset, .unset, .unset] [(.ref o_DECIMAL)])) _
    refine st1 _ ?_
    show Steps p.tables e below (T1.setTop (mkF m 4 #[.val (.ref o_DECIMAL), .val (.int p2), .unset, .unset, .unset, .unset] [(.ref o_DECIMAL), (.ref o_DECIMAL)])) _
    refine Jvm.RoadKit.acmp (g := (mkF m 4 #[.val (.ref o_DECIMAL), .val (.int p2), .unset, .unset, .unset, .unset] [(.ref o_DECIMAL), (.ref o_DECIMAL)])) X1 hx rfl rfl rfl (pc0 := 4) (pc' := 7) (same := true) rfl (hb hby d1_4) rfl (decide_eq_true rfl) (by decide) (by decide) ?_
    show Steps p.tables e below (T1.setTop (mkF m 7 #[.val (.ref o_DECIMAL), .val (.int p2), .unset, .unset, .unset, .unset] [])) _
    refine XS.iloadN X1.here hx rfl (hb hby d1_7) rfl ?_
    show Steps p.tables e below (T1.setTop (mkF m 8 #[.val (.ref o_DECIMAL), .val (.int p2), .unset, .unset, .unset, .unset] [(.int p2)])) _
    refine XS.iconst X1.here hx rfl (hb hby d1_8) ?_
    show Steps p.tables e below (T1.setTop (mkF m 9 #[.val (.ref o_DECIMAL), .val (.int p2), .unset, .unset, .unset, .unset] [(.int (1 : Int32)), (.int p2)])) _
    refine XS.isub X1.here hx rfl (hb hby d1_9) rfl ?_
    show Steps p.tables e below (T1.setTop (mkF m 10 #[.val (.ref o_DECIMAL), .val (.int p2), .unset, .unset, .unset, .unset] [(.int (p2 - (1 : Int32)))])) _
    refine XS.goto X1.here hx rfl (pc0 := 10) (pc' := 14) rfl (hb hby d1_10) (by decide) (by decide) ?_
    show Steps p.tables e below (T1.setTop (mkF m 14 #[.val (.ref o_DECIMAL), .val (.int p2), .unset, .unset, .unset, .unset] [(.int (p2 - (1 : Int32)))])) _
    refine XS.istoreN X1.here hx rfl (hb hby d1_14) rfl (l' := #[.val (.ref o_DECIMAL), .val (.int p2), .val (.int (p2 - (1 : Int32))), .unset, .unset, .unset]) rfl ?_
    show Steps p.tables e below (T1.setTop (mkF m 15 #[.val (.ref o_DECIMAL), .val (.int p2), .val (.int (p2 - (1 : Int32))), .unset, .unset, .unset] [])) _
    refine XS.lconst X1.here hx rfl (hb hby d1_15) ?_
    show Steps p.tables e below (T1.setTop (mkF m 16 #[.val (.ref o_DECIMAL), .val (.int p2), .val (.int (p2 - (1 : Int32))), .unset, .unset, .unset] [(.long (0 : Int64))])) _
    refine XS.lstoreN X1.here hx rfl (hb hby d1_16) rfl (l' := #[.val (.ref o_DECIMAL), .val (.int p2), .val (.int (p2 - (1 : Int32))), .val (.long (0 : Int64)), .second, .unset]) rfl ?_
    show Steps p.tables e below (T1.setTop (mkF m 17 #[.val (.ref o_DECIMAL), .val (.int p2), .val (.int (p2 - (1 : Int32))), .val (.long (0 : Int64)), .second, .unset] [])) _
    refine XS.iconst X1.here hx rfl (hb hby d1_17) ?_
    show Steps p.tables e below (T1.setTop (mkF m 18 #[.val (.ref o_DECIMAL), .val (.int p2), .val (.int (p2 - (1 : Int32))), .val (.long (0 : Int64)), .second, .unset] [(.int (0 : Int32))])) _
    refine XS.istore X1.here hx rfl (hb hby d1_18) rfl (l' := #[.val (.ref o_DECIMAL), .val (.int p2), .val (.int (p2 - (1 : Int32))), .val (.long (0 : Int64)), .second, .val (.int (0 : Int32))]) rfl ?_
    show Steps p.tables e below (T1.setTop (mkF m 20 #[.val (.ref o_DECIMAL), .val (.int p2), .val (.int (p2 - (1 : Int32))), .val (.long (0 : Int64)), .second, .val (.int (0 : Int32))] [])) _
    exact k
  have LP2 : ∀ (kk : Nat) (a : Nat) (acc : Int64) (i : Int32), (i = Int32.ofNat a ∧ a + kk = N) → (acc = own_nines a) → GoalS p.tables e below s ({ frames := 0, cells := 0, slots := 0, locals := 0 } : Room).cells ({ frames := 0, cells := 0, slots := 0, locals := 0 } : Room).slots (Q1d Z o_DECIMAL p2 N h0 n0) (T1.setTop (mkF m 20 #[.val (.ref o_DECIMAL), .val (.int p2), .val (.int (p2 - (1 : Int32))), .val (.long acc), .second, .val (.int i)] [])) := by
    intro kk
    induction kk using Nat.strongRecOn with
    | ind kk ih =>
    intro a acc i hi hacc
    refine GoalS.lift (B := (T1.setTop (mkF m 23 #[.val (.ref o_DECIMAL), .val (.int p2), .val (.int (p2 - (1 : Int32))), .val (.long acc), .second, .val (.int i)] [(.int (p2 - (1 : Int32))), (.int i)]))) (fun t k => ?_) ?_
    · show Steps p.tables e below (T1.setTop (mkF m 20 #[.val (.ref o_DECIMAL), .val (.int p2), .val (.int (p2 - (1 : Int32))), .val (.long acc), .second, .val (.int i)] [])) _
      refine XS.iload X1.here hx rfl (hb hby d1_20) rfl ?_
      show Steps p.tables e below (T1.setTop (mkF m 22 #[.val (.ref o_DECIMAL), .val (.int p2), .val (.int (p2 - (1 : Int32))), .val (.long acc), .second, .val (.int i)] [(.int i)])) _
      refine XS.iloadN X1.here hx rfl (hb hby d1_22) rfl ?_
      show Steps p.tables e below (T1.setTop (mkF m 23 #[.val (.ref o_DECIMAL), .val (.int p2), .val (.int (p2 - (1 : Int32))), .val (.long acc), .second, .val (.int i)] [(.int (p2 - (1 : Int32))), (.int i)])) _
      exact k
    by_cases hc23_4 : i < (p2 - (1 : Int32))
    · have hlt : a < N := by rw [hi.1, hp, own_lt (by omega) (by omega)] at hc23_4; exact hc23_4
      refine GoalS.lift (B := (T1.setTop (mkF m 20 #[.val (.ref o_DECIMAL), .val (.int p2), .val (.int (p2 - (1 : Int32))), .val (.long ((acc * (10 : Int64)) + (9 : Int64))), .second, .val (.int (i + (1 : Int32)))] []))) (fun t k => ?_) ?_
      · show Steps p.tables e below (T1.setTop (mkF m 23 #[.val (.ref o_DECIMAL), .val (.int p2), .val (.int (p2 - (1 : Int32))), .val (.long acc), .second, .val (.int i)] [(.int (p2 - (1 : Int32))), (.int i)])) _
        refine XS.icmpNo X1.here hx rfl (hb hby d1_23) rfl ((tlt hc23_4).2.1) ?_
        show Steps p.tables e below (T1.setTop (mkF m 26 #[.val (.ref o_DECIMAL), .val (.int p2), .val (.int (p2 - (1 : Int32))), .val (.long acc), .second, .val (.int i)] [])) _
        refine XS.lloadN X1.here hx rfl (hb hby d1_26) rfl ?_
        show Steps p.tables e below (T1.setTop (mkF m 27 #[.val (.ref o_DECIMAL), .val (.int p2), .val (.int (p2 - (1 : Int32))), .val (.long acc), .second, .val (.int i)] [(.long acc)])) _
        refine X1.ldc2Long hx hown (mvT hZ (hw _ (List.mem_of_getElem? (i := 44) rfl))) (g := (mkF m 27 #[.val (.ref o_DECIMAL), .val (.int p2), .val (.int (p2 - (1 : Int32))), .val (.long acc), .second, .val (.int i)] [(.long acc)])) rfl (hb hby d1_27) _ ?_
        show Steps p.tables e below (T1.setTop (mkF m 30 #[.val (.ref o_DECIMAL), .val (.int p2), .val (.int (p2 - (1 : Int32))), .val (.long acc), .second, .val (.int i)] [(.long (10 : Int64)), (.long acc)])) _
        refine XS.lmul X1.here hx rfl (hb hby d1_30) rfl ?_
        show Steps p.tables e below (T1.setTop (mkF m 31 #[.val (.ref o_DECIMAL), .val (.int p2), .val (.int (p2 - (1 : Int32))), .val (.long acc), .second, .val (.int i)] [(.long (acc * (10 : Int64)))])) _
        refine X1.ldc2Long hx hown (mvT hZ (hw _ (List.mem_of_getElem? (i := 45) rfl))) (g := (mkF m 31 #[.val (.ref o_DECIMAL), .val (.int p2), .val (.int (p2 - (1 : Int32))), .val (.long acc), .second, .val (.int i)] [(.long (acc * (10 : Int64)))])) rfl (hb hby d1_31) _ ?_
        show Steps p.tables e below (T1.setTop (mkF m 34 #[.val (.ref o_DECIMAL), .val (.int p2), .val (.int (p2 - (1 : Int32))), .val (.long acc), .second, .val (.int i)] [(.long (9 : Int64)), (.long (acc * (10 : Int64)))])) _
        refine XS.ladd X1.here hx rfl (hb hby d1_34) rfl ?_
        show Steps p.tables e below (T1.setTop (mkF m 35 #[.val (.ref o_DECIMAL), .val (.int p2), .val (.int (p2 - (1 : Int32))), .val (.long acc), .second, .val (.int i)] [(.long ((acc * (10 : Int64)) + (9 : Int64)))])) _
        refine XS.lstoreN X1.here hx rfl (hb hby d1_35) rfl (l' := #[.val (.ref o_DECIMAL), .val (.int p2), .val (.int (p2 - (1 : Int32))), .val (.long ((acc * (10 : Int64)) + (9 : Int64))), .second, .val (.int i)]) rfl ?_
        show Steps p.tables e below (T1.setTop (mkF m 36 #[.val (.ref o_DECIMAL), .val (.int p2), .val (.int (p2 - (1 : Int32))), .val (.long ((acc * (10 : Int64)) + (9 : Int64))), .second, .val (.int i)] [])) _
        refine XS.iinc X1.here hx rfl (hb hby d1_36) rfl (l' := #[.val (.ref o_DECIMAL), .val (.int p2), .val (.int (p2 - (1 : Int32))), .val (.long ((acc * (10 : Int64)) + (9 : Int64))), .second, .val (.int (i + (1 : Int32)))]) rfl ?_
        show Steps p.tables e below (T1.setTop (mkF m 39 #[.val (.ref o_DECIMAL), .val (.int p2), .val (.int (p2 - (1 : Int32))), .val (.long ((acc * (10 : Int64)) + (9 : Int64))), .second, .val (.int (i + (1 : Int32)))] [])) _
        refine XS.goto X1.here hx rfl (pc0 := 39) (pc' := 20) rfl (hb hby d1_39) (by decide) (by decide) ?_
        show Steps p.tables e below (T1.setTop (mkF m 20 #[.val (.ref o_DECIMAL), .val (.int p2), .val (.int (p2 - (1 : Int32))), .val (.long ((acc * (10 : Int64)) + (9 : Int64))), .second, .val (.int (i + (1 : Int32)))] [])) _
        exact k
      exact ih (kk - 1) (by have := hlt; omega) (a + 1) ((acc * (10 : Int64)) + (9 : Int64)) (i + (1 : Int32)) ⟨by rw [hi.1, own_up], by have := hlt; omega⟩ (by rw [hacc]; rfl)
    · have hlt : ¬ a < N := by rw [hi.1, hp, own_lt (by omega) (by omega)] at hc23_4; exact hc23_4
      obtain ⟨fs, hr, hrun, hended, hW, hsame⟩ := X1.leave (v := some (.long acc)) (fun h => by rw [Bd.returns] at h; cases h)
      refine ⟨_, _, ?_, hrun, hended, _, _, rfl, ?_, ⟨_, rfl⟩, hW, hsame.mono (by decide) (by decide)⟩
      · show Steps p.tables e below (T1.setTop (mkF m 23 #[.val (.ref o_DECIMAL), .val (.int p2), .val (.int (p2 - (1 : Int32))), .val (.long acc), .second, .val (.int i)] [(.int (p2 - (1 : Int32))), (.int i)])) _
        refine XS.icmpYes X1.here hx rfl (pc0 := 23) (pc' := 42) rfl (hb hby d1_23) rfl ((flt hc23_4).2.1) (by decide) (by decide) ?_
        show Steps p.tables e below (T1.setTop (mkF m 42 #[.val (.ref o_DECIMAL), .val (.int p2), .val (.int (p2 - (1 : Int32))), .val (.long acc), .second, .val (.int i)] [])) _
        refine XS.lloadN X1.here hx rfl (hb hby d1_42) rfl ?_
        show Steps p.tables e below (T1.setTop (mkF m 43 #[.val (.ref o_DECIMAL), .val (.int p2), .val (.int (p2 - (1 : Int32))), .val (.long acc), .second, .val (.int i)] [(.long acc)])) _
        exact X1.lreturnOut hx Bd.returns (hb hby d1_43) hr
      · show Q1d Z o_DECIMAL p2 N h0 n0 _ T1.heap _
        exact ⟨_, rfl, (by rw [hacc]; congr 1; have := hlt; omega), N0, e1⟩
  exact LP2 N 0 (0 : Int64) (0 : Int32) ⟨rfl, Nat.zero_add _⟩ rfl
theorem d1_13 : decode prog_12_method_11_code 13 = .ok (.iload_n 1, 1) := by decide +kernel
theorem ef_rm1o (m : MethodId) (a1 : Addr) (p2 : Int32) : entryFrame m #[(.ref a1), (.int p2)] 6 = mkF m 0 #[.val (.ref a1), .val (.int p2), .unset, .unset, .unset, .unset] [] := by first | (simp [entryFrame, mkF, argsToLocals, Value.category]; done) | rfl
def Q1o (Z : State) (a1 : Addr) (p2 : Int32) (o_DECIMAL : Addr) (N : Nat) (h0 : Heap) (n0 : Nat) (v : Option Value) (h : Heap) (L : List Loc) : Prop := ∃ r : Int64, v = some (.long r) ∧ r = own_nines N ∧ Fr n0 L ∧ h = h0
set_option maxRecDepth 65536 in
set_option maxHeartbeats 40000000 in
theorem rm1o (l : Launch) (Z : State) (a0 : Array Value) (hw : ∀ d ∈ tables_1, d.before a0 Z = true) (ws : List Jvm.Cond) (a1 : Addr) (p2 : Int32) (o_DECIMAL : Addr) (N : Nat) (h0 : Heap) (n0 : Nat) (Z0 : n0 ≤ h0.size) (S_DECIMAL : Sta Z h0 "com/example/poukaz/poukaz/FieldKind" "DECIMAL" "Lcom/example/poukaz/poukaz/FieldKind;" (.ref o_DECIMAL)) (ne_a1_o_DECIMAL : a1 ≠ o_DECIMAL) (hN : N < 19) (hp : p2 = Int32.ofNat N) :
    MetFree l (⟨"com/example/poukaz/poukaz/FieldKind", "largestNumber", "(I)J"⟩ : MethodName) (head1 (Jvm.Cond.code (⟨"com/example/poukaz/poukaz/FieldKind", "largestNumber", "(I)J"⟩ : MethodName) prog_12_method_11_code 6 (some .long) :: ws) ({ frames := 0, cells := 0, slots := 0, locals := 0 } : Room)) (fun a U => a = #[(.ref a1), (.int p2)] ∧ Z.Warmed39 U.vm ∧ U.heap = h0) (fun _ _ _ _ _ => True) (fun _ U o U' => ∃ v L, o = .returned v ∧ Q1o Z a1 p2 o_DECIMAL N h0 n0 v U'.heap L ∧ FrameEnd U o U' L ({ frames := 0, cells := 0, slots := 0, locals := 0 } : Room).cells ({ frames := 0, cells := 0, slots := 0, locals := 0 } : Room).slots) := by
  refine MetFree.of_bodySF (plainFor_of_name pn_0) hisR ?_
  intro p e s m args below meth c s₁ Bd hml0 hP hK
  obtain ⟨rfl, hZ, hh⟩ := hP
  have hx := Bd.exec
  have hby := Bd.bytes
  have hml : c.maxLocals = 6 := hml0
  have hown : s.vm.findClass "com/example/poukaz/poukaz/FieldKind" = some m.cls := findClass_of_methodNamed Bd.named
  have hnm := (name_of_methodNamed Bd.named Bd.method).1
  have X0 : Stand p l e ({ frames := 0, cells := 0, slots := 0, locals := 0 } : Room) s m #[(.ref a1), (.int p2)] below meth c s₁ [] 0 0 := Stand.of_body Bd
  have e0 : s₁.heap = h0 := by rw [← hh, Bd.state]; rfl
  have N0 := Fr.nil n0
  show GoalS p.tables e below s ({ frames := 0, cells := 0, slots := 0, locals := 0 } : Room).cells ({ frames := 0, cells := 0, slots := 0, locals := 0 } : Room).slots (Q1o Z a1 p2 o_DECIMAL N h0 n0) (s₁.setTop (entryFrame m #[(.ref a1), (.int p2)] 6))
  refine GoalS.lift (B := s₁.setTop (mkF m 0 #[.val (.ref a1), .val (.int p2), .unset, .unset, .unset, .unset] [])) (fun t k => castTop (ef_rm1o m a1 p2) k) ?_
  have K0 : Keep h0 h0 [] := Keep.refl _ _
  obtain ⟨T1, X1, e1, st1⟩ := getS2 X0 hx hZ hown (host := "") (Or.inl (hw _ (List.mem_of_getElem? (i := 43) rfl))) Via.refl e0 S_DECIMAL (g := (mkF m 1 #[.val (.ref a1), .val (.int p2), .unset, .unset, .unset, .unset] [(.ref a1)])) rfl (hb hby d1_1)
  refine GoalS.lift (B := (T1.setTop (mkF m 20 #[.val (.ref a1), .val (.int p2), .val (.int p2), .val (.long (0 : Int64)), .second, .val (.int (0 : Int32))] []))) (fun t k => ?_) ?_
  · show Steps p.tables e below (s₁.setTop (mkF m 0 #[.val (.ref a1), .val (.int p2), .unset, .unset, .unset, .unset] [])) _
    refine XS.aloadN X0.here hx rfl (hb hby d1_0) rfl rfl ?_
    show Steps p.tables e below (s₁.setTop (mkF m 1 #[.val (.ref a1), .val (.int p2), .unset, .unset, .unset, .unset] [(.ref a1)])) _
    refine st1 _ ?_
    show Steps p.tables e below (T1.setTop (mkF m 4 #[.val (.ref a1), .val (.int p2), .unset, .unset, .unset, .unset] [(.ref o_DECIMAL), (.ref a1)])) _
    refine Jvm.RoadKit.acmp (g := (mkF m 4 #[.val (.ref a1), .val (.int p2), .unset, .unset, .unset, .unset] [(.ref o_DECIMAL), (.ref a1)])) X1 hx rfl rfl rfl (pc0 := 4) (pc' := 13) (same := false) rfl (hb hby d1_4) rfl (decide_eq_false fun q => ne_a1_o_DECIMAL (Value.ref.inj q)) (by decide) (by decide) ?_
    show Steps p.tables e below (T1.setTop (mkF m 13 #[.val (.ref a1), .val (.int p2), .unset, .unset, .unset, .unset] [])) _
    refine XS.iloadN X1.here hx rfl (hb hby d1_13) rfl ?_
    show Steps p.tables e below (T1.setTop (mkF m 14 #[.val (.ref a1), .val (.int p2), .unset, .unset, .unset, .unset] [(.int p2)])) _
    refine XS.istoreN X1.here hx rfl (hb hby d1_14) rfl (l' := #[.val (.ref a1), .val (.int p2), .val (.int p2), .unset, .unset, .unset]) rfl ?_
    show Steps p.tables e below (T1.setTop (mkF m 15 #[.val (.ref a1), .val (.int p2), .val (.int p2), .unset, .unset, .unset] [])) _
    refine XS.lconst X1.here hx rfl (hb hby d1_15) ?_
    show Steps p.tables e below (T1.setTop (mkF m 16 #[.val (.ref a1), .val (.int p2), .val (.int p2), .unset, .unset, .unset] [(.long (0 : Int64))])) _
    refine XS.lstoreN X1.here hx rfl (hb hby d1_16) rfl (l' := #[.val (.ref a1), .val (.int p2), .val (.int p2), .val (.long (0 : Int64)), .second, .unset]) rfl ?_
    show Steps p.tables e below (T1.setTop (mkF m 17 #[.val (.ref a1), .val (.int p2), .val (.int p2), .val (.long (0 : Int64)), .second, .unset] [])) _
    refine XS.iconst X1.here hx rfl (hb hby d1_17) ?_
    show Steps p.tables e below (T1.setTop (mkF m 18 #[.val (.ref a1), .val (.int p2), .val (.int p2), .val (.long (0 : Int64)), .second, .unset] [(.int (0 : Int32))])) _
    refine XS.istore X1.here hx rfl (hb hby d1_18) rfl (l' := #[.val (.ref a1), .val (.int p2), .val (.int p2), .val (.long (0 : Int64)), .second, .val (.int (0 : Int32))]) rfl ?_
    show Steps p.tables e below (T1.setTop (mkF m 20 #[.val (.ref a1), .val (.int p2), .val (.int p2), .val (.long (0 : Int64)), .second, .val (.int (0 : Int32))] [])) _
    exact k
  have LP2 : ∀ (kk : Nat) (a : Nat) (acc : Int64) (i : Int32), (i = Int32.ofNat a ∧ a + kk = N) → (acc = own_nines a) → GoalS p.tables e below s ({ frames := 0, cells := 0, slots := 0, locals := 0 } : Room).cells ({ frames := 0, cells := 0, slots := 0, locals := 0 } : Room).slots (Q1o Z a1 p2 o_DECIMAL N h0 n0) (T1.setTop (mkF m 20 #[.val (.ref a1), .val (.int p2), .val (.int p2), .val (.long acc), .second, .val (.int i)] [])) := by
    intro kk
    induction kk using Nat.strongRecOn with
    | ind kk ih =>
    intro a acc i hi hacc
    refine GoalS.lift (B := (T1.setTop (mkF m 23 #[.val (.ref a1), .val (.int p2), .val (.int p2), .val (.long acc), .second, .val (.int i)] [(.int p2), (.int i)]))) (fun t k => ?_) ?_
    · show Steps p.tables e below (T1.setTop (mkF m 20 #[.val (.ref a1), .val (.int p2), .val (.int p2), .val (.long acc), .second, .val (.int i)] [])) _
      refine XS.iload X1.here hx rfl (hb hby d1_20) rfl ?_
      show Steps p.tables e below (T1.setTop (mkF m 22 #[.val (.ref a1), .val (.int p2), .val (.int p2), .val (.long acc), .second, .val (.int i)] [(.int i)])) _
      refine XS.iloadN X1.here hx rfl (hb hby d1_22) rfl ?_
      show Steps p.tables e below (T1.setTop (mkF m 23 #[.val (.ref a1), .val (.int p2), .val (.int p2), .val (.long acc), .second, .val (.int i)] [(.int p2), (.int i)])) _
      exact k
    by_cases hc23_4 : i < p2
    · have hlt : a < N := by rw [hi.1, hp, own_lt (by omega) (by omega)] at hc23_4; exact hc23_4
      refine GoalS.lift (B := (T1.setTop (mkF m 20 #[.val (.ref a1), .val (.int p2), .val (.int p2), .val (.long ((acc * (10 : Int64)) + (9 : Int64))), .second, .val (.int (i + (1 : Int32)))] []))) (fun t k => ?_) ?_
      · show Steps p.tables e below (T1.setTop (mkF m 23 #[.val (.ref a1), .val (.int p2), .val (.int p2), .val (.long acc), .second, .val (.int i)] [(.int p2), (.int i)])) _
        refine XS.icmpNo X1.here hx rfl (hb hby d1_23) rfl ((tlt hc23_4).2.1) ?_
        show Steps p.tables e below (T1.setTop (mkF m 26 #[.val (.ref a1), .val (.int p2), .val (.int p2), .val (.long acc), .second, .val (.int i)] [])) _
        refine XS.lloadN X1.here hx rfl (hb hby d1_26) rfl ?_
        show Steps p.tables e below (T1.setTop (mkF m 27 #[.val (.ref a1), .val (.int p2), .val (.int p2), .val (.long acc), .second, .val (.int i)] [(.long acc)])) _
        refine X1.ldc2Long hx hown (mvT hZ (hw _ (List.mem_of_getElem? (i := 44) rfl))) (g := (mkF m 27 #[.val (.ref a1), .val (.int p2), .val (.int p2), .val (.long acc), .second, .val (.int i)] [(.long acc)])) rfl (hb hby d1_27) _ ?_
        show Steps p.tables e below (T1.setTop (mkF m 30 #[.val (.ref a1), .val (.int p2), .val (.int p2), .val (.long acc), .second, .val (.int i)] [(.long (10 : Int64)), (.long acc)])) _
        refine XS.lmul X1.here hx rfl (hb hby d1_30) rfl ?_
        show Steps p.tables e below (T1.setTop (mkF m 31 #[.val (.ref a1), .val (.int p2), .val (.int p2), .val (.long acc), .second, .val (.int i)] [(.long (acc * (10 : Int64)))])) _
        refine X1.ldc2Long hx hown (mvT hZ (hw _ (List.mem_of_getElem? (i := 45) rfl))) (g := (mkF m 31 #[.val (.ref a1), .val (.int p2), .val (.int p2), .val (.long acc), .second, .val (.int i)] [(.long (acc * (10 : Int64)))])) rfl (hb hby d1_31) _ ?_
        show Steps p.tables e below (T1.setTop (mkF m 34 #[.val (.ref a1), .val (.int p2), .val (.int p2), .val (.long acc), .second, .val (.int i)] [(.long (9 : Int64)), (.long (acc * (10 : Int64)))])) _
        refine XS.ladd X1.here hx rfl (hb hby d1_34) rfl ?_
        show Steps p.tables e below (T1.setTop (mkF m 35 #[.val (.ref a1), .val (.int p2), .val (.int p2), .val (.long acc), .second, .val (.int i)] [(.long ((acc * (10 : Int64)) + (9 : Int64)))])) _
        refine XS.lstoreN X1.here hx rfl (hb hby d1_35) rfl (l' := #[.val (.ref a1), .val (.int p2), .val (.int p2), .val (.long ((acc * (10 : Int64)) + (9 : Int64))), .second, .val (.int i)]) rfl ?_
        show Steps p.tables e below (T1.setTop (mkF m 36 #[.val (.ref a1), .val (.int p2), .val (.int p2), .val (.long ((acc * (10 : Int64)) + (9 : Int64))), .second, .val (.int i)] [])) _
        refine XS.iinc X1.here hx rfl (hb hby d1_36) rfl (l' := #[.val (.ref a1), .val (.int p2), .val (.int p2), .val (.long ((acc * (10 : Int64)) + (9 : Int64))), .second, .val (.int (i + (1 : Int32)))]) rfl ?_
        show Steps p.tables e below (T1.setTop (mkF m 39 #[.val (.ref a1), .val (.int p2), .val (.int p2), .val (.long ((acc * (10 : Int64)) + (9 : Int64))), .second, .val (.int (i + (1 : Int32)))] [])) _
        refine XS.goto X1.here hx rfl (pc0 := 39) (pc' := 20) rfl (hb hby d1_39) (by decide) (by decide) ?_
        show Steps p.tables e below (T1.setTop (mkF m 20 #[.val (.ref a1), .val (.int p2), .val (.int p2), .val (.long ((acc * (10 : Int64)) + (9 : Int64))), .second, .val (.int (i + (1 : Int32)))] [])) _
        exact k
      exact ih (kk - 1) (by have := hlt; omega) (a + 1) ((acc * (10 : Int64)) + (9 : Int64)) (i + (1 : Int32)) ⟨by rw [hi.1, own_up], by have := hlt; omega⟩ (by rw [hacc]; rfl)
    · have hlt : ¬ a < N := by rw [hi.1, hp, own_lt (by omega) (by omega)] at hc23_4; exact hc23_4
      obtain ⟨fs, hr, hrun, hended, hW, hsame⟩ := X1.leave (v := some (.long acc)) (fun h => by rw [Bd.returns] at h; cases h)
      refine ⟨_, _, ?_, hrun, hended, _, _, rfl, ?_, ⟨_, rfl⟩, hW, hsame.mono (by decide) (by decide)⟩
      · show Steps p.tables e below (T1.setTop (mkF m 23 #[.val (.ref a1), .val (.int p2), .val (.int p2), .val (.long acc), .second, .val (.int i)] [(.int p2), (.int i)])) _
        refine XS.icmpYes X1.here hx rfl (pc0 := 23) (pc' := 42) rfl (hb hby d1_23) rfl ((flt hc23_4).2.1) (by decide) (by decide) ?_
        show Steps p.tables e below (T1.setTop (mkF m 42 #[.val (.ref a1), .val (.int p2), .val (.int p2), .val (.long acc), .second, .val (.int i)] [])) _
        refine XS.lloadN X1.here hx rfl (hb hby d1_42) rfl ?_
        show Steps p.tables e below (T1.setTop (mkF m 43 #[.val (.ref a1), .val (.int p2), .val (.int p2), .val (.long acc), .second, .val (.int i)] [(.long acc)])) _
        exact X1.lreturnOut hx Bd.returns (hb hby d1_43) hr
      · show Q1o Z a1 p2 o_DECIMAL N h0 n0 _ T1.heap _
        exact ⟨_, rfl, (by rw [hacc]; congr 1; have := hlt; omega), N0, e1⟩
  exact LP2 N 0 (0 : Int64) (0 : Int32) ⟨rfl, Nat.zero_add _⟩ rfl
theorem pn_1 : plainName "com/example/poukaz/poukaz/FieldKindLargestNumberPinLaw" = true := by first | (simp [plainName, overriddenIn]; done) | decide +kernel
theorem pd_0 : parseMethodDescriptor "(I)J" = some ⟨[.int], some .long⟩ := by decide +kernel
theorem ef_rm0 (m : MethodId) (p1 : Int32) (p2 : Int32) : entryFrame m #[(.int p1), (.int p2)] maxLocals = mkF m 0 #[.val (.int p1), .val (.int p2), .unset, .unset, .unset, .unset, .unset] [] := by first | (simp [entryFrame, mkF, argsToLocals, Value.category, maxLocals]; done) | rfl
def Q0 (Z : State) (p1 : Int32) (p2 : Int32) (o_NUMBER : Addr) (o_NUMBER_OR_BLANK : Addr) (o_DECIMAL : Addr) (o_DATE : Addr) (o_DATE_OR_ZEROS : Addr) (o_POSTAL_CODE : Addr) (o_TEXT : Addr) (h0 : Heap) (n0 : Nat) (v : Option Value) (h : Heap) (L : List Loc) : Prop := v = some (.int (1 : Int32)) ∧ Fr n0 L
set_option maxRecDepth 65536 in
set_option maxHeartbeats 40000000 in
theorem rm0 (l : Launch) (Z : State) (a0 : Array Value) (hw : ∀ d ∈ tables_1, d.before a0 Z = true) (ws : List Jvm.Cond) (p1 : Int32) (p2 : Int32) (o_NUMBER : Addr) (o_NUMBER_OR_BLANK : Addr) (o_DECIMAL : Addr) (o_DATE : Addr) (o_DATE_OR_ZEROS : Addr) (o_POSTAL_CODE : Addr) (o_TEXT : Addr) (h0 : Heap) (n0 : Nat) (Z0 : n0 ≤ h0.size) (S_NUMBER : Sta Z h0 "com/example/poukaz/poukaz/FieldKind" "NUMBER" "Lcom/example/poukaz/poukaz/FieldKind;" (.ref o_NUMBER)) (E_o_NUMBER : Exa Z h0 o_NUMBER "com/example/poukaz/poukaz/FieldKind") (S_NUMBER_OR_BLANK : Sta Z h0 "com/example/poukaz/poukaz/FieldKind" "NUMBER_OR_BLANK" "Lcom/example/poukaz/poukaz/FieldKind;" (.ref o_NUMBER_OR_BLANK)) (E_o_NUMBER_OR_BLANK : Exa Z h0 o_NUMBER_OR_BLANK "com/example/poukaz/poukaz/FieldKind") (S_DECIMAL : Sta Z h0 "com/example/poukaz/poukaz/FieldKind" "DECIMAL" "Lcom/example/poukaz/poukaz/FieldKind;" (.ref o_DECIMAL)) (E_o_DECIMAL : Exa Z h0 o_DECIMAL "com/example/poukaz/poukaz/FieldKind") (S_DATE : Sta Z h0 "com/example/poukaz/poukaz/FieldKind" "DATE" "Lcom/example/poukaz/poukaz/FieldKind;" (.ref o_DATE)) (E_o_DATE : Exa Z h0 o_DATE "com/example/poukaz/poukaz/FieldKind") (S_DATE_OR_ZEROS : Sta Z h0 "com/example/poukaz/poukaz/FieldKind" "DATE_OR_ZEROS" "Lcom/example/poukaz/poukaz/FieldKind;" (.ref o_DATE_OR_ZEROS)) (E_o_DATE_OR_ZEROS : Exa Z h0 o_DATE_OR_ZEROS "com/example/poukaz/poukaz/FieldKind") (S_POSTAL_CODE : Sta Z h0 "com/example/poukaz/poukaz/FieldKind" "POSTAL_CODE" "Lcom/example/poukaz/poukaz/FieldKind;" (.ref o_POSTAL_CODE)) (E_o_POSTAL_CODE : Exa Z h0 o_POSTAL_CODE "com/example/poukaz/poukaz/FieldKind") (S_TEXT : Sta Z h0 "com/example/poukaz/poukaz/FieldKind" "TEXT" "Lcom/example/poukaz/poukaz/FieldKind;" (.ref o_TEXT)) (E_o_TEXT : Exa Z h0 o_TEXT "com/example/poukaz/poukaz/FieldKind") (F_ordinal_o_NUMBER : Fld Z h0 o_NUMBER "java/lang/Enum" "ordinal" "I" (.int (0 : Int32))) (F_ordinal_o_DECIMAL : Fld Z h0 o_DECIMAL "java/lang/Enum" "ordinal" "I" (.int (2 : Int32))) (F_ordinal_o_DATE : Fld Z h0 o_DATE "java/lang/Enum" "ordinal" "I" (.int (3 : Int32))) (F_ordinal_o_NUMBER_OR_BLANK : Fld Z h0 o_NUMBER_OR_BLANK "java/lang/Enum" "ordinal" "I" (.int (1 : Int32))) (F_ordinal_o_DATE_OR_ZEROS : Fld Z h0 o_DATE_OR_ZEROS "java/lang/Enum" "ordinal" "I" (.int (4 : Int32))) (F_ordinal_o_TEXT : Fld Z h0 o_TEXT "java/lang/Enum" "ordinal" "I" (.int (6 : Int32))) (F_ordinal_o_POSTAL_CODE : Fld Z h0 o_POSTAL_CODE "java/lang/Enum" "ordinal" "I" (.int (5 : Int32))) (ne_o_NUMBER_o_DECIMAL : o_NUMBER ≠ o_DECIMAL) (ne_o_NUMBER_o_DATE : o_NUMBER ≠ o_DATE) (ne_o_NUMBER_o_NUMBER_OR_BLANK : o_NUMBER ≠ o_NUMBER_OR_BLANK) (ne_o_NUMBER_o_DATE_OR_ZEROS : o_NUMBER ≠ o_DATE_OR_ZEROS) (ne_o_NUMBER_o_TEXT : o_NUMBER ≠ o_TEXT) (ne_o_NUMBER_o_POSTAL_CODE : o_NUMBER ≠ o_POSTAL_CODE) (ne_o_DECIMAL_o_DATE : o_DECIMAL ≠ o_DATE) (ne_o_DECIMAL_o_NUMBER_OR_BLANK : o_DECIMAL ≠ o_NUMBER_OR_BLANK) (ne_o_DECIMAL_o_DATE_OR_ZEROS : o_DECIMAL ≠ o_DATE_OR_ZEROS) (ne_o_DECIMAL_o_TEXT : o_DECIMAL ≠ o_TEXT) (ne_o_DECIMAL_o_POSTAL_CODE : o_DECIMAL ≠ o_POSTAL_CODE) (ne_o_DATE_o_NUMBER_OR_BLANK : o_DATE ≠ o_NUMBER_OR_BLANK) (ne_o_DATE_o_DATE_OR_ZEROS : o_DATE ≠ o_DATE_OR_ZEROS) (ne_o_DATE_o_TEXT : o_DATE ≠ o_TEXT) (ne_o_DATE_o_POSTAL_CODE : o_DATE ≠ o_POSTAL_CODE) (ne_o_NUMBER_OR_BLANK_o_DATE_OR_ZEROS : o_NUMBER_OR_BLANK ≠ o_DATE_OR_ZEROS) (ne_o_NUMBER_OR_BLANK_o_TEXT : o_NUMBER_OR_BLANK ≠ o_TEXT) (ne_o_NUMBER_OR_BLANK_o_POSTAL_CODE : o_NUMBER_OR_BLANK ≠ o_POSTAL_CODE) (ne_o_DATE_OR_ZEROS_o_TEXT : o_DATE_OR_ZEROS ≠ o_TEXT) (ne_o_DATE_OR_ZEROS_o_POSTAL_CODE : o_DATE_OR_ZEROS ≠ o_POSTAL_CODE) (ne_o_TEXT_o_POSTAL_CODE : o_TEXT ≠ o_POSTAL_CODE) :
    MetFree l x (head1 (Jvm.Cond.code x code maxLocals ret :: ws) room_1) (fun a U => a = #[(.int p1), (.int p2)] ∧ Z.Warmed39 U.vm ∧ U.heap = h0) (fun _ _ _ _ _ => True) (fun _ U o U' => ∃ v L, o = .returned v ∧ Q0 Z p1 p2 o_NUMBER o_NUMBER_OR_BLANK o_DECIMAL o_DATE o_DATE_OR_ZEROS o_POSTAL_CODE o_TEXT h0 n0 v U'.heap L ∧ FrameEnd U o U' L 16 128) := by
  refine MetFree.of_bodySF (plainFor_of_name pn_1) hisR ?_
  intro p e s m args below meth c s₁ Bd hml0 hP hK
  obtain ⟨rfl, hZ, hh⟩ := hP
  have hx := Bd.exec
  have hby := Bd.bytes
  have hml : c.maxLocals = 7 := hml0
  have hown : s.vm.findClass "com/example/poukaz/poukaz/FieldKindLargestNumberPinLaw" = some m.cls := findClass_of_methodNamed Bd.named
  have hnm := (name_of_methodNamed Bd.named Bd.method).1
  have X0 : Stand p l e room_1 s m #[(.int p1), (.int p2)] below meth c s₁ [] 0 0 := Stand.of_body Bd
  have e0 : s₁.heap = h0 := by rw [← hh, Bd.state]; rfl
  have N0 := Fr.nil n0
  show GoalS p.tables e below s 16 128 (Q0 Z p1 p2 o_NUMBER o_NUMBER_OR_BLANK o_DECIMAL o_DATE o_DATE_OR_ZEROS o_POSTAL_CODE o_TEXT h0 n0) (s₁.setTop (entryFrame m #[(.int p1), (.int p2)] maxLocals))
  refine GoalS.lift (B := s₁.setTop (mkF m 0 #[.val (.int p1), .val (.int p2), .unset, .unset, .unset, .unset, .unset] [])) (fun t k => castTop (ef_rm0 m p1 p2) k) ?_
  obtain ⟨T1, h1, k1, X1, e1, E1, A1, O1, st1⟩ := newR X0 hx hZ hown (hw _ (List.mem_of_getElem? (i := 0) rfl)) (hw _ (List.mem_of_getElem? (i := 1) rfl)) e0 (g := (mkF m 2 #[.val (.int p1), .val (.int p2), .unset, .unset, .unset, .unset, .unset] [(.int (7 : Int32))])) rfl (hb hby at_2) rfl (by decide) (cap := 7) (by decide) (by decide) (by decide) (by decide)
  obtain ⟨b1, g1⟩ : ∃ z, z = h0.size := ⟨_, rfl⟩
  rw [← g1] at A1 st1
  have g_b1 : n0 ≤ b1 := Nat.le_trans Z0 (Nat.le_of_eq g1.symm)
  have ne_o_NUMBER_b1 : o_NUMBER ≠ b1 := Nat.ne_of_lt (Nat.lt_of_lt_of_le E_o_NUMBER.lt (Nat.le_of_eq g1.symm))
  have ne_o_NUMBER_OR_BLANK_b1 : o_NUMBER_OR_BLANK ≠ b1 := Nat.ne_of_lt (Nat.lt_of_lt_of_le E_o_NUMBER_OR_BLANK.lt (Nat.le_of_eq g1.symm))
  have ne_o_DECIMAL_b1 : o_DECIMAL ≠ b1 := Nat.ne_of_lt (Nat.lt_of_lt_of_le E_o_DECIMAL.lt (Nat.le_of_eq g1.symm))
  have ne_o_DATE_b1 : o_DATE ≠ b1 := Nat.ne_of_lt (Nat.lt_of_lt_of_le E_o_DATE.lt (Nat.le_of_eq g1.symm))
  have ne_o_DATE_OR_ZEROS_b1 : o_DATE_OR_ZEROS ≠ b1 := Nat.ne_of_lt (Nat.lt_of_lt_of_le E_o_DATE_OR_ZEROS.lt (Nat.le_of_eq g1.symm))
  have ne_o_POSTAL_CODE_b1 : o_POSTAL_CODE ≠ b1 := Nat.ne_of_lt (Nat.lt_of_lt_of_le E_o_POSTAL_CODE.lt (Nat.le_of_eq g1.symm))
  have ne_o_TEXT_b1 : o_TEXT ≠ b1 := Nat.ne_of_lt (Nat.lt_of_lt_of_le E_o_TEXT.lt (Nat.le_of_eq g1.symm))
  have z2 : n0 ≤ h1.size := Nat.le_trans Z0 E1.1
  have V1 : AV Z h1 b1 k1 (.object "com/example/poukaz/poukaz/FieldKind") 7 (fun _ => Value.null) := AV.new A1 (by decide) (by decide) (by decide)
  have f3 : Sta Z h1 "com/example/poukaz/poukaz/FieldKind" "NUMBER" "Lcom/example/poukaz/poukaz/FieldKind;" (.ref o_NUMBER) := (S_NUMBER.ext E1)
  obtain ⟨T4, X4, e4, st4⟩ := getS2 X1 hx hZ hown (host := "") (Or.inl (hw _ (List.mem_of_getElem? (i := 2) rfl))) Via.refl e1 f3 (g := (mkF m 7 #[.val (.int p1), .val (.int p2), .unset, .unset, .unset, .unset, .unset] [(.int (0 : Int32)), (.ref b1), (.ref b1)])) rfl (hb hby at_7)
  obtain ⟨cl5, Ar5, kc5, sz5, -, -⟩ := id V1
  have hin5 : ¬ ((0 : Int32) < 0 ∨ cl5.slots.size ≤ ((0 : Int32)).toNatClampNeg) := AV.inb sz5 (show ¬ (0 : Int32) < 0 ∧ ((0 : Int32)).toNatClampNeg < 7 by decide)
  have f6 : Exa Z h1 o_NUMBER "com/example/poukaz/poukaz/FieldKind" := (E_o_NUMBER.ext E1)
  obtain ⟨T5, h5, X5, e5, W5, st5⟩ := stR X4 hx hZ e4 Ar5 (j := (0 : Int32)) hin5 rfl (Sto.ofV Ar5 kc5 O1 (Ins.self f6)) (g := (mkF m 10 #[.val (.int p1), .val (.int p2), .unset, .unset, .unset, .unset, .unset] [(.ref o_NUMBER), (.int (0 : Int32)), (.ref b1), (.ref b1)])) rfl rfl (hb hby at_10)
  have z7 : n0 ≤ h5.size := Nat.le_trans z2 (Keep.of_wr W5).1
  have V5 : AV Z h5 b1 k1 (.object "com/example/poukaz/poukaz/FieldKind") 7 (updR (fun _ => Value.null) 0 (.ref o_NUMBER)) := AV.putR V1 W5 (AV.inx (show ¬ (0 : Int32) < 0 ∧ ((0 : Int32)).toNatClampNeg < 7 by decide))
  have N5 := Fr.snoc X5 N0 g_b1
  have f8 : Sta Z h5 "com/example/poukaz/poukaz/FieldKind" "NUMBER_OR_BLANK" "Lcom/example/poukaz/poukaz/FieldKind;" (.ref o_NUMBER_OR_BLANK) := ((S_NUMBER_OR_BLANK.ext E1).wr W5)
  obtain ⟨T9, X9, e9, st9⟩ := getS2 X5 hx hZ hown (host := "") (Or.inl (hw _ (List.mem_of_getElem? (i := 6) rfl))) Via.refl e5 f8 (g := (mkF m 13 #[.val (.int p1), .val (.int p2), .unset, .unset, .unset, .unset, .unset] [(.int (1 : Int32)), (.ref b1), (.ref b1)])) rfl (hb hby at_13)
  obtain ⟨cl10, Ar10, kc10, sz10, -, -⟩ := id V5
  have hin10 : ¬ ((1 : Int32) < 0 ∨ cl10.slots.size ≤ ((1 : Int32)).toNatClampNeg) := AV.inb sz10 (show ¬ (1 : Int32) < 0 ∧ ((1 : Int32)).toNatClampNeg < 7 by decide)
  have f11 : Exa Z h5 o_NUMBER_OR_BLANK "com/example/poukaz/poukaz/FieldKind" := ((E_o_NUMBER_OR_BLANK.ext E1).wr W5)
  obtain ⟨T10, h10, X10, e10, W10, st10⟩ := stR X9 hx hZ e9 Ar10 (j := (1 : Int32)) hin10 rfl (Sto.ofV Ar10 kc10 O1 (Ins.self f11)) (g := (mkF m 16 #[.val (.int p1), .val (.int p2), .unset, .unset, .unset, .unset, .unset] [(.ref o_NUMBER_OR_BLANK), (.int (1 : Int32)), (.ref b1), (.ref b1)])) rfl rfl (hb hby at_16)
  have z12 : n0 ≤ h10.size := Nat.le_trans z7 (Keep.of_wr W10).1
  have V10 : AV Z h10 b1 k1 (.object "com/example/poukaz/poukaz/FieldKind") 7 (updR (updR (fun _ => Value.null) 0 (.ref o_NUMBER)) 1 (.ref o_NUMBER_OR_BLANK)) := AV.putR V5 W10 (AV.inx (show ¬ (1 : Int32) < 0 ∧ ((1 : Int32)).toNatClampNeg < 7 by decide))
  have N10 := Fr.snoc X10 N5 g_b1
  have f13 : Sta Z h10 "com/example/poukaz/poukaz/FieldKind" "DECIMAL" "Lcom/example/poukaz/poukaz/FieldKind;" (.ref o_DECIMAL) := (((S_DECIMAL.ext E1).wr W5).wr W10)
  obtain ⟨T14, X14, e14, st14⟩ := getS2 X10 hx hZ hown (host := "") (Or.inl (hw _ (List.mem_of_getElem? (i := 8) rfl))) Via.refl e10 f13 (g := (mkF m 19 #[.val (.int p1), .val (.int p2), .unset, .unset, .unset, .unset, .unset] [(.int (2 : Int32)), (.ref b1), (.ref b1)])) rfl (hb hby at_19)
  obtain ⟨cl15, Ar15, kc15, sz15, -, -⟩ := id V10
  have hin15 : ¬ ((2 : Int32) < 0 ∨ cl15.slots.size ≤ ((2 : Int32)).toNatClampNeg) := AV.inb sz15 (show ¬ (2 : Int32) < 0 ∧ ((2 : Int32)).toNatClampNeg < 7 by decide)
  have f16 : Exa Z h10 o_DECIMAL "com/example/poukaz/poukaz/FieldKind" := (((E_o_DECIMAL.ext E1).wr W5).wr W10)
  obtain ⟨T15, h15, X15, e15, W15, st15⟩ := stR X14 hx hZ e14 Ar15 (j := (2 : Int32)) hin15 rfl (Sto.ofV Ar15 kc15 O1 (Ins.self f16)) (g := (mkF m 22 #[.val (.int p1), .val (.int p2), .unset, .unset, .unset, .unset, .unset] [(.ref o_DECIMAL), (.int (2 : Int32)), (.ref b1), (.ref b1)])) rfl rfl (hb hby at_22)
  have z17 : n0 ≤ h15.size := Nat.le_trans z12 (Keep.of_wr W15).1
  have V15 : AV Z h15 b1 k1 (.object "com/example/poukaz/poukaz/FieldKind") 7 (updR (updR (updR (fun _ => Value.null) 0 (.ref o_NUMBER)) 1 (.ref o_NUMBER_OR_BLANK)) 2 (.ref o_DECIMAL)) := AV.putR V10 W15 (AV.inx (show ¬ (2 : Int32) < 0 ∧ ((2 : Int32)).toNatClampNeg < 7 by decide))
  have N15 := Fr.snoc X15 N10 g_b1
  have f18 : Sta Z h15 "com/example/poukaz/poukaz/FieldKind" "DATE" "Lcom/example/poukaz/poukaz/FieldKind;" (.ref o_DATE) := ((((S_DATE.ext E1).wr W5).wr W10).wr W15)
  obtain ⟨T19, X19, e19, st19⟩ := getS2 X15 hx hZ hown (host := "") (Or.inl (hw _ (List.mem_of_getElem? (i := 10) rfl))) Via.refl e15 f18 (g := (mkF m 25 #[.val (.int p1), .val (.int p2), .unset, .unset, .unset, .unset, .unset] [(.int (3 : Int32)), (.ref b1), (.ref b1)])) rfl (hb hby at_25)
  obtain ⟨cl20, Ar20, kc20, sz20, -, -⟩ := id V15
  have hin20 : ¬ ((3 : Int32) < 0 ∨ cl20.slots.size ≤ ((3 : Int32)).toNatClampNeg) := AV.inb sz20 (show ¬ (3 : Int32) < 0 ∧ ((3 : Int32)).toNatClampNeg < 7 by decide)
  have f21 : Exa Z h15 o_DATE "com/example/poukaz/poukaz/FieldKind" := ((((E_o_DATE.ext E1).wr W5).wr W10).wr W15)
  obtain ⟨T20, h20, X20, e20, W20, st20⟩ := stR X19 hx hZ e19 Ar20 (j := (3 : Int32)) hin20 rfl (Sto.ofV Ar20 kc20 O1 (Ins.self f21)) (g := (mkF m 28 #[.val (.int p1), .val (.int p2), .unset, .unset, .unset, .unset, .unset] [(.ref o_DATE), (.int (3 : Int32)), (.ref b1), (.ref b1)])) rfl rfl (hb hby at_28)
  have z22 : n0 ≤ h20.size := Nat.le_trans z17 (Keep.of_wr W20).1
  have V20 : AV Z h20 b1 k1 (.object "com/example/poukaz/poukaz/FieldKind") 7 (updR (updR (updR (updR (fun _ => Value.null) 0 (.ref o_NUMBER)) 1 (.ref o_NUMBER_OR_BLANK)) 2 (.ref o_DECIMAL)) 3 (.ref o_DATE)) := AV.putR V15 W20 (AV.inx (show ¬ (3 : Int32) < 0 ∧ ((3 : Int32)).toNatClampNeg < 7 by decide))
  have N20 := Fr.snoc X20 N15 g_b1
  have f23 : Sta Z h20 "com/example/poukaz/poukaz/FieldKind" "DATE_OR_ZEROS" "Lcom/example/poukaz/poukaz/FieldKind;" (.ref o_DATE_OR_ZEROS) := (((((S_DATE_OR_ZEROS.ext E1).wr W5).wr W10).wr W15).wr W20)
  obtain ⟨T24, X24, e24, st24⟩ := getS2 X20 hx hZ hown (host := "") (Or.inl (hw _ (List.mem_of_getElem? (i := 12) rfl))) Via.refl e20 f23 (g := (mkF m 31 #[.val (.int p1), .val (.int p2), .unset, .unset, .unset, .unset, .unset] [(.int (4 : Int32)), (.ref b1), (.ref b1)])) rfl (hb hby at_31)
  obtain ⟨cl25, Ar25, kc25, sz25, -, -⟩ := id V20
  have hin25 : ¬ ((4 : Int32) < 0 ∨ cl25.slots.size ≤ ((4 : Int32)).toNatClampNeg) := AV.inb sz25 (show ¬ (4 : Int32) < 0 ∧ ((4 : Int32)).toNatClampNeg < 7 by decide)
  have f26 : Exa Z h20 o_DATE_OR_ZEROS "com/example/poukaz/poukaz/FieldKind" := (((((E_o_DATE_OR_ZEROS.ext E1).wr W5).wr W10).wr W15).wr W20)
  obtain ⟨T25, h25, X25, e25, W25, st25⟩ := stR X24 hx hZ e24 Ar25 (j := (4 : Int32)) hin25 rfl (Sto.ofV Ar25 kc25 O1 (Ins.self f26)) (g := (mkF m 34 #[.val (.int p1), .val (.int p2), .unset, .unset, .unset, .unset, .unset] [(.ref o_DATE_OR_ZEROS), (.int (4 : Int32)), (.ref b1), (.ref b1)])) rfl rfl (hb hby at_34)
  have z27 : n0 ≤ h25.size := Nat.le_trans z22 (Keep.of_wr W25).1
  have V25 : AV Z h25 b1 k1 (.object "com/example/poukaz/poukaz/FieldKind") 7 (updR (updR (updR (updR (updR (fun _ => Value.null) 0 (.ref o_NUMBER)) 1 (.ref o_NUMBER_OR_BLANK)) 2 (.ref o_DECIMAL)) 3 (.ref o_DATE)) 4 (.ref o_DATE_OR_ZEROS)) := AV.putR V20 W25 (AV.inx (show ¬ (4 : Int32) < 0 ∧ ((4 : Int32)).toNatClampNeg < 7 by decide))
  have N25 := Fr.snoc X25 N20 g_b1
  have f28 : Sta Z h25 "com/example/poukaz/poukaz/FieldKind" "POSTAL_CODE" "Lcom/example/poukaz/poukaz/FieldKind;" (.ref o_POSTAL_CODE) := ((((((S_POSTAL_CODE.ext E1).wr W5).wr W10).wr W15).wr W20).wr W25)
  obtain ⟨T29, X29, e29, st29⟩ := getS2 X25 hx hZ hown (host := "") (Or.inl (hw _ (List.mem_of_getElem? (i := 14) rfl))) Via.refl e25 f28 (g := (mkF m 37 #[.val (.int p1), .val (.int p2), .unset, .unset, .unset, .unset, .unset] [(.int (5 : Int32)), (.ref b1), (.ref b1)])) rfl (hb hby at_37)
  obtain ⟨cl30, Ar30, kc30, sz30, -, -⟩ := id V25
  have hin30 : ¬ ((5 : Int32) < 0 ∨ cl30.slots.size ≤ ((5 : Int32)).toNatClampNeg) := AV.inb sz30 (show ¬ (5 : Int32) < 0 ∧ ((5 : Int32)).toNatClampNeg < 7 by decide)
  have f31 : Exa Z h25 o_POSTAL_CODE "com/example/poukaz/poukaz/FieldKind" := ((((((E_o_POSTAL_CODE.ext E1).wr W5).wr W10).wr W15).wr W20).wr W25)
  obtain ⟨T30, h30, X30, e30, W30, st30⟩ := stR X29 hx hZ e29 Ar30 (j := (5 : Int32)) hin30 rfl (Sto.ofV Ar30 kc30 O1 (Ins.self f31)) (g := (mkF m 40 #[.val (.int p1), .val (.int p2), .unset, .unset, .unset, .unset, .unset] [(.ref o_POSTAL_CODE), (.int (5 : Int32)), (.ref b1), (.ref b1)])) rfl rfl (hb hby at_40)
  have z32 : n0 ≤ h30.size := Nat.le_trans z27 (Keep.of_wr W30).1
  have V30 : AV Z h30 b1 k1 (.object "com/example/poukaz/poukaz/FieldKind") 7 (updR (updR (updR (updR (updR (updR (fun _ => Value.null) 0 (.ref o_NUMBER)) 1 (.ref o_NUMBER_OR_BLANK)) 2 (.ref o_DECIMAL)) 3 (.ref o_DATE)) 4 (.ref o_DATE_OR_ZEROS)) 5 (.ref o_POSTAL_CODE)) := AV.putR V25 W30 (AV.inx (show ¬ (5 : Int32) < 0 ∧ ((5 : Int32)).toNatClampNeg < 7 by decide))
  have N30 := Fr.snoc X30 N25 g_b1
  have f33 : Sta Z h30 "com/example/poukaz/poukaz/FieldKind" "TEXT" "Lcom/example/poukaz/poukaz/FieldKind;" (.ref o_TEXT) := (((((((S_TEXT.ext E1).wr W5).wr W10).wr W15).wr W20).wr W25).wr W30)
  obtain ⟨T34, X34, e34, st34⟩ := getS2 X30 hx hZ hown (host := "") (Or.inl (hw _ (List.mem_of_getElem? (i := 16) rfl))) Via.refl e30 f33 (g := (mkF m 44 #[.val (.int p1), .val (.int p2), .unset, .unset, .unset, .unset, .unset] [(.int (6 : Int32)), (.ref b1), (.ref b1)])) rfl (hb hby at_44)
  obtain ⟨cl35, Ar35, kc35, sz35, -, -⟩ := id V30
  have hin35 : ¬ ((6 : Int32) < 0 ∨ cl35.slots.size ≤ ((6 : Int32)).toNatClampNeg) := AV.inb sz35 (show ¬ (6 : Int32) < 0 ∧ ((6 : Int32)).toNatClampNeg < 7 by decide)
  have f36 : Exa Z h30 o_TEXT "com/example/poukaz/poukaz/FieldKind" := (((((((E_o_TEXT.ext E1).wr W5).wr W10).wr W15).wr W20).wr W25).wr W30)
  obtain ⟨T35, h35, X35, e35, W35, st35⟩ := stR X34 hx hZ e34 Ar35 (j := (6 : Int32)) hin35 rfl (Sto.ofV Ar35 kc35 O1 (Ins.self f36)) (g := (mkF m 47 #[.val (.int p1), .val (.int p2), .unset, .unset, .unset, .unset, .unset] [(.ref o_TEXT), (.int (6 : Int32)), (.ref b1), (.ref b1)])) rfl rfl (hb hby at_47)
  have z37 : n0 ≤ h35.size := Nat.le_trans z32 (Keep.of_wr W35).1
  have V35 : AV Z h35 b1 k1 (.object "com/example/poukaz/poukaz/FieldKind") 7 (updR (updR (updR (updR (updR (updR (updR (fun _ => Value.null) 0 (.ref o_NUMBER)) 1 (.ref o_NUMBER_OR_BLANK)) 2 (.ref o_DECIMAL)) 3 (.ref o_DATE)) 4 (.ref o_DATE_OR_ZEROS)) 5 (.ref o_POSTAL_CODE)) 6 (.ref o_TEXT)) := AV.putR V30 W35 (AV.inx (show ¬ (6 : Int32) < 0 ∧ ((6 : Int32)).toNatClampNeg < 7 by decide))
  have N35 := Fr.snoc X35 N30 g_b1
  obtain ⟨T38, h38, k38, X38, e38, E38, A38, st38⟩ := newP X35 hx hZ (hw _ (List.mem_of_getElem? (i := 18) rfl)) e35 (g := (mkF m 51 #[.val (.int p1), .val (.int p2), .val (.ref b1), .unset, .unset, .unset, .unset] [(.int (19 : Int32))])) rfl (hb hby at_51) rfl (by decide) (cap := 19) (by decide) (by decide) (by decide) (by decide)
  obtain ⟨b38, g38⟩ : ∃ z, z = h35.size := ⟨_, rfl⟩
  rw [← g38] at A38 st38
  have g_b38 : n0 ≤ b38 := Nat.le_trans z37 (Nat.le_of_eq g38.symm)
  have f39 : Exa Z h35 o_NUMBER "com/example/poukaz/poukaz/FieldKind" := (((((((f6.wr W5).wr W10).wr W15).wr W20).wr W25).wr W30).wr W35)
  have ne_o_NUMBER_b38 : o_NUMBER ≠ b38 := Nat.ne_of_lt (Nat.lt_of_lt_of_le f39.lt (Nat.le_of_eq g38.symm))
  have f40 : Exa Z h35 o_NUMBER_OR_BLANK "com/example/poukaz/poukaz/FieldKind" := ((((((f11.wr W10).wr W15).wr W20).wr W25).wr W30).wr W35)
  have ne_o_NUMBER_OR_BLANK_b38 : o_NUMBER_OR_BLANK ≠ b38 := Nat.ne_of_lt (Nat.lt_of_lt_of_le f40.lt (Nat.le_of_eq g38.symm))
  have f41 : Exa Z h35 o_DECIMAL "com/example/poukaz/poukaz/FieldKind" := (((((f16.wr W15).wr W20).wr W25).wr W30).wr W35)
  have ne_o_DECIMAL_b38 : o_DECIMAL ≠ b38 := Nat.ne_of_lt (Nat.lt_of_lt_of_le f41.lt (Nat.le_of_eq g38.symm))
  have f42 : Exa Z h35 o_DATE "com/example/poukaz/poukaz/FieldKind" := ((((f21.wr W20).wr W25).wr W30).wr W35)
  have ne_o_DATE_b38 : o_DATE ≠ b38 := Nat.ne_of_lt (Nat.lt_of_lt_of_le f42.lt (Nat.le_of_eq g38.symm))
  have f43 : Exa Z h35 o_DATE_OR_ZEROS "com/example/poukaz/poukaz/FieldKind" := (((f26.wr W25).wr W30).wr W35)
  have ne_o_DATE_OR_ZEROS_b38 : o_DATE_OR_ZEROS ≠ b38 := Nat.ne_of_lt (Nat.lt_of_lt_of_le f43.lt (Nat.le_of_eq g38.symm))
  have f44 : Exa Z h35 o_POSTAL_CODE "com/example/poukaz/poukaz/FieldKind" := ((f31.wr W30).wr W35)
  have ne_o_POSTAL_CODE_b38 : o_POSTAL_CODE ≠ b38 := Nat.ne_of_lt (Nat.lt_of_lt_of_le f44.lt (Nat.le_of_eq g38.symm))
  have f45 : Exa Z h35 o_TEXT "com/example/poukaz/poukaz/FieldKind" := (f36.wr W35)
  have ne_o_TEXT_b38 : o_TEXT ≠ b38 := Nat.ne_of_lt (Nat.lt_of_lt_of_le f45.lt (Nat.le_of_eq g38.symm))
  have ne_b1_b38 : b1 ≠ b38 := Nat.ne_of_lt (Nat.lt_of_lt_of_le V35.lt (Nat.le_of_eq g38.symm))
  have z46 : n0 ≤ h38.size := Nat.le_trans z37 E38.1
  have V38 : AV Z h38 b38 k38 .long 19 (fun i => Value.long ((fun _ => (0 : Int64)) i)) := AV.new A38 (by decide) (by decide) (by decide)
  obtain ⟨cl47, Ar47, kc47, sz47, -, -⟩ := id V38
  have hin47 : ¬ ((0 : Int32) < 0 ∨ cl47.slots.size ≤ ((0 : Int32)).toNatClampNeg) := AV.inb sz47 (show ¬ (0 : Int32) < 0 ∧ ((0 : Int32)).toNatClampNeg < 19 by decide)
  obtain ⟨T47, h47, X47, e47, W47, st47⟩ := stJ X38 hx hZ e38 Ar47 (j := (0 : Int32)) hin47 (g := (mkF m 56 #[.val (.int p1), .val (.int p2), .val (.ref b1), .unset, .unset, .unset, .unset] [(.long (1 : Int64)), (.int (0 : Int32)), (.ref b38), (.ref b38)])) rfl rfl (hb hby at_56)
  have z48 : n0 ≤ h47.size := Nat.le_trans z46 (Keep.of_wr W47).1
  obtain ⟨fn47, hfn47⟩ : ∃ z, z = (updJ (fun _ => (0 : Int64)) 0 (1 : Int64)) := ⟨_, rfl⟩
  have V47 : AV Z h47 b38 k38 .long 19 (fun i => Value.long (fn47 i)) := (by rw [hfn47]; exact AV.putJ V38 W47 (AV.inx (show ¬ (0 : Int32) < 0 ∧ ((0 : Int32)).toNatClampNeg < 19 by decide)))
  have N47 := Fr.snoc X47 N35 g_b38
  obtain ⟨cl49, Ar49, kc49, sz49, -, -⟩ := id V47
  have hin49 : ¬ ((1 : Int32) < 0 ∨ cl49.slots.size ≤ ((1 : Int32)).toNatClampNeg) := AV.inb sz49 (show ¬ (1 : Int32) < 0 ∧ ((1 : Int32)).toNatClampNeg < 19 by decide)
  obtain ⟨T49, h49, X49, e49, W49, st49⟩ := stJ X47 hx hZ e47 Ar49 (j := (1 : Int32)) hin49 (g := (mkF m 62 #[.val (.int p1), .val (.int p2), .val (.ref b1), .unset, .unset, .unset, .unset] [(.long (10 : Int64)), (.int (1 : Int32)), (.ref b38), (.ref b38)])) rfl rfl (hb hby at_62)
  have z50 : n0 ≤ h49.size := Nat.le_trans z48 (Keep.of_wr W49).1
  obtain ⟨fn49, hfn49⟩ : ∃ z, z = (updJ fn47 1 (10 : Int64)) := ⟨_, rfl⟩
  have V49 : AV Z h49 b38 k38 .long 19 (fun i => Value.long (fn49 i)) := (by rw [hfn49]; exact AV.putJ V47 W49 (AV.inx (show ¬ (1 : Int32) < 0 ∧ ((1 : Int32)).toNatClampNeg < 19 by decide)))
  have N49 := Fr.snoc X49 N47 g_b38
  obtain ⟨cl51, Ar51, kc51, sz51, -, -⟩ := id V49
  have hin51 : ¬ ((2 : Int32) < 0 ∨ cl51.slots.size ≤ ((2 : Int32)).toNatClampNeg) := AV.inb sz51 (show ¬ (2 : Int32) < 0 ∧ ((2 : Int32)).toNatClampNeg < 19 by decide)
  obtain ⟨T51, h51, X51, e51, W51, st51⟩ := stJ X49 hx hZ e49 Ar51 (j := (2 : Int32)) hin51 (g := (mkF m 68 #[.val (.int p1), .val (.int p2), .val (.ref b1), .unset, .unset, .unset, .unset] [(.long (100 : Int64)), (.int (2 : Int32)), (.ref b38), (.ref b38)])) rfl rfl (hb hby at_68)
  have z52 : n0 ≤ h51.size := Nat.le_trans z50 (Keep.of_wr W51).1
  obtain ⟨fn51, hfn51⟩ : ∃ z, z = (updJ fn49 2 (100 : Int64)) := ⟨_, rfl⟩
  have V51 : AV Z h51 b38 k38 .long 19 (fun i => Value.long (fn51 i)) := (by rw [hfn51]; exact AV.putJ V49 W51 (AV.inx (show ¬ (2 : Int32) < 0 ∧ ((2 : Int32)).toNatClampNeg < 19 by decide)))
  have N51 := Fr.snoc X51 N49 g_b38
  obtain ⟨cl53, Ar53, kc53, sz53, -, -⟩ := id V51
  have hin53 : ¬ ((3 : Int32) < 0 ∨ cl53.slots.size ≤ ((3 : Int32)).toNatClampNeg) := AV.inb sz53 (show ¬ (3 : Int32) < 0 ∧ ((3 : Int32)).toNatClampNeg < 19 by decide)
  obtain ⟨T53, h53, X53, e53, W53, st53⟩ := stJ X51 hx hZ e51 Ar53 (j := (3 : Int32)) hin53 (g := (mkF m 74 #[.val (.int p1), .val (.int p2), .val (.ref b1), .unset, .unset, .unset, .unset] [(.long (1000 : Int64)), (.int (3 : Int32)), (.ref b38), (.ref b38)])) rfl rfl (hb hby at_74)
  have z54 : n0 ≤ h53.size := Nat.le_trans z52 (Keep.of_wr W53).1
  obtain ⟨fn53, hfn53⟩ : ∃ z, z = (updJ fn51 3 (1000 : Int64)) := ⟨_, rfl⟩
  have V53 : AV Z h53 b38 k38 .long 19 (fun i => Value.long (fn53 i)) := (by rw [hfn53]; exact AV.putJ V51 W53 (AV.inx (show ¬ (3 : Int32) < 0 ∧ ((3 : Int32)).toNatClampNeg < 19 by decide)))
  have N53 := Fr.snoc X53 N51 g_b38
  obtain ⟨cl55, Ar55, kc55, sz55, -, -⟩ := id V53
  have hin55 : ¬ ((4 : Int32) < 0 ∨ cl55.slots.size ≤ ((4 : Int32)).toNatClampNeg) := AV.inb sz55 (show ¬ (4 : Int32) < 0 ∧ ((4 : Int32)).toNatClampNeg < 19 by decide)
  obtain ⟨T55, h55, X55, e55, W55, st55⟩ := stJ X53 hx hZ e53 Ar55 (j := (4 : Int32)) hin55 (g := (mkF m 80 #[.val (.int p1), .val (.int p2), .val (.ref b1), .unset, .unset, .unset, .unset] [(.long (10000 : Int64)), (.int (4 : Int32)), (.ref b38), (.ref b38)])) rfl rfl (hb hby at_80)
  have z56 : n0 ≤ h55.size := Nat.le_trans z54 (Keep.of_wr W55).1
  obtain ⟨fn55, hfn55⟩ : ∃ z, z = (updJ fn53 4 (10000 : Int64)) := ⟨_, rfl⟩
  have V55 : AV Z h55 b38 k38 .long 19 (fun i => Value.long (fn55 i)) := (by rw [hfn55]; exact AV.putJ V53 W55 (AV.inx (show ¬ (4 : Int32) < 0 ∧ ((4 : Int32)).toNatClampNeg < 19 by decide)))
  have N55 := Fr.snoc X55 N53 g_b38
  obtain ⟨cl57, Ar57, kc57, sz57, -, -⟩ := id V55
  have hin57 : ¬ ((5 : Int32) < 0 ∨ cl57.slots.size ≤ ((5 : Int32)).toNatClampNeg) := AV.inb sz57 (show ¬ (5 : Int32) < 0 ∧ ((5 : Int32)).toNatClampNeg < 19 by decide)
  obtain ⟨T57, h57, X57, e57, W57, st57⟩ := stJ X55 hx hZ e55 Ar57 (j := (5 : Int32)) hin57 (g := (mkF m 86 #[.val (.int p1), .val (.int p2), .val (.ref b1), .unset, .unset, .unset, .unset] [(.long (100000 : Int64)), (.int (5 : Int32)), (.ref b38), (.ref b38)])) rfl rfl (hb hby at_86)
  have z58 : n0 ≤ h57.size := Nat.le_trans z56 (Keep.of_wr W57).1
  obtain ⟨fn57, hfn57⟩ : ∃ z, z = (updJ fn55 5 (100000 : Int64)) := ⟨_, rfl⟩
  have V57 : AV Z h57 b38 k38 .long 19 (fun i => Value.long (fn57 i)) := (by rw [hfn57]; exact AV.putJ V55 W57 (AV.inx (show ¬ (5 : Int32) < 0 ∧ ((5 : Int32)).toNatClampNeg < 19 by decide)))
  have N57 := Fr.snoc X57 N55 g_b38
  obtain ⟨cl59, Ar59, kc59, sz59, -, -⟩ := id V57
  have hin59 : ¬ ((6 : Int32) < 0 ∨ cl59.slots.size ≤ ((6 : Int32)).toNatClampNeg) := AV.inb sz59 (show ¬ (6 : Int32) < 0 ∧ ((6 : Int32)).toNatClampNeg < 19 by decide)
  obtain ⟨T59, h59, X59, e59, W59, st59⟩ := stJ X57 hx hZ e57 Ar59 (j := (6 : Int32)) hin59 (g := (mkF m 93 #[.val (.int p1), .val (.int p2), .val (.ref b1), .unset, .unset, .unset, .unset] [(.long (1000000 : Int64)), (.int (6 : Int32)), (.ref b38), (.ref b38)])) rfl rfl (hb hby at_93)
  have z60 : n0 ≤ h59.size := Nat.le_trans z58 (Keep.of_wr W59).1
  obtain ⟨fn59, hfn59⟩ : ∃ z, z = (updJ fn57 6 (1000000 : Int64)) := ⟨_, rfl⟩
  have V59 : AV Z h59 b38 k38 .long 19 (fun i => Value.long (fn59 i)) := (by rw [hfn59]; exact AV.putJ V57 W59 (AV.inx (show ¬ (6 : Int32) < 0 ∧ ((6 : Int32)).toNatClampNeg < 19 by decide)))
  have N59 := Fr.snoc X59 N57 g_b38
  obtain ⟨cl61, Ar61, kc61, sz61, -, -⟩ := id V59
  have hin61 : ¬ ((7 : Int32) < 0 ∨ cl61.slots.size ≤ ((7 : Int32)).toNatClampNeg) := AV.inb sz61 (show ¬ (7 : Int32) < 0 ∧ ((7 : Int32)).toNatClampNeg < 19 by decide)
  obtain ⟨T61, h61, X61, e61, W61, st61⟩ := stJ X59 hx hZ e59 Ar61 (j := (7 : Int32)) hin61 (g := (mkF m 100 #[.val (.int p1), .val (.int p2), .val (.ref b1), .unset, .unset, .unset, .unset] [(.long (10000000 : Int64)), (.int (7 : Int32)), (.ref b38), (.ref b38)])) rfl rfl (hb hby at_100)
  have z62 : n0 ≤ h61.size := Nat.le_trans z60 (Keep.of_wr W61).1
  obtain ⟨fn61, hfn61⟩ : ∃ z, z = (updJ fn59 7 (10000000 : Int64)) := ⟨_, rfl⟩
  have V61 : AV Z h61 b38 k38 .long 19 (fun i => Value.long (fn61 i)) := (by rw [hfn61]; exact AV.putJ V59 W61 (AV.inx (show ¬ (7 : Int32) < 0 ∧ ((7 : Int32)).toNatClampNeg < 19 by decide)))
  have N61 := Fr.snoc X61 N59 g_b38
  obtain ⟨cl63, Ar63, kc63, sz63, -, -⟩ := id V61
  have hin63 : ¬ ((8 : Int32) < 0 ∨ cl63.slots.size ≤ ((8 : Int32)).toNatClampNeg) := AV.inb sz63 (show ¬ (8 : Int32) < 0 ∧ ((8 : Int32)).toNatClampNeg < 19 by decide)
  obtain ⟨T63, h63, X63, e63, W63, st63⟩ := stJ X61 hx hZ e61 Ar63 (j := (8 : Int32)) hin63 (g := (mkF m 107 #[.val (.int p1), .val (.int p2), .val (.ref b1), .unset, .unset, .unset, .unset] [(.long (100000000 : Int64)), (.int (8 : Int32)), (.ref b38), (.ref b38)])) rfl rfl (hb hby at_107)
  have z64 : n0 ≤ h63.size := Nat.le_trans z62 (Keep.of_wr W63).1
  obtain ⟨fn63, hfn63⟩ : ∃ z, z = (updJ fn61 8 (100000000 : Int64)) := ⟨_, rfl⟩
  have V63 : AV Z h63 b38 k38 .long 19 (fun i => Value.long (fn63 i)) := (by rw [hfn63]; exact AV.putJ V61 W63 (AV.inx (show ¬ (8 : Int32) < 0 ∧ ((8 : Int32)).toNatClampNeg < 19 by decide)))
  have N63 := Fr.snoc X63 N61 g_b38
  obtain ⟨cl65, Ar65, kc65, sz65, -, -⟩ := id V63
  have hin65 : ¬ ((9 : Int32) < 0 ∨ cl65.slots.size ≤ ((9 : Int32)).toNatClampNeg) := AV.inb sz65 (show ¬ (9 : Int32) < 0 ∧ ((9 : Int32)).toNatClampNeg < 19 by decide)
  obtain ⟨T65, h65, X65, e65, W65, st65⟩ := stJ X63 hx hZ e63 Ar65 (j := (9 : Int32)) hin65 (g := (mkF m 114 #[.val (.int p1), .val (.int p2), .val (.ref b1), .unset, .unset, .unset, .unset] [(.long (1000000000 : Int64)), (.int (9 : Int32)), (.ref b38), (.ref b38)])) rfl rfl (hb hby at_114)
  have z66 : n0 ≤ h65.size := Nat.le_trans z64 (Keep.of_wr W65).1
  obtain ⟨fn65, hfn65⟩ : ∃ z, z = (updJ fn63 9 (1000000000 : Int64)) := ⟨_, rfl⟩
  have V65 : AV Z h65 b38 k38 .long 19 (fun i => Value.long (fn65 i)) := (by rw [hfn65]; exact AV.putJ V63 W65 (AV.inx (show ¬ (9 : Int32) < 0 ∧ ((9 : Int32)).toNatClampNeg < 19 by decide)))
  have N65 := Fr.snoc X65 N63 g_b38
  obtain ⟨cl67, Ar67, kc67, sz67, -, -⟩ := id V65
  have hin67 : ¬ ((10 : Int32) < 0 ∨ cl67.slots.size ≤ ((10 : Int32)).toNatClampNeg) := AV.inb sz67 (show ¬ (10 : Int32) < 0 ∧ ((10 : Int32)).toNatClampNeg < 19 by decide)
  obtain ⟨T67, h67, X67, e67, W67, st67⟩ := stJ X65 hx hZ e65 Ar67 (j := (10 : Int32)) hin67 (g := (mkF m 121 #[.val (.int p1), .val (.int p2), .val (.ref b1), .unset, .unset, .unset, .unset] [(.long (10000000000 : Int64)), (.int (10 : Int32)), (.ref b38), (.ref b38)])) rfl rfl (hb hby at_121)
  have z68 : n0 ≤ h67.size := Nat.le_trans z66 (Keep.of_wr W67).1
  obtain ⟨fn67, hfn67⟩ : ∃ z, z = (updJ fn65 10 (10000000000 : Int64)) := ⟨_, rfl⟩
  have V67 : AV Z h67 b38 k38 .long 19 (fun i => Value.long (fn67 i)) := (by rw [hfn67]; exact AV.putJ V65 W67 (AV.inx (show ¬ (10 : Int32) < 0 ∧ ((10 : Int32)).toNatClampNeg < 19 by decide)))
  have N67 := Fr.snoc X67 N65 g_b38
  obtain ⟨cl69, Ar69, kc69, sz69, -, -⟩ := id V67
  have hin69 : ¬ ((11 : Int32) < 0 ∨ cl69.slots.size ≤ ((11 : Int32)).toNatClampNeg) := AV.inb sz69 (show ¬ (11 : Int32) < 0 ∧ ((11 : Int32)).toNatClampNeg < 19 by decide)
  obtain ⟨T69, h69, X69, e69, W69, st69⟩ := stJ X67 hx hZ e67 Ar69 (j := (11 : Int32)) hin69 (g := (mkF m 128 #[.val (.int p1), .val (.int p2), .val (.ref b1), .unset, .unset, .unset, .unset] [(.long (100000000000 : Int64)), (.int (11 : Int32)), (.ref b38), (.ref b38)])) rfl rfl (hb hby at_128)
  have z70 : n0 ≤ h69.size := Nat.le_trans z68 (Keep.of_wr W69).1
  obtain ⟨fn69, hfn69⟩ : ∃ z, z = (updJ fn67 11 (100000000000 : Int64)) := ⟨_, rfl⟩
  have V69 : AV Z h69 b38 k38 .long 19 (fun i => Value.long (fn69 i)) := (by rw [hfn69]; exact AV.putJ V67 W69 (AV.inx (show ¬ (11 : Int32) < 0 ∧ ((11 : Int32)).toNatClampNeg < 19 by decide)))
  have N69 := Fr.snoc X69 N67 g_b38
  obtain ⟨cl71, Ar71, kc71, sz71, -, -⟩ := id V69
  have hin71 : ¬ ((12 : Int32) < 0 ∨ cl71.slots.size ≤ ((12 : Int32)).toNatClampNeg) := AV.inb sz71 (show ¬ (12 : Int32) < 0 ∧ ((12 : Int32)).toNatClampNeg < 19 by decide)
  obtain ⟨T71, h71, X71, e71, W71, st71⟩ := stJ X69 hx hZ e69 Ar71 (j := (12 : Int32)) hin71 (g := (mkF m 135 #[.val (.int p1), .val (.int p2), .val (.ref b1), .unset, .unset, .unset, .unset] [(.long (1000000000000 : Int64)), (.int (12 : Int32)), (.ref b38), (.ref b38)])) rfl rfl (hb hby at_135)
  have z72 : n0 ≤ h71.size := Nat.le_trans z70 (Keep.of_wr W71).1
  obtain ⟨fn71, hfn71⟩ : ∃ z, z = (updJ fn69 12 (1000000000000 : Int64)) := ⟨_, rfl⟩
  have V71 : AV Z h71 b38 k38 .long 19 (fun i => Value.long (fn71 i)) := (by rw [hfn71]; exact AV.putJ V69 W71 (AV.inx (show ¬ (12 : Int32) < 0 ∧ ((12 : Int32)).toNatClampNeg < 19 by decide)))
  have N71 := Fr.snoc X71 N69 g_b38
  obtain ⟨cl73, Ar73, kc73, sz73, -, -⟩ := id V71
  have hin73 : ¬ ((13 : Int32) < 0 ∨ cl73.slots.size ≤ ((13 : Int32)).toNatClampNeg) := AV.inb sz73 (show ¬ (13 : Int32) < 0 ∧ ((13 : Int32)).toNatClampNeg < 19 by decide)
  obtain ⟨T73, h73, X73, e73, W73, st73⟩ := stJ X71 hx hZ e71 Ar73 (j := (13 : Int32)) hin73 (g := (mkF m 142 #[.val (.int p1), .val (.int p2), .val (.ref b1), .unset, .unset, .unset, .unset] [(.long (10000000000000 : Int64)), (.int (13 : Int32)), (.ref b38), (.ref b38)])) rfl rfl (hb hby at_142)
  have z74 : n0 ≤ h73.size := Nat.le_trans z72 (Keep.of_wr W73).1
  obtain ⟨fn73, hfn73⟩ : ∃ z, z = (updJ fn71 13 (10000000000000 : Int64)) := ⟨_, rfl⟩
  have V73 : AV Z h73 b38 k38 .long 19 (fun i => Value.long (fn73 i)) := (by rw [hfn73]; exact AV.putJ V71 W73 (AV.inx (show ¬ (13 : Int32) < 0 ∧ ((13 : Int32)).toNatClampNeg < 19 by decide)))
  have N73 := Fr.snoc X73 N71 g_b38
  obtain ⟨cl75, Ar75, kc75, sz75, -, -⟩ := id V73
  have hin75 : ¬ ((14 : Int32) < 0 ∨ cl75.slots.size ≤ ((14 : Int32)).toNatClampNeg) := AV.inb sz75 (show ¬ (14 : Int32) < 0 ∧ ((14 : Int32)).toNatClampNeg < 19 by decide)
  obtain ⟨T75, h75, X75, e75, W75, st75⟩ := stJ X73 hx hZ e73 Ar75 (j := (14 : Int32)) hin75 (g := (mkF m 149 #[.val (.int p1), .val (.int p2), .val (.ref b1), .unset, .unset, .unset, .unset] [(.long (100000000000000 : Int64)), (.int (14 : Int32)), (.ref b38), (.ref b38)])) rfl rfl (hb hby at_149)
  have z76 : n0 ≤ h75.size := Nat.le_trans z74 (Keep.of_wr W75).1
  obtain ⟨fn75, hfn75⟩ : ∃ z, z = (updJ fn73 14 (100000000000000 : Int64)) := ⟨_, rfl⟩
  have V75 : AV Z h75 b38 k38 .long 19 (fun i => Value.long (fn75 i)) := (by rw [hfn75]; exact AV.putJ V73 W75 (AV.inx (show ¬ (14 : Int32) < 0 ∧ ((14 : Int32)).toNatClampNeg < 19 by decide)))
  have N75 := Fr.snoc X75 N73 g_b38
  obtain ⟨cl77, Ar77, kc77, sz77, -, -⟩ := id V75
  have hin77 : ¬ ((15 : Int32) < 0 ∨ cl77.slots.size ≤ ((15 : Int32)).toNatClampNeg) := AV.inb sz77 (show ¬ (15 : Int32) < 0 ∧ ((15 : Int32)).toNatClampNeg < 19 by decide)
  obtain ⟨T77, h77, X77, e77, W77, st77⟩ := stJ X75 hx hZ e75 Ar77 (j := (15 : Int32)) hin77 (g := (mkF m 156 #[.val (.int p1), .val (.int p2), .val (.ref b1), .unset, .unset, .unset, .unset] [(.long (1000000000000000 : Int64)), (.int (15 : Int32)), (.ref b38), (.ref b38)])) rfl rfl (hb hby at_156)
  have z78 : n0 ≤ h77.size := Nat.le_trans z76 (Keep.of_wr W77).1
  obtain ⟨fn77, hfn77⟩ : ∃ z, z = (updJ fn75 15 (1000000000000000 : Int64)) := ⟨_, rfl⟩
  have V77 : AV Z h77 b38 k38 .long 19 (fun i => Value.long (fn77 i)) := (by rw [hfn77]; exact AV.putJ V75 W77 (AV.inx (show ¬ (15 : Int32) < 0 ∧ ((15 : Int32)).toNatClampNeg < 19 by decide)))
  have N77 := Fr.snoc X77 N75 g_b38
  obtain ⟨cl79, Ar79, kc79, sz79, -, -⟩ := id V77
  have hin79 : ¬ ((16 : Int32) < 0 ∨ cl79.slots.size ≤ ((16 : Int32)).toNatClampNeg) := AV.inb sz79 (show ¬ (16 : Int32) < 0 ∧ ((16 : Int32)).toNatClampNeg < 19 by decide)
  obtain ⟨T79, h79, X79, e79, W79, st79⟩ := stJ X77 hx hZ e77 Ar79 (j := (16 : Int32)) hin79 (g := (mkF m 163 #[.val (.int p1), .val (.int p2), .val (.ref b1), .unset, .unset, .unset, .unset] [(.long (10000000000000000 : Int64)), (.int (16 : Int32)), (.ref b38), (.ref b38)])) rfl rfl (hb hby at_163)
  have z80 : n0 ≤ h79.size := Nat.le_trans z78 (Keep.of_wr W79).1
  obtain ⟨fn79, hfn79⟩ : ∃ z, z = (updJ fn77 16 (10000000000000000 : Int64)) := ⟨_, rfl⟩
  have V79 : AV Z h79 b38 k38 .long 19 (fun i => Value.long (fn79 i)) := (by rw [hfn79]; exact AV.putJ V77 W79 (AV.inx (show ¬ (16 : Int32) < 0 ∧ ((16 : Int32)).toNatClampNeg < 19 by decide)))
  have N79 := Fr.snoc X79 N77 g_b38
  obtain ⟨cl81, Ar81, kc81, sz81, -, -⟩ := id V79
  have hin81 : ¬ ((17 : Int32) < 0 ∨ cl81.slots.size ≤ ((17 : Int32)).toNatClampNeg) := AV.inb sz81 (show ¬ (17 : Int32) < 0 ∧ ((17 : Int32)).toNatClampNeg < 19 by decide)
  obtain ⟨T81, h81, X81, e81, W81, st81⟩ := stJ X79 hx hZ e79 Ar81 (j := (17 : Int32)) hin81 (g := (mkF m 170 #[.val (.int p1), .val (.int p2), .val (.ref b1), .unset, .unset, .unset, .unset] [(.long (100000000000000000 : Int64)), (.int (17 : Int32)), (.ref b38), (.ref b38)])) rfl rfl (hb hby at_170)
  have z82 : n0 ≤ h81.size := Nat.le_trans z80 (Keep.of_wr W81).1
  obtain ⟨fn81, hfn81⟩ : ∃ z, z = (updJ fn79 17 (100000000000000000 : Int64)) := ⟨_, rfl⟩
  have V81 : AV Z h81 b38 k38 .long 19 (fun i => Value.long (fn81 i)) := (by rw [hfn81]; exact AV.putJ V79 W81 (AV.inx (show ¬ (17 : Int32) < 0 ∧ ((17 : Int32)).toNatClampNeg < 19 by decide)))
  have N81 := Fr.snoc X81 N79 g_b38
  obtain ⟨cl83, Ar83, kc83, sz83, -, -⟩ := id V81
  have hin83 : ¬ ((18 : Int32) < 0 ∨ cl83.slots.size ≤ ((18 : Int32)).toNatClampNeg) := AV.inb sz83 (show ¬ (18 : Int32) < 0 ∧ ((18 : Int32)).toNatClampNeg < 19 by decide)
  obtain ⟨T83, h83, X83, e83, W83, st83⟩ := stJ X81 hx hZ e81 Ar83 (j := (18 : Int32)) hin83 (g := (mkF m 177 #[.val (.int p1), .val (.int p2), .val (.ref b1), .unset, .unset, .unset, .unset] [(.long (1000000000000000000 : Int64)), (.int (18 : Int32)), (.ref b38), (.ref b38)])) rfl rfl (hb hby at_177)
  have z84 : n0 ≤ h83.size := Nat.le_trans z82 (Keep.of_wr W83).1
  obtain ⟨fn83, hfn83⟩ : ∃ z, z = (updJ fn81 18 (1000000000000000000 : Int64)) := ⟨_, rfl⟩
  have V83 : AV Z h83 b38 k38 .long 19 (fun i => Value.long (fn83 i)) := (by rw [hfn83]; exact AV.putJ V81 W83 (AV.inx (show ¬ (18 : Int32) < 0 ∧ ((18 : Int32)).toNatClampNeg < 19 by decide)))
  have N83 := Fr.snoc X83 N81 g_b38
  refine GoalS.lift (B := (T83.setTop (mkF m 187 #[.val (.int p1), .val (.int p2), .val (.ref b1), .val (.ref b38), .unset, .unset, .unset] [(.int ((p1 &&& (2147483647 : Int32)) % (7 : Int32))), (.ref b1)]))) (fun t k => ?_) ?_
  · show Steps p.tables e below (s₁.setTop (mkF m 0 #[.val (.int p1), .val (.int p2), .unset, .unset, .unset, .unset, .unset] [])) _
    refine XS.bipush X0.here hx rfl (hb hby at_0) ?_
    show Steps p.tables e below (s₁.setTop (mkF m 2 #[.val (.int p1), .val (.int p2), .unset, .unset, .unset, .unset, .unset] [(.int (7 : Int32))])) _
    refine st1 _ ?_
    show Steps p.tables e below (T1.setTop (mkF m 5 #[.val (.int p1), .val (.int p2), .unset, .unset, .unset, .unset, .unset] [(.ref b1)])) _
    refine XS.dup X1.here hx rfl (hb hby at_5) rfl rfl ?_
    show Steps p.tables e below (T1.setTop (mkF m 6 #[.val (.int p1), .val (.int p2), .unset, .unset, .unset, .unset, .unset] [(.ref b1), (.ref b1)])) _
    refine XS.iconst X1.here hx rfl (hb hby at_6) ?_
    show Steps p.tables e below (T1.setTop (mkF m 7 #[.val (.int p1), .val (.int p2), .unset, .unset, .unset, .unset, .unset] [(.int (0 : Int32)), (.ref b1), (.ref b1)])) _
    refine st4 _ ?_
    show Steps p.tables e below (T4.setTop (mkF m 10 #[.val (.int p1), .val (.int p2), .unset, .unset, .unset, .unset, .unset] [(.ref o_NUMBER), (.int (0 : Int32)), (.ref b1), (.ref b1)])) _
    refine st5 _ ?_
    show Steps p.tables e below (T5.setTop (mkF m 11 #[.val (.int p1), .val (.int p2), .unset, .unset, .unset, .unset, .unset] [(.ref b1)])) _
    refine XS.dup X5.here hx rfl (hb hby at_11) rfl rfl ?_
    show Steps p.tables e below (T5.setTop (mkF m 12 #[.val (.int p1), .val (.int p2), .unset, .unset, .unset, .unset, .unset] [(.ref b1), (.ref b1)])) _
    refine XS.iconst X5.here hx rfl (hb hby at_12) ?_
    show Steps p.tables e below (T5.setTop (mkF m 13 #[.val (.int p1), .val (.int p2), .unset, .unset, .unset, .unset, .unset] [(.int (1 : Int32)), (.ref b1), (.ref b1)])) _
    refine st9 _ ?_
    show Steps p.tables e below (T9.setTop (mkF m 16 #[.val (.int p1), .val (.int p2), .unset, .unset, .unset, .unset, .unset] [(.ref o_NUMBER_OR_BLANK), (.int (1 : Int32)), (.ref b1), (.ref b1)])) _
    refine st10 _ ?_
    show Steps p.tables e below (T10.setTop (mkF m 17 #[.val (.int p1), .val (.int p2), .unset, .unset, .unset, .unset, .unset] [(.ref b1)])) _
    refine XS.dup X10.here hx rfl (hb hby at_17) rfl rfl ?_
    show Steps p.tables e below (T10.setTop (mkF m 18 #[.val (.int p1), .val (.int p2), .unset, .unset, .unset, .unset, .unset] [(.ref b1), (.ref b1)])) _
    refine XS.iconst X10.here hx rfl (hb hby at_18) ?_
    show Steps p.tables e below (T10.setTop (mkF m 19 #[.val (.int p1), .val (.int p2), .unset, .unset, .unset, .unset, .unset] [(.int (2 : Int32)), (.ref b1), (.ref b1)])) _
    refine st14 _ ?_
    show Steps p.tables e below (T14.setTop (mkF m 22 #[.val (.int p1), .val (.int p2), .unset, .unset, .unset, .unset, .unset] [(.ref o_DECIMAL), (.int (2 : Int32)), (.ref b1), (.ref b1)])) _
    refine st15 _ ?_
    show Steps p.tables e below (T15.setTop (mkF m 23 #[.val (.int p1), .val (.int p2), .unset, .unset, .unset, .unset, .unset] [(.ref b1)])) _
    refine XS.dup X15.here hx rfl (hb hby at_23) rfl rfl ?_
    show Steps p.tables e below (T15.setTop (mkF m 24 #[.val (.int p1), .val (.int p2), .unset, .unset, .unset, .unset, .unset] [(.ref b1), (.ref b1)])) _
    refine XS.iconst X15.here hx rfl (hb hby at_24) ?_
    show Steps p.tables e below (T15.setTop (mkF m 25 #[.val (.int p1), .val (.int p2), .unset, .unset, .unset, .unset, .unset] [(.int (3 : Int32)), (.ref b1), (.ref b1)])) _
    refine st19 _ ?_
    show Steps p.tables e below (T19.setTop (mkF m 28 #[.val (.int p1), .val (.int p2), .unset, .unset, .unset, .unset, .unset] [(.ref o_DATE), (.int (3 : Int32)), (.ref b1), (.ref b1)])) _
    refine st20 _ ?_
    show Steps p.tables e below (T20.setTop (mkF m 29 #[.val (.int p1), .val (.int p2), .unset, .unset, .unset, .unset, .unset] [(.ref b1)])) _
    refine XS.dup X20.here hx rfl (hb hby at_29) rfl rfl ?_
    show Steps p.tables e below (T20.setTop (mkF m 30 #[.val (.int p1), .val (.int p2), .unset, .unset, .unset, .unset, .unset] [(.ref b1), (.ref b1)])) _
    refine XS.iconst X20.here hx rfl (hb hby at_30) ?_
    show Steps p.tables e below (T20.setTop (mkF m 31 #[.val (.int p1), .val (.int p2), .unset, .unset, .unset, .unset, .unset] [(.int (4 : Int32)), (.ref b1), (.ref b1)])) _
    refine st24 _ ?_
    show Steps p.tables e below (T24.setTop (mkF m 34 #[.val (.int p1), .val (.int p2), .unset, .unset, .unset, .unset, .unset] [(.ref o_DATE_OR_ZEROS), (.int (4 : Int32)), (.ref b1), (.ref b1)])) _
    refine st25 _ ?_
    show Steps p.tables e below (T25.setTop (mkF m 35 #[.val (.int p1), .val (.int p2), .unset, .unset, .unset, .unset, .unset] [(.ref b1)])) _
    refine XS.dup X25.here hx rfl (hb hby at_35) rfl rfl ?_
    show Steps p.tables e below (T25.setTop (mkF m 36 #[.val (.int p1), .val (.int p2), .unset, .unset, .unset, .unset, .unset] [(.ref b1), (.ref b1)])) _
    refine XS.iconst X25.here hx rfl (hb hby at_36) ?_
    show Steps p.tables e below (T25.setTop (mkF m 37 #[.val (.int p1), .val (.int p2), .unset, .unset, .unset, .unset, .unset] [(.int (5 : Int32)), (.ref b1), (.ref b1)])) _
    refine st29 _ ?_
    show Steps p.tables e below (T29.setTop (mkF m 40 #[.val (.int p1), .val (.int p2), .unset, .unset, .unset, .unset, .unset] [(.ref o_POSTAL_CODE), (.int (5 : Int32)), (.ref b1), (.ref b1)])) _
    refine st30 _ ?_
    show Steps p.tables e below (T30.setTop (mkF m 41 #[.val (.int p1), .val (.int p2), .unset, .unset, .unset, .unset, .unset] [(.ref b1)])) _
    refine XS.dup X30.here hx rfl (hb hby at_41) rfl rfl ?_
    show Steps p.tables e below (T30.setTop (mkF m 42 #[.val (.int p1), .val (.int p2), .unset, .unset, .unset, .unset, .unset] [(.ref b1), (.ref b1)])) _
    refine XS.bipush X30.here hx rfl (hb hby at_42) ?_
    show Steps p.tables e below (T30.setTop (mkF m 44 #[.val (.int p1), .val (.int p2), .unset, .unset, .unset, .unset, .unset] [(.int (6 : Int32)), (.ref b1), (.ref b1)])) _
    refine st34 _ ?_
    show Steps p.tables e below (T34.setTop (mkF m 47 #[.val (.int p1), .val (.int p2), .unset, .unset, .unset, .unset, .unset] [(.ref o_TEXT), (.int (6 : Int32)), (.ref b1), (.ref b1)])) _
    refine st35 _ ?_
    show Steps p.tables e below (T35.setTop (mkF m 48 #[.val (.int p1), .val (.int p2), .unset, .unset, .unset, .unset, .unset] [(.ref b1)])) _
    refine XS.astoreN X35.here hx rfl (hb hby at_48) rfl rfl (l' := #[.val (.int p1), .val (.int p2), .val (.ref b1), .unset, .unset, .unset, .unset]) rfl ?_
    show Steps p.tables e below (T35.setTop (mkF m 49 #[.val (.int p1), .val (.int p2), .val (.ref b1), .unset, .unset, .unset, .unset] [])) _
    refine XS.bipush X35.here hx rfl (hb hby at_49) ?_
    show Steps p.tables e below (T35.setTop (mkF m 51 #[.val (.int p1), .val (.int p2), .val (.ref b1), .unset, .unset, .unset, .unset] [(.int (19 : Int32))])) _
    refine st38 _ ?_
    show Steps p.tables e below (T38.setTop (mkF m 53 #[.val (.int p1), .val (.int p2), .val (.ref b1), .unset, .unset, .unset, .unset] [(.ref b38)])) _
    refine XS.dup X38.here hx rfl (hb hby at_53) rfl rfl ?_
    show Steps p.tables e below (T38.setTop (mkF m 54 #[.val (.int p1), .val (.int p2), .val (.ref b1), .unset, .unset, .unset, .unset] [(.ref b38), (.ref b38)])) _
    refine XS.iconst X38.here hx rfl (hb hby at_54) ?_
    show Steps p.tables e below (T38.setTop (mkF m 55 #[.val (.int p1), .val (.int p2), .val (.ref b1), .unset, .unset, .unset, .unset] [(.int (0 : Int32)), (.ref b38), (.ref b38)])) _
    refine XS.lconst X38.here hx rfl (hb hby at_55) ?_
    show Steps p.tables e below (T38.setTop (mkF m 56 #[.val (.int p1), .val (.int p2), .val (.ref b1), .unset, .unset, .unset, .unset] [(.long (1 : Int64)), (.int (0 : Int32)), (.ref b38), (.ref b38)])) _
    refine st47 _ ?_
    show Steps p.tables e below (T47.setTop (mkF m 57 #[.val (.int p1), .val (.int p2), .val (.ref b1), .unset, .unset, .unset, .unset] [(.ref b38)])) _
    refine XS.dup X47.here hx rfl (hb hby at_57) rfl rfl ?_
    show Steps p.tables e below (T47.setTop (mkF m 58 #[.val (.int p1), .val (.int p2), .val (.ref b1), .unset, .unset, .unset, .unset] [(.ref b38), (.ref b38)])) _
    refine XS.iconst X47.here hx rfl (hb hby at_58) ?_
    show Steps p.tables e below (T47.setTop (mkF m 59 #[.val (.int p1), .val (.int p2), .val (.ref b1), .unset, .unset, .unset, .unset] [(.int (1 : Int32)), (.ref b38), (.ref b38)])) _
    refine X47.ldc2Long hx hown (mvT hZ (hw _ (List.mem_of_getElem? (i := 19) rfl))) (g := (mkF m 59 #[.val (.int p1), .val (.int p2), .val (.ref b1), .unset, .unset, .unset, .unset] [(.int (1 : Int32)), (.ref b38), (.ref b38)])) rfl (hb hby at_59) _ ?_
    show Steps p.tables e below (T47.setTop (mkF m 62 #[.val (.int p1), .val (.int p2), .val (.ref b1), .unset, .unset, .unset, .unset] [(.long (10 : Int64)), (.int (1 : Int32)), (.ref b38), (.ref b38)])) _
    refine st49 _ ?_
    show Steps p.tables e below (T49.setTop (mkF m 63 #[.val (.int p1), .val (.int p2), .val (.ref b1), .unset, .unset, .unset, .unset] [(.ref b38)])) _
    refine XS.dup X49.here hx rfl (hb hby at_63) rfl rfl ?_
    show Steps p.tables e below (T49.setTop (mkF m 64 #[.val (.int p1), .val (.int p2), .val (.ref b1), .unset, .unset, .unset, .unset] [(.ref b38), (.ref b38)])) _
    refine XS.iconst X49.here hx rfl (hb hby at_64) ?_
    show Steps p.tables e below (T49.setTop (mkF m 65 #[.val (.int p1), .val (.int p2), .val (.ref b1), .unset, .unset, .unset, .unset] [(.int (2 : Int32)), (.ref b38), (.ref b38)])) _
    refine X49.ldc2Long hx hown (mvT hZ (hw _ (List.mem_of_getElem? (i := 20) rfl))) (g := (mkF m 65 #[.val (.int p1), .val (.int p2), .val (.ref b1), .unset, .unset, .unset, .unset] [(.int (2 : Int32)), (.ref b38), (.ref b38)])) rfl (hb hby at_65) _ ?_
    show Steps p.tables e below (T49.setTop (mkF m 68 #[.val (.int p1), .val (.int p2), .val (.ref b1), .unset, .unset, .unset, .unset] [(.long (100 : Int64)), (.int (2 : Int32)), (.ref b38), (.ref b38)])) _
    refine st51 _ ?_
    show Steps p.tables e below (T51.setTop (mkF m 69 #[.val (.int p1), .val (.int p2), .val (.ref b1), .unset, .unset, .unset, .unset] [(.ref b38)])) _
    refine XS.dup X51.here hx rfl (hb hby at_69) rfl rfl ?_
    show Steps p.tables e below (T51.setTop (mkF m 70 #[.val (.int p1), .val (.int p2), .val (.ref b1), .unset, .unset, .unset, .unset] [(.ref b38), (.ref b38)])) _
    refine XS.iconst X51.here hx rfl (hb hby at_70) ?_
    show Steps p.tables e below (T51.setTop (mkF m 71 #[.val (.int p1), .val (.int p2), .val (.ref b1), .unset, .unset, .unset, .unset] [(.int (3 : Int32)), (.ref b38), (.ref b38)])) _
    refine X51.ldc2Long hx hown (mvT hZ (hw _ (List.mem_of_getElem? (i := 21) rfl))) (g := (mkF m 71 #[.val (.int p1), .val (.int p2), .val (.ref b1), .unset, .unset, .unset, .unset] [(.int (3 : Int32)), (.ref b38), (.ref b38)])) rfl (hb hby at_71) _ ?_
    show Steps p.tables e below (T51.setTop (mkF m 74 #[.val (.int p1), .val (.int p2), .val (.ref b1), .unset, .unset, .unset, .unset] [(.long (1000 : Int64)), (.int (3 : Int32)), (.ref b38), (.ref b38)])) _
    refine st53 _ ?_
    show Steps p.tables e below (T53.setTop (mkF m 75 #[.val (.int p1), .val (.int p2), .val (.ref b1), .unset, .unset, .unset, .unset] [(.ref b38)])) _
    refine XS.dup X53.here hx rfl (hb hby at_75) rfl rfl ?_
    show Steps p.tables e below (T53.setTop (mkF m 76 #[.val (.int p1), .val (.int p2), .val (.ref b1), .unset, .unset, .unset, .unset] [(.ref b38), (.ref b38)])) _
    refine XS.iconst X53.here hx rfl (hb hby at_76) ?_
    show Steps p.tables e below (T53.setTop (mkF m 77 #[.val (.int p1), .val (.int p2), .val (.ref b1), .unset, .unset, .unset, .unset] [(.int (4 : Int32)), (.ref b38), (.ref b38)])) _
    refine X53.ldc2Long hx hown (mvT hZ (hw _ (List.mem_of_getElem? (i := 22) rfl))) (g := (mkF m 77 #[.val (.int p1), .val (.int p2), .val (.ref b1), .unset, .unset, .unset, .unset] [(.int (4 : Int32)), (.ref b38), (.ref b38)])) rfl (hb hby at_77) _ ?_
    show Steps p.tables e below (T53.setTop (mkF m 80 #[.val (.int p1), .val (.int p2), .val (.ref b1), .unset, .unset, .unset, .unset] [(.long (10000 : Int64)), (.int (4 : Int32)), (.ref b38), (.ref b38)])) _
    refine st55 _ ?_
    show Steps p.tables e below (T55.setTop (mkF m 81 #[.val (.int p1), .val (.int p2), .val (.ref b1), .unset, .unset, .unset, .unset] [(.ref b38)])) _
    refine XS.dup X55.here hx rfl (hb hby at_81) rfl rfl ?_
    show Steps p.tables e below (T55.setTop (mkF m 82 #[.val (.int p1), .val (.int p2), .val (.ref b1), .unset, .unset, .unset, .unset] [(.ref b38), (.ref b38)])) _
    refine XS.iconst X55.here hx rfl (hb hby at_82) ?_
    show Steps p.tables e below (T55.setTop (mkF m 83 #[.val (.int p1), .val (.int p2), .val (.ref b1), .unset, .unset, .unset, .unset] [(.int (5 : Int32)), (.ref b38), (.ref b38)])) _
    refine X55.ldc2Long hx hown (mvT hZ (hw _ (List.mem_of_getElem? (i := 23) rfl))) (g := (mkF m 83 #[.val (.int p1), .val (.int p2), .val (.ref b1), .unset, .unset, .unset, .unset] [(.int (5 : Int32)), (.ref b38), (.ref b38)])) rfl (hb hby at_83) _ ?_
    show Steps p.tables e below (T55.setTop (mkF m 86 #[.val (.int p1), .val (.int p2), .val (.ref b1), .unset, .unset, .unset, .unset] [(.long (100000 : Int64)), (.int (5 : Int32)), (.ref b38), (.ref b38)])) _
    refine st57 _ ?_
    show Steps p.tables e below (T57.setTop (mkF m 87 #[.val (.int p1), .val (.int p2), .val (.ref b1), .unset, .unset, .unset, .unset] [(.ref b38)])) _
    refine XS.dup X57.here hx rfl (hb hby at_87) rfl rfl ?_
    show Steps p.tables e below (T57.setTop (mkF m 88 #[.val (.int p1), .val (.int p2), .val (.ref b1), .unset, .unset, .unset, .unset] [(.ref b38), (.ref b38)])) _
    refine XS.bipush X57.here hx rfl (hb hby at_88) ?_
    show Steps p.tables e below (T57.setTop (mkF m 90 #[.val (.int p1), .val (.int p2), .val (.ref b1), .unset, .unset, .unset, .unset] [(.int (6 : Int32)), (.ref b38), (.ref b38)])) _
    refine X57.ldc2Long hx hown (mvT hZ (hw _ (List.mem_of_getElem? (i := 24) rfl))) (g := (mkF m 90 #[.val (.int p1), .val (.int p2), .val (.ref b1), .unset, .unset, .unset, .unset] [(.int (6 : Int32)), (.ref b38), (.ref b38)])) rfl (hb hby at_90) _ ?_
    show Steps p.tables e below (T57.setTop (mkF m 93 #[.val (.int p1), .val (.int p2), .val (.ref b1), .unset, .unset, .unset, .unset] [(.long (1000000 : Int64)), (.int (6 : Int32)), (.ref b38), (.ref b38)])) _
    refine st59 _ ?_
    show Steps p.tables e below (T59.setTop (mkF m 94 #[.val (.int p1), .val (.int p2), .val (.ref b1), .unset, .unset, .unset, .unset] [(.ref b38)])) _
    refine XS.dup X59.here hx rfl (hb hby at_94) rfl rfl ?_
    show Steps p.tables e below (T59.setTop (mkF m 95 #[.val (.int p1), .val (.int p2), .val (.ref b1), .unset, .unset, .unset, .unset] [(.ref b38), (.ref b38)])) _
    refine XS.bipush X59.here hx rfl (hb hby at_95) ?_
    show Steps p.tables e below (T59.setTop (mkF m 97 #[.val (.int p1), .val (.int p2), .val (.ref b1), .unset, .unset, .unset, .unset] [(.int (7 : Int32)), (.ref b38), (.ref b38)])) _
    refine X59.ldc2Long hx hown (mvT hZ (hw _ (List.mem_of_getElem? (i := 25) rfl))) (g := (mkF m 97 #[.val (.int p1), .val (.int p2), .val (.ref b1), .unset, .unset, .unset, .unset] [(.int (7 : Int32)), (.ref b38), (.ref b38)])) rfl (hb hby at_97) _ ?_
    show Steps p.tables e below (T59.setTop (mkF m 100 #[.val (.int p1), .val (.int p2), .val (.ref b1), .unset, .unset, .unset, .unset] [(.long (10000000 : Int64)), (.int (7 : Int32)), (.ref b38), (.ref b38)])) _
    refine st61 _ ?_
    show Steps p.tables e below (T61.setTop (mkF m 101 #[.val (.int p1), .val (.int p2), .val (.ref b1), .unset, .unset, .unset, .unset] [(.ref b38)])) _
    refine XS.dup X61.here hx rfl (hb hby at_101) rfl rfl ?_
    show Steps p.tables e below (T61.setTop (mkF m 102 #[.val (.int p1), .val (.int p2), .val (.ref b1), .unset, .unset, .unset, .unset] [(.ref b38), (.ref b38)])) _
    refine XS.bipush X61.here hx rfl (hb hby at_102) ?_
    show Steps p.tables e below (T61.setTop (mkF m 104 #[.val (.int p1), .val (.int p2), .val (.ref b1), .unset, .unset, .unset, .unset] [(.int (8 : Int32)), (.ref b38), (.ref b38)])) _
    refine X61.ldc2Long hx hown (mvT hZ (hw _ (List.mem_of_getElem? (i := 26) rfl))) (g := (mkF m 104 #[.val (.int p1), .val (.int p2), .val (.ref b1), .unset, .unset, .unset, .unset] [(.int (8 : Int32)), (.ref b38), (.ref b38)])) rfl (hb hby at_104) _ ?_
    show Steps p.tables e below (T61.setTop (mkF m 107 #[.val (.int p1), .val (.int p2), .val (.ref b1), .unset, .unset, .unset, .unset] [(.long (100000000 : Int64)), (.int (8 : Int32)), (.ref b38), (.ref b38)])) _
    refine st63 _ ?_
    show Steps p.tables e below (T63.setTop (mkF m 108 #[.val (.int p1), .val (.int p2), .val (.ref b1), .unset, .unset, .unset, .unset] [(.ref b38)])) _
    refine XS.dup X63.here hx rfl (hb hby at_108) rfl rfl ?_
    show Steps p.tables e below (T63.setTop (mkF m 109 #[.val (.int p1), .val (.int p2), .val (.ref b1), .unset, .unset, .unset, .unset] [(.ref b38), (.ref b38)])) _
    refine XS.bipush X63.here hx rfl (hb hby at_109) ?_
    show Steps p.tables e below (T63.setTop (mkF m 111 #[.val (.int p1), .val (.int p2), .val (.ref b1), .unset, .unset, .unset, .unset] [(.int (9 : Int32)), (.ref b38), (.ref b38)])) _
    refine X63.ldc2Long hx hown (mvT hZ (hw _ (List.mem_of_getElem? (i := 27) rfl))) (g := (mkF m 111 #[.val (.int p1), .val (.int p2), .val (.ref b1), .unset, .unset, .unset, .unset] [(.int (9 : Int32)), (.ref b38), (.ref b38)])) rfl (hb hby at_111) _ ?_
    show Steps p.tables e below (T63.setTop (mkF m 114 #[.val (.int p1), .val (.int p2), .val (.ref b1), .unset, .unset, .unset, .unset] [(.long (1000000000 : Int64)), (.int (9 : Int32)), (.ref b38), (.ref b38)])) _
    refine st65 _ ?_
    show Steps p.tables e below (T65.setTop (mkF m 115 #[.val (.int p1), .val (.int p2), .val (.ref b1), .unset, .unset, .unset, .unset] [(.ref b38)])) _
    refine XS.dup X65.here hx rfl (hb hby at_115) rfl rfl ?_
    show Steps p.tables e below (T65.setTop (mkF m 116 #[.val (.int p1), .val (.int p2), .val (.ref b1), .unset, .unset, .unset, .unset] [(.ref b38), (.ref b38)])) _
    refine XS.bipush X65.here hx rfl (hb hby at_116) ?_
    show Steps p.tables e below (T65.setTop (mkF m 118 #[.val (.int p1), .val (.int p2), .val (.ref b1), .unset, .unset, .unset, .unset] [(.int (10 : Int32)), (.ref b38), (.ref b38)])) _
    refine X65.ldc2Long hx hown (mvT hZ (hw _ (List.mem_of_getElem? (i := 28) rfl))) (g := (mkF m 118 #[.val (.int p1), .val (.int p2), .val (.ref b1), .unset, .unset, .unset, .unset] [(.int (10 : Int32)), (.ref b38), (.ref b38)])) rfl (hb hby at_118) _ ?_
    show Steps p.tables e below (T65.setTop (mkF m 121 #[.val (.int p1), .val (.int p2), .val (.ref b1), .unset, .unset, .unset, .unset] [(.long (10000000000 : Int64)), (.int (10 : Int32)), (.ref b38), (.ref b38)])) _
    refine st67 _ ?_
    show Steps p.tables e below (T67.setTop (mkF m 122 #[.val (.int p1), .val (.int p2), .val (.ref b1), .unset, .unset, .unset, .unset] [(.ref b38)])) _
    refine XS.dup X67.here hx rfl (hb hby at_122) rfl rfl ?_
    show Steps p.tables e below (T67.setTop (mkF m 123 #[.val (.int p1), .val (.int p2), .val (.ref b1), .unset, .unset, .unset, .unset] [(.ref b38), (.ref b38)])) _
    refine XS.bipush X67.here hx rfl (hb hby at_123) ?_
    show Steps p.tables e below (T67.setTop (mkF m 125 #[.val (.int p1), .val (.int p2), .val (.ref b1), .unset, .unset, .unset, .unset] [(.int (11 : Int32)), (.ref b38), (.ref b38)])) _
    refine X67.ldc2Long hx hown (mvT hZ (hw _ (List.mem_of_getElem? (i := 29) rfl))) (g := (mkF m 125 #[.val (.int p1), .val (.int p2), .val (.ref b1), .unset, .unset, .unset, .unset] [(.int (11 : Int32)), (.ref b38), (.ref b38)])) rfl (hb hby at_125) _ ?_
    show Steps p.tables e below (T67.setTop (mkF m 128 #[.val (.int p1), .val (.int p2), .val (.ref b1), .unset, .unset, .unset, .unset] [(.long (100000000000 : Int64)), (.int (11 : Int32)), (.ref b38), (.ref b38)])) _
    refine st69 _ ?_
    show Steps p.tables e below (T69.setTop (mkF m 129 #[.val (.int p1), .val (.int p2), .val (.ref b1), .unset, .unset, .unset, .unset] [(.ref b38)])) _
    refine XS.dup X69.here hx rfl (hb hby at_129) rfl rfl ?_
    show Steps p.tables e below (T69.setTop (mkF m 130 #[.val (.int p1), .val (.int p2), .val (.ref b1), .unset, .unset, .unset, .unset] [(.ref b38), (.ref b38)])) _
    refine XS.bipush X69.here hx rfl (hb hby at_130) ?_
    show Steps p.tables e below (T69.setTop (mkF m 132 #[.val (.int p1), .val (.int p2), .val (.ref b1), .unset, .unset, .unset, .unset] [(.int (12 : Int32)), (.ref b38), (.ref b38)])) _
    refine X69.ldc2Long hx hown (mvT hZ (hw _ (List.mem_of_getElem? (i := 30) rfl))) (g := (mkF m 132 #[.val (.int p1), .val (.int p2), .val (.ref b1), .unset, .unset, .unset, .unset] [(.int (12 : Int32)), (.ref b38), (.ref b38)])) rfl (hb hby at_132) _ ?_
    show Steps p.tables e below (T69.setTop (mkF m 135 #[.val (.int p1), .val (.int p2), .val (.ref b1), .unset, .unset, .unset, .unset] [(.long (1000000000000 : Int64)), (.int (12 : Int32)), (.ref b38), (.ref b38)])) _
    refine st71 _ ?_
    show Steps p.tables e below (T71.setTop (mkF m 136 #[.val (.int p1), .val (.int p2), .val (.ref b1), .unset, .unset, .unset, .unset] [(.ref b38)])) _
    refine XS.dup X71.here hx rfl (hb hby at_136) rfl rfl ?_
    show Steps p.tables e below (T71.setTop (mkF m 137 #[.val (.int p1), .val (.int p2), .val (.ref b1), .unset, .unset, .unset, .unset] [(.ref b38), (.ref b38)])) _
    refine XS.bipush X71.here hx rfl (hb hby at_137) ?_
    show Steps p.tables e below (T71.setTop (mkF m 139 #[.val (.int p1), .val (.int p2), .val (.ref b1), .unset, .unset, .unset, .unset] [(.int (13 : Int32)), (.ref b38), (.ref b38)])) _
    refine X71.ldc2Long hx hown (mvT hZ (hw _ (List.mem_of_getElem? (i := 31) rfl))) (g := (mkF m 139 #[.val (.int p1), .val (.int p2), .val (.ref b1), .unset, .unset, .unset, .unset] [(.int (13 : Int32)), (.ref b38), (.ref b38)])) rfl (hb hby at_139) _ ?_
    show Steps p.tables e below (T71.setTop (mkF m 142 #[.val (.int p1), .val (.int p2), .val (.ref b1), .unset, .unset, .unset, .unset] [(.long (10000000000000 : Int64)), (.int (13 : Int32)), (.ref b38), (.ref b38)])) _
    refine st73 _ ?_
    show Steps p.tables e below (T73.setTop (mkF m 143 #[.val (.int p1), .val (.int p2), .val (.ref b1), .unset, .unset, .unset, .unset] [(.ref b38)])) _
    refine XS.dup X73.here hx rfl (hb hby at_143) rfl rfl ?_
    show Steps p.tables e below (T73.setTop (mkF m 144 #[.val (.int p1), .val (.int p2), .val (.ref b1), .unset, .unset, .unset, .unset] [(.ref b38), (.ref b38)])) _
    refine XS.bipush X73.here hx rfl (hb hby at_144) ?_
    show Steps p.tables e below (T73.setTop (mkF m 146 #[.val (.int p1), .val (.int p2), .val (.ref b1), .unset, .unset, .unset, .unset] [(.int (14 : Int32)), (.ref b38), (.ref b38)])) _
    refine X73.ldc2Long hx hown (mvT hZ (hw _ (List.mem_of_getElem? (i := 32) rfl))) (g := (mkF m 146 #[.val (.int p1), .val (.int p2), .val (.ref b1), .unset, .unset, .unset, .unset] [(.int (14 : Int32)), (.ref b38), (.ref b38)])) rfl (hb hby at_146) _ ?_
    show Steps p.tables e below (T73.setTop (mkF m 149 #[.val (.int p1), .val (.int p2), .val (.ref b1), .unset, .unset, .unset, .unset] [(.long (100000000000000 : Int64)), (.int (14 : Int32)), (.ref b38), (.ref b38)])) _
    refine st75 _ ?_
    show Steps p.tables e below (T75.setTop (mkF m 150 #[.val (.int p1), .val (.int p2), .val (.ref b1), .unset, .unset, .unset, .unset] [(.ref b38)])) _
    refine XS.dup X75.here hx rfl (hb hby at_150) rfl rfl ?_
    show Steps p.tables e below (T75.setTop (mkF m 151 #[.val (.int p1), .val (.int p2), .val (.ref b1), .unset, .unset, .unset, .unset] [(.ref b38), (.ref b38)])) _
    refine XS.bipush X75.here hx rfl (hb hby at_151) ?_
    show Steps p.tables e below (T75.setTop (mkF m 153 #[.val (.int p1), .val (.int p2), .val (.ref b1), .unset, .unset, .unset, .unset] [(.int (15 : Int32)), (.ref b38), (.ref b38)])) _
    refine X75.ldc2Long hx hown (mvT hZ (hw _ (List.mem_of_getElem? (i := 33) rfl))) (g := (mkF m 153 #[.val (.int p1), .val (.int p2), .val (.ref b1), .unset, .unset, .unset, .unset] [(.int (15 : Int32)), (.ref b38), (.ref b38)])) rfl (hb hby at_153) _ ?_
    show Steps p.tables e below (T75.setTop (mkF m 156 #[.val (.int p1), .val (.int p2), .val (.ref b1), .unset, .unset, .unset, .unset] [(.long (1000000000000000 : Int64)), (.int (15 : Int32)), (.ref b38), (.ref b38)])) _
    refine st77 _ ?_
    show Steps p.tables e below (T77.setTop (mkF m 157 #[.val (.int p1), .val (.int p2), .val (.ref b1), .unset, .unset, .unset, .unset] [(.ref b38)])) _
    refine XS.dup X77.here hx rfl (hb hby at_157) rfl rfl ?_
    show Steps p.tables e below (T77.setTop (mkF m 158 #[.val (.int p1), .val (.int p2), .val (.ref b1), .unset, .unset, .unset, .unset] [(.ref b38), (.ref b38)])) _
    refine XS.bipush X77.here hx rfl (hb hby at_158) ?_
    show Steps p.tables e below (T77.setTop (mkF m 160 #[.val (.int p1), .val (.int p2), .val (.ref b1), .unset, .unset, .unset, .unset] [(.int (16 : Int32)), (.ref b38), (.ref b38)])) _
    refine X77.ldc2Long hx hown (mvT hZ (hw _ (List.mem_of_getElem? (i := 34) rfl))) (g := (mkF m 160 #[.val (.int p1), .val (.int p2), .val (.ref b1), .unset, .unset, .unset, .unset] [(.int (16 : Int32)), (.ref b38), (.ref b38)])) rfl (hb hby at_160) _ ?_
    show Steps p.tables e below (T77.setTop (mkF m 163 #[.val (.int p1), .val (.int p2), .val (.ref b1), .unset, .unset, .unset, .unset] [(.long (10000000000000000 : Int64)), (.int (16 : Int32)), (.ref b38), (.ref b38)])) _
    refine st79 _ ?_
    show Steps p.tables e below (T79.setTop (mkF m 164 #[.val (.int p1), .val (.int p2), .val (.ref b1), .unset, .unset, .unset, .unset] [(.ref b38)])) _
    refine XS.dup X79.here hx rfl (hb hby at_164) rfl rfl ?_
    show Steps p.tables e below (T79.setTop (mkF m 165 #[.val (.int p1), .val (.int p2), .val (.ref b1), .unset, .unset, .unset, .unset] [(.ref b38), (.ref b38)])) _
    refine XS.bipush X79.here hx rfl (hb hby at_165) ?_
    show Steps p.tables e below (T79.setTop (mkF m 167 #[.val (.int p1), .val (.int p2), .val (.ref b1), .unset, .unset, .unset, .unset] [(.int (17 : Int32)), (.ref b38), (.ref b38)])) _
    refine X79.ldc2Long hx hown (mvT hZ (hw _ (List.mem_of_getElem? (i := 35) rfl))) (g := (mkF m 167 #[.val (.int p1), .val (.int p2), .val (.ref b1), .unset, .unset, .unset, .unset] [(.int (17 : Int32)), (.ref b38), (.ref b38)])) rfl (hb hby at_167) _ ?_
    show Steps p.tables e below (T79.setTop (mkF m 170 #[.val (.int p1), .val (.int p2), .val (.ref b1), .unset, .unset, .unset, .unset] [(.long (100000000000000000 : Int64)), (.int (17 : Int32)), (.ref b38), (.ref b38)])) _
    refine st81 _ ?_
    show Steps p.tables e below (T81.setTop (mkF m 171 #[.val (.int p1), .val (.int p2), .val (.ref b1), .unset, .unset, .unset, .unset] [(.ref b38)])) _
    refine XS.dup X81.here hx rfl (hb hby at_171) rfl rfl ?_
    show Steps p.tables e below (T81.setTop (mkF m 172 #[.val (.int p1), .val (.int p2), .val (.ref b1), .unset, .unset, .unset, .unset] [(.ref b38), (.ref b38)])) _
    refine XS.bipush X81.here hx rfl (hb hby at_172) ?_
    show Steps p.tables e below (T81.setTop (mkF m 174 #[.val (.int p1), .val (.int p2), .val (.ref b1), .unset, .unset, .unset, .unset] [(.int (18 : Int32)), (.ref b38), (.ref b38)])) _
    refine X81.ldc2Long hx hown (mvT hZ (hw _ (List.mem_of_getElem? (i := 36) rfl))) (g := (mkF m 174 #[.val (.int p1), .val (.int p2), .val (.ref b1), .unset, .unset, .unset, .unset] [(.int (18 : Int32)), (.ref b38), (.ref b38)])) rfl (hb hby at_174) _ ?_
    show Steps p.tables e below (T81.setTop (mkF m 177 #[.val (.int p1), .val (.int p2), .val (.ref b1), .unset, .unset, .unset, .unset] [(.long (1000000000000000000 : Int64)), (.int (18 : Int32)), (.ref b38), (.ref b38)])) _
    refine st83 _ ?_
    show Steps p.tables e below (T83.setTop (mkF m 178 #[.val (.int p1), .val (.int p2), .val (.ref b1), .unset, .unset, .unset, .unset] [(.ref b38)])) _
    refine XS.astoreN X83.here hx rfl (hb hby at_178) rfl rfl (l' := #[.val (.int p1), .val (.int p2), .val (.ref b1), .val (.ref b38), .unset, .unset, .unset]) rfl ?_
    show Steps p.tables e below (T83.setTop (mkF m 179 #[.val (.int p1), .val (.int p2), .val (.ref b1), .val (.ref b38), .unset, .unset, .unset] [])) _
    refine XS.aloadN X83.here hx rfl (hb hby at_179) rfl rfl ?_
    show Steps p.tables e below (T83.setTop (mkF m 180 #[.val (.int p1), .val (.int p2), .val (.ref b1), .val (.ref b38), .unset, .unset, .unset] [(.ref b1)])) _
    refine XS.iloadN X83.here hx rfl (hb hby at_180) rfl ?_
    show Steps p.tables e below (T83.setTop (mkF m 181 #[.val (.int p1), .val (.int p2), .val (.ref b1), .val (.ref b38), .unset, .unset, .unset] [(.int p1), (.ref b1)])) _
    refine X83.ldcInt hx hown (mvT hZ (hw _ (List.mem_of_getElem? (i := 37) rfl))) (g := (mkF m 181 #[.val (.int p1), .val (.int p2), .val (.ref b1), .val (.ref b38), .unset, .unset, .unset] [(.int p1), (.ref b1)])) rfl (hb hby at_181) _ ?_
    show Steps p.tables e below (T83.setTop (mkF m 183 #[.val (.int p1), .val (.int p2), .val (.ref b1), .val (.ref b38), .unset, .unset, .unset] [(.int (2147483647 : Int32)), (.int p1), (.ref b1)])) _
    refine XS.iand X83.here hx rfl (hb hby at_183) rfl ?_
    show Steps p.tables e below (T83.setTop (mkF m 184 #[.val (.int p1), .val (.int p2), .val (.ref b1), .val (.ref b38), .unset, .unset, .unset] [(.int (p1 &&& (2147483647 : Int32))), (.ref b1)])) _
    refine XS.bipush X83.here hx rfl (hb hby at_184) ?_
    show Steps p.tables e below (T83.setTop (mkF m 186 #[.val (.int p1), .val (.int p2), .val (.ref b1), .val (.ref b38), .unset, .unset, .unset] [(.int (7 : Int32)), (.int (p1 &&& (2147483647 : Int32))), (.ref b1)])) _
    refine iremM X83 hx rfl (hb hby at_186) rfl (by decide) ?_
    exact k
  rcases own_seven p1 with hk186 | hk186 | hk186 | hk186 | hk186 | hk186 | hk186
  · rw [hk186]
    have f86 : AV Z h83 b1 k1 (.object "com/example/poukaz/poukaz/FieldKind") 7 (updR (updR (updR (updR (updR (updR (updR (fun _ => Value.null) 0 (.ref o_NUMBER)) 1 (.ref o_NUMBER_OR_BLANK)) 2 (.ref o_DECIMAL)) 3 (.ref o_DATE)) 4 (.ref o_DATE_OR_ZEROS)) 5 (.ref o_POSTAL_CODE)) 6 (.ref o_TEXT)) := ((((((((((((((((((((V35.ext E38).other W47 ne_b1_b38).other W49 ne_b1_b38).other W51 ne_b1_b38).other W53 ne_b1_b38).other W55 ne_b1_b38).other W57 ne_b1_b38).other W59 ne_b1_b38).other W61 ne_b1_b38).other W63 ne_b1_b38).other W65 ne_b1_b38).other W67 ne_b1_b38).other W69 ne_b1_b38).other W71 ne_b1_b38).other W73 ne_b1_b38).other W75 ne_b1_b38).other W77 ne_b1_b38).other W79 ne_b1_b38).other W81 ne_b1_b38).other W83 ne_b1_b38)
    obtain ⟨cl85, Ar85, kc85, sz85, -, hv85⟩ := id f86
    have hin85 : ¬ ((0 : Int32) < 0 ∨ cl85.slots.size ≤ ((0 : Int32)).toNatClampNeg) := AV.inb sz85 (show ¬ (0 : Int32) < 0 ∧ ((0 : Int32)).toNatClampNeg < 7 by decide)
    have hat85 : cl85.slots[((0 : Int32)).toNatClampNeg]? = some (.ref o_NUMBER) := (hv85 _ (AV.inx (show ¬ (0 : Int32) < 0 ∧ ((0 : Int32)).toNatClampNeg < 7 by decide))).trans (congrArg some rfl)
    obtain ⟨dg, hdg⟩ : ∃ z : Int32, z = ((p2 &&& (2147483647 : Int32)) % (19 : Int32)) := ⟨_, rfl⟩
    refine GoalS.lift (B := (T83.setTop (mkF m 197 #[.val (.int p1), .val (.int p2), .val (.ref b1), .val (.ref b38), .val (.ref o_NUMBER), .unset, .unset] [(.int dg)]))) (fun t k => ?_) ?_
    · show Steps p.tables e below (T83.setTop (mkF m 187 #[.val (.int p1), .val (.int p2), .val (.ref b1), .val (.ref b38), .unset, .unset, .unset] [(.int (0 : Int32)), (.ref b1)])) _
      refine X83.aaload hx (j := (0 : Int32)) (v := (.ref o_NUMBER)) (by rw [e83]; exact Ar85.1) (State.isArrayOf_alike hZ.alike Ar85.2.1) rfl Ar85.2.2 hin85 hat85 (g := (mkF m 187 #[.val (.int p1), .val (.int p2), .val (.ref b1), .val (.ref b38), .unset, .unset, .unset] [(.int (0 : Int32)), (.ref b1)])) rfl rfl (hb hby at_187) _ ?_
      show Steps p.tables e below (T83.setTop (mkF m 188 #[.val (.int p1), .val (.int p2), .val (.ref b1), .val (.ref b38), .unset, .unset, .unset] [(.ref o_NUMBER)])) _
      refine XS.astore X83.here hx rfl (hb hby at_188) rfl rfl (l' := #[.val (.int p1), .val (.int p2), .val (.ref b1), .val (.ref b38), .val (.ref o_NUMBER), .unset, .unset]) rfl ?_
      show Steps p.tables e below (T83.setTop (mkF m 190 #[.val (.int p1), .val (.int p2), .val (.ref b1), .val (.ref b38), .val (.ref o_NUMBER), .unset, .unset] [])) _
      refine XS.iloadN X83.here hx rfl (hb hby at_190) rfl ?_
      show Steps p.tables e below (T83.setTop (mkF m 191 #[.val (.int p1), .val (.int p2), .val (.ref b1), .val (.ref b38), .val (.ref o_NUMBER), .unset, .unset] [(.int p2)])) _
      refine X83.ldcInt hx hown (mvT hZ (hw _ (List.mem_of_getElem? (i := 37) rfl))) (g := (mkF m 191 #[.val (.int p1), .val (.int p2), .val (.ref b1), .val (.ref b38), .val (.ref o_NUMBER), .unset, .unset] [(.int p2)])) rfl (hb hby at_191) _ ?_
      show Steps p.tables e below (T83.setTop (mkF m 193 #[.val (.int p1), .val (.int p2), .val (.ref b1), .val (.ref b38), .val (.ref o_NUMBER), .unset, .unset] [(.int (2147483647 : Int32)), (.int p2)])) _
      refine XS.iand X83.here hx rfl (hb hby at_193) rfl ?_
      show Steps p.tables e below (T83.setTop (mkF m 194 #[.val (.int p1), .val (.int p2), .val (.ref b1), .val (.ref b38), .val (.ref o_NUMBER), .unset, .unset] [(.int (p2 &&& (2147483647 : Int32)))])) _
      refine XS.bipush X83.here hx rfl (hb hby at_194) ?_
      show Steps p.tables e below (T83.setTop (mkF m 196 #[.val (.int p1), .val (.int p2), .val (.ref b1), .val (.ref b38), .val (.ref o_NUMBER), .unset, .unset] [(.int (19 : Int32)), (.int (p2 &&& (2147483647 : Int32)))])) _
      refine iremM X83 hx rfl (hb hby at_196) rfl (by decide) ?_
      rw [hdg] at k
      exact k
    obtain ⟨N, hN, hdN⟩ := own_dig p2
    rw [← hdg] at hdN
    have f87 : Sta Z h83 "com/example/poukaz/poukaz/FieldKind" "DECIMAL" "Lcom/example/poukaz/poukaz/FieldKind;" (.ref o_DECIMAL) := (((((((((((((((((((((((((f13.wr W15).wr W20).wr W25).wr W30).wr W35).ext E38).wr W47).wr W49).wr W51).wr W53).wr W55).wr W57).wr W59).wr W61).wr W63).wr W65).wr W67).wr W69).wr W71).wr W73).wr W75).wr W77).wr W79).wr W81).wr W83)
    obtain ⟨T88, X88, e88, st88⟩ := getS2 X83 hx hZ hown (host := "") (Or.inl (hw _ (List.mem_of_getElem? (i := 8) rfl))) Via.refl e83 f87 (g := (mkF m 201 #[.val (.int p1), .val (.int p2), .val (.ref b1), .val (.ref b38), .val (.ref o_NUMBER), .val (.int dg), .unset] [(.ref o_NUMBER)])) rfl (hb hby at_201)
    have f90 : Exa Z h83 o_NUMBER "com/example/poukaz/poukaz/FieldKind" := ((((((((((((((((((((f39.ext E38).wr W47).wr W49).wr W51).wr W53).wr W55).wr W57).wr W59).wr W61).wr W63).wr W65).wr W67).wr W69).wr W71).wr W73).wr W75).wr W77).wr W79).wr W81).wr W83)
    obtain ⟨cq89, kq89, q89a, q89b, q89c⟩ := isOf hZ e88 f90
    obtain ⟨_, _, ⟨T89, L89, k89, n89⟩, -, X89, ⟨Lc89, hQ89, l89, y89, z89⟩, st89⟩ := X88.virtualBack hx (y := (⟨"com/example/poukaz/poukaz/FieldKind", "largestNumber", "(I)J"⟩ : MethodName)) (z := (⟨"com/example/poukaz/poukaz/FieldKind", "largestNumber", "(I)J"⟩ : MethodName)) hown (mvT hZ (hw _ (List.mem_of_getElem? (i := 38) rfl))) (mvT hZ (hw _ (List.mem_of_getElem? (i := 39) rfl))) (notFace_of_selects (args := #[]) (mvT hZ (hw _ (List.mem_of_getElem? (i := 41) rfl)))) (mvT hZ (hw _ (List.mem_of_getElem? (i := 41) rfl))) (mvT hZ (hw _ (List.mem_of_getElem? (i := 40) rfl))) (by decide) (backOf (W := 0) (rm1o l Z a0 hw [] o_NUMBER dg o_DECIMAL N h83 n0 z84 f87 ne_o_NUMBER_o_DECIMAL hN hdN) hZ (hw _ (List.mem_of_getElem? (i := 42) rfl)) (hw _ (List.mem_of_getElem? (i := 3) rfl)) (by decide) (by decide)) q89a q89c (g := (mkF m 222 #[.val (.int p1), .val (.int p2), .val (.ref b1), .val (.ref b38), .val (.ref o_NUMBER), .val (.int dg), .val (.int dg)] [(.int dg), (.ref o_NUMBER)])) rfl (by rw [hml]; rfl) (Steps.refl _) (argsL := [(.int dg)]) (rest := []) (lenOf pd_0 rfl) rfl (by show 2 * 0 + _ ≤ _; exact Nat.le_of_eq rfl) (hb hby at_222) (fun _ _ => ⟨rfl, e88, (by decide : 2 + 0 ≤ _), (by decide : 26 + 0 ≤ _)⟩)
    dsimp only [Pt.U, Pt.locs, Pt.cells, Pt.slots] at X89 l89 y89 z89 st89 hQ89
    subst y89 z89
    obtain ⟨r89, rfl, hr89, N89q, eq89⟩ := hQ89
    have N89 : Fr n0 L89 := by rw [l89]; exact Fr.app N83 N89q
    obtain ⟨cl91, Ar91, kc91, sz91, -, hv91⟩ := id V83
    have hin91 : ¬ (dg < 0 ∨ cl91.slots.size ≤ (dg).toNatClampNeg) := AV.inb sz91 ⟨(own_nat hdN hN).1, by rw [(own_nat hdN hN).2]; exact hN⟩
    have hat91 : cl91.slots[(dg).toNatClampNeg]? = some (.long (fn83 (dg).toNatClampNeg)) := (hv91 _ (AV.inx ⟨(own_nat hdN hN).1, by rw [(own_nat hdN hN).2]; exact hN⟩)).trans (congrArg some rfl)
    obtain ⟨fs, hr, hrun, hended, hW, hsame⟩ := X89.leave (v := some (.int (1 : Int32))) (fun h => by rw [Bd.returns] at h; cases h)
    refine ⟨_, _, ?_, hrun, hended, _, _, rfl, ?_, ⟨_, rfl⟩, hW, hsame.mono (by decide) (by decide)⟩
    · show Steps p.tables e below (T83.setTop (mkF m 197 #[.val (.int p1), .val (.int p2), .val (.ref b1), .val (.ref b38), .val (.ref o_NUMBER), .unset, .unset] [(.int dg)])) _
      refine XS.istore X83.here hx rfl (hb hby at_197) rfl (l' := #[.val (.int p1), .val (.int p2), .val (.ref b1), .val (.ref b38), .val (.ref o_NUMBER), .val (.int dg), .unset]) rfl ?_
      show Steps p.tables e below (T83.setTop (mkF m 199 #[.val (.int p1), .val (.int p2), .val (.ref b1), .val (.ref b38), .val (.ref o_NUMBER), .val (.int dg), .unset] [])) _
      refine XS.aload X83.here hx rfl (hb hby at_199) rfl rfl ?_
      show Steps p.tables e below (T83.setTop (mkF m 201 #[.val (.int p1), .val (.int p2), .val (.ref b1), .val (.ref b38), .val (.ref o_NUMBER), .val (.int dg), .unset] [(.ref o_NUMBER)])) _
      refine st88 _ ?_
      show Steps p.tables e below (T88.setTop (mkF m 204 #[.val (.int p1), .val (.int p2), .val (.ref b1), .val (.ref b38), .val (.ref o_NUMBER), .val (.int dg), .unset] [(.ref o_DECIMAL), (.ref o_NUMBER)])) _
      refine Jvm.RoadKit.acmp (g := (mkF m 204 #[.val (.int p1), .val (.int p2), .val (.ref b1), .val (.ref b38), .val (.ref o_NUMBER), .val (.int dg), .unset] [(.ref o_DECIMAL), (.ref o_NUMBER)])) X88 hx rfl rfl rfl (pc0 := 204) (pc' := 214) (same := false) rfl (hb hby at_204) rfl (decide_eq_false fun q => ne_o_NUMBER_o_DECIMAL (Value.ref.inj q)) (by decide) (by decide) ?_
      show Steps p.tables e below (T88.setTop (mkF m 214 #[.val (.int p1), .val (.int p2), .val (.ref b1), .val (.ref b38), .val (.ref o_NUMBER), .val (.int dg), .unset] [])) _
      refine XS.iload X88.here hx rfl (hb hby at_214) rfl ?_
      show Steps p.tables e below (T88.setTop (mkF m 216 #[.val (.int p1), .val (.int p2), .val (.ref b1), .val (.ref b38), .val (.ref o_NUMBER), .val (.int dg), .unset] [(.int dg)])) _
      refine XS.istore X88.here hx rfl (hb hby at_216) rfl (l' := #[.val (.int p1), .val (.int p2), .val (.ref b1), .val (.ref b38), .val (.ref o_NUMBER), .val (.int dg), .val (.int dg)]) rfl ?_
      show Steps p.tables e below (T88.setTop (mkF m 218 #[.val (.int p1), .val (.int p2), .val (.ref b1), .val (.ref b38), .val (.ref o_NUMBER), .val (.int dg), .val (.int dg)] [])) _
      refine XS.aload X88.here hx rfl (hb hby at_218) rfl rfl ?_
      show Steps p.tables e below (T88.setTop (mkF m 220 #[.val (.int p1), .val (.int p2), .val (.ref b1), .val (.ref b38), .val (.ref o_NUMBER), .val (.int dg), .val (.int dg)] [(.ref o_NUMBER)])) _
      refine XS.iload X88.here hx rfl (hb hby at_220) rfl ?_
      show Steps p.tables e below (T88.setTop (mkF m 222 #[.val (.int p1), .val (.int p2), .val (.ref b1), .val (.ref b38), .val (.ref o_NUMBER), .val (.int dg), .val (.int dg)] [(.int dg), (.ref o_NUMBER)])) _
      refine st89.trans ?_
      show Steps p.tables e below (T89.setTop (mkF m 225 #[.val (.int p1), .val (.int p2), .val (.ref b1), .val (.ref b38), .val (.ref o_NUMBER), .val (.int dg), .val (.int dg)] [(.long r89)])) _
      refine XS.aloadN X89.here hx rfl (hb hby at_225) rfl rfl ?_
      show Steps p.tables e below (T89.setTop (mkF m 226 #[.val (.int p1), .val (.int p2), .val (.ref b1), .val (.ref b38), .val (.ref o_NUMBER), .val (.int dg), .val (.int dg)] [(.ref b38), (.long r89)])) _
      refine XS.iload X89.here hx rfl (hb hby at_226) rfl ?_
      show Steps p.tables e below (T89.setTop (mkF m 228 #[.val (.int p1), .val (.int p2), .val (.ref b1), .val (.ref b38), .val (.ref o_NUMBER), .val (.int dg), .val (.int dg)] [(.int dg), (.ref b38), (.long r89)])) _
      refine X89.laload hx (j := dg) (v := (.long (fn83 (dg).toNatClampNeg))) (by rw [eq89]; exact Ar91.1) (State.isArrayOf_alike hZ.alike Ar91.2.1) Ar91.2.2 hin91 hat91 (g := (mkF m 228 #[.val (.int p1), .val (.int p2), .val (.ref b1), .val (.ref b38), .val (.ref o_NUMBER), .val (.int dg), .val (.int dg)] [(.int dg), (.ref b38), (.long r89)])) rfl rfl (hb hby at_228) _ ?_
      show Steps p.tables e below (T89.setTop (mkF m 229 #[.val (.int p1), .val (.int p2), .val (.ref b1), .val (.ref b38), .val (.ref o_NUMBER), .val (.int dg), .val (.int dg)] [(.long (fn83 (dg).toNatClampNeg)), (.long r89)])) _
      refine XS.lconst X89.here hx rfl (hb hby at_229) ?_
      show Steps p.tables e below (T89.setTop (mkF m 230 #[.val (.int p1), .val (.int p2), .val (.ref b1), .val (.ref b38), .val (.ref o_NUMBER), .val (.int dg), .val (.int dg)] [(.long (1 : Int64)), (.long (fn83 (dg).toNatClampNeg)), (.long r89)])) _
      refine XS.lsub X89.here hx rfl (hb hby at_230) rfl ?_
      show Steps p.tables e below (T89.setTop (mkF m 231 #[.val (.int p1), .val (.int p2), .val (.ref b1), .val (.ref b38), .val (.ref o_NUMBER), .val (.int dg), .val (.int dg)] [(.long ((fn83 (dg).toNatClampNeg) - (1 : Int64))), (.long r89)])) _
      refine XS.lcmp X89.here hx rfl (hb hby at_231) rfl ?_
      show Steps p.tables e below (T89.setTop (mkF m 232 #[.val (.int p1), .val (.int p2), .val (.ref b1), .val (.ref b38), .val (.ref o_NUMBER), .val (.int dg), .val (.int dg)] [(.int (lcmpW r89 ((fn83 (dg).toNatClampNeg) - (1 : Int64))))])) _
      refine XS.ifNo X89.here hx rfl (hb hby at_232) rfl ((if0 _ _).trans (teq ((lw_eq r89 ((fn83 (dg).toNatClampNeg) - (1 : Int64))).mpr (by rw [hr89, (own_nat hdN hN).2, hfn83, hfn81, hfn79, hfn77, hfn75, hfn73, hfn71, hfn69, hfn67, hfn65, hfn63, hfn61, hfn59, hfn57, hfn55, hfn53, hfn51, hfn49, hfn47]; exact own_tens ⟨N, hN⟩ : r89 = ((fn83 (dg).toNatClampNeg) - (1 : Int64))))).2) ?_
      show Steps p.tables e below (T89.setTop (mkF m 235 #[.val (.int p1), .val (.int p2), .val (.ref b1), .val (.ref b38), .val (.ref o_NUMBER), .val (.int dg), .val (.int dg)] [])) _
      refine XS.iconst X89.here hx rfl (hb hby at_235) ?_
      show Steps p.tables e below (T89.setTop (mkF m 236 #[.val (.int p1), .val (.int p2), .val (.ref b1), .val (.ref b38), .val (.ref o_NUMBER), .val (.int dg), .val (.int dg)] [(.int (1 : Int32))])) _
      refine XS.goto X89.here hx rfl (pc0 := 236) (pc' := 240) rfl (hb hby at_236) (by decide) (by decide) ?_
      show Steps p.tables e below (T89.setTop (mkF m 240 #[.val (.int p1), .val (.int p2), .val (.ref b1), .val (.ref b38), .val (.ref o_NUMBER), .val (.int dg), .val (.int dg)] [(.int (1 : Int32))])) _
      exact retN X89 hx (t := .boolean) Bd.returns (by simp) (hb hby at_240) hr
    · exact ⟨rfl, N89⟩
  · rw [hk186]
    have f93 : AV Z h83 b1 k1 (.object "com/example/poukaz/poukaz/FieldKind") 7 (updR (updR (updR (updR (updR (updR (updR (fun _ => Value.null) 0 (.ref o_NUMBER)) 1 (.ref o_NUMBER_OR_BLANK)) 2 (.ref o_DECIMAL)) 3 (.ref o_DATE)) 4 (.ref o_DATE_OR_ZEROS)) 5 (.ref o_POSTAL_CODE)) 6 (.ref o_TEXT)) := ((((((((((((((((((((V35.ext E38).other W47 ne_b1_b38).other W49 ne_b1_b38).other W51 ne_b1_b38).other W53 ne_b1_b38).other W55 ne_b1_b38).other W57 ne_b1_b38).other W59 ne_b1_b38).other W61 ne_b1_b38).other W63 ne_b1_b38).other W65 ne_b1_b38).other W67 ne_b1_b38).other W69 ne_b1_b38).other W71 ne_b1_b38).other W73 ne_b1_b38).other W75 ne_b1_b38).other W77 ne_b1_b38).other W79 ne_b1_b38).other W81 ne_b1_b38).other W83 ne_b1_b38)
    obtain ⟨cl92, Ar92, kc92, sz92, -, hv92⟩ := id f93
    have hin92 : ¬ ((1 : Int32) < 0 ∨ cl92.slots.size ≤ ((1 : Int32)).toNatClampNeg) := AV.inb sz92 (show ¬ (1 : Int32) < 0 ∧ ((1 : Int32)).toNatClampNeg < 7 by decide)
    have hat92 : cl92.slots[((1 : Int32)).toNatClampNeg]? = some (.ref o_NUMBER_OR_BLANK) := (hv92 _ (AV.inx (show ¬ (1 : Int32) < 0 ∧ ((1 : Int32)).toNatClampNeg < 7 by decide))).trans (congrArg some rfl)
    obtain ⟨dg, hdg⟩ : ∃ z : Int32, z = ((p2 &&& (2147483647 : Int32)) % (19 : Int32)) := ⟨_, rfl⟩
    refine GoalS.lift (B := (T83.setTop (mkF m 197 #[.val (.int p1), .val (.int p2), .val (.ref b1), .val (.ref b38), .val (.ref o_NUMBER_OR_BLANK), .unset, .unset] [(.int dg)]))) (fun t k => ?_) ?_
    · show Steps p.tables e below (T83.setTop (mkF m 187 #[.val (.int p1), .val (.int p2), .val (.ref b1), .val (.ref b38), .unset, .unset, .unset] [(.int (1 : Int32)), (.ref b1)])) _
      refine X83.aaload hx (j := (1 : Int32)) (v := (.ref o_NUMBER_OR_BLANK)) (by rw [e83]; exact Ar92.1) (State.isArrayOf_alike hZ.alike Ar92.2.1) rfl Ar92.2.2 hin92 hat92 (g := (mkF m 187 #[.val (.int p1), .val (.int p2), .val (.ref b1), .val (.ref b38), .unset, .unset, .unset] [(.int (1 : Int32)), (.ref b1)])) rfl rfl (hb hby at_187) _ ?_
      show Steps p.tables e below (T83.setTop (mkF m 188 #[.val (.int p1), .val (.int p2), .val (.ref b1), .val (.ref b38), .unset, .unset, .unset] [(.ref o_NUMBER_OR_BLANK)])) _
      refine XS.astore X83.here hx rfl (hb hby at_188) rfl rfl (l' := #[.val (.int p1), .val (.int p2), .val (.ref b1), .val (.ref b38), .val (.ref o_NUMBER_OR_BLANK), .unset, .unset]) rfl ?_
      show Steps p.tables e below (T83.setTop (mkF m 190 #[.val (.int p1), .val (.int p2), .val (.ref b1), .val (.ref b38), .val (.ref o_NUMBER_OR_BLANK), .unset, .unset] [])) _
      refine XS.iloadN X83.here hx rfl (hb hby at_190) rfl ?_
      show Steps p.tables e below (T83.setTop (mkF m 191 #[.val (.int p1), .val (.int p2), .val (.ref b1), .val (.ref b38), .val (.ref o_NUMBER_OR_BLANK), .unset, .unset] [(.int p2)])) _
      refine X83.ldcInt hx hown (mvT hZ (hw _ (List.mem_of_getElem? (i := 37) rfl))) (g := (mkF m 191 #[.val (.int p1), .val (.int p2), .val (.ref b1), .val (.ref b38), .val (.ref o_NUMBER_OR_BLANK), .unset, .unset] [(.int p2)])) rfl (hb hby at_191) _ ?_
      show Steps p.tables e below (T83.setTop (mkF m 193 #[.val (.int p1), .val (.int p2), .val (.ref b1), .val (.ref b38), .val (.ref o_NUMBER_OR_BLANK), .unset, .unset] [(.int (2147483647 : Int32)), (.int p2)])) _
      refine XS.iand X83.here hx rfl (hb hby at_193) rfl ?_
      show Steps p.tables e below (T83.setTop (mkF m 194 #[.val (.int p1), .val (.int p2), .val (.ref b1), .val (.ref b38), .val (.ref o_NUMBER_OR_BLANK), .unset, .unset] [(.int (p2 &&& (2147483647 : Int32)))])) _
      refine XS.bipush X83.here hx rfl (hb hby at_194) ?_
      show Steps p.tables e below (T83.setTop (mkF m 196 #[.val (.int p1), .val (.int p2), .val (.ref b1), .val (.ref b38), .val (.ref o_NUMBER_OR_BLANK), .unset, .unset] [(.int (19 : Int32)), (.int (p2 &&& (2147483647 : Int32)))])) _
      refine iremM X83 hx rfl (hb hby at_196) rfl (by decide) ?_
      rw [hdg] at k
      exact k
    obtain ⟨N, hN, hdN⟩ := own_dig p2
    rw [← hdg] at hdN
    have f94 : Sta Z h83 "com/example/poukaz/poukaz/FieldKind" "DECIMAL" "Lcom/example/poukaz/poukaz/FieldKind;" (.ref o_DECIMAL) := (((((((((((((((((((((((((f13.wr W15).wr W20).wr W25).wr W30).wr W35).ext E38).wr W47).wr W49).wr W51).wr W53).wr W55).wr W57).wr W59).wr W61).wr W63).wr W65).wr W67).wr W69).wr W71).wr W73).wr W75).wr W77).wr W79).wr W81).wr W83)
    obtain ⟨T95, X95, e95, st95⟩ := getS2 X83 hx hZ hown (host := "") (Or.inl (hw _ (List.mem_of_getElem? (i := 8) rfl))) Via.refl e83 f94 (g := (mkF m 201 #[.val (.int p1), .val (.int p2), .val (.ref b1), .val (.ref b38), .val (.ref o_NUMBER_OR_BLANK), .val (.int dg), .unset] [(.ref o_NUMBER_OR_BLANK)])) rfl (hb hby at_201)
    have f97 : Exa Z h83 o_NUMBER_OR_BLANK "com/example/poukaz/poukaz/FieldKind" := ((((((((((((((((((((f40.ext E38).wr W47).wr W49).wr W51).wr W53).wr W55).wr W57).wr W59).wr W61).wr W63).wr W65).wr W67).wr W69).wr W71).wr W73).wr W75).wr W77).wr W79).wr W81).wr W83)
    obtain ⟨cq96, kq96, q96a, q96b, q96c⟩ := isOf hZ e95 f97
    obtain ⟨_, _, ⟨T96, L96, k96, n96⟩, -, X96, ⟨Lc96, hQ96, l96, y96, z96⟩, st96⟩ := X95.virtualBack hx (y := (⟨"com/example/poukaz/poukaz/FieldKind", "largestNumber", "(I)J"⟩ : MethodName)) (z := (⟨"com/example/poukaz/poukaz/FieldKind", "largestNumber", "(I)J"⟩ : MethodName)) hown (mvT hZ (hw _ (List.mem_of_getElem? (i := 38) rfl))) (mvT hZ (hw _ (List.mem_of_getElem? (i := 39) rfl))) (notFace_of_selects (args := #[]) (mvT hZ (hw _ (List.mem_of_getElem? (i := 41) rfl)))) (mvT hZ (hw _ (List.mem_of_getElem? (i := 41) rfl))) (mvT hZ (hw _ (List.mem_of_getElem? (i := 40) rfl))) (by decide) (backOf (W := 0) (rm1o l Z a0 hw [] o_NUMBER_OR_BLANK dg o_DECIMAL N h83 n0 z84 f94 (Ne.symm ne_o_DECIMAL_o_NUMBER_OR_BLANK) hN hdN) hZ (hw _ (List.mem_of_getElem? (i := 42) rfl)) (hw _ (List.mem_of_getElem? (i := 3) rfl)) (by decide) (by decide)) q96a q96c (g := (mkF m 222 #[.val (.int p1), .val (.int p2), .val (.ref b1), .val (.ref b38), .val (.ref o_NUMBER_OR_BLANK), .val (.int dg), .val (.int dg)] [(.int dg), (.ref o_NUMBER_OR_BLANK)])) rfl (by rw [hml]; rfl) (Steps.refl _) (argsL := [(.int dg)]) (rest := []) (lenOf pd_0 rfl) rfl (by show 2 * 0 + _ ≤ _; exact Nat.le_of_eq rfl) (hb hby at_222) (fun _ _ => ⟨rfl, e95, (by decide : 2 + 0 ≤ _), (by decide : 26 + 0 ≤ _)⟩)
    dsimp only [Pt.U, Pt.locs, Pt.cells, Pt.slots] at X96 l96 y96 z96 st96 hQ96
    subst y96 z96
    obtain ⟨r96, rfl, hr96, N96q, eq96⟩ := hQ96
    have N96 : Fr n0 L96 := by rw [l96]; exact Fr.app N83 N96q
    obtain ⟨cl98, Ar98, kc98, sz98, -, hv98⟩ := id V83
    have hin98 : ¬ (dg < 0 ∨ cl98.slots.size ≤ (dg).toNatClampNeg) := AV.inb sz98 ⟨(own_nat hdN hN).1, by rw [(own_nat hdN hN).2]; exact hN⟩
    have hat98 : cl98.slots[(dg).toNatClampNeg]? = some (.long (fn83 (dg).toNatClampNeg)) := (hv98 _ (AV.inx ⟨(own_nat hdN hN).1, by rw [(own_nat hdN hN).2]; exact hN⟩)).trans (congrArg some rfl)
    obtain ⟨fs, hr, hrun, hended, hW, hsame⟩ := X96.leave (v := some (.int (1 : Int32))) (fun h => by rw [Bd.returns] at h; cases h)
    refine ⟨_, _, ?_, hrun, hended, _, _, rfl, ?_, ⟨_, rfl⟩, hW, hsame.mono (by decide) (by decide)⟩
    · show Steps p.tables e below (T83.setTop (mkF m 197 #[.val (.int p1), .val (.int p2), .val (.ref b1), .val (.ref b38), .val (.ref o_NUMBER_OR_BLANK), .unset, .unset] [(.int dg)])) _
      refine XS.istore X83.here hx rfl (hb hby at_197) rfl (l' := #[.val (.int p1), .val (.int p2), .val (.ref b1), .val (.ref b38), .val (.ref o_NUMBER_OR_BLANK), .val (.int dg), .unset]) rfl ?_
      show Steps p.tables e below (T83.setTop (mkF m 199 #[.val (.int p1), .val (.int p2), .val (.ref b1), .val (.ref b38), .val (.ref o_NUMBER_OR_BLANK), .val (.int dg), .unset] [])) _
      refine XS.aload X83.here hx rfl (hb hby at_199) rfl rfl ?_
      show Steps p.tables e below (T83.setTop (mkF m 201 #[.val (.int p1), .val (.int p2), .val (.ref b1), .val (.ref b38), .val (.ref o_NUMBER_OR_BLANK), .val (.int dg), .unset] [(.ref o_NUMBER_OR_BLANK)])) _
      refine st95 _ ?_
      show Steps p.tables e below (T95.setTop (mkF m 204 #[.val (.int p1), .val (.int p2), .val (.ref b1), .val (.ref b38), .val (.ref o_NUMBER_OR_BLANK), .val (.int dg), .unset] [(.ref o_DECIMAL), (.ref o_NUMBER_OR_BLANK)])) _
      refine Jvm.RoadKit.acmp (g := (mkF m 204 #[.val (.int p1), .val (.int p2), .val (.ref b1), .val (.ref b38), .val (.ref o_NUMBER_OR_BLANK), .val (.int dg), .unset] [(.ref o_DECIMAL), (.ref o_NUMBER_OR_BLANK)])) X95 hx rfl rfl rfl (pc0 := 204) (pc' := 214) (same := false) rfl (hb hby at_204) rfl (decide_eq_false fun q => (Ne.symm ne_o_DECIMAL_o_NUMBER_OR_BLANK) (Value.ref.inj q)) (by decide) (by decide) ?_
      show Steps p.tables e below (T95.setTop (mkF m 214 #[.val (.int p1), .val (.int p2), .val (.ref b1), .val (.ref b38), .val (.ref o_NUMBER_OR_BLANK), .val (.int dg), .unset] [])) _
      refine XS.iload X95.here hx rfl (hb hby at_214) rfl ?_
      show Steps p.tables e below (T95.setTop (mkF m 216 #[.val (.int p1), .val (.int p2), .val (.ref b1), .val (.ref b38), .val (.ref o_NUMBER_OR_BLANK), .val (.int dg), .unset] [(.int dg)])) _
      refine XS.istore X95.here hx rfl (hb hby at_216) rfl (l' := #[.val (.int p1), .val (.int p2), .val (.ref b1), .val (.ref b38), .val (.ref o_NUMBER_OR_BLANK), .val (.int dg), .val (.int dg)]) rfl ?_
      show Steps p.tables e below (T95.setTop (mkF m 218 #[.val (.int p1), .val (.int p2), .val (.ref b1), .val (.ref b38), .val (.ref o_NUMBER_OR_BLANK), .val (.int dg), .val (.int dg)] [])) _
      refine XS.aload X95.here hx rfl (hb hby at_218) rfl rfl ?_
      show Steps p.tables e below (T95.setTop (mkF m 220 #[.val (.int p1), .val (.int p2), .val (.ref b1), .val (.ref b38), .val (.ref o_NUMBER_OR_BLANK), .val (.int dg), .val (.int dg)] [(.ref o_NUMBER_OR_BLANK)])) _
      refine XS.iload X95.here hx rfl (hb hby at_220) rfl ?_
      show Steps p.tables e below (T95.setTop (mkF m 222 #[.val (.int p1), .val (.int p2), .val (.ref b1), .val (.ref b38), .val (.ref o_NUMBER_OR_BLANK), .val (.int dg), .val (.int dg)] [(.int dg), (.ref o_NUMBER_OR_BLANK)])) _
      refine st96.trans ?_
      show Steps p.tables e below (T96.setTop (mkF m 225 #[.val (.int p1), .val (.int p2), .val (.ref b1), .val (.ref b38), .val (.ref o_NUMBER_OR_BLANK), .val (.int dg), .val (.int dg)] [(.long r96)])) _
      refine XS.aloadN X96.here hx rfl (hb hby at_225) rfl rfl ?_
      show Steps p.tables e below (T96.setTop (mkF m 226 #[.val (.int p1), .val (.int p2), .val (.ref b1), .val (.ref b38), .val (.ref o_NUMBER_OR_BLANK), .val (.int dg), .val (.int dg)] [(.ref b38), (.long r96)])) _
      refine XS.iload X96.here hx rfl (hb hby at_226) rfl ?_
      show Steps p.tables e below (T96.setTop (mkF m 228 #[.val (.int p1), .val (.int p2), .val (.ref b1), .val (.ref b38), .val (.ref o_NUMBER_OR_BLANK), .val (.int dg), .val (.int dg)] [(.int dg), (.ref b38), (.long r96)])) _
      refine X96.laload hx (j := dg) (v := (.long (fn83 (dg).toNatClampNeg))) (by rw [eq96]; exact Ar98.1) (State.isArrayOf_alike hZ.alike Ar98.2.1) Ar98.2.2 hin98 hat98 (g := (mkF m 228 #[.val (.int p1), .val (.int p2), .val (.ref b1), .val (.ref b38), .val (.ref o_NUMBER_OR_BLANK), .val (.int dg), .val (.int dg)] [(.int dg), (.ref b38), (.long r96)])) rfl rfl (hb hby at_228) _ ?_
      show Steps p.tables e below (T96.setTop (mkF m 229 #[.val (.int p1), .val (.int p2), .val (.ref b1), .val (.ref b38), .val (.ref o_NUMBER_OR_BLANK), .val (.int dg), .val (.int dg)] [(.long (fn83 (dg).toNatClampNeg)), (.long r96)])) _
      refine XS.lconst X96.here hx rfl (hb hby at_229) ?_
      show Steps p.tables e below (T96.setTop (mkF m 230 #[.val (.int p1), .val (.int p2), .val (.ref b1), .val (.ref b38), .val (.ref o_NUMBER_OR_BLANK), .val (.int dg), .val (.int dg)] [(.long (1 : Int64)), (.long (fn83 (dg).toNatClampNeg)), (.long r96)])) _
      refine XS.lsub X96.here hx rfl (hb hby at_230) rfl ?_
      show Steps p.tables e below (T96.setTop (mkF m 231 #[.val (.int p1), .val (.int p2), .val (.ref b1), .val (.ref b38), .val (.ref o_NUMBER_OR_BLANK), .val (.int dg), .val (.int dg)] [(.long ((fn83 (dg).toNatClampNeg) - (1 : Int64))), (.long r96)])) _
      refine XS.lcmp X96.here hx rfl (hb hby at_231) rfl ?_
      show Steps p.tables e below (T96.setTop (mkF m 232 #[.val (.int p1), .val (.int p2), .val (.ref b1), .val (.ref b38), .val (.ref o_NUMBER_OR_BLANK), .val (.int dg), .val (.int dg)] [(.int (lcmpW r96 ((fn83 (dg).toNatClampNeg) - (1 : Int64))))])) _
      refine XS.ifNo X96.here hx rfl (hb hby at_232) rfl ((if0 _ _).trans (teq ((lw_eq r96 ((fn83 (dg).toNatClampNeg) - (1 : Int64))).mpr (by rw [hr96, (own_nat hdN hN).2, hfn83, hfn81, hfn79, hfn77, hfn75, hfn73, hfn71, hfn69, hfn67, hfn65, hfn63, hfn61, hfn59, hfn57, hfn55, hfn53, hfn51, hfn49, hfn47]; exact own_tens ⟨N, hN⟩ : r96 = ((fn83 (dg).toNatClampNeg) - (1 : Int64))))).2) ?_
      show Steps p.tables e below (T96.setTop (mkF m 235 #[.val (.int p1), .val (.int p2), .val (.ref b1), .val (.ref b38), .val (.ref o_NUMBER_OR_BLANK), .val (.int dg), .val (.int dg)] [])) _
      refine XS.iconst X96.here hx rfl (hb hby at_235) ?_
      show Steps p.tables e below (T96.setTop (mkF m 236 #[.val (.int p1), .val (.int p2), .val (.ref b1), .val (.ref b38), .val (.ref o_NUMBER_OR_BLANK), .val (.int dg), .val (.int dg)] [(.int (1 : Int32))])) _
      refine XS.goto X96.here hx rfl (pc0 := 236) (pc' := 240) rfl (hb hby at_236) (by decide) (by decide) ?_
      show Steps p.tables e below (T96.setTop (mkF m 240 #[.val (.int p1), .val (.int p2), .val (.ref b1), .val (.ref b38), .val (.ref o_NUMBER_OR_BLANK), .val (.int dg), .val (.int dg)] [(.int (1 : Int32))])) _
      exact retN X96 hx (t := .boolean) Bd.returns (by simp) (hb hby at_240) hr
    · exact ⟨rfl, N96⟩
  · rw [hk186]
    have f100 : AV Z h83 b1 k1 (.object "com/example/poukaz/poukaz/FieldKind") 7 (updR (updR (updR (updR (updR (updR (updR (fun _ => Value.null) 0 (.ref o_NUMBER)) 1 (.ref o_NUMBER_OR_BLANK)) 2 (.ref o_DECIMAL)) 3 (.ref o_DATE)) 4 (.ref o_DATE_OR_ZEROS)) 5 (.ref o_POSTAL_CODE)) 6 (.ref o_TEXT)) := ((((((((((((((((((((V35.ext E38).other W47 ne_b1_b38).other W49 ne_b1_b38).other W51 ne_b1_b38).other W53 ne_b1_b38).other W55 ne_b1_b38).other W57 ne_b1_b38).other W59 ne_b1_b38).other W61 ne_b1_b38).other W63 ne_b1_b38).other W65 ne_b1_b38).other W67 ne_b1_b38).other W69 ne_b1_b38).other W71 ne_b1_b38).other W73 ne_b1_b38).other W75 ne_b1_b38).other W77 ne_b1_b38).other W79 ne_b1_b38).other W81 ne_b1_b38).other W83 ne_b1_b38)
    obtain ⟨cl99, Ar99, kc99, sz99, -, hv99⟩ := id f100
    have hin99 : ¬ ((2 : Int32) < 0 ∨ cl99.slots.size ≤ ((2 : Int32)).toNatClampNeg) := AV.inb sz99 (show ¬ (2 : Int32) < 0 ∧ ((2 : Int32)).toNatClampNeg < 7 by decide)
    have hat99 : cl99.slots[((2 : Int32)).toNatClampNeg]? = some (.ref o_DECIMAL) := (hv99 _ (AV.inx (show ¬ (2 : Int32) < 0 ∧ ((2 : Int32)).toNatClampNeg < 7 by decide))).trans (congrArg some rfl)
    obtain ⟨dg, hdg⟩ : ∃ z : Int32, z = ((p2 &&& (2147483647 : Int32)) % (19 : Int32)) := ⟨_, rfl⟩
    refine GoalS.lift (B := (T83.setTop (mkF m 197 #[.val (.int p1), .val (.int p2), .val (.ref b1), .val (.ref b38), .val (.ref o_DECIMAL), .unset, .unset] [(.int dg)]))) (fun t k => ?_) ?_
    · show Steps p.tables e below (T83.setTop (mkF m 187 #[.val (.int p1), .val (.int p2), .val (.ref b1), .val (.ref b38), .unset, .unset, .unset] [(.int (2 : Int32)), (.ref b1)])) _
      refine X83.aaload hx (j := (2 : Int32)) (v := (.ref o_DECIMAL)) (by rw [e83]; exact Ar99.1) (State.isArrayOf_alike hZ.alike Ar99.2.1) rfl Ar99.2.2 hin99 hat99 (g := (mkF m 187 #[.val (.int p1), .val (.int p2), .val (.ref b1), .val (.ref b38), .unset, .unset, .unset] [(.int (2 : Int32)), (.ref b1)])) rfl rfl (hb hby at_187) _ ?_
      show Steps p.tables e below (T83.setTop (mkF m 188 #[.val (.int p1), .val (.int p2), .val (.ref b1), .val (.ref b38), .unset, .unset, .unset] [(.ref o_DECIMAL)])) _
      refine XS.astore X83.here hx rfl (hb hby at_188) rfl rfl (l' := #[.val (.int p1), .val (.int p2), .val (.ref b1), .val (.ref b38), .val (.ref o_DECIMAL), .unset, .unset]) rfl ?_
      show Steps p.tables e below (T83.setTop (mkF m 190 #[.val (.int p1), .val (.int p2), .val (.ref b1), .val (.ref b38), .val (.ref o_DECIMAL), .unset, .unset] [])) _
      refine XS.iloadN X83.here hx rfl (hb hby at_190) rfl ?_
      show Steps p.tables e below (T83.setTop (mkF m 191 #[.val (.int p1), .val (.int p2), .val (.ref b1), .val (.ref b38), .val (.ref o_DECIMAL), .unset, .unset] [(.int p2)])) _
      refine X83.ldcInt hx hown (mvT hZ (hw _ (List.mem_of_getElem? (i := 37) rfl))) (g := (mkF m 191 #[.val (.int p1), .val (.int p2), .val (.ref b1), .val (.ref b38), .val (.ref o_DECIMAL), .unset, .unset] [(.int p2)])) rfl (hb hby at_191) _ ?_
      show Steps p.tables e below (T83.setTop (mkF m 193 #[.val (.int p1), .val (.int p2), .val (.ref b1), .val (.ref b38), .val (.ref o_DECIMAL), .unset, .unset] [(.int (2147483647 : Int32)), (.int p2)])) _
      refine XS.iand X83.here hx rfl (hb hby at_193) rfl ?_
      show Steps p.tables e below (T83.setTop (mkF m 194 #[.val (.int p1), .val (.int p2), .val (.ref b1), .val (.ref b38), .val (.ref o_DECIMAL), .unset, .unset] [(.int (p2 &&& (2147483647 : Int32)))])) _
      refine XS.bipush X83.here hx rfl (hb hby at_194) ?_
      show Steps p.tables e below (T83.setTop (mkF m 196 #[.val (.int p1), .val (.int p2), .val (.ref b1), .val (.ref b38), .val (.ref o_DECIMAL), .unset, .unset] [(.int (19 : Int32)), (.int (p2 &&& (2147483647 : Int32)))])) _
      refine iremM X83 hx rfl (hb hby at_196) rfl (by decide) ?_
      rw [hdg] at k
      exact k
    obtain ⟨N, hN, hdN⟩ := own_dig p2
    rw [← hdg] at hdN
    have f101 : Sta Z h83 "com/example/poukaz/poukaz/FieldKind" "DECIMAL" "Lcom/example/poukaz/poukaz/FieldKind;" (.ref o_DECIMAL) := (((((((((((((((((((((((((f13.wr W15).wr W20).wr W25).wr W30).wr W35).ext E38).wr W47).wr W49).wr W51).wr W53).wr W55).wr W57).wr W59).wr W61).wr W63).wr W65).wr W67).wr W69).wr W71).wr W73).wr W75).wr W77).wr W79).wr W81).wr W83)
    obtain ⟨T102, X102, e102, st102⟩ := getS2 X83 hx hZ hown (host := "") (Or.inl (hw _ (List.mem_of_getElem? (i := 8) rfl))) Via.refl e83 f101 (g := (mkF m 201 #[.val (.int p1), .val (.int p2), .val (.ref b1), .val (.ref b38), .val (.ref o_DECIMAL), .val (.int dg), .unset] [(.ref o_DECIMAL)])) rfl (hb hby at_201)
    have f104 : Exa Z h83 o_DECIMAL "com/example/poukaz/poukaz/FieldKind" := ((((((((((((((((((((f41.ext E38).wr W47).wr W49).wr W51).wr W53).wr W55).wr W57).wr W59).wr W61).wr W63).wr W65).wr W67).wr W69).wr W71).wr W73).wr W75).wr W77).wr W79).wr W81).wr W83)
    obtain ⟨cq103, kq103, q103a, q103b, q103c⟩ := isOf hZ e102 f104
    obtain ⟨_, _, ⟨T103, L103, k103, n103⟩, -, X103, ⟨Lc103, hQ103, l103, y103, z103⟩, st103⟩ := X102.virtualBack hx (y := (⟨"com/example/poukaz/poukaz/FieldKind", "largestNumber", "(I)J"⟩ : MethodName)) (z := (⟨"com/example/poukaz/poukaz/FieldKind", "largestNumber", "(I)J"⟩ : MethodName)) hown (mvT hZ (hw _ (List.mem_of_getElem? (i := 38) rfl))) (mvT hZ (hw _ (List.mem_of_getElem? (i := 39) rfl))) (notFace_of_selects (args := #[]) (mvT hZ (hw _ (List.mem_of_getElem? (i := 41) rfl)))) (mvT hZ (hw _ (List.mem_of_getElem? (i := 41) rfl))) (mvT hZ (hw _ (List.mem_of_getElem? (i := 40) rfl))) (by decide) (backOf (W := 0) (rm1d l Z a0 hw [] o_DECIMAL (dg + (1 : Int32)) N h83 n0 z84 f101 hN (by rw [Int32.add_sub_cancel]; exact hdN)) hZ (hw _ (List.mem_of_getElem? (i := 42) rfl)) (hw _ (List.mem_of_getElem? (i := 3) rfl)) (by decide) (by decide)) q103a q103c (g := (mkF m 222 #[.val (.int p1), .val (.int p2), .val (.ref b1), .val (.ref b38), .val (.ref o_DECIMAL), .val (.int dg), .val (.int (dg + (1 : Int32)))] [(.int (dg + (1 : Int32))), (.ref o_DECIMAL)])) rfl (by rw [hml]; rfl) (Steps.refl _) (argsL := [(.int (dg + (1 : Int32)))]) (rest := []) (lenOf pd_0 rfl) rfl (by show 2 * 0 + _ ≤ _; exact Nat.le_of_eq rfl) (hb hby at_222) (fun _ _ => ⟨rfl, e102, (by decide : 2 + 0 ≤ _), (by decide : 26 + 0 ≤ _)⟩)
    dsimp only [Pt.U, Pt.locs, Pt.cells, Pt.slots] at X103 l103 y103 z103 st103 hQ103
    subst y103 z103
    obtain ⟨r103, rfl, hr103, N103q, eq103⟩ := hQ103
    have N103 : Fr n0 L103 := by rw [l103]; exact Fr.app N83 N103q
    obtain ⟨cl105, Ar105, kc105, sz105, -, hv105⟩ := id V83
    have hin105 : ¬ (dg < 0 ∨ cl105.slots.size ≤ (dg).toNatClampNeg) := AV.inb sz105 ⟨(own_nat hdN hN).1, by rw [(own_nat hdN hN).2]; exact hN⟩
    have hat105 : cl105.slots[(dg).toNatClampNeg]? = some (.long (fn83 (dg).toNatClampNeg)) := (hv105 _ (AV.inx ⟨(own_nat hdN hN).1, by rw [(own_nat hdN hN).2]; exact hN⟩)).trans (congrArg some rfl)
    obtain ⟨fs, hr, hrun, hended, hW, hsame⟩ := X103.leave (v := some (.int (1 : Int32))) (fun h => by rw [Bd.returns] at h; cases h)
    refine ⟨_, _, ?_, hrun, hended, _, _, rfl, ?_, ⟨_, rfl⟩, hW, hsame.mono (by decide) (by decide)⟩
    · show Steps p.tables e below (T83.setTop (mkF m 197 #[.val (.int p1), .val (.int p2), .val (.ref b1), .val (.ref b38), .val (.ref o_DECIMAL), .unset, .unset] [(.int dg)])) _
      refine XS.istore X83.here hx rfl (hb hby at_197) rfl (l' := #[.val (.int p1), .val (.int p2), .val (.ref b1), .val (.ref b38), .val (.ref o_DECIMAL), .val (.int dg), .unset]) rfl ?_
      show Steps p.tables e below (T83.setTop (mkF m 199 #[.val (.int p1), .val (.int p2), .val (.ref b1), .val (.ref b38), .val (.ref o_DECIMAL), .val (.int dg), .unset] [])) _
      refine XS.aload X83.here hx rfl (hb hby at_199) rfl rfl ?_
      show Steps p.tables e below (T83.setTop (mkF m 201 #[.val (.int p1), .val (.int p2), .val (.ref b1), .val (.ref b38), .val (.ref o_DECIMAL), .val (.int dg), .unset] [(.ref o_DECIMAL)])) _
      refine st102 _ ?_
      show Steps p.tables e below (T102.setTop (mkF m 204 #[.val (.int p1), .val (.int p2), .val (.ref b1), .val (.ref b38), .val (.ref o_DECIMAL), .val (.int dg), .unset] [(.ref o_DECIMAL), (.ref o_DECIMAL)])) _
      refine Jvm.RoadKit.acmp (g := (mkF m 204 #[.val (.int p1), .val (.int p2), .val (.ref b1), .val (.ref b38), .val (.ref o_DECIMAL), .val (.int dg), .unset] [(.ref o_DECIMAL), (.ref o_DECIMAL)])) X102 hx rfl rfl rfl (pc0 := 204) (pc' := 207) (same := true) rfl (hb hby at_204) rfl (decide_eq_true rfl) (by decide) (by decide) ?_
      show Steps p.tables e below (T102.setTop (mkF m 207 #[.val (.int p1), .val (.int p2), .val (.ref b1), .val (.ref b38), .val (.ref o_DECIMAL), .val (.int dg), .unset] [])) _
      refine XS.iload X102.here hx rfl (hb hby at_207) rfl ?_
      show Steps p.tables e below (T102.setTop (mkF m 209 #[.val (.int p1), .val (.int p2), .val (.ref b1), .val (.ref b38), .val (.ref o_DECIMAL), .val (.int dg), .unset] [(.int dg)])) _
      refine XS.iconst X102.here hx rfl (hb hby at_209) ?_
      show Steps p.tables e below (T102.setTop (mkF m 210 #[.val (.int p1), .val (.int p2), .val (.ref b1), .val (.ref b38), .val (.ref o_DECIMAL), .val (.int dg), .unset] [(.int (1 : Int32)), (.int dg)])) _
      refine XS.iadd X102.here hx rfl (hb hby at_210) rfl ?_
      show Steps p.tables e below (T102.setTop (mkF m 211 #[.val (.int p1), .val (.int p2), .val (.ref b1), .val (.ref b38), .val (.ref o_DECIMAL), .val (.int dg), .unset] [(.int (dg + (1 : Int32)))])) _
      refine XS.goto X102.here hx rfl (pc0 := 211) (pc' := 216) rfl (hb hby at_211) (by decide) (by decide) ?_
      show Steps p.tables e below (T102.setTop (mkF m 216 #[.val (.int p1), .val (.int p2), .val (.ref b1), .val (.ref b38), .val (.ref o_DECIMAL), .val (.int dg), .unset] [(.int (dg + (1 : Int32)))])) _
      refine XS.istore X102.here hx rfl (hb hby at_216) rfl (l' := #[.val (.int p1), .val (.int p2), .val (.ref b1), .val (.ref b38), .val (.ref o_DECIMAL), .val (.int dg), .val (.int (dg + (1 : Int32)))]) rfl ?_
      show Steps p.tables e below (T102.setTop (mkF m 218 #[.val (.int p1), .val (.int p2), .val (.ref b1), .val (.ref b38), .val (.ref o_DECIMAL), .val (.int dg), .val (.int (dg + (1 : Int32)))] [])) _
      refine XS.aload X102.here hx rfl (hb hby at_218) rfl rfl ?_
      show Steps p.tables e below (T102.setTop (mkF m 220 #[.val (.int p1), .val (.int p2), .val (.ref b1), .val (.ref b38), .val (.ref o_DECIMAL), .val (.int dg), .val (.int (dg + (1 : Int32)))] [(.ref o_DECIMAL)])) _
      refine XS.iload X102.here hx rfl (hb hby at_220) rfl ?_
      show Steps p.tables e below (T102.setTop (mkF m 222 #[.val (.int p1), .val (.int p2), .val (.ref b1), .val (.ref b38), .val (.ref o_DECIMAL), .val (.int dg), .val (.int (dg + (1 : Int32)))] [(.int (dg + (1 : Int32))), (.ref o_DECIMAL)])) _
      refine st103.trans ?_
      show Steps p.tables e below (T103.setTop (mkF m 225 #[.val (.int p1), .val (.int p2), .val (.ref b1), .val (.ref b38), .val (.ref o_DECIMAL), .val (.int dg), .val (.int (dg + (1 : Int32)))] [(.long r103)])) _
      refine XS.aloadN X103.here hx rfl (hb hby at_225) rfl rfl ?_
      show Steps p.tables e below (T103.setTop (mkF m 226 #[.val (.int p1), .val (.int p2), .val (.ref b1), .val (.ref b38), .val (.ref o_DECIMAL), .val (.int dg), .val (.int (dg + (1 : Int32)))] [(.ref b38), (.long r103)])) _
      refine XS.iload X103.here hx rfl (hb hby at_226) rfl ?_
      show Steps p.tables e below (T103.setTop (mkF m 228 #[.val (.int p1), .val (.int p2), .val (.ref b1), .val (.ref b38), .val (.ref o_DECIMAL), .val (.int dg), .val (.int (dg + (1 : Int32)))] [(.int dg), (.ref b38), (.long r103)])) _
      refine X103.laload hx (j := dg) (v := (.long (fn83 (dg).toNatClampNeg))) (by rw [eq103]; exact Ar105.1) (State.isArrayOf_alike hZ.alike Ar105.2.1) Ar105.2.2 hin105 hat105 (g := (mkF m 228 #[.val (.int p1), .val (.int p2), .val (.ref b1), .val (.ref b38), .val (.ref o_DECIMAL), .val (.int dg), .val (.int (dg + (1 : Int32)))] [(.int dg), (.ref b38), (.long r103)])) rfl rfl (hb hby at_228) _ ?_
      show Steps p.tables e below (T103.setTop (mkF m 229 #[.val (.int p1), .val (.int p2), .val (.ref b1), .val (.ref b38), .val (.ref o_DECIMAL), .val (.int dg), .val (.int (dg + (1 : Int32)))] [(.long (fn83 (dg).toNatClampNeg)), (.long r103)])) _
      refine XS.lconst X103.here hx rfl (hb hby at_229) ?_
      show Steps p.tables e below (T103.setTop (mkF m 230 #[.val (.int p1), .val (.int p2), .val (.ref b1), .val (.ref b38), .val (.ref o_DECIMAL), .val (.int dg), .val (.int (dg + (1 : Int32)))] [(.long (1 : Int64)), (.long (fn83 (dg).toNatClampNeg)), (.long r103)])) _
      refine XS.lsub X103.here hx rfl (hb hby at_230) rfl ?_
      show Steps p.tables e below (T103.setTop (mkF m 231 #[.val (.int p1), .val (.int p2), .val (.ref b1), .val (.ref b38), .val (.ref o_DECIMAL), .val (.int dg), .val (.int (dg + (1 : Int32)))] [(.long ((fn83 (dg).toNatClampNeg) - (1 : Int64))), (.long r103)])) _
      refine XS.lcmp X103.here hx rfl (hb hby at_231) rfl ?_
      show Steps p.tables e below (T103.setTop (mkF m 232 #[.val (.int p1), .val (.int p2), .val (.ref b1), .val (.ref b38), .val (.ref o_DECIMAL), .val (.int dg), .val (.int (dg + (1 : Int32)))] [(.int (lcmpW r103 ((fn83 (dg).toNatClampNeg) - (1 : Int64))))])) _
      refine XS.ifNo X103.here hx rfl (hb hby at_232) rfl ((if0 _ _).trans (teq ((lw_eq r103 ((fn83 (dg).toNatClampNeg) - (1 : Int64))).mpr (by rw [hr103, (own_nat hdN hN).2, hfn83, hfn81, hfn79, hfn77, hfn75, hfn73, hfn71, hfn69, hfn67, hfn65, hfn63, hfn61, hfn59, hfn57, hfn55, hfn53, hfn51, hfn49, hfn47]; exact own_tens ⟨N, hN⟩ : r103 = ((fn83 (dg).toNatClampNeg) - (1 : Int64))))).2) ?_
      show Steps p.tables e below (T103.setTop (mkF m 235 #[.val (.int p1), .val (.int p2), .val (.ref b1), .val (.ref b38), .val (.ref o_DECIMAL), .val (.int dg), .val (.int (dg + (1 : Int32)))] [])) _
      refine XS.iconst X103.here hx rfl (hb hby at_235) ?_
      show Steps p.tables e below (T103.setTop (mkF m 236 #[.val (.int p1), .val (.int p2), .val (.ref b1), .val (.ref b38), .val (.ref o_DECIMAL), .val (.int dg), .val (.int (dg + (1 : Int32)))] [(.int (1 : Int32))])) _
      refine XS.goto X103.here hx rfl (pc0 := 236) (pc' := 240) rfl (hb hby at_236) (by decide) (by decide) ?_
      show Steps p.tables e below (T103.setTop (mkF m 240 #[.val (.int p1), .val (.int p2), .val (.ref b1), .val (.ref b38), .val (.ref o_DECIMAL), .val (.int dg), .val (.int (dg + (1 : Int32)))] [(.int (1 : Int32))])) _
      exact retN X103 hx (t := .boolean) Bd.returns (by simp) (hb hby at_240) hr
    · exact ⟨rfl, N103⟩
  · rw [hk186]
    have f107 : AV Z h83 b1 k1 (.object "com/example/poukaz/poukaz/FieldKind") 7 (updR (updR (updR (updR (updR (updR (updR (fun _ => Value.null) 0 (.ref o_NUMBER)) 1 (.ref o_NUMBER_OR_BLANK)) 2 (.ref o_DECIMAL)) 3 (.ref o_DATE)) 4 (.ref o_DATE_OR_ZEROS)) 5 (.ref o_POSTAL_CODE)) 6 (.ref o_TEXT)) := ((((((((((((((((((((V35.ext E38).other W47 ne_b1_b38).other W49 ne_b1_b38).other W51 ne_b1_b38).other W53 ne_b1_b38).other W55 ne_b1_b38).other W57 ne_b1_b38).other W59 ne_b1_b38).other W61 ne_b1_b38).other W63 ne_b1_b38).other W65 ne_b1_b38).other W67 ne_b1_b38).other W69 ne_b1_b38).other W71 ne_b1_b38).other W73 ne_b1_b38).other W75 ne_b1_b38).other W77 ne_b1_b38).other W79 ne_b1_b38).other W81 ne_b1_b38).other W83 ne_b1_b38)
    obtain ⟨cl106, Ar106, kc106, sz106, -, hv106⟩ := id f107
    have hin106 : ¬ ((3 : Int32) < 0 ∨ cl106.slots.size ≤ ((3 : Int32)).toNatClampNeg) := AV.inb sz106 (show ¬ (3 : Int32) < 0 ∧ ((3 : Int32)).toNatClampNeg < 7 by decide)
    have hat106 : cl106.slots[((3 : Int32)).toNatClampNeg]? = some (.ref o_DATE) := (hv106 _ (AV.inx (show ¬ (3 : Int32) < 0 ∧ ((3 : Int32)).toNatClampNeg < 7 by decide))).trans (congrArg some rfl)
    obtain ⟨dg, hdg⟩ : ∃ z : Int32, z = ((p2 &&& (2147483647 : Int32)) % (19 : Int32)) := ⟨_, rfl⟩
    refine GoalS.lift (B := (T83.setTop (mkF m 197 #[.val (.int p1), .val (.int p2), .val (.ref b1), .val (.ref b38), .val (.ref o_DATE), .unset, .unset] [(.int dg)]))) (fun t k => ?_) ?_
    · show Steps p.tables e below (T83.setTop (mkF m 187 #[.val (.int p1), .val (.int p2), .val (.ref b1), .val (.ref b38), .unset, .unset, .unset] [(.int (3 : Int32)), (.ref b1)])) _
      refine X83.aaload hx (j := (3 : Int32)) (v := (.ref o_DATE)) (by rw [e83]; exact Ar106.1) (State.isArrayOf_alike hZ.alike Ar106.2.1) rfl Ar106.2.2 hin106 hat106 (g := (mkF m 187 #[.val (.int p1), .val (.int p2), .val (.ref b1), .val (.ref b38), .unset, .unset, .unset] [(.int (3 : Int32)), (.ref b1)])) rfl rfl (hb hby at_187) _ ?_
      show Steps p.tables e below (T83.setTop (mkF m 188 #[.val (.int p1), .val (.int p2), .val (.ref b1), .val (.ref b38), .unset, .unset, .unset] [(.ref o_DATE)])) _
      refine XS.astore X83.here hx rfl (hb hby at_188) rfl rfl (l' := #[.val (.int p1), .val (.int p2), .val (.ref b1), .val (.ref b38), .val (.ref o_DATE), .unset, .unset]) rfl ?_
      show Steps p.tables e below (T83.setTop (mkF m 190 #[.val (.int p1), .val (.int p2), .val (.ref b1), .val (.ref b38), .val (.ref o_DATE), .unset, .unset] [])) _
      refine XS.iloadN X83.here hx rfl (hb hby at_190) rfl ?_
      show Steps p.tables e below (T83.setTop (mkF m 191 #[.val (.int p1), .val (.int p2), .val (.ref b1), .val (.ref b38), .val (.ref o_DATE), .unset, .unset] [(.int p2)])) _
      refine X83.ldcInt hx hown (mvT hZ (hw _ (List.mem_of_getElem? (i := 37) rfl))) (g := (mkF m 191 #[.val (.int p1), .val (.int p2), .val (.ref b1), .val (.ref b38), .val (.ref o_DATE), .unset, .unset] [(.int p2)])) rfl (hb hby at_191) _ ?_
      show Steps p.tables e below (T83.setTop (mkF m 193 #[.val (.int p1), .val (.int p2), .val (.ref b1), .val (.ref b38), .val (.ref o_DATE), .unset, .unset] [(.int (2147483647 : Int32)), (.int p2)])) _
      refine XS.iand X83.here hx rfl (hb hby at_193) rfl ?_
      show Steps p.tables e below (T83.setTop (mkF m 194 #[.val (.int p1), .val (.int p2), .val (.ref b1), .val (.ref b38), .val (.ref o_DATE), .unset, .unset] [(.int (p2 &&& (2147483647 : Int32)))])) _
      refine XS.bipush X83.here hx rfl (hb hby at_194) ?_
      show Steps p.tables e below (T83.setTop (mkF m 196 #[.val (.int p1), .val (.int p2), .val (.ref b1), .val (.ref b38), .val (.ref o_DATE), .unset, .unset] [(.int (19 : Int32)), (.int (p2 &&& (2147483647 : Int32)))])) _
      refine iremM X83 hx rfl (hb hby at_196) rfl (by decide) ?_
      rw [hdg] at k
      exact k
    obtain ⟨N, hN, hdN⟩ := own_dig p2
    rw [← hdg] at hdN
    have f108 : Sta Z h83 "com/example/poukaz/poukaz/FieldKind" "DECIMAL" "Lcom/example/poukaz/poukaz/FieldKind;" (.ref o_DECIMAL) := (((((((((((((((((((((((((f13.wr W15).wr W20).wr W25).wr W30).wr W35).ext E38).wr W47).wr W49).wr W51).wr W53).wr W55).wr W57).wr W59).wr W61).wr W63).wr W65).wr W67).wr W69).wr W71).wr W73).wr W75).wr W77).wr W79).wr W81).wr W83)
    obtain ⟨T109, X109, e109, st109⟩ := getS2 X83 hx hZ hown (host := "") (Or.inl (hw _ (List.mem_of_getElem? (i := 8) rfl))) Via.refl e83 f108 (g := (mkF m 201 #[.val (.int p1), .val (.int p2), .val (.ref b1), .val (.ref b38), .val (.ref o_DATE), .val (.int dg), .unset] [(.ref o_DATE)])) rfl (hb hby at_201)
    have f111 : Exa Z h83 o_DATE "com/example/poukaz/poukaz/FieldKind" := ((((((((((((((((((((f42.ext E38).wr W47).wr W49).wr W51).wr W53).wr W55).wr W57).wr W59).wr W61).wr W63).wr W65).wr W67).wr W69).wr W71).wr W73).wr W75).wr W77).wr W79).wr W81).wr W83)
    obtain ⟨cq110, kq110, q110a, q110b, q110c⟩ := isOf hZ e109 f111
    obtain ⟨_, _, ⟨T110, L110, k110, n110⟩, -, X110, ⟨Lc110, hQ110, l110, y110, z110⟩, st110⟩ := X109.virtualBack hx (y := (⟨"com/example/poukaz/poukaz/FieldKind", "largestNumber", "(I)J"⟩ : MethodName)) (z := (⟨"com/example/poukaz/poukaz/FieldKind", "largestNumber", "(I)J"⟩ : MethodName)) hown (mvT hZ (hw _ (List.mem_of_getElem? (i := 38) rfl))) (mvT hZ (hw _ (List.mem_of_getElem? (i := 39) rfl))) (notFace_of_selects (args := #[]) (mvT hZ (hw _ (List.mem_of_getElem? (i := 41) rfl)))) (mvT hZ (hw _ (List.mem_of_getElem? (i := 41) rfl))) (mvT hZ (hw _ (List.mem_of_getElem? (i := 40) rfl))) (by decide) (backOf (W := 0) (rm1o l Z a0 hw [] o_DATE dg o_DECIMAL N h83 n0 z84 f108 (Ne.symm ne_o_DECIMAL_o_DATE) hN hdN) hZ (hw _ (List.mem_of_getElem? (i := 42) rfl)) (hw _ (List.mem_of_getElem? (i := 3) rfl)) (by decide) (by decide)) q110a q110c (g := (mkF m 222 #[.val (.int p1), .val (.int p2), .val (.ref b1), .val (.ref b38), .val (.ref o_DATE), .val (.int dg), .val (.int dg)] [(.int dg), (.ref o_DATE)])) rfl (by rw [hml]; rfl) (Steps.refl _) (argsL := [(.int dg)]) (rest := []) (lenOf pd_0 rfl) rfl (by show 2 * 0 + _ ≤ _; exact Nat.le_of_eq rfl) (hb hby at_222) (fun _ _ => ⟨rfl, e109, (by decide : 2 + 0 ≤ _), (by decide : 26 + 0 ≤ _)⟩)
    dsimp only [Pt.U, Pt.locs, Pt.cells, Pt.slots] at X110 l110 y110 z110 st110 hQ110
    subst y110 z110
    obtain ⟨r110, rfl, hr110, N110q, eq110⟩ := hQ110
    have N110 : Fr n0 L110 := by rw [l110]; exact Fr.app N83 N110q
    obtain ⟨cl112, Ar112, kc112, sz112, -, hv112⟩ := id V83
    have hin112 : ¬ (dg < 0 ∨ cl112.slots.size ≤ (dg).toNatClampNeg) := AV.inb sz112 ⟨(own_nat hdN hN).1, by rw [(own_nat hdN hN).2]; exact hN⟩
    have hat112 : cl112.slots[(dg).toNatClampNeg]? = some (.long (fn83 (dg).toNatClampNeg)) := (hv112 _ (AV.inx ⟨(own_nat hdN hN).1, by rw [(own_nat hdN hN).2]; exact hN⟩)).trans (congrArg some rfl)
    obtain ⟨fs, hr, hrun, hended, hW, hsame⟩ := X110.leave (v := some (.int (1 : Int32))) (fun h => by rw [Bd.returns] at h; cases h)
    refine ⟨_, _, ?_, hrun, hended, _, _, rfl, ?_, ⟨_, rfl⟩, hW, hsame.mono (by decide) (by decide)⟩
    · show Steps p.tables e below (T83.setTop (mkF m 197 #[.val (.int p1), .val (.int p2), .val (.ref b1), .val (.ref b38), .val (.ref o_DATE), .unset, .unset] [(.int dg)])) _
      refine XS.istore X83.here hx rfl (hb hby at_197) rfl (l' := #[.val (.int p1), .val (.int p2), .val (.ref b1), .val (.ref b38), .val (.ref o_DATE), .val (.int dg), .unset]) rfl ?_
      show Steps p.tables e below (T83.setTop (mkF m 199 #[.val (.int p1), .val (.int p2), .val (.ref b1), .val (.ref b38), .val (.ref o_DATE), .val (.int dg), .unset] [])) _
      refine XS.aload X83.here hx rfl (hb hby at_199) rfl rfl ?_
      show Steps p.tables e below (T83.setTop (mkF m 201 #[.val (.int p1), .val (.int p2), .val (.ref b1), .val (.ref b38), .val (.ref o_DATE), .val (.int dg), .unset] [(.ref o_DATE)])) _
      refine st109 _ ?_
      show Steps p.tables e below (T109.setTop (mkF m 204 #[.val (.int p1), .val (.int p2), .val (.ref b1), .val (.ref b38), .val (.ref o_DATE), .val (.int dg), .unset] [(.ref o_DECIMAL), (.ref o_DATE)])) _
      refine Jvm.RoadKit.acmp (g := (mkF m 204 #[.val (.int p1), .val (.int p2), .val (.ref b1), .val (.ref b38), .val (.ref o_DATE), .val (.int dg), .unset] [(.ref o_DECIMAL), (.ref o_DATE)])) X109 hx rfl rfl rfl (pc0 := 204) (pc' := 214) (same := false) rfl (hb hby at_204) rfl (decide_eq_false fun q => (Ne.symm ne_o_DECIMAL_o_DATE) (Value.ref.inj q)) (by decide) (by decide) ?_
      show Steps p.tables e below (T109.setTop (mkF m 214 #[.val (.int p1), .val (.int p2), .val (.ref b1), .val (.ref b38), .val (.ref o_DATE), .val (.int dg), .unset] [])) _
      refine XS.iload X109.here hx rfl (hb hby at_214) rfl ?_
      show Steps p.tables e below (T109.setTop (mkF m 216 #[.val (.int p1), .val (.int p2), .val (.ref b1), .val (.ref b38), .val (.ref o_DATE), .val (.int dg), .unset] [(.int dg)])) _
      refine XS.istore X109.here hx rfl (hb hby at_216) rfl (l' := #[.val (.int p1), .val (.int p2), .val (.ref b1), .val (.ref b38), .val (.ref o_DATE), .val (.int dg), .val (.int dg)]) rfl ?_
      show Steps p.tables e below (T109.setTop (mkF m 218 #[.val (.int p1), .val (.int p2), .val (.ref b1), .val (.ref b38), .val (.ref o_DATE), .val (.int dg), .val (.int dg)] [])) _
      refine XS.aload X109.here hx rfl (hb hby at_218) rfl rfl ?_
      show Steps p.tables e below (T109.setTop (mkF m 220 #[.val (.int p1), .val (.int p2), .val (.ref b1), .val (.ref b38), .val (.ref o_DATE), .val (.int dg), .val (.int dg)] [(.ref o_DATE)])) _
      refine XS.iload X109.here hx rfl (hb hby at_220) rfl ?_
      show Steps p.tables e below (T109.setTop (mkF m 222 #[.val (.int p1), .val (.int p2), .val (.ref b1), .val (.ref b38), .val (.ref o_DATE), .val (.int dg), .val (.int dg)] [(.int dg), (.ref o_DATE)])) _
      refine st110.trans ?_
      show Steps p.tables e below (T110.setTop (mkF m 225 #[.val (.int p1), .val (.int p2), .val (.ref b1), .val (.ref b38), .val (.ref o_DATE), .val (.int dg), .val (.int dg)] [(.long r110)])) _
      refine XS.aloadN X110.here hx rfl (hb hby at_225) rfl rfl ?_
      show Steps p.tables e below (T110.setTop (mkF m 226 #[.val (.int p1), .val (.int p2), .val (.ref b1), .val (.ref b38), .val (.ref o_DATE), .val (.int dg), .val (.int dg)] [(.ref b38), (.long r110)])) _
      refine XS.iload X110.here hx rfl (hb hby at_226) rfl ?_
      show Steps p.tables e below (T110.setTop (mkF m 228 #[.val (.int p1), .val (.int p2), .val (.ref b1), .val (.ref b38), .val (.ref o_DATE), .val (.int dg), .val (.int dg)] [(.int dg), (.ref b38), (.long r110)])) _
      refine X110.laload hx (j := dg) (v := (.long (fn83 (dg).toNatClampNeg))) (by rw [eq110]; exact Ar112.1) (State.isArrayOf_alike hZ.alike Ar112.2.1) Ar112.2.2 hin112 hat112 (g := (mkF m 228 #[.val (.int p1), .val (.int p2), .val (.ref b1), .val (.ref b38), .val (.ref o_DATE), .val (.int dg), .val (.int dg)] [(.int dg), (.ref b38), (.long r110)])) rfl rfl (hb hby at_228) _ ?_
      show Steps p.tables e below (T110.setTop (mkF m 229 #[.val (.int p1), .val (.int p2), .val (.ref b1), .val (.ref b38), .val (.ref o_DATE), .val (.int dg), .val (.int dg)] [(.long (fn83 (dg).toNatClampNeg)), (.long r110)])) _
      refine XS.lconst X110.here hx rfl (hb hby at_229) ?_
      show Steps p.tables e below (T110.setTop (mkF m 230 #[.val (.int p1), .val (.int p2), .val (.ref b1), .val (.ref b38), .val (.ref o_DATE), .val (.int dg), .val (.int dg)] [(.long (1 : Int64)), (.long (fn83 (dg).toNatClampNeg)), (.long r110)])) _
      refine XS.lsub X110.here hx rfl (hb hby at_230) rfl ?_
      show Steps p.tables e below (T110.setTop (mkF m 231 #[.val (.int p1), .val (.int p2), .val (.ref b1), .val (.ref b38), .val (.ref o_DATE), .val (.int dg), .val (.int dg)] [(.long ((fn83 (dg).toNatClampNeg) - (1 : Int64))), (.long r110)])) _
      refine XS.lcmp X110.here hx rfl (hb hby at_231) rfl ?_
      show Steps p.tables e below (T110.setTop (mkF m 232 #[.val (.int p1), .val (.int p2), .val (.ref b1), .val (.ref b38), .val (.ref o_DATE), .val (.int dg), .val (.int dg)] [(.int (lcmpW r110 ((fn83 (dg).toNatClampNeg) - (1 : Int64))))])) _
      refine XS.ifNo X110.here hx rfl (hb hby at_232) rfl ((if0 _ _).trans (teq ((lw_eq r110 ((fn83 (dg).toNatClampNeg) - (1 : Int64))).mpr (by rw [hr110, (own_nat hdN hN).2, hfn83, hfn81, hfn79, hfn77, hfn75, hfn73, hfn71, hfn69, hfn67, hfn65, hfn63, hfn61, hfn59, hfn57, hfn55, hfn53, hfn51, hfn49, hfn47]; exact own_tens ⟨N, hN⟩ : r110 = ((fn83 (dg).toNatClampNeg) - (1 : Int64))))).2) ?_
      show Steps p.tables e below (T110.setTop (mkF m 235 #[.val (.int p1), .val (.int p2), .val (.ref b1), .val (.ref b38), .val (.ref o_DATE), .val (.int dg), .val (.int dg)] [])) _
      refine XS.iconst X110.here hx rfl (hb hby at_235) ?_
      show Steps p.tables e below (T110.setTop (mkF m 236 #[.val (.int p1), .val (.int p2), .val (.ref b1), .val (.ref b38), .val (.ref o_DATE), .val (.int dg), .val (.int dg)] [(.int (1 : Int32))])) _
      refine XS.goto X110.here hx rfl (pc0 := 236) (pc' := 240) rfl (hb hby at_236) (by decide) (by decide) ?_
      show Steps p.tables e below (T110.setTop (mkF m 240 #[.val (.int p1), .val (.int p2), .val (.ref b1), .val (.ref b38), .val (.ref o_DATE), .val (.int dg), .val (.int dg)] [(.int (1 : Int32))])) _
      exact retN X110 hx (t := .boolean) Bd.returns (by simp) (hb hby at_240) hr
    · exact ⟨rfl, N110⟩
  · rw [hk186]
    have f114 : AV Z h83 b1 k1 (.object "com/example/poukaz/poukaz/FieldKind") 7 (updR (updR (updR (updR (updR (updR (updR (fun _ => Value.null) 0 (.ref o_NUMBER)) 1 (.ref o_NUMBER_OR_BLANK)) 2 (.ref o_DECIMAL)) 3 (.ref o_DATE)) 4 (.ref o_DATE_OR_ZEROS)) 5 (.ref o_POSTAL_CODE)) 6 (.ref o_TEXT)) := ((((((((((((((((((((V35.ext E38).other W47 ne_b1_b38).other W49 ne_b1_b38).other W51 ne_b1_b38).other W53 ne_b1_b38).other W55 ne_b1_b38).other W57 ne_b1_b38).other W59 ne_b1_b38).other W61 ne_b1_b38).other W63 ne_b1_b38).other W65 ne_b1_b38).other W67 ne_b1_b38).other W69 ne_b1_b38).other W71 ne_b1_b38).other W73 ne_b1_b38).other W75 ne_b1_b38).other W77 ne_b1_b38).other W79 ne_b1_b38).other W81 ne_b1_b38).other W83 ne_b1_b38)
    obtain ⟨cl113, Ar113, kc113, sz113, -, hv113⟩ := id f114
    have hin113 : ¬ ((4 : Int32) < 0 ∨ cl113.slots.size ≤ ((4 : Int32)).toNatClampNeg) := AV.inb sz113 (show ¬ (4 : Int32) < 0 ∧ ((4 : Int32)).toNatClampNeg < 7 by decide)
    have hat113 : cl113.slots[((4 : Int32)).toNatClampNeg]? = some (.ref o_DATE_OR_ZEROS) := (hv113 _ (AV.inx (show ¬ (4 : Int32) < 0 ∧ ((4 : Int32)).toNatClampNeg < 7 by decide))).trans (congrArg some rfl)
    obtain ⟨dg, hdg⟩ : ∃ z : Int32, z = ((p2 &&& (2147483647 : Int32)) % (19 : Int32)) := ⟨_, rfl⟩
    refine GoalS.lift (B := (T83.setTop (mkF m 197 #[.val (.int p1), .val (.int p2), .val (.ref b1), .val (.ref b38), .val (.ref o_DATE_OR_ZEROS), .unset, .unset] [(.int dg)]))) (fun t k => ?_) ?_
    · show Steps p.tables e below (T83.setTop (mkF m 187 #[.val (.int p1), .val (.int p2), .val (.ref b1), .val (.ref b38), .unset, .unset, .unset] [(.int (4 : Int32)), (.ref b1)])) _
      refine X83.aaload hx (j := (4 : Int32)) (v := (.ref o_DATE_OR_ZEROS)) (by rw [e83]; exact Ar113.1) (State.isArrayOf_alike hZ.alike Ar113.2.1) rfl Ar113.2.2 hin113 hat113 (g := (mkF m 187 #[.val (.int p1), .val (.int p2), .val (.ref b1), .val (.ref b38), .unset, .unset, .unset] [(.int (4 : Int32)), (.ref b1)])) rfl rfl (hb hby at_187) _ ?_
      show Steps p.tables e below (T83.setTop (mkF m 188 #[.val (.int p1), .val (.int p2), .val (.ref b1), .val (.ref b38), .unset, .unset, .unset] [(.ref o_DATE_OR_ZEROS)])) _
      refine XS.astore X83.here hx rfl (hb hby at_188) rfl rfl (l' := #[.val (.int p1), .val (.int p2), .val (.ref b1), .val (.ref b38), .val (.ref o_DATE_OR_ZEROS), .unset, .unset]) rfl ?_
      show Steps p.tables e below (T83.setTop (mkF m 190 #[.val (.int p1), .val (.int p2), .val (.ref b1), .val (.ref b38), .val (.ref o_DATE_OR_ZEROS), .unset, .unset] [])) _
      refine XS.iloadN X83.here hx rfl (hb hby at_190) rfl ?_
      show Steps p.tables e below (T83.setTop (mkF m 191 #[.val (.int p1), .val (.int p2), .val (.ref b1), .val (.ref b38), .val (.ref o_DATE_OR_ZEROS), .unset, .unset] [(.int p2)])) _
      refine X83.ldcInt hx hown (mvT hZ (hw _ (List.mem_of_getElem? (i := 37) rfl))) (g := (mkF m 191 #[.val (.int p1), .val (.int p2), .val (.ref b1), .val (.ref b38), .val (.ref o_DATE_OR_ZEROS), .unset, .unset] [(.int p2)])) rfl (hb hby at_191) _ ?_
      show Steps p.tables e below (T83.setTop (mkF m 193 #[.val (.int p1), .val (.int p2), .val (.ref b1), .val (.ref b38), .val (.ref o_DATE_OR_ZEROS), .unset, .unset] [(.int (2147483647 : Int32)), (.int p2)])) _
      refine XS.iand X83.here hx rfl (hb hby at_193) rfl ?_
      show Steps p.tables e below (T83.setTop (mkF m 194 #[.val (.int p1), .val (.int p2), .val (.ref b1), .val (.ref b38), .val (.ref o_DATE_OR_ZEROS), .unset, .unset] [(.int (p2 &&& (2147483647 : Int32)))])) _
      refine XS.bipush X83.here hx rfl (hb hby at_194) ?_
      show Steps p.tables e below (T83.setTop (mkF m 196 #[.val (.int p1), .val (.int p2), .val (.ref b1), .val (.ref b38), .val (.ref o_DATE_OR_ZEROS), .unset, .unset] [(.int (19 : Int32)), (.int (p2 &&& (2147483647 : Int32)))])) _
      refine iremM X83 hx rfl (hb hby at_196) rfl (by decide) ?_
      rw [hdg] at k
      exact k
    obtain ⟨N, hN, hdN⟩ := own_dig p2
    rw [← hdg] at hdN
    have f115 : Sta Z h83 "com/example/poukaz/poukaz/FieldKind" "DECIMAL" "Lcom/example/poukaz/poukaz/FieldKind;" (.ref o_DECIMAL) := (((((((((((((((((((((((((f13.wr W15).wr W20).wr W25).wr W30).wr W35).ext E38).wr W47).wr W49).wr W51).wr W53).wr W55).wr W57).wr W59).wr W61).wr W63).wr W65).wr W67).wr W69).wr W71).wr W73).wr W75).wr W77).wr W79).wr W81).wr W83)
    obtain ⟨T116, X116, e116, st116⟩ := getS2 X83 hx hZ hown (host := "") (Or.inl (hw _ (List.mem_of_getElem? (i := 8) rfl))) Via.refl e83 f115 (g := (mkF m 201 #[.val (.int p1), .val (.int p2), .val (.ref b1), .val (.ref b38), .val (.ref o_DATE_OR_ZEROS), .val (.int dg), .unset] [(.ref o_DATE_OR_ZEROS)])) rfl (hb hby at_201)
    have f118 : Exa Z h83 o_DATE_OR_ZEROS "com/example/poukaz/poukaz/FieldKind" := ((((((((((((((((((((f43.ext E38).wr W47).wr W49).wr W51).wr W53).wr W55).wr W57).wr W59).wr W61).wr W63).wr W65).wr W67).wr W69).wr W71).wr W73).wr W75).wr W77).wr W79).wr W81).wr W83)
    obtain ⟨cq117, kq117, q117a, q117b, q117c⟩ := isOf hZ e116 f118
    obtain ⟨_, _, ⟨T117, L117, k117, n117⟩, -, X117, ⟨Lc117, hQ117, l117, y117, z117⟩, st117⟩ := X116.virtualBack hx (y := (⟨"com/example/poukaz/poukaz/FieldKind", "largestNumber", "(I)J"⟩ : MethodName)) (z := (⟨"com/example/poukaz/poukaz/FieldKind", "largestNumber", "(I)J"⟩ : MethodName)) hown (mvT hZ (hw _ (List.mem_of_getElem? (i := 38) rfl))) (mvT hZ (hw _ (List.mem_of_getElem? (i := 39) rfl))) (notFace_of_selects (args := #[]) (mvT hZ (hw _ (List.mem_of_getElem? (i := 41) rfl)))) (mvT hZ (hw _ (List.mem_of_getElem? (i := 41) rfl))) (mvT hZ (hw _ (List.mem_of_getElem? (i := 40) rfl))) (by decide) (backOf (W := 0) (rm1o l Z a0 hw [] o_DATE_OR_ZEROS dg o_DECIMAL N h83 n0 z84 f115 (Ne.symm ne_o_DECIMAL_o_DATE_OR_ZEROS) hN hdN) hZ (hw _ (List.mem_of_getElem? (i := 42) rfl)) (hw _ (List.mem_of_getElem? (i := 3) rfl)) (by decide) (by decide)) q117a q117c (g := (mkF m 222 #[.val (.int p1), .val (.int p2), .val (.ref b1), .val (.ref b38), .val (.ref o_DATE_OR_ZEROS), .val (.int dg), .val (.int dg)] [(.int dg), (.ref o_DATE_OR_ZEROS)])) rfl (by rw [hml]; rfl) (Steps.refl _) (argsL := [(.int dg)]) (rest := []) (lenOf pd_0 rfl) rfl (by show 2 * 0 + _ ≤ _; exact Nat.le_of_eq rfl) (hb hby at_222) (fun _ _ => ⟨rfl, e116, (by decide : 2 + 0 ≤ _), (by decide : 26 + 0 ≤ _)⟩)
    dsimp only [Pt.U, Pt.locs, Pt.cells, Pt.slots] at X117 l117 y117 z117 st117 hQ117
    subst y117 z117
    obtain ⟨r117, rfl, hr117, N117q, eq117⟩ := hQ117
    have N117 : Fr n0 L117 := by rw [l117]; exact Fr.app N83 N117q
    obtain ⟨cl119, Ar119, kc119, sz119, -, hv119⟩ := id V83
    have hin119 : ¬ (dg < 0 ∨ cl119.slots.size ≤ (dg).toNatClampNeg) := AV.inb sz119 ⟨(own_nat hdN hN).1, by rw [(own_nat hdN hN).2]; exact hN⟩
    have hat119 : cl119.slots[(dg).toNatClampNeg]? = some (.long (fn83 (dg).toNatClampNeg)) := (hv119 _ (AV.inx ⟨(own_nat hdN hN).1, by rw [(own_nat hdN hN).2]; exact hN⟩)).trans (congrArg some rfl)
    obtain ⟨fs, hr, hrun, hended, hW, hsame⟩ := X117.leave (v := some (.int (1 : Int32))) (fun h => by rw [Bd.returns] at h; cases h)
    refine ⟨_, _, ?_, hrun, hended, _, _, rfl, ?_, ⟨_, rfl⟩, hW, hsame.mono (by decide) (by decide)⟩
    · show Steps p.tables e below (T83.setTop (mkF m 197 #[.val (.int p1), .val (.int p2), .val (.ref b1), .val (.ref b38), .val (.ref o_DATE_OR_ZEROS), .unset, .unset] [(.int dg)])) _
      refine XS.istore X83.here hx rfl (hb hby at_197) rfl (l' := #[.val (.int p1), .val (.int p2), .val (.ref b1), .val (.ref b38), .val (.ref o_DATE_OR_ZEROS), .val (.int dg), .unset]) rfl ?_
      show Steps p.tables e below (T83.setTop (mkF m 199 #[.val (.int p1), .val (.int p2), .val (.ref b1), .val (.ref b38), .val (.ref o_DATE_OR_ZEROS), .val (.int dg), .unset] [])) _
      refine XS.aload X83.here hx rfl (hb hby at_199) rfl rfl ?_
      show Steps p.tables e below (T83.setTop (mkF m 201 #[.val (.int p1), .val (.int p2), .val (.ref b1), .val (.ref b38), .val (.ref o_DATE_OR_ZEROS), .val (.int dg), .unset] [(.ref o_DATE_OR_ZEROS)])) _
      refine st116 _ ?_
      show Steps p.tables e below (T116.setTop (mkF m 204 #[.val (.int p1), .val (.int p2), .val (.ref b1), .val (.ref b38), .val (.ref o_DATE_OR_ZEROS), .val (.int dg), .unset] [(.ref o_DECIMAL), (.ref o_DATE_OR_ZEROS)])) _
      refine Jvm.RoadKit.acmp (g := (mkF m 204 #[.val (.int p1), .val (.int p2), .val (.ref b1), .val (.ref b38), .val (.ref o_DATE_OR_ZEROS), .val (.int dg), .unset] [(.ref o_DECIMAL), (.ref o_DATE_OR_ZEROS)])) X116 hx rfl rfl rfl (pc0 := 204) (pc' := 214) (same := false) rfl (hb hby at_204) rfl (decide_eq_false fun q => (Ne.symm ne_o_DECIMAL_o_DATE_OR_ZEROS) (Value.ref.inj q)) (by decide) (by decide) ?_
      show Steps p.tables e below (T116.setTop (mkF m 214 #[.val (.int p1), .val (.int p2), .val (.ref b1), .val (.ref b38), .val (.ref o_DATE_OR_ZEROS), .val (.int dg), .unset] [])) _
      refine XS.iload X116.here hx rfl (hb hby at_214) rfl ?_
      show Steps p.tables e below (T116.setTop (mkF m 216 #[.val (.int p1), .val (.int p2), .val (.ref b1), .val (.ref b38), .val (.ref o_DATE_OR_ZEROS), .val (.int dg), .unset] [(.int dg)])) _
      refine XS.istore X116.here hx rfl (hb hby at_216) rfl (l' := #[.val (.int p1), .val (.int p2), .val (.ref b1), .val (.ref b38), .val (.ref o_DATE_OR_ZEROS), .val (.int dg), .val (.int dg)]) rfl ?_
      show Steps p.tables e below (T116.setTop (mkF m 218 #[.val (.int p1), .val (.int p2), .val (.ref b1), .val (.ref b38), .val (.ref o_DATE_OR_ZEROS), .val (.int dg), .val (.int dg)] [])) _
      refine XS.aload X116.here hx rfl (hb hby at_218) rfl rfl ?_
      show Steps p.tables e below (T116.setTop (mkF m 220 #[.val (.int p1), .val (.int p2), .val (.ref b1), .val (.ref b38), .val (.ref o_DATE_OR_ZEROS), .val (.int dg), .val (.int dg)] [(.ref o_DATE_OR_ZEROS)])) _
      refine XS.iload X116.here hx rfl (hb hby at_220) rfl ?_
      show Steps p.tables e below (T116.setTop (mkF m 222 #[.val (.int p1), .val (.int p2), .val (.ref b1), .val (.ref b38), .val (.ref o_DATE_OR_ZEROS), .val (.int dg), .val (.int dg)] [(.int dg), (.ref o_DATE_OR_ZEROS)])) _
      refine st117.trans ?_
      show Steps p.tables e below (T117.setTop (mkF m 225 #[.val (.int p1), .val (.int p2), .val (.ref b1), .val (.ref b38), .val (.ref o_DATE_OR_ZEROS), .val (.int dg), .val (.int dg)] [(.long r117)])) _
      refine XS.aloadN X117.here hx rfl (hb hby at_225) rfl rfl ?_
      show Steps p.tables e below (T117.setTop (mkF m 226 #[.val (.int p1), .val (.int p2), .val (.ref b1), .val (.ref b38), .val (.ref o_DATE_OR_ZEROS), .val (.int dg), .val (.int dg)] [(.ref b38), (.long r117)])) _
      refine XS.iload X117.here hx rfl (hb hby at_226) rfl ?_
      show Steps p.tables e below (T117.setTop (mkF m 228 #[.val (.int p1), .val (.int p2), .val (.ref b1), .val (.ref b38), .val (.ref o_DATE_OR_ZEROS), .val (.int dg), .val (.int dg)] [(.int dg), (.ref b38), (.long r117)])) _
      refine X117.laload hx (j := dg) (v := (.long (fn83 (dg).toNatClampNeg))) (by rw [eq117]; exact Ar119.1) (State.isArrayOf_alike hZ.alike Ar119.2.1) Ar119.2.2 hin119 hat119 (g := (mkF m 228 #[.val (.int p1), .val (.int p2), .val (.ref b1), .val (.ref b38), .val (.ref o_DATE_OR_ZEROS), .val (.int dg), .val (.int dg)] [(.int dg), (.ref b38), (.long r117)])) rfl rfl (hb hby at_228) _ ?_
      show Steps p.tables e below (T117.setTop (mkF m 229 #[.val (.int p1), .val (.int p2), .val (.ref b1), .val (.ref b38), .val (.ref o_DATE_OR_ZEROS), .val (.int dg), .val (.int dg)] [(.long (fn83 (dg).toNatClampNeg)), (.long r117)])) _
      refine XS.lconst X117.here hx rfl (hb hby at_229) ?_
      show Steps p.tables e below (T117.setTop (mkF m 230 #[.val (.int p1), .val (.int p2), .val (.ref b1), .val (.ref b38), .val (.ref o_DATE_OR_ZEROS), .val (.int dg), .val (.int dg)] [(.long (1 : Int64)), (.long (fn83 (dg).toNatClampNeg)), (.long r117)])) _
      refine XS.lsub X117.here hx rfl (hb hby at_230) rfl ?_
      show Steps p.tables e below (T117.setTop (mkF m 231 #[.val (.int p1), .val (.int p2), .val (.ref b1), .val (.ref b38), .val (.ref o_DATE_OR_ZEROS), .val (.int dg), .val (.int dg)] [(.long ((fn83 (dg).toNatClampNeg) - (1 : Int64))), (.long r117)])) _
      refine XS.lcmp X117.here hx rfl (hb hby at_231) rfl ?_
      show Steps p.tables e below (T117.setTop (mkF m 232 #[.val (.int p1), .val (.int p2), .val (.ref b1), .val (.ref b38), .val (.ref o_DATE_OR_ZEROS), .val (.int dg), .val (.int dg)] [(.int (lcmpW r117 ((fn83 (dg).toNatClampNeg) - (1 : Int64))))])) _
      refine XS.ifNo X117.here hx rfl (hb hby at_232) rfl ((if0 _ _).trans (teq ((lw_eq r117 ((fn83 (dg).toNatClampNeg) - (1 : Int64))).mpr (by rw [hr117, (own_nat hdN hN).2, hfn83, hfn81, hfn79, hfn77, hfn75, hfn73, hfn71, hfn69, hfn67, hfn65, hfn63, hfn61, hfn59, hfn57, hfn55, hfn53, hfn51, hfn49, hfn47]; exact own_tens ⟨N, hN⟩ : r117 = ((fn83 (dg).toNatClampNeg) - (1 : Int64))))).2) ?_
      show Steps p.tables e below (T117.setTop (mkF m 235 #[.val (.int p1), .val (.int p2), .val (.ref b1), .val (.ref b38), .val (.ref o_DATE_OR_ZEROS), .val (.int dg), .val (.int dg)] [])) _
      refine XS.iconst X117.here hx rfl (hb hby at_235) ?_
      show Steps p.tables e below (T117.setTop (mkF m 236 #[.val (.int p1), .val (.int p2), .val (.ref b1), .val (.ref b38), .val (.ref o_DATE_OR_ZEROS), .val (.int dg), .val (.int dg)] [(.int (1 : Int32))])) _
      refine XS.goto X117.here hx rfl (pc0 := 236) (pc' := 240) rfl (hb hby at_236) (by decide) (by decide) ?_
      show Steps p.tables e below (T117.setTop (mkF m 240 #[.val (.int p1), .val (.int p2), .val (.ref b1), .val (.ref b38), .val (.ref o_DATE_OR_ZEROS), .val (.int dg), .val (.int dg)] [(.int (1 : Int32))])) _
      exact retN X117 hx (t := .boolean) Bd.returns (by simp) (hb hby at_240) hr
    · exact ⟨rfl, N117⟩
  · rw [hk186]
    have f121 : AV Z h83 b1 k1 (.object "com/example/poukaz/poukaz/FieldKind") 7 (updR (updR (updR (updR (updR (updR (updR (fun _ => Value.null) 0 (.ref o_NUMBER)) 1 (.ref o_NUMBER_OR_BLANK)) 2 (.ref o_DECIMAL)) 3 (.ref o_DATE)) 4 (.ref o_DATE_OR_ZEROS)) 5 (.ref o_POSTAL_CODE)) 6 (.ref o_TEXT)) := ((((((((((((((((((((V35.ext E38).other W47 ne_b1_b38).other W49 ne_b1_b38).other W51 ne_b1_b38).other W53 ne_b1_b38).other W55 ne_b1_b38).other W57 ne_b1_b38).other W59 ne_b1_b38).other W61 ne_b1_b38).other W63 ne_b1_b38).other W65 ne_b1_b38).other W67 ne_b1_b38).other W69 ne_b1_b38).other W71 ne_b1_b38).other W73 ne_b1_b38).other W75 ne_b1_b38).other W77 ne_b1_b38).other W79 ne_b1_b38).other W81 ne_b1_b38).other W83 ne_b1_b38)
    obtain ⟨cl120, Ar120, kc120, sz120, -, hv120⟩ := id f121
    have hin120 : ¬ ((5 : Int32) < 0 ∨ cl120.slots.size ≤ ((5 : Int32)).toNatClampNeg) := AV.inb sz120 (show ¬ (5 : Int32) < 0 ∧ ((5 : Int32)).toNatClampNeg < 7 by decide)
    have hat120 : cl120.slots[((5 : Int32)).toNatClampNeg]? = some (.ref o_POSTAL_CODE) := (hv120 _ (AV.inx (show ¬ (5 : Int32) < 0 ∧ ((5 : Int32)).toNatClampNeg < 7 by decide))).trans (congrArg some rfl)
    obtain ⟨dg, hdg⟩ : ∃ z : Int32, z = ((p2 &&& (2147483647 : Int32)) % (19 : Int32)) := ⟨_, rfl⟩
    refine GoalS.lift (B := (T83.setTop (mkF m 197 #[.val (.int p1), .val (.int p2), .val (.ref b1), .val (.ref b38), .val (.ref o_POSTAL_CODE), .unset, .unset] [(.int dg)]))) (fun t k => ?_) ?_
    · show Steps p.tables e below (T83.setTop (mkF m 187 #[.val (.int p1), .val (.int p2), .val (.ref b1), .val (.ref b38), .unset, .unset, .unset] [(.int (5 : Int32)), (.ref b1)])) _
      refine X83.aaload hx (j := (5 : Int32)) (v := (.ref o_POSTAL_CODE)) (by rw [e83]; exact Ar120.1) (State.isArrayOf_alike hZ.alike Ar120.2.1) rfl Ar120.2.2 hin120 hat120 (g := (mkF m 187 #[.val (.int p1), .val (.int p2), .val (.ref b1), .val (.ref b38), .unset, .unset, .unset] [(.int (5 : Int32)), (.ref b1)])) rfl rfl (hb hby at_187) _ ?_
      show Steps p.tables e below (T83.setTop (mkF m 188 #[.val (.int p1), .val (.int p2), .val (.ref b1), .val (.ref b38), .unset, .unset, .unset] [(.ref o_POSTAL_CODE)])) _
      refine XS.astore X83.here hx rfl (hb hby at_188) rfl rfl (l' := #[.val (.int p1), .val (.int p2), .val (.ref b1), .val (.ref b38), .val (.ref o_POSTAL_CODE), .unset, .unset]) rfl ?_
      show Steps p.tables e below (T83.setTop (mkF m 190 #[.val (.int p1), .val (.int p2), .val (.ref b1), .val (.ref b38), .val (.ref o_POSTAL_CODE), .unset, .unset] [])) _
      refine XS.iloadN X83.here hx rfl (hb hby at_190) rfl ?_
      show Steps p.tables e below (T83.setTop (mkF m 191 #[.val (.int p1), .val (.int p2), .val (.ref b1), .val (.ref b38), .val (.ref o_POSTAL_CODE), .unset, .unset] [(.int p2)])) _
      refine X83.ldcInt hx hown (mvT hZ (hw _ (List.mem_of_getElem? (i := 37) rfl))) (g := (mkF m 191 #[.val (.int p1), .val (.int p2), .val (.ref b1), .val (.ref b38), .val (.ref o_POSTAL_CODE), .unset, .unset] [(.int p2)])) rfl (hb hby at_191) _ ?_
      show Steps p.tables e below (T83.setTop (mkF m 193 #[.val (.int p1), .val (.int p2), .val (.ref b1), .val (.ref b38), .val (.ref o_POSTAL_CODE), .unset, .unset] [(.int (2147483647 : Int32)), (.int p2)])) _
      refine XS.iand X83.here hx rfl (hb hby at_193) rfl ?_
      show Steps p.tables e below (T83.setTop (mkF m 194 #[.val (.int p1), .val (.int p2), .val (.ref b1), .val (.ref b38), .val (.ref o_POSTAL_CODE), .unset, .unset] [(.int (p2 &&& (2147483647 : Int32)))])) _
      refine XS.bipush X83.here hx rfl (hb hby at_194) ?_
      show Steps p.tables e below (T83.setTop (mkF m 196 #[.val (.int p1), .val (.int p2), .val (.ref b1), .val (.ref b38), .val (.ref o_POSTAL_CODE), .unset, .unset] [(.int (19 : Int32)), (.int (p2 &&& (2147483647 : Int32)))])) _
      refine iremM X83 hx rfl (hb hby at_196) rfl (by decide) ?_
      rw [hdg] at k
      exact k
    obtain ⟨N, hN, hdN⟩ := own_dig p2
    rw [← hdg] at hdN
    have f122 : Sta Z h83 "com/example/poukaz/poukaz/FieldKind" "DECIMAL" "Lcom/example/poukaz/poukaz/FieldKind;" (.ref o_DECIMAL) := (((((((((((((((((((((((((f13.wr W15).wr W20).wr W25).wr W30).wr W35).ext E38).wr W47).wr W49).wr W51).wr W53).wr W55).wr W57).wr W59).wr W61).wr W63).wr W65).wr W67).wr W69).wr W71).wr W73).wr W75).wr W77).wr W79).wr W81).wr W83)
    obtain ⟨T123, X123, e123, st123⟩ := getS2 X83 hx hZ hown (host := "") (Or.inl (hw _ (List.mem_of_getElem? (i := 8) rfl))) Via.refl e83 f122 (g := (mkF m 201 #[.val (.int p1), .val (.int p2), .val (.ref b1), .val (.ref b38), .val (.ref o_POSTAL_CODE), .val (.int dg), .unset] [(.ref o_POSTAL_CODE)])) rfl (hb hby at_201)
    have f125 : Exa Z h83 o_POSTAL_CODE "com/example/poukaz/poukaz/FieldKind" := ((((((((((((((((((((f44.ext E38).wr W47).wr W49).wr W51).wr W53).wr W55).wr W57).wr W59).wr W61).wr W63).wr W65).wr W67).wr W69).wr W71).wr W73).wr W75).wr W77).wr W79).wr W81).wr W83)
    obtain ⟨cq124, kq124, q124a, q124b, q124c⟩ := isOf hZ e123 f125
    obtain ⟨_, _, ⟨T124, L124, k124, n124⟩, -, X124, ⟨Lc124, hQ124, l124, y124, z124⟩, st124⟩ := X123.virtualBack hx (y := (⟨"com/example/poukaz/poukaz/FieldKind", "largestNumber", "(I)J"⟩ : MethodName)) (z := (⟨"com/example/poukaz/poukaz/FieldKind", "largestNumber", "(I)J"⟩ : MethodName)) hown (mvT hZ (hw _ (List.mem_of_getElem? (i := 38) rfl))) (mvT hZ (hw _ (List.mem_of_getElem? (i := 39) rfl))) (notFace_of_selects (args := #[]) (mvT hZ (hw _ (List.mem_of_getElem? (i := 41) rfl)))) (mvT hZ (hw _ (List.mem_of_getElem? (i := 41) rfl))) (mvT hZ (hw _ (List.mem_of_getElem? (i := 40) rfl))) (by decide) (backOf (W := 0) (rm1o l Z a0 hw [] o_POSTAL_CODE dg o_DECIMAL N h83 n0 z84 f122 (Ne.symm ne_o_DECIMAL_o_POSTAL_CODE) hN hdN) hZ (hw _ (List.mem_of_getElem? (i := 42) rfl)) (hw _ (List.mem_of_getElem? (i := 3) rfl)) (by decide) (by decide)) q124a q124c (g := (mkF m 222 #[.val (.int p1), .val (.int p2), .val (.ref b1), .val (.ref b38), .val (.ref o_POSTAL_CODE), .val (.int dg), .val (.int dg)] [(.int dg), (.ref o_POSTAL_CODE)])) rfl (by rw [hml]; rfl) (Steps.refl _) (argsL := [(.int dg)]) (rest := []) (lenOf pd_0 rfl) rfl (by show 2 * 0 + _ ≤ _; exact Nat.le_of_eq rfl) (hb hby at_222) (fun _ _ => ⟨rfl, e123, (by decide : 2 + 0 ≤ _), (by decide : 26 + 0 ≤ _)⟩)
    dsimp only [Pt.U, Pt.locs, Pt.cells, Pt.slots] at X124 l124 y124 z124 st124 hQ124
    subst y124 z124
    obtain ⟨r124, rfl, hr124, N124q, eq124⟩ := hQ124
    have N124 : Fr n0 L124 := by rw [l124]; exact Fr.app N83 N124q
    obtain ⟨cl126, Ar126, kc126, sz126, -, hv126⟩ := id V83
    have hin126 : ¬ (dg < 0 ∨ cl126.slots.size ≤ (dg).toNatClampNeg) := AV.inb sz126 ⟨(own_nat hdN hN).1, by rw [(own_nat hdN hN).2]; exact hN⟩
    have hat126 : cl126.slots[(dg).toNatClampNeg]? = some (.long (fn83 (dg).toNatClampNeg)) := (hv126 _ (AV.inx ⟨(own_nat hdN hN).1, by rw [(own_nat hdN hN).2]; exact hN⟩)).trans (congrArg some rfl)
    obtain ⟨fs, hr, hrun, hended, hW, hsame⟩ := X124.leave (v := some (.int (1 : Int32))) (fun h => by rw [Bd.returns] at h; cases h)
    refine ⟨_, _, ?_, hrun, hended, _, _, rfl, ?_, ⟨_, rfl⟩, hW, hsame.mono (by decide) (by decide)⟩
    · show Steps p.tables e below (T83.setTop (mkF m 197 #[.val (.int p1), .val (.int p2), .val (.ref b1), .val (.ref b38), .val (.ref o_POSTAL_CODE), .unset, .unset] [(.int dg)])) _
      refine XS.istore X83.here hx rfl (hb hby at_197) rfl (l' := #[.val (.int p1), .val (.int p2), .val (.ref b1), .val (.ref b38), .val (.ref o_POSTAL_CODE), .val (.int dg), .unset]) rfl ?_
      show Steps p.tables e below (T83.setTop (mkF m 199 #[.val (.int p1), .val (.int p2), .val (.ref b1), .val (.ref b38), .val (.ref o_POSTAL_CODE), .val (.int dg), .unset] [])) _
      refine XS.aload X83.here hx rfl (hb hby at_199) rfl rfl ?_
      show Steps p.tables e below (T83.setTop (mkF m 201 #[.val (.int p1), .val (.int p2), .val (.ref b1), .val (.ref b38), .val (.ref o_POSTAL_CODE), .val (.int dg), .unset] [(.ref o_POSTAL_CODE)])) _
      refine st123 _ ?_
      show Steps p.tables e below (T123.setTop (mkF m 204 #[.val (.int p1), .val (.int p2), .val (.ref b1), .val (.ref b38), .val (.ref o_POSTAL_CODE), .val (.int dg), .unset] [(.ref o_DECIMAL), (.ref o_POSTAL_CODE)])) _
      refine Jvm.RoadKit.acmp (g := (mkF m 204 #[.val (.int p1), .val (.int p2), .val (.ref b1), .val (.ref b38), .val (.ref o_POSTAL_CODE), .val (.int dg), .unset] [(.ref o_DECIMAL), (.ref o_POSTAL_CODE)])) X123 hx rfl rfl rfl (pc0 := 204) (pc' := 214) (same := false) rfl (hb hby at_204) rfl (decide_eq_false fun q => (Ne.symm ne_o_DECIMAL_o_POSTAL_CODE) (Value.ref.inj q)) (by decide) (by decide) ?_
      show Steps p.tables e below (T123.setTop (mkF m 214 #[.val (.int p1), .val (.int p2), .val (.ref b1), .val (.ref b38), .val (.ref o_POSTAL_CODE), .val (.int dg), .unset] [])) _
      refine XS.iload X123.here hx rfl (hb hby at_214) rfl ?_
      show Steps p.tables e below (T123.setTop (mkF m 216 #[.val (.int p1), .val (.int p2), .val (.ref b1), .val (.ref b38), .val (.ref o_POSTAL_CODE), .val (.int dg), .unset] [(.int dg)])) _
      refine XS.istore X123.here hx rfl (hb hby at_216) rfl (l' := #[.val (.int p1), .val (.int p2), .val (.ref b1), .val (.ref b38), .val (.ref o_POSTAL_CODE), .val (.int dg), .val (.int dg)]) rfl ?_
      show Steps p.tables e below (T123.setTop (mkF m 218 #[.val (.int p1), .val (.int p2), .val (.ref b1), .val (.ref b38), .val (.ref o_POSTAL_CODE), .val (.int dg), .val (.int dg)] [])) _
      refine XS.aload X123.here hx rfl (hb hby at_218) rfl rfl ?_
      show Steps p.tables e below (T123.setTop (mkF m 220 #[.val (.int p1), .val (.int p2), .val (.ref b1), .val (.ref b38), .val (.ref o_POSTAL_CODE), .val (.int dg), .val (.int dg)] [(.ref o_POSTAL_CODE)])) _
      refine XS.iload X123.here hx rfl (hb hby at_220) rfl ?_
      show Steps p.tables e below (T123.setTop (mkF m 222 #[.val (.int p1), .val (.int p2), .val (.ref b1), .val (.ref b38), .val (.ref o_POSTAL_CODE), .val (.int dg), .val (.int dg)] [(.int dg), (.ref o_POSTAL_CODE)])) _
      refine st124.trans ?_
      show Steps p.tables e below (T124.setTop (mkF m 225 #[.val (.int p1), .val (.int p2), .val (.ref b1), .val (.ref b38), .val (.ref o_POSTAL_CODE), .val (.int dg), .val (.int dg)] [(.long r124)])) _
      refine XS.aloadN X124.here hx rfl (hb hby at_225) rfl rfl ?_
      show Steps p.tables e below (T124.setTop (mkF m 226 #[.val (.int p1), .val (.int p2), .val (.ref b1), .val (.ref b38), .val (.ref o_POSTAL_CODE), .val (.int dg), .val (.int dg)] [(.ref b38), (.long r124)])) _
      refine XS.iload X124.here hx rfl (hb hby at_226) rfl ?_
      show Steps p.tables e below (T124.setTop (mkF m 228 #[.val (.int p1), .val (.int p2), .val (.ref b1), .val (.ref b38), .val (.ref o_POSTAL_CODE), .val (.int dg), .val (.int dg)] [(.int dg), (.ref b38), (.long r124)])) _
      refine X124.laload hx (j := dg) (v := (.long (fn83 (dg).toNatClampNeg))) (by rw [eq124]; exact Ar126.1) (State.isArrayOf_alike hZ.alike Ar126.2.1) Ar126.2.2 hin126 hat126 (g := (mkF m 228 #[.val (.int p1), .val (.int p2), .val (.ref b1), .val (.ref b38), .val (.ref o_POSTAL_CODE), .val (.int dg), .val (.int dg)] [(.int dg), (.ref b38), (.long r124)])) rfl rfl (hb hby at_228) _ ?_
      show Steps p.tables e below (T124.setTop (mkF m 229 #[.val (.int p1), .val (.int p2), .val (.ref b1), .val (.ref b38), .val (.ref o_POSTAL_CODE), .val (.int dg), .val (.int dg)] [(.long (fn83 (dg).toNatClampNeg)), (.long r124)])) _
      refine XS.lconst X124.here hx rfl (hb hby at_229) ?_
      show Steps p.tables e below (T124.setTop (mkF m 230 #[.val (.int p1), .val (.int p2), .val (.ref b1), .val (.ref b38), .val (.ref o_POSTAL_CODE), .val (.int dg), .val (.int dg)] [(.long (1 : Int64)), (.long (fn83 (dg).toNatClampNeg)), (.long r124)])) _
      refine XS.lsub X124.here hx rfl (hb hby at_230) rfl ?_
      show Steps p.tables e below (T124.setTop (mkF m 231 #[.val (.int p1), .val (.int p2), .val (.ref b1), .val (.ref b38), .val (.ref o_POSTAL_CODE), .val (.int dg), .val (.int dg)] [(.long ((fn83 (dg).toNatClampNeg) - (1 : Int64))), (.long r124)])) _
      refine XS.lcmp X124.here hx rfl (hb hby at_231) rfl ?_
      show Steps p.tables e below (T124.setTop (mkF m 232 #[.val (.int p1), .val (.int p2), .val (.ref b1), .val (.ref b38), .val (.ref o_POSTAL_CODE), .val (.int dg), .val (.int dg)] [(.int (lcmpW r124 ((fn83 (dg).toNatClampNeg) - (1 : Int64))))])) _
      refine XS.ifNo X124.here hx rfl (hb hby at_232) rfl ((if0 _ _).trans (teq ((lw_eq r124 ((fn83 (dg).toNatClampNeg) - (1 : Int64))).mpr (by rw [hr124, (own_nat hdN hN).2, hfn83, hfn81, hfn79, hfn77, hfn75, hfn73, hfn71, hfn69, hfn67, hfn65, hfn63, hfn61, hfn59, hfn57, hfn55, hfn53, hfn51, hfn49, hfn47]; exact own_tens ⟨N, hN⟩ : r124 = ((fn83 (dg).toNatClampNeg) - (1 : Int64))))).2) ?_
      show Steps p.tables e below (T124.setTop (mkF m 235 #[.val (.int p1), .val (.int p2), .val (.ref b1), .val (.ref b38), .val (.ref o_POSTAL_CODE), .val (.int dg), .val (.int dg)] [])) _
      refine XS.iconst X124.here hx rfl (hb hby at_235) ?_
      show Steps p.tables e below (T124.setTop (mkF m 236 #[.val (.int p1), .val (.int p2), .val (.ref b1), .val (.ref b38), .val (.ref o_POSTAL_CODE), .val (.int dg), .val (.int dg)] [(.int (1 : Int32))])) _
      refine XS.goto X124.here hx rfl (pc0 := 236) (pc' := 240) rfl (hb hby at_236) (by decide) (by decide) ?_
      show Steps p.tables e below (T124.setTop (mkF m 240 #[.val (.int p1), .val (.int p2), .val (.ref b1), .val (.ref b38), .val (.ref o_POSTAL_CODE), .val (.int dg), .val (.int dg)] [(.int (1 : Int32))])) _
      exact retN X124 hx (t := .boolean) Bd.returns (by simp) (hb hby at_240) hr
    · exact ⟨rfl, N124⟩
  · rw [hk186]
    have f128 : AV Z h83 b1 k1 (.object "com/example/poukaz/poukaz/FieldKind") 7 (updR (updR (updR (updR (updR (updR (updR (fun _ => Value.null) 0 (.ref o_NUMBER)) 1 (.ref o_NUMBER_OR_BLANK)) 2 (.ref o_DECIMAL)) 3 (.ref o_DATE)) 4 (.ref o_DATE_OR_ZEROS)) 5 (.ref o_POSTAL_CODE)) 6 (.ref o_TEXT)) := ((((((((((((((((((((V35.ext E38).other W47 ne_b1_b38).other W49 ne_b1_b38).other W51 ne_b1_b38).other W53 ne_b1_b38).other W55 ne_b1_b38).other W57 ne_b1_b38).other W59 ne_b1_b38).other W61 ne_b1_b38).other W63 ne_b1_b38).other W65 ne_b1_b38).other W67 ne_b1_b38).other W69 ne_b1_b38).other W71 ne_b1_b38).other W73 ne_b1_b38).other W75 ne_b1_b38).other W77 ne_b1_b38).other W79 ne_b1_b38).other W81 ne_b1_b38).other W83 ne_b1_b38)
    obtain ⟨cl127, Ar127, kc127, sz127, -, hv127⟩ := id f128
    have hin127 : ¬ ((6 : Int32) < 0 ∨ cl127.slots.size ≤ ((6 : Int32)).toNatClampNeg) := AV.inb sz127 (show ¬ (6 : Int32) < 0 ∧ ((6 : Int32)).toNatClampNeg < 7 by decide)
    have hat127 : cl127.slots[((6 : Int32)).toNatClampNeg]? = some (.ref o_TEXT) := (hv127 _ (AV.inx (show ¬ (6 : Int32) < 0 ∧ ((6 : Int32)).toNatClampNeg < 7 by decide))).trans (congrArg some rfl)
    obtain ⟨dg, hdg⟩ : ∃ z : Int32, z = ((p2 &&& (2147483647 : Int32)) % (19 : Int32)) := ⟨_, rfl⟩
    refine GoalS.lift (B := (T83.setTop (mkF m 197 #[.val (.int p1), .val (.int p2), .val (.ref b1), .val (.ref b38), .val (.ref o_TEXT), .unset, .unset] [(.int dg)]))) (fun t k => ?_) ?_
    · show Steps p.tables e below (T83.setTop (mkF m 187 #[.val (.int p1), .val (.int p2), .val (.ref b1), .val (.ref b38), .unset, .unset, .unset] [(.int (6 : Int32)), (.ref b1)])) _
      refine X83.aaload hx (j := (6 : Int32)) (v := (.ref o_TEXT)) (by rw [e83]; exact Ar127.1) (State.isArrayOf_alike hZ.alike Ar127.2.1) rfl Ar127.2.2 hin127 hat127 (g := (mkF m 187 #[.val (.int p1), .val (.int p2), .val (.ref b1), .val (.ref b38), .unset, .unset, .unset] [(.int (6 : Int32)), (.ref b1)])) rfl rfl (hb hby at_187) _ ?_
      show Steps p.tables e below (T83.setTop (mkF m 188 #[.val (.int p1), .val (.int p2), .val (.ref b1), .val (.ref b38), .unset, .unset, .unset] [(.ref o_TEXT)])) _
      refine XS.astore X83.here hx rfl (hb hby at_188) rfl rfl (l' := #[.val (.int p1), .val (.int p2), .val (.ref b1), .val (.ref b38), .val (.ref o_TEXT), .unset, .unset]) rfl ?_
      show Steps p.tables e below (T83.setTop (mkF m 190 #[.val (.int p1), .val (.int p2), .val (.ref b1), .val (.ref b38), .val (.ref o_TEXT), .unset, .unset] [])) _
      refine XS.iloadN X83.here hx rfl (hb hby at_190) rfl ?_
      show Steps p.tables e below (T83.setTop (mkF m 191 #[.val (.int p1), .val (.int p2), .val (.ref b1), .val (.ref b38), .val (.ref o_TEXT), .unset, .unset] [(.int p2)])) _
      refine X83.ldcInt hx hown (mvT hZ (hw _ (List.mem_of_getElem? (i := 37) rfl))) (g := (mkF m 191 #[.val (.int p1), .val (.int p2), .val (.ref b1), .val (.ref b38), .val (.ref o_TEXT), .unset, .unset] [(.int p2)])) rfl (hb hby at_191) _ ?_
      show Steps p.tables e below (T83.setTop (mkF m 193 #[.val (.int p1), .val (.int p2), .val (.ref b1), .val (.ref b38), .val (.ref o_TEXT), .unset, .unset] [(.int (2147483647 : Int32)), (.int p2)])) _
      refine XS.iand X83.here hx rfl (hb hby at_193) rfl ?_
      show Steps p.tables e below (T83.setTop (mkF m 194 #[.val (.int p1), .val (.int p2), .val (.ref b1), .val (.ref b38), .val (.ref o_TEXT), .unset, .unset] [(.int (p2 &&& (2147483647 : Int32)))])) _
      refine XS.bipush X83.here hx rfl (hb hby at_194) ?_
      show Steps p.tables e below (T83.setTop (mkF m 196 #[.val (.int p1), .val (.int p2), .val (.ref b1), .val (.ref b38), .val (.ref o_TEXT), .unset, .unset] [(.int (19 : Int32)), (.int (p2 &&& (2147483647 : Int32)))])) _
      refine iremM X83 hx rfl (hb hby at_196) rfl (by decide) ?_
      rw [hdg] at k
      exact k
    obtain ⟨N, hN, hdN⟩ := own_dig p2
    rw [← hdg] at hdN
    have f129 : Sta Z h83 "com/example/poukaz/poukaz/FieldKind" "DECIMAL" "Lcom/example/poukaz/poukaz/FieldKind;" (.ref o_DECIMAL) := (((((((((((((((((((((((((f13.wr W15).wr W20).wr W25).wr W30).wr W35).ext E38).wr W47).wr W49).wr W51).wr W53).wr W55).wr W57).wr W59).wr W61).wr W63).wr W65).wr W67).wr W69).wr W71).wr W73).wr W75).wr W77).wr W79).wr W81).wr W83)
    obtain ⟨T130, X130, e130, st130⟩ := getS2 X83 hx hZ hown (host := "") (Or.inl (hw _ (List.mem_of_getElem? (i := 8) rfl))) Via.refl e83 f129 (g := (mkF m 201 #[.val (.int p1), .val (.int p2), .val (.ref b1), .val (.ref b38), .val (.ref o_TEXT), .val (.int dg), .unset] [(.ref o_TEXT)])) rfl (hb hby at_201)
    have f132 : Exa Z h83 o_TEXT "com/example/poukaz/poukaz/FieldKind" := ((((((((((((((((((((f45.ext E38).wr W47).wr W49).wr W51).wr W53).wr W55).wr W57).wr W59).wr W61).wr W63).wr W65).wr W67).wr W69).wr W71).wr W73).wr W75).wr W77).wr W79).wr W81).wr W83)
    obtain ⟨cq131, kq131, q131a, q131b, q131c⟩ := isOf hZ e130 f132
    obtain ⟨_, _, ⟨T131, L131, k131, n131⟩, -, X131, ⟨Lc131, hQ131, l131, y131, z131⟩, st131⟩ := X130.virtualBack hx (y := (⟨"com/example/poukaz/poukaz/FieldKind", "largestNumber", "(I)J"⟩ : MethodName)) (z := (⟨"com/example/poukaz/poukaz/FieldKind", "largestNumber", "(I)J"⟩ : MethodName)) hown (mvT hZ (hw _ (List.mem_of_getElem? (i := 38) rfl))) (mvT hZ (hw _ (List.mem_of_getElem? (i := 39) rfl))) (notFace_of_selects (args := #[]) (mvT hZ (hw _ (List.mem_of_getElem? (i := 41) rfl)))) (mvT hZ (hw _ (List.mem_of_getElem? (i := 41) rfl))) (mvT hZ (hw _ (List.mem_of_getElem? (i := 40) rfl))) (by decide) (backOf (W := 0) (rm1o l Z a0 hw [] o_TEXT dg o_DECIMAL N h83 n0 z84 f129 (Ne.symm ne_o_DECIMAL_o_TEXT) hN hdN) hZ (hw _ (List.mem_of_getElem? (i := 42) rfl)) (hw _ (List.mem_of_getElem? (i := 3) rfl)) (by decide) (by decide)) q131a q131c (g := (mkF m 222 #[.val (.int p1), .val (.int p2), .val (.ref b1), .val (.ref b38), .val (.ref o_TEXT), .val (.int dg), .val (.int dg)] [(.int dg), (.ref o_TEXT)])) rfl (by rw [hml]; rfl) (Steps.refl _) (argsL := [(.int dg)]) (rest := []) (lenOf pd_0 rfl) rfl (by show 2 * 0 + _ ≤ _; exact Nat.le_of_eq rfl) (hb hby at_222) (fun _ _ => ⟨rfl, e130, (by decide : 2 + 0 ≤ _), (by decide : 26 + 0 ≤ _)⟩)
    dsimp only [Pt.U, Pt.locs, Pt.cells, Pt.slots] at X131 l131 y131 z131 st131 hQ131
    subst y131 z131
    obtain ⟨r131, rfl, hr131, N131q, eq131⟩ := hQ131
    have N131 : Fr n0 L131 := by rw [l131]; exact Fr.app N83 N131q
    obtain ⟨cl133, Ar133, kc133, sz133, -, hv133⟩ := id V83
    have hin133 : ¬ (dg < 0 ∨ cl133.slots.size ≤ (dg).toNatClampNeg) := AV.inb sz133 ⟨(own_nat hdN hN).1, by rw [(own_nat hdN hN).2]; exact hN⟩
    have hat133 : cl133.slots[(dg).toNatClampNeg]? = some (.long (fn83 (dg).toNatClampNeg)) := (hv133 _ (AV.inx ⟨(own_nat hdN hN).1, by rw [(own_nat hdN hN).2]; exact hN⟩)).trans (congrArg some rfl)
    obtain ⟨fs, hr, hrun, hended, hW, hsame⟩ := X131.leave (v := some (.int (1 : Int32))) (fun h => by rw [Bd.returns] at h; cases h)
    refine ⟨_, _, ?_, hrun, hended, _, _, rfl, ?_, ⟨_, rfl⟩, hW, hsame.mono (by decide) (by decide)⟩
    · show Steps p.tables e below (T83.setTop (mkF m 197 #[.val (.int p1), .val (.int p2), .val (.ref b1), .val (.ref b38), .val (.ref o_TEXT), .unset, .unset] [(.int dg)])) _
      refine XS.istore X83.here hx rfl (hb hby at_197) rfl (l' := #[.val (.int p1), .val (.int p2), .val (.ref b1), .val (.ref b38), .val (.ref o_TEXT), .val (.int dg), .unset]) rfl ?_
      show Steps p.tables e below (T83.setTop (mkF m 199 #[.val (.int p1), .val (.int p2), .val (.ref b1), .val (.ref b38), .val (.ref o_TEXT), .val (.int dg), .unset] [])) _
      refine XS.aload X83.here hx rfl (hb hby at_199) rfl rfl ?_
      show Steps p.tables e below (T83.setTop (mkF m 201 #[.val (.int p1), .val (.int p2), .val (.ref b1), .val (.ref b38), .val (.ref o_TEXT), .val (.int dg), .unset] [(.ref o_TEXT)])) _
      refine st130 _ ?_
      show Steps p.tables e below (T130.setTop (mkF m 204 #[.val (.int p1), .val (.int p2), .val (.ref b1), .val (.ref b38), .val (.ref o_TEXT), .val (.int dg), .unset] [(.ref o_DECIMAL), (.ref o_TEXT)])) _
      refine Jvm.RoadKit.acmp (g := (mkF m 204 #[.val (.int p1), .val (.int p2), .val (.ref b1), .val (.ref b38), .val (.ref o_TEXT), .val (.int dg), .unset] [(.ref o_DECIMAL), (.ref o_TEXT)])) X130 hx rfl rfl rfl (pc0 := 204) (pc' := 214) (same := false) rfl (hb hby at_204) rfl (decide_eq_false fun q => (Ne.symm ne_o_DECIMAL_o_TEXT) (Value.ref.inj q)) (by decide) (by decide) ?_
      show Steps p.tables e below (T130.setTop (mkF m 214 #[.val (.int p1), .val (.int p2), .val (.ref b1), .val (.ref b38), .val (.ref o_TEXT), .val (.int dg), .unset] [])) _
      refine XS.iload X130.here hx rfl (hb hby at_214) rfl ?_
      show Steps p.tables e below (T130.setTop (mkF m 216 #[.val (.int p1), .val (.int p2), .val (.ref b1), .val (.ref b38), .val (.ref o_TEXT), .val (.int dg), .unset] [(.int dg)])) _
      refine XS.istore X130.here hx rfl (hb hby at_216) rfl (l' := #[.val (.int p1), .val (.int p2), .val (.ref b1), .val (.ref b38), .val (.ref o_TEXT), .val (.int dg), .val (.int dg)]) rfl ?_
      show Steps p.tables e below (T130.setTop (mkF m 218 #[.val (.int p1), .val (.int p2), .val (.ref b1), .val (.ref b38), .val (.ref o_TEXT), .val (.int dg), .val (.int dg)] [])) _
      refine XS.aload X130.here hx rfl (hb hby at_218) rfl rfl ?_
      show Steps p.tables e below (T130.setTop (mkF m 220 #[.val (.int p1), .val (.int p2), .val (.ref b1), .val (.ref b38), .val (.ref o_TEXT), .val (.int dg), .val (.int dg)] [(.ref o_TEXT)])) _
      refine XS.iload X130.here hx rfl (hb hby at_220) rfl ?_
      show Steps p.tables e below (T130.setTop (mkF m 222 #[.val (.int p1), .val (.int p2), .val (.ref b1), .val (.ref b38), .val (.ref o_TEXT), .val (.int dg), .val (.int dg)] [(.int dg), (.ref o_TEXT)])) _
      refine st131.trans ?_
      show Steps p.tables e below (T131.setTop (mkF m 225 #[.val (.int p1), .val (.int p2), .val (.ref b1), .val (.ref b38), .val (.ref o_TEXT), .val (.int dg), .val (.int dg)] [(.long r131)])) _
      refine XS.aloadN X131.here hx rfl (hb hby at_225) rfl rfl ?_
      show Steps p.tables e below (T131.setTop (mkF m 226 #[.val (.int p1), .val (.int p2), .val (.ref b1), .val (.ref b38), .val (.ref o_TEXT), .val (.int dg), .val (.int dg)] [(.ref b38), (.long r131)])) _
      refine XS.iload X131.here hx rfl (hb hby at_226) rfl ?_
      show Steps p.tables e below (T131.setTop (mkF m 228 #[.val (.int p1), .val (.int p2), .val (.ref b1), .val (.ref b38), .val (.ref o_TEXT), .val (.int dg), .val (.int dg)] [(.int dg), (.ref b38), (.long r131)])) _
      refine X131.laload hx (j := dg) (v := (.long (fn83 (dg).toNatClampNeg))) (by rw [eq131]; exact Ar133.1) (State.isArrayOf_alike hZ.alike Ar133.2.1) Ar133.2.2 hin133 hat133 (g := (mkF m 228 #[.val (.int p1), .val (.int p2), .val (.ref b1), .val (.ref b38), .val (.ref o_TEXT), .val (.int dg), .val (.int dg)] [(.int dg), (.ref b38), (.long r131)])) rfl rfl (hb hby at_228) _ ?_
      show Steps p.tables e below (T131.setTop (mkF m 229 #[.val (.int p1), .val (.int p2), .val (.ref b1), .val (.ref b38), .val (.ref o_TEXT), .val (.int dg), .val (.int dg)] [(.long (fn83 (dg).toNatClampNeg)), (.long r131)])) _
      refine XS.lconst X131.here hx rfl (hb hby at_229) ?_
      show Steps p.tables e below (T131.setTop (mkF m 230 #[.val (.int p1), .val (.int p2), .val (.ref b1), .val (.ref b38), .val (.ref o_TEXT), .val (.int dg), .val (.int dg)] [(.long (1 : Int64)), (.long (fn83 (dg).toNatClampNeg)), (.long r131)])) _
      refine XS.lsub X131.here hx rfl (hb hby at_230) rfl ?_
      show Steps p.tables e below (T131.setTop (mkF m 231 #[.val (.int p1), .val (.int p2), .val (.ref b1), .val (.ref b38), .val (.ref o_TEXT), .val (.int dg), .val (.int dg)] [(.long ((fn83 (dg).toNatClampNeg) - (1 : Int64))), (.long r131)])) _
      refine XS.lcmp X131.here hx rfl (hb hby at_231) rfl ?_
      show Steps p.tables e below (T131.setTop (mkF m 232 #[.val (.int p1), .val (.int p2), .val (.ref b1), .val (.ref b38), .val (.ref o_TEXT), .val (.int dg), .val (.int dg)] [(.int (lcmpW r131 ((fn83 (dg).toNatClampNeg) - (1 : Int64))))])) _
      refine XS.ifNo X131.here hx rfl (hb hby at_232) rfl ((if0 _ _).trans (teq ((lw_eq r131 ((fn83 (dg).toNatClampNeg) - (1 : Int64))).mpr (by rw [hr131, (own_nat hdN hN).2, hfn83, hfn81, hfn79, hfn77, hfn75, hfn73, hfn71, hfn69, hfn67, hfn65, hfn63, hfn61, hfn59, hfn57, hfn55, hfn53, hfn51, hfn49, hfn47]; exact own_tens ⟨N, hN⟩ : r131 = ((fn83 (dg).toNatClampNeg) - (1 : Int64))))).2) ?_
      show Steps p.tables e below (T131.setTop (mkF m 235 #[.val (.int p1), .val (.int p2), .val (.ref b1), .val (.ref b38), .val (.ref o_TEXT), .val (.int dg), .val (.int dg)] [])) _
      refine XS.iconst X131.here hx rfl (hb hby at_235) ?_
      show Steps p.tables e below (T131.setTop (mkF m 236 #[.val (.int p1), .val (.int p2), .val (.ref b1), .val (.ref b38), .val (.ref o_TEXT), .val (.int dg), .val (.int dg)] [(.int (1 : Int32))])) _
      refine XS.goto X131.here hx rfl (pc0 := 236) (pc' := 240) rfl (hb hby at_236) (by decide) (by decide) ?_
      show Steps p.tables e below (T131.setTop (mkF m 240 #[.val (.int p1), .val (.int p2), .val (.ref b1), .val (.ref b38), .val (.ref o_TEXT), .val (.int dg), .val (.int dg)] [(.int (1 : Int32))])) _
      exact retN X131 hx (t := .boolean) Bd.returns (by simp) (hb hby at_240) hr
    · exact ⟨rfl, N131⟩
set_option maxRecDepth 65536 in
set_option maxHeartbeats 40000000 in
theorem comes_1 {Post : Tables → Env → Array Value → State → Outcome → State → Prop} (hpost : ∀ tb e args s v u, (limb_1_1.after args s (.returned v) u = true ∧ limb_1_2.after args s (.returned v) u = true ∧ True) → FrameEnd s (.returned v) u (Jvm.fieldLocs frame_1_writes args s ++ Jvm.arrayLocs frame_1_arrays args s ++ Jvm.staticLocs frame_1_statics s) 16 128 → Post tb e args s (.returned v) u) :
    ArmFor flags0 classFile x code maxLocals ret World_1 tables_1 room_1 Calls_1 rest_1 Pre_1 Post := by
  intro l hfl _ _ p e ha hc hk s m args below hf hA hF happ hP
  obtain ⟨hcalls, hrest, hpre⟩ := hP
  obtain ⟨-, -, -, hnamed, -, -, -, hat⟩ := (Spec.applies_iff hf).mp happ
  obtain ⟨hg, hn⟩ := and_e (Cond.before_iff.mp (show (Jvm.Cond.and given_1 narrow_1).before args s = true from hpre))
  obtain ⟨g1, g2⟩ := and_e hg
  obtain ⟨g3, g4⟩ := and_e g2
  obtain ⟨w0, w1, rfl⟩ : ∃ w0 w1 : Value, args = #[w0, w1] := by
    have hs : args.size = 2 := by simpa [Cond.value, given_1] using g1
    obtain ⟨L⟩ := args
    match L, hs with
    | [w0, w1], _ => exact ⟨w0, w1, rfl⟩
  have hw := fun d (hd : d ∈ tables_1) => atoms_spec (ws := Jvm.Cond.code x code maxLocals ret :: tables_1) hat d (List.mem_cons_of_mem _ hd)
  have hfit : Fit s := fun {y c} hc i hi => by
    obtain ⟨ha, rfl⟩ := Array.getElem?_eq_some_iff.mp hc
    have q := List.all_eq_true.mp ((Array.all_eq_true_iff_forall_mem.mp hF) _ (Array.getElem_mem ha)) i (List.mem_range.mpr hi)
    simpa [Array.getElem?_eq_getElem hi] using q
  obtain ⟨i0, ei0⟩ := is_v g3
  obtain rfl : w0 = (.int i0) := Option.some.inj ei0
  obtain ⟨i1, ei1⟩ := is_v g4
  obtain rfl : w1 = (.int i1) := Option.some.inj ei1
  obtain ⟨nn1, nn2⟩ := and_e hn
  obtain ⟨nn3, nn4⟩ := and_e nn2
  obtain ⟨nn5, nn6⟩ := and_e nn4
  obtain ⟨nn7, nn8⟩ := and_e nn6
  obtain ⟨nn9, nn10⟩ := and_e nn8
  obtain ⟨nn11, nn12⟩ := and_e nn10
  obtain ⟨nn13, nn14⟩ := and_e nn12
  obtain ⟨nn15, nn16⟩ := and_e nn14
  obtain ⟨nn17, nn18⟩ := and_e nn16
  obtain ⟨nn19, nn20⟩ := and_e nn18
  obtain ⟨nn21, nn22⟩ := and_e nn20
  obtain ⟨nn23, nn24⟩ := and_e nn22
  obtain ⟨nn25, nn26⟩ := and_e nn24
  obtain ⟨o_NUMBER, ev_o_NUMBER⟩ := exa_v nn1
  obtain ⟨o_NUMBER_OR_BLANK, ev_o_NUMBER_OR_BLANK⟩ := exa_v nn3
  obtain ⟨o_DECIMAL, ev_o_DECIMAL⟩ := exa_v nn5
  obtain ⟨o_DATE, ev_o_DATE⟩ := exa_v nn7
  obtain ⟨o_DATE_OR_ZEROS, ev_o_DATE_OR_ZEROS⟩ := exa_v nn9
  obtain ⟨o_POSTAL_CODE, ev_o_POSTAL_CODE⟩ := exa_v nn11
  obtain ⟨o_TEXT, ev_o_TEXT⟩ := exa_v nn13
  obtain ⟨n, o, h1, h2, h3, _, L, rfl, ⟨rfl, N⟩, hq⟩ := rm0 l s _ hw tables_1 i0 i1 o_NUMBER o_NUMBER_OR_BLANK o_DECIMAL o_DATE o_DATE_OR_ZEROS o_POSTAL_CODE o_TEXT s.heap s.heap.size (Nat.le_refl _) (Sta.start ev_o_NUMBER (Or.inr ⟨(hw _ (List.mem_of_getElem? (i := 3) rfl)), (hw _ (List.mem_of_getElem? (i := 4) rfl))⟩)) (Exa.start ev_o_NUMBER nn1) (Sta.start ev_o_NUMBER_OR_BLANK (Or.inr ⟨(hw _ (List.mem_of_getElem? (i := 3) rfl)), (hw _ (List.mem_of_getElem? (i := 7) rfl))⟩)) (Exa.start ev_o_NUMBER_OR_BLANK nn3) (Sta.start ev_o_DECIMAL (Or.inr ⟨(hw _ (List.mem_of_getElem? (i := 3) rfl)), (hw _ (List.mem_of_getElem? (i := 9) rfl))⟩)) (Exa.start ev_o_DECIMAL nn5) (Sta.start ev_o_DATE (Or.inr ⟨(hw _ (List.mem_of_getElem? (i := 3) rfl)), (hw _ (List.mem_of_getElem? (i := 11) rfl))⟩)) (Exa.start ev_o_DATE nn7) (Sta.start ev_o_DATE_OR_ZEROS (Or.inr ⟨(hw _ (List.mem_of_getElem? (i := 3) rfl)), (hw _ (List.mem_of_getElem? (i := 13) rfl))⟩)) (Exa.start ev_o_DATE_OR_ZEROS nn9) (Sta.start ev_o_POSTAL_CODE (Or.inr ⟨(hw _ (List.mem_of_getElem? (i := 3) rfl)), (hw _ (List.mem_of_getElem? (i := 15) rfl))⟩)) (Exa.start ev_o_POSTAL_CODE nn11) (Sta.start ev_o_TEXT (Or.inr ⟨(hw _ (List.mem_of_getElem? (i := 3) rfl)), (hw _ (List.mem_of_getElem? (i := 17) rfl))⟩)) (Exa.start ev_o_TEXT nn13) (own_fI ev_o_NUMBER nn15) (own_fI ev_o_DECIMAL nn17) (own_fI ev_o_DATE nn19) (own_fI ev_o_NUMBER_OR_BLANK nn21) (own_fI ev_o_DATE_OR_ZEROS nn23) (own_fI ev_o_TEXT nn25) (own_fI ev_o_POSTAL_CODE nn26) (Fld.ne (own_fI ev_o_NUMBER nn15) (own_fI ev_o_DECIMAL nn17) (by simp)) (Fld.ne (own_fI ev_o_NUMBER nn15) (own_fI ev_o_DATE nn19) (by simp)) (Fld.ne (own_fI ev_o_NUMBER nn15) (own_fI ev_o_NUMBER_OR_BLANK nn21) (by simp)) (Fld.ne (own_fI ev_o_NUMBER nn15) (own_fI ev_o_DATE_OR_ZEROS nn23) (by simp)) (Fld.ne (own_fI ev_o_NUMBER nn15) (own_fI ev_o_TEXT nn25) (by simp)) (Fld.ne (own_fI ev_o_NUMBER nn15) (own_fI ev_o_POSTAL_CODE nn26) (by simp)) (Fld.ne (own_fI ev_o_DECIMAL nn17) (own_fI ev_o_DATE nn19) (by simp)) (Fld.ne (own_fI ev_o_DECIMAL nn17) (own_fI ev_o_NUMBER_OR_BLANK nn21) (by simp)) (Fld.ne (own_fI ev_o_DECIMAL nn17) (own_fI ev_o_DATE_OR_ZEROS nn23) (by simp)) (Fld.ne (own_fI ev_o_DECIMAL nn17) (own_fI ev_o_TEXT nn25) (by simp)) (Fld.ne (own_fI ev_o_DECIMAL nn17) (own_fI ev_o_POSTAL_CODE nn26) (by simp)) (Fld.ne (own_fI ev_o_DATE nn19) (own_fI ev_o_NUMBER_OR_BLANK nn21) (by simp)) (Fld.ne (own_fI ev_o_DATE nn19) (own_fI ev_o_DATE_OR_ZEROS nn23) (by simp)) (Fld.ne (own_fI ev_o_DATE nn19) (own_fI ev_o_TEXT nn25) (by simp)) (Fld.ne (own_fI ev_o_DATE nn19) (own_fI ev_o_POSTAL_CODE nn26) (by simp)) (Fld.ne (own_fI ev_o_NUMBER_OR_BLANK nn21) (own_fI ev_o_DATE_OR_ZEROS nn23) (by simp)) (Fld.ne (own_fI ev_o_NUMBER_OR_BLANK nn21) (own_fI ev_o_TEXT nn25) (by simp)) (Fld.ne (own_fI ev_o_NUMBER_OR_BLANK nn21) (own_fI ev_o_POSTAL_CODE nn26) (by simp)) (Fld.ne (own_fI ev_o_DATE_OR_ZEROS nn23) (own_fI ev_o_TEXT nn25) (by simp)) (Fld.ne (own_fI ev_o_DATE_OR_ZEROS nn23) (own_fI ev_o_POSTAL_CODE nn26) (by simp)) (Fld.ne (own_fI ev_o_TEXT nn25) (own_fI ev_o_POSTAL_CODE nn26) (by simp)) p e ha hc hk s m _ below hf ((Spec.applies_iff_loose hf).mp happ).1 ⟨rfl, State.Warmed39.refl s, rfl⟩ trivial
  refine ⟨n, _, h1, h2, h3, hpost _ _ _ _ _ _ ⟨Cond.after_iff.mpr rfl, Cond.after_iff.mpr (eq_i res_at (Term.int_eval (1)) rfl), trivial⟩ ⟨hq.1, hq.2.1, (hq.2.2.sift fun y hy => Or.inr (N y hy)).mono (by decide) (by decide)⟩⟩
theorem main_1_1 : Claimed_1_1 := comes_1 fun _ _ _ _ _ _ h hF => ⟨h.1, hF⟩
theorem main_1_2 : Claimed_1_2 := comes_1 fun _ _ _ _ _ _ h hF => ⟨h.2.1, hF⟩
end Jvm.Pilot.@@N@@
namespace Jvm.Pilot.@@N@@
open Jvm Jvm.ClassFile Sem Op Lib Jvm.Free Jvm.Stand Jvm.Pilot.@@N@@.Jvm.D
/-! MADE BY PROGRAM (witnessworld.py) out of the Statement's table words and the real class files: 15 classes; the members and pool entries that the words name. The judged class is class 1, her method 1. -/
namespace start1
open Jvm.ClassFile
def u (s : String) : CpInfo := .utf8 (stringToUtf16 s)
/-- a pool by its gaps: so many unusable entries, then the entry; so many at the end -/
def gap : Nat → List CpInfo → List CpInfo
  | 0, r => r
  | n + 1, r => .unusable :: gap n r
def poolList (es : List (Nat × CpInfo)) (last : Nat) : List CpInfo := es.foldr (fun e r => gap e.1 (e.2 :: r)) (gap last [])
def pool (es : List (Nat × CpInfo)) (last : Nat) : Array CpInfo := ⟨poolList es last⟩
def fileOf (pool : Array CpInfo) (this : Nat) (attrs : Array Attribute := #[]) (ms : Array MethodInfo := #[]) (fl : Nat := 33) (sup : Nat := 0) (ifs : Array Nat := #[]) (fds : Array FieldInfo := #[]) : ClassFile where
  minorVersion := 0
  majorVersion := 65
  constantPool := pool
  accessFlags := fl
  thisClass := this
  superClass := sup
  interfaces := ifs
  fields := fds
  methods := ms
  attributes := attrs
def plain (name : String) (sup : Option ClassId) : Class where
  name := name
  kind := .ordinary
  loader := none
  accessFlags := 33
  super := sup
  interfaces := #[]
  cf := none
  fields := #[]
  methods := #[]
  instanceTypes := #[]
  staticTypes := #[]
  resolved := #[]
  callSites := []
  init := .initialized
  statics := none
  mirror := none

def pool0 : Array CpInfo := pool [(5, u "<init>"), (0, u "()V"), (1, .class_ 10), (1, u "java/lang/Object")] 113

def k0m0 : Method := { name := "<init>", desc := "()V", sig := { parameters := [], returnType := none }, accessFlags := 1, code := none }
/-- java/lang/Object -/
def k0 : Class := { plain "java/lang/Object" none with
  accessFlags := 33
  interfaces := #[]
  cf := some (fileOf pool0 8 #[] #[{ accessFlags := 1, nameIndex := 5, descriptorIndex := 6, attributes := #[] }] 33 0 #[] #[])
  fields := #[]
  methods := #[k0m0]
  instanceTypes := #[]
  staticTypes := #[]
  resolved := Array.replicate 124 none
  statics := none }

def pool1 : Array CpInfo := pool [(2, .class_ 4), (1, u "java/lang/Object"), (0, u "<init>"), (0, u "()V"), (0, .class_ 8), (0, u "com/example/poukaz/poukaz/FieldKind"), (0, .fieldref 7 10), (0, .nameAndType 11 12), (0, u "NUMBER"), (0, u "Lcom/example/poukaz/poukaz/FieldKind;"), (0, .fieldref 7 14), (0, .nameAndType 15 12), (0, u "NUMBER_OR_BLANK"), (0, .fieldref 7 17), (0, .nameAndType 18 12), (0, u "DECIMAL"), (0, .fieldref 7 20), (0, .nameAndType 21 12), (0, u "DATE"), (0, .fieldref 7 23), (0, .nameAndType 24 12), (0, u "DATE_OR_ZEROS"), (0, .fieldref 7 26), (0, .nameAndType 27 12), (0, u "POSTAL_CODE"), (0, .fieldref 7 29), (0, .nameAndType 30 12), (0, u "TEXT"), (0, .long 10), (1, .long 100), (1, .long 1000), (1, .long 10000), (1, .long 100000), (1, .long 1000000), (1, .long 10000000), (1, .long 100000000), (1, .long 1000000000), (1, .long 10000000000), (1, .long 100000000000), (1, .long 1000000000000), (1, .long 10000000000000), (1, .long 100000000000000), (1, .long 1000000000000000), (1, .long 10000000000000000), (1, .long 100000000000000000), (1, .long 1000000000000000000), (1, .integer 2147483647), (0, .methodref 7 69), (0, .nameAndType 70 71), (0, u "largestNumber"), (0, u "(I)J"), (0, .class_ 73), (0, u "com/example/poukaz/poukaz/FieldKindLargestNumberPinLaw"), (2, u "law"), (0, u "(II)Z")] 7

def k1m0 : Method := { name := "<init>", desc := "()V", sig := { parameters := [], returnType := none }, accessFlags := 1, code := none }
def k1c1 : Code := { maxStack := 6, maxLocals := 7, code := code, exceptionTable := #[], attributes := #[] }
def k1m1 : Method := { name := "law", desc := "(II)Z", sig := { parameters := [.int, .int], returnType := some .boolean }, accessFlags := 9, code := some k1c1 }
/-- com/example/poukaz/poukaz/FieldKindLargestNumberPinLaw -/
def k1 : Class := { plain "com/example/poukaz/poukaz/FieldKindLargestNumberPinLaw" (some 0) with
  accessFlags := 49
  interfaces := #[]
  cf := some (fileOf pool1 72 #[] #[{ accessFlags := 1, nameIndex := 5, descriptorIndex := 6, attributes := #[] }, { accessFlags := 9, nameIndex := 76, descriptorIndex := 77, attributes := #[] }] 49 2 #[] #[])
  fields := #[]
  methods := #[k1m0, k1m1]
  instanceTypes := #[]
  staticTypes := #[]
  resolved := Array.replicate 85 none
  statics := none }

def pool2 : Array CpInfo := pool [(1, .class_ 2), (0, u "java/lang/constant/Constable"), (0, .class_ 4), (0, u "java/lang/Object")] 6

/-- java/lang/constant/Constable -/
def k2 : Class := { plain "java/lang/constant/Constable" (some 0) with
  accessFlags := 1537
  interfaces := #[]
  cf := some (fileOf pool2 1 #[] #[] 1537 3 #[] #[])
  fields := #[]
  methods := #[]
  instanceTypes := #[]
  staticTypes := #[]
  resolved := Array.replicate 11 none
  statics := none }

def pool3 : Array CpInfo := pool [(1, .class_ 2), (0, u "java/lang/Comparable"), (0, .class_ 4), (0, u "java/lang/Object")] 7

/-- java/lang/Comparable -/
def k3 : Class := { plain "java/lang/Comparable" (some 0) with
  accessFlags := 1537
  interfaces := #[]
  cf := some (fileOf pool3 1 #[] #[] 1537 3 #[] #[])
  fields := #[]
  methods := #[]
  instanceTypes := #[]
  staticTypes := #[]
  resolved := Array.replicate 12 none
  statics := none }

def pool4 : Array CpInfo := pool [(1, .class_ 2), (0, u "java/io/Serializable"), (0, .class_ 4), (0, u "java/lang/Object")] 2

/-- java/io/Serializable -/
def k4 : Class := { plain "java/io/Serializable" (some 0) with
  accessFlags := 1537
  interfaces := #[]
  cf := some (fileOf pool4 1 #[] #[] 1537 3 #[] #[])
  fields := #[]
  methods := #[]
  instanceTypes := #[]
  staticTypes := #[]
  resolved := Array.replicate 7 none
  statics := none }

def pool5 : Array CpInfo := pool [(2, .class_ 4), (1, u "java/lang/Enum"), (0, u "name"), (0, u "Ljava/lang/String;"), (2, u "ordinal"), (0, u "I"), (1, .class_ 14), (1, u "java/lang/Object"), (4, u "hash"), (86, .class_ 108), (1, u "java/lang/Enum$EnumDesc"), (2, .class_ 112), (0, u "java/lang/constant/Constable"), (0, .class_ 114), (0, u "java/lang/Comparable"), (0, .class_ 116), (0, u "java/io/Serializable")] 87

/-- java/lang/Enum -/
def k5 : Class := { plain "java/lang/Enum" (some 0) with
  accessFlags := 1057
  interfaces := #[2, 3, 4]
  cf := some (fileOf pool5 2 #[.nestMembers #[106]] #[] 1057 12 #[111, 113, 115] #[{ accessFlags := 18, nameIndex := 5, descriptorIndex := 6, attributes := #[] }, { accessFlags := 18, nameIndex := 9, descriptorIndex := 10, attributes := #[] }, { accessFlags := 2, nameIndex := 19, descriptorIndex := 10, attributes := #[] }])
  fields := #[{ name := "name", type := (.object "java/lang/String"), accessFlags := 18, slot := 0, constantValue := 0 }, { name := "ordinal", type := .int, accessFlags := 18, slot := 1, constantValue := 0 }, { name := "hash", type := .int, accessFlags := 2, slot := 2, constantValue := 0 }]
  methods := #[]
  instanceTypes := #[(.object "java/lang/String"), .int, .int]
  staticTypes := #[]
  resolved := Array.replicate 204 none
  statics := none }

def pool6 : Array CpInfo := pool [(1, .class_ 2), (0, u "com/example/poukaz/poukaz/FieldKind"), (2, u "NUMBER"), (0, u "Lcom/example/poukaz/poukaz/FieldKind;"), (2, u "NUMBER_OR_BLANK"), (0, .fieldref 1 11), (0, .nameAndType 12 6), (0, u "DECIMAL"), (2, u "DATE"), (2, u "DATE_OR_ZEROS"), (2, u "POSTAL_CODE"), (2, u "TEXT"), (2, u "$VALUES"), (0, u "[Lcom/example/poukaz/poukaz/FieldKind;"), (6, .class_ 37), (1, u "java/lang/Enum"), (103, .long 10), (1, .long 9), (129, u "DECIMALS"), (0, u "I"), (2, u "DECIMAL_DESCRIBED"), (0, u "Ljava/lang/String;"), (16, u "largestNumber"), (0, u "(I)J")] 39

def k6c0 : Code := { maxStack := 4, maxLocals := 6, code := prog_12_method_11_code, exceptionTable := #[], attributes := #[] }
def k6m0 : Method := { name := "largestNumber", desc := "(I)J", sig := { parameters := [.int], returnType := some .long }, accessFlags := 0, code := some k6c0 }
/-- com/example/poukaz/poukaz/FieldKind -/
def k6 : Class := { plain "com/example/poukaz/poukaz/FieldKind" (some 5) with
  accessFlags := 16433
  interfaces := #[]
  cf := some (fileOf pool6 1 #[] #[{ accessFlags := 0, nameIndex := 295, descriptorIndex := 296, attributes := #[] }] 16433 35 #[] #[{ accessFlags := 16409, nameIndex := 5, descriptorIndex := 6, attributes := #[] }, { accessFlags := 16409, nameIndex := 9, descriptorIndex := 6, attributes := #[] }, { accessFlags := 16409, nameIndex := 12, descriptorIndex := 6, attributes := #[] }, { accessFlags := 16409, nameIndex := 15, descriptorIndex := 6, attributes := #[] }, { accessFlags := 16409, nameIndex := 18, descriptorIndex := 6, attributes := #[] }, { accessFlags := 16409, nameIndex := 21, descriptorIndex := 6, attributes := #[] }, { accessFlags := 16409, nameIndex := 24, descriptorIndex := 6, attributes := #[] }, { accessFlags := 26, nameIndex := 273, descriptorIndex := 274, attributes := #[] }, { accessFlags := 26, nameIndex := 277, descriptorIndex := 278, attributes := #[] }, { accessFlags := 4122, nameIndex := 27, descriptorIndex := 28, attributes := #[] }])
  fields := #[{ name := "NUMBER", type := (.object "com/example/poukaz/poukaz/FieldKind"), accessFlags := 16409, slot := 0, constantValue := 0 }, { name := "NUMBER_OR_BLANK", type := (.object "com/example/poukaz/poukaz/FieldKind"), accessFlags := 16409, slot := 1, constantValue := 0 }, { name := "DECIMAL", type := (.object "com/example/poukaz/poukaz/FieldKind"), accessFlags := 16409, slot := 2, constantValue := 0 }, { name := "DATE", type := (.object "com/example/poukaz/poukaz/FieldKind"), accessFlags := 16409, slot := 3, constantValue := 0 }, { name := "DATE_OR_ZEROS", type := (.object "com/example/poukaz/poukaz/FieldKind"), accessFlags := 16409, slot := 4, constantValue := 0 }, { name := "POSTAL_CODE", type := (.object "com/example/poukaz/poukaz/FieldKind"), accessFlags := 16409, slot := 5, constantValue := 0 }, { name := "TEXT", type := (.object "com/example/poukaz/poukaz/FieldKind"), accessFlags := 16409, slot := 6, constantValue := 0 }, { name := "DECIMALS", type := .int, accessFlags := 26, slot := 7, constantValue := 0 }, { name := "DECIMAL_DESCRIBED", type := (.object "java/lang/String"), accessFlags := 26, slot := 8, constantValue := 0 }, { name := "$VALUES", type := (.array (.object "com/example/poukaz/poukaz/FieldKind")), accessFlags := 4122, slot := 9, constantValue := 0 }]
  methods := #[k6m0]
  instanceTypes := #[(.object "java/lang/String"), .int, .int]
  staticTypes := #[(.object "com/example/poukaz/poukaz/FieldKind"), (.object "com/example/poukaz/poukaz/FieldKind"), (.object "com/example/poukaz/poukaz/FieldKind"), (.object "com/example/poukaz/poukaz/FieldKind"), (.object "com/example/poukaz/poukaz/FieldKind"), (.object "com/example/poukaz/poukaz/FieldKind"), (.object "com/example/poukaz/poukaz/FieldKind"), .int, (.object "java/lang/String"), (.array (.object "com/example/poukaz/poukaz/FieldKind"))]
  resolved := Array.replicate 336 none
  statics := some 0 }

def pool7 : Array CpInfo := pool [(1, u "java/lang/Cloneable"), (0, .class_ 1), (0, u "java/lang/Object"), (0, .class_ 3)] 3

/-- java/lang/Cloneable -/
def k7 : Class := { plain "java/lang/Cloneable" (some 0) with
  accessFlags := 1537
  interfaces := #[]
  cf := some (fileOf pool7 2 #[] #[] 1537 4 #[] #[])
  fields := #[]
  methods := #[]
  instanceTypes := #[]
  staticTypes := #[]
  resolved := Array.replicate 8 none
  statics := none }

/-- the primitive byte -/
def k8 : Class := { plain "byte" none with kind := .primitive 'B', accessFlags := 0x411 }
/-- [B -/
def k9 : Class := { plain "[B" (some 0) with kind := .array 8 .byte, interfaces := #[7, 4], accessFlags := 1041 }

/-- the primitive int -/
def k10 : Class := { plain "int" none with kind := .primitive 'I', accessFlags := 0x411 }
/-- [I -/
def k11 : Class := { plain "[I" (some 0) with kind := .array 10 .int, interfaces := #[7, 4], accessFlags := 1041 }

/-- the primitive long -/
def k12 : Class := { plain "long" none with kind := .primitive 'J', accessFlags := 0x411 }
/-- [J -/
def k13 : Class := { plain "[J" (some 0) with kind := .array 12 .long, interfaces := #[7, 4], accessFlags := 1041 }

/-- [Lcom/example/poukaz/poukaz/FieldKind; -/
def k14 : Class := { plain "[Lcom/example/poukaz/poukaz/FieldKind;" (some 0) with kind := .array 6 (.object "com/example/poukaz/poukaz/FieldKind"), interfaces := #[7, 4], accessFlags := 1041 }

def heap : Heap := #[{ cls := 6, slots := #[.ref 1, .ref 2, .ref 3, .ref 4, .ref 5, .ref 6, .ref 7, .int 0, .null, .null], vm := .statics 6 },
  { cls := 6, slots := #[.null, .int 0, .int 0], vm := .none },
  { cls := 6, slots := #[.null, .int 1, .int 0], vm := .none },
  { cls := 6, slots := #[.null, .int 2, .int 0], vm := .none },
  { cls := 6, slots := #[.null, .int 3, .int 0], vm := .none },
  { cls := 6, slots := #[.null, .int 4, .int 0], vm := .none },
  { cls := 6, slots := #[.null, .int 5, .int 0], vm := .none },
  { cls := 6, slots := #[.null, .int 6, .int 0], vm := .none }]
def classes : Array Class := #[k0, k1, k2, k3, k4, k5, k6, k7, k8, k9, k10, k11, k12, k13, k14]
def interned : List (Array UInt16 × Addr) := []
def slotsUsed : Nat := 31
def theMethod : MethodId := ⟨1, 1⟩
def args0 : Array Value := #[.int 5, .int 6]
def aboutOver (below : List Frame) : State where
  vm := { classes := classes, interned := interned.toArray }
  heap := heap
  slotsUsed := slotsUsed
  threads := #[{ frames := .invoking theMethod args0 :: below }]
def below0 : List Frame := [.native { method := ⟨0, 0⟩, args := #[] }]
def about1 : State := aboutOver below0
def p0 : Program := .bare "" "" ""
def e0 : Env := launch0.env 0 0 0
theorem w_frames : about1.frames = Frame.invoking theMethod args0 :: below0 := rfl
set_option maxRecDepth 65536 in
theorem w_args : argsFit about1.vm theMethod args0 = true := by decide +kernel
set_option maxRecDepth 65536 in
theorem w_heap : heapFits about1 = true := by decide +kernel
set_option maxRecDepth 65536 in
theorem w_runnable : about1.curStatus? = some .runnable := by decide +kernel
set_option maxRecDepth 65536 in
theorem w_alone : about1.alone = true := by decide +kernel
set_option maxRecDepth 65536 in
theorem w_named : about1.methodNamed? x = some theMethod := by decide +kernel
set_option maxRecDepth 65536 in
theorem w_hears : about1.hears theMethod below0 = true := by decide +kernel
set_option maxRecDepth 65536 in
theorem w_ripe : about1.ripe theMethod args0 below0 = true := by decide +kernel
theorem w_running : about1.status = .running := rfl
set_option maxRecDepth 65536 in
theorem w_room : about1.hasRoom e0.platform room_1 = true :=
  launch0.hasRoom_least _ room_1 (by decide +kernel) (by decide +kernel) (by decide +kernel) (by decide +kernel) (by decide +kernel) (by decide +kernel)
theorem allAtoms_all (ts : List Jvm.Cond) (a : Array Jvm.Value) (st : Jvm.State) : (allAtoms ts).before a st = ts.all (fun c => c.before a st) := by
  induction ts with
  | nil => rfl
  | cons c t ih =>
    show (Jvm.Cond.and c (allAtoms t)).before a st = _
    rw [Jvm.Cond.before_and, ih, List.all_cons]
def words1 : List Jvm.Cond := Jvm.Cond.code x code maxLocals ret :: tables_1
/-- a 'code' word, met by the world's own term for the bytes: nothing is compared byte by byte -/
theorem code_word {y : MethodName} {bytes : ByteArray} {mx : Nat} {rt : Option FieldType} {a : Array Value} {s : State} {m : MethodId} {meth : Method} {c : Code} (h1 : s.methodNamed? y = some m) (h2 : s.vm.method? m = some meth) (h3 : meth.code = some c) (h4 : c.code = bytes)
    (h5 : (c.maxLocals == mx && c.exceptionTable.isEmpty && decide (c.maxStack ≤ mostOperands) && decide (meth.sig.returnType = rt) && !meth.locks && decide (parseMethodDescriptor y.desc = some meth.sig)) = true) : (Jvm.Cond.code y bytes mx rt).before a s = true := by
  simp only [Bool.and_eq_true, beq_iff_eq, Bool.not_eq_true', decide_eq_true_eq] at h5
  obtain ⟨⟨⟨⟨⟨g1, g2⟩, g3⟩, g4⟩, g5⟩, g6⟩ := h5
  simp [Cond.before, Cond.holds, Cond.value, h1, h2, h3, h4, g1, g2, g3, g4, g5, g6]
def isCode : Jvm.Cond → Bool
  | .code _ _ _ _ => true
  | _ => false
theorem all_split {L : List Jvm.Cond} {P : Jvm.Cond → Bool} (h1 : L.all (fun c => isCode c || P c) = true) (h2 : ∀ c ∈ L.filter isCode, P c = true) : L.all P = true := by
  refine List.all_eq_true.mpr fun c hc => ?_
  have h := List.all_eq_true.mp h1 c hc
  rcases Bool.eq_false_or_eq_true (isCode c) with hi | hi
  · exact h2 c (List.mem_filter.mpr ⟨hc, hi⟩)
  · simpa [hi] using h
set_option maxRecDepth 65536 in
theorem w_c0 : (Jvm.Cond.code x code maxLocals ret).before args0 about1 = true := code_word (m := ⟨1, 1⟩) (meth := k1m1) (c := k1c1) (by decide +kernel) rfl rfl rfl (by decide +kernel)
set_option maxRecDepth 65536 in
theorem w_c1 : (Jvm.Cond.code ({ cls := "com/example/poukaz/poukaz/FieldKind", name := "largestNumber", desc := "(I)J" } : Jvm.MethodName) prog_12_method_11_code (6 : Nat) (Option.some Jvm.ClassFile.FieldType.long)).before args0 about1 = true := code_word (m := ⟨6, 0⟩) (meth := k6m0) (c := k6c0) (by decide +kernel) rfl rfl rfl (by decide +kernel)
def codes1 : List Jvm.Cond := [Jvm.Cond.code x code maxLocals ret, Jvm.Cond.code ({ cls := "com/example/poukaz/poukaz/FieldKind", name := "largestNumber", desc := "(I)J" } : Jvm.MethodName) prog_12_method_11_code (6 : Nat) (Option.some Jvm.ClassFile.FieldType.long)]
set_option maxRecDepth 65536 in
theorem codes_eq : words1.filter isCode = codes1 := rfl
theorem w_codes : ∀ c ∈ words1.filter isCode, c.before args0 about1 = true := by
  rw [codes_eq]
  intro c hc
  simp only [codes1, List.mem_cons, List.not_mem_nil, or_false] at hc
  rcases hc with rfl | rfl
  · exact w_c0
  · exact w_c1
set_option maxRecDepth 65536 in
theorem w_t1 : (words1.take 24).all (fun c => isCode c || c.before args0 about1) = true := by decide +kernel
set_option maxRecDepth 65536 in
theorem w_t2 : (words1.drop 24).all (fun c => isCode c || c.before args0 about1) = true := by decide +kernel
theorem w_tables : (allAtoms (Jvm.Cond.code x code maxLocals ret :: tables_1)).before args0 about1 = true := by
  rw [allAtoms_all]
  show words1.all (fun c => c.before args0 about1) = true
  refine all_split ?_ w_codes
  rw [← List.take_append_drop 24 words1, List.all_append, w_t1, w_t2]
  rfl
set_option maxRecDepth 65536 in
theorem w_case : (Jvm.Cond.and given_1 narrow_1).before args0 about1 = true := by decide +kernel
theorem w_applies : (headSpec (Jvm.Cond.code x code maxLocals ret :: tables_1) room_1).applies x e0.platform about1 = true :=
  (Spec.applies_iff w_frames).mpr ⟨w_running, w_runnable, w_alone, w_named, w_hears, w_ripe, w_room, w_tables⟩
theorem atStart : AtStart classFile x code maxLocals ret World_1 tables_1 room_1 Calls_1 rest_1 Pre_1 launch0 p0 e0 about1 theMethod args0 below0 :=
  ⟨lists_1, trivial, launch0.admits_env _ _ _, launch0.least_env, fairChoices_fair.cas, fairChoices_fair.clock, w_frames, w_args, w_heap, w_applies, trivial, trivial, w_case⟩
end start1
theorem witness_1 : WitnessClaimed_1 := ⟨start1.p0, start1.e0, start1.about1, start1.theMethod, start1.args0, start1.below0, start1.atStart⟩
end Jvm.Pilot.@@N@@
