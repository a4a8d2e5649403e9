import JvmDerived
import JvmDerived.Pilot.@@N@@Statement
import JvmDerived.Pilot.@@N@@Code
set_option linter.unusedVariables false
set_option linter.unusedSimpArgs false
namespace Jvm.RoadKit
open Sem ClassFile Op Lib Jvm.Stand Jvm.Free Jvm.LawKit
section New
variable {p : Program} {l : Launch} {e : Env} {R : Room} {s : State} {m : MethodId} {args : Array Value} {below : List Frame} {meth : Method} {c : Code} {T : State} {locs : List Loc} {cells slots : Nat}
theorem retI (X : Stand p l e R s m args below meth c T locs cells slots) (hx : p.tables.exec = Jvm.exec) {pc : Nat} {Ls : Array Slot} {z : Int32} {rest : List Value} (hret : meth.sig.returnType = some .int) (hd : decode c.code pc = .ok (.ireturn, 1)) {fs : List Frame}
    (hl : ∀ (f : JFrame) (acts : List Action), f.method = m → f.locked = none → f.entered = [] → (doReturn e (T.setTop f) acts (some (.int z))).1 = T.setFrames fs) : Steps p.tables e below (T.setTop (mkF m pc Ls (.int z :: rest))) (T.setFrames fs) := by
  have hm' : T.vm.method? m = some meth := X.method'
  have hn : narrow .int (.int z) = .int z := rfl
  show Steps p.tables e below (T.setTop { method := m, pc := pc, locals := Ls, stack := _ :: rest, locked := none }) _
  jvm_step X.here [X.here.top, hx, hd, hm', hret, hn]
  first | (intro acts; rw [hl _ acts rfl rfl rfl]) | rw [hl _ _ rfl rfl rfl]
  exact Steps.refl _
end New
end Jvm.RoadKit
namespace Jvm.Pilot.@@N@@
open Jvm Jvm.ClassFile Sem Op Lib Jvm.Free Jvm.Stand Jvm.LawKit Jvm.RoadKit Bundle Jvm.Pilot.@@N@@.Jvm.D
-- from the state st the run ends, and Q holds of what it leaves
def GoalS (tb : Tables) (e : Env) (below : List Frame) (s : State) (kc ks : Nat) (Q : Option Value → Heap → List Loc → Prop) (st : State) : Prop :=
  ∃ s₂ o, Steps tb e below st s₂ ∧ s₂.status = .running ∧ Ended s₂ below o ∧ ∃ v L, o = .returned v ∧ Q v s₂.heap L ∧ FrameEnd s o s₂ L kc ks
theorem GoalS.lift {tb : Tables} {e : Env} {below : List Frame} {s : State} {kc ks : Nat} {Q : Option Value → Heap → List Loc → Prop} {A B : State}
    (h : ∀ t, Steps tb e below B t → Steps tb e below A t) (g : GoalS tb e below s kc ks Q B) : GoalS tb e below s kc ks Q A := by
  obtain ⟨s₂, o, h1, h2⟩ := g
  exact ⟨s₂, o, h _ h1, h2⟩
-- an array of n places of which place i holds f i
def AV (Z : State) (h : Heap) (a : Addr) (k : ClassId) (ty : FieldType) (n : Nat) (f : Nat → Value) : Prop := ∃ c : Cell, Arr Z h a c ty ∧ c.cls = k ∧ c.slots.size = n ∧ n < 2147483648 ∧ ∀ i, i < n → c.slots[i]? = some (f i)
def updI (f : Nat → Int32) (j : Nat) (v : Int32) : Nat → Int32 := fun i => if i = j then v else f i
def updJ (f : Nat → Int64) (j : Nat) (v : Int64) : Nat → Int64 := fun i => if i = j then v else f i
def updR (f : Nat → Value) (j : Nat) (v : Value) : Nat → Value := fun i => if i = j then v else f i
section Own
variable {Z : State} {h h' : Heap} {a b : Addr} {k : ClassId} {ty : FieldType} {n : Nat} {f g : Nat → Value} {ws : List Addr} {v : Value} {sl : Nat}
theorem AV.lt (F : AV Z h a k ty n f) : a < h.size := by obtain ⟨c, A, -⟩ := F; exact A.lt
theorem AV.ext (F : AV Z h a k ty n f) (E : Ext h h') : AV Z h' a k ty n f := by obtain ⟨c, A, r⟩ := F; exact ⟨c, A.ext E, r⟩
theorem AV.other (F : AV Z h b k ty n f) (W : Wr h h' a sl v) (q : b ≠ a) : AV Z h' b k ty n f := by obtain ⟨c, A, r⟩ := F; exact ⟨c, A.other W q, r⟩
theorem AV.keep (F : AV Z h a k ty n f) (K : Keep h h' ws) (q : a ∉ ws) : AV Z h' a k ty n f := by obtain ⟨c, A, r⟩ := F; exact ⟨c, ⟨K.2.1 a c A.1 q, A.2⟩, r⟩
theorem AV.new {z : Int32} (A : Arr Z h a (newA k ty z) ty) (q : ¬ z < 0) (hn : z.toNatClampNeg = n) (hb : n < 2147483648) : AV Z h a k ty n (fun _ => defaultValue ty) :=
  ⟨_, A, rfl, (sz_new _ _ _).trans hn, hb, fun i hi => by simp [newA, hn, hi]⟩
theorem AV.inb {c : Cell} {j : Int32} (S : c.slots.size = n) (q : ¬ j < 0 ∧ j.toNatClampNeg < n) : ¬ (j < 0 ∨ c.slots.size ≤ j.toNatClampNeg) := fun u => u.elim q.1 fun w => by omega
theorem AV.inx {j : Int32} (q : ¬ j < 0 ∧ j.toNatClampNeg < n) : j.toNatClampNeg < n := q.2
theorem AV.conv (F : AV Z h a k ty n f) (e : ∀ i, i < n → f i = g i) : AV Z h a k ty n g := by
  obtain ⟨c, A, r1, r2, r3, r4⟩ := F; exact ⟨c, A, r1, r2, r3, fun i hi => (r4 i hi).trans (congrArg some (e i hi))⟩
theorem AV.putR {j : Nat} (F : AV Z h a k ty n f) (W : Wr h h' a j v) (hj : j < n) : AV Z h' a k ty n (updR f j v) := by
  obtain ⟨c, A, r1, r2, r3, r4⟩ := F
  refine ⟨_, A.same W, r1, (sz_set _ _ _).trans r2, r3, fun i hi => ?_⟩
  by_cases q : i = j
  · subst q; simp [Cell.setSlot, updR, r2, hi]
  · have q' : j ≠ i := fun u => q u.symm
    simp only [Cell.setSlot, updR, if_neg q]; rw [Array.getElem?_setIfInBounds_ne q']; exact r4 i hi
theorem AV.putI {j : Nat} {f : Nat → Int32} {v : Int32} (F : AV Z h a k ty n (fun i => Value.int (f i))) (W : Wr h h' a j (.int v)) (hj : j < n) : AV Z h' a k ty n (fun i => Value.int (updI f j v i)) :=
  (F.putR W hj).conv fun i _ => by simp only [updR, updI]; split <;> rfl
theorem AV.putJ {j : Nat} {f : Nat → Int64} {v : Int64} (F : AV Z h a k ty n (fun i => Value.long (f i))) (W : Wr h h' a j (.long v)) (hj : j < n) : AV Z h' a k ty n (fun i => Value.long (updJ f j v i)) :=
  (F.putR W hj).conv fun i _ => by simp only [updR, updJ]; split <;> rfl
end Own


theorem own_fI {args : Array Value} {s : State} {t : Term} {x : Addr} {C n dd : String} {k : Int32} (ht : t.eval args s none [] s = some (.ref x)) (h : (Cond.eq (Term.field t C n dd) (Term.int k)).value args s none s [] = some true) : Fld s s.heap x C n dd (.int k) := by
  apply Fld.start
  rw [← fld_at (C := C) (n := n) (dd := dd) ht]
  obtain ⟨u, w, e1, e2, k1, k2⟩ := cmp_v (Or.inl h)
  have e3 : w = .int k := (Option.some.inj ((Term.int_eval k).symm.trans e2)).symm
  subst e3
  obtain ⟨z, rfl⟩ := k2
  have : z = k := by simpa [Cond.value, e1, e2] using h
  rw [e1, this]
theorem own_fN {args : Array Value} {s : State} {t : Term} {x : Addr} {C n dd : String} (ht : t.eval args s none [] s = some (.ref x)) (h : (Cond.eq (Term.field t C n dd) Term.null).value args s none s [] = some true) : Fld s s.heap x C n dd .null := by
  apply Fld.start
  rw [← fld_at (C := C) (n := n) (dd := dd) ht]
  exact null_v h
theorem own_fR {args : Array Value} {s : State} {t t2 : Term} {x y : Addr} {C n dd : String} (ht : t.eval args s none [] s = some (.ref x)) (ht2 : t2.eval args s none [] s = some (.ref y)) (h : (Cond.eq (Term.field t C n dd) t2).value args s none s [] = some true) : Fld s s.heap x C n dd (.ref y) := by
  apply Fld.start
  rw [← fld_at (C := C) (n := n) (dd := dd) ht]
  obtain ⟨u, w, e1, e2, k1, k2⟩ := cmp_v (Or.inl h)
  have e3 : w = .ref y := (Option.some.inj (ht2.symm.trans e2)).symm
  subst e3
  have hu : u.isRef = true := k2.2
  rw [e1]
  exact congrArg some (gotT (eq_R e1 e2 hu rfl) h)

theorem own_ten (x : Int32) : ((x &&& (2147483647 : Int32)) % (10 : Int32)) = (0 : Int32) ∨ ((x &&& (2147483647 : Int32)) % (10 : Int32)) = (1 : Int32) ∨ ((x &&& (2147483647 : Int32)) % (10 : Int32)) = (2 : Int32) ∨ ((x &&& (2147483647 : Int32)) % (10 : Int32)) = (3 : Int32) ∨ ((x &&& (2147483647 : Int32)) % (10 : Int32)) = (4 : Int32) ∨ ((x &&& (2147483647 : Int32)) % (10 : Int32)) = (5 : Int32) ∨ ((x &&& (2147483647 : Int32)) % (10 : Int32)) = (6 : Int32) ∨ ((x &&& (2147483647 : Int32)) % (10 : Int32)) = (7 : Int32) ∨ ((x &&& (2147483647 : Int32)) % (10 : Int32)) = (8 : Int32) ∨ ((x &&& (2147483647 : Int32)) % (10 : Int32)) = (9 : Int32) := by
  have h1 : 0 ≤ (x &&& (2147483647 : Int32)).toInt := (c_andS x (2147483647 : Int32)).2.2 (by decide)
  have h2 : ((x &&& (2147483647 : Int32)) % (10 : Int32)).toInt = (x &&& (2147483647 : Int32)).toInt % 10 := (c_irem _ (10 : Int32) 10 rfl).1 h1
  have k : ∀ (n : Int) (y : Int32), y.toInt = n → ((x &&& (2147483647 : Int32)) % (10 : Int32)).toInt = n → ((x &&& (2147483647 : Int32)) % (10 : Int32)) = y := fun n y q r => Int32.toInt_inj.mp (r.trans q.symm)
  rcases (show ((x &&& (2147483647 : Int32)) % (10 : Int32)).toInt = 0 ∨ ((x &&& (2147483647 : Int32)) % (10 : Int32)).toInt = 1 ∨ ((x &&& (2147483647 : Int32)) % (10 : Int32)).toInt = 2 ∨ ((x &&& (2147483647 : Int32)) % (10 : Int32)).toInt = 3 ∨ ((x &&& (2147483647 : Int32)) % (10 : Int32)).toInt = 4 ∨ ((x &&& (2147483647 : Int32)) % (10 : Int32)).toInt = 5 ∨ ((x &&& (2147483647 : Int32)) % (10 : Int32)).toInt = 6 ∨ ((x &&& (2147483647 : Int32)) % (10 : Int32)).toInt = 7 ∨ ((x &&& (2147483647 : Int32)) % (10 : Int32)).toInt = 8 ∨ ((x &&& (2147483647 : Int32)) % (10 : Int32)).toInt = 9 by omega) with q | q | q | q | q | q | q | q | q | q
  · exact Or.inl (k 0 0 rfl q)
  · exact Or.inr (Or.inl (k 1 1 rfl q))
  · exact Or.inr (Or.inr (Or.inl (k 2 2 rfl q)))
  · exact Or.inr (Or.inr (Or.inr (Or.inl (k 3 3 rfl q))))
  · exact Or.inr (Or.inr (Or.inr (Or.inr (Or.inl (k 4 4 rfl q)))))
  · exact Or.inr (Or.inr (Or.inr (Or.inr (Or.inr (Or.inl (k 5 5 rfl q))))))
  · exact Or.inr (Or.inr (Or.inr (Or.inr (Or.inr (Or.inr (Or.inl (k 6 6 rfl q)))))))
  · exact Or.inr (Or.inr (Or.inr (Or.inr (Or.inr (Or.inr (Or.inr (Or.inl (k 7 7 rfl q))))))))
  · exact Or.inr (Or.inr (Or.inr (Or.inr (Or.inr (Or.inr (Or.inr (Or.inr (Or.inl (k 8 8 rfl q)))))))))
  · exact Or.inr (Or.inr (Or.inr (Or.inr (Or.inr (Or.inr (Or.inr (Or.inr (Or.inr ((k 9 9 rfl q))))))))))
theorem own_e0 (x : Int32) : (if x < (0 : Int32) then (0 : Int32) else (if (0 : Int32) < x then (0 : Int32) else (1 : Int32))) = (if x = (0 : Int32) then (1 : Int32) else (0 : Int32)) := by
  have e : (0 : Int32).toInt = 0 := rfl
  simp only [Int32.lt_iff_toInt_lt, ← Int32.toInt_inj]
  split <;> (try split) <;> (try split) <;> first | rfl | (exfalso; omega)
theorem own_e1 (x : Int32) : (if x < (1 : Int32) then (0 : Int32) else (if (1 : Int32) < x then (0 : Int32) else (1 : Int32))) = (if x = (1 : Int32) then (1 : Int32) else (0 : Int32)) := by
  have e : (1 : Int32).toInt = 1 := rfl
  simp only [Int32.lt_iff_toInt_lt, ← Int32.toInt_inj]
  split <;> (try split) <;> (try split) <;> first | rfl | (exfalso; omega)
theorem own_e9 (x : Int32) : (if x < (2 : Int32) then (0 : Int32) else (if (2 : Int32) < x then (0 : Int32) else (1 : Int32))) = (if x = (2 : Int32) then (1 : Int32) else (0 : Int32)) := by
  have e : (2 : Int32).toInt = 2 := rfl
  simp only [Int32.lt_iff_toInt_lt, ← Int32.toInt_inj]
  split <;> (try split) <;> (try split) <;> first | rfl | (exfalso; omega)
theorem own_e2 (x : Int32) : (if x < (2 : Int32) then (0 : Int32) else (if (2147483647 : Int32) < x then (0 : Int32) else (1 : Int32))) = (if x < (2 : Int32) then (0 : Int32) else (1 : Int32)) := by
  have e : (2147483647 : Int32).toInt = 2147483647 := rfl
  have h := x.toInt_lt
  rw [if_neg (show ¬ (2147483647 : Int32) < x by rw [Int32.lt_iff_toInt_lt]; omega)]

theorem d1_0 : decode method_2_code 0 = .ok (.iload_n 0, 1) := by decide +kernel
theorem d1_1 : decode method_2_code 1 = .ok (.ifCond .ne 7, 3) := by decide +kernel
theorem d1_4 : decode method_2_code 4 = .ok (.getstatic 7, 3) := by decide +kernel
theorem d1_7 : decode method_2_code 7 = .ok (.areturn, 1) := by decide +kernel
theorem d1_8 : decode method_2_code 8 = .ok (.iload_n 0, 1) := by decide +kernel
theorem d1_9 : decode method_2_code 9 = .ok (.iconst 1, 1) := by decide +kernel
theorem d1_10 : decode method_2_code 10 = .ok (.if_icmp .ne 7, 3) := by decide +kernel
theorem d1_13 : decode method_2_code 13 = .ok (.getstatic 13, 3) := by decide +kernel
theorem d1_16 : decode method_2_code 16 = .ok (.areturn, 1) := by decide +kernel
theorem d1_17 : decode method_2_code 17 = .ok (.iload_n 0, 1) := by decide +kernel
theorem d1_18 : decode method_2_code 18 = .ok (.iconst 2, 1) := by decide +kernel
theorem d1_19 : decode method_2_code 19 = .ok (.if_icmp .ne 7, 3) := by decide +kernel
theorem d1_22 : decode method_2_code 22 = .ok (.getstatic 16, 3) := by decide +kernel
theorem d1_25 : decode method_2_code 25 = .ok (.areturn, 1) := by decide +kernel
theorem d1_26 : decode method_2_code 26 = .ok (.iload_n 0, 1) := by decide +kernel
theorem d1_27 : decode method_2_code 27 = .ok (.iconst 3, 1) := by decide +kernel
theorem d1_28 : decode method_2_code 28 = .ok (.if_icmp .ne 7, 3) := by decide +kernel
theorem d1_31 : decode method_2_code 31 = .ok (.getstatic 19, 3) := by decide +kernel
theorem d1_34 : decode method_2_code 34 = .ok (.areturn, 1) := by decide +kernel
theorem d1_35 : decode method_2_code 35 = .ok (.iload_n 0, 1) := by decide +kernel
theorem d1_36 : decode method_2_code 36 = .ok (.iconst 4, 1) := by decide +kernel
theorem d1_37 : decode method_2_code 37 = .ok (.if_icmp .ne 7, 3) := by decide +kernel
theorem d1_40 : decode method_2_code 40 = .ok (.getstatic 22, 3) := by decide +kernel
theorem d1_43 : decode method_2_code 43 = .ok (.areturn, 1) := by decide +kernel
theorem d1_44 : decode method_2_code 44 = .ok (.iload_n 0, 1) := by decide +kernel
theorem d1_45 : decode method_2_code 45 = .ok (.iconst 5, 1) := by decide +kernel
theorem d1_46 : decode method_2_code 46 = .ok (.if_icmp .ne 7, 3) := by decide +kernel
theorem d1_49 : decode method_2_code 49 = .ok (.getstatic 25, 3) := by decide +kernel
theorem d1_52 : decode method_2_code 52 = .ok (.areturn, 1) := by decide +kernel
theorem d1_53 : decode method_2_code 53 = .ok (.iload_n 0, 1) := by decide +kernel
theorem d1_54 : decode method_2_code 54 = .ok (.bipush 6, 2) := by decide +kernel
theorem d1_56 : decode method_2_code 56 = .ok (.if_icmp .ne 7, 3) := by decide +kernel
theorem d1_59 : decode method_2_code 59 = .ok (.getstatic 28, 3) := by decide +kernel
theorem d1_62 : decode method_2_code 62 = .ok (.areturn, 1) := by decide +kernel
theorem d1_63 : decode method_2_code 63 = .ok (.iload_n 0, 1) := by decide +kernel
theorem d1_64 : decode method_2_code 64 = .ok (.bipush 7, 2) := by decide +kernel
theorem d1_66 : decode method_2_code 66 = .ok (.if_icmp .ne 7, 3) := by decide +kernel
theorem d1_69 : decode method_2_code 69 = .ok (.getstatic 31, 3) := by decide +kernel
theorem d1_72 : decode method_2_code 72 = .ok (.areturn, 1) := by decide +kernel
theorem d1_73 : decode method_2_code 73 = .ok (.iload_n 0, 1) := by decide +kernel
theorem d1_74 : decode method_2_code 74 = .ok (.bipush 8, 2) := by decide +kernel
theorem d1_76 : decode method_2_code 76 = .ok (.if_icmp .ne 7, 3) := by decide +kernel
theorem d1_79 : decode method_2_code 79 = .ok (.getstatic 34, 3) := by decide +kernel
theorem d1_82 : decode method_2_code 82 = .ok (.areturn, 1) := by decide +kernel
theorem d1_83 : decode method_2_code 83 = .ok (.getstatic 37, 3) := by decide +kernel
theorem d1_86 : decode method_2_code 86 = .ok (.areturn, 1) := by decide +kernel
theorem pn_0 : plainName "com/example/always_over_paths/alwaysoverpaths/property/KindTakesPinLaw" = true := by first | (simp [plainName, overriddenIn]; done) | decide +kernel
theorem ef_rm1 (m : MethodId) (p1 : Int32) : entryFrame m #[(.int p1)] 1 = mkF m 0 #[.val (.int p1)] [] := by first | (simp [entryFrame, mkF, argsToLocals, Value.category]; done) | rfl
def Q1 (Z : State) (p1 : Int32) (o_ATOM : Addr) (o_NEGATION : Addr) (o_ALL_PATHS : Addr) (o_EXISTS_PATH : Addr) (o_GLOBALLY : Addr) (o_DISJUNCTION : Addr) (o_NEXT : Addr) (o_FINALLY : Addr) (o_UNTIL : Addr) (o_CONJUNCTION : Addr) (h0 : Heap) (n0 : Nat) (v : Option Value) (h : Heap) (L : List Loc) : Prop := ∃ r : Addr, v = some (.ref r) ∧ r = (if p1 = (0 : Int32) then o_ATOM else (if p1 = (1 : Int32) then o_NEGATION else (if p1 = (2 : Int32) then o_CONJUNCTION else (if p1 = (3 : Int32) then o_DISJUNCTION else (if p1 = (4 : Int32) then o_ALL_PATHS else (if p1 = (5 : Int32) then o_EXISTS_PATH else (if p1 = (6 : Int32) then o_NEXT else (if p1 = (7 : Int32) then o_FINALLY else (if p1 = (8 : Int32) then o_GLOBALLY else o_UNTIL))))))))) ∧ Fr n0 L ∧ h = h0
set_option maxRecDepth 65536 in
set_option maxHeartbeats 40000000 in
theorem rm1 (l : Launch) (Z : State) (a0 : Array Value) (hw : ∀ d ∈ tables_1, d.before a0 Z = true) (ws : List Jvm.Cond) (p1 : Int32) (o_ATOM : Addr) (o_NEGATION : Addr) (o_ALL_PATHS : Addr) (o_EXISTS_PATH : Addr) (o_GLOBALLY : Addr) (o_DISJUNCTION : Addr) (o_NEXT : Addr) (o_FINALLY : Addr) (o_UNTIL : Addr) (o_CONJUNCTION : Addr) (h0 : Heap) (n0 : Nat) (Z0 : n0 ≤ h0.size) (S_ATOM : Sta Z h0 "com/example/always_over_paths/alwaysoverpaths/property/Formula$Kind" "ATOM" "Lcom/example/always_over_paths/alwaysoverpaths/property/Formula$Kind;" (.ref o_ATOM)) (S_NEGATION : Sta Z h0 "com/example/always_over_paths/alwaysoverpaths/property/Formula$Kind" "NEGATION" "Lcom/example/always_over_paths/alwaysoverpaths/property/Formula$Kind;" (.ref o_NEGATION)) (S_ALL_PATHS : Sta Z h0 "com/example/always_over_paths/alwaysoverpaths/property/Formula$Kind" "ALL_PATHS" "Lcom/example/always_over_paths/alwaysoverpaths/property/Formula$Kind;" (.ref o_ALL_PATHS)) (S_EXISTS_PATH : Sta Z h0 "com/example/always_over_paths/alwaysoverpaths/property/Formula$Kind" "EXISTS_PATH" "Lcom/example/always_over_paths/alwaysoverpaths/property/Formula$Kind;" (.ref o_EXISTS_PATH)) (S_GLOBALLY : Sta Z h0 "com/example/always_over_paths/alwaysoverpaths/property/Formula$Kind" "GLOBALLY" "Lcom/example/always_over_paths/alwaysoverpaths/property/Formula$Kind;" (.ref o_GLOBALLY)) (S_DISJUNCTION : Sta Z h0 "com/example/always_over_paths/alwaysoverpaths/property/Formula$Kind" "DISJUNCTION" "Lcom/example/always_over_paths/alwaysoverpaths/property/Formula$Kind;" (.ref o_DISJUNCTION)) (S_NEXT : Sta Z h0 "com/example/always_over_paths/alwaysoverpaths/property/Formula$Kind" "NEXT" "Lcom/example/always_over_paths/alwaysoverpaths/property/Formula$Kind;" (.ref o_NEXT)) (S_FINALLY : Sta Z h0 "com/example/always_over_paths/alwaysoverpaths/property/Formula$Kind" "FINALLY" "Lcom/example/always_over_paths/alwaysoverpaths/property/Formula$Kind;" (.ref o_FINALLY)) (S_UNTIL : Sta Z h0 "com/example/always_over_paths/alwaysoverpaths/property/Formula$Kind" "UNTIL" "Lcom/example/always_over_paths/alwaysoverpaths/property/Formula$Kind;" (.ref o_UNTIL)) (S_CONJUNCTION : Sta Z h0 "com/example/always_over_paths/alwaysoverpaths/property/Formula$Kind" "CONJUNCTION" "Lcom/example/always_over_paths/alwaysoverpaths/property/Formula$Kind;" (.ref o_CONJUNCTION)) :
    MetFree l (⟨"com/example/always_over_paths/alwaysoverpaths/property/KindTakesPinLaw", "kindOf", "(I)Lcom/example/always_over_paths/alwaysoverpaths/property/Formula$Kind;"⟩ : MethodName) (head1 (Jvm.Cond.code (⟨"com/example/always_over_paths/alwaysoverpaths/property/KindTakesPinLaw", "kindOf", "(I)Lcom/example/always_over_paths/alwaysoverpaths/property/Formula$Kind;"⟩ : MethodName) method_2_code 1 (some (.object "com/example/always_over_paths/alwaysoverpaths/property/Formula$Kind")) :: ws) ({ frames := 0, cells := 0, slots := 0, locals := 0 } : Room)) (fun a U => a = #[(.int p1)] ∧ Z.Warmed39 U.vm ∧ U.heap = h0) (fun _ _ _ _ _ => True) (fun _ U o U' => ∃ v L, o = .returned v ∧ Q1 Z p1 o_ATOM o_NEGATION o_ALL_PATHS o_EXISTS_PATH o_GLOBALLY o_DISJUNCTION o_NEXT o_FINALLY o_UNTIL o_CONJUNCTION h0 n0 v U'.heap L ∧ FrameEnd U o U' L ({ frames := 0, cells := 0, slots := 0, locals := 0 } : Room).cells ({ frames := 0, cells := 0, slots := 0, locals := 0 } : Room).slots) := by
  refine MetFree.of_bodySF (plainFor_of_name pn_0) hisR ?_
  intro p e s m args below meth c s₁ Bd hml0 hP hK
  obtain ⟨rfl, hZ, hh⟩ := hP
  have hx := Bd.exec
  have hby := Bd.bytes
  have hml : c.maxLocals = 1 := hml0
  have hown : s.vm.findClass "com/example/always_over_paths/alwaysoverpaths/property/KindTakesPinLaw" = some m.cls := findClass_of_methodNamed Bd.named
  have hnm := (name_of_methodNamed Bd.named Bd.method).1
  have X0 : Stand p l e ({ frames := 0, cells := 0, slots := 0, locals := 0 } : Room) s m #[(.int p1)] below meth c s₁ [] 0 0 := Stand.of_body Bd
  have e0 : s₁.heap = h0 := by rw [← hh, Bd.state]; rfl
  have N0 := Fr.nil n0
  show GoalS p.tables e below s ({ frames := 0, cells := 0, slots := 0, locals := 0 } : Room).cells ({ frames := 0, cells := 0, slots := 0, locals := 0 } : Room).slots (Q1 Z p1 o_ATOM o_NEGATION o_ALL_PATHS o_EXISTS_PATH o_GLOBALLY o_DISJUNCTION o_NEXT o_FINALLY o_UNTIL o_CONJUNCTION h0 n0) (s₁.setTop (entryFrame m #[(.int p1)] 1))
  refine GoalS.lift (B := s₁.setTop (mkF m 0 #[.val (.int p1)] [])) (fun t k => castTop (ef_rm1 m p1) k) ?_
  have K0 : Keep h0 h0 [] := Keep.refl _ _
  refine GoalS.lift (B := (s₁.setTop (mkF m 1 #[.val (.int p1)] [(.int p1)]))) (fun t k => ?_) ?_
  · show Steps p.tables e below (s₁.setTop (mkF m 0 #[.val (.int p1)] [])) _
    refine XS.iloadN X0.here hx rfl (hb hby d1_0) rfl ?_
    show Steps p.tables e below (s₁.setTop (mkF m 1 #[.val (.int p1)] [(.int p1)])) _
    exact k
  by_cases hc1_1 : p1 = (0 : Int32)
  · obtain ⟨T2, X2, e2, st2⟩ := getS2 X0 hx hZ hown (host := "") (Or.inl (hw _ (List.mem_of_getElem? (i := 5) rfl))) Via.refl e0 S_ATOM (g := (mkF m 4 #[.val (.int p1)] [])) rfl (hb hby d1_4)
    obtain ⟨fs, hr, hrun, hended, hW, hsame⟩ := X2.leave (v := some (.ref o_ATOM)) (fun h => by rw [Bd.returns] at h; cases h)
    refine ⟨_, _, ?_, hrun, hended, _, _, rfl, ?_, ⟨_, rfl⟩, hW, hsame.mono (by decide) (by decide)⟩
    · show Steps p.tables e below (s₁.setTop (mkF m 1 #[.val (.int p1)] [(.int p1)])) _
      refine XS.ifNo X0.here hx rfl (hb hby d1_1) rfl ((if0 _ _).trans (teq hc1_1).2) ?_
      show Steps p.tables e below (s₁.setTop (mkF m 4 #[.val (.int p1)] [])) _
      refine st2 _ ?_
      show Steps p.tables e below (T2.setTop (mkF m 7 #[.val (.int p1)] [(.ref o_ATOM)])) _
      jvm_step X2.here [X2.here.top, hx, (hb hby d1_7), X2.method', Bd.returns, Value.isRef, FieldType.isReference]
      first | (intro acts; rw [hr _ acts rfl rfl rfl]) | rw [hr _ _ rfl rfl rfl]
      exact Steps.refl _
    · show Q1 Z p1 o_ATOM o_NEGATION o_ALL_PATHS o_EXISTS_PATH o_GLOBALLY o_DISJUNCTION o_NEXT o_FINALLY o_UNTIL o_CONJUNCTION h0 n0 _ T2.heap _
      exact ⟨_, rfl, (by simp only [if_pos hc1_1]), N0, e2⟩
  · refine GoalS.lift (B := (s₁.setTop (mkF m 10 #[.val (.int p1)] [(.int (1 : Int32)), (.int p1)]))) (fun t k => ?_) ?_
    · show Steps p.tables e below (s₁.setTop (mkF m 1 #[.val (.int p1)] [(.int p1)])) _
      refine XS.ifYes X0.here hx rfl (pc0 := 1) (pc' := 8) rfl (hb hby d1_1) rfl ((if0 _ _).trans (feq hc1_1).2) (by decide) (by decide) ?_
      show Steps p.tables e below (s₁.setTop (mkF m 8 #[.val (.int p1)] [])) _
      refine XS.iloadN X0.here hx rfl (hb hby d1_8) rfl ?_
      show Steps p.tables e below (s₁.setTop (mkF m 9 #[.val (.int p1)] [(.int p1)])) _
      refine XS.iconst X0.here hx rfl (hb hby d1_9) ?_
      show Steps p.tables e below (s₁.setTop (mkF m 10 #[.val (.int p1)] [(.int (1 : Int32)), (.int p1)])) _
      exact k
    by_cases hc10_3 : p1 = (1 : Int32)
    · obtain ⟨T4, X4, e4, st4⟩ := getS2 X0 hx hZ hown (host := "") (Or.inl (hw _ (List.mem_of_getElem? (i := 20) rfl))) Via.refl e0 S_NEGATION (g := (mkF m 13 #[.val (.int p1)] [])) rfl (hb hby d1_13)
      obtain ⟨fs, hr, hrun, hended, hW, hsame⟩ := X4.leave (v := some (.ref o_NEGATION)) (fun h => by rw [Bd.returns] at h; cases h)
      refine ⟨_, _, ?_, hrun, hended, _, _, rfl, ?_, ⟨_, rfl⟩, hW, hsame.mono (by decide) (by decide)⟩
      · show Steps p.tables e below (s₁.setTop (mkF m 10 #[.val (.int p1)] [(.int (1 : Int32)), (.int p1)])) _
        refine XS.icmpNo X0.here hx rfl (hb hby d1_10) rfl ((teq hc10_3).2) ?_
        show Steps p.tables e below (s₁.setTop (mkF m 13 #[.val (.int p1)] [])) _
        refine st4 _ ?_
        show Steps p.tables e below (T4.setTop (mkF m 16 #[.val (.int p1)] [(.ref o_NEGATION)])) _
        jvm_step X4.here [X4.here.top, hx, (hb hby d1_16), X4.method', Bd.returns, Value.isRef, FieldType.isReference]
        first | (intro acts; rw [hr _ acts rfl rfl rfl]) | rw [hr _ _ rfl rfl rfl]
        exact Steps.refl _
      · show Q1 Z p1 o_ATOM o_NEGATION o_ALL_PATHS o_EXISTS_PATH o_GLOBALLY o_DISJUNCTION o_NEXT o_FINALLY o_UNTIL o_CONJUNCTION h0 n0 _ T4.heap _
        exact ⟨_, rfl, (by simp only [if_neg hc1_1, if_pos hc10_3]), N0, e4⟩
    · refine GoalS.lift (B := (s₁.setTop (mkF m 19 #[.val (.int p1)] [(.int (2 : Int32)), (.int p1)]))) (fun t k => ?_) ?_
      · show Steps p.tables e below (s₁.setTop (mkF m 10 #[.val (.int p1)] [(.int (1 : Int32)), (.int p1)])) _
        refine XS.icmpYes X0.here hx rfl (pc0 := 10) (pc' := 17) rfl (hb hby d1_10) rfl ((feq hc10_3).2) (by decide) (by decide) ?_
        show Steps p.tables e below (s₁.setTop (mkF m 17 #[.val (.int p1)] [])) _
        refine XS.iloadN X0.here hx rfl (hb hby d1_17) rfl ?_
        show Steps p.tables e below (s₁.setTop (mkF m 18 #[.val (.int p1)] [(.int p1)])) _
        refine XS.iconst X0.here hx rfl (hb hby d1_18) ?_
        show Steps p.tables e below (s₁.setTop (mkF m 19 #[.val (.int p1)] [(.int (2 : Int32)), (.int p1)])) _
        exact k
      by_cases hc19_5 : p1 = (2 : Int32)
      · obtain ⟨T6, X6, e6, st6⟩ := getS2 X0 hx hZ hown (host := "") (Or.inl (hw _ (List.mem_of_getElem? (i := 36) rfl))) Via.refl e0 S_CONJUNCTION (g := (mkF m 22 #[.val (.int p1)] [])) rfl (hb hby d1_22)
        obtain ⟨fs, hr, hrun, hended, hW, hsame⟩ := X6.leave (v := some (.ref o_CONJUNCTION)) (fun h => by rw [Bd.returns] at h; cases h)
        refine ⟨_, _, ?_, hrun, hended, _, _, rfl, ?_, ⟨_, rfl⟩, hW, hsame.mono (by decide) (by decide)⟩
        · show Steps p.tables e below (s₁.setTop (mkF m 19 #[.val (.int p1)] [(.int (2 : Int32)), (.int p1)])) _
          refine XS.icmpNo X0.here hx rfl (hb hby d1_19) rfl ((teq hc19_5).2) ?_
          show Steps p.tables e below (s₁.setTop (mkF m 22 #[.val (.int p1)] [])) _
          refine st6 _ ?_
          show Steps p.tables e below (T6.setTop (mkF m 25 #[.val (.int p1)] [(.ref o_CONJUNCTION)])) _
          jvm_step X6.here [X6.here.top, hx, (hb hby d1_25), X6.method', Bd.returns, Value.isRef, FieldType.isReference]
          first | (intro acts; rw [hr _ acts rfl rfl rfl]) | rw [hr _ _ rfl rfl rfl]
          exact Steps.refl _
        · show Q1 Z p1 o_ATOM o_NEGATION o_ALL_PATHS o_EXISTS_PATH o_GLOBALLY o_DISJUNCTION o_NEXT o_FINALLY o_UNTIL o_CONJUNCTION h0 n0 _ T6.heap _
          exact ⟨_, rfl, (by simp only [if_neg hc1_1, if_neg hc10_3, if_pos hc19_5]), N0, e6⟩
      · refine GoalS.lift (B := (s₁.setTop (mkF m 28 #[.val (.int p1)] [(.int (3 : Int32)), (.int p1)]))) (fun t k => ?_) ?_
        · show Steps p.tables e below (s₁.setTop (mkF m 19 #[.val (.int p1)] [(.int (2 : Int32)), (.int p1)])) _
          refine XS.icmpYes X0.here hx rfl (pc0 := 19) (pc' := 26) rfl (hb hby d1_19) rfl ((feq hc19_5).2) (by decide) (by decide) ?_
          show Steps p.tables e below (s₁.setTop (mkF m 26 #[.val (.int p1)] [])) _
          refine XS.iloadN X0.here hx rfl (hb hby d1_26) rfl ?_
          show Steps p.tables e below (s₁.setTop (mkF m 27 #[.val (.int p1)] [(.int p1)])) _
          refine XS.iconst X0.here hx rfl (hb hby d1_27) ?_
          show Steps p.tables e below (s₁.setTop (mkF m 28 #[.val (.int p1)] [(.int (3 : Int32)), (.int p1)])) _
          exact k
        by_cases hc28_7 : p1 = (3 : Int32)
        · obtain ⟨T8, X8, e8, st8⟩ := getS2 X0 hx hZ hown (host := "") (Or.inl (hw _ (List.mem_of_getElem? (i := 28) rfl))) Via.refl e0 S_DISJUNCTION (g := (mkF m 31 #[.val (.int p1)] [])) rfl (hb hby d1_31)
          obtain ⟨fs, hr, hrun, hended, hW, hsame⟩ := X8.leave (v := some (.ref o_DISJUNCTION)) (fun h => by rw [Bd.returns] at h; cases h)
          refine ⟨_, _, ?_, hrun, hended, _, _, rfl, ?_, ⟨_, rfl⟩, hW, hsame.mono (by decide) (by decide)⟩
          · show Steps p.tables e below (s₁.setTop (mkF m 28 #[.val (.int p1)] [(.int (3 : Int32)), (.int p1)])) _
            refine XS.icmpNo X0.here hx rfl (hb hby d1_28) rfl ((teq hc28_7).2) ?_
            show Steps p.tables e below (s₁.setTop (mkF m 31 #[.val (.int p1)] [])) _
            refine st8 _ ?_
            show Steps p.tables e below (T8.setTop (mkF m 34 #[.val (.int p1)] [(.ref o_DISJUNCTION)])) _
            jvm_step X8.here [X8.here.top, hx, (hb hby d1_34), X8.method', Bd.returns, Value.isRef, FieldType.isReference]
            first | (intro acts; rw [hr _ acts rfl rfl rfl]) | rw [hr _ _ rfl rfl rfl]
            exact Steps.refl _
          · show Q1 Z p1 o_ATOM o_NEGATION o_ALL_PATHS o_EXISTS_PATH o_GLOBALLY o_DISJUNCTION o_NEXT o_FINALLY o_UNTIL o_CONJUNCTION h0 n0 _ T8.heap _
            exact ⟨_, rfl, (by simp only [if_neg hc1_1, if_neg hc10_3, if_neg hc19_5, if_pos hc28_7]), N0, e8⟩
        · refine GoalS.lift (B := (s₁.setTop (mkF m 37 #[.val (.int p1)] [(.int (4 : Int32)), (.int p1)]))) (fun t k => ?_) ?_
          · show Steps p.tables e below (s₁.setTop (mkF m 28 #[.val (.int p1)] [(.int (3 : Int32)), (.int p1)])) _
            refine XS.icmpYes X0.here hx rfl (pc0 := 28) (pc' := 35) rfl (hb hby d1_28) rfl ((feq hc28_7).2) (by decide) (by decide) ?_
            show Steps p.tables e below (s₁.setTop (mkF m 35 #[.val (.int p1)] [])) _
            refine XS.iloadN X0.here hx rfl (hb hby d1_35) rfl ?_
            show Steps p.tables e below (s₁.setTop (mkF m 36 #[.val (.int p1)] [(.int p1)])) _
            refine XS.iconst X0.here hx rfl (hb hby d1_36) ?_
            show Steps p.tables e below (s₁.setTop (mkF m 37 #[.val (.int p1)] [(.int (4 : Int32)), (.int p1)])) _
            exact k
          by_cases hc37_9 : p1 = (4 : Int32)
          · obtain ⟨T10, X10, e10, st10⟩ := getS2 X0 hx hZ hown (host := "") (Or.inl (hw _ (List.mem_of_getElem? (i := 22) rfl))) Via.refl e0 S_ALL_PATHS (g := (mkF m 40 #[.val (.int p1)] [])) rfl (hb hby d1_40)
            obtain ⟨fs, hr, hrun, hended, hW, hsame⟩ := X10.leave (v := some (.ref o_ALL_PATHS)) (fun h => by rw [Bd.returns] at h; cases h)
            refine ⟨_, _, ?_, hrun, hended, _, _, rfl, ?_, ⟨_, rfl⟩, hW, hsame.mono (by decide) (by decide)⟩
            · show Steps p.tables e below (s₁.setTop (mkF m 37 #[.val (.int p1)] [(.int (4 : Int32)), (.int p1)])) _
              refine XS.icmpNo X0.here hx rfl (hb hby d1_37) rfl ((teq hc37_9).2) ?_
              show Steps p.tables e below (s₁.setTop (mkF m 40 #[.val (.int p1)] [])) _
              refine st10 _ ?_
              show Steps p.tables e below (T10.setTop (mkF m 43 #[.val (.int p1)] [(.ref o_ALL_PATHS)])) _
              jvm_step X10.here [X10.here.top, hx, (hb hby d1_43), X10.method', Bd.returns, Value.isRef, FieldType.isReference]
              first | (intro acts; rw [hr _ acts rfl rfl rfl]) | rw [hr _ _ rfl rfl rfl]
              exact Steps.refl _
            · show Q1 Z p1 o_ATOM o_NEGATION o_ALL_PATHS o_EXISTS_PATH o_GLOBALLY o_DISJUNCTION o_NEXT o_FINALLY o_UNTIL o_CONJUNCTION h0 n0 _ T10.heap _
              exact ⟨_, rfl, (by simp only [if_neg hc1_1, if_neg hc10_3, if_neg hc19_5, if_neg hc28_7, if_pos hc37_9]), N0, e10⟩
          · refine GoalS.lift (B := (s₁.setTop (mkF m 46 #[.val (.int p1)] [(.int (5 : Int32)), (.int p1)]))) (fun t k => ?_) ?_
            · show Steps p.tables e below (s₁.setTop (mkF m 37 #[.val (.int p1)] [(.int (4 : Int32)), (.int p1)])) _
              refine XS.icmpYes X0.here hx rfl (pc0 := 37) (pc' := 44) rfl (hb hby d1_37) rfl ((feq hc37_9).2) (by decide) (by decide) ?_
              show Steps p.tables e below (s₁.setTop (mkF m 44 #[.val (.int p1)] [])) _
              refine XS.iloadN X0.here hx rfl (hb hby d1_44) rfl ?_
              show Steps p.tables e below (s₁.setTop (mkF m 45 #[.val (.int p1)] [(.int p1)])) _
              refine XS.iconst X0.here hx rfl (hb hby d1_45) ?_
              show Steps p.tables e below (s₁.setTop (mkF m 46 #[.val (.int p1)] [(.int (5 : Int32)), (.int p1)])) _
              exact k
            by_cases hc46_11 : p1 = (5 : Int32)
            · obtain ⟨T12, X12, e12, st12⟩ := getS2 X0 hx hZ hown (host := "") (Or.inl (hw _ (List.mem_of_getElem? (i := 24) rfl))) Via.refl e0 S_EXISTS_PATH (g := (mkF m 49 #[.val (.int p1)] [])) rfl (hb hby d1_49)
              obtain ⟨fs, hr, hrun, hended, hW, hsame⟩ := X12.leave (v := some (.ref o_EXISTS_PATH)) (fun h => by rw [Bd.returns] at h; cases h)
              refine ⟨_, _, ?_, hrun, hended, _, _, rfl, ?_, ⟨_, rfl⟩, hW, hsame.mono (by decide) (by decide)⟩
              · show Steps p.tables e below (s₁.setTop (mkF m 46 #[.val (.int p1)] [(.int (5 : Int32)), (.int p1)])) _
                refine XS.icmpNo X0.here hx rfl (hb hby d1_46) rfl ((teq hc46_11).2) ?_
                show Steps p.tables e below (s₁.setTop (mkF m 49 #[.val (.int p1)] [])) _
                refine st12 _ ?_
                show Steps p.tables e below (T12.setTop (mkF m 52 #[.val (.int p1)] [(.ref o_EXISTS_PATH)])) _
                jvm_step X12.here [X12.here.top, hx, (hb hby d1_52), X12.method', Bd.returns, Value.isRef, FieldType.isReference]
                first | (intro acts; rw [hr _ acts rfl rfl rfl]) | rw [hr _ _ rfl rfl rfl]
                exact Steps.refl _
              · show Q1 Z p1 o_ATOM o_NEGATION o_ALL_PATHS o_EXISTS_PATH o_GLOBALLY o_DISJUNCTION o_NEXT o_FINALLY o_UNTIL o_CONJUNCTION h0 n0 _ T12.heap _
                exact ⟨_, rfl, (by simp only [if_neg hc1_1, if_neg hc10_3, if_neg hc19_5, if_neg hc28_7, if_neg hc37_9, if_pos hc46_11]), N0, e12⟩
            · refine GoalS.lift (B := (s₁.setTop (mkF m 56 #[.val (.int p1)] [(.int (6 : Int32)), (.int p1)]))) (fun t k => ?_) ?_
              · show Steps p.tables e below (s₁.setTop (mkF m 46 #[.val (.int p1)] [(.int (5 : Int32)), (.int p1)])) _
                refine XS.icmpYes X0.here hx rfl (pc0 := 46) (pc' := 53) rfl (hb hby d1_46) rfl ((feq hc46_11).2) (by decide) (by decide) ?_
                show Steps p.tables e below (s₁.setTop (mkF m 53 #[.val (.int p1)] [])) _
                refine XS.iloadN X0.here hx rfl (hb hby d1_53) rfl ?_
                show Steps p.tables e below (s₁.setTop (mkF m 54 #[.val (.int p1)] [(.int p1)])) _
                refine XS.bipush X0.here hx rfl (hb hby d1_54) ?_
                show Steps p.tables e below (s₁.setTop (mkF m 56 #[.val (.int p1)] [(.int (6 : Int32)), (.int p1)])) _
                exact k
              by_cases hc56_13 : p1 = (6 : Int32)
              · obtain ⟨T14, X14, e14, st14⟩ := getS2 X0 hx hZ hown (host := "") (Or.inl (hw _ (List.mem_of_getElem? (i := 30) rfl))) Via.refl e0 S_NEXT (g := (mkF m 59 #[.val (.int p1)] [])) rfl (hb hby d1_59)
                obtain ⟨fs, hr, hrun, hended, hW, hsame⟩ := X14.leave (v := some (.ref o_NEXT)) (fun h => by rw [Bd.returns] at h; cases h)
                refine ⟨_, _, ?_, hrun, hended, _, _, rfl, ?_, ⟨_, rfl⟩, hW, hsame.mono (by decide) (by decide)⟩
                · show Steps p.tables e below (s₁.setTop (mkF m 56 #[.val (.int p1)] [(.int (6 : Int32)), (.int p1)])) _
                  refine XS.icmpNo X0.here hx rfl (hb hby d1_56) rfl ((teq hc56_13).2) ?_
                  show Steps p.tables e below (s₁.setTop (mkF m 59 #[.val (.int p1)] [])) _
                  refine st14 _ ?_
                  show Steps p.tables e below (T14.setTop (mkF m 62 #[.val (.int p1)] [(.ref o_NEXT)])) _
                  jvm_step X14.here [X14.here.top, hx, (hb hby d1_62), X14.method', Bd.returns, Value.isRef, FieldType.isReference]
                  first | (intro acts; rw [hr _ acts rfl rfl rfl]) | rw [hr _ _ rfl rfl rfl]
                  exact Steps.refl _
                · show Q1 Z p1 o_ATOM o_NEGATION o_ALL_PATHS o_EXISTS_PATH o_GLOBALLY o_DISJUNCTION o_NEXT o_FINALLY o_UNTIL o_CONJUNCTION h0 n0 _ T14.heap _
                  exact ⟨_, rfl, (by simp only [if_neg hc1_1, if_neg hc10_3, if_neg hc19_5, if_neg hc28_7, if_neg hc37_9, if_neg hc46_11, if_pos hc56_13]), N0, e14⟩
              · refine GoalS.lift (B := (s₁.setTop (mkF m 66 #[.val (.int p1)] [(.int (7 : Int32)), (.int p1)]))) (fun t k => ?_) ?_
                · show Steps p.tables e below (s₁.setTop (mkF m 56 #[.val (.int p1)] [(.int (6 : Int32)), (.int p1)])) _
                  refine XS.icmpYes X0.here hx rfl (pc0 := 56) (pc' := 63) rfl (hb hby d1_56) rfl ((feq hc56_13).2) (by decide) (by decide) ?_
                  show Steps p.tables e below (s₁.setTop (mkF m 63 #[.val (.int p1)] [])) _
                  refine XS.iloadN X0.here hx rfl (hb hby d1_63) rfl ?_
                  show Steps p.tables e below (s₁.setTop (mkF m 64 #[.val (.int p1)] [(.int p1)])) _
                  refine XS.bipush X0.here hx rfl (hb hby d1_64) ?_
                  show Steps p.tables e below (s₁.setTop (mkF m 66 #[.val (.int p1)] [(.int (7 : Int32)), (.int p1)])) _
                  exact k
                by_cases hc66_15 : p1 = (7 : Int32)
                · obtain ⟨T16, X16, e16, st16⟩ := getS2 X0 hx hZ hown (host := "") (Or.inl (hw _ (List.mem_of_getElem? (i := 32) rfl))) Via.refl e0 S_FINALLY (g := (mkF m 69 #[.val (.int p1)] [])) rfl (hb hby d1_69)
                  obtain ⟨fs, hr, hrun, hended, hW, hsame⟩ := X16.leave (v := some (.ref o_FINALLY)) (fun h => by rw [Bd.returns] at h; cases h)
                  refine ⟨_, _, ?_, hrun, hended, _, _, rfl, ?_, ⟨_, rfl⟩, hW, hsame.mono (by decide) (by decide)⟩
                  · show Steps p.tables e below (s₁.setTop (mkF m 66 #[.val (.int p1)] [(.int (7 : Int32)), (.int p1)])) _
                    refine XS.icmpNo X0.here hx rfl (hb hby d1_66) rfl ((teq hc66_15).2) ?_
                    show Steps p.tables e below (s₁.setTop (mkF m 69 #[.val (.int p1)] [])) _
                    refine st16 _ ?_
                    show Steps p.tables e below (T16.setTop (mkF m 72 #[.val (.int p1)] [(.ref o_FINALLY)])) _
                    jvm_step X16.here [X16.here.top, hx, (hb hby d1_72), X16.method', Bd.returns, Value.isRef, FieldType.isReference]
                    first | (intro acts; rw [hr _ acts rfl rfl rfl]) | rw [hr _ _ rfl rfl rfl]
                    exact Steps.refl _
                  · show Q1 Z p1 o_ATOM o_NEGATION o_ALL_PATHS o_EXISTS_PATH o_GLOBALLY o_DISJUNCTION o_NEXT o_FINALLY o_UNTIL o_CONJUNCTION h0 n0 _ T16.heap _
                    exact ⟨_, rfl, (by simp only [if_neg hc1_1, if_neg hc10_3, if_neg hc19_5, if_neg hc28_7, if_neg hc37_9, if_neg hc46_11, if_neg hc56_13, if_pos hc66_15]), N0, e16⟩
                · refine GoalS.lift (B := (s₁.setTop (mkF m 76 #[.val (.int p1)] [(.int (8 : Int32)), (.int p1)]))) (fun t k => ?_) ?_
                  · show Steps p.tables e below (s₁.setTop (mkF m 66 #[.val (.int p1)] [(.int (7 : Int32)), (.int p1)])) _
                    refine XS.icmpYes X0.here hx rfl (pc0 := 66) (pc' := 73) rfl (hb hby d1_66) rfl ((feq hc66_15).2) (by decide) (by decide) ?_
                    show Steps p.tables e below (s₁.setTop (mkF m 73 #[.val (.int p1)] [])) _
                    refine XS.iloadN X0.here hx rfl (hb hby d1_73) rfl ?_
                    show Steps p.tables e below (s₁.setTop (mkF m 74 #[.val (.int p1)] [(.int p1)])) _
                    refine XS.bipush X0.here hx rfl (hb hby d1_74) ?_
                    show Steps p.tables e below (s₁.setTop (mkF m 76 #[.val (.int p1)] [(.int (8 : Int32)), (.int p1)])) _
                    exact k
                  by_cases hc76_17 : p1 = (8 : Int32)
                  · obtain ⟨T18, X18, e18, st18⟩ := getS2 X0 hx hZ hown (host := "") (Or.inl (hw _ (List.mem_of_getElem? (i := 26) rfl))) Via.refl e0 S_GLOBALLY (g := (mkF m 79 #[.val (.int p1)] [])) rfl (hb hby d1_79)
                    obtain ⟨fs, hr, hrun, hended, hW, hsame⟩ := X18.leave (v := some (.ref o_GLOBALLY)) (fun h => by rw [Bd.returns] at h; cases h)
                    refine ⟨_, _, ?_, hrun, hended, _, _, rfl, ?_, ⟨_, rfl⟩, hW, hsame.mono (by decide) (by decide)⟩
                    · show Steps p.tables e below (s₁.setTop (mkF m 76 #[.val (.int p1)] [(.int (8 : Int32)), (.int p1)])) _
                      refine XS.icmpNo X0.here hx rfl (hb hby d1_76) rfl ((teq hc76_17).2) ?_
                      show Steps p.tables e below (s₁.setTop (mkF m 79 #[.val (.int p1)] [])) _
                      refine st18 _ ?_
                      show Steps p.tables e below (T18.setTop (mkF m 82 #[.val (.int p1)] [(.ref o_GLOBALLY)])) _
                      jvm_step X18.here [X18.here.top, hx, (hb hby d1_82), X18.method', Bd.returns, Value.isRef, FieldType.isReference]
                      first | (intro acts; rw [hr _ acts rfl rfl rfl]) | rw [hr _ _ rfl rfl rfl]
                      exact Steps.refl _
                    · show Q1 Z p1 o_ATOM o_NEGATION o_ALL_PATHS o_EXISTS_PATH o_GLOBALLY o_DISJUNCTION o_NEXT o_FINALLY o_UNTIL o_CONJUNCTION h0 n0 _ T18.heap _
                      exact ⟨_, rfl, (by simp only [if_neg hc1_1, if_neg hc10_3, if_neg hc19_5, if_neg hc28_7, if_neg hc37_9, if_neg hc46_11, if_neg hc56_13, if_neg hc66_15, if_pos hc76_17]), N0, e18⟩
                  · obtain ⟨T19, X19, e19, st19⟩ := getS2 X0 hx hZ hown (host := "") (Or.inl (hw _ (List.mem_of_getElem? (i := 34) rfl))) Via.refl e0 S_UNTIL (g := (mkF m 83 #[.val (.int p1)] [])) rfl (hb hby d1_83)
                    obtain ⟨fs, hr, hrun, hended, hW, hsame⟩ := X19.leave (v := some (.ref o_UNTIL)) (fun h => by rw [Bd.returns] at h; cases h)
                    refine ⟨_, _, ?_, hrun, hended, _, _, rfl, ?_, ⟨_, rfl⟩, hW, hsame.mono (by decide) (by decide)⟩
                    · show Steps p.tables e below (s₁.setTop (mkF m 76 #[.val (.int p1)] [(.int (8 : Int32)), (.int p1)])) _
                      refine XS.icmpYes X0.here hx rfl (pc0 := 76) (pc' := 83) rfl (hb hby d1_76) rfl ((feq hc76_17).2) (by decide) (by decide) ?_
                      show Steps p.tables e below (s₁.setTop (mkF m 83 #[.val (.int p1)] [])) _
                      refine st19 _ ?_
                      show Steps p.tables e below (T19.setTop (mkF m 86 #[.val (.int p1)] [(.ref o_UNTIL)])) _
                      jvm_step X19.here [X19.here.top, hx, (hb hby d1_86), X19.method', Bd.returns, Value.isRef, FieldType.isReference]
                      first | (intro acts; rw [hr _ acts rfl rfl rfl]) | rw [hr _ _ rfl rfl rfl]
                      exact Steps.refl _
                    · show Q1 Z p1 o_ATOM o_NEGATION o_ALL_PATHS o_EXISTS_PATH o_GLOBALLY o_DISJUNCTION o_NEXT o_FINALLY o_UNTIL o_CONJUNCTION h0 n0 _ T19.heap _
                      exact ⟨_, rfl, (by simp only [if_neg hc1_1, if_neg hc10_3, if_neg hc19_5, if_neg hc28_7, if_neg hc37_9, if_neg hc46_11, if_neg hc56_13, if_neg hc66_15, if_neg hc76_17]), N0, e19⟩
theorem d2_0 : decode prog_37_method_4_code 0 = .ok (.iload_n 1, 1) := by decide +kernel
theorem d2_1 : decode prog_37_method_4_code 1 = .ok (.aload_n 0, 1) := by decide +kernel
theorem d2_2 : decode prog_37_method_4_code 2 = .ok (.getfield 53, 3) := by decide +kernel
theorem d2_5 : decode prog_37_method_4_code 5 = .ok (.if_icmp .lt 15, 3) := by decide +kernel
theorem d2_8 : decode prog_37_method_4_code 8 = .ok (.iload_n 1, 1) := by decide +kernel
theorem d2_9 : decode prog_37_method_4_code 9 = .ok (.aload_n 0, 1) := by decide +kernel
theorem d2_10 : decode prog_37_method_4_code 10 = .ok (.getfield 57, 3) := by decide +kernel
theorem d2_13 : decode prog_37_method_4_code 13 = .ok (.if_icmp .gt 7, 3) := by decide +kernel
theorem d2_16 : decode prog_37_method_4_code 16 = .ok (.iconst 1, 1) := by decide +kernel
theorem d2_17 : decode prog_37_method_4_code 17 = .ok (.goto 4, 3) := by decide +kernel
theorem d2_20 : decode prog_37_method_4_code 20 = .ok (.iconst 0, 1) := by decide +kernel
theorem d2_21 : decode prog_37_method_4_code 21 = .ok (.ireturn, 1) := by decide +kernel
theorem pn_1 : plainName "com/example/always_over_paths/alwaysoverpaths/property/Formula$Kind" = true := by first | (simp [plainName, overriddenIn]; done) | decide +kernel
theorem ef_rm2 (m : MethodId) (a1 : Addr) (p2 : Int32) : entryFrame m #[(.ref a1), (.int p2)] 2 = mkF m 0 #[.val (.ref a1), .val (.int p2)] [] := by first | (simp [entryFrame, mkF, argsToLocals, Value.category]; done) | rfl
def Q2 (Z : State) (a1 : Addr) (p2 : Int32) (mn : Int32) (mx : Int32) (h0 : Heap) (n0 : Nat) (v : Option Value) (h : Heap) (L : List Loc) : Prop := ∃ r : Int32, v = some (.int r) ∧ r = (if p2 < mn then (0 : Int32) else (if mx < p2 then (0 : Int32) else (1 : Int32))) ∧ Fr n0 L ∧ h = h0
set_option maxRecDepth 65536 in
set_option maxHeartbeats 40000000 in
theorem rm2 (l : Launch) (Z : State) (a0 : Array Value) (hw : ∀ d ∈ tables_1, d.before a0 Z = true) (ws : List Jvm.Cond) (a1 : Addr) (p2 : Int32) (mn : Int32) (mx : Int32) (h0 : Heap) (n0 : Nat) (Z0 : n0 ≤ h0.size) (F_minOperands_a1 : Fld Z h0 a1 "com/example/always_over_paths/alwaysoverpaths/property/Formula$Kind" "minOperands" "I" (.int mn)) (F_maxOperands_a1 : Fld Z h0 a1 "com/example/always_over_paths/alwaysoverpaths/property/Formula$Kind" "maxOperands" "I" (.int mx)) :
    MetFree l (⟨"com/example/always_over_paths/alwaysoverpaths/property/Formula$Kind", "takes", "(I)Z"⟩ : MethodName) (head1 (Jvm.Cond.code (⟨"com/example/always_over_paths/alwaysoverpaths/property/Formula$Kind", "takes", "(I)Z"⟩ : MethodName) prog_37_method_4_code 2 (some .boolean) :: ws) ({ frames := 0, cells := 0, slots := 0, locals := 0 } : Room)) (fun a U => a = #[(.ref a1), (.int p2)] ∧ Z.Warmed39 U.vm ∧ U.heap = h0) (fun _ _ _ _ _ => True) (fun _ U o U' => ∃ v L, o = .returned v ∧ Q2 Z a1 p2 mn mx h0 n0 v U'.heap L ∧ FrameEnd U o U' L ({ frames := 0, cells := 0, slots := 0, locals := 0 } : Room).cells ({ frames := 0, cells := 0, slots := 0, locals := 0 } : Room).slots) := by
  refine MetFree.of_bodySF (plainFor_of_name pn_1) hisR ?_
  intro p e s m args below meth c s₁ Bd hml0 hP hK
  obtain ⟨rfl, hZ, hh⟩ := hP
  have hx := Bd.exec
  have hby := Bd.bytes
  have hml : c.maxLocals = 2 := hml0
  have hown : s.vm.findClass "com/example/always_over_paths/alwaysoverpaths/property/Formula$Kind" = some m.cls := findClass_of_methodNamed Bd.named
  have hnm := (name_of_methodNamed Bd.named Bd.method).1
  have X0 : Stand p l e ({ frames := 0, cells := 0, slots := 0, locals := 0 } : Room) s m #[(.ref a1), (.int p2)] below meth c s₁ [] 0 0 := Stand.of_body Bd
  have e0 : s₁.heap = h0 := by rw [← hh, Bd.state]; rfl
  have N0 := Fr.nil n0
  show GoalS p.tables e below s ({ frames := 0, cells := 0, slots := 0, locals := 0 } : Room).cells ({ frames := 0, cells := 0, slots := 0, locals := 0 } : Room).slots (Q2 Z a1 p2 mn mx h0 n0) (s₁.setTop (entryFrame m #[(.ref a1), (.int p2)] 2))
  refine GoalS.lift (B := s₁.setTop (mkF m 0 #[.val (.ref a1), .val (.int p2)] [])) (fun t k => castTop (ef_rm2 m a1 p2) k) ?_
  have K0 : Keep h0 h0 [] := Keep.refl _ _
  obtain ⟨T1, X1, e1, st1⟩ := getF X0 hx hZ hown (host := "") (Or.inl (hw _ (List.mem_of_getElem? (i := 13) rfl))) Via.refl e0 F_minOperands_a1 (g := (mkF m 2 #[.val (.ref a1), .val (.int p2)] [(.ref a1), (.int p2)])) rfl rfl (hb hby d2_2)
  refine GoalS.lift (B := (T1.setTop (mkF m 5 #[.val (.ref a1), .val (.int p2)] [(.int mn), (.int p2)]))) (fun t k => ?_) ?_
  · show Steps p.tables e below (s₁.setTop (mkF m 0 #[.val (.ref a1), .val (.int p2)] [])) _
    refine XS.iloadN X0.here hx rfl (hb hby d2_0) rfl ?_
    show Steps p.tables e below (s₁.setTop (mkF m 1 #[.val (.ref a1), .val (.int p2)] [(.int p2)])) _
    refine XS.aloadN X0.here hx rfl (hb hby d2_1) rfl rfl ?_
    show Steps p.tables e below (s₁.setTop (mkF m 2 #[.val (.ref a1), .val (.int p2)] [(.ref a1), (.int p2)])) _
    refine st1 _ ?_
    show Steps p.tables e below (T1.setTop (mkF m 5 #[.val (.ref a1), .val (.int p2)] [(.int mn), (.int p2)])) _
    exact k
  by_cases hc5_2 : p2 < mn
  · obtain ⟨fs, hr, hrun, hended, hW, hsame⟩ := X1.leave (v := some (.int (0 : Int32))) (fun h => by rw [Bd.returns] at h; cases h)
    refine ⟨_, _, ?_, hrun, hended, _, _, rfl, ?_, ⟨_, rfl⟩, hW, hsame.mono (by decide) (by decide)⟩
    · show Steps p.tables e below (T1.setTop (mkF m 5 #[.val (.ref a1), .val (.int p2)] [(.int mn), (.int p2)])) _
      refine XS.icmpYes X1.here hx rfl (pc0 := 5) (pc' := 20) rfl (hb hby d2_5) rfl ((tlt hc5_2).1) (by decide) (by decide) ?_
      show Steps p.tables e below (T1.setTop (mkF m 20 #[.val (.ref a1), .val (.int p2)] [])) _
      refine XS.iconst X1.here hx rfl (hb hby d2_20) ?_
      show Steps p.tables e below (T1.setTop (mkF m 21 #[.val (.ref a1), .val (.int p2)] [(.int (0 : Int32))])) _
      exact retN X1 hx (t := .boolean) Bd.returns (by simp) (hb hby d2_21) hr
    · show Q2 Z a1 p2 mn mx h0 n0 _ T1.heap _
      exact ⟨_, rfl, (by simp only [if_pos hc5_2]), N0, e1⟩
  · obtain ⟨T3, X3, e3, st3⟩ := getF X1 hx hZ hown (host := "") (Or.inl (hw _ (List.mem_of_getElem? (i := 15) rfl))) Via.refl e1 F_maxOperands_a1 (g := (mkF m 10 #[.val (.ref a1), .val (.int p2)] [(.ref a1), (.int p2)])) rfl rfl (hb hby d2_10)
    refine GoalS.lift (B := (T3.setTop (mkF m 13 #[.val (.ref a1), .val (.int p2)] [(.int mx), (.int p2)]))) (fun t k => ?_) ?_
    · show Steps p.tables e below (T1.setTop (mkF m 5 #[.val (.ref a1), .val (.int p2)] [(.int mn), (.int p2)])) _
      refine XS.icmpNo X1.here hx rfl (hb hby d2_5) rfl ((flt hc5_2).1) ?_
      show Steps p.tables e below (T1.setTop (mkF m 8 #[.val (.ref a1), .val (.int p2)] [])) _
      refine XS.iloadN X1.here hx rfl (hb hby d2_8) rfl ?_
      show Steps p.tables e below (T1.setTop (mkF m 9 #[.val (.ref a1), .val (.int p2)] [(.int p2)])) _
      refine XS.aloadN X1.here hx rfl (hb hby d2_9) rfl rfl ?_
      show Steps p.tables e below (T1.setTop (mkF m 10 #[.val (.ref a1), .val (.int p2)] [(.ref a1), (.int p2)])) _
      refine st3 _ ?_
      show Steps p.tables e below (T3.setTop (mkF m 13 #[.val (.ref a1), .val (.int p2)] [(.int mx), (.int p2)])) _
      exact k
    by_cases hc13_4 : mx < p2
    · obtain ⟨fs, hr, hrun, hended, hW, hsame⟩ := X3.leave (v := some (.int (0 : Int32))) (fun h => by rw [Bd.returns] at h; cases h)
      refine ⟨_, _, ?_, hrun, hended, _, _, rfl, ?_, ⟨_, rfl⟩, hW, hsame.mono (by decide) (by decide)⟩
      · show Steps p.tables e below (T3.setTop (mkF m 13 #[.val (.ref a1), .val (.int p2)] [(.int mx), (.int p2)])) _
        refine XS.icmpYes X3.here hx rfl (pc0 := 13) (pc' := 20) rfl (hb hby d2_13) rfl ((tlt hc13_4).2.2.1) (by decide) (by decide) ?_
        show Steps p.tables e below (T3.setTop (mkF m 20 #[.val (.ref a1), .val (.int p2)] [])) _
        refine XS.iconst X3.here hx rfl (hb hby d2_20) ?_
        show Steps p.tables e below (T3.setTop (mkF m 21 #[.val (.ref a1), .val (.int p2)] [(.int (0 : Int32))])) _
        exact retN X3 hx (t := .boolean) Bd.returns (by simp) (hb hby d2_21) hr
      · show Q2 Z a1 p2 mn mx h0 n0 _ T3.heap _
        exact ⟨_, rfl, (by simp only [if_neg hc5_2, if_pos hc13_4]), N0, e3⟩
    · obtain ⟨fs, hr, hrun, hended, hW, hsame⟩ := X3.leave (v := some (.int (1 : Int32))) (fun h => by rw [Bd.returns] at h; cases h)
      refine ⟨_, _, ?_, hrun, hended, _, _, rfl, ?_, ⟨_, rfl⟩, hW, hsame.mono (by decide) (by decide)⟩
      · show Steps p.tables e below (T3.setTop (mkF m 13 #[.val (.ref a1), .val (.int p2)] [(.int mx), (.int p2)])) _
        refine XS.icmpNo X3.here hx rfl (hb hby d2_13) rfl ((flt hc13_4).2.2.1) ?_
        show Steps p.tables e below (T3.setTop (mkF m 16 #[.val (.ref a1), .val (.int p2)] [])) _
        refine XS.iconst X3.here hx rfl (hb hby d2_16) ?_
        show Steps p.tables e below (T3.setTop (mkF m 17 #[.val (.ref a1), .val (.int p2)] [(.int (1 : Int32))])) _
        refine XS.goto X3.here hx rfl (pc0 := 17) (pc' := 21) rfl (hb hby d2_17) (by decide) (by decide) ?_
        show Steps p.tables e below (T3.setTop (mkF m 21 #[.val (.ref a1), .val (.int p2)] [(.int (1 : Int32))])) _
        exact retN X3 hx (t := .boolean) Bd.returns (by simp) (hb hby d2_21) hr
      · show Q2 Z a1 p2 mn mx h0 n0 _ T3.heap _
        exact ⟨_, rfl, (by simp only [if_neg hc5_2, if_neg hc13_4]), N0, e3⟩
theorem d3_0 : decode method_3_code 0 = .ok (.iload_n 0, 1) := by decide +kernel
theorem d3_1 : decode method_3_code 1 = .ok (.ifCond .ne 13, 3) := by decide +kernel
theorem d3_4 : decode method_3_code 4 = .ok (.iload_n 1, 1) := by decide +kernel
theorem d3_5 : decode method_3_code 5 = .ok (.ifCond .ne 7, 3) := by decide +kernel
theorem d3_8 : decode method_3_code 8 = .ok (.iconst 1, 1) := by decide +kernel
theorem d3_9 : decode method_3_code 9 = .ok (.goto 4, 3) := by decide +kernel
theorem d3_12 : decode method_3_code 12 = .ok (.iconst 0, 1) := by decide +kernel
theorem d3_13 : decode method_3_code 13 = .ok (.ireturn, 1) := by decide +kernel
theorem d3_14 : decode method_3_code 14 = .ok (.iload_n 0, 1) := by decide +kernel
theorem d3_15 : decode method_3_code 15 = .ok (.iconst 2, 1) := by decide +kernel
theorem d3_16 : decode method_3_code 16 = .ok (.if_icmp .eq 8, 3) := by decide +kernel
theorem d3_19 : decode method_3_code 19 = .ok (.iload_n 0, 1) := by decide +kernel
theorem d3_20 : decode method_3_code 20 = .ok (.iconst 3, 1) := by decide +kernel
theorem d3_21 : decode method_3_code 21 = .ok (.if_icmp .ne 14, 3) := by decide +kernel
theorem d3_24 : decode method_3_code 24 = .ok (.iload_n 1, 1) := by decide +kernel
theorem d3_25 : decode method_3_code 25 = .ok (.iconst 2, 1) := by decide +kernel
theorem d3_26 : decode method_3_code 26 = .ok (.if_icmp .lt 7, 3) := by decide +kernel
theorem d3_29 : decode method_3_code 29 = .ok (.iconst 1, 1) := by decide +kernel
theorem d3_30 : decode method_3_code 30 = .ok (.goto 4, 3) := by decide +kernel
theorem d3_33 : decode method_3_code 33 = .ok (.iconst 0, 1) := by decide +kernel
theorem d3_34 : decode method_3_code 34 = .ok (.ireturn, 1) := by decide +kernel
theorem d3_35 : decode method_3_code 35 = .ok (.iload_n 0, 1) := by decide +kernel
theorem d3_36 : decode method_3_code 36 = .ok (.bipush 9, 2) := by decide +kernel
theorem d3_38 : decode method_3_code 38 = .ok (.if_icmp .ne 14, 3) := by decide +kernel
theorem d3_41 : decode method_3_code 41 = .ok (.iload_n 1, 1) := by decide +kernel
theorem d3_42 : decode method_3_code 42 = .ok (.iconst 2, 1) := by decide +kernel
theorem d3_43 : decode method_3_code 43 = .ok (.if_icmp .ne 7, 3) := by decide +kernel
theorem d3_46 : decode method_3_code 46 = .ok (.iconst 1, 1) := by decide +kernel
theorem d3_47 : decode method_3_code 47 = .ok (.goto 4, 3) := by decide +kernel
theorem d3_50 : decode method_3_code 50 = .ok (.iconst 0, 1) := by decide +kernel
theorem d3_51 : decode method_3_code 51 = .ok (.ireturn, 1) := by decide +kernel
theorem d3_52 : decode method_3_code 52 = .ok (.iload_n 1, 1) := by decide +kernel
theorem d3_53 : decode method_3_code 53 = .ok (.iconst 1, 1) := by decide +kernel
theorem d3_54 : decode method_3_code 54 = .ok (.if_icmp .ne 7, 3) := by decide +kernel
theorem d3_57 : decode method_3_code 57 = .ok (.iconst 1, 1) := by decide +kernel
theorem d3_58 : decode method_3_code 58 = .ok (.goto 4, 3) := by decide +kernel
theorem d3_61 : decode method_3_code 61 = .ok (.iconst 0, 1) := by decide +kernel
theorem d3_62 : decode method_3_code 62 = .ok (.ireturn, 1) := by decide +kernel
theorem ef_rm3 (m : MethodId) (p1 : Int32) (p2 : Int32) : entryFrame m #[(.int p1), (.int p2)] 2 = mkF m 0 #[.val (.int p1), .val (.int p2)] [] := by first | (simp [entryFrame, mkF, argsToLocals, Value.category]; done) | rfl
def Q3 (Z : State) (p1 : Int32) (p2 : Int32) (h0 : Heap) (n0 : Nat) (v : Option Value) (h : Heap) (L : List Loc) : Prop := ∃ r : Int32, v = some (.int r) ∧ r = (if p1 = (0 : Int32) then (if p2 = (0 : Int32) then (1 : Int32) else (0 : Int32)) else (if p1 = (2 : Int32) then (if p2 < (2 : Int32) then (0 : Int32) else (1 : Int32)) else (if p1 = (3 : Int32) then (if p2 < (2 : Int32) then (0 : Int32) else (1 : Int32)) else (if p1 = (9 : Int32) then (if p2 = (2 : Int32) then (1 : Int32) else (0 : Int32)) else (if p2 = (1 : Int32) then (1 : Int32) else (0 : Int32)))))) ∧ Fr n0 L ∧ h = h0
set_option maxRecDepth 65536 in
set_option maxHeartbeats 40000000 in
theorem rm3 (l : Launch) (Z : State) (a0 : Array Value) (hw : ∀ d ∈ tables_1, d.before a0 Z = true) (ws : List Jvm.Cond) (p1 : Int32) (p2 : Int32) (h0 : Heap) (n0 : Nat) (Z0 : n0 ≤ h0.size) :
    MetFree l (⟨"com/example/always_over_paths/alwaysoverpaths/property/KindTakesPinLaw", "expected", "(II)Z"⟩ : MethodName) (head1 (Jvm.Cond.code (⟨"com/example/always_over_paths/alwaysoverpaths/property/KindTakesPinLaw", "expected", "(II)Z"⟩ : MethodName) method_3_code 2 (some .boolean) :: ws) ({ frames := 0, cells := 0, slots := 0, locals := 0 } : Room)) (fun a U => a = #[(.int p1), (.int p2)] ∧ Z.Warmed39 U.vm ∧ U.heap = h0) (fun _ _ _ _ _ => True) (fun _ U o U' => ∃ v L, o = .returned v ∧ Q3 Z p1 p2 h0 n0 v U'.heap L ∧ FrameEnd U o U' L ({ frames := 0, cells := 0, slots := 0, locals := 0 } : Room).cells ({ frames := 0, cells := 0, slots := 0, locals := 0 } : Room).slots) := by
  refine MetFree.of_bodySF (plainFor_of_name pn_0) hisR ?_
  intro p e s m args below meth c s₁ Bd hml0 hP hK
  obtain ⟨rfl, hZ, hh⟩ := hP
  have hx := Bd.exec
  have hby := Bd.bytes
  have hml : c.maxLocals = 2 := hml0
  have hown : s.vm.findClass "com/example/always_over_paths/alwaysoverpaths/property/KindTakesPinLaw" = some m.cls := findClass_of_methodNamed Bd.named
  have hnm := (name_of_methodNamed Bd.named Bd.method).1
  have X0 : Stand p l e ({ frames := 0, cells := 0, slots := 0, locals := 0 } : Room) s m #[(.int p1), (.int p2)] below meth c s₁ [] 0 0 := Stand.of_body Bd
  have e0 : s₁.heap = h0 := by rw [← hh, Bd.state]; rfl
  have N0 := Fr.nil n0
  show GoalS p.tables e below s ({ frames := 0, cells := 0, slots := 0, locals := 0 } : Room).cells ({ frames := 0, cells := 0, slots := 0, locals := 0 } : Room).slots (Q3 Z p1 p2 h0 n0) (s₁.setTop (entryFrame m #[(.int p1), (.int p2)] 2))
  refine GoalS.lift (B := s₁.setTop (mkF m 0 #[.val (.int p1), .val (.int p2)] [])) (fun t k => castTop (ef_rm3 m p1 p2) k) ?_
  have K0 : Keep h0 h0 [] := Keep.refl _ _
  refine GoalS.lift (B := (s₁.setTop (mkF m 1 #[.val (.int p1), .val (.int p2)] [(.int p1)]))) (fun t k => ?_) ?_
  · show Steps p.tables e below (s₁.setTop (mkF m 0 #[.val (.int p1), .val (.int p2)] [])) _
    refine XS.iloadN X0.here hx rfl (hb hby d3_0) rfl ?_
    show Steps p.tables e below (s₁.setTop (mkF m 1 #[.val (.int p1), .val (.int p2)] [(.int p1)])) _
    exact k
  by_cases hc1_1 : p1 = (0 : Int32)
  · refine GoalS.lift (B := (s₁.setTop (mkF m 5 #[.val (.int p1), .val (.int p2)] [(.int p2)]))) (fun t k => ?_) ?_
    · show Steps p.tables e below (s₁.setTop (mkF m 1 #[.val (.int p1), .val (.int p2)] [(.int p1)])) _
      refine XS.ifNo X0.here hx rfl (hb hby d3_1) rfl ((if0 _ _).trans (teq hc1_1).2) ?_
      show Steps p.tables e below (s₁.setTop (mkF m 4 #[.val (.int p1), .val (.int p2)] [])) _
      refine XS.iloadN X0.here hx rfl (hb hby d3_4) rfl ?_
      show Steps p.tables e below (s₁.setTop (mkF m 5 #[.val (.int p1), .val (.int p2)] [(.int p2)])) _
      exact k
    by_cases hc5_2 : p2 = (0 : Int32)
    · obtain ⟨fs, hr, hrun, hended, hW, hsame⟩ := X0.leave (v := some (.int (1 : Int32))) (fun h => by rw [Bd.returns] at h; cases h)
      refine ⟨_, _, ?_, hrun, hended, _, _, rfl, ?_, ⟨_, rfl⟩, hW, hsame.mono (by decide) (by decide)⟩
      · show Steps p.tables e below (s₁.setTop (mkF m 5 #[.val (.int p1), .val (.int p2)] [(.int p2)])) _
        refine XS.ifNo X0.here hx rfl (hb hby d3_5) rfl ((if0 _ _).trans (teq hc5_2).2) ?_
        show Steps p.tables e below (s₁.setTop (mkF m 8 #[.val (.int p1), .val (.int p2)] [])) _
        refine XS.iconst X0.here hx rfl (hb hby d3_8) ?_
        show Steps p.tables e below (s₁.setTop (mkF m 9 #[.val (.int p1), .val (.int p2)] [(.int (1 : Int32))])) _
        refine XS.goto X0.here hx rfl (pc0 := 9) (pc' := 13) rfl (hb hby d3_9) (by decide) (by decide) ?_
        show Steps p.tables e below (s₁.setTop (mkF m 13 #[.val (.int p1), .val (.int p2)] [(.int (1 : Int32))])) _
        exact retN X0 hx (t := .boolean) Bd.returns (by simp) (hb hby d3_13) hr
      · show Q3 Z p1 p2 h0 n0 _ s₁.heap _
        exact ⟨_, rfl, (by simp only [if_pos hc1_1, if_pos hc5_2]), N0, e0⟩
    · obtain ⟨fs, hr, hrun, hended, hW, hsame⟩ := X0.leave (v := some (.int (0 : Int32))) (fun h => by rw [Bd.returns] at h; cases h)
      refine ⟨_, _, ?_, hrun, hended, _, _, rfl, ?_, ⟨_, rfl⟩, hW, hsame.mono (by decide) (by decide)⟩
      · show Steps p.tables e below (s₁.setTop (mkF m 5 #[.val (.int p1), .val (.int p2)] [(.int p2)])) _
        refine XS.ifYes X0.here hx rfl (pc0 := 5) (pc' := 12) rfl (hb hby d3_5) rfl ((if0 _ _).trans (feq hc5_2).2) (by decide) (by decide) ?_
        show Steps p.tables e below (s₁.setTop (mkF m 12 #[.val (.int p1), .val (.int p2)] [])) _
        refine XS.iconst X0.here hx rfl (hb hby d3_12) ?_
        show Steps p.tables e below (s₁.setTop (mkF m 13 #[.val (.int p1), .val (.int p2)] [(.int (0 : Int32))])) _
        exact retN X0 hx (t := .boolean) Bd.returns (by simp) (hb hby d3_13) hr
      · show Q3 Z p1 p2 h0 n0 _ s₁.heap _
        exact ⟨_, rfl, (by simp only [if_pos hc1_1, if_neg hc5_2]), N0, e0⟩
  · refine GoalS.lift (B := (s₁.setTop (mkF m 16 #[.val (.int p1), .val (.int p2)] [(.int (2 : Int32)), (.int p1)]))) (fun t k => ?_) ?_
    · show Steps p.tables e below (s₁.setTop (mkF m 1 #[.val (.int p1), .val (.int p2)] [(.int p1)])) _
      refine XS.ifYes X0.here hx rfl (pc0 := 1) (pc' := 14) rfl (hb hby d3_1) rfl ((if0 _ _).trans (feq hc1_1).2) (by decide) (by decide) ?_
      show Steps p.tables e below (s₁.setTop (mkF m 14 #[.val (.int p1), .val (.int p2)] [])) _
      refine XS.iloadN X0.here hx rfl (hb hby d3_14) rfl ?_
      show Steps p.tables e below (s₁.setTop (mkF m 15 #[.val (.int p1), .val (.int p2)] [(.int p1)])) _
      refine XS.iconst X0.here hx rfl (hb hby d3_15) ?_
      show Steps p.tables e below (s₁.setTop (mkF m 16 #[.val (.int p1), .val (.int p2)] [(.int (2 : Int32)), (.int p1)])) _
      exact k
    by_cases hc16_3 : p1 = (2 : Int32)
    · refine GoalS.lift (B := (s₁.setTop (mkF m 26 #[.val (.int p1), .val (.int p2)] [(.int (2 : Int32)), (.int p2)]))) (fun t k => ?_) ?_
      · show Steps p.tables e below (s₁.setTop (mkF m 16 #[.val (.int p1), .val (.int p2)] [(.int (2 : Int32)), (.int p1)])) _
        refine XS.icmpYes X0.here hx rfl (pc0 := 16) (pc' := 24) rfl (hb hby d3_16) rfl ((teq hc16_3).1) (by decide) (by decide) ?_
        show Steps p.tables e below (s₁.setTop (mkF m 24 #[.val (.int p1), .val (.int p2)] [])) _
        refine XS.iloadN X0.here hx rfl (hb hby d3_24) rfl ?_
        show Steps p.tables e below (s₁.setTop (mkF m 25 #[.val (.int p1), .val (.int p2)] [(.int p2)])) _
        refine XS.iconst X0.here hx rfl (hb hby d3_25) ?_
        show Steps p.tables e below (s₁.setTop (mkF m 26 #[.val (.int p1), .val (.int p2)] [(.int (2 : Int32)), (.int p2)])) _
        exact k
      by_cases hc26_4 : p2 < (2 : Int32)
      · obtain ⟨fs, hr, hrun, hended, hW, hsame⟩ := X0.leave (v := some (.int (0 : Int32))) (fun h => by rw [Bd.returns] at h; cases h)
        refine ⟨_, _, ?_, hrun, hended, _, _, rfl, ?_, ⟨_, rfl⟩, hW, hsame.mono (by decide) (by decide)⟩
        · show Steps p.tables e below (s₁.setTop (mkF m 26 #[.val (.int p1), .val (.int p2)] [(.int (2 : Int32)), (.int p2)])) _
          refine XS.icmpYes X0.here hx rfl (pc0 := 26) (pc' := 33) rfl (hb hby d3_26) rfl ((tlt hc26_4).1) (by decide) (by decide) ?_
          show Steps p.tables e below (s₁.setTop (mkF m 33 #[.val (.int p1), .val (.int p2)] [])) _
          refine XS.iconst X0.here hx rfl (hb hby d3_33) ?_
          show Steps p.tables e below (s₁.setTop (mkF m 34 #[.val (.int p1), .val (.int p2)] [(.int (0 : Int32))])) _
          exact retN X0 hx (t := .boolean) Bd.returns (by simp) (hb hby d3_34) hr
        · show Q3 Z p1 p2 h0 n0 _ s₁.heap _
          exact ⟨_, rfl, (by simp only [if_neg hc1_1, if_pos hc16_3, if_pos hc26_4]), N0, e0⟩
      · obtain ⟨fs, hr, hrun, hended, hW, hsame⟩ := X0.leave (v := some (.int (1 : Int32))) (fun h => by rw [Bd.returns] at h; cases h)
        refine ⟨_, _, ?_, hrun, hended, _, _, rfl, ?_, ⟨_, rfl⟩, hW, hsame.mono (by decide) (by decide)⟩
        · show Steps p.tables e below (s₁.setTop (mkF m 26 #[.val (.int p1), .val (.int p2)] [(.int (2 : Int32)), (.int p2)])) _
          refine XS.icmpNo X0.here hx rfl (hb hby d3_26) rfl ((flt hc26_4).1) ?_
          show Steps p.tables e below (s₁.setTop (mkF m 29 #[.val (.int p1), .val (.int p2)] [])) _
          refine XS.iconst X0.here hx rfl (hb hby d3_29) ?_
          show Steps p.tables e below (s₁.setTop (mkF m 30 #[.val (.int p1), .val (.int p2)] [(.int (1 : Int32))])) _
          refine XS.goto X0.here hx rfl (pc0 := 30) (pc' := 34) rfl (hb hby d3_30) (by decide) (by decide) ?_
          show Steps p.tables e below (s₁.setTop (mkF m 34 #[.val (.int p1), .val (.int p2)] [(.int (1 : Int32))])) _
          exact retN X0 hx (t := .boolean) Bd.returns (by simp) (hb hby d3_34) hr
        · show Q3 Z p1 p2 h0 n0 _ s₁.heap _
          exact ⟨_, rfl, (by simp only [if_neg hc1_1, if_pos hc16_3, if_neg hc26_4]), N0, e0⟩
    · refine GoalS.lift (B := (s₁.setTop (mkF m 21 #[.val (.int p1), .val (.int p2)] [(.int (3 : Int32)), (.int p1)]))) (fun t k => ?_) ?_
      · show Steps p.tables e below (s₁.setTop (mkF m 16 #[.val (.int p1), .val (.int p2)] [(.int (2 : Int32)), (.int p1)])) _
        refine XS.icmpNo X0.here hx rfl (hb hby d3_16) rfl ((feq hc16_3).1) ?_
        show Steps p.tables e below (s₁.setTop (mkF m 19 #[.val (.int p1), .val (.int p2)] [])) _
        refine XS.iloadN X0.here hx rfl (hb hby d3_19) rfl ?_
        show Steps p.tables e below (s₁.setTop (mkF m 20 #[.val (.int p1), .val (.int p2)] [(.int p1)])) _
        refine XS.iconst X0.here hx rfl (hb hby d3_20) ?_
        show Steps p.tables e below (s₁.setTop (mkF m 21 #[.val (.int p1), .val (.int p2)] [(.int (3 : Int32)), (.int p1)])) _
        exact k
      by_cases hc21_5 : p1 = (3 : Int32)
      · refine GoalS.lift (B := (s₁.setTop (mkF m 26 #[.val (.int p1), .val (.int p2)] [(.int (2 : Int32)), (.int p2)]))) (fun t k => ?_) ?_
        · show Steps p.tables e below (s₁.setTop (mkF m 21 #[.val (.int p1), .val (.int p2)] [(.int (3 : Int32)), (.int p1)])) _
          refine XS.icmpNo X0.here hx rfl (hb hby d3_21) rfl ((teq hc21_5).2) ?_
          show Steps p.tables e below (s₁.setTop (mkF m 24 #[.val (.int p1), .val (.int p2)] [])) _
          refine XS.iloadN X0.here hx rfl (hb hby d3_24) rfl ?_
          show Steps p.tables e below (s₁.setTop (mkF m 25 #[.val (.int p1), .val (.int p2)] [(.int p2)])) _
          refine XS.iconst X0.here hx rfl (hb hby d3_25) ?_
          show Steps p.tables e below (s₁.setTop (mkF m 26 #[.val (.int p1), .val (.int p2)] [(.int (2 : Int32)), (.int p2)])) _
          exact k
        by_cases hc26_6 : p2 < (2 : Int32)
        · obtain ⟨fs, hr, hrun, hended, hW, hsame⟩ := X0.leave (v := some (.int (0 : Int32))) (fun h => by rw [Bd.returns] at h; cases h)
          refine ⟨_, _, ?_, hrun, hended, _, _, rfl, ?_, ⟨_, rfl⟩, hW, hsame.mono (by decide) (by decide)⟩
          · show Steps p.tables e below (s₁.setTop (mkF m 26 #[.val (.int p1), .val (.int p2)] [(.int (2 : Int32)), (.int p2)])) _
            refine XS.icmpYes X0.here hx rfl (pc0 := 26) (pc' := 33) rfl (hb hby d3_26) rfl ((tlt hc26_6).1) (by decide) (by decide) ?_
            show Steps p.tables e below (s₁.setTop (mkF m 33 #[.val (.int p1), .val (.int p2)] [])) _
            refine XS.iconst X0.here hx rfl (hb hby d3_33) ?_
            show Steps p.tables e below (s₁.setTop (mkF m 34 #[.val (.int p1), .val (.int p2)] [(.int (0 : Int32))])) _
            exact retN X0 hx (t := .boolean) Bd.returns (by simp) (hb hby d3_34) hr
          · show Q3 Z p1 p2 h0 n0 _ s₁.heap _
            exact ⟨_, rfl, (by simp only [if_neg hc1_1, if_neg hc16_3, if_pos hc21_5, if_pos hc26_6]), N0, e0⟩
        · obtain ⟨fs, hr, hrun, hended, hW, hsame⟩ := X0.leave (v := some (.int (1 : Int32))) (fun h => by rw [Bd.returns] at h; cases h)
          refine ⟨_, _, ?_, hrun, hended, _, _, rfl, ?_, ⟨_, rfl⟩, hW, hsame.mono (by decide) (by decide)⟩
          · show Steps p.tables e below (s₁.setTop (mkF m 26 #[.val (.int p1), .val (.int p2)] [(.int (2 : Int32)), (.int p2)])) _
            refine XS.icmpNo X0.here hx rfl (hb hby d3_26) rfl ((flt hc26_6).1) ?_
            show Steps p.tables e below (s₁.setTop (mkF m 29 #[.val (.int p1), .val (.int p2)] [])) _
            refine XS.iconst X0.here hx rfl (hb hby d3_29) ?_
            show Steps p.tables e below (s₁.setTop (mkF m 30 #[.val (.int p1), .val (.int p2)] [(.int (1 : Int32))])) _
            refine XS.goto X0.here hx rfl (pc0 := 30) (pc' := 34) rfl (hb hby d3_30) (by decide) (by decide) ?_
            show Steps p.tables e below (s₁.setTop (mkF m 34 #[.val (.int p1), .val (.int p2)] [(.int (1 : Int32))])) _
            exact retN X0 hx (t := .boolean) Bd.returns (by simp) (hb hby d3_34) hr
          · show Q3 Z p1 p2 h0 n0 _ s₁.heap _
            exact ⟨_, rfl, (by simp only [if_neg hc1_1, if_neg hc16_3, if_pos hc21_5, if_neg hc26_6]), N0, e0⟩
      · refine GoalS.lift (B := (s₁.setTop (mkF m 38 #[.val (.int p1), .val (.int p2)] [(.int (9 : Int32)), (.int p1)]))) (fun t k => ?_) ?_
        · show Steps p.tables e below (s₁.setTop (mkF m 21 #[.val (.int p1), .val (.int p2)] [(.int (3 : Int32)), (.int p1)])) _
          refine XS.icmpYes X0.here hx rfl (pc0 := 21) (pc' := 35) rfl (hb hby d3_21) rfl ((feq hc21_5).2) (by decide) (by decide) ?_
          show Steps p.tables e below (s₁.setTop (mkF m 35 #[.val (.int p1), .val (.int p2)] [])) _
          refine XS.iloadN X0.here hx rfl (hb hby d3_35) rfl ?_
          show Steps p.tables e below (s₁.setTop (mkF m 36 #[.val (.int p1), .val (.int p2)] [(.int p1)])) _
          refine XS.bipush X0.here hx rfl (hb hby d3_36) ?_
          show Steps p.tables e below (s₁.setTop (mkF m 38 #[.val (.int p1), .val (.int p2)] [(.int (9 : Int32)), (.int p1)])) _
          exact k
        by_cases hc38_7 : p1 = (9 : Int32)
        · refine GoalS.lift (B := (s₁.setTop (mkF m 43 #[.val (.int p1), .val (.int p2)] [(.int (2 : Int32)), (.int p2)]))) (fun t k => ?_) ?_
          · show Steps p.tables e below (s₁.setTop (mkF m 38 #[.val (.int p1), .val (.int p2)] [(.int (9 : Int32)), (.int p1)])) _
            refine XS.icmpNo X0.here hx rfl (hb hby d3_38) rfl ((teq hc38_7).2) ?_
            show Steps p.tables e below (s₁.setTop (mkF m 41 #[.val (.int p1), .val (.int p2)] [])) _
            refine XS.iloadN X0.here hx rfl (hb hby d3_41) rfl ?_
            show Steps p.tables e below (s₁.setTop (mkF m 42 #[.val (.int p1), .val (.int p2)] [(.int p2)])) _
            refine XS.iconst X0.here hx rfl (hb hby d3_42) ?_
            show Steps p.tables e below (s₁.setTop (mkF m 43 #[.val (.int p1), .val (.int p2)] [(.int (2 : Int32)), (.int p2)])) _
            exact k
          by_cases hc43_8 : p2 = (2 : Int32)
          · obtain ⟨fs, hr, hrun, hended, hW, hsame⟩ := X0.leave (v := some (.int (1 : Int32))) (fun h => by rw [Bd.returns] at h; cases h)
            refine ⟨_, _, ?_, hrun, hended, _, _, rfl, ?_, ⟨_, rfl⟩, hW, hsame.mono (by decide) (by decide)⟩
            · show Steps p.tables e below (s₁.setTop (mkF m 43 #[.val (.int p1), .val (.int p2)] [(.int (2 : Int32)), (.int p2)])) _
              refine XS.icmpNo X0.here hx rfl (hb hby d3_43) rfl ((teq hc43_8).2) ?_
              show Steps p.tables e below (s₁.setTop (mkF m 46 #[.val (.int p1), .val (.int p2)] [])) _
              refine XS.iconst X0.here hx rfl (hb hby d3_46) ?_
              show Steps p.tables e below (s₁.setTop (mkF m 47 #[.val (.int p1), .val (.int p2)] [(.int (1 : Int32))])) _
              refine XS.goto X0.here hx rfl (pc0 := 47) (pc' := 51) rfl (hb hby d3_47) (by decide) (by decide) ?_
              show Steps p.tables e below (s₁.setTop (mkF m 51 #[.val (.int p1), .val (.int p2)] [(.int (1 : Int32))])) _
              exact retN X0 hx (t := .boolean) Bd.returns (by simp) (hb hby d3_51) hr
            · show Q3 Z p1 p2 h0 n0 _ s₁.heap _
              exact ⟨_, rfl, (by simp only [if_neg hc1_1, if_neg hc16_3, if_neg hc21_5, if_pos hc38_7, if_pos hc43_8]), N0, e0⟩
          · obtain ⟨fs, hr, hrun, hended, hW, hsame⟩ := X0.leave (v := some (.int (0 : Int32))) (fun h => by rw [Bd.returns] at h; cases h)
            refine ⟨_, _, ?_, hrun, hended, _, _, rfl, ?_, ⟨_, rfl⟩, hW, hsame.mono (by decide) (by decide)⟩
            · show Steps p.tables e below (s₁.setTop (mkF m 43 #[.val (.int p1), .val (.int p2)] [(.int (2 : Int32)), (.int p2)])) _
              refine XS.icmpYes X0.here hx rfl (pc0 := 43) (pc' := 50) rfl (hb hby d3_43) rfl ((feq hc43_8).2) (by decide) (by decide) ?_
              show Steps p.tables e below (s₁.setTop (mkF m 50 #[.val (.int p1), .val (.int p2)] [])) _
              refine XS.iconst X0.here hx rfl (hb hby d3_50) ?_
              show Steps p.tables e below (s₁.setTop (mkF m 51 #[.val (.int p1), .val (.int p2)] [(.int (0 : Int32))])) _
              exact retN X0 hx (t := .boolean) Bd.returns (by simp) (hb hby d3_51) hr
            · show Q3 Z p1 p2 h0 n0 _ s₁.heap _
              exact ⟨_, rfl, (by simp only [if_neg hc1_1, if_neg hc16_3, if_neg hc21_5, if_pos hc38_7, if_neg hc43_8]), N0, e0⟩
        · refine GoalS.lift (B := (s₁.setTop (mkF m 54 #[.val (.int p1), .val (.int p2)] [(.int (1 : Int32)), (.int p2)]))) (fun t k => ?_) ?_
          · show Steps p.tables e below (s₁.setTop (mkF m 38 #[.val (.int p1), .val (.int p2)] [(.int (9 : Int32)), (.int p1)])) _
            refine XS.icmpYes X0.here hx rfl (pc0 := 38) (pc' := 52) rfl (hb hby d3_38) rfl ((feq hc38_7).2) (by decide) (by decide) ?_
            show Steps p.tables e below (s₁.setTop (mkF m 52 #[.val (.int p1), .val (.int p2)] [])) _
            refine XS.iloadN X0.here hx rfl (hb hby d3_52) rfl ?_
            show Steps p.tables e below (s₁.setTop (mkF m 53 #[.val (.int p1), .val (.int p2)] [(.int p2)])) _
            refine XS.iconst X0.here hx rfl (hb hby d3_53) ?_
            show Steps p.tables e below (s₁.setTop (mkF m 54 #[.val (.int p1), .val (.int p2)] [(.int (1 : Int32)), (.int p2)])) _
            exact k
          by_cases hc54_9 : p2 = (1 : Int32)
          · obtain ⟨fs, hr, hrun, hended, hW, hsame⟩ := X0.leave (v := some (.int (1 : Int32))) (fun h => by rw [Bd.returns] at h; cases h)
            refine ⟨_, _, ?_, hrun, hended, _, _, rfl, ?_, ⟨_, rfl⟩, hW, hsame.mono (by decide) (by decide)⟩
            · show Steps p.tables e below (s₁.setTop (mkF m 54 #[.val (.int p1), .val (.int p2)] [(.int (1 : Int32)), (.int p2)])) _
              refine XS.icmpNo X0.here hx rfl (hb hby d3_54) rfl ((teq hc54_9).2) ?_
              show Steps p.tables e below (s₁.setTop (mkF m 57 #[.val (.int p1), .val (.int p2)] [])) _
              refine XS.iconst X0.here hx rfl (hb hby d3_57) ?_
              show Steps p.tables e below (s₁.setTop (mkF m 58 #[.val (.int p1), .val (.int p2)] [(.int (1 : Int32))])) _
              refine XS.goto X0.here hx rfl (pc0 := 58) (pc' := 62) rfl (hb hby d3_58) (by decide) (by decide) ?_
              show Steps p.tables e below (s₁.setTop (mkF m 62 #[.val (.int p1), .val (.int p2)] [(.int (1 : Int32))])) _
              exact retN X0 hx (t := .boolean) Bd.returns (by simp) (hb hby d3_62) hr
            · show Q3 Z p1 p2 h0 n0 _ s₁.heap _
              exact ⟨_, rfl, (by simp only [if_neg hc1_1, if_neg hc16_3, if_neg hc21_5, if_neg hc38_7, if_pos hc54_9]), N0, e0⟩
          · obtain ⟨fs, hr, hrun, hended, hW, hsame⟩ := X0.leave (v := some (.int (0 : Int32))) (fun h => by rw [Bd.returns] at h; cases h)
            refine ⟨_, _, ?_, hrun, hended, _, _, rfl, ?_, ⟨_, rfl⟩, hW, hsame.mono (by decide) (by decide)⟩
            · show Steps p.tables e below (s₁.setTop (mkF m 54 #[.val (.int p1), .val (.int p2)] [(.int (1 : Int32)), (.int p2)])) _
              refine XS.icmpYes X0.here hx rfl (pc0 := 54) (pc' := 61) rfl (hb hby d3_54) rfl ((feq hc54_9).2) (by decide) (by decide) ?_
              show Steps p.tables e below (s₁.setTop (mkF m 61 #[.val (.int p1), .val (.int p2)] [])) _
              refine XS.iconst X0.here hx rfl (hb hby d3_61) ?_
              show Steps p.tables e below (s₁.setTop (mkF m 62 #[.val (.int p1), .val (.int p2)] [(.int (0 : Int32))])) _
              exact retN X0 hx (t := .boolean) Bd.returns (by simp) (hb hby d3_62) hr
            · show Q3 Z p1 p2 h0 n0 _ s₁.heap _
              exact ⟨_, rfl, (by simp only [if_neg hc1_1, if_neg hc16_3, if_neg hc21_5, if_neg hc38_7, if_neg hc54_9]), N0, e0⟩
theorem pd_0 : parseMethodDescriptor "(I)Lcom/example/always_over_paths/alwaysoverpaths/property/Formula$Kind;" = some ⟨[.int], some (.object "com/example/always_over_paths/alwaysoverpaths/property/Formula$Kind")⟩ := by decide +kernel
theorem pd_1 : parseMethodDescriptor "(I)Z" = some ⟨[.int], some .boolean⟩ := by decide +kernel
theorem pd_2 : parseMethodDescriptor "(II)Z" = some ⟨[.int, .int], some .boolean⟩ := by decide +kernel
theorem ef_rm0 (m : MethodId) (p1 : Int32) (p2 : Int32) (p3 : Int32) : entryFrame m #[(.int p1), (.int p2), (.int p3)] maxLocals = mkF m 0 #[.val (.int p1), .val (.int p2), .val (.int p3), .unset, .unset] [] := by first | (simp [entryFrame, mkF, argsToLocals, Value.category, maxLocals]; done) | rfl
def Q0 (Z : State) (p1 : Int32) (p2 : Int32) (p3 : Int32) (o_ATOM : Addr) (o_NEGATION : Addr) (o_ALL_PATHS : Addr) (o_EXISTS_PATH : Addr) (o_GLOBALLY : Addr) (o_DISJUNCTION : Addr) (o_NEXT : Addr) (o_FINALLY : Addr) (o_UNTIL : Addr) (o_CONJUNCTION : Addr) (h0 : Heap) (n0 : Nat) (v : Option Value) (h : Heap) (L : List Loc) : Prop := v = some (.int (1 : Int32)) ∧ Fr n0 L
set_option maxRecDepth 65536 in
set_option maxHeartbeats 40000000 in
theorem rm0 (l : Launch) (Z : State) (a0 : Array Value) (hw : ∀ d ∈ tables_1, d.before a0 Z = true) (ws : List Jvm.Cond) (p1 : Int32) (p2 : Int32) (p3 : Int32) (o_ATOM : Addr) (o_NEGATION : Addr) (o_ALL_PATHS : Addr) (o_EXISTS_PATH : Addr) (o_GLOBALLY : Addr) (o_DISJUNCTION : Addr) (o_NEXT : Addr) (o_FINALLY : Addr) (o_UNTIL : Addr) (o_CONJUNCTION : Addr) (h0 : Heap) (n0 : Nat) (Z0 : n0 ≤ h0.size) (S_ATOM : Sta Z h0 "com/example/always_over_paths/alwaysoverpaths/property/Formula$Kind" "ATOM" "Lcom/example/always_over_paths/alwaysoverpaths/property/Formula$Kind;" (.ref o_ATOM)) (E_o_ATOM : Exa Z h0 o_ATOM "com/example/always_over_paths/alwaysoverpaths/property/Formula$Kind") (S_NEGATION : Sta Z h0 "com/example/always_over_paths/alwaysoverpaths/property/Formula$Kind" "NEGATION" "Lcom/example/always_over_paths/alwaysoverpaths/property/Formula$Kind;" (.ref o_NEGATION)) (E_o_NEGATION : Exa Z h0 o_NEGATION "com/example/always_over_paths/alwaysoverpaths/property/Formula$Kind") (S_ALL_PATHS : Sta Z h0 "com/example/always_over_paths/alwaysoverpaths/property/Formula$Kind" "ALL_PATHS" "Lcom/example/always_over_paths/alwaysoverpaths/property/Formula$Kind;" (.ref o_ALL_PATHS)) (E_o_ALL_PATHS : Exa Z h0 o_ALL_PATHS "com/example/always_over_paths/alwaysoverpaths/property/Formula$Kind") (S_EXISTS_PATH : Sta Z h0 "com/example/always_over_paths/alwaysoverpaths/property/Formula$Kind" "EXISTS_PATH" "Lcom/example/always_over_paths/alwaysoverpaths/property/Formula$Kind;" (.ref o_EXISTS_PATH)) (E_o_EXISTS_PATH : Exa Z h0 o_EXISTS_PATH "com/example/always_over_paths/alwaysoverpaths/property/Formula$Kind") (S_GLOBALLY : Sta Z h0 "com/example/always_over_paths/alwaysoverpaths/property/Formula$Kind" "GLOBALLY" "Lcom/example/always_over_paths/alwaysoverpaths/property/Formula$Kind;" (.ref o_GLOBALLY)) (E_o_GLOBALLY : Exa Z h0 o_GLOBALLY "com/example/always_over_paths/alwaysoverpaths/property/Formula$Kind") (S_DISJUNCTION : Sta Z h0 "com/example/always_over_paths/alwaysoverpaths/property/Formula$Kind" "DISJUNCTION" "Lcom/example/always_over_paths/alwaysoverpaths/property/Formula$Kind;" (.ref o_DISJUNCTION)) (E_o_DISJUNCTION : Exa Z h0 o_DISJUNCTION "com/example/always_over_paths/alwaysoverpaths/property/Formula$Kind") (S_NEXT : Sta Z h0 "com/example/always_over_paths/alwaysoverpaths/property/Formula$Kind" "NEXT" "Lcom/example/always_over_paths/alwaysoverpaths/property/Formula$Kind;" (.ref o_NEXT)) (E_o_NEXT : Exa Z h0 o_NEXT "com/example/always_over_paths/alwaysoverpaths/property/Formula$Kind") (S_FINALLY : Sta Z h0 "com/example/always_over_paths/alwaysoverpaths/property/Formula$Kind" "FINALLY" "Lcom/example/always_over_paths/alwaysoverpaths/property/Formula$Kind;" (.ref o_FINALLY)) (E_o_FINALLY : Exa Z h0 o_FINALLY "com/example/always_over_paths/alwaysoverpaths/property/Formula$Kind") (S_UNTIL : Sta Z h0 "com/example/always_over_paths/alwaysoverpaths/property/Formula$Kind" "UNTIL" "Lcom/example/always_over_paths/alwaysoverpaths/property/Formula$Kind;" (.ref o_UNTIL)) (E_o_UNTIL : Exa Z h0 o_UNTIL "com/example/always_over_paths/alwaysoverpaths/property/Formula$Kind") (S_CONJUNCTION : Sta Z h0 "com/example/always_over_paths/alwaysoverpaths/property/Formula$Kind" "CONJUNCTION" "Lcom/example/always_over_paths/alwaysoverpaths/property/Formula$Kind;" (.ref o_CONJUNCTION)) (E_o_CONJUNCTION : Exa Z h0 o_CONJUNCTION "com/example/always_over_paths/alwaysoverpaths/property/Formula$Kind") (F_minOperands_o_ATOM : Fld Z h0 o_ATOM "com/example/always_over_paths/alwaysoverpaths/property/Formula$Kind" "minOperands" "I" (.int (0 : Int32))) (F_maxOperands_o_ATOM : Fld Z h0 o_ATOM "com/example/always_over_paths/alwaysoverpaths/property/Formula$Kind" "maxOperands" "I" (.int (0 : Int32))) (F_minOperands_o_NEGATION : Fld Z h0 o_NEGATION "com/example/always_over_paths/alwaysoverpaths/property/Formula$Kind" "minOperands" "I" (.int (1 : Int32))) (F_maxOperands_o_NEGATION : Fld Z h0 o_NEGATION "com/example/always_over_paths/alwaysoverpaths/property/Formula$Kind" "maxOperands" "I" (.int (1 : Int32))) (F_minOperands_o_ALL_PATHS : Fld Z h0 o_ALL_PATHS "com/example/always_over_paths/alwaysoverpaths/property/Formula$Kind" "minOperands" "I" (.int (1 : Int32))) (F_minOperands_o_EXISTS_PATH : Fld Z h0 o_EXISTS_PATH "com/example/always_over_paths/alwaysoverpaths/property/Formula$Kind" "minOperands" "I" (.int (1 : Int32))) (F_minOperands_o_GLOBALLY : Fld Z h0 o_GLOBALLY "com/example/always_over_paths/alwaysoverpaths/property/Formula$Kind" "minOperands" "I" (.int (1 : Int32))) (F_maxOperands_o_ALL_PATHS : Fld Z h0 o_ALL_PATHS "com/example/always_over_paths/alwaysoverpaths/property/Formula$Kind" "maxOperands" "I" (.int (1 : Int32))) (F_minOperands_o_DISJUNCTION : Fld Z h0 o_DISJUNCTION "com/example/always_over_paths/alwaysoverpaths/property/Formula$Kind" "minOperands" "I" (.int (2 : Int32))) (F_maxOperands_o_DISJUNCTION : Fld Z h0 o_DISJUNCTION "com/example/always_over_paths/alwaysoverpaths/property/Formula$Kind" "maxOperands" "I" (.int (2147483647 : Int32))) (F_maxOperands_o_GLOBALLY : Fld Z h0 o_GLOBALLY "com/example/always_over_paths/alwaysoverpaths/property/Formula$Kind" "maxOperands" "I" (.int (1 : Int32))) (F_minOperands_o_NEXT : Fld Z h0 o_NEXT "com/example/always_over_paths/alwaysoverpaths/property/Formula$Kind" "minOperands" "I" (.int (1 : Int32))) (F_maxOperands_o_NEXT : Fld Z h0 o_NEXT "com/example/always_over_paths/alwaysoverpaths/property/Formula$Kind" "maxOperands" "I" (.int (1 : Int32))) (F_minOperands_o_FINALLY : Fld Z h0 o_FINALLY "com/example/always_over_paths/alwaysoverpaths/property/Formula$Kind" "minOperands" "I" (.int (1 : Int32))) (F_maxOperands_o_FINALLY : Fld Z h0 o_FINALLY "com/example/always_over_paths/alwaysoverpaths/property/Formula$Kind" "maxOperands" "I" (.int (1 : Int32))) (F_minOperands_o_UNTIL : Fld Z h0 o_UNTIL "com/example/always_over_paths/alwaysoverpaths/property/Formula$Kind" "minOperands" "I" (.int (2 : Int32))) (F_maxOperands_o_UNTIL : Fld Z h0 o_UNTIL "com/example/always_over_paths/alwaysoverpaths/property/Formula$Kind" "maxOperands" "I" (.int (2 : Int32))) (F_minOperands_o_CONJUNCTION : Fld Z h0 o_CONJUNCTION "com/example/always_over_paths/alwaysoverpaths/property/Formula$Kind" "minOperands" "I" (.int (2 : Int32))) (F_maxOperands_o_EXISTS_PATH : Fld Z h0 o_EXISTS_PATH "com/example/always_over_paths/alwaysoverpaths/property/Formula$Kind" "maxOperands" "I" (.int (1 : Int32))) (F_maxOperands_o_CONJUNCTION : Fld Z h0 o_CONJUNCTION "com/example/always_over_paths/alwaysoverpaths/property/Formula$Kind" "maxOperands" "I" (.int (2147483647 : Int32))) :
    MetFree l x (head1 (Jvm.Cond.code x code maxLocals ret :: ws) room_1) (fun a U => a = #[(.int p1), (.int p2), (.int p3)] ∧ Z.Warmed39 U.vm ∧ U.heap = h0) (fun _ _ _ _ _ => True) (fun _ U o U' => ∃ v L, o = .returned v ∧ Q0 Z p1 p2 p3 o_ATOM o_NEGATION o_ALL_PATHS o_EXISTS_PATH o_GLOBALLY o_DISJUNCTION o_NEXT o_FINALLY o_UNTIL o_CONJUNCTION h0 n0 v U'.heap L ∧ FrameEnd U o U' L 0 0) := by
  refine MetFree.of_bodySF (plainFor_of_name pn_0) hisR ?_
  intro p e s m args below meth c s₁ Bd hml0 hP hK
  obtain ⟨rfl, hZ, hh⟩ := hP
  have hx := Bd.exec
  have hby := Bd.bytes
  have hml : c.maxLocals = 5 := hml0
  have hown : s.vm.findClass "com/example/always_over_paths/alwaysoverpaths/property/KindTakesPinLaw" = some m.cls := findClass_of_methodNamed Bd.named
  have hnm := (name_of_methodNamed Bd.named Bd.method).1
  have X0 : Stand p l e room_1 s m #[(.int p1), (.int p2), (.int p3)] below meth c s₁ [] 0 0 := Stand.of_body Bd
  have e0 : s₁.heap = h0 := by rw [← hh, Bd.state]; rfl
  have N0 := Fr.nil n0
  show GoalS p.tables e below s 0 0 (Q0 Z p1 p2 p3 o_ATOM o_NEGATION o_ALL_PATHS o_EXISTS_PATH o_GLOBALLY o_DISJUNCTION o_NEXT o_FINALLY o_UNTIL o_CONJUNCTION h0 n0) (s₁.setTop (entryFrame m #[(.int p1), (.int p2), (.int p3)] maxLocals))
  refine GoalS.lift (B := s₁.setTop (mkF m 0 #[.val (.int p1), .val (.int p2), .val (.int p3), .unset, .unset] [])) (fun t k => castTop (ef_rm0 m p1 p2 p3) k) ?_
  refine GoalS.lift (B := (s₁.setTop (mkF m 7 #[.val (.int p1), .val (.int p2), .val (.int p3), .unset, .unset] [(.int ((p1 &&& (2147483647 : Int32)) % (10 : Int32)))]))) (fun t k => ?_) ?_
  · show Steps p.tables e below (s₁.setTop (mkF m 0 #[.val (.int p1), .val (.int p2), .val (.int p3), .unset, .unset] [])) _
    refine XS.iloadN X0.here hx rfl (hb hby at_0) rfl ?_
    show Steps p.tables e below (s₁.setTop (mkF m 1 #[.val (.int p1), .val (.int p2), .val (.int p3), .unset, .unset] [(.int p1)])) _
    refine X0.ldcInt hx hown (mvT hZ (hw _ (List.mem_of_getElem? (i := 0) rfl))) (g := (mkF m 1 #[.val (.int p1), .val (.int p2), .val (.int p3), .unset, .unset] [(.int p1)])) rfl (hb hby at_1) _ ?_
    show Steps p.tables e below (s₁.setTop (mkF m 3 #[.val (.int p1), .val (.int p2), .val (.int p3), .unset, .unset] [(.int (2147483647 : Int32)), (.int p1)])) _
    refine XS.iand X0.here hx rfl (hb hby at_3) rfl ?_
    show Steps p.tables e below (s₁.setTop (mkF m 4 #[.val (.int p1), .val (.int p2), .val (.int p3), .unset, .unset] [(.int (p1 &&& (2147483647 : Int32)))])) _
    refine XS.bipush X0.here hx rfl (hb hby at_4) ?_
    show Steps p.tables e below (s₁.setTop (mkF m 6 #[.val (.int p1), .val (.int p2), .val (.int p3), .unset, .unset] [(.int (10 : Int32)), (.int (p1 &&& (2147483647 : Int32)))])) _
    refine iremM X0 hx rfl (hb hby at_6) rfl (by decide) ?_
    exact k
  rcases own_ten p1 with hk6 | hk6 | hk6 | hk6 | hk6 | hk6 | hk6 | hk6 | hk6 | hk6
  · rw [hk6]
    refine GoalS.lift (B := (s₁.setTop (mkF m 11 #[.val (.int p1), .val (.int p2), .val (.int p3), .val (.int (0 : Int32)), .unset] [(.int (p3 &&& (1 : Int32)))]))) (fun t k => ?_) ?_
    · show Steps p.tables e below (s₁.setTop (mkF m 7 #[.val (.int p1), .val (.int p2), .val (.int p3), .unset, .unset] [(.int (0 : Int32))])) _
      refine XS.istoreN X0.here hx rfl (hb hby at_7) rfl (l' := #[.val (.int p1), .val (.int p2), .val (.int p3), .val (.int (0 : Int32)), .unset]) rfl ?_
      show Steps p.tables e below (s₁.setTop (mkF m 8 #[.val (.int p1), .val (.int p2), .val (.int p3), .val (.int (0 : Int32)), .unset] [])) _
      refine XS.iloadN X0.here hx rfl (hb hby at_8) rfl ?_
      show Steps p.tables e below (s₁.setTop (mkF m 9 #[.val (.int p1), .val (.int p2), .val (.int p3), .val (.int (0 : Int32)), .unset] [(.int p3)])) _
      refine XS.iconst X0.here hx rfl (hb hby at_9) ?_
      show Steps p.tables e below (s₁.setTop (mkF m 10 #[.val (.int p1), .val (.int p2), .val (.int p3), .val (.int (0 : Int32)), .unset] [(.int (1 : Int32)), (.int p3)])) _
      refine XS.iand X0.here hx rfl (hb hby at_10) rfl ?_
      show Steps p.tables e below (s₁.setTop (mkF m 11 #[.val (.int p1), .val (.int p2), .val (.int p3), .val (.int (0 : Int32)), .unset] [(.int (p3 &&& (1 : Int32)))])) _
      exact k
    suffices J11_1 : ∀ (i11_0 : Int32), i11_0 = (if (p3 &&& (1 : Int32)) = (0 : Int32) then p2 else ((p2 &&& (7 : Int32)) - (3 : Int32))) → GoalS p.tables e below s 0 0 (Q0 Z p1 p2 p3 o_ATOM o_NEGATION o_ALL_PATHS o_EXISTS_PATH o_GLOBALLY o_DISJUNCTION o_NEXT o_FINALLY o_UNTIL o_CONJUNCTION h0 n0) (s₁.setTop (mkF m 24 #[.val (.int p1), .val (.int p2), .val (.int p3), .val (.int (0 : Int32)), .unset] [(.int i11_0)])) by
      by_cases hc11_2 : (p3 &&& (1 : Int32)) = (0 : Int32)
      · refine GoalS.lift (B := (s₁.setTop (mkF m 24 #[.val (.int p1), .val (.int p2), .val (.int p3), .val (.int (0 : Int32)), .unset] [(.int p2)]))) (fun t k => ?_) ?_
        · show Steps p.tables e below (s₁.setTop (mkF m 11 #[.val (.int p1), .val (.int p2), .val (.int p3), .val (.int (0 : Int32)), .unset] [(.int (p3 &&& (1 : Int32)))])) _
          refine XS.ifYes X0.here hx rfl (pc0 := 11) (pc' := 23) rfl (hb hby at_11) rfl ((if0 _ _).trans (teq hc11_2).1) (by decide) (by decide) ?_
          show Steps p.tables e below (s₁.setTop (mkF m 23 #[.val (.int p1), .val (.int p2), .val (.int p3), .val (.int (0 : Int32)), .unset] [])) _
          refine XS.iloadN X0.here hx rfl (hb hby at_23) rfl ?_
          show Steps p.tables e below (s₁.setTop (mkF m 24 #[.val (.int p1), .val (.int p2), .val (.int p3), .val (.int (0 : Int32)), .unset] [(.int p2)])) _
          exact k
        exact J11_1 _ (by simp only [if_pos hc11_2])
      · refine GoalS.lift (B := (s₁.setTop (mkF m 24 #[.val (.int p1), .val (.int p2), .val (.int p3), .val (.int (0 : Int32)), .unset] [(.int ((p2 &&& (7 : Int32)) - (3 : Int32)))]))) (fun t k => ?_) ?_
        · show Steps p.tables e below (s₁.setTop (mkF m 11 #[.val (.int p1), .val (.int p2), .val (.int p3), .val (.int (0 : Int32)), .unset] [(.int (p3 &&& (1 : Int32)))])) _
          refine XS.ifNo X0.here hx rfl (hb hby at_11) rfl ((if0 _ _).trans (feq hc11_2).1) ?_
          show Steps p.tables e below (s₁.setTop (mkF m 14 #[.val (.int p1), .val (.int p2), .val (.int p3), .val (.int (0 : Int32)), .unset] [])) _
          refine XS.iloadN X0.here hx rfl (hb hby at_14) rfl ?_
          show Steps p.tables e below (s₁.setTop (mkF m 15 #[.val (.int p1), .val (.int p2), .val (.int p3), .val (.int (0 : Int32)), .unset] [(.int p2)])) _
          refine XS.bipush X0.here hx rfl (hb hby at_15) ?_
          show Steps p.tables e below (s₁.setTop (mkF m 17 #[.val (.int p1), .val (.int p2), .val (.int p3), .val (.int (0 : Int32)), .unset] [(.int (7 : Int32)), (.int p2)])) _
          refine XS.iand X0.here hx rfl (hb hby at_17) rfl ?_
          show Steps p.tables e below (s₁.setTop (mkF m 18 #[.val (.int p1), .val (.int p2), .val (.int p3), .val (.int (0 : Int32)), .unset] [(.int (p2 &&& (7 : Int32)))])) _
          refine XS.iconst X0.here hx rfl (hb hby at_18) ?_
          show Steps p.tables e below (s₁.setTop (mkF m 19 #[.val (.int p1), .val (.int p2), .val (.int p3), .val (.int (0 : Int32)), .unset] [(.int (3 : Int32)), (.int (p2 &&& (7 : Int32)))])) _
          refine XS.isub X0.here hx rfl (hb hby at_19) rfl ?_
          show Steps p.tables e below (s₁.setTop (mkF m 20 #[.val (.int p1), .val (.int p2), .val (.int p3), .val (.int (0 : Int32)), .unset] [(.int ((p2 &&& (7 : Int32)) - (3 : Int32)))])) _
          refine XS.goto X0.here hx rfl (pc0 := 20) (pc' := 24) rfl (hb hby at_20) (by decide) (by decide) ?_
          show Steps p.tables e below (s₁.setTop (mkF m 24 #[.val (.int p1), .val (.int p2), .val (.int p3), .val (.int (0 : Int32)), .unset] [(.int ((p2 &&& (7 : Int32)) - (3 : Int32)))])) _
          exact k
        exact J11_1 _ (by simp only [if_neg hc11_2])
    intro i11_0 h_i11_0
    obtain ⟨_, _, ⟨T3, L3, k3, n3⟩, -, X3, ⟨Lc3, hQ3, l3, y3, z3⟩, st3⟩ := Jvm.LawKit.callS X0 hx (y := (⟨"com/example/always_over_paths/alwaysoverpaths/property/KindTakesPinLaw", "kindOf", "(I)Lcom/example/always_over_paths/alwaysoverpaths/property/Formula$Kind;"⟩ : MethodName)) hown (mvT hZ (hw _ (List.mem_of_getElem? (i := 1) rfl))) (mvT hZ (hw _ (List.mem_of_getElem? (i := 2) rfl))) (mvT hZ (hw _ (List.mem_of_getElem? (i := 3) rfl))) (mvT hZ (hw _ (List.mem_of_getElem? (i := 4) rfl))) (by decide) (backOf (W := 0) (rm1 l Z a0 hw [] (0 : Int32) o_ATOM o_NEGATION o_ALL_PATHS o_EXISTS_PATH o_GLOBALLY o_DISJUNCTION o_NEXT o_FINALLY o_UNTIL o_CONJUNCTION h0 n0 Z0 S_ATOM S_NEGATION S_ALL_PATHS S_EXISTS_PATH S_GLOBALLY S_DISJUNCTION S_NEXT S_FINALLY S_UNTIL S_CONJUNCTION) hZ (hw _ (List.mem_of_getElem? (i := 4) rfl)) (hw _ (List.mem_of_getElem? (i := 3) rfl)) (by decide) (by decide)) (g := (mkF m 27 #[.val (.int p1), .val (.int p2), .val (.int p3), .val (.int (0 : Int32)), .val (.int i11_0)] [(.int (0 : Int32))])) rfl (by rw [hml]; rfl) (argsL := [(.int (0 : Int32))]) (rest := []) (lenOf pd_0 rfl) rfl (by show 2 * 0 + _ ≤ _; exact Nat.le_of_eq rfl) (hb hby at_27) (fun _ _ => ⟨rfl, e0, (by decide : 0 + 0 ≤ _), (by decide : 0 + 0 ≤ _)⟩)
    dsimp only [Pt.U, Pt.locs, Pt.cells, Pt.slots] at X3 l3 y3 z3 st3 hQ3
    subst l3 y3 z3
    obtain ⟨r3, rfl, hr3, N3q, eq3⟩ := hQ3
    have N3 := Fr.app N0 N3q
    have hqr3 : r3 = o_ATOM := by rw [hr3]; rfl
    refine GoalS.lift (B := (T3.setTop (mkF m 30 #[.val (.int p1), .val (.int p2), .val (.int p3), .val (.int (0 : Int32)), .val (.int i11_0)] [(.ref r3)]))) (fun t k => ?_) ?_
    · show Steps p.tables e below (s₁.setTop (mkF m 24 #[.val (.int p1), .val (.int p2), .val (.int p3), .val (.int (0 : Int32)), .unset] [(.int i11_0)])) _
      refine XS.istore X0.here hx rfl (hb hby at_24) rfl (l' := #[.val (.int p1), .val (.int p2), .val (.int p3), .val (.int (0 : Int32)), .val (.int i11_0)]) rfl ?_
      show Steps p.tables e below (s₁.setTop (mkF m 26 #[.val (.int p1), .val (.int p2), .val (.int p3), .val (.int (0 : Int32)), .val (.int i11_0)] [])) _
      refine XS.iloadN X0.here hx rfl (hb hby at_26) rfl ?_
      show Steps p.tables e below (s₁.setTop (mkF m 27 #[.val (.int p1), .val (.int p2), .val (.int p3), .val (.int (0 : Int32)), .val (.int i11_0)] [(.int (0 : Int32))])) _
      refine st3 _ ?_
      exact k
    rw [hqr3]
    obtain ⟨cq4, kq4, q4a, q4b, q4c⟩ := isOf hZ eq3 E_o_ATOM
    obtain ⟨_, _, ⟨T4, L4, k4, n4⟩, -, X4, ⟨Lc4, hQ4, l4, y4, z4⟩, st4⟩ := X3.virtualBack hx (y := (⟨"com/example/always_over_paths/alwaysoverpaths/property/Formula$Kind", "takes", "(I)Z"⟩ : MethodName)) (z := (⟨"com/example/always_over_paths/alwaysoverpaths/property/Formula$Kind", "takes", "(I)Z"⟩ : MethodName)) hown (mvT hZ (hw _ (List.mem_of_getElem? (i := 8) rfl))) (mvT hZ (hw _ (List.mem_of_getElem? (i := 9) rfl))) (notFace_of_selects (args := #[]) (mvT hZ (hw _ (List.mem_of_getElem? (i := 11) rfl)))) (mvT hZ (hw _ (List.mem_of_getElem? (i := 11) rfl))) (mvT hZ (hw _ (List.mem_of_getElem? (i := 10) rfl))) (by decide) (backOf (W := 0) (rm2 l Z a0 hw [] o_ATOM i11_0 (0 : Int32) (0 : Int32) h0 n0 Z0 F_minOperands_o_ATOM F_maxOperands_o_ATOM) hZ (hw _ (List.mem_of_getElem? (i := 12) rfl)) (hw _ (List.mem_of_getElem? (i := 6) rfl)) (by decide) (by decide)) q4a q4c (g := (mkF m 32 #[.val (.int p1), .val (.int p2), .val (.int p3), .val (.int (0 : Int32)), .val (.int i11_0)] [(.int i11_0), (.ref o_ATOM)])) rfl (by rw [hml]; rfl) (Steps.refl _) (argsL := [(.int i11_0)]) (rest := []) (lenOf pd_1 rfl) rfl (by show 2 * 0 + _ ≤ _; exact Nat.le_of_eq rfl) (hb hby at_32) (fun _ _ => ⟨rfl, eq3, (by decide : 0 + 0 ≤ _), (by decide : 0 + 0 ≤ _)⟩)
    dsimp only [Pt.U, Pt.locs, Pt.cells, Pt.slots] at X4 l4 y4 z4 st4 hQ4
    subst l4 y4 z4
    obtain ⟨r4, rfl, hr4, N4q, eq4⟩ := hQ4
    have N4 := Fr.app N3 N4q
    obtain ⟨_, _, ⟨T5, L5, k5, n5⟩, -, X5, ⟨Lc5, hQ5, l5, y5, z5⟩, st5⟩ := Jvm.LawKit.callS X4 hx (y := (⟨"com/example/always_over_paths/alwaysoverpaths/property/KindTakesPinLaw", "expected", "(II)Z"⟩ : MethodName)) hown (mvT hZ (hw _ (List.mem_of_getElem? (i := 17) rfl))) (mvT hZ (hw _ (List.mem_of_getElem? (i := 18) rfl))) (mvT hZ (hw _ (List.mem_of_getElem? (i := 3) rfl))) (mvT hZ (hw _ (List.mem_of_getElem? (i := 19) rfl))) (by decide) (backOf (W := 1) (rm3 l Z a0 hw [] (0 : Int32) i11_0 h0 n0 Z0) hZ (hw _ (List.mem_of_getElem? (i := 19) rfl)) (hw _ (List.mem_of_getElem? (i := 3) rfl)) (by decide) (by decide)) (g := (mkF m 38 #[.val (.int p1), .val (.int p2), .val (.int p3), .val (.int (0 : Int32)), .val (.int i11_0)] [(.int i11_0), (.int (0 : Int32)), (.int r4)])) rfl (by rw [hml]; rfl) (argsL := [(.int (0 : Int32)), (.int i11_0)]) (rest := [(.int r4)]) (lenOf pd_2 rfl) rfl (by show 2 * 0 + _ ≤ _; exact Nat.le_of_eq rfl) (hb hby at_38) (fun _ _ => ⟨rfl, eq4, (by decide : 0 + 0 ≤ _), (by decide : 0 + 0 ≤ _)⟩)
    dsimp only [Pt.U, Pt.locs, Pt.cells, Pt.slots] at X5 l5 y5 z5 st5 hQ5
    subst l5 y5 z5
    obtain ⟨r5, rfl, hr5, N5q, eq5⟩ := hQ5
    have N5 := Fr.app N4 N5q
    obtain ⟨fs, hr, hrun, hended, hW, hsame⟩ := X5.leave (v := some (.int (1 : Int32))) (fun h => by rw [Bd.returns] at h; cases h)
    refine ⟨_, _, ?_, hrun, hended, _, _, rfl, ?_, ⟨_, rfl⟩, hW, hsame.mono (by decide) (by decide)⟩
    · show Steps p.tables e below (T3.setTop (mkF m 30 #[.val (.int p1), .val (.int p2), .val (.int p3), .val (.int (0 : Int32)), .val (.int i11_0)] [(.ref o_ATOM)])) _
      refine XS.iload X3.here hx rfl (hb hby at_30) rfl ?_
      show Steps p.tables e below (T3.setTop (mkF m 32 #[.val (.int p1), .val (.int p2), .val (.int p3), .val (.int (0 : Int32)), .val (.int i11_0)] [(.int i11_0), (.ref o_ATOM)])) _
      refine st4.trans ?_
      show Steps p.tables e below (T4.setTop (mkF m 35 #[.val (.int p1), .val (.int p2), .val (.int p3), .val (.int (0 : Int32)), .val (.int i11_0)] [(.int r4)])) _
      refine XS.iloadN X4.here hx rfl (hb hby at_35) rfl ?_
      show Steps p.tables e below (T4.setTop (mkF m 36 #[.val (.int p1), .val (.int p2), .val (.int p3), .val (.int (0 : Int32)), .val (.int i11_0)] [(.int (0 : Int32)), (.int r4)])) _
      refine XS.iload X4.here hx rfl (hb hby at_36) rfl ?_
      show Steps p.tables e below (T4.setTop (mkF m 38 #[.val (.int p1), .val (.int p2), .val (.int p3), .val (.int (0 : Int32)), .val (.int i11_0)] [(.int i11_0), (.int (0 : Int32)), (.int r4)])) _
      refine st5 _ ?_
      show Steps p.tables e below (T5.setTop (mkF m 41 #[.val (.int p1), .val (.int p2), .val (.int p3), .val (.int (0 : Int32)), .val (.int i11_0)] [(.int r5), (.int r4)])) _
      refine XS.icmpNo X5.here hx rfl (hb hby at_41) rfl ((teq (by rw [hr4, hr5]; exact own_e0 _ : r4 = r5)).2) ?_
      show Steps p.tables e below (T5.setTop (mkF m 44 #[.val (.int p1), .val (.int p2), .val (.int p3), .val (.int (0 : Int32)), .val (.int i11_0)] [])) _
      refine XS.iconst X5.here hx rfl (hb hby at_44) ?_
      show Steps p.tables e below (T5.setTop (mkF m 45 #[.val (.int p1), .val (.int p2), .val (.int p3), .val (.int (0 : Int32)), .val (.int i11_0)] [(.int (1 : Int32))])) _
      refine XS.goto X5.here hx rfl (pc0 := 45) (pc' := 49) rfl (hb hby at_45) (by decide) (by decide) ?_
      show Steps p.tables e below (T5.setTop (mkF m 49 #[.val (.int p1), .val (.int p2), .val (.int p3), .val (.int (0 : Int32)), .val (.int i11_0)] [(.int (1 : Int32))])) _
      exact retN X5 hx (t := .boolean) Bd.returns (by simp) (hb hby at_49) hr
    · exact ⟨rfl, N5⟩
  · rw [hk6]
    refine GoalS.lift (B := (s₁.setTop (mkF m 11 #[.val (.int p1), .val (.int p2), .val (.int p3), .val (.int (1 : Int32)), .unset] [(.int (p3 &&& (1 : Int32)))]))) (fun t k => ?_) ?_
    · show Steps p.tables e below (s₁.setTop (mkF m 7 #[.val (.int p1), .val (.int p2), .val (.int p3), .unset, .unset] [(.int (1 : Int32))])) _
      refine XS.istoreN X0.here hx rfl (hb hby at_7) rfl (l' := #[.val (.int p1), .val (.int p2), .val (.int p3), .val (.int (1 : Int32)), .unset]) rfl ?_
      show Steps p.tables e below (s₁.setTop (mkF m 8 #[.val (.int p1), .val (.int p2), .val (.int p3), .val (.int (1 : Int32)), .unset] [])) _
      refine XS.iloadN X0.here hx rfl (hb hby at_8) rfl ?_
      show Steps p.tables e below (s₁.setTop (mkF m 9 #[.val (.int p1), .val (.int p2), .val (.int p3), .val (.int (1 : Int32)), .unset] [(.int p3)])) _
      refine XS.iconst X0.here hx rfl (hb hby at_9) ?_
      show Steps p.tables e below (s₁.setTop (mkF m 10 #[.val (.int p1), .val (.int p2), .val (.int p3), .val (.int (1 : Int32)), .unset] [(.int (1 : Int32)), (.int p3)])) _
      refine XS.iand X0.here hx rfl (hb hby at_10) rfl ?_
      show Steps p.tables e below (s₁.setTop (mkF m 11 #[.val (.int p1), .val (.int p2), .val (.int p3), .val (.int (1 : Int32)), .unset] [(.int (p3 &&& (1 : Int32)))])) _
      exact k
    suffices J11_6 : ∀ (i11_0 : Int32), i11_0 = (if (p3 &&& (1 : Int32)) = (0 : Int32) then p2 else ((p2 &&& (7 : Int32)) - (3 : Int32))) → GoalS p.tables e below s 0 0 (Q0 Z p1 p2 p3 o_ATOM o_NEGATION o_ALL_PATHS o_EXISTS_PATH o_GLOBALLY o_DISJUNCTION o_NEXT o_FINALLY o_UNTIL o_CONJUNCTION h0 n0) (s₁.setTop (mkF m 24 #[.val (.int p1), .val (.int p2), .val (.int p3), .val (.int (1 : Int32)), .unset] [(.int i11_0)])) by
      by_cases hc11_7 : (p3 &&& (1 : Int32)) = (0 : Int32)
      · refine GoalS.lift (B := (s₁.setTop (mkF m 24 #[.val (.int p1), .val (.int p2), .val (.int p3), .val (.int (1 : Int32)), .unset] [(.int p2)]))) (fun t k => ?_) ?_
        · show Steps p.tables e below (s₁.setTop (mkF m 11 #[.val (.int p1), .val (.int p2), .val (.int p3), .val (.int (1 : Int32)), .unset] [(.int (p3 &&& (1 : Int32)))])) _
          refine XS.ifYes X0.here hx rfl (pc0 := 11) (pc' := 23) rfl (hb hby at_11) rfl ((if0 _ _).trans (teq hc11_7).1) (by decide) (by decide) ?_
          show Steps p.tables e below (s₁.setTop (mkF m 23 #[.val (.int p1), .val (.int p2), .val (.int p3), .val (.int (1 : Int32)), .unset] [])) _
          refine XS.iloadN X0.here hx rfl (hb hby at_23) rfl ?_
          show Steps p.tables e below (s₁.setTop (mkF m 24 #[.val (.int p1), .val (.int p2), .val (.int p3), .val (.int (1 : Int32)), .unset] [(.int p2)])) _
          exact k
        exact J11_6 _ (by simp only [if_pos hc11_7])
      · refine GoalS.lift (B := (s₁.setTop (mkF m 24 #[.val (.int p1), .val (.int p2), .val (.int p3), .val (.int (1 : Int32)), .unset] [(.int ((p2 &&& (7 : Int32)) - (3 : Int32)))]))) (fun t k => ?_) ?_
        · show Steps p.tables e below (s₁.setTop (mkF m 11 #[.val (.int p1), .val (.int p2), .val (.int p3), .val (.int (1 : Int32)), .unset] [(.int (p3 &&& (1 : Int32)))])) _
          refine XS.ifNo X0.here hx rfl (hb hby at_11) rfl ((if0 _ _).trans (feq hc11_7).1) ?_
          show Steps p.tables e below (s₁.setTop (mkF m 14 #[.val (.int p1), .val (.int p2), .val (.int p3), .val (.int (1 : Int32)), .unset] [])) _
          refine XS.iloadN X0.here hx rfl (hb hby at_14) rfl ?_
          show Steps p.tables e below (s₁.setTop (mkF m 15 #[.val (.int p1), .val (.int p2), .val (.int p3), .val (.int (1 : Int32)), .unset] [(.int p2)])) _
          refine XS.bipush X0.here hx rfl (hb hby at_15) ?_
          show Steps p.tables e below (s₁.setTop (mkF m 17 #[.val (.int p1), .val (.int p2), .val (.int p3), .val (.int (1 : Int32)), .unset] [(.int (7 : Int32)), (.int p2)])) _
          refine XS.iand X0.here hx rfl (hb hby at_17) rfl ?_
          show Steps p.tables e below (s₁.setTop (mkF m 18 #[.val (.int p1), .val (.int p2), .val (.int p3), .val (.int (1 : Int32)), .unset] [(.int (p2 &&& (7 : Int32)))])) _
          refine XS.iconst X0.here hx rfl (hb hby at_18) ?_
          show Steps p.tables e below (s₁.setTop (mkF m 19 #[.val (.int p1), .val (.int p2), .val (.int p3), .val (.int (1 : Int32)), .unset] [(.int (3 : Int32)), (.int (p2 &&& (7 : Int32)))])) _
          refine XS.isub X0.here hx rfl (hb hby at_19) rfl ?_
          show Steps p.tables e below (s₁.setTop (mkF m 20 #[.val (.int p1), .val (.int p2), .val (.int p3), .val (.int (1 : Int32)), .unset] [(.int ((p2 &&& (7 : Int32)) - (3 : Int32)))])) _
          refine XS.goto X0.here hx rfl (pc0 := 20) (pc' := 24) rfl (hb hby at_20) (by decide) (by decide) ?_
          show Steps p.tables e below (s₁.setTop (mkF m 24 #[.val (.int p1), .val (.int p2), .val (.int p3), .val (.int (1 : Int32)), .unset] [(.int ((p2 &&& (7 : Int32)) - (3 : Int32)))])) _
          exact k
        exact J11_6 _ (by simp only [if_neg hc11_7])
    intro i11_0 h_i11_0
    obtain ⟨_, _, ⟨T8, L8, k8, n8⟩, -, X8, ⟨Lc8, hQ8, l8, y8, z8⟩, st8⟩ := Jvm.LawKit.callS X0 hx (y := (⟨"com/example/always_over_paths/alwaysoverpaths/property/KindTakesPinLaw", "kindOf", "(I)Lcom/example/always_over_paths/alwaysoverpaths/property/Formula$Kind;"⟩ : MethodName)) hown (mvT hZ (hw _ (List.mem_of_getElem? (i := 1) rfl))) (mvT hZ (hw _ (List.mem_of_getElem? (i := 2) rfl))) (mvT hZ (hw _ (List.mem_of_getElem? (i := 3) rfl))) (mvT hZ (hw _ (List.mem_of_getElem? (i := 4) rfl))) (by decide) (backOf (W := 0) (rm1 l Z a0 hw [] (1 : Int32) o_ATOM o_NEGATION o_ALL_PATHS o_EXISTS_PATH o_GLOBALLY o_DISJUNCTION o_NEXT o_FINALLY o_UNTIL o_CONJUNCTION h0 n0 Z0 S_ATOM S_NEGATION S_ALL_PATHS S_EXISTS_PATH S_GLOBALLY S_DISJUNCTION S_NEXT S_FINALLY S_UNTIL S_CONJUNCTION) hZ (hw _ (List.mem_of_getElem? (i := 4) rfl)) (hw _ (List.mem_of_getElem? (i := 3) rfl)) (by decide) (by decide)) (g := (mkF m 27 #[.val (.int p1), .val (.int p2), .val (.int p3), .val (.int (1 : Int32)), .val (.int i11_0)] [(.int (1 : Int32))])) rfl (by rw [hml]; rfl) (argsL := [(.int (1 : Int32))]) (rest := []) (lenOf pd_0 rfl) rfl (by show 2 * 0 + _ ≤ _; exact Nat.le_of_eq rfl) (hb hby at_27) (fun _ _ => ⟨rfl, e0, (by decide : 0 + 0 ≤ _), (by decide : 0 + 0 ≤ _)⟩)
    dsimp only [Pt.U, Pt.locs, Pt.cells, Pt.slots] at X8 l8 y8 z8 st8 hQ8
    subst l8 y8 z8
    obtain ⟨r8, rfl, hr8, N8q, eq8⟩ := hQ8
    have N8 := Fr.app N0 N8q
    have hqr8 : r8 = o_NEGATION := by rw [hr8]; rfl
    refine GoalS.lift (B := (T8.setTop (mkF m 30 #[.val (.int p1), .val (.int p2), .val (.int p3), .val (.int (1 : Int32)), .val (.int i11_0)] [(.ref r8)]))) (fun t k => ?_) ?_
    · show Steps p.tables e below (s₁.setTop (mkF m 24 #[.val (.int p1), .val (.int p2), .val (.int p3), .val (.int (1 : Int32)), .unset] [(.int i11_0)])) _
      refine XS.istore X0.here hx rfl (hb hby at_24) rfl (l' := #[.val (.int p1), .val (.int p2), .val (.int p3), .val (.int (1 : Int32)), .val (.int i11_0)]) rfl ?_
      show Steps p.tables e below (s₁.setTop (mkF m 26 #[.val (.int p1), .val (.int p2), .val (.int p3), .val (.int (1 : Int32)), .val (.int i11_0)] [])) _
      refine XS.iloadN X0.here hx rfl (hb hby at_26) rfl ?_
      show Steps p.tables e below (s₁.setTop (mkF m 27 #[.val (.int p1), .val (.int p2), .val (.int p3), .val (.int (1 : Int32)), .val (.int i11_0)] [(.int (1 : Int32))])) _
      refine st8 _ ?_
      exact k
    rw [hqr8]
    obtain ⟨cq9, kq9, q9a, q9b, q9c⟩ := isOf hZ eq8 E_o_NEGATION
    obtain ⟨_, _, ⟨T9, L9, k9, n9⟩, -, X9, ⟨Lc9, hQ9, l9, y9, z9⟩, st9⟩ := X8.virtualBack hx (y := (⟨"com/example/always_over_paths/alwaysoverpaths/property/Formula$Kind", "takes", "(I)Z"⟩ : MethodName)) (z := (⟨"com/example/always_over_paths/alwaysoverpaths/property/Formula$Kind", "takes", "(I)Z"⟩ : MethodName)) hown (mvT hZ (hw _ (List.mem_of_getElem? (i := 8) rfl))) (mvT hZ (hw _ (List.mem_of_getElem? (i := 9) rfl))) (notFace_of_selects (args := #[]) (mvT hZ (hw _ (List.mem_of_getElem? (i := 11) rfl)))) (mvT hZ (hw _ (List.mem_of_getElem? (i := 11) rfl))) (mvT hZ (hw _ (List.mem_of_getElem? (i := 10) rfl))) (by decide) (backOf (W := 0) (rm2 l Z a0 hw [] o_NEGATION i11_0 (1 : Int32) (1 : Int32) h0 n0 Z0 F_minOperands_o_NEGATION F_maxOperands_o_NEGATION) hZ (hw _ (List.mem_of_getElem? (i := 12) rfl)) (hw _ (List.mem_of_getElem? (i := 6) rfl)) (by decide) (by decide)) q9a q9c (g := (mkF m 32 #[.val (.int p1), .val (.int p2), .val (.int p3), .val (.int (1 : Int32)), .val (.int i11_0)] [(.int i11_0), (.ref o_NEGATION)])) rfl (by rw [hml]; rfl) (Steps.refl _) (argsL := [(.int i11_0)]) (rest := []) (lenOf pd_1 rfl) rfl (by show 2 * 0 + _ ≤ _; exact Nat.le_of_eq rfl) (hb hby at_32) (fun _ _ => ⟨rfl, eq8, (by decide : 0 + 0 ≤ _), (by decide : 0 + 0 ≤ _)⟩)
    dsimp only [Pt.U, Pt.locs, Pt.cells, Pt.slots] at X9 l9 y9 z9 st9 hQ9
    subst l9 y9 z9
    obtain ⟨r9, rfl, hr9, N9q, eq9⟩ := hQ9
    have N9 := Fr.app N8 N9q
    obtain ⟨_, _, ⟨T10, L10, k10, n10⟩, -, X10, ⟨Lc10, hQ10, l10, y10, z10⟩, st10⟩ := Jvm.LawKit.callS X9 hx (y := (⟨"com/example/always_over_paths/alwaysoverpaths/property/KindTakesPinLaw", "expected", "(II)Z"⟩ : MethodName)) hown (mvT hZ (hw _ (List.mem_of_getElem? (i := 17) rfl))) (mvT hZ (hw _ (List.mem_of_getElem? (i := 18) rfl))) (mvT hZ (hw _ (List.mem_of_getElem? (i := 3) rfl))) (mvT hZ (hw _ (List.mem_of_getElem? (i := 19) rfl))) (by decide) (backOf (W := 1) (rm3 l Z a0 hw [] (1 : Int32) i11_0 h0 n0 Z0) hZ (hw _ (List.mem_of_getElem? (i := 19) rfl)) (hw _ (List.mem_of_getElem? (i := 3) rfl)) (by decide) (by decide)) (g := (mkF m 38 #[.val (.int p1), .val (.int p2), .val (.int p3), .val (.int (1 : Int32)), .val (.int i11_0)] [(.int i11_0), (.int (1 : Int32)), (.int r9)])) rfl (by rw [hml]; rfl) (argsL := [(.int (1 : Int32)), (.int i11_0)]) (rest := [(.int r9)]) (lenOf pd_2 rfl) rfl (by show 2 * 0 + _ ≤ _; exact Nat.le_of_eq rfl) (hb hby at_38) (fun _ _ => ⟨rfl, eq9, (by decide : 0 + 0 ≤ _), (by decide : 0 + 0 ≤ _)⟩)
    dsimp only [Pt.U, Pt.locs, Pt.cells, Pt.slots] at X10 l10 y10 z10 st10 hQ10
    subst l10 y10 z10
    obtain ⟨r10, rfl, hr10, N10q, eq10⟩ := hQ10
    have N10 := Fr.app N9 N10q
    obtain ⟨fs, hr, hrun, hended, hW, hsame⟩ := X10.leave (v := some (.int (1 : Int32))) (fun h => by rw [Bd.returns] at h; cases h)
    refine ⟨_, _, ?_, hrun, hended, _, _, rfl, ?_, ⟨_, rfl⟩, hW, hsame.mono (by decide) (by decide)⟩
    · show Steps p.tables e below (T8.setTop (mkF m 30 #[.val (.int p1), .val (.int p2), .val (.int p3), .val (.int (1 : Int32)), .val (.int i11_0)] [(.ref o_NEGATION)])) _
      refine XS.iload X8.here hx rfl (hb hby at_30) rfl ?_
      show Steps p.tables e below (T8.setTop (mkF m 32 #[.val (.int p1), .val (.int p2), .val (.int p3), .val (.int (1 : Int32)), .val (.int i11_0)] [(.int i11_0), (.ref o_NEGATION)])) _
      refine st9.trans ?_
      show Steps p.tables e below (T9.setTop (mkF m 35 #[.val (.int p1), .val (.int p2), .val (.int p3), .val (.int (1 : Int32)), .val (.int i11_0)] [(.int r9)])) _
      refine XS.iloadN X9.here hx rfl (hb hby at_35) rfl ?_
      show Steps p.tables e below (T9.setTop (mkF m 36 #[.val (.int p1), .val (.int p2), .val (.int p3), .val (.int (1 : Int32)), .val (.int i11_0)] [(.int (1 : Int32)), (.int r9)])) _
      refine XS.iload X9.here hx rfl (hb hby at_36) rfl ?_
      show Steps p.tables e below (T9.setTop (mkF m 38 #[.val (.int p1), .val (.int p2), .val (.int p3), .val (.int (1 : Int32)), .val (.int i11_0)] [(.int i11_0), (.int (1 : Int32)), (.int r9)])) _
      refine st10 _ ?_
      show Steps p.tables e below (T10.setTop (mkF m 41 #[.val (.int p1), .val (.int p2), .val (.int p3), .val (.int (1 : Int32)), .val (.int i11_0)] [(.int r10), (.int r9)])) _
      refine XS.icmpNo X10.here hx rfl (hb hby at_41) rfl ((teq (by rw [hr9, hr10]; exact own_e1 _ : r9 = r10)).2) ?_
      show Steps p.tables e below (T10.setTop (mkF m 44 #[.val (.int p1), .val (.int p2), .val (.int p3), .val (.int (1 : Int32)), .val (.int i11_0)] [])) _
      refine XS.iconst X10.here hx rfl (hb hby at_44) ?_
      show Steps p.tables e below (T10.setTop (mkF m 45 #[.val (.int p1), .val (.int p2), .val (.int p3), .val (.int (1 : Int32)), .val (.int i11_0)] [(.int (1 : Int32))])) _
      refine XS.goto X10.here hx rfl (pc0 := 45) (pc' := 49) rfl (hb hby at_45) (by decide) (by decide) ?_
      show Steps p.tables e below (T10.setTop (mkF m 49 #[.val (.int p1), .val (.int p2), .val (.int p3), .val (.int (1 : Int32)), .val (.int i11_0)] [(.int (1 : Int32))])) _
      exact retN X10 hx (t := .boolean) Bd.returns (by simp) (hb hby at_49) hr
    · exact ⟨rfl, N10⟩
  · rw [hk6]
    refine GoalS.lift (B := (s₁.setTop (mkF m 11 #[.val (.int p1), .val (.int p2), .val (.int p3), .val (.int (2 : Int32)), .unset] [(.int (p3 &&& (1 : Int32)))]))) (fun t k => ?_) ?_
    · show Steps p.tables e below (s₁.setTop (mkF m 7 #[.val (.int p1), .val (.int p2), .val (.int p3), .unset, .unset] [(.int (2 : Int32))])) _
      refine XS.istoreN X0.here hx rfl (hb hby at_7) rfl (l' := #[.val (.int p1), .val (.int p2), .val (.int p3), .val (.int (2 : Int32)), .unset]) rfl ?_
      show Steps p.tables e below (s₁.setTop (mkF m 8 #[.val (.int p1), .val (.int p2), .val (.int p3), .val (.int (2 : Int32)), .unset] [])) _
      refine XS.iloadN X0.here hx rfl (hb hby at_8) rfl ?_
      show Steps p.tables e below (s₁.setTop (mkF m 9 #[.val (.int p1), .val (.int p2), .val (.int p3), .val (.int (2 : Int32)), .unset] [(.int p3)])) _
      refine XS.iconst X0.here hx rfl (hb hby at_9) ?_
      show Steps p.tables e below (s₁.setTop (mkF m 10 #[.val (.int p1), .val (.int p2), .val (.int p3), .val (.int (2 : Int32)), .unset] [(.int (1 : Int32)), (.int p3)])) _
      refine XS.iand X0.here hx rfl (hb hby at_10) rfl ?_
      show Steps p.tables e below (s₁.setTop (mkF m 11 #[.val (.int p1), .val (.int p2), .val (.int p3), .val (.int (2 : Int32)), .unset] [(.int (p3 &&& (1 : Int32)))])) _
      exact k
    suffices J11_11 : ∀ (i11_0 : Int32), i11_0 = (if (p3 &&& (1 : Int32)) = (0 : Int32) then p2 else ((p2 &&& (7 : Int32)) - (3 : Int32))) → GoalS p.tables e below s 0 0 (Q0 Z p1 p2 p3 o_ATOM o_NEGATION o_ALL_PATHS o_EXISTS_PATH o_GLOBALLY o_DISJUNCTION o_NEXT o_FINALLY o_UNTIL o_CONJUNCTION h0 n0) (s₁.setTop (mkF m 24 #[.val (.int p1), .val (.int p2), .val (.int p3), .val (.int (2 : Int32)), .unset] [(.int i11_0)])) by
      by_cases hc11_12 : (p3 &&& (1 : Int32)) = (0 : Int32)
      · refine GoalS.lift (B := (s₁.setTop (mkF m 24 #[.val (.int p1), .val (.int p2), .val (.int p3), .val (.int (2 : Int32)), .unset] [(.int p2)]))) (fun t k => ?_) ?_
        · show Steps p.tables e below (s₁.setTop (mkF m 11 #[.val (.int p1), .val (.int p2), .val (.int p3), .val (.int (2 : Int32)), .unset] [(.int (p3 &&& (1 : Int32)))])) _
          refine XS.ifYes X0.here hx rfl (pc0 := 11) (pc' := 23) rfl (hb hby at_11) rfl ((if0 _ _).trans (teq hc11_12).1) (by decide) (by decide) ?_
          show Steps p.tables e below (s₁.setTop (mkF m 23 #[.val (.int p1), .val (.int p2), .val (.int p3), .val (.int (2 : Int32)), .unset] [])) _
          refine XS.iloadN X0.here hx rfl (hb hby at_23) rfl ?_
          show Steps p.tables e below (s₁.setTop (mkF m 24 #[.val (.int p1), .val (.int p2), .val (.int p3), .val (.int (2 : Int32)), .unset] [(.int p2)])) _
          exact k
        exact J11_11 _ (by simp only [if_pos hc11_12])
      · refine GoalS.lift (B := (s₁.setTop (mkF m 24 #[.val (.int p1), .val (.int p2), .val (.int p3), .val (.int (2 : Int32)), .unset] [(.int ((p2 &&& (7 : Int32)) - (3 : Int32)))]))) (fun t k => ?_) ?_
        · show Steps p.tables e below (s₁.setTop (mkF m 11 #[.val (.int p1), .val (.int p2), .val (.int p3), .val (.int (2 : Int32)), .unset] [(.int (p3 &&& (1 : Int32)))])) _
          refine XS.ifNo X0.here hx rfl (hb hby at_11) rfl ((if0 _ _).trans (feq hc11_12).1) ?_
          show Steps p.tables e below (s₁.setTop (mkF m 14 #[.val (.int p1), .val (.int p2), .val (.int p3), .val (.int (2 : Int32)), .unset] [])) _
          refine XS.iloadN X0.here hx rfl (hb hby at_14) rfl ?_
          show Steps p.tables e below (s₁.setTop (mkF m 15 #[.val (.int p1), .val (.int p2), .val (.int p3), .val (.int (2 : Int32)), .unset] [(.int p2)])) _
          refine XS.bipush X0.here hx rfl (hb hby at_15) ?_
          show Steps p.tables e below (s₁.setTop (mkF m 17 #[.val (.int p1), .val (.int p2), .val (.int p3), .val (.int (2 : Int32)), .unset] [(.int (7 : Int32)), (.int p2)])) _
          refine XS.iand X0.here hx rfl (hb hby at_17) rfl ?_
          show Steps p.tables e below (s₁.setTop (mkF m 18 #[.val (.int p1), .val (.int p2), .val (.int p3), .val (.int (2 : Int32)), .unset] [(.int (p2 &&& (7 : Int32)))])) _
          refine XS.iconst X0.here hx rfl (hb hby at_18) ?_
          show Steps p.tables e below (s₁.setTop (mkF m 19 #[.val (.int p1), .val (.int p2), .val (.int p3), .val (.int (2 : Int32)), .unset] [(.int (3 : Int32)), (.int (p2 &&& (7 : Int32)))])) _
          refine XS.isub X0.here hx rfl (hb hby at_19) rfl ?_
          show Steps p.tables e below (s₁.setTop (mkF m 20 #[.val (.int p1), .val (.int p2), .val (.int p3), .val (.int (2 : Int32)), .unset] [(.int ((p2 &&& (7 : Int32)) - (3 : Int32)))])) _
          refine XS.goto X0.here hx rfl (pc0 := 20) (pc' := 24) rfl (hb hby at_20) (by decide) (by decide) ?_
          show Steps p.tables e below (s₁.setTop (mkF m 24 #[.val (.int p1), .val (.int p2), .val (.int p3), .val (.int (2 : Int32)), .unset] [(.int ((p2 &&& (7 : Int32)) - (3 : Int32)))])) _
          exact k
        exact J11_11 _ (by simp only [if_neg hc11_12])
    intro i11_0 h_i11_0
    obtain ⟨_, _, ⟨T13, L13, k13, n13⟩, -, X13, ⟨Lc13, hQ13, l13, y13, z13⟩, st13⟩ := Jvm.LawKit.callS X0 hx (y := (⟨"com/example/always_over_paths/alwaysoverpaths/property/KindTakesPinLaw", "kindOf", "(I)Lcom/example/always_over_paths/alwaysoverpaths/property/Formula$Kind;"⟩ : MethodName)) hown (mvT hZ (hw _ (List.mem_of_getElem? (i := 1) rfl))) (mvT hZ (hw _ (List.mem_of_getElem? (i := 2) rfl))) (mvT hZ (hw _ (List.mem_of_getElem? (i := 3) rfl))) (mvT hZ (hw _ (List.mem_of_getElem? (i := 4) rfl))) (by decide) (backOf (W := 0) (rm1 l Z a0 hw [] (2 : Int32) o_ATOM o_NEGATION o_ALL_PATHS o_EXISTS_PATH o_GLOBALLY o_DISJUNCTION o_NEXT o_FINALLY o_UNTIL o_CONJUNCTION h0 n0 Z0 S_ATOM S_NEGATION S_ALL_PATHS S_EXISTS_PATH S_GLOBALLY S_DISJUNCTION S_NEXT S_FINALLY S_UNTIL S_CONJUNCTION) hZ (hw _ (List.mem_of_getElem? (i := 4) rfl)) (hw _ (List.mem_of_getElem? (i := 3) rfl)) (by decide) (by decide)) (g := (mkF m 27 #[.val (.int p1), .val (.int p2), .val (.int p3), .val (.int (2 : Int32)), .val (.int i11_0)] [(.int (2 : Int32))])) rfl (by rw [hml]; rfl) (argsL := [(.int (2 : Int32))]) (rest := []) (lenOf pd_0 rfl) rfl (by show 2 * 0 + _ ≤ _; exact Nat.le_of_eq rfl) (hb hby at_27) (fun _ _ => ⟨rfl, e0, (by decide : 0 + 0 ≤ _), (by decide : 0 + 0 ≤ _)⟩)
    dsimp only [Pt.U, Pt.locs, Pt.cells, Pt.slots] at X13 l13 y13 z13 st13 hQ13
    subst l13 y13 z13
    obtain ⟨r13, rfl, hr13, N13q, eq13⟩ := hQ13
    have N13 := Fr.app N0 N13q
    have hqr13 : r13 = o_CONJUNCTION := by rw [hr13]; rfl
    refine GoalS.lift (B := (T13.setTop (mkF m 30 #[.val (.int p1), .val (.int p2), .val (.int p3), .val (.int (2 : Int32)), .val (.int i11_0)] [(.ref r13)]))) (fun t k => ?_) ?_
    · show Steps p.tables e below (s₁.setTop (mkF m 24 #[.val (.int p1), .val (.int p2), .val (.int p3), .val (.int (2 : Int32)), .unset] [(.int i11_0)])) _
      refine XS.istore X0.here hx rfl (hb hby at_24) rfl (l' := #[.val (.int p1), .val (.int p2), .val (.int p3), .val (.int (2 : Int32)), .val (.int i11_0)]) rfl ?_
      show Steps p.tables e below (s₁.setTop (mkF m 26 #[.val (.int p1), .val (.int p2), .val (.int p3), .val (.int (2 : Int32)), .val (.int i11_0)] [])) _
      refine XS.iloadN X0.here hx rfl (hb hby at_26) rfl ?_
      show Steps p.tables e below (s₁.setTop (mkF m 27 #[.val (.int p1), .val (.int p2), .val (.int p3), .val (.int (2 : Int32)), .val (.int i11_0)] [(.int (2 : Int32))])) _
      refine st13 _ ?_
      exact k
    rw [hqr13]
    obtain ⟨cq14, kq14, q14a, q14b, q14c⟩ := isOf hZ eq13 E_o_CONJUNCTION
    obtain ⟨_, _, ⟨T14, L14, k14, n14⟩, -, X14, ⟨Lc14, hQ14, l14, y14, z14⟩, st14⟩ := X13.virtualBack hx (y := (⟨"com/example/always_over_paths/alwaysoverpaths/property/Formula$Kind", "takes", "(I)Z"⟩ : MethodName)) (z := (⟨"com/example/always_over_paths/alwaysoverpaths/property/Formula$Kind", "takes", "(I)Z"⟩ : MethodName)) hown (mvT hZ (hw _ (List.mem_of_getElem? (i := 8) rfl))) (mvT hZ (hw _ (List.mem_of_getElem? (i := 9) rfl))) (notFace_of_selects (args := #[]) (mvT hZ (hw _ (List.mem_of_getElem? (i := 11) rfl)))) (mvT hZ (hw _ (List.mem_of_getElem? (i := 11) rfl))) (mvT hZ (hw _ (List.mem_of_getElem? (i := 10) rfl))) (by decide) (backOf (W := 0) (rm2 l Z a0 hw [] o_CONJUNCTION i11_0 (2 : Int32) (2147483647 : Int32) h0 n0 Z0 F_minOperands_o_CONJUNCTION F_maxOperands_o_CONJUNCTION) hZ (hw _ (List.mem_of_getElem? (i := 12) rfl)) (hw _ (List.mem_of_getElem? (i := 6) rfl)) (by decide) (by decide)) q14a q14c (g := (mkF m 32 #[.val (.int p1), .val (.int p2), .val (.int p3), .val (.int (2 : Int32)), .val (.int i11_0)] [(.int i11_0), (.ref o_CONJUNCTION)])) rfl (by rw [hml]; rfl) (Steps.refl _) (argsL := [(.int i11_0)]) (rest := []) (lenOf pd_1 rfl) rfl (by show 2 * 0 + _ ≤ _; exact Nat.le_of_eq rfl) (hb hby at_32) (fun _ _ => ⟨rfl, eq13, (by decide : 0 + 0 ≤ _), (by decide : 0 + 0 ≤ _)⟩)
    dsimp only [Pt.U, Pt.locs, Pt.cells, Pt.slots] at X14 l14 y14 z14 st14 hQ14
    subst l14 y14 z14
    obtain ⟨r14, rfl, hr14, N14q, eq14⟩ := hQ14
    have N14 := Fr.app N13 N14q
    obtain ⟨_, _, ⟨T15, L15, k15, n15⟩, -, X15, ⟨Lc15, hQ15, l15, y15, z15⟩, st15⟩ := Jvm.LawKit.callS X14 hx (y := (⟨"com/example/always_over_paths/alwaysoverpaths/property/KindTakesPinLaw", "expected", "(II)Z"⟩ : MethodName)) hown (mvT hZ (hw _ (List.mem_of_getElem? (i := 17) rfl))) (mvT hZ (hw _ (List.mem_of_getElem? (i := 18) rfl))) (mvT hZ (hw _ (List.mem_of_getElem? (i := 3) rfl))) (mvT hZ (hw _ (List.mem_of_getElem? (i := 19) rfl))) (by decide) (backOf (W := 1) (rm3 l Z a0 hw [] (2 : Int32) i11_0 h0 n0 Z0) hZ (hw _ (List.mem_of_getElem? (i := 19) rfl)) (hw _ (List.mem_of_getElem? (i := 3) rfl)) (by decide) (by decide)) (g := (mkF m 38 #[.val (.int p1), .val (.int p2), .val (.int p3), .val (.int (2 : Int32)), .val (.int i11_0)] [(.int i11_0), (.int (2 : Int32)), (.int r14)])) rfl (by rw [hml]; rfl) (argsL := [(.int (2 : Int32)), (.int i11_0)]) (rest := [(.int r14)]) (lenOf pd_2 rfl) rfl (by show 2 * 0 + _ ≤ _; exact Nat.le_of_eq rfl) (hb hby at_38) (fun _ _ => ⟨rfl, eq14, (by decide : 0 + 0 ≤ _), (by decide : 0 + 0 ≤ _)⟩)
    dsimp only [Pt.U, Pt.locs, Pt.cells, Pt.slots] at X15 l15 y15 z15 st15 hQ15
    subst l15 y15 z15
    obtain ⟨r15, rfl, hr15, N15q, eq15⟩ := hQ15
    have N15 := Fr.app N14 N15q
    obtain ⟨fs, hr, hrun, hended, hW, hsame⟩ := X15.leave (v := some (.int (1 : Int32))) (fun h => by rw [Bd.returns] at h; cases h)
    refine ⟨_, _, ?_, hrun, hended, _, _, rfl, ?_, ⟨_, rfl⟩, hW, hsame.mono (by decide) (by decide)⟩
    · show Steps p.tables e below (T13.setTop (mkF m 30 #[.val (.int p1), .val (.int p2), .val (.int p3), .val (.int (2 : Int32)), .val (.int i11_0)] [(.ref o_CONJUNCTION)])) _
      refine XS.iload X13.here hx rfl (hb hby at_30) rfl ?_
      show Steps p.tables e below (T13.setTop (mkF m 32 #[.val (.int p1), .val (.int p2), .val (.int p3), .val (.int (2 : Int32)), .val (.int i11_0)] [(.int i11_0), (.ref o_CONJUNCTION)])) _
      refine st14.trans ?_
      show Steps p.tables e below (T14.setTop (mkF m 35 #[.val (.int p1), .val (.int p2), .val (.int p3), .val (.int (2 : Int32)), .val (.int i11_0)] [(.int r14)])) _
      refine XS.iloadN X14.here hx rfl (hb hby at_35) rfl ?_
      show Steps p.tables e below (T14.setTop (mkF m 36 #[.val (.int p1), .val (.int p2), .val (.int p3), .val (.int (2 : Int32)), .val (.int i11_0)] [(.int (2 : Int32)), (.int r14)])) _
      refine XS.iload X14.here hx rfl (hb hby at_36) rfl ?_
      show Steps p.tables e below (T14.setTop (mkF m 38 #[.val (.int p1), .val (.int p2), .val (.int p3), .val (.int (2 : Int32)), .val (.int i11_0)] [(.int i11_0), (.int (2 : Int32)), (.int r14)])) _
      refine st15 _ ?_
      show Steps p.tables e below (T15.setTop (mkF m 41 #[.val (.int p1), .val (.int p2), .val (.int p3), .val (.int (2 : Int32)), .val (.int i11_0)] [(.int r15), (.int r14)])) _
      refine XS.icmpNo X15.here hx rfl (hb hby at_41) rfl ((teq (by rw [hr14, hr15]; exact own_e2 _ : r14 = r15)).2) ?_
      show Steps p.tables e below (T15.setTop (mkF m 44 #[.val (.int p1), .val (.int p2), .val (.int p3), .val (.int (2 : Int32)), .val (.int i11_0)] [])) _
      refine XS.iconst X15.here hx rfl (hb hby at_44) ?_
      show Steps p.tables e below (T15.setTop (mkF m 45 #[.val (.int p1), .val (.int p2), .val (.int p3), .val (.int (2 : Int32)), .val (.int i11_0)] [(.int (1 : Int32))])) _
      refine XS.goto X15.here hx rfl (pc0 := 45) (pc' := 49) rfl (hb hby at_45) (by decide) (by decide) ?_
      show Steps p.tables e below (T15.setTop (mkF m 49 #[.val (.int p1), .val (.int p2), .val (.int p3), .val (.int (2 : Int32)), .val (.int i11_0)] [(.int (1 : Int32))])) _
      exact retN X15 hx (t := .boolean) Bd.returns (by simp) (hb hby at_49) hr
    · exact ⟨rfl, N15⟩
  · rw [hk6]
    refine GoalS.lift (B := (s₁.setTop (mkF m 11 #[.val (.int p1), .val (.int p2), .val (.int p3), .val (.int (3 : Int32)), .unset] [(.int (p3 &&& (1 : Int32)))]))) (fun t k => ?_) ?_
    · show Steps p.tables e below (s₁.setTop (mkF m 7 #[.val (.int p1), .val (.int p2), .val (.int p3), .unset, .unset] [(.int (3 : Int32))])) _
      refine XS.istoreN X0.here hx rfl (hb hby at_7) rfl (l' := #[.val (.int p1), .val (.int p2), .val (.int p3), .val (.int (3 : Int32)), .unset]) rfl ?_
      show Steps p.tables e below (s₁.setTop (mkF m 8 #[.val (.int p1), .val (.int p2), .val (.int p3), .val (.int (3 : Int32)), .unset] [])) _
      refine XS.iloadN X0.here hx rfl (hb hby at_8) rfl ?_
      show Steps p.tables e below (s₁.setTop (mkF m 9 #[.val (.int p1), .val (.int p2), .val (.int p3), .val (.int (3 : Int32)), .unset] [(.int p3)])) _
      refine XS.iconst X0.here hx rfl (hb hby at_9) ?_
      show Steps p.tables e below (s₁.setTop (mkF m 10 #[.val (.int p1), .val (.int p2), .val (.int p3), .val (.int (3 : Int32)), .unset] [(.int (1 : Int32)), (.int p3)])) _
      refine XS.iand X0.here hx rfl (hb hby at_10) rfl ?_
      show Steps p.tables e below (s₁.setTop (mkF m 11 #[.val (.int p1), .val (.int p2), .val (.int p3), .val (.int (3 : Int32)), .unset] [(.int (p3 &&& (1 : Int32)))])) _
      exact k
    suffices J11_16 : ∀ (i11_0 : Int32), i11_0 = (if (p3 &&& (1 : Int32)) = (0 : Int32) then p2 else ((p2 &&& (7 : Int32)) - (3 : Int32))) → GoalS p.tables e below s 0 0 (Q0 Z p1 p2 p3 o_ATOM o_NEGATION o_ALL_PATHS o_EXISTS_PATH o_GLOBALLY o_DISJUNCTION o_NEXT o_FINALLY o_UNTIL o_CONJUNCTION h0 n0) (s₁.setTop (mkF m 24 #[.val (.int p1), .val (.int p2), .val (.int p3), .val (.int (3 : Int32)), .unset] [(.int i11_0)])) by
      by_cases hc11_17 : (p3 &&& (1 : Int32)) = (0 : Int32)
      · refine GoalS.lift (B := (s₁.setTop (mkF m 24 #[.val (.int p1), .val (.int p2), .val (.int p3), .val (.int (3 : Int32)), .unset] [(.int p2)]))) (fun t k => ?_) ?_
        · show Steps p.tables e below (s₁.setTop (mkF m 11 #[.val (.int p1), .val (.int p2), .val (.int p3), .val (.int (3 : Int32)), .unset] [(.int (p3 &&& (1 : Int32)))])) _
          refine XS.ifYes X0.here hx rfl (pc0 := 11) (pc' := 23) rfl (hb hby at_11) rfl ((if0 _ _).trans (teq hc11_17).1) (by decide) (by decide) ?_
          show Steps p.tables e below (s₁.setTop (mkF m 23 #[.val (.int p1), .val (.int p2), .val (.int p3), .val (.int (3 : Int32)), .unset] [])) _
          refine XS.iloadN X0.here hx rfl (hb hby at_23) rfl ?_
          show Steps p.tables e below (s₁.setTop (mkF m 24 #[.val (.int p1), .val (.int p2), .val (.int p3), .val (.int (3 : Int32)), .unset] [(.int p2)])) _
          exact k
        exact J11_16 _ (by simp only [if_pos hc11_17])
      · refine GoalS.lift (B := (s₁.setTop (mkF m 24 #[.val (.int p1), .val (.int p2), .val (.int p3), .val (.int (3 : Int32)), .unset] [(.int ((p2 &&& (7 : Int32)) - (3 : Int32)))]))) (fun t k => ?_) ?_
        · show Steps p.tables e below (s₁.setTop (mkF m 11 #[.val (.int p1), .val (.int p2), .val (.int p3), .val (.int (3 : Int32)), .unset] [(.int (p3 &&& (1 : Int32)))])) _
          refine XS.ifNo X0.here hx rfl (hb hby at_11) rfl ((if0 _ _).trans (feq hc11_17).1) ?_
          show Steps p.tables e below (s₁.setTop (mkF m 14 #[.val (.int p1), .val (.int p2), .val (.int p3), .val (.int (3 : Int32)), .unset] [])) _
          refine XS.iloadN X0.here hx rfl (hb hby at_14) rfl ?_
          show Steps p.tables e below (s₁.setTop (mkF m 15 #[.val (.int p1), .val (.int p2), .val (.int p3), .val (.int (3 : Int32)), .unset] [(.int p2)])) _
          refine XS.bipush X0.here hx rfl (hb hby at_15) ?_
          show Steps p.tables e below (s₁.setTop (mkF m 17 #[.val (.int p1), .val (.int p2), .val (.int p3), .val (.int (3 : Int32)), .unset] [(.int (7 : Int32)), (.int p2)])) _
          refine XS.iand X0.here hx rfl (hb hby at_17) rfl ?_
          show Steps p.tables e below (s₁.setTop (mkF m 18 #[.val (.int p1), .val (.int p2), .val (.int p3), .val (.int (3 : Int32)), .unset] [(.int (p2 &&& (7 : Int32)))])) _
          refine XS.iconst X0.here hx rfl (hb hby at_18) ?_
          show Steps p.tables e below (s₁.setTop (mkF m 19 #[.val (.int p1), .val (.int p2), .val (.int p3), .val (.int (3 : Int32)), .unset] [(.int (3 : Int32)), (.int (p2 &&& (7 : Int32)))])) _
          refine XS.isub X0.here hx rfl (hb hby at_19) rfl ?_
          show Steps p.tables e below (s₁.setTop (mkF m 20 #[.val (.int p1), .val (.int p2), .val (.int p3), .val (.int (3 : Int32)), .unset] [(.int ((p2 &&& (7 : Int32)) - (3 : Int32)))])) _
          refine XS.goto X0.here hx rfl (pc0 := 20) (pc' := 24) rfl (hb hby at_20) (by decide) (by decide) ?_
          show Steps p.tables e below (s₁.setTop (mkF m 24 #[.val (.int p1), .val (.int p2), .val (.int p3), .val (.int (3 : Int32)), .unset] [(.int ((p2 &&& (7 : Int32)) - (3 : Int32)))])) _
          exact k
        exact J11_16 _ (by simp only [if_neg hc11_17])
    intro i11_0 h_i11_0
    obtain ⟨_, _, ⟨T18, L18, k18, n18⟩, -, X18, ⟨Lc18, hQ18, l18, y18, z18⟩, st18⟩ := Jvm.LawKit.callS X0 hx (y := (⟨"com/example/always_over_paths/alwaysoverpaths/property/KindTakesPinLaw", "kindOf", "(I)Lcom/example/always_over_paths/alwaysoverpaths/property/Formula$Kind;"⟩ : MethodName)) hown (mvT hZ (hw _ (List.mem_of_getElem? (i := 1) rfl))) (mvT hZ (hw _ (List.mem_of_getElem? (i := 2) rfl))) (mvT hZ (hw _ (List.mem_of_getElem? (i := 3) rfl))) (mvT hZ (hw _ (List.mem_of_getElem? (i := 4) rfl))) (by decide) (backOf (W := 0) (rm1 l Z a0 hw [] (3 : Int32) o_ATOM o_NEGATION o_ALL_PATHS o_EXISTS_PATH o_GLOBALLY o_DISJUNCTION o_NEXT o_FINALLY o_UNTIL o_CONJUNCTION h0 n0 Z0 S_ATOM S_NEGATION S_ALL_PATHS S_EXISTS_PATH S_GLOBALLY S_DISJUNCTION S_NEXT S_FINALLY S_UNTIL S_CONJUNCTION) hZ (hw _ (List.mem_of_getElem? (i := 4) rfl)) (hw _ (List.mem_of_getElem? (i := 3) rfl)) (by decide) (by decide)) (g := (mkF m 27 #[.val (.int p1), .val (.int p2), .val (.int p3), .val (.int (3 : Int32)), .val (.int i11_0)] [(.int (3 : Int32))])) rfl (by rw [hml]; rfl) (argsL := [(.int (3 : Int32))]) (rest := []) (lenOf pd_0 rfl) rfl (by show 2 * 0 + _ ≤ _; exact Nat.le_of_eq rfl) (hb hby at_27) (fun _ _ => ⟨rfl, e0, (by decide : 0 + 0 ≤ _), (by decide : 0 + 0 ≤ _)⟩)
    dsimp only [Pt.U, Pt.locs, Pt.cells, Pt.slots] at X18 l18 y18 z18 st18 hQ18
    subst l18 y18 z18
    obtain ⟨r18, rfl, hr18, N18q, eq18⟩ := hQ18
    have N18 := Fr.app N0 N18q
    have hqr18 : r18 = o_DISJUNCTION := by rw [hr18]; rfl
    refine GoalS.lift (B := (T18.setTop (mkF m 30 #[.val (.int p1), .val (.int p2), .val (.int p3), .val (.int (3 : Int32)), .val (.int i11_0)] [(.ref r18)]))) (fun t k => ?_) ?_
    · show Steps p.tables e below (s₁.setTop (mkF m 24 #[.val (.int p1), .val (.int p2), .val (.int p3), .val (.int (3 : Int32)), .unset] [(.int i11_0)])) _
      refine XS.istore X0.here hx rfl (hb hby at_24) rfl (l' := #[.val (.int p1), .val (.int p2), .val (.int p3), .val (.int (3 : Int32)), .val (.int i11_0)]) rfl ?_
      show Steps p.tables e below (s₁.setTop (mkF m 26 #[.val (.int p1), .val (.int p2), .val (.int p3), .val (.int (3 : Int32)), .val (.int i11_0)] [])) _
      refine XS.iloadN X0.here hx rfl (hb hby at_26) rfl ?_
      show Steps p.tables e below (s₁.setTop (mkF m 27 #[.val (.int p1), .val (.int p2), .val (.int p3), .val (.int (3 : Int32)), .val (.int i11_0)] [(.int (3 : Int32))])) _
      refine st18 _ ?_
      exact k
    rw [hqr18]
    obtain ⟨cq19, kq19, q19a, q19b, q19c⟩ := isOf hZ eq18 E_o_DISJUNCTION
    obtain ⟨_, _, ⟨T19, L19, k19, n19⟩, -, X19, ⟨Lc19, hQ19, l19, y19, z19⟩, st19⟩ := X18.virtualBack hx (y := (⟨"com/example/always_over_paths/alwaysoverpaths/property/Formula$Kind", "takes", "(I)Z"⟩ : MethodName)) (z := (⟨"com/example/always_over_paths/alwaysoverpaths/property/Formula$Kind", "takes", "(I)Z"⟩ : MethodName)) hown (mvT hZ (hw _ (List.mem_of_getElem? (i := 8) rfl))) (mvT hZ (hw _ (List.mem_of_getElem? (i := 9) rfl))) (notFace_of_selects (args := #[]) (mvT hZ (hw _ (List.mem_of_getElem? (i := 11) rfl)))) (mvT hZ (hw _ (List.mem_of_getElem? (i := 11) rfl))) (mvT hZ (hw _ (List.mem_of_getElem? (i := 10) rfl))) (by decide) (backOf (W := 0) (rm2 l Z a0 hw [] o_DISJUNCTION i11_0 (2 : Int32) (2147483647 : Int32) h0 n0 Z0 F_minOperands_o_DISJUNCTION F_maxOperands_o_DISJUNCTION) hZ (hw _ (List.mem_of_getElem? (i := 12) rfl)) (hw _ (List.mem_of_getElem? (i := 6) rfl)) (by decide) (by decide)) q19a q19c (g := (mkF m 32 #[.val (.int p1), .val (.int p2), .val (.int p3), .val (.int (3 : Int32)), .val (.int i11_0)] [(.int i11_0), (.ref o_DISJUNCTION)])) rfl (by rw [hml]; rfl) (Steps.refl _) (argsL := [(.int i11_0)]) (rest := []) (lenOf pd_1 rfl) rfl (by show 2 * 0 + _ ≤ _; exact Nat.le_of_eq rfl) (hb hby at_32) (fun _ _ => ⟨rfl, eq18, (by decide : 0 + 0 ≤ _), (by decide : 0 + 0 ≤ _)⟩)
    dsimp only [Pt.U, Pt.locs, Pt.cells, Pt.slots] at X19 l19 y19 z19 st19 hQ19
    subst l19 y19 z19
    obtain ⟨r19, rfl, hr19, N19q, eq19⟩ := hQ19
    have N19 := Fr.app N18 N19q
    obtain ⟨_, _, ⟨T20, L20, k20, n20⟩, -, X20, ⟨Lc20, hQ20, l20, y20, z20⟩, st20⟩ := Jvm.LawKit.callS X19 hx (y := (⟨"com/example/always_over_paths/alwaysoverpaths/property/KindTakesPinLaw", "expected", "(II)Z"⟩ : MethodName)) hown (mvT hZ (hw _ (List.mem_of_getElem? (i := 17) rfl))) (mvT hZ (hw _ (List.mem_of_getElem? (i := 18) rfl))) (mvT hZ (hw _ (List.mem_of_getElem? (i := 3) rfl))) (mvT hZ (hw _ (List.mem_of_getElem? (i := 19) rfl))) (by decide) (backOf (W := 1) (rm3 l Z a0 hw [] (3 : Int32) i11_0 h0 n0 Z0) hZ (hw _ (List.mem_of_getElem? (i := 19) rfl)) (hw _ (List.mem_of_getElem? (i := 3) rfl)) (by decide) (by decide)) (g := (mkF m 38 #[.val (.int p1), .val (.int p2), .val (.int p3), .val (.int (3 : Int32)), .val (.int i11_0)] [(.int i11_0), (.int (3 : Int32)), (.int r19)])) rfl (by rw [hml]; rfl) (argsL := [(.int (3 : Int32)), (.int i11_0)]) (rest := [(.int r19)]) (lenOf pd_2 rfl) rfl (by show 2 * 0 + _ ≤ _; exact Nat.le_of_eq rfl) (hb hby at_38) (fun _ _ => ⟨rfl, eq19, (by decide : 0 + 0 ≤ _), (by decide : 0 + 0 ≤ _)⟩)
    dsimp only [Pt.U, Pt.locs, Pt.cells, Pt.slots] at X20 l20 y20 z20 st20 hQ20
    subst l20 y20 z20
    obtain ⟨r20, rfl, hr20, N20q, eq20⟩ := hQ20
    have N20 := Fr.app N19 N20q
    obtain ⟨fs, hr, hrun, hended, hW, hsame⟩ := X20.leave (v := some (.int (1 : Int32))) (fun h => by rw [Bd.returns] at h; cases h)
    refine ⟨_, _, ?_, hrun, hended, _, _, rfl, ?_, ⟨_, rfl⟩, hW, hsame.mono (by decide) (by decide)⟩
    · show Steps p.tables e below (T18.setTop (mkF m 30 #[.val (.int p1), .val (.int p2), .val (.int p3), .val (.int (3 : Int32)), .val (.int i11_0)] [(.ref o_DISJUNCTION)])) _
      refine XS.iload X18.here hx rfl (hb hby at_30) rfl ?_
      show Steps p.tables e below (T18.setTop (mkF m 32 #[.val (.int p1), .val (.int p2), .val (.int p3), .val (.int (3 : Int32)), .val (.int i11_0)] [(.int i11_0), (.ref o_DISJUNCTION)])) _
      refine st19.trans ?_
      show Steps p.tables e below (T19.setTop (mkF m 35 #[.val (.int p1), .val (.int p2), .val (.int p3), .val (.int (3 : Int32)), .val (.int i11_0)] [(.int r19)])) _
      refine XS.iloadN X19.here hx rfl (hb hby at_35) rfl ?_
      show Steps p.tables e below (T19.setTop (mkF m 36 #[.val (.int p1), .val (.int p2), .val (.int p3), .val (.int (3 : Int32)), .val (.int i11_0)] [(.int (3 : Int32)), (.int r19)])) _
      refine XS.iload X19.here hx rfl (hb hby at_36) rfl ?_
      show Steps p.tables e below (T19.setTop (mkF m 38 #[.val (.int p1), .val (.int p2), .val (.int p3), .val (.int (3 : Int32)), .val (.int i11_0)] [(.int i11_0), (.int (3 : Int32)), (.int r19)])) _
      refine st20 _ ?_
      show Steps p.tables e below (T20.setTop (mkF m 41 #[.val (.int p1), .val (.int p2), .val (.int p3), .val (.int (3 : Int32)), .val (.int i11_0)] [(.int r20), (.int r19)])) _
      refine XS.icmpNo X20.here hx rfl (hb hby at_41) rfl ((teq (by rw [hr19, hr20]; exact own_e2 _ : r19 = r20)).2) ?_
      show Steps p.tables e below (T20.setTop (mkF m 44 #[.val (.int p1), .val (.int p2), .val (.int p3), .val (.int (3 : Int32)), .val (.int i11_0)] [])) _
      refine XS.iconst X20.here hx rfl (hb hby at_44) ?_
      show Steps p.tables e below (T20.setTop (mkF m 45 #[.val (.int p1), .val (.int p2), .val (.int p3), .val (.int (3 : Int32)), .val (.int i11_0)] [(.int (1 : Int32))])) _
      refine XS.goto X20.here hx rfl (pc0 := 45) (pc' := 49) rfl (hb hby at_45) (by decide) (by decide) ?_
      show Steps p.tables e below (T20.setTop (mkF m 49 #[.val (.int p1), .val (.int p2), .val (.int p3), .val (.int (3 : Int32)), .val (.int i11_0)] [(.int (1 : Int32))])) _
      exact retN X20 hx (t := .boolean) Bd.returns (by simp) (hb hby at_49) hr
    · exact ⟨rfl, N20⟩
  · rw [hk6]
    refine GoalS.lift (B := (s₁.setTop (mkF m 11 #[.val (.int p1), .val (.int p2), .val (.int p3), .val (.int (4 : Int32)), .unset] [(.int (p3 &&& (1 : Int32)))]))) (fun t k => ?_) ?_
    · show Steps p.tables e below (s₁.setTop (mkF m 7 #[.val (.int p1), .val (.int p2), .val (.int p3), .unset, .unset] [(.int (4 : Int32))])) _
      refine XS.istoreN X0.here hx rfl (hb hby at_7) rfl (l' := #[.val (.int p1), .val (.int p2), .val (.int p3), .val (.int (4 : Int32)), .unset]) rfl ?_
      show Steps p.tables e below (s₁.setTop (mkF m 8 #[.val (.int p1), .val (.int p2), .val (.int p3), .val (.int (4 : Int32)), .unset] [])) _
      refine XS.iloadN X0.here hx rfl (hb hby at_8) rfl ?_
      show Steps p.tables e below (s₁.setTop (mkF m 9 #[.val (.int p1), .val (.int p2), .val (.int p3), .val (.int (4 : Int32)), .unset] [(.int p3)])) _
      refine XS.iconst X0.here hx rfl (hb hby at_9) ?_
      show Steps p.tables e below (s₁.setTop (mkF m 10 #[.val (.int p1), .val (.int p2), .val (.int p3), .val (.int (4 : Int32)), .unset] [(.int (1 : Int32)), (.int p3)])) _
      refine XS.iand X0.here hx rfl (hb hby at_10) rfl ?_
      show Steps p.tables e below (s₁.setTop (mkF m 11 #[.val (.int p1), .val (.int p2), .val (.int p3), .val (.int (4 : Int32)), .unset] [(.int (p3 &&& (1 : Int32)))])) _
      exact k
    suffices J11_21 : ∀ (i11_0 : Int32), i11_0 = (if (p3 &&& (1 : Int32)) = (0 : Int32) then p2 else ((p2 &&& (7 : Int32)) - (3 : Int32))) → GoalS p.tables e below s 0 0 (Q0 Z p1 p2 p3 o_ATOM o_NEGATION o_ALL_PATHS o_EXISTS_PATH o_GLOBALLY o_DISJUNCTION o_NEXT o_FINALLY o_UNTIL o_CONJUNCTION h0 n0) (s₁.setTop (mkF m 24 #[.val (.int p1), .val (.int p2), .val (.int p3), .val (.int (4 : Int32)), .unset] [(.int i11_0)])) by
      by_cases hc11_22 : (p3 &&& (1 : Int32)) = (0 : Int32)
      · refine GoalS.lift (B := (s₁.setTop (mkF m 24 #[.val (.int p1), .val (.int p2), .val (.int p3), .val (.int (4 : Int32)), .unset] [(.int p2)]))) (fun t k => ?_) ?_
        · show Steps p.tables e below (s₁.setTop (mkF m 11 #[.val (.int p1), .val (.int p2), .val (.int p3), .val (.int (4 : Int32)), .unset] [(.int (p3 &&& (1 : Int32)))])) _
          refine XS.ifYes X0.here hx rfl (pc0 := 11) (pc' := 23) rfl (hb hby at_11) rfl ((if0 _ _).trans (teq hc11_22).1) (by decide) (by decide) ?_
          show Steps p.tables e below (s₁.setTop (mkF m 23 #[.val (.int p1), .val (.int p2), .val (.int p3), .val (.int (4 : Int32)), .unset] [])) _
          refine XS.iloadN X0.here hx rfl (hb hby at_23) rfl ?_
          show Steps p.tables e below (s₁.setTop (mkF m 24 #[.val (.int p1), .val (.int p2), .val (.int p3), .val (.int (4 : Int32)), .unset] [(.int p2)])) _
          exact k
        exact J11_21 _ (by simp only [if_pos hc11_22])
      · refine GoalS.lift (B := (s₁.setTop (mkF m 24 #[.val (.int p1), .val (.int p2), .val (.int p3), .val (.int (4 : Int32)), .unset] [(.int ((p2 &&& (7 : Int32)) - (3 : Int32)))]))) (fun t k => ?_) ?_
        · show Steps p.tables e below (s₁.setTop (mkF m 11 #[.val (.int p1), .val (.int p2), .val (.int p3), .val (.int (4 : Int32)), .unset] [(.int (p3 &&& (1 : Int32)))])) _
          refine XS.ifNo X0.here hx rfl (hb hby at_11) rfl ((if0 _ _).trans (feq hc11_22).1) ?_
          show Steps p.tables e below (s₁.setTop (mkF m 14 #[.val (.int p1), .val (.int p2), .val (.int p3), .val (.int (4 : Int32)), .unset] [])) _
          refine XS.iloadN X0.here hx rfl (hb hby at_14) rfl ?_
          show Steps p.tables e below (s₁.setTop (mkF m 15 #[.val (.int p1), .val (.int p2), .val (.int p3), .val (.int (4 : Int32)), .unset] [(.int p2)])) _
          refine XS.bipush X0.here hx rfl (hb hby at_15) ?_
          show Steps p.tables e below (s₁.setTop (mkF m 17 #[.val (.int p1), .val (.int p2), .val (.int p3), .val (.int (4 : Int32)), .unset] [(.int (7 : Int32)), (.int p2)])) _
          refine XS.iand X0.here hx rfl (hb hby at_17) rfl ?_
          show Steps p.tables e below (s₁.setTop (mkF m 18 #[.val (.int p1), .val (.int p2), .val (.int p3), .val (.int (4 : Int32)), .unset] [(.int (p2 &&& (7 : Int32)))])) _
          refine XS.iconst X0.here hx rfl (hb hby at_18) ?_
          show Steps p.tables e below (s₁.setTop (mkF m 19 #[.val (.int p1), .val (.int p2), .val (.int p3), .val (.int (4 : Int32)), .unset] [(.int (3 : Int32)), (.int (p2 &&& (7 : Int32)))])) _
          refine XS.isub X0.here hx rfl (hb hby at_19) rfl ?_
          show Steps p.tables e below (s₁.setTop (mkF m 20 #[.val (.int p1), .val (.int p2), .val (.int p3), .val (.int (4 : Int32)), .unset] [(.int ((p2 &&& (7 : Int32)) - (3 : Int32)))])) _
          refine XS.goto X0.here hx rfl (pc0 := 20) (pc' := 24) rfl (hb hby at_20) (by decide) (by decide) ?_
          show Steps p.tables e below (s₁.setTop (mkF m 24 #[.val (.int p1), .val (.int p2), .val (.int p3), .val (.int (4 : Int32)), .unset] [(.int ((p2 &&& (7 : Int32)) - (3 : Int32)))])) _
          exact k
        exact J11_21 _ (by simp only [if_neg hc11_22])
    intro i11_0 h_i11_0
    obtain ⟨_, _, ⟨T23, L23, k23, n23⟩, -, X23, ⟨Lc23, hQ23, l23, y23, z23⟩, st23⟩ := Jvm.LawKit.callS X0 hx (y := (⟨"com/example/always_over_paths/alwaysoverpaths/property/KindTakesPinLaw", "kindOf", "(I)Lcom/example/always_over_paths/alwaysoverpaths/property/Formula$Kind;"⟩ : MethodName)) hown (mvT hZ (hw _ (List.mem_of_getElem? (i := 1) rfl))) (mvT hZ (hw _ (List.mem_of_getElem? (i := 2) rfl))) (mvT hZ (hw _ (List.mem_of_getElem? (i := 3) rfl))) (mvT hZ (hw _ (List.mem_of_getElem? (i := 4) rfl))) (by decide) (backOf (W := 0) (rm1 l Z a0 hw [] (4 : Int32) o_ATOM o_NEGATION o_ALL_PATHS o_EXISTS_PATH o_GLOBALLY o_DISJUNCTION o_NEXT o_FINALLY o_UNTIL o_CONJUNCTION h0 n0 Z0 S_ATOM S_NEGATION S_ALL_PATHS S_EXISTS_PATH S_GLOBALLY S_DISJUNCTION S_NEXT S_FINALLY S_UNTIL S_CONJUNCTION) hZ (hw _ (List.mem_of_getElem? (i := 4) rfl)) (hw _ (List.mem_of_getElem? (i := 3) rfl)) (by decide) (by decide)) (g := (mkF m 27 #[.val (.int p1), .val (.int p2), .val (.int p3), .val (.int (4 : Int32)), .val (.int i11_0)] [(.int (4 : Int32))])) rfl (by rw [hml]; rfl) (argsL := [(.int (4 : Int32))]) (rest := []) (lenOf pd_0 rfl) rfl (by show 2 * 0 + _ ≤ _; exact Nat.le_of_eq rfl) (hb hby at_27) (fun _ _ => ⟨rfl, e0, (by decide : 0 + 0 ≤ _), (by decide : 0 + 0 ≤ _)⟩)
    dsimp only [Pt.U, Pt.locs, Pt.cells, Pt.slots] at X23 l23 y23 z23 st23 hQ23
    subst l23 y23 z23
    obtain ⟨r23, rfl, hr23, N23q, eq23⟩ := hQ23
    have N23 := Fr.app N0 N23q
    have hqr23 : r23 = o_ALL_PATHS := by rw [hr23]; rfl
    refine GoalS.lift (B := (T23.setTop (mkF m 30 #[.val (.int p1), .val (.int p2), .val (.int p3), .val (.int (4 : Int32)), .val (.int i11_0)] [(.ref r23)]))) (fun t k => ?_) ?_
    · show Steps p.tables e below (s₁.setTop (mkF m 24 #[.val (.int p1), .val (.int p2), .val (.int p3), .val (.int (4 : Int32)), .unset] [(.int i11_0)])) _
      refine XS.istore X0.here hx rfl (hb hby at_24) rfl (l' := #[.val (.int p1), .val (.int p2), .val (.int p3), .val (.int (4 : Int32)), .val (.int i11_0)]) rfl ?_
      show Steps p.tables e below (s₁.setTop (mkF m 26 #[.val (.int p1), .val (.int p2), .val (.int p3), .val (.int (4 : Int32)), .val (.int i11_0)] [])) _
      refine XS.iloadN X0.here hx rfl (hb hby at_26) rfl ?_
      show Steps p.tables e below (s₁.setTop (mkF m 27 #[.val (.int p1), .val (.int p2), .val (.int p3), .val (.int (4 : Int32)), .val (.int i11_0)] [(.int (4 : Int32))])) _
      refine st23 _ ?_
      exact k
    rw [hqr23]
    obtain ⟨cq24, kq24, q24a, q24b, q24c⟩ := isOf hZ eq23 E_o_ALL_PATHS
    obtain ⟨_, _, ⟨T24, L24, k24, n24⟩, -, X24, ⟨Lc24, hQ24, l24, y24, z24⟩, st24⟩ := X23.virtualBack hx (y := (⟨"com/example/always_over_paths/alwaysoverpaths/property/Formula$Kind", "takes", "(I)Z"⟩ : MethodName)) (z := (⟨"com/example/always_over_paths/alwaysoverpaths/property/Formula$Kind", "takes", "(I)Z"⟩ : MethodName)) hown (mvT hZ (hw _ (List.mem_of_getElem? (i := 8) rfl))) (mvT hZ (hw _ (List.mem_of_getElem? (i := 9) rfl))) (notFace_of_selects (args := #[]) (mvT hZ (hw _ (List.mem_of_getElem? (i := 11) rfl)))) (mvT hZ (hw _ (List.mem_of_getElem? (i := 11) rfl))) (mvT hZ (hw _ (List.mem_of_getElem? (i := 10) rfl))) (by decide) (backOf (W := 0) (rm2 l Z a0 hw [] o_ALL_PATHS i11_0 (1 : Int32) (1 : Int32) h0 n0 Z0 F_minOperands_o_ALL_PATHS F_maxOperands_o_ALL_PATHS) hZ (hw _ (List.mem_of_getElem? (i := 12) rfl)) (hw _ (List.mem_of_getElem? (i := 6) rfl)) (by decide) (by decide)) q24a q24c (g := (mkF m 32 #[.val (.int p1), .val (.int p2), .val (.int p3), .val (.int (4 : Int32)), .val (.int i11_0)] [(.int i11_0), (.ref o_ALL_PATHS)])) rfl (by rw [hml]; rfl) (Steps.refl _) (argsL := [(.int i11_0)]) (rest := []) (lenOf pd_1 rfl) rfl (by show 2 * 0 + _ ≤ _; exact Nat.le_of_eq rfl) (hb hby at_32) (fun _ _ => ⟨rfl, eq23, (by decide : 0 + 0 ≤ _), (by decide : 0 + 0 ≤ _)⟩)
    dsimp only [Pt.U, Pt.locs, Pt.cells, Pt.slots] at X24 l24 y24 z24 st24 hQ24
    subst l24 y24 z24
    obtain ⟨r24, rfl, hr24, N24q, eq24⟩ := hQ24
    have N24 := Fr.app N23 N24q
    obtain ⟨_, _, ⟨T25, L25, k25, n25⟩, -, X25, ⟨Lc25, hQ25, l25, y25, z25⟩, st25⟩ := Jvm.LawKit.callS X24 hx (y := (⟨"com/example/always_over_paths/alwaysoverpaths/property/KindTakesPinLaw", "expected", "(II)Z"⟩ : MethodName)) hown (mvT hZ (hw _ (List.mem_of_getElem? (i := 17) rfl))) (mvT hZ (hw _ (List.mem_of_getElem? (i := 18) rfl))) (mvT hZ (hw _ (List.mem_of_getElem? (i := 3) rfl))) (mvT hZ (hw _ (List.mem_of_getElem? (i := 19) rfl))) (by decide) (backOf (W := 1) (rm3 l Z a0 hw [] (4 : Int32) i11_0 h0 n0 Z0) hZ (hw _ (List.mem_of_getElem? (i := 19) rfl)) (hw _ (List.mem_of_getElem? (i := 3) rfl)) (by decide) (by decide)) (g := (mkF m 38 #[.val (.int p1), .val (.int p2), .val (.int p3), .val (.int (4 : Int32)), .val (.int i11_0)] [(.int i11_0), (.int (4 : Int32)), (.int r24)])) rfl (by rw [hml]; rfl) (argsL := [(.int (4 : Int32)), (.int i11_0)]) (rest := [(.int r24)]) (lenOf pd_2 rfl) rfl (by show 2 * 0 + _ ≤ _; exact Nat.le_of_eq rfl) (hb hby at_38) (fun _ _ => ⟨rfl, eq24, (by decide : 0 + 0 ≤ _), (by decide : 0 + 0 ≤ _)⟩)
    dsimp only [Pt.U, Pt.locs, Pt.cells, Pt.slots] at X25 l25 y25 z25 st25 hQ25
    subst l25 y25 z25
    obtain ⟨r25, rfl, hr25, N25q, eq25⟩ := hQ25
    have N25 := Fr.app N24 N25q
    obtain ⟨fs, hr, hrun, hended, hW, hsame⟩ := X25.leave (v := some (.int (1 : Int32))) (fun h => by rw [Bd.returns] at h; cases h)
    refine ⟨_, _, ?_, hrun, hended, _, _, rfl, ?_, ⟨_, rfl⟩, hW, hsame.mono (by decide) (by decide)⟩
    · show Steps p.tables e below (T23.setTop (mkF m 30 #[.val (.int p1), .val (.int p2), .val (.int p3), .val (.int (4 : Int32)), .val (.int i11_0)] [(.ref o_ALL_PATHS)])) _
      refine XS.iload X23.here hx rfl (hb hby at_30) rfl ?_
      show Steps p.tables e below (T23.setTop (mkF m 32 #[.val (.int p1), .val (.int p2), .val (.int p3), .val (.int (4 : Int32)), .val (.int i11_0)] [(.int i11_0), (.ref o_ALL_PATHS)])) _
      refine st24.trans ?_
      show Steps p.tables e below (T24.setTop (mkF m 35 #[.val (.int p1), .val (.int p2), .val (.int p3), .val (.int (4 : Int32)), .val (.int i11_0)] [(.int r24)])) _
      refine XS.iloadN X24.here hx rfl (hb hby at_35) rfl ?_
      show Steps p.tables e below (T24.setTop (mkF m 36 #[.val (.int p1), .val (.int p2), .val (.int p3), .val (.int (4 : Int32)), .val (.int i11_0)] [(.int (4 : Int32)), (.int r24)])) _
      refine XS.iload X24.here hx rfl (hb hby at_36) rfl ?_
      show Steps p.tables e below (T24.setTop (mkF m 38 #[.val (.int p1), .val (.int p2), .val (.int p3), .val (.int (4 : Int32)), .val (.int i11_0)] [(.int i11_0), (.int (4 : Int32)), (.int r24)])) _
      refine st25 _ ?_
      show Steps p.tables e below (T25.setTop (mkF m 41 #[.val (.int p1), .val (.int p2), .val (.int p3), .val (.int (4 : Int32)), .val (.int i11_0)] [(.int r25), (.int r24)])) _
      refine XS.icmpNo X25.here hx rfl (hb hby at_41) rfl ((teq (by rw [hr24, hr25]; exact own_e1 _ : r24 = r25)).2) ?_
      show Steps p.tables e below (T25.setTop (mkF m 44 #[.val (.int p1), .val (.int p2), .val (.int p3), .val (.int (4 : Int32)), .val (.int i11_0)] [])) _
      refine XS.iconst X25.here hx rfl (hb hby at_44) ?_
      show Steps p.tables e below (T25.setTop (mkF m 45 #[.val (.int p1), .val (.int p2), .val (.int p3), .val (.int (4 : Int32)), .val (.int i11_0)] [(.int (1 : Int32))])) _
      refine XS.goto X25.here hx rfl (pc0 := 45) (pc' := 49) rfl (hb hby at_45) (by decide) (by decide) ?_
      show Steps p.tables e below (T25.setTop (mkF m 49 #[.val (.int p1), .val (.int p2), .val (.int p3), .val (.int (4 : Int32)), .val (.int i11_0)] [(.int (1 : Int32))])) _
      exact retN X25 hx (t := .boolean) Bd.returns (by simp) (hb hby at_49) hr
    · exact ⟨rfl, N25⟩
  · rw [hk6]
    refine GoalS.lift (B := (s₁.setTop (mkF m 11 #[.val (.int p1), .val (.int p2), .val (.int p3), .val (.int (5 : Int32)), .unset] [(.int (p3 &&& (1 : Int32)))]))) (fun t k => ?_) ?_
    · show Steps p.tables e below (s₁.setTop (mkF m 7 #[.val (.int p1), .val (.int p2), .val (.int p3), .unset, .unset] [(.int (5 : Int32))])) _
      refine XS.istoreN X0.here hx rfl (hb hby at_7) rfl (l' := #[.val (.int p1), .val (.int p2), .val (.int p3), .val (.int (5 : Int32)), .unset]) rfl ?_
      show Steps p.tables e below (s₁.setTop (mkF m 8 #[.val (.int p1), .val (.int p2), .val (.int p3), .val (.int (5 : Int32)), .unset] [])) _
      refine XS.iloadN X0.here hx rfl (hb hby at_8) rfl ?_
      show Steps p.tables e below (s₁.setTop (mkF m 9 #[.val (.int p1), .val (.int p2), .val (.int p3), .val (.int (5 : Int32)), .unset] [(.int p3)])) _
      refine XS.iconst X0.here hx rfl (hb hby at_9) ?_
      show Steps p.tables e below (s₁.setTop (mkF m 10 #[.val (.int p1), .val (.int p2), .val (.int p3), .val (.int (5 : Int32)), .unset] [(.int (1 : Int32)), (.int p3)])) _
      refine XS.iand X0.here hx rfl (hb hby at_10) rfl ?_
      show Steps p.tables e below (s₁.setTop (mkF m 11 #[.val (.int p1), .val (.int p2), .val (.int p3), .val (.int (5 : Int32)), .unset] [(.int (p3 &&& (1 : Int32)))])) _
      exact k
    suffices J11_26 : ∀ (i11_0 : Int32), i11_0 = (if (p3 &&& (1 : Int32)) = (0 : Int32) then p2 else ((p2 &&& (7 : Int32)) - (3 : Int32))) → GoalS p.tables e below s 0 0 (Q0 Z p1 p2 p3 o_ATOM o_NEGATION o_ALL_PATHS o_EXISTS_PATH o_GLOBALLY o_DISJUNCTION o_NEXT o_FINALLY o_UNTIL o_CONJUNCTION h0 n0) (s₁.setTop (mkF m 24 #[.val (.int p1), .val (.int p2), .val (.int p3), .val (.int (5 : Int32)), .unset] [(.int i11_0)])) by
      by_cases hc11_27 : (p3 &&& (1 : Int32)) = (0 : Int32)
      · refine GoalS.lift (B := (s₁.setTop (mkF m 24 #[.val (.int p1), .val (.int p2), .val (.int p3), .val (.int (5 : Int32)), .unset] [(.int p2)]))) (fun t k => ?_) ?_
        · show Steps p.tables e below (s₁.setTop (mkF m 11 #[.val (.int p1), .val (.int p2), .val (.int p3), .val (.int (5 : Int32)), .unset] [(.int (p3 &&& (1 : Int32)))])) _
          refine XS.ifYes X0.here hx rfl (pc0 := 11) (pc' := 23) rfl (hb hby at_11) rfl ((if0 _ _).trans (teq hc11_27).1) (by decide) (by decide) ?_
          show Steps p.tables e below (s₁.setTop (mkF m 23 #[.val (.int p1), .val (.int p2), .val (.int p3), .val (.int (5 : Int32)), .unset] [])) _
          refine XS.iloadN X0.here hx rfl (hb hby at_23) rfl ?_
          show Steps p.tables e below (s₁.setTop (mkF m 24 #[.val (.int p1), .val (.int p2), .val (.int p3), .val (.int (5 : Int32)), .unset] [(.int p2)])) _
          exact k
        exact J11_26 _ (by simp only [if_pos hc11_27])
      · refine GoalS.lift (B := (s₁.setTop (mkF m 24 #[.val (.int p1), .val (.int p2), .val (.int p3), .val (.int (5 : Int32)), .unset] [(.int ((p2 &&& (7 : Int32)) - (3 : Int32)))]))) (fun t k => ?_) ?_
        · show Steps p.tables e below (s₁.setTop (mkF m 11 #[.val (.int p1), .val (.int p2), .val (.int p3), .val (.int (5 : Int32)), .unset] [(.int (p3 &&& (1 : Int32)))])) _
          refine XS.ifNo X0.here hx rfl (hb hby at_11) rfl ((if0 _ _).trans (feq hc11_27).1) ?_
          show Steps p.tables e below (s₁.setTop (mkF m 14 #[.val (.int p1), .val (.int p2), .val (.int p3), .val (.int (5 : Int32)), .unset] [])) _
          refine XS.iloadN X0.here hx rfl (hb hby at_14) rfl ?_
          show Steps p.tables e below (s₁.setTop (mkF m 15 #[.val (.int p1), .val (.int p2), .val (.int p3), .val (.int (5 : Int32)), .unset] [(.int p2)])) _
          refine XS.bipush X0.here hx rfl (hb hby at_15) ?_
          show Steps p.tables e below (s₁.setTop (mkF m 17 #[.val (.int p1), .val (.int p2), .val (.int p3), .val (.int (5 : Int32)), .unset] [(.int (7 : Int32)), (.int p2)])) _
          refine XS.iand X0.here hx rfl (hb hby at_17) rfl ?_
          show Steps p.tables e below (s₁.setTop (mkF m 18 #[.val (.int p1), .val (.int p2), .val (.int p3), .val (.int (5 : Int32)), .unset] [(.int (p2 &&& (7 : Int32)))])) _
          refine XS.iconst X0.here hx rfl (hb hby at_18) ?_
          show Steps p.tables e below (s₁.setTop (mkF m 19 #[.val (.int p1), .val (.int p2), .val (.int p3), .val (.int (5 : Int32)), .unset] [(.int (3 : Int32)), (.int (p2 &&& (7 : Int32)))])) _
          refine XS.isub X0.here hx rfl (hb hby at_19) rfl ?_
          show Steps p.tables e below (s₁.setTop (mkF m 20 #[.val (.int p1), .val (.int p2), .val (.int p3), .val (.int (5 : Int32)), .unset] [(.int ((p2 &&& (7 : Int32)) - (3 : Int32)))])) _
          refine XS.goto X0.here hx rfl (pc0 := 20) (pc' := 24) rfl (hb hby at_20) (by decide) (by decide) ?_
          show Steps p.tables e below (s₁.setTop (mkF m 24 #[.val (.int p1), .val (.int p2), .val (.int p3), .val (.int (5 : Int32)), .unset] [(.int ((p2 &&& (7 : Int32)) - (3 : Int32)))])) _
          exact k
        exact J11_26 _ (by simp only [if_neg hc11_27])
    intro i11_0 h_i11_0
    obtain ⟨_, _, ⟨T28, L28, k28, n28⟩, -, X28, ⟨Lc28, hQ28, l28, y28, z28⟩, st28⟩ := Jvm.LawKit.callS X0 hx (y := (⟨"com/example/always_over_paths/alwaysoverpaths/property/KindTakesPinLaw", "kindOf", "(I)Lcom/example/always_over_paths/alwaysoverpaths/property/Formula$Kind;"⟩ : MethodName)) hown (mvT hZ (hw _ (List.mem_of_getElem? (i := 1) rfl))) (mvT hZ (hw _ (List.mem_of_getElem? (i := 2) rfl))) (mvT hZ (hw _ (List.mem_of_getElem? (i := 3) rfl))) (mvT hZ (hw _ (List.mem_of_getElem? (i := 4) rfl))) (by decide) (backOf (W := 0) (rm1 l Z a0 hw [] (5 : Int32) o_ATOM o_NEGATION o_ALL_PATHS o_EXISTS_PATH o_GLOBALLY o_DISJUNCTION o_NEXT o_FINALLY o_UNTIL o_CONJUNCTION h0 n0 Z0 S_ATOM S_NEGATION S_ALL_PATHS S_EXISTS_PATH S_GLOBALLY S_DISJUNCTION S_NEXT S_FINALLY S_UNTIL S_CONJUNCTION) hZ (hw _ (List.mem_of_getElem? (i := 4) rfl)) (hw _ (List.mem_of_getElem? (i := 3) rfl)) (by decide) (by decide)) (g := (mkF m 27 #[.val (.int p1), .val (.int p2), .val (.int p3), .val (.int (5 : Int32)), .val (.int i11_0)] [(.int (5 : Int32))])) rfl (by rw [hml]; rfl) (argsL := [(.int (5 : Int32))]) (rest := []) (lenOf pd_0 rfl) rfl (by show 2 * 0 + _ ≤ _; exact Nat.le_of_eq rfl) (hb hby at_27) (fun _ _ => ⟨rfl, e0, (by decide : 0 + 0 ≤ _), (by decide : 0 + 0 ≤ _)⟩)
    dsimp only [Pt.U, Pt.locs, Pt.cells, Pt.slots] at X28 l28 y28 z28 st28 hQ28
    subst l28 y28 z28
    obtain ⟨r28, rfl, hr28, N28q, eq28⟩ := hQ28
    have N28 := Fr.app N0 N28q
    have hqr28 : r28 = o_EXISTS_PATH := by rw [hr28]; rfl
    refine GoalS.lift (B := (T28.setTop (mkF m 30 #[.val (.int p1), .val (.int p2), .val (.int p3), .val (.int (5 : Int32)), .val (.int i11_0)] [(.ref r28)]))) (fun t k => ?_) ?_
    · show Steps p.tables e below (s₁.setTop (mkF m 24 #[.val (.int p1), .val (.int p2), .val (.int p3), .val (.int (5 : Int32)), .unset] [(.int i11_0)])) _
      refine XS.istore X0.here hx rfl (hb hby at_24) rfl (l' := #[.val (.int p1), .val (.int p2), .val (.int p3), .val (.int (5 : Int32)), .val (.int i11_0)]) rfl ?_
      show Steps p.tables e below (s₁.setTop (mkF m 26 #[.val (.int p1), .val (.int p2), .val (.int p3), .val (.int (5 : Int32)), .val (.int i11_0)] [])) _
      refine XS.iloadN X0.here hx rfl (hb hby at_26) rfl ?_
      show Steps p.tables e below (s₁.setTop (mkF m 27 #[.val (.int p1), .val (.int p2), .val (.int p3), .val (.int (5 : Int32)), .val (.int i11_0)] [(.int (5 : Int32))])) _
      refine st28 _ ?_
      exact k
    rw [hqr28]
    obtain ⟨cq29, kq29, q29a, q29b, q29c⟩ := isOf hZ eq28 E_o_EXISTS_PATH
    obtain ⟨_, _, ⟨T29, L29, k29, n29⟩, -, X29, ⟨Lc29, hQ29, l29, y29, z29⟩, st29⟩ := X28.virtualBack hx (y := (⟨"com/example/always_over_paths/alwaysoverpaths/property/Formula$Kind", "takes", "(I)Z"⟩ : MethodName)) (z := (⟨"com/example/always_over_paths/alwaysoverpaths/property/Formula$Kind", "takes", "(I)Z"⟩ : MethodName)) hown (mvT hZ (hw _ (List.mem_of_getElem? (i := 8) rfl))) (mvT hZ (hw _ (List.mem_of_getElem? (i := 9) rfl))) (notFace_of_selects (args := #[]) (mvT hZ (hw _ (List.mem_of_getElem? (i := 11) rfl)))) (mvT hZ (hw _ (List.mem_of_getElem? (i := 11) rfl))) (mvT hZ (hw _ (List.mem_of_getElem? (i := 10) rfl))) (by decide) (backOf (W := 0) (rm2 l Z a0 hw [] o_EXISTS_PATH i11_0 (1 : Int32) (1 : Int32) h0 n0 Z0 F_minOperands_o_EXISTS_PATH F_maxOperands_o_EXISTS_PATH) hZ (hw _ (List.mem_of_getElem? (i := 12) rfl)) (hw _ (List.mem_of_getElem? (i := 6) rfl)) (by decide) (by decide)) q29a q29c (g := (mkF m 32 #[.val (.int p1), .val (.int p2), .val (.int p3), .val (.int (5 : Int32)), .val (.int i11_0)] [(.int i11_0), (.ref o_EXISTS_PATH)])) rfl (by rw [hml]; rfl) (Steps.refl _) (argsL := [(.int i11_0)]) (rest := []) (lenOf pd_1 rfl) rfl (by show 2 * 0 + _ ≤ _; exact Nat.le_of_eq rfl) (hb hby at_32) (fun _ _ => ⟨rfl, eq28, (by decide : 0 + 0 ≤ _), (by decide : 0 + 0 ≤ _)⟩)
    dsimp only [Pt.U, Pt.locs, Pt.cells, Pt.slots] at X29 l29 y29 z29 st29 hQ29
    subst l29 y29 z29
    obtain ⟨r29, rfl, hr29, N29q, eq29⟩ := hQ29
    have N29 := Fr.app N28 N29q
    obtain ⟨_, _, ⟨T30, L30, k30, n30⟩, -, X30, ⟨Lc30, hQ30, l30, y30, z30⟩, st30⟩ := Jvm.LawKit.callS X29 hx (y := (⟨"com/example/always_over_paths/alwaysoverpaths/property/KindTakesPinLaw", "expected", "(II)Z"⟩ : MethodName)) hown (mvT hZ (hw _ (List.mem_of_getElem? (i := 17) rfl))) (mvT hZ (hw _ (List.mem_of_getElem? (i := 18) rfl))) (mvT hZ (hw _ (List.mem_of_getElem? (i := 3) rfl))) (mvT hZ (hw _ (List.mem_of_getElem? (i := 19) rfl))) (by decide) (backOf (W := 1) (rm3 l Z a0 hw [] (5 : Int32) i11_0 h0 n0 Z0) hZ (hw _ (List.mem_of_getElem? (i := 19) rfl)) (hw _ (List.mem_of_getElem? (i := 3) rfl)) (by decide) (by decide)) (g := (mkF m 38 #[.val (.int p1), .val (.int p2), .val (.int p3), .val (.int (5 : Int32)), .val (.int i11_0)] [(.int i11_0), (.int (5 : Int32)), (.int r29)])) rfl (by rw [hml]; rfl) (argsL := [(.int (5 : Int32)), (.int i11_0)]) (rest := [(.int r29)]) (lenOf pd_2 rfl) rfl (by show 2 * 0 + _ ≤ _; exact Nat.le_of_eq rfl) (hb hby at_38) (fun _ _ => ⟨rfl, eq29, (by decide : 0 + 0 ≤ _), (by decide : 0 + 0 ≤ _)⟩)
    dsimp only [Pt.U, Pt.locs, Pt.cells, Pt.slots] at X30 l30 y30 z30 st30 hQ30
    subst l30 y30 z30
    obtain ⟨r30, rfl, hr30, N30q, eq30⟩ := hQ30
    have N30 := Fr.app N29 N30q
    obtain ⟨fs, hr, hrun, hended, hW, hsame⟩ := X30.leave (v := some (.int (1 : Int32))) (fun h => by rw [Bd.returns] at h; cases h)
    refine ⟨_, _, ?_, hrun, hended, _, _, rfl, ?_, ⟨_, rfl⟩, hW, hsame.mono (by decide) (by decide)⟩
    · show Steps p.tables e below (T28.setTop (mkF m 30 #[.val (.int p1), .val (.int p2), .val (.int p3), .val (.int (5 : Int32)), .val (.int i11_0)] [(.ref o_EXISTS_PATH)])) _
      refine XS.iload X28.here hx rfl (hb hby at_30) rfl ?_
      show Steps p.tables e below (T28.setTop (mkF m 32 #[.val (.int p1), .val (.int p2), .val (.int p3), .val (.int (5 : Int32)), .val (.int i11_0)] [(.int i11_0), (.ref o_EXISTS_PATH)])) _
      refine st29.trans ?_
      show Steps p.tables e below (T29.setTop (mkF m 35 #[.val (.int p1), .val (.int p2), .val (.int p3), .val (.int (5 : Int32)), .val (.int i11_0)] [(.int r29)])) _
      refine XS.iloadN X29.here hx rfl (hb hby at_35) rfl ?_
      show Steps p.tables e below (T29.setTop (mkF m 36 #[.val (.int p1), .val (.int p2), .val (.int p3), .val (.int (5 : Int32)), .val (.int i11_0)] [(.int (5 : Int32)), (.int r29)])) _
      refine XS.iload X29.here hx rfl (hb hby at_36) rfl ?_
      show Steps p.tables e below (T29.setTop (mkF m 38 #[.val (.int p1), .val (.int p2), .val (.int p3), .val (.int (5 : Int32)), .val (.int i11_0)] [(.int i11_0), (.int (5 : Int32)), (.int r29)])) _
      refine st30 _ ?_
      show Steps p.tables e below (T30.setTop (mkF m 41 #[.val (.int p1), .val (.int p2), .val (.int p3), .val (.int (5 : Int32)), .val (.int i11_0)] [(.int r30), (.int r29)])) _
      refine XS.icmpNo X30.here hx rfl (hb hby at_41) rfl ((teq (by rw [hr29, hr30]; exact own_e1 _ : r29 = r30)).2) ?_
      show Steps p.tables e below (T30.setTop (mkF m 44 #[.val (.int p1), .val (.int p2), .val (.int p3), .val (.int (5 : Int32)), .val (.int i11_0)] [])) _
      refine XS.iconst X30.here hx rfl (hb hby at_44) ?_
      show Steps p.tables e below (T30.setTop (mkF m 45 #[.val (.int p1), .val (.int p2), .val (.int p3), .val (.int (5 : Int32)), .val (.int i11_0)] [(.int (1 : Int32))])) _
      refine XS.goto X30.here hx rfl (pc0 := 45) (pc' := 49) rfl (hb hby at_45) (by decide) (by decide) ?_
      show Steps p.tables e below (T30.setTop (mkF m 49 #[.val (.int p1), .val (.int p2), .val (.int p3), .val (.int (5 : Int32)), .val (.int i11_0)] [(.int (1 : Int32))])) _
      exact retN X30 hx (t := .boolean) Bd.returns (by simp) (hb hby at_49) hr
    · exact ⟨rfl, N30⟩
  · rw [hk6]
    refine GoalS.lift (B := (s₁.setTop (mkF m 11 #[.val (.int p1), .val (.int p2), .val (.int p3), .val (.int (6 : Int32)), .unset] [(.int (p3 &&& (1 : Int32)))]))) (fun t k => ?_) ?_
    · show Steps p.tables e below (s₁.setTop (mkF m 7 #[.val (.int p1), .val (.int p2), .val (.int p3), .unset, .unset] [(.int (6 : Int32))])) _
      refine XS.istoreN X0.here hx rfl (hb hby at_7) rfl (l' := #[.val (.int p1), .val (.int p2), .val (.int p3), .val (.int (6 : Int32)), .unset]) rfl ?_
      show Steps p.tables e below (s₁.setTop (mkF m 8 #[.val (.int p1), .val (.int p2), .val (.int p3), .val (.int (6 : Int32)), .unset] [])) _
      refine XS.iloadN X0.here hx rfl (hb hby at_8) rfl ?_
      show Steps p.tables e below (s₁.setTop (mkF m 9 #[.val (.int p1), .val (.int p2), .val (.int p3), .val (.int (6 : Int32)), .unset] [(.int p3)])) _
      refine XS.iconst X0.here hx rfl (hb hby at_9) ?_
      show Steps p.tables e below (s₁.setTop (mkF m 10 #[.val (.int p1), .val (.int p2), .val (.int p3), .val (.int (6 : Int32)), .unset] [(.int (1 : Int32)), (.int p3)])) _
      refine XS.iand X0.here hx rfl (hb hby at_10) rfl ?_
      show Steps p.tables e below (s₁.setTop (mkF m 11 #[.val (.int p1), .val (.int p2), .val (.int p3), .val (.int (6 : Int32)), .unset] [(.int (p3 &&& (1 : Int32)))])) _
      exact k
    suffices J11_31 : ∀ (i11_0 : Int32), i11_0 = (if (p3 &&& (1 : Int32)) = (0 : Int32) then p2 else ((p2 &&& (7 : Int32)) - (3 : Int32))) → GoalS p.tables e below s 0 0 (Q0 Z p1 p2 p3 o_ATOM o_NEGATION o_ALL_PATHS o_EXISTS_PATH o_GLOBALLY o_DISJUNCTION o_NEXT o_FINALLY o_UNTIL o_CONJUNCTION h0 n0) (s₁.setTop (mkF m 24 #[.val (.int p1), .val (.int p2), .val (.int p3), .val (.int (6 : Int32)), .unset] [(.int i11_0)])) by
      by_cases hc11_32 : (p3 &&& (1 : Int32)) = (0 : Int32)
      · refine GoalS.lift (B := (s₁.setTop (mkF m 24 #[.val (.int p1), .val (.int p2), .val (.int p3), .val (.int (6 : Int32)), .unset] [(.int p2)]))) (fun t k => ?_) ?_
        · show Steps p.tables e below (s₁.setTop (mkF m 11 #[.val (.int p1), .val (.int p2), .val (.int p3), .val (.int (6 : Int32)), .unset] [(.int (p3 &&& (1 : Int32)))])) _
          refine XS.ifYes X0.here hx rfl (pc0 := 11) (pc' := 23) rfl (hb hby at_11) rfl ((if0 _ _).trans (teq hc11_32).1) (by decide) (by decide) ?_
          show Steps p.tables e below (s₁.setTop (mkF m 23 #[.val (.int p1), .val (.int p2), .val (.int p3), .val (.int (6 : Int32)), .unset] [])) _
          refine XS.iloadN X0.here hx rfl (hb hby at_23) rfl ?_
          show Steps p.tables e below (s₁.setTop (mkF m 24 #[.val (.int p1), .val (.int p2), .val (.int p3), .val (.int (6 : Int32)), .unset] [(.int p2)])) _
          exact k
        exact J11_31 _ (by simp only [if_pos hc11_32])
      · refine GoalS.lift (B := (s₁.setTop (mkF m 24 #[.val (.int p1), .val (.int p2), .val (.int p3), .val (.int (6 : Int32)), .unset] [(.int ((p2 &&& (7 : Int32)) - (3 : Int32)))]))) (fun t k => ?_) ?_
        · show Steps p.tables e below (s₁.setTop (mkF m 11 #[.val (.int p1), .val (.int p2), .val (.int p3), .val (.int (6 : Int32)), .unset] [(.int (p3 &&& (1 : Int32)))])) _
          refine XS.ifNo X0.here hx rfl (hb hby at_11) rfl ((if0 _ _).trans (feq hc11_32).1) ?_
          show Steps p.tables e below (s₁.setTop (mkF m 14 #[.val (.int p1), .val (.int p2), .val (.int p3), .val (.int (6 : Int32)), .unset] [])) _
          refine XS.iloadN X0.here hx rfl (hb hby at_14) rfl ?_
          show Steps p.tables e below (s₁.setTop (mkF m 15 #[.val (.int p1), .val (.int p2), .val (.int p3), .val (.int (6 : Int32)), .unset] [(.int p2)])) _
          refine XS.bipush X0.here hx rfl (hb hby at_15) ?_
          show Steps p.tables e below (s₁.setTop (mkF m 17 #[.val (.int p1), .val (.int p2), .val (.int p3), .val (.int (6 : Int32)), .unset] [(.int (7 : Int32)), (.int p2)])) _
          refine XS.iand X0.here hx rfl (hb hby at_17) rfl ?_
          show Steps p.tables e below (s₁.setTop (mkF m 18 #[.val (.int p1), .val (.int p2), .val (.int p3), .val (.int (6 : Int32)), .unset] [(.int (p2 &&& (7 : Int32)))])) _
          refine XS.iconst X0.here hx rfl (hb hby at_18) ?_
          show Steps p.tables e below (s₁.setTop (mkF m 19 #[.val (.int p1), .val (.int p2), .val (.int p3), .val (.int (6 : Int32)), .unset] [(.int (3 : Int32)), (.int (p2 &&& (7 : Int32)))])) _
          refine XS.isub X0.here hx rfl (hb hby at_19) rfl ?_
          show Steps p.tables e below (s₁.setTop (mkF m 20 #[.val (.int p1), .val (.int p2), .val (.int p3), .val (.int (6 : Int32)), .unset] [(.int ((p2 &&& (7 : Int32)) - (3 : Int32)))])) _
          refine XS.goto X0.here hx rfl (pc0 := 20) (pc' := 24) rfl (hb hby at_20) (by decide) (by decide) ?_
          show Steps p.tables e below (s₁.setTop (mkF m 24 #[.val (.int p1), .val (.int p2), .val (.int p3), .val (.int (6 : Int32)), .unset] [(.int ((p2 &&& (7 : Int32)) - (3 : Int32)))])) _
          exact k
        exact J11_31 _ (by simp only [if_neg hc11_32])
    intro i11_0 h_i11_0
    obtain ⟨_, _, ⟨T33, L33, k33, n33⟩, -, X33, ⟨Lc33, hQ33, l33, y33, z33⟩, st33⟩ := Jvm.LawKit.callS X0 hx (y := (⟨"com/example/always_over_paths/alwaysoverpaths/property/KindTakesPinLaw", "kindOf", "(I)Lcom/example/always_over_paths/alwaysoverpaths/property/Formula$Kind;"⟩ : MethodName)) hown (mvT hZ (hw _ (List.mem_of_getElem? (i := 1) rfl))) (mvT hZ (hw _ (List.mem_of_getElem? (i := 2) rfl))) (mvT hZ (hw _ (List.mem_of_getElem? (i := 3) rfl))) (mvT hZ (hw _ (List.mem_of_getElem? (i := 4) rfl))) (by decide) (backOf (W := 0) (rm1 l Z a0 hw [] (6 : Int32) o_ATOM o_NEGATION o_ALL_PATHS o_EXISTS_PATH o_GLOBALLY o_DISJUNCTION o_NEXT o_FINALLY o_UNTIL o_CONJUNCTION h0 n0 Z0 S_ATOM S_NEGATION S_ALL_PATHS S_EXISTS_PATH S_GLOBALLY S_DISJUNCTION S_NEXT S_FINALLY S_UNTIL S_CONJUNCTION) hZ (hw _ (List.mem_of_getElem? (i := 4) rfl)) (hw _ (List.mem_of_getElem? (i := 3) rfl)) (by decide) (by decide)) (g := (mkF m 27 #[.val (.int p1), .val (.int p2), .val (.int p3), .val (.int (6 : Int32)), .val (.int i11_0)] [(.int (6 : Int32))])) rfl (by rw [hml]; rfl) (argsL := [(.int (6 : Int32))]) (rest := []) (lenOf pd_0 rfl) rfl (by show 2 * 0 + _ ≤ _; exact Nat.le_of_eq rfl) (hb hby at_27) (fun _ _ => ⟨rfl, e0, (by decide : 0 + 0 ≤ _), (by decide : 0 + 0 ≤ _)⟩)
    dsimp only [Pt.U, Pt.locs, Pt.cells, Pt.slots] at X33 l33 y33 z33 st33 hQ33
    subst l33 y33 z33
    obtain ⟨r33, rfl, hr33, N33q, eq33⟩ := hQ33
    have N33 := Fr.app N0 N33q
    have hqr33 : r33 = o_NEXT := by rw [hr33]; rfl
    refine GoalS.lift (B := (T33.setTop (mkF m 30 #[.val (.int p1), .val (.int p2), .val (.int p3), .val (.int (6 : Int32)), .val (.int i11_0)] [(.ref r33)]))) (fun t k => ?_) ?_
    · show Steps p.tables e below (s₁.setTop (mkF m 24 #[.val (.int p1), .val (.int p2), .val (.int p3), .val (.int (6 : Int32)), .unset] [(.int i11_0)])) _
      refine XS.istore X0.here hx rfl (hb hby at_24) rfl (l' := #[.val (.int p1), .val (.int p2), .val (.int p3), .val (.int (6 : Int32)), .val (.int i11_0)]) rfl ?_
      show Steps p.tables e below (s₁.setTop (mkF m 26 #[.val (.int p1), .val (.int p2), .val (.int p3), .val (.int (6 : Int32)), .val (.int i11_0)] [])) _
      refine XS.iloadN X0.here hx rfl (hb hby at_26) rfl ?_
      show Steps p.tables e below (s₁.setTop (mkF m 27 #[.val (.int p1), .val (.int p2), .val (.int p3), .val (.int (6 : Int32)), .val (.int i11_0)] [(.int (6 : Int32))])) _
      refine st33 _ ?_
      exact k
    rw [hqr33]
    obtain ⟨cq34, kq34, q34a, q34b, q34c⟩ := isOf hZ eq33 E_o_NEXT
    obtain ⟨_, _, ⟨T34, L34, k34, n34⟩, -, X34, ⟨Lc34, hQ34, l34, y34, z34⟩, st34⟩ := X33.virtualBack hx (y := (⟨"com/example/always_over_paths/alwaysoverpaths/property/Formula$Kind", "takes", "(I)Z"⟩ : MethodName)) (z := (⟨"com/example/always_over_paths/alwaysoverpaths/property/Formula$Kind", "takes", "(I)Z"⟩ : MethodName)) hown (mvT hZ (hw _ (List.mem_of_getElem? (i := 8) rfl))) (mvT hZ (hw _ (List.mem_of_getElem? (i := 9) rfl))) (notFace_of_selects (args := #[]) (mvT hZ (hw _ (List.mem_of_getElem? (i := 11) rfl)))) (mvT hZ (hw _ (List.mem_of_getElem? (i := 11) rfl))) (mvT hZ (hw _ (List.mem_of_getElem? (i := 10) rfl))) (by decide) (backOf (W := 0) (rm2 l Z a0 hw [] o_NEXT i11_0 (1 : Int32) (1 : Int32) h0 n0 Z0 F_minOperands_o_NEXT F_maxOperands_o_NEXT) hZ (hw _ (List.mem_of_getElem? (i := 12) rfl)) (hw _ (List.mem_of_getElem? (i := 6) rfl)) (by decide) (by decide)) q34a q34c (g := (mkF m 32 #[.val (.int p1), .val (.int p2), .val (.int p3), .val (.int (6 : Int32)), .val (.int i11_0)] [(.int i11_0), (.ref o_NEXT)])) rfl (by rw [hml]; rfl) (Steps.refl _) (argsL := [(.int i11_0)]) (rest := []) (lenOf pd_1 rfl) rfl (by show 2 * 0 + _ ≤ _; exact Nat.le_of_eq rfl) (hb hby at_32) (fun _ _ => ⟨rfl, eq33, (by decide : 0 + 0 ≤ _), (by decide : 0 + 0 ≤ _)⟩)
    dsimp only [Pt.U, Pt.locs, Pt.cells, Pt.slots] at X34 l34 y34 z34 st34 hQ34
    subst l34 y34 z34
    obtain ⟨r34, rfl, hr34, N34q, eq34⟩ := hQ34
    have N34 := Fr.app N33 N34q
    obtain ⟨_, _, ⟨T35, L35, k35, n35⟩, -, X35, ⟨Lc35, hQ35, l35, y35, z35⟩, st35⟩ := Jvm.LawKit.callS X34 hx (y := (⟨"com/example/always_over_paths/alwaysoverpaths/property/KindTakesPinLaw", "expected", "(II)Z"⟩ : MethodName)) hown (mvT hZ (hw _ (List.mem_of_getElem? (i := 17) rfl))) (mvT hZ (hw _ (List.mem_of_getElem? (i := 18) rfl))) (mvT hZ (hw _ (List.mem_of_getElem? (i := 3) rfl))) (mvT hZ (hw _ (List.mem_of_getElem? (i := 19) rfl))) (by decide) (backOf (W := 1) (rm3 l Z a0 hw [] (6 : Int32) i11_0 h0 n0 Z0) hZ (hw _ (List.mem_of_getElem? (i := 19) rfl)) (hw _ (List.mem_of_getElem? (i := 3) rfl)) (by decide) (by decide)) (g := (mkF m 38 #[.val (.int p1), .val (.int p2), .val (.int p3), .val (.int (6 : Int32)), .val (.int i11_0)] [(.int i11_0), (.int (6 : Int32)), (.int r34)])) rfl (by rw [hml]; rfl) (argsL := [(.int (6 : Int32)), (.int i11_0)]) (rest := [(.int r34)]) (lenOf pd_2 rfl) rfl (by show 2 * 0 + _ ≤ _; exact Nat.le_of_eq rfl) (hb hby at_38) (fun _ _ => ⟨rfl, eq34, (by decide : 0 + 0 ≤ _), (by decide : 0 + 0 ≤ _)⟩)
    dsimp only [Pt.U, Pt.locs, Pt.cells, Pt.slots] at X35 l35 y35 z35 st35 hQ35
    subst l35 y35 z35
    obtain ⟨r35, rfl, hr35, N35q, eq35⟩ := hQ35
    have N35 := Fr.app N34 N35q
    obtain ⟨fs, hr, hrun, hended, hW, hsame⟩ := X35.leave (v := some (.int (1 : Int32))) (fun h => by rw [Bd.returns] at h; cases h)
    refine ⟨_, _, ?_, hrun, hended, _, _, rfl, ?_, ⟨_, rfl⟩, hW, hsame.mono (by decide) (by decide)⟩
    · show Steps p.tables e below (T33.setTop (mkF m 30 #[.val (.int p1), .val (.int p2), .val (.int p3), .val (.int (6 : Int32)), .val (.int i11_0)] [(.ref o_NEXT)])) _
      refine XS.iload X33.here hx rfl (hb hby at_30) rfl ?_
      show Steps p.tables e below (T33.setTop (mkF m 32 #[.val (.int p1), .val (.int p2), .val (.int p3), .val (.int (6 : Int32)), .val (.int i11_0)] [(.int i11_0), (.ref o_NEXT)])) _
      refine st34.trans ?_
      show Steps p.tables e below (T34.setTop (mkF m 35 #[.val (.int p1), .val (.int p2), .val (.int p3), .val (.int (6 : Int32)), .val (.int i11_0)] [(.int r34)])) _
      refine XS.iloadN X34.here hx rfl (hb hby at_35) rfl ?_
      show Steps p.tables e below (T34.setTop (mkF m 36 #[.val (.int p1), .val (.int p2), .val (.int p3), .val (.int (6 : Int32)), .val (.int i11_0)] [(.int (6 : Int32)), (.int r34)])) _
      refine XS.iload X34.here hx rfl (hb hby at_36) rfl ?_
      show Steps p.tables e below (T34.setTop (mkF m 38 #[.val (.int p1), .val (.int p2), .val (.int p3), .val (.int (6 : Int32)), .val (.int i11_0)] [(.int i11_0), (.int (6 : Int32)), (.int r34)])) _
      refine st35 _ ?_
      show Steps p.tables e below (T35.setTop (mkF m 41 #[.val (.int p1), .val (.int p2), .val (.int p3), .val (.int (6 : Int32)), .val (.int i11_0)] [(.int r35), (.int r34)])) _
      refine XS.icmpNo X35.here hx rfl (hb hby at_41) rfl ((teq (by rw [hr34, hr35]; exact own_e1 _ : r34 = r35)).2) ?_
      show Steps p.tables e below (T35.setTop (mkF m 44 #[.val (.int p1), .val (.int p2), .val (.int p3), .val (.int (6 : Int32)), .val (.int i11_0)] [])) _
      refine XS.iconst X35.here hx rfl (hb hby at_44) ?_
      show Steps p.tables e below (T35.setTop (mkF m 45 #[.val (.int p1), .val (.int p2), .val (.int p3), .val (.int (6 : Int32)), .val (.int i11_0)] [(.int (1 : Int32))])) _
      refine XS.goto X35.here hx rfl (pc0 := 45) (pc' := 49) rfl (hb hby at_45) (by decide) (by decide) ?_
      show Steps p.tables e below (T35.setTop (mkF m 49 #[.val (.int p1), .val (.int p2), .val (.int p3), .val (.int (6 : Int32)), .val (.int i11_0)] [(.int (1 : Int32))])) _
      exact retN X35 hx (t := .boolean) Bd.returns (by simp) (hb hby at_49) hr
    · exact ⟨rfl, N35⟩
  · rw [hk6]
    refine GoalS.lift (B := (s₁.setTop (mkF m 11 #[.val (.int p1), .val (.int p2), .val (.int p3), .val (.int (7 : Int32)), .unset] [(.int (p3 &&& (1 : Int32)))]))) (fun t k => ?_) ?_
    · show Steps p.tables e below (s₁.setTop (mkF m 7 #[.val (.int p1), .val (.int p2), .val (.int p3), .unset, .unset] [(.int (7 : Int32))])) _
      refine XS.istoreN X0.here hx rfl (hb hby at_7) rfl (l' := #[.val (.int p1), .val (.int p2), .val (.int p3), .val (.int (7 : Int32)), .unset]) rfl ?_
      show Steps p.tables e below (s₁.setTop (mkF m 8 #[.val (.int p1), .val (.int p2), .val (.int p3), .val (.int (7 : Int32)), .unset] [])) _
      refine XS.iloadN X0.here hx rfl (hb hby at_8) rfl ?_
      show Steps p.tables e below (s₁.setTop (mkF m 9 #[.val (.int p1), .val (.int p2), .val (.int p3), .val (.int (7 : Int32)), .unset] [(.int p3)])) _
      refine XS.iconst X0.here hx rfl (hb hby at_9) ?_
      show Steps p.tables e below (s₁.setTop (mkF m 10 #[.val (.int p1), .val (.int p2), .val (.int p3), .val (.int (7 : Int32)), .unset] [(.int (1 : Int32)), (.int p3)])) _
      refine XS.iand X0.here hx rfl (hb hby at_10) rfl ?_
      show Steps p.tables e below (s₁.setTop (mkF m 11 #[.val (.int p1), .val (.int p2), .val (.int p3), .val (.int (7 : Int32)), .unset] [(.int (p3 &&& (1 : Int32)))])) _
      exact k
    suffices J11_36 : ∀ (i11_0 : Int32), i11_0 = (if (p3 &&& (1 : Int32)) = (0 : Int32) then p2 else ((p2 &&& (7 : Int32)) - (3 : Int32))) → GoalS p.tables e below s 0 0 (Q0 Z p1 p2 p3 o_ATOM o_NEGATION o_ALL_PATHS o_EXISTS_PATH o_GLOBALLY o_DISJUNCTION o_NEXT o_FINALLY o_UNTIL o_CONJUNCTION h0 n0) (s₁.setTop (mkF m 24 #[.val (.int p1), .val (.int p2), .val (.int p3), .val (.int (7 : Int32)), .unset] [(.int i11_0)])) by
      by_cases hc11_37 : (p3 &&& (1 : Int32)) = (0 : Int32)
      · refine GoalS.lift (B := (s₁.setTop (mkF m 24 #[.val (.int p1), .val (.int p2), .val (.int p3), .val (.int (7 : Int32)), .unset] [(.int p2)]))) (fun t k => ?_) ?_
        · show Steps p.tables e below (s₁.setTop (mkF m 11 #[.val (.int p1), .val (.int p2), .val (.int p3), .val (.int (7 : Int32)), .unset] [(.int (p3 &&& (1 : Int32)))])) _
          refine XS.ifYes X0.here hx rfl (pc0 := 11) (pc' := 23) rfl (hb hby at_11) rfl ((if0 _ _).trans (teq hc11_37).1) (by decide) (by decide) ?_
          show Steps p.tables e below (s₁.setTop (mkF m 23 #[.val (.int p1), .val (.int p2), .val (.int p3), .val (.int (7 : Int32)), .unset] [])) _
          refine XS.iloadN X0.here hx rfl (hb hby at_23) rfl ?_
          show Steps p.tables e below (s₁.setTop (mkF m 24 #[.val (.int p1), .val (.int p2), .val (.int p3), .val (.int (7 : Int32)), .unset] [(.int p2)])) _
          exact k
        exact J11_36 _ (by simp only [if_pos hc11_37])
      · refine GoalS.lift (B := (s₁.setTop (mkF m 24 #[.val (.int p1), .val (.int p2), .val (.int p3), .val (.int (7 : Int32)), .unset] [(.int ((p2 &&& (7 : Int32)) - (3 : Int32)))]))) (fun t k => ?_) ?_
        · show Steps p.tables e below (s₁.setTop (mkF m 11 #[.val (.int p1), .val (.int p2), .val (.int p3), .val (.int (7 : Int32)), .unset] [(.int (p3 &&& (1 : Int32)))])) _
          refine XS.ifNo X0.here hx rfl (hb hby at_11) rfl ((if0 _ _).trans (feq hc11_37).1) ?_
          show Steps p.tables e below (s₁.setTop (mkF m 14 #[.val (.int p1), .val (.int p2), .val (.int p3), .val (.int (7 : Int32)), .unset] [])) _
          refine XS.iloadN X0.here hx rfl (hb hby at_14) rfl ?_
          show Steps p.tables e below (s₁.setTop (mkF m 15 #[.val (.int p1), .val (.int p2), .val (.int p3), .val (.int (7 : Int32)), .unset] [(.int p2)])) _
          refine XS.bipush X0.here hx rfl (hb hby at_15) ?_
          show Steps p.tables e below (s₁.setTop (mkF m 17 #[.val (.int p1), .val (.int p2), .val (.int p3), .val (.int (7 : Int32)), .unset] [(.int (7 : Int32)), (.int p2)])) _
          refine XS.iand X0.here hx rfl (hb hby at_17) rfl ?_
          show Steps p.tables e below (s₁.setTop (mkF m 18 #[.val (.int p1), .val (.int p2), .val (.int p3), .val (.int (7 : Int32)), .unset] [(.int (p2 &&& (7 : Int32)))])) _
          refine XS.iconst X0.here hx rfl (hb hby at_18) ?_
          show Steps p.tables e below (s₁.setTop (mkF m 19 #[.val (.int p1), .val (.int p2), .val (.int p3), .val (.int (7 : Int32)), .unset] [(.int (3 : Int32)), (.int (p2 &&& (7 : Int32)))])) _
          refine XS.isub X0.here hx rfl (hb hby at_19) rfl ?_
          show Steps p.tables e below (s₁.setTop (mkF m 20 #[.val (.int p1), .val (.int p2), .val (.int p3), .val (.int (7 : Int32)), .unset] [(.int ((p2 &&& (7 : Int32)) - (3 : Int32)))])) _
          refine XS.goto X0.here hx rfl (pc0 := 20) (pc' := 24) rfl (hb hby at_20) (by decide) (by decide) ?_
          show Steps p.tables e below (s₁.setTop (mkF m 24 #[.val (.int p1), .val (.int p2), .val (.int p3), .val (.int (7 : Int32)), .unset] [(.int ((p2 &&& (7 : Int32)) - (3 : Int32)))])) _
          exact k
        exact J11_36 _ (by simp only [if_neg hc11_37])
    intro i11_0 h_i11_0
    obtain ⟨_, _, ⟨T38, L38, k38, n38⟩, -, X38, ⟨Lc38, hQ38, l38, y38, z38⟩, st38⟩ := Jvm.LawKit.callS X0 hx (y := (⟨"com/example/always_over_paths/alwaysoverpaths/property/KindTakesPinLaw", "kindOf", "(I)Lcom/example/always_over_paths/alwaysoverpaths/property/Formula$Kind;"⟩ : MethodName)) hown (mvT hZ (hw _ (List.mem_of_getElem? (i := 1) rfl))) (mvT hZ (hw _ (List.mem_of_getElem? (i := 2) rfl))) (mvT hZ (hw _ (List.mem_of_getElem? (i := 3) rfl))) (mvT hZ (hw _ (List.mem_of_getElem? (i := 4) rfl))) (by decide) (backOf (W := 0) (rm1 l Z a0 hw [] (7 : Int32) o_ATOM o_NEGATION o_ALL_PATHS o_EXISTS_PATH o_GLOBALLY o_DISJUNCTION o_NEXT o_FINALLY o_UNTIL o_CONJUNCTION h0 n0 Z0 S_ATOM S_NEGATION S_ALL_PATHS S_EXISTS_PATH S_GLOBALLY S_DISJUNCTION S_NEXT S_FINALLY S_UNTIL S_CONJUNCTION) hZ (hw _ (List.mem_of_getElem? (i := 4) rfl)) (hw _ (List.mem_of_getElem? (i := 3) rfl)) (by decide) (by decide)) (g := (mkF m 27 #[.val (.int p1), .val (.int p2), .val (.int p3), .val (.int (7 : Int32)), .val (.int i11_0)] [(.int (7 : Int32))])) rfl (by rw [hml]; rfl) (argsL := [(.int (7 : Int32))]) (rest := []) (lenOf pd_0 rfl) rfl (by show 2 * 0 + _ ≤ _; exact Nat.le_of_eq rfl) (hb hby at_27) (fun _ _ => ⟨rfl, e0, (by decide : 0 + 0 ≤ _), (by decide : 0 + 0 ≤ _)⟩)
    dsimp only [Pt.U, Pt.locs, Pt.cells, Pt.slots] at X38 l38 y38 z38 st38 hQ38
    subst l38 y38 z38
    obtain ⟨r38, rfl, hr38, N38q, eq38⟩ := hQ38
    have N38 := Fr.app N0 N38q
    have hqr38 : r38 = o_FINALLY := by rw [hr38]; rfl
    refine GoalS.lift (B := (T38.setTop (mkF m 30 #[.val (.int p1), .val (.int p2), .val (.int p3), .val (.int (7 : Int32)), .val (.int i11_0)] [(.ref r38)]))) (fun t k => ?_) ?_
    · show Steps p.tables e below (s₁.setTop (mkF m 24 #[.val (.int p1), .val (.int p2), .val (.int p3), .val (.int (7 : Int32)), .unset] [(.int i11_0)])) _
      refine XS.istore X0.here hx rfl (hb hby at_24) rfl (l' := #[.val (.int p1), .val (.int p2), .val (.int p3), .val (.int (7 : Int32)), .val (.int i11_0)]) rfl ?_
      show Steps p.tables e below (s₁.setTop (mkF m 26 #[.val (.int p1), .val (.int p2), .val (.int p3), .val (.int (7 : Int32)), .val (.int i11_0)] [])) _
      refine XS.iloadN X0.here hx rfl (hb hby at_26) rfl ?_
      show Steps p.tables e below (s₁.setTop (mkF m 27 #[.val (.int p1), .val (.int p2), .val (.int p3), .val (.int (7 : Int32)), .val (.int i11_0)] [(.int (7 : Int32))])) _
      refine st38 _ ?_
      exact k
    rw [hqr38]
    obtain ⟨cq39, kq39, q39a, q39b, q39c⟩ := isOf hZ eq38 E_o_FINALLY
    obtain ⟨_, _, ⟨T39, L39, k39, n39⟩, -, X39, ⟨Lc39, hQ39, l39, y39, z39⟩, st39⟩ := X38.virtualBack hx (y := (⟨"com/example/always_over_paths/alwaysoverpaths/property/Formula$Kind", "takes", "(I)Z"⟩ : MethodName)) (z := (⟨"com/example/always_over_paths/alwaysoverpaths/property/Formula$Kind", "takes", "(I)Z"⟩ : MethodName)) hown (mvT hZ (hw _ (List.mem_of_getElem? (i := 8) rfl))) (mvT hZ (hw _ (List.mem_of_getElem? (i := 9) rfl))) (notFace_of_selects (args := #[]) (mvT hZ (hw _ (List.mem_of_getElem? (i := 11) rfl)))) (mvT hZ (hw _ (List.mem_of_getElem? (i := 11) rfl))) (mvT hZ (hw _ (List.mem_of_getElem? (i := 10) rfl))) (by decide) (backOf (W := 0) (rm2 l Z a0 hw [] o_FINALLY i11_0 (1 : Int32) (1 : Int32) h0 n0 Z0 F_minOperands_o_FINALLY F_maxOperands_o_FINALLY) hZ (hw _ (List.mem_of_getElem? (i := 12) rfl)) (hw _ (List.mem_of_getElem? (i := 6) rfl)) (by decide) (by decide)) q39a q39c (g := (mkF m 32 #[.val (.int p1), .val (.int p2), .val (.int p3), .val (.int (7 : Int32)), .val (.int i11_0)] [(.int i11_0), (.ref o_FINALLY)])) rfl (by rw [hml]; rfl) (Steps.refl _) (argsL := [(.int i11_0)]) (rest := []) (lenOf pd_1 rfl) rfl (by show 2 * 0 + _ ≤ _; exact Nat.le_of_eq rfl) (hb hby at_32) (fun _ _ => ⟨rfl, eq38, (by decide : 0 + 0 ≤ _), (by decide : 0 + 0 ≤ _)⟩)
    dsimp only [Pt.U, Pt.locs, Pt.cells, Pt.slots] at X39 l39 y39 z39 st39 hQ39
    subst l39 y39 z39
    obtain ⟨r39, rfl, hr39, N39q, eq39⟩ := hQ39
    have N39 := Fr.app N38 N39q
    obtain ⟨_, _, ⟨T40, L40, k40, n40⟩, -, X40, ⟨Lc40, hQ40, l40, y40, z40⟩, st40⟩ := Jvm.LawKit.callS X39 hx (y := (⟨"com/example/always_over_paths/alwaysoverpaths/property/KindTakesPinLaw", "expected", "(II)Z"⟩ : MethodName)) hown (mvT hZ (hw _ (List.mem_of_getElem? (i := 17) rfl))) (mvT hZ (hw _ (List.mem_of_getElem? (i := 18) rfl))) (mvT hZ (hw _ (List.mem_of_getElem? (i := 3) rfl))) (mvT hZ (hw _ (List.mem_of_getElem? (i := 19) rfl))) (by decide) (backOf (W := 1) (rm3 l Z a0 hw [] (7 : Int32) i11_0 h0 n0 Z0) hZ (hw _ (List.mem_of_getElem? (i := 19) rfl)) (hw _ (List.mem_of_getElem? (i := 3) rfl)) (by decide) (by decide)) (g := (mkF m 38 #[.val (.int p1), .val (.int p2), .val (.int p3), .val (.int (7 : Int32)), .val (.int i11_0)] [(.int i11_0), (.int (7 : Int32)), (.int r39)])) rfl (by rw [hml]; rfl) (argsL := [(.int (7 : Int32)), (.int i11_0)]) (rest := [(.int r39)]) (lenOf pd_2 rfl) rfl (by show 2 * 0 + _ ≤ _; exact Nat.le_of_eq rfl) (hb hby at_38) (fun _ _ => ⟨rfl, eq39, (by decide : 0 + 0 ≤ _), (by decide : 0 + 0 ≤ _)⟩)
    dsimp only [Pt.U, Pt.locs, Pt.cells, Pt.slots] at X40 l40 y40 z40 st40 hQ40
    subst l40 y40 z40
    obtain ⟨r40, rfl, hr40, N40q, eq40⟩ := hQ40
    have N40 := Fr.app N39 N40q
    obtain ⟨fs, hr, hrun, hended, hW, hsame⟩ := X40.leave (v := some (.int (1 : Int32))) (fun h => by rw [Bd.returns] at h; cases h)
    refine ⟨_, _, ?_, hrun, hended, _, _, rfl, ?_, ⟨_, rfl⟩, hW, hsame.mono (by decide) (by decide)⟩
    · show Steps p.tables e below (T38.setTop (mkF m 30 #[.val (.int p1), .val (.int p2), .val (.int p3), .val (.int (7 : Int32)), .val (.int i11_0)] [(.ref o_FINALLY)])) _
      refine XS.iload X38.here hx rfl (hb hby at_30) rfl ?_
      show Steps p.tables e below (T38.setTop (mkF m 32 #[.val (.int p1), .val (.int p2), .val (.int p3), .val (.int (7 : Int32)), .val (.int i11_0)] [(.int i11_0), (.ref o_FINALLY)])) _
      refine st39.trans ?_
      show Steps p.tables e below (T39.setTop (mkF m 35 #[.val (.int p1), .val (.int p2), .val (.int p3), .val (.int (7 : Int32)), .val (.int i11_0)] [(.int r39)])) _
      refine XS.iloadN X39.here hx rfl (hb hby at_35) rfl ?_
      show Steps p.tables e below (T39.setTop (mkF m 36 #[.val (.int p1), .val (.int p2), .val (.int p3), .val (.int (7 : Int32)), .val (.int i11_0)] [(.int (7 : Int32)), (.int r39)])) _
      refine XS.iload X39.here hx rfl (hb hby at_36) rfl ?_
      show Steps p.tables e below (T39.setTop (mkF m 38 #[.val (.int p1), .val (.int p2), .val (.int p3), .val (.int (7 : Int32)), .val (.int i11_0)] [(.int i11_0), (.int (7 : Int32)), (.int r39)])) _
      refine st40 _ ?_
      show Steps p.tables e below (T40.setTop (mkF m 41 #[.val (.int p1), .val (.int p2), .val (.int p3), .val (.int (7 : Int32)), .val (.int i11_0)] [(.int r40), (.int r39)])) _
      refine XS.icmpNo X40.here hx rfl (hb hby at_41) rfl ((teq (by rw [hr39, hr40]; exact own_e1 _ : r39 = r40)).2) ?_
      show Steps p.tables e below (T40.setTop (mkF m 44 #[.val (.int p1), .val (.int p2), .val (.int p3), .val (.int (7 : Int32)), .val (.int i11_0)] [])) _
      refine XS.iconst X40.here hx rfl (hb hby at_44) ?_
      show Steps p.tables e below (T40.setTop (mkF m 45 #[.val (.int p1), .val (.int p2), .val (.int p3), .val (.int (7 : Int32)), .val (.int i11_0)] [(.int (1 : Int32))])) _
      refine XS.goto X40.here hx rfl (pc0 := 45) (pc' := 49) rfl (hb hby at_45) (by decide) (by decide) ?_
      show Steps p.tables e below (T40.setTop (mkF m 49 #[.val (.int p1), .val (.int p2), .val (.int p3), .val (.int (7 : Int32)), .val (.int i11_0)] [(.int (1 : Int32))])) _
      exact retN X40 hx (t := .boolean) Bd.returns (by simp) (hb hby at_49) hr
    · exact ⟨rfl, N40⟩
  · rw [hk6]
    refine GoalS.lift (B := (s₁.setTop (mkF m 11 #[.val (.int p1), .val (.int p2), .val (.int p3), .val (.int (8 : Int32)), .unset] [(.int (p3 &&& (1 : Int32)))]))) (fun t k => ?_) ?_
    · show Steps p.tables e below (s₁.setTop (mkF m 7 #[.val (.int p1), .val (.int p2), .val (.int p3), .unset, .unset] [(.int (8 : Int32))])) _
      refine XS.istoreN X0.here hx rfl (hb hby at_7) rfl (l' := #[.val (.int p1), .val (.int p2), .val (.int p3), .val (.int (8 : Int32)), .unset]) rfl ?_
      show Steps p.tables e below (s₁.setTop (mkF m 8 #[.val (.int p1), .val (.int p2), .val (.int p3), .val (.int (8 : Int32)), .unset] [])) _
      refine XS.iloadN X0.here hx rfl (hb hby at_8) rfl ?_
      show Steps p.tables e below (s₁.setTop (mkF m 9 #[.val (.int p1), .val (.int p2), .val (.int p3), .val (.int (8 : Int32)), .unset] [(.int p3)])) _
      refine XS.iconst X0.here hx rfl (hb hby at_9) ?_
      show Steps p.tables e below (s₁.setTop (mkF m 10 #[.val (.int p1), .val (.int p2), .val (.int p3), .val (.int (8 : Int32)), .unset] [(.int (1 : Int32)), (.int p3)])) _
      refine XS.iand X0.here hx rfl (hb hby at_10) rfl ?_
      show Steps p.tables e below (s₁.setTop (mkF m 11 #[.val (.int p1), .val (.int p2), .val (.int p3), .val (.int (8 : Int32)), .unset] [(.int (p3 &&& (1 : Int32)))])) _
      exact k
    suffices J11_41 : ∀ (i11_0 : Int32), i11_0 = (if (p3 &&& (1 : Int32)) = (0 : Int32) then p2 else ((p2 &&& (7 : Int32)) - (3 : Int32))) → GoalS p.tables e below s 0 0 (Q0 Z p1 p2 p3 o_ATOM o_NEGATION o_ALL_PATHS o_EXISTS_PATH o_GLOBALLY o_DISJUNCTION o_NEXT o_FINALLY o_UNTIL o_CONJUNCTION h0 n0) (s₁.setTop (mkF m 24 #[.val (.int p1), .val (.int p2), .val (.int p3), .val (.int (8 : Int32)), .unset] [(.int i11_0)])) by
      by_cases hc11_42 : (p3 &&& (1 : Int32)) = (0 : Int32)
      · refine GoalS.lift (B := (s₁.setTop (mkF m 24 #[.val (.int p1), .val (.int p2), .val (.int p3), .val (.int (8 : Int32)), .unset] [(.int p2)]))) (fun t k => ?_) ?_
        · show Steps p.tables e below (s₁.setTop (mkF m 11 #[.val (.int p1), .val (.int p2), .val (.int p3), .val (.int (8 : Int32)), .unset] [(.int (p3 &&& (1 : Int32)))])) _
          refine XS.ifYes X0.here hx rfl (pc0 := 11) (pc' := 23) rfl (hb hby at_11) rfl ((if0 _ _).trans (teq hc11_42).1) (by decide) (by decide) ?_
          show Steps p.tables e below (s₁.setTop (mkF m 23 #[.val (.int p1), .val (.int p2), .val (.int p3), .val (.int (8 : Int32)), .unset] [])) _
          refine XS.iloadN X0.here hx rfl (hb hby at_23) rfl ?_
          show Steps p.tables e below (s₁.setTop (mkF m 24 #[.val (.int p1), .val (.int p2), .val (.int p3), .val (.int (8 : Int32)), .unset] [(.int p2)])) _
          exact k
        exact J11_41 _ (by simp only [if_pos hc11_42])
      · refine GoalS.lift (B := (s₁.setTop (mkF m 24 #[.val (.int p1), .val (.int p2), .val (.int p3), .val (.int (8 : Int32)), .unset] [(.int ((p2 &&& (7 : Int32)) - (3 : Int32)))]))) (fun t k => ?_) ?_
        · show Steps p.tables e below (s₁.setTop (mkF m 11 #[.val (.int p1), .val (.int p2), .val (.int p3), .val (.int (8 : Int32)), .unset] [(.int (p3 &&& (1 : Int32)))])) _
          refine XS.ifNo X0.here hx rfl (hb hby at_11) rfl ((if0 _ _).trans (feq hc11_42).1) ?_
          show Steps p.tables e below (s₁.setTop (mkF m 14 #[.val (.int p1), .val (.int p2), .val (.int p3), .val (.int (8 : Int32)), .unset] [])) _
          refine XS.iloadN X0.here hx rfl (hb hby at_14) rfl ?_
          show Steps p.tables e below (s₁.setTop (mkF m 15 #[.val (.int p1), .val (.int p2), .val (.int p3), .val (.int (8 : Int32)), .unset] [(.int p2)])) _
          refine XS.bipush X0.here hx rfl (hb hby at_15) ?_
          show Steps p.tables e below (s₁.setTop (mkF m 17 #[.val (.int p1), .val (.int p2), .val (.int p3), .val (.int (8 : Int32)), .unset] [(.int (7 : Int32)), (.int p2)])) _
          refine XS.iand X0.here hx rfl (hb hby at_17) rfl ?_
          show Steps p.tables e below (s₁.setTop (mkF m 18 #[.val (.int p1), .val (.int p2), .val (.int p3), .val (.int (8 : Int32)), .unset] [(.int (p2 &&& (7 : Int32)))])) _
          refine XS.iconst X0.here hx rfl (hb hby at_18) ?_
          show Steps p.tables e below (s₁.setTop (mkF m 19 #[.val (.int p1), .val (.int p2), .val (.int p3), .val (.int (8 : Int32)), .unset] [(.int (3 : Int32)), (.int (p2 &&& (7 : Int32)))])) _
          refine XS.isub X0.here hx rfl (hb hby at_19) rfl ?_
          show Steps p.tables e below (s₁.setTop (mkF m 20 #[.val (.int p1), .val (.int p2), .val (.int p3), .val (.int (8 : Int32)), .unset] [(.int ((p2 &&& (7 : Int32)) - (3 : Int32)))])) _
          refine XS.goto X0.here hx rfl (pc0 := 20) (pc' := 24) rfl (hb hby at_20) (by decide) (by decide) ?_
          show Steps p.tables e below (s₁.setTop (mkF m 24 #[.val (.int p1), .val (.int p2), .val (.int p3), .val (.int (8 : Int32)), .unset] [(.int ((p2 &&& (7 : Int32)) - (3 : Int32)))])) _
          exact k
        exact J11_41 _ (by simp only [if_neg hc11_42])
    intro i11_0 h_i11_0
    obtain ⟨_, _, ⟨T43, L43, k43, n43⟩, -, X43, ⟨Lc43, hQ43, l43, y43, z43⟩, st43⟩ := Jvm.LawKit.callS X0 hx (y := (⟨"com/example/always_over_paths/alwaysoverpaths/property/KindTakesPinLaw", "kindOf", "(I)Lcom/example/always_over_paths/alwaysoverpaths/property/Formula$Kind;"⟩ : MethodName)) hown (mvT hZ (hw _ (List.mem_of_getElem? (i := 1) rfl))) (mvT hZ (hw _ (List.mem_of_getElem? (i := 2) rfl))) (mvT hZ (hw _ (List.mem_of_getElem? (i := 3) rfl))) (mvT hZ (hw _ (List.mem_of_getElem? (i := 4) rfl))) (by decide) (backOf (W := 0) (rm1 l Z a0 hw [] (8 : Int32) o_ATOM o_NEGATION o_ALL_PATHS o_EXISTS_PATH o_GLOBALLY o_DISJUNCTION o_NEXT o_FINALLY o_UNTIL o_CONJUNCTION h0 n0 Z0 S_ATOM S_NEGATION S_ALL_PATHS S_EXISTS_PATH S_GLOBALLY S_DISJUNCTION S_NEXT S_FINALLY S_UNTIL S_CONJUNCTION) hZ (hw _ (List.mem_of_getElem? (i := 4) rfl)) (hw _ (List.mem_of_getElem? (i := 3) rfl)) (by decide) (by decide)) (g := (mkF m 27 #[.val (.int p1), .val (.int p2), .val (.int p3), .val (.int (8 : Int32)), .val (.int i11_0)] [(.int (8 : Int32))])) rfl (by rw [hml]; rfl) (argsL := [(.int (8 : Int32))]) (rest := []) (lenOf pd_0 rfl) rfl (by show 2 * 0 + _ ≤ _; exact Nat.le_of_eq rfl) (hb hby at_27) (fun _ _ => ⟨rfl, e0, (by decide : 0 + 0 ≤ _), (by decide : 0 + 0 ≤ _)⟩)
    dsimp only [Pt.U, Pt.locs, Pt.cells, Pt.slots] at X43 l43 y43 z43 st43 hQ43
    subst l43 y43 z43
    obtain ⟨r43, rfl, hr43, N43q, eq43⟩ := hQ43
    have N43 := Fr.app N0 N43q
    have hqr43 : r43 = o_GLOBALLY := by rw [hr43]; rfl
    refine GoalS.lift (B := (T43.setTop (mkF m 30 #[.val (.int p1), .val (.int p2), .val (.int p3), .val (.int (8 : Int32)), .val (.int i11_0)] [(.ref r43)]))) (fun t k => ?_) ?_
    · show Steps p.tables e below (s₁.setTop (mkF m 24 #[.val (.int p1), .val (.int p2), .val (.int p3), .val (.int (8 : Int32)), .unset] [(.int i11_0)])) _
      refine XS.istore X0.here hx rfl (hb hby at_24) rfl (l' := #[.val (.int p1), .val (.int p2), .val (.int p3), .val (.int (8 : Int32)), .val (.int i11_0)]) rfl ?_
      show Steps p.tables e below (s₁.setTop (mkF m 26 #[.val (.int p1), .val (.int p2), .val (.int p3), .val (.int (8 : Int32)), .val (.int i11_0)] [])) _
      refine XS.iloadN X0.here hx rfl (hb hby at_26) rfl ?_
      show Steps p.tables e below (s₁.setTop (mkF m 27 #[.val (.int p1), .val (.int p2), .val (.int p3), .val (.int (8 : Int32)), .val (.int i11_0)] [(.int (8 : Int32))])) _
      refine st43 _ ?_
      exact k
    rw [hqr43]
    obtain ⟨cq44, kq44, q44a, q44b, q44c⟩ := isOf hZ eq43 E_o_GLOBALLY
    obtain ⟨_, _, ⟨T44, L44, k44, n44⟩, -, X44, ⟨Lc44, hQ44, l44, y44, z44⟩, st44⟩ := X43.virtualBack hx (y := (⟨"com/example/always_over_paths/alwaysoverpaths/property/Formula$Kind", "takes", "(I)Z"⟩ : MethodName)) (z := (⟨"com/example/always_over_paths/alwaysoverpaths/property/Formula$Kind", "takes", "(I)Z"⟩ : MethodName)) hown (mvT hZ (hw _ (List.mem_of_getElem? (i := 8) rfl))) (mvT hZ (hw _ (List.mem_of_getElem? (i := 9) rfl))) (notFace_of_selects (args := #[]) (mvT hZ (hw _ (List.mem_of_getElem? (i := 11) rfl)))) (mvT hZ (hw _ (List.mem_of_getElem? (i := 11) rfl))) (mvT hZ (hw _ (List.mem_of_getElem? (i := 10) rfl))) (by decide) (backOf (W := 0) (rm2 l Z a0 hw [] o_GLOBALLY i11_0 (1 : Int32) (1 : Int32) h0 n0 Z0 F_minOperands_o_GLOBALLY F_maxOperands_o_GLOBALLY) hZ (hw _ (List.mem_of_getElem? (i := 12) rfl)) (hw _ (List.mem_of_getElem? (i := 6) rfl)) (by decide) (by decide)) q44a q44c (g := (mkF m 32 #[.val (.int p1), .val (.int p2), .val (.int p3), .val (.int (8 : Int32)), .val (.int i11_0)] [(.int i11_0), (.ref o_GLOBALLY)])) rfl (by rw [hml]; rfl) (Steps.refl _) (argsL := [(.int i11_0)]) (rest := []) (lenOf pd_1 rfl) rfl (by show 2 * 0 + _ ≤ _; exact Nat.le_of_eq rfl) (hb hby at_32) (fun _ _ => ⟨rfl, eq43, (by decide : 0 + 0 ≤ _), (by decide : 0 + 0 ≤ _)⟩)
    dsimp only [Pt.U, Pt.locs, Pt.cells, Pt.slots] at X44 l44 y44 z44 st44 hQ44
    subst l44 y44 z44
    obtain ⟨r44, rfl, hr44, N44q, eq44⟩ := hQ44
    have N44 := Fr.app N43 N44q
    obtain ⟨_, _, ⟨T45, L45, k45, n45⟩, -, X45, ⟨Lc45, hQ45, l45, y45, z45⟩, st45⟩ := Jvm.LawKit.callS X44 hx (y := (⟨"com/example/always_over_paths/alwaysoverpaths/property/KindTakesPinLaw", "expected", "(II)Z"⟩ : MethodName)) hown (mvT hZ (hw _ (List.mem_of_getElem? (i := 17) rfl))) (mvT hZ (hw _ (List.mem_of_getElem? (i := 18) rfl))) (mvT hZ (hw _ (List.mem_of_getElem? (i := 3) rfl))) (mvT hZ (hw _ (List.mem_of_getElem? (i := 19) rfl))) (by decide) (backOf (W := 1) (rm3 l Z a0 hw [] (8 : Int32) i11_0 h0 n0 Z0) hZ (hw _ (List.mem_of_getElem? (i := 19) rfl)) (hw _ (List.mem_of_getElem? (i := 3) rfl)) (by decide) (by decide)) (g := (mkF m 38 #[.val (.int p1), .val (.int p2), .val (.int p3), .val (.int (8 : Int32)), .val (.int i11_0)] [(.int i11_0), (.int (8 : Int32)), (.int r44)])) rfl (by rw [hml]; rfl) (argsL := [(.int (8 : Int32)), (.int i11_0)]) (rest := [(.int r44)]) (lenOf pd_2 rfl) rfl (by show 2 * 0 + _ ≤ _; exact Nat.le_of_eq rfl) (hb hby at_38) (fun _ _ => ⟨rfl, eq44, (by decide : 0 + 0 ≤ _), (by decide : 0 + 0 ≤ _)⟩)
    dsimp only [Pt.U, Pt.locs, Pt.cells, Pt.slots] at X45 l45 y45 z45 st45 hQ45
    subst l45 y45 z45
    obtain ⟨r45, rfl, hr45, N45q, eq45⟩ := hQ45
    have N45 := Fr.app N44 N45q
    obtain ⟨fs, hr, hrun, hended, hW, hsame⟩ := X45.leave (v := some (.int (1 : Int32))) (fun h => by rw [Bd.returns] at h; cases h)
    refine ⟨_, _, ?_, hrun, hended, _, _, rfl, ?_, ⟨_, rfl⟩, hW, hsame.mono (by decide) (by decide)⟩
    · show Steps p.tables e below (T43.setTop (mkF m 30 #[.val (.int p1), .val (.int p2), .val (.int p3), .val (.int (8 : Int32)), .val (.int i11_0)] [(.ref o_GLOBALLY)])) _
      refine XS.iload X43.here hx rfl (hb hby at_30) rfl ?_
      show Steps p.tables e below (T43.setTop (mkF m 32 #[.val (.int p1), .val (.int p2), .val (.int p3), .val (.int (8 : Int32)), .val (.int i11_0)] [(.int i11_0), (.ref o_GLOBALLY)])) _
      refine st44.trans ?_
      show Steps p.tables e below (T44.setTop (mkF m 35 #[.val (.int p1), .val (.int p2), .val (.int p3), .val (.int (8 : Int32)), .val (.int i11_0)] [(.int r44)])) _
      refine XS.iloadN X44.here hx rfl (hb hby at_35) rfl ?_
      show Steps p.tables e below (T44.setTop (mkF m 36 #[.val (.int p1), .val (.int p2), .val (.int p3), .val (.int (8 : Int32)), .val (.int i11_0)] [(.int (8 : Int32)), (.int r44)])) _
      refine XS.iload X44.here hx rfl (hb hby at_36) rfl ?_
      show Steps p.tables e below (T44.setTop (mkF m 38 #[.val (.int p1), .val (.int p2), .val (.int p3), .val (.int (8 : Int32)), .val (.int i11_0)] [(.int i11_0), (.int (8 : Int32)), (.int r44)])) _
      refine st45 _ ?_
      show Steps p.tables e below (T45.setTop (mkF m 41 #[.val (.int p1), .val (.int p2), .val (.int p3), .val (.int (8 : Int32)), .val (.int i11_0)] [(.int r45), (.int r44)])) _
      refine XS.icmpNo X45.here hx rfl (hb hby at_41) rfl ((teq (by rw [hr44, hr45]; exact own_e1 _ : r44 = r45)).2) ?_
      show Steps p.tables e below (T45.setTop (mkF m 44 #[.val (.int p1), .val (.int p2), .val (.int p3), .val (.int (8 : Int32)), .val (.int i11_0)] [])) _
      refine XS.iconst X45.here hx rfl (hb hby at_44) ?_
      show Steps p.tables e below (T45.setTop (mkF m 45 #[.val (.int p1), .val (.int p2), .val (.int p3), .val (.int (8 : Int32)), .val (.int i11_0)] [(.int (1 : Int32))])) _
      refine XS.goto X45.here hx rfl (pc0 := 45) (pc' := 49) rfl (hb hby at_45) (by decide) (by decide) ?_
      show Steps p.tables e below (T45.setTop (mkF m 49 #[.val (.int p1), .val (.int p2), .val (.int p3), .val (.int (8 : Int32)), .val (.int i11_0)] [(.int (1 : Int32))])) _
      exact retN X45 hx (t := .boolean) Bd.returns (by simp) (hb hby at_49) hr
    · exact ⟨rfl, N45⟩
  · rw [hk6]
    refine GoalS.lift (B := (s₁.setTop (mkF m 11 #[.val (.int p1), .val (.int p2), .val (.int p3), .val (.int (9 : Int32)), .unset] [(.int (p3 &&& (1 : Int32)))]))) (fun t k => ?_) ?_
    · show Steps p.tables e below (s₁.setTop (mkF m 7 #[.val (.int p1), .val (.int p2), .val (.int p3), .unset, .unset] [(.int (9 : Int32))])) _
      refine XS.istoreN X0.here hx rfl (hb hby at_7) rfl (l' := #[.val (.int p1), .val (.int p2), .val (.int p3), .val (.int (9 : Int32)), .unset]) rfl ?_
      show Steps p.tables e below (s₁.setTop (mkF m 8 #[.val (.int p1), .val (.int p2), .val (.int p3), .val (.int (9 : Int32)), .unset] [])) _
      refine XS.iloadN X0.here hx rfl (hb hby at_8) rfl ?_
      show Steps p.tables e below (s₁.setTop (mkF m 9 #[.val (.int p1), .val (.int p2), .val (.int p3), .val (.int (9 : Int32)), .unset] [(.int p3)])) _
      refine XS.iconst X0.here hx rfl (hb hby at_9) ?_
      show Steps p.tables e below (s₁.setTop (mkF m 10 #[.val (.int p1), .val (.int p2), .val (.int p3), .val (.int (9 : Int32)), .unset] [(.int (1 : Int32)), (.int p3)])) _
      refine XS.iand X0.here hx rfl (hb hby at_10) rfl ?_
      show Steps p.tables e below (s₁.setTop (mkF m 11 #[.val (.int p1), .val (.int p2), .val (.int p3), .val (.int (9 : Int32)), .unset] [(.int (p3 &&& (1 : Int32)))])) _
      exact k
    suffices J11_46 : ∀ (i11_0 : Int32), i11_0 = (if (p3 &&& (1 : Int32)) = (0 : Int32) then p2 else ((p2 &&& (7 : Int32)) - (3 : Int32))) → GoalS p.tables e below s 0 0 (Q0 Z p1 p2 p3 o_ATOM o_NEGATION o_ALL_PATHS o_EXISTS_PATH o_GLOBALLY o_DISJUNCTION o_NEXT o_FINALLY o_UNTIL o_CONJUNCTION h0 n0) (s₁.setTop (mkF m 24 #[.val (.int p1), .val (.int p2), .val (.int p3), .val (.int (9 : Int32)), .unset] [(.int i11_0)])) by
      by_cases hc11_47 : (p3 &&& (1 : Int32)) = (0 : Int32)
      · refine GoalS.lift (B := (s₁.setTop (mkF m 24 #[.val (.int p1), .val (.int p2), .val (.int p3), .val (.int (9 : Int32)), .unset] [(.int p2)]))) (fun t k => ?_) ?_
        · show Steps p.tables e below (s₁.setTop (mkF m 11 #[.val (.int p1), .val (.int p2), .val (.int p3), .val (.int (9 : Int32)), .unset] [(.int (p3 &&& (1 : Int32)))])) _
          refine XS.ifYes X0.here hx rfl (pc0 := 11) (pc' := 23) rfl (hb hby at_11) rfl ((if0 _ _).trans (teq hc11_47).1) (by decide) (by decide) ?_
          show Steps p.tables e below (s₁.setTop (mkF m 23 #[.val (.int p1), .val (.int p2), .val (.int p3), .val (.int (9 : Int32)), .unset] [])) _
          refine XS.iloadN X0.here hx rfl (hb hby at_23) rfl ?_
          show Steps p.tables e below (s₁.setTop (mkF m 24 #[.val (.int p1), .val (.int p2), .val (.int p3), .val (.int (9 : Int32)), .unset] [(.int p2)])) _
          exact k
        exact J11_46 _ (by simp only [if_pos hc11_47])
      · refine GoalS.lift (B := (s₁.setTop (mkF m 24 #[.val (.int p1), .val (.int p2), .val (.int p3), .val (.int (9 : Int32)), .unset] [(.int ((p2 &&& (7 : Int32)) - (3 : Int32)))]))) (fun t k => ?_) ?_
        · show Steps p.tables e below (s₁.setTop (mkF m 11 #[.val (.int p1), .val (.int p2), .val (.int p3), .val (.int (9 : Int32)), .unset] [(.int (p3 &&& (1 : Int32)))])) _
          refine XS.ifNo X0.here hx rfl (hb hby at_11) rfl ((if0 _ _).trans (feq hc11_47).1) ?_
          show Steps p.tables e below (s₁.setTop (mkF m 14 #[.val (.int p1), .val (.int p2), .val (.int p3), .val (.int (9 : Int32)), .unset] [])) _
          refine XS.iloadN X0.here hx rfl (hb hby at_14) rfl ?_
          show Steps p.tables e below (s₁.setTop (mkF m 15 #[.val (.int p1), .val (.int p2), .val (.int p3), .val (.int (9 : Int32)), .unset] [(.int p2)])) _
          refine XS.bipush X0.here hx rfl (hb hby at_15) ?_
          show Steps p.tables e below (s₁.setTop (mkF m 17 #[.val (.int p1), .val (.int p2), .val (.int p3), .val (.int (9 : Int32)), .unset] [(.int (7 : Int32)), (.int p2)])) _
          refine XS.iand X0.here hx rfl (hb hby at_17) rfl ?_
          show Steps p.tables e below (s₁.setTop (mkF m 18 #[.val (.int p1), .val (.int p2), .val (.int p3), .val (.int (9 : Int32)), .unset] [(.int (p2 &&& (7 : Int32)))])) _
          refine XS.iconst X0.here hx rfl (hb hby at_18) ?_
          show Steps p.tables e below (s₁.setTop (mkF m 19 #[.val (.int p1), .val (.int p2), .val (.int p3), .val (.int (9 : Int32)), .unset] [(.int (3 : Int32)), (.int (p2 &&& (7 : Int32)))])) _
          refine XS.isub X0.here hx rfl (hb hby at_19) rfl ?_
          show Steps p.tables e below (s₁.setTop (mkF m 20 #[.val (.int p1), .val (.int p2), .val (.int p3), .val (.int (9 : Int32)), .unset] [(.int ((p2 &&& (7 : Int32)) - (3 : Int32)))])) _
          refine XS.goto X0.here hx rfl (pc0 := 20) (pc' := 24) rfl (hb hby at_20) (by decide) (by decide) ?_
          show Steps p.tables e below (s₁.setTop (mkF m 24 #[.val (.int p1), .val (.int p2), .val (.int p3), .val (.int (9 : Int32)), .unset] [(.int ((p2 &&& (7 : Int32)) - (3 : Int32)))])) _
          exact k
        exact J11_46 _ (by simp only [if_neg hc11_47])
    intro i11_0 h_i11_0
    obtain ⟨_, _, ⟨T48, L48, k48, n48⟩, -, X48, ⟨Lc48, hQ48, l48, y48, z48⟩, st48⟩ := Jvm.LawKit.callS X0 hx (y := (⟨"com/example/always_over_paths/alwaysoverpaths/property/KindTakesPinLaw", "kindOf", "(I)Lcom/example/always_over_paths/alwaysoverpaths/property/Formula$Kind;"⟩ : MethodName)) hown (mvT hZ (hw _ (List.mem_of_getElem? (i := 1) rfl))) (mvT hZ (hw _ (List.mem_of_getElem? (i := 2) rfl))) (mvT hZ (hw _ (List.mem_of_getElem? (i := 3) rfl))) (mvT hZ (hw _ (List.mem_of_getElem? (i := 4) rfl))) (by decide) (backOf (W := 0) (rm1 l Z a0 hw [] (9 : Int32) o_ATOM o_NEGATION o_ALL_PATHS o_EXISTS_PATH o_GLOBALLY o_DISJUNCTION o_NEXT o_FINALLY o_UNTIL o_CONJUNCTION h0 n0 Z0 S_ATOM S_NEGATION S_ALL_PATHS S_EXISTS_PATH S_GLOBALLY S_DISJUNCTION S_NEXT S_FINALLY S_UNTIL S_CONJUNCTION) hZ (hw _ (List.mem_of_getElem? (i := 4) rfl)) (hw _ (List.mem_of_getElem? (i := 3) rfl)) (by decide) (by decide)) (g := (mkF m 27 #[.val (.int p1), .val (.int p2), .val (.int p3), .val (.int (9 : Int32)), .val (.int i11_0)] [(.int (9 : Int32))])) rfl (by rw [hml]; rfl) (argsL := [(.int (9 : Int32))]) (rest := []) (lenOf pd_0 rfl) rfl (by show 2 * 0 + _ ≤ _; exact Nat.le_of_eq rfl) (hb hby at_27) (fun _ _ => ⟨rfl, e0, (by decide : 0 + 0 ≤ _), (by decide : 0 + 0 ≤ _)⟩)
    dsimp only [Pt.U, Pt.locs, Pt.cells, Pt.slots] at X48 l48 y48 z48 st48 hQ48
    subst l48 y48 z48
    obtain ⟨r48, rfl, hr48, N48q, eq48⟩ := hQ48
    have N48 := Fr.app N0 N48q
    have hqr48 : r48 = o_UNTIL := by rw [hr48]; rfl
    refine GoalS.lift (B := (T48.setTop (mkF m 30 #[.val (.int p1), .val (.int p2), .val (.int p3), .val (.int (9 : Int32)), .val (.int i11_0)] [(.ref r48)]))) (fun t k => ?_) ?_
    · show Steps p.tables e below (s₁.setTop (mkF m 24 #[.val (.int p1), .val (.int p2), .val (.int p3), .val (.int (9 : Int32)), .unset] [(.int i11_0)])) _
      refine XS.istore X0.here hx rfl (hb hby at_24) rfl (l' := #[.val (.int p1), .val (.int p2), .val (.int p3), .val (.int (9 : Int32)), .val (.int i11_0)]) rfl ?_
      show Steps p.tables e below (s₁.setTop (mkF m 26 #[.val (.int p1), .val (.int p2), .val (.int p3), .val (.int (9 : Int32)), .val (.int i11_0)] [])) _
      refine XS.iloadN X0.here hx rfl (hb hby at_26) rfl ?_
      show Steps p.tables e below (s₁.setTop (mkF m 27 #[.val (.int p1), .val (.int p2), .val (.int p3), .val (.int (9 : Int32)), .val (.int i11_0)] [(.int (9 : Int32))])) _
      refine st48 _ ?_
      exact k
    rw [hqr48]
    obtain ⟨cq49, kq49, q49a, q49b, q49c⟩ := isOf hZ eq48 E_o_UNTIL
    obtain ⟨_, _, ⟨T49, L49, k49, n49⟩, -, X49, ⟨Lc49, hQ49, l49, y49, z49⟩, st49⟩ := X48.virtualBack hx (y := (⟨"com/example/always_over_paths/alwaysoverpaths/property/Formula$Kind", "takes", "(I)Z"⟩ : MethodName)) (z := (⟨"com/example/always_over_paths/alwaysoverpaths/property/Formula$Kind", "takes", "(I)Z"⟩ : MethodName)) hown (mvT hZ (hw _ (List.mem_of_getElem? (i := 8) rfl))) (mvT hZ (hw _ (List.mem_of_getElem? (i := 9) rfl))) (notFace_of_selects (args := #[]) (mvT hZ (hw _ (List.mem_of_getElem? (i := 11) rfl)))) (mvT hZ (hw _ (List.mem_of_getElem? (i := 11) rfl))) (mvT hZ (hw _ (List.mem_of_getElem? (i := 10) rfl))) (by decide) (backOf (W := 0) (rm2 l Z a0 hw [] o_UNTIL i11_0 (2 : Int32) (2 : Int32) h0 n0 Z0 F_minOperands_o_UNTIL F_maxOperands_o_UNTIL) hZ (hw _ (List.mem_of_getElem? (i := 12) rfl)) (hw _ (List.mem_of_getElem? (i := 6) rfl)) (by decide) (by decide)) q49a q49c (g := (mkF m 32 #[.val (.int p1), .val (.int p2), .val (.int p3), .val (.int (9 : Int32)), .val (.int i11_0)] [(.int i11_0), (.ref o_UNTIL)])) rfl (by rw [hml]; rfl) (Steps.refl _) (argsL := [(.int i11_0)]) (rest := []) (lenOf pd_1 rfl) rfl (by show 2 * 0 + _ ≤ _; exact Nat.le_of_eq rfl) (hb hby at_32) (fun _ _ => ⟨rfl, eq48, (by decide : 0 + 0 ≤ _), (by decide : 0 + 0 ≤ _)⟩)
    dsimp only [Pt.U, Pt.locs, Pt.cells, Pt.slots] at X49 l49 y49 z49 st49 hQ49
    subst l49 y49 z49
    obtain ⟨r49, rfl, hr49, N49q, eq49⟩ := hQ49
    have N49 := Fr.app N48 N49q
    obtain ⟨_, _, ⟨T50, L50, k50, n50⟩, -, X50, ⟨Lc50, hQ50, l50, y50, z50⟩, st50⟩ := Jvm.LawKit.callS X49 hx (y := (⟨"com/example/always_over_paths/alwaysoverpaths/property/KindTakesPinLaw", "expected", "(II)Z"⟩ : MethodName)) hown (mvT hZ (hw _ (List.mem_of_getElem? (i := 17) rfl))) (mvT hZ (hw _ (List.mem_of_getElem? (i := 18) rfl))) (mvT hZ (hw _ (List.mem_of_getElem? (i := 3) rfl))) (mvT hZ (hw _ (List.mem_of_getElem? (i := 19) rfl))) (by decide) (backOf (W := 1) (rm3 l Z a0 hw [] (9 : Int32) i11_0 h0 n0 Z0) hZ (hw _ (List.mem_of_getElem? (i := 19) rfl)) (hw _ (List.mem_of_getElem? (i := 3) rfl)) (by decide) (by decide)) (g := (mkF m 38 #[.val (.int p1), .val (.int p2), .val (.int p3), .val (.int (9 : Int32)), .val (.int i11_0)] [(.int i11_0), (.int (9 : Int32)), (.int r49)])) rfl (by rw [hml]; rfl) (argsL := [(.int (9 : Int32)), (.int i11_0)]) (rest := [(.int r49)]) (lenOf pd_2 rfl) rfl (by show 2 * 0 + _ ≤ _; exact Nat.le_of_eq rfl) (hb hby at_38) (fun _ _ => ⟨rfl, eq49, (by decide : 0 + 0 ≤ _), (by decide : 0 + 0 ≤ _)⟩)
    dsimp only [Pt.U, Pt.locs, Pt.cells, Pt.slots] at X50 l50 y50 z50 st50 hQ50
    subst l50 y50 z50
    obtain ⟨r50, rfl, hr50, N50q, eq50⟩ := hQ50
    have N50 := Fr.app N49 N50q
    obtain ⟨fs, hr, hrun, hended, hW, hsame⟩ := X50.leave (v := some (.int (1 : Int32))) (fun h => by rw [Bd.returns] at h; cases h)
    refine ⟨_, _, ?_, hrun, hended, _, _, rfl, ?_, ⟨_, rfl⟩, hW, hsame.mono (by decide) (by decide)⟩
    · show Steps p.tables e below (T48.setTop (mkF m 30 #[.val (.int p1), .val (.int p2), .val (.int p3), .val (.int (9 : Int32)), .val (.int i11_0)] [(.ref o_UNTIL)])) _
      refine XS.iload X48.here hx rfl (hb hby at_30) rfl ?_
      show Steps p.tables e below (T48.setTop (mkF m 32 #[.val (.int p1), .val (.int p2), .val (.int p3), .val (.int (9 : Int32)), .val (.int i11_0)] [(.int i11_0), (.ref o_UNTIL)])) _
      refine st49.trans ?_
      show Steps p.tables e below (T49.setTop (mkF m 35 #[.val (.int p1), .val (.int p2), .val (.int p3), .val (.int (9 : Int32)), .val (.int i11_0)] [(.int r49)])) _
      refine XS.iloadN X49.here hx rfl (hb hby at_35) rfl ?_
      show Steps p.tables e below (T49.setTop (mkF m 36 #[.val (.int p1), .val (.int p2), .val (.int p3), .val (.int (9 : Int32)), .val (.int i11_0)] [(.int (9 : Int32)), (.int r49)])) _
      refine XS.iload X49.here hx rfl (hb hby at_36) rfl ?_
      show Steps p.tables e below (T49.setTop (mkF m 38 #[.val (.int p1), .val (.int p2), .val (.int p3), .val (.int (9 : Int32)), .val (.int i11_0)] [(.int i11_0), (.int (9 : Int32)), (.int r49)])) _
      refine st50 _ ?_
      show Steps p.tables e below (T50.setTop (mkF m 41 #[.val (.int p1), .val (.int p2), .val (.int p3), .val (.int (9 : Int32)), .val (.int i11_0)] [(.int r50), (.int r49)])) _
      refine XS.icmpNo X50.here hx rfl (hb hby at_41) rfl ((teq (by rw [hr49, hr50]; exact own_e9 _ : r49 = r50)).2) ?_
      show Steps p.tables e below (T50.setTop (mkF m 44 #[.val (.int p1), .val (.int p2), .val (.int p3), .val (.int (9 : Int32)), .val (.int i11_0)] [])) _
      refine XS.iconst X50.here hx rfl (hb hby at_44) ?_
      show Steps p.tables e below (T50.setTop (mkF m 45 #[.val (.int p1), .val (.int p2), .val (.int p3), .val (.int (9 : Int32)), .val (.int i11_0)] [(.int (1 : Int32))])) _
      refine XS.goto X50.here hx rfl (pc0 := 45) (pc' := 49) rfl (hb hby at_45) (by decide) (by decide) ?_
      show Steps p.tables e below (T50.setTop (mkF m 49 #[.val (.int p1), .val (.int p2), .val (.int p3), .val (.int (9 : Int32)), .val (.int i11_0)] [(.int (1 : Int32))])) _
      exact retN X50 hx (t := .boolean) Bd.returns (by simp) (hb hby at_49) hr
    · exact ⟨rfl, N50⟩
set_option maxRecDepth 65536 in
set_option maxHeartbeats 40000000 in
theorem comes_1 {Post : Tables → Env → Array Value → State → Outcome → State → Prop} (hpost : ∀ tb e args s v u, (limb_1_1.after args s (.returned v) u = true ∧ limb_1_2.after args s (.returned v) u = true ∧ True) → FrameEnd s (.returned v) u (Jvm.fieldLocs frame_1_writes args s ++ Jvm.arrayLocs frame_1_arrays args s ++ Jvm.staticLocs frame_1_statics s) 0 0 → Post tb e args s (.returned v) u) :
    ArmFor flags0 classFile x code maxLocals ret World_1 tables_1 room_1 Calls_1 rest_1 Pre_1 Post := by
  intro l hfl _ _ p e ha hc hk s m args below hf hA hF happ hP
  obtain ⟨hcalls, hrest, hpre⟩ := hP
  obtain ⟨-, -, -, hnamed, -, -, -, hat⟩ := (Spec.applies_iff hf).mp happ
  obtain ⟨hg, hn⟩ := and_e (Cond.before_iff.mp (show (Jvm.Cond.and given_1 narrow_1).before args s = true from hpre))
  obtain ⟨g1, g2⟩ := and_e hg
  obtain ⟨g3, g4⟩ := and_e g2
  obtain ⟨g5, g6⟩ := and_e g4
  obtain ⟨w0, w1, w2, rfl⟩ : ∃ w0 w1 w2 : Value, args = #[w0, w1, w2] := by
    have hs : args.size = 3 := by simpa [Cond.value, given_1] using g1
    obtain ⟨L⟩ := args
    match L, hs with
    | [w0, w1, w2], _ => exact ⟨w0, w1, w2, rfl⟩
  have hw := fun d (hd : d ∈ tables_1) => atoms_spec (ws := Jvm.Cond.code x code maxLocals ret :: tables_1) hat d (List.mem_cons_of_mem _ hd)
  have hfit : Fit s := fun {y c} hc i hi => by
    obtain ⟨ha, rfl⟩ := Array.getElem?_eq_some_iff.mp hc
    have q := List.all_eq_true.mp ((Array.all_eq_true_iff_forall_mem.mp hF) _ (Array.getElem_mem ha)) i (List.mem_range.mpr hi)
    simpa [Array.getElem?_eq_getElem hi] using q
  obtain ⟨i0, ei0⟩ := is_v g3
  obtain rfl : w0 = (.int i0) := Option.some.inj ei0
  obtain ⟨i1, ei1⟩ := is_v g5
  obtain rfl : w1 = (.int i1) := Option.some.inj ei1
  obtain ⟨i2, ei2⟩ := is_v g6
  obtain rfl : w2 = (.int i2) := Option.some.inj ei2
  obtain ⟨nn1, nn2⟩ := and_e hn
  obtain ⟨nn3, nn4⟩ := and_e nn2
  obtain ⟨nn5, nn6⟩ := and_e nn4
  obtain ⟨nn7, nn8⟩ := and_e nn6
  obtain ⟨nn9, nn10⟩ := and_e nn8
  obtain ⟨nn11, nn12⟩ := and_e nn10
  obtain ⟨nn13, nn14⟩ := and_e nn12
  obtain ⟨nn15, nn16⟩ := and_e nn14
  obtain ⟨nn17, nn18⟩ := and_e nn16
  obtain ⟨nn19, nn20⟩ := and_e nn18
  obtain ⟨nn21, nn22⟩ := and_e nn20
  obtain ⟨nn23, nn24⟩ := and_e nn22
  obtain ⟨nn25, nn26⟩ := and_e nn24
  obtain ⟨nn27, nn28⟩ := and_e nn26
  obtain ⟨nn29, nn30⟩ := and_e nn28
  obtain ⟨nn31, nn32⟩ := and_e nn30
  obtain ⟨nn33, nn34⟩ := and_e nn32
  obtain ⟨nn35, nn36⟩ := and_e nn34
  obtain ⟨nn37, nn38⟩ := and_e nn36
  obtain ⟨nn39, nn40⟩ := and_e nn38
  obtain ⟨nn41, nn42⟩ := and_e nn40
  obtain ⟨nn43, nn44⟩ := and_e nn42
  obtain ⟨nn45, nn46⟩ := and_e nn44
  obtain ⟨nn47, nn48⟩ := and_e nn46
  obtain ⟨nn49, nn50⟩ := and_e nn48
  obtain ⟨nn51, nn52⟩ := and_e nn50
  obtain ⟨nn53, nn54⟩ := and_e nn52
  obtain ⟨nn55, nn56⟩ := and_e nn54
  obtain ⟨nn57, nn58⟩ := and_e nn56
  obtain ⟨o_ATOM, ev_o_ATOM⟩ := exa_v nn1
  obtain ⟨o_NEGATION, ev_o_NEGATION⟩ := exa_v nn7
  obtain ⟨o_ALL_PATHS, ev_o_ALL_PATHS⟩ := exa_v nn13
  obtain ⟨o_EXISTS_PATH, ev_o_EXISTS_PATH⟩ := exa_v nn17
  obtain ⟨o_GLOBALLY, ev_o_GLOBALLY⟩ := exa_v nn21
  obtain ⟨o_DISJUNCTION, ev_o_DISJUNCTION⟩ := exa_v nn27
  obtain ⟨o_NEXT, ev_o_NEXT⟩ := exa_v nn35
  obtain ⟨o_FINALLY, ev_o_FINALLY⟩ := exa_v nn41
  obtain ⟨o_UNTIL, ev_o_UNTIL⟩ := exa_v nn47
  obtain ⟨o_CONJUNCTION, ev_o_CONJUNCTION⟩ := exa_v nn53
  obtain ⟨n, o, h1, h2, h3, _, L, rfl, ⟨rfl, N⟩, hq⟩ := rm0 l s _ hw tables_1 i0 i1 i2 o_ATOM o_NEGATION o_ALL_PATHS o_EXISTS_PATH o_GLOBALLY o_DISJUNCTION o_NEXT o_FINALLY o_UNTIL o_CONJUNCTION s.heap s.heap.size (Nat.le_refl _) (Sta.start ev_o_ATOM (Or.inr ⟨(hw _ (List.mem_of_getElem? (i := 6) rfl)), (hw _ (List.mem_of_getElem? (i := 7) rfl))⟩)) (Exa.start ev_o_ATOM nn1) (Sta.start ev_o_NEGATION (Or.inr ⟨(hw _ (List.mem_of_getElem? (i := 6) rfl)), (hw _ (List.mem_of_getElem? (i := 21) rfl))⟩)) (Exa.start ev_o_NEGATION nn7) (Sta.start ev_o_ALL_PATHS (Or.inr ⟨(hw _ (List.mem_of_getElem? (i := 6) rfl)), (hw _ (List.mem_of_getElem? (i := 23) rfl))⟩)) (Exa.start ev_o_ALL_PATHS nn13) (Sta.start ev_o_EXISTS_PATH (Or.inr ⟨(hw _ (List.mem_of_getElem? (i := 6) rfl)), (hw _ (List.mem_of_getElem? (i := 25) rfl))⟩)) (Exa.start ev_o_EXISTS_PATH nn17) (Sta.start ev_o_GLOBALLY (Or.inr ⟨(hw _ (List.mem_of_getElem? (i := 6) rfl)), (hw _ (List.mem_of_getElem? (i := 27) rfl))⟩)) (Exa.start ev_o_GLOBALLY nn21) (Sta.start ev_o_DISJUNCTION (Or.inr ⟨(hw _ (List.mem_of_getElem? (i := 6) rfl)), (hw _ (List.mem_of_getElem? (i := 29) rfl))⟩)) (Exa.start ev_o_DISJUNCTION nn27) (Sta.start ev_o_NEXT (Or.inr ⟨(hw _ (List.mem_of_getElem? (i := 6) rfl)), (hw _ (List.mem_of_getElem? (i := 31) rfl))⟩)) (Exa.start ev_o_NEXT nn35) (Sta.start ev_o_FINALLY (Or.inr ⟨(hw _ (List.mem_of_getElem? (i := 6) rfl)), (hw _ (List.mem_of_getElem? (i := 33) rfl))⟩)) (Exa.start ev_o_FINALLY nn41) (Sta.start ev_o_UNTIL (Or.inr ⟨(hw _ (List.mem_of_getElem? (i := 6) rfl)), (hw _ (List.mem_of_getElem? (i := 35) rfl))⟩)) (Exa.start ev_o_UNTIL nn47) (Sta.start ev_o_CONJUNCTION (Or.inr ⟨(hw _ (List.mem_of_getElem? (i := 6) rfl)), (hw _ (List.mem_of_getElem? (i := 37) rfl))⟩)) (Exa.start ev_o_CONJUNCTION nn53) (own_fI ev_o_ATOM nn3) (own_fI ev_o_ATOM nn5) (own_fI ev_o_NEGATION nn9) (own_fI ev_o_NEGATION nn11) (own_fI ev_o_ALL_PATHS nn15) (own_fI ev_o_EXISTS_PATH nn19) (own_fI ev_o_GLOBALLY nn23) (own_fI ev_o_ALL_PATHS nn25) (own_fI ev_o_DISJUNCTION nn29) (own_fI ev_o_DISJUNCTION nn31) (own_fI ev_o_GLOBALLY nn33) (own_fI ev_o_NEXT nn37) (own_fI ev_o_NEXT nn39) (own_fI ev_o_FINALLY nn43) (own_fI ev_o_FINALLY nn45) (own_fI ev_o_UNTIL nn49) (own_fI ev_o_UNTIL nn51) (own_fI ev_o_CONJUNCTION nn55) (own_fI ev_o_EXISTS_PATH nn57) (own_fI ev_o_CONJUNCTION nn58) p e ha hc hk s m _ below hf ((Spec.applies_iff_loose hf).mp happ).1 ⟨rfl, State.Warmed39.refl s, rfl⟩ trivial
  refine ⟨n, _, h1, h2, h3, hpost _ _ _ _ _ _ ⟨Cond.after_iff.mpr rfl, Cond.after_iff.mpr (eq_i res_at (Term.int_eval (1)) rfl), trivial⟩ ⟨hq.1, hq.2.1, (hq.2.2.sift fun y hy => Or.inr (N y hy)).mono (by decide) (by decide)⟩⟩
theorem main_1_1 : Claimed_1_1 := comes_1 fun _ _ _ _ _ _ h hF => ⟨h.1, hF⟩
theorem main_1_2 : Claimed_1_2 := comes_1 fun _ _ _ _ _ _ h hF => ⟨h.2.1, hF⟩
end Jvm.Pilot.@@N@@
namespace Jvm.Pilot.@@N@@
open Jvm Jvm.ClassFile Sem Op Lib Jvm.Free Jvm.Stand Jvm.Pilot.@@N@@.Jvm.D
/-! MADE BY PROGRAM (witnessworld.py) out of the Statement's table words and the real class files: 12 classes; the members and pool entries that the words name. The judged class is class 1, her method 3. -/
namespace start1
open Jvm.ClassFile
def u (s : String) : CpInfo := .utf8 (stringToUtf16 s)
/-- a pool by its gaps: so many unusable entries, then the entry; so many at the end -/
def gap : Nat → List CpInfo → List CpInfo
  | 0, r => r
  | n + 1, r => .unusable :: gap n r
def poolList (es : List (Nat × CpInfo)) (last : Nat) : List CpInfo := es.foldr (fun e r => gap e.1 (e.2 :: r)) (gap last [])
def pool (es : List (Nat × CpInfo)) (last : Nat) : Array CpInfo := ⟨poolList es last⟩
def fileOf (pool : Array CpInfo) (this : Nat) (attrs : Array Attribute := #[]) (ms : Array MethodInfo := #[]) (fl : Nat := 33) (sup : Nat := 0) (ifs : Array Nat := #[]) (fds : Array FieldInfo := #[]) : ClassFile where
  minorVersion := 0
  majorVersion := 65
  constantPool := pool
  accessFlags := fl
  thisClass := this
  superClass := sup
  interfaces := ifs
  fields := fds
  methods := ms
  attributes := attrs
def plain (name : String) (sup : Option ClassId) : Class where
  name := name
  kind := .ordinary
  loader := none
  accessFlags := 33
  super := sup
  interfaces := #[]
  cf := none
  fields := #[]
  methods := #[]
  instanceTypes := #[]
  staticTypes := #[]
  resolved := #[]
  callSites := []
  init := .initialized
  statics := none
  mirror := none

def pool0 : Array CpInfo := pool [(5, u "<init>"), (0, u "()V"), (1, .class_ 10), (1, u "java/lang/Object")] 113

def k0m0 : Method := { name := "<init>", desc := "()V", sig := { parameters := [], returnType := none }, accessFlags := 1, code := none }
/-- java/lang/Object -/
def k0 : Class := { plain "java/lang/Object" none with
  accessFlags := 33
  interfaces := #[]
  cf := some (fileOf pool0 8 #[] #[{ accessFlags := 1, nameIndex := 5, descriptorIndex := 6, attributes := #[] }] 33 0 #[] #[])
  fields := #[]
  methods := #[k0m0]
  instanceTypes := #[]
  staticTypes := #[]
  resolved := Array.replicate 124 none
  statics := none }

def pool1 : Array CpInfo := pool [(2, .class_ 4), (1, u "java/lang/Object"), (0, u "<init>"), (0, u "()V"), (0, .fieldref 8 9), (0, .class_ 10), (0, .nameAndType 11 12), (0, u "com/example/always_over_paths/alwaysoverpaths/property/Formula$Kind"), (0, u "ATOM"), (0, u "Lcom/example/always_over_paths/alwaysoverpaths/property/Formula$Kind;"), (0, .fieldref 8 14), (0, .nameAndType 15 12), (0, u "NEGATION"), (0, .fieldref 8 17), (0, .nameAndType 18 12), (0, u "CONJUNCTION"), (0, .fieldref 8 20), (0, .nameAndType 21 12), (0, u "DISJUNCTION"), (0, .fieldref 8 23), (0, .nameAndType 24 12), (0, u "ALL_PATHS"), (0, .fieldref 8 26), (0, .nameAndType 27 12), (0, u "EXISTS_PATH"), (0, .fieldref 8 29), (0, .nameAndType 30 12), (0, u "NEXT"), (0, .fieldref 8 32), (0, .nameAndType 33 12), (0, u "FINALLY"), (0, .fieldref 8 35), (0, .nameAndType 36 12), (0, u "GLOBALLY"), (0, .fieldref 8 38), (0, .nameAndType 39 12), (0, u "UNTIL"), (0, .integer 2147483647), (0, .methodref 42 43), (0, .class_ 44), (0, .nameAndType 45 46), (0, u "com/example/always_over_paths/alwaysoverpaths/property/KindTakesPinLaw"), (0, u "kindOf"), (0, u "(I)Lcom/example/always_over_paths/alwaysoverpaths/property/Formula$Kind;"), (0, .methodref 8 48), (0, .nameAndType 49 50), (0, u "takes"), (0, u "(I)Z"), (0, .methodref 42 52), (0, .nameAndType 53 54), (0, u "expected"), (0, u "(II)Z"), (3, u "law"), (0, u "(III)Z")] 6

def k1m0 : Method := { name := "<init>", desc := "()V", sig := { parameters := [], returnType := none }, accessFlags := 1, code := none }
def k1c1 : Code := { maxStack := 2, maxLocals := 1, code := method_2_code, exceptionTable := #[], attributes := #[] }
def k1m1 : Method := { name := "kindOf", desc := "(I)Lcom/example/always_over_paths/alwaysoverpaths/property/Formula$Kind;", sig := { parameters := [.int], returnType := some (.object "com/example/always_over_paths/alwaysoverpaths/property/Formula$Kind") }, accessFlags := 10, code := some k1c1 }
def k1c2 : Code := { maxStack := 2, maxLocals := 2, code := method_3_code, exceptionTable := #[], attributes := #[] }
def k1m2 : Method := { name := "expected", desc := "(II)Z", sig := { parameters := [.int, .int], returnType := some .boolean }, accessFlags := 10, code := some k1c2 }
def k1c3 : Code := { maxStack := 3, maxLocals := 5, code := code, exceptionTable := #[], attributes := #[] }
def k1m3 : Method := { name := "law", desc := "(III)Z", sig := { parameters := [.int, .int, .int], returnType := some .boolean }, accessFlags := 9, code := some k1c3 }
/-- com/example/always_over_paths/alwaysoverpaths/property/KindTakesPinLaw -/
def k1 : Class := { plain "com/example/always_over_paths/alwaysoverpaths/property/KindTakesPinLaw" (some 0) with
  accessFlags := 49
  interfaces := #[]
  cf := some (fileOf pool1 42 #[] #[{ accessFlags := 1, nameIndex := 5, descriptorIndex := 6, attributes := #[] }, { accessFlags := 10, nameIndex := 45, descriptorIndex := 46, attributes := #[] }, { accessFlags := 10, nameIndex := 53, descriptorIndex := 54, attributes := #[] }, { accessFlags := 9, nameIndex := 58, descriptorIndex := 59, attributes := #[] }] 49 2 #[] #[])
  fields := #[]
  methods := #[k1m0, k1m1, k1m2, k1m3]
  instanceTypes := #[]
  staticTypes := #[]
  resolved := Array.replicate 66 none
  statics := none }

def pool2 : Array CpInfo := pool [(1, .class_ 2), (0, u "java/lang/constant/Constable"), (0, .class_ 4), (0, u "java/lang/Object")] 6

/-- java/lang/constant/Constable -/
def k2 : Class := { plain "java/lang/constant/Constable" (some 0) with
  accessFlags := 1537
  interfaces := #[]
  cf := some (fileOf pool2 1 #[] #[] 1537 3 #[] #[])
  fields := #[]
  methods := #[]
  instanceTypes := #[]
  staticTypes := #[]
  resolved := Array.replicate 11 none
  statics := none }

def pool3 : Array CpInfo := pool [(1, .class_ 2), (0, u "java/lang/Comparable"), (0, .class_ 4), (0, u "java/lang/Object")] 7

/-- java/lang/Comparable -/
def k3 : Class := { plain "java/lang/Comparable" (some 0) with
  accessFlags := 1537
  interfaces := #[]
  cf := some (fileOf pool3 1 #[] #[] 1537 3 #[] #[])
  fields := #[]
  methods := #[]
  instanceTypes := #[]
  staticTypes := #[]
  resolved := Array.replicate 12 none
  statics := none }

def pool4 : Array CpInfo := pool [(1, .class_ 2), (0, u "java/io/Serializable"), (0, .class_ 4), (0, u "java/lang/Object")] 2

/-- java/io/Serializable -/
def k4 : Class := { plain "java/io/Serializable" (some 0) with
  accessFlags := 1537
  interfaces := #[]
  cf := some (fileOf pool4 1 #[] #[] 1537 3 #[] #[])
  fields := #[]
  methods := #[]
  instanceTypes := #[]
  staticTypes := #[]
  resolved := Array.replicate 7 none
  statics := none }

def pool5 : Array CpInfo := pool [(2, .class_ 4), (1, u "java/lang/Enum"), (0, u "name"), (0, u "Ljava/lang/String;"), (2, u "ordinal"), (0, u "I"), (1, .class_ 14), (1, u "java/lang/Object"), (4, u "hash"), (86, .class_ 108), (1, u "java/lang/Enum$EnumDesc"), (2, .class_ 112), (0, u "java/lang/constant/Constable"), (0, .class_ 114), (0, u "java/lang/Comparable"), (0, .class_ 116), (0, u "java/io/Serializable")] 87

/-- java/lang/Enum -/
def k5 : Class := { plain "java/lang/Enum" (some 0) with
  accessFlags := 1057
  interfaces := #[2, 3, 4]
  cf := some (fileOf pool5 2 #[.nestMembers #[106]] #[] 1057 12 #[111, 113, 115] #[{ accessFlags := 18, nameIndex := 5, descriptorIndex := 6, attributes := #[] }, { accessFlags := 18, nameIndex := 9, descriptorIndex := 10, attributes := #[] }, { accessFlags := 2, nameIndex := 19, descriptorIndex := 10, attributes := #[] }])
  fields := #[{ name := "name", type := (.object "java/lang/String"), accessFlags := 18, slot := 0, constantValue := 0 }, { name := "ordinal", type := .int, accessFlags := 18, slot := 1, constantValue := 0 }, { name := "hash", type := .int, accessFlags := 2, slot := 2, constantValue := 0 }]
  methods := #[]
  instanceTypes := #[(.object "java/lang/String"), .int, .int]
  staticTypes := #[]
  resolved := Array.replicate 204 none
  statics := none }

def pool6 : Array CpInfo := pool [(1, .class_ 2), (0, u "com/example/always_over_paths/alwaysoverpaths/property/Formula$Kind"), (2, u "ATOM"), (0, u "Lcom/example/always_over_paths/alwaysoverpaths/property/Formula$Kind;"), (2, u "NEGATION"), (2, u "CONJUNCTION"), (2, u "DISJUNCTION"), (2, u "ALL_PATHS"), (2, u "EXISTS_PATH"), (2, u "NEXT"), (2, u "FINALLY"), (2, u "GLOBALLY"), (2, u "UNTIL"), (2, u "$VALUES"), (0, u "[Lcom/example/always_over_paths/alwaysoverpaths/property/Formula$Kind;"), (6, .class_ 46), (1, u "java/lang/Enum"), (6, .fieldref 1 54), (0, .nameAndType 55 56), (0, u "minOperands"), (0, u "I"), (0, .fieldref 1 58), (0, .nameAndType 59 56), (0, u "maxOperands"), (35, u "takes"), (0, u "(I)Z"), (9, .class_ 107), (0, u "com/example/always_over_paths/alwaysoverpaths/property/Formula")] 16

def k6c0 : Code := { maxStack := 2, maxLocals := 2, code := prog_37_method_4_code, exceptionTable := #[], attributes := #[] }
def k6m0 : Method := { name := "takes", desc := "(I)Z", sig := { parameters := [.int], returnType := some .boolean }, accessFlags := 1, code := some k6c0 }
/-- com/example/always_over_paths/alwaysoverpaths/property/Formula$Kind -/
def k6 : Class := { plain "com/example/always_over_paths/alwaysoverpaths/property/Formula$Kind" (some 5) with
  accessFlags := 16433
  interfaces := #[]
  cf := some (fileOf pool6 1 #[.nestHost 106] #[{ accessFlags := 1, nameIndex := 95, descriptorIndex := 96, attributes := #[] }] 16433 44 #[] #[{ accessFlags := 16409, nameIndex := 5, descriptorIndex := 6, attributes := #[] }, { accessFlags := 16409, nameIndex := 9, descriptorIndex := 6, attributes := #[] }, { accessFlags := 16409, nameIndex := 12, descriptorIndex := 6, attributes := #[] }, { accessFlags := 16409, nameIndex := 15, descriptorIndex := 6, attributes := #[] }, { accessFlags := 16409, nameIndex := 18, descriptorIndex := 6, attributes := #[] }, { accessFlags := 16409, nameIndex := 21, descriptorIndex := 6, attributes := #[] }, { accessFlags := 16409, nameIndex := 24, descriptorIndex := 6, attributes := #[] }, { accessFlags := 16409, nameIndex := 27, descriptorIndex := 6, attributes := #[] }, { accessFlags := 16409, nameIndex := 30, descriptorIndex := 6, attributes := #[] }, { accessFlags := 16409, nameIndex := 33, descriptorIndex := 6, attributes := #[] }, { accessFlags := 18, nameIndex := 55, descriptorIndex := 56, attributes := #[] }, { accessFlags := 18, nameIndex := 59, descriptorIndex := 56, attributes := #[] }, { accessFlags := 4122, nameIndex := 36, descriptorIndex := 37, attributes := #[] }])
  fields := #[{ name := "ATOM", type := (.object "com/example/always_over_paths/alwaysoverpaths/property/Formula$Kind"), accessFlags := 16409, slot := 0, constantValue := 0 }, { name := "NEGATION", type := (.object "com/example/always_over_paths/alwaysoverpaths/property/Formula$Kind"), accessFlags := 16409, slot := 1, constantValue := 0 }, { name := "CONJUNCTION", type := (.object "com/example/always_over_paths/alwaysoverpaths/property/Formula$Kind"), accessFlags := 16409, slot := 2, constantValue := 0 }, { name := "DISJUNCTION", type := (.object "com/example/always_over_paths/alwaysoverpaths/property/Formula$Kind"), accessFlags := 16409, slot := 3, constantValue := 0 }, { name := "ALL_PATHS", type := (.object "com/example/always_over_paths/alwaysoverpaths/property/Formula$Kind"), accessFlags := 16409, slot := 4, constantValue := 0 }, { name := "EXISTS_PATH", type := (.object "com/example/always_over_paths/alwaysoverpaths/property/Formula$Kind"), accessFlags := 16409, slot := 5, constantValue := 0 }, { name := "NEXT", type := (.object "com/example/always_over_paths/alwaysoverpaths/property/Formula$Kind"), accessFlags := 16409, slot := 6, constantValue := 0 }, { name := "FINALLY", type := (.object "com/example/always_over_paths/alwaysoverpaths/property/Formula$Kind"), accessFlags := 16409, slot := 7, constantValue := 0 }, { name := "GLOBALLY", type := (.object "com/example/always_over_paths/alwaysoverpaths/property/Formula$Kind"), accessFlags := 16409, slot := 8, constantValue := 0 }, { name := "UNTIL", type := (.object "com/example/always_over_paths/alwaysoverpaths/property/Formula$Kind"), accessFlags := 16409, slot := 9, constantValue := 0 }, { name := "minOperands", type := .int, accessFlags := 18, slot := 3, constantValue := 0 }, { name := "maxOperands", type := .int, accessFlags := 18, slot := 4, constantValue := 0 }, { name := "$VALUES", type := (.array (.object "com/example/always_over_paths/alwaysoverpaths/property/Formula$Kind")), accessFlags := 4122, slot := 10, constantValue := 0 }]
  methods := #[k6m0]
  instanceTypes := #[(.object "java/lang/String"), .int, .int, .int, .int]
  staticTypes := #[(.object "com/example/always_over_paths/alwaysoverpaths/property/Formula$Kind"), (.object "com/example/always_over_paths/alwaysoverpaths/property/Formula$Kind"), (.object "com/example/always_over_paths/alwaysoverpaths/property/Formula$Kind"), (.object "com/example/always_over_paths/alwaysoverpaths/property/Formula$Kind"), (.object "com/example/always_over_paths/alwaysoverpaths/property/Formula$Kind"), (.object "com/example/always_over_paths/alwaysoverpaths/property/Formula$Kind"), (.object "com/example/always_over_paths/alwaysoverpaths/property/Formula$Kind"), (.object "com/example/always_over_paths/alwaysoverpaths/property/Formula$Kind"), (.object "com/example/always_over_paths/alwaysoverpaths/property/Formula$Kind"), (.object "com/example/always_over_paths/alwaysoverpaths/property/Formula$Kind"), (.array (.object "com/example/always_over_paths/alwaysoverpaths/property/Formula$Kind"))]
  resolved := Array.replicate 124 none
  statics := some 0 }

def pool7 : Array CpInfo := pool [(1, u "java/lang/Cloneable"), (0, .class_ 1), (0, u "java/lang/Object"), (0, .class_ 3)] 3

/-- java/lang/Cloneable -/
def k7 : Class := { plain "java/lang/Cloneable" (some 0) with
  accessFlags := 1537
  interfaces := #[]
  cf := some (fileOf pool7 2 #[] #[] 1537 4 #[] #[])
  fields := #[]
  methods := #[]
  instanceTypes := #[]
  staticTypes := #[]
  resolved := Array.replicate 8 none
  statics := none }

/-- the primitive byte -/
def k8 : Class := { plain "byte" none with kind := .primitive 'B', accessFlags := 0x411 }
/-- [B -/
def k9 : Class := { plain "[B" (some 0) with kind := .array 8 .byte, interfaces := #[7, 4], accessFlags := 1041 }

/-- the primitive int -/
def k10 : Class := { plain "int" none with kind := .primitive 'I', accessFlags := 0x411 }
/-- [I -/
def k11 : Class := { plain "[I" (some 0) with kind := .array 10 .int, interfaces := #[7, 4], accessFlags := 1041 }

def heap : Heap := #[{ cls := 6, slots := #[.ref 1, .ref 2, .ref 3, .ref 4, .ref 5, .ref 6, .ref 7, .ref 8, .ref 9, .ref 10, .null], vm := .statics 6 },
  { cls := 6, slots := #[.null, .int 0, .int 0, .int 0, .int 0], vm := .none },
  { cls := 6, slots := #[.null, .int 1, .int 0, .int 1, .int 1], vm := .none },
  { cls := 6, slots := #[.null, .int 2, .int 0, .int 2, .int 2147483647], vm := .none },
  { cls := 6, slots := #[.null, .int 3, .int 0, .int 2, .int 2147483647], vm := .none },
  { cls := 6, slots := #[.null, .int 4, .int 0, .int 1, .int 1], vm := .none },
  { cls := 6, slots := #[.null, .int 5, .int 0, .int 1, .int 1], vm := .none },
  { cls := 6, slots := #[.null, .int 6, .int 0, .int 1, .int 1], vm := .none },
  { cls := 6, slots := #[.null, .int 7, .int 0, .int 1, .int 1], vm := .none },
  { cls := 6, slots := #[.null, .int 8, .int 0, .int 1, .int 1], vm := .none },
  { cls := 6, slots := #[.null, .int 9, .int 0, .int 2, .int 2], vm := .none }]
def classes : Array Class := #[k0, k1, k2, k3, k4, k5, k6, k7, k8, k9, k10, k11]
def interned : List (Array UInt16 × Addr) := []
def slotsUsed : Nat := 61
def theMethod : MethodId := ⟨1, 3⟩
def args0 : Array Value := #[.int 5, .int 6, .int 7]
def aboutOver (below : List Frame) : State where
  vm := { classes := classes, interned := interned.toArray }
  heap := heap
  slotsUsed := slotsUsed
  threads := #[{ frames := .invoking theMethod args0 :: below }]
def below0 : List Frame := [.native { method := ⟨0, 0⟩, args := #[] }]
def about1 : State := aboutOver below0
def p0 : Program := .bare "" "" ""
def e0 : Env := launch0.env 0 0 0
theorem w_frames : about1.frames = Frame.invoking theMethod args0 :: below0 := rfl
set_option maxRecDepth 65536 in
theorem w_args : argsFit about1.vm theMethod args0 = true := by decide +kernel
set_option maxRecDepth 65536 in
theorem w_heap : heapFits about1 = true := by decide +kernel
set_option maxRecDepth 65536 in
theorem w_runnable : about1.curStatus? = some .runnable := by decide +kernel
set_option maxRecDepth 65536 in
theorem w_alone : about1.alone = true := by decide +kernel
set_option maxRecDepth 65536 in
theorem w_named : about1.methodNamed? x = some theMethod := by decide +kernel
set_option maxRecDepth 65536 in
theorem w_hears : about1.hears theMethod below0 = true := by decide +kernel
set_option maxRecDepth 65536 in
theorem w_ripe : about1.ripe theMethod args0 below0 = true := by decide +kernel
theorem w_running : about1.status = .running := rfl
set_option maxRecDepth 65536 in
theorem w_room : about1.hasRoom e0.platform room_1 = true :=
  launch0.hasRoom_least _ room_1 (by decide +kernel) (by decide +kernel) (by decide +kernel) (by decide +kernel) (by decide +kernel) (by decide +kernel)
theorem allAtoms_all (ts : List Jvm.Cond) (a : Array Jvm.Value) (st : Jvm.State) : (allAtoms ts).before a st = ts.all (fun c => c.before a st) := by
  induction ts with
  | nil => rfl
  | cons c t ih =>
    show (Jvm.Cond.and c (allAtoms t)).before a st = _
    rw [Jvm.Cond.before_and, ih, List.all_cons]
def words1 : List Jvm.Cond := Jvm.Cond.code x code maxLocals ret :: tables_1
/-- a 'code' word, met by the world's own term for the bytes: nothing is compared byte by byte -/
theorem code_word {y : MethodName} {bytes : ByteArray} {mx : Nat} {rt : Option FieldType} {a : Array Value} {s : State} {m : MethodId} {meth : Method} {c : Code} (h1 : s.methodNamed? y = some m) (h2 : s.vm.method? m = some meth) (h3 : meth.code = some c) (h4 : c.code = bytes)
    (h5 : (c.maxLocals == mx && c.exceptionTable.isEmpty && decide (c.maxStack ≤ mostOperands) && decide (meth.sig.returnType = rt) && !meth.locks && decide (parseMethodDescriptor y.desc = some meth.sig)) = true) : (Jvm.Cond.code y bytes mx rt).before a s = true := by
  simp only [Bool.and_eq_true, beq_iff_eq, Bool.not_eq_true', decide_eq_true_eq] at h5
  obtain ⟨⟨⟨⟨⟨g1, g2⟩, g3⟩, g4⟩, g5⟩, g6⟩ := h5
  simp [Cond.before, Cond.holds, Cond.value, h1, h2, h3, h4, g1, g2, g3, g4, g5, g6]
def isCode : Jvm.Cond → Bool
  | .code _ _ _ _ => true
  | _ => false
theorem all_split {L : List Jvm.Cond} {P : Jvm.Cond → Bool} (h1 : L.all (fun c => isCode c || P c) = true) (h2 : ∀ c ∈ L.filter isCode, P c = true) : L.all P = true := by
  refine List.all_eq_true.mpr fun c hc => ?_
  have h := List.all_eq_true.mp h1 c hc
  rcases Bool.eq_false_or_eq_true (isCode c) with hi | hi
  · exact h2 c (List.mem_filter.mpr ⟨hc, hi⟩)
  · simpa [hi] using h
set_option maxRecDepth 65536 in
theorem w_c0 : (Jvm.Cond.code x code maxLocals ret).before args0 about1 = true := code_word (m := ⟨1, 3⟩) (meth := k1m3) (c := k1c3) (by decide +kernel) rfl rfl rfl (by decide +kernel)
set_option maxRecDepth 65536 in
theorem w_c1 : (Jvm.Cond.code ({ cls := "com/example/always_over_paths/alwaysoverpaths/property/KindTakesPinLaw", name := "kindOf", desc := "(I)Lcom/example/always_over_paths/alwaysoverpaths/property/Formula$Kind;" } : Jvm.MethodName) method_2_code (1 : Nat) (Option.some (Jvm.ClassFile.FieldType.object "com/example/always_over_paths/alwaysoverpaths/property/Formula$Kind"))).before args0 about1 = true := code_word (m := ⟨1, 1⟩) (meth := k1m1) (c := k1c1) (by decide +kernel) rfl rfl rfl (by decide +kernel)
set_option maxRecDepth 65536 in
theorem w_c2 : (Jvm.Cond.code ({ cls := "com/example/always_over_paths/alwaysoverpaths/property/Formula$Kind", name := "takes", desc := "(I)Z" } : Jvm.MethodName) prog_37_method_4_code (2 : Nat) (Option.some Jvm.ClassFile.FieldType.boolean)).before args0 about1 = true := code_word (m := ⟨6, 0⟩) (meth := k6m0) (c := k6c0) (by decide +kernel) rfl rfl rfl (by decide +kernel)
set_option maxRecDepth 65536 in
theorem w_c3 : (Jvm.Cond.code ({ cls := "com/example/always_over_paths/alwaysoverpaths/property/KindTakesPinLaw", name := "expected", desc := "(II)Z" } : Jvm.MethodName) method_3_code (2 : Nat) (Option.some Jvm.ClassFile.FieldType.boolean)).before args0 about1 = true := code_word (m := ⟨1, 2⟩) (meth := k1m2) (c := k1c2) (by decide +kernel) rfl rfl rfl (by decide +kernel)
def codes1 : List Jvm.Cond := [Jvm.Cond.code x code maxLocals ret, Jvm.Cond.code ({ cls := "com/example/always_over_paths/alwaysoverpaths/property/KindTakesPinLaw", name := "kindOf", desc := "(I)Lcom/example/always_over_paths/alwaysoverpaths/property/Formula$Kind;" } : Jvm.MethodName) method_2_code (1 : Nat) (Option.some (Jvm.ClassFile.FieldType.object "com/example/always_over_paths/alwaysoverpaths/property/Formula$Kind")), Jvm.Cond.code ({ cls := "com/example/always_over_paths/alwaysoverpaths/property/Formula$Kind", name := "takes", desc := "(I)Z" } : Jvm.MethodName) prog_37_method_4_code (2 : Nat) (Option.some Jvm.ClassFile.FieldType.boolean), Jvm.Cond.code ({ cls := "com/example/always_over_paths/alwaysoverpaths/property/KindTakesPinLaw", name := "expected", desc := "(II)Z" } : Jvm.MethodName) method_3_code (2 : Nat) (Option.some Jvm.ClassFile.FieldType.boolean)]
set_option maxRecDepth 65536 in
theorem codes_eq : words1.filter isCode = codes1 := rfl
theorem w_codes : ∀ c ∈ words1.filter isCode, c.before args0 about1 = true := by
  rw [codes_eq]
  intro c hc
  simp only [codes1, List.mem_cons, List.not_mem_nil, or_false] at hc
  rcases hc with rfl | rfl | rfl | rfl
  · exact w_c0
  · exact w_c1
  · exact w_c2
  · exact w_c3
set_option maxRecDepth 65536 in
theorem w_t1 : (words1.take 24).all (fun c => isCode c || c.before args0 about1) = true := by decide +kernel
set_option maxRecDepth 65536 in
theorem w_t2 : (words1.drop 24).all (fun c => isCode c || c.before args0 about1) = true := by decide +kernel
theorem w_tables : (allAtoms (Jvm.Cond.code x code maxLocals ret :: tables_1)).before args0 about1 = true := by
  rw [allAtoms_all]
  show words1.all (fun c => c.before args0 about1) = true
  refine all_split ?_ w_codes
  rw [← List.take_append_drop 24 words1, List.all_append, w_t1, w_t2]
  rfl
set_option maxRecDepth 65536 in
theorem w_case : (Jvm.Cond.and given_1 narrow_1).before args0 about1 = true := by decide +kernel
theorem w_applies : (headSpec (Jvm.Cond.code x code maxLocals ret :: tables_1) room_1).applies x e0.platform about1 = true :=
  (Spec.applies_iff w_frames).mpr ⟨w_running, w_runnable, w_alone, w_named, w_hears, w_ripe, w_room, w_tables⟩
theorem atStart : AtStart classFile x code maxLocals ret World_1 tables_1 room_1 Calls_1 rest_1 Pre_1 launch0 p0 e0 about1 theMethod args0 below0 :=
  ⟨lists_1, trivial, launch0.admits_env _ _ _, launch0.least_env, fairChoices_fair.cas, fairChoices_fair.clock, w_frames, w_args, w_heap, w_applies, trivial, trivial, w_case⟩
end start1
theorem witness_1 : WitnessClaimed_1 := ⟨start1.p0, start1.e0, start1.about1, start1.theMethod, start1.args0, start1.below0, start1.atStart⟩
end Jvm.Pilot.@@N@@
