import JvmDerived
import JvmDerived.Pilot.@@N@@Statement
import JvmDerived.Pilot.@@N@@Code
set_option linter.unusedVariables false
set_option linter.unusedSimpArgs false
namespace Jvm.RoadKit
open Sem ClassFile Op Lib Jvm.Stand Jvm.Free Jvm.LawKit
section New
variable {p : Program} {l : Launch} {e : Env} {R : Room} {s : State} {m : MethodId} {args : Array Value} {below : List Frame} {meth : Method} {c : Code} {T : State} {locs : List Loc} {cells slots : Nat}
theorem retI (X : Stand p l e R s m args below meth c T locs cells slots) (hx : p.tables.exec = Jvm.exec) {pc : Nat} {Ls : Array Slot} {z : Int32} {rest : List Value} (hret : meth.sig.returnType = some .int) (hd : decode c.code pc = .ok (.ireturn, 1)) {fs : List Frame}
    (hl : ∀ (f : JFrame) (acts : List Action), f.method = m → f.locked = none → f.entered = [] → (doReturn e (T.setTop f) acts (some (.int z))).1 = T.setFrames fs) : Steps p.tables e below (T.setTop (mkF m pc Ls (.int z :: rest))) (T.setFrames fs) := by
  have hm' : T.vm.method? m = some meth := X.method'
  have hn : narrow .int (.int z) = .int z := rfl
  show Steps p.tables e below (T.setTop { method := m, pc := pc, locals := Ls, stack := _ :: rest, locked := none }) _
  jvm_step X.here [X.here.top, hx, hd, hm', hret, hn]
  first | (intro acts; rw [hl _ acts rfl rfl rfl]) | rw [hl _ _ rfl rfl rfl]
  exact Steps.refl _
end New
end Jvm.RoadKit
namespace Jvm.Pilot.@@N@@
open Jvm Jvm.ClassFile Sem Op Lib Jvm.Free Jvm.Stand Jvm.LawKit Jvm.RoadKit Bundle Jvm.Pilot.@@N@@.Jvm.D
-- from the state st the run ends, and Q holds of what it leaves
def GoalS (tb : Tables) (e : Env) (below : List Frame) (s : State) (kc ks : Nat) (Q : Option Value → Heap → List Loc → Prop) (st : State) : Prop :=
  ∃ s₂ o, Steps tb e below st s₂ ∧ s₂.status = .running ∧ Ended s₂ below o ∧ ∃ v L, o = .returned v ∧ Q v s₂.heap L ∧ FrameEnd s o s₂ L kc ks
theorem GoalS.lift {tb : Tables} {e : Env} {below : List Frame} {s : State} {kc ks : Nat} {Q : Option Value → Heap → List Loc → Prop} {A B : State}
    (h : ∀ t, Steps tb e below B t → Steps tb e below A t) (g : GoalS tb e below s kc ks Q B) : GoalS tb e below s kc ks Q A := by
  obtain ⟨s₂, o, h1, h2⟩ := g
  exact ⟨s₂, o, h _ h1, h2⟩
-- an array of n places of which place i holds f i
def AV (Z : State) (h : Heap) (a : Addr) (k : ClassId) (ty : FieldType) (n : Nat) (f : Nat → Value) : Prop := ∃ c : Cell, Arr Z h a c ty ∧ c.cls = k ∧ c.slots.size = n ∧ n < 2147483648 ∧ ∀ i, i < n → c.slots[i]? = some (f i)
def updI (f : Nat → Int32) (j : Nat) (v : Int32) : Nat → Int32 := fun i => if i = j then v else f i
def updJ (f : Nat → Int64) (j : Nat) (v : Int64) : Nat → Int64 := fun i => if i = j then v else f i
def updR (f : Nat → Value) (j : Nat) (v : Value) : Nat → Value := fun i => if i = j then v else f i
section Own
variable {Z : State} {h h' : Heap} {a b : Addr} {k : ClassId} {ty : FieldType} {n : Nat} {f g : Nat → Value} {ws : List Addr} {v : Value} {sl : Nat}
theorem AV.lt (F : AV Z h a k ty n f) : a < h.size := by obtain ⟨c, A, -⟩ := F; exact A.lt
theorem AV.ext (F : AV Z h a k ty n f) (E : Ext h h') : AV Z h' a k ty n f := by obtain ⟨c, A, r⟩ := F; exact ⟨c, A.ext E, r⟩
theorem AV.other (F : AV Z h b k ty n f) (W : Wr h h' a sl v) (q : b ≠ a) : AV Z h' b k ty n f := by obtain ⟨c, A, r⟩ := F; exact ⟨c, A.other W q, r⟩
theorem AV.keep (F : AV Z h a k ty n f) (K : Keep h h' ws) (q : a ∉ ws) : AV Z h' a k ty n f := by obtain ⟨c, A, r⟩ := F; exact ⟨c, ⟨K.2.1 a c A.1 q, A.2⟩, r⟩
theorem AV.new {z : Int32} (A : Arr Z h a (newA k ty z) ty) (q : ¬ z < 0) (hn : z.toNatClampNeg = n) (hb : n < 2147483648) : AV Z h a k ty n (fun _ => defaultValue ty) :=
  ⟨_, A, rfl, (sz_new _ _ _).trans hn, hb, fun i hi => by simp [newA, hn, hi]⟩
theorem AV.inb {c : Cell} {j : Int32} (S : c.slots.size = n) (q : ¬ j < 0 ∧ j.toNatClampNeg < n) : ¬ (j < 0 ∨ c.slots.size ≤ j.toNatClampNeg) := fun u => u.elim q.1 fun w => by omega
theorem AV.inx {j : Int32} (q : ¬ j < 0 ∧ j.toNatClampNeg < n) : j.toNatClampNeg < n := q.2
theorem AV.conv (F : AV Z h a k ty n f) (e : ∀ i, i < n → f i = g i) : AV Z h a k ty n g := by
  obtain ⟨c, A, r1, r2, r3, r4⟩ := F; exact ⟨c, A, r1, r2, r3, fun i hi => (r4 i hi).trans (congrArg some (e i hi))⟩
theorem AV.putR {j : Nat} (F : AV Z h a k ty n f) (W : Wr h h' a j v) (hj : j < n) : AV Z h' a k ty n (updR f j v) := by
  obtain ⟨c, A, r1, r2, r3, r4⟩ := F
  refine ⟨_, A.same W, r1, (sz_set _ _ _).trans r2, r3, fun i hi => ?_⟩
  by_cases q : i = j
  · subst q; simp [Cell.setSlot, updR, r2, hi]
  · have q' : j ≠ i := fun u => q u.symm
    simp only [Cell.setSlot, updR, if_neg q]; rw [Array.getElem?_setIfInBounds_ne q']; exact r4 i hi
theorem AV.putI {j : Nat} {f : Nat → Int32} {v : Int32} (F : AV Z h a k ty n (fun i => Value.int (f i))) (W : Wr h h' a j (.int v)) (hj : j < n) : AV Z h' a k ty n (fun i => Value.int (updI f j v i)) :=
  (F.putR W hj).conv fun i _ => by simp only [updR, updI]; split <;> rfl
theorem AV.putJ {j : Nat} {f : Nat → Int64} {v : Int64} (F : AV Z h a k ty n (fun i => Value.long (f i))) (W : Wr h h' a j (.long v)) (hj : j < n) : AV Z h' a k ty n (fun i => Value.long (updJ f j v i)) :=
  (F.putR W hj).conv fun i _ => by simp only [updR, updJ]; split <;> rfl
end Own


theorem own_inb {w q : Int32} {n : Nat} (h0 : 0 ≤ w.toInt) (hlt : w < q) (hq : q.toInt ≤ n) : ¬ w < 0 ∧ w.toNatClampNeg < n := by
  rw [Int32.lt_iff_toInt_lt] at hlt
  have e : (0 : Int32).toInt = 0 := rfl
  refine ⟨by rw [Int32.lt_iff_toInt_lt]; omega, ?_⟩
  show w.toInt.toNat < n
  omega
theorem own_chk {z x : Int32} (h0 : 0 ≤ x.toInt) (h1 : x.toInt ≤ z.toInt) : ¬ (((z ||| (0 : Int32)) ||| x) < (0 : Int32)) ∧ ¬ ((z - (0 : Int32)) < x) := by
  have e : (0 : Int32).toInt = 0 := rfl
  have q : 0 ≤ ((z ||| (0 : Int32)) ||| x).toInt := (c_orS _ _).1 ((c_orS _ _).1 (by omega) (by omega)) h0
  refine ⟨by rw [Int32.lt_iff_toInt_lt]; omega, ?_⟩
  rw [Int32.sub_zero, Int32.lt_iff_toInt_lt]; omega


theorem own_c0 {q : Int32} {n : Nat} (h : ¬ q < (3 : Int32)) (hq : q.toInt ≤ n) : 2 < n := by
  rw [Int32.lt_iff_toInt_lt] at h
  have e : (3 : Int32).toInt = 3 := rfl
  omega
theorem own_bu {f : Nat → Int32} (j : Nat) (x : Int32) (h : ∀ i, -128 ≤ (f i).toInt ∧ (f i).toInt < 128) : ∀ i, -128 ≤ (updI f j x.toInt8.toInt32 i).toInt ∧ (updI f j x.toInt8.toInt32 i).toInt < 128 := fun i => by
  unfold updI
  split
  · exact (c_i2b x).2
  · exact h i
theorem own_b0 : ∀ i : Nat, -128 ≤ ((fun _ => (0 : Int32)) i).toInt ∧ ((fun _ => (0 : Int32)) i).toInt < 128 := fun _ => show -128 ≤ (0 : Int32).toInt ∧ (0 : Int32).toInt < 128 by decide
theorem own_ln (x : Int32) : 0 ≤ ((x &&& (2147483647 : Int32)) % (7 : Int32)).toInt ∧ ((x &&& (2147483647 : Int32)) % (7 : Int32)).toInt ≤ 6 := by
  have h1 : 0 ≤ (x &&& (2147483647 : Int32)).toInt := (c_andS x (2147483647 : Int32)).2.2 (by decide)
  have h2 := (c_irem (x &&& (2147483647 : Int32)) (7 : Int32) 7 rfl).1 h1
  omega
theorem own_03 {a p : Int32} (h : p = if a = (0 : Int32) then (0 : Int32) else (3 : Int32)) : p = 0 ∨ p = 3 := by
  rw [h]; split
  · exact Or.inl rfl
  · exact Or.inr rfl
theorem own_p6 {p : Int32} (h : p = 0 ∨ p = 3) : ¬ p < 0 ∧ p.toNatClampNeg < 6 := by rcases h with rfl | rfl <;> decide
theorem own_p0 {p : Int32} (h : p = 0 ∨ p = 3) : 0 ≤ p.toInt := by rcases h with rfl | rfl <;> decide
theorem own_w2 {ln f0 f1 f2 i j w : Int32} (h1 : i = (if ln < (3 : Int32) then (0 : Int32) else (if f0 = (-17 : Int32) then (if f1 = (-69 : Int32) then (if f2 = (-65 : Int32) then (1 : Int32) else (0 : Int32)) else (0 : Int32)) else (0 : Int32))))
    (h2 : j = if i = (0 : Int32) then (0 : Int32) else (3 : Int32)) (hw : w = (if ln < (3 : Int32) then (0 : Int32) else (if f0 = (-17 : Int32) then (if f1 = (-69 : Int32) then (if f2 = (-65 : Int32) then (if (0 : Int32) = (0 : Int32) then (3 : Int32) else (0 : Int32)) else (0 : Int32)) else (0 : Int32)) else (0 : Int32)))) : w = j := by
  rw [hw, h2, h1]
  by_cases a : ln < (3 : Int32) <;> by_cases b : f0 = (-17 : Int32) <;> by_cases c : f1 = (-69 : Int32) <;> by_cases d : f2 = (-65 : Int32) <;> simp [a, b, c, d]
theorem own_mv {x : Int32} (h : -128 ≤ x.toInt ∧ x.toInt < 128) {p ln r i : Int32} (hr : r = (if p < ln then (if x = ((x &&& (255 : Int32))).toUInt32.toUInt16.toUInt32.toInt32 then (1 : Int32) else (0 : Int32)) else (0 : Int32))) (hi : i = (if p < ln then (if x < (0 : Int32) then (0 : Int32) else (1 : Int32)) else (0 : Int32))) : r = i := by
  rw [hr, hi]
  split
  · rw [i2c_mask]
    have e : (x &&& 255).toInt = x.toInt % (2 ^ 8 : Nat) := c_mask x 255 8 (by decide) (by decide)
    have e0 : (0 : Int32).toInt = 0 := rfl
    by_cases q : x < (0 : Int32)
    · rw [if_pos q, if_neg]
      intro u
      rw [Int32.lt_iff_toInt_lt] at q
      have := congrArg Int32.toInt u
      omega
    · rw [if_neg q, if_pos]
      rw [Int32.lt_iff_toInt_lt] at q
      exact Int32.toInt_inj.mp (by omega)
  · rfl
theorem own_pos {ln f0 f1 f2 i j r k w3 w4 x y : Int32} (h1 : i = (if ln < (3 : Int32) then (0 : Int32) else (if f0 = (-17 : Int32) then (if f1 = (-69 : Int32) then (if f2 = (-65 : Int32) then (1 : Int32) else (0 : Int32)) else (0 : Int32)) else (0 : Int32))))
    (h2 : j = if i = (0 : Int32) then (0 : Int32) else (3 : Int32)) (hr : r = (if j < ln then (if x = y then (1 : Int32) else (0 : Int32)) else (0 : Int32))) (h3 : w3 = (if j < ln then (if x = y then (j + (1 : Int32)) else j) else j)) (hk : k = if r = (0 : Int32) then j else (j + (1 : Int32)))
    (h4 : w4 = (if ln < (3 : Int32) then w3 else (if f0 = (-17 : Int32) then (if f1 = (-69 : Int32) then (if f2 = (-65 : Int32) then (if w3 = (0 : Int32) then (3 : Int32) else w3) else w3) else w3) else w3))) : w4 = k := by
  have hk' : k = w3 := by
    rw [hk, h3, hr]
    by_cases a : j < ln <;> by_cases b : x = y <;> simp [a, b]
  rw [hk', h4]
  by_cases a : ln < (3 : Int32)
  · rw [if_pos a]
  · by_cases b : f0 = (-17 : Int32)
    · by_cases c : f1 = (-69 : Int32)
      · by_cases d : f2 = (-65 : Int32)
        · have hj : j = 3 := by rw [h2, h1]; simp [a, b, c, d]
          have : w3 ≠ 0 := by
            rw [h3, hj]
            split
            · split <;> decide
            · decide
          rw [if_neg a, if_pos b, if_pos c, if_pos d, if_neg this]
        · rw [if_neg a, if_pos b, if_pos c, if_neg d]
      · rw [if_neg a, if_pos b, if_neg c]
    · rw [if_neg a, if_neg b]

theorem d5_0 : decode jdk_41_method_13_code 0 = .ok (.iload_n 2, 1) := by decide +kernel
theorem d5_1 : decode jdk_41_method_13_code 1 = .ok (.iload_n 0, 1) := by decide +kernel
theorem d5_2 : decode jdk_41_method_13_code 2 = .ok (.ior, 1) := by decide +kernel
theorem d5_3 : decode jdk_41_method_13_code 3 = .ok (.iload_n 1, 1) := by decide +kernel
theorem d5_4 : decode jdk_41_method_13_code 4 = .ok (.ior, 1) := by decide +kernel
theorem d5_5 : decode jdk_41_method_13_code 5 = .ok (.ifCond .lt 10, 3) := by decide +kernel
theorem d5_8 : decode jdk_41_method_13_code 8 = .ok (.iload_n 1, 1) := by decide +kernel
theorem d5_9 : decode jdk_41_method_13_code 9 = .ok (.iload_n 2, 1) := by decide +kernel
theorem d5_10 : decode jdk_41_method_13_code 10 = .ok (.iload_n 0, 1) := by decide +kernel
theorem d5_11 : decode jdk_41_method_13_code 11 = .ok (.isub, 1) := by decide +kernel
theorem d5_12 : decode jdk_41_method_13_code 12 = .ok (.if_icmp .le 11, 3) := by decide +kernel
theorem d5_23 : decode jdk_41_method_13_code 23 = .ok (.iload_n 0, 1) := by decide +kernel
theorem d5_24 : decode jdk_41_method_13_code 24 = .ok (.ireturn, 1) := by decide +kernel
theorem pn_0 : plainName "jdk/internal/util/Preconditions" = true := by first | (simp [plainName, overriddenIn]; done) | decide +kernel
theorem ef_rm5 (m : MethodId) (p1 : Int32) (p2 : Int32) (p3 : Int32) : entryFrame m #[(.int p1), (.int p2), (.int p3), .null] 4 = mkF m 0 #[.val (.int p1), .val (.int p2), .val (.int p3), .val .null] [] := by first | (simp [entryFrame, mkF, argsToLocals, Value.category]; done) | rfl
def Q5 (Z : State) (p1 : Int32) (p2 : Int32) (p3 : Int32) (h0 : Heap) (n0 : Nat) (v : Option Value) (h : Heap) (L : List Loc) : Prop := v = some (.int p1) ∧ Fr n0 L ∧ h = h0
set_option maxRecDepth 65536 in
set_option maxHeartbeats 40000000 in
theorem rm5 (l : Launch) (Z : State) (a0 : Array Value) (hw : ∀ d ∈ tables_1, d.before a0 Z = true) (ws : List Jvm.Cond) (p1 : Int32) (p2 : Int32) (p3 : Int32) (h0 : Heap) (n0 : Nat) (Z0 : n0 ≤ h0.size) (hA : ¬ (((p3 ||| p1) ||| p2) < (0 : Int32))) (hB : ¬ ((p3 - p1) < p2)) :
    MetFree l (⟨"jdk/internal/util/Preconditions", "checkFromIndexSize", "(IIILjava/util/function/BiFunction;)I"⟩ : MethodName) (head1 (Jvm.Cond.code (⟨"jdk/internal/util/Preconditions", "checkFromIndexSize", "(IIILjava/util/function/BiFunction;)I"⟩ : MethodName) jdk_41_method_13_code 4 (some .int) :: ws) ({ frames := 0, cells := 0, slots := 0, locals := 0 } : Room)) (fun a U => a = #[(.int p1), (.int p2), (.int p3), .null] ∧ Z.Warmed39 U.vm ∧ U.heap = h0) (fun _ _ _ _ _ => True) (fun _ U o U' => ∃ v L, o = .returned v ∧ Q5 Z p1 p2 p3 h0 n0 v U'.heap L ∧ FrameEnd U o U' L ({ frames := 0, cells := 0, slots := 0, locals := 0 } : Room).cells ({ frames := 0, cells := 0, slots := 0, locals := 0 } : Room).slots) := by
  refine MetFree.of_bodySF (plainFor_of_name pn_0) hisR ?_
  intro p e s m args below meth c s₁ Bd hml0 hP hK
  obtain ⟨rfl, hZ, hh⟩ := hP
  have hx := Bd.exec
  have hby := Bd.bytes
  have hml : c.maxLocals = 4 := hml0
  have hown : s.vm.findClass "jdk/internal/util/Preconditions" = some m.cls := findClass_of_methodNamed Bd.named
  have hnm := (name_of_methodNamed Bd.named Bd.method).1
  have X0 : Stand p l e ({ frames := 0, cells := 0, slots := 0, locals := 0 } : Room) s m #[(.int p1), (.int p2), (.int p3), .null] below meth c s₁ [] 0 0 := Stand.of_body Bd
  have e0 : s₁.heap = h0 := by rw [← hh, Bd.state]; rfl
  have N0 := Fr.nil n0
  show GoalS p.tables e below s ({ frames := 0, cells := 0, slots := 0, locals := 0 } : Room).cells ({ frames := 0, cells := 0, slots := 0, locals := 0 } : Room).slots (Q5 Z p1 p2 p3 h0 n0) (s₁.setTop (entryFrame m #[(.int p1), (.int p2), (.int p3), .null] 4))
  refine GoalS.lift (B := s₁.setTop (mkF m 0 #[.val (.int p1), .val (.int p2), .val (.int p3), .val .null] [])) (fun t k => castTop (ef_rm5 m p1 p2 p3) k) ?_
  have K0 : Keep h0 h0 [] := Keep.refl _ _
  obtain ⟨fs, hr, hrun, hended, hW, hsame⟩ := X0.leave (v := some (.int p1)) (fun h => by rw [Bd.returns] at h; cases h)
  refine ⟨_, _, ?_, hrun, hended, _, _, rfl, ?_, ⟨_, rfl⟩, hW, hsame.mono (by decide) (by decide)⟩
  · show Steps p.tables e below (s₁.setTop (mkF m 0 #[.val (.int p1), .val (.int p2), .val (.int p3), .val .null] [])) _
    refine XS.iloadN X0.here hx rfl (hb hby d5_0) rfl ?_
    show Steps p.tables e below (s₁.setTop (mkF m 1 #[.val (.int p1), .val (.int p2), .val (.int p3), .val .null] [(.int p3)])) _
    refine XS.iloadN X0.here hx rfl (hb hby d5_1) rfl ?_
    show Steps p.tables e below (s₁.setTop (mkF m 2 #[.val (.int p1), .val (.int p2), .val (.int p3), .val .null] [(.int p1), (.int p3)])) _
    refine XS.ior X0.here hx rfl (hb hby d5_2) rfl ?_
    show Steps p.tables e below (s₁.setTop (mkF m 3 #[.val (.int p1), .val (.int p2), .val (.int p3), .val .null] [(.int (p3 ||| p1))])) _
    refine XS.iloadN X0.here hx rfl (hb hby d5_3) rfl ?_
    show Steps p.tables e below (s₁.setTop (mkF m 4 #[.val (.int p1), .val (.int p2), .val (.int p3), .val .null] [(.int p2), (.int (p3 ||| p1))])) _
    refine XS.ior X0.here hx rfl (hb hby d5_4) rfl ?_
    show Steps p.tables e below (s₁.setTop (mkF m 5 #[.val (.int p1), .val (.int p2), .val (.int p3), .val .null] [(.int ((p3 ||| p1) ||| p2))])) _
    refine XS.ifNo X0.here hx rfl (hb hby d5_5) rfl ((if0 _ _).trans (flt (hA : ¬ (((p3 ||| p1) ||| p2) < (0 : Int32)))).1) ?_
    show Steps p.tables e below (s₁.setTop (mkF m 8 #[.val (.int p1), .val (.int p2), .val (.int p3), .val .null] [])) _
    refine XS.iloadN X0.here hx rfl (hb hby d5_8) rfl ?_
    show Steps p.tables e below (s₁.setTop (mkF m 9 #[.val (.int p1), .val (.int p2), .val (.int p3), .val .null] [(.int p2)])) _
    refine XS.iloadN X0.here hx rfl (hb hby d5_9) rfl ?_
    show Steps p.tables e below (s₁.setTop (mkF m 10 #[.val (.int p1), .val (.int p2), .val (.int p3), .val .null] [(.int p3), (.int p2)])) _
    refine XS.iloadN X0.here hx rfl (hb hby d5_10) rfl ?_
    show Steps p.tables e below (s₁.setTop (mkF m 11 #[.val (.int p1), .val (.int p2), .val (.int p3), .val .null] [(.int p1), (.int p3), (.int p2)])) _
    refine XS.isub X0.here hx rfl (hb hby d5_11) rfl ?_
    show Steps p.tables e below (s₁.setTop (mkF m 12 #[.val (.int p1), .val (.int p2), .val (.int p3), .val .null] [(.int (p3 - p1)), (.int p2)])) _
    refine XS.icmpYes X0.here hx rfl (pc0 := 12) (pc' := 23) rfl (hb hby d5_12) rfl ((flt (hB : ¬ ((p3 - p1) < p2))).2.2.2) (by decide) (by decide) ?_
    show Steps p.tables e below (s₁.setTop (mkF m 23 #[.val (.int p1), .val (.int p2), .val (.int p3), .val .null] [])) _
    refine XS.iloadN X0.here hx rfl (hb hby d5_23) rfl ?_
    show Steps p.tables e below (s₁.setTop (mkF m 24 #[.val (.int p1), .val (.int p2), .val (.int p3), .val .null] [(.int p1)])) _
    exact retI X0 hx Bd.returns (hb hby d5_24) hr
  · show Q5 Z p1 p2 p3 h0 n0 _ s₁.heap _
    exact ⟨rfl, N0, e0⟩
theorem d4_0 : decode jdk_31_method_19_code 0 = .ok (.iload_n 0, 1) := by decide +kernel
theorem d4_1 : decode jdk_31_method_19_code 1 = .ok (.iload_n 1, 1) := by decide +kernel
theorem d4_2 : decode jdk_31_method_19_code 2 = .ok (.iload_n 2, 1) := by decide +kernel
theorem d4_3 : decode jdk_31_method_19_code 3 = .ok (.aconst_null, 1) := by decide +kernel
theorem d4_4 : decode jdk_31_method_19_code 4 = .ok (.invokestatic 115, 3) := by decide +kernel
theorem d4_7 : decode jdk_31_method_19_code 7 = .ok (.ireturn, 1) := by decide +kernel
theorem pn_1 : plainName "java/util/Objects" = true := by first | (simp [plainName, overriddenIn]; done) | decide +kernel
theorem pd_0 : parseMethodDescriptor "(IIILjava/util/function/BiFunction;)I" = some ⟨[.int, .int, .int, (.object "java/util/function/BiFunction")], some .int⟩ := by decide +kernel
theorem ef_rm4 (m : MethodId) (p1 : Int32) (p2 : Int32) (p3 : Int32) : entryFrame m #[(.int p1), (.int p2), (.int p3)] 3 = mkF m 0 #[.val (.int p1), .val (.int p2), .val (.int p3)] [] := by first | (simp [entryFrame, mkF, argsToLocals, Value.category]; done) | rfl
def Q4 (Z : State) (p1 : Int32) (p2 : Int32) (p3 : Int32) (h0 : Heap) (n0 : Nat) (v : Option Value) (h : Heap) (L : List Loc) : Prop := v = some (.int p1) ∧ Fr n0 L ∧ h = h0
set_option maxRecDepth 65536 in
set_option maxHeartbeats 40000000 in
theorem rm4 (l : Launch) (Z : State) (a0 : Array Value) (hw : ∀ d ∈ tables_1, d.before a0 Z = true) (ws : List Jvm.Cond) (p1 : Int32) (p2 : Int32) (p3 : Int32) (h0 : Heap) (n0 : Nat) (Z0 : n0 ≤ h0.size) (hA : ¬ (((p3 ||| p1) ||| p2) < (0 : Int32))) (hB : ¬ ((p3 - p1) < p2)) :
    MetFree l (⟨"java/util/Objects", "checkFromIndexSize", "(III)I"⟩ : MethodName) (head1 (Jvm.Cond.code (⟨"java/util/Objects", "checkFromIndexSize", "(III)I"⟩ : MethodName) jdk_31_method_19_code 3 (some .int) :: ws) ({ frames := 1, cells := 0, slots := 0, locals := 15 } : Room)) (fun a U => a = #[(.int p1), (.int p2), (.int p3)] ∧ Z.Warmed39 U.vm ∧ U.heap = h0) (fun _ _ _ _ _ => True) (fun _ U o U' => ∃ v L, o = .returned v ∧ Q4 Z p1 p2 p3 h0 n0 v U'.heap L ∧ FrameEnd U o U' L ({ frames := 1, cells := 0, slots := 0, locals := 15 } : Room).cells ({ frames := 1, cells := 0, slots := 0, locals := 15 } : Room).slots) := by
  refine MetFree.of_bodySF (plainFor_of_name pn_1) hisR ?_
  intro p e s m args below meth c s₁ Bd hml0 hP hK
  obtain ⟨rfl, hZ, hh⟩ := hP
  have hx := Bd.exec
  have hby := Bd.bytes
  have hml : c.maxLocals = 3 := hml0
  have hown : s.vm.findClass "java/util/Objects" = some m.cls := findClass_of_methodNamed Bd.named
  have hnm := (name_of_methodNamed Bd.named Bd.method).1
  have X0 : Stand p l e ({ frames := 1, cells := 0, slots := 0, locals := 15 } : Room) s m #[(.int p1), (.int p2), (.int p3)] below meth c s₁ [] 0 0 := Stand.of_body Bd
  have e0 : s₁.heap = h0 := by rw [← hh, Bd.state]; rfl
  have N0 := Fr.nil n0
  show GoalS p.tables e below s ({ frames := 1, cells := 0, slots := 0, locals := 15 } : Room).cells ({ frames := 1, cells := 0, slots := 0, locals := 15 } : Room).slots (Q4 Z p1 p2 p3 h0 n0) (s₁.setTop (entryFrame m #[(.int p1), (.int p2), (.int p3)] 3))
  refine GoalS.lift (B := s₁.setTop (mkF m 0 #[.val (.int p1), .val (.int p2), .val (.int p3)] [])) (fun t k => castTop (ef_rm4 m p1 p2 p3) k) ?_
  have K0 : Keep h0 h0 [] := Keep.refl _ _
  obtain ⟨_, _, ⟨T1, L1, k1, n1⟩, -, X1, ⟨Lc1, hQ1, l1, y1, z1⟩, st1⟩ := Jvm.LawKit.callS X0 hx (y := (⟨"jdk/internal/util/Preconditions", "checkFromIndexSize", "(IIILjava/util/function/BiFunction;)I"⟩ : MethodName)) hown (mvT hZ (hw _ (List.mem_of_getElem? (i := 21) rfl))) (mvT hZ (hw _ (List.mem_of_getElem? (i := 22) rfl))) (mvT hZ (hw _ (List.mem_of_getElem? (i := 23) rfl))) (mvT hZ (hw _ (List.mem_of_getElem? (i := 24) rfl))) (by decide) (backOf (W := 0) (rm5 l Z a0 hw [] p1 p2 p3 h0 n0 Z0 hA hB) hZ (hw _ (List.mem_of_getElem? (i := 24) rfl)) (hw _ (List.mem_of_getElem? (i := 23) rfl)) (by decide) (by decide)) (g := (mkF m 4 #[.val (.int p1), .val (.int p2), .val (.int p3)] [.null, (.int p3), (.int p2), (.int p1)])) rfl (by rw [hml]; rfl) (argsL := [(.int p1), (.int p2), (.int p3), .null]) (rest := []) (lenOf pd_0 rfl) rfl (by show 2 * 0 + _ ≤ _; exact Nat.le_of_eq rfl) (hb hby d4_4) (fun _ _ => ⟨rfl, e0, (by decide : 0 + 0 ≤ _), (by decide : 0 + 0 ≤ _)⟩)
  dsimp only [Pt.U, Pt.locs, Pt.cells, Pt.slots] at X1 l1 y1 z1 st1 hQ1
  subst l1 y1 z1
  obtain ⟨rfl, N1q, eq1⟩ := hQ1
  have N1 := Fr.app N0 N1q
  obtain ⟨fs, hr, hrun, hended, hW, hsame⟩ := X1.leave (v := some (.int p1)) (fun h => by rw [Bd.returns] at h; cases h)
  refine ⟨_, _, ?_, hrun, hended, _, _, rfl, ?_, ⟨_, rfl⟩, hW, hsame.mono (by decide) (by decide)⟩
  · show Steps p.tables e below (s₁.setTop (mkF m 0 #[.val (.int p1), .val (.int p2), .val (.int p3)] [])) _
    refine XS.iloadN X0.here hx rfl (hb hby d4_0) rfl ?_
    show Steps p.tables e below (s₁.setTop (mkF m 1 #[.val (.int p1), .val (.int p2), .val (.int p3)] [(.int p1)])) _
    refine XS.iloadN X0.here hx rfl (hb hby d4_1) rfl ?_
    show Steps p.tables e below (s₁.setTop (mkF m 2 #[.val (.int p1), .val (.int p2), .val (.int p3)] [(.int p2), (.int p1)])) _
    refine XS.iloadN X0.here hx rfl (hb hby d4_2) rfl ?_
    show Steps p.tables e below (s₁.setTop (mkF m 3 #[.val (.int p1), .val (.int p2), .val (.int p3)] [(.int p3), (.int p2), (.int p1)])) _
    refine XS.aconstNull X0.here hx rfl (hb hby d4_3) ?_
    show Steps p.tables e below (s₁.setTop (mkF m 4 #[.val (.int p1), .val (.int p2), .val (.int p3)] [.null, (.int p3), (.int p2), (.int p1)])) _
    refine st1 _ ?_
    show Steps p.tables e below (T1.setTop (mkF m 7 #[.val (.int p1), .val (.int p2), .val (.int p3)] [(.int p1)])) _
    exact retI X1 hx Bd.returns (hb hby d4_7) hr
  · show Q4 Z p1 p2 p3 h0 n0 _ T1.heap _
    exact ⟨rfl, N1, eq1⟩
theorem d1_0 : decode method_2_code 0 = .ok (.iload_n 0, 1) := by decide +kernel
theorem d1_1 : decode method_2_code 1 = .ok (.sipush 256, 3) := by decide +kernel
theorem d1_4 : decode method_2_code 4 = .ok (.iand, 1) := by decide +kernel
theorem d1_5 : decode method_2_code 5 = .ok (.ifCond .eq 8, 3) := by decide +kernel
theorem d1_8 : decode method_2_code 8 = .ok (.iload_n 1, 1) := by decide +kernel
theorem d1_9 : decode method_2_code 9 = .ok (.i2b, 1) := by decide +kernel
theorem d1_10 : decode method_2_code 10 = .ok (.goto 5, 3) := by decide +kernel
theorem d1_13 : decode method_2_code 13 = .ok (.iload_n 0, 1) := by decide +kernel
theorem d1_14 : decode method_2_code 14 = .ok (.i2b, 1) := by decide +kernel
theorem d1_15 : decode method_2_code 15 = .ok (.ireturn, 1) := by decide +kernel
theorem pn_2 : plainName "com/example/verdict/verdict/saml/XmlScannerSkipByteOrderMarkPinLaw" = true := by first | (simp [plainName, overriddenIn]; done) | decide +kernel
theorem ef_rm1 (m : MethodId) (p1 : Int32) (p2 : Int32) : entryFrame m #[(.int p1), (.int p2)] 2 = mkF m 0 #[.val (.int p1), .val (.int p2)] [] := by first | (simp [entryFrame, mkF, argsToLocals, Value.category]; done) | rfl
def Q1 (Z : State) (p1 : Int32) (p2 : Int32) (h0 : Heap) (n0 : Nat) (v : Option Value) (h : Heap) (L : List Loc) : Prop := ∃ r : Int32, v = some (.int r) ∧ r = (if (p1 &&& (256 : Int32)) = (0 : Int32) then (((p1).toInt8.toInt32)).toInt8.toInt32 else (((p2).toInt8.toInt32)).toInt8.toInt32) ∧ Fr n0 L ∧ h = h0
set_option maxRecDepth 65536 in
set_option maxHeartbeats 40000000 in
theorem rm1 (l : Launch) (Z : State) (a0 : Array Value) (hw : ∀ d ∈ tables_1, d.before a0 Z = true) (ws : List Jvm.Cond) (p1 : Int32) (p2 : Int32) (h0 : Heap) (n0 : Nat) (Z0 : n0 ≤ h0.size) :
    MetFree l (⟨"com/example/verdict/verdict/saml/XmlScannerSkipByteOrderMarkPinLaw", "pick", "(II)B"⟩ : MethodName) (head1 (Jvm.Cond.code (⟨"com/example/verdict/verdict/saml/XmlScannerSkipByteOrderMarkPinLaw", "pick", "(II)B"⟩ : MethodName) method_2_code 2 (some .byte) :: ws) ({ frames := 0, cells := 0, slots := 0, locals := 0 } : Room)) (fun a U => a = #[(.int p1), (.int p2)] ∧ Z.Warmed39 U.vm ∧ U.heap = h0) (fun _ _ _ _ _ => True) (fun _ U o U' => ∃ v L, o = .returned v ∧ Q1 Z p1 p2 h0 n0 v U'.heap L ∧ FrameEnd U o U' L ({ frames := 0, cells := 0, slots := 0, locals := 0 } : Room).cells ({ frames := 0, cells := 0, slots := 0, locals := 0 } : Room).slots) := by
  refine MetFree.of_bodySF (plainFor_of_name pn_2) hisR ?_
  intro p e s m args below meth c s₁ Bd hml0 hP hK
  obtain ⟨rfl, hZ, hh⟩ := hP
  have hx := Bd.exec
  have hby := Bd.bytes
  have hml : c.maxLocals = 2 := hml0
  have hown : s.vm.findClass "com/example/verdict/verdict/saml/XmlScannerSkipByteOrderMarkPinLaw" = some m.cls := findClass_of_methodNamed Bd.named
  have hnm := (name_of_methodNamed Bd.named Bd.method).1
  have X0 : Stand p l e ({ frames := 0, cells := 0, slots := 0, locals := 0 } : Room) s m #[(.int p1), (.int p2)] below meth c s₁ [] 0 0 := Stand.of_body Bd
  have e0 : s₁.heap = h0 := by rw [← hh, Bd.state]; rfl
  have N0 := Fr.nil n0
  show GoalS p.tables e below s ({ frames := 0, cells := 0, slots := 0, locals := 0 } : Room).cells ({ frames := 0, cells := 0, slots := 0, locals := 0 } : Room).slots (Q1 Z p1 p2 h0 n0) (s₁.setTop (entryFrame m #[(.int p1), (.int p2)] 2))
  refine GoalS.lift (B := s₁.setTop (mkF m 0 #[.val (.int p1), .val (.int p2)] [])) (fun t k => castTop (ef_rm1 m p1 p2) k) ?_
  have K0 : Keep h0 h0 [] := Keep.refl _ _
  refine GoalS.lift (B := (s₁.setTop (mkF m 5 #[.val (.int p1), .val (.int p2)] [(.int (p1 &&& (256 : Int32)))]))) (fun t k => ?_) ?_
  · show Steps p.tables e below (s₁.setTop (mkF m 0 #[.val (.int p1), .val (.int p2)] [])) _
    refine XS.iloadN X0.here hx rfl (hb hby d1_0) rfl ?_
    show Steps p.tables e below (s₁.setTop (mkF m 1 #[.val (.int p1), .val (.int p2)] [(.int p1)])) _
    refine XS.sipush X0.here hx rfl (hb hby d1_1) ?_
    show Steps p.tables e below (s₁.setTop (mkF m 4 #[.val (.int p1), .val (.int p2)] [(.int (256 : Int32)), (.int p1)])) _
    refine XS.iand X0.here hx rfl (hb hby d1_4) rfl ?_
    show Steps p.tables e below (s₁.setTop (mkF m 5 #[.val (.int p1), .val (.int p2)] [(.int (p1 &&& (256 : Int32)))])) _
    exact k
  by_cases hc5_1 : (p1 &&& (256 : Int32)) = (0 : Int32)
  · obtain ⟨fs, hr, hrun, hended, hW, hsame⟩ := X0.leave (v := some (.int (((p1).toInt8.toInt32)).toInt8.toInt32)) (fun h => by rw [Bd.returns] at h; cases h)
    refine ⟨_, _, ?_, hrun, hended, _, _, rfl, ?_, ⟨_, rfl⟩, hW, hsame.mono (by decide) (by decide)⟩
    · show Steps p.tables e below (s₁.setTop (mkF m 5 #[.val (.int p1), .val (.int p2)] [(.int (p1 &&& (256 : Int32)))])) _
      refine XS.ifYes X0.here hx rfl (pc0 := 5) (pc' := 13) rfl (hb hby d1_5) rfl ((if0 _ _).trans (teq hc5_1).1) (by decide) (by decide) ?_
      show Steps p.tables e below (s₁.setTop (mkF m 13 #[.val (.int p1), .val (.int p2)] [])) _
      refine XS.iloadN X0.here hx rfl (hb hby d1_13) rfl ?_
      show Steps p.tables e below (s₁.setTop (mkF m 14 #[.val (.int p1), .val (.int p2)] [(.int p1)])) _
      refine XS.i2b X0.here hx rfl (hb hby d1_14) rfl ?_
      show Steps p.tables e below (s₁.setTop (mkF m 15 #[.val (.int p1), .val (.int p2)] [(.int ((p1).toInt8.toInt32))])) _
      exact retN X0 hx (t := .byte) Bd.returns (by simp) (hb hby d1_15) hr
    · show Q1 Z p1 p2 h0 n0 _ s₁.heap _
      exact ⟨_, rfl, (by simp only [if_pos hc5_1]), N0, e0⟩
  · obtain ⟨fs, hr, hrun, hended, hW, hsame⟩ := X0.leave (v := some (.int (((p2).toInt8.toInt32)).toInt8.toInt32)) (fun h => by rw [Bd.returns] at h; cases h)
    refine ⟨_, _, ?_, hrun, hended, _, _, rfl, ?_, ⟨_, rfl⟩, hW, hsame.mono (by decide) (by decide)⟩
    · show Steps p.tables e below (s₁.setTop (mkF m 5 #[.val (.int p1), .val (.int p2)] [(.int (p1 &&& (256 : Int32)))])) _
      refine XS.ifNo X0.here hx rfl (hb hby d1_5) rfl ((if0 _ _).trans (feq hc5_1).1) ?_
      show Steps p.tables e below (s₁.setTop (mkF m 8 #[.val (.int p1), .val (.int p2)] [])) _
      refine XS.iloadN X0.here hx rfl (hb hby d1_8) rfl ?_
      show Steps p.tables e below (s₁.setTop (mkF m 9 #[.val (.int p1), .val (.int p2)] [(.int p2)])) _
      refine XS.i2b X0.here hx rfl (hb hby d1_9) rfl ?_
      show Steps p.tables e below (s₁.setTop (mkF m 10 #[.val (.int p1), .val (.int p2)] [(.int ((p2).toInt8.toInt32))])) _
      refine XS.goto X0.here hx rfl (pc0 := 10) (pc' := 15) rfl (hb hby d1_10) (by decide) (by decide) ?_
      show Steps p.tables e below (s₁.setTop (mkF m 15 #[.val (.int p1), .val (.int p2)] [(.int ((p2).toInt8.toInt32))])) _
      exact retN X0 hx (t := .byte) Bd.returns (by simp) (hb hby d1_15) hr
    · show Q1 Z p1 p2 h0 n0 _ s₁.heap _
      exact ⟨_, rfl, (by simp only [if_neg hc5_1]), N0, e0⟩
theorem d2_0 : decode prog_45_method_1_code 0 = .ok (.aload_n 0, 1) := by decide +kernel
theorem d2_1 : decode prog_45_method_1_code 1 = .ok (.invokespecial 1, 3) := by decide +kernel
theorem d2_4 : decode prog_45_method_1_code 4 = .ok (.aload_n 0, 1) := by decide +kernel
theorem d2_5 : decode prog_45_method_1_code 5 = .ok (.sipush 128, 3) := by decide +kernel
theorem d2_8 : decode prog_45_method_1_code 8 = .ok (.newarray .byte, 2) := by decide +kernel
theorem d2_10 : decode prog_45_method_1_code 10 = .ok (.putfield 7, 3) := by decide +kernel
theorem d2_13 : decode prog_45_method_1_code 13 = .ok (.iconst 0, 1) := by decide +kernel
theorem d2_14 : decode prog_45_method_1_code 14 = .ok (.iload_n 2, 1) := by decide +kernel
theorem d2_15 : decode prog_45_method_1_code 15 = .ok (.aload_n 1, 1) := by decide +kernel
theorem d2_16 : decode prog_45_method_1_code 16 = .ok (.arraylength, 1) := by decide +kernel
theorem d2_17 : decode prog_45_method_1_code 17 = .ok (.invokestatic 13, 3) := by decide +kernel
theorem d2_20 : decode prog_45_method_1_code 20 = .ok (.pop, 1) := by decide +kernel
theorem d2_21 : decode prog_45_method_1_code 21 = .ok (.aload_n 0, 1) := by decide +kernel
theorem d2_22 : decode prog_45_method_1_code 22 = .ok (.aload_n 1, 1) := by decide +kernel
theorem d2_23 : decode prog_45_method_1_code 23 = .ok (.putfield 19, 3) := by decide +kernel
theorem d2_26 : decode prog_45_method_1_code 26 = .ok (.aload_n 0, 1) := by decide +kernel
theorem d2_27 : decode prog_45_method_1_code 27 = .ok (.iload_n 2, 1) := by decide +kernel
theorem d2_28 : decode prog_45_method_1_code 28 = .ok (.putfield 22, 3) := by decide +kernel
theorem d2_31 : decode prog_45_method_1_code 31 = .ok (.return_, 1) := by decide +kernel
theorem pn_3 : plainName "com/example/verdict/verdict/saml/XmlScanner" = true := by first | (simp [plainName, overriddenIn]; done) | decide +kernel
theorem pd_1 : parseMethodDescriptor "(III)I" = some ⟨[.int, .int, .int], some .int⟩ := by decide +kernel
theorem ef_rm2 (m : MethodId) (a1 : Addr) (a2 : Addr) (p3 : Int32) : entryFrame m #[(.ref a1), (.ref a2), (.int p3)] 3 = mkF m 0 #[.val (.ref a1), .val (.ref a2), .val (.int p3)] [] := by first | (simp [entryFrame, mkF, argsToLocals, Value.category]; done) | rfl
def Q2 (Z : State) (a1 : Addr) (a2 : Addr) (p3 : Int32) (u_text : Value) (u_doc : Value) (u_end : Value) (u_pos : Value) (k : ClassId) (n : Nat) (f : Nat → Int32) (z : Int32) (h0 : Heap) (n0 : Nat) (v : Option Value) (h : Heap) (L : List Loc) : Prop := v = none ∧ Fr n0 L ∧ Keep h0 h [a1] ∧ (Exa Z h a1 "com/example/verdict/verdict/saml/XmlScanner") ∧ (Fld Z h a1 "com/example/verdict/verdict/saml/XmlScanner" "doc" "[B" (.ref a2)) ∧ (Fld Z h a1 "com/example/verdict/verdict/saml/XmlScanner" "end" "I" (.int p3)) ∧ (Fld Z h a1 "com/example/verdict/verdict/saml/XmlScanner" "pos" "I" u_pos)
set_option maxRecDepth 65536 in
set_option maxHeartbeats 40000000 in
theorem rm2 (l : Launch) (Z : State) (a0 : Array Value) (hw : ∀ d ∈ tables_1, d.before a0 Z = true) (ws : List Jvm.Cond) (a1 : Addr) (a2 : Addr) (p3 : Int32) (u_text : Value) (u_doc : Value) (u_end : Value) (u_pos : Value) (k : ClassId) (n : Nat) (f : Nat → Int32) (z : Int32) (h0 : Heap) (n0 : Nat) (Z0 : n0 ≤ h0.size) (E_a1 : Exa Z h0 a1 "com/example/verdict/verdict/saml/XmlScanner") (g_a1 : n0 ≤ a1) (F_text_a1 : Fld Z h0 a1 "com/example/verdict/verdict/saml/XmlScanner" "text" "[B" u_text) (F_doc_a1 : Fld Z h0 a1 "com/example/verdict/verdict/saml/XmlScanner" "doc" "[B" u_doc) (F_end_a1 : Fld Z h0 a1 "com/example/verdict/verdict/saml/XmlScanner" "end" "I" u_end) (F_pos_a1 : Fld Z h0 a1 "com/example/verdict/verdict/saml/XmlScanner" "pos" "I" u_pos) (A_a2 : AV Z h0 a2 k .byte n (fun i => Value.int (f i))) (hz : n.toInt32 = z) (hA : ¬ (((z ||| (0 : Int32)) ||| p3) < (0 : Int32))) (hB : ¬ ((z - (0 : Int32)) < p3)) (ne_a2_a1 : a2 ≠ a1) :
    MetFree l (⟨"com/example/verdict/verdict/saml/XmlScanner", "<init>", "([BI)V"⟩ : MethodName) (head1 (Jvm.Cond.code (⟨"com/example/verdict/verdict/saml/XmlScanner", "<init>", "([BI)V"⟩ : MethodName) prog_45_method_1_code 3 none :: ws) ({ frames := 2, cells := 1, slots := 128, locals := 29 } : Room)) (fun a U => a = #[(.ref a1), (.ref a2), (.int p3)] ∧ Z.Warmed39 U.vm ∧ U.heap = h0) (fun _ _ _ _ _ => True) (fun _ U o U' => ∃ v L, o = .returned v ∧ Q2 Z a1 a2 p3 u_text u_doc u_end u_pos k n f z h0 n0 v U'.heap L ∧ FrameEnd U o U' L ({ frames := 2, cells := 1, slots := 128, locals := 29 } : Room).cells ({ frames := 2, cells := 1, slots := 128, locals := 29 } : Room).slots) := by
  refine MetFree.of_bodySF (plainFor_of_name pn_3) hisR ?_
  intro p e s m args below meth c s₁ Bd hml0 hP hK
  obtain ⟨rfl, hZ, hh⟩ := hP
  have hx := Bd.exec
  have hby := Bd.bytes
  have hml : c.maxLocals = 3 := hml0
  have hown : s.vm.findClass "com/example/verdict/verdict/saml/XmlScanner" = some m.cls := findClass_of_methodNamed Bd.named
  have hnm := (name_of_methodNamed Bd.named Bd.method).1
  have X0 : Stand p l e ({ frames := 2, cells := 1, slots := 128, locals := 29 } : Room) s m #[(.ref a1), (.ref a2), (.int p3)] below meth c s₁ [] 0 0 := Stand.of_body Bd
  have e0 : s₁.heap = h0 := by rw [← hh, Bd.state]; rfl
  have N0 := Fr.nil n0
  show GoalS p.tables e below s ({ frames := 2, cells := 1, slots := 128, locals := 29 } : Room).cells ({ frames := 2, cells := 1, slots := 128, locals := 29 } : Room).slots (Q2 Z a1 a2 p3 u_text u_doc u_end u_pos k n f z h0 n0) (s₁.setTop (entryFrame m #[(.ref a1), (.ref a2), (.int p3)] 3))
  refine GoalS.lift (B := s₁.setTop (mkF m 0 #[.val (.ref a1), .val (.ref a2), .val (.int p3)] [])) (fun t k => castTop (ef_rm2 m a1 a2 p3) k) ?_
  have K0 : Keep h0 h0 [a1] := Keep.refl _ _
  obtain ⟨T1, X1, e1, st1⟩ := initO X0 hx hZ hown (hw _ (List.mem_of_getElem? (i := 12) rfl)) (hw _ (List.mem_of_getElem? (i := 13) rfl)) (hw _ (List.mem_of_getElem? (i := 14) rfl)) e0 (g := (mkF m 1 #[.val (.ref a1), .val (.ref a2), .val (.int p3)] [(.ref a1)])) rfl (by rw [hml]; rfl) rfl (hb hby d2_1) (by decide) (W := 0) (by show 2 * 0 + _ ≤ _; exact Nat.le_of_eq rfl) (by decide)
  obtain ⟨T2, h2, k2, X2, e2, E2, A2, st2⟩ := newP X1 hx hZ (hw _ (List.mem_of_getElem? (i := 0) rfl)) e1 (g := (mkF m 8 #[.val (.ref a1), .val (.ref a2), .val (.int p3)] [(.int (128 : Int32)), (.ref a1)])) rfl (hb hby d2_8) rfl (by decide) (cap := 128) (by decide) (by decide) (by decide) (by decide)
  obtain ⟨b2, g2⟩ : ∃ z, z = h0.size := ⟨_, rfl⟩
  rw [← g2] at A2 st2
  have g_b2 : n0 ≤ b2 := Nat.le_trans Z0 (Nat.le_of_eq g2.symm)
  have sz_b2 : h0.size ≤ b2 := Nat.le_trans K0.1 (Nat.le_of_eq g2.symm)
  have ne_a1_b2 : a1 ≠ b2 := Nat.ne_of_lt (Nat.lt_of_lt_of_le E_a1.lt (Nat.le_of_eq g2.symm))
  have ne_a2_b2 : a2 ≠ b2 := Nat.ne_of_lt (Nat.lt_of_lt_of_le A_a2.lt (Nat.le_of_eq g2.symm))
  have z3 : n0 ≤ h2.size := Nat.le_trans Z0 E2.1
  have K4 : Keep h0 h2 [a1] := K0.ext E2
  have V2 : AV Z h2 b2 k2 .byte 128 (fun i => Value.int ((fun _ => (0 : Int32)) i)) := AV.new A2 (by decide) (by decide) (by decide)
  have f5 : Fld Z h2 a1 "com/example/verdict/verdict/saml/XmlScanner" "text" "[B" u_text := (F_text_a1.ext E2)
  have f6 : Exa Z h2 a1 "com/example/verdict/verdict/saml/XmlScanner" := (E_a1.ext E2)
  obtain ⟨T7, h7, X7, e7, W7, st7⟩ := putF X2 hx hZ hown (host := "") (Or.inl (hw _ (List.mem_of_getElem? (i := 15) rfl))) Via.refl e2 f5 f6 (Or.inl (hw _ (List.mem_of_getElem? (i := 16) rfl))) (hw _ (List.mem_of_getElem? (i := 7) rfl)) (ty := (.array .byte)) (by decide) rfl rfl (g := (mkF m 10 #[.val (.ref a1), .val (.ref a2), .val (.int p3)] [(.ref b2), (.ref a1)])) rfl rfl (hb hby d2_10)
  have z8 : n0 ≤ h7.size := Nat.le_trans z3 (Keep.of_wr W7).1
  have K9 : Keep h0 h7 [a1] := K4.wr W7 (Or.inl (List.mem_of_getElem? (i := 0) rfl))
  have Fw7 : Fld Z h7 a1 "com/example/verdict/verdict/saml/XmlScanner" "text" "[B" (.ref b2) := f5.same W7
  have N7 := Fr.snoc X7 N0 g_a1
  have f11 : AV Z h7 a2 k .byte n (fun i => Value.int (f i)) := ((A_a2.ext E2).other W7 ne_a2_a1)
  obtain ⟨cl10, Ar10, -, sz10, -, -⟩ := id f11
  have le10 : cl10.slots.size.toInt32 = z := by rw [sz10]; exact hz
  obtain ⟨_, _, ⟨T12, L12, k12, n12⟩, -, X12, ⟨Lc12, hQ12, l12, y12, z12⟩, st12⟩ := Jvm.LawKit.callS X7 hx (y := (⟨"java/util/Objects", "checkFromIndexSize", "(III)I"⟩ : MethodName)) hown (mvT hZ (hw _ (List.mem_of_getElem? (i := 17) rfl))) (mvT hZ (hw _ (List.mem_of_getElem? (i := 18) rfl))) (mvT hZ (hw _ (List.mem_of_getElem? (i := 19) rfl))) (mvT hZ (hw _ (List.mem_of_getElem? (i := 20) rfl))) (by decide) (backOf (W := 0) (rm4 l Z a0 hw [] (0 : Int32) p3 z h7 n0 z8 hA hB) hZ (hw _ (List.mem_of_getElem? (i := 20) rfl)) (hw _ (List.mem_of_getElem? (i := 19) rfl)) (by decide) (by decide)) (g := (mkF m 17 #[.val (.ref a1), .val (.ref a2), .val (.int p3)] [(.int z), (.int p3), (.int (0 : Int32))])) rfl (by rw [hml]; rfl) (argsL := [(.int (0 : Int32)), (.int p3), (.int z)]) (rest := []) (lenOf pd_1 rfl) rfl (by show 2 * 0 + _ ≤ _; exact Nat.le_of_eq rfl) (hb hby d2_17) (fun _ _ => ⟨rfl, e7, (by decide : 1 + 0 ≤ _), (by decide : 128 + 0 ≤ _)⟩)
  dsimp only [Pt.U, Pt.locs, Pt.cells, Pt.slots] at X12 l12 y12 z12 st12 hQ12
  subst l12 y12 z12
  obtain ⟨rfl, N12q, eq12⟩ := hQ12
  have N12 := Fr.app N7 N12q
  have f13 : Fld Z h7 a1 "com/example/verdict/verdict/saml/XmlScanner" "doc" "[B" u_doc := ((F_doc_a1.ext E2).other W7 (Or.inr (slot_ne (Or.inr (hw _ (List.mem_of_getElem? (i := 26) rfl))) (Or.inl (hw _ (List.mem_of_getElem? (i := 16) rfl))) (by decide) (t := (.array .byte)) (t' := (.array .byte)) (by decide) (by decide))))
  have f14 : Exa Z h7 a1 "com/example/verdict/verdict/saml/XmlScanner" := (f6.wr W7)
  obtain ⟨T15, h15, X15, e15, W15, st15⟩ := putF X12 hx hZ hown (host := "") (Or.inl (hw _ (List.mem_of_getElem? (i := 25) rfl))) Via.refl eq12 f13 f14 (Or.inr ⟨(hw _ (List.mem_of_getElem? (i := 26) rfl)), rfl, hnm⟩) (hw _ (List.mem_of_getElem? (i := 7) rfl)) (ty := (.array .byte)) (by decide) rfl rfl (g := (mkF m 23 #[.val (.ref a1), .val (.ref a2), .val (.int p3)] [(.ref a2), (.ref a1)])) rfl rfl (hb hby d2_23)
  have z16 : n0 ≤ h15.size := Nat.le_trans z8 (Keep.of_wr W15).1
  have K17 : Keep h0 h15 [a1] := K9.wr W15 (Or.inl (List.mem_of_getElem? (i := 0) rfl))
  have Fw15 : Fld Z h15 a1 "com/example/verdict/verdict/saml/XmlScanner" "doc" "[B" (.ref a2) := f13.same W15
  have N15 := Fr.snoc X15 N12 g_a1
  have f18 : Fld Z h15 a1 "com/example/verdict/verdict/saml/XmlScanner" "end" "I" u_end := (((F_end_a1.ext E2).other W7 (Or.inr (slot_ne (Or.inr (hw _ (List.mem_of_getElem? (i := 28) rfl))) (Or.inl (hw _ (List.mem_of_getElem? (i := 16) rfl))) (by decide) (t := .int) (t' := (.array .byte)) (by decide) (by decide)))).other W15 (Or.inr (slot_ne (Or.inr (hw _ (List.mem_of_getElem? (i := 28) rfl))) (Or.inr (hw _ (List.mem_of_getElem? (i := 26) rfl))) (by decide) (t := .int) (t' := (.array .byte)) (by decide) (by decide))))
  have f19 : Exa Z h15 a1 "com/example/verdict/verdict/saml/XmlScanner" := (f14.wr W15)
  obtain ⟨T20, h20, X20, e20, W20, st20⟩ := putF X15 hx hZ hown (host := "") (Or.inl (hw _ (List.mem_of_getElem? (i := 27) rfl))) Via.refl e15 f18 f19 (Or.inr ⟨(hw _ (List.mem_of_getElem? (i := 28) rfl)), rfl, hnm⟩) (hw _ (List.mem_of_getElem? (i := 7) rfl)) (ty := .int) (by decide) rfl rfl (g := (mkF m 28 #[.val (.ref a1), .val (.ref a2), .val (.int p3)] [(.int p3), (.ref a1)])) rfl rfl (hb hby d2_28)
  have z21 : n0 ≤ h20.size := Nat.le_trans z16 (Keep.of_wr W20).1
  have K22 : Keep h0 h20 [a1] := K17.wr W20 (Or.inl (List.mem_of_getElem? (i := 0) rfl))
  have Fw20 : Fld Z h20 a1 "com/example/verdict/verdict/saml/XmlScanner" "end" "I" (.int p3) := f18.same W20
  have N20 := Fr.snoc X20 N15 g_a1
  obtain ⟨fs, hr, hrun, hended, hW, hsame⟩ := X20.leave (v := none) (fun _ => rfl)
  refine ⟨_, _, ?_, hrun, hended, _, _, rfl, ?_, ⟨_, rfl⟩, hW, hsame.mono (by decide) (by decide)⟩
  · show Steps p.tables e below (s₁.setTop (mkF m 0 #[.val (.ref a1), .val (.ref a2), .val (.int p3)] [])) _
    refine XS.aloadN X0.here hx rfl (hb hby d2_0) rfl rfl ?_
    show Steps p.tables e below (s₁.setTop (mkF m 1 #[.val (.ref a1), .val (.ref a2), .val (.int p3)] [(.ref a1)])) _
    refine st1 _ ?_
    show Steps p.tables e below (T1.setTop (mkF m 4 #[.val (.ref a1), .val (.ref a2), .val (.int p3)] [])) _
    refine XS.aloadN X1.here hx rfl (hb hby d2_4) rfl rfl ?_
    show Steps p.tables e below (T1.setTop (mkF m 5 #[.val (.ref a1), .val (.ref a2), .val (.int p3)] [(.ref a1)])) _
    refine XS.sipush X1.here hx rfl (hb hby d2_5) ?_
    show Steps p.tables e below (T1.setTop (mkF m 8 #[.val (.ref a1), .val (.ref a2), .val (.int p3)] [(.int (128 : Int32)), (.ref a1)])) _
    refine st2 _ ?_
    show Steps p.tables e below (T2.setTop (mkF m 10 #[.val (.ref a1), .val (.ref a2), .val (.int p3)] [(.ref b2), (.ref a1)])) _
    refine st7 _ ?_
    show Steps p.tables e below (T7.setTop (mkF m 13 #[.val (.ref a1), .val (.ref a2), .val (.int p3)] [])) _
    refine XS.iconst X7.here hx rfl (hb hby d2_13) ?_
    show Steps p.tables e below (T7.setTop (mkF m 14 #[.val (.ref a1), .val (.ref a2), .val (.int p3)] [(.int (0 : Int32))])) _
    refine XS.iloadN X7.here hx rfl (hb hby d2_14) rfl ?_
    show Steps p.tables e below (T7.setTop (mkF m 15 #[.val (.ref a1), .val (.ref a2), .val (.int p3)] [(.int p3), (.int (0 : Int32))])) _
    refine XS.aloadN X7.here hx rfl (hb hby d2_15) rfl rfl ?_
    show Steps p.tables e below (T7.setTop (mkF m 16 #[.val (.ref a1), .val (.ref a2), .val (.int p3)] [(.ref a2), (.int p3), (.int (0 : Int32))])) _
    refine X7.arraylength hx (by rw [e7]; exact Ar10.1) (State.isArrayOf_alike hZ.alike Ar10.2.1) (g := (mkF m 16 #[.val (.ref a1), .val (.ref a2), .val (.int p3)] [(.ref a2), (.int p3), (.int (0 : Int32))])) rfl rfl (hb hby d2_16) _ ?_
    rw [le10]
    show Steps p.tables e below (T7.setTop (mkF m 17 #[.val (.ref a1), .val (.ref a2), .val (.int p3)] [(.int z), (.int p3), (.int (0 : Int32))])) _
    refine st12 _ ?_
    show Steps p.tables e below (T12.setTop (mkF m 20 #[.val (.ref a1), .val (.ref a2), .val (.int p3)] [(.int (0 : Int32))])) _
    refine XS.pop X12.here hx rfl (hb hby d2_20) rfl rfl ?_
    show Steps p.tables e below (T12.setTop (mkF m 21 #[.val (.ref a1), .val (.ref a2), .val (.int p3)] [])) _
    refine XS.aloadN X12.here hx rfl (hb hby d2_21) rfl rfl ?_
    show Steps p.tables e below (T12.setTop (mkF m 22 #[.val (.ref a1), .val (.ref a2), .val (.int p3)] [(.ref a1)])) _
    refine XS.aloadN X12.here hx rfl (hb hby d2_22) rfl rfl ?_
    show Steps p.tables e below (T12.setTop (mkF m 23 #[.val (.ref a1), .val (.ref a2), .val (.int p3)] [(.ref a2), (.ref a1)])) _
    refine st15 _ ?_
    show Steps p.tables e below (T15.setTop (mkF m 26 #[.val (.ref a1), .val (.ref a2), .val (.int p3)] [])) _
    refine XS.aloadN X15.here hx rfl (hb hby d2_26) rfl rfl ?_
    show Steps p.tables e below (T15.setTop (mkF m 27 #[.val (.ref a1), .val (.ref a2), .val (.int p3)] [(.ref a1)])) _
    refine XS.iloadN X15.here hx rfl (hb hby d2_27) rfl ?_
    show Steps p.tables e below (T15.setTop (mkF m 28 #[.val (.ref a1), .val (.ref a2), .val (.int p3)] [(.int p3), (.ref a1)])) _
    refine st20 _ ?_
    show Steps p.tables e below (T20.setTop (mkF m 31 #[.val (.ref a1), .val (.ref a2), .val (.int p3)] [])) _
    exact X20.returnOut hx Bd.returns (hb hby d2_31) hr
  · have f23 : Exa Z h20 a1 "com/example/verdict/verdict/saml/XmlScanner" := (f19.wr W20)
    have f24 : Fld Z h20 a1 "com/example/verdict/verdict/saml/XmlScanner" "doc" "[B" (.ref a2) := (Fw15.other W20 (Or.inr (slot_ne (Or.inr (hw _ (List.mem_of_getElem? (i := 26) rfl))) (Or.inr (hw _ (List.mem_of_getElem? (i := 28) rfl))) (by decide) (t := (.array .byte)) (t' := .int) (by decide) (by decide))))
    have f25 : Fld Z h20 a1 "com/example/verdict/verdict/saml/XmlScanner" "pos" "I" u_pos := ((((F_pos_a1.ext E2).other W7 (Or.inr (slot_ne (Or.inl (hw _ (List.mem_of_getElem? (i := 35) rfl))) (Or.inl (hw _ (List.mem_of_getElem? (i := 16) rfl))) (by decide) (t := .int) (t' := (.array .byte)) (by decide) (by decide)))).other W15 (Or.inr (slot_ne (Or.inl (hw _ (List.mem_of_getElem? (i := 35) rfl))) (Or.inr (hw _ (List.mem_of_getElem? (i := 26) rfl))) (by decide) (t := .int) (t' := (.array .byte)) (by decide) (by decide)))).other W20 (Or.inr (slot_ne (Or.inl (hw _ (List.mem_of_getElem? (i := 35) rfl))) (Or.inr (hw _ (List.mem_of_getElem? (i := 28) rfl))) (by decide) (t := .int) (t' := .int) (by decide) (by decide))))
    show Q2 Z a1 a2 p3 u_text u_doc u_end u_pos k n f z h0 n0 _ T20.heap _
    rw [e20]
    exact ⟨rfl, N20, K22, f23, f24, Fw20, f25⟩
theorem d6_0 : decode prog_45_method_9_code 0 = .ok (.aload_n 0, 1) := by decide +kernel
theorem d6_1 : decode prog_45_method_9_code 1 = .ok (.getfield 22, 3) := by decide +kernel
theorem d6_4 : decode prog_45_method_9_code 4 = .ok (.iconst 3, 1) := by decide +kernel
theorem d6_5 : decode prog_45_method_9_code 5 = .ok (.if_icmp .lt 40, 3) := by decide +kernel
theorem d6_8 : decode prog_45_method_9_code 8 = .ok (.aload_n 0, 1) := by decide +kernel
theorem d6_9 : decode prog_45_method_9_code 9 = .ok (.getfield 19, 3) := by decide +kernel
theorem d6_12 : decode prog_45_method_9_code 12 = .ok (.iconst 0, 1) := by decide +kernel
theorem d6_13 : decode prog_45_method_9_code 13 = .ok (.baload, 1) := by decide +kernel
theorem d6_14 : decode prog_45_method_9_code 14 = .ok (.bipush (-17), 2) := by decide +kernel
theorem d6_16 : decode prog_45_method_9_code 16 = .ok (.if_icmp .ne 29, 3) := by decide +kernel
theorem d6_19 : decode prog_45_method_9_code 19 = .ok (.aload_n 0, 1) := by decide +kernel
theorem d6_20 : decode prog_45_method_9_code 20 = .ok (.getfield 19, 3) := by decide +kernel
theorem d6_23 : decode prog_45_method_9_code 23 = .ok (.iconst 1, 1) := by decide +kernel
theorem d6_24 : decode prog_45_method_9_code 24 = .ok (.baload, 1) := by decide +kernel
theorem d6_25 : decode prog_45_method_9_code 25 = .ok (.bipush (-69), 2) := by decide +kernel
theorem d6_27 : decode prog_45_method_9_code 27 = .ok (.if_icmp .ne 18, 3) := by decide +kernel
theorem d6_30 : decode prog_45_method_9_code 30 = .ok (.aload_n 0, 1) := by decide +kernel
theorem d6_31 : decode prog_45_method_9_code 31 = .ok (.getfield 19, 3) := by decide +kernel
theorem d6_34 : decode prog_45_method_9_code 34 = .ok (.iconst 2, 1) := by decide +kernel
theorem d6_35 : decode prog_45_method_9_code 35 = .ok (.baload, 1) := by decide +kernel
theorem d6_36 : decode prog_45_method_9_code 36 = .ok (.bipush (-65), 2) := by decide +kernel
theorem d6_38 : decode prog_45_method_9_code 38 = .ok (.if_icmp .ne 7, 3) := by decide +kernel
theorem d6_41 : decode prog_45_method_9_code 41 = .ok (.iconst 1, 1) := by decide +kernel
theorem d6_42 : decode prog_45_method_9_code 42 = .ok (.goto 4, 3) := by decide +kernel
theorem d6_45 : decode prog_45_method_9_code 45 = .ok (.iconst 0, 1) := by decide +kernel
theorem d6_46 : decode prog_45_method_9_code 46 = .ok (.istore_n 1, 1) := by decide +kernel
theorem d6_47 : decode prog_45_method_9_code 47 = .ok (.aload_n 0, 1) := by decide +kernel
theorem d6_48 : decode prog_45_method_9_code 48 = .ok (.getfield 26, 3) := by decide +kernel
theorem d6_51 : decode prog_45_method_9_code 51 = .ok (.ifCond .ne 12, 3) := by decide +kernel
theorem d6_54 : decode prog_45_method_9_code 54 = .ok (.iload_n 1, 1) := by decide +kernel
theorem d6_55 : decode prog_45_method_9_code 55 = .ok (.ifCond .eq 8, 3) := by decide +kernel
theorem d6_58 : decode prog_45_method_9_code 58 = .ok (.aload_n 0, 1) := by decide +kernel
theorem d6_59 : decode prog_45_method_9_code 59 = .ok (.iconst 3, 1) := by decide +kernel
theorem d6_60 : decode prog_45_method_9_code 60 = .ok (.putfield 26, 3) := by decide +kernel
theorem d6_63 : decode prog_45_method_9_code 63 = .ok (.return_, 1) := by decide +kernel
theorem ef_rm6 (m : MethodId) (a1 : Addr) : entryFrame m #[(.ref a1)] 2 = mkF m 0 #[.val (.ref a1), .unset] [] := by first | (simp [entryFrame, mkF, argsToLocals, Value.category]; done) | rfl
def Q6 (Z : State) (a1 : Addr) (w : Int32) (q : Int32) (d : Addr) (k : ClassId) (n : Nat) (f : Nat → Int32) (z : Int32) (h0 : Heap) (n0 : Nat) (v : Option Value) (h : Heap) (L : List Loc) : Prop := ∃ (w2 : Int32), v = none ∧ Fr n0 L ∧ Keep h0 h [a1] ∧ (Exa Z h a1 "com/example/verdict/verdict/saml/XmlScanner") ∧ (Fld Z h a1 "com/example/verdict/verdict/saml/XmlScanner" "pos" "I" (.int w2)) ∧ (Fld Z h a1 "com/example/verdict/verdict/saml/XmlScanner" "end" "I" (.int q)) ∧ (Fld Z h a1 "com/example/verdict/verdict/saml/XmlScanner" "doc" "[B" (.ref d)) ∧ (w2 = (if q < (3 : Int32) then w else (if (f 0) = (-17 : Int32) then (if (f 1) = (-69 : Int32) then (if (f 2) = (-65 : Int32) then (if w = (0 : Int32) then (3 : Int32) else w) else w) else w) else w)))
set_option maxRecDepth 65536 in
set_option maxHeartbeats 40000000 in
theorem rm6 (l : Launch) (Z : State) (a0 : Array Value) (hw : ∀ d ∈ tables_1, d.before a0 Z = true) (ws : List Jvm.Cond) (a1 : Addr) (w : Int32) (q : Int32) (d : Addr) (k : ClassId) (n : Nat) (f : Nat → Int32) (z : Int32) (h0 : Heap) (n0 : Nat) (Z0 : n0 ≤ h0.size) (E_a1 : Exa Z h0 a1 "com/example/verdict/verdict/saml/XmlScanner") (g_a1 : n0 ≤ a1) (F_pos_a1 : Fld Z h0 a1 "com/example/verdict/verdict/saml/XmlScanner" "pos" "I" (.int w)) (F_end_a1 : Fld Z h0 a1 "com/example/verdict/verdict/saml/XmlScanner" "end" "I" (.int q)) (F_doc_a1 : Fld Z h0 a1 "com/example/verdict/verdict/saml/XmlScanner" "doc" "[B" (.ref d)) (A_d : AV Z h0 d k .byte n (fun i => Value.int (f i))) (hq : q.toInt ≤ n) :
    MetFree l (⟨"com/example/verdict/verdict/saml/XmlScanner", "skipByteOrderMark", "()V"⟩ : MethodName) (head1 (Jvm.Cond.code (⟨"com/example/verdict/verdict/saml/XmlScanner", "skipByteOrderMark", "()V"⟩ : MethodName) prog_45_method_9_code 2 none :: ws) ({ frames := 0, cells := 0, slots := 0, locals := 0 } : Room)) (fun a U => a = #[(.ref a1)] ∧ Z.Warmed39 U.vm ∧ U.heap = h0) (fun _ _ _ _ _ => True) (fun _ U o U' => ∃ v L, o = .returned v ∧ Q6 Z a1 w q d k n f z h0 n0 v U'.heap L ∧ FrameEnd U o U' L ({ frames := 0, cells := 0, slots := 0, locals := 0 } : Room).cells ({ frames := 0, cells := 0, slots := 0, locals := 0 } : Room).slots) := by
  refine MetFree.of_bodySF (plainFor_of_name pn_3) hisR ?_
  intro p e s m args below meth c s₁ Bd hml0 hP hK
  obtain ⟨rfl, hZ, hh⟩ := hP
  have hx := Bd.exec
  have hby := Bd.bytes
  have hml : c.maxLocals = 2 := hml0
  have hown : s.vm.findClass "com/example/verdict/verdict/saml/XmlScanner" = some m.cls := findClass_of_methodNamed Bd.named
  have hnm := (name_of_methodNamed Bd.named Bd.method).1
  have X0 : Stand p l e ({ frames := 0, cells := 0, slots := 0, locals := 0 } : Room) s m #[(.ref a1)] below meth c s₁ [] 0 0 := Stand.of_body Bd
  have e0 : s₁.heap = h0 := by rw [← hh, Bd.state]; rfl
  have N0 := Fr.nil n0
  show GoalS p.tables e below s ({ frames := 0, cells := 0, slots := 0, locals := 0 } : Room).cells ({ frames := 0, cells := 0, slots := 0, locals := 0 } : Room).slots (Q6 Z a1 w q d k n f z h0 n0) (s₁.setTop (entryFrame m #[(.ref a1)] 2))
  refine GoalS.lift (B := s₁.setTop (mkF m 0 #[.val (.ref a1), .unset] [])) (fun t k => castTop (ef_rm6 m a1) k) ?_
  have K0 : Keep h0 h0 [a1] := Keep.refl _ _
  obtain ⟨T1, X1, e1, st1⟩ := getF X0 hx hZ hown (host := "") (Or.inl (hw _ (List.mem_of_getElem? (i := 27) rfl))) Via.refl e0 F_end_a1 (g := (mkF m 1 #[.val (.ref a1), .unset] [(.ref a1)])) rfl rfl (hb hby d6_1)
  refine GoalS.lift (B := (T1.setTop (mkF m 5 #[.val (.ref a1), .unset] [(.int (3 : Int32)), (.int q)]))) (fun t k => ?_) ?_
  · show Steps p.tables e below (s₁.setTop (mkF m 0 #[.val (.ref a1), .unset] [])) _
    refine XS.aloadN X0.here hx rfl (hb hby d6_0) rfl rfl ?_
    show Steps p.tables e below (s₁.setTop (mkF m 1 #[.val (.ref a1), .unset] [(.ref a1)])) _
    refine st1 _ ?_
    show Steps p.tables e below (T1.setTop (mkF m 4 #[.val (.ref a1), .unset] [(.int q)])) _
    refine XS.iconst X1.here hx rfl (hb hby d6_4) ?_
    show Steps p.tables e below (T1.setTop (mkF m 5 #[.val (.ref a1), .unset] [(.int (3 : Int32)), (.int q)])) _
    exact k
  by_cases hc5_2 : q < (3 : Int32)
  · obtain ⟨T3, X3, e3, st3⟩ := getF X1 hx hZ hown (host := "") (Or.inl (hw _ (List.mem_of_getElem? (i := 34) rfl))) Via.refl e1 F_pos_a1 (g := (mkF m 48 #[.val (.ref a1), .val (.int (0 : Int32))] [(.ref a1)])) rfl rfl (hb hby d6_48)
    refine GoalS.lift (B := (T3.setTop (mkF m 51 #[.val (.ref a1), .val (.int (0 : Int32))] [(.int w)]))) (fun t k => ?_) ?_
    · show Steps p.tables e below (T1.setTop (mkF m 5 #[.val (.ref a1), .unset] [(.int (3 : Int32)), (.int q)])) _
      refine XS.icmpYes X1.here hx rfl (pc0 := 5) (pc' := 45) rfl (hb hby d6_5) rfl ((tlt hc5_2).1) (by decide) (by decide) ?_
      show Steps p.tables e below (T1.setTop (mkF m 45 #[.val (.ref a1), .unset] [])) _
      refine XS.iconst X1.here hx rfl (hb hby d6_45) ?_
      show Steps p.tables e below (T1.setTop (mkF m 46 #[.val (.ref a1), .unset] [(.int (0 : Int32))])) _
      refine XS.istoreN X1.here hx rfl (hb hby d6_46) rfl (l' := #[.val (.ref a1), .val (.int (0 : Int32))]) rfl ?_
      show Steps p.tables e below (T1.setTop (mkF m 47 #[.val (.ref a1), .val (.int (0 : Int32))] [])) _
      refine XS.aloadN X1.here hx rfl (hb hby d6_47) rfl rfl ?_
      show Steps p.tables e below (T1.setTop (mkF m 48 #[.val (.ref a1), .val (.int (0 : Int32))] [(.ref a1)])) _
      refine st3 _ ?_
      show Steps p.tables e below (T3.setTop (mkF m 51 #[.val (.ref a1), .val (.int (0 : Int32))] [(.int w)])) _
      exact k
    by_cases hc51_4 : w = (0 : Int32)
    · obtain ⟨fs, hr, hrun, hended, hW, hsame⟩ := X3.leave (v := none) (fun _ => rfl)
      refine ⟨_, _, ?_, hrun, hended, _, _, rfl, ?_, ⟨_, rfl⟩, hW, hsame.mono (by decide) (by decide)⟩
      · show Steps p.tables e below (T3.setTop (mkF m 51 #[.val (.ref a1), .val (.int (0 : Int32))] [(.int w)])) _
        refine XS.ifNo X3.here hx rfl (hb hby d6_51) rfl ((if0 _ _).trans (teq hc51_4).2) ?_
        show Steps p.tables e below (T3.setTop (mkF m 54 #[.val (.ref a1), .val (.int (0 : Int32))] [])) _
        refine XS.iloadN X3.here hx rfl (hb hby d6_54) rfl ?_
        show Steps p.tables e below (T3.setTop (mkF m 55 #[.val (.ref a1), .val (.int (0 : Int32))] [(.int (0 : Int32))])) _
        refine XS.ifYes X3.here hx rfl (pc0 := 55) (pc' := 63) rfl (hb hby d6_55) rfl ((if0 _ _).trans (teq (by decide : (0 : Int32) = (0 : Int32))).1) (by decide) (by decide) ?_
        show Steps p.tables e below (T3.setTop (mkF m 63 #[.val (.ref a1), .val (.int (0 : Int32))] [])) _
        exact X3.returnOut hx Bd.returns (hb hby d6_63) hr
      · show Q6 Z a1 w q d k n f z h0 n0 _ T3.heap _
        rw [e3]
        exact ⟨w, rfl, N0, K0, E_a1, F_pos_a1, F_end_a1, F_doc_a1, (by simp only [if_pos hc5_2, if_pos hc51_4])⟩
    · obtain ⟨fs, hr, hrun, hended, hW, hsame⟩ := X3.leave (v := none) (fun _ => rfl)
      refine ⟨_, _, ?_, hrun, hended, _, _, rfl, ?_, ⟨_, rfl⟩, hW, hsame.mono (by decide) (by decide)⟩
      · show Steps p.tables e below (T3.setTop (mkF m 51 #[.val (.ref a1), .val (.int (0 : Int32))] [(.int w)])) _
        refine XS.ifYes X3.here hx rfl (pc0 := 51) (pc' := 63) rfl (hb hby d6_51) rfl ((if0 _ _).trans (feq hc51_4).2) (by decide) (by decide) ?_
        show Steps p.tables e below (T3.setTop (mkF m 63 #[.val (.ref a1), .val (.int (0 : Int32))] [])) _
        exact X3.returnOut hx Bd.returns (hb hby d6_63) hr
      · show Q6 Z a1 w q d k n f z h0 n0 _ T3.heap _
        rw [e3]
        exact ⟨w, rfl, N0, K0, E_a1, F_pos_a1, F_end_a1, F_doc_a1, (by simp only [if_pos hc5_2, if_neg hc51_4])⟩
  · obtain ⟨T5, X5, e5, st5⟩ := getF X1 hx hZ hown (host := "") (Or.inl (hw _ (List.mem_of_getElem? (i := 25) rfl))) Via.refl e1 F_doc_a1 (g := (mkF m 9 #[.val (.ref a1), .unset] [(.ref a1)])) rfl rfl (hb hby d6_9)
    obtain ⟨cl6, Ar6, kc6, sz6, -, hv6⟩ := id A_d
    have hin6 : ¬ ((0 : Int32) < 0 ∨ cl6.slots.size ≤ ((0 : Int32)).toNatClampNeg) := AV.inb sz6 ⟨by decide, Nat.lt_of_le_of_lt (show ((0 : Int32)).toNatClampNeg ≤ 2 by decide) (own_c0 hc5_2 hq)⟩
    have hat6 : cl6.slots[((0 : Int32)).toNatClampNeg]? = some (.int (f 0)) := (hv6 _ (AV.inx ⟨by decide, Nat.lt_of_le_of_lt (show ((0 : Int32)).toNatClampNeg ≤ 2 by decide) (own_c0 hc5_2 hq)⟩)).trans (congrArg some rfl)
    refine GoalS.lift (B := (T5.setTop (mkF m 16 #[.val (.ref a1), .unset] [(.int (-17 : Int32)), (.int (f 0))]))) (fun t k => ?_) ?_
    · show Steps p.tables e below (T1.setTop (mkF m 5 #[.val (.ref a1), .unset] [(.int (3 : Int32)), (.int q)])) _
      refine XS.icmpNo X1.here hx rfl (hb hby d6_5) rfl ((flt hc5_2).1) ?_
      show Steps p.tables e below (T1.setTop (mkF m 8 #[.val (.ref a1), .unset] [])) _
      refine XS.aloadN X1.here hx rfl (hb hby d6_8) rfl rfl ?_
      show Steps p.tables e below (T1.setTop (mkF m 9 #[.val (.ref a1), .unset] [(.ref a1)])) _
      refine st5 _ ?_
      show Steps p.tables e below (T5.setTop (mkF m 12 #[.val (.ref a1), .unset] [(.ref d)])) _
      refine XS.iconst X5.here hx rfl (hb hby d6_12) ?_
      show Steps p.tables e below (T5.setTop (mkF m 13 #[.val (.ref a1), .unset] [(.int (0 : Int32)), (.ref d)])) _
      refine X5.baloadBytes hx (j := (0 : Int32)) (v := (.int (f 0))) (by rw [e5]; exact Ar6.1) (State.isArrayOf_alike hZ.alike Ar6.2.1) Ar6.2.2 hin6 hat6 (g := (mkF m 13 #[.val (.ref a1), .unset] [(.int (0 : Int32)), (.ref d)])) rfl rfl (hb hby d6_13) _ ?_
      show Steps p.tables e below (T5.setTop (mkF m 14 #[.val (.ref a1), .unset] [(.int (f 0))])) _
      refine XS.bipush X5.here hx rfl (hb hby d6_14) ?_
      show Steps p.tables e below (T5.setTop (mkF m 16 #[.val (.ref a1), .unset] [(.int (-17 : Int32)), (.int (f 0))])) _
      exact k
    by_cases hc16_7 : (f 0) = (-17 : Int32)
    · obtain ⟨T8, X8, e8, st8⟩ := getF X5 hx hZ hown (host := "") (Or.inl (hw _ (List.mem_of_getElem? (i := 25) rfl))) Via.refl e5 F_doc_a1 (g := (mkF m 20 #[.val (.ref a1), .unset] [(.ref a1)])) rfl rfl (hb hby d6_20)
      obtain ⟨cl9, Ar9, kc9, sz9, -, hv9⟩ := id A_d
      have hin9 : ¬ ((1 : Int32) < 0 ∨ cl9.slots.size ≤ ((1 : Int32)).toNatClampNeg) := AV.inb sz9 ⟨by decide, Nat.lt_of_le_of_lt (show ((1 : Int32)).toNatClampNeg ≤ 2 by decide) (own_c0 hc5_2 hq)⟩
      have hat9 : cl9.slots[((1 : Int32)).toNatClampNeg]? = some (.int (f 1)) := (hv9 _ (AV.inx ⟨by decide, Nat.lt_of_le_of_lt (show ((1 : Int32)).toNatClampNeg ≤ 2 by decide) (own_c0 hc5_2 hq)⟩)).trans (congrArg some rfl)
      refine GoalS.lift (B := (T8.setTop (mkF m 27 #[.val (.ref a1), .unset] [(.int (-69 : Int32)), (.int (f 1))]))) (fun t k => ?_) ?_
      · show Steps p.tables e below (T5.setTop (mkF m 16 #[.val (.ref a1), .unset] [(.int (-17 : Int32)), (.int (f 0))])) _
        refine XS.icmpNo X5.here hx rfl (hb hby d6_16) rfl ((teq hc16_7).2) ?_
        show Steps p.tables e below (T5.setTop (mkF m 19 #[.val (.ref a1), .unset] [])) _
        refine XS.aloadN X5.here hx rfl (hb hby d6_19) rfl rfl ?_
        show Steps p.tables e below (T5.setTop (mkF m 20 #[.val (.ref a1), .unset] [(.ref a1)])) _
        refine st8 _ ?_
        show Steps p.tables e below (T8.setTop (mkF m 23 #[.val (.ref a1), .unset] [(.ref d)])) _
        refine XS.iconst X8.here hx rfl (hb hby d6_23) ?_
        show Steps p.tables e below (T8.setTop (mkF m 24 #[.val (.ref a1), .unset] [(.int (1 : Int32)), (.ref d)])) _
        refine X8.baloadBytes hx (j := (1 : Int32)) (v := (.int (f 1))) (by rw [e8]; exact Ar9.1) (State.isArrayOf_alike hZ.alike Ar9.2.1) Ar9.2.2 hin9 hat9 (g := (mkF m 24 #[.val (.ref a1), .unset] [(.int (1 : Int32)), (.ref d)])) rfl rfl (hb hby d6_24) _ ?_
        show Steps p.tables e below (T8.setTop (mkF m 25 #[.val (.ref a1), .unset] [(.int (f 1))])) _
        refine XS.bipush X8.here hx rfl (hb hby d6_25) ?_
        show Steps p.tables e below (T8.setTop (mkF m 27 #[.val (.ref a1), .unset] [(.int (-69 : Int32)), (.int (f 1))])) _
        exact k
      by_cases hc27_10 : (f 1) = (-69 : Int32)
      · obtain ⟨T11, X11, e11, st11⟩ := getF X8 hx hZ hown (host := "") (Or.inl (hw _ (List.mem_of_getElem? (i := 25) rfl))) Via.refl e8 F_doc_a1 (g := (mkF m 31 #[.val (.ref a1), .unset] [(.ref a1)])) rfl rfl (hb hby d6_31)
        obtain ⟨cl12, Ar12, kc12, sz12, -, hv12⟩ := id A_d
        have hin12 : ¬ ((2 : Int32) < 0 ∨ cl12.slots.size ≤ ((2 : Int32)).toNatClampNeg) := AV.inb sz12 ⟨by decide, Nat.lt_of_le_of_lt (show ((2 : Int32)).toNatClampNeg ≤ 2 by decide) (own_c0 hc5_2 hq)⟩
        have hat12 : cl12.slots[((2 : Int32)).toNatClampNeg]? = some (.int (f 2)) := (hv12 _ (AV.inx ⟨by decide, Nat.lt_of_le_of_lt (show ((2 : Int32)).toNatClampNeg ≤ 2 by decide) (own_c0 hc5_2 hq)⟩)).trans (congrArg some rfl)
        refine GoalS.lift (B := (T11.setTop (mkF m 38 #[.val (.ref a1), .unset] [(.int (-65 : Int32)), (.int (f 2))]))) (fun t k => ?_) ?_
        · show Steps p.tables e below (T8.setTop (mkF m 27 #[.val (.ref a1), .unset] [(.int (-69 : Int32)), (.int (f 1))])) _
          refine XS.icmpNo X8.here hx rfl (hb hby d6_27) rfl ((teq hc27_10).2) ?_
          show Steps p.tables e below (T8.setTop (mkF m 30 #[.val (.ref a1), .unset] [])) _
          refine XS.aloadN X8.here hx rfl (hb hby d6_30) rfl rfl ?_
          show Steps p.tables e below (T8.setTop (mkF m 31 #[.val (.ref a1), .unset] [(.ref a1)])) _
          refine st11 _ ?_
          show Steps p.tables e below (T11.setTop (mkF m 34 #[.val (.ref a1), .unset] [(.ref d)])) _
          refine XS.iconst X11.here hx rfl (hb hby d6_34) ?_
          show Steps p.tables e below (T11.setTop (mkF m 35 #[.val (.ref a1), .unset] [(.int (2 : Int32)), (.ref d)])) _
          refine X11.baloadBytes hx (j := (2 : Int32)) (v := (.int (f 2))) (by rw [e11]; exact Ar12.1) (State.isArrayOf_alike hZ.alike Ar12.2.1) Ar12.2.2 hin12 hat12 (g := (mkF m 35 #[.val (.ref a1), .unset] [(.int (2 : Int32)), (.ref d)])) rfl rfl (hb hby d6_35) _ ?_
          show Steps p.tables e below (T11.setTop (mkF m 36 #[.val (.ref a1), .unset] [(.int (f 2))])) _
          refine XS.bipush X11.here hx rfl (hb hby d6_36) ?_
          show Steps p.tables e below (T11.setTop (mkF m 38 #[.val (.ref a1), .unset] [(.int (-65 : Int32)), (.int (f 2))])) _
          exact k
        by_cases hc38_13 : (f 2) = (-65 : Int32)
        · obtain ⟨T14, X14, e14, st14⟩ := getF X11 hx hZ hown (host := "") (Or.inl (hw _ (List.mem_of_getElem? (i := 34) rfl))) Via.refl e11 F_pos_a1 (g := (mkF m 48 #[.val (.ref a1), .val (.int (1 : Int32))] [(.ref a1)])) rfl rfl (hb hby d6_48)
          refine GoalS.lift (B := (T14.setTop (mkF m 51 #[.val (.ref a1), .val (.int (1 : Int32))] [(.int w)]))) (fun t k => ?_) ?_
          · show Steps p.tables e below (T11.setTop (mkF m 38 #[.val (.ref a1), .unset] [(.int (-65 : Int32)), (.int (f 2))])) _
            refine XS.icmpNo X11.here hx rfl (hb hby d6_38) rfl ((teq hc38_13).2) ?_
            show Steps p.tables e below (T11.setTop (mkF m 41 #[.val (.ref a1), .unset] [])) _
            refine XS.iconst X11.here hx rfl (hb hby d6_41) ?_
            show Steps p.tables e below (T11.setTop (mkF m 42 #[.val (.ref a1), .unset] [(.int (1 : Int32))])) _
            refine XS.goto X11.here hx rfl (pc0 := 42) (pc' := 46) rfl (hb hby d6_42) (by decide) (by decide) ?_
            show Steps p.tables e below (T11.setTop (mkF m 46 #[.val (.ref a1), .unset] [(.int (1 : Int32))])) _
            refine XS.istoreN X11.here hx rfl (hb hby d6_46) rfl (l' := #[.val (.ref a1), .val (.int (1 : Int32))]) rfl ?_
            show Steps p.tables e below (T11.setTop (mkF m 47 #[.val (.ref a1), .val (.int (1 : Int32))] [])) _
            refine XS.aloadN X11.here hx rfl (hb hby d6_47) rfl rfl ?_
            show Steps p.tables e below (T11.setTop (mkF m 48 #[.val (.ref a1), .val (.int (1 : Int32))] [(.ref a1)])) _
            refine st14 _ ?_
            show Steps p.tables e below (T14.setTop (mkF m 51 #[.val (.ref a1), .val (.int (1 : Int32))] [(.int w)])) _
            exact k
          by_cases hc51_15 : w = (0 : Int32)
          · obtain ⟨T16, h16, X16, e16, W16, st16⟩ := putF X14 hx hZ hown (host := "") (Or.inl (hw _ (List.mem_of_getElem? (i := 34) rfl))) Via.refl e14 F_pos_a1 E_a1 (Or.inl (hw _ (List.mem_of_getElem? (i := 35) rfl))) (hw _ (List.mem_of_getElem? (i := 7) rfl)) (ty := .int) (by decide) rfl rfl (g := (mkF m 60 #[.val (.ref a1), .val (.int (1 : Int32))] [(.int (3 : Int32)), (.ref a1)])) rfl rfl (hb hby d6_60)
            have z17 : n0 ≤ h16.size := Nat.le_trans Z0 (Keep.of_wr W16).1
            have K18 : Keep h0 h16 [a1] := K0.wr W16 (Or.inl (List.mem_of_getElem? (i := 0) rfl))
            have Fw16 : Fld Z h16 a1 "com/example/verdict/verdict/saml/XmlScanner" "pos" "I" (.int (3 : Int32)) := F_pos_a1.same W16
            have N16 := Fr.snoc X16 N0 g_a1
            obtain ⟨fs, hr, hrun, hended, hW, hsame⟩ := X16.leave (v := none) (fun _ => rfl)
            refine ⟨_, _, ?_, hrun, hended, _, _, rfl, ?_, ⟨_, rfl⟩, hW, hsame.mono (by decide) (by decide)⟩
            · show Steps p.tables e below (T14.setTop (mkF m 51 #[.val (.ref a1), .val (.int (1 : Int32))] [(.int w)])) _
              refine XS.ifNo X14.here hx rfl (hb hby d6_51) rfl ((if0 _ _).trans (teq hc51_15).2) ?_
              show Steps p.tables e below (T14.setTop (mkF m 54 #[.val (.ref a1), .val (.int (1 : Int32))] [])) _
              refine XS.iloadN X14.here hx rfl (hb hby d6_54) rfl ?_
              show Steps p.tables e below (T14.setTop (mkF m 55 #[.val (.ref a1), .val (.int (1 : Int32))] [(.int (1 : Int32))])) _
              refine XS.ifNo X14.here hx rfl (hb hby d6_55) rfl ((if0 _ _).trans (feq (by decide : ¬ ((1 : Int32) = (0 : Int32)))).1) ?_
              show Steps p.tables e below (T14.setTop (mkF m 58 #[.val (.ref a1), .val (.int (1 : Int32))] [])) _
              refine XS.aloadN X14.here hx rfl (hb hby d6_58) rfl rfl ?_
              show Steps p.tables e below (T14.setTop (mkF m 59 #[.val (.ref a1), .val (.int (1 : Int32))] [(.ref a1)])) _
              refine XS.iconst X14.here hx rfl (hb hby d6_59) ?_
              show Steps p.tables e below (T14.setTop (mkF m 60 #[.val (.ref a1), .val (.int (1 : Int32))] [(.int (3 : Int32)), (.ref a1)])) _
              refine st16 _ ?_
              show Steps p.tables e below (T16.setTop (mkF m 63 #[.val (.ref a1), .val (.int (1 : Int32))] [])) _
              exact X16.returnOut hx Bd.returns (hb hby d6_63) hr
            · have f19 : Exa Z h16 a1 "com/example/verdict/verdict/saml/XmlScanner" := (E_a1.wr W16)
              have f20 : Fld Z h16 a1 "com/example/verdict/verdict/saml/XmlScanner" "end" "I" (.int q) := (F_end_a1.other W16 (Or.inr (slot_ne (Or.inr (hw _ (List.mem_of_getElem? (i := 28) rfl))) (Or.inl (hw _ (List.mem_of_getElem? (i := 35) rfl))) (by decide) (t := .int) (t' := .int) (by decide) (by decide))))
              have f21 : Fld Z h16 a1 "com/example/verdict/verdict/saml/XmlScanner" "doc" "[B" (.ref d) := (F_doc_a1.other W16 (Or.inr (slot_ne (Or.inr (hw _ (List.mem_of_getElem? (i := 26) rfl))) (Or.inl (hw _ (List.mem_of_getElem? (i := 35) rfl))) (by decide) (t := (.array .byte)) (t' := .int) (by decide) (by decide))))
              show Q6 Z a1 w q d k n f z h0 n0 _ T16.heap _
              rw [e16]
              exact ⟨(3 : Int32), rfl, N16, K18, f19, Fw16, f20, f21, (by simp only [if_neg hc5_2, if_pos hc16_7, if_pos hc27_10, if_pos hc38_13, if_pos hc51_15])⟩
          · obtain ⟨fs, hr, hrun, hended, hW, hsame⟩ := X14.leave (v := none) (fun _ => rfl)
            refine ⟨_, _, ?_, hrun, hended, _, _, rfl, ?_, ⟨_, rfl⟩, hW, hsame.mono (by decide) (by decide)⟩
            · show Steps p.tables e below (T14.setTop (mkF m 51 #[.val (.ref a1), .val (.int (1 : Int32))] [(.int w)])) _
              refine XS.ifYes X14.here hx rfl (pc0 := 51) (pc' := 63) rfl (hb hby d6_51) rfl ((if0 _ _).trans (feq hc51_15).2) (by decide) (by decide) ?_
              show Steps p.tables e below (T14.setTop (mkF m 63 #[.val (.ref a1), .val (.int (1 : Int32))] [])) _
              exact X14.returnOut hx Bd.returns (hb hby d6_63) hr
            · show Q6 Z a1 w q d k n f z h0 n0 _ T14.heap _
              rw [e14]
              exact ⟨w, rfl, N0, K0, E_a1, F_pos_a1, F_end_a1, F_doc_a1, (by simp only [if_neg hc5_2, if_pos hc16_7, if_pos hc27_10, if_pos hc38_13, if_neg hc51_15])⟩
        · obtain ⟨T22, X22, e22, st22⟩ := getF X11 hx hZ hown (host := "") (Or.inl (hw _ (List.mem_of_getElem? (i := 34) rfl))) Via.refl e11 F_pos_a1 (g := (mkF m 48 #[.val (.ref a1), .val (.int (0 : Int32))] [(.ref a1)])) rfl rfl (hb hby d6_48)
          refine GoalS.lift (B := (T22.setTop (mkF m 51 #[.val (.ref a1), .val (.int (0 : Int32))] [(.int w)]))) (fun t k => ?_) ?_
          · show Steps p.tables e below (T11.setTop (mkF m 38 #[.val (.ref a1), .unset] [(.int (-65 : Int32)), (.int (f 2))])) _
            refine XS.icmpYes X11.here hx rfl (pc0 := 38) (pc' := 45) rfl (hb hby d6_38) rfl ((feq hc38_13).2) (by decide) (by decide) ?_
            show Steps p.tables e below (T11.setTop (mkF m 45 #[.val (.ref a1), .unset] [])) _
            refine XS.iconst X11.here hx rfl (hb hby d6_45) ?_
            show Steps p.tables e below (T11.setTop (mkF m 46 #[.val (.ref a1), .unset] [(.int (0 : Int32))])) _
            refine XS.istoreN X11.here hx rfl (hb hby d6_46) rfl (l' := #[.val (.ref a1), .val (.int (0 : Int32))]) rfl ?_
            show Steps p.tables e below (T11.setTop (mkF m 47 #[.val (.ref a1), .val (.int (0 : Int32))] [])) _
            refine XS.aloadN X11.here hx rfl (hb hby d6_47) rfl rfl ?_
            show Steps p.tables e below (T11.setTop (mkF m 48 #[.val (.ref a1), .val (.int (0 : Int32))] [(.ref a1)])) _
            refine st22 _ ?_
            show Steps p.tables e below (T22.setTop (mkF m 51 #[.val (.ref a1), .val (.int (0 : Int32))] [(.int w)])) _
            exact k
          by_cases hc51_23 : w = (0 : Int32)
          · obtain ⟨fs, hr, hrun, hended, hW, hsame⟩ := X22.leave (v := none) (fun _ => rfl)
            refine ⟨_, _, ?_, hrun, hended, _, _, rfl, ?_, ⟨_, rfl⟩, hW, hsame.mono (by decide) (by decide)⟩
            · show Steps p.tables e below (T22.setTop (mkF m 51 #[.val (.ref a1), .val (.int (0 : Int32))] [(.int w)])) _
              refine XS.ifNo X22.here hx rfl (hb hby d6_51) rfl ((if0 _ _).trans (teq hc51_23).2) ?_
              show Steps p.tables e below (T22.setTop (mkF m 54 #[.val (.ref a1), .val (.int (0 : Int32))] [])) _
              refine XS.iloadN X22.here hx rfl (hb hby d6_54) rfl ?_
              show Steps p.tables e below (T22.setTop (mkF m 55 #[.val (.ref a1), .val (.int (0 : Int32))] [(.int (0 : Int32))])) _
              refine XS.ifYes X22.here hx rfl (pc0 := 55) (pc' := 63) rfl (hb hby d6_55) rfl ((if0 _ _).trans (teq (by decide : (0 : Int32) = (0 : Int32))).1) (by decide) (by decide) ?_
              show Steps p.tables e below (T22.setTop (mkF m 63 #[.val (.ref a1), .val (.int (0 : Int32))] [])) _
              exact X22.returnOut hx Bd.returns (hb hby d6_63) hr
            · show Q6 Z a1 w q d k n f z h0 n0 _ T22.heap _
              rw [e22]
              exact ⟨w, rfl, N0, K0, E_a1, F_pos_a1, F_end_a1, F_doc_a1, (by simp only [if_neg hc5_2, if_pos hc16_7, if_pos hc27_10, if_neg hc38_13, if_pos hc51_23])⟩
          · obtain ⟨fs, hr, hrun, hended, hW, hsame⟩ := X22.leave (v := none) (fun _ => rfl)
            refine ⟨_, _, ?_, hrun, hended, _, _, rfl, ?_, ⟨_, rfl⟩, hW, hsame.mono (by decide) (by decide)⟩
            · show Steps p.tables e below (T22.setTop (mkF m 51 #[.val (.ref a1), .val (.int (0 : Int32))] [(.int w)])) _
              refine XS.ifYes X22.here hx rfl (pc0 := 51) (pc' := 63) rfl (hb hby d6_51) rfl ((if0 _ _).trans (feq hc51_23).2) (by decide) (by decide) ?_
              show Steps p.tables e below (T22.setTop (mkF m 63 #[.val (.ref a1), .val (.int (0 : Int32))] [])) _
              exact X22.returnOut hx Bd.returns (hb hby d6_63) hr
            · show Q6 Z a1 w q d k n f z h0 n0 _ T22.heap _
              rw [e22]
              exact ⟨w, rfl, N0, K0, E_a1, F_pos_a1, F_end_a1, F_doc_a1, (by simp only [if_neg hc5_2, if_pos hc16_7, if_pos hc27_10, if_neg hc38_13, if_neg hc51_23])⟩
      · obtain ⟨T24, X24, e24, st24⟩ := getF X8 hx hZ hown (host := "") (Or.inl (hw _ (List.mem_of_getElem? (i := 34) rfl))) Via.refl e8 F_pos_a1 (g := (mkF m 48 #[.val (.ref a1), .val (.int (0 : Int32))] [(.ref a1)])) rfl rfl (hb hby d6_48)
        refine GoalS.lift (B := (T24.setTop (mkF m 51 #[.val (.ref a1), .val (.int (0 : Int32))] [(.int w)]))) (fun t k => ?_) ?_
        · show Steps p.tables e below (T8.setTop (mkF m 27 #[.val (.ref a1), .unset] [(.int (-69 : Int32)), (.int (f 1))])) _
          refine XS.icmpYes X8.here hx rfl (pc0 := 27) (pc' := 45) rfl (hb hby d6_27) rfl ((feq hc27_10).2) (by decide) (by decide) ?_
          show Steps p.tables e below (T8.setTop (mkF m 45 #[.val (.ref a1), .unset] [])) _
          refine XS.iconst X8.here hx rfl (hb hby d6_45) ?_
          show Steps p.tables e below (T8.setTop (mkF m 46 #[.val (.ref a1), .unset] [(.int (0 : Int32))])) _
          refine XS.istoreN X8.here hx rfl (hb hby d6_46) rfl (l' := #[.val (.ref a1), .val (.int (0 : Int32))]) rfl ?_
          show Steps p.tables e below (T8.setTop (mkF m 47 #[.val (.ref a1), .val (.int (0 : Int32))] [])) _
          refine XS.aloadN X8.here hx rfl (hb hby d6_47) rfl rfl ?_
          show Steps p.tables e below (T8.setTop (mkF m 48 #[.val (.ref a1), .val (.int (0 : Int32))] [(.ref a1)])) _
          refine st24 _ ?_
          show Steps p.tables e below (T24.setTop (mkF m 51 #[.val (.ref a1), .val (.int (0 : Int32))] [(.int w)])) _
          exact k
        by_cases hc51_25 : w = (0 : Int32)
        · obtain ⟨fs, hr, hrun, hended, hW, hsame⟩ := X24.leave (v := none) (fun _ => rfl)
          refine ⟨_, _, ?_, hrun, hended, _, _, rfl, ?_, ⟨_, rfl⟩, hW, hsame.mono (by decide) (by decide)⟩
          · show Steps p.tables e below (T24.setTop (mkF m 51 #[.val (.ref a1), .val (.int (0 : Int32))] [(.int w)])) _
            refine XS.ifNo X24.here hx rfl (hb hby d6_51) rfl ((if0 _ _).trans (teq hc51_25).2) ?_
            show Steps p.tables e below (T24.setTop (mkF m 54 #[.val (.ref a1), .val (.int (0 : Int32))] [])) _
            refine XS.iloadN X24.here hx rfl (hb hby d6_54) rfl ?_
            show Steps p.tables e below (T24.setTop (mkF m 55 #[.val (.ref a1), .val (.int (0 : Int32))] [(.int (0 : Int32))])) _
            refine XS.ifYes X24.here hx rfl (pc0 := 55) (pc' := 63) rfl (hb hby d6_55) rfl ((if0 _ _).trans (teq (by decide : (0 : Int32) = (0 : Int32))).1) (by decide) (by decide) ?_
            show Steps p.tables e below (T24.setTop (mkF m 63 #[.val (.ref a1), .val (.int (0 : Int32))] [])) _
            exact X24.returnOut hx Bd.returns (hb hby d6_63) hr
          · show Q6 Z a1 w q d k n f z h0 n0 _ T24.heap _
            rw [e24]
            exact ⟨w, rfl, N0, K0, E_a1, F_pos_a1, F_end_a1, F_doc_a1, (by simp only [if_neg hc5_2, if_pos hc16_7, if_neg hc27_10, if_pos hc51_25])⟩
        · obtain ⟨fs, hr, hrun, hended, hW, hsame⟩ := X24.leave (v := none) (fun _ => rfl)
          refine ⟨_, _, ?_, hrun, hended, _, _, rfl, ?_, ⟨_, rfl⟩, hW, hsame.mono (by decide) (by decide)⟩
          · show Steps p.tables e below (T24.setTop (mkF m 51 #[.val (.ref a1), .val (.int (0 : Int32))] [(.int w)])) _
            refine XS.ifYes X24.here hx rfl (pc0 := 51) (pc' := 63) rfl (hb hby d6_51) rfl ((if0 _ _).trans (feq hc51_25).2) (by decide) (by decide) ?_
            show Steps p.tables e below (T24.setTop (mkF m 63 #[.val (.ref a1), .val (.int (0 : Int32))] [])) _
            exact X24.returnOut hx Bd.returns (hb hby d6_63) hr
          · show Q6 Z a1 w q d k n f z h0 n0 _ T24.heap _
            rw [e24]
            exact ⟨w, rfl, N0, K0, E_a1, F_pos_a1, F_end_a1, F_doc_a1, (by simp only [if_neg hc5_2, if_pos hc16_7, if_neg hc27_10, if_neg hc51_25])⟩
    · obtain ⟨T26, X26, e26, st26⟩ := getF X5 hx hZ hown (host := "") (Or.inl (hw _ (List.mem_of_getElem? (i := 34) rfl))) Via.refl e5 F_pos_a1 (g := (mkF m 48 #[.val (.ref a1), .val (.int (0 : Int32))] [(.ref a1)])) rfl rfl (hb hby d6_48)
      refine GoalS.lift (B := (T26.setTop (mkF m 51 #[.val (.ref a1), .val (.int (0 : Int32))] [(.int w)]))) (fun t k => ?_) ?_
      · show Steps p.tables e below (T5.setTop (mkF m 16 #[.val (.ref a1), .unset] [(.int (-17 : Int32)), (.int (f 0))])) _
        refine XS.icmpYes X5.here hx rfl (pc0 := 16) (pc' := 45) rfl (hb hby d6_16) rfl ((feq hc16_7).2) (by decide) (by decide) ?_
        show Steps p.tables e below (T5.setTop (mkF m 45 #[.val (.ref a1), .unset] [])) _
        refine XS.iconst X5.here hx rfl (hb hby d6_45) ?_
        show Steps p.tables e below (T5.setTop (mkF m 46 #[.val (.ref a1), .unset] [(.int (0 : Int32))])) _
        refine XS.istoreN X5.here hx rfl (hb hby d6_46) rfl (l' := #[.val (.ref a1), .val (.int (0 : Int32))]) rfl ?_
        show Steps p.tables e below (T5.setTop (mkF m 47 #[.val (.ref a1), .val (.int (0 : Int32))] [])) _
        refine XS.aloadN X5.here hx rfl (hb hby d6_47) rfl rfl ?_
        show Steps p.tables e below (T5.setTop (mkF m 48 #[.val (.ref a1), .val (.int (0 : Int32))] [(.ref a1)])) _
        refine st26 _ ?_
        show Steps p.tables e below (T26.setTop (mkF m 51 #[.val (.ref a1), .val (.int (0 : Int32))] [(.int w)])) _
        exact k
      by_cases hc51_27 : w = (0 : Int32)
      · obtain ⟨fs, hr, hrun, hended, hW, hsame⟩ := X26.leave (v := none) (fun _ => rfl)
        refine ⟨_, _, ?_, hrun, hended, _, _, rfl, ?_, ⟨_, rfl⟩, hW, hsame.mono (by decide) (by decide)⟩
        · show Steps p.tables e below (T26.setTop (mkF m 51 #[.val (.ref a1), .val (.int (0 : Int32))] [(.int w)])) _
          refine XS.ifNo X26.here hx rfl (hb hby d6_51) rfl ((if0 _ _).trans (teq hc51_27).2) ?_
          show Steps p.tables e below (T26.setTop (mkF m 54 #[.val (.ref a1), .val (.int (0 : Int32))] [])) _
          refine XS.iloadN X26.here hx rfl (hb hby d6_54) rfl ?_
          show Steps p.tables e below (T26.setTop (mkF m 55 #[.val (.ref a1), .val (.int (0 : Int32))] [(.int (0 : Int32))])) _
          refine XS.ifYes X26.here hx rfl (pc0 := 55) (pc' := 63) rfl (hb hby d6_55) rfl ((if0 _ _).trans (teq (by decide : (0 : Int32) = (0 : Int32))).1) (by decide) (by decide) ?_
          show Steps p.tables e below (T26.setTop (mkF m 63 #[.val (.ref a1), .val (.int (0 : Int32))] [])) _
          exact X26.returnOut hx Bd.returns (hb hby d6_63) hr
        · show Q6 Z a1 w q d k n f z h0 n0 _ T26.heap _
          rw [e26]
          exact ⟨w, rfl, N0, K0, E_a1, F_pos_a1, F_end_a1, F_doc_a1, (by simp only [if_neg hc5_2, if_neg hc16_7, if_pos hc51_27])⟩
      · obtain ⟨fs, hr, hrun, hended, hW, hsame⟩ := X26.leave (v := none) (fun _ => rfl)
        refine ⟨_, _, ?_, hrun, hended, _, _, rfl, ?_, ⟨_, rfl⟩, hW, hsame.mono (by decide) (by decide)⟩
        · show Steps p.tables e below (T26.setTop (mkF m 51 #[.val (.ref a1), .val (.int (0 : Int32))] [(.int w)])) _
          refine XS.ifYes X26.here hx rfl (pc0 := 51) (pc' := 63) rfl (hb hby d6_51) rfl ((if0 _ _).trans (feq hc51_27).2) (by decide) (by decide) ?_
          show Steps p.tables e below (T26.setTop (mkF m 63 #[.val (.ref a1), .val (.int (0 : Int32))] [])) _
          exact X26.returnOut hx Bd.returns (hb hby d6_63) hr
        · show Q6 Z a1 w q d k n f z h0 n0 _ T26.heap _
          rw [e26]
          exact ⟨w, rfl, N0, K0, E_a1, F_pos_a1, F_end_a1, F_doc_a1, (by simp only [if_neg hc5_2, if_neg hc16_7, if_neg hc51_27])⟩
theorem d7_0 : decode prog_45_method_2_code 0 = .ok (.aload_n 0, 1) := by decide +kernel
theorem d7_1 : decode prog_45_method_2_code 1 = .ok (.getfield 26, 3) := by decide +kernel
theorem d7_4 : decode prog_45_method_2_code 4 = .ok (.ireturn, 1) := by decide +kernel
theorem ef_rm7 (m : MethodId) (a1 : Addr) : entryFrame m #[(.ref a1)] 1 = mkF m 0 #[.val (.ref a1)] [] := by first | (simp [entryFrame, mkF, argsToLocals, Value.category]; done) | rfl
def Q7 (Z : State) (a1 : Addr) (w : Int32) (h0 : Heap) (n0 : Nat) (v : Option Value) (h : Heap) (L : List Loc) : Prop := v = some (.int w) ∧ Fr n0 L ∧ h = h0
set_option maxRecDepth 65536 in
set_option maxHeartbeats 40000000 in
theorem rm7 (l : Launch) (Z : State) (a0 : Array Value) (hw : ∀ d ∈ tables_1, d.before a0 Z = true) (ws : List Jvm.Cond) (a1 : Addr) (w : Int32) (h0 : Heap) (n0 : Nat) (Z0 : n0 ≤ h0.size) (F_pos_a1 : Fld Z h0 a1 "com/example/verdict/verdict/saml/XmlScanner" "pos" "I" (.int w)) :
    MetFree l (⟨"com/example/verdict/verdict/saml/XmlScanner", "position", "()I"⟩ : MethodName) (head1 (Jvm.Cond.code (⟨"com/example/verdict/verdict/saml/XmlScanner", "position", "()I"⟩ : MethodName) prog_45_method_2_code 1 (some .int) :: ws) ({ frames := 0, cells := 0, slots := 0, locals := 0 } : Room)) (fun a U => a = #[(.ref a1)] ∧ Z.Warmed39 U.vm ∧ U.heap = h0) (fun _ _ _ _ _ => True) (fun _ U o U' => ∃ v L, o = .returned v ∧ Q7 Z a1 w h0 n0 v U'.heap L ∧ FrameEnd U o U' L ({ frames := 0, cells := 0, slots := 0, locals := 0 } : Room).cells ({ frames := 0, cells := 0, slots := 0, locals := 0 } : Room).slots) := by
  refine MetFree.of_bodySF (plainFor_of_name pn_3) hisR ?_
  intro p e s m args below meth c s₁ Bd hml0 hP hK
  obtain ⟨rfl, hZ, hh⟩ := hP
  have hx := Bd.exec
  have hby := Bd.bytes
  have hml : c.maxLocals = 1 := hml0
  have hown : s.vm.findClass "com/example/verdict/verdict/saml/XmlScanner" = some m.cls := findClass_of_methodNamed Bd.named
  have hnm := (name_of_methodNamed Bd.named Bd.method).1
  have X0 : Stand p l e ({ frames := 0, cells := 0, slots := 0, locals := 0 } : Room) s m #[(.ref a1)] below meth c s₁ [] 0 0 := Stand.of_body Bd
  have e0 : s₁.heap = h0 := by rw [← hh, Bd.state]; rfl
  have N0 := Fr.nil n0
  show GoalS p.tables e below s ({ frames := 0, cells := 0, slots := 0, locals := 0 } : Room).cells ({ frames := 0, cells := 0, slots := 0, locals := 0 } : Room).slots (Q7 Z a1 w h0 n0) (s₁.setTop (entryFrame m #[(.ref a1)] 1))
  refine GoalS.lift (B := s₁.setTop (mkF m 0 #[.val (.ref a1)] [])) (fun t k => castTop (ef_rm7 m a1) k) ?_
  have K0 : Keep h0 h0 [] := Keep.refl _ _
  obtain ⟨T1, X1, e1, st1⟩ := getF X0 hx hZ hown (host := "") (Or.inl (hw _ (List.mem_of_getElem? (i := 34) rfl))) Via.refl e0 F_pos_a1 (g := (mkF m 1 #[.val (.ref a1)] [(.ref a1)])) rfl rfl (hb hby d7_1)
  obtain ⟨fs, hr, hrun, hended, hW, hsame⟩ := X1.leave (v := some (.int w)) (fun h => by rw [Bd.returns] at h; cases h)
  refine ⟨_, _, ?_, hrun, hended, _, _, rfl, ?_, ⟨_, rfl⟩, hW, hsame.mono (by decide) (by decide)⟩
  · show Steps p.tables e below (s₁.setTop (mkF m 0 #[.val (.ref a1)] [])) _
    refine XS.aloadN X0.here hx rfl (hb hby d7_0) rfl rfl ?_
    show Steps p.tables e below (s₁.setTop (mkF m 1 #[.val (.ref a1)] [(.ref a1)])) _
    refine st1 _ ?_
    show Steps p.tables e below (T1.setTop (mkF m 4 #[.val (.ref a1)] [(.int w)])) _
    exact retI X1 hx Bd.returns (hb hby d7_4) hr
  · show Q7 Z a1 w h0 n0 _ T1.heap _
    exact ⟨rfl, N0, e1⟩
theorem d8_0 : decode prog_45_method_3_code 0 = .ok (.aload_n 0, 1) := by decide +kernel
theorem d8_1 : decode prog_45_method_3_code 1 = .ok (.getfield 26, 3) := by decide +kernel
theorem d8_4 : decode prog_45_method_3_code 4 = .ok (.aload_n 0, 1) := by decide +kernel
theorem d8_5 : decode prog_45_method_3_code 5 = .ok (.getfield 22, 3) := by decide +kernel
theorem d8_8 : decode prog_45_method_3_code 8 = .ok (.if_icmp .ne 7, 3) := by decide +kernel
theorem d8_11 : decode prog_45_method_3_code 11 = .ok (.iconst 1, 1) := by decide +kernel
theorem d8_12 : decode prog_45_method_3_code 12 = .ok (.goto 4, 3) := by decide +kernel
theorem d8_15 : decode prog_45_method_3_code 15 = .ok (.iconst 0, 1) := by decide +kernel
theorem d8_16 : decode prog_45_method_3_code 16 = .ok (.ireturn, 1) := by decide +kernel
theorem ef_rm8 (m : MethodId) (a1 : Addr) : entryFrame m #[(.ref a1)] 1 = mkF m 0 #[.val (.ref a1)] [] := by first | (simp [entryFrame, mkF, argsToLocals, Value.category]; done) | rfl
def Q8 (Z : State) (a1 : Addr) (w : Int32) (q : Int32) (h0 : Heap) (n0 : Nat) (v : Option Value) (h : Heap) (L : List Loc) : Prop := ∃ r : Int32, v = some (.int r) ∧ r = (if w = q then (1 : Int32) else (0 : Int32)) ∧ Fr n0 L ∧ h = h0
set_option maxRecDepth 65536 in
set_option maxHeartbeats 40000000 in
theorem rm8 (l : Launch) (Z : State) (a0 : Array Value) (hw : ∀ d ∈ tables_1, d.before a0 Z = true) (ws : List Jvm.Cond) (a1 : Addr) (w : Int32) (q : Int32) (h0 : Heap) (n0 : Nat) (Z0 : n0 ≤ h0.size) (F_pos_a1 : Fld Z h0 a1 "com/example/verdict/verdict/saml/XmlScanner" "pos" "I" (.int w)) (F_end_a1 : Fld Z h0 a1 "com/example/verdict/verdict/saml/XmlScanner" "end" "I" (.int q)) :
    MetFree l (⟨"com/example/verdict/verdict/saml/XmlScanner", "atEnd", "()Z"⟩ : MethodName) (head1 (Jvm.Cond.code (⟨"com/example/verdict/verdict/saml/XmlScanner", "atEnd", "()Z"⟩ : MethodName) prog_45_method_3_code 1 (some .boolean) :: ws) ({ frames := 0, cells := 0, slots := 0, locals := 0 } : Room)) (fun a U => a = #[(.ref a1)] ∧ Z.Warmed39 U.vm ∧ U.heap = h0) (fun _ _ _ _ _ => True) (fun _ U o U' => ∃ v L, o = .returned v ∧ Q8 Z a1 w q h0 n0 v U'.heap L ∧ FrameEnd U o U' L ({ frames := 0, cells := 0, slots := 0, locals := 0 } : Room).cells ({ frames := 0, cells := 0, slots := 0, locals := 0 } : Room).slots) := by
  refine MetFree.of_bodySF (plainFor_of_name pn_3) hisR ?_
  intro p e s m args below meth c s₁ Bd hml0 hP hK
  obtain ⟨rfl, hZ, hh⟩ := hP
  have hx := Bd.exec
  have hby := Bd.bytes
  have hml : c.maxLocals = 1 := hml0
  have hown : s.vm.findClass "com/example/verdict/verdict/saml/XmlScanner" = some m.cls := findClass_of_methodNamed Bd.named
  have hnm := (name_of_methodNamed Bd.named Bd.method).1
  have X0 : Stand p l e ({ frames := 0, cells := 0, slots := 0, locals := 0 } : Room) s m #[(.ref a1)] below meth c s₁ [] 0 0 := Stand.of_body Bd
  have e0 : s₁.heap = h0 := by rw [← hh, Bd.state]; rfl
  have N0 := Fr.nil n0
  show GoalS p.tables e below s ({ frames := 0, cells := 0, slots := 0, locals := 0 } : Room).cells ({ frames := 0, cells := 0, slots := 0, locals := 0 } : Room).slots (Q8 Z a1 w q h0 n0) (s₁.setTop (entryFrame m #[(.ref a1)] 1))
  refine GoalS.lift (B := s₁.setTop (mkF m 0 #[.val (.ref a1)] [])) (fun t k => castTop (ef_rm8 m a1) k) ?_
  have K0 : Keep h0 h0 [] := Keep.refl _ _
  obtain ⟨T1, X1, e1, st1⟩ := getF X0 hx hZ hown (host := "") (Or.inl (hw _ (List.mem_of_getElem? (i := 34) rfl))) Via.refl e0 F_pos_a1 (g := (mkF m 1 #[.val (.ref a1)] [(.ref a1)])) rfl rfl (hb hby d8_1)
  obtain ⟨T2, X2, e2, st2⟩ := getF X1 hx hZ hown (host := "") (Or.inl (hw _ (List.mem_of_getElem? (i := 27) rfl))) Via.refl e1 F_end_a1 (g := (mkF m 5 #[.val (.ref a1)] [(.ref a1), (.int w)])) rfl rfl (hb hby d8_5)
  refine GoalS.lift (B := (T2.setTop (mkF m 8 #[.val (.ref a1)] [(.int q), (.int w)]))) (fun t k => ?_) ?_
  · show Steps p.tables e below (s₁.setTop (mkF m 0 #[.val (.ref a1)] [])) _
    refine XS.aloadN X0.here hx rfl (hb hby d8_0) rfl rfl ?_
    show Steps p.tables e below (s₁.setTop (mkF m 1 #[.val (.ref a1)] [(.ref a1)])) _
    refine st1 _ ?_
    show Steps p.tables e below (T1.setTop (mkF m 4 #[.val (.ref a1)] [(.int w)])) _
    refine XS.aloadN X1.here hx rfl (hb hby d8_4) rfl rfl ?_
    show Steps p.tables e below (T1.setTop (mkF m 5 #[.val (.ref a1)] [(.ref a1), (.int w)])) _
    refine st2 _ ?_
    show Steps p.tables e below (T2.setTop (mkF m 8 #[.val (.ref a1)] [(.int q), (.int w)])) _
    exact k
  by_cases hc8_3 : w = q
  · obtain ⟨fs, hr, hrun, hended, hW, hsame⟩ := X2.leave (v := some (.int (1 : Int32))) (fun h => by rw [Bd.returns] at h; cases h)
    refine ⟨_, _, ?_, hrun, hended, _, _, rfl, ?_, ⟨_, rfl⟩, hW, hsame.mono (by decide) (by decide)⟩
    · show Steps p.tables e below (T2.setTop (mkF m 8 #[.val (.ref a1)] [(.int q), (.int w)])) _
      refine XS.icmpNo X2.here hx rfl (hb hby d8_8) rfl ((teq hc8_3).2) ?_
      show Steps p.tables e below (T2.setTop (mkF m 11 #[.val (.ref a1)] [])) _
      refine XS.iconst X2.here hx rfl (hb hby d8_11) ?_
      show Steps p.tables e below (T2.setTop (mkF m 12 #[.val (.ref a1)] [(.int (1 : Int32))])) _
      refine XS.goto X2.here hx rfl (pc0 := 12) (pc' := 16) rfl (hb hby d8_12) (by decide) (by decide) ?_
      show Steps p.tables e below (T2.setTop (mkF m 16 #[.val (.ref a1)] [(.int (1 : Int32))])) _
      exact retN X2 hx (t := .boolean) Bd.returns (by simp) (hb hby d8_16) hr
    · show Q8 Z a1 w q h0 n0 _ T2.heap _
      exact ⟨_, rfl, (by simp only [if_pos hc8_3]), N0, e2⟩
  · obtain ⟨fs, hr, hrun, hended, hW, hsame⟩ := X2.leave (v := some (.int (0 : Int32))) (fun h => by rw [Bd.returns] at h; cases h)
    refine ⟨_, _, ?_, hrun, hended, _, _, rfl, ?_, ⟨_, rfl⟩, hW, hsame.mono (by decide) (by decide)⟩
    · show Steps p.tables e below (T2.setTop (mkF m 8 #[.val (.ref a1)] [(.int q), (.int w)])) _
      refine XS.icmpYes X2.here hx rfl (pc0 := 8) (pc' := 15) rfl (hb hby d8_8) rfl ((feq hc8_3).2) (by decide) (by decide) ?_
      show Steps p.tables e below (T2.setTop (mkF m 15 #[.val (.ref a1)] [])) _
      refine XS.iconst X2.here hx rfl (hb hby d8_15) ?_
      show Steps p.tables e below (T2.setTop (mkF m 16 #[.val (.ref a1)] [(.int (0 : Int32))])) _
      exact retN X2 hx (t := .boolean) Bd.returns (by simp) (hb hby d8_16) hr
    · show Q8 Z a1 w q h0 n0 _ T2.heap _
      exact ⟨_, rfl, (by simp only [if_neg hc8_3]), N0, e2⟩
theorem d9_0 : decode prog_45_method_6_code 0 = .ok (.aload_n 0, 1) := by decide +kernel
theorem d9_1 : decode prog_45_method_6_code 1 = .ok (.getfield 26, 3) := by decide +kernel
theorem d9_4 : decode prog_45_method_6_code 4 = .ok (.aload_n 0, 1) := by decide +kernel
theorem d9_5 : decode prog_45_method_6_code 5 = .ok (.getfield 22, 3) := by decide +kernel
theorem d9_8 : decode prog_45_method_6_code 8 = .ok (.if_icmp .ge 20, 3) := by decide +kernel
theorem d9_11 : decode prog_45_method_6_code 11 = .ok (.aload_n 0, 1) := by decide +kernel
theorem d9_12 : decode prog_45_method_6_code 12 = .ok (.getfield 19, 3) := by decide +kernel
theorem d9_15 : decode prog_45_method_6_code 15 = .ok (.aload_n 0, 1) := by decide +kernel
theorem d9_16 : decode prog_45_method_6_code 16 = .ok (.getfield 26, 3) := by decide +kernel
theorem d9_19 : decode prog_45_method_6_code 19 = .ok (.baload, 1) := by decide +kernel
theorem d9_20 : decode prog_45_method_6_code 20 = .ok (.iload_n 1, 1) := by decide +kernel
theorem d9_21 : decode prog_45_method_6_code 21 = .ok (.if_icmp .ne 7, 3) := by decide +kernel
theorem d9_24 : decode prog_45_method_6_code 24 = .ok (.iconst 1, 1) := by decide +kernel
theorem d9_25 : decode prog_45_method_6_code 25 = .ok (.goto 4, 3) := by decide +kernel
theorem d9_28 : decode prog_45_method_6_code 28 = .ok (.iconst 0, 1) := by decide +kernel
theorem d9_29 : decode prog_45_method_6_code 29 = .ok (.istore_n 2, 1) := by decide +kernel
theorem d9_30 : decode prog_45_method_6_code 30 = .ok (.iload_n 2, 1) := by decide +kernel
theorem d9_31 : decode prog_45_method_6_code 31 = .ok (.ifCond .eq 13, 3) := by decide +kernel
theorem d9_34 : decode prog_45_method_6_code 34 = .ok (.aload_n 0, 1) := by decide +kernel
theorem d9_35 : decode prog_45_method_6_code 35 = .ok (.dup, 1) := by decide +kernel
theorem d9_36 : decode prog_45_method_6_code 36 = .ok (.getfield 26, 3) := by decide +kernel
theorem d9_39 : decode prog_45_method_6_code 39 = .ok (.iconst 1, 1) := by decide +kernel
theorem d9_40 : decode prog_45_method_6_code 40 = .ok (.iadd, 1) := by decide +kernel
theorem d9_41 : decode prog_45_method_6_code 41 = .ok (.putfield 26, 3) := by decide +kernel
theorem d9_44 : decode prog_45_method_6_code 44 = .ok (.iload_n 2, 1) := by decide +kernel
theorem d9_45 : decode prog_45_method_6_code 45 = .ok (.ireturn, 1) := by decide +kernel
theorem ef_rm9 (m : MethodId) (a1 : Addr) (p2 : Int32) : entryFrame m #[(.ref a1), (.int p2)] 3 = mkF m 0 #[.val (.ref a1), .val (.int p2), .unset] [] := by first | (simp [entryFrame, mkF, argsToLocals, Value.category]; done) | rfl
def Q9 (Z : State) (a1 : Addr) (p2 : Int32) (w : Int32) (q : Int32) (d : Addr) (k : ClassId) (n : Nat) (f : Nat → Int32) (z : Int32) (h0 : Heap) (n0 : Nat) (v : Option Value) (h : Heap) (L : List Loc) : Prop := ∃ (w2 : Int32), ∃ r : Int32, v = some (.int r) ∧ r = (if w < q then (if (f (w).toNatClampNeg) = p2 then (1 : Int32) else (0 : Int32)) else (0 : Int32)) ∧ Fr n0 L ∧ Keep h0 h [a1] ∧ (Exa Z h a1 "com/example/verdict/verdict/saml/XmlScanner") ∧ (Fld Z h a1 "com/example/verdict/verdict/saml/XmlScanner" "pos" "I" (.int w2)) ∧ (Fld Z h a1 "com/example/verdict/verdict/saml/XmlScanner" "end" "I" (.int q)) ∧ (Fld Z h a1 "com/example/verdict/verdict/saml/XmlScanner" "doc" "[B" (.ref d)) ∧ (w2 = (if w < q then (if (f (w).toNatClampNeg) = p2 then (w + (1 : Int32)) else w) else w))
set_option maxRecDepth 65536 in
set_option maxHeartbeats 40000000 in
theorem rm9 (l : Launch) (Z : State) (a0 : Array Value) (hw : ∀ d ∈ tables_1, d.before a0 Z = true) (ws : List Jvm.Cond) (a1 : Addr) (p2 : Int32) (w : Int32) (q : Int32) (d : Addr) (k : ClassId) (n : Nat) (f : Nat → Int32) (z : Int32) (h0 : Heap) (n0 : Nat) (Z0 : n0 ≤ h0.size) (E_a1 : Exa Z h0 a1 "com/example/verdict/verdict/saml/XmlScanner") (g_a1 : n0 ≤ a1) (F_pos_a1 : Fld Z h0 a1 "com/example/verdict/verdict/saml/XmlScanner" "pos" "I" (.int w)) (F_end_a1 : Fld Z h0 a1 "com/example/verdict/verdict/saml/XmlScanner" "end" "I" (.int q)) (F_doc_a1 : Fld Z h0 a1 "com/example/verdict/verdict/saml/XmlScanner" "doc" "[B" (.ref d)) (A_d : AV Z h0 d k .byte n (fun i => Value.int (f i))) (hp : 0 ≤ w.toInt) (hq : q.toInt ≤ n) :
    MetFree l (⟨"com/example/verdict/verdict/saml/XmlScanner", "skip", "(C)Z"⟩ : MethodName) (head1 (Jvm.Cond.code (⟨"com/example/verdict/verdict/saml/XmlScanner", "skip", "(C)Z"⟩ : MethodName) prog_45_method_6_code 3 (some .boolean) :: ws) ({ frames := 0, cells := 0, slots := 0, locals := 0 } : Room)) (fun a U => a = #[(.ref a1), (.int p2)] ∧ Z.Warmed39 U.vm ∧ U.heap = h0) (fun _ _ _ _ _ => True) (fun _ U o U' => ∃ v L, o = .returned v ∧ Q9 Z a1 p2 w q d k n f z h0 n0 v U'.heap L ∧ FrameEnd U o U' L ({ frames := 0, cells := 0, slots := 0, locals := 0 } : Room).cells ({ frames := 0, cells := 0, slots := 0, locals := 0 } : Room).slots) := by
  refine MetFree.of_bodySF (plainFor_of_name pn_3) hisR ?_
  intro p e s m args below meth c s₁ Bd hml0 hP hK
  obtain ⟨rfl, hZ, hh⟩ := hP
  have hx := Bd.exec
  have hby := Bd.bytes
  have hml : c.maxLocals = 3 := hml0
  have hown : s.vm.findClass "com/example/verdict/verdict/saml/XmlScanner" = some m.cls := findClass_of_methodNamed Bd.named
  have hnm := (name_of_methodNamed Bd.named Bd.method).1
  have X0 : Stand p l e ({ frames := 0, cells := 0, slots := 0, locals := 0 } : Room) s m #[(.ref a1), (.int p2)] below meth c s₁ [] 0 0 := Stand.of_body Bd
  have e0 : s₁.heap = h0 := by rw [← hh, Bd.state]; rfl
  have N0 := Fr.nil n0
  show GoalS p.tables e below s ({ frames := 0, cells := 0, slots := 0, locals := 0 } : Room).cells ({ frames := 0, cells := 0, slots := 0, locals := 0 } : Room).slots (Q9 Z a1 p2 w q d k n f z h0 n0) (s₁.setTop (entryFrame m #[(.ref a1), (.int p2)] 3))
  refine GoalS.lift (B := s₁.setTop (mkF m 0 #[.val (.ref a1), .val (.int p2), .unset] [])) (fun t k => castTop (ef_rm9 m a1 p2) k) ?_
  have K0 : Keep h0 h0 [a1] := Keep.refl _ _
  obtain ⟨T1, X1, e1, st1⟩ := getF X0 hx hZ hown (host := "") (Or.inl (hw _ (List.mem_of_getElem? (i := 34) rfl))) Via.refl e0 F_pos_a1 (g := (mkF m 1 #[.val (.ref a1), .val (.int p2), .unset] [(.ref a1)])) rfl rfl (hb hby d9_1)
  obtain ⟨T2, X2, e2, st2⟩ := getF X1 hx hZ hown (host := "") (Or.inl (hw _ (List.mem_of_getElem? (i := 27) rfl))) Via.refl e1 F_end_a1 (g := (mkF m 5 #[.val (.ref a1), .val (.int p2), .unset] [(.ref a1), (.int w)])) rfl rfl (hb hby d9_5)
  refine GoalS.lift (B := (T2.setTop (mkF m 8 #[.val (.ref a1), .val (.int p2), .unset] [(.int q), (.int w)]))) (fun t k => ?_) ?_
  · show Steps p.tables e below (s₁.setTop (mkF m 0 #[.val (.ref a1), .val (.int p2), .unset] [])) _
    refine XS.aloadN X0.here hx rfl (hb hby d9_0) rfl rfl ?_
    show Steps p.tables e below (s₁.setTop (mkF m 1 #[.val (.ref a1), .val (.int p2), .unset] [(.ref a1)])) _
    refine st1 _ ?_
    show Steps p.tables e below (T1.setTop (mkF m 4 #[.val (.ref a1), .val (.int p2), .unset] [(.int w)])) _
    refine XS.aloadN X1.here hx rfl (hb hby d9_4) rfl rfl ?_
    show Steps p.tables e below (T1.setTop (mkF m 5 #[.val (.ref a1), .val (.int p2), .unset] [(.ref a1), (.int w)])) _
    refine st2 _ ?_
    show Steps p.tables e below (T2.setTop (mkF m 8 #[.val (.ref a1), .val (.int p2), .unset] [(.int q), (.int w)])) _
    exact k
  by_cases hc8_3 : w < q
  · obtain ⟨T4, X4, e4, st4⟩ := getF X2 hx hZ hown (host := "") (Or.inl (hw _ (List.mem_of_getElem? (i := 25) rfl))) Via.refl e2 F_doc_a1 (g := (mkF m 12 #[.val (.ref a1), .val (.int p2), .unset] [(.ref a1)])) rfl rfl (hb hby d9_12)
    obtain ⟨T5, X5, e5, st5⟩ := getF X4 hx hZ hown (host := "") (Or.inl (hw _ (List.mem_of_getElem? (i := 34) rfl))) Via.refl e4 F_pos_a1 (g := (mkF m 16 #[.val (.ref a1), .val (.int p2), .unset] [(.ref a1), (.ref d)])) rfl rfl (hb hby d9_16)
    obtain ⟨cl6, Ar6, kc6, sz6, -, hv6⟩ := id A_d
    have hin6 : ¬ (w < 0 ∨ cl6.slots.size ≤ (w).toNatClampNeg) := AV.inb sz6 (own_inb hp hc8_3 hq)
    have hat6 : cl6.slots[(w).toNatClampNeg]? = some (.int (f (w).toNatClampNeg)) := (hv6 _ (AV.inx (own_inb hp hc8_3 hq))).trans (congrArg some rfl)
    refine GoalS.lift (B := (T5.setTop (mkF m 21 #[.val (.ref a1), .val (.int p2), .unset] [(.int p2), (.int (f (w).toNatClampNeg))]))) (fun t k => ?_) ?_
    · show Steps p.tables e below (T2.setTop (mkF m 8 #[.val (.ref a1), .val (.int p2), .unset] [(.int q), (.int w)])) _
      refine XS.icmpNo X2.here hx rfl (hb hby d9_8) rfl ((tlt hc8_3).2.1) ?_
      show Steps p.tables e below (T2.setTop (mkF m 11 #[.val (.ref a1), .val (.int p2), .unset] [])) _
      refine XS.aloadN X2.here hx rfl (hb hby d9_11) rfl rfl ?_
      show Steps p.tables e below (T2.setTop (mkF m 12 #[.val (.ref a1), .val (.int p2), .unset] [(.ref a1)])) _
      refine st4 _ ?_
      show Steps p.tables e below (T4.setTop (mkF m 15 #[.val (.ref a1), .val (.int p2), .unset] [(.ref d)])) _
      refine XS.aloadN X4.here hx rfl (hb hby d9_15) rfl rfl ?_
      show Steps p.tables e below (T4.setTop (mkF m 16 #[.val (.ref a1), .val (.int p2), .unset] [(.ref a1), (.ref d)])) _
      refine st5 _ ?_
      show Steps p.tables e below (T5.setTop (mkF m 19 #[.val (.ref a1), .val (.int p2), .unset] [(.int w), (.ref d)])) _
      refine X5.baloadBytes hx (j := w) (v := (.int (f (w).toNatClampNeg))) (by rw [e5]; exact Ar6.1) (State.isArrayOf_alike hZ.alike Ar6.2.1) Ar6.2.2 hin6 hat6 (g := (mkF m 19 #[.val (.ref a1), .val (.int p2), .unset] [(.int w), (.ref d)])) rfl rfl (hb hby d9_19) _ ?_
      show Steps p.tables e below (T5.setTop (mkF m 20 #[.val (.ref a1), .val (.int p2), .unset] [(.int (f (w).toNatClampNeg))])) _
      refine XS.iloadN X5.here hx rfl (hb hby d9_20) rfl ?_
      show Steps p.tables e below (T5.setTop (mkF m 21 #[.val (.ref a1), .val (.int p2), .unset] [(.int p2), (.int (f (w).toNatClampNeg))])) _
      exact k
    by_cases hc21_7 : (f (w).toNatClampNeg) = p2
    · obtain ⟨T8, X8, e8, st8⟩ := getF X5 hx hZ hown (host := "") (Or.inl (hw _ (List.mem_of_getElem? (i := 34) rfl))) Via.refl e5 F_pos_a1 (g := (mkF m 36 #[.val (.ref a1), .val (.int p2), .val (.int (1 : Int32))] [(.ref a1), (.ref a1)])) rfl rfl (hb hby d9_36)
      obtain ⟨T9, h9, X9, e9, W9, st9⟩ := putF X8 hx hZ hown (host := "") (Or.inl (hw _ (List.mem_of_getElem? (i := 34) rfl))) Via.refl e8 F_pos_a1 E_a1 (Or.inl (hw _ (List.mem_of_getElem? (i := 35) rfl))) (hw _ (List.mem_of_getElem? (i := 7) rfl)) (ty := .int) (by decide) rfl rfl (g := (mkF m 41 #[.val (.ref a1), .val (.int p2), .val (.int (1 : Int32))] [(.int (w + (1 : Int32))), (.ref a1)])) rfl rfl (hb hby d9_41)
      have z10 : n0 ≤ h9.size := Nat.le_trans Z0 (Keep.of_wr W9).1
      have K11 : Keep h0 h9 [a1] := K0.wr W9 (Or.inl (List.mem_of_getElem? (i := 0) rfl))
      have Fw9 : Fld Z h9 a1 "com/example/verdict/verdict/saml/XmlScanner" "pos" "I" (.int (w + (1 : Int32))) := F_pos_a1.same W9
      have N9 := Fr.snoc X9 N0 g_a1
      obtain ⟨fs, hr, hrun, hended, hW, hsame⟩ := X9.leave (v := some (.int (1 : Int32))) (fun h => by rw [Bd.returns] at h; cases h)
      refine ⟨_, _, ?_, hrun, hended, _, _, rfl, ?_, ⟨_, rfl⟩, hW, hsame.mono (by decide) (by decide)⟩
      · show Steps p.tables e below (T5.setTop (mkF m 21 #[.val (.ref a1), .val (.int p2), .unset] [(.int p2), (.int (f (w).toNatClampNeg))])) _
        refine XS.icmpNo X5.here hx rfl (hb hby d9_21) rfl ((teq hc21_7).2) ?_
        show Steps p.tables e below (T5.setTop (mkF m 24 #[.val (.ref a1), .val (.int p2), .unset] [])) _
        refine XS.iconst X5.here hx rfl (hb hby d9_24) ?_
        show Steps p.tables e below (T5.setTop (mkF m 25 #[.val (.ref a1), .val (.int p2), .unset] [(.int (1 : Int32))])) _
        refine XS.goto X5.here hx rfl (pc0 := 25) (pc' := 29) rfl (hb hby d9_25) (by decide) (by decide) ?_
        show Steps p.tables e below (T5.setTop (mkF m 29 #[.val (.ref a1), .val (.int p2), .unset] [(.int (1 : Int32))])) _
        refine XS.istoreN X5.here hx rfl (hb hby d9_29) rfl (l' := #[.val (.ref a1), .val (.int p2), .val (.int (1 : Int32))]) rfl ?_
        show Steps p.tables e below (T5.setTop (mkF m 30 #[.val (.ref a1), .val (.int p2), .val (.int (1 : Int32))] [])) _
        refine XS.iloadN X5.here hx rfl (hb hby d9_30) rfl ?_
        show Steps p.tables e below (T5.setTop (mkF m 31 #[.val (.ref a1), .val (.int p2), .val (.int (1 : Int32))] [(.int (1 : Int32))])) _
        refine XS.ifNo X5.here hx rfl (hb hby d9_31) rfl ((if0 _ _).trans (feq (by decide : ¬ ((1 : Int32) = (0 : Int32)))).1) ?_
        show Steps p.tables e below (T5.setTop (mkF m 34 #[.val (.ref a1), .val (.int p2), .val (.int (1 : Int32))] [])) _
        refine XS.aloadN X5.here hx rfl (hb hby d9_34) rfl rfl ?_
        show Steps p.tables e below (T5.setTop (mkF m 35 #[.val (.ref a1), .val (.int p2), .val (.int (1 : Int32))] [(.ref a1)])) _
        refine XS.dup X5.here hx rfl (hb hby d9_35) rfl rfl ?_
        show Steps p.tables e below (T5.setTop (mkF m 36 #[.val (.ref a1), .val (.int p2), .val (.int (1 : Int32))] [(.ref a1), (.ref a1)])) _
        refine st8 _ ?_
        show Steps p.tables e below (T8.setTop (mkF m 39 #[.val (.ref a1), .val (.int p2), .val (.int (1 : Int32))] [(.int w), (.ref a1)])) _
        refine XS.iconst X8.here hx rfl (hb hby d9_39) ?_
        show Steps p.tables e below (T8.setTop (mkF m 40 #[.val (.ref a1), .val (.int p2), .val (.int (1 : Int32))] [(.int (1 : Int32)), (.int w), (.ref a1)])) _
        refine XS.iadd X8.here hx rfl (hb hby d9_40) rfl ?_
        show Steps p.tables e below (T8.setTop (mkF m 41 #[.val (.ref a1), .val (.int p2), .val (.int (1 : Int32))] [(.int (w + (1 : Int32))), (.ref a1)])) _
        refine st9 _ ?_
        show Steps p.tables e below (T9.setTop (mkF m 44 #[.val (.ref a1), .val (.int p2), .val (.int (1 : Int32))] [])) _
        refine XS.iloadN X9.here hx rfl (hb hby d9_44) rfl ?_
        show Steps p.tables e below (T9.setTop (mkF m 45 #[.val (.ref a1), .val (.int p2), .val (.int (1 : Int32))] [(.int (1 : Int32))])) _
        exact retN X9 hx (t := .boolean) Bd.returns (by simp) (hb hby d9_45) hr
      · have f12 : Exa Z h9 a1 "com/example/verdict/verdict/saml/XmlScanner" := (E_a1.wr W9)
        have f13 : Fld Z h9 a1 "com/example/verdict/verdict/saml/XmlScanner" "end" "I" (.int q) := (F_end_a1.other W9 (Or.inr (slot_ne (Or.inr (hw _ (List.mem_of_getElem? (i := 28) rfl))) (Or.inl (hw _ (List.mem_of_getElem? (i := 35) rfl))) (by decide) (t := .int) (t' := .int) (by decide) (by decide))))
        have f14 : Fld Z h9 a1 "com/example/verdict/verdict/saml/XmlScanner" "doc" "[B" (.ref d) := (F_doc_a1.other W9 (Or.inr (slot_ne (Or.inr (hw _ (List.mem_of_getElem? (i := 26) rfl))) (Or.inl (hw _ (List.mem_of_getElem? (i := 35) rfl))) (by decide) (t := (.array .byte)) (t' := .int) (by decide) (by decide))))
        show Q9 Z a1 p2 w q d k n f z h0 n0 _ T9.heap _
        rw [e9]
        exact ⟨(w + (1 : Int32)), _, rfl, (by simp only [if_pos hc8_3, if_pos hc21_7]), N9, K11, f12, Fw9, f13, f14, (by simp only [if_pos hc8_3, if_pos hc21_7])⟩
    · obtain ⟨fs, hr, hrun, hended, hW, hsame⟩ := X5.leave (v := some (.int (0 : Int32))) (fun h => by rw [Bd.returns] at h; cases h)
      refine ⟨_, _, ?_, hrun, hended, _, _, rfl, ?_, ⟨_, rfl⟩, hW, hsame.mono (by decide) (by decide)⟩
      · show Steps p.tables e below (T5.setTop (mkF m 21 #[.val (.ref a1), .val (.int p2), .unset] [(.int p2), (.int (f (w).toNatClampNeg))])) _
        refine XS.icmpYes X5.here hx rfl (pc0 := 21) (pc' := 28) rfl (hb hby d9_21) rfl ((feq hc21_7).2) (by decide) (by decide) ?_
        show Steps p.tables e below (T5.setTop (mkF m 28 #[.val (.ref a1), .val (.int p2), .unset] [])) _
        refine XS.iconst X5.here hx rfl (hb hby d9_28) ?_
        show Steps p.tables e below (T5.setTop (mkF m 29 #[.val (.ref a1), .val (.int p2), .unset] [(.int (0 : Int32))])) _
        refine XS.istoreN X5.here hx rfl (hb hby d9_29) rfl (l' := #[.val (.ref a1), .val (.int p2), .val (.int (0 : Int32))]) rfl ?_
        show Steps p.tables e below (T5.setTop (mkF m 30 #[.val (.ref a1), .val (.int p2), .val (.int (0 : Int32))] [])) _
        refine XS.iloadN X5.here hx rfl (hb hby d9_30) rfl ?_
        show Steps p.tables e below (T5.setTop (mkF m 31 #[.val (.ref a1), .val (.int p2), .val (.int (0 : Int32))] [(.int (0 : Int32))])) _
        refine XS.ifYes X5.here hx rfl (pc0 := 31) (pc' := 44) rfl (hb hby d9_31) rfl ((if0 _ _).trans (teq (by decide : (0 : Int32) = (0 : Int32))).1) (by decide) (by decide) ?_
        show Steps p.tables e below (T5.setTop (mkF m 44 #[.val (.ref a1), .val (.int p2), .val (.int (0 : Int32))] [])) _
        refine XS.iloadN X5.here hx rfl (hb hby d9_44) rfl ?_
        show Steps p.tables e below (T5.setTop (mkF m 45 #[.val (.ref a1), .val (.int p2), .val (.int (0 : Int32))] [(.int (0 : Int32))])) _
        exact retN X5 hx (t := .boolean) Bd.returns (by simp) (hb hby d9_45) hr
      · show Q9 Z a1 p2 w q d k n f z h0 n0 _ T5.heap _
        rw [e5]
        exact ⟨w, _, rfl, (by simp only [if_pos hc8_3, if_neg hc21_7]), N0, K0, E_a1, F_pos_a1, F_end_a1, F_doc_a1, (by simp only [if_pos hc8_3, if_neg hc21_7])⟩
  · obtain ⟨fs, hr, hrun, hended, hW, hsame⟩ := X2.leave (v := some (.int (0 : Int32))) (fun h => by rw [Bd.returns] at h; cases h)
    refine ⟨_, _, ?_, hrun, hended, _, _, rfl, ?_, ⟨_, rfl⟩, hW, hsame.mono (by decide) (by decide)⟩
    · show Steps p.tables e below (T2.setTop (mkF m 8 #[.val (.ref a1), .val (.int p2), .unset] [(.int q), (.int w)])) _
      refine XS.icmpYes X2.here hx rfl (pc0 := 8) (pc' := 28) rfl (hb hby d9_8) rfl ((flt hc8_3).2.1) (by decide) (by decide) ?_
      show Steps p.tables e below (T2.setTop (mkF m 28 #[.val (.ref a1), .val (.int p2), .unset] [])) _
      refine XS.iconst X2.here hx rfl (hb hby d9_28) ?_
      show Steps p.tables e below (T2.setTop (mkF m 29 #[.val (.ref a1), .val (.int p2), .unset] [(.int (0 : Int32))])) _
      refine XS.istoreN X2.here hx rfl (hb hby d9_29) rfl (l' := #[.val (.ref a1), .val (.int p2), .val (.int (0 : Int32))]) rfl ?_
      show Steps p.tables e below (T2.setTop (mkF m 30 #[.val (.ref a1), .val (.int p2), .val (.int (0 : Int32))] [])) _
      refine XS.iloadN X2.here hx rfl (hb hby d9_30) rfl ?_
      show Steps p.tables e below (T2.setTop (mkF m 31 #[.val (.ref a1), .val (.int p2), .val (.int (0 : Int32))] [(.int (0 : Int32))])) _
      refine XS.ifYes X2.here hx rfl (pc0 := 31) (pc' := 44) rfl (hb hby d9_31) rfl ((if0 _ _).trans (teq (by decide : (0 : Int32) = (0 : Int32))).1) (by decide) (by decide) ?_
      show Steps p.tables e below (T2.setTop (mkF m 44 #[.val (.ref a1), .val (.int p2), .val (.int (0 : Int32))] [])) _
      refine XS.iloadN X2.here hx rfl (hb hby d9_44) rfl ?_
      show Steps p.tables e below (T2.setTop (mkF m 45 #[.val (.ref a1), .val (.int p2), .val (.int (0 : Int32))] [(.int (0 : Int32))])) _
      exact retN X2 hx (t := .boolean) Bd.returns (by simp) (hb hby d9_45) hr
    · show Q9 Z a1 p2 w q d k n f z h0 n0 _ T2.heap _
      rw [e2]
      exact ⟨w, _, rfl, (by simp only [if_neg hc8_3]), N0, K0, E_a1, F_pos_a1, F_end_a1, F_doc_a1, (by simp only [if_neg hc8_3])⟩
theorem pd_2 : parseMethodDescriptor "(II)B" = some ⟨[.int, .int], some .byte⟩ := by decide +kernel
theorem pd_3 : parseMethodDescriptor "([BI)V" = some ⟨[(.array .byte), .int], none⟩ := by decide +kernel
theorem pd_4 : parseMethodDescriptor "()V" = some ⟨[], none⟩ := by decide +kernel
theorem pd_5 : parseMethodDescriptor "()I" = some ⟨[], some .int⟩ := by decide +kernel
theorem pd_6 : parseMethodDescriptor "()Z" = some ⟨[], some .boolean⟩ := by decide +kernel
theorem pd_7 : parseMethodDescriptor "(C)Z" = some ⟨[.char], some .boolean⟩ := by decide +kernel
theorem ef_rm0 (m : MethodId) (p1 : Int32) (p2 : Int32) (p3 : Int32) (p4 : Int32) (p5 : Int32) : entryFrame m #[(.int p1), (.int p2), (.int p3), (.int p4), (.int p5)] maxLocals = mkF m 0 #[.val (.int p1), .val (.int p2), .val (.int p3), .val (.int p4), .val (.int p5), .unset, .unset, .unset, .unset, .unset, .unset, .unset, .unset, .unset] [] := by first | (simp [entryFrame, mkF, argsToLocals, Value.category, maxLocals]; done) | rfl
def Q0 (Z : State) (p1 : Int32) (p2 : Int32) (p3 : Int32) (p4 : Int32) (p5 : Int32) (h0 : Heap) (n0 : Nat) (v : Option Value) (h : Heap) (L : List Loc) : Prop := v = some (.int (1 : Int32)) ∧ Fr n0 L
set_option maxRecDepth 65536 in
set_option maxHeartbeats 40000000 in
theorem rm0 (l : Launch) (Z : State) (a0 : Array Value) (hw : ∀ d ∈ tables_1, d.before a0 Z = true) (ws : List Jvm.Cond) (p1 : Int32) (p2 : Int32) (p3 : Int32) (p4 : Int32) (p5 : Int32) (h0 : Heap) (n0 : Nat) (Z0 : n0 ≤ h0.size) :
    MetFree l x (head1 (Jvm.Cond.code x code maxLocals ret :: ws) room_1) (fun a U => a = #[(.int p1), (.int p2), (.int p3), (.int p4), (.int p5)] ∧ Z.Warmed39 U.vm ∧ U.heap = h0) (fun _ _ _ _ _ => True) (fun _ U o U' => ∃ v L, o = .returned v ∧ Q0 Z p1 p2 p3 p4 p5 h0 n0 v U'.heap L ∧ FrameEnd U o U' L 16 384) := by
  refine MetFree.of_bodySF (plainFor_of_name pn_2) hisR ?_
  intro p e s m args below meth c s₁ Bd hml0 hP hK
  obtain ⟨rfl, hZ, hh⟩ := hP
  have hx := Bd.exec
  have hby := Bd.bytes
  have hml : c.maxLocals = 14 := hml0
  have hown : s.vm.findClass "com/example/verdict/verdict/saml/XmlScannerSkipByteOrderMarkPinLaw" = some m.cls := findClass_of_methodNamed Bd.named
  have hnm := (name_of_methodNamed Bd.named Bd.method).1
  have X0 : Stand p l e room_1 s m #[(.int p1), (.int p2), (.int p3), (.int p4), (.int p5)] below meth c s₁ [] 0 0 := Stand.of_body Bd
  have e0 : s₁.heap = h0 := by rw [← hh, Bd.state]; rfl
  have N0 := Fr.nil n0
  show GoalS p.tables e below s 16 384 (Q0 Z p1 p2 p3 p4 p5 h0 n0) (s₁.setTop (entryFrame m #[(.int p1), (.int p2), (.int p3), (.int p4), (.int p5)] maxLocals))
  refine GoalS.lift (B := s₁.setTop (mkF m 0 #[.val (.int p1), .val (.int p2), .val (.int p3), .val (.int p4), .val (.int p5), .unset, .unset, .unset, .unset, .unset, .unset, .unset, .unset, .unset] [])) (fun t k => castTop (ef_rm0 m p1 p2 p3 p4 p5) k) ?_
  obtain ⟨T1, h1, k1, X1, e1, E1, A1, st1⟩ := newP X0 hx hZ (hw _ (List.mem_of_getElem? (i := 0) rfl)) e0 (g := (mkF m 2 #[.val (.int p1), .val (.int p2), .val (.int p3), .val (.int p4), .val (.int p5), .unset, .unset, .unset, .unset, .unset, .unset, .unset, .unset, .unset] [(.int (6 : Int32))])) rfl (hb hby at_2) rfl (by decide) (cap := 6) (by decide) (by decide) (by decide) (by decide)
  obtain ⟨b1, g1⟩ : ∃ z, z = h0.size := ⟨_, rfl⟩
  rw [← g1] at A1 st1
  have g_b1 : n0 ≤ b1 := Nat.le_trans Z0 (Nat.le_of_eq g1.symm)
  have z2 : n0 ≤ h1.size := Nat.le_trans Z0 E1.1
  have V1 : AV Z h1 b1 k1 .byte 6 (fun i => Value.int ((fun _ => (0 : Int32)) i)) := AV.new A1 (by decide) (by decide) (by decide)
  obtain ⟨_, _, ⟨T3, L3, k3, n3⟩, -, X3, ⟨Lc3, hQ3, l3, y3, z3⟩, st3⟩ := Jvm.LawKit.callS X1 hx (y := (⟨"com/example/verdict/verdict/saml/XmlScannerSkipByteOrderMarkPinLaw", "pick", "(II)B"⟩ : MethodName)) hown (mvT hZ (hw _ (List.mem_of_getElem? (i := 1) rfl))) (mvT hZ (hw _ (List.mem_of_getElem? (i := 2) rfl))) (mvT hZ (hw _ (List.mem_of_getElem? (i := 3) rfl))) (mvT hZ (hw _ (List.mem_of_getElem? (i := 4) rfl))) (by decide) (backOf (W := 2) (rm1 l Z a0 hw [] p1 (239 : Int32) h1 n0 z2) hZ (hw _ (List.mem_of_getElem? (i := 4) rfl)) (hw _ (List.mem_of_getElem? (i := 3) rfl)) (by decide) (by decide)) (g := (mkF m 13 #[.val (.int p1), .val (.int p2), .val (.int p3), .val (.int p4), .val (.int p5), .val (.ref b1), .unset, .unset, .unset, .unset, .unset, .unset, .unset, .unset] [(.int (239 : Int32)), (.int p1), (.int (0 : Int32)), (.ref b1)])) rfl (by rw [hml]; rfl) (argsL := [(.int p1), (.int (239 : Int32))]) (rest := [(.int (0 : Int32)), (.ref b1)]) (lenOf pd_2 rfl) rfl (by show 2 * 0 + _ ≤ _; exact Nat.le_of_eq rfl) (hb hby at_13) (fun _ _ => ⟨rfl, e1, (by decide : 1 + 0 ≤ _), (by decide : 6 + 0 ≤ _)⟩)
  dsimp only [Pt.U, Pt.locs, Pt.cells, Pt.slots] at X3 l3 y3 z3 st3 hQ3
  subst l3 y3 z3
  obtain ⟨r3, rfl, hr3, N3q, eq3⟩ := hQ3
  have N3 := Fr.app N0 N3q
  obtain ⟨cl4, Ar4, kc4, sz4, -, -⟩ := id V1
  have hin4 : ¬ ((0 : Int32) < 0 ∨ cl4.slots.size ≤ ((0 : Int32)).toNatClampNeg) := AV.inb sz4 (show ¬ (0 : Int32) < 0 ∧ ((0 : Int32)).toNatClampNeg < 6 by decide)
  obtain ⟨T4, h4, X4, e4, W4, st4⟩ := stB X3 hx hZ eq3 Ar4 (j := (0 : Int32)) hin4 (g := (mkF m 16 #[.val (.int p1), .val (.int p2), .val (.int p3), .val (.int p4), .val (.int p5), .val (.ref b1), .unset, .unset, .unset, .unset, .unset, .unset, .unset, .unset] [(.int r3), (.int (0 : Int32)), (.ref b1)])) rfl rfl (hb hby at_16)
  have z5 : n0 ≤ h4.size := Nat.le_trans z2 (Keep.of_wr W4).1
  obtain ⟨fn4, hfn4⟩ : ∃ z, z = (updI (fun _ => (0 : Int32)) 0 (r3).toInt8.toInt32) := ⟨_, rfl⟩
  have V4 : AV Z h4 b1 k1 .byte 6 (fun i => Value.int (fn4 i)) := (by rw [hfn4]; exact AV.putI V1 W4 (AV.inx (show ¬ (0 : Int32) < 0 ∧ ((0 : Int32)).toNatClampNeg < 6 by decide)))
  have N4 := Fr.snoc X4 N3 g_b1
  obtain ⟨_, _, ⟨T6, L6, k6, n6⟩, -, X6, ⟨Lc6, hQ6, l6, y6, z6⟩, st6⟩ := Jvm.LawKit.callS X4 hx (y := (⟨"com/example/verdict/verdict/saml/XmlScannerSkipByteOrderMarkPinLaw", "pick", "(II)B"⟩ : MethodName)) hown (mvT hZ (hw _ (List.mem_of_getElem? (i := 1) rfl))) (mvT hZ (hw _ (List.mem_of_getElem? (i := 2) rfl))) (mvT hZ (hw _ (List.mem_of_getElem? (i := 3) rfl))) (mvT hZ (hw _ (List.mem_of_getElem? (i := 4) rfl))) (by decide) (backOf (W := 2) (rm1 l Z a0 hw [] p2 (187 : Int32) h4 n0 z5) hZ (hw _ (List.mem_of_getElem? (i := 4) rfl)) (hw _ (List.mem_of_getElem? (i := 3) rfl)) (by decide) (by decide)) (g := (mkF m 24 #[.val (.int p1), .val (.int p2), .val (.int p3), .val (.int p4), .val (.int p5), .val (.ref b1), .unset, .unset, .unset, .unset, .unset, .unset, .unset, .unset] [(.int (187 : Int32)), (.int p2), (.int (1 : Int32)), (.ref b1)])) rfl (by rw [hml]; rfl) (argsL := [(.int p2), (.int (187 : Int32))]) (rest := [(.int (1 : Int32)), (.ref b1)]) (lenOf pd_2 rfl) rfl (by show 2 * 0 + _ ≤ _; exact Nat.le_of_eq rfl) (hb hby at_24) (fun _ _ => ⟨rfl, e4, (by decide : 1 + 0 ≤ _), (by decide : 6 + 0 ≤ _)⟩)
  dsimp only [Pt.U, Pt.locs, Pt.cells, Pt.slots] at X6 l6 y6 z6 st6 hQ6
  subst l6 y6 z6
  obtain ⟨r6, rfl, hr6, N6q, eq6⟩ := hQ6
  have N6 := Fr.app N4 N6q
  obtain ⟨cl7, Ar7, kc7, sz7, -, -⟩ := id V4
  have hin7 : ¬ ((1 : Int32) < 0 ∨ cl7.slots.size ≤ ((1 : Int32)).toNatClampNeg) := AV.inb sz7 (show ¬ (1 : Int32) < 0 ∧ ((1 : Int32)).toNatClampNeg < 6 by decide)
  obtain ⟨T7, h7, X7, e7, W7, st7⟩ := stB X6 hx hZ eq6 Ar7 (j := (1 : Int32)) hin7 (g := (mkF m 27 #[.val (.int p1), .val (.int p2), .val (.int p3), .val (.int p4), .val (.int p5), .val (.ref b1), .unset, .unset, .unset, .unset, .unset, .unset, .unset, .unset] [(.int r6), (.int (1 : Int32)), (.ref b1)])) rfl rfl (hb hby at_27)
  have z8 : n0 ≤ h7.size := Nat.le_trans z5 (Keep.of_wr W7).1
  obtain ⟨fn7, hfn7⟩ : ∃ z, z = (updI fn4 1 (r6).toInt8.toInt32) := ⟨_, rfl⟩
  have V7 : AV Z h7 b1 k1 .byte 6 (fun i => Value.int (fn7 i)) := (by rw [hfn7]; exact AV.putI V4 W7 (AV.inx (show ¬ (1 : Int32) < 0 ∧ ((1 : Int32)).toNatClampNeg < 6 by decide)))
  have N7 := Fr.snoc X7 N6 g_b1
  obtain ⟨_, _, ⟨T9, L9, k9, n9⟩, -, X9, ⟨Lc9, hQ9, l9, y9, z9⟩, st9⟩ := Jvm.LawKit.callS X7 hx (y := (⟨"com/example/verdict/verdict/saml/XmlScannerSkipByteOrderMarkPinLaw", "pick", "(II)B"⟩ : MethodName)) hown (mvT hZ (hw _ (List.mem_of_getElem? (i := 1) rfl))) (mvT hZ (hw _ (List.mem_of_getElem? (i := 2) rfl))) (mvT hZ (hw _ (List.mem_of_getElem? (i := 3) rfl))) (mvT hZ (hw _ (List.mem_of_getElem? (i := 4) rfl))) (by decide) (backOf (W := 2) (rm1 l Z a0 hw [] p3 (191 : Int32) h7 n0 z8) hZ (hw _ (List.mem_of_getElem? (i := 4) rfl)) (hw _ (List.mem_of_getElem? (i := 3) rfl)) (by decide) (by decide)) (g := (mkF m 35 #[.val (.int p1), .val (.int p2), .val (.int p3), .val (.int p4), .val (.int p5), .val (.ref b1), .unset, .unset, .unset, .unset, .unset, .unset, .unset, .unset] [(.int (191 : Int32)), (.int p3), (.int (2 : Int32)), (.ref b1)])) rfl (by rw [hml]; rfl) (argsL := [(.int p3), (.int (191 : Int32))]) (rest := [(.int (2 : Int32)), (.ref b1)]) (lenOf pd_2 rfl) rfl (by show 2 * 0 + _ ≤ _; exact Nat.le_of_eq rfl) (hb hby at_35) (fun _ _ => ⟨rfl, e7, (by decide : 1 + 0 ≤ _), (by decide : 6 + 0 ≤ _)⟩)
  dsimp only [Pt.U, Pt.locs, Pt.cells, Pt.slots] at X9 l9 y9 z9 st9 hQ9
  subst l9 y9 z9
  obtain ⟨r9, rfl, hr9, N9q, eq9⟩ := hQ9
  have N9 := Fr.app N7 N9q
  obtain ⟨cl10, Ar10, kc10, sz10, -, -⟩ := id V7
  have hin10 : ¬ ((2 : Int32) < 0 ∨ cl10.slots.size ≤ ((2 : Int32)).toNatClampNeg) := AV.inb sz10 (show ¬ (2 : Int32) < 0 ∧ ((2 : Int32)).toNatClampNeg < 6 by decide)
  obtain ⟨T10, h10, X10, e10, W10, st10⟩ := stB X9 hx hZ eq9 Ar10 (j := (2 : Int32)) hin10 (g := (mkF m 38 #[.val (.int p1), .val (.int p2), .val (.int p3), .val (.int p4), .val (.int p5), .val (.ref b1), .unset, .unset, .unset, .unset, .unset, .unset, .unset, .unset] [(.int r9), (.int (2 : Int32)), (.ref b1)])) rfl rfl (hb hby at_38)
  have z11 : n0 ≤ h10.size := Nat.le_trans z8 (Keep.of_wr W10).1
  obtain ⟨fn10, hfn10⟩ : ∃ z, z = (updI fn7 2 (r9).toInt8.toInt32) := ⟨_, rfl⟩
  have V10 : AV Z h10 b1 k1 .byte 6 (fun i => Value.int (fn10 i)) := (by rw [hfn10]; exact AV.putI V7 W10 (AV.inx (show ¬ (2 : Int32) < 0 ∧ ((2 : Int32)).toNatClampNeg < 6 by decide)))
  have N10 := Fr.snoc X10 N9 g_b1
  obtain ⟨cl12, Ar12, kc12, sz12, -, -⟩ := id V10
  have hin12 : ¬ ((3 : Int32) < 0 ∨ cl12.slots.size ≤ ((3 : Int32)).toNatClampNeg) := AV.inb sz12 (show ¬ (3 : Int32) < 0 ∧ ((3 : Int32)).toNatClampNeg < 6 by decide)
  obtain ⟨T12, h12, X12, e12, W12, st12⟩ := stB X10 hx hZ e10 Ar12 (j := (3 : Int32)) hin12 (g := (mkF m 44 #[.val (.int p1), .val (.int p2), .val (.int p3), .val (.int p4), .val (.int p5), .val (.ref b1), .unset, .unset, .unset, .unset, .unset, .unset, .unset, .unset] [(.int ((p4).toInt8.toInt32)), (.int (3 : Int32)), (.ref b1)])) rfl rfl (hb hby at_44)
  have z13 : n0 ≤ h12.size := Nat.le_trans z11 (Keep.of_wr W12).1
  obtain ⟨fn12, hfn12⟩ : ∃ z, z = (updI fn10 3 (((p4).toInt8.toInt32)).toInt8.toInt32) := ⟨_, rfl⟩
  have V12 : AV Z h12 b1 k1 .byte 6 (fun i => Value.int (fn12 i)) := (by rw [hfn12]; exact AV.putI V10 W12 (AV.inx (show ¬ (3 : Int32) < 0 ∧ ((3 : Int32)).toNatClampNeg < 6 by decide)))
  have N12 := Fr.snoc X12 N10 g_b1
  obtain ⟨cl14, Ar14, kc14, sz14, -, -⟩ := id V12
  have hin14 : ¬ ((4 : Int32) < 0 ∨ cl14.slots.size ≤ ((4 : Int32)).toNatClampNeg) := AV.inb sz14 (show ¬ (4 : Int32) < 0 ∧ ((4 : Int32)).toNatClampNeg < 6 by decide)
  obtain ⟨T14, h14, X14, e14, W14, st14⟩ := stB X12 hx hZ e12 Ar14 (j := (4 : Int32)) hin14 (g := (mkF m 53 #[.val (.int p1), .val (.int p2), .val (.int p3), .val (.int p4), .val (.int p5), .val (.ref b1), .unset, .unset, .unset, .unset, .unset, .unset, .unset, .unset] [(.int ((((p4 >>> ((8 : Int32) &&& 31)))).toInt8.toInt32)), (.int (4 : Int32)), (.ref b1)])) rfl rfl (hb hby at_53)
  have z15 : n0 ≤ h14.size := Nat.le_trans z13 (Keep.of_wr W14).1
  obtain ⟨fn14, hfn14⟩ : ∃ z, z = (updI fn12 4 (((((p4 >>> ((8 : Int32) &&& 31)))).toInt8.toInt32)).toInt8.toInt32) := ⟨_, rfl⟩
  have V14 : AV Z h14 b1 k1 .byte 6 (fun i => Value.int (fn14 i)) := (by rw [hfn14]; exact AV.putI V12 W14 (AV.inx (show ¬ (4 : Int32) < 0 ∧ ((4 : Int32)).toNatClampNeg < 6 by decide)))
  have N14 := Fr.snoc X14 N12 g_b1
  obtain ⟨cl16, Ar16, kc16, sz16, -, -⟩ := id V14
  have hin16 : ¬ ((5 : Int32) < 0 ∨ cl16.slots.size ≤ ((5 : Int32)).toNatClampNeg) := AV.inb sz16 (show ¬ (5 : Int32) < 0 ∧ ((5 : Int32)).toNatClampNeg < 6 by decide)
  obtain ⟨T16, h16, X16, e16, W16, st16⟩ := stB X14 hx hZ e14 Ar16 (j := (5 : Int32)) hin16 (g := (mkF m 62 #[.val (.int p1), .val (.int p2), .val (.int p3), .val (.int p4), .val (.int p5), .val (.ref b1), .unset, .unset, .unset, .unset, .unset, .unset, .unset, .unset] [(.int ((((p4 >>> ((16 : Int32) &&& 31)))).toInt8.toInt32)), (.int (5 : Int32)), (.ref b1)])) rfl rfl (hb hby at_62)
  have z17 : n0 ≤ h16.size := Nat.le_trans z15 (Keep.of_wr W16).1
  obtain ⟨fn16, hfn16⟩ : ∃ z, z = (updI fn14 5 (((((p4 >>> ((16 : Int32) &&& 31)))).toInt8.toInt32)).toInt8.toInt32) := ⟨_, rfl⟩
  have V16 : AV Z h16 b1 k1 .byte 6 (fun i => Value.int (fn16 i)) := (by rw [hfn16]; exact AV.putI V14 W16 (AV.inx (show ¬ (5 : Int32) < 0 ∧ ((5 : Int32)).toNatClampNeg < 6 by decide)))
  have N16 := Fr.snoc X16 N14 g_b1
  have hB : ∀ i, -128 ≤ (fn16 i).toInt ∧ (fn16 i).toInt < 128 := by
    rw [hfn16, hfn14, hfn12, hfn10, hfn7, hfn4]
    exact own_bu _ _ (own_bu _ _ (own_bu _ _ (own_bu _ _ (own_bu _ _ (own_bu _ _ (own_b0))))))
  obtain ⟨ln, hln⟩ : ∃ z : Int32, z = ((p5 &&& (2147483647 : Int32)) % (7 : Int32)) := ⟨_, rfl⟩
  refine GoalS.lift (B := (T16.setTop (mkF m 71 #[.val (.int p1), .val (.int p2), .val (.int p3), .val (.int p4), .val (.int p5), .val (.ref b1), .unset, .unset, .unset, .unset, .unset, .unset, .unset, .unset] [(.int ln)]))) (fun t k => ?_) ?_
  · show Steps p.tables e below (s₁.setTop (mkF m 0 #[.val (.int p1), .val (.int p2), .val (.int p3), .val (.int p4), .val (.int p5), .unset, .unset, .unset, .unset, .unset, .unset, .unset, .unset, .unset] [])) _
    refine XS.bipush X0.here hx rfl (hb hby at_0) ?_
    show Steps p.tables e below (s₁.setTop (mkF m 2 #[.val (.int p1), .val (.int p2), .val (.int p3), .val (.int p4), .val (.int p5), .unset, .unset, .unset, .unset, .unset, .unset, .unset, .unset, .unset] [(.int (6 : Int32))])) _
    refine st1 _ ?_
    show Steps p.tables e below (T1.setTop (mkF m 4 #[.val (.int p1), .val (.int p2), .val (.int p3), .val (.int p4), .val (.int p5), .unset, .unset, .unset, .unset, .unset, .unset, .unset, .unset, .unset] [(.ref b1)])) _
    refine XS.astore X1.here hx rfl (hb hby at_4) rfl rfl (l' := #[.val (.int p1), .val (.int p2), .val (.int p3), .val (.int p4), .val (.int p5), .val (.ref b1), .unset, .unset, .unset, .unset, .unset, .unset, .unset, .unset]) rfl ?_
    show Steps p.tables e below (T1.setTop (mkF m 6 #[.val (.int p1), .val (.int p2), .val (.int p3), .val (.int p4), .val (.int p5), .val (.ref b1), .unset, .unset, .unset, .unset, .unset, .unset, .unset, .unset] [])) _
    refine XS.aload X1.here hx rfl (hb hby at_6) rfl rfl ?_
    show Steps p.tables e below (T1.setTop (mkF m 8 #[.val (.int p1), .val (.int p2), .val (.int p3), .val (.int p4), .val (.int p5), .val (.ref b1), .unset, .unset, .unset, .unset, .unset, .unset, .unset, .unset] [(.ref b1)])) _
    refine XS.iconst X1.here hx rfl (hb hby at_8) ?_
    show Steps p.tables e below (T1.setTop (mkF m 9 #[.val (.int p1), .val (.int p2), .val (.int p3), .val (.int p4), .val (.int p5), .val (.ref b1), .unset, .unset, .unset, .unset, .unset, .unset, .unset, .unset] [(.int (0 : Int32)), (.ref b1)])) _
    refine XS.iloadN X1.here hx rfl (hb hby at_9) rfl ?_
    show Steps p.tables e below (T1.setTop (mkF m 10 #[.val (.int p1), .val (.int p2), .val (.int p3), .val (.int p4), .val (.int p5), .val (.ref b1), .unset, .unset, .unset, .unset, .unset, .unset, .unset, .unset] [(.int p1), (.int (0 : Int32)), (.ref b1)])) _
    refine XS.sipush X1.here hx rfl (hb hby at_10) ?_
    show Steps p.tables e below (T1.setTop (mkF m 13 #[.val (.int p1), .val (.int p2), .val (.int p3), .val (.int p4), .val (.int p5), .val (.ref b1), .unset, .unset, .unset, .unset, .unset, .unset, .unset, .unset] [(.int (239 : Int32)), (.int p1), (.int (0 : Int32)), (.ref b1)])) _
    refine st3 _ ?_
    show Steps p.tables e below (T3.setTop (mkF m 16 #[.val (.int p1), .val (.int p2), .val (.int p3), .val (.int p4), .val (.int p5), .val (.ref b1), .unset, .unset, .unset, .unset, .unset, .unset, .unset, .unset] [(.int r3), (.int (0 : Int32)), (.ref b1)])) _
    refine st4 _ ?_
    show Steps p.tables e below (T4.setTop (mkF m 17 #[.val (.int p1), .val (.int p2), .val (.int p3), .val (.int p4), .val (.int p5), .val (.ref b1), .unset, .unset, .unset, .unset, .unset, .unset, .unset, .unset] [])) _
    refine XS.aload X4.here hx rfl (hb hby at_17) rfl rfl ?_
    show Steps p.tables e below (T4.setTop (mkF m 19 #[.val (.int p1), .val (.int p2), .val (.int p3), .val (.int p4), .val (.int p5), .val (.ref b1), .unset, .unset, .unset, .unset, .unset, .unset, .unset, .unset] [(.ref b1)])) _
    refine XS.iconst X4.here hx rfl (hb hby at_19) ?_
    show Steps p.tables e below (T4.setTop (mkF m 20 #[.val (.int p1), .val (.int p2), .val (.int p3), .val (.int p4), .val (.int p5), .val (.ref b1), .unset, .unset, .unset, .unset, .unset, .unset, .unset, .unset] [(.int (1 : Int32)), (.ref b1)])) _
    refine XS.iloadN X4.here hx rfl (hb hby at_20) rfl ?_
    show Steps p.tables e below (T4.setTop (mkF m 21 #[.val (.int p1), .val (.int p2), .val (.int p3), .val (.int p4), .val (.int p5), .val (.ref b1), .unset, .unset, .unset, .unset, .unset, .unset, .unset, .unset] [(.int p2), (.int (1 : Int32)), (.ref b1)])) _
    refine XS.sipush X4.here hx rfl (hb hby at_21) ?_
    show Steps p.tables e below (T4.setTop (mkF m 24 #[.val (.int p1), .val (.int p2), .val (.int p3), .val (.int p4), .val (.int p5), .val (.ref b1), .unset, .unset, .unset, .unset, .unset, .unset, .unset, .unset] [(.int (187 : Int32)), (.int p2), (.int (1 : Int32)), (.ref b1)])) _
    refine st6 _ ?_
    show Steps p.tables e below (T6.setTop (mkF m 27 #[.val (.int p1), .val (.int p2), .val (.int p3), .val (.int p4), .val (.int p5), .val (.ref b1), .unset, .unset, .unset, .unset, .unset, .unset, .unset, .unset] [(.int r6), (.int (1 : Int32)), (.ref b1)])) _
    refine st7 _ ?_
    show Steps p.tables e below (T7.setTop (mkF m 28 #[.val (.int p1), .val (.int p2), .val (.int p3), .val (.int p4), .val (.int p5), .val (.ref b1), .unset, .unset, .unset, .unset, .unset, .unset, .unset, .unset] [])) _
    refine XS.aload X7.here hx rfl (hb hby at_28) rfl rfl ?_
    show Steps p.tables e below (T7.setTop (mkF m 30 #[.val (.int p1), .val (.int p2), .val (.int p3), .val (.int p4), .val (.int p5), .val (.ref b1), .unset, .unset, .unset, .unset, .unset, .unset, .unset, .unset] [(.ref b1)])) _
    refine XS.iconst X7.here hx rfl (hb hby at_30) ?_
    show Steps p.tables e below (T7.setTop (mkF m 31 #[.val (.int p1), .val (.int p2), .val (.int p3), .val (.int p4), .val (.int p5), .val (.ref b1), .unset, .unset, .unset, .unset, .unset, .unset, .unset, .unset] [(.int (2 : Int32)), (.ref b1)])) _
    refine XS.iloadN X7.here hx rfl (hb hby at_31) rfl ?_
    show Steps p.tables e below (T7.setTop (mkF m 32 #[.val (.int p1), .val (.int p2), .val (.int p3), .val (.int p4), .val (.int p5), .val (.ref b1), .unset, .unset, .unset, .unset, .unset, .unset, .unset, .unset] [(.int p3), (.int (2 : Int32)), (.ref b1)])) _
    refine XS.sipush X7.here hx rfl (hb hby at_32) ?_
    show Steps p.tables e below (T7.setTop (mkF m 35 #[.val (.int p1), .val (.int p2), .val (.int p3), .val (.int p4), .val (.int p5), .val (.ref b1), .unset, .unset, .unset, .unset, .unset, .unset, .unset, .unset] [(.int (191 : Int32)), (.int p3), (.int (2 : Int32)), (.ref b1)])) _
    refine st9 _ ?_
    show Steps p.tables e below (T9.setTop (mkF m 38 #[.val (.int p1), .val (.int p2), .val (.int p3), .val (.int p4), .val (.int p5), .val (.ref b1), .unset, .unset, .unset, .unset, .unset, .unset, .unset, .unset] [(.int r9), (.int (2 : Int32)), (.ref b1)])) _
    refine st10 _ ?_
    show Steps p.tables e below (T10.setTop (mkF m 39 #[.val (.int p1), .val (.int p2), .val (.int p3), .val (.int p4), .val (.int p5), .val (.ref b1), .unset, .unset, .unset, .unset, .unset, .unset, .unset, .unset] [])) _
    refine XS.aload X10.here hx rfl (hb hby at_39) rfl rfl ?_
    show Steps p.tables e below (T10.setTop (mkF m 41 #[.val (.int p1), .val (.int p2), .val (.int p3), .val (.int p4), .val (.int p5), .val (.ref b1), .unset, .unset, .unset, .unset, .unset, .unset, .unset, .unset] [(.ref b1)])) _
    refine XS.iconst X10.here hx rfl (hb hby at_41) ?_
    show Steps p.tables e below (T10.setTop (mkF m 42 #[.val (.int p1), .val (.int p2), .val (.int p3), .val (.int p4), .val (.int p5), .val (.ref b1), .unset, .unset, .unset, .unset, .unset, .unset, .unset, .unset] [(.int (3 : Int32)), (.ref b1)])) _
    refine XS.iloadN X10.here hx rfl (hb hby at_42) rfl ?_
    show Steps p.tables e below (T10.setTop (mkF m 43 #[.val (.int p1), .val (.int p2), .val (.int p3), .val (.int p4), .val (.int p5), .val (.ref b1), .unset, .unset, .unset, .unset, .unset, .unset, .unset, .unset] [(.int p4), (.int (3 : Int32)), (.ref b1)])) _
    refine XS.i2b X10.here hx rfl (hb hby at_43) rfl ?_
    show Steps p.tables e below (T10.setTop (mkF m 44 #[.val (.int p1), .val (.int p2), .val (.int p3), .val (.int p4), .val (.int p5), .val (.ref b1), .unset, .unset, .unset, .unset, .unset, .unset, .unset, .unset] [(.int ((p4).toInt8.toInt32)), (.int (3 : Int32)), (.ref b1)])) _
    refine st12 _ ?_
    show Steps p.tables e below (T12.setTop (mkF m 45 #[.val (.int p1), .val (.int p2), .val (.int p3), .val (.int p4), .val (.int p5), .val (.ref b1), .unset, .unset, .unset, .unset, .unset, .unset, .unset, .unset] [])) _
    refine XS.aload X12.here hx rfl (hb hby at_45) rfl rfl ?_
    show Steps p.tables e below (T12.setTop (mkF m 47 #[.val (.int p1), .val (.int p2), .val (.int p3), .val (.int p4), .val (.int p5), .val (.ref b1), .unset, .unset, .unset, .unset, .unset, .unset, .unset, .unset] [(.ref b1)])) _
    refine XS.iconst X12.here hx rfl (hb hby at_47) ?_
    show Steps p.tables e below (T12.setTop (mkF m 48 #[.val (.int p1), .val (.int p2), .val (.int p3), .val (.int p4), .val (.int p5), .val (.ref b1), .unset, .unset, .unset, .unset, .unset, .unset, .unset, .unset] [(.int (4 : Int32)), (.ref b1)])) _
    refine XS.iloadN X12.here hx rfl (hb hby at_48) rfl ?_
    show Steps p.tables e below (T12.setTop (mkF m 49 #[.val (.int p1), .val (.int p2), .val (.int p3), .val (.int p4), .val (.int p5), .val (.ref b1), .unset, .unset, .unset, .unset, .unset, .unset, .unset, .unset] [(.int p4), (.int (4 : Int32)), (.ref b1)])) _
    refine XS.bipush X12.here hx rfl (hb hby at_49) ?_
    show Steps p.tables e below (T12.setTop (mkF m 51 #[.val (.int p1), .val (.int p2), .val (.int p3), .val (.int p4), .val (.int p5), .val (.ref b1), .unset, .unset, .unset, .unset, .unset, .unset, .unset, .unset] [(.int (8 : Int32)), (.int p4), (.int (4 : Int32)), (.ref b1)])) _
    refine XS.ishr X12.here hx rfl (hb hby at_51) rfl ?_
    show Steps p.tables e below (T12.setTop (mkF m 52 #[.val (.int p1), .val (.int p2), .val (.int p3), .val (.int p4), .val (.int p5), .val (.ref b1), .unset, .unset, .unset, .unset, .unset, .unset, .unset, .unset] [(.int ((p4 >>> ((8 : Int32) &&& 31)))), (.int (4 : Int32)), (.ref b1)])) _
    refine XS.i2b X12.here hx rfl (hb hby at_52) rfl ?_
    show Steps p.tables e below (T12.setTop (mkF m 53 #[.val (.int p1), .val (.int p2), .val (.int p3), .val (.int p4), .val (.int p5), .val (.ref b1), .unset, .unset, .unset, .unset, .unset, .unset, .unset, .unset] [(.int ((((p4 >>> ((8 : Int32) &&& 31)))).toInt8.toInt32)), (.int (4 : Int32)), (.ref b1)])) _
    refine st14 _ ?_
    show Steps p.tables e below (T14.setTop (mkF m 54 #[.val (.int p1), .val (.int p2), .val (.int p3), .val (.int p4), .val (.int p5), .val (.ref b1), .unset, .unset, .unset, .unset, .unset, .unset, .unset, .unset] [])) _
    refine XS.aload X14.here hx rfl (hb hby at_54) rfl rfl ?_
    show Steps p.tables e below (T14.setTop (mkF m 56 #[.val (.int p1), .val (.int p2), .val (.int p3), .val (.int p4), .val (.int p5), .val (.ref b1), .unset, .unset, .unset, .unset, .unset, .unset, .unset, .unset] [(.ref b1)])) _
    refine XS.iconst X14.here hx rfl (hb hby at_56) ?_
    show Steps p.tables e below (T14.setTop (mkF m 57 #[.val (.int p1), .val (.int p2), .val (.int p3), .val (.int p4), .val (.int p5), .val (.ref b1), .unset, .unset, .unset, .unset, .unset, .unset, .unset, .unset] [(.int (5 : Int32)), (.ref b1)])) _
    refine XS.iloadN X14.here hx rfl (hb hby at_57) rfl ?_
    show Steps p.tables e below (T14.setTop (mkF m 58 #[.val (.int p1), .val (.int p2), .val (.int p3), .val (.int p4), .val (.int p5), .val (.ref b1), .unset, .unset, .unset, .unset, .unset, .unset, .unset, .unset] [(.int p4), (.int (5 : Int32)), (.ref b1)])) _
    refine XS.bipush X14.here hx rfl (hb hby at_58) ?_
    show Steps p.tables e below (T14.setTop (mkF m 60 #[.val (.int p1), .val (.int p2), .val (.int p3), .val (.int p4), .val (.int p5), .val (.ref b1), .unset, .unset, .unset, .unset, .unset, .unset, .unset, .unset] [(.int (16 : Int32)), (.int p4), (.int (5 : Int32)), (.ref b1)])) _
    refine XS.ishr X14.here hx rfl (hb hby at_60) rfl ?_
    show Steps p.tables e below (T14.setTop (mkF m 61 #[.val (.int p1), .val (.int p2), .val (.int p3), .val (.int p4), .val (.int p5), .val (.ref b1), .unset, .unset, .unset, .unset, .unset, .unset, .unset, .unset] [(.int ((p4 >>> ((16 : Int32) &&& 31)))), (.int (5 : Int32)), (.ref b1)])) _
    refine XS.i2b X14.here hx rfl (hb hby at_61) rfl ?_
    show Steps p.tables e below (T14.setTop (mkF m 62 #[.val (.int p1), .val (.int p2), .val (.int p3), .val (.int p4), .val (.int p5), .val (.ref b1), .unset, .unset, .unset, .unset, .unset, .unset, .unset, .unset] [(.int ((((p4 >>> ((16 : Int32) &&& 31)))).toInt8.toInt32)), (.int (5 : Int32)), (.ref b1)])) _
    refine st16 _ ?_
    show Steps p.tables e below (T16.setTop (mkF m 63 #[.val (.int p1), .val (.int p2), .val (.int p3), .val (.int p4), .val (.int p5), .val (.ref b1), .unset, .unset, .unset, .unset, .unset, .unset, .unset, .unset] [])) _
    refine XS.iload X16.here hx rfl (hb hby at_63) rfl ?_
    show Steps p.tables e below (T16.setTop (mkF m 65 #[.val (.int p1), .val (.int p2), .val (.int p3), .val (.int p4), .val (.int p5), .val (.ref b1), .unset, .unset, .unset, .unset, .unset, .unset, .unset, .unset] [(.int p5)])) _
    refine X16.ldcInt hx hown (mvT hZ (hw _ (List.mem_of_getElem? (i := 5) rfl))) (g := (mkF m 65 #[.val (.int p1), .val (.int p2), .val (.int p3), .val (.int p4), .val (.int p5), .val (.ref b1), .unset, .unset, .unset, .unset, .unset, .unset, .unset, .unset] [(.int p5)])) rfl (hb hby at_65) _ ?_
    show Steps p.tables e below (T16.setTop (mkF m 67 #[.val (.int p1), .val (.int p2), .val (.int p3), .val (.int p4), .val (.int p5), .val (.ref b1), .unset, .unset, .unset, .unset, .unset, .unset, .unset, .unset] [(.int (2147483647 : Int32)), (.int p5)])) _
    refine XS.iand X16.here hx rfl (hb hby at_67) rfl ?_
    show Steps p.tables e below (T16.setTop (mkF m 68 #[.val (.int p1), .val (.int p2), .val (.int p3), .val (.int p4), .val (.int p5), .val (.ref b1), .unset, .unset, .unset, .unset, .unset, .unset, .unset, .unset] [(.int (p5 &&& (2147483647 : Int32)))])) _
    refine XS.bipush X16.here hx rfl (hb hby at_68) ?_
    show Steps p.tables e below (T16.setTop (mkF m 70 #[.val (.int p1), .val (.int p2), .val (.int p3), .val (.int p4), .val (.int p5), .val (.ref b1), .unset, .unset, .unset, .unset, .unset, .unset, .unset, .unset] [(.int (7 : Int32)), (.int (p5 &&& (2147483647 : Int32)))])) _
    refine iremM X16 hx rfl (hb hby at_70) rfl (by decide) ?_
    rw [hln] at k
    exact k
  have hl : 0 ≤ ln.toInt ∧ ln.toInt ≤ (6 : Nat) := by rw [hln]; exact own_ln p5
  obtain ⟨T18, h18, X18, e18, E18, A18, D18, -, st18⟩ := newO X16 hx hZ hown (hw _ (List.mem_of_getElem? (i := 6) rfl)) (hw _ (List.mem_of_getElem? (i := 7) rfl)) (hw _ (List.mem_of_getElem? (i := 8) rfl)) e16 (g := (mkF m 73 #[.val (.int p1), .val (.int p2), .val (.int p3), .val (.int p4), .val (.int p5), .val (.ref b1), .val (.int ln), .unset, .unset, .unset, .unset, .unset, .unset, .unset] [])) rfl (hb hby at_73) (by decide) (by decide)
  obtain ⟨b18, g18⟩ : ∃ z, z = h16.size := ⟨_, rfl⟩
  rw [← g18] at A18 D18 st18
  have g_b18 : n0 ≤ b18 := Nat.le_trans z17 (Nat.le_of_eq g18.symm)
  have ne_b1_b18 : b1 ≠ b18 := Nat.ne_of_lt (Nat.lt_of_lt_of_le V16.lt (Nat.le_of_eq g18.symm))
  have z19 : n0 ≤ h18.size := Nat.le_trans z17 E18.1
  have F_text_b18 : Fld Z h18 b18 "com/example/verdict/verdict/saml/XmlScanner" "text" "[B" .null := D18 (Or.inl (hw _ (List.mem_of_getElem? (i := 16) rfl))) (ty := (.array .byte)) (by decide)
  have F_doc_b18 : Fld Z h18 b18 "com/example/verdict/verdict/saml/XmlScanner" "doc" "[B" .null := D18 (Or.inr (hw _ (List.mem_of_getElem? (i := 26) rfl))) (ty := (.array .byte)) (by decide)
  have F_end_b18 : Fld Z h18 b18 "com/example/verdict/verdict/saml/XmlScanner" "end" "I" (.int (0 : Int32)) := D18 (Or.inr (hw _ (List.mem_of_getElem? (i := 28) rfl))) (ty := .int) (by decide)
  have F_pos_b18 : Fld Z h18 b18 "com/example/verdict/verdict/saml/XmlScanner" "pos" "I" (.int (0 : Int32)) := D18 (Or.inl (hw _ (List.mem_of_getElem? (i := 35) rfl))) (ty := .int) (by decide)
  have f21 : AV Z h18 b1 k1 .byte 6 (fun i => Value.int (fn16 i)) := (V16.ext E18)
  obtain ⟨_, _, ⟨T20, L20, k20, n20⟩, -, X20, ⟨Lc20, hQ20, l20, y20, z20⟩, st20⟩ := X18.specialBack hx (y := (⟨"com/example/verdict/verdict/saml/XmlScanner", "<init>", "([BI)V"⟩ : MethodName)) rfl hown (mvT hZ (hw _ (List.mem_of_getElem? (i := 9) rfl))) (mvT hZ (hw _ (List.mem_of_getElem? (i := 10) rfl))) (mvT hZ (hw _ (List.mem_of_getElem? (i := 11) rfl))) (by decide) (backOf (W := 1) (rm2 l Z a0 hw [] b18 b1 ln .null .null (.int (0 : Int32)) (.int (0 : Int32)) k1 6 fn16 (6 : Int32) h18 n0 z19 A18 g_b18 F_text_b18 F_doc_b18 F_end_b18 F_pos_b18 f21 rfl (own_chk (z := (6 : Int32)) hl.1 (show _ ≤ (6 : Int32).toInt from hl.2)).1 (own_chk (z := (6 : Int32)) hl.1 (show _ ≤ (6 : Int32).toInt from hl.2)).2 ne_b1_b18) hZ (hw _ (List.mem_of_getElem? (i := 11) rfl)) (hw _ (List.mem_of_getElem? (i := 8) rfl)) (by decide) (by decide)) (g := (mkF m 81 #[.val (.int p1), .val (.int p2), .val (.int p3), .val (.int p4), .val (.int p5), .val (.ref b1), .val (.int ln), .unset, .unset, .unset, .unset, .unset, .unset, .unset] [(.int ln), (.ref b1), (.ref b18), (.ref b18)])) rfl (by rw [hml]; rfl) (Steps.refl _) (a := b18) (argsL := [(.ref b1), (.int ln)]) (rest := [(.ref b18)]) (lenOf pd_3 rfl) rfl (by show 2 * 0 + _ ≤ _; exact Nat.le_of_eq rfl) (hb hby at_81) (fun _ _ => ⟨rfl, e18, (by decide : 2 + 1 ≤ _), (by decide : 11 + 128 ≤ _)⟩)
  dsimp only [Pt.U, Pt.locs, Pt.cells, Pt.slots] at X20 l20 y20 z20 st20 hQ20
  subst l20 y20 z20
  obtain ⟨rfl, N20q, p20_0, p20_1, p20_2, p20_3, p20_4⟩ := hQ20
  have N20 := Fr.app N16 N20q
  have z22 : n0 ≤ T20.heap.size := Nat.le_trans z19 p20_0.1
  refine GoalS.lift (B := (T20.setTop (mkF m 89 #[.val (.int p1), .val (.int p2), .val (.int p3), .val (.int p4), .val (.int p5), .val (.ref b1), .val (.int ln), .val (.ref b18), .unset, .unset, .unset, .unset, .unset, .unset] [(.int (3 : Int32)), (.int ln)]))) (fun t k => ?_) ?_
  · show Steps p.tables e below (T16.setTop (mkF m 71 #[.val (.int p1), .val (.int p2), .val (.int p3), .val (.int p4), .val (.int p5), .val (.ref b1), .unset, .unset, .unset, .unset, .unset, .unset, .unset, .unset] [(.int ln)])) _
    refine XS.istore X16.here hx rfl (hb hby at_71) rfl (l' := #[.val (.int p1), .val (.int p2), .val (.int p3), .val (.int p4), .val (.int p5), .val (.ref b1), .val (.int ln), .unset, .unset, .unset, .unset, .unset, .unset, .unset]) rfl ?_
    show Steps p.tables e below (T16.setTop (mkF m 73 #[.val (.int p1), .val (.int p2), .val (.int p3), .val (.int p4), .val (.int p5), .val (.ref b1), .val (.int ln), .unset, .unset, .unset, .unset, .unset, .unset, .unset] [])) _
    refine st18 _ ?_
    show Steps p.tables e below (T18.setTop (mkF m 76 #[.val (.int p1), .val (.int p2), .val (.int p3), .val (.int p4), .val (.int p5), .val (.ref b1), .val (.int ln), .unset, .unset, .unset, .unset, .unset, .unset, .unset] [(.ref b18)])) _
    refine XS.dup X18.here hx rfl (hb hby at_76) rfl rfl ?_
    show Steps p.tables e below (T18.setTop (mkF m 77 #[.val (.int p1), .val (.int p2), .val (.int p3), .val (.int p4), .val (.int p5), .val (.ref b1), .val (.int ln), .unset, .unset, .unset, .unset, .unset, .unset, .unset] [(.ref b18), (.ref b18)])) _
    refine XS.aload X18.here hx rfl (hb hby at_77) rfl rfl ?_
    show Steps p.tables e below (T18.setTop (mkF m 79 #[.val (.int p1), .val (.int p2), .val (.int p3), .val (.int p4), .val (.int p5), .val (.ref b1), .val (.int ln), .unset, .unset, .unset, .unset, .unset, .unset, .unset] [(.ref b1), (.ref b18), (.ref b18)])) _
    refine XS.iload X18.here hx rfl (hb hby at_79) rfl ?_
    show Steps p.tables e below (T18.setTop (mkF m 81 #[.val (.int p1), .val (.int p2), .val (.int p3), .val (.int p4), .val (.int p5), .val (.ref b1), .val (.int ln), .unset, .unset, .unset, .unset, .unset, .unset, .unset] [(.int ln), (.ref b1), (.ref b18), (.ref b18)])) _
    refine st20.trans ?_
    show Steps p.tables e below (T20.setTop (mkF m 84 #[.val (.int p1), .val (.int p2), .val (.int p3), .val (.int p4), .val (.int p5), .val (.ref b1), .val (.int ln), .unset, .unset, .unset, .unset, .unset, .unset, .unset] [(.ref b18)])) _
    refine XS.astore X20.here hx rfl (hb hby at_84) rfl rfl (l' := #[.val (.int p1), .val (.int p2), .val (.int p3), .val (.int p4), .val (.int p5), .val (.ref b1), .val (.int ln), .val (.ref b18), .unset, .unset, .unset, .unset, .unset, .unset]) rfl ?_
    show Steps p.tables e below (T20.setTop (mkF m 86 #[.val (.int p1), .val (.int p2), .val (.int p3), .val (.int p4), .val (.int p5), .val (.ref b1), .val (.int ln), .val (.ref b18), .unset, .unset, .unset, .unset, .unset, .unset] [])) _
    refine XS.iload X20.here hx rfl (hb hby at_86) rfl ?_
    show Steps p.tables e below (T20.setTop (mkF m 88 #[.val (.int p1), .val (.int p2), .val (.int p3), .val (.int p4), .val (.int p5), .val (.ref b1), .val (.int ln), .val (.ref b18), .unset, .unset, .unset, .unset, .unset, .unset] [(.int ln)])) _
    refine XS.iconst X20.here hx rfl (hb hby at_88) ?_
    show Steps p.tables e below (T20.setTop (mkF m 89 #[.val (.int p1), .val (.int p2), .val (.int p3), .val (.int p4), .val (.int p5), .val (.ref b1), .val (.int ln), .val (.ref b18), .unset, .unset, .unset, .unset, .unset, .unset] [(.int (3 : Int32)), (.int ln)])) _
    exact k
  suffices J89_23 : ∀ (i89_0 : Int32), i89_0 = (if ln < (3 : Int32) then (0 : Int32) else (if (fn16 0) = (-17 : Int32) then (if (fn16 1) = (-69 : Int32) then (if (fn16 2) = (-65 : Int32) then (1 : Int32) else (0 : Int32)) else (0 : Int32)) else (0 : Int32))) → GoalS p.tables e below s 16 384 (Q0 Z p1 p2 p3 p4 p5 h0 n0) (T20.setTop (mkF m 124 #[.val (.int p1), .val (.int p2), .val (.int p3), .val (.int p4), .val (.int p5), .val (.ref b1), .val (.int ln), .val (.ref b18), .unset, .unset, .unset, .unset, .unset, .unset] [(.int i89_0)])) by
    by_cases hc89_24 : ln < (3 : Int32)
    · refine GoalS.lift (B := (T20.setTop (mkF m 124 #[.val (.int p1), .val (.int p2), .val (.int p3), .val (.int p4), .val (.int p5), .val (.ref b1), .val (.int ln), .val (.ref b18), .unset, .unset, .unset, .unset, .unset, .unset] [(.int (0 : Int32))]))) (fun t k => ?_) ?_
      · show Steps p.tables e below (T20.setTop (mkF m 89 #[.val (.int p1), .val (.int p2), .val (.int p3), .val (.int p4), .val (.int p5), .val (.ref b1), .val (.int ln), .val (.ref b18), .unset, .unset, .unset, .unset, .unset, .unset] [(.int (3 : Int32)), (.int ln)])) _
        refine XS.icmpYes X20.here hx rfl (pc0 := 89) (pc' := 123) rfl (hb hby at_89) rfl ((tlt hc89_24).1) (by decide) (by decide) ?_
        show Steps p.tables e below (T20.setTop (mkF m 123 #[.val (.int p1), .val (.int p2), .val (.int p3), .val (.int p4), .val (.int p5), .val (.ref b1), .val (.int ln), .val (.ref b18), .unset, .unset, .unset, .unset, .unset, .unset] [])) _
        refine XS.iconst X20.here hx rfl (hb hby at_123) ?_
        show Steps p.tables e below (T20.setTop (mkF m 124 #[.val (.int p1), .val (.int p2), .val (.int p3), .val (.int p4), .val (.int p5), .val (.ref b1), .val (.int ln), .val (.ref b18), .unset, .unset, .unset, .unset, .unset, .unset] [(.int (0 : Int32))])) _
        exact k
      exact J89_23 _ (by simp only [if_pos hc89_24])
    · have f26 : AV Z T20.heap b1 k1 .byte 6 (fun i => Value.int (fn16 i)) := (f21.keep p20_0 (ninS ne_b1_b18 nin0))
      obtain ⟨cl25, Ar25, kc25, sz25, -, hv25⟩ := id f26
      have hin25 : ¬ ((0 : Int32) < 0 ∨ cl25.slots.size ≤ ((0 : Int32)).toNatClampNeg) := AV.inb sz25 (show ¬ (0 : Int32) < 0 ∧ ((0 : Int32)).toNatClampNeg < 6 by decide)
      have hat25 : cl25.slots[((0 : Int32)).toNatClampNeg]? = some (.int (fn16 0)) := (hv25 _ (AV.inx (show ¬ (0 : Int32) < 0 ∧ ((0 : Int32)).toNatClampNeg < 6 by decide))).trans (congrArg some rfl)
      refine GoalS.lift (B := (T20.setTop (mkF m 98 #[.val (.int p1), .val (.int p2), .val (.int p3), .val (.int p4), .val (.int p5), .val (.ref b1), .val (.int ln), .val (.ref b18), .unset, .unset, .unset, .unset, .unset, .unset] [(.int (-17 : Int32)), (.int (fn16 0))]))) (fun t k => ?_) ?_
      · show Steps p.tables e below (T20.setTop (mkF m 89 #[.val (.int p1), .val (.int p2), .val (.int p3), .val (.int p4), .val (.int p5), .val (.ref b1), .val (.int ln), .val (.ref b18), .unset, .unset, .unset, .unset, .unset, .unset] [(.int (3 : Int32)), (.int ln)])) _
        refine XS.icmpNo X20.here hx rfl (hb hby at_89) rfl ((flt hc89_24).1) ?_
        show Steps p.tables e below (T20.setTop (mkF m 92 #[.val (.int p1), .val (.int p2), .val (.int p3), .val (.int p4), .val (.int p5), .val (.ref b1), .val (.int ln), .val (.ref b18), .unset, .unset, .unset, .unset, .unset, .unset] [])) _
        refine XS.aload X20.here hx rfl (hb hby at_92) rfl rfl ?_
        show Steps p.tables e below (T20.setTop (mkF m 94 #[.val (.int p1), .val (.int p2), .val (.int p3), .val (.int p4), .val (.int p5), .val (.ref b1), .val (.int ln), .val (.ref b18), .unset, .unset, .unset, .unset, .unset, .unset] [(.ref b1)])) _
        refine XS.iconst X20.here hx rfl (hb hby at_94) ?_
        show Steps p.tables e below (T20.setTop (mkF m 95 #[.val (.int p1), .val (.int p2), .val (.int p3), .val (.int p4), .val (.int p5), .val (.ref b1), .val (.int ln), .val (.ref b18), .unset, .unset, .unset, .unset, .unset, .unset] [(.int (0 : Int32)), (.ref b1)])) _
        refine X20.baloadBytes hx (j := (0 : Int32)) (v := (.int (fn16 0))) Ar25.1 (State.isArrayOf_alike hZ.alike Ar25.2.1) Ar25.2.2 hin25 hat25 (g := (mkF m 95 #[.val (.int p1), .val (.int p2), .val (.int p3), .val (.int p4), .val (.int p5), .val (.ref b1), .val (.int ln), .val (.ref b18), .unset, .unset, .unset, .unset, .unset, .unset] [(.int (0 : Int32)), (.ref b1)])) rfl rfl (hb hby at_95) _ ?_
        show Steps p.tables e below (T20.setTop (mkF m 96 #[.val (.int p1), .val (.int p2), .val (.int p3), .val (.int p4), .val (.int p5), .val (.ref b1), .val (.int ln), .val (.ref b18), .unset, .unset, .unset, .unset, .unset, .unset] [(.int (fn16 0))])) _
        refine XS.bipush X20.here hx rfl (hb hby at_96) ?_
        show Steps p.tables e below (T20.setTop (mkF m 98 #[.val (.int p1), .val (.int p2), .val (.int p3), .val (.int p4), .val (.int p5), .val (.ref b1), .val (.int ln), .val (.ref b18), .unset, .unset, .unset, .unset, .unset, .unset] [(.int (-17 : Int32)), (.int (fn16 0))])) _
        exact k
      by_cases hc98_27 : (fn16 0) = (-17 : Int32)
      · obtain ⟨cl28, Ar28, kc28, sz28, -, hv28⟩ := id f26
        have hin28 : ¬ ((1 : Int32) < 0 ∨ cl28.slots.size ≤ ((1 : Int32)).toNatClampNeg) := AV.inb sz28 (show ¬ (1 : Int32) < 0 ∧ ((1 : Int32)).toNatClampNeg < 6 by decide)
        have hat28 : cl28.slots[((1 : Int32)).toNatClampNeg]? = some (.int (fn16 1)) := (hv28 _ (AV.inx (show ¬ (1 : Int32) < 0 ∧ ((1 : Int32)).toNatClampNeg < 6 by decide))).trans (congrArg some rfl)
        refine GoalS.lift (B := (T20.setTop (mkF m 107 #[.val (.int p1), .val (.int p2), .val (.int p3), .val (.int p4), .val (.int p5), .val (.ref b1), .val (.int ln), .val (.ref b18), .unset, .unset, .unset, .unset, .unset, .unset] [(.int (-69 : Int32)), (.int (fn16 1))]))) (fun t k => ?_) ?_
        · show Steps p.tables e below (T20.setTop (mkF m 98 #[.val (.int p1), .val (.int p2), .val (.int p3), .val (.int p4), .val (.int p5), .val (.ref b1), .val (.int ln), .val (.ref b18), .unset, .unset, .unset, .unset, .unset, .unset] [(.int (-17 : Int32)), (.int (fn16 0))])) _
          refine XS.icmpNo X20.here hx rfl (hb hby at_98) rfl ((teq hc98_27).2) ?_
          show Steps p.tables e below (T20.setTop (mkF m 101 #[.val (.int p1), .val (.int p2), .val (.int p3), .val (.int p4), .val (.int p5), .val (.ref b1), .val (.int ln), .val (.ref b18), .unset, .unset, .unset, .unset, .unset, .unset] [])) _
          refine XS.aload X20.here hx rfl (hb hby at_101) rfl rfl ?_
          show Steps p.tables e below (T20.setTop (mkF m 103 #[.val (.int p1), .val (.int p2), .val (.int p3), .val (.int p4), .val (.int p5), .val (.ref b1), .val (.int ln), .val (.ref b18), .unset, .unset, .unset, .unset, .unset, .unset] [(.ref b1)])) _
          refine XS.iconst X20.here hx rfl (hb hby at_103) ?_
          show Steps p.tables e below (T20.setTop (mkF m 104 #[.val (.int p1), .val (.int p2), .val (.int p3), .val (.int p4), .val (.int p5), .val (.ref b1), .val (.int ln), .val (.ref b18), .unset, .unset, .unset, .unset, .unset, .unset] [(.int (1 : Int32)), (.ref b1)])) _
          refine X20.baloadBytes hx (j := (1 : Int32)) (v := (.int (fn16 1))) Ar28.1 (State.isArrayOf_alike hZ.alike Ar28.2.1) Ar28.2.2 hin28 hat28 (g := (mkF m 104 #[.val (.int p1), .val (.int p2), .val (.int p3), .val (.int p4), .val (.int p5), .val (.ref b1), .val (.int ln), .val (.ref b18), .unset, .unset, .unset, .unset, .unset, .unset] [(.int (1 : Int32)), (.ref b1)])) rfl rfl (hb hby at_104) _ ?_
          show Steps p.tables e below (T20.setTop (mkF m 105 #[.val (.int p1), .val (.int p2), .val (.int p3), .val (.int p4), .val (.int p5), .val (.ref b1), .val (.int ln), .val (.ref b18), .unset, .unset, .unset, .unset, .unset, .unset] [(.int (fn16 1))])) _
          refine XS.bipush X20.here hx rfl (hb hby at_105) ?_
          show Steps p.tables e below (T20.setTop (mkF m 107 #[.val (.int p1), .val (.int p2), .val (.int p3), .val (.int p4), .val (.int p5), .val (.ref b1), .val (.int ln), .val (.ref b18), .unset, .unset, .unset, .unset, .unset, .unset] [(.int (-69 : Int32)), (.int (fn16 1))])) _
          exact k
        by_cases hc107_29 : (fn16 1) = (-69 : Int32)
        · obtain ⟨cl30, Ar30, kc30, sz30, -, hv30⟩ := id f26
          have hin30 : ¬ ((2 : Int32) < 0 ∨ cl30.slots.size ≤ ((2 : Int32)).toNatClampNeg) := AV.inb sz30 (show ¬ (2 : Int32) < 0 ∧ ((2 : Int32)).toNatClampNeg < 6 by decide)
          have hat30 : cl30.slots[((2 : Int32)).toNatClampNeg]? = some (.int (fn16 2)) := (hv30 _ (AV.inx (show ¬ (2 : Int32) < 0 ∧ ((2 : Int32)).toNatClampNeg < 6 by decide))).trans (congrArg some rfl)
          refine GoalS.lift (B := (T20.setTop (mkF m 116 #[.val (.int p1), .val (.int p2), .val (.int p3), .val (.int p4), .val (.int p5), .val (.ref b1), .val (.int ln), .val (.ref b18), .unset, .unset, .unset, .unset, .unset, .unset] [(.int (-65 : Int32)), (.int (fn16 2))]))) (fun t k => ?_) ?_
          · show Steps p.tables e below (T20.setTop (mkF m 107 #[.val (.int p1), .val (.int p2), .val (.int p3), .val (.int p4), .val (.int p5), .val (.ref b1), .val (.int ln), .val (.ref b18), .unset, .unset, .unset, .unset, .unset, .unset] [(.int (-69 : Int32)), (.int (fn16 1))])) _
            refine XS.icmpNo X20.here hx rfl (hb hby at_107) rfl ((teq hc107_29).2) ?_
            show Steps p.tables e below (T20.setTop (mkF m 110 #[.val (.int p1), .val (.int p2), .val (.int p3), .val (.int p4), .val (.int p5), .val (.ref b1), .val (.int ln), .val (.ref b18), .unset, .unset, .unset, .unset, .unset, .unset] [])) _
            refine XS.aload X20.here hx rfl (hb hby at_110) rfl rfl ?_
            show Steps p.tables e below (T20.setTop (mkF m 112 #[.val (.int p1), .val (.int p2), .val (.int p3), .val (.int p4), .val (.int p5), .val (.ref b1), .val (.int ln), .val (.ref b18), .unset, .unset, .unset, .unset, .unset, .unset] [(.ref b1)])) _
            refine XS.iconst X20.here hx rfl (hb hby at_112) ?_
            show Steps p.tables e below (T20.setTop (mkF m 113 #[.val (.int p1), .val (.int p2), .val (.int p3), .val (.int p4), .val (.int p5), .val (.ref b1), .val (.int ln), .val (.ref b18), .unset, .unset, .unset, .unset, .unset, .unset] [(.int (2 : Int32)), (.ref b1)])) _
            refine X20.baloadBytes hx (j := (2 : Int32)) (v := (.int (fn16 2))) Ar30.1 (State.isArrayOf_alike hZ.alike Ar30.2.1) Ar30.2.2 hin30 hat30 (g := (mkF m 113 #[.val (.int p1), .val (.int p2), .val (.int p3), .val (.int p4), .val (.int p5), .val (.ref b1), .val (.int ln), .val (.ref b18), .unset, .unset, .unset, .unset, .unset, .unset] [(.int (2 : Int32)), (.ref b1)])) rfl rfl (hb hby at_113) _ ?_
            show Steps p.tables e below (T20.setTop (mkF m 114 #[.val (.int p1), .val (.int p2), .val (.int p3), .val (.int p4), .val (.int p5), .val (.ref b1), .val (.int ln), .val (.ref b18), .unset, .unset, .unset, .unset, .unset, .unset] [(.int (fn16 2))])) _
            refine XS.bipush X20.here hx rfl (hb hby at_114) ?_
            show Steps p.tables e below (T20.setTop (mkF m 116 #[.val (.int p1), .val (.int p2), .val (.int p3), .val (.int p4), .val (.int p5), .val (.ref b1), .val (.int ln), .val (.ref b18), .unset, .unset, .unset, .unset, .unset, .unset] [(.int (-65 : Int32)), (.int (fn16 2))])) _
            exact k
          by_cases hc116_31 : (fn16 2) = (-65 : Int32)
          · refine GoalS.lift (B := (T20.setTop (mkF m 124 #[.val (.int p1), .val (.int p2), .val (.int p3), .val (.int p4), .val (.int p5), .val (.ref b1), .val (.int ln), .val (.ref b18), .unset, .unset, .unset, .unset, .unset, .unset] [(.int (1 : Int32))]))) (fun t k => ?_) ?_
            · show Steps p.tables e below (T20.setTop (mkF m 116 #[.val (.int p1), .val (.int p2), .val (.int p3), .val (.int p4), .val (.int p5), .val (.ref b1), .val (.int ln), .val (.ref b18), .unset, .unset, .unset, .unset, .unset, .unset] [(.int (-65 : Int32)), (.int (fn16 2))])) _
              refine XS.icmpNo X20.here hx rfl (hb hby at_116) rfl ((teq hc116_31).2) ?_
              show Steps p.tables e below (T20.setTop (mkF m 119 #[.val (.int p1), .val (.int p2), .val (.int p3), .val (.int p4), .val (.int p5), .val (.ref b1), .val (.int ln), .val (.ref b18), .unset, .unset, .unset, .unset, .unset, .unset] [])) _
              refine XS.iconst X20.here hx rfl (hb hby at_119) ?_
              show Steps p.tables e below (T20.setTop (mkF m 120 #[.val (.int p1), .val (.int p2), .val (.int p3), .val (.int p4), .val (.int p5), .val (.ref b1), .val (.int ln), .val (.ref b18), .unset, .unset, .unset, .unset, .unset, .unset] [(.int (1 : Int32))])) _
              refine XS.goto X20.here hx rfl (pc0 := 120) (pc' := 124) rfl (hb hby at_120) (by decide) (by decide) ?_
              show Steps p.tables e below (T20.setTop (mkF m 124 #[.val (.int p1), .val (.int p2), .val (.int p3), .val (.int p4), .val (.int p5), .val (.ref b1), .val (.int ln), .val (.ref b18), .unset, .unset, .unset, .unset, .unset, .unset] [(.int (1 : Int32))])) _
              exact k
            exact J89_23 _ (by simp only [if_neg hc89_24, if_pos hc98_27, if_pos hc107_29, if_pos hc116_31])
          · refine GoalS.lift (B := (T20.setTop (mkF m 124 #[.val (.int p1), .val (.int p2), .val (.int p3), .val (.int p4), .val (.int p5), .val (.ref b1), .val (.int ln), .val (.ref b18), .unset, .unset, .unset, .unset, .unset, .unset] [(.int (0 : Int32))]))) (fun t k => ?_) ?_
            · show Steps p.tables e below (T20.setTop (mkF m 116 #[.val (.int p1), .val (.int p2), .val (.int p3), .val (.int p4), .val (.int p5), .val (.ref b1), .val (.int ln), .val (.ref b18), .unset, .unset, .unset, .unset, .unset, .unset] [(.int (-65 : Int32)), (.int (fn16 2))])) _
              refine XS.icmpYes X20.here hx rfl (pc0 := 116) (pc' := 123) rfl (hb hby at_116) rfl ((feq hc116_31).2) (by decide) (by decide) ?_
              show Steps p.tables e below (T20.setTop (mkF m 123 #[.val (.int p1), .val (.int p2), .val (.int p3), .val (.int p4), .val (.int p5), .val (.ref b1), .val (.int ln), .val (.ref b18), .unset, .unset, .unset, .unset, .unset, .unset] [])) _
              refine XS.iconst X20.here hx rfl (hb hby at_123) ?_
              show Steps p.tables e below (T20.setTop (mkF m 124 #[.val (.int p1), .val (.int p2), .val (.int p3), .val (.int p4), .val (.int p5), .val (.ref b1), .val (.int ln), .val (.ref b18), .unset, .unset, .unset, .unset, .unset, .unset] [(.int (0 : Int32))])) _
              exact k
            exact J89_23 _ (by simp only [if_neg hc89_24, if_pos hc98_27, if_pos hc107_29, if_neg hc116_31])
        · refine GoalS.lift (B := (T20.setTop (mkF m 124 #[.val (.int p1), .val (.int p2), .val (.int p3), .val (.int p4), .val (.int p5), .val (.ref b1), .val (.int ln), .val (.ref b18), .unset, .unset, .unset, .unset, .unset, .unset] [(.int (0 : Int32))]))) (fun t k => ?_) ?_
          · show Steps p.tables e below (T20.setTop (mkF m 107 #[.val (.int p1), .val (.int p2), .val (.int p3), .val (.int p4), .val (.int p5), .val (.ref b1), .val (.int ln), .val (.ref b18), .unset, .unset, .unset, .unset, .unset, .unset] [(.int (-69 : Int32)), (.int (fn16 1))])) _
            refine XS.icmpYes X20.here hx rfl (pc0 := 107) (pc' := 123) rfl (hb hby at_107) rfl ((feq hc107_29).2) (by decide) (by decide) ?_
            show Steps p.tables e below (T20.setTop (mkF m 123 #[.val (.int p1), .val (.int p2), .val (.int p3), .val (.int p4), .val (.int p5), .val (.ref b1), .val (.int ln), .val (.ref b18), .unset, .unset, .unset, .unset, .unset, .unset] [])) _
            refine XS.iconst X20.here hx rfl (hb hby at_123) ?_
            show Steps p.tables e below (T20.setTop (mkF m 124 #[.val (.int p1), .val (.int p2), .val (.int p3), .val (.int p4), .val (.int p5), .val (.ref b1), .val (.int ln), .val (.ref b18), .unset, .unset, .unset, .unset, .unset, .unset] [(.int (0 : Int32))])) _
            exact k
          exact J89_23 _ (by simp only [if_neg hc89_24, if_pos hc98_27, if_neg hc107_29])
      · refine GoalS.lift (B := (T20.setTop (mkF m 124 #[.val (.int p1), .val (.int p2), .val (.int p3), .val (.int p4), .val (.int p5), .val (.ref b1), .val (.int ln), .val (.ref b18), .unset, .unset, .unset, .unset, .unset, .unset] [(.int (0 : Int32))]))) (fun t k => ?_) ?_
        · show Steps p.tables e below (T20.setTop (mkF m 98 #[.val (.int p1), .val (.int p2), .val (.int p3), .val (.int p4), .val (.int p5), .val (.ref b1), .val (.int ln), .val (.ref b18), .unset, .unset, .unset, .unset, .unset, .unset] [(.int (-17 : Int32)), (.int (fn16 0))])) _
          refine XS.icmpYes X20.here hx rfl (pc0 := 98) (pc' := 123) rfl (hb hby at_98) rfl ((feq hc98_27).2) (by decide) (by decide) ?_
          show Steps p.tables e below (T20.setTop (mkF m 123 #[.val (.int p1), .val (.int p2), .val (.int p3), .val (.int p4), .val (.int p5), .val (.ref b1), .val (.int ln), .val (.ref b18), .unset, .unset, .unset, .unset, .unset, .unset] [])) _
          refine XS.iconst X20.here hx rfl (hb hby at_123) ?_
          show Steps p.tables e below (T20.setTop (mkF m 124 #[.val (.int p1), .val (.int p2), .val (.int p3), .val (.int p4), .val (.int p5), .val (.ref b1), .val (.int ln), .val (.ref b18), .unset, .unset, .unset, .unset, .unset, .unset] [(.int (0 : Int32))])) _
          exact k
        exact J89_23 _ (by simp only [if_neg hc89_24, if_neg hc98_27])
  intro i89_0 h_i89_0
  refine GoalS.lift (B := (T20.setTop (mkF m 128 #[.val (.int p1), .val (.int p2), .val (.int p3), .val (.int p4), .val (.int p5), .val (.ref b1), .val (.int ln), .val (.ref b18), .val (.int i89_0), .unset, .unset, .unset, .unset, .unset] [(.int i89_0)]))) (fun t k => ?_) ?_
  · show Steps p.tables e below (T20.setTop (mkF m 124 #[.val (.int p1), .val (.int p2), .val (.int p3), .val (.int p4), .val (.int p5), .val (.ref b1), .val (.int ln), .val (.ref b18), .unset, .unset, .unset, .unset, .unset, .unset] [(.int i89_0)])) _
    refine XS.istore X20.here hx rfl (hb hby at_124) rfl (l' := #[.val (.int p1), .val (.int p2), .val (.int p3), .val (.int p4), .val (.int p5), .val (.ref b1), .val (.int ln), .val (.ref b18), .val (.int i89_0), .unset, .unset, .unset, .unset, .unset]) rfl ?_
    show Steps p.tables e below (T20.setTop (mkF m 126 #[.val (.int p1), .val (.int p2), .val (.int p3), .val (.int p4), .val (.int p5), .val (.ref b1), .val (.int ln), .val (.ref b18), .val (.int i89_0), .unset, .unset, .unset, .unset, .unset] [])) _
    refine XS.iload X20.here hx rfl (hb hby at_126) rfl ?_
    show Steps p.tables e below (T20.setTop (mkF m 128 #[.val (.int p1), .val (.int p2), .val (.int p3), .val (.int p4), .val (.int p5), .val (.ref b1), .val (.int ln), .val (.ref b18), .val (.int i89_0), .unset, .unset, .unset, .unset, .unset] [(.int i89_0)])) _
    exact k
  suffices J128_32 : ∀ (i128_0 : Int32), i128_0 = (if i89_0 = (0 : Int32) then (0 : Int32) else (3 : Int32)) → GoalS p.tables e below s 16 384 (Q0 Z p1 p2 p3 p4 p5 h0 n0) (T20.setTop (mkF m 136 #[.val (.int p1), .val (.int p2), .val (.int p3), .val (.int p4), .val (.int p5), .val (.ref b1), .val (.int ln), .val (.ref b18), .val (.int i89_0), .unset, .unset, .unset, .unset, .unset] [(.int i128_0)])) by
    by_cases hc128_33 : i89_0 = (0 : Int32)
    · refine GoalS.lift (B := (T20.setTop (mkF m 136 #[.val (.int p1), .val (.int p2), .val (.int p3), .val (.int p4), .val (.int p5), .val (.ref b1), .val (.int ln), .val (.ref b18), .val (.int i89_0), .unset, .unset, .unset, .unset, .unset] [(.int (0 : Int32))]))) (fun t k => ?_) ?_
      · show Steps p.tables e below (T20.setTop (mkF m 128 #[.val (.int p1), .val (.int p2), .val (.int p3), .val (.int p4), .val (.int p5), .val (.ref b1), .val (.int ln), .val (.ref b18), .val (.int i89_0), .unset, .unset, .unset, .unset, .unset] [(.int i89_0)])) _
        refine XS.ifYes X20.here hx rfl (pc0 := 128) (pc' := 135) rfl (hb hby at_128) rfl ((if0 _ _).trans (teq hc128_33).1) (by decide) (by decide) ?_
        show Steps p.tables e below (T20.setTop (mkF m 135 #[.val (.int p1), .val (.int p2), .val (.int p3), .val (.int p4), .val (.int p5), .val (.ref b1), .val (.int ln), .val (.ref b18), .val (.int i89_0), .unset, .unset, .unset, .unset, .unset] [])) _
        refine XS.iconst X20.here hx rfl (hb hby at_135) ?_
        show Steps p.tables e below (T20.setTop (mkF m 136 #[.val (.int p1), .val (.int p2), .val (.int p3), .val (.int p4), .val (.int p5), .val (.ref b1), .val (.int ln), .val (.ref b18), .val (.int i89_0), .unset, .unset, .unset, .unset, .unset] [(.int (0 : Int32))])) _
        exact k
      exact J128_32 _ (by simp only [if_pos hc128_33])
    · refine GoalS.lift (B := (T20.setTop (mkF m 136 #[.val (.int p1), .val (.int p2), .val (.int p3), .val (.int p4), .val (.int p5), .val (.ref b1), .val (.int ln), .val (.ref b18), .val (.int i89_0), .unset, .unset, .unset, .unset, .unset] [(.int (3 : Int32))]))) (fun t k => ?_) ?_
      · show Steps p.tables e below (T20.setTop (mkF m 128 #[.val (.int p1), .val (.int p2), .val (.int p3), .val (.int p4), .val (.int p5), .val (.ref b1), .val (.int ln), .val (.ref b18), .val (.int i89_0), .unset, .unset, .unset, .unset, .unset] [(.int i89_0)])) _
        refine XS.ifNo X20.here hx rfl (hb hby at_128) rfl ((if0 _ _).trans (feq hc128_33).1) ?_
        show Steps p.tables e below (T20.setTop (mkF m 131 #[.val (.int p1), .val (.int p2), .val (.int p3), .val (.int p4), .val (.int p5), .val (.ref b1), .val (.int ln), .val (.ref b18), .val (.int i89_0), .unset, .unset, .unset, .unset, .unset] [])) _
        refine XS.iconst X20.here hx rfl (hb hby at_131) ?_
        show Steps p.tables e below (T20.setTop (mkF m 132 #[.val (.int p1), .val (.int p2), .val (.int p3), .val (.int p4), .val (.int p5), .val (.ref b1), .val (.int ln), .val (.ref b18), .val (.int i89_0), .unset, .unset, .unset, .unset, .unset] [(.int (3 : Int32))])) _
        refine XS.goto X20.here hx rfl (pc0 := 132) (pc' := 136) rfl (hb hby at_132) (by decide) (by decide) ?_
        show Steps p.tables e below (T20.setTop (mkF m 136 #[.val (.int p1), .val (.int p2), .val (.int p3), .val (.int p4), .val (.int p5), .val (.ref b1), .val (.int ln), .val (.ref b18), .val (.int i89_0), .unset, .unset, .unset, .unset, .unset] [(.int (3 : Int32))])) _
        exact k
      exact J128_32 _ (by simp only [if_neg hc128_33])
  intro i128_0 h_i128_0
  have f35 : AV Z T20.heap b1 k1 .byte 6 (fun i => Value.int (fn16 i)) := (f21.keep p20_0 (ninS ne_b1_b18 nin0))
  obtain ⟨cq34, kq34, q34a, q34b, q34c⟩ := isOf hZ rfl p20_1
  obtain ⟨_, _, ⟨T34, L34, k34, n34⟩, -, X34, ⟨Lc34, hQ34, l34, y34, z34⟩, st34⟩ := X20.virtualBack hx (y := (⟨"com/example/verdict/verdict/saml/XmlScanner", "skipByteOrderMark", "()V"⟩ : MethodName)) (z := (⟨"com/example/verdict/verdict/saml/XmlScanner", "skipByteOrderMark", "()V"⟩ : MethodName)) hown (mvT hZ (hw _ (List.mem_of_getElem? (i := 29) rfl))) (mvT hZ (hw _ (List.mem_of_getElem? (i := 30) rfl))) (notFace_of_selects (args := #[]) (mvT hZ (hw _ (List.mem_of_getElem? (i := 32) rfl)))) (mvT hZ (hw _ (List.mem_of_getElem? (i := 32) rfl))) (mvT hZ (hw _ (List.mem_of_getElem? (i := 31) rfl))) (by decide) (backOf (W := 0) (rm6 l Z a0 hw [] b18 (0 : Int32) ln b1 k1 6 fn16 (6 : Int32) T20.heap n0 z22 p20_1 g_b18 p20_4 p20_3 p20_2 f35 hl.2) hZ (hw _ (List.mem_of_getElem? (i := 33) rfl)) (hw _ (List.mem_of_getElem? (i := 8) rfl)) (by decide) (by decide)) q34a q34c (g := (mkF m 140 #[.val (.int p1), .val (.int p2), .val (.int p3), .val (.int p4), .val (.int p5), .val (.ref b1), .val (.int ln), .val (.ref b18), .val (.int i89_0), .val (.int i128_0), .unset, .unset, .unset, .unset] [(.ref b18)])) rfl (by rw [hml]; rfl) (Steps.refl _) (argsL := []) (rest := []) (lenOf pd_4 rfl) rfl (by show 2 * 0 + _ ≤ _; exact Nat.le_of_eq rfl) (hb hby at_140) (fun _ _ => ⟨rfl, rfl, (by decide : 3 + 0 ≤ _), (by decide : 139 + 0 ≤ _)⟩)
  dsimp only [Pt.U, Pt.locs, Pt.cells, Pt.slots] at X34 l34 y34 z34 st34 hQ34
  subst l34 y34 z34
  obtain ⟨w2_34, rfl, N34q, p34_0, p34_1, p34_2, p34_3, p34_4, p34_5⟩ := hQ34
  have N34 := Fr.app N20 N34q
  have z36 : n0 ≤ T34.heap.size := Nat.le_trans z22 p34_0.1
  have e150 : w2_34 = i128_0 := own_w2 h_i89_0 h_i128_0 p34_5
  have Fp150 : Fld Z T34.heap b18 "com/example/verdict/verdict/saml/XmlScanner" "pos" "I" (.int i128_0) := e150 ▸ p34_2
  have h03 := own_03 h_i128_0
  obtain ⟨cq37, kq37, q37a, q37b, q37c⟩ := isOf hZ rfl p34_1
  obtain ⟨_, _, ⟨T37, L37, k37, n37⟩, -, X37, ⟨Lc37, hQ37, l37, y37, z37⟩, st37⟩ := X34.virtualBack hx (y := (⟨"com/example/verdict/verdict/saml/XmlScanner", "position", "()I"⟩ : MethodName)) (z := (⟨"com/example/verdict/verdict/saml/XmlScanner", "position", "()I"⟩ : MethodName)) hown (mvT hZ (hw _ (List.mem_of_getElem? (i := 36) rfl))) (mvT hZ (hw _ (List.mem_of_getElem? (i := 37) rfl))) (notFace_of_selects (args := #[]) (mvT hZ (hw _ (List.mem_of_getElem? (i := 39) rfl)))) (mvT hZ (hw _ (List.mem_of_getElem? (i := 39) rfl))) (mvT hZ (hw _ (List.mem_of_getElem? (i := 38) rfl))) (by decide) (backOf (W := 0) (rm7 l Z a0 hw [] b18 i128_0 T34.heap n0 z36 Fp150) hZ (hw _ (List.mem_of_getElem? (i := 40) rfl)) (hw _ (List.mem_of_getElem? (i := 8) rfl)) (by decide) (by decide)) q37a q37c (g := (mkF m 145 #[.val (.int p1), .val (.int p2), .val (.int p3), .val (.int p4), .val (.int p5), .val (.ref b1), .val (.int ln), .val (.ref b18), .val (.int i89_0), .val (.int i128_0), .unset, .unset, .unset, .unset] [(.ref b18)])) rfl (by rw [hml]; rfl) (Steps.refl _) (argsL := []) (rest := []) (lenOf pd_5 rfl) rfl (by show 2 * 0 + _ ≤ _; exact Nat.le_of_eq rfl) (hb hby at_145) (fun _ _ => ⟨rfl, rfl, (by decide : 3 + 0 ≤ _), (by decide : 139 + 0 ≤ _)⟩)
  dsimp only [Pt.U, Pt.locs, Pt.cells, Pt.slots] at X37 l37 y37 z37 st37 hQ37
  subst l37 y37 z37
  obtain ⟨rfl, N37q, eq37⟩ := hQ37
  have N37 := Fr.app N34 N37q
  obtain ⟨cq38, kq38, q38a, q38b, q38c⟩ := isOf hZ eq37 p34_1
  obtain ⟨_, _, ⟨T38, L38, k38, n38⟩, -, X38, ⟨Lc38, hQ38, l38, y38, z38⟩, st38⟩ := X37.virtualBack hx (y := (⟨"com/example/verdict/verdict/saml/XmlScanner", "atEnd", "()Z"⟩ : MethodName)) (z := (⟨"com/example/verdict/verdict/saml/XmlScanner", "atEnd", "()Z"⟩ : MethodName)) hown (mvT hZ (hw _ (List.mem_of_getElem? (i := 41) rfl))) (mvT hZ (hw _ (List.mem_of_getElem? (i := 42) rfl))) (notFace_of_selects (args := #[]) (mvT hZ (hw _ (List.mem_of_getElem? (i := 44) rfl)))) (mvT hZ (hw _ (List.mem_of_getElem? (i := 44) rfl))) (mvT hZ (hw _ (List.mem_of_getElem? (i := 43) rfl))) (by decide) (backOf (W := 0) (rm8 l Z a0 hw [] b18 i128_0 ln T34.heap n0 z36 Fp150 p34_3) hZ (hw _ (List.mem_of_getElem? (i := 45) rfl)) (hw _ (List.mem_of_getElem? (i := 8) rfl)) (by decide) (by decide)) q38a q38c (g := (mkF m 155 #[.val (.int p1), .val (.int p2), .val (.int p3), .val (.int p4), .val (.int p5), .val (.ref b1), .val (.int ln), .val (.ref b18), .val (.int i89_0), .val (.int i128_0), .unset, .unset, .unset, .unset] [(.ref b18)])) rfl (by rw [hml]; rfl) (Steps.refl _) (argsL := []) (rest := []) (lenOf pd_6 rfl) rfl (by show 2 * 0 + _ ≤ _; exact Nat.le_of_eq rfl) (hb hby at_155) (fun _ _ => ⟨rfl, eq37, (by decide : 3 + 0 ≤ _), (by decide : 139 + 0 ≤ _)⟩)
  dsimp only [Pt.U, Pt.locs, Pt.cells, Pt.slots] at X38 l38 y38 z38 st38 hQ38
  subst l38 y38 z38
  obtain ⟨r38, rfl, hr38, N38q, eq38⟩ := hQ38
  have N38 := Fr.app N37 N38q
  refine GoalS.lift (B := (T38.setTop (mkF m 162 #[.val (.int p1), .val (.int p2), .val (.int p3), .val (.int p4), .val (.int p5), .val (.ref b1), .val (.int ln), .val (.ref b18), .val (.int i89_0), .val (.int i128_0), .unset, .unset, .unset, .unset] [(.int ln), (.int i128_0), (.int r38)]))) (fun t k => ?_) ?_
  · show Steps p.tables e below (T20.setTop (mkF m 136 #[.val (.int p1), .val (.int p2), .val (.int p3), .val (.int p4), .val (.int p5), .val (.ref b1), .val (.int ln), .val (.ref b18), .val (.int i89_0), .unset, .unset, .unset, .unset, .unset] [(.int i128_0)])) _
    refine XS.istore X20.here hx rfl (hb hby at_136) rfl (l' := #[.val (.int p1), .val (.int p2), .val (.int p3), .val (.int p4), .val (.int p5), .val (.ref b1), .val (.int ln), .val (.ref b18), .val (.int i89_0), .val (.int i128_0), .unset, .unset, .unset, .unset]) rfl ?_
    show Steps p.tables e below (T20.setTop (mkF m 138 #[.val (.int p1), .val (.int p2), .val (.int p3), .val (.int p4), .val (.int p5), .val (.ref b1), .val (.int ln), .val (.ref b18), .val (.int i89_0), .val (.int i128_0), .unset, .unset, .unset, .unset] [])) _
    refine XS.aload X20.here hx rfl (hb hby at_138) rfl rfl ?_
    show Steps p.tables e below (T20.setTop (mkF m 140 #[.val (.int p1), .val (.int p2), .val (.int p3), .val (.int p4), .val (.int p5), .val (.ref b1), .val (.int ln), .val (.ref b18), .val (.int i89_0), .val (.int i128_0), .unset, .unset, .unset, .unset] [(.ref b18)])) _
    refine st34.trans ?_
    show Steps p.tables e below (T34.setTop (mkF m 143 #[.val (.int p1), .val (.int p2), .val (.int p3), .val (.int p4), .val (.int p5), .val (.ref b1), .val (.int ln), .val (.ref b18), .val (.int i89_0), .val (.int i128_0), .unset, .unset, .unset, .unset] [])) _
    refine XS.aload X34.here hx rfl (hb hby at_143) rfl rfl ?_
    show Steps p.tables e below (T34.setTop (mkF m 145 #[.val (.int p1), .val (.int p2), .val (.int p3), .val (.int p4), .val (.int p5), .val (.ref b1), .val (.int ln), .val (.ref b18), .val (.int i89_0), .val (.int i128_0), .unset, .unset, .unset, .unset] [(.ref b18)])) _
    refine st37.trans ?_
    show Steps p.tables e below (T37.setTop (mkF m 148 #[.val (.int p1), .val (.int p2), .val (.int p3), .val (.int p4), .val (.int p5), .val (.ref b1), .val (.int ln), .val (.ref b18), .val (.int i89_0), .val (.int i128_0), .unset, .unset, .unset, .unset] [(.int i128_0)])) _
    refine XS.iload X37.here hx rfl (hb hby at_148) rfl ?_
    show Steps p.tables e below (T37.setTop (mkF m 150 #[.val (.int p1), .val (.int p2), .val (.int p3), .val (.int p4), .val (.int p5), .val (.ref b1), .val (.int ln), .val (.ref b18), .val (.int i89_0), .val (.int i128_0), .unset, .unset, .unset, .unset] [(.int i128_0), (.int i128_0)])) _
    refine XS.icmpNo X37.here hx rfl (hb hby at_150) rfl ((teq (rfl : i128_0 = i128_0)).2) ?_
    show Steps p.tables e below (T37.setTop (mkF m 153 #[.val (.int p1), .val (.int p2), .val (.int p3), .val (.int p4), .val (.int p5), .val (.ref b1), .val (.int ln), .val (.ref b18), .val (.int i89_0), .val (.int i128_0), .unset, .unset, .unset, .unset] [])) _
    refine XS.aload X37.here hx rfl (hb hby at_153) rfl rfl ?_
    show Steps p.tables e below (T37.setTop (mkF m 155 #[.val (.int p1), .val (.int p2), .val (.int p3), .val (.int p4), .val (.int p5), .val (.ref b1), .val (.int ln), .val (.ref b18), .val (.int i89_0), .val (.int i128_0), .unset, .unset, .unset, .unset] [(.ref b18)])) _
    refine st38.trans ?_
    show Steps p.tables e below (T38.setTop (mkF m 158 #[.val (.int p1), .val (.int p2), .val (.int p3), .val (.int p4), .val (.int p5), .val (.ref b1), .val (.int ln), .val (.ref b18), .val (.int i89_0), .val (.int i128_0), .unset, .unset, .unset, .unset] [(.int r38)])) _
    refine XS.iload X38.here hx rfl (hb hby at_158) rfl ?_
    show Steps p.tables e below (T38.setTop (mkF m 160 #[.val (.int p1), .val (.int p2), .val (.int p3), .val (.int p4), .val (.int p5), .val (.ref b1), .val (.int ln), .val (.ref b18), .val (.int i89_0), .val (.int i128_0), .unset, .unset, .unset, .unset] [(.int i128_0), (.int r38)])) _
    refine XS.iload X38.here hx rfl (hb hby at_160) rfl ?_
    show Steps p.tables e below (T38.setTop (mkF m 162 #[.val (.int p1), .val (.int p2), .val (.int p3), .val (.int p4), .val (.int p5), .val (.ref b1), .val (.int ln), .val (.ref b18), .val (.int i89_0), .val (.int i128_0), .unset, .unset, .unset, .unset] [(.int ln), (.int i128_0), (.int r38)])) _
    exact k
  suffices J162_39 : ∀ (i162_0 : Int32), i162_0 = (if i128_0 = ln then (1 : Int32) else (0 : Int32)) → GoalS p.tables e below s 16 384 (Q0 Z p1 p2 p3 p4 p5 h0 n0) (T38.setTop (mkF m 170 #[.val (.int p1), .val (.int p2), .val (.int p3), .val (.int p4), .val (.int p5), .val (.ref b1), .val (.int ln), .val (.ref b18), .val (.int i89_0), .val (.int i128_0), .unset, .unset, .unset, .unset] [(.int i162_0), (.int r38)])) by
    by_cases hc162_40 : i128_0 = ln
    · refine GoalS.lift (B := (T38.setTop (mkF m 170 #[.val (.int p1), .val (.int p2), .val (.int p3), .val (.int p4), .val (.int p5), .val (.ref b1), .val (.int ln), .val (.ref b18), .val (.int i89_0), .val (.int i128_0), .unset, .unset, .unset, .unset] [(.int (1 : Int32)), (.int r38)]))) (fun t k => ?_) ?_
      · show Steps p.tables e below (T38.setTop (mkF m 162 #[.val (.int p1), .val (.int p2), .val (.int p3), .val (.int p4), .val (.int p5), .val (.ref b1), .val (.int ln), .val (.ref b18), .val (.int i89_0), .val (.int i128_0), .unset, .unset, .unset, .unset] [(.int ln), (.int i128_0), (.int r38)])) _
        refine XS.icmpNo X38.here hx rfl (hb hby at_162) rfl ((teq hc162_40).2) ?_
        show Steps p.tables e below (T38.setTop (mkF m 165 #[.val (.int p1), .val (.int p2), .val (.int p3), .val (.int p4), .val (.int p5), .val (.ref b1), .val (.int ln), .val (.ref b18), .val (.int i89_0), .val (.int i128_0), .unset, .unset, .unset, .unset] [(.int r38)])) _
        refine XS.iconst X38.here hx rfl (hb hby at_165) ?_
        show Steps p.tables e below (T38.setTop (mkF m 166 #[.val (.int p1), .val (.int p2), .val (.int p3), .val (.int p4), .val (.int p5), .val (.ref b1), .val (.int ln), .val (.ref b18), .val (.int i89_0), .val (.int i128_0), .unset, .unset, .unset, .unset] [(.int (1 : Int32)), (.int r38)])) _
        refine XS.goto X38.here hx rfl (pc0 := 166) (pc' := 170) rfl (hb hby at_166) (by decide) (by decide) ?_
        show Steps p.tables e below (T38.setTop (mkF m 170 #[.val (.int p1), .val (.int p2), .val (.int p3), .val (.int p4), .val (.int p5), .val (.ref b1), .val (.int ln), .val (.ref b18), .val (.int i89_0), .val (.int i128_0), .unset, .unset, .unset, .unset] [(.int (1 : Int32)), (.int r38)])) _
        exact k
      exact J162_39 _ (by simp only [if_pos hc162_40])
    · refine GoalS.lift (B := (T38.setTop (mkF m 170 #[.val (.int p1), .val (.int p2), .val (.int p3), .val (.int p4), .val (.int p5), .val (.ref b1), .val (.int ln), .val (.ref b18), .val (.int i89_0), .val (.int i128_0), .unset, .unset, .unset, .unset] [(.int (0 : Int32)), (.int r38)]))) (fun t k => ?_) ?_
      · show Steps p.tables e below (T38.setTop (mkF m 162 #[.val (.int p1), .val (.int p2), .val (.int p3), .val (.int p4), .val (.int p5), .val (.ref b1), .val (.int ln), .val (.ref b18), .val (.int i89_0), .val (.int i128_0), .unset, .unset, .unset, .unset] [(.int ln), (.int i128_0), (.int r38)])) _
        refine XS.icmpYes X38.here hx rfl (pc0 := 162) (pc' := 169) rfl (hb hby at_162) rfl ((feq hc162_40).2) (by decide) (by decide) ?_
        show Steps p.tables e below (T38.setTop (mkF m 169 #[.val (.int p1), .val (.int p2), .val (.int p3), .val (.int p4), .val (.int p5), .val (.ref b1), .val (.int ln), .val (.ref b18), .val (.int i89_0), .val (.int i128_0), .unset, .unset, .unset, .unset] [(.int r38)])) _
        refine XS.iconst X38.here hx rfl (hb hby at_169) ?_
        show Steps p.tables e below (T38.setTop (mkF m 170 #[.val (.int p1), .val (.int p2), .val (.int p3), .val (.int p4), .val (.int p5), .val (.ref b1), .val (.int ln), .val (.ref b18), .val (.int i89_0), .val (.int i128_0), .unset, .unset, .unset, .unset] [(.int (0 : Int32)), (.int r38)])) _
        exact k
      exact J162_39 _ (by simp only [if_neg hc162_40])
  intro i162_0 h_i162_0
  refine GoalS.lift (B := (T38.setTop (mkF m 184 #[.val (.int p1), .val (.int p2), .val (.int p3), .val (.int p4), .val (.int p5), .val (.ref b1), .val (.int ln), .val (.ref b18), .val (.int i89_0), .val (.int i128_0), .val (.int (1 : Int32)), .unset, .unset, .unset] [(.int ln), (.int i128_0)]))) (fun t k => ?_) ?_
  · show Steps p.tables e below (T38.setTop (mkF m 170 #[.val (.int p1), .val (.int p2), .val (.int p3), .val (.int p4), .val (.int p5), .val (.ref b1), .val (.int ln), .val (.ref b18), .val (.int i89_0), .val (.int i128_0), .unset, .unset, .unset, .unset] [(.int i162_0), (.int r38)])) _
    refine XS.icmpNo X38.here hx rfl (hb hby at_170) rfl ((teq (by rw [hr38, h_i162_0] : r38 = i162_0)).2) ?_
    show Steps p.tables e below (T38.setTop (mkF m 173 #[.val (.int p1), .val (.int p2), .val (.int p3), .val (.int p4), .val (.int p5), .val (.ref b1), .val (.int ln), .val (.ref b18), .val (.int i89_0), .val (.int i128_0), .unset, .unset, .unset, .unset] [])) _
    refine XS.iconst X38.here hx rfl (hb hby at_173) ?_
    show Steps p.tables e below (T38.setTop (mkF m 174 #[.val (.int p1), .val (.int p2), .val (.int p3), .val (.int p4), .val (.int p5), .val (.ref b1), .val (.int ln), .val (.ref b18), .val (.int i89_0), .val (.int i128_0), .unset, .unset, .unset, .unset] [(.int (1 : Int32))])) _
    refine XS.goto X38.here hx rfl (pc0 := 174) (pc' := 178) rfl (hb hby at_174) (by decide) (by decide) ?_
    show Steps p.tables e below (T38.setTop (mkF m 178 #[.val (.int p1), .val (.int p2), .val (.int p3), .val (.int p4), .val (.int p5), .val (.ref b1), .val (.int ln), .val (.ref b18), .val (.int i89_0), .val (.int i128_0), .unset, .unset, .unset, .unset] [(.int (1 : Int32))])) _
    refine XS.istore X38.here hx rfl (hb hby at_178) rfl (l' := #[.val (.int p1), .val (.int p2), .val (.int p3), .val (.int p4), .val (.int p5), .val (.ref b1), .val (.int ln), .val (.ref b18), .val (.int i89_0), .val (.int i128_0), .val (.int (1 : Int32)), .unset, .unset, .unset]) rfl ?_
    show Steps p.tables e below (T38.setTop (mkF m 180 #[.val (.int p1), .val (.int p2), .val (.int p3), .val (.int p4), .val (.int p5), .val (.ref b1), .val (.int ln), .val (.ref b18), .val (.int i89_0), .val (.int i128_0), .val (.int (1 : Int32)), .unset, .unset, .unset] [])) _
    refine XS.iload X38.here hx rfl (hb hby at_180) rfl ?_
    show Steps p.tables e below (T38.setTop (mkF m 182 #[.val (.int p1), .val (.int p2), .val (.int p3), .val (.int p4), .val (.int p5), .val (.ref b1), .val (.int ln), .val (.ref b18), .val (.int i89_0), .val (.int i128_0), .val (.int (1 : Int32)), .unset, .unset, .unset] [(.int i128_0)])) _
    refine XS.iload X38.here hx rfl (hb hby at_182) rfl ?_
    show Steps p.tables e below (T38.setTop (mkF m 184 #[.val (.int p1), .val (.int p2), .val (.int p3), .val (.int p4), .val (.int p5), .val (.ref b1), .val (.int ln), .val (.ref b18), .val (.int i89_0), .val (.int i128_0), .val (.int (1 : Int32)), .unset, .unset, .unset] [(.int ln), (.int i128_0)])) _
    exact k
  suffices J184_41 : ∀ (i184_0 : Int32), i184_0 = (if i128_0 < ln then (if (fn16 (i128_0).toNatClampNeg) < (0 : Int32) then (0 : Int32) else (1 : Int32)) else (0 : Int32)) → GoalS p.tables e below s 16 384 (Q0 Z p1 p2 p3 p4 p5 h0 n0) (T38.setTop (mkF m 200 #[.val (.int p1), .val (.int p2), .val (.int p3), .val (.int p4), .val (.int p5), .val (.ref b1), .val (.int ln), .val (.ref b18), .val (.int i89_0), .val (.int i128_0), .val (.int (1 : Int32)), .unset, .unset, .unset] [(.int i184_0)])) by
    by_cases hc184_42 : i128_0 < ln
    · have f44 : AV Z T34.heap b1 k1 .byte 6 (fun i => Value.int (fn16 i)) := (f35.keep p34_0 (ninS ne_b1_b18 nin0))
      obtain ⟨cl43, Ar43, kc43, sz43, -, hv43⟩ := id f44
      have hin43 : ¬ (i128_0 < 0 ∨ cl43.slots.size ≤ (i128_0).toNatClampNeg) := AV.inb sz43 (own_p6 h03)
      have hat43 : cl43.slots[(i128_0).toNatClampNeg]? = some (.int (fn16 (i128_0).toNatClampNeg)) := (hv43 _ (AV.inx (own_p6 h03))).trans (congrArg some rfl)
      refine GoalS.lift (B := (T38.setTop (mkF m 192 #[.val (.int p1), .val (.int p2), .val (.int p3), .val (.int p4), .val (.int p5), .val (.ref b1), .val (.int ln), .val (.ref b18), .val (.int i89_0), .val (.int i128_0), .val (.int (1 : Int32)), .unset, .unset, .unset] [(.int (fn16 (i128_0).toNatClampNeg))]))) (fun t k => ?_) ?_
      · show Steps p.tables e below (T38.setTop (mkF m 184 #[.val (.int p1), .val (.int p2), .val (.int p3), .val (.int p4), .val (.int p5), .val (.ref b1), .val (.int ln), .val (.ref b18), .val (.int i89_0), .val (.int i128_0), .val (.int (1 : Int32)), .unset, .unset, .unset] [(.int ln), (.int i128_0)])) _
        refine XS.icmpNo X38.here hx rfl (hb hby at_184) rfl ((tlt hc184_42).2.1) ?_
        show Steps p.tables e below (T38.setTop (mkF m 187 #[.val (.int p1), .val (.int p2), .val (.int p3), .val (.int p4), .val (.int p5), .val (.ref b1), .val (.int ln), .val (.ref b18), .val (.int i89_0), .val (.int i128_0), .val (.int (1 : Int32)), .unset, .unset, .unset] [])) _
        refine XS.aload X38.here hx rfl (hb hby at_187) rfl rfl ?_
        show Steps p.tables e below (T38.setTop (mkF m 189 #[.val (.int p1), .val (.int p2), .val (.int p3), .val (.int p4), .val (.int p5), .val (.ref b1), .val (.int ln), .val (.ref b18), .val (.int i89_0), .val (.int i128_0), .val (.int (1 : Int32)), .unset, .unset, .unset] [(.ref b1)])) _
        refine XS.iload X38.here hx rfl (hb hby at_189) rfl ?_
        show Steps p.tables e below (T38.setTop (mkF m 191 #[.val (.int p1), .val (.int p2), .val (.int p3), .val (.int p4), .val (.int p5), .val (.ref b1), .val (.int ln), .val (.ref b18), .val (.int i89_0), .val (.int i128_0), .val (.int (1 : Int32)), .unset, .unset, .unset] [(.int i128_0), (.ref b1)])) _
        refine X38.baloadBytes hx (j := i128_0) (v := (.int (fn16 (i128_0).toNatClampNeg))) (by rw [eq38]; exact Ar43.1) (State.isArrayOf_alike hZ.alike Ar43.2.1) Ar43.2.2 hin43 hat43 (g := (mkF m 191 #[.val (.int p1), .val (.int p2), .val (.int p3), .val (.int p4), .val (.int p5), .val (.ref b1), .val (.int ln), .val (.ref b18), .val (.int i89_0), .val (.int i128_0), .val (.int (1 : Int32)), .unset, .unset, .unset] [(.int i128_0), (.ref b1)])) rfl rfl (hb hby at_191) _ ?_
        show Steps p.tables e below (T38.setTop (mkF m 192 #[.val (.int p1), .val (.int p2), .val (.int p3), .val (.int p4), .val (.int p5), .val (.ref b1), .val (.int ln), .val (.ref b18), .val (.int i89_0), .val (.int i128_0), .val (.int (1 : Int32)), .unset, .unset, .unset] [(.int (fn16 (i128_0).toNatClampNeg))])) _
        exact k
      by_cases hc192_45 : (fn16 (i128_0).toNatClampNeg) < (0 : Int32)
      · refine GoalS.lift (B := (T38.setTop (mkF m 200 #[.val (.int p1), .val (.int p2), .val (.int p3), .val (.int p4), .val (.int p5), .val (.ref b1), .val (.int ln), .val (.ref b18), .val (.int i89_0), .val (.int i128_0), .val (.int (1 : Int32)), .unset, .unset, .unset] [(.int (0 : Int32))]))) (fun t k => ?_) ?_
        · show Steps p.tables e below (T38.setTop (mkF m 192 #[.val (.int p1), .val (.int p2), .val (.int p3), .val (.int p4), .val (.int p5), .val (.ref b1), .val (.int ln), .val (.ref b18), .val (.int i89_0), .val (.int i128_0), .val (.int (1 : Int32)), .unset, .unset, .unset] [(.int (fn16 (i128_0).toNatClampNeg))])) _
          refine XS.ifYes X38.here hx rfl (pc0 := 192) (pc' := 199) rfl (hb hby at_192) rfl ((if0 _ _).trans (tlt hc192_45).1) (by decide) (by decide) ?_
          show Steps p.tables e below (T38.setTop (mkF m 199 #[.val (.int p1), .val (.int p2), .val (.int p3), .val (.int p4), .val (.int p5), .val (.ref b1), .val (.int ln), .val (.ref b18), .val (.int i89_0), .val (.int i128_0), .val (.int (1 : Int32)), .unset, .unset, .unset] [])) _
          refine XS.iconst X38.here hx rfl (hb hby at_199) ?_
          show Steps p.tables e below (T38.setTop (mkF m 200 #[.val (.int p1), .val (.int p2), .val (.int p3), .val (.int p4), .val (.int p5), .val (.ref b1), .val (.int ln), .val (.ref b18), .val (.int i89_0), .val (.int i128_0), .val (.int (1 : Int32)), .unset, .unset, .unset] [(.int (0 : Int32))])) _
          exact k
        exact J184_41 _ (by simp only [if_pos hc184_42, if_pos hc192_45])
      · refine GoalS.lift (B := (T38.setTop (mkF m 200 #[.val (.int p1), .val (.int p2), .val (.int p3), .val (.int p4), .val (.int p5), .val (.ref b1), .val (.int ln), .val (.ref b18), .val (.int i89_0), .val (.int i128_0), .val (.int (1 : Int32)), .unset, .unset, .unset] [(.int (1 : Int32))]))) (fun t k => ?_) ?_
        · show Steps p.tables e below (T38.setTop (mkF m 192 #[.val (.int p1), .val (.int p2), .val (.int p3), .val (.int p4), .val (.int p5), .val (.ref b1), .val (.int ln), .val (.ref b18), .val (.int i89_0), .val (.int i128_0), .val (.int (1 : Int32)), .unset, .unset, .unset] [(.int (fn16 (i128_0).toNatClampNeg))])) _
          refine XS.ifNo X38.here hx rfl (hb hby at_192) rfl ((if0 _ _).trans (flt hc192_45).1) ?_
          show Steps p.tables e below (T38.setTop (mkF m 195 #[.val (.int p1), .val (.int p2), .val (.int p3), .val (.int p4), .val (.int p5), .val (.ref b1), .val (.int ln), .val (.ref b18), .val (.int i89_0), .val (.int i128_0), .val (.int (1 : Int32)), .unset, .unset, .unset] [])) _
          refine XS.iconst X38.here hx rfl (hb hby at_195) ?_
          show Steps p.tables e below (T38.setTop (mkF m 196 #[.val (.int p1), .val (.int p2), .val (.int p3), .val (.int p4), .val (.int p5), .val (.ref b1), .val (.int ln), .val (.ref b18), .val (.int i89_0), .val (.int i128_0), .val (.int (1 : Int32)), .unset, .unset, .unset] [(.int (1 : Int32))])) _
          refine XS.goto X38.here hx rfl (pc0 := 196) (pc' := 200) rfl (hb hby at_196) (by decide) (by decide) ?_
          show Steps p.tables e below (T38.setTop (mkF m 200 #[.val (.int p1), .val (.int p2), .val (.int p3), .val (.int p4), .val (.int p5), .val (.ref b1), .val (.int ln), .val (.ref b18), .val (.int i89_0), .val (.int i128_0), .val (.int (1 : Int32)), .unset, .unset, .unset] [(.int (1 : Int32))])) _
          exact k
        exact J184_41 _ (by simp only [if_pos hc184_42, if_neg hc192_45])
    · refine GoalS.lift (B := (T38.setTop (mkF m 200 #[.val (.int p1), .val (.int p2), .val (.int p3), .val (.int p4), .val (.int p5), .val (.ref b1), .val (.int ln), .val (.ref b18), .val (.int i89_0), .val (.int i128_0), .val (.int (1 : Int32)), .unset, .unset, .unset] [(.int (0 : Int32))]))) (fun t k => ?_) ?_
      · show Steps p.tables e below (T38.setTop (mkF m 184 #[.val (.int p1), .val (.int p2), .val (.int p3), .val (.int p4), .val (.int p5), .val (.ref b1), .val (.int ln), .val (.ref b18), .val (.int i89_0), .val (.int i128_0), .val (.int (1 : Int32)), .unset, .unset, .unset] [(.int ln), (.int i128_0)])) _
        refine XS.icmpYes X38.here hx rfl (pc0 := 184) (pc' := 199) rfl (hb hby at_184) rfl ((flt hc184_42).2.1) (by decide) (by decide) ?_
        show Steps p.tables e below (T38.setTop (mkF m 199 #[.val (.int p1), .val (.int p2), .val (.int p3), .val (.int p4), .val (.int p5), .val (.ref b1), .val (.int ln), .val (.ref b18), .val (.int i89_0), .val (.int i128_0), .val (.int (1 : Int32)), .unset, .unset, .unset] [])) _
        refine XS.iconst X38.here hx rfl (hb hby at_199) ?_
        show Steps p.tables e below (T38.setTop (mkF m 200 #[.val (.int p1), .val (.int p2), .val (.int p3), .val (.int p4), .val (.int p5), .val (.ref b1), .val (.int ln), .val (.ref b18), .val (.int i89_0), .val (.int i128_0), .val (.int (1 : Int32)), .unset, .unset, .unset] [(.int (0 : Int32))])) _
        exact k
      exact J184_41 _ (by simp only [if_neg hc184_42])
  intro i184_0 h_i184_0
  have f47 : AV Z T34.heap b1 k1 .byte 6 (fun i => Value.int (fn16 i)) := (f35.keep p34_0 (ninS ne_b1_b18 nin0))
  obtain ⟨cl46, Ar46, kc46, sz46, -, hv46⟩ := id f47
  have hin46 : ¬ (i128_0 < 0 ∨ cl46.slots.size ≤ (i128_0).toNatClampNeg) := AV.inb sz46 (own_p6 h03)
  have hat46 : cl46.slots[(i128_0).toNatClampNeg]? = some (.int (fn16 (i128_0).toNatClampNeg)) := (hv46 _ (AV.inx (own_p6 h03))).trans (congrArg some rfl)
  obtain ⟨cq48, kq48, q48a, q48b, q48c⟩ := isOf hZ eq38 p34_1
  obtain ⟨_, _, ⟨T48, L48, k48, n48⟩, -, X48, ⟨Lc48, hQ48, l48, y48, z48⟩, st48⟩ := X38.virtualBack hx (y := (⟨"com/example/verdict/verdict/saml/XmlScanner", "skip", "(C)Z"⟩ : MethodName)) (z := (⟨"com/example/verdict/verdict/saml/XmlScanner", "skip", "(C)Z"⟩ : MethodName)) hown (mvT hZ (hw _ (List.mem_of_getElem? (i := 46) rfl))) (mvT hZ (hw _ (List.mem_of_getElem? (i := 47) rfl))) (notFace_of_selects (args := #[]) (mvT hZ (hw _ (List.mem_of_getElem? (i := 49) rfl)))) (mvT hZ (hw _ (List.mem_of_getElem? (i := 49) rfl))) (mvT hZ (hw _ (List.mem_of_getElem? (i := 48) rfl))) (by decide) (backOf (W := 0) (rm9 l Z a0 hw [] b18 ((((fn16 (i128_0).toNatClampNeg) &&& (255 : Int32))).toUInt32.toUInt16.toUInt32.toInt32) i128_0 ln b1 k1 6 fn16 (6 : Int32) T34.heap n0 z36 p34_1 g_b18 Fp150 p34_3 p34_4 f47 (own_p0 h03) hl.2) hZ (hw _ (List.mem_of_getElem? (i := 50) rfl)) (hw _ (List.mem_of_getElem? (i := 8) rfl)) (by decide) (by decide)) q48a q48c (g := (mkF m 214 #[.val (.int p1), .val (.int p2), .val (.int p3), .val (.int p4), .val (.int p5), .val (.ref b1), .val (.int ln), .val (.ref b18), .val (.int i89_0), .val (.int i128_0), .val (.int (1 : Int32)), .val (.int i184_0), .unset, .unset] [(.int ((((fn16 (i128_0).toNatClampNeg) &&& (255 : Int32))).toUInt32.toUInt16.toUInt32.toInt32)), (.ref b18)])) rfl (by rw [hml]; rfl) (Steps.refl _) (argsL := [(.int ((((fn16 (i128_0).toNatClampNeg) &&& (255 : Int32))).toUInt32.toUInt16.toUInt32.toInt32))]) (rest := []) (lenOf pd_7 rfl) rfl (by show 2 * 0 + _ ≤ _; exact Nat.le_of_eq rfl) (hb hby at_214) (fun _ _ => ⟨rfl, eq38, (by decide : 3 + 0 ≤ _), (by decide : 139 + 0 ≤ _)⟩)
  dsimp only [Pt.U, Pt.locs, Pt.cells, Pt.slots] at X48 l48 y48 z48 st48 hQ48
  subst l48 y48 z48
  obtain ⟨w2_48, r48, rfl, hr48, N48q, p48_0, p48_1, p48_2, p48_3, p48_4, p48_5⟩ := hQ48
  have N48 := Fr.app N38 N48q
  have z49 : n0 ≤ T48.heap.size := Nat.le_trans z36 p48_0.1
  refine GoalS.lift (B := (T48.setTop (mkF m 221 #[.val (.int p1), .val (.int p2), .val (.int p3), .val (.int p4), .val (.int p5), .val (.ref b1), .val (.int ln), .val (.ref b18), .val (.int i89_0), .val (.int i128_0), .val (.int (1 : Int32)), .val (.int i184_0), .val (.int r48), .unset] [(.int i184_0)]))) (fun t k => ?_) ?_
  · show Steps p.tables e below (T38.setTop (mkF m 200 #[.val (.int p1), .val (.int p2), .val (.int p3), .val (.int p4), .val (.int p5), .val (.ref b1), .val (.int ln), .val (.ref b18), .val (.int i89_0), .val (.int i128_0), .val (.int (1 : Int32)), .unset, .unset, .unset] [(.int i184_0)])) _
    refine XS.istore X38.here hx rfl (hb hby at_200) rfl (l' := #[.val (.int p1), .val (.int p2), .val (.int p3), .val (.int p4), .val (.int p5), .val (.ref b1), .val (.int ln), .val (.ref b18), .val (.int i89_0), .val (.int i128_0), .val (.int (1 : Int32)), .val (.int i184_0), .unset, .unset]) rfl ?_
    show Steps p.tables e below (T38.setTop (mkF m 202 #[.val (.int p1), .val (.int p2), .val (.int p3), .val (.int p4), .val (.int p5), .val (.ref b1), .val (.int ln), .val (.ref b18), .val (.int i89_0), .val (.int i128_0), .val (.int (1 : Int32)), .val (.int i184_0), .unset, .unset] [])) _
    refine XS.aload X38.here hx rfl (hb hby at_202) rfl rfl ?_
    show Steps p.tables e below (T38.setTop (mkF m 204 #[.val (.int p1), .val (.int p2), .val (.int p3), .val (.int p4), .val (.int p5), .val (.ref b1), .val (.int ln), .val (.ref b18), .val (.int i89_0), .val (.int i128_0), .val (.int (1 : Int32)), .val (.int i184_0), .unset, .unset] [(.ref b18)])) _
    refine XS.aload X38.here hx rfl (hb hby at_204) rfl rfl ?_
    show Steps p.tables e below (T38.setTop (mkF m 206 #[.val (.int p1), .val (.int p2), .val (.int p3), .val (.int p4), .val (.int p5), .val (.ref b1), .val (.int ln), .val (.ref b18), .val (.int i89_0), .val (.int i128_0), .val (.int (1 : Int32)), .val (.int i184_0), .unset, .unset] [(.ref b1), (.ref b18)])) _
    refine XS.iload X38.here hx rfl (hb hby at_206) rfl ?_
    show Steps p.tables e below (T38.setTop (mkF m 208 #[.val (.int p1), .val (.int p2), .val (.int p3), .val (.int p4), .val (.int p5), .val (.ref b1), .val (.int ln), .val (.ref b18), .val (.int i89_0), .val (.int i128_0), .val (.int (1 : Int32)), .val (.int i184_0), .unset, .unset] [(.int i128_0), (.ref b1), (.ref b18)])) _
    refine X38.baloadBytes hx (j := i128_0) (v := (.int (fn16 (i128_0).toNatClampNeg))) (by rw [eq38]; exact Ar46.1) (State.isArrayOf_alike hZ.alike Ar46.2.1) Ar46.2.2 hin46 hat46 (g := (mkF m 208 #[.val (.int p1), .val (.int p2), .val (.int p3), .val (.int p4), .val (.int p5), .val (.ref b1), .val (.int ln), .val (.ref b18), .val (.int i89_0), .val (.int i128_0), .val (.int (1 : Int32)), .val (.int i184_0), .unset, .unset] [(.int i128_0), (.ref b1), (.ref b18)])) rfl rfl (hb hby at_208) _ ?_
    show Steps p.tables e below (T38.setTop (mkF m 209 #[.val (.int p1), .val (.int p2), .val (.int p3), .val (.int p4), .val (.int p5), .val (.ref b1), .val (.int ln), .val (.ref b18), .val (.int i89_0), .val (.int i128_0), .val (.int (1 : Int32)), .val (.int i184_0), .unset, .unset] [(.int (fn16 (i128_0).toNatClampNeg)), (.ref b18)])) _
    refine XS.sipush X38.here hx rfl (hb hby at_209) ?_
    show Steps p.tables e below (T38.setTop (mkF m 212 #[.val (.int p1), .val (.int p2), .val (.int p3), .val (.int p4), .val (.int p5), .val (.ref b1), .val (.int ln), .val (.ref b18), .val (.int i89_0), .val (.int i128_0), .val (.int (1 : Int32)), .val (.int i184_0), .unset, .unset] [(.int (255 : Int32)), (.int (fn16 (i128_0).toNatClampNeg)), (.ref b18)])) _
    refine XS.iand X38.here hx rfl (hb hby at_212) rfl ?_
    show Steps p.tables e below (T38.setTop (mkF m 213 #[.val (.int p1), .val (.int p2), .val (.int p3), .val (.int p4), .val (.int p5), .val (.ref b1), .val (.int ln), .val (.ref b18), .val (.int i89_0), .val (.int i128_0), .val (.int (1 : Int32)), .val (.int i184_0), .unset, .unset] [(.int ((fn16 (i128_0).toNatClampNeg) &&& (255 : Int32))), (.ref b18)])) _
    refine XS.i2c X38.here hx rfl (hb hby at_213) rfl ?_
    show Steps p.tables e below (T38.setTop (mkF m 214 #[.val (.int p1), .val (.int p2), .val (.int p3), .val (.int p4), .val (.int p5), .val (.ref b1), .val (.int ln), .val (.ref b18), .val (.int i89_0), .val (.int i128_0), .val (.int (1 : Int32)), .val (.int i184_0), .unset, .unset] [(.int ((((fn16 (i128_0).toNatClampNeg) &&& (255 : Int32))).toUInt32.toUInt16.toUInt32.toInt32)), (.ref b18)])) _
    refine st48.trans ?_
    show Steps p.tables e below (T48.setTop (mkF m 217 #[.val (.int p1), .val (.int p2), .val (.int p3), .val (.int p4), .val (.int p5), .val (.ref b1), .val (.int ln), .val (.ref b18), .val (.int i89_0), .val (.int i128_0), .val (.int (1 : Int32)), .val (.int i184_0), .unset, .unset] [(.int r48)])) _
    refine XS.istore X48.here hx rfl (hb hby at_217) rfl (l' := #[.val (.int p1), .val (.int p2), .val (.int p3), .val (.int p4), .val (.int p5), .val (.ref b1), .val (.int ln), .val (.ref b18), .val (.int i89_0), .val (.int i128_0), .val (.int (1 : Int32)), .val (.int i184_0), .val (.int r48), .unset]) rfl ?_
    show Steps p.tables e below (T48.setTop (mkF m 219 #[.val (.int p1), .val (.int p2), .val (.int p3), .val (.int p4), .val (.int p5), .val (.ref b1), .val (.int ln), .val (.ref b18), .val (.int i89_0), .val (.int i128_0), .val (.int (1 : Int32)), .val (.int i184_0), .val (.int r48), .unset] [])) _
    refine XS.iload X48.here hx rfl (hb hby at_219) rfl ?_
    show Steps p.tables e below (T48.setTop (mkF m 221 #[.val (.int p1), .val (.int p2), .val (.int p3), .val (.int p4), .val (.int p5), .val (.ref b1), .val (.int ln), .val (.ref b18), .val (.int i89_0), .val (.int i128_0), .val (.int (1 : Int32)), .val (.int i184_0), .val (.int r48), .unset] [(.int i184_0)])) _
    exact k
  suffices J221_50 : ∀ (i221_0 : Int32), i221_0 = (if i184_0 = (0 : Int32) then i128_0 else (i128_0 + (1 : Int32))) → GoalS p.tables e below s 16 384 (Q0 Z p1 p2 p3 p4 p5 h0 n0) (T48.setTop (mkF m 233 #[.val (.int p1), .val (.int p2), .val (.int p3), .val (.int p4), .val (.int p5), .val (.ref b1), .val (.int ln), .val (.ref b18), .val (.int i89_0), .val (.int i128_0), .val (.int (1 : Int32)), .val (.int i184_0), .val (.int r48), .unset] [(.int i221_0)])) by
    by_cases hc221_51 : i184_0 = (0 : Int32)
    · refine GoalS.lift (B := (T48.setTop (mkF m 233 #[.val (.int p1), .val (.int p2), .val (.int p3), .val (.int p4), .val (.int p5), .val (.ref b1), .val (.int ln), .val (.ref b18), .val (.int i89_0), .val (.int i128_0), .val (.int (1 : Int32)), .val (.int i184_0), .val (.int r48), .unset] [(.int i128_0)]))) (fun t k => ?_) ?_
      · show Steps p.tables e below (T48.setTop (mkF m 221 #[.val (.int p1), .val (.int p2), .val (.int p3), .val (.int p4), .val (.int p5), .val (.ref b1), .val (.int ln), .val (.ref b18), .val (.int i89_0), .val (.int i128_0), .val (.int (1 : Int32)), .val (.int i184_0), .val (.int r48), .unset] [(.int i184_0)])) _
        refine XS.ifYes X48.here hx rfl (pc0 := 221) (pc' := 231) rfl (hb hby at_221) rfl ((if0 _ _).trans (teq hc221_51).1) (by decide) (by decide) ?_
        show Steps p.tables e below (T48.setTop (mkF m 231 #[.val (.int p1), .val (.int p2), .val (.int p3), .val (.int p4), .val (.int p5), .val (.ref b1), .val (.int ln), .val (.ref b18), .val (.int i89_0), .val (.int i128_0), .val (.int (1 : Int32)), .val (.int i184_0), .val (.int r48), .unset] [])) _
        refine XS.iload X48.here hx rfl (hb hby at_231) rfl ?_
        show Steps p.tables e below (T48.setTop (mkF m 233 #[.val (.int p1), .val (.int p2), .val (.int p3), .val (.int p4), .val (.int p5), .val (.ref b1), .val (.int ln), .val (.ref b18), .val (.int i89_0), .val (.int i128_0), .val (.int (1 : Int32)), .val (.int i184_0), .val (.int r48), .unset] [(.int i128_0)])) _
        exact k
      exact J221_50 _ (by simp only [if_pos hc221_51])
    · refine GoalS.lift (B := (T48.setTop (mkF m 233 #[.val (.int p1), .val (.int p2), .val (.int p3), .val (.int p4), .val (.int p5), .val (.ref b1), .val (.int ln), .val (.ref b18), .val (.int i89_0), .val (.int i128_0), .val (.int (1 : Int32)), .val (.int i184_0), .val (.int r48), .unset] [(.int (i128_0 + (1 : Int32)))]))) (fun t k => ?_) ?_
      · show Steps p.tables e below (T48.setTop (mkF m 221 #[.val (.int p1), .val (.int p2), .val (.int p3), .val (.int p4), .val (.int p5), .val (.ref b1), .val (.int ln), .val (.ref b18), .val (.int i89_0), .val (.int i128_0), .val (.int (1 : Int32)), .val (.int i184_0), .val (.int r48), .unset] [(.int i184_0)])) _
        refine XS.ifNo X48.here hx rfl (hb hby at_221) rfl ((if0 _ _).trans (feq hc221_51).1) ?_
        show Steps p.tables e below (T48.setTop (mkF m 224 #[.val (.int p1), .val (.int p2), .val (.int p3), .val (.int p4), .val (.int p5), .val (.ref b1), .val (.int ln), .val (.ref b18), .val (.int i89_0), .val (.int i128_0), .val (.int (1 : Int32)), .val (.int i184_0), .val (.int r48), .unset] [])) _
        refine XS.iload X48.here hx rfl (hb hby at_224) rfl ?_
        show Steps p.tables e below (T48.setTop (mkF m 226 #[.val (.int p1), .val (.int p2), .val (.int p3), .val (.int p4), .val (.int p5), .val (.ref b1), .val (.int ln), .val (.ref b18), .val (.int i89_0), .val (.int i128_0), .val (.int (1 : Int32)), .val (.int i184_0), .val (.int r48), .unset] [(.int i128_0)])) _
        refine XS.iconst X48.here hx rfl (hb hby at_226) ?_
        show Steps p.tables e below (T48.setTop (mkF m 227 #[.val (.int p1), .val (.int p2), .val (.int p3), .val (.int p4), .val (.int p5), .val (.ref b1), .val (.int ln), .val (.ref b18), .val (.int i89_0), .val (.int i128_0), .val (.int (1 : Int32)), .val (.int i184_0), .val (.int r48), .unset] [(.int (1 : Int32)), (.int i128_0)])) _
        refine XS.iadd X48.here hx rfl (hb hby at_227) rfl ?_
        show Steps p.tables e below (T48.setTop (mkF m 228 #[.val (.int p1), .val (.int p2), .val (.int p3), .val (.int p4), .val (.int p5), .val (.ref b1), .val (.int ln), .val (.ref b18), .val (.int i89_0), .val (.int i128_0), .val (.int (1 : Int32)), .val (.int i184_0), .val (.int r48), .unset] [(.int (i128_0 + (1 : Int32)))])) _
        refine XS.goto X48.here hx rfl (pc0 := 228) (pc' := 233) rfl (hb hby at_228) (by decide) (by decide) ?_
        show Steps p.tables e below (T48.setTop (mkF m 233 #[.val (.int p1), .val (.int p2), .val (.int p3), .val (.int p4), .val (.int p5), .val (.ref b1), .val (.int ln), .val (.ref b18), .val (.int i89_0), .val (.int i128_0), .val (.int (1 : Int32)), .val (.int i184_0), .val (.int r48), .unset] [(.int (i128_0 + (1 : Int32)))])) _
        exact k
      exact J221_50 _ (by simp only [if_neg hc221_51])
  intro i221_0 h_i221_0
  have f53 : AV Z T48.heap b1 k1 .byte 6 (fun i => Value.int (fn16 i)) := (f47.keep p48_0 (ninS ne_b1_b18 nin0))
  obtain ⟨cq52, kq52, q52a, q52b, q52c⟩ := isOf hZ rfl p48_1
  obtain ⟨_, _, ⟨T52, L52, k52, n52⟩, -, X52, ⟨Lc52, hQ52, l52, y52, z52⟩, st52⟩ := X48.virtualBack hx (y := (⟨"com/example/verdict/verdict/saml/XmlScanner", "skipByteOrderMark", "()V"⟩ : MethodName)) (z := (⟨"com/example/verdict/verdict/saml/XmlScanner", "skipByteOrderMark", "()V"⟩ : MethodName)) hown (mvT hZ (hw _ (List.mem_of_getElem? (i := 29) rfl))) (mvT hZ (hw _ (List.mem_of_getElem? (i := 30) rfl))) (notFace_of_selects (args := #[]) (mvT hZ (hw _ (List.mem_of_getElem? (i := 32) rfl)))) (mvT hZ (hw _ (List.mem_of_getElem? (i := 32) rfl))) (mvT hZ (hw _ (List.mem_of_getElem? (i := 31) rfl))) (by decide) (backOf (W := 0) (rm6 l Z a0 hw [] b18 w2_48 ln b1 k1 6 fn16 (6 : Int32) T48.heap n0 z49 p48_1 g_b18 p48_2 p48_3 p48_4 f53 hl.2) hZ (hw _ (List.mem_of_getElem? (i := 33) rfl)) (hw _ (List.mem_of_getElem? (i := 8) rfl)) (by decide) (by decide)) q52a q52c (g := (mkF m 237 #[.val (.int p1), .val (.int p2), .val (.int p3), .val (.int p4), .val (.int p5), .val (.ref b1), .val (.int ln), .val (.ref b18), .val (.int i89_0), .val (.int i128_0), .val (.int (1 : Int32)), .val (.int i184_0), .val (.int r48), .val (.int i221_0)] [(.ref b18)])) rfl (by rw [hml]; rfl) (Steps.refl _) (argsL := []) (rest := []) (lenOf pd_4 rfl) rfl (by show 2 * 0 + _ ≤ _; exact Nat.le_of_eq rfl) (hb hby at_237) (fun _ _ => ⟨rfl, rfl, (by decide : 3 + 0 ≤ _), (by decide : 139 + 0 ≤ _)⟩)
  dsimp only [Pt.U, Pt.locs, Pt.cells, Pt.slots] at X52 l52 y52 z52 st52 hQ52
  subst l52 y52 z52
  obtain ⟨w2_52, rfl, N52q, p52_0, p52_1, p52_2, p52_3, p52_4, p52_5⟩ := hQ52
  have N52 := Fr.app N48 N52q
  have z54 : n0 ≤ T52.heap.size := Nat.le_trans z49 p52_0.1
  obtain ⟨cq55, kq55, q55a, q55b, q55c⟩ := isOf hZ rfl p52_1
  obtain ⟨_, _, ⟨T55, L55, k55, n55⟩, -, X55, ⟨Lc55, hQ55, l55, y55, z55⟩, st55⟩ := X52.virtualBack hx (y := (⟨"com/example/verdict/verdict/saml/XmlScanner", "position", "()I"⟩ : MethodName)) (z := (⟨"com/example/verdict/verdict/saml/XmlScanner", "position", "()I"⟩ : MethodName)) hown (mvT hZ (hw _ (List.mem_of_getElem? (i := 36) rfl))) (mvT hZ (hw _ (List.mem_of_getElem? (i := 37) rfl))) (notFace_of_selects (args := #[]) (mvT hZ (hw _ (List.mem_of_getElem? (i := 39) rfl)))) (mvT hZ (hw _ (List.mem_of_getElem? (i := 39) rfl))) (mvT hZ (hw _ (List.mem_of_getElem? (i := 38) rfl))) (by decide) (backOf (W := 0) (rm7 l Z a0 hw [] b18 w2_52 T52.heap n0 z54 p52_2) hZ (hw _ (List.mem_of_getElem? (i := 40) rfl)) (hw _ (List.mem_of_getElem? (i := 8) rfl)) (by decide) (by decide)) q55a q55c (g := (mkF m 254 #[.val (.int p1), .val (.int p2), .val (.int p3), .val (.int p4), .val (.int p5), .val (.ref b1), .val (.int ln), .val (.ref b18), .val (.int i89_0), .val (.int i128_0), .val (.int (1 : Int32)), .val (.int i184_0), .val (.int r48), .val (.int i221_0)] [(.ref b18)])) rfl (by rw [hml]; rfl) (Steps.refl _) (argsL := []) (rest := []) (lenOf pd_5 rfl) rfl (by show 2 * 0 + _ ≤ _; exact Nat.le_of_eq rfl) (hb hby at_254) (fun _ _ => ⟨rfl, rfl, (by decide : 3 + 0 ≤ _), (by decide : 139 + 0 ≤ _)⟩)
  dsimp only [Pt.U, Pt.locs, Pt.cells, Pt.slots] at X55 l55 y55 z55 st55 hQ55
  subst l55 y55 z55
  obtain ⟨rfl, N55q, eq55⟩ := hQ55
  have N55 := Fr.app N52 N55q
  obtain ⟨fs, hr, hrun, hended, hW, hsame⟩ := X55.leave (v := some (.int (1 : Int32))) (fun h => by rw [Bd.returns] at h; cases h)
  refine ⟨_, _, ?_, hrun, hended, _, _, rfl, ?_, ⟨_, rfl⟩, hW, hsame.mono (by decide) (by decide)⟩
  · show Steps p.tables e below (T48.setTop (mkF m 233 #[.val (.int p1), .val (.int p2), .val (.int p3), .val (.int p4), .val (.int p5), .val (.ref b1), .val (.int ln), .val (.ref b18), .val (.int i89_0), .val (.int i128_0), .val (.int (1 : Int32)), .val (.int i184_0), .val (.int r48), .unset] [(.int i221_0)])) _
    refine XS.istore X48.here hx rfl (hb hby at_233) rfl (l' := #[.val (.int p1), .val (.int p2), .val (.int p3), .val (.int p4), .val (.int p5), .val (.ref b1), .val (.int ln), .val (.ref b18), .val (.int i89_0), .val (.int i128_0), .val (.int (1 : Int32)), .val (.int i184_0), .val (.int r48), .val (.int i221_0)]) rfl ?_
    show Steps p.tables e below (T48.setTop (mkF m 235 #[.val (.int p1), .val (.int p2), .val (.int p3), .val (.int p4), .val (.int p5), .val (.ref b1), .val (.int ln), .val (.ref b18), .val (.int i89_0), .val (.int i128_0), .val (.int (1 : Int32)), .val (.int i184_0), .val (.int r48), .val (.int i221_0)] [])) _
    refine XS.aload X48.here hx rfl (hb hby at_235) rfl rfl ?_
    show Steps p.tables e below (T48.setTop (mkF m 237 #[.val (.int p1), .val (.int p2), .val (.int p3), .val (.int p4), .val (.int p5), .val (.ref b1), .val (.int ln), .val (.ref b18), .val (.int i89_0), .val (.int i128_0), .val (.int (1 : Int32)), .val (.int i184_0), .val (.int r48), .val (.int i221_0)] [(.ref b18)])) _
    refine st52.trans ?_
    show Steps p.tables e below (T52.setTop (mkF m 240 #[.val (.int p1), .val (.int p2), .val (.int p3), .val (.int p4), .val (.int p5), .val (.ref b1), .val (.int ln), .val (.ref b18), .val (.int i89_0), .val (.int i128_0), .val (.int (1 : Int32)), .val (.int i184_0), .val (.int r48), .val (.int i221_0)] [])) _
    refine XS.iload X52.here hx rfl (hb hby at_240) rfl ?_
    show Steps p.tables e below (T52.setTop (mkF m 242 #[.val (.int p1), .val (.int p2), .val (.int p3), .val (.int p4), .val (.int p5), .val (.ref b1), .val (.int ln), .val (.ref b18), .val (.int i89_0), .val (.int i128_0), .val (.int (1 : Int32)), .val (.int i184_0), .val (.int r48), .val (.int i221_0)] [(.int (1 : Int32))])) _
    refine XS.ifNo X52.here hx rfl (hb hby at_242) rfl ((if0 _ _).trans (feq (by decide : ¬ ((1 : Int32) = (0 : Int32)))).1) ?_
    show Steps p.tables e below (T52.setTop (mkF m 245 #[.val (.int p1), .val (.int p2), .val (.int p3), .val (.int p4), .val (.int p5), .val (.ref b1), .val (.int ln), .val (.ref b18), .val (.int i89_0), .val (.int i128_0), .val (.int (1 : Int32)), .val (.int i184_0), .val (.int r48), .val (.int i221_0)] [])) _
    refine XS.iload X52.here hx rfl (hb hby at_245) rfl ?_
    show Steps p.tables e below (T52.setTop (mkF m 247 #[.val (.int p1), .val (.int p2), .val (.int p3), .val (.int p4), .val (.int p5), .val (.ref b1), .val (.int ln), .val (.ref b18), .val (.int i89_0), .val (.int i128_0), .val (.int (1 : Int32)), .val (.int i184_0), .val (.int r48), .val (.int i221_0)] [(.int r48)])) _
    refine XS.iload X52.here hx rfl (hb hby at_247) rfl ?_
    show Steps p.tables e below (T52.setTop (mkF m 249 #[.val (.int p1), .val (.int p2), .val (.int p3), .val (.int p4), .val (.int p5), .val (.ref b1), .val (.int ln), .val (.ref b18), .val (.int i89_0), .val (.int i128_0), .val (.int (1 : Int32)), .val (.int i184_0), .val (.int r48), .val (.int i221_0)] [(.int i184_0), (.int r48)])) _
    refine XS.icmpNo X52.here hx rfl (hb hby at_249) rfl ((teq (own_mv (hB _) hr48 h_i184_0 : r48 = i184_0)).2) ?_
    show Steps p.tables e below (T52.setTop (mkF m 252 #[.val (.int p1), .val (.int p2), .val (.int p3), .val (.int p4), .val (.int p5), .val (.ref b1), .val (.int ln), .val (.ref b18), .val (.int i89_0), .val (.int i128_0), .val (.int (1 : Int32)), .val (.int i184_0), .val (.int r48), .val (.int i221_0)] [])) _
    refine XS.aload X52.here hx rfl (hb hby at_252) rfl rfl ?_
    show Steps p.tables e below (T52.setTop (mkF m 254 #[.val (.int p1), .val (.int p2), .val (.int p3), .val (.int p4), .val (.int p5), .val (.ref b1), .val (.int ln), .val (.ref b18), .val (.int i89_0), .val (.int i128_0), .val (.int (1 : Int32)), .val (.int i184_0), .val (.int r48), .val (.int i221_0)] [(.ref b18)])) _
    refine st55.trans ?_
    show Steps p.tables e below (T55.setTop (mkF m 257 #[.val (.int p1), .val (.int p2), .val (.int p3), .val (.int p4), .val (.int p5), .val (.ref b1), .val (.int ln), .val (.ref b18), .val (.int i89_0), .val (.int i128_0), .val (.int (1 : Int32)), .val (.int i184_0), .val (.int r48), .val (.int i221_0)] [(.int w2_52)])) _
    refine XS.iload X55.here hx rfl (hb hby at_257) rfl ?_
    show Steps p.tables e below (T55.setTop (mkF m 259 #[.val (.int p1), .val (.int p2), .val (.int p3), .val (.int p4), .val (.int p5), .val (.ref b1), .val (.int ln), .val (.ref b18), .val (.int i89_0), .val (.int i128_0), .val (.int (1 : Int32)), .val (.int i184_0), .val (.int r48), .val (.int i221_0)] [(.int i221_0), (.int w2_52)])) _
    refine XS.icmpNo X55.here hx rfl (hb hby at_259) rfl ((teq (own_pos h_i89_0 h_i128_0 hr48 p48_5 (by rw [own_mv (hB _) hr48 h_i184_0]; exact h_i221_0) p52_5 : w2_52 = i221_0)).2) ?_
    show Steps p.tables e below (T55.setTop (mkF m 262 #[.val (.int p1), .val (.int p2), .val (.int p3), .val (.int p4), .val (.int p5), .val (.ref b1), .val (.int ln), .val (.ref b18), .val (.int i89_0), .val (.int i128_0), .val (.int (1 : Int32)), .val (.int i184_0), .val (.int r48), .val (.int i221_0)] [])) _
    refine XS.iconst X55.here hx rfl (hb hby at_262) ?_
    show Steps p.tables e below (T55.setTop (mkF m 263 #[.val (.int p1), .val (.int p2), .val (.int p3), .val (.int p4), .val (.int p5), .val (.ref b1), .val (.int ln), .val (.ref b18), .val (.int i89_0), .val (.int i128_0), .val (.int (1 : Int32)), .val (.int i184_0), .val (.int r48), .val (.int i221_0)] [(.int (1 : Int32))])) _
    refine XS.goto X55.here hx rfl (pc0 := 263) (pc' := 267) rfl (hb hby at_263) (by decide) (by decide) ?_
    show Steps p.tables e below (T55.setTop (mkF m 267 #[.val (.int p1), .val (.int p2), .val (.int p3), .val (.int p4), .val (.int p5), .val (.ref b1), .val (.int ln), .val (.ref b18), .val (.int i89_0), .val (.int i128_0), .val (.int (1 : Int32)), .val (.int i184_0), .val (.int r48), .val (.int i221_0)] [(.int (1 : Int32))])) _
    exact retN X55 hx (t := .boolean) Bd.returns (by simp) (hb hby at_267) hr
  · exact ⟨rfl, N55⟩
set_option maxRecDepth 65536 in
set_option maxHeartbeats 40000000 in
theorem comes_1 {Post : Tables → Env → Array Value → State → Outcome → State → Prop} (hpost : ∀ tb e args s v u, (limb_1_1.after args s (.returned v) u = true ∧ limb_1_2.after args s (.returned v) u = true ∧ True) → FrameEnd s (.returned v) u (Jvm.fieldLocs frame_1_writes args s ++ Jvm.arrayLocs frame_1_arrays args s ++ Jvm.staticLocs frame_1_statics s) 16 384 → Post tb e args s (.returned v) u) :
    ArmFor flags0 classFile x code maxLocals ret World_1 tables_1 room_1 Calls_1 rest_1 Pre_1 Post := by
  intro l hfl _ _ p e ha hc hk s m args below hf hA hF happ hP
  obtain ⟨hcalls, hrest, hpre⟩ := hP
  obtain ⟨-, -, -, hnamed, -, -, -, hat⟩ := (Spec.applies_iff hf).mp happ
  obtain ⟨hg, hn⟩ := and_e (Cond.before_iff.mp (show (Jvm.Cond.and given_1 narrow_1).before args s = true from hpre))
  obtain ⟨g1, g2⟩ := and_e hg
  obtain ⟨g3, g4⟩ := and_e g2
  obtain ⟨g5, g6⟩ := and_e g4
  obtain ⟨g7, g8⟩ := and_e g6
  obtain ⟨g9, g10⟩ := and_e g8
  obtain ⟨w0, w1, w2, w3, w4, rfl⟩ : ∃ w0 w1 w2 w3 w4 : Value, args = #[w0, w1, w2, w3, w4] := by
    have hs : args.size = 5 := by simpa [Cond.value, given_1] using g1
    obtain ⟨L⟩ := args
    match L, hs with
    | [w0, w1, w2, w3, w4], _ => exact ⟨w0, w1, w2, w3, w4, rfl⟩
  have hw := fun d (hd : d ∈ tables_1) => atoms_spec (ws := Jvm.Cond.code x code maxLocals ret :: tables_1) hat d (List.mem_cons_of_mem _ hd)
  have hfit : Fit s := fun {y c} hc i hi => by
    obtain ⟨ha, rfl⟩ := Array.getElem?_eq_some_iff.mp hc
    have q := List.all_eq_true.mp ((Array.all_eq_true_iff_forall_mem.mp hF) _ (Array.getElem_mem ha)) i (List.mem_range.mpr hi)
    simpa [Array.getElem?_eq_getElem hi] using q
  obtain ⟨i0, ei0⟩ := is_v g3
  obtain rfl : w0 = (.int i0) := Option.some.inj ei0
  obtain ⟨i1, ei1⟩ := is_v g5
  obtain rfl : w1 = (.int i1) := Option.some.inj ei1
  obtain ⟨i2, ei2⟩ := is_v g7
  obtain rfl : w2 = (.int i2) := Option.some.inj ei2
  obtain ⟨i3, ei3⟩ := is_v g9
  obtain rfl : w3 = (.int i3) := Option.some.inj ei3
  obtain ⟨i4, ei4⟩ := is_v g10
  obtain rfl : w4 = (.int i4) := Option.some.inj ei4
  obtain ⟨n, o, h1, h2, h3, _, L, rfl, ⟨rfl, N⟩, hq⟩ := rm0 l s _ hw tables_1 i0 i1 i2 i3 i4  s.heap s.heap.size (Nat.le_refl _)  p e ha hc hk s m _ below hf ((Spec.applies_iff_loose hf).mp happ).1 ⟨rfl, State.Warmed39.refl s, rfl⟩ trivial
  refine ⟨n, _, h1, h2, h3, hpost _ _ _ _ _ _ ⟨Cond.after_iff.mpr rfl, Cond.after_iff.mpr (eq_i res_at (Term.int_eval (1)) rfl), trivial⟩ ⟨hq.1, hq.2.1, (hq.2.2.sift fun y hy => Or.inr (N y hy)).mono (by decide) (by decide)⟩⟩
theorem main_1_1 : Claimed_1_1 := comes_1 fun _ _ _ _ _ _ h hF => ⟨h.1, hF⟩
theorem main_1_2 : Claimed_1_2 := comes_1 fun _ _ _ _ _ _ h hF => ⟨h.2.1, hF⟩
end Jvm.Pilot.@@N@@
namespace Jvm.Pilot.@@N@@
open Jvm Jvm.ClassFile Sem Op Lib Jvm.Free Jvm.Stand Jvm.Pilot.@@N@@.Jvm.D
/-! MADE BY PROGRAM (witnessworld.py) out of the Statement's table words and the real class files: 11 classes; the members and pool entries that the words name. The judged class is class 1, her method 2. -/
namespace start1
open Jvm.ClassFile
def u (s : String) : CpInfo := .utf8 (stringToUtf16 s)
/-- a pool by its gaps: so many unusable entries, then the entry; so many at the end -/
def gap : Nat → List CpInfo → List CpInfo
  | 0, r => r
  | n + 1, r => .unusable :: gap n r
def poolList (es : List (Nat × CpInfo)) (last : Nat) : List CpInfo := es.foldr (fun e r => gap e.1 (e.2 :: r)) (gap last [])
def pool (es : List (Nat × CpInfo)) (last : Nat) : Array CpInfo := ⟨poolList es last⟩
def fileOf (pool : Array CpInfo) (this : Nat) (attrs : Array Attribute := #[]) (ms : Array MethodInfo := #[]) (fl : Nat := 33) (sup : Nat := 0) (ifs : Array Nat := #[]) (fds : Array FieldInfo := #[]) : ClassFile where
  minorVersion := 0
  majorVersion := 65
  constantPool := pool
  accessFlags := fl
  thisClass := this
  superClass := sup
  interfaces := ifs
  fields := fds
  methods := ms
  attributes := attrs
def plain (name : String) (sup : Option ClassId) : Class where
  name := name
  kind := .ordinary
  loader := none
  accessFlags := 33
  super := sup
  interfaces := #[]
  cf := none
  fields := #[]
  methods := #[]
  instanceTypes := #[]
  staticTypes := #[]
  resolved := #[]
  callSites := []
  init := .initialized
  statics := none
  mirror := none

def pool0 : Array CpInfo := pool [(5, u "<init>"), (0, u "()V"), (1, .class_ 10), (1, u "java/lang/Object")] 113

def k0c0 : Code := { maxStack := 0, maxLocals := 1, code := object_method_1_code, exceptionTable := #[], attributes := #[] }
def k0m0 : Method := { name := "<init>", desc := "()V", sig := { parameters := [], returnType := none }, accessFlags := 1, code := some k0c0 }
/-- java/lang/Object -/
def k0 : Class := { plain "java/lang/Object" none with
  accessFlags := 33
  interfaces := #[]
  cf := some (fileOf pool0 8 #[] #[{ accessFlags := 1, nameIndex := 5, descriptorIndex := 6, attributes := #[] }] 33 0 #[] #[])
  fields := #[]
  methods := #[k0m0]
  instanceTypes := #[]
  staticTypes := #[]
  resolved := Array.replicate 124 none
  statics := none }

def pool1 : Array CpInfo := pool [(2, .class_ 4), (1, u "java/lang/Object"), (0, u "<init>"), (0, u "()V"), (0, .methodref 8 9), (0, .class_ 10), (0, .nameAndType 11 12), (0, u "com/example/verdict/verdict/saml/XmlScannerSkipByteOrderMarkPinLaw"), (0, u "pick"), (0, u "(II)B"), (0, .integer 2147483647), (0, .class_ 15), (0, u "com/example/verdict/verdict/saml/XmlScanner"), (0, .methodref 14 17), (0, .nameAndType 5 18), (0, u "([BI)V"), (0, .methodref 14 20), (0, .nameAndType 21 6), (0, u "skipByteOrderMark"), (0, .methodref 14 23), (0, .nameAndType 24 25), (0, u "position"), (0, u "()I"), (0, .methodref 14 27), (0, .nameAndType 28 29), (0, u "atEnd"), (0, u "()Z"), (0, .methodref 14 31), (0, .nameAndType 32 33), (0, u "skip"), (0, u "(C)Z"), (3, u "law"), (0, u "(IIIII)Z")] 4

def k1m0 : Method := { name := "<init>", desc := "()V", sig := { parameters := [], returnType := none }, accessFlags := 2, code := none }
def k1c1 : Code := { maxStack := 2, maxLocals := 2, code := method_2_code, exceptionTable := #[], attributes := #[] }
def k1m1 : Method := { name := "pick", desc := "(II)B", sig := { parameters := [.int, .int], returnType := some .byte }, accessFlags := 10, code := some k1c1 }
def k1c2 : Code := { maxStack := 4, maxLocals := 14, code := code, exceptionTable := #[], attributes := #[] }
def k1m2 : Method := { name := "law", desc := "(IIIII)Z", sig := { parameters := [.int, .int, .int, .int, .int], returnType := some .boolean }, accessFlags := 9, code := some k1c2 }
/-- com/example/verdict/verdict/saml/XmlScannerSkipByteOrderMarkPinLaw -/
def k1 : Class := { plain "com/example/verdict/verdict/saml/XmlScannerSkipByteOrderMarkPinLaw" (some 0) with
  accessFlags := 49
  interfaces := #[]
  cf := some (fileOf pool1 8 #[] #[{ accessFlags := 2, nameIndex := 5, descriptorIndex := 6, attributes := #[] }, { accessFlags := 10, nameIndex := 11, descriptorIndex := 12, attributes := #[] }, { accessFlags := 9, nameIndex := 37, descriptorIndex := 38, attributes := #[] }] 49 2 #[] #[])
  fields := #[]
  methods := #[k1m0, k1m1, k1m2]
  instanceTypes := #[]
  staticTypes := #[]
  resolved := Array.replicate 43 none
  statics := none }

def pool2 : Array CpInfo := pool [(1, .methodref 2 3), (0, .class_ 4), (0, .nameAndType 5 6), (0, u "java/lang/Object"), (0, u "<init>"), (0, u "()V"), (0, .fieldref 8 9), (0, .class_ 10), (0, .nameAndType 11 12), (0, u "com/example/verdict/verdict/saml/XmlScanner"), (0, u "text"), (0, u "[B"), (0, .methodref 14 15), (0, .class_ 16), (0, .nameAndType 17 18), (0, u "java/util/Objects"), (0, u "checkFromIndexSize"), (0, u "(III)I"), (0, .fieldref 8 20), (0, .nameAndType 21 12), (0, u "doc"), (0, .fieldref 8 23), (0, .nameAndType 24 25), (0, u "end"), (0, u "I"), (0, .fieldref 8 27), (0, .nameAndType 28 25), (0, u "pos"), (13, u "()I"), (2, u "skip"), (0, u "(C)Z"), (39, u "textLength"), (34, u "()Z"), (121, u "CLASSES"), (7, u "NOT_WELL_FORMED"), (0, u "Ljava/lang/String;"), (1, u "NAME"), (1, u "TEXT"), (1, u "VALUE"), (1, u "SPACE"), (1, u "([BI)V"), (2, u "position"), (0, u "atEnd"), (2, u "skipByteOrderMark")] 18

def k2c0 : Code := { maxStack := 3, maxLocals := 3, code := prog_45_method_1_code, exceptionTable := #[], attributes := #[] }
def k2m0 : Method := { name := "<init>", desc := "([BI)V", sig := { parameters := [(.array .byte), .int], returnType := none }, accessFlags := 0, code := some k2c0 }
def k2c1 : Code := { maxStack := 1, maxLocals := 1, code := prog_45_method_2_code, exceptionTable := #[], attributes := #[] }
def k2m1 : Method := { name := "position", desc := "()I", sig := { parameters := [], returnType := some .int }, accessFlags := 0, code := some k2c1 }
def k2c2 : Code := { maxStack := 2, maxLocals := 1, code := prog_45_method_3_code, exceptionTable := #[], attributes := #[] }
def k2m2 : Method := { name := "atEnd", desc := "()Z", sig := { parameters := [], returnType := some .boolean }, accessFlags := 0, code := some k2c2 }
def k2c3 : Code := { maxStack := 3, maxLocals := 3, code := prog_45_method_6_code, exceptionTable := #[], attributes := #[] }
def k2m3 : Method := { name := "skip", desc := "(C)Z", sig := { parameters := [.char], returnType := some .boolean }, accessFlags := 0, code := some k2c3 }
def k2c4 : Code := { maxStack := 2, maxLocals := 2, code := prog_45_method_9_code, exceptionTable := #[], attributes := #[] }
def k2m4 : Method := { name := "skipByteOrderMark", desc := "()V", sig := { parameters := [], returnType := none }, accessFlags := 0, code := some k2c4 }
/-- com/example/verdict/verdict/saml/XmlScanner -/
def k2 : Class := { plain "com/example/verdict/verdict/saml/XmlScanner" (some 0) with
  accessFlags := 48
  interfaces := #[]
  cf := some (fileOf pool2 8 #[] #[{ accessFlags := 0, nameIndex := 5, descriptorIndex := 262, attributes := #[] }, { accessFlags := 0, nameIndex := 265, descriptorIndex := 42, attributes := #[] }, { accessFlags := 0, nameIndex := 266, descriptorIndex := 121, attributes := #[] }, { accessFlags := 0, nameIndex := 45, descriptorIndex := 46, attributes := #[] }, { accessFlags := 0, nameIndex := 269, descriptorIndex := 6, attributes := #[] }] 48 2 #[] #[{ accessFlags := 24, nameIndex := 251, descriptorIndex := 252, attributes := #[] }, { accessFlags := 26, nameIndex := 254, descriptorIndex := 25, attributes := #[] }, { accessFlags := 26, nameIndex := 256, descriptorIndex := 25, attributes := #[] }, { accessFlags := 26, nameIndex := 258, descriptorIndex := 25, attributes := #[] }, { accessFlags := 26, nameIndex := 260, descriptorIndex := 25, attributes := #[] }, { accessFlags := 26, nameIndex := 243, descriptorIndex := 12, attributes := #[] }, { accessFlags := 18, nameIndex := 21, descriptorIndex := 12, attributes := #[] }, { accessFlags := 18, nameIndex := 24, descriptorIndex := 25, attributes := #[] }, { accessFlags := 2, nameIndex := 28, descriptorIndex := 25, attributes := #[] }, { accessFlags := 2, nameIndex := 11, descriptorIndex := 12, attributes := #[] }, { accessFlags := 2, nameIndex := 86, descriptorIndex := 25, attributes := #[] }])
  fields := #[{ name := "NOT_WELL_FORMED", type := (.object "java/lang/String"), accessFlags := 24, slot := 0, constantValue := 0 }, { name := "NAME", type := .int, accessFlags := 26, slot := 1, constantValue := 0 }, { name := "TEXT", type := .int, accessFlags := 26, slot := 2, constantValue := 0 }, { name := "VALUE", type := .int, accessFlags := 26, slot := 3, constantValue := 0 }, { name := "SPACE", type := .int, accessFlags := 26, slot := 4, constantValue := 0 }, { name := "CLASSES", type := (.array .byte), accessFlags := 26, slot := 5, constantValue := 0 }, { name := "doc", type := (.array .byte), accessFlags := 18, slot := 0, constantValue := 0 }, { name := "end", type := .int, accessFlags := 18, slot := 1, constantValue := 0 }, { name := "pos", type := .int, accessFlags := 2, slot := 2, constantValue := 0 }, { name := "text", type := (.array .byte), accessFlags := 2, slot := 3, constantValue := 0 }, { name := "textLength", type := .int, accessFlags := 2, slot := 4, constantValue := 0 }]
  methods := #[k2m0, k2m1, k2m2, k2m3, k2m4]
  instanceTypes := #[(.array .byte), .int, .int, (.array .byte), .int]
  staticTypes := #[(.object "java/lang/String"), .int, .int, .int, .int, (.array .byte)]
  resolved := Array.replicate 288 none
  statics := none }

def pool3 : Array CpInfo := pool [(2, .class_ 4), (1, u "java/lang/Object"), (0, u "<init>"), (0, u "()V"), (35, .class_ 44), (1, u "java/util/Objects"), (61, .class_ 108), (1, u "jdk/internal/util/Preconditions"), (5, u "(IIILjava/util/function/BiFunction;)I"), (0, .methodref 106 116), (0, .nameAndType 117 114), (0, u "checkFromIndexSize"), (57, u "(III)I")] 8

def k3m0 : Method := { name := "<init>", desc := "()V", sig := { parameters := [], returnType := none }, accessFlags := 2, code := none }
def k3c1 : Code := { maxStack := 4, maxLocals := 3, code := jdk_31_method_19_code, exceptionTable := #[], attributes := #[] }
def k3m1 : Method := { name := "checkFromIndexSize", desc := "(III)I", sig := { parameters := [.int, .int, .int], returnType := some .int }, accessFlags := 9, code := some k3c1 }
/-- java/util/Objects -/
def k3 : Class := { plain "java/util/Objects" (some 0) with
  accessFlags := 49
  interfaces := #[]
  cf := some (fileOf pool3 42 #[] #[{ accessFlags := 2, nameIndex := 5, descriptorIndex := 6, attributes := #[] }, { accessFlags := 9, nameIndex := 117, descriptorIndex := 175, attributes := #[] }] 49 2 #[] #[])
  fields := #[]
  methods := #[k3m0, k3m1]
  instanceTypes := #[]
  staticTypes := #[]
  resolved := Array.replicate 184 none
  statics := none }

def pool4 : Array CpInfo := pool [(2, .class_ 4), (1, u "java/lang/Object"), (0, u "<init>"), (0, u "()V"), (17, .class_ 26), (1, u "jdk/internal/util/Preconditions"), (22, u "checkFromIndexSize"), (5, .class_ 56), (0, u "jdk/internal/util/Preconditions$4"), (57, .class_ 115), (0, u "jdk/internal/util/Preconditions$1"), (7, u "SIOOBE_FORMATTER"), (0, u "Ljava/util/function/BiFunction;"), (0, .class_ 126), (0, u "jdk/internal/util/Preconditions$2"), (3, u "AIOOBE_FORMATTER"), (0, .class_ 132), (0, u "jdk/internal/util/Preconditions$3"), (3, u "IOOBE_FORMATTER"), (46, u "(IIILjava/util/function/BiFunction;)I")] 10

def k4m0 : Method := { name := "<init>", desc := "()V", sig := { parameters := [], returnType := none }, accessFlags := 1, code := none }
def k4c1 : Code := { maxStack := 4, maxLocals := 4, code := jdk_41_method_13_code, exceptionTable := #[], attributes := #[] }
def k4m1 : Method := { name := "checkFromIndexSize", desc := "(IIILjava/util/function/BiFunction;)I", sig := { parameters := [.int, .int, .int, (.object "java/util/function/BiFunction")], returnType := some .int }, accessFlags := 9, code := some k4c1 }
/-- jdk/internal/util/Preconditions -/
def k4 : Class := { plain "jdk/internal/util/Preconditions" (some 0) with
  accessFlags := 33
  interfaces := #[]
  cf := some (fileOf pool4 24 #[.nestMembers #[55, 131, 125, 114]] #[{ accessFlags := 1, nameIndex := 5, descriptorIndex := 6, attributes := #[] }, { accessFlags := 9, nameIndex := 49, descriptorIndex := 183, attributes := #[] }] 33 2 #[] #[{ accessFlags := 25, nameIndex := 123, descriptorIndex := 124, attributes := #[] }, { accessFlags := 25, nameIndex := 130, descriptorIndex := 124, attributes := #[] }, { accessFlags := 25, nameIndex := 136, descriptorIndex := 124, attributes := #[] }])
  fields := #[{ name := "SIOOBE_FORMATTER", type := (.object "java/util/function/BiFunction"), accessFlags := 25, slot := 0, constantValue := 0 }, { name := "AIOOBE_FORMATTER", type := (.object "java/util/function/BiFunction"), accessFlags := 25, slot := 1, constantValue := 0 }, { name := "IOOBE_FORMATTER", type := (.object "java/util/function/BiFunction"), accessFlags := 25, slot := 2, constantValue := 0 }]
  methods := #[k4m0, k4m1]
  instanceTypes := #[]
  staticTypes := #[(.object "java/util/function/BiFunction"), (.object "java/util/function/BiFunction"), (.object "java/util/function/BiFunction")]
  resolved := Array.replicate 194 none
  statics := none }

def pool5 : Array CpInfo := pool [(1, u "java/lang/Cloneable"), (0, .class_ 1), (0, u "java/lang/Object"), (0, .class_ 3)] 3

/-- java/lang/Cloneable -/
def k5 : Class := { plain "java/lang/Cloneable" (some 0) with
  accessFlags := 1537
  interfaces := #[]
  cf := some (fileOf pool5 2 #[] #[] 1537 4 #[] #[])
  fields := #[]
  methods := #[]
  instanceTypes := #[]
  staticTypes := #[]
  resolved := Array.replicate 8 none
  statics := none }

def pool6 : Array CpInfo := pool [(1, u "java/io/Serializable"), (0, .class_ 1), (0, u "java/lang/Object"), (0, .class_ 3)] 3

/-- java/io/Serializable -/
def k6 : Class := { plain "java/io/Serializable" (some 0) with
  accessFlags := 1537
  interfaces := #[]
  cf := some (fileOf pool6 2 #[] #[] 1537 4 #[] #[])
  fields := #[]
  methods := #[]
  instanceTypes := #[]
  staticTypes := #[]
  resolved := Array.replicate 8 none
  statics := none }

/-- the primitive byte -/
def k7 : Class := { plain "byte" none with kind := .primitive 'B', accessFlags := 0x411 }
/-- [B -/
def k8 : Class := { plain "[B" (some 0) with kind := .array 7 .byte, interfaces := #[5, 6], accessFlags := 1041 }

/-- the primitive int -/
def k9 : Class := { plain "int" none with kind := .primitive 'I', accessFlags := 0x411 }
/-- [I -/
def k10 : Class := { plain "[I" (some 0) with kind := .array 9 .int, interfaces := #[5, 6], accessFlags := 1041 }

def heap : Heap := #[]
def classes : Array Class := #[k0, k1, k2, k3, k4, k5, k6, k7, k8, k9, k10]
def interned : List (Array UInt16 × Addr) := []
def slotsUsed : Nat := 0
def theMethod : MethodId := ⟨1, 2⟩
def args0 : Array Value := #[.int 5, .int 6, .int 7, .int 2, .int 3]
def aboutOver (below : List Frame) : State where
  vm := { classes := classes, interned := interned.toArray }
  heap := heap
  slotsUsed := slotsUsed
  threads := #[{ frames := .invoking theMethod args0 :: below }]
def below0 : List Frame := [.native { method := ⟨0, 0⟩, args := #[] }]
def about1 : State := aboutOver below0
def p0 : Program := .bare "" "" ""
def e0 : Env := launch0.env 0 0 0
theorem w_frames : about1.frames = Frame.invoking theMethod args0 :: below0 := rfl
set_option maxRecDepth 65536 in
theorem w_args : argsFit about1.vm theMethod args0 = true := by decide +kernel
set_option maxRecDepth 65536 in
theorem w_heap : heapFits about1 = true := by decide +kernel
set_option maxRecDepth 65536 in
theorem w_runnable : about1.curStatus? = some .runnable := by decide +kernel
set_option maxRecDepth 65536 in
theorem w_alone : about1.alone = true := by decide +kernel
set_option maxRecDepth 65536 in
theorem w_named : about1.methodNamed? x = some theMethod := by decide +kernel
set_option maxRecDepth 65536 in
theorem w_hears : about1.hears theMethod below0 = true := by decide +kernel
set_option maxRecDepth 65536 in
theorem w_ripe : about1.ripe theMethod args0 below0 = true := by decide +kernel
theorem w_running : about1.status = .running := rfl
set_option maxRecDepth 65536 in
theorem w_room : about1.hasRoom e0.platform room_1 = true :=
  launch0.hasRoom_least _ room_1 (by decide +kernel) (by decide +kernel) (by decide +kernel) (by decide +kernel) (by decide +kernel) (by decide +kernel)
theorem allAtoms_all (ts : List Jvm.Cond) (a : Array Jvm.Value) (st : Jvm.State) : (allAtoms ts).before a st = ts.all (fun c => c.before a st) := by
  induction ts with
  | nil => rfl
  | cons c t ih =>
    show (Jvm.Cond.and c (allAtoms t)).before a st = _
    rw [Jvm.Cond.before_and, ih, List.all_cons]
def words1 : List Jvm.Cond := Jvm.Cond.code x code maxLocals ret :: tables_1
/-- a 'code' word, met by the world's own term for the bytes: nothing is compared byte by byte -/
theorem code_word {y : MethodName} {bytes : ByteArray} {mx : Nat} {rt : Option FieldType} {a : Array Value} {s : State} {m : MethodId} {meth : Method} {c : Code} (h1 : s.methodNamed? y = some m) (h2 : s.vm.method? m = some meth) (h3 : meth.code = some c) (h4 : c.code = bytes)
    (h5 : (c.maxLocals == mx && c.exceptionTable.isEmpty && decide (c.maxStack ≤ mostOperands) && decide (meth.sig.returnType = rt) && !meth.locks && decide (parseMethodDescriptor y.desc = some meth.sig)) = true) : (Jvm.Cond.code y bytes mx rt).before a s = true := by
  simp only [Bool.and_eq_true, beq_iff_eq, Bool.not_eq_true', decide_eq_true_eq] at h5
  obtain ⟨⟨⟨⟨⟨g1, g2⟩, g3⟩, g4⟩, g5⟩, g6⟩ := h5
  simp [Cond.before, Cond.holds, Cond.value, h1, h2, h3, h4, g1, g2, g3, g4, g5, g6]
def isCode : Jvm.Cond → Bool
  | .code _ _ _ _ => true
  | _ => false
theorem all_split {L : List Jvm.Cond} {P : Jvm.Cond → Bool} (h1 : L.all (fun c => isCode c || P c) = true) (h2 : ∀ c ∈ L.filter isCode, P c = true) : L.all P = true := by
  refine List.all_eq_true.mpr fun c hc => ?_
  have h := List.all_eq_true.mp h1 c hc
  rcases Bool.eq_false_or_eq_true (isCode c) with hi | hi
  · exact h2 c (List.mem_filter.mpr ⟨hc, hi⟩)
  · simpa [hi] using h
set_option maxRecDepth 65536 in
theorem w_c0 : (Jvm.Cond.code x code maxLocals ret).before args0 about1 = true := code_word (m := ⟨1, 2⟩) (meth := k1m2) (c := k1c2) (by decide +kernel) rfl rfl rfl (by decide +kernel)
set_option maxRecDepth 65536 in
theorem w_c1 : (Jvm.Cond.code ({ cls := "com/example/verdict/verdict/saml/XmlScannerSkipByteOrderMarkPinLaw", name := "pick", desc := "(II)B" } : Jvm.MethodName) method_2_code (2 : Nat) (Option.some Jvm.ClassFile.FieldType.byte)).before args0 about1 = true := code_word (m := ⟨1, 1⟩) (meth := k1m1) (c := k1c1) (by decide +kernel) rfl rfl rfl (by decide +kernel)
set_option maxRecDepth 65536 in
theorem w_c2 : (Jvm.Cond.code ({ cls := "com/example/verdict/verdict/saml/XmlScanner", name := "<init>", desc := "([BI)V" } : Jvm.MethodName) prog_45_method_1_code (3 : Nat) (Option.none : Option Jvm.ClassFile.FieldType)).before args0 about1 = true := code_word (m := ⟨2, 0⟩) (meth := k2m0) (c := k2c0) (by decide +kernel) rfl rfl rfl (by decide +kernel)
set_option maxRecDepth 65536 in
theorem w_c3 : (Jvm.Cond.code ({ cls := "java/lang/Object", name := "<init>", desc := "()V" } : Jvm.MethodName) object_method_1_code (1 : Nat) (Option.none : Option Jvm.ClassFile.FieldType)).before args0 about1 = true := code_word (m := ⟨0, 0⟩) (meth := k0m0) (c := k0c0) (by decide +kernel) rfl rfl rfl (by decide +kernel)
set_option maxRecDepth 65536 in
theorem w_c4 : (Jvm.Cond.code ({ cls := "java/util/Objects", name := "checkFromIndexSize", desc := "(III)I" } : Jvm.MethodName) jdk_31_method_19_code (3 : Nat) (Option.some Jvm.ClassFile.FieldType.int)).before args0 about1 = true := code_word (m := ⟨3, 1⟩) (meth := k3m1) (c := k3c1) (by decide +kernel) rfl rfl rfl (by decide +kernel)
set_option maxRecDepth 65536 in
theorem w_c5 : (Jvm.Cond.code ({ cls := "jdk/internal/util/Preconditions", name := "checkFromIndexSize", desc := "(IIILjava/util/function/BiFunction;)I" } : Jvm.MethodName) jdk_41_method_13_code (4 : Nat) (Option.some Jvm.ClassFile.FieldType.int)).before args0 about1 = true := code_word (m := ⟨4, 1⟩) (meth := k4m1) (c := k4c1) (by decide +kernel) rfl rfl rfl (by decide +kernel)
set_option maxRecDepth 65536 in
theorem w_c6 : (Jvm.Cond.code ({ cls := "com/example/verdict/verdict/saml/XmlScanner", name := "skipByteOrderMark", desc := "()V" } : Jvm.MethodName) prog_45_method_9_code (2 : Nat) (Option.none : Option Jvm.ClassFile.FieldType)).before args0 about1 = true := code_word (m := ⟨2, 4⟩) (meth := k2m4) (c := k2c4) (by decide +kernel) rfl rfl rfl (by decide +kernel)
set_option maxRecDepth 65536 in
theorem w_c7 : (Jvm.Cond.code ({ cls := "com/example/verdict/verdict/saml/XmlScanner", name := "position", desc := "()I" } : Jvm.MethodName) prog_45_method_2_code (1 : Nat) (Option.some Jvm.ClassFile.FieldType.int)).before args0 about1 = true := code_word (m := ⟨2, 1⟩) (meth := k2m1) (c := k2c1) (by decide +kernel) rfl rfl rfl (by decide +kernel)
set_option maxRecDepth 65536 in
theorem w_c8 : (Jvm.Cond.code ({ cls := "com/example/verdict/verdict/saml/XmlScanner", name := "atEnd", desc := "()Z" } : Jvm.MethodName) prog_45_method_3_code (1 : Nat) (Option.some Jvm.ClassFile.FieldType.boolean)).before args0 about1 = true := code_word (m := ⟨2, 2⟩) (meth := k2m2) (c := k2c2) (by decide +kernel) rfl rfl rfl (by decide +kernel)
set_option maxRecDepth 65536 in
theorem w_c9 : (Jvm.Cond.code ({ cls := "com/example/verdict/verdict/saml/XmlScanner", name := "skip", desc := "(C)Z" } : Jvm.MethodName) prog_45_method_6_code (3 : Nat) (Option.some Jvm.ClassFile.FieldType.boolean)).before args0 about1 = true := code_word (m := ⟨2, 3⟩) (meth := k2m3) (c := k2c3) (by decide +kernel) rfl rfl rfl (by decide +kernel)
def codes1 : List Jvm.Cond := [Jvm.Cond.code x code maxLocals ret, Jvm.Cond.code ({ cls := "com/example/verdict/verdict/saml/XmlScannerSkipByteOrderMarkPinLaw", name := "pick", desc := "(II)B" } : Jvm.MethodName) method_2_code (2 : Nat) (Option.some Jvm.ClassFile.FieldType.byte), Jvm.Cond.code ({ cls := "com/example/verdict/verdict/saml/XmlScanner", name := "<init>", desc := "([BI)V" } : Jvm.MethodName) prog_45_method_1_code (3 : Nat) (Option.none : Option Jvm.ClassFile.FieldType), Jvm.Cond.code ({ cls := "java/lang/Object", name := "<init>", desc := "()V" } : Jvm.MethodName) object_method_1_code (1 : Nat) (Option.none : Option Jvm.ClassFile.FieldType), Jvm.Cond.code ({ cls := "java/util/Objects", name := "checkFromIndexSize", desc := "(III)I" } : Jvm.MethodName) jdk_31_method_19_code (3 : Nat) (Option.some Jvm.ClassFile.FieldType.int), Jvm.Cond.code ({ cls := "jdk/internal/util/Preconditions", name := "checkFromIndexSize", desc := "(IIILjava/util/function/BiFunction;)I" } : Jvm.MethodName) jdk_41_method_13_code (4 : Nat) (Option.some Jvm.ClassFile.FieldType.int), Jvm.Cond.code ({ cls := "com/example/verdict/verdict/saml/XmlScanner", name := "skipByteOrderMark", desc := "()V" } : Jvm.MethodName) prog_45_method_9_code (2 : Nat) (Option.none : Option Jvm.ClassFile.FieldType), Jvm.Cond.code ({ cls := "com/example/verdict/verdict/saml/XmlScanner", name := "position", desc := "()I" } : Jvm.MethodName) prog_45_method_2_code (1 : Nat) (Option.some Jvm.ClassFile.FieldType.int), Jvm.Cond.code ({ cls := "com/example/verdict/verdict/saml/XmlScanner", name := "atEnd", desc := "()Z" } : Jvm.MethodName) prog_45_method_3_code (1 : Nat) (Option.some Jvm.ClassFile.FieldType.boolean), Jvm.Cond.code ({ cls := "com/example/verdict/verdict/saml/XmlScanner", name := "skip", desc := "(C)Z" } : Jvm.MethodName) prog_45_method_6_code (3 : Nat) (Option.some Jvm.ClassFile.FieldType.boolean)]
set_option maxRecDepth 65536 in
theorem codes_eq : words1.filter isCode = codes1 := rfl
theorem w_codes : ∀ c ∈ words1.filter isCode, c.before args0 about1 = true := by
  rw [codes_eq]
  intro c hc
  simp only [codes1, List.mem_cons, List.not_mem_nil, or_false] at hc
  rcases hc with rfl | rfl | rfl | rfl | rfl | rfl | rfl | rfl | rfl | rfl
  · exact w_c0
  · exact w_c1
  · exact w_c2
  · exact w_c3
  · exact w_c4
  · exact w_c5
  · exact w_c6
  · exact w_c7
  · exact w_c8
  · exact w_c9
set_option maxRecDepth 65536 in
theorem w_t1 : (words1.take 24).all (fun c => isCode c || c.before args0 about1) = true := by decide +kernel
set_option maxRecDepth 65536 in
theorem w_t2 : ((words1.drop 24).take 24).all (fun c => isCode c || c.before args0 about1) = true := by decide +kernel
set_option maxRecDepth 65536 in
theorem w_t3 : ((words1.drop 24).drop 24).all (fun c => isCode c || c.before args0 about1) = true := by decide +kernel
theorem w_tables : (allAtoms (Jvm.Cond.code x code maxLocals ret :: tables_1)).before args0 about1 = true := by
  rw [allAtoms_all]
  show words1.all (fun c => c.before args0 about1) = true
  refine all_split ?_ w_codes
  rw [← List.take_append_drop 24 words1, List.all_append, w_t1, ← List.take_append_drop 24 (words1.drop 24), List.all_append, w_t2, w_t3]
  rfl
set_option maxRecDepth 65536 in
theorem w_case : (Jvm.Cond.and given_1 narrow_1).before args0 about1 = true := by decide +kernel
theorem w_applies : (headSpec (Jvm.Cond.code x code maxLocals ret :: tables_1) room_1).applies x e0.platform about1 = true :=
  (Spec.applies_iff w_frames).mpr ⟨w_running, w_runnable, w_alone, w_named, w_hears, w_ripe, w_room, w_tables⟩
theorem atStart : AtStart classFile x code maxLocals ret World_1 tables_1 room_1 Calls_1 rest_1 Pre_1 launch0 p0 e0 about1 theMethod args0 below0 :=
  ⟨lists_1, trivial, launch0.admits_env _ _ _, launch0.least_env, fairChoices_fair.cas, fairChoices_fair.clock, w_frames, w_args, w_heap, w_applies, trivial, trivial, w_case⟩
end start1
theorem witness_1 : WitnessClaimed_1 := ⟨start1.p0, start1.e0, start1.about1, start1.theMethod, start1.args0, start1.below0, start1.atStart⟩
end Jvm.Pilot.@@N@@
