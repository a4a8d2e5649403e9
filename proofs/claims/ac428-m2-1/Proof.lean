import JvmDerived
import JvmDerived.Pilot.@@N@@Statement
import JvmDerived.Pilot.@@N@@Code
set_option linter.unusedVariables false
set_option linter.unusedSimpArgs false
namespace Jvm.RoadKit
open Sem ClassFile Op Lib Jvm.Stand Jvm.Free Jvm.LawKit
section New
variable {p : Program} {l : Launch} {e : Env} {R : Room} {s : State} {m : MethodId} {args : Array Value} {below : List Frame} {meth : Method} {c : Code} {T : State} {locs : List Loc} {cells slots : Nat}
theorem retI (X : Stand p l e R s m args below meth c T locs cells slots) (hx : p.tables.exec = Jvm.exec) {pc : Nat} {Ls : Array Slot} {z : Int32} {rest : List Value} (hret : meth.sig.returnType = some .int) (hd : decode c.code pc = .ok (.ireturn, 1)) {fs : List Frame}
    (hl : ∀ (f : JFrame) (acts : List Action), f.method = m → f.locked = none → f.entered = [] → (doReturn e (T.setTop f) acts (some (.int z))).1 = T.setFrames fs) : Steps p.tables e below (T.setTop (mkF m pc Ls (.int z :: rest))) (T.setFrames fs) := by
  have hm' : T.vm.method? m = some meth := X.method'
  have hn : narrow .int (.int z) = .int z := rfl
  show Steps p.tables e below (T.setTop { method := m, pc := pc, locals := Ls, stack := _ :: rest, locked := none }) _
  jvm_step X.here [X.here.top, hx, hd, hm', hret, hn]
  first | (intro acts; rw [hl _ acts rfl rfl rfl]) | rw [hl _ _ rfl rfl rfl]
  exact Steps.refl _
end New
end Jvm.RoadKit
namespace Jvm.Pilot.@@N@@
open Jvm Jvm.ClassFile Sem Op Lib Jvm.Free Jvm.Stand Jvm.LawKit Jvm.RoadKit Bundle Jvm.Pilot.@@N@@.Jvm.D
-- from the state st the run ends, and Q holds of what it leaves
def GoalS (tb : Tables) (e : Env) (below : List Frame) (s : State) (kc ks : Nat) (Q : Option Value → Heap → List Loc → Prop) (st : State) : Prop :=
  ∃ s₂ o, Steps tb e below st s₂ ∧ s₂.status = .running ∧ Ended s₂ below o ∧ ∃ v L, o = .returned v ∧ Q v s₂.heap L ∧ FrameEnd s o s₂ L kc ks
theorem GoalS.lift {tb : Tables} {e : Env} {below : List Frame} {s : State} {kc ks : Nat} {Q : Option Value → Heap → List Loc → Prop} {A B : State}
    (h : ∀ t, Steps tb e below B t → Steps tb e below A t) (g : GoalS tb e below s kc ks Q B) : GoalS tb e below s kc ks Q A := by
  obtain ⟨s₂, o, h1, h2⟩ := g
  exact ⟨s₂, o, h _ h1, h2⟩
-- an array of n places of which place i holds f i
def AV (Z : State) (h : Heap) (a : Addr) (k : ClassId) (ty : FieldType) (n : Nat) (f : Nat → Value) : Prop := ∃ c : Cell, Arr Z h a c ty ∧ c.cls = k ∧ c.slots.size = n ∧ n < 2147483648 ∧ ∀ i, i < n → c.slots[i]? = some (f i)
def updI (f : Nat → Int32) (j : Nat) (v : Int32) : Nat → Int32 := fun i => if i = j then v else f i
def updJ (f : Nat → Int64) (j : Nat) (v : Int64) : Nat → Int64 := fun i => if i = j then v else f i
def updR (f : Nat → Value) (j : Nat) (v : Value) : Nat → Value := fun i => if i = j then v else f i
section Own
variable {Z : State} {h h' : Heap} {a b : Addr} {k : ClassId} {ty : FieldType} {n : Nat} {f g : Nat → Value} {ws : List Addr} {v : Value} {sl : Nat}
theorem AV.lt (F : AV Z h a k ty n f) : a < h.size := by obtain ⟨c, A, -⟩ := F; exact A.lt
theorem AV.ext (F : AV Z h a k ty n f) (E : Ext h h') : AV Z h' a k ty n f := by obtain ⟨c, A, r⟩ := F; exact ⟨c, A.ext E, r⟩
theorem AV.other (F : AV Z h b k ty n f) (W : Wr h h' a sl v) (q : b ≠ a) : AV Z h' b k ty n f := by obtain ⟨c, A, r⟩ := F; exact ⟨c, A.other W q, r⟩
theorem AV.keep (F : AV Z h a k ty n f) (K : Keep h h' ws) (q : a ∉ ws) : AV Z h' a k ty n f := by obtain ⟨c, A, r⟩ := F; exact ⟨c, ⟨K.2.1 a c A.1 q, A.2⟩, r⟩
theorem AV.new {z : Int32} (A : Arr Z h a (newA k ty z) ty) (q : ¬ z < 0) (hn : z.toNatClampNeg = n) (hb : n < 2147483648) : AV Z h a k ty n (fun _ => defaultValue ty) :=
  ⟨_, A, rfl, (sz_new _ _ _).trans hn, hb, fun i hi => by simp [newA, hn, hi]⟩
theorem Exa.ns {C : String} (F : Exa Z h a C) : ∀ cell : Cell, h[a]? = some cell → cell.vm.isStatics = false := fun cell hc => by
  obtain ⟨c, _, h1, -, -, h4, -⟩ := F
  cases h1.symm.trans hc; exact h4
theorem AV.ns (F : AV Z h a k ty n f) : ∀ cell : Cell, h[a]? = some cell → cell.vm.isStatics = false := fun cell hc => by
  obtain ⟨c, A, -⟩ := F
  cases A.1.symm.trans hc; exact A.plain
theorem StaKeep {C nm d : String} (F : Sta Z h C nm d v) (K : Keep h h' ws) (q : ∀ x ∈ ws, ∀ cell : Cell, h[x]? = some cell → cell.vm.isStatics = false) : Sta Z h' C nm d v := by
  obtain ⟨cf, i, kk, ff, st, cell, h1, h2, h3, h4, h5, h6, h7⟩ := F
  exact ⟨cf, i, kk, ff, st, cell, h1, h2, h3, h4, K.2.1 st cell h5 (fun u => by rw [q st u cell h5] at h6; cases h6), h6, h7⟩
theorem AV.arv {z : Int32} {vs : List Value} {dv : Value} (F : AV Z h a k ty n f) (hz : ¬ z < 0) (hn : z.toNatClampNeg = n) (e : ∀ i, i < n → f i = vs.getD i dv) (hf : ∀ i, i < n → fits ty (f i) = true) : Arv Z h a k ty z vs dv := by
  obtain ⟨c, A, r1, r2, r3, r4⟩ := F
  exact ⟨c, A, r1, r2.trans hn.symm, hz, fun i hi => (r4 i (r2 ▸ hi)).trans (congrArg some (e i (r2 ▸ hi))), fun i hi => by rw [← e i (r2 ▸ hi)]; exact hf i (r2 ▸ hi)⟩
theorem AV.inb {c : Cell} {j : Int32} (S : c.slots.size = n) (q : ¬ j < 0 ∧ j.toNatClampNeg < n) : ¬ (j < 0 ∨ c.slots.size ≤ j.toNatClampNeg) := fun u => u.elim q.1 fun w => by omega
theorem AV.inx {j : Int32} (q : ¬ j < 0 ∧ j.toNatClampNeg < n) : j.toNatClampNeg < n := q.2
theorem AV.conv (F : AV Z h a k ty n f) (e : ∀ i, i < n → f i = g i) : AV Z h a k ty n g := by
  obtain ⟨c, A, r1, r2, r3, r4⟩ := F; exact ⟨c, A, r1, r2, r3, fun i hi => (r4 i hi).trans (congrArg some (e i hi))⟩
theorem AV.putR {j : Nat} (F : AV Z h a k ty n f) (W : Wr h h' a j v) (hj : j < n) : AV Z h' a k ty n (updR f j v) := by
  obtain ⟨c, A, r1, r2, r3, r4⟩ := F
  refine ⟨_, A.same W, r1, (sz_set _ _ _).trans r2, r3, fun i hi => ?_⟩
  by_cases q : i = j
  · subst q; simp [Cell.setSlot, updR, r2, hi]
  · have q' : j ≠ i := fun u => q u.symm
    simp only [Cell.setSlot, updR, if_neg q]; rw [Array.getElem?_setIfInBounds_ne q']; exact r4 i hi
theorem AV.putI {j : Nat} {f : Nat → Int32} {v : Int32} (F : AV Z h a k ty n (fun i => Value.int (f i))) (W : Wr h h' a j (.int v)) (hj : j < n) : AV Z h' a k ty n (fun i => Value.int (updI f j v i)) :=
  (F.putR W hj).conv fun i _ => by simp only [updR, updI]; split <;> rfl
theorem AV.putJ {j : Nat} {f : Nat → Int64} {v : Int64} (F : AV Z h a k ty n (fun i => Value.long (f i))) (W : Wr h h' a j (.long v)) (hj : j < n) : AV Z h' a k ty n (fun i => Value.long (updJ f j v i)) :=
  (F.putR W hj).conv fun i _ => by simp only [updR, updJ]; split <;> rfl
end Own

abbrev vi (x : Int32) : Slot := .val (.int x)
abbrev vr (x : Addr) : Slot := .val (.ref x)
abbrev vj (x : Int64) : Slot := .val (.long x)

theorem own_inb {w q : Int32} {n : Nat} (h0 : 0 ≤ w.toInt) (hlt : w < q) (hq : q.toInt ≤ n) : ¬ w < 0 ∧ w.toNatClampNeg < n := by
  rw [Int32.lt_iff_toInt_lt] at hlt
  have e : (0 : Int32).toInt = 0 := rfl
  refine ⟨by rw [Int32.lt_iff_toInt_lt]; omega, ?_⟩
  show w.toInt.toNat < n
  omega
theorem own_chk {z x : Int32} (h0 : 0 ≤ x.toInt) (h1 : x.toInt ≤ z.toInt) : ¬ (((z ||| (0 : Int32)) ||| x) < (0 : Int32)) ∧ ¬ ((z - (0 : Int32)) < x) := by
  have e : (0 : Int32).toInt = 0 := rfl
  have q : 0 ≤ ((z ||| (0 : Int32)) ||| x).toInt := (c_orS _ _).1 ((c_orS _ _).1 (by omega) (by omega)) h0
  refine ⟨by rw [Int32.lt_iff_toInt_lt]; omega, ?_⟩
  rw [Int32.sub_zero, Int32.lt_iff_toInt_lt]; omega
def GoalW (tb : Tables) (e : Env) (below : List Frame) (s : State) (kc ks : Nat) (Q : Option Value → Heap → List Loc → Prop) (st : State) : Prop :=
  ∃ s₂ o, Steps tb e below st s₂ ∧ s₂.status = .running ∧ Ended s₂ below o ∧ ∃ v L, o = .returned v ∧ Q v s₂.heap L ∧ ReturnedEndW s o s₂ L kc ks
theorem GoalW.lift {tb : Tables} {e : Env} {below : List Frame} {s : State} {kc ks : Nat} {Q : Option Value → Heap → List Loc → Prop} {A B : State}
    (h : ∀ t, Steps tb e below B t → Steps tb e below A t) (g : GoalW tb e below s kc ks Q B) : GoalW tb e below s kc ks Q A := by
  obtain ⟨s₂, o, h1, h2⟩ := g
  exact ⟨s₂, o, h _ h1, h2⟩
theorem own_monoW {s t : State} {o : Outcome} {L : List Loc} {k n k' n' : Nat} (h : ReturnedEndW s o t L k n) (hk : k ≤ k') (hn : n ≤ n') : ReturnedEndW s o t L k' n' := ⟨h.1, h.2.1, h.2.2.1, h.2.2.2.mono hk hn⟩
section BackI
variable {p : Program} {l : Launch} {e : Env} {R : Room} {s : State} {args : Array Value} {below : List Frame} {Z : State} {a0 : Array Value} {h : Heap}
theorem own_IBs {m : MethodId} {meth : Method} {c : Code} {U : State} {L : List Loc} {k n : Nat} (hI : IB Z s.vm []) (Y : Stand p l e R s m args below meth c U L k n) : IB Z U.vm [] := by
  obtain ⟨more, q1, q2⟩ := hI
  exact ⟨more, Y.warmed.interned_eq.trans q1, q2⟩
-- a callee that may intern and that asks of its start what the intern table has gained since Z
theorem backOfI {y : MethodName} {bytes : ByteArray} {maxL : Nat} {ret : Option FieldType} {rm : Room} {len W : Nat} {as' : Array Value} {Q : Option Value → Heap → List Loc → Prop}
    (hM : MetFree l y (head1 [Cond.code y bytes maxL ret] rm) (fun a U => a = as' ∧ Z.Warmed39 U.vm ∧ U.heap = h ∧ IB Z U.vm []) (fun _ _ _ _ _ => True) (fun _ U o U' => ∃ v L, o = .returned v ∧ Q v U'.heap L ∧ ReturnedEndW U o U' L rm.cells rm.slots))
    (hZ : Z.Warmed39 s.vm) (wc : (Cond.code y bytes maxL ret).before a0 Z = true) (wz : (Cond.initialized y.cls).before a0 Z = true) (hf : rm.frames + 1 ≤ R.frames) (hl : W + (maxL + 11) + rm.locals ≤ R.locals) (hI : IB Z s.vm []) :
    BackS l R p e below s args y len W (fun A a => a = as' ∧ A.U.heap = h ∧ A.cells + rm.cells ≤ R.cells ∧ A.slots + rm.slots ≤ R.slots)
      (fun A _ v B => ∃ L, Q v B.U.heap L ∧ B.locs = A.locs ++ L ∧ B.cells = A.cells + rm.cells ∧ B.slots = A.slots + rm.slots) := by
  refine BackS.of_freeW (bytes := bytes) (maxL := maxL) (ret := ret) (E := fun _ _ o t L k n => (∃ v, o = .returned v ∧ Q v t.heap L) ∧ k = rm.cells ∧ n = rm.slots) hM hf hl ?_ ?_ ?_ ?_ ?_
  · intro m meth c A a Y hp
    have hU := wtrans hZ Y.warmed
    have hc : (Cond.code y bytes maxL ret).before a A.U = true := mv hU wc
    refine ⟨?_, hc, mv hU wz, hp.2.2.1, hp.2.2.2⟩
    show (Cond.and (Cond.code y bytes maxL ret) .tt).before a A.U = true
    rw [Cond.before_and, hc]; rfl
  · intro m meth c A a g mk Y hp
    have q : IB Z A.U.vm [] := own_IBs hI Y
    exact ⟨hp.1, wtrans hZ Y.warmed, hp.2.1, q⟩
  · intros; trivial
  · rintro _ _ _ _ ⟨v, L, h1, h2, h3⟩
    exact ⟨L, _, _, h3, ⟨v, h1, h2⟩, rfl, rfl⟩
  · rintro m meth c A a g mk v t L k n Y hp _ _ ⟨⟨v', e3, e4⟩, e1, e2⟩
    cases e3; subst e1 e2
    exact ⟨L, e4, rfl, rfl, rfl⟩
end BackI
theorem own_sa : ∀ d ∈ Bundle.stringAtoms, d ∈ tables_1 := by decide +kernel
theorem own_av0 {Z : State} {h : Heap} {b : Addr} {k : ClassId} (F : Arv Z h b k .byte (0 : Int32) [] (.int 0)) {f : Nat → Int32} : AV Z h b k .byte 0 (fun i => Value.int (f i)) := by
  obtain ⟨c, A, r1, r2, -⟩ := F
  exact ⟨c, A, r1, r2, by decide, fun i hi => absurd hi (Nat.not_lt_zero _)⟩
theorem own_ne0 {Z : State} {h : Heap} {a0 : Array Value} {x b : Addr} {C : String} {k : ClassId} {n : Nat} {f : Nat → Int32} (E : Exa Z h x C) (F : AV Z h b k .byte 0 (fun i => Value.int (f i))) (w : (Cond.instantiable C n).before a0 Z = true) : x ≠ b :=
  Exa.neArv E (AV.arv (z := (0 : Int32)) (vs := []) (dv := .int 0) F (by decide) (by decide) (fun i hi => absurd hi (Nat.not_lt_zero _)) (fun i hi => absurd hi (Nat.not_lt_zero _))) w
theorem own_selp {s : State} {args : Array Value} {n : Nat} {y : MethodName} (hins : (Cond.instantiable y.cls n).before args s = true) (hpriv : (Cond.privateMethod y).before args s = true) (hinst : (Cond.instanceMethod y).before args s = true) (hy : y.cls ≠ "java/lang/invoke/MethodHandle" ∧ y.cls ≠ "java/lang/invoke/VarHandle") : (Cond.selects y.cls y y).before args s = true := by
  obtain ⟨c, k, hc, hk, -, hniab, -, -⟩ := Cond.instantiable_spec hins
  exact selects_self_of_private hc hk (Bool.or_eq_false_iff.mp hniab).1 (Cond.privateMethod_at hpriv) hinst hy
def own_ok (x : Int32) : Prop := 0 ≤ x.toInt ∧ x.toInt < 128
def own_s3 (c0 c1 c2 : Int32) : Nat → Int32 := fun i => if i = 0 then c0 else if i = 1 then c1 else c2
theorem own_s3ok {c0 c1 c2 : Int32} (h0 : own_ok c0) (h1 : own_ok c1) (h2 : own_ok c2) : ∀ i, own_ok (own_s3 c0 c1 c2 i) := fun i => by
  unfold own_s3; split
  · exact h0
  · split
    · exact h1
    · exact h2
theorem own_255 {x : Int32} (h : own_ok x) : ¬ (255 : Int32) < x := by
  have e : (255 : Int32).toInt = 255 := rfl
  have := h.1; have := h.2
  rw [Int32.lt_iff_toInt_lt]; omega
theorem own_i8 {x : Int32} (h : own_ok x) : x.toInt8.toInt32 = x := by
  have a := c_i2b x
  have := h.1; have := h.2
  refine Int32.toInt_inj.mp ?_
  omega
theorem own_i88 {x : Int32} (h : own_ok x) : (x.toInt8.toInt32).toInt8.toInt32 = x := by rw [own_i8 h, own_i8 h]
theorem own_and {x : Int32} (h : own_ok x) : x &&& (255 : Int32) = x := by
  have e : (x &&& (255 : Int32)).toInt = x.toInt % (2 ^ 8 : Nat) := c_mask x 255 8 (by decide) (by decide)
  have := h.1; have := h.2
  refine Int32.toInt_inj.mp ?_
  omega
theorem own_u16 {x : Int32} (h : own_ok x) : (x).toUInt32.toUInt16.toUInt32.toInt32 = x := by
  have e := i2c_mask x
  rw [own_and h] at e
  exact e
theorem own_ca {x : Int32} (h : own_ok x) : ((((x &&& (255 : Int32))).toUInt32.toUInt16.toUInt32.toInt32)).toUInt32.toUInt16.toUInt32.toInt32 = x := by rw [own_and h, own_u16 h, own_u16 h]
theorem own_and127 (x : Int32) : own_ok (x &&& (127 : Int32)) := by
  have e : (x &&& (127 : Int32)).toInt = x.toInt % (2 ^ 7 : Nat) := c_mask x 127 7 (by decide) (by decide)
  refine ⟨?_, ?_⟩ <;> omega
theorem own_pc (x : Int32) : own_ok ((((x &&& (127 : Int32))).toUInt32.toUInt16.toUInt32.toInt32)).toUInt32.toUInt16.toUInt32.toInt32 := by rw [own_u16 (own_and127 x), own_u16 (own_and127 x)]; exact own_and127 x

def own_sw0 (p2 : Int32) (q : Int32) : Int32 := (if (q - p2) < (0 : Int32) then (0 : Int32) else (1 : Int32))
def own_sw1 (p2 : Int32) (q : Int32) (f : Nat → Int32) (g : Nat → Int32) : Int32 := (if (q - p2) < (1 : Int32) then (0 : Int32) else (if (f ((p2 + (0 : Int32))).toNatClampNeg) = (g 0) then (1 : Int32) else (0 : Int32)))
def own_sw2 (p2 : Int32) (q : Int32) (f : Nat → Int32) (g : Nat → Int32) : Int32 := (if (q - p2) < (2 : Int32) then (0 : Int32) else (if (f ((p2 + (0 : Int32))).toNatClampNeg) = (g 0) then (if (f ((p2 + (1 : Int32))).toNatClampNeg) = (g 1) then (1 : Int32) else (0 : Int32)) else (0 : Int32)))
def own_sw3 (p2 : Int32) (q : Int32) (f : Nat → Int32) (g : Nat → Int32) : Int32 := (if (q - p2) < (3 : Int32) then (0 : Int32) else (if (f ((p2 + (0 : Int32))).toNatClampNeg) = (g 0) then (if (f ((p2 + (1 : Int32))).toNatClampNeg) = (g 1) then (if (f ((p2 + (2 : Int32))).toNatClampNeg) = (g 2) then (1 : Int32) else (0 : Int32)) else (0 : Int32)) else (0 : Int32)))
theorem own_p5 {p i : Int32} (hp : p = 0 ∨ p = 1) (hi : i = 0 ∨ i = 1 ∨ i = 2) : ¬ (p + i) < 0 ∧ (p + i).toNatClampNeg < 5 := by
  rcases hp with rfl | rfl <;> rcases hi with rfl | rfl | rfl <;> decide
theorem own_b1 {x : Int32} (h : x = 0 ∨ x = 1) : x &&& 1 = x := by rcases h with rfl | rfl <;> decide
theorem own_sw01_0 {p2 : Int32} {q : Int32} : own_sw0 p2 q = 0 ∨ own_sw0 p2 q = 1 := by
  unfold own_sw0; repeat' split
  all_goals simp
theorem own_swb0 {p2 : Int32} {q : Int32} : (own_sw0 p2 q) &&& 1 = own_sw0 p2 q := own_b1 own_sw01_0
theorem own_sw01_1 {p2 : Int32} {q : Int32} {f : Nat → Int32} {g : Nat → Int32} : own_sw1 p2 q f g = 0 ∨ own_sw1 p2 q f g = 1 := by
  unfold own_sw1; repeat' split
  all_goals simp
theorem own_swb1 {p2 : Int32} {q : Int32} {f : Nat → Int32} {g : Nat → Int32} : (own_sw1 p2 q f g) &&& 1 = own_sw1 p2 q f g := own_b1 own_sw01_1
theorem own_sw01_2 {p2 : Int32} {q : Int32} {f : Nat → Int32} {g : Nat → Int32} : own_sw2 p2 q f g = 0 ∨ own_sw2 p2 q f g = 1 := by
  unfold own_sw2; repeat' split
  all_goals simp
theorem own_swb2 {p2 : Int32} {q : Int32} {f : Nat → Int32} {g : Nat → Int32} : (own_sw2 p2 q f g) &&& 1 = own_sw2 p2 q f g := own_b1 own_sw01_2
theorem own_sw01_3 {p2 : Int32} {q : Int32} {f : Nat → Int32} {g : Nat → Int32} : own_sw3 p2 q f g = 0 ∨ own_sw3 p2 q f g = 1 := by
  unfold own_sw3; repeat' split
  all_goals simp
theorem own_swb3 {p2 : Int32} {q : Int32} {f : Nat → Int32} {g : Nat → Int32} : (own_sw3 p2 q f g) &&& 1 = own_sw3 p2 q f g := own_b1 own_sw01_3

theorem own_n4 {x n : Int32} (h : n = (x &&& (3 : Int32))) : n = 0 ∨ n = 1 ∨ n = 2 ∨ n = 3 := by
  have e : (x &&& (3 : Int32)).toInt = x.toInt % (2 ^ 2 : Nat) := c_mask x 3 2 (by decide) (by decide)
  rw [← h] at e
  have e0 : (0 : Int32).toInt = 0 := rfl
  have e1 : (1 : Int32).toInt = 1 := rfl
  have e2 : (2 : Int32).toInt = 2 := rfl
  have e3 : (3 : Int32).toInt = 3 := rfl
  have : n.toInt = 0 ∨ n.toInt = 1 ∨ n.toInt = 2 ∨ n.toInt = 3 := by omega
  rcases this with q | q | q | q
  · exact Or.inl (Int32.toInt_inj.mp (by omega))
  · exact Or.inr (Or.inl (Int32.toInt_inj.mp (by omega)))
  · exact Or.inr (Or.inr (Or.inl (Int32.toInt_inj.mp (by omega))))
  · exact Or.inr (Or.inr (Or.inr (Int32.toInt_inj.mp (by omega))))
theorem own_ln (x : Int32) : 0 ≤ ((x &&& (7 : Int32)) % (6 : Int32)).toInt ∧ ((x &&& (7 : Int32)) % (6 : Int32)).toInt ≤ 5 := by
  have h1 : 0 ≤ (x &&& (7 : Int32)).toInt := (c_andS x (7 : Int32)).2.2 (by decide)
  have h2 := (c_irem (x &&& (7 : Int32)) (6 : Int32) 6 rfl).1 h1
  omega
theorem own_w01 {w q x y : Int32} (h : w = if (0 : Int32) < q then (if x = y then ((0 : Int32) + (1 : Int32)) else (0 : Int32)) else (0 : Int32)) : w = 0 ∨ w = 1 := by
  rw [h]; split
  · split
    · exact Or.inr (by decide)
    · exact Or.inl rfl
  · exact Or.inl rfl
theorem own_wle {w q x y : Int32} (hq : 0 ≤ q.toInt) (h : w = if (0 : Int32) < q then (if x = y then ((0 : Int32) + (1 : Int32)) else (0 : Int32)) else (0 : Int32)) : ¬ q < w := by
  have e0 : (0 : Int32).toInt = 0 := rfl
  have e1 : (1 : Int32).toInt = 1 := rfl
  have n0 : ¬ q < 0 := by rw [Int32.lt_iff_toInt_lt]; omega
  rw [h]; split
  · rename_i g
    split
    · rw [show (0 : Int32) + (1 : Int32) = 1 by decide]
      rw [Int32.lt_iff_toInt_lt] at g ⊢; omega
    · exact n0
  · exact n0
theorem own_q0 {q w : Int32} (hq : 0 ≤ q.toInt) (h : w = 0) : ¬ q < w := by
  have e0 : (0 : Int32).toInt = 0 := rfl
  rw [h, Int32.lt_iff_toInt_lt]; omega
theorem own_wn {w : Int32} (h : w = 0 ∨ w = 1) : ¬ w < 0 := by rcases h with rfl | rfl <;> decide
theorem own_w1 {w : Int32} (h : w = 0 ∨ w = 1) : ¬ (1 : Int32) < w := by rcases h with rfl | rfl <;> decide
theorem own_p50 {w : Int32} (h : w = 0 ∨ w = 1) : ¬ w < 0 ∧ w.toNatClampNeg < 5 := by rcases h with rfl | rfl <;> decide
theorem own_ok0 : ∀ i : Nat, own_ok ((fun _ => (0 : Int32)) i) := fun _ => show own_ok (0 : Int32) from ⟨by decide, by decide⟩
theorem own_e0 {p q b : Int32} (h : b = (if (q - p) < (0 : Int32) then (0 : Int32) else (1 : Int32))) : own_sw0 p q = b := by rw [h, own_sw0]
theorem own_e1 {p q c0 c1 c2 b : Int32} {f : Nat → Int32} (h : b = (if (q - p) < (1 : Int32) then (0 : Int32) else (if (f (p).toNatClampNeg) = c0 then (1 : Int32) else (0 : Int32)))) : own_sw1 p q f (own_s3 c0 c1 c2) = b := by
  rw [h, own_sw1, Int32.add_zero]; rfl
theorem own_e2 {p q c0 c1 c2 b : Int32} {f : Nat → Int32} (h : b = (if (q - p) < (2 : Int32) then (0 : Int32) else (if (f (p).toNatClampNeg) = c0 then (if (f ((p + (1 : Int32))).toNatClampNeg) = c1 then (1 : Int32) else (0 : Int32)) else (0 : Int32)))) : own_sw2 p q f (own_s3 c0 c1 c2) = b := by
  rw [h, own_sw2, Int32.add_zero]; rfl
theorem own_e3 {p q c0 c1 c2 b : Int32} {f : Nat → Int32} (h : b = (if (q - p) < (3 : Int32) then (0 : Int32) else (if (f (p).toNatClampNeg) = c0 then (if (f ((p + (1 : Int32))).toNatClampNeg) = c1 then (if (f ((p + (2 : Int32))).toNatClampNeg) = c2 then (1 : Int32) else (0 : Int32)) else (0 : Int32)) else (0 : Int32)))) : own_sw3 p q f (own_s3 c0 c1 c2) = b := by
  rw [h, own_sw3, Int32.add_zero]; rfl

theorem d4_0 : decode jdk_41_method_13_code 0 = .ok (.iload_n 2, 1) := by decide +kernel
theorem d4_1 : decode jdk_41_method_13_code 1 = .ok (.iload_n 0, 1) := by decide +kernel
theorem d4_2 : decode jdk_41_method_13_code 2 = .ok (.ior, 1) := by decide +kernel
theorem d4_3 : decode jdk_41_method_13_code 3 = .ok (.iload_n 1, 1) := by decide +kernel
theorem d4_4 : decode jdk_41_method_13_code 4 = .ok (.ior, 1) := by decide +kernel
theorem d4_5 : decode jdk_41_method_13_code 5 = .ok (.ifCond .lt 10, 3) := by decide +kernel
theorem d4_8 : decode jdk_41_method_13_code 8 = .ok (.iload_n 1, 1) := by decide +kernel
theorem d4_9 : decode jdk_41_method_13_code 9 = .ok (.iload_n 2, 1) := by decide +kernel
theorem d4_10 : decode jdk_41_method_13_code 10 = .ok (.iload_n 0, 1) := by decide +kernel
theorem d4_11 : decode jdk_41_method_13_code 11 = .ok (.isub, 1) := by decide +kernel
theorem d4_12 : decode jdk_41_method_13_code 12 = .ok (.if_icmp .le 11, 3) := by decide +kernel
theorem d4_23 : decode jdk_41_method_13_code 23 = .ok (.iload_n 0, 1) := by decide +kernel
theorem d4_24 : decode jdk_41_method_13_code 24 = .ok (.ireturn, 1) := by decide +kernel
theorem pn_0 : plainName "jdk/internal/util/Preconditions" = true := by first | (simp [plainName, overriddenIn]; done) | decide +kernel
theorem ef_rm4 (m : MethodId) (p1 : Int32) (p2 : Int32) (p3 : Int32) : entryFrame m #[(.int p1), (.int p2), (.int p3), .null] 4 = mkF m 0 #[vi p1, vi p2, vi p3, .val .null] [] := by first | (simp [entryFrame, mkF, argsToLocals, Value.category]; done) | rfl
def Q4 (Z : State) (p1 : Int32) (p2 : Int32) (p3 : Int32) (h0 : Heap) (n0 : Nat) (v : Option Value) (h : Heap) (L : List Loc) : Prop := v = some (.int p1) ∧ Fr n0 L ∧ h = h0
set_option maxRecDepth 65536 in
set_option maxHeartbeats 40000000 in
theorem rm4 (l : Launch) (Z : State) (a0 : Array Value) (hw : ∀ d ∈ tables_1, d.before a0 Z = true) (ws : List Jvm.Cond) (p1 : Int32) (p2 : Int32) (p3 : Int32) (h0 : Heap) (n0 : Nat) (Z0 : n0 ≤ h0.size) (hA : ¬ (((p3 ||| p1) ||| p2) < (0 : Int32))) (hB : ¬ ((p3 - p1) < p2)) :
    MetFree l (⟨"jdk/internal/util/Preconditions", "checkFromIndexSize", "(IIILjava/util/function/BiFunction;)I"⟩ : MethodName) (head1 (Jvm.Cond.code (⟨"jdk/internal/util/Preconditions", "checkFromIndexSize", "(IIILjava/util/function/BiFunction;)I"⟩ : MethodName) jdk_41_method_13_code 4 (some .int) :: ws) ({ frames := 0, cells := 0, slots := 0, locals := 0 } : Room)) (fun a U => a = #[(.int p1), (.int p2), (.int p3), .null] ∧ Z.Warmed39 U.vm ∧ U.heap = h0) (fun _ _ _ _ _ => True) (fun _ U o U' => ∃ v L, o = .returned v ∧ Q4 Z p1 p2 p3 h0 n0 v U'.heap L ∧ FrameEnd U o U' L ({ frames := 0, cells := 0, slots := 0, locals := 0 } : Room).cells ({ frames := 0, cells := 0, slots := 0, locals := 0 } : Room).slots) := by
  refine MetFree.of_bodySF (plainFor_of_name pn_0) hisR ?_
  intro p e s m args below meth c s₁ Bd hml0 hP hK
  obtain ⟨rfl, hZ, hh⟩ := hP
  have hx := Bd.exec
  have hby := Bd.bytes
  have hml : c.maxLocals = 4 := hml0
  have hown : s.vm.findClass "jdk/internal/util/Preconditions" = some m.cls := findClass_of_methodNamed Bd.named
  have hnm := (name_of_methodNamed Bd.named Bd.method).1
  have X0 : Stand p l e ({ frames := 0, cells := 0, slots := 0, locals := 0 } : Room) s m #[(.int p1), (.int p2), (.int p3), .null] below meth c s₁ [] 0 0 := Stand.of_body Bd
  have e0 : s₁.heap = h0 := by rw [← hh, Bd.state]; rfl
  have N0 := Fr.nil n0
  show GoalS p.tables e below s ({ frames := 0, cells := 0, slots := 0, locals := 0 } : Room).cells ({ frames := 0, cells := 0, slots := 0, locals := 0 } : Room).slots (Q4 Z p1 p2 p3 h0 n0) (s₁.setTop (entryFrame m #[(.int p1), (.int p2), (.int p3), .null] 4))
  refine GoalS.lift (B := s₁.setTop (mkF m 0 #[vi p1, vi p2, vi p3, .val .null] [])) (fun t k => castTop (ef_rm4 m p1 p2 p3) k) ?_
  have K0 : Keep h0 h0 [] := Keep.refl _ _
  obtain ⟨fs, hr, hrun, hended, hW, hsame⟩ := X0.leave (v := some (.int p1)) (fun h => by rw [Bd.returns] at h; cases h)
  refine ⟨_, _, ?_, hrun, hended, _, _, rfl, ?_, ⟨_, rfl⟩, hW, hsame.mono (by decide) (by decide)⟩
  · show Steps p.tables e below (s₁.setTop (mkF m 0 #[vi p1, vi p2, vi p3, .val .null] [])) _
    refine XS.iloadN X0.here hx rfl (hb hby d4_0) rfl ?_
    refine XS.iloadN X0.here hx rfl (hb hby d4_1) rfl ?_
    refine XS.ior X0.here hx rfl (hb hby d4_2) rfl ?_
    refine XS.iloadN X0.here hx rfl (hb hby d4_3) rfl ?_
    refine XS.ior X0.here hx rfl (hb hby d4_4) rfl ?_
    refine XS.ifNo X0.here hx rfl (hb hby d4_5) rfl ((if0 _ _).trans (flt (hA : ¬ (((p3 ||| p1) ||| p2) < (0 : Int32)))).1) ?_
    show Steps p.tables e below (s₁.setTop (mkF m 8 #[vi p1, vi p2, vi p3, .val .null] [])) _
    refine XS.iloadN X0.here hx rfl (hb hby d4_8) rfl ?_
    refine XS.iloadN X0.here hx rfl (hb hby d4_9) rfl ?_
    refine XS.iloadN X0.here hx rfl (hb hby d4_10) rfl ?_
    refine XS.isub X0.here hx rfl (hb hby d4_11) rfl ?_
    refine XS.icmpYes X0.here hx rfl (pc0 := 12) (pc' := 23) rfl (hb hby d4_12) rfl ((flt (hB : ¬ ((p3 - p1) < p2))).2.2.2) (by decide) (by decide) ?_
    refine XS.iloadN X0.here hx rfl (hb hby d4_23) rfl ?_
    show Steps p.tables e below (s₁.setTop (mkF m 24 #[vi p1, vi p2, vi p3, .val .null] [(.int p1)])) _
    exact retI X0 hx Bd.returns (hb hby d4_24) hr
  · show Q4 Z p1 p2 p3 h0 n0 _ s₁.heap _
    exact ⟨rfl, N0, e0⟩
theorem d3_0 : decode jdk_31_method_19_code 0 = .ok (.iload_n 0, 1) := by decide +kernel
theorem d3_1 : decode jdk_31_method_19_code 1 = .ok (.iload_n 1, 1) := by decide +kernel
theorem d3_2 : decode jdk_31_method_19_code 2 = .ok (.iload_n 2, 1) := by decide +kernel
theorem d3_3 : decode jdk_31_method_19_code 3 = .ok (.aconst_null, 1) := by decide +kernel
theorem d3_4 : decode jdk_31_method_19_code 4 = .ok (.invokestatic 115, 3) := by decide +kernel
theorem d3_7 : decode jdk_31_method_19_code 7 = .ok (.ireturn, 1) := by decide +kernel
theorem pn_1 : plainName "java/util/Objects" = true := by first | (simp [plainName, overriddenIn]; done) | decide +kernel
theorem pd_0 : parseMethodDescriptor "(IIILjava/util/function/BiFunction;)I" = some ⟨[.int, .int, .int, (.object "java/util/function/BiFunction")], some .int⟩ := by decide +kernel
theorem ef_rm3 (m : MethodId) (p1 : Int32) (p2 : Int32) (p3 : Int32) : entryFrame m #[(.int p1), (.int p2), (.int p3)] 3 = mkF m 0 #[vi p1, vi p2, vi p3] [] := by first | (simp [entryFrame, mkF, argsToLocals, Value.category]; done) | rfl
def Q3 (Z : State) (p1 : Int32) (p2 : Int32) (p3 : Int32) (h0 : Heap) (n0 : Nat) (v : Option Value) (h : Heap) (L : List Loc) : Prop := v = some (.int p1) ∧ Fr n0 L ∧ h = h0
set_option maxRecDepth 65536 in
set_option maxHeartbeats 40000000 in
theorem rm3 (l : Launch) (Z : State) (a0 : Array Value) (hw : ∀ d ∈ tables_1, d.before a0 Z = true) (ws : List Jvm.Cond) (p1 : Int32) (p2 : Int32) (p3 : Int32) (h0 : Heap) (n0 : Nat) (Z0 : n0 ≤ h0.size) (hA : ¬ (((p3 ||| p1) ||| p2) < (0 : Int32))) (hB : ¬ ((p3 - p1) < p2)) :
    MetFree l (⟨"java/util/Objects", "checkFromIndexSize", "(III)I"⟩ : MethodName) (head1 (Jvm.Cond.code (⟨"java/util/Objects", "checkFromIndexSize", "(III)I"⟩ : MethodName) jdk_31_method_19_code 3 (some .int) :: ws) ({ frames := 1, cells := 0, slots := 0, locals := 15 } : Room)) (fun a U => a = #[(.int p1), (.int p2), (.int p3)] ∧ Z.Warmed39 U.vm ∧ U.heap = h0) (fun _ _ _ _ _ => True) (fun _ U o U' => ∃ v L, o = .returned v ∧ Q3 Z p1 p2 p3 h0 n0 v U'.heap L ∧ FrameEnd U o U' L ({ frames := 1, cells := 0, slots := 0, locals := 15 } : Room).cells ({ frames := 1, cells := 0, slots := 0, locals := 15 } : Room).slots) := by
  refine MetFree.of_bodySF (plainFor_of_name pn_1) hisR ?_
  intro p e s m args below meth c s₁ Bd hml0 hP hK
  obtain ⟨rfl, hZ, hh⟩ := hP
  have hx := Bd.exec
  have hby := Bd.bytes
  have hml : c.maxLocals = 3 := hml0
  have hown : s.vm.findClass "java/util/Objects" = some m.cls := findClass_of_methodNamed Bd.named
  have hnm := (name_of_methodNamed Bd.named Bd.method).1
  have X0 : Stand p l e ({ frames := 1, cells := 0, slots := 0, locals := 15 } : Room) s m #[(.int p1), (.int p2), (.int p3)] below meth c s₁ [] 0 0 := Stand.of_body Bd
  have e0 : s₁.heap = h0 := by rw [← hh, Bd.state]; rfl
  have N0 := Fr.nil n0
  show GoalS p.tables e below s ({ frames := 1, cells := 0, slots := 0, locals := 15 } : Room).cells ({ frames := 1, cells := 0, slots := 0, locals := 15 } : Room).slots (Q3 Z p1 p2 p3 h0 n0) (s₁.setTop (entryFrame m #[(.int p1), (.int p2), (.int p3)] 3))
  refine GoalS.lift (B := s₁.setTop (mkF m 0 #[vi p1, vi p2, vi p3] [])) (fun t k => castTop (ef_rm3 m p1 p2 p3) k) ?_
  have K0 : Keep h0 h0 [] := Keep.refl _ _
  obtain ⟨_, _, ⟨T1, L1, k1, n1⟩, -, X1, ⟨Lc1, hQ1, l1, y1, z1⟩, st1⟩ := Jvm.LawKit.callS X0 hx (y := (⟨"jdk/internal/util/Preconditions", "checkFromIndexSize", "(IIILjava/util/function/BiFunction;)I"⟩ : MethodName)) hown (mvT hZ (hw _ (List.mem_of_getElem? (i := 16) rfl))) (mvT hZ (hw _ (List.mem_of_getElem? (i := 17) rfl))) (mvT hZ (hw _ (List.mem_of_getElem? (i := 18) rfl))) (mvT hZ (hw _ (List.mem_of_getElem? (i := 19) rfl))) (by decide) (backOf (W := 0) (rm4 l Z a0 hw [] p1 p2 p3 h0 n0 Z0 hA hB) hZ (hw _ (List.mem_of_getElem? (i := 19) rfl)) (hw _ (List.mem_of_getElem? (i := 18) rfl)) (by decide) (by decide)) (g := (mkF m 4 #[vi p1, vi p2, vi p3] [.null, (.int p3), (.int p2), (.int p1)])) rfl (by rw [hml]; rfl) (argsL := [(.int p1), (.int p2), (.int p3), .null]) (rest := []) (lenOf pd_0 rfl) rfl (by show 2 * 0 + _ ≤ _; exact Nat.le_of_eq rfl) (hb hby d3_4) (fun _ _ => ⟨rfl, e0, (by decide : 0 + 0 ≤ _), (by decide : 0 + 0 ≤ _)⟩)
  dsimp only [Pt.U, Pt.locs, Pt.cells, Pt.slots] at X1 l1 y1 z1 st1 hQ1
  subst y1 z1
  obtain ⟨rfl, N1q, eq1⟩ := hQ1
  have N1 : Fr n0 L1 := by rw [l1]; exact Fr.app N0 N1q
  obtain ⟨fs, hr, hrun, hended, hW, hsame⟩ := X1.leave (v := some (.int p1)) (fun h => by rw [Bd.returns] at h; cases h)
  refine ⟨_, _, ?_, hrun, hended, _, _, rfl, ?_, ⟨_, rfl⟩, hW, hsame.mono (by decide) (by decide)⟩
  · show Steps p.tables e below (s₁.setTop (mkF m 0 #[vi p1, vi p2, vi p3] [])) _
    refine XS.iloadN X0.here hx rfl (hb hby d3_0) rfl ?_
    refine XS.iloadN X0.here hx rfl (hb hby d3_1) rfl ?_
    refine XS.iloadN X0.here hx rfl (hb hby d3_2) rfl ?_
    refine XS.aconstNull X0.here hx rfl (hb hby d3_3) ?_
    refine st1 _ ?_
    exact retI X1 hx Bd.returns (hb hby d3_7) hr
  · show Q3 Z p1 p2 p3 h0 n0 _ T1.heap _
    exact ⟨rfl, N1, eq1⟩
theorem d1_0 : decode prog_45_method_1_code 0 = .ok (.aload_n 0, 1) := by decide +kernel
theorem d1_1 : decode prog_45_method_1_code 1 = .ok (.invokespecial 1, 3) := by decide +kernel
theorem d1_4 : decode prog_45_method_1_code 4 = .ok (.aload_n 0, 1) := by decide +kernel
theorem d1_5 : decode prog_45_method_1_code 5 = .ok (.sipush 128, 3) := by decide +kernel
theorem d1_8 : decode prog_45_method_1_code 8 = .ok (.newarray .byte, 2) := by decide +kernel
theorem d1_10 : decode prog_45_method_1_code 10 = .ok (.putfield 7, 3) := by decide +kernel
theorem d1_13 : decode prog_45_method_1_code 13 = .ok (.iconst 0, 1) := by decide +kernel
theorem d1_14 : decode prog_45_method_1_code 14 = .ok (.iload_n 2, 1) := by decide +kernel
theorem d1_15 : decode prog_45_method_1_code 15 = .ok (.aload_n 1, 1) := by decide +kernel
theorem d1_16 : decode prog_45_method_1_code 16 = .ok (.arraylength, 1) := by decide +kernel
theorem d1_17 : decode prog_45_method_1_code 17 = .ok (.invokestatic 13, 3) := by decide +kernel
theorem d1_20 : decode prog_45_method_1_code 20 = .ok (.pop, 1) := by decide +kernel
theorem d1_21 : decode prog_45_method_1_code 21 = .ok (.aload_n 0, 1) := by decide +kernel
theorem d1_22 : decode prog_45_method_1_code 22 = .ok (.aload_n 1, 1) := by decide +kernel
theorem d1_23 : decode prog_45_method_1_code 23 = .ok (.putfield 19, 3) := by decide +kernel
theorem d1_26 : decode prog_45_method_1_code 26 = .ok (.aload_n 0, 1) := by decide +kernel
theorem d1_27 : decode prog_45_method_1_code 27 = .ok (.iload_n 2, 1) := by decide +kernel
theorem d1_28 : decode prog_45_method_1_code 28 = .ok (.putfield 22, 3) := by decide +kernel
theorem d1_31 : decode prog_45_method_1_code 31 = .ok (.return_, 1) := by decide +kernel
theorem pn_2 : plainName "com/example/verdict/verdict/saml/XmlScanner" = true := by first | (simp [plainName, overriddenIn]; done) | decide +kernel
theorem pd_1 : parseMethodDescriptor "(III)I" = some ⟨[.int, .int, .int], some .int⟩ := by decide +kernel
theorem ef_rm1 (m : MethodId) (a1 : Addr) (a2 : Addr) (p3 : Int32) : entryFrame m #[(.ref a1), (.ref a2), (.int p3)] 3 = mkF m 0 #[vr a1, vr a2, vi p3] [] := by first | (simp [entryFrame, mkF, argsToLocals, Value.category]; done) | rfl
def Q1 (Z : State) (a1 : Addr) (a2 : Addr) (p3 : Int32) (u_text : Value) (u_doc : Value) (u_end : Value) (u_pos : Value) (k : ClassId) (n : Nat) (f : Nat → Int32) (z : Int32) (h0 : Heap) (n0 : Nat) (v : Option Value) (h : Heap) (L : List Loc) : Prop := v = none ∧ Fr n0 L ∧ Keep h0 h [a1] ∧ (Exa Z h a1 "com/example/verdict/verdict/saml/XmlScanner") ∧ (Fld Z h a1 "com/example/verdict/verdict/saml/XmlScanner" "doc" "[B" (.ref a2)) ∧ (Fld Z h a1 "com/example/verdict/verdict/saml/XmlScanner" "end" "I" (.int p3)) ∧ (Fld Z h a1 "com/example/verdict/verdict/saml/XmlScanner" "pos" "I" u_pos)
set_option maxRecDepth 65536 in
set_option maxHeartbeats 40000000 in
theorem rm1 (l : Launch) (Z : State) (a0 : Array Value) (hw : ∀ d ∈ tables_1, d.before a0 Z = true) (ws : List Jvm.Cond) (a1 : Addr) (a2 : Addr) (p3 : Int32) (u_text : Value) (u_doc : Value) (u_end : Value) (u_pos : Value) (k : ClassId) (n : Nat) (f : Nat → Int32) (z : Int32) (h0 : Heap) (n0 : Nat) (Z0 : n0 ≤ h0.size) (E_a1 : Exa Z h0 a1 "com/example/verdict/verdict/saml/XmlScanner") (g_a1 : n0 ≤ a1) (F_text_a1 : Fld Z h0 a1 "com/example/verdict/verdict/saml/XmlScanner" "text" "[B" u_text) (F_doc_a1 : Fld Z h0 a1 "com/example/verdict/verdict/saml/XmlScanner" "doc" "[B" u_doc) (F_end_a1 : Fld Z h0 a1 "com/example/verdict/verdict/saml/XmlScanner" "end" "I" u_end) (F_pos_a1 : Fld Z h0 a1 "com/example/verdict/verdict/saml/XmlScanner" "pos" "I" u_pos) (A_a2 : AV Z h0 a2 k .byte n (fun i => Value.int (f i))) (hz : n.toInt32 = z) (hA : ¬ (((z ||| (0 : Int32)) ||| p3) < (0 : Int32))) (hB : ¬ ((z - (0 : Int32)) < p3)) (ne_a2_a1 : a2 ≠ a1) :
    MetFree l (⟨"com/example/verdict/verdict/saml/XmlScanner", "<init>", "([BI)V"⟩ : MethodName) (head1 (Jvm.Cond.code (⟨"com/example/verdict/verdict/saml/XmlScanner", "<init>", "([BI)V"⟩ : MethodName) prog_45_method_1_code 3 none :: ws) ({ frames := 2, cells := 1, slots := 128, locals := 29 } : Room)) (fun a U => a = #[(.ref a1), (.ref a2), (.int p3)] ∧ Z.Warmed39 U.vm ∧ U.heap = h0) (fun _ _ _ _ _ => True) (fun _ U o U' => ∃ v L, o = .returned v ∧ Q1 Z a1 a2 p3 u_text u_doc u_end u_pos k n f z h0 n0 v U'.heap L ∧ FrameEnd U o U' L ({ frames := 2, cells := 1, slots := 128, locals := 29 } : Room).cells ({ frames := 2, cells := 1, slots := 128, locals := 29 } : Room).slots) := by
  refine MetFree.of_bodySF (plainFor_of_name pn_2) hisR ?_
  intro p e s m args below meth c s₁ Bd hml0 hP hK
  obtain ⟨rfl, hZ, hh⟩ := hP
  have hx := Bd.exec
  have hby := Bd.bytes
  have hml : c.maxLocals = 3 := hml0
  have hown : s.vm.findClass "com/example/verdict/verdict/saml/XmlScanner" = some m.cls := findClass_of_methodNamed Bd.named
  have hnm := (name_of_methodNamed Bd.named Bd.method).1
  have X0 : Stand p l e ({ frames := 2, cells := 1, slots := 128, locals := 29 } : Room) s m #[(.ref a1), (.ref a2), (.int p3)] below meth c s₁ [] 0 0 := Stand.of_body Bd
  have e0 : s₁.heap = h0 := by rw [← hh, Bd.state]; rfl
  have N0 := Fr.nil n0
  show GoalS p.tables e below s ({ frames := 2, cells := 1, slots := 128, locals := 29 } : Room).cells ({ frames := 2, cells := 1, slots := 128, locals := 29 } : Room).slots (Q1 Z a1 a2 p3 u_text u_doc u_end u_pos k n f z h0 n0) (s₁.setTop (entryFrame m #[(.ref a1), (.ref a2), (.int p3)] 3))
  refine GoalS.lift (B := s₁.setTop (mkF m 0 #[vr a1, vr a2, vi p3] [])) (fun t k => castTop (ef_rm1 m a1 a2 p3) k) ?_
  have K0 : Keep h0 h0 [a1] := Keep.refl _ _
  obtain ⟨T1, X1, e1, st1⟩ := initO X0 hx hZ hown (hw _ (List.mem_of_getElem? (i := 7) rfl)) (hw _ (List.mem_of_getElem? (i := 8) rfl)) (hw _ (List.mem_of_getElem? (i := 9) rfl)) e0 (g := (mkF m 1 #[vr a1, vr a2, vi p3] [(.ref a1)])) rfl (by rw [hml]; rfl) rfl (hb hby d1_1) (by decide) (W := 0) (by show 2 * 0 + _ ≤ _; exact Nat.le_of_eq rfl) (by decide)
  obtain ⟨T2, h2, k2, X2, e2, E2, A2, st2⟩ := newP X1 hx hZ (hw _ (List.mem_of_getElem? (i := 0) rfl)) e1 (g := (mkF m 8 #[vr a1, vr a2, vi p3] [(.int (128 : Int32)), (.ref a1)])) rfl (hb hby d1_8) rfl (by decide) (cap := 128) (by decide) (by decide) (by decide) (by decide)
  obtain ⟨b2, g2⟩ : ∃ z, z = h0.size := ⟨_, rfl⟩
  rw [← g2] at A2 st2
  have g_b2 : n0 ≤ b2 := Nat.le_trans Z0 (Nat.le_of_eq g2.symm)
  have sz_b2 : h0.size ≤ b2 := Nat.le_trans K0.1 (Nat.le_of_eq g2.symm)
  have ne_a1_b2 : a1 ≠ b2 := Nat.ne_of_lt (Nat.lt_of_lt_of_le E_a1.lt (Nat.le_of_eq g2.symm))
  have ne_a2_b2 : a2 ≠ b2 := Nat.ne_of_lt (Nat.lt_of_lt_of_le A_a2.lt (Nat.le_of_eq g2.symm))
  have z3 : n0 ≤ h2.size := Nat.le_trans Z0 E2.1
  have K4 : Keep h0 h2 [a1] := K0.ext E2
  have V2 : AV Z h2 b2 k2 .byte 128 (fun i => Value.int ((fun _ => (0 : Int32)) i)) := AV.new A2 (by decide) (by decide) (by decide)
  have f5 : Fld Z h2 a1 "com/example/verdict/verdict/saml/XmlScanner" "text" "[B" u_text := (F_text_a1.ext E2)
  have f6 : Exa Z h2 a1 "com/example/verdict/verdict/saml/XmlScanner" := (E_a1.ext E2)
  obtain ⟨T7, h7, X7, e7, W7, st7⟩ := putF X2 hx hZ hown (host := "") (Or.inl (hw _ (List.mem_of_getElem? (i := 10) rfl))) Via.refl e2 f5 f6 (Or.inl (hw _ (List.mem_of_getElem? (i := 11) rfl))) (hw _ (List.mem_of_getElem? (i := 2) rfl)) (ty := (.array .byte)) (by decide) rfl rfl (g := (mkF m 10 #[vr a1, vr a2, vi p3] [(.ref b2), (.ref a1)])) rfl rfl (hb hby d1_10)
  have z8 : n0 ≤ h7.size := Nat.le_trans z3 (Keep.of_wr W7).1
  have K9 : Keep h0 h7 [a1] := K4.wr W7 (Or.inl (List.mem_of_getElem? (i := 0) rfl))
  have Fw7 : Fld Z h7 a1 "com/example/verdict/verdict/saml/XmlScanner" "text" "[B" (.ref b2) := f5.same W7
  have N7 := Fr.snoc X7 N0 g_a1
  have f11 : AV Z h7 a2 k .byte n (fun i => Value.int (f i)) := ((A_a2.ext E2).other W7 ne_a2_a1)
  obtain ⟨cl10, Ar10, -, sz10, -, -⟩ := id f11
  have le10 : cl10.slots.size.toInt32 = z := by rw [sz10]; exact hz
  obtain ⟨_, _, ⟨T12, L12, k12, n12⟩, -, X12, ⟨Lc12, hQ12, l12, y12, z12⟩, st12⟩ := Jvm.LawKit.callS X7 hx (y := (⟨"java/util/Objects", "checkFromIndexSize", "(III)I"⟩ : MethodName)) hown (mvT hZ (hw _ (List.mem_of_getElem? (i := 12) rfl))) (mvT hZ (hw _ (List.mem_of_getElem? (i := 13) rfl))) (mvT hZ (hw _ (List.mem_of_getElem? (i := 14) rfl))) (mvT hZ (hw _ (List.mem_of_getElem? (i := 15) rfl))) (by decide) (backOf (W := 0) (rm3 l Z a0 hw [] (0 : Int32) p3 z h7 n0 z8 hA hB) hZ (hw _ (List.mem_of_getElem? (i := 15) rfl)) (hw _ (List.mem_of_getElem? (i := 14) rfl)) (by decide) (by decide)) (g := (mkF m 17 #[vr a1, vr a2, vi p3] [(.int z), (.int p3), (.int (0 : Int32))])) rfl (by rw [hml]; rfl) (argsL := [(.int (0 : Int32)), (.int p3), (.int z)]) (rest := []) (lenOf pd_1 rfl) rfl (by show 2 * 0 + _ ≤ _; exact Nat.le_of_eq rfl) (hb hby d1_17) (fun _ _ => ⟨rfl, e7, (by decide : 1 + 0 ≤ _), (by decide : 128 + 0 ≤ _)⟩)
  dsimp only [Pt.U, Pt.locs, Pt.cells, Pt.slots] at X12 l12 y12 z12 st12 hQ12
  subst y12 z12
  obtain ⟨rfl, N12q, eq12⟩ := hQ12
  have N12 : Fr n0 L12 := by rw [l12]; exact Fr.app N7 N12q
  have f13 : Fld Z h7 a1 "com/example/verdict/verdict/saml/XmlScanner" "doc" "[B" u_doc := ((F_doc_a1.ext E2).other W7 (Or.inr (slot_ne (Or.inr (hw _ (List.mem_of_getElem? (i := 21) rfl))) (Or.inl (hw _ (List.mem_of_getElem? (i := 11) rfl))) (by decide) (t := (.array .byte)) (t' := (.array .byte)) (by decide) (by decide))))
  have f14 : Exa Z h7 a1 "com/example/verdict/verdict/saml/XmlScanner" := (f6.wr W7)
  obtain ⟨T15, h15, X15, e15, W15, st15⟩ := putF X12 hx hZ hown (host := "") (Or.inl (hw _ (List.mem_of_getElem? (i := 20) rfl))) Via.refl eq12 f13 f14 (Or.inr ⟨(hw _ (List.mem_of_getElem? (i := 21) rfl)), rfl, hnm⟩) (hw _ (List.mem_of_getElem? (i := 2) rfl)) (ty := (.array .byte)) (by decide) rfl rfl (g := (mkF m 23 #[vr a1, vr a2, vi p3] [(.ref a2), (.ref a1)])) rfl rfl (hb hby d1_23)
  have z16 : n0 ≤ h15.size := Nat.le_trans z8 (Keep.of_wr W15).1
  have K17 : Keep h0 h15 [a1] := K9.wr W15 (Or.inl (List.mem_of_getElem? (i := 0) rfl))
  have Fw15 : Fld Z h15 a1 "com/example/verdict/verdict/saml/XmlScanner" "doc" "[B" (.ref a2) := f13.same W15
  have N15 := Fr.snoc X15 N12 g_a1
  have f18 : Fld Z h15 a1 "com/example/verdict/verdict/saml/XmlScanner" "end" "I" u_end := (((F_end_a1.ext E2).other W7 (Or.inr (slot_ne (Or.inr (hw _ (List.mem_of_getElem? (i := 23) rfl))) (Or.inl (hw _ (List.mem_of_getElem? (i := 11) rfl))) (by decide) (t := .int) (t' := (.array .byte)) (by decide) (by decide)))).other W15 (Or.inr (slot_ne (Or.inr (hw _ (List.mem_of_getElem? (i := 23) rfl))) (Or.inr (hw _ (List.mem_of_getElem? (i := 21) rfl))) (by decide) (t := .int) (t' := (.array .byte)) (by decide) (by decide))))
  have f19 : Exa Z h15 a1 "com/example/verdict/verdict/saml/XmlScanner" := (f14.wr W15)
  obtain ⟨T20, h20, X20, e20, W20, st20⟩ := putF X15 hx hZ hown (host := "") (Or.inl (hw _ (List.mem_of_getElem? (i := 22) rfl))) Via.refl e15 f18 f19 (Or.inr ⟨(hw _ (List.mem_of_getElem? (i := 23) rfl)), rfl, hnm⟩) (hw _ (List.mem_of_getElem? (i := 2) rfl)) (ty := .int) (by decide) rfl rfl (g := (mkF m 28 #[vr a1, vr a2, vi p3] [(.int p3), (.ref a1)])) rfl rfl (hb hby d1_28)
  have z21 : n0 ≤ h20.size := Nat.le_trans z16 (Keep.of_wr W20).1
  have K22 : Keep h0 h20 [a1] := K17.wr W20 (Or.inl (List.mem_of_getElem? (i := 0) rfl))
  have Fw20 : Fld Z h20 a1 "com/example/verdict/verdict/saml/XmlScanner" "end" "I" (.int p3) := f18.same W20
  have N20 := Fr.snoc X20 N15 g_a1
  obtain ⟨fs, hr, hrun, hended, hW, hsame⟩ := X20.leave (v := none) (fun _ => rfl)
  refine ⟨_, _, ?_, hrun, hended, _, _, rfl, ?_, ⟨_, rfl⟩, hW, hsame.mono (by decide) (by decide)⟩
  · show Steps p.tables e below (s₁.setTop (mkF m 0 #[vr a1, vr a2, vi p3] [])) _
    refine XS.aloadN X0.here hx rfl (hb hby d1_0) rfl rfl ?_
    refine st1 _ ?_
    refine XS.aloadN X1.here hx rfl (hb hby d1_4) rfl rfl ?_
    refine XS.sipush X1.here hx rfl (hb hby d1_5) ?_
    refine st2 _ ?_
    refine st7 _ ?_
    show Steps p.tables e below (T7.setTop (mkF m 13 #[vr a1, vr a2, vi p3] [])) _
    refine XS.iconst X7.here hx rfl (hb hby d1_13) ?_
    refine XS.iloadN X7.here hx rfl (hb hby d1_14) rfl ?_
    refine XS.aloadN X7.here hx rfl (hb hby d1_15) rfl rfl ?_
    refine X7.arraylength hx (by rw [e7]; exact Ar10.1) (State.isArrayOf_alike hZ.alike Ar10.2.1) (g := (mkF m 16 #[vr a1, vr a2, vi p3] [(.ref a2), (.int p3), (.int (0 : Int32))])) rfl rfl (hb hby d1_16) _ ?_
    rw [le10]
    refine st12 _ ?_
    show Steps p.tables e below (T12.setTop (mkF m 20 #[vr a1, vr a2, vi p3] [(.int (0 : Int32))])) _
    refine XS.pop X12.here hx rfl (hb hby d1_20) rfl rfl ?_
    refine XS.aloadN X12.here hx rfl (hb hby d1_21) rfl rfl ?_
    refine XS.aloadN X12.here hx rfl (hb hby d1_22) rfl rfl ?_
    refine st15 _ ?_
    refine XS.aloadN X15.here hx rfl (hb hby d1_26) rfl rfl ?_
    refine XS.iloadN X15.here hx rfl (hb hby d1_27) rfl ?_
    show Steps p.tables e below (T15.setTop (mkF m 28 #[vr a1, vr a2, vi p3] [(.int p3), (.ref a1)])) _
    refine st20 _ ?_
    exact X20.returnOut hx Bd.returns (hb hby d1_31) hr
  · have f23 : Exa Z h20 a1 "com/example/verdict/verdict/saml/XmlScanner" := (f19.wr W20)
    have f24 : Fld Z h20 a1 "com/example/verdict/verdict/saml/XmlScanner" "doc" "[B" (.ref a2) := (Fw15.other W20 (Or.inr (slot_ne (Or.inr (hw _ (List.mem_of_getElem? (i := 21) rfl))) (Or.inr (hw _ (List.mem_of_getElem? (i := 23) rfl))) (by decide) (t := (.array .byte)) (t' := .int) (by decide) (by decide))))
    have f25 : Fld Z h20 a1 "com/example/verdict/verdict/saml/XmlScanner" "pos" "I" u_pos := ((((F_pos_a1.ext E2).other W7 (Or.inr (slot_ne (Or.inl (hw _ (List.mem_of_getElem? (i := 30) rfl))) (Or.inl (hw _ (List.mem_of_getElem? (i := 11) rfl))) (by decide) (t := .int) (t' := (.array .byte)) (by decide) (by decide)))).other W15 (Or.inr (slot_ne (Or.inl (hw _ (List.mem_of_getElem? (i := 30) rfl))) (Or.inr (hw _ (List.mem_of_getElem? (i := 21) rfl))) (by decide) (t := .int) (t' := (.array .byte)) (by decide) (by decide)))).other W20 (Or.inr (slot_ne (Or.inl (hw _ (List.mem_of_getElem? (i := 30) rfl))) (Or.inr (hw _ (List.mem_of_getElem? (i := 23) rfl))) (by decide) (t := .int) (t' := .int) (by decide) (by decide))))
    show Q1 Z a1 a2 p3 u_text u_doc u_end u_pos k n f z h0 n0 _ T20.heap _
    rw [e20]
    exact ⟨rfl, N20, K22, f23, f24, Fw20, f25⟩
theorem d5_0 : decode prog_45_method_2_code 0 = .ok (.aload_n 0, 1) := by decide +kernel
theorem d5_1 : decode prog_45_method_2_code 1 = .ok (.getfield 26, 3) := by decide +kernel
theorem d5_4 : decode prog_45_method_2_code 4 = .ok (.ireturn, 1) := by decide +kernel
theorem ef_rm5 (m : MethodId) (a1 : Addr) : entryFrame m #[(.ref a1)] 1 = mkF m 0 #[vr a1] [] := by first | (simp [entryFrame, mkF, argsToLocals, Value.category]; done) | rfl
def Q5 (Z : State) (a1 : Addr) (w : Int32) (h0 : Heap) (n0 : Nat) (v : Option Value) (h : Heap) (L : List Loc) : Prop := v = some (.int w) ∧ Fr n0 L ∧ h = h0
set_option maxRecDepth 65536 in
set_option maxHeartbeats 40000000 in
theorem rm5 (l : Launch) (Z : State) (a0 : Array Value) (hw : ∀ d ∈ tables_1, d.before a0 Z = true) (ws : List Jvm.Cond) (a1 : Addr) (w : Int32) (h0 : Heap) (n0 : Nat) (Z0 : n0 ≤ h0.size) (F_pos_a1 : Fld Z h0 a1 "com/example/verdict/verdict/saml/XmlScanner" "pos" "I" (.int w)) :
    MetFree l (⟨"com/example/verdict/verdict/saml/XmlScanner", "position", "()I"⟩ : MethodName) (head1 (Jvm.Cond.code (⟨"com/example/verdict/verdict/saml/XmlScanner", "position", "()I"⟩ : MethodName) prog_45_method_2_code 1 (some .int) :: ws) ({ frames := 0, cells := 0, slots := 0, locals := 0 } : Room)) (fun a U => a = #[(.ref a1)] ∧ Z.Warmed39 U.vm ∧ U.heap = h0) (fun _ _ _ _ _ => True) (fun _ U o U' => ∃ v L, o = .returned v ∧ Q5 Z a1 w h0 n0 v U'.heap L ∧ FrameEnd U o U' L ({ frames := 0, cells := 0, slots := 0, locals := 0 } : Room).cells ({ frames := 0, cells := 0, slots := 0, locals := 0 } : Room).slots) := by
  refine MetFree.of_bodySF (plainFor_of_name pn_2) hisR ?_
  intro p e s m args below meth c s₁ Bd hml0 hP hK
  obtain ⟨rfl, hZ, hh⟩ := hP
  have hx := Bd.exec
  have hby := Bd.bytes
  have hml : c.maxLocals = 1 := hml0
  have hown : s.vm.findClass "com/example/verdict/verdict/saml/XmlScanner" = some m.cls := findClass_of_methodNamed Bd.named
  have hnm := (name_of_methodNamed Bd.named Bd.method).1
  have X0 : Stand p l e ({ frames := 0, cells := 0, slots := 0, locals := 0 } : Room) s m #[(.ref a1)] below meth c s₁ [] 0 0 := Stand.of_body Bd
  have e0 : s₁.heap = h0 := by rw [← hh, Bd.state]; rfl
  have N0 := Fr.nil n0
  show GoalS p.tables e below s ({ frames := 0, cells := 0, slots := 0, locals := 0 } : Room).cells ({ frames := 0, cells := 0, slots := 0, locals := 0 } : Room).slots (Q5 Z a1 w h0 n0) (s₁.setTop (entryFrame m #[(.ref a1)] 1))
  refine GoalS.lift (B := s₁.setTop (mkF m 0 #[vr a1] [])) (fun t k => castTop (ef_rm5 m a1) k) ?_
  have K0 : Keep h0 h0 [] := Keep.refl _ _
  obtain ⟨T1, X1, e1, st1⟩ := getF X0 hx hZ hown (host := "") (Or.inl (hw _ (List.mem_of_getElem? (i := 29) rfl))) Via.refl e0 F_pos_a1 (g := (mkF m 1 #[vr a1] [(.ref a1)])) rfl rfl (hb hby d5_1)
  obtain ⟨fs, hr, hrun, hended, hW, hsame⟩ := X1.leave (v := some (.int w)) (fun h => by rw [Bd.returns] at h; cases h)
  refine ⟨_, _, ?_, hrun, hended, _, _, rfl, ?_, ⟨_, rfl⟩, hW, hsame.mono (by decide) (by decide)⟩
  · show Steps p.tables e below (s₁.setTop (mkF m 0 #[vr a1] [])) _
    refine XS.aloadN X0.here hx rfl (hb hby d5_0) rfl rfl ?_
    refine st1 _ ?_
    exact retI X1 hx Bd.returns (hb hby d5_4) hr
  · show Q5 Z a1 w h0 n0 _ T1.heap _
    exact ⟨rfl, N0, e1⟩
theorem d15_0 : decode prog_45_method_3_code 0 = .ok (.aload_n 0, 1) := by decide +kernel
theorem d15_1 : decode prog_45_method_3_code 1 = .ok (.getfield 26, 3) := by decide +kernel
theorem d15_4 : decode prog_45_method_3_code 4 = .ok (.aload_n 0, 1) := by decide +kernel
theorem d15_5 : decode prog_45_method_3_code 5 = .ok (.getfield 22, 3) := by decide +kernel
theorem d15_8 : decode prog_45_method_3_code 8 = .ok (.if_icmp .ne 7, 3) := by decide +kernel
theorem d15_11 : decode prog_45_method_3_code 11 = .ok (.iconst 1, 1) := by decide +kernel
theorem d15_12 : decode prog_45_method_3_code 12 = .ok (.goto 4, 3) := by decide +kernel
theorem d15_15 : decode prog_45_method_3_code 15 = .ok (.iconst 0, 1) := by decide +kernel
theorem d15_16 : decode prog_45_method_3_code 16 = .ok (.ireturn, 1) := by decide +kernel
theorem ef_rm15 (m : MethodId) (a1 : Addr) : entryFrame m #[(.ref a1)] 1 = mkF m 0 #[vr a1] [] := by first | (simp [entryFrame, mkF, argsToLocals, Value.category]; done) | rfl
def Q15 (Z : State) (a1 : Addr) (w : Int32) (q : Int32) (h0 : Heap) (n0 : Nat) (v : Option Value) (h : Heap) (L : List Loc) : Prop := ∃ r : Int32, v = some (.int r) ∧ r = (if w = q then (1 : Int32) else (0 : Int32)) ∧ Fr n0 L ∧ h = h0
set_option maxRecDepth 65536 in
set_option maxHeartbeats 40000000 in
theorem rm15 (l : Launch) (Z : State) (a0 : Array Value) (hw : ∀ d ∈ tables_1, d.before a0 Z = true) (ws : List Jvm.Cond) (a1 : Addr) (w : Int32) (q : Int32) (h0 : Heap) (n0 : Nat) (Z0 : n0 ≤ h0.size) (F_pos_a1 : Fld Z h0 a1 "com/example/verdict/verdict/saml/XmlScanner" "pos" "I" (.int w)) (F_end_a1 : Fld Z h0 a1 "com/example/verdict/verdict/saml/XmlScanner" "end" "I" (.int q)) :
    MetFree l (⟨"com/example/verdict/verdict/saml/XmlScanner", "atEnd", "()Z"⟩ : MethodName) (head1 (Jvm.Cond.code (⟨"com/example/verdict/verdict/saml/XmlScanner", "atEnd", "()Z"⟩ : MethodName) prog_45_method_3_code 1 (some .boolean) :: ws) ({ frames := 0, cells := 0, slots := 0, locals := 0 } : Room)) (fun a U => a = #[(.ref a1)] ∧ Z.Warmed39 U.vm ∧ U.heap = h0) (fun _ _ _ _ _ => True) (fun _ U o U' => ∃ v L, o = .returned v ∧ Q15 Z a1 w q h0 n0 v U'.heap L ∧ FrameEnd U o U' L ({ frames := 0, cells := 0, slots := 0, locals := 0 } : Room).cells ({ frames := 0, cells := 0, slots := 0, locals := 0 } : Room).slots) := by
  refine MetFree.of_bodySF (plainFor_of_name pn_2) hisR ?_
  intro p e s m args below meth c s₁ Bd hml0 hP hK
  obtain ⟨rfl, hZ, hh⟩ := hP
  have hx := Bd.exec
  have hby := Bd.bytes
  have hml : c.maxLocals = 1 := hml0
  have hown : s.vm.findClass "com/example/verdict/verdict/saml/XmlScanner" = some m.cls := findClass_of_methodNamed Bd.named
  have hnm := (name_of_methodNamed Bd.named Bd.method).1
  have X0 : Stand p l e ({ frames := 0, cells := 0, slots := 0, locals := 0 } : Room) s m #[(.ref a1)] below meth c s₁ [] 0 0 := Stand.of_body Bd
  have e0 : s₁.heap = h0 := by rw [← hh, Bd.state]; rfl
  have N0 := Fr.nil n0
  show GoalS p.tables e below s ({ frames := 0, cells := 0, slots := 0, locals := 0 } : Room).cells ({ frames := 0, cells := 0, slots := 0, locals := 0 } : Room).slots (Q15 Z a1 w q h0 n0) (s₁.setTop (entryFrame m #[(.ref a1)] 1))
  refine GoalS.lift (B := s₁.setTop (mkF m 0 #[vr a1] [])) (fun t k => castTop (ef_rm15 m a1) k) ?_
  have K0 : Keep h0 h0 [] := Keep.refl _ _
  obtain ⟨T1, X1, e1, st1⟩ := getF X0 hx hZ hown (host := "") (Or.inl (hw _ (List.mem_of_getElem? (i := 29) rfl))) Via.refl e0 F_pos_a1 (g := (mkF m 1 #[vr a1] [(.ref a1)])) rfl rfl (hb hby d15_1)
  obtain ⟨T2, X2, e2, st2⟩ := getF X1 hx hZ hown (host := "") (Or.inl (hw _ (List.mem_of_getElem? (i := 22) rfl))) Via.refl e1 F_end_a1 (g := (mkF m 5 #[vr a1] [(.ref a1), (.int w)])) rfl rfl (hb hby d15_5)
  refine GoalS.lift (B := (T2.setTop (mkF m 8 #[vr a1] [(.int q), (.int w)]))) (fun t k => ?_) ?_
  · show Steps p.tables e below (s₁.setTop (mkF m 0 #[vr a1] [])) _
    refine XS.aloadN X0.here hx rfl (hb hby d15_0) rfl rfl ?_
    refine st1 _ ?_
    refine XS.aloadN X1.here hx rfl (hb hby d15_4) rfl rfl ?_
    refine st2 _ ?_
    exact k
  by_cases hc8_3 : w = q
  · obtain ⟨fs, hr, hrun, hended, hW, hsame⟩ := X2.leave (v := some (.int (1 : Int32))) (fun h => by rw [Bd.returns] at h; cases h)
    refine ⟨_, _, ?_, hrun, hended, _, _, rfl, ?_, ⟨_, rfl⟩, hW, hsame.mono (by decide) (by decide)⟩
    · show Steps p.tables e below (T2.setTop (mkF m 8 #[vr a1] [(.int q), (.int w)])) _
      refine XS.icmpNo X2.here hx rfl (hb hby d15_8) rfl ((teq hc8_3).2) ?_
      refine XS.iconst X2.here hx rfl (hb hby d15_11) ?_
      refine XS.goto X2.here hx rfl (pc0 := 12) (pc' := 16) rfl (hb hby d15_12) (by decide) (by decide) ?_
      exact retN X2 hx (t := .boolean) Bd.returns (by simp) (hb hby d15_16) hr
    · show Q15 Z a1 w q h0 n0 _ T2.heap _
      exact ⟨_, rfl, (by simp only [if_pos hc8_3]), N0, e2⟩
  · obtain ⟨fs, hr, hrun, hended, hW, hsame⟩ := X2.leave (v := some (.int (0 : Int32))) (fun h => by rw [Bd.returns] at h; cases h)
    refine ⟨_, _, ?_, hrun, hended, _, _, rfl, ?_, ⟨_, rfl⟩, hW, hsame.mono (by decide) (by decide)⟩
    · show Steps p.tables e below (T2.setTop (mkF m 8 #[vr a1] [(.int q), (.int w)])) _
      refine XS.icmpYes X2.here hx rfl (pc0 := 8) (pc' := 15) rfl (hb hby d15_8) rfl ((feq hc8_3).2) (by decide) (by decide) ?_
      refine XS.iconst X2.here hx rfl (hb hby d15_15) ?_
      exact retN X2 hx (t := .boolean) Bd.returns (by simp) (hb hby d15_16) hr
    · show Q15 Z a1 w q h0 n0 _ T2.heap _
      exact ⟨_, rfl, (by simp only [if_neg hc8_3]), N0, e2⟩
theorem d24_0 : decode prog_45_method_6_code 0 = .ok (.aload_n 0, 1) := by decide +kernel
theorem d24_1 : decode prog_45_method_6_code 1 = .ok (.getfield 26, 3) := by decide +kernel
theorem d24_4 : decode prog_45_method_6_code 4 = .ok (.aload_n 0, 1) := by decide +kernel
theorem d24_5 : decode prog_45_method_6_code 5 = .ok (.getfield 22, 3) := by decide +kernel
theorem d24_8 : decode prog_45_method_6_code 8 = .ok (.if_icmp .ge 20, 3) := by decide +kernel
theorem d24_11 : decode prog_45_method_6_code 11 = .ok (.aload_n 0, 1) := by decide +kernel
theorem d24_12 : decode prog_45_method_6_code 12 = .ok (.getfield 19, 3) := by decide +kernel
theorem d24_15 : decode prog_45_method_6_code 15 = .ok (.aload_n 0, 1) := by decide +kernel
theorem d24_16 : decode prog_45_method_6_code 16 = .ok (.getfield 26, 3) := by decide +kernel
theorem d24_19 : decode prog_45_method_6_code 19 = .ok (.baload, 1) := by decide +kernel
theorem d24_20 : decode prog_45_method_6_code 20 = .ok (.iload_n 1, 1) := by decide +kernel
theorem d24_21 : decode prog_45_method_6_code 21 = .ok (.if_icmp .ne 7, 3) := by decide +kernel
theorem d24_24 : decode prog_45_method_6_code 24 = .ok (.iconst 1, 1) := by decide +kernel
theorem d24_25 : decode prog_45_method_6_code 25 = .ok (.goto 4, 3) := by decide +kernel
theorem d24_28 : decode prog_45_method_6_code 28 = .ok (.iconst 0, 1) := by decide +kernel
theorem d24_29 : decode prog_45_method_6_code 29 = .ok (.istore_n 2, 1) := by decide +kernel
theorem d24_30 : decode prog_45_method_6_code 30 = .ok (.iload_n 2, 1) := by decide +kernel
theorem d24_31 : decode prog_45_method_6_code 31 = .ok (.ifCond .eq 13, 3) := by decide +kernel
theorem d24_34 : decode prog_45_method_6_code 34 = .ok (.aload_n 0, 1) := by decide +kernel
theorem d24_35 : decode prog_45_method_6_code 35 = .ok (.dup, 1) := by decide +kernel
theorem d24_36 : decode prog_45_method_6_code 36 = .ok (.getfield 26, 3) := by decide +kernel
theorem d24_39 : decode prog_45_method_6_code 39 = .ok (.iconst 1, 1) := by decide +kernel
theorem d24_40 : decode prog_45_method_6_code 40 = .ok (.iadd, 1) := by decide +kernel
theorem d24_41 : decode prog_45_method_6_code 41 = .ok (.putfield 26, 3) := by decide +kernel
theorem d24_44 : decode prog_45_method_6_code 44 = .ok (.iload_n 2, 1) := by decide +kernel
theorem d24_45 : decode prog_45_method_6_code 45 = .ok (.ireturn, 1) := by decide +kernel
theorem ef_rm24 (m : MethodId) (a1 : Addr) (p2 : Int32) : entryFrame m #[(.ref a1), (.int p2)] 3 = mkF m 0 #[vr a1, vi p2, .unset] [] := by first | (simp [entryFrame, mkF, argsToLocals, Value.category]; done) | rfl
def Q24 (Z : State) (a1 : Addr) (p2 : Int32) (w : Int32) (q : Int32) (d : Addr) (k : ClassId) (n : Nat) (f : Nat → Int32) (z : Int32) (h0 : Heap) (n0 : Nat) (v : Option Value) (h : Heap) (L : List Loc) : Prop := ∃ (w2 : Int32), ∃ r : Int32, v = some (.int r) ∧ r = (if w < q then (if (f (w).toNatClampNeg) = p2 then (1 : Int32) else (0 : Int32)) else (0 : Int32)) ∧ Fr n0 L ∧ Keep h0 h [a1] ∧ (Exa Z h a1 "com/example/verdict/verdict/saml/XmlScanner") ∧ (Fld Z h a1 "com/example/verdict/verdict/saml/XmlScanner" "pos" "I" (.int w2)) ∧ (Fld Z h a1 "com/example/verdict/verdict/saml/XmlScanner" "end" "I" (.int q)) ∧ (Fld Z h a1 "com/example/verdict/verdict/saml/XmlScanner" "doc" "[B" (.ref d)) ∧ (w2 = (if w < q then (if (f (w).toNatClampNeg) = p2 then (w + (1 : Int32)) else w) else w))
set_option maxRecDepth 65536 in
set_option maxHeartbeats 40000000 in
theorem rm24 (l : Launch) (Z : State) (a0 : Array Value) (hw : ∀ d ∈ tables_1, d.before a0 Z = true) (ws : List Jvm.Cond) (a1 : Addr) (p2 : Int32) (w : Int32) (q : Int32) (d : Addr) (k : ClassId) (n : Nat) (f : Nat → Int32) (z : Int32) (h0 : Heap) (n0 : Nat) (Z0 : n0 ≤ h0.size) (E_a1 : Exa Z h0 a1 "com/example/verdict/verdict/saml/XmlScanner") (g_a1 : n0 ≤ a1) (F_pos_a1 : Fld Z h0 a1 "com/example/verdict/verdict/saml/XmlScanner" "pos" "I" (.int w)) (F_end_a1 : Fld Z h0 a1 "com/example/verdict/verdict/saml/XmlScanner" "end" "I" (.int q)) (F_doc_a1 : Fld Z h0 a1 "com/example/verdict/verdict/saml/XmlScanner" "doc" "[B" (.ref d)) (A_d : AV Z h0 d k .byte n (fun i => Value.int (f i))) (hp : 0 ≤ w.toInt) (hq : q.toInt ≤ n) :
    MetFree l (⟨"com/example/verdict/verdict/saml/XmlScanner", "skip", "(C)Z"⟩ : MethodName) (head1 (Jvm.Cond.code (⟨"com/example/verdict/verdict/saml/XmlScanner", "skip", "(C)Z"⟩ : MethodName) prog_45_method_6_code 3 (some .boolean) :: ws) ({ frames := 0, cells := 0, slots := 0, locals := 0 } : Room)) (fun a U => a = #[(.ref a1), (.int p2)] ∧ Z.Warmed39 U.vm ∧ U.heap = h0) (fun _ _ _ _ _ => True) (fun _ U o U' => ∃ v L, o = .returned v ∧ Q24 Z a1 p2 w q d k n f z h0 n0 v U'.heap L ∧ FrameEnd U o U' L ({ frames := 0, cells := 0, slots := 0, locals := 0 } : Room).cells ({ frames := 0, cells := 0, slots := 0, locals := 0 } : Room).slots) := by
  refine MetFree.of_bodySF (plainFor_of_name pn_2) hisR ?_
  intro p e s m args below meth c s₁ Bd hml0 hP hK
  obtain ⟨rfl, hZ, hh⟩ := hP
  have hx := Bd.exec
  have hby := Bd.bytes
  have hml : c.maxLocals = 3 := hml0
  have hown : s.vm.findClass "com/example/verdict/verdict/saml/XmlScanner" = some m.cls := findClass_of_methodNamed Bd.named
  have hnm := (name_of_methodNamed Bd.named Bd.method).1
  have X0 : Stand p l e ({ frames := 0, cells := 0, slots := 0, locals := 0 } : Room) s m #[(.ref a1), (.int p2)] below meth c s₁ [] 0 0 := Stand.of_body Bd
  have e0 : s₁.heap = h0 := by rw [← hh, Bd.state]; rfl
  have N0 := Fr.nil n0
  show GoalS p.tables e below s ({ frames := 0, cells := 0, slots := 0, locals := 0 } : Room).cells ({ frames := 0, cells := 0, slots := 0, locals := 0 } : Room).slots (Q24 Z a1 p2 w q d k n f z h0 n0) (s₁.setTop (entryFrame m #[(.ref a1), (.int p2)] 3))
  refine GoalS.lift (B := s₁.setTop (mkF m 0 #[vr a1, vi p2, .unset] [])) (fun t k => castTop (ef_rm24 m a1 p2) k) ?_
  have K0 : Keep h0 h0 [a1] := Keep.refl _ _
  obtain ⟨T1, X1, e1, st1⟩ := getF X0 hx hZ hown (host := "") (Or.inl (hw _ (List.mem_of_getElem? (i := 29) rfl))) Via.refl e0 F_pos_a1 (g := (mkF m 1 #[vr a1, vi p2, .unset] [(.ref a1)])) rfl rfl (hb hby d24_1)
  obtain ⟨T2, X2, e2, st2⟩ := getF X1 hx hZ hown (host := "") (Or.inl (hw _ (List.mem_of_getElem? (i := 22) rfl))) Via.refl e1 F_end_a1 (g := (mkF m 5 #[vr a1, vi p2, .unset] [(.ref a1), (.int w)])) rfl rfl (hb hby d24_5)
  refine GoalS.lift (B := (T2.setTop (mkF m 8 #[vr a1, vi p2, .unset] [(.int q), (.int w)]))) (fun t k => ?_) ?_
  · show Steps p.tables e below (s₁.setTop (mkF m 0 #[vr a1, vi p2, .unset] [])) _
    refine XS.aloadN X0.here hx rfl (hb hby d24_0) rfl rfl ?_
    refine st1 _ ?_
    refine XS.aloadN X1.here hx rfl (hb hby d24_4) rfl rfl ?_
    refine st2 _ ?_
    exact k
  by_cases hc8_3 : w < q
  · obtain ⟨T4, X4, e4, st4⟩ := getF X2 hx hZ hown (host := "") (Or.inl (hw _ (List.mem_of_getElem? (i := 20) rfl))) Via.refl e2 F_doc_a1 (g := (mkF m 12 #[vr a1, vi p2, .unset] [(.ref a1)])) rfl rfl (hb hby d24_12)
    obtain ⟨T5, X5, e5, st5⟩ := getF X4 hx hZ hown (host := "") (Or.inl (hw _ (List.mem_of_getElem? (i := 29) rfl))) Via.refl e4 F_pos_a1 (g := (mkF m 16 #[vr a1, vi p2, .unset] [(.ref a1), (.ref d)])) rfl rfl (hb hby d24_16)
    obtain ⟨cl6, Ar6, kc6, sz6, -, hv6⟩ := id A_d
    have hin6 : ¬ (w < 0 ∨ cl6.slots.size ≤ (w).toNatClampNeg) := AV.inb sz6 (own_inb hp hc8_3 hq)
    have hat6 : cl6.slots[(w).toNatClampNeg]? = some (.int (f (w).toNatClampNeg)) := (hv6 _ (AV.inx (own_inb hp hc8_3 hq))).trans (congrArg some rfl)
    refine GoalS.lift (B := (T5.setTop (mkF m 21 #[vr a1, vi p2, .unset] [(.int p2), (.int (f (w).toNatClampNeg))]))) (fun t k => ?_) ?_
    · show Steps p.tables e below (T2.setTop (mkF m 8 #[vr a1, vi p2, .unset] [(.int q), (.int w)])) _
      refine XS.icmpNo X2.here hx rfl (hb hby d24_8) rfl ((tlt hc8_3).2.1) ?_
      refine XS.aloadN X2.here hx rfl (hb hby d24_11) rfl rfl ?_
      refine st4 _ ?_
      refine XS.aloadN X4.here hx rfl (hb hby d24_15) rfl rfl ?_
      refine st5 _ ?_
      refine X5.baloadBytes hx (j := w) (v := (.int (f (w).toNatClampNeg))) (by rw [e5]; exact Ar6.1) (State.isArrayOf_alike hZ.alike Ar6.2.1) Ar6.2.2 hin6 hat6 (g := (mkF m 19 #[vr a1, vi p2, .unset] [(.int w), (.ref d)])) rfl rfl (hb hby d24_19) _ ?_
      show Steps p.tables e below (T5.setTop (mkF m 20 #[vr a1, vi p2, .unset] [(.int (f (w).toNatClampNeg))])) _
      refine XS.iloadN X5.here hx rfl (hb hby d24_20) rfl ?_
      exact k
    by_cases hc21_7 : (f (w).toNatClampNeg) = p2
    · obtain ⟨T8, X8, e8, st8⟩ := getF X5 hx hZ hown (host := "") (Or.inl (hw _ (List.mem_of_getElem? (i := 29) rfl))) Via.refl e5 F_pos_a1 (g := (mkF m 36 #[vr a1, vi p2, vi (1 : Int32)] [(.ref a1), (.ref a1)])) rfl rfl (hb hby d24_36)
      obtain ⟨T9, h9, X9, e9, W9, st9⟩ := putF X8 hx hZ hown (host := "") (Or.inl (hw _ (List.mem_of_getElem? (i := 29) rfl))) Via.refl e8 F_pos_a1 E_a1 (Or.inl (hw _ (List.mem_of_getElem? (i := 30) rfl))) (hw _ (List.mem_of_getElem? (i := 2) rfl)) (ty := .int) (by decide) rfl rfl (g := (mkF m 41 #[vr a1, vi p2, vi (1 : Int32)] [(.int (w + (1 : Int32))), (.ref a1)])) rfl rfl (hb hby d24_41)
      have z10 : n0 ≤ h9.size := Nat.le_trans Z0 (Keep.of_wr W9).1
      have K11 : Keep h0 h9 [a1] := K0.wr W9 (Or.inl (List.mem_of_getElem? (i := 0) rfl))
      have Fw9 : Fld Z h9 a1 "com/example/verdict/verdict/saml/XmlScanner" "pos" "I" (.int (w + (1 : Int32))) := F_pos_a1.same W9
      have N9 := Fr.snoc X9 N0 g_a1
      obtain ⟨fs, hr, hrun, hended, hW, hsame⟩ := X9.leave (v := some (.int (1 : Int32))) (fun h => by rw [Bd.returns] at h; cases h)
      refine ⟨_, _, ?_, hrun, hended, _, _, rfl, ?_, ⟨_, rfl⟩, hW, hsame.mono (by decide) (by decide)⟩
      · show Steps p.tables e below (T5.setTop (mkF m 21 #[vr a1, vi p2, .unset] [(.int p2), (.int (f (w).toNatClampNeg))])) _
        refine XS.icmpNo X5.here hx rfl (hb hby d24_21) rfl ((teq hc21_7).2) ?_
        refine XS.iconst X5.here hx rfl (hb hby d24_24) ?_
        refine XS.goto X5.here hx rfl (pc0 := 25) (pc' := 29) rfl (hb hby d24_25) (by decide) (by decide) ?_
        refine XS.istoreN X5.here hx rfl (hb hby d24_29) rfl (l' := #[vr a1, vi p2, vi (1 : Int32)]) rfl ?_
        refine XS.iloadN X5.here hx rfl (hb hby d24_30) rfl ?_
        refine XS.ifNo X5.here hx rfl (hb hby d24_31) rfl ((if0 _ _).trans (feq (by decide : ¬ ((1 : Int32) = (0 : Int32)))).1) ?_
        show Steps p.tables e below (T5.setTop (mkF m 34 #[vr a1, vi p2, vi (1 : Int32)] [])) _
        refine XS.aloadN X5.here hx rfl (hb hby d24_34) rfl rfl ?_
        refine XS.dup X5.here hx rfl (hb hby d24_35) rfl rfl ?_
        refine st8 _ ?_
        refine XS.iconst X8.here hx rfl (hb hby d24_39) ?_
        refine XS.iadd X8.here hx rfl (hb hby d24_40) rfl ?_
        refine st9 _ ?_
        show Steps p.tables e below (T9.setTop (mkF m 44 #[vr a1, vi p2, vi (1 : Int32)] [])) _
        refine XS.iloadN X9.here hx rfl (hb hby d24_44) rfl ?_
        exact retN X9 hx (t := .boolean) Bd.returns (by simp) (hb hby d24_45) hr
      · have f12 : Exa Z h9 a1 "com/example/verdict/verdict/saml/XmlScanner" := (E_a1.wr W9)
        have f13 : Fld Z h9 a1 "com/example/verdict/verdict/saml/XmlScanner" "end" "I" (.int q) := (F_end_a1.other W9 (Or.inr (slot_ne (Or.inr (hw _ (List.mem_of_getElem? (i := 23) rfl))) (Or.inl (hw _ (List.mem_of_getElem? (i := 30) rfl))) (by decide) (t := .int) (t' := .int) (by decide) (by decide))))
        have f14 : Fld Z h9 a1 "com/example/verdict/verdict/saml/XmlScanner" "doc" "[B" (.ref d) := (F_doc_a1.other W9 (Or.inr (slot_ne (Or.inr (hw _ (List.mem_of_getElem? (i := 21) rfl))) (Or.inl (hw _ (List.mem_of_getElem? (i := 30) rfl))) (by decide) (t := (.array .byte)) (t' := .int) (by decide) (by decide))))
        show Q24 Z a1 p2 w q d k n f z h0 n0 _ T9.heap _
        rw [e9]
        exact ⟨(w + (1 : Int32)), _, rfl, (by simp only [if_pos hc8_3, if_pos hc21_7]), N9, K11, f12, Fw9, f13, f14, (by simp only [if_pos hc8_3, if_pos hc21_7])⟩
    · obtain ⟨fs, hr, hrun, hended, hW, hsame⟩ := X5.leave (v := some (.int (0 : Int32))) (fun h => by rw [Bd.returns] at h; cases h)
      refine ⟨_, _, ?_, hrun, hended, _, _, rfl, ?_, ⟨_, rfl⟩, hW, hsame.mono (by decide) (by decide)⟩
      · show Steps p.tables e below (T5.setTop (mkF m 21 #[vr a1, vi p2, .unset] [(.int p2), (.int (f (w).toNatClampNeg))])) _
        refine XS.icmpYes X5.here hx rfl (pc0 := 21) (pc' := 28) rfl (hb hby d24_21) rfl ((feq hc21_7).2) (by decide) (by decide) ?_
        refine XS.iconst X5.here hx rfl (hb hby d24_28) ?_
        refine XS.istoreN X5.here hx rfl (hb hby d24_29) rfl (l' := #[vr a1, vi p2, vi (0 : Int32)]) rfl ?_
        refine XS.iloadN X5.here hx rfl (hb hby d24_30) rfl ?_
        refine XS.ifYes X5.here hx rfl (pc0 := 31) (pc' := 44) rfl (hb hby d24_31) rfl ((if0 _ _).trans (teq (by decide : (0 : Int32) = (0 : Int32))).1) (by decide) (by decide) ?_
        refine XS.iloadN X5.here hx rfl (hb hby d24_44) rfl ?_
        show Steps p.tables e below (T5.setTop (mkF m 45 #[vr a1, vi p2, vi (0 : Int32)] [(.int (0 : Int32))])) _
        exact retN X5 hx (t := .boolean) Bd.returns (by simp) (hb hby d24_45) hr
      · show Q24 Z a1 p2 w q d k n f z h0 n0 _ T5.heap _
        rw [e5]
        exact ⟨w, _, rfl, (by simp only [if_pos hc8_3, if_neg hc21_7]), N0, K0, E_a1, F_pos_a1, F_end_a1, F_doc_a1, (by simp only [if_pos hc8_3, if_neg hc21_7])⟩
  · obtain ⟨fs, hr, hrun, hended, hW, hsame⟩ := X2.leave (v := some (.int (0 : Int32))) (fun h => by rw [Bd.returns] at h; cases h)
    refine ⟨_, _, ?_, hrun, hended, _, _, rfl, ?_, ⟨_, rfl⟩, hW, hsame.mono (by decide) (by decide)⟩
    · show Steps p.tables e below (T2.setTop (mkF m 8 #[vr a1, vi p2, .unset] [(.int q), (.int w)])) _
      refine XS.icmpYes X2.here hx rfl (pc0 := 8) (pc' := 28) rfl (hb hby d24_8) rfl ((flt hc8_3).2.1) (by decide) (by decide) ?_
      refine XS.iconst X2.here hx rfl (hb hby d24_28) ?_
      refine XS.istoreN X2.here hx rfl (hb hby d24_29) rfl (l' := #[vr a1, vi p2, vi (0 : Int32)]) rfl ?_
      refine XS.iloadN X2.here hx rfl (hb hby d24_30) rfl ?_
      refine XS.ifYes X2.here hx rfl (pc0 := 31) (pc' := 44) rfl (hb hby d24_31) rfl ((if0 _ _).trans (teq (by decide : (0 : Int32) = (0 : Int32))).1) (by decide) (by decide) ?_
      refine XS.iloadN X2.here hx rfl (hb hby d24_44) rfl ?_
      show Steps p.tables e below (T2.setTop (mkF m 45 #[vr a1, vi p2, vi (0 : Int32)] [(.int (0 : Int32))])) _
      exact retN X2 hx (t := .boolean) Bd.returns (by simp) (hb hby d24_45) hr
    · show Q24 Z a1 p2 w q d k n f z h0 n0 _ T2.heap _
      rw [e2]
      exact ⟨w, _, rfl, (by simp only [if_neg hc8_3]), N0, K0, E_a1, F_pos_a1, F_end_a1, F_doc_a1, (by simp only [if_neg hc8_3])⟩
theorem d14_0 : decode jdk_42_method_152_code 0 = .ok (.getstatic 38, 3) := by decide +kernel
theorem d14_3 : decode jdk_42_method_152_code 3 = .ok (.ifCond .eq 10, 3) := by decide +kernel
theorem d14_6 : decode jdk_42_method_152_code 6 = .ok (.aload_n 0, 1) := by decide +kernel
theorem d14_7 : decode jdk_42_method_152_code 7 = .ok (.getfield 15, 3) := by decide +kernel
theorem d14_10 : decode jdk_42_method_152_code 10 = .ok (.goto 4, 3) := by decide +kernel
theorem d14_14 : decode jdk_42_method_152_code 14 = .ok (.ireturn, 1) := by decide +kernel
theorem pn_3 : plainName "java/lang/String" = true := by first | (simp [plainName, overriddenIn]; done) | decide +kernel
theorem ef_rm14 (m : MethodId) (a1 : Addr) : entryFrame m #[(.ref a1)] 1 = mkF m 0 #[vr a1] [] := by first | (simp [entryFrame, mkF, argsToLocals, Value.category]; done) | rfl
def Q14 (Z : State) (a1 : Addr) (zcs : Int32) (h0 : Heap) (n0 : Nat) (v : Option Value) (h : Heap) (L : List Loc) : Prop := v = some (.int (0 : Int32)) ∧ Fr n0 L ∧ h = h0
set_option maxRecDepth 65536 in
set_option maxHeartbeats 40000000 in
theorem rm14 (l : Launch) (Z : State) (a0 : Array Value) (hw : ∀ d ∈ tables_1, d.before a0 Z = true) (ws : List Jvm.Cond) (a1 : Addr) (zcs : Int32) (h0 : Heap) (n0 : Nat) (Z0 : n0 ≤ h0.size) (S_COMPACT_STRINGS : Sta Z h0 "java/lang/String" "COMPACT_STRINGS" "Z" (.int zcs)) (hCS : ¬ zcs = 0) (F_coder_a1 : Fld Z h0 a1 "java/lang/String" "coder" "B" (.int (0 : Int32))) :
    MetFree l (⟨"java/lang/String", "coder", "()B"⟩ : MethodName) (head1 (Jvm.Cond.code (⟨"java/lang/String", "coder", "()B"⟩ : MethodName) jdk_42_method_152_code 1 (some .byte) :: ws) ({ frames := 0, cells := 0, slots := 0, locals := 0 } : Room)) (fun a U => a = #[(.ref a1)] ∧ Z.Warmed39 U.vm ∧ U.heap = h0) (fun _ _ _ _ _ => True) (fun _ U o U' => ∃ v L, o = .returned v ∧ Q14 Z a1 zcs h0 n0 v U'.heap L ∧ FrameEnd U o U' L ({ frames := 0, cells := 0, slots := 0, locals := 0 } : Room).cells ({ frames := 0, cells := 0, slots := 0, locals := 0 } : Room).slots) := by
  refine MetFree.of_bodySF (plainFor_of_name pn_3) hisR ?_
  intro p e s m args below meth c s₁ Bd hml0 hP hK
  obtain ⟨rfl, hZ, hh⟩ := hP
  have hx := Bd.exec
  have hby := Bd.bytes
  have hml : c.maxLocals = 1 := hml0
  have hown : s.vm.findClass "java/lang/String" = some m.cls := findClass_of_methodNamed Bd.named
  have hnm := (name_of_methodNamed Bd.named Bd.method).1
  have X0 : Stand p l e ({ frames := 0, cells := 0, slots := 0, locals := 0 } : Room) s m #[(.ref a1)] below meth c s₁ [] 0 0 := Stand.of_body Bd
  have e0 : s₁.heap = h0 := by rw [← hh, Bd.state]; rfl
  have N0 := Fr.nil n0
  show GoalS p.tables e below s ({ frames := 0, cells := 0, slots := 0, locals := 0 } : Room).cells ({ frames := 0, cells := 0, slots := 0, locals := 0 } : Room).slots (Q14 Z a1 zcs h0 n0) (s₁.setTop (entryFrame m #[(.ref a1)] 1))
  refine GoalS.lift (B := s₁.setTop (mkF m 0 #[vr a1] [])) (fun t k => castTop (ef_rm14 m a1) k) ?_
  have K0 : Keep h0 h0 [] := Keep.refl _ _
  obtain ⟨T1, X1, e1, st1⟩ := getS2 X0 hx hZ hown (host := "") (Or.inl (hw _ (List.mem_of_getElem? (i := 81) rfl))) Via.refl e0 S_COMPACT_STRINGS (g := (mkF m 0 #[vr a1] [])) rfl (hb hby d14_0)
  obtain ⟨T2, X2, e2, st2⟩ := getF X1 hx hZ hown (host := "") (Or.inl (hw _ (List.mem_of_getElem? (i := 56) rfl))) Via.refl e1 F_coder_a1 (g := (mkF m 7 #[vr a1] [(.ref a1)])) rfl rfl (hb hby d14_7)
  obtain ⟨fs, hr, hrun, hended, hW, hsame⟩ := X2.leave (v := some (.int (0 : Int32))) (fun h => by rw [Bd.returns] at h; cases h)
  refine ⟨_, _, ?_, hrun, hended, _, _, rfl, ?_, ⟨_, rfl⟩, hW, hsame.mono (by decide) (by decide)⟩
  · show Steps p.tables e below (s₁.setTop (mkF m 0 #[vr a1] [])) _
    refine st1 _ ?_
    refine XS.ifNo X1.here hx rfl (hb hby d14_3) rfl ((if0 _ _).trans (feq (hCS : ¬ (zcs = (0 : Int32)))).1) ?_
    refine XS.aloadN X1.here hx rfl (hb hby d14_6) rfl rfl ?_
    refine st2 _ ?_
    refine XS.goto X2.here hx rfl (pc0 := 10) (pc' := 14) rfl (hb hby d14_10) (by decide) (by decide) ?_
    exact retN X2 hx (t := .byte) Bd.returns (by simp) (hb hby d14_14) hr
  · show Q14 Z a1 zcs h0 n0 _ T2.heap _
    exact ⟨rfl, N0, e2⟩
theorem d20_0 : decode jdk_42_method_154_code 0 = .ok (.getstatic 38, 3) := by decide +kernel
theorem d20_3 : decode jdk_42_method_154_code 3 = .ok (.ifCond .eq 14, 3) := by decide +kernel
theorem d20_6 : decode jdk_42_method_154_code 6 = .ok (.aload_n 0, 1) := by decide +kernel
theorem d20_7 : decode jdk_42_method_154_code 7 = .ok (.getfield 15, 3) := by decide +kernel
theorem d20_10 : decode jdk_42_method_154_code 10 = .ok (.ifCond .ne 7, 3) := by decide +kernel
theorem d20_13 : decode jdk_42_method_154_code 13 = .ok (.iconst 1, 1) := by decide +kernel
theorem d20_14 : decode jdk_42_method_154_code 14 = .ok (.goto 4, 3) := by decide +kernel
theorem d20_18 : decode jdk_42_method_154_code 18 = .ok (.ireturn, 1) := by decide +kernel
theorem ef_rm20 (m : MethodId) (a1 : Addr) : entryFrame m #[(.ref a1)] 1 = mkF m 0 #[vr a1] [] := by first | (simp [entryFrame, mkF, argsToLocals, Value.category]; done) | rfl
def Q20 (Z : State) (a1 : Addr) (zcs : Int32) (h0 : Heap) (n0 : Nat) (v : Option Value) (h : Heap) (L : List Loc) : Prop := v = some (.int (1 : Int32)) ∧ Fr n0 L ∧ h = h0
set_option maxRecDepth 65536 in
set_option maxHeartbeats 40000000 in
theorem rm20 (l : Launch) (Z : State) (a0 : Array Value) (hw : ∀ d ∈ tables_1, d.before a0 Z = true) (ws : List Jvm.Cond) (a1 : Addr) (zcs : Int32) (h0 : Heap) (n0 : Nat) (Z0 : n0 ≤ h0.size) (S_COMPACT_STRINGS : Sta Z h0 "java/lang/String" "COMPACT_STRINGS" "Z" (.int zcs)) (hCS : ¬ zcs = 0) (F_coder_a1 : Fld Z h0 a1 "java/lang/String" "coder" "B" (.int (0 : Int32))) :
    MetFree l (⟨"java/lang/String", "isLatin1", "()Z"⟩ : MethodName) (head1 (Jvm.Cond.code (⟨"java/lang/String", "isLatin1", "()Z"⟩ : MethodName) jdk_42_method_154_code 1 (some .boolean) :: ws) ({ frames := 0, cells := 0, slots := 0, locals := 0 } : Room)) (fun a U => a = #[(.ref a1)] ∧ Z.Warmed39 U.vm ∧ U.heap = h0) (fun _ _ _ _ _ => True) (fun _ U o U' => ∃ v L, o = .returned v ∧ Q20 Z a1 zcs h0 n0 v U'.heap L ∧ FrameEnd U o U' L ({ frames := 0, cells := 0, slots := 0, locals := 0 } : Room).cells ({ frames := 0, cells := 0, slots := 0, locals := 0 } : Room).slots) := by
  refine MetFree.of_bodySF (plainFor_of_name pn_3) hisR ?_
  intro p e s m args below meth c s₁ Bd hml0 hP hK
  obtain ⟨rfl, hZ, hh⟩ := hP
  have hx := Bd.exec
  have hby := Bd.bytes
  have hml : c.maxLocals = 1 := hml0
  have hown : s.vm.findClass "java/lang/String" = some m.cls := findClass_of_methodNamed Bd.named
  have hnm := (name_of_methodNamed Bd.named Bd.method).1
  have X0 : Stand p l e ({ frames := 0, cells := 0, slots := 0, locals := 0 } : Room) s m #[(.ref a1)] below meth c s₁ [] 0 0 := Stand.of_body Bd
  have e0 : s₁.heap = h0 := by rw [← hh, Bd.state]; rfl
  have N0 := Fr.nil n0
  show GoalS p.tables e below s ({ frames := 0, cells := 0, slots := 0, locals := 0 } : Room).cells ({ frames := 0, cells := 0, slots := 0, locals := 0 } : Room).slots (Q20 Z a1 zcs h0 n0) (s₁.setTop (entryFrame m #[(.ref a1)] 1))
  refine GoalS.lift (B := s₁.setTop (mkF m 0 #[vr a1] [])) (fun t k => castTop (ef_rm20 m a1) k) ?_
  have K0 : Keep h0 h0 [] := Keep.refl _ _
  obtain ⟨T1, X1, e1, st1⟩ := getS2 X0 hx hZ hown (host := "") (Or.inl (hw _ (List.mem_of_getElem? (i := 81) rfl))) Via.refl e0 S_COMPACT_STRINGS (g := (mkF m 0 #[vr a1] [])) rfl (hb hby d20_0)
  obtain ⟨T2, X2, e2, st2⟩ := getF X1 hx hZ hown (host := "") (Or.inl (hw _ (List.mem_of_getElem? (i := 56) rfl))) Via.refl e1 F_coder_a1 (g := (mkF m 7 #[vr a1] [(.ref a1)])) rfl rfl (hb hby d20_7)
  obtain ⟨fs, hr, hrun, hended, hW, hsame⟩ := X2.leave (v := some (.int (1 : Int32))) (fun h => by rw [Bd.returns] at h; cases h)
  refine ⟨_, _, ?_, hrun, hended, _, _, rfl, ?_, ⟨_, rfl⟩, hW, hsame.mono (by decide) (by decide)⟩
  · show Steps p.tables e below (s₁.setTop (mkF m 0 #[vr a1] [])) _
    refine st1 _ ?_
    refine XS.ifNo X1.here hx rfl (hb hby d20_3) rfl ((if0 _ _).trans (feq (hCS : ¬ (zcs = (0 : Int32)))).1) ?_
    refine XS.aloadN X1.here hx rfl (hb hby d20_6) rfl rfl ?_
    refine st2 _ ?_
    refine XS.ifNo X2.here hx rfl (hb hby d20_10) rfl ((if0 _ _).trans (teq (by decide : (0 : Int32) = (0 : Int32))).2) ?_
    refine XS.iconst X2.here hx rfl (hb hby d20_13) ?_
    show Steps p.tables e below (T2.setTop (mkF m 14 #[vr a1] [(.int (1 : Int32))])) _
    refine XS.goto X2.here hx rfl (pc0 := 14) (pc' := 18) rfl (hb hby d20_14) (by decide) (by decide) ?_
    exact retN X2 hx (t := .boolean) Bd.returns (by simp) (hb hby d20_18) hr
  · show Q20 Z a1 zcs h0 n0 _ T2.heap _
    exact ⟨rfl, N0, e2⟩
theorem d13_0 : decode jdk_42_method_54_code 0 = .ok (.aload_n 0, 1) := by decide +kernel
theorem d13_1 : decode jdk_42_method_54_code 1 = .ok (.getfield 9, 3) := by decide +kernel
theorem d13_4 : decode jdk_42_method_54_code 4 = .ok (.arraylength, 1) := by decide +kernel
theorem d13_5 : decode jdk_42_method_54_code 5 = .ok (.aload_n 0, 1) := by decide +kernel
theorem d13_6 : decode jdk_42_method_54_code 6 = .ok (.invokevirtual 335, 3) := by decide +kernel
theorem d13_9 : decode jdk_42_method_54_code 9 = .ok (.ishr, 1) := by decide +kernel
theorem d13_10 : decode jdk_42_method_54_code 10 = .ok (.ireturn, 1) := by decide +kernel
theorem pd_2 : parseMethodDescriptor "()B" = some ⟨[], some .byte⟩ := by decide +kernel
theorem ef_rmlen0 (m : MethodId) (a1 : Addr) : entryFrame m #[(.ref a1)] 1 = mkF m 0 #[vr a1] [] := by first | (simp [entryFrame, mkF, argsToLocals, Value.category]; done) | rfl
def Qlen0 (Z : State) (a1 : Addr) (zcs : Int32) (tb : Addr) (kb : ClassId) (g : Nat → Int32) (h0 : Heap) (n0 : Nat) (v : Option Value) (h : Heap) (L : List Loc) : Prop := v = some (.int (0 : Int32)) ∧ Fr n0 L ∧ h = h0
set_option maxRecDepth 65536 in
set_option maxHeartbeats 40000000 in
theorem rmlen0 (l : Launch) (Z : State) (a0 : Array Value) (hw : ∀ d ∈ tables_1, d.before a0 Z = true) (ws : List Jvm.Cond) (a1 : Addr) (zcs : Int32) (tb : Addr) (kb : ClassId) (g : Nat → Int32) (h0 : Heap) (n0 : Nat) (Z0 : n0 ≤ h0.size) (S_COMPACT_STRINGS : Sta Z h0 "java/lang/String" "COMPACT_STRINGS" "Z" (.int zcs)) (hCS : ¬ zcs = 0) (E_a1 : Exa Z h0 a1 "java/lang/String") (F_value_a1 : Fld Z h0 a1 "java/lang/String" "value" "[B" (.ref tb)) (F_coder_a1 : Fld Z h0 a1 "java/lang/String" "coder" "B" (.int (0 : Int32))) (A_tb : AV Z h0 tb kb .byte 0 (fun i => Value.int (g i))) :
    MetFree l (⟨"java/lang/String", "length", "()I"⟩ : MethodName) (head1 (Jvm.Cond.code (⟨"java/lang/String", "length", "()I"⟩ : MethodName) jdk_42_method_54_code 1 (some .int) :: ws) ({ frames := 1, cells := 0, slots := 0, locals := 13 } : Room)) (fun a U => a = #[(.ref a1)] ∧ Z.Warmed39 U.vm ∧ U.heap = h0) (fun _ _ _ _ _ => True) (fun _ U o U' => ∃ v L, o = .returned v ∧ Qlen0 Z a1 zcs tb kb g h0 n0 v U'.heap L ∧ FrameEnd U o U' L ({ frames := 1, cells := 0, slots := 0, locals := 13 } : Room).cells ({ frames := 1, cells := 0, slots := 0, locals := 13 } : Room).slots) := by
  refine MetFree.of_bodySF (plainFor_of_name pn_3) hisR ?_
  intro p e s m args below meth c s₁ Bd hml0 hP hK
  obtain ⟨rfl, hZ, hh⟩ := hP
  have hx := Bd.exec
  have hby := Bd.bytes
  have hml : c.maxLocals = 1 := hml0
  have hown : s.vm.findClass "java/lang/String" = some m.cls := findClass_of_methodNamed Bd.named
  have hnm := (name_of_methodNamed Bd.named Bd.method).1
  have X0 : Stand p l e ({ frames := 1, cells := 0, slots := 0, locals := 13 } : Room) s m #[(.ref a1)] below meth c s₁ [] 0 0 := Stand.of_body Bd
  have e0 : s₁.heap = h0 := by rw [← hh, Bd.state]; rfl
  have N0 := Fr.nil n0
  show GoalS p.tables e below s ({ frames := 1, cells := 0, slots := 0, locals := 13 } : Room).cells ({ frames := 1, cells := 0, slots := 0, locals := 13 } : Room).slots (Qlen0 Z a1 zcs tb kb g h0 n0) (s₁.setTop (entryFrame m #[(.ref a1)] 1))
  refine GoalS.lift (B := s₁.setTop (mkF m 0 #[vr a1] [])) (fun t k => castTop (ef_rmlen0 m a1) k) ?_
  have K0 : Keep h0 h0 [] := Keep.refl _ _
  obtain ⟨T1, X1, e1, st1⟩ := getF X0 hx hZ hown (host := "") (Or.inl (hw _ (List.mem_of_getElem? (i := 55) rfl))) Via.refl e0 F_value_a1 (g := (mkF m 1 #[vr a1] [(.ref a1)])) rfl rfl (hb hby d13_1)
  obtain ⟨cl2, Ar2, -, sz2, -, -⟩ := id A_tb
  have le2 : cl2.slots.size.toInt32 = (0 : Int32) := by rw [sz2]; exact rfl
  obtain ⟨cq3, kq3, q3a, q3b, q3c⟩ := isOf hZ e1 E_a1
  obtain ⟨_, _, ⟨T3, L3, k3, n3⟩, -, X3, ⟨Lc3, hQ3, l3, y3, z3⟩, st3⟩ := X1.virtualBack hx (y := (⟨"java/lang/String", "coder", "()B"⟩ : MethodName)) (z := (⟨"java/lang/String", "coder", "()B"⟩ : MethodName)) hown (mvT hZ (hw _ (List.mem_of_getElem? (i := 76) rfl))) (mvT hZ (hw _ (List.mem_of_getElem? (i := 77) rfl))) (notFace_of_selects (args := #[]) (mvT hZ (hw _ (List.mem_of_getElem? (i := 79) rfl)))) (mvT hZ (hw _ (List.mem_of_getElem? (i := 79) rfl))) (mvT hZ (hw _ (List.mem_of_getElem? (i := 78) rfl))) (by decide) (backOf (W := 1) (rm14 l Z a0 hw [] a1 zcs h0 n0 Z0 S_COMPACT_STRINGS hCS F_coder_a1) hZ (hw _ (List.mem_of_getElem? (i := 80) rfl)) (hw _ (List.mem_of_getElem? (i := 40) rfl)) (by decide) (by decide)) q3a q3c (g := (mkF m 6 #[vr a1] [(.ref a1), (.int (0 : Int32))])) rfl (by rw [hml]; rfl) (Steps.refl _) (argsL := []) (rest := [(.int (0 : Int32))]) (lenOf pd_2 rfl) rfl (by show 2 * 0 + _ ≤ _; exact Nat.le_of_eq rfl) (hb hby d13_6) (fun _ _ => ⟨rfl, e1, (by decide : 0 + 0 ≤ _), (by decide : 0 + 0 ≤ _)⟩)
  dsimp only [Pt.U, Pt.locs, Pt.cells, Pt.slots] at X3 l3 y3 z3 st3 hQ3
  subst y3 z3
  obtain ⟨rfl, N3q, eq3⟩ := hQ3
  have N3 : Fr n0 L3 := by rw [l3]; exact Fr.app N0 N3q
  obtain ⟨fs, hr, hrun, hended, hW, hsame⟩ := X3.leave (v := some (.int (0 : Int32))) (fun h => by rw [Bd.returns] at h; cases h)
  refine ⟨_, _, ?_, hrun, hended, _, _, rfl, ?_, ⟨_, rfl⟩, hW, hsame.mono (by decide) (by decide)⟩
  · show Steps p.tables e below (s₁.setTop (mkF m 0 #[vr a1] [])) _
    refine XS.aloadN X0.here hx rfl (hb hby d13_0) rfl rfl ?_
    refine st1 _ ?_
    refine X1.arraylength hx (by rw [e1]; exact Ar2.1) (State.isArrayOf_alike hZ.alike Ar2.2.1) (g := (mkF m 4 #[vr a1] [(.ref tb)])) rfl rfl (hb hby d13_4) _ ?_
    rw [le2]
    refine XS.aloadN X1.here hx rfl (hb hby d13_5) rfl rfl ?_
    refine st3.trans ?_
    show Steps p.tables e below (T3.setTop (mkF m 9 #[vr a1] [(.int (0 : Int32)), (.int (0 : Int32))])) _
    refine XS.ishr X3.here hx rfl (hb hby d13_9) rfl ?_
    exact retI X3 hx Bd.returns (hb hby d13_10) hr
  · show Qlen0 Z a1 zcs tb kb g h0 n0 _ T3.heap _
    exact ⟨rfl, N3, eq3⟩
theorem ef_rmlen1 (m : MethodId) (a1 : Addr) : entryFrame m #[(.ref a1)] 1 = mkF m 0 #[vr a1] [] := by first | (simp [entryFrame, mkF, argsToLocals, Value.category]; done) | rfl
def Qlen1 (Z : State) (a1 : Addr) (zcs : Int32) (tb : Addr) (kb : ClassId) (g : Nat → Int32) (h0 : Heap) (n0 : Nat) (v : Option Value) (h : Heap) (L : List Loc) : Prop := v = some (.int (1 : Int32)) ∧ Fr n0 L ∧ h = h0
set_option maxRecDepth 65536 in
set_option maxHeartbeats 40000000 in
theorem rmlen1 (l : Launch) (Z : State) (a0 : Array Value) (hw : ∀ d ∈ tables_1, d.before a0 Z = true) (ws : List Jvm.Cond) (a1 : Addr) (zcs : Int32) (tb : Addr) (kb : ClassId) (g : Nat → Int32) (h0 : Heap) (n0 : Nat) (Z0 : n0 ≤ h0.size) (S_COMPACT_STRINGS : Sta Z h0 "java/lang/String" "COMPACT_STRINGS" "Z" (.int zcs)) (hCS : ¬ zcs = 0) (E_a1 : Exa Z h0 a1 "java/lang/String") (F_value_a1 : Fld Z h0 a1 "java/lang/String" "value" "[B" (.ref tb)) (F_coder_a1 : Fld Z h0 a1 "java/lang/String" "coder" "B" (.int (0 : Int32))) (A_tb : AV Z h0 tb kb .byte 1 (fun i => Value.int (g i))) :
    MetFree l (⟨"java/lang/String", "length", "()I"⟩ : MethodName) (head1 (Jvm.Cond.code (⟨"java/lang/String", "length", "()I"⟩ : MethodName) jdk_42_method_54_code 1 (some .int) :: ws) ({ frames := 1, cells := 0, slots := 0, locals := 13 } : Room)) (fun a U => a = #[(.ref a1)] ∧ Z.Warmed39 U.vm ∧ U.heap = h0) (fun _ _ _ _ _ => True) (fun _ U o U' => ∃ v L, o = .returned v ∧ Qlen1 Z a1 zcs tb kb g h0 n0 v U'.heap L ∧ FrameEnd U o U' L ({ frames := 1, cells := 0, slots := 0, locals := 13 } : Room).cells ({ frames := 1, cells := 0, slots := 0, locals := 13 } : Room).slots) := by
  refine MetFree.of_bodySF (plainFor_of_name pn_3) hisR ?_
  intro p e s m args below meth c s₁ Bd hml0 hP hK
  obtain ⟨rfl, hZ, hh⟩ := hP
  have hx := Bd.exec
  have hby := Bd.bytes
  have hml : c.maxLocals = 1 := hml0
  have hown : s.vm.findClass "java/lang/String" = some m.cls := findClass_of_methodNamed Bd.named
  have hnm := (name_of_methodNamed Bd.named Bd.method).1
  have X0 : Stand p l e ({ frames := 1, cells := 0, slots := 0, locals := 13 } : Room) s m #[(.ref a1)] below meth c s₁ [] 0 0 := Stand.of_body Bd
  have e0 : s₁.heap = h0 := by rw [← hh, Bd.state]; rfl
  have N0 := Fr.nil n0
  show GoalS p.tables e below s ({ frames := 1, cells := 0, slots := 0, locals := 13 } : Room).cells ({ frames := 1, cells := 0, slots := 0, locals := 13 } : Room).slots (Qlen1 Z a1 zcs tb kb g h0 n0) (s₁.setTop (entryFrame m #[(.ref a1)] 1))
  refine GoalS.lift (B := s₁.setTop (mkF m 0 #[vr a1] [])) (fun t k => castTop (ef_rmlen1 m a1) k) ?_
  have K0 : Keep h0 h0 [] := Keep.refl _ _
  obtain ⟨T1, X1, e1, st1⟩ := getF X0 hx hZ hown (host := "") (Or.inl (hw _ (List.mem_of_getElem? (i := 55) rfl))) Via.refl e0 F_value_a1 (g := (mkF m 1 #[vr a1] [(.ref a1)])) rfl rfl (hb hby d13_1)
  obtain ⟨cl2, Ar2, -, sz2, -, -⟩ := id A_tb
  have le2 : cl2.slots.size.toInt32 = (1 : Int32) := by rw [sz2]; exact rfl
  obtain ⟨cq3, kq3, q3a, q3b, q3c⟩ := isOf hZ e1 E_a1
  obtain ⟨_, _, ⟨T3, L3, k3, n3⟩, -, X3, ⟨Lc3, hQ3, l3, y3, z3⟩, st3⟩ := X1.virtualBack hx (y := (⟨"java/lang/String", "coder", "()B"⟩ : MethodName)) (z := (⟨"java/lang/String", "coder", "()B"⟩ : MethodName)) hown (mvT hZ (hw _ (List.mem_of_getElem? (i := 76) rfl))) (mvT hZ (hw _ (List.mem_of_getElem? (i := 77) rfl))) (notFace_of_selects (args := #[]) (mvT hZ (hw _ (List.mem_of_getElem? (i := 79) rfl)))) (mvT hZ (hw _ (List.mem_of_getElem? (i := 79) rfl))) (mvT hZ (hw _ (List.mem_of_getElem? (i := 78) rfl))) (by decide) (backOf (W := 1) (rm14 l Z a0 hw [] a1 zcs h0 n0 Z0 S_COMPACT_STRINGS hCS F_coder_a1) hZ (hw _ (List.mem_of_getElem? (i := 80) rfl)) (hw _ (List.mem_of_getElem? (i := 40) rfl)) (by decide) (by decide)) q3a q3c (g := (mkF m 6 #[vr a1] [(.ref a1), (.int (1 : Int32))])) rfl (by rw [hml]; rfl) (Steps.refl _) (argsL := []) (rest := [(.int (1 : Int32))]) (lenOf pd_2 rfl) rfl (by show 2 * 0 + _ ≤ _; exact Nat.le_of_eq rfl) (hb hby d13_6) (fun _ _ => ⟨rfl, e1, (by decide : 0 + 0 ≤ _), (by decide : 0 + 0 ≤ _)⟩)
  dsimp only [Pt.U, Pt.locs, Pt.cells, Pt.slots] at X3 l3 y3 z3 st3 hQ3
  subst y3 z3
  obtain ⟨rfl, N3q, eq3⟩ := hQ3
  have N3 : Fr n0 L3 := by rw [l3]; exact Fr.app N0 N3q
  obtain ⟨fs, hr, hrun, hended, hW, hsame⟩ := X3.leave (v := some (.int (1 : Int32))) (fun h => by rw [Bd.returns] at h; cases h)
  refine ⟨_, _, ?_, hrun, hended, _, _, rfl, ?_, ⟨_, rfl⟩, hW, hsame.mono (by decide) (by decide)⟩
  · show Steps p.tables e below (s₁.setTop (mkF m 0 #[vr a1] [])) _
    refine XS.aloadN X0.here hx rfl (hb hby d13_0) rfl rfl ?_
    refine st1 _ ?_
    refine X1.arraylength hx (by rw [e1]; exact Ar2.1) (State.isArrayOf_alike hZ.alike Ar2.2.1) (g := (mkF m 4 #[vr a1] [(.ref tb)])) rfl rfl (hb hby d13_4) _ ?_
    rw [le2]
    refine XS.aloadN X1.here hx rfl (hb hby d13_5) rfl rfl ?_
    refine st3.trans ?_
    show Steps p.tables e below (T3.setTop (mkF m 9 #[vr a1] [(.int (0 : Int32)), (.int (1 : Int32))])) _
    refine XS.ishr X3.here hx rfl (hb hby d13_9) rfl ?_
    exact retI X3 hx Bd.returns (hb hby d13_10) hr
  · show Qlen1 Z a1 zcs tb kb g h0 n0 _ T3.heap _
    exact ⟨rfl, N3, eq3⟩
theorem ef_rmlen2 (m : MethodId) (a1 : Addr) : entryFrame m #[(.ref a1)] 1 = mkF m 0 #[vr a1] [] := by first | (simp [entryFrame, mkF, argsToLocals, Value.category]; done) | rfl
def Qlen2 (Z : State) (a1 : Addr) (zcs : Int32) (tb : Addr) (kb : ClassId) (g : Nat → Int32) (h0 : Heap) (n0 : Nat) (v : Option Value) (h : Heap) (L : List Loc) : Prop := v = some (.int (2 : Int32)) ∧ Fr n0 L ∧ h = h0
set_option maxRecDepth 65536 in
set_option maxHeartbeats 40000000 in
theorem rmlen2 (l : Launch) (Z : State) (a0 : Array Value) (hw : ∀ d ∈ tables_1, d.before a0 Z = true) (ws : List Jvm.Cond) (a1 : Addr) (zcs : Int32) (tb : Addr) (kb : ClassId) (g : Nat → Int32) (h0 : Heap) (n0 : Nat) (Z0 : n0 ≤ h0.size) (S_COMPACT_STRINGS : Sta Z h0 "java/lang/String" "COMPACT_STRINGS" "Z" (.int zcs)) (hCS : ¬ zcs = 0) (E_a1 : Exa Z h0 a1 "java/lang/String") (F_value_a1 : Fld Z h0 a1 "java/lang/String" "value" "[B" (.ref tb)) (F_coder_a1 : Fld Z h0 a1 "java/lang/String" "coder" "B" (.int (0 : Int32))) (A_tb : AV Z h0 tb kb .byte 2 (fun i => Value.int (g i))) :
    MetFree l (⟨"java/lang/String", "length", "()I"⟩ : MethodName) (head1 (Jvm.Cond.code (⟨"java/lang/String", "length", "()I"⟩ : MethodName) jdk_42_method_54_code 1 (some .int) :: ws) ({ frames := 1, cells := 0, slots := 0, locals := 13 } : Room)) (fun a U => a = #[(.ref a1)] ∧ Z.Warmed39 U.vm ∧ U.heap = h0) (fun _ _ _ _ _ => True) (fun _ U o U' => ∃ v L, o = .returned v ∧ Qlen2 Z a1 zcs tb kb g h0 n0 v U'.heap L ∧ FrameEnd U o U' L ({ frames := 1, cells := 0, slots := 0, locals := 13 } : Room).cells ({ frames := 1, cells := 0, slots := 0, locals := 13 } : Room).slots) := by
  refine MetFree.of_bodySF (plainFor_of_name pn_3) hisR ?_
  intro p e s m args below meth c s₁ Bd hml0 hP hK
  obtain ⟨rfl, hZ, hh⟩ := hP
  have hx := Bd.exec
  have hby := Bd.bytes
  have hml : c.maxLocals = 1 := hml0
  have hown : s.vm.findClass "java/lang/String" = some m.cls := findClass_of_methodNamed Bd.named
  have hnm := (name_of_methodNamed Bd.named Bd.method).1
  have X0 : Stand p l e ({ frames := 1, cells := 0, slots := 0, locals := 13 } : Room) s m #[(.ref a1)] below meth c s₁ [] 0 0 := Stand.of_body Bd
  have e0 : s₁.heap = h0 := by rw [← hh, Bd.state]; rfl
  have N0 := Fr.nil n0
  show GoalS p.tables e below s ({ frames := 1, cells := 0, slots := 0, locals := 13 } : Room).cells ({ frames := 1, cells := 0, slots := 0, locals := 13 } : Room).slots (Qlen2 Z a1 zcs tb kb g h0 n0) (s₁.setTop (entryFrame m #[(.ref a1)] 1))
  refine GoalS.lift (B := s₁.setTop (mkF m 0 #[vr a1] [])) (fun t k => castTop (ef_rmlen2 m a1) k) ?_
  have K0 : Keep h0 h0 [] := Keep.refl _ _
  obtain ⟨T1, X1, e1, st1⟩ := getF X0 hx hZ hown (host := "") (Or.inl (hw _ (List.mem_of_getElem? (i := 55) rfl))) Via.refl e0 F_value_a1 (g := (mkF m 1 #[vr a1] [(.ref a1)])) rfl rfl (hb hby d13_1)
  obtain ⟨cl2, Ar2, -, sz2, -, -⟩ := id A_tb
  have le2 : cl2.slots.size.toInt32 = (2 : Int32) := by rw [sz2]; exact rfl
  obtain ⟨cq3, kq3, q3a, q3b, q3c⟩ := isOf hZ e1 E_a1
  obtain ⟨_, _, ⟨T3, L3, k3, n3⟩, -, X3, ⟨Lc3, hQ3, l3, y3, z3⟩, st3⟩ := X1.virtualBack hx (y := (⟨"java/lang/String", "coder", "()B"⟩ : MethodName)) (z := (⟨"java/lang/String", "coder", "()B"⟩ : MethodName)) hown (mvT hZ (hw _ (List.mem_of_getElem? (i := 76) rfl))) (mvT hZ (hw _ (List.mem_of_getElem? (i := 77) rfl))) (notFace_of_selects (args := #[]) (mvT hZ (hw _ (List.mem_of_getElem? (i := 79) rfl)))) (mvT hZ (hw _ (List.mem_of_getElem? (i := 79) rfl))) (mvT hZ (hw _ (List.mem_of_getElem? (i := 78) rfl))) (by decide) (backOf (W := 1) (rm14 l Z a0 hw [] a1 zcs h0 n0 Z0 S_COMPACT_STRINGS hCS F_coder_a1) hZ (hw _ (List.mem_of_getElem? (i := 80) rfl)) (hw _ (List.mem_of_getElem? (i := 40) rfl)) (by decide) (by decide)) q3a q3c (g := (mkF m 6 #[vr a1] [(.ref a1), (.int (2 : Int32))])) rfl (by rw [hml]; rfl) (Steps.refl _) (argsL := []) (rest := [(.int (2 : Int32))]) (lenOf pd_2 rfl) rfl (by show 2 * 0 + _ ≤ _; exact Nat.le_of_eq rfl) (hb hby d13_6) (fun _ _ => ⟨rfl, e1, (by decide : 0 + 0 ≤ _), (by decide : 0 + 0 ≤ _)⟩)
  dsimp only [Pt.U, Pt.locs, Pt.cells, Pt.slots] at X3 l3 y3 z3 st3 hQ3
  subst y3 z3
  obtain ⟨rfl, N3q, eq3⟩ := hQ3
  have N3 : Fr n0 L3 := by rw [l3]; exact Fr.app N0 N3q
  obtain ⟨fs, hr, hrun, hended, hW, hsame⟩ := X3.leave (v := some (.int (2 : Int32))) (fun h => by rw [Bd.returns] at h; cases h)
  refine ⟨_, _, ?_, hrun, hended, _, _, rfl, ?_, ⟨_, rfl⟩, hW, hsame.mono (by decide) (by decide)⟩
  · show Steps p.tables e below (s₁.setTop (mkF m 0 #[vr a1] [])) _
    refine XS.aloadN X0.here hx rfl (hb hby d13_0) rfl rfl ?_
    refine st1 _ ?_
    refine X1.arraylength hx (by rw [e1]; exact Ar2.1) (State.isArrayOf_alike hZ.alike Ar2.2.1) (g := (mkF m 4 #[vr a1] [(.ref tb)])) rfl rfl (hb hby d13_4) _ ?_
    rw [le2]
    refine XS.aloadN X1.here hx rfl (hb hby d13_5) rfl rfl ?_
    refine st3.trans ?_
    show Steps p.tables e below (T3.setTop (mkF m 9 #[vr a1] [(.int (0 : Int32)), (.int (2 : Int32))])) _
    refine XS.ishr X3.here hx rfl (hb hby d13_9) rfl ?_
    exact retI X3 hx Bd.returns (hb hby d13_10) hr
  · show Qlen2 Z a1 zcs tb kb g h0 n0 _ T3.heap _
    exact ⟨rfl, N3, eq3⟩
theorem ef_rmlen3 (m : MethodId) (a1 : Addr) : entryFrame m #[(.ref a1)] 1 = mkF m 0 #[vr a1] [] := by first | (simp [entryFrame, mkF, argsToLocals, Value.category]; done) | rfl
def Qlen3 (Z : State) (a1 : Addr) (zcs : Int32) (tb : Addr) (kb : ClassId) (g : Nat → Int32) (h0 : Heap) (n0 : Nat) (v : Option Value) (h : Heap) (L : List Loc) : Prop := v = some (.int (3 : Int32)) ∧ Fr n0 L ∧ h = h0
set_option maxRecDepth 65536 in
set_option maxHeartbeats 40000000 in
theorem rmlen3 (l : Launch) (Z : State) (a0 : Array Value) (hw : ∀ d ∈ tables_1, d.before a0 Z = true) (ws : List Jvm.Cond) (a1 : Addr) (zcs : Int32) (tb : Addr) (kb : ClassId) (g : Nat → Int32) (h0 : Heap) (n0 : Nat) (Z0 : n0 ≤ h0.size) (S_COMPACT_STRINGS : Sta Z h0 "java/lang/String" "COMPACT_STRINGS" "Z" (.int zcs)) (hCS : ¬ zcs = 0) (E_a1 : Exa Z h0 a1 "java/lang/String") (F_value_a1 : Fld Z h0 a1 "java/lang/String" "value" "[B" (.ref tb)) (F_coder_a1 : Fld Z h0 a1 "java/lang/String" "coder" "B" (.int (0 : Int32))) (A_tb : AV Z h0 tb kb .byte 3 (fun i => Value.int (g i))) :
    MetFree l (⟨"java/lang/String", "length", "()I"⟩ : MethodName) (head1 (Jvm.Cond.code (⟨"java/lang/String", "length", "()I"⟩ : MethodName) jdk_42_method_54_code 1 (some .int) :: ws) ({ frames := 1, cells := 0, slots := 0, locals := 13 } : Room)) (fun a U => a = #[(.ref a1)] ∧ Z.Warmed39 U.vm ∧ U.heap = h0) (fun _ _ _ _ _ => True) (fun _ U o U' => ∃ v L, o = .returned v ∧ Qlen3 Z a1 zcs tb kb g h0 n0 v U'.heap L ∧ FrameEnd U o U' L ({ frames := 1, cells := 0, slots := 0, locals := 13 } : Room).cells ({ frames := 1, cells := 0, slots := 0, locals := 13 } : Room).slots) := by
  refine MetFree.of_bodySF (plainFor_of_name pn_3) hisR ?_
  intro p e s m args below meth c s₁ Bd hml0 hP hK
  obtain ⟨rfl, hZ, hh⟩ := hP
  have hx := Bd.exec
  have hby := Bd.bytes
  have hml : c.maxLocals = 1 := hml0
  have hown : s.vm.findClass "java/lang/String" = some m.cls := findClass_of_methodNamed Bd.named
  have hnm := (name_of_methodNamed Bd.named Bd.method).1
  have X0 : Stand p l e ({ frames := 1, cells := 0, slots := 0, locals := 13 } : Room) s m #[(.ref a1)] below meth c s₁ [] 0 0 := Stand.of_body Bd
  have e0 : s₁.heap = h0 := by rw [← hh, Bd.state]; rfl
  have N0 := Fr.nil n0
  show GoalS p.tables e below s ({ frames := 1, cells := 0, slots := 0, locals := 13 } : Room).cells ({ frames := 1, cells := 0, slots := 0, locals := 13 } : Room).slots (Qlen3 Z a1 zcs tb kb g h0 n0) (s₁.setTop (entryFrame m #[(.ref a1)] 1))
  refine GoalS.lift (B := s₁.setTop (mkF m 0 #[vr a1] [])) (fun t k => castTop (ef_rmlen3 m a1) k) ?_
  have K0 : Keep h0 h0 [] := Keep.refl _ _
  obtain ⟨T1, X1, e1, st1⟩ := getF X0 hx hZ hown (host := "") (Or.inl (hw _ (List.mem_of_getElem? (i := 55) rfl))) Via.refl e0 F_value_a1 (g := (mkF m 1 #[vr a1] [(.ref a1)])) rfl rfl (hb hby d13_1)
  obtain ⟨cl2, Ar2, -, sz2, -, -⟩ := id A_tb
  have le2 : cl2.slots.size.toInt32 = (3 : Int32) := by rw [sz2]; exact rfl
  obtain ⟨cq3, kq3, q3a, q3b, q3c⟩ := isOf hZ e1 E_a1
  obtain ⟨_, _, ⟨T3, L3, k3, n3⟩, -, X3, ⟨Lc3, hQ3, l3, y3, z3⟩, st3⟩ := X1.virtualBack hx (y := (⟨"java/lang/String", "coder", "()B"⟩ : MethodName)) (z := (⟨"java/lang/String", "coder", "()B"⟩ : MethodName)) hown (mvT hZ (hw _ (List.mem_of_getElem? (i := 76) rfl))) (mvT hZ (hw _ (List.mem_of_getElem? (i := 77) rfl))) (notFace_of_selects (args := #[]) (mvT hZ (hw _ (List.mem_of_getElem? (i := 79) rfl)))) (mvT hZ (hw _ (List.mem_of_getElem? (i := 79) rfl))) (mvT hZ (hw _ (List.mem_of_getElem? (i := 78) rfl))) (by decide) (backOf (W := 1) (rm14 l Z a0 hw [] a1 zcs h0 n0 Z0 S_COMPACT_STRINGS hCS F_coder_a1) hZ (hw _ (List.mem_of_getElem? (i := 80) rfl)) (hw _ (List.mem_of_getElem? (i := 40) rfl)) (by decide) (by decide)) q3a q3c (g := (mkF m 6 #[vr a1] [(.ref a1), (.int (3 : Int32))])) rfl (by rw [hml]; rfl) (Steps.refl _) (argsL := []) (rest := [(.int (3 : Int32))]) (lenOf pd_2 rfl) rfl (by show 2 * 0 + _ ≤ _; exact Nat.le_of_eq rfl) (hb hby d13_6) (fun _ _ => ⟨rfl, e1, (by decide : 0 + 0 ≤ _), (by decide : 0 + 0 ≤ _)⟩)
  dsimp only [Pt.U, Pt.locs, Pt.cells, Pt.slots] at X3 l3 y3 z3 st3 hQ3
  subst y3 z3
  obtain ⟨rfl, N3q, eq3⟩ := hQ3
  have N3 : Fr n0 L3 := by rw [l3]; exact Fr.app N0 N3q
  obtain ⟨fs, hr, hrun, hended, hW, hsame⟩ := X3.leave (v := some (.int (3 : Int32))) (fun h => by rw [Bd.returns] at h; cases h)
  refine ⟨_, _, ?_, hrun, hended, _, _, rfl, ?_, ⟨_, rfl⟩, hW, hsame.mono (by decide) (by decide)⟩
  · show Steps p.tables e below (s₁.setTop (mkF m 0 #[vr a1] [])) _
    refine XS.aloadN X0.here hx rfl (hb hby d13_0) rfl rfl ?_
    refine st1 _ ?_
    refine X1.arraylength hx (by rw [e1]; exact Ar2.1) (State.isArrayOf_alike hZ.alike Ar2.2.1) (g := (mkF m 4 #[vr a1] [(.ref tb)])) rfl rfl (hb hby d13_4) _ ?_
    rw [le2]
    refine XS.aloadN X1.here hx rfl (hb hby d13_5) rfl rfl ?_
    refine st3.trans ?_
    show Steps p.tables e below (T3.setTop (mkF m 9 #[vr a1] [(.int (0 : Int32)), (.int (3 : Int32))])) _
    refine XS.ishr X3.here hx rfl (hb hby d13_9) rfl ?_
    exact retI X3 hx Bd.returns (hb hby d13_10) hr
  · show Qlen3 Z a1 zcs tb kb g h0 n0 _ T3.heap _
    exact ⟨rfl, N3, eq3⟩
theorem d23_0 : decode jdk_41_method_11_code 0 = .ok (.iload_n 0, 1) := by decide +kernel
theorem d23_1 : decode jdk_41_method_11_code 1 = .ok (.ifCond .lt 8, 3) := by decide +kernel
theorem d23_4 : decode jdk_41_method_11_code 4 = .ok (.iload_n 0, 1) := by decide +kernel
theorem d23_5 : decode jdk_41_method_11_code 5 = .ok (.iload_n 1, 1) := by decide +kernel
theorem d23_6 : decode jdk_41_method_11_code 6 = .ok (.if_icmp .lt 10, 3) := by decide +kernel
theorem d23_16 : decode jdk_41_method_11_code 16 = .ok (.iload_n 0, 1) := by decide +kernel
theorem d23_17 : decode jdk_41_method_11_code 17 = .ok (.ireturn, 1) := by decide +kernel
theorem ef_rmpcn (m : MethodId) (p1 : Int32) (p2 : Int32) : entryFrame m #[(.int p1), (.int p2), .null] 3 = mkF m 0 #[vi p1, vi p2, .val .null] [] := by first | (simp [entryFrame, mkF, argsToLocals, Value.category]; done) | rfl
def Qpcn (Z : State) (p1 : Int32) (p2 : Int32) (h0 : Heap) (n0 : Nat) (v : Option Value) (h : Heap) (L : List Loc) : Prop := v = some (.int p1) ∧ Fr n0 L ∧ h = h0
set_option maxRecDepth 65536 in
set_option maxHeartbeats 40000000 in
theorem rmpcn (l : Launch) (Z : State) (a0 : Array Value) (hw : ∀ d ∈ tables_1, d.before a0 Z = true) (ws : List Jvm.Cond) (p1 : Int32) (p2 : Int32) (h0 : Heap) (n0 : Nat) (Z0 : n0 ≤ h0.size) (ix0 : ¬ (p1 < (0 : Int32))) (ix1 : p1 < p2) :
    MetFree l (⟨"jdk/internal/util/Preconditions", "checkIndex", "(IILjava/util/function/BiFunction;)I"⟩ : MethodName) (head1 (Jvm.Cond.code (⟨"jdk/internal/util/Preconditions", "checkIndex", "(IILjava/util/function/BiFunction;)I"⟩ : MethodName) jdk_41_method_11_code 3 (some .int) :: ws) ({ frames := 0, cells := 0, slots := 0, locals := 0 } : Room)) (fun a U => a = #[(.int p1), (.int p2), .null] ∧ Z.Warmed39 U.vm ∧ U.heap = h0) (fun _ _ _ _ _ => True) (fun _ U o U' => ∃ v L, o = .returned v ∧ Qpcn Z p1 p2 h0 n0 v U'.heap L ∧ FrameEnd U o U' L ({ frames := 0, cells := 0, slots := 0, locals := 0 } : Room).cells ({ frames := 0, cells := 0, slots := 0, locals := 0 } : Room).slots) := by
  refine MetFree.of_bodySF (plainFor_of_name pn_0) hisR ?_
  intro p e s m args below meth c s₁ Bd hml0 hP hK
  obtain ⟨rfl, hZ, hh⟩ := hP
  have hx := Bd.exec
  have hby := Bd.bytes
  have hml : c.maxLocals = 3 := hml0
  have hown : s.vm.findClass "jdk/internal/util/Preconditions" = some m.cls := findClass_of_methodNamed Bd.named
  have hnm := (name_of_methodNamed Bd.named Bd.method).1
  have X0 : Stand p l e ({ frames := 0, cells := 0, slots := 0, locals := 0 } : Room) s m #[(.int p1), (.int p2), .null] below meth c s₁ [] 0 0 := Stand.of_body Bd
  have e0 : s₁.heap = h0 := by rw [← hh, Bd.state]; rfl
  have N0 := Fr.nil n0
  show GoalS p.tables e below s ({ frames := 0, cells := 0, slots := 0, locals := 0 } : Room).cells ({ frames := 0, cells := 0, slots := 0, locals := 0 } : Room).slots (Qpcn Z p1 p2 h0 n0) (s₁.setTop (entryFrame m #[(.int p1), (.int p2), .null] 3))
  refine GoalS.lift (B := s₁.setTop (mkF m 0 #[vi p1, vi p2, .val .null] [])) (fun t k => castTop (ef_rmpcn m p1 p2) k) ?_
  have K0 : Keep h0 h0 [] := Keep.refl _ _
  obtain ⟨fs, hr, hrun, hended, hW, hsame⟩ := X0.leave (v := some (.int p1)) (fun h => by rw [Bd.returns] at h; cases h)
  refine ⟨_, _, ?_, hrun, hended, _, _, rfl, ?_, ⟨_, rfl⟩, hW, hsame.mono (by decide) (by decide)⟩
  · show Steps p.tables e below (s₁.setTop (mkF m 0 #[vi p1, vi p2, .val .null] [])) _
    refine XS.iloadN X0.here hx rfl (hb hby d23_0) rfl ?_
    refine XS.ifNo X0.here hx rfl (hb hby d23_1) rfl ((if0 _ _).trans (flt (ix0 : ¬ (p1 < (0 : Int32)))).1) ?_
    refine XS.iloadN X0.here hx rfl (hb hby d23_4) rfl ?_
    refine XS.iloadN X0.here hx rfl (hb hby d23_5) rfl ?_
    refine XS.icmpYes X0.here hx rfl (pc0 := 6) (pc' := 16) rfl (hb hby d23_6) rfl ((tlt (ix1 : p1 < p2)).1) (by decide) (by decide) ?_
    refine XS.iloadN X0.here hx rfl (hb hby d23_16) rfl ?_
    show Steps p.tables e below (s₁.setTop (mkF m 17 #[vi p1, vi p2, .val .null] [(.int p1)])) _
    exact retI X0 hx Bd.returns (hb hby d23_17) hr
  · show Qpcn Z p1 p2 h0 n0 _ s₁.heap _
    exact ⟨rfl, N0, e0⟩
theorem ef_rmpcr (m : MethodId) (p1 : Int32) (p2 : Int32) (a3 : Addr) : entryFrame m #[(.int p1), (.int p2), (.ref a3)] 3 = mkF m 0 #[vi p1, vi p2, vr a3] [] := by first | (simp [entryFrame, mkF, argsToLocals, Value.category]; done) | rfl
def Qpcr (Z : State) (p1 : Int32) (p2 : Int32) (a3 : Addr) (h0 : Heap) (n0 : Nat) (v : Option Value) (h : Heap) (L : List Loc) : Prop := v = some (.int p1) ∧ Fr n0 L ∧ h = h0
set_option maxRecDepth 65536 in
set_option maxHeartbeats 40000000 in
theorem rmpcr (l : Launch) (Z : State) (a0 : Array Value) (hw : ∀ d ∈ tables_1, d.before a0 Z = true) (ws : List Jvm.Cond) (p1 : Int32) (p2 : Int32) (a3 : Addr) (h0 : Heap) (n0 : Nat) (Z0 : n0 ≤ h0.size) (ix0 : ¬ (p1 < (0 : Int32))) (ix1 : p1 < p2) :
    MetFree l (⟨"jdk/internal/util/Preconditions", "checkIndex", "(IILjava/util/function/BiFunction;)I"⟩ : MethodName) (head1 (Jvm.Cond.code (⟨"jdk/internal/util/Preconditions", "checkIndex", "(IILjava/util/function/BiFunction;)I"⟩ : MethodName) jdk_41_method_11_code 3 (some .int) :: ws) ({ frames := 0, cells := 0, slots := 0, locals := 0 } : Room)) (fun a U => a = #[(.int p1), (.int p2), (.ref a3)] ∧ Z.Warmed39 U.vm ∧ U.heap = h0) (fun _ _ _ _ _ => True) (fun _ U o U' => ∃ v L, o = .returned v ∧ Qpcr Z p1 p2 a3 h0 n0 v U'.heap L ∧ FrameEnd U o U' L ({ frames := 0, cells := 0, slots := 0, locals := 0 } : Room).cells ({ frames := 0, cells := 0, slots := 0, locals := 0 } : Room).slots) := by
  refine MetFree.of_bodySF (plainFor_of_name pn_0) hisR ?_
  intro p e s m args below meth c s₁ Bd hml0 hP hK
  obtain ⟨rfl, hZ, hh⟩ := hP
  have hx := Bd.exec
  have hby := Bd.bytes
  have hml : c.maxLocals = 3 := hml0
  have hown : s.vm.findClass "jdk/internal/util/Preconditions" = some m.cls := findClass_of_methodNamed Bd.named
  have hnm := (name_of_methodNamed Bd.named Bd.method).1
  have X0 : Stand p l e ({ frames := 0, cells := 0, slots := 0, locals := 0 } : Room) s m #[(.int p1), (.int p2), (.ref a3)] below meth c s₁ [] 0 0 := Stand.of_body Bd
  have e0 : s₁.heap = h0 := by rw [← hh, Bd.state]; rfl
  have N0 := Fr.nil n0
  show GoalS p.tables e below s ({ frames := 0, cells := 0, slots := 0, locals := 0 } : Room).cells ({ frames := 0, cells := 0, slots := 0, locals := 0 } : Room).slots (Qpcr Z p1 p2 a3 h0 n0) (s₁.setTop (entryFrame m #[(.int p1), (.int p2), (.ref a3)] 3))
  refine GoalS.lift (B := s₁.setTop (mkF m 0 #[vi p1, vi p2, vr a3] [])) (fun t k => castTop (ef_rmpcr m p1 p2 a3) k) ?_
  have K0 : Keep h0 h0 [] := Keep.refl _ _
  obtain ⟨fs, hr, hrun, hended, hW, hsame⟩ := X0.leave (v := some (.int p1)) (fun h => by rw [Bd.returns] at h; cases h)
  refine ⟨_, _, ?_, hrun, hended, _, _, rfl, ?_, ⟨_, rfl⟩, hW, hsame.mono (by decide) (by decide)⟩
  · show Steps p.tables e below (s₁.setTop (mkF m 0 #[vi p1, vi p2, vr a3] [])) _
    refine XS.iloadN X0.here hx rfl (hb hby d23_0) rfl ?_
    refine XS.ifNo X0.here hx rfl (hb hby d23_1) rfl ((if0 _ _).trans (flt (ix0 : ¬ (p1 < (0 : Int32)))).1) ?_
    refine XS.iloadN X0.here hx rfl (hb hby d23_4) rfl ?_
    refine XS.iloadN X0.here hx rfl (hb hby d23_5) rfl ?_
    refine XS.icmpYes X0.here hx rfl (pc0 := 6) (pc' := 16) rfl (hb hby d23_6) rfl ((tlt (ix1 : p1 < p2)).1) (by decide) (by decide) ?_
    refine XS.iloadN X0.here hx rfl (hb hby d23_16) rfl ?_
    show Steps p.tables e below (s₁.setTop (mkF m 17 #[vi p1, vi p2, vr a3] [(.int p1)])) _
    exact retI X0 hx Bd.returns (hb hby d23_17) hr
  · show Qpcr Z p1 p2 a3 h0 n0 _ s₁.heap _
    exact ⟨rfl, N0, e0⟩
theorem d22_0 : decode jdk_42_method_155_code 0 = .ok (.iload_n 0, 1) := by decide +kernel
theorem d22_1 : decode jdk_42_method_155_code 1 = .ok (.iload_n 1, 1) := by decide +kernel
theorem d22_2 : decode jdk_42_method_155_code 2 = .ok (.getstatic 1053, 3) := by decide +kernel
theorem d22_5 : decode jdk_42_method_155_code 5 = .ok (.invokestatic 1059, 3) := by decide +kernel
theorem d22_8 : decode jdk_42_method_155_code 8 = .ok (.pop, 1) := by decide +kernel
theorem d22_9 : decode jdk_42_method_155_code 9 = .ok (.return_, 1) := by decide +kernel
theorem pd_3 : parseMethodDescriptor "(IILjava/util/function/BiFunction;)I" = some ⟨[.int, .int, (.object "java/util/function/BiFunction")], some .int⟩ := by decide +kernel
theorem ef_rmci (m : MethodId) (p1 : Int32) (p2 : Int32) : entryFrame m #[(.int p1), (.int p2)] 2 = mkF m 0 #[vi p1, vi p2] [] := by first | (simp [entryFrame, mkF, argsToLocals, Value.category]; done) | rfl
def Qci (Z : State) (p1 : Int32) (p2 : Int32) (fm : Value) (h0 : Heap) (n0 : Nat) (v : Option Value) (h : Heap) (L : List Loc) : Prop := v = none ∧ Fr n0 L ∧ h = h0
set_option maxRecDepth 65536 in
set_option maxHeartbeats 40000000 in
theorem rmci (l : Launch) (Z : State) (a0 : Array Value) (hw : ∀ d ∈ tables_1, d.before a0 Z = true) (ws : List Jvm.Cond) (p1 : Int32) (p2 : Int32) (fm : Value) (h0 : Heap) (n0 : Nat) (Z0 : n0 ≤ h0.size) (S_SIOOBE_FORMATTER : Sta Z h0 "jdk/internal/util/Preconditions" "SIOOBE_FORMATTER" "Ljava/util/function/BiFunction;" fm) (hfm : fm.isRef = true) (ix0 : ¬ (p1 < (0 : Int32))) (ix1 : p1 < p2) :
    MetFree l (⟨"java/lang/String", "checkIndex", "(II)V"⟩ : MethodName) (head1 (Jvm.Cond.code (⟨"java/lang/String", "checkIndex", "(II)V"⟩ : MethodName) jdk_42_method_155_code 2 none :: ws) ({ frames := 1, cells := 0, slots := 0, locals := 14 } : Room)) (fun a U => a = #[(.int p1), (.int p2)] ∧ Z.Warmed39 U.vm ∧ U.heap = h0) (fun _ _ _ _ _ => True) (fun _ U o U' => ∃ v L, o = .returned v ∧ Qci Z p1 p2 fm h0 n0 v U'.heap L ∧ FrameEnd U o U' L ({ frames := 1, cells := 0, slots := 0, locals := 14 } : Room).cells ({ frames := 1, cells := 0, slots := 0, locals := 14 } : Room).slots) := by
  refine MetFree.of_bodySF (plainFor_of_name pn_3) hisR ?_
  intro p e s m args below meth c s₁ Bd hml0 hP hK
  obtain ⟨rfl, hZ, hh⟩ := hP
  have hx := Bd.exec
  have hby := Bd.bytes
  have hml : c.maxLocals = 2 := hml0
  have hown : s.vm.findClass "java/lang/String" = some m.cls := findClass_of_methodNamed Bd.named
  have hnm := (name_of_methodNamed Bd.named Bd.method).1
  have X0 : Stand p l e ({ frames := 1, cells := 0, slots := 0, locals := 14 } : Room) s m #[(.int p1), (.int p2)] below meth c s₁ [] 0 0 := Stand.of_body Bd
  have e0 : s₁.heap = h0 := by rw [← hh, Bd.state]; rfl
  have N0 := Fr.nil n0
  show GoalS p.tables e below s ({ frames := 1, cells := 0, slots := 0, locals := 14 } : Room).cells ({ frames := 1, cells := 0, slots := 0, locals := 14 } : Room).slots (Qci Z p1 p2 fm h0 n0) (s₁.setTop (entryFrame m #[(.int p1), (.int p2)] 2))
  refine GoalS.lift (B := s₁.setTop (mkF m 0 #[vi p1, vi p2] [])) (fun t k => castTop (ef_rmci m p1 p2) k) ?_
  have K0 : Keep h0 h0 [] := Keep.refl _ _
  obtain ⟨T1, X1, e1, st1⟩ := getS2 X0 hx hZ hown (host := "") (Or.inl (hw _ (List.mem_of_getElem? (i := 114) rfl))) Via.refl e0 S_SIOOBE_FORMATTER (g := (mkF m 2 #[vi p1, vi p2] [(.int p2), (.int p1)])) rfl (hb hby d22_2)
  refine GoalS.lift (B := (T1.setTop (mkF m 5 #[vi p1, vi p2] [fm, (.int p2), (.int p1)]))) (fun t k => ?_) ?_
  · show Steps p.tables e below (s₁.setTop (mkF m 0 #[vi p1, vi p2] [])) _
    refine XS.iloadN X0.here hx rfl (hb hby d22_0) rfl ?_
    refine XS.iloadN X0.here hx rfl (hb hby d22_1) rfl ?_
    refine st1 _ ?_
    exact k
  rcases ref_cases hfm with hk5 | ⟨fa, hk5⟩
  · refine GoalS.lift (B := (T1.setTop (mkF m 5 #[vi p1, vi p2] [.null, (.int p2), (.int p1)]))) (fun t k => by rw [hk5]; exact k) ?_
    obtain ⟨_, _, ⟨T2, L2, k2, n2⟩, -, X2, ⟨Lc2, hQ2, l2, y2, z2⟩, st2⟩ := Jvm.LawKit.callS X1 hx (y := (⟨"jdk/internal/util/Preconditions", "checkIndex", "(IILjava/util/function/BiFunction;)I"⟩ : MethodName)) hown (mvT hZ (hw _ (List.mem_of_getElem? (i := 115) rfl))) (mvT hZ (hw _ (List.mem_of_getElem? (i := 116) rfl))) (mvT hZ (hw _ (List.mem_of_getElem? (i := 18) rfl))) (mvT hZ (hw _ (List.mem_of_getElem? (i := 117) rfl))) (by decide) (backOf (W := 0) (rmpcn l Z a0 hw [] p1 p2 h0 n0 Z0 ix0 ix1) hZ (hw _ (List.mem_of_getElem? (i := 117) rfl)) (hw _ (List.mem_of_getElem? (i := 18) rfl)) (by decide) (by decide)) (g := (mkF m 5 #[vi p1, vi p2] [.null, (.int p2), (.int p1)])) rfl (by rw [hml]; rfl) (argsL := [(.int p1), (.int p2), .null]) (rest := []) (lenOf pd_3 rfl) rfl (by show 2 * 0 + _ ≤ _; exact Nat.le_of_eq rfl) (hb hby d22_5) (fun _ _ => ⟨rfl, e1, (by decide : 0 + 0 ≤ _), (by decide : 0 + 0 ≤ _)⟩)
    dsimp only [Pt.U, Pt.locs, Pt.cells, Pt.slots] at X2 l2 y2 z2 st2 hQ2
    subst y2 z2
    obtain ⟨rfl, N2q, eq2⟩ := hQ2
    have N2 : Fr n0 L2 := by rw [l2]; exact Fr.app N0 N2q
    obtain ⟨fs, hr, hrun, hended, hW, hsame⟩ := X2.leave (v := none) (fun _ => rfl)
    refine ⟨_, _, ?_, hrun, hended, _, _, rfl, ?_, ⟨_, rfl⟩, hW, hsame.mono (by decide) (by decide)⟩
    · show Steps p.tables e below (T1.setTop (mkF m 5 #[vi p1, vi p2] [.null, (.int p2), (.int p1)])) _
      refine st2 _ ?_
      refine XS.pop X2.here hx rfl (hb hby d22_8) rfl rfl ?_
      exact X2.returnOut hx Bd.returns (hb hby d22_9) hr
    · show Qci Z p1 p2 fm h0 n0 _ T2.heap _
      exact ⟨rfl, N2, eq2⟩
  · refine GoalS.lift (B := (T1.setTop (mkF m 5 #[vi p1, vi p2] [(.ref fa), (.int p2), (.int p1)]))) (fun t k => by rw [hk5]; exact k) ?_
    obtain ⟨_, _, ⟨T3, L3, k3, n3⟩, -, X3, ⟨Lc3, hQ3, l3, y3, z3⟩, st3⟩ := Jvm.LawKit.callS X1 hx (y := (⟨"jdk/internal/util/Preconditions", "checkIndex", "(IILjava/util/function/BiFunction;)I"⟩ : MethodName)) hown (mvT hZ (hw _ (List.mem_of_getElem? (i := 115) rfl))) (mvT hZ (hw _ (List.mem_of_getElem? (i := 116) rfl))) (mvT hZ (hw _ (List.mem_of_getElem? (i := 18) rfl))) (mvT hZ (hw _ (List.mem_of_getElem? (i := 117) rfl))) (by decide) (backOf (W := 0) (rmpcr l Z a0 hw [] p1 p2 fa h0 n0 Z0 ix0 ix1) hZ (hw _ (List.mem_of_getElem? (i := 117) rfl)) (hw _ (List.mem_of_getElem? (i := 18) rfl)) (by decide) (by decide)) (g := (mkF m 5 #[vi p1, vi p2] [(.ref fa), (.int p2), (.int p1)])) rfl (by rw [hml]; rfl) (argsL := [(.int p1), (.int p2), (.ref fa)]) (rest := []) (lenOf pd_3 rfl) rfl (by show 2 * 0 + _ ≤ _; exact Nat.le_of_eq rfl) (hb hby d22_5) (fun _ _ => ⟨rfl, e1, (by decide : 0 + 0 ≤ _), (by decide : 0 + 0 ≤ _)⟩)
    dsimp only [Pt.U, Pt.locs, Pt.cells, Pt.slots] at X3 l3 y3 z3 st3 hQ3
    subst y3 z3
    obtain ⟨rfl, N3q, eq3⟩ := hQ3
    have N3 : Fr n0 L3 := by rw [l3]; exact Fr.app N0 N3q
    obtain ⟨fs, hr, hrun, hended, hW, hsame⟩ := X3.leave (v := none) (fun _ => rfl)
    refine ⟨_, _, ?_, hrun, hended, _, _, rfl, ?_, ⟨_, rfl⟩, hW, hsame.mono (by decide) (by decide)⟩
    · show Steps p.tables e below (T1.setTop (mkF m 5 #[vi p1, vi p2] [(.ref fa), (.int p2), (.int p1)])) _
      refine st3 _ ?_
      refine XS.pop X3.here hx rfl (hb hby d22_8) rfl rfl ?_
      exact X3.returnOut hx Bd.returns (hb hby d22_9) hr
    · show Qci Z p1 p2 fm h0 n0 _ T3.heap _
      exact ⟨rfl, N3, eq3⟩
theorem d21_0 : decode jdk_43_method_2_code 0 = .ok (.iload_n 1, 1) := by decide +kernel
theorem d21_1 : decode jdk_43_method_2_code 1 = .ok (.aload_n 0, 1) := by decide +kernel
theorem d21_2 : decode jdk_43_method_2_code 2 = .ok (.arraylength, 1) := by decide +kernel
theorem d21_3 : decode jdk_43_method_2_code 3 = .ok (.invokestatic 9, 3) := by decide +kernel
theorem d21_6 : decode jdk_43_method_2_code 6 = .ok (.aload_n 0, 1) := by decide +kernel
theorem d21_7 : decode jdk_43_method_2_code 7 = .ok (.iload_n 1, 1) := by decide +kernel
theorem d21_8 : decode jdk_43_method_2_code 8 = .ok (.baload, 1) := by decide +kernel
theorem d21_9 : decode jdk_43_method_2_code 9 = .ok (.sipush 255, 3) := by decide +kernel
theorem d21_12 : decode jdk_43_method_2_code 12 = .ok (.iand, 1) := by decide +kernel
theorem d21_13 : decode jdk_43_method_2_code 13 = .ok (.i2c, 1) := by decide +kernel
theorem d21_14 : decode jdk_43_method_2_code 14 = .ok (.ireturn, 1) := by decide +kernel
theorem pn_4 : plainName "java/lang/StringLatin1" = true := by first | (simp [plainName, overriddenIn]; done) | decide +kernel
theorem pd_4 : parseMethodDescriptor "(II)V" = some ⟨[.int, .int], none⟩ := by decide +kernel
theorem ef_rmcl1_0 (m : MethodId) (a1 : Addr) : entryFrame m #[(.ref a1), (.int (0 : Int32))] 2 = mkF m 0 #[vr a1, vi (0 : Int32)] [] := by first | (simp [entryFrame, mkF, argsToLocals, Value.category]; done) | rfl
def Qcl1_0 (Z : State) (a1 : Addr) (fm : Value) (k : ClassId) (g : Nat → Int32) (h0 : Heap) (n0 : Nat) (v : Option Value) (h : Heap) (L : List Loc) : Prop := v = some (.int (g 0)) ∧ Fr n0 L ∧ h = h0
set_option maxRecDepth 65536 in
set_option maxHeartbeats 40000000 in
theorem rmcl1_0 (l : Launch) (Z : State) (a0 : Array Value) (hw : ∀ d ∈ tables_1, d.before a0 Z = true) (ws : List Jvm.Cond) (a1 : Addr) (fm : Value) (k : ClassId) (g : Nat → Int32) (h0 : Heap) (n0 : Nat) (Z0 : n0 ≤ h0.size) (S_SIOOBE_FORMATTER : Sta Z h0 "jdk/internal/util/Preconditions" "SIOOBE_FORMATTER" "Ljava/util/function/BiFunction;" fm) (hfm : fm.isRef = true) (A_a1 : AV Z h0 a1 k .byte 1 (fun i => Value.int (g i))) (hok : own_ok (g 0)) :
    MetFree l (⟨"java/lang/StringLatin1", "charAt", "([BI)C"⟩ : MethodName) (head1 (Jvm.Cond.code (⟨"java/lang/StringLatin1", "charAt", "([BI)C"⟩ : MethodName) jdk_43_method_2_code 2 (some .char) :: ws) ({ frames := 2, cells := 0, slots := 0, locals := 27 } : Room)) (fun a U => a = #[(.ref a1), (.int (0 : Int32))] ∧ Z.Warmed39 U.vm ∧ U.heap = h0) (fun _ _ _ _ _ => True) (fun _ U o U' => ∃ v L, o = .returned v ∧ Qcl1_0 Z a1 fm k g h0 n0 v U'.heap L ∧ FrameEnd U o U' L ({ frames := 2, cells := 0, slots := 0, locals := 27 } : Room).cells ({ frames := 2, cells := 0, slots := 0, locals := 27 } : Room).slots) := by
  refine MetFree.of_bodySF (plainFor_of_name pn_4) hisR ?_
  intro p e s m args below meth c s₁ Bd hml0 hP hK
  obtain ⟨rfl, hZ, hh⟩ := hP
  have hx := Bd.exec
  have hby := Bd.bytes
  have hml : c.maxLocals = 2 := hml0
  have hown : s.vm.findClass "java/lang/StringLatin1" = some m.cls := findClass_of_methodNamed Bd.named
  have hnm := (name_of_methodNamed Bd.named Bd.method).1
  have X0 : Stand p l e ({ frames := 2, cells := 0, slots := 0, locals := 27 } : Room) s m #[(.ref a1), (.int (0 : Int32))] below meth c s₁ [] 0 0 := Stand.of_body Bd
  have e0 : s₁.heap = h0 := by rw [← hh, Bd.state]; rfl
  have N0 := Fr.nil n0
  show GoalS p.tables e below s ({ frames := 2, cells := 0, slots := 0, locals := 27 } : Room).cells ({ frames := 2, cells := 0, slots := 0, locals := 27 } : Room).slots (Qcl1_0 Z a1 fm k g h0 n0) (s₁.setTop (entryFrame m #[(.ref a1), (.int (0 : Int32))] 2))
  refine GoalS.lift (B := s₁.setTop (mkF m 0 #[vr a1, vi (0 : Int32)] [])) (fun t k => castTop (ef_rmcl1_0 m a1) k) ?_
  have K0 : Keep h0 h0 [] := Keep.refl _ _
  obtain ⟨cl1, Ar1, -, sz1, -, -⟩ := id A_a1
  have le1 : cl1.slots.size.toInt32 = (1 : Int32) := by rw [sz1]; exact rfl
  obtain ⟨_, _, ⟨T2, L2, k2, n2⟩, -, X2, ⟨Lc2, hQ2, l2, y2, z2⟩, st2⟩ := Jvm.LawKit.callS X0 hx (y := (⟨"java/lang/String", "checkIndex", "(II)V"⟩ : MethodName)) hown (mvT hZ (hw _ (List.mem_of_getElem? (i := 111) rfl))) (mvT hZ (hw _ (List.mem_of_getElem? (i := 112) rfl))) (mvT hZ (hw _ (List.mem_of_getElem? (i := 40) rfl))) (mvT hZ (hw _ (List.mem_of_getElem? (i := 113) rfl))) (by decide) (backOf (W := 0) (rmci l Z a0 hw [] (0 : Int32) (1 : Int32) fm h0 n0 Z0 S_SIOOBE_FORMATTER hfm (by decide) (by decide)) hZ (hw _ (List.mem_of_getElem? (i := 113) rfl)) (hw _ (List.mem_of_getElem? (i := 40) rfl)) (by decide) (by decide)) (g := (mkF m 3 #[vr a1, vi (0 : Int32)] [(.int (1 : Int32)), (.int (0 : Int32))])) rfl (by rw [hml]; rfl) (argsL := [(.int (0 : Int32)), (.int (1 : Int32))]) (rest := []) (lenOf pd_4 rfl) rfl (by show 2 * 0 + _ ≤ _; exact Nat.le_of_eq rfl) (hb hby d21_3) (fun _ _ => ⟨rfl, e0, (by decide : 0 + 0 ≤ _), (by decide : 0 + 0 ≤ _)⟩)
  dsimp only [Pt.U, Pt.locs, Pt.cells, Pt.slots] at X2 l2 y2 z2 st2 hQ2
  subst y2 z2
  obtain ⟨rfl, N2q, eq2⟩ := hQ2
  have N2 : Fr n0 L2 := by rw [l2]; exact Fr.app N0 N2q
  obtain ⟨cl3, Ar3, kc3, sz3, -, hv3⟩ := id A_a1
  have hin3 : ¬ ((0 : Int32) < 0 ∨ cl3.slots.size ≤ ((0 : Int32)).toNatClampNeg) := AV.inb sz3 (show ¬ (0 : Int32) < 0 ∧ ((0 : Int32)).toNatClampNeg < 1 by decide)
  have hat3 : cl3.slots[((0 : Int32)).toNatClampNeg]? = some (.int (g 0)) := (hv3 _ (AV.inx (show ¬ (0 : Int32) < 0 ∧ ((0 : Int32)).toNatClampNeg < 1 by decide))).trans (congrArg some rfl)
  obtain ⟨fs, hr, hrun, hended, hW, hsame⟩ := X2.leave (v := some (.int (((((g 0) &&& (255 : Int32))).toUInt32.toUInt16.toUInt32.toInt32)).toUInt32.toUInt16.toUInt32.toInt32)) (fun h => by rw [Bd.returns] at h; cases h)
  refine ⟨_, _, ?_, hrun, hended, _, _, rfl, ?_, ⟨_, rfl⟩, hW, hsame.mono (by decide) (by decide)⟩
  · show Steps p.tables e below (s₁.setTop (mkF m 0 #[vr a1, vi (0 : Int32)] [])) _
    refine XS.iloadN X0.here hx rfl (hb hby d21_0) rfl ?_
    refine XS.aloadN X0.here hx rfl (hb hby d21_1) rfl rfl ?_
    refine X0.arraylength hx (by rw [e0]; exact Ar1.1) (State.isArrayOf_alike hZ.alike Ar1.2.1) (g := (mkF m 2 #[vr a1, vi (0 : Int32)] [(.ref a1), (.int (0 : Int32))])) rfl rfl (hb hby d21_2) _ ?_
    rw [le1]
    refine st2 _ ?_
    refine XS.aloadN X2.here hx rfl (hb hby d21_6) rfl rfl ?_
    show Steps p.tables e below (T2.setTop (mkF m 7 #[vr a1, vi (0 : Int32)] [(.ref a1)])) _
    refine XS.iloadN X2.here hx rfl (hb hby d21_7) rfl ?_
    refine X2.baloadBytes hx (j := (0 : Int32)) (v := (.int (g 0))) (by rw [eq2]; exact Ar3.1) (State.isArrayOf_alike hZ.alike Ar3.2.1) Ar3.2.2 hin3 hat3 (g := (mkF m 8 #[vr a1, vi (0 : Int32)] [(.int (0 : Int32)), (.ref a1)])) rfl rfl (hb hby d21_8) _ ?_
    refine XS.sipush X2.here hx rfl (hb hby d21_9) ?_
    refine XS.iand X2.here hx rfl (hb hby d21_12) rfl ?_
    refine XS.i2c X2.here hx rfl (hb hby d21_13) rfl ?_
    exact retN X2 hx (t := .char) Bd.returns (by simp) (hb hby d21_14) hr
  · show Qcl1_0 Z a1 fm k g h0 n0 _ T2.heap _
    exact ⟨(congrArg (fun z => some (Value.int z)) (own_ca hok)), N2, eq2⟩
theorem d19_0 : decode jdk_42_method_56_code 0 = .ok (.aload_n 0, 1) := by decide +kernel
theorem d19_1 : decode jdk_42_method_56_code 1 = .ok (.invokevirtual 492, 3) := by decide +kernel
theorem d19_4 : decode jdk_42_method_56_code 4 = .ok (.ifCond .eq 12, 3) := by decide +kernel
theorem d19_7 : decode jdk_42_method_56_code 7 = .ok (.aload_n 0, 1) := by decide +kernel
theorem d19_8 : decode jdk_42_method_56_code 8 = .ok (.getfield 9, 3) := by decide +kernel
theorem d19_11 : decode jdk_42_method_56_code 11 = .ok (.iload_n 1, 1) := by decide +kernel
theorem d19_12 : decode jdk_42_method_56_code 12 = .ok (.invokestatic 495, 3) := by decide +kernel
theorem d19_15 : decode jdk_42_method_56_code 15 = .ok (.ireturn, 1) := by decide +kernel
theorem pd_5 : parseMethodDescriptor "()Z" = some ⟨[], some .boolean⟩ := by decide +kernel
theorem pd_6 : parseMethodDescriptor "([BI)C" = some ⟨[(.array .byte), .int], some .char⟩ := by decide +kernel
theorem ef_rmca1_0 (m : MethodId) (a1 : Addr) : entryFrame m #[(.ref a1), (.int (0 : Int32))] 2 = mkF m 0 #[vr a1, vi (0 : Int32)] [] := by first | (simp [entryFrame, mkF, argsToLocals, Value.category]; done) | rfl
def Qca1_0 (Z : State) (a1 : Addr) (zcs : Int32) (fm : Value) (tb : Addr) (kb : ClassId) (g : Nat → Int32) (h0 : Heap) (n0 : Nat) (v : Option Value) (h : Heap) (L : List Loc) : Prop := v = some (.int (g 0)) ∧ Fr n0 L ∧ h = h0
set_option maxRecDepth 65536 in
set_option maxHeartbeats 40000000 in
theorem rmca1_0 (l : Launch) (Z : State) (a0 : Array Value) (hw : ∀ d ∈ tables_1, d.before a0 Z = true) (ws : List Jvm.Cond) (a1 : Addr) (zcs : Int32) (fm : Value) (tb : Addr) (kb : ClassId) (g : Nat → Int32) (h0 : Heap) (n0 : Nat) (Z0 : n0 ≤ h0.size) (S_COMPACT_STRINGS : Sta Z h0 "java/lang/String" "COMPACT_STRINGS" "Z" (.int zcs)) (hCS : ¬ zcs = 0) (S_SIOOBE_FORMATTER : Sta Z h0 "jdk/internal/util/Preconditions" "SIOOBE_FORMATTER" "Ljava/util/function/BiFunction;" fm) (hfm : fm.isRef = true) (E_a1 : Exa Z h0 a1 "java/lang/String") (F_value_a1 : Fld Z h0 a1 "java/lang/String" "value" "[B" (.ref tb)) (F_coder_a1 : Fld Z h0 a1 "java/lang/String" "coder" "B" (.int (0 : Int32))) (A_tb : AV Z h0 tb kb .byte 1 (fun i => Value.int (g i))) (hok : own_ok (g 0)) :
    MetFree l (⟨"java/lang/String", "charAt", "(I)C"⟩ : MethodName) (head1 (Jvm.Cond.code (⟨"java/lang/String", "charAt", "(I)C"⟩ : MethodName) jdk_42_method_56_code 2 (some .char) :: ws) ({ frames := 3, cells := 0, slots := 0, locals := 40 } : Room)) (fun a U => a = #[(.ref a1), (.int (0 : Int32))] ∧ Z.Warmed39 U.vm ∧ U.heap = h0) (fun _ _ _ _ _ => True) (fun _ U o U' => ∃ v L, o = .returned v ∧ Qca1_0 Z a1 zcs fm tb kb g h0 n0 v U'.heap L ∧ FrameEnd U o U' L ({ frames := 3, cells := 0, slots := 0, locals := 40 } : Room).cells ({ frames := 3, cells := 0, slots := 0, locals := 40 } : Room).slots) := by
  refine MetFree.of_bodySF (plainFor_of_name pn_3) hisR ?_
  intro p e s m args below meth c s₁ Bd hml0 hP hK
  obtain ⟨rfl, hZ, hh⟩ := hP
  have hx := Bd.exec
  have hby := Bd.bytes
  have hml : c.maxLocals = 2 := hml0
  have hown : s.vm.findClass "java/lang/String" = some m.cls := findClass_of_methodNamed Bd.named
  have hnm := (name_of_methodNamed Bd.named Bd.method).1
  have X0 : Stand p l e ({ frames := 3, cells := 0, slots := 0, locals := 40 } : Room) s m #[(.ref a1), (.int (0 : Int32))] below meth c s₁ [] 0 0 := Stand.of_body Bd
  have e0 : s₁.heap = h0 := by rw [← hh, Bd.state]; rfl
  have N0 := Fr.nil n0
  show GoalS p.tables e below s ({ frames := 3, cells := 0, slots := 0, locals := 40 } : Room).cells ({ frames := 3, cells := 0, slots := 0, locals := 40 } : Room).slots (Qca1_0 Z a1 zcs fm tb kb g h0 n0) (s₁.setTop (entryFrame m #[(.ref a1), (.int (0 : Int32))] 2))
  refine GoalS.lift (B := s₁.setTop (mkF m 0 #[vr a1, vi (0 : Int32)] [])) (fun t k => castTop (ef_rmca1_0 m a1) k) ?_
  have K0 : Keep h0 h0 [] := Keep.refl _ _
  obtain ⟨cq1, kq1, q1a, q1b, q1c⟩ := isOf hZ e0 E_a1
  obtain ⟨_, _, ⟨T1, L1, k1, n1⟩, -, X1, ⟨Lc1, hQ1, l1, y1, z1⟩, st1⟩ := X0.virtualBack hx (y := (⟨"java/lang/String", "isLatin1", "()Z"⟩ : MethodName)) (z := (⟨"java/lang/String", "isLatin1", "()Z"⟩ : MethodName)) hown (mvT hZ (hw _ (List.mem_of_getElem? (i := 102) rfl))) (mvT hZ (hw _ (List.mem_of_getElem? (i := 103) rfl))) (notFace_of_selects (args := #[]) (mvT hZ (hw _ (List.mem_of_getElem? (i := 105) rfl)))) (mvT hZ (hw _ (List.mem_of_getElem? (i := 105) rfl))) (mvT hZ (hw _ (List.mem_of_getElem? (i := 104) rfl))) (by decide) (backOf (W := 0) (rm20 l Z a0 hw [] a1 zcs h0 n0 Z0 S_COMPACT_STRINGS hCS F_coder_a1) hZ (hw _ (List.mem_of_getElem? (i := 106) rfl)) (hw _ (List.mem_of_getElem? (i := 40) rfl)) (by decide) (by decide)) q1a q1c (g := (mkF m 1 #[vr a1, vi (0 : Int32)] [(.ref a1)])) rfl (by rw [hml]; rfl) (Steps.refl _) (argsL := []) (rest := []) (lenOf pd_5 rfl) rfl (by show 2 * 0 + _ ≤ _; exact Nat.le_of_eq rfl) (hb hby d19_1) (fun _ _ => ⟨rfl, e0, (by decide : 0 + 0 ≤ _), (by decide : 0 + 0 ≤ _)⟩)
  dsimp only [Pt.U, Pt.locs, Pt.cells, Pt.slots] at X1 l1 y1 z1 st1 hQ1
  subst y1 z1
  obtain ⟨rfl, N1q, eq1⟩ := hQ1
  have N1 : Fr n0 L1 := by rw [l1]; exact Fr.app N0 N1q
  obtain ⟨T2, X2, e2, st2⟩ := getF X1 hx hZ hown (host := "") (Or.inl (hw _ (List.mem_of_getElem? (i := 55) rfl))) Via.refl eq1 F_value_a1 (g := (mkF m 8 #[vr a1, vi (0 : Int32)] [(.ref a1)])) rfl rfl (hb hby d19_8)
  obtain ⟨_, _, ⟨T3, L3, k3, n3⟩, -, X3, ⟨Lc3, hQ3, l3, y3, z3⟩, st3⟩ := Jvm.LawKit.callS X2 hx (y := (⟨"java/lang/StringLatin1", "charAt", "([BI)C"⟩ : MethodName)) hown (mvT hZ (hw _ (List.mem_of_getElem? (i := 107) rfl))) (mvT hZ (hw _ (List.mem_of_getElem? (i := 108) rfl))) (mvT hZ (hw _ (List.mem_of_getElem? (i := 109) rfl))) (mvT hZ (hw _ (List.mem_of_getElem? (i := 110) rfl))) (by decide) (backOf (W := 0) (rmcl1_0 l Z a0 hw [] tb fm kb g h0 n0 Z0 S_SIOOBE_FORMATTER hfm A_tb hok) hZ (hw _ (List.mem_of_getElem? (i := 110) rfl)) (hw _ (List.mem_of_getElem? (i := 109) rfl)) (by decide) (by decide)) (g := (mkF m 12 #[vr a1, vi (0 : Int32)] [(.int (0 : Int32)), (.ref tb)])) rfl (by rw [hml]; rfl) (argsL := [(.ref tb), (.int (0 : Int32))]) (rest := []) (lenOf pd_6 rfl) rfl (by show 2 * 0 + _ ≤ _; exact Nat.le_of_eq rfl) (hb hby d19_12) (fun _ _ => ⟨rfl, e2, (by decide : 0 + 0 ≤ _), (by decide : 0 + 0 ≤ _)⟩)
  dsimp only [Pt.U, Pt.locs, Pt.cells, Pt.slots] at X3 l3 y3 z3 st3 hQ3
  subst y3 z3
  obtain ⟨rfl, N3q, eq3⟩ := hQ3
  have N3 : Fr n0 L3 := by rw [l3]; exact Fr.app N1 N3q
  obtain ⟨fs, hr, hrun, hended, hW, hsame⟩ := X3.leave (v := some (.int ((g 0)).toUInt32.toUInt16.toUInt32.toInt32)) (fun h => by rw [Bd.returns] at h; cases h)
  refine ⟨_, _, ?_, hrun, hended, _, _, rfl, ?_, ⟨_, rfl⟩, hW, hsame.mono (by decide) (by decide)⟩
  · show Steps p.tables e below (s₁.setTop (mkF m 0 #[vr a1, vi (0 : Int32)] [])) _
    refine XS.aloadN X0.here hx rfl (hb hby d19_0) rfl rfl ?_
    refine st1.trans ?_
    refine XS.ifNo X1.here hx rfl (hb hby d19_4) rfl ((if0 _ _).trans (feq (by decide : ¬ ((1 : Int32) = (0 : Int32)))).1) ?_
    refine XS.aloadN X1.here hx rfl (hb hby d19_7) rfl rfl ?_
    refine st2 _ ?_
    refine XS.iloadN X2.here hx rfl (hb hby d19_11) rfl ?_
    show Steps p.tables e below (T2.setTop (mkF m 12 #[vr a1, vi (0 : Int32)] [(.int (0 : Int32)), (.ref tb)])) _
    refine st3 _ ?_
    exact retN X3 hx (t := .char) Bd.returns (by simp) (hb hby d19_15) hr
  · show Qca1_0 Z a1 zcs fm tb kb g h0 n0 _ T3.heap _
    exact ⟨(congrArg (fun z => some (Value.int z)) (own_u16 hok)), N3, eq3⟩
theorem ef_rmcl2_0 (m : MethodId) (a1 : Addr) : entryFrame m #[(.ref a1), (.int (0 : Int32))] 2 = mkF m 0 #[vr a1, vi (0 : Int32)] [] := by first | (simp [entryFrame, mkF, argsToLocals, Value.category]; done) | rfl
def Qcl2_0 (Z : State) (a1 : Addr) (fm : Value) (k : ClassId) (g : Nat → Int32) (h0 : Heap) (n0 : Nat) (v : Option Value) (h : Heap) (L : List Loc) : Prop := v = some (.int (g 0)) ∧ Fr n0 L ∧ h = h0
set_option maxRecDepth 65536 in
set_option maxHeartbeats 40000000 in
theorem rmcl2_0 (l : Launch) (Z : State) (a0 : Array Value) (hw : ∀ d ∈ tables_1, d.before a0 Z = true) (ws : List Jvm.Cond) (a1 : Addr) (fm : Value) (k : ClassId) (g : Nat → Int32) (h0 : Heap) (n0 : Nat) (Z0 : n0 ≤ h0.size) (S_SIOOBE_FORMATTER : Sta Z h0 "jdk/internal/util/Preconditions" "SIOOBE_FORMATTER" "Ljava/util/function/BiFunction;" fm) (hfm : fm.isRef = true) (A_a1 : AV Z h0 a1 k .byte 2 (fun i => Value.int (g i))) (hok : own_ok (g 0)) :
    MetFree l (⟨"java/lang/StringLatin1", "charAt", "([BI)C"⟩ : MethodName) (head1 (Jvm.Cond.code (⟨"java/lang/StringLatin1", "charAt", "([BI)C"⟩ : MethodName) jdk_43_method_2_code 2 (some .char) :: ws) ({ frames := 2, cells := 0, slots := 0, locals := 27 } : Room)) (fun a U => a = #[(.ref a1), (.int (0 : Int32))] ∧ Z.Warmed39 U.vm ∧ U.heap = h0) (fun _ _ _ _ _ => True) (fun _ U o U' => ∃ v L, o = .returned v ∧ Qcl2_0 Z a1 fm k g h0 n0 v U'.heap L ∧ FrameEnd U o U' L ({ frames := 2, cells := 0, slots := 0, locals := 27 } : Room).cells ({ frames := 2, cells := 0, slots := 0, locals := 27 } : Room).slots) := by
  refine MetFree.of_bodySF (plainFor_of_name pn_4) hisR ?_
  intro p e s m args below meth c s₁ Bd hml0 hP hK
  obtain ⟨rfl, hZ, hh⟩ := hP
  have hx := Bd.exec
  have hby := Bd.bytes
  have hml : c.maxLocals = 2 := hml0
  have hown : s.vm.findClass "java/lang/StringLatin1" = some m.cls := findClass_of_methodNamed Bd.named
  have hnm := (name_of_methodNamed Bd.named Bd.method).1
  have X0 : Stand p l e ({ frames := 2, cells := 0, slots := 0, locals := 27 } : Room) s m #[(.ref a1), (.int (0 : Int32))] below meth c s₁ [] 0 0 := Stand.of_body Bd
  have e0 : s₁.heap = h0 := by rw [← hh, Bd.state]; rfl
  have N0 := Fr.nil n0
  show GoalS p.tables e below s ({ frames := 2, cells := 0, slots := 0, locals := 27 } : Room).cells ({ frames := 2, cells := 0, slots := 0, locals := 27 } : Room).slots (Qcl2_0 Z a1 fm k g h0 n0) (s₁.setTop (entryFrame m #[(.ref a1), (.int (0 : Int32))] 2))
  refine GoalS.lift (B := s₁.setTop (mkF m 0 #[vr a1, vi (0 : Int32)] [])) (fun t k => castTop (ef_rmcl2_0 m a1) k) ?_
  have K0 : Keep h0 h0 [] := Keep.refl _ _
  obtain ⟨cl1, Ar1, -, sz1, -, -⟩ := id A_a1
  have le1 : cl1.slots.size.toInt32 = (2 : Int32) := by rw [sz1]; exact rfl
  obtain ⟨_, _, ⟨T2, L2, k2, n2⟩, -, X2, ⟨Lc2, hQ2, l2, y2, z2⟩, st2⟩ := Jvm.LawKit.callS X0 hx (y := (⟨"java/lang/String", "checkIndex", "(II)V"⟩ : MethodName)) hown (mvT hZ (hw _ (List.mem_of_getElem? (i := 111) rfl))) (mvT hZ (hw _ (List.mem_of_getElem? (i := 112) rfl))) (mvT hZ (hw _ (List.mem_of_getElem? (i := 40) rfl))) (mvT hZ (hw _ (List.mem_of_getElem? (i := 113) rfl))) (by decide) (backOf (W := 0) (rmci l Z a0 hw [] (0 : Int32) (2 : Int32) fm h0 n0 Z0 S_SIOOBE_FORMATTER hfm (by decide) (by decide)) hZ (hw _ (List.mem_of_getElem? (i := 113) rfl)) (hw _ (List.mem_of_getElem? (i := 40) rfl)) (by decide) (by decide)) (g := (mkF m 3 #[vr a1, vi (0 : Int32)] [(.int (2 : Int32)), (.int (0 : Int32))])) rfl (by rw [hml]; rfl) (argsL := [(.int (0 : Int32)), (.int (2 : Int32))]) (rest := []) (lenOf pd_4 rfl) rfl (by show 2 * 0 + _ ≤ _; exact Nat.le_of_eq rfl) (hb hby d21_3) (fun _ _ => ⟨rfl, e0, (by decide : 0 + 0 ≤ _), (by decide : 0 + 0 ≤ _)⟩)
  dsimp only [Pt.U, Pt.locs, Pt.cells, Pt.slots] at X2 l2 y2 z2 st2 hQ2
  subst y2 z2
  obtain ⟨rfl, N2q, eq2⟩ := hQ2
  have N2 : Fr n0 L2 := by rw [l2]; exact Fr.app N0 N2q
  obtain ⟨cl3, Ar3, kc3, sz3, -, hv3⟩ := id A_a1
  have hin3 : ¬ ((0 : Int32) < 0 ∨ cl3.slots.size ≤ ((0 : Int32)).toNatClampNeg) := AV.inb sz3 (show ¬ (0 : Int32) < 0 ∧ ((0 : Int32)).toNatClampNeg < 2 by decide)
  have hat3 : cl3.slots[((0 : Int32)).toNatClampNeg]? = some (.int (g 0)) := (hv3 _ (AV.inx (show ¬ (0 : Int32) < 0 ∧ ((0 : Int32)).toNatClampNeg < 2 by decide))).trans (congrArg some rfl)
  obtain ⟨fs, hr, hrun, hended, hW, hsame⟩ := X2.leave (v := some (.int (((((g 0) &&& (255 : Int32))).toUInt32.toUInt16.toUInt32.toInt32)).toUInt32.toUInt16.toUInt32.toInt32)) (fun h => by rw [Bd.returns] at h; cases h)
  refine ⟨_, _, ?_, hrun, hended, _, _, rfl, ?_, ⟨_, rfl⟩, hW, hsame.mono (by decide) (by decide)⟩
  · show Steps p.tables e below (s₁.setTop (mkF m 0 #[vr a1, vi (0 : Int32)] [])) _
    refine XS.iloadN X0.here hx rfl (hb hby d21_0) rfl ?_
    refine XS.aloadN X0.here hx rfl (hb hby d21_1) rfl rfl ?_
    refine X0.arraylength hx (by rw [e0]; exact Ar1.1) (State.isArrayOf_alike hZ.alike Ar1.2.1) (g := (mkF m 2 #[vr a1, vi (0 : Int32)] [(.ref a1), (.int (0 : Int32))])) rfl rfl (hb hby d21_2) _ ?_
    rw [le1]
    refine st2 _ ?_
    refine XS.aloadN X2.here hx rfl (hb hby d21_6) rfl rfl ?_
    show Steps p.tables e below (T2.setTop (mkF m 7 #[vr a1, vi (0 : Int32)] [(.ref a1)])) _
    refine XS.iloadN X2.here hx rfl (hb hby d21_7) rfl ?_
    refine X2.baloadBytes hx (j := (0 : Int32)) (v := (.int (g 0))) (by rw [eq2]; exact Ar3.1) (State.isArrayOf_alike hZ.alike Ar3.2.1) Ar3.2.2 hin3 hat3 (g := (mkF m 8 #[vr a1, vi (0 : Int32)] [(.int (0 : Int32)), (.ref a1)])) rfl rfl (hb hby d21_8) _ ?_
    refine XS.sipush X2.here hx rfl (hb hby d21_9) ?_
    refine XS.iand X2.here hx rfl (hb hby d21_12) rfl ?_
    refine XS.i2c X2.here hx rfl (hb hby d21_13) rfl ?_
    exact retN X2 hx (t := .char) Bd.returns (by simp) (hb hby d21_14) hr
  · show Qcl2_0 Z a1 fm k g h0 n0 _ T2.heap _
    exact ⟨(congrArg (fun z => some (Value.int z)) (own_ca hok)), N2, eq2⟩
theorem ef_rmca2_0 (m : MethodId) (a1 : Addr) : entryFrame m #[(.ref a1), (.int (0 : Int32))] 2 = mkF m 0 #[vr a1, vi (0 : Int32)] [] := by first | (simp [entryFrame, mkF, argsToLocals, Value.category]; done) | rfl
def Qca2_0 (Z : State) (a1 : Addr) (zcs : Int32) (fm : Value) (tb : Addr) (kb : ClassId) (g : Nat → Int32) (h0 : Heap) (n0 : Nat) (v : Option Value) (h : Heap) (L : List Loc) : Prop := v = some (.int (g 0)) ∧ Fr n0 L ∧ h = h0
set_option maxRecDepth 65536 in
set_option maxHeartbeats 40000000 in
theorem rmca2_0 (l : Launch) (Z : State) (a0 : Array Value) (hw : ∀ d ∈ tables_1, d.before a0 Z = true) (ws : List Jvm.Cond) (a1 : Addr) (zcs : Int32) (fm : Value) (tb : Addr) (kb : ClassId) (g : Nat → Int32) (h0 : Heap) (n0 : Nat) (Z0 : n0 ≤ h0.size) (S_COMPACT_STRINGS : Sta Z h0 "java/lang/String" "COMPACT_STRINGS" "Z" (.int zcs)) (hCS : ¬ zcs = 0) (S_SIOOBE_FORMATTER : Sta Z h0 "jdk/internal/util/Preconditions" "SIOOBE_FORMATTER" "Ljava/util/function/BiFunction;" fm) (hfm : fm.isRef = true) (E_a1 : Exa Z h0 a1 "java/lang/String") (F_value_a1 : Fld Z h0 a1 "java/lang/String" "value" "[B" (.ref tb)) (F_coder_a1 : Fld Z h0 a1 "java/lang/String" "coder" "B" (.int (0 : Int32))) (A_tb : AV Z h0 tb kb .byte 2 (fun i => Value.int (g i))) (hok : own_ok (g 0)) :
    MetFree l (⟨"java/lang/String", "charAt", "(I)C"⟩ : MethodName) (head1 (Jvm.Cond.code (⟨"java/lang/String", "charAt", "(I)C"⟩ : MethodName) jdk_42_method_56_code 2 (some .char) :: ws) ({ frames := 3, cells := 0, slots := 0, locals := 40 } : Room)) (fun a U => a = #[(.ref a1), (.int (0 : Int32))] ∧ Z.Warmed39 U.vm ∧ U.heap = h0) (fun _ _ _ _ _ => True) (fun _ U o U' => ∃ v L, o = .returned v ∧ Qca2_0 Z a1 zcs fm tb kb g h0 n0 v U'.heap L ∧ FrameEnd U o U' L ({ frames := 3, cells := 0, slots := 0, locals := 40 } : Room).cells ({ frames := 3, cells := 0, slots := 0, locals := 40 } : Room).slots) := by
  refine MetFree.of_bodySF (plainFor_of_name pn_3) hisR ?_
  intro p e s m args below meth c s₁ Bd hml0 hP hK
  obtain ⟨rfl, hZ, hh⟩ := hP
  have hx := Bd.exec
  have hby := Bd.bytes
  have hml : c.maxLocals = 2 := hml0
  have hown : s.vm.findClass "java/lang/String" = some m.cls := findClass_of_methodNamed Bd.named
  have hnm := (name_of_methodNamed Bd.named Bd.method).1
  have X0 : Stand p l e ({ frames := 3, cells := 0, slots := 0, locals := 40 } : Room) s m #[(.ref a1), (.int (0 : Int32))] below meth c s₁ [] 0 0 := Stand.of_body Bd
  have e0 : s₁.heap = h0 := by rw [← hh, Bd.state]; rfl
  have N0 := Fr.nil n0
  show GoalS p.tables e below s ({ frames := 3, cells := 0, slots := 0, locals := 40 } : Room).cells ({ frames := 3, cells := 0, slots := 0, locals := 40 } : Room).slots (Qca2_0 Z a1 zcs fm tb kb g h0 n0) (s₁.setTop (entryFrame m #[(.ref a1), (.int (0 : Int32))] 2))
  refine GoalS.lift (B := s₁.setTop (mkF m 0 #[vr a1, vi (0 : Int32)] [])) (fun t k => castTop (ef_rmca2_0 m a1) k) ?_
  have K0 : Keep h0 h0 [] := Keep.refl _ _
  obtain ⟨cq1, kq1, q1a, q1b, q1c⟩ := isOf hZ e0 E_a1
  obtain ⟨_, _, ⟨T1, L1, k1, n1⟩, -, X1, ⟨Lc1, hQ1, l1, y1, z1⟩, st1⟩ := X0.virtualBack hx (y := (⟨"java/lang/String", "isLatin1", "()Z"⟩ : MethodName)) (z := (⟨"java/lang/String", "isLatin1", "()Z"⟩ : MethodName)) hown (mvT hZ (hw _ (List.mem_of_getElem? (i := 102) rfl))) (mvT hZ (hw _ (List.mem_of_getElem? (i := 103) rfl))) (notFace_of_selects (args := #[]) (mvT hZ (hw _ (List.mem_of_getElem? (i := 105) rfl)))) (mvT hZ (hw _ (List.mem_of_getElem? (i := 105) rfl))) (mvT hZ (hw _ (List.mem_of_getElem? (i := 104) rfl))) (by decide) (backOf (W := 0) (rm20 l Z a0 hw [] a1 zcs h0 n0 Z0 S_COMPACT_STRINGS hCS F_coder_a1) hZ (hw _ (List.mem_of_getElem? (i := 106) rfl)) (hw _ (List.mem_of_getElem? (i := 40) rfl)) (by decide) (by decide)) q1a q1c (g := (mkF m 1 #[vr a1, vi (0 : Int32)] [(.ref a1)])) rfl (by rw [hml]; rfl) (Steps.refl _) (argsL := []) (rest := []) (lenOf pd_5 rfl) rfl (by show 2 * 0 + _ ≤ _; exact Nat.le_of_eq rfl) (hb hby d19_1) (fun _ _ => ⟨rfl, e0, (by decide : 0 + 0 ≤ _), (by decide : 0 + 0 ≤ _)⟩)
  dsimp only [Pt.U, Pt.locs, Pt.cells, Pt.slots] at X1 l1 y1 z1 st1 hQ1
  subst y1 z1
  obtain ⟨rfl, N1q, eq1⟩ := hQ1
  have N1 : Fr n0 L1 := by rw [l1]; exact Fr.app N0 N1q
  obtain ⟨T2, X2, e2, st2⟩ := getF X1 hx hZ hown (host := "") (Or.inl (hw _ (List.mem_of_getElem? (i := 55) rfl))) Via.refl eq1 F_value_a1 (g := (mkF m 8 #[vr a1, vi (0 : Int32)] [(.ref a1)])) rfl rfl (hb hby d19_8)
  obtain ⟨_, _, ⟨T3, L3, k3, n3⟩, -, X3, ⟨Lc3, hQ3, l3, y3, z3⟩, st3⟩ := Jvm.LawKit.callS X2 hx (y := (⟨"java/lang/StringLatin1", "charAt", "([BI)C"⟩ : MethodName)) hown (mvT hZ (hw _ (List.mem_of_getElem? (i := 107) rfl))) (mvT hZ (hw _ (List.mem_of_getElem? (i := 108) rfl))) (mvT hZ (hw _ (List.mem_of_getElem? (i := 109) rfl))) (mvT hZ (hw _ (List.mem_of_getElem? (i := 110) rfl))) (by decide) (backOf (W := 0) (rmcl2_0 l Z a0 hw [] tb fm kb g h0 n0 Z0 S_SIOOBE_FORMATTER hfm A_tb hok) hZ (hw _ (List.mem_of_getElem? (i := 110) rfl)) (hw _ (List.mem_of_getElem? (i := 109) rfl)) (by decide) (by decide)) (g := (mkF m 12 #[vr a1, vi (0 : Int32)] [(.int (0 : Int32)), (.ref tb)])) rfl (by rw [hml]; rfl) (argsL := [(.ref tb), (.int (0 : Int32))]) (rest := []) (lenOf pd_6 rfl) rfl (by show 2 * 0 + _ ≤ _; exact Nat.le_of_eq rfl) (hb hby d19_12) (fun _ _ => ⟨rfl, e2, (by decide : 0 + 0 ≤ _), (by decide : 0 + 0 ≤ _)⟩)
  dsimp only [Pt.U, Pt.locs, Pt.cells, Pt.slots] at X3 l3 y3 z3 st3 hQ3
  subst y3 z3
  obtain ⟨rfl, N3q, eq3⟩ := hQ3
  have N3 : Fr n0 L3 := by rw [l3]; exact Fr.app N1 N3q
  obtain ⟨fs, hr, hrun, hended, hW, hsame⟩ := X3.leave (v := some (.int ((g 0)).toUInt32.toUInt16.toUInt32.toInt32)) (fun h => by rw [Bd.returns] at h; cases h)
  refine ⟨_, _, ?_, hrun, hended, _, _, rfl, ?_, ⟨_, rfl⟩, hW, hsame.mono (by decide) (by decide)⟩
  · show Steps p.tables e below (s₁.setTop (mkF m 0 #[vr a1, vi (0 : Int32)] [])) _
    refine XS.aloadN X0.here hx rfl (hb hby d19_0) rfl rfl ?_
    refine st1.trans ?_
    refine XS.ifNo X1.here hx rfl (hb hby d19_4) rfl ((if0 _ _).trans (feq (by decide : ¬ ((1 : Int32) = (0 : Int32)))).1) ?_
    refine XS.aloadN X1.here hx rfl (hb hby d19_7) rfl rfl ?_
    refine st2 _ ?_
    refine XS.iloadN X2.here hx rfl (hb hby d19_11) rfl ?_
    show Steps p.tables e below (T2.setTop (mkF m 12 #[vr a1, vi (0 : Int32)] [(.int (0 : Int32)), (.ref tb)])) _
    refine st3 _ ?_
    exact retN X3 hx (t := .char) Bd.returns (by simp) (hb hby d19_15) hr
  · show Qca2_0 Z a1 zcs fm tb kb g h0 n0 _ T3.heap _
    exact ⟨(congrArg (fun z => some (Value.int z)) (own_u16 hok)), N3, eq3⟩
theorem ef_rmcl2_1 (m : MethodId) (a1 : Addr) : entryFrame m #[(.ref a1), (.int (1 : Int32))] 2 = mkF m 0 #[vr a1, vi (1 : Int32)] [] := by first | (simp [entryFrame, mkF, argsToLocals, Value.category]; done) | rfl
def Qcl2_1 (Z : State) (a1 : Addr) (fm : Value) (k : ClassId) (g : Nat → Int32) (h0 : Heap) (n0 : Nat) (v : Option Value) (h : Heap) (L : List Loc) : Prop := v = some (.int (g 1)) ∧ Fr n0 L ∧ h = h0
set_option maxRecDepth 65536 in
set_option maxHeartbeats 40000000 in
theorem rmcl2_1 (l : Launch) (Z : State) (a0 : Array Value) (hw : ∀ d ∈ tables_1, d.before a0 Z = true) (ws : List Jvm.Cond) (a1 : Addr) (fm : Value) (k : ClassId) (g : Nat → Int32) (h0 : Heap) (n0 : Nat) (Z0 : n0 ≤ h0.size) (S_SIOOBE_FORMATTER : Sta Z h0 "jdk/internal/util/Preconditions" "SIOOBE_FORMATTER" "Ljava/util/function/BiFunction;" fm) (hfm : fm.isRef = true) (A_a1 : AV Z h0 a1 k .byte 2 (fun i => Value.int (g i))) (hok : own_ok (g 1)) :
    MetFree l (⟨"java/lang/StringLatin1", "charAt", "([BI)C"⟩ : MethodName) (head1 (Jvm.Cond.code (⟨"java/lang/StringLatin1", "charAt", "([BI)C"⟩ : MethodName) jdk_43_method_2_code 2 (some .char) :: ws) ({ frames := 2, cells := 0, slots := 0, locals := 27 } : Room)) (fun a U => a = #[(.ref a1), (.int (1 : Int32))] ∧ Z.Warmed39 U.vm ∧ U.heap = h0) (fun _ _ _ _ _ => True) (fun _ U o U' => ∃ v L, o = .returned v ∧ Qcl2_1 Z a1 fm k g h0 n0 v U'.heap L ∧ FrameEnd U o U' L ({ frames := 2, cells := 0, slots := 0, locals := 27 } : Room).cells ({ frames := 2, cells := 0, slots := 0, locals := 27 } : Room).slots) := by
  refine MetFree.of_bodySF (plainFor_of_name pn_4) hisR ?_
  intro p e s m args below meth c s₁ Bd hml0 hP hK
  obtain ⟨rfl, hZ, hh⟩ := hP
  have hx := Bd.exec
  have hby := Bd.bytes
  have hml : c.maxLocals = 2 := hml0
  have hown : s.vm.findClass "java/lang/StringLatin1" = some m.cls := findClass_of_methodNamed Bd.named
  have hnm := (name_of_methodNamed Bd.named Bd.method).1
  have X0 : Stand p l e ({ frames := 2, cells := 0, slots := 0, locals := 27 } : Room) s m #[(.ref a1), (.int (1 : Int32))] below meth c s₁ [] 0 0 := Stand.of_body Bd
  have e0 : s₁.heap = h0 := by rw [← hh, Bd.state]; rfl
  have N0 := Fr.nil n0
  show GoalS p.tables e below s ({ frames := 2, cells := 0, slots := 0, locals := 27 } : Room).cells ({ frames := 2, cells := 0, slots := 0, locals := 27 } : Room).slots (Qcl2_1 Z a1 fm k g h0 n0) (s₁.setTop (entryFrame m #[(.ref a1), (.int (1 : Int32))] 2))
  refine GoalS.lift (B := s₁.setTop (mkF m 0 #[vr a1, vi (1 : Int32)] [])) (fun t k => castTop (ef_rmcl2_1 m a1) k) ?_
  have K0 : Keep h0 h0 [] := Keep.refl _ _
  obtain ⟨cl1, Ar1, -, sz1, -, -⟩ := id A_a1
  have le1 : cl1.slots.size.toInt32 = (2 : Int32) := by rw [sz1]; exact rfl
  obtain ⟨_, _, ⟨T2, L2, k2, n2⟩, -, X2, ⟨Lc2, hQ2, l2, y2, z2⟩, st2⟩ := Jvm.LawKit.callS X0 hx (y := (⟨"java/lang/String", "checkIndex", "(II)V"⟩ : MethodName)) hown (mvT hZ (hw _ (List.mem_of_getElem? (i := 111) rfl))) (mvT hZ (hw _ (List.mem_of_getElem? (i := 112) rfl))) (mvT hZ (hw _ (List.mem_of_getElem? (i := 40) rfl))) (mvT hZ (hw _ (List.mem_of_getElem? (i := 113) rfl))) (by decide) (backOf (W := 0) (rmci l Z a0 hw [] (1 : Int32) (2 : Int32) fm h0 n0 Z0 S_SIOOBE_FORMATTER hfm (by decide) (by decide)) hZ (hw _ (List.mem_of_getElem? (i := 113) rfl)) (hw _ (List.mem_of_getElem? (i := 40) rfl)) (by decide) (by decide)) (g := (mkF m 3 #[vr a1, vi (1 : Int32)] [(.int (2 : Int32)), (.int (1 : Int32))])) rfl (by rw [hml]; rfl) (argsL := [(.int (1 : Int32)), (.int (2 : Int32))]) (rest := []) (lenOf pd_4 rfl) rfl (by show 2 * 0 + _ ≤ _; exact Nat.le_of_eq rfl) (hb hby d21_3) (fun _ _ => ⟨rfl, e0, (by decide : 0 + 0 ≤ _), (by decide : 0 + 0 ≤ _)⟩)
  dsimp only [Pt.U, Pt.locs, Pt.cells, Pt.slots] at X2 l2 y2 z2 st2 hQ2
  subst y2 z2
  obtain ⟨rfl, N2q, eq2⟩ := hQ2
  have N2 : Fr n0 L2 := by rw [l2]; exact Fr.app N0 N2q
  obtain ⟨cl3, Ar3, kc3, sz3, -, hv3⟩ := id A_a1
  have hin3 : ¬ ((1 : Int32) < 0 ∨ cl3.slots.size ≤ ((1 : Int32)).toNatClampNeg) := AV.inb sz3 (show ¬ (1 : Int32) < 0 ∧ ((1 : Int32)).toNatClampNeg < 2 by decide)
  have hat3 : cl3.slots[((1 : Int32)).toNatClampNeg]? = some (.int (g 1)) := (hv3 _ (AV.inx (show ¬ (1 : Int32) < 0 ∧ ((1 : Int32)).toNatClampNeg < 2 by decide))).trans (congrArg some rfl)
  obtain ⟨fs, hr, hrun, hended, hW, hsame⟩ := X2.leave (v := some (.int (((((g 1) &&& (255 : Int32))).toUInt32.toUInt16.toUInt32.toInt32)).toUInt32.toUInt16.toUInt32.toInt32)) (fun h => by rw [Bd.returns] at h; cases h)
  refine ⟨_, _, ?_, hrun, hended, _, _, rfl, ?_, ⟨_, rfl⟩, hW, hsame.mono (by decide) (by decide)⟩
  · show Steps p.tables e below (s₁.setTop (mkF m 0 #[vr a1, vi (1 : Int32)] [])) _
    refine XS.iloadN X0.here hx rfl (hb hby d21_0) rfl ?_
    refine XS.aloadN X0.here hx rfl (hb hby d21_1) rfl rfl ?_
    refine X0.arraylength hx (by rw [e0]; exact Ar1.1) (State.isArrayOf_alike hZ.alike Ar1.2.1) (g := (mkF m 2 #[vr a1, vi (1 : Int32)] [(.ref a1), (.int (1 : Int32))])) rfl rfl (hb hby d21_2) _ ?_
    rw [le1]
    refine st2 _ ?_
    refine XS.aloadN X2.here hx rfl (hb hby d21_6) rfl rfl ?_
    show Steps p.tables e below (T2.setTop (mkF m 7 #[vr a1, vi (1 : Int32)] [(.ref a1)])) _
    refine XS.iloadN X2.here hx rfl (hb hby d21_7) rfl ?_
    refine X2.baloadBytes hx (j := (1 : Int32)) (v := (.int (g 1))) (by rw [eq2]; exact Ar3.1) (State.isArrayOf_alike hZ.alike Ar3.2.1) Ar3.2.2 hin3 hat3 (g := (mkF m 8 #[vr a1, vi (1 : Int32)] [(.int (1 : Int32)), (.ref a1)])) rfl rfl (hb hby d21_8) _ ?_
    refine XS.sipush X2.here hx rfl (hb hby d21_9) ?_
    refine XS.iand X2.here hx rfl (hb hby d21_12) rfl ?_
    refine XS.i2c X2.here hx rfl (hb hby d21_13) rfl ?_
    exact retN X2 hx (t := .char) Bd.returns (by simp) (hb hby d21_14) hr
  · show Qcl2_1 Z a1 fm k g h0 n0 _ T2.heap _
    exact ⟨(congrArg (fun z => some (Value.int z)) (own_ca hok)), N2, eq2⟩
theorem ef_rmca2_1 (m : MethodId) (a1 : Addr) : entryFrame m #[(.ref a1), (.int (1 : Int32))] 2 = mkF m 0 #[vr a1, vi (1 : Int32)] [] := by first | (simp [entryFrame, mkF, argsToLocals, Value.category]; done) | rfl
def Qca2_1 (Z : State) (a1 : Addr) (zcs : Int32) (fm : Value) (tb : Addr) (kb : ClassId) (g : Nat → Int32) (h0 : Heap) (n0 : Nat) (v : Option Value) (h : Heap) (L : List Loc) : Prop := v = some (.int (g 1)) ∧ Fr n0 L ∧ h = h0
set_option maxRecDepth 65536 in
set_option maxHeartbeats 40000000 in
theorem rmca2_1 (l : Launch) (Z : State) (a0 : Array Value) (hw : ∀ d ∈ tables_1, d.before a0 Z = true) (ws : List Jvm.Cond) (a1 : Addr) (zcs : Int32) (fm : Value) (tb : Addr) (kb : ClassId) (g : Nat → Int32) (h0 : Heap) (n0 : Nat) (Z0 : n0 ≤ h0.size) (S_COMPACT_STRINGS : Sta Z h0 "java/lang/String" "COMPACT_STRINGS" "Z" (.int zcs)) (hCS : ¬ zcs = 0) (S_SIOOBE_FORMATTER : Sta Z h0 "jdk/internal/util/Preconditions" "SIOOBE_FORMATTER" "Ljava/util/function/BiFunction;" fm) (hfm : fm.isRef = true) (E_a1 : Exa Z h0 a1 "java/lang/String") (F_value_a1 : Fld Z h0 a1 "java/lang/String" "value" "[B" (.ref tb)) (F_coder_a1 : Fld Z h0 a1 "java/lang/String" "coder" "B" (.int (0 : Int32))) (A_tb : AV Z h0 tb kb .byte 2 (fun i => Value.int (g i))) (hok : own_ok (g 1)) :
    MetFree l (⟨"java/lang/String", "charAt", "(I)C"⟩ : MethodName) (head1 (Jvm.Cond.code (⟨"java/lang/String", "charAt", "(I)C"⟩ : MethodName) jdk_42_method_56_code 2 (some .char) :: ws) ({ frames := 3, cells := 0, slots := 0, locals := 40 } : Room)) (fun a U => a = #[(.ref a1), (.int (1 : Int32))] ∧ Z.Warmed39 U.vm ∧ U.heap = h0) (fun _ _ _ _ _ => True) (fun _ U o U' => ∃ v L, o = .returned v ∧ Qca2_1 Z a1 zcs fm tb kb g h0 n0 v U'.heap L ∧ FrameEnd U o U' L ({ frames := 3, cells := 0, slots := 0, locals := 40 } : Room).cells ({ frames := 3, cells := 0, slots := 0, locals := 40 } : Room).slots) := by
  refine MetFree.of_bodySF (plainFor_of_name pn_3) hisR ?_
  intro p e s m args below meth c s₁ Bd hml0 hP hK
  obtain ⟨rfl, hZ, hh⟩ := hP
  have hx := Bd.exec
  have hby := Bd.bytes
  have hml : c.maxLocals = 2 := hml0
  have hown : s.vm.findClass "java/lang/String" = some m.cls := findClass_of_methodNamed Bd.named
  have hnm := (name_of_methodNamed Bd.named Bd.method).1
  have X0 : Stand p l e ({ frames := 3, cells := 0, slots := 0, locals := 40 } : Room) s m #[(.ref a1), (.int (1 : Int32))] below meth c s₁ [] 0 0 := Stand.of_body Bd
  have e0 : s₁.heap = h0 := by rw [← hh, Bd.state]; rfl
  have N0 := Fr.nil n0
  show GoalS p.tables e below s ({ frames := 3, cells := 0, slots := 0, locals := 40 } : Room).cells ({ frames := 3, cells := 0, slots := 0, locals := 40 } : Room).slots (Qca2_1 Z a1 zcs fm tb kb g h0 n0) (s₁.setTop (entryFrame m #[(.ref a1), (.int (1 : Int32))] 2))
  refine GoalS.lift (B := s₁.setTop (mkF m 0 #[vr a1, vi (1 : Int32)] [])) (fun t k => castTop (ef_rmca2_1 m a1) k) ?_
  have K0 : Keep h0 h0 [] := Keep.refl _ _
  obtain ⟨cq1, kq1, q1a, q1b, q1c⟩ := isOf hZ e0 E_a1
  obtain ⟨_, _, ⟨T1, L1, k1, n1⟩, -, X1, ⟨Lc1, hQ1, l1, y1, z1⟩, st1⟩ := X0.virtualBack hx (y := (⟨"java/lang/String", "isLatin1", "()Z"⟩ : MethodName)) (z := (⟨"java/lang/String", "isLatin1", "()Z"⟩ : MethodName)) hown (mvT hZ (hw _ (List.mem_of_getElem? (i := 102) rfl))) (mvT hZ (hw _ (List.mem_of_getElem? (i := 103) rfl))) (notFace_of_selects (args := #[]) (mvT hZ (hw _ (List.mem_of_getElem? (i := 105) rfl)))) (mvT hZ (hw _ (List.mem_of_getElem? (i := 105) rfl))) (mvT hZ (hw _ (List.mem_of_getElem? (i := 104) rfl))) (by decide) (backOf (W := 0) (rm20 l Z a0 hw [] a1 zcs h0 n0 Z0 S_COMPACT_STRINGS hCS F_coder_a1) hZ (hw _ (List.mem_of_getElem? (i := 106) rfl)) (hw _ (List.mem_of_getElem? (i := 40) rfl)) (by decide) (by decide)) q1a q1c (g := (mkF m 1 #[vr a1, vi (1 : Int32)] [(.ref a1)])) rfl (by rw [hml]; rfl) (Steps.refl _) (argsL := []) (rest := []) (lenOf pd_5 rfl) rfl (by show 2 * 0 + _ ≤ _; exact Nat.le_of_eq rfl) (hb hby d19_1) (fun _ _ => ⟨rfl, e0, (by decide : 0 + 0 ≤ _), (by decide : 0 + 0 ≤ _)⟩)
  dsimp only [Pt.U, Pt.locs, Pt.cells, Pt.slots] at X1 l1 y1 z1 st1 hQ1
  subst y1 z1
  obtain ⟨rfl, N1q, eq1⟩ := hQ1
  have N1 : Fr n0 L1 := by rw [l1]; exact Fr.app N0 N1q
  obtain ⟨T2, X2, e2, st2⟩ := getF X1 hx hZ hown (host := "") (Or.inl (hw _ (List.mem_of_getElem? (i := 55) rfl))) Via.refl eq1 F_value_a1 (g := (mkF m 8 #[vr a1, vi (1 : Int32)] [(.ref a1)])) rfl rfl (hb hby d19_8)
  obtain ⟨_, _, ⟨T3, L3, k3, n3⟩, -, X3, ⟨Lc3, hQ3, l3, y3, z3⟩, st3⟩ := Jvm.LawKit.callS X2 hx (y := (⟨"java/lang/StringLatin1", "charAt", "([BI)C"⟩ : MethodName)) hown (mvT hZ (hw _ (List.mem_of_getElem? (i := 107) rfl))) (mvT hZ (hw _ (List.mem_of_getElem? (i := 108) rfl))) (mvT hZ (hw _ (List.mem_of_getElem? (i := 109) rfl))) (mvT hZ (hw _ (List.mem_of_getElem? (i := 110) rfl))) (by decide) (backOf (W := 0) (rmcl2_1 l Z a0 hw [] tb fm kb g h0 n0 Z0 S_SIOOBE_FORMATTER hfm A_tb hok) hZ (hw _ (List.mem_of_getElem? (i := 110) rfl)) (hw _ (List.mem_of_getElem? (i := 109) rfl)) (by decide) (by decide)) (g := (mkF m 12 #[vr a1, vi (1 : Int32)] [(.int (1 : Int32)), (.ref tb)])) rfl (by rw [hml]; rfl) (argsL := [(.ref tb), (.int (1 : Int32))]) (rest := []) (lenOf pd_6 rfl) rfl (by show 2 * 0 + _ ≤ _; exact Nat.le_of_eq rfl) (hb hby d19_12) (fun _ _ => ⟨rfl, e2, (by decide : 0 + 0 ≤ _), (by decide : 0 + 0 ≤ _)⟩)
  dsimp only [Pt.U, Pt.locs, Pt.cells, Pt.slots] at X3 l3 y3 z3 st3 hQ3
  subst y3 z3
  obtain ⟨rfl, N3q, eq3⟩ := hQ3
  have N3 : Fr n0 L3 := by rw [l3]; exact Fr.app N1 N3q
  obtain ⟨fs, hr, hrun, hended, hW, hsame⟩ := X3.leave (v := some (.int ((g 1)).toUInt32.toUInt16.toUInt32.toInt32)) (fun h => by rw [Bd.returns] at h; cases h)
  refine ⟨_, _, ?_, hrun, hended, _, _, rfl, ?_, ⟨_, rfl⟩, hW, hsame.mono (by decide) (by decide)⟩
  · show Steps p.tables e below (s₁.setTop (mkF m 0 #[vr a1, vi (1 : Int32)] [])) _
    refine XS.aloadN X0.here hx rfl (hb hby d19_0) rfl rfl ?_
    refine st1.trans ?_
    refine XS.ifNo X1.here hx rfl (hb hby d19_4) rfl ((if0 _ _).trans (feq (by decide : ¬ ((1 : Int32) = (0 : Int32)))).1) ?_
    refine XS.aloadN X1.here hx rfl (hb hby d19_7) rfl rfl ?_
    refine st2 _ ?_
    refine XS.iloadN X2.here hx rfl (hb hby d19_11) rfl ?_
    show Steps p.tables e below (T2.setTop (mkF m 12 #[vr a1, vi (1 : Int32)] [(.int (1 : Int32)), (.ref tb)])) _
    refine st3 _ ?_
    exact retN X3 hx (t := .char) Bd.returns (by simp) (hb hby d19_15) hr
  · show Qca2_1 Z a1 zcs fm tb kb g h0 n0 _ T3.heap _
    exact ⟨(congrArg (fun z => some (Value.int z)) (own_u16 hok)), N3, eq3⟩
theorem ef_rmcl3_0 (m : MethodId) (a1 : Addr) : entryFrame m #[(.ref a1), (.int (0 : Int32))] 2 = mkF m 0 #[vr a1, vi (0 : Int32)] [] := by first | (simp [entryFrame, mkF, argsToLocals, Value.category]; done) | rfl
def Qcl3_0 (Z : State) (a1 : Addr) (fm : Value) (k : ClassId) (g : Nat → Int32) (h0 : Heap) (n0 : Nat) (v : Option Value) (h : Heap) (L : List Loc) : Prop := v = some (.int (g 0)) ∧ Fr n0 L ∧ h = h0
set_option maxRecDepth 65536 in
set_option maxHeartbeats 40000000 in
theorem rmcl3_0 (l : Launch) (Z : State) (a0 : Array Value) (hw : ∀ d ∈ tables_1, d.before a0 Z = true) (ws : List Jvm.Cond) (a1 : Addr) (fm : Value) (k : ClassId) (g : Nat → Int32) (h0 : Heap) (n0 : Nat) (Z0 : n0 ≤ h0.size) (S_SIOOBE_FORMATTER : Sta Z h0 "jdk/internal/util/Preconditions" "SIOOBE_FORMATTER" "Ljava/util/function/BiFunction;" fm) (hfm : fm.isRef = true) (A_a1 : AV Z h0 a1 k .byte 3 (fun i => Value.int (g i))) (hok : own_ok (g 0)) :
    MetFree l (⟨"java/lang/StringLatin1", "charAt", "([BI)C"⟩ : MethodName) (head1 (Jvm.Cond.code (⟨"java/lang/StringLatin1", "charAt", "([BI)C"⟩ : MethodName) jdk_43_method_2_code 2 (some .char) :: ws) ({ frames := 2, cells := 0, slots := 0, locals := 27 } : Room)) (fun a U => a = #[(.ref a1), (.int (0 : Int32))] ∧ Z.Warmed39 U.vm ∧ U.heap = h0) (fun _ _ _ _ _ => True) (fun _ U o U' => ∃ v L, o = .returned v ∧ Qcl3_0 Z a1 fm k g h0 n0 v U'.heap L ∧ FrameEnd U o U' L ({ frames := 2, cells := 0, slots := 0, locals := 27 } : Room).cells ({ frames := 2, cells := 0, slots := 0, locals := 27 } : Room).slots) := by
  refine MetFree.of_bodySF (plainFor_of_name pn_4) hisR ?_
  intro p e s m args below meth c s₁ Bd hml0 hP hK
  obtain ⟨rfl, hZ, hh⟩ := hP
  have hx := Bd.exec
  have hby := Bd.bytes
  have hml : c.maxLocals = 2 := hml0
  have hown : s.vm.findClass "java/lang/StringLatin1" = some m.cls := findClass_of_methodNamed Bd.named
  have hnm := (name_of_methodNamed Bd.named Bd.method).1
  have X0 : Stand p l e ({ frames := 2, cells := 0, slots := 0, locals := 27 } : Room) s m #[(.ref a1), (.int (0 : Int32))] below meth c s₁ [] 0 0 := Stand.of_body Bd
  have e0 : s₁.heap = h0 := by rw [← hh, Bd.state]; rfl
  have N0 := Fr.nil n0
  show GoalS p.tables e below s ({ frames := 2, cells := 0, slots := 0, locals := 27 } : Room).cells ({ frames := 2, cells := 0, slots := 0, locals := 27 } : Room).slots (Qcl3_0 Z a1 fm k g h0 n0) (s₁.setTop (entryFrame m #[(.ref a1), (.int (0 : Int32))] 2))
  refine GoalS.lift (B := s₁.setTop (mkF m 0 #[vr a1, vi (0 : Int32)] [])) (fun t k => castTop (ef_rmcl3_0 m a1) k) ?_
  have K0 : Keep h0 h0 [] := Keep.refl _ _
  obtain ⟨cl1, Ar1, -, sz1, -, -⟩ := id A_a1
  have le1 : cl1.slots.size.toInt32 = (3 : Int32) := by rw [sz1]; exact rfl
  obtain ⟨_, _, ⟨T2, L2, k2, n2⟩, -, X2, ⟨Lc2, hQ2, l2, y2, z2⟩, st2⟩ := Jvm.LawKit.callS X0 hx (y := (⟨"java/lang/String", "checkIndex", "(II)V"⟩ : MethodName)) hown (mvT hZ (hw _ (List.mem_of_getElem? (i := 111) rfl))) (mvT hZ (hw _ (List.mem_of_getElem? (i := 112) rfl))) (mvT hZ (hw _ (List.mem_of_getElem? (i := 40) rfl))) (mvT hZ (hw _ (List.mem_of_getElem? (i := 113) rfl))) (by decide) (backOf (W := 0) (rmci l Z a0 hw [] (0 : Int32) (3 : Int32) fm h0 n0 Z0 S_SIOOBE_FORMATTER hfm (by decide) (by decide)) hZ (hw _ (List.mem_of_getElem? (i := 113) rfl)) (hw _ (List.mem_of_getElem? (i := 40) rfl)) (by decide) (by decide)) (g := (mkF m 3 #[vr a1, vi (0 : Int32)] [(.int (3 : Int32)), (.int (0 : Int32))])) rfl (by rw [hml]; rfl) (argsL := [(.int (0 : Int32)), (.int (3 : Int32))]) (rest := []) (lenOf pd_4 rfl) rfl (by show 2 * 0 + _ ≤ _; exact Nat.le_of_eq rfl) (hb hby d21_3) (fun _ _ => ⟨rfl, e0, (by decide : 0 + 0 ≤ _), (by decide : 0 + 0 ≤ _)⟩)
  dsimp only [Pt.U, Pt.locs, Pt.cells, Pt.slots] at X2 l2 y2 z2 st2 hQ2
  subst y2 z2
  obtain ⟨rfl, N2q, eq2⟩ := hQ2
  have N2 : Fr n0 L2 := by rw [l2]; exact Fr.app N0 N2q
  obtain ⟨cl3, Ar3, kc3, sz3, -, hv3⟩ := id A_a1
  have hin3 : ¬ ((0 : Int32) < 0 ∨ cl3.slots.size ≤ ((0 : Int32)).toNatClampNeg) := AV.inb sz3 (show ¬ (0 : Int32) < 0 ∧ ((0 : Int32)).toNatClampNeg < 3 by decide)
  have hat3 : cl3.slots[((0 : Int32)).toNatClampNeg]? = some (.int (g 0)) := (hv3 _ (AV.inx (show ¬ (0 : Int32) < 0 ∧ ((0 : Int32)).toNatClampNeg < 3 by decide))).trans (congrArg some rfl)
  obtain ⟨fs, hr, hrun, hended, hW, hsame⟩ := X2.leave (v := some (.int (((((g 0) &&& (255 : Int32))).toUInt32.toUInt16.toUInt32.toInt32)).toUInt32.toUInt16.toUInt32.toInt32)) (fun h => by rw [Bd.returns] at h; cases h)
  refine ⟨_, _, ?_, hrun, hended, _, _, rfl, ?_, ⟨_, rfl⟩, hW, hsame.mono (by decide) (by decide)⟩
  · show Steps p.tables e below (s₁.setTop (mkF m 0 #[vr a1, vi (0 : Int32)] [])) _
    refine XS.iloadN X0.here hx rfl (hb hby d21_0) rfl ?_
    refine XS.aloadN X0.here hx rfl (hb hby d21_1) rfl rfl ?_
    refine X0.arraylength hx (by rw [e0]; exact Ar1.1) (State.isArrayOf_alike hZ.alike Ar1.2.1) (g := (mkF m 2 #[vr a1, vi (0 : Int32)] [(.ref a1), (.int (0 : Int32))])) rfl rfl (hb hby d21_2) _ ?_
    rw [le1]
    refine st2 _ ?_
    refine XS.aloadN X2.here hx rfl (hb hby d21_6) rfl rfl ?_
    show Steps p.tables e below (T2.setTop (mkF m 7 #[vr a1, vi (0 : Int32)] [(.ref a1)])) _
    refine XS.iloadN X2.here hx rfl (hb hby d21_7) rfl ?_
    refine X2.baloadBytes hx (j := (0 : Int32)) (v := (.int (g 0))) (by rw [eq2]; exact Ar3.1) (State.isArrayOf_alike hZ.alike Ar3.2.1) Ar3.2.2 hin3 hat3 (g := (mkF m 8 #[vr a1, vi (0 : Int32)] [(.int (0 : Int32)), (.ref a1)])) rfl rfl (hb hby d21_8) _ ?_
    refine XS.sipush X2.here hx rfl (hb hby d21_9) ?_
    refine XS.iand X2.here hx rfl (hb hby d21_12) rfl ?_
    refine XS.i2c X2.here hx rfl (hb hby d21_13) rfl ?_
    exact retN X2 hx (t := .char) Bd.returns (by simp) (hb hby d21_14) hr
  · show Qcl3_0 Z a1 fm k g h0 n0 _ T2.heap _
    exact ⟨(congrArg (fun z => some (Value.int z)) (own_ca hok)), N2, eq2⟩
theorem ef_rmca3_0 (m : MethodId) (a1 : Addr) : entryFrame m #[(.ref a1), (.int (0 : Int32))] 2 = mkF m 0 #[vr a1, vi (0 : Int32)] [] := by first | (simp [entryFrame, mkF, argsToLocals, Value.category]; done) | rfl
def Qca3_0 (Z : State) (a1 : Addr) (zcs : Int32) (fm : Value) (tb : Addr) (kb : ClassId) (g : Nat → Int32) (h0 : Heap) (n0 : Nat) (v : Option Value) (h : Heap) (L : List Loc) : Prop := v = some (.int (g 0)) ∧ Fr n0 L ∧ h = h0
set_option maxRecDepth 65536 in
set_option maxHeartbeats 40000000 in
theorem rmca3_0 (l : Launch) (Z : State) (a0 : Array Value) (hw : ∀ d ∈ tables_1, d.before a0 Z = true) (ws : List Jvm.Cond) (a1 : Addr) (zcs : Int32) (fm : Value) (tb : Addr) (kb : ClassId) (g : Nat → Int32) (h0 : Heap) (n0 : Nat) (Z0 : n0 ≤ h0.size) (S_COMPACT_STRINGS : Sta Z h0 "java/lang/String" "COMPACT_STRINGS" "Z" (.int zcs)) (hCS : ¬ zcs = 0) (S_SIOOBE_FORMATTER : Sta Z h0 "jdk/internal/util/Preconditions" "SIOOBE_FORMATTER" "Ljava/util/function/BiFunction;" fm) (hfm : fm.isRef = true) (E_a1 : Exa Z h0 a1 "java/lang/String") (F_value_a1 : Fld Z h0 a1 "java/lang/String" "value" "[B" (.ref tb)) (F_coder_a1 : Fld Z h0 a1 "java/lang/String" "coder" "B" (.int (0 : Int32))) (A_tb : AV Z h0 tb kb .byte 3 (fun i => Value.int (g i))) (hok : own_ok (g 0)) :
    MetFree l (⟨"java/lang/String", "charAt", "(I)C"⟩ : MethodName) (head1 (Jvm.Cond.code (⟨"java/lang/String", "charAt", "(I)C"⟩ : MethodName) jdk_42_method_56_code 2 (some .char) :: ws) ({ frames := 3, cells := 0, slots := 0, locals := 40 } : Room)) (fun a U => a = #[(.ref a1), (.int (0 : Int32))] ∧ Z.Warmed39 U.vm ∧ U.heap = h0) (fun _ _ _ _ _ => True) (fun _ U o U' => ∃ v L, o = .returned v ∧ Qca3_0 Z a1 zcs fm tb kb g h0 n0 v U'.heap L ∧ FrameEnd U o U' L ({ frames := 3, cells := 0, slots := 0, locals := 40 } : Room).cells ({ frames := 3, cells := 0, slots := 0, locals := 40 } : Room).slots) := by
  refine MetFree.of_bodySF (plainFor_of_name pn_3) hisR ?_
  intro p e s m args below meth c s₁ Bd hml0 hP hK
  obtain ⟨rfl, hZ, hh⟩ := hP
  have hx := Bd.exec
  have hby := Bd.bytes
  have hml : c.maxLocals = 2 := hml0
  have hown : s.vm.findClass "java/lang/String" = some m.cls := findClass_of_methodNamed Bd.named
  have hnm := (name_of_methodNamed Bd.named Bd.method).1
  have X0 : Stand p l e ({ frames := 3, cells := 0, slots := 0, locals := 40 } : Room) s m #[(.ref a1), (.int (0 : Int32))] below meth c s₁ [] 0 0 := Stand.of_body Bd
  have e0 : s₁.heap = h0 := by rw [← hh, Bd.state]; rfl
  have N0 := Fr.nil n0
  show GoalS p.tables e below s ({ frames := 3, cells := 0, slots := 0, locals := 40 } : Room).cells ({ frames := 3, cells := 0, slots := 0, locals := 40 } : Room).slots (Qca3_0 Z a1 zcs fm tb kb g h0 n0) (s₁.setTop (entryFrame m #[(.ref a1), (.int (0 : Int32))] 2))
  refine GoalS.lift (B := s₁.setTop (mkF m 0 #[vr a1, vi (0 : Int32)] [])) (fun t k => castTop (ef_rmca3_0 m a1) k) ?_
  have K0 : Keep h0 h0 [] := Keep.refl _ _
  obtain ⟨cq1, kq1, q1a, q1b, q1c⟩ := isOf hZ e0 E_a1
  obtain ⟨_, _, ⟨T1, L1, k1, n1⟩, -, X1, ⟨Lc1, hQ1, l1, y1, z1⟩, st1⟩ := X0.virtualBack hx (y := (⟨"java/lang/String", "isLatin1", "()Z"⟩ : MethodName)) (z := (⟨"java/lang/String", "isLatin1", "()Z"⟩ : MethodName)) hown (mvT hZ (hw _ (List.mem_of_getElem? (i := 102) rfl))) (mvT hZ (hw _ (List.mem_of_getElem? (i := 103) rfl))) (notFace_of_selects (args := #[]) (mvT hZ (hw _ (List.mem_of_getElem? (i := 105) rfl)))) (mvT hZ (hw _ (List.mem_of_getElem? (i := 105) rfl))) (mvT hZ (hw _ (List.mem_of_getElem? (i := 104) rfl))) (by decide) (backOf (W := 0) (rm20 l Z a0 hw [] a1 zcs h0 n0 Z0 S_COMPACT_STRINGS hCS F_coder_a1) hZ (hw _ (List.mem_of_getElem? (i := 106) rfl)) (hw _ (List.mem_of_getElem? (i := 40) rfl)) (by decide) (by decide)) q1a q1c (g := (mkF m 1 #[vr a1, vi (0 : Int32)] [(.ref a1)])) rfl (by rw [hml]; rfl) (Steps.refl _) (argsL := []) (rest := []) (lenOf pd_5 rfl) rfl (by show 2 * 0 + _ ≤ _; exact Nat.le_of_eq rfl) (hb hby d19_1) (fun _ _ => ⟨rfl, e0, (by decide : 0 + 0 ≤ _), (by decide : 0 + 0 ≤ _)⟩)
  dsimp only [Pt.U, Pt.locs, Pt.cells, Pt.slots] at X1 l1 y1 z1 st1 hQ1
  subst y1 z1
  obtain ⟨rfl, N1q, eq1⟩ := hQ1
  have N1 : Fr n0 L1 := by rw [l1]; exact Fr.app N0 N1q
  obtain ⟨T2, X2, e2, st2⟩ := getF X1 hx hZ hown (host := "") (Or.inl (hw _ (List.mem_of_getElem? (i := 55) rfl))) Via.refl eq1 F_value_a1 (g := (mkF m 8 #[vr a1, vi (0 : Int32)] [(.ref a1)])) rfl rfl (hb hby d19_8)
  obtain ⟨_, _, ⟨T3, L3, k3, n3⟩, -, X3, ⟨Lc3, hQ3, l3, y3, z3⟩, st3⟩ := Jvm.LawKit.callS X2 hx (y := (⟨"java/lang/StringLatin1", "charAt", "([BI)C"⟩ : MethodName)) hown (mvT hZ (hw _ (List.mem_of_getElem? (i := 107) rfl))) (mvT hZ (hw _ (List.mem_of_getElem? (i := 108) rfl))) (mvT hZ (hw _ (List.mem_of_getElem? (i := 109) rfl))) (mvT hZ (hw _ (List.mem_of_getElem? (i := 110) rfl))) (by decide) (backOf (W := 0) (rmcl3_0 l Z a0 hw [] tb fm kb g h0 n0 Z0 S_SIOOBE_FORMATTER hfm A_tb hok) hZ (hw _ (List.mem_of_getElem? (i := 110) rfl)) (hw _ (List.mem_of_getElem? (i := 109) rfl)) (by decide) (by decide)) (g := (mkF m 12 #[vr a1, vi (0 : Int32)] [(.int (0 : Int32)), (.ref tb)])) rfl (by rw [hml]; rfl) (argsL := [(.ref tb), (.int (0 : Int32))]) (rest := []) (lenOf pd_6 rfl) rfl (by show 2 * 0 + _ ≤ _; exact Nat.le_of_eq rfl) (hb hby d19_12) (fun _ _ => ⟨rfl, e2, (by decide : 0 + 0 ≤ _), (by decide : 0 + 0 ≤ _)⟩)
  dsimp only [Pt.U, Pt.locs, Pt.cells, Pt.slots] at X3 l3 y3 z3 st3 hQ3
  subst y3 z3
  obtain ⟨rfl, N3q, eq3⟩ := hQ3
  have N3 : Fr n0 L3 := by rw [l3]; exact Fr.app N1 N3q
  obtain ⟨fs, hr, hrun, hended, hW, hsame⟩ := X3.leave (v := some (.int ((g 0)).toUInt32.toUInt16.toUInt32.toInt32)) (fun h => by rw [Bd.returns] at h; cases h)
  refine ⟨_, _, ?_, hrun, hended, _, _, rfl, ?_, ⟨_, rfl⟩, hW, hsame.mono (by decide) (by decide)⟩
  · show Steps p.tables e below (s₁.setTop (mkF m 0 #[vr a1, vi (0 : Int32)] [])) _
    refine XS.aloadN X0.here hx rfl (hb hby d19_0) rfl rfl ?_
    refine st1.trans ?_
    refine XS.ifNo X1.here hx rfl (hb hby d19_4) rfl ((if0 _ _).trans (feq (by decide : ¬ ((1 : Int32) = (0 : Int32)))).1) ?_
    refine XS.aloadN X1.here hx rfl (hb hby d19_7) rfl rfl ?_
    refine st2 _ ?_
    refine XS.iloadN X2.here hx rfl (hb hby d19_11) rfl ?_
    show Steps p.tables e below (T2.setTop (mkF m 12 #[vr a1, vi (0 : Int32)] [(.int (0 : Int32)), (.ref tb)])) _
    refine st3 _ ?_
    exact retN X3 hx (t := .char) Bd.returns (by simp) (hb hby d19_15) hr
  · show Qca3_0 Z a1 zcs fm tb kb g h0 n0 _ T3.heap _
    exact ⟨(congrArg (fun z => some (Value.int z)) (own_u16 hok)), N3, eq3⟩
theorem ef_rmcl3_1 (m : MethodId) (a1 : Addr) : entryFrame m #[(.ref a1), (.int (1 : Int32))] 2 = mkF m 0 #[vr a1, vi (1 : Int32)] [] := by first | (simp [entryFrame, mkF, argsToLocals, Value.category]; done) | rfl
def Qcl3_1 (Z : State) (a1 : Addr) (fm : Value) (k : ClassId) (g : Nat → Int32) (h0 : Heap) (n0 : Nat) (v : Option Value) (h : Heap) (L : List Loc) : Prop := v = some (.int (g 1)) ∧ Fr n0 L ∧ h = h0
set_option maxRecDepth 65536 in
set_option maxHeartbeats 40000000 in
theorem rmcl3_1 (l : Launch) (Z : State) (a0 : Array Value) (hw : ∀ d ∈ tables_1, d.before a0 Z = true) (ws : List Jvm.Cond) (a1 : Addr) (fm : Value) (k : ClassId) (g : Nat → Int32) (h0 : Heap) (n0 : Nat) (Z0 : n0 ≤ h0.size) (S_SIOOBE_FORMATTER : Sta Z h0 "jdk/internal/util/Preconditions" "SIOOBE_FORMATTER" "Ljava/util/function/BiFunction;" fm) (hfm : fm.isRef = true) (A_a1 : AV Z h0 a1 k .byte 3 (fun i => Value.int (g i))) (hok : own_ok (g 1)) :
    MetFree l (⟨"java/lang/StringLatin1", "charAt", "([BI)C"⟩ : MethodName) (head1 (Jvm.Cond.code (⟨"java/lang/StringLatin1", "charAt", "([BI)C"⟩ : MethodName) jdk_43_method_2_code 2 (some .char) :: ws) ({ frames := 2, cells := 0, slots := 0, locals := 27 } : Room)) (fun a U => a = #[(.ref a1), (.int (1 : Int32))] ∧ Z.Warmed39 U.vm ∧ U.heap = h0) (fun _ _ _ _ _ => True) (fun _ U o U' => ∃ v L, o = .returned v ∧ Qcl3_1 Z a1 fm k g h0 n0 v U'.heap L ∧ FrameEnd U o U' L ({ frames := 2, cells := 0, slots := 0, locals := 27 } : Room).cells ({ frames := 2, cells := 0, slots := 0, locals := 27 } : Room).slots) := by
  refine MetFree.of_bodySF (plainFor_of_name pn_4) hisR ?_
  intro p e s m args below meth c s₁ Bd hml0 hP hK
  obtain ⟨rfl, hZ, hh⟩ := hP
  have hx := Bd.exec
  have hby := Bd.bytes
  have hml : c.maxLocals = 2 := hml0
  have hown : s.vm.findClass "java/lang/StringLatin1" = some m.cls := findClass_of_methodNamed Bd.named
  have hnm := (name_of_methodNamed Bd.named Bd.method).1
  have X0 : Stand p l e ({ frames := 2, cells := 0, slots := 0, locals := 27 } : Room) s m #[(.ref a1), (.int (1 : Int32))] below meth c s₁ [] 0 0 := Stand.of_body Bd
  have e0 : s₁.heap = h0 := by rw [← hh, Bd.state]; rfl
  have N0 := Fr.nil n0
  show GoalS p.tables e below s ({ frames := 2, cells := 0, slots := 0, locals := 27 } : Room).cells ({ frames := 2, cells := 0, slots := 0, locals := 27 } : Room).slots (Qcl3_1 Z a1 fm k g h0 n0) (s₁.setTop (entryFrame m #[(.ref a1), (.int (1 : Int32))] 2))
  refine GoalS.lift (B := s₁.setTop (mkF m 0 #[vr a1, vi (1 : Int32)] [])) (fun t k => castTop (ef_rmcl3_1 m a1) k) ?_
  have K0 : Keep h0 h0 [] := Keep.refl _ _
  obtain ⟨cl1, Ar1, -, sz1, -, -⟩ := id A_a1
  have le1 : cl1.slots.size.toInt32 = (3 : Int32) := by rw [sz1]; exact rfl
  obtain ⟨_, _, ⟨T2, L2, k2, n2⟩, -, X2, ⟨Lc2, hQ2, l2, y2, z2⟩, st2⟩ := Jvm.LawKit.callS X0 hx (y := (⟨"java/lang/String", "checkIndex", "(II)V"⟩ : MethodName)) hown (mvT hZ (hw _ (List.mem_of_getElem? (i := 111) rfl))) (mvT hZ (hw _ (List.mem_of_getElem? (i := 112) rfl))) (mvT hZ (hw _ (List.mem_of_getElem? (i := 40) rfl))) (mvT hZ (hw _ (List.mem_of_getElem? (i := 113) rfl))) (by decide) (backOf (W := 0) (rmci l Z a0 hw [] (1 : Int32) (3 : Int32) fm h0 n0 Z0 S_SIOOBE_FORMATTER hfm (by decide) (by decide)) hZ (hw _ (List.mem_of_getElem? (i := 113) rfl)) (hw _ (List.mem_of_getElem? (i := 40) rfl)) (by decide) (by decide)) (g := (mkF m 3 #[vr a1, vi (1 : Int32)] [(.int (3 : Int32)), (.int (1 : Int32))])) rfl (by rw [hml]; rfl) (argsL := [(.int (1 : Int32)), (.int (3 : Int32))]) (rest := []) (lenOf pd_4 rfl) rfl (by show 2 * 0 + _ ≤ _; exact Nat.le_of_eq rfl) (hb hby d21_3) (fun _ _ => ⟨rfl, e0, (by decide : 0 + 0 ≤ _), (by decide : 0 + 0 ≤ _)⟩)
  dsimp only [Pt.U, Pt.locs, Pt.cells, Pt.slots] at X2 l2 y2 z2 st2 hQ2
  subst y2 z2
  obtain ⟨rfl, N2q, eq2⟩ := hQ2
  have N2 : Fr n0 L2 := by rw [l2]; exact Fr.app N0 N2q
  obtain ⟨cl3, Ar3, kc3, sz3, -, hv3⟩ := id A_a1
  have hin3 : ¬ ((1 : Int32) < 0 ∨ cl3.slots.size ≤ ((1 : Int32)).toNatClampNeg) := AV.inb sz3 (show ¬ (1 : Int32) < 0 ∧ ((1 : Int32)).toNatClampNeg < 3 by decide)
  have hat3 : cl3.slots[((1 : Int32)).toNatClampNeg]? = some (.int (g 1)) := (hv3 _ (AV.inx (show ¬ (1 : Int32) < 0 ∧ ((1 : Int32)).toNatClampNeg < 3 by decide))).trans (congrArg some rfl)
  obtain ⟨fs, hr, hrun, hended, hW, hsame⟩ := X2.leave (v := some (.int (((((g 1) &&& (255 : Int32))).toUInt32.toUInt16.toUInt32.toInt32)).toUInt32.toUInt16.toUInt32.toInt32)) (fun h => by rw [Bd.returns] at h; cases h)
  refine ⟨_, _, ?_, hrun, hended, _, _, rfl, ?_, ⟨_, rfl⟩, hW, hsame.mono (by decide) (by decide)⟩
  · show Steps p.tables e below (s₁.setTop (mkF m 0 #[vr a1, vi (1 : Int32)] [])) _
    refine XS.iloadN X0.here hx rfl (hb hby d21_0) rfl ?_
    refine XS.aloadN X0.here hx rfl (hb hby d21_1) rfl rfl ?_
    refine X0.arraylength hx (by rw [e0]; exact Ar1.1) (State.isArrayOf_alike hZ.alike Ar1.2.1) (g := (mkF m 2 #[vr a1, vi (1 : Int32)] [(.ref a1), (.int (1 : Int32))])) rfl rfl (hb hby d21_2) _ ?_
    rw [le1]
    refine st2 _ ?_
    refine XS.aloadN X2.here hx rfl (hb hby d21_6) rfl rfl ?_
    show Steps p.tables e below (T2.setTop (mkF m 7 #[vr a1, vi (1 : Int32)] [(.ref a1)])) _
    refine XS.iloadN X2.here hx rfl (hb hby d21_7) rfl ?_
    refine X2.baloadBytes hx (j := (1 : Int32)) (v := (.int (g 1))) (by rw [eq2]; exact Ar3.1) (State.isArrayOf_alike hZ.alike Ar3.2.1) Ar3.2.2 hin3 hat3 (g := (mkF m 8 #[vr a1, vi (1 : Int32)] [(.int (1 : Int32)), (.ref a1)])) rfl rfl (hb hby d21_8) _ ?_
    refine XS.sipush X2.here hx rfl (hb hby d21_9) ?_
    refine XS.iand X2.here hx rfl (hb hby d21_12) rfl ?_
    refine XS.i2c X2.here hx rfl (hb hby d21_13) rfl ?_
    exact retN X2 hx (t := .char) Bd.returns (by simp) (hb hby d21_14) hr
  · show Qcl3_1 Z a1 fm k g h0 n0 _ T2.heap _
    exact ⟨(congrArg (fun z => some (Value.int z)) (own_ca hok)), N2, eq2⟩
theorem ef_rmca3_1 (m : MethodId) (a1 : Addr) : entryFrame m #[(.ref a1), (.int (1 : Int32))] 2 = mkF m 0 #[vr a1, vi (1 : Int32)] [] := by first | (simp [entryFrame, mkF, argsToLocals, Value.category]; done) | rfl
def Qca3_1 (Z : State) (a1 : Addr) (zcs : Int32) (fm : Value) (tb : Addr) (kb : ClassId) (g : Nat → Int32) (h0 : Heap) (n0 : Nat) (v : Option Value) (h : Heap) (L : List Loc) : Prop := v = some (.int (g 1)) ∧ Fr n0 L ∧ h = h0
set_option maxRecDepth 65536 in
set_option maxHeartbeats 40000000 in
theorem rmca3_1 (l : Launch) (Z : State) (a0 : Array Value) (hw : ∀ d ∈ tables_1, d.before a0 Z = true) (ws : List Jvm.Cond) (a1 : Addr) (zcs : Int32) (fm : Value) (tb : Addr) (kb : ClassId) (g : Nat → Int32) (h0 : Heap) (n0 : Nat) (Z0 : n0 ≤ h0.size) (S_COMPACT_STRINGS : Sta Z h0 "java/lang/String" "COMPACT_STRINGS" "Z" (.int zcs)) (hCS : ¬ zcs = 0) (S_SIOOBE_FORMATTER : Sta Z h0 "jdk/internal/util/Preconditions" "SIOOBE_FORMATTER" "Ljava/util/function/BiFunction;" fm) (hfm : fm.isRef = true) (E_a1 : Exa Z h0 a1 "java/lang/String") (F_value_a1 : Fld Z h0 a1 "java/lang/String" "value" "[B" (.ref tb)) (F_coder_a1 : Fld Z h0 a1 "java/lang/String" "coder" "B" (.int (0 : Int32))) (A_tb : AV Z h0 tb kb .byte 3 (fun i => Value.int (g i))) (hok : own_ok (g 1)) :
    MetFree l (⟨"java/lang/String", "charAt", "(I)C"⟩ : MethodName) (head1 (Jvm.Cond.code (⟨"java/lang/String", "charAt", "(I)C"⟩ : MethodName) jdk_42_method_56_code 2 (some .char) :: ws) ({ frames := 3, cells := 0, slots := 0, locals := 40 } : Room)) (fun a U => a = #[(.ref a1), (.int (1 : Int32))] ∧ Z.Warmed39 U.vm ∧ U.heap = h0) (fun _ _ _ _ _ => True) (fun _ U o U' => ∃ v L, o = .returned v ∧ Qca3_1 Z a1 zcs fm tb kb g h0 n0 v U'.heap L ∧ FrameEnd U o U' L ({ frames := 3, cells := 0, slots := 0, locals := 40 } : Room).cells ({ frames := 3, cells := 0, slots := 0, locals := 40 } : Room).slots) := by
  refine MetFree.of_bodySF (plainFor_of_name pn_3) hisR ?_
  intro p e s m args below meth c s₁ Bd hml0 hP hK
  obtain ⟨rfl, hZ, hh⟩ := hP
  have hx := Bd.exec
  have hby := Bd.bytes
  have hml : c.maxLocals = 2 := hml0
  have hown : s.vm.findClass "java/lang/String" = some m.cls := findClass_of_methodNamed Bd.named
  have hnm := (name_of_methodNamed Bd.named Bd.method).1
  have X0 : Stand p l e ({ frames := 3, cells := 0, slots := 0, locals := 40 } : Room) s m #[(.ref a1), (.int (1 : Int32))] below meth c s₁ [] 0 0 := Stand.of_body Bd
  have e0 : s₁.heap = h0 := by rw [← hh, Bd.state]; rfl
  have N0 := Fr.nil n0
  show GoalS p.tables e below s ({ frames := 3, cells := 0, slots := 0, locals := 40 } : Room).cells ({ frames := 3, cells := 0, slots := 0, locals := 40 } : Room).slots (Qca3_1 Z a1 zcs fm tb kb g h0 n0) (s₁.setTop (entryFrame m #[(.ref a1), (.int (1 : Int32))] 2))
  refine GoalS.lift (B := s₁.setTop (mkF m 0 #[vr a1, vi (1 : Int32)] [])) (fun t k => castTop (ef_rmca3_1 m a1) k) ?_
  have K0 : Keep h0 h0 [] := Keep.refl _ _
  obtain ⟨cq1, kq1, q1a, q1b, q1c⟩ := isOf hZ e0 E_a1
  obtain ⟨_, _, ⟨T1, L1, k1, n1⟩, -, X1, ⟨Lc1, hQ1, l1, y1, z1⟩, st1⟩ := X0.virtualBack hx (y := (⟨"java/lang/String", "isLatin1", "()Z"⟩ : MethodName)) (z := (⟨"java/lang/String", "isLatin1", "()Z"⟩ : MethodName)) hown (mvT hZ (hw _ (List.mem_of_getElem? (i := 102) rfl))) (mvT hZ (hw _ (List.mem_of_getElem? (i := 103) rfl))) (notFace_of_selects (args := #[]) (mvT hZ (hw _ (List.mem_of_getElem? (i := 105) rfl)))) (mvT hZ (hw _ (List.mem_of_getElem? (i := 105) rfl))) (mvT hZ (hw _ (List.mem_of_getElem? (i := 104) rfl))) (by decide) (backOf (W := 0) (rm20 l Z a0 hw [] a1 zcs h0 n0 Z0 S_COMPACT_STRINGS hCS F_coder_a1) hZ (hw _ (List.mem_of_getElem? (i := 106) rfl)) (hw _ (List.mem_of_getElem? (i := 40) rfl)) (by decide) (by decide)) q1a q1c (g := (mkF m 1 #[vr a1, vi (1 : Int32)] [(.ref a1)])) rfl (by rw [hml]; rfl) (Steps.refl _) (argsL := []) (rest := []) (lenOf pd_5 rfl) rfl (by show 2 * 0 + _ ≤ _; exact Nat.le_of_eq rfl) (hb hby d19_1) (fun _ _ => ⟨rfl, e0, (by decide : 0 + 0 ≤ _), (by decide : 0 + 0 ≤ _)⟩)
  dsimp only [Pt.U, Pt.locs, Pt.cells, Pt.slots] at X1 l1 y1 z1 st1 hQ1
  subst y1 z1
  obtain ⟨rfl, N1q, eq1⟩ := hQ1
  have N1 : Fr n0 L1 := by rw [l1]; exact Fr.app N0 N1q
  obtain ⟨T2, X2, e2, st2⟩ := getF X1 hx hZ hown (host := "") (Or.inl (hw _ (List.mem_of_getElem? (i := 55) rfl))) Via.refl eq1 F_value_a1 (g := (mkF m 8 #[vr a1, vi (1 : Int32)] [(.ref a1)])) rfl rfl (hb hby d19_8)
  obtain ⟨_, _, ⟨T3, L3, k3, n3⟩, -, X3, ⟨Lc3, hQ3, l3, y3, z3⟩, st3⟩ := Jvm.LawKit.callS X2 hx (y := (⟨"java/lang/StringLatin1", "charAt", "([BI)C"⟩ : MethodName)) hown (mvT hZ (hw _ (List.mem_of_getElem? (i := 107) rfl))) (mvT hZ (hw _ (List.mem_of_getElem? (i := 108) rfl))) (mvT hZ (hw _ (List.mem_of_getElem? (i := 109) rfl))) (mvT hZ (hw _ (List.mem_of_getElem? (i := 110) rfl))) (by decide) (backOf (W := 0) (rmcl3_1 l Z a0 hw [] tb fm kb g h0 n0 Z0 S_SIOOBE_FORMATTER hfm A_tb hok) hZ (hw _ (List.mem_of_getElem? (i := 110) rfl)) (hw _ (List.mem_of_getElem? (i := 109) rfl)) (by decide) (by decide)) (g := (mkF m 12 #[vr a1, vi (1 : Int32)] [(.int (1 : Int32)), (.ref tb)])) rfl (by rw [hml]; rfl) (argsL := [(.ref tb), (.int (1 : Int32))]) (rest := []) (lenOf pd_6 rfl) rfl (by show 2 * 0 + _ ≤ _; exact Nat.le_of_eq rfl) (hb hby d19_12) (fun _ _ => ⟨rfl, e2, (by decide : 0 + 0 ≤ _), (by decide : 0 + 0 ≤ _)⟩)
  dsimp only [Pt.U, Pt.locs, Pt.cells, Pt.slots] at X3 l3 y3 z3 st3 hQ3
  subst y3 z3
  obtain ⟨rfl, N3q, eq3⟩ := hQ3
  have N3 : Fr n0 L3 := by rw [l3]; exact Fr.app N1 N3q
  obtain ⟨fs, hr, hrun, hended, hW, hsame⟩ := X3.leave (v := some (.int ((g 1)).toUInt32.toUInt16.toUInt32.toInt32)) (fun h => by rw [Bd.returns] at h; cases h)
  refine ⟨_, _, ?_, hrun, hended, _, _, rfl, ?_, ⟨_, rfl⟩, hW, hsame.mono (by decide) (by decide)⟩
  · show Steps p.tables e below (s₁.setTop (mkF m 0 #[vr a1, vi (1 : Int32)] [])) _
    refine XS.aloadN X0.here hx rfl (hb hby d19_0) rfl rfl ?_
    refine st1.trans ?_
    refine XS.ifNo X1.here hx rfl (hb hby d19_4) rfl ((if0 _ _).trans (feq (by decide : ¬ ((1 : Int32) = (0 : Int32)))).1) ?_
    refine XS.aloadN X1.here hx rfl (hb hby d19_7) rfl rfl ?_
    refine st2 _ ?_
    refine XS.iloadN X2.here hx rfl (hb hby d19_11) rfl ?_
    show Steps p.tables e below (T2.setTop (mkF m 12 #[vr a1, vi (1 : Int32)] [(.int (1 : Int32)), (.ref tb)])) _
    refine st3 _ ?_
    exact retN X3 hx (t := .char) Bd.returns (by simp) (hb hby d19_15) hr
  · show Qca3_1 Z a1 zcs fm tb kb g h0 n0 _ T3.heap _
    exact ⟨(congrArg (fun z => some (Value.int z)) (own_u16 hok)), N3, eq3⟩
theorem ef_rmcl3_2 (m : MethodId) (a1 : Addr) : entryFrame m #[(.ref a1), (.int (2 : Int32))] 2 = mkF m 0 #[vr a1, vi (2 : Int32)] [] := by first | (simp [entryFrame, mkF, argsToLocals, Value.category]; done) | rfl
def Qcl3_2 (Z : State) (a1 : Addr) (fm : Value) (k : ClassId) (g : Nat → Int32) (h0 : Heap) (n0 : Nat) (v : Option Value) (h : Heap) (L : List Loc) : Prop := v = some (.int (g 2)) ∧ Fr n0 L ∧ h = h0
set_option maxRecDepth 65536 in
set_option maxHeartbeats 40000000 in
theorem rmcl3_2 (l : Launch) (Z : State) (a0 : Array Value) (hw : ∀ d ∈ tables_1, d.before a0 Z = true) (ws : List Jvm.Cond) (a1 : Addr) (fm : Value) (k : ClassId) (g : Nat → Int32) (h0 : Heap) (n0 : Nat) (Z0 : n0 ≤ h0.size) (S_SIOOBE_FORMATTER : Sta Z h0 "jdk/internal/util/Preconditions" "SIOOBE_FORMATTER" "Ljava/util/function/BiFunction;" fm) (hfm : fm.isRef = true) (A_a1 : AV Z h0 a1 k .byte 3 (fun i => Value.int (g i))) (hok : own_ok (g 2)) :
    MetFree l (⟨"java/lang/StringLatin1", "charAt", "([BI)C"⟩ : MethodName) (head1 (Jvm.Cond.code (⟨"java/lang/StringLatin1", "charAt", "([BI)C"⟩ : MethodName) jdk_43_method_2_code 2 (some .char) :: ws) ({ frames := 2, cells := 0, slots := 0, locals := 27 } : Room)) (fun a U => a = #[(.ref a1), (.int (2 : Int32))] ∧ Z.Warmed39 U.vm ∧ U.heap = h0) (fun _ _ _ _ _ => True) (fun _ U o U' => ∃ v L, o = .returned v ∧ Qcl3_2 Z a1 fm k g h0 n0 v U'.heap L ∧ FrameEnd U o U' L ({ frames := 2, cells := 0, slots := 0, locals := 27 } : Room).cells ({ frames := 2, cells := 0, slots := 0, locals := 27 } : Room).slots) := by
  refine MetFree.of_bodySF (plainFor_of_name pn_4) hisR ?_
  intro p e s m args below meth c s₁ Bd hml0 hP hK
  obtain ⟨rfl, hZ, hh⟩ := hP
  have hx := Bd.exec
  have hby := Bd.bytes
  have hml : c.maxLocals = 2 := hml0
  have hown : s.vm.findClass "java/lang/StringLatin1" = some m.cls := findClass_of_methodNamed Bd.named
  have hnm := (name_of_methodNamed Bd.named Bd.method).1
  have X0 : Stand p l e ({ frames := 2, cells := 0, slots := 0, locals := 27 } : Room) s m #[(.ref a1), (.int (2 : Int32))] below meth c s₁ [] 0 0 := Stand.of_body Bd
  have e0 : s₁.heap = h0 := by rw [← hh, Bd.state]; rfl
  have N0 := Fr.nil n0
  show GoalS p.tables e below s ({ frames := 2, cells := 0, slots := 0, locals := 27 } : Room).cells ({ frames := 2, cells := 0, slots := 0, locals := 27 } : Room).slots (Qcl3_2 Z a1 fm k g h0 n0) (s₁.setTop (entryFrame m #[(.ref a1), (.int (2 : Int32))] 2))
  refine GoalS.lift (B := s₁.setTop (mkF m 0 #[vr a1, vi (2 : Int32)] [])) (fun t k => castTop (ef_rmcl3_2 m a1) k) ?_
  have K0 : Keep h0 h0 [] := Keep.refl _ _
  obtain ⟨cl1, Ar1, -, sz1, -, -⟩ := id A_a1
  have le1 : cl1.slots.size.toInt32 = (3 : Int32) := by rw [sz1]; exact rfl
  obtain ⟨_, _, ⟨T2, L2, k2, n2⟩, -, X2, ⟨Lc2, hQ2, l2, y2, z2⟩, st2⟩ := Jvm.LawKit.callS X0 hx (y := (⟨"java/lang/String", "checkIndex", "(II)V"⟩ : MethodName)) hown (mvT hZ (hw _ (List.mem_of_getElem? (i := 111) rfl))) (mvT hZ (hw _ (List.mem_of_getElem? (i := 112) rfl))) (mvT hZ (hw _ (List.mem_of_getElem? (i := 40) rfl))) (mvT hZ (hw _ (List.mem_of_getElem? (i := 113) rfl))) (by decide) (backOf (W := 0) (rmci l Z a0 hw [] (2 : Int32) (3 : Int32) fm h0 n0 Z0 S_SIOOBE_FORMATTER hfm (by decide) (by decide)) hZ (hw _ (List.mem_of_getElem? (i := 113) rfl)) (hw _ (List.mem_of_getElem? (i := 40) rfl)) (by decide) (by decide)) (g := (mkF m 3 #[vr a1, vi (2 : Int32)] [(.int (3 : Int32)), (.int (2 : Int32))])) rfl (by rw [hml]; rfl) (argsL := [(.int (2 : Int32)), (.int (3 : Int32))]) (rest := []) (lenOf pd_4 rfl) rfl (by show 2 * 0 + _ ≤ _; exact Nat.le_of_eq rfl) (hb hby d21_3) (fun _ _ => ⟨rfl, e0, (by decide : 0 + 0 ≤ _), (by decide : 0 + 0 ≤ _)⟩)
  dsimp only [Pt.U, Pt.locs, Pt.cells, Pt.slots] at X2 l2 y2 z2 st2 hQ2
  subst y2 z2
  obtain ⟨rfl, N2q, eq2⟩ := hQ2
  have N2 : Fr n0 L2 := by rw [l2]; exact Fr.app N0 N2q
  obtain ⟨cl3, Ar3, kc3, sz3, -, hv3⟩ := id A_a1
  have hin3 : ¬ ((2 : Int32) < 0 ∨ cl3.slots.size ≤ ((2 : Int32)).toNatClampNeg) := AV.inb sz3 (show ¬ (2 : Int32) < 0 ∧ ((2 : Int32)).toNatClampNeg < 3 by decide)
  have hat3 : cl3.slots[((2 : Int32)).toNatClampNeg]? = some (.int (g 2)) := (hv3 _ (AV.inx (show ¬ (2 : Int32) < 0 ∧ ((2 : Int32)).toNatClampNeg < 3 by decide))).trans (congrArg some rfl)
  obtain ⟨fs, hr, hrun, hended, hW, hsame⟩ := X2.leave (v := some (.int (((((g 2) &&& (255 : Int32))).toUInt32.toUInt16.toUInt32.toInt32)).toUInt32.toUInt16.toUInt32.toInt32)) (fun h => by rw [Bd.returns] at h; cases h)
  refine ⟨_, _, ?_, hrun, hended, _, _, rfl, ?_, ⟨_, rfl⟩, hW, hsame.mono (by decide) (by decide)⟩
  · show Steps p.tables e below (s₁.setTop (mkF m 0 #[vr a1, vi (2 : Int32)] [])) _
    refine XS.iloadN X0.here hx rfl (hb hby d21_0) rfl ?_
    refine XS.aloadN X0.here hx rfl (hb hby d21_1) rfl rfl ?_
    refine X0.arraylength hx (by rw [e0]; exact Ar1.1) (State.isArrayOf_alike hZ.alike Ar1.2.1) (g := (mkF m 2 #[vr a1, vi (2 : Int32)] [(.ref a1), (.int (2 : Int32))])) rfl rfl (hb hby d21_2) _ ?_
    rw [le1]
    refine st2 _ ?_
    refine XS.aloadN X2.here hx rfl (hb hby d21_6) rfl rfl ?_
    show Steps p.tables e below (T2.setTop (mkF m 7 #[vr a1, vi (2 : Int32)] [(.ref a1)])) _
    refine XS.iloadN X2.here hx rfl (hb hby d21_7) rfl ?_
    refine X2.baloadBytes hx (j := (2 : Int32)) (v := (.int (g 2))) (by rw [eq2]; exact Ar3.1) (State.isArrayOf_alike hZ.alike Ar3.2.1) Ar3.2.2 hin3 hat3 (g := (mkF m 8 #[vr a1, vi (2 : Int32)] [(.int (2 : Int32)), (.ref a1)])) rfl rfl (hb hby d21_8) _ ?_
    refine XS.sipush X2.here hx rfl (hb hby d21_9) ?_
    refine XS.iand X2.here hx rfl (hb hby d21_12) rfl ?_
    refine XS.i2c X2.here hx rfl (hb hby d21_13) rfl ?_
    exact retN X2 hx (t := .char) Bd.returns (by simp) (hb hby d21_14) hr
  · show Qcl3_2 Z a1 fm k g h0 n0 _ T2.heap _
    exact ⟨(congrArg (fun z => some (Value.int z)) (own_ca hok)), N2, eq2⟩
theorem ef_rmca3_2 (m : MethodId) (a1 : Addr) : entryFrame m #[(.ref a1), (.int (2 : Int32))] 2 = mkF m 0 #[vr a1, vi (2 : Int32)] [] := by first | (simp [entryFrame, mkF, argsToLocals, Value.category]; done) | rfl
def Qca3_2 (Z : State) (a1 : Addr) (zcs : Int32) (fm : Value) (tb : Addr) (kb : ClassId) (g : Nat → Int32) (h0 : Heap) (n0 : Nat) (v : Option Value) (h : Heap) (L : List Loc) : Prop := v = some (.int (g 2)) ∧ Fr n0 L ∧ h = h0
set_option maxRecDepth 65536 in
set_option maxHeartbeats 40000000 in
theorem rmca3_2 (l : Launch) (Z : State) (a0 : Array Value) (hw : ∀ d ∈ tables_1, d.before a0 Z = true) (ws : List Jvm.Cond) (a1 : Addr) (zcs : Int32) (fm : Value) (tb : Addr) (kb : ClassId) (g : Nat → Int32) (h0 : Heap) (n0 : Nat) (Z0 : n0 ≤ h0.size) (S_COMPACT_STRINGS : Sta Z h0 "java/lang/String" "COMPACT_STRINGS" "Z" (.int zcs)) (hCS : ¬ zcs = 0) (S_SIOOBE_FORMATTER : Sta Z h0 "jdk/internal/util/Preconditions" "SIOOBE_FORMATTER" "Ljava/util/function/BiFunction;" fm) (hfm : fm.isRef = true) (E_a1 : Exa Z h0 a1 "java/lang/String") (F_value_a1 : Fld Z h0 a1 "java/lang/String" "value" "[B" (.ref tb)) (F_coder_a1 : Fld Z h0 a1 "java/lang/String" "coder" "B" (.int (0 : Int32))) (A_tb : AV Z h0 tb kb .byte 3 (fun i => Value.int (g i))) (hok : own_ok (g 2)) :
    MetFree l (⟨"java/lang/String", "charAt", "(I)C"⟩ : MethodName) (head1 (Jvm.Cond.code (⟨"java/lang/String", "charAt", "(I)C"⟩ : MethodName) jdk_42_method_56_code 2 (some .char) :: ws) ({ frames := 3, cells := 0, slots := 0, locals := 40 } : Room)) (fun a U => a = #[(.ref a1), (.int (2 : Int32))] ∧ Z.Warmed39 U.vm ∧ U.heap = h0) (fun _ _ _ _ _ => True) (fun _ U o U' => ∃ v L, o = .returned v ∧ Qca3_2 Z a1 zcs fm tb kb g h0 n0 v U'.heap L ∧ FrameEnd U o U' L ({ frames := 3, cells := 0, slots := 0, locals := 40 } : Room).cells ({ frames := 3, cells := 0, slots := 0, locals := 40 } : Room).slots) := by
  refine MetFree.of_bodySF (plainFor_of_name pn_3) hisR ?_
  intro p e s m args below meth c s₁ Bd hml0 hP hK
  obtain ⟨rfl, hZ, hh⟩ := hP
  have hx := Bd.exec
  have hby := Bd.bytes
  have hml : c.maxLocals = 2 := hml0
  have hown : s.vm.findClass "java/lang/String" = some m.cls := findClass_of_methodNamed Bd.named
  have hnm := (name_of_methodNamed Bd.named Bd.method).1
  have X0 : Stand p l e ({ frames := 3, cells := 0, slots := 0, locals := 40 } : Room) s m #[(.ref a1), (.int (2 : Int32))] below meth c s₁ [] 0 0 := Stand.of_body Bd
  have e0 : s₁.heap = h0 := by rw [← hh, Bd.state]; rfl
  have N0 := Fr.nil n0
  show GoalS p.tables e below s ({ frames := 3, cells := 0, slots := 0, locals := 40 } : Room).cells ({ frames := 3, cells := 0, slots := 0, locals := 40 } : Room).slots (Qca3_2 Z a1 zcs fm tb kb g h0 n0) (s₁.setTop (entryFrame m #[(.ref a1), (.int (2 : Int32))] 2))
  refine GoalS.lift (B := s₁.setTop (mkF m 0 #[vr a1, vi (2 : Int32)] [])) (fun t k => castTop (ef_rmca3_2 m a1) k) ?_
  have K0 : Keep h0 h0 [] := Keep.refl _ _
  obtain ⟨cq1, kq1, q1a, q1b, q1c⟩ := isOf hZ e0 E_a1
  obtain ⟨_, _, ⟨T1, L1, k1, n1⟩, -, X1, ⟨Lc1, hQ1, l1, y1, z1⟩, st1⟩ := X0.virtualBack hx (y := (⟨"java/lang/String", "isLatin1", "()Z"⟩ : MethodName)) (z := (⟨"java/lang/String", "isLatin1", "()Z"⟩ : MethodName)) hown (mvT hZ (hw _ (List.mem_of_getElem? (i := 102) rfl))) (mvT hZ (hw _ (List.mem_of_getElem? (i := 103) rfl))) (notFace_of_selects (args := #[]) (mvT hZ (hw _ (List.mem_of_getElem? (i := 105) rfl)))) (mvT hZ (hw _ (List.mem_of_getElem? (i := 105) rfl))) (mvT hZ (hw _ (List.mem_of_getElem? (i := 104) rfl))) (by decide) (backOf (W := 0) (rm20 l Z a0 hw [] a1 zcs h0 n0 Z0 S_COMPACT_STRINGS hCS F_coder_a1) hZ (hw _ (List.mem_of_getElem? (i := 106) rfl)) (hw _ (List.mem_of_getElem? (i := 40) rfl)) (by decide) (by decide)) q1a q1c (g := (mkF m 1 #[vr a1, vi (2 : Int32)] [(.ref a1)])) rfl (by rw [hml]; rfl) (Steps.refl _) (argsL := []) (rest := []) (lenOf pd_5 rfl) rfl (by show 2 * 0 + _ ≤ _; exact Nat.le_of_eq rfl) (hb hby d19_1) (fun _ _ => ⟨rfl, e0, (by decide : 0 + 0 ≤ _), (by decide : 0 + 0 ≤ _)⟩)
  dsimp only [Pt.U, Pt.locs, Pt.cells, Pt.slots] at X1 l1 y1 z1 st1 hQ1
  subst y1 z1
  obtain ⟨rfl, N1q, eq1⟩ := hQ1
  have N1 : Fr n0 L1 := by rw [l1]; exact Fr.app N0 N1q
  obtain ⟨T2, X2, e2, st2⟩ := getF X1 hx hZ hown (host := "") (Or.inl (hw _ (List.mem_of_getElem? (i := 55) rfl))) Via.refl eq1 F_value_a1 (g := (mkF m 8 #[vr a1, vi (2 : Int32)] [(.ref a1)])) rfl rfl (hb hby d19_8)
  obtain ⟨_, _, ⟨T3, L3, k3, n3⟩, -, X3, ⟨Lc3, hQ3, l3, y3, z3⟩, st3⟩ := Jvm.LawKit.callS X2 hx (y := (⟨"java/lang/StringLatin1", "charAt", "([BI)C"⟩ : MethodName)) hown (mvT hZ (hw _ (List.mem_of_getElem? (i := 107) rfl))) (mvT hZ (hw _ (List.mem_of_getElem? (i := 108) rfl))) (mvT hZ (hw _ (List.mem_of_getElem? (i := 109) rfl))) (mvT hZ (hw _ (List.mem_of_getElem? (i := 110) rfl))) (by decide) (backOf (W := 0) (rmcl3_2 l Z a0 hw [] tb fm kb g h0 n0 Z0 S_SIOOBE_FORMATTER hfm A_tb hok) hZ (hw _ (List.mem_of_getElem? (i := 110) rfl)) (hw _ (List.mem_of_getElem? (i := 109) rfl)) (by decide) (by decide)) (g := (mkF m 12 #[vr a1, vi (2 : Int32)] [(.int (2 : Int32)), (.ref tb)])) rfl (by rw [hml]; rfl) (argsL := [(.ref tb), (.int (2 : Int32))]) (rest := []) (lenOf pd_6 rfl) rfl (by show 2 * 0 + _ ≤ _; exact Nat.le_of_eq rfl) (hb hby d19_12) (fun _ _ => ⟨rfl, e2, (by decide : 0 + 0 ≤ _), (by decide : 0 + 0 ≤ _)⟩)
  dsimp only [Pt.U, Pt.locs, Pt.cells, Pt.slots] at X3 l3 y3 z3 st3 hQ3
  subst y3 z3
  obtain ⟨rfl, N3q, eq3⟩ := hQ3
  have N3 : Fr n0 L3 := by rw [l3]; exact Fr.app N1 N3q
  obtain ⟨fs, hr, hrun, hended, hW, hsame⟩ := X3.leave (v := some (.int ((g 2)).toUInt32.toUInt16.toUInt32.toInt32)) (fun h => by rw [Bd.returns] at h; cases h)
  refine ⟨_, _, ?_, hrun, hended, _, _, rfl, ?_, ⟨_, rfl⟩, hW, hsame.mono (by decide) (by decide)⟩
  · show Steps p.tables e below (s₁.setTop (mkF m 0 #[vr a1, vi (2 : Int32)] [])) _
    refine XS.aloadN X0.here hx rfl (hb hby d19_0) rfl rfl ?_
    refine st1.trans ?_
    refine XS.ifNo X1.here hx rfl (hb hby d19_4) rfl ((if0 _ _).trans (feq (by decide : ¬ ((1 : Int32) = (0 : Int32)))).1) ?_
    refine XS.aloadN X1.here hx rfl (hb hby d19_7) rfl rfl ?_
    refine st2 _ ?_
    refine XS.iloadN X2.here hx rfl (hb hby d19_11) rfl ?_
    show Steps p.tables e below (T2.setTop (mkF m 12 #[vr a1, vi (2 : Int32)] [(.int (2 : Int32)), (.ref tb)])) _
    refine st3 _ ?_
    exact retN X3 hx (t := .char) Bd.returns (by simp) (hb hby d19_15) hr
  · show Qca3_2 Z a1 zcs fm tb kb g h0 n0 _ T3.heap _
    exact ⟨(congrArg (fun z => some (Value.int z)) (own_u16 hok)), N3, eq3⟩
theorem d12_0 : decode prog_45_method_34_code 0 = .ok (.aload_n 2, 1) := by decide +kernel
theorem d12_1 : decode prog_45_method_34_code 1 = .ok (.invokevirtual 37, 3) := by decide +kernel
theorem d12_4 : decode prog_45_method_34_code 4 = .ok (.aload_n 0, 1) := by decide +kernel
theorem d12_5 : decode prog_45_method_34_code 5 = .ok (.getfield 22, 3) := by decide +kernel
theorem d12_8 : decode prog_45_method_34_code 8 = .ok (.iload_n 1, 1) := by decide +kernel
theorem d12_9 : decode prog_45_method_34_code 9 = .ok (.isub, 1) := by decide +kernel
theorem d12_10 : decode prog_45_method_34_code 10 = .ok (.if_icmp .le 5, 3) := by decide +kernel
theorem d12_13 : decode prog_45_method_34_code 13 = .ok (.iconst 0, 1) := by decide +kernel
theorem d12_14 : decode prog_45_method_34_code 14 = .ok (.ireturn, 1) := by decide +kernel
theorem d12_15 : decode prog_45_method_34_code 15 = .ok (.iconst 0, 1) := by decide +kernel
theorem d12_16 : decode prog_45_method_34_code 16 = .ok (.istore_n 3, 1) := by decide +kernel
theorem d12_17 : decode prog_45_method_34_code 17 = .ok (.iload_n 3, 1) := by decide +kernel
theorem d12_18 : decode prog_45_method_34_code 18 = .ok (.aload_n 2, 1) := by decide +kernel
theorem d12_19 : decode prog_45_method_34_code 19 = .ok (.invokevirtual 37, 3) := by decide +kernel
theorem d12_22 : decode prog_45_method_34_code 22 = .ok (.if_icmp .ge 27, 3) := by decide +kernel
theorem d12_49 : decode prog_45_method_34_code 49 = .ok (.iconst 1, 1) := by decide +kernel
theorem d12_50 : decode prog_45_method_34_code 50 = .ok (.ireturn, 1) := by decide +kernel
theorem pd_7 : parseMethodDescriptor "()I" = some ⟨[], some .int⟩ := by decide +kernel
theorem ef_rmsw0 (m : MethodId) (a1 : Addr) (p2 : Int32) (a3 : Addr) : entryFrame m #[(.ref a1), (.int p2), (.ref a3)] 4 = mkF m 0 #[vr a1, vi p2, vr a3, .unset] [] := by first | (simp [entryFrame, mkF, argsToLocals, Value.category]; done) | rfl
def Qsw0 (Z : State) (a1 : Addr) (p2 : Int32) (a3 : Addr) (zcs : Int32) (fm : Value) (q : Int32) (d : Addr) (kd : ClassId) (f : Nat → Int32) (tb : Addr) (kb : ClassId) (g : Nat → Int32) (h0 : Heap) (n0 : Nat) (v : Option Value) (h : Heap) (L : List Loc) : Prop := v = some (.int (own_sw0 p2 q)) ∧ Fr n0 L ∧ h = h0
set_option maxRecDepth 65536 in
set_option maxHeartbeats 40000000 in
theorem rmsw0 (l : Launch) (Z : State) (a0 : Array Value) (hw : ∀ d ∈ tables_1, d.before a0 Z = true) (ws : List Jvm.Cond) (a1 : Addr) (p2 : Int32) (a3 : Addr) (zcs : Int32) (fm : Value) (q : Int32) (d : Addr) (kd : ClassId) (f : Nat → Int32) (tb : Addr) (kb : ClassId) (g : Nat → Int32) (h0 : Heap) (n0 : Nat) (Z0 : n0 ≤ h0.size) (S_COMPACT_STRINGS : Sta Z h0 "java/lang/String" "COMPACT_STRINGS" "Z" (.int zcs)) (hCS : ¬ zcs = 0) (S_SIOOBE_FORMATTER : Sta Z h0 "jdk/internal/util/Preconditions" "SIOOBE_FORMATTER" "Ljava/util/function/BiFunction;" fm) (hfm : fm.isRef = true) (E_a1 : Exa Z h0 a1 "com/example/verdict/verdict/saml/XmlScanner") (F_end_a1 : Fld Z h0 a1 "com/example/verdict/verdict/saml/XmlScanner" "end" "I" (.int q)) (F_doc_a1 : Fld Z h0 a1 "com/example/verdict/verdict/saml/XmlScanner" "doc" "[B" (.ref d)) (A_d : AV Z h0 d kd .byte 5 (fun i => Value.int (f i))) (E_a3 : Exa Z h0 a3 "java/lang/String") (F_value_a3 : Fld Z h0 a3 "java/lang/String" "value" "[B" (.ref tb)) (F_coder_a3 : Fld Z h0 a3 "java/lang/String" "coder" "B" (.int (0 : Int32))) (A_tb : AV Z h0 tb kb .byte 0 (fun i => Value.int (g i))) (hok : ∀ i, own_ok (g i)) (hp : p2 = 0 ∨ p2 = 1) :
    MetFree l (⟨"com/example/verdict/verdict/saml/XmlScanner", "startsWith", "(ILjava/lang/String;)Z"⟩ : MethodName) (head1 (Jvm.Cond.code (⟨"com/example/verdict/verdict/saml/XmlScanner", "startsWith", "(ILjava/lang/String;)Z"⟩ : MethodName) prog_45_method_34_code 4 (some .boolean) :: ws) ({ frames := 2, cells := 0, slots := 0, locals := 26 } : Room)) (fun a U => a = #[(.ref a1), (.int p2), (.ref a3)] ∧ Z.Warmed39 U.vm ∧ U.heap = h0) (fun _ _ _ _ _ => True) (fun _ U o U' => ∃ v L, o = .returned v ∧ Qsw0 Z a1 p2 a3 zcs fm q d kd f tb kb g h0 n0 v U'.heap L ∧ FrameEnd U o U' L ({ frames := 2, cells := 0, slots := 0, locals := 26 } : Room).cells ({ frames := 2, cells := 0, slots := 0, locals := 26 } : Room).slots) := by
  refine MetFree.of_bodySF (plainFor_of_name pn_2) hisR ?_
  intro p e s m args below meth c s₁ Bd hml0 hP hK
  obtain ⟨rfl, hZ, hh⟩ := hP
  have hx := Bd.exec
  have hby := Bd.bytes
  have hml : c.maxLocals = 4 := hml0
  have hown : s.vm.findClass "com/example/verdict/verdict/saml/XmlScanner" = some m.cls := findClass_of_methodNamed Bd.named
  have hnm := (name_of_methodNamed Bd.named Bd.method).1
  have X0 : Stand p l e ({ frames := 2, cells := 0, slots := 0, locals := 26 } : Room) s m #[(.ref a1), (.int p2), (.ref a3)] below meth c s₁ [] 0 0 := Stand.of_body Bd
  have e0 : s₁.heap = h0 := by rw [← hh, Bd.state]; rfl
  have N0 := Fr.nil n0
  show GoalS p.tables e below s ({ frames := 2, cells := 0, slots := 0, locals := 26 } : Room).cells ({ frames := 2, cells := 0, slots := 0, locals := 26 } : Room).slots (Qsw0 Z a1 p2 a3 zcs fm q d kd f tb kb g h0 n0) (s₁.setTop (entryFrame m #[(.ref a1), (.int p2), (.ref a3)] 4))
  refine GoalS.lift (B := s₁.setTop (mkF m 0 #[vr a1, vi p2, vr a3, .unset] [])) (fun t k => castTop (ef_rmsw0 m a1 p2 a3) k) ?_
  have K0 : Keep h0 h0 [] := Keep.refl _ _
  obtain ⟨cq1, kq1, q1a, q1b, q1c⟩ := isOf hZ e0 E_a3
  obtain ⟨_, _, ⟨T1, L1, k1, n1⟩, -, X1, ⟨Lc1, hQ1, l1, y1, z1⟩, st1⟩ := X0.virtualBack hx (y := (⟨"java/lang/String", "length", "()I"⟩ : MethodName)) (z := (⟨"java/lang/String", "length", "()I"⟩ : MethodName)) hown (mvT hZ (hw _ (List.mem_of_getElem? (i := 71) rfl))) (mvT hZ (hw _ (List.mem_of_getElem? (i := 72) rfl))) (notFace_of_selects (args := #[]) (mvT hZ (hw _ (List.mem_of_getElem? (i := 74) rfl)))) (mvT hZ (hw _ (List.mem_of_getElem? (i := 74) rfl))) (mvT hZ (hw _ (List.mem_of_getElem? (i := 73) rfl))) (by decide) (backOf (W := 0) (rmlen0 l Z a0 hw [] a3 zcs tb kb g h0 n0 Z0 S_COMPACT_STRINGS hCS E_a3 F_value_a3 F_coder_a3 A_tb) hZ (hw _ (List.mem_of_getElem? (i := 75) rfl)) (hw _ (List.mem_of_getElem? (i := 40) rfl)) (by decide) (by decide)) q1a q1c (g := (mkF m 1 #[vr a1, vi p2, vr a3, .unset] [(.ref a3)])) rfl (by rw [hml]; rfl) (Steps.refl _) (argsL := []) (rest := []) (lenOf pd_7 rfl) rfl (by show 2 * 0 + _ ≤ _; exact Nat.le_of_eq rfl) (hb hby d12_1) (fun _ _ => ⟨rfl, e0, (by decide : 0 + 0 ≤ _), (by decide : 0 + 0 ≤ _)⟩)
  dsimp only [Pt.U, Pt.locs, Pt.cells, Pt.slots] at X1 l1 y1 z1 st1 hQ1
  subst y1 z1
  obtain ⟨rfl, N1q, eq1⟩ := hQ1
  have N1 : Fr n0 L1 := by rw [l1]; exact Fr.app N0 N1q
  obtain ⟨T2, X2, e2, st2⟩ := getF X1 hx hZ hown (host := "") (Or.inl (hw _ (List.mem_of_getElem? (i := 22) rfl))) Via.refl eq1 F_end_a1 (g := (mkF m 5 #[vr a1, vi p2, vr a3, .unset] [(.ref a1), (.int (0 : Int32))])) rfl rfl (hb hby d12_5)
  refine GoalS.lift (B := (T2.setTop (mkF m 10 #[vr a1, vi p2, vr a3, .unset] [(.int (q - p2)), (.int (0 : Int32))]))) (fun t k => ?_) ?_
  · show Steps p.tables e below (s₁.setTop (mkF m 0 #[vr a1, vi p2, vr a3, .unset] [])) _
    refine XS.aloadN X0.here hx rfl (hb hby d12_0) rfl rfl ?_
    refine st1.trans ?_
    refine XS.aloadN X1.here hx rfl (hb hby d12_4) rfl rfl ?_
    refine st2 _ ?_
    refine XS.iloadN X2.here hx rfl (hb hby d12_8) rfl ?_
    refine XS.isub X2.here hx rfl (hb hby d12_9) rfl ?_
    show Steps p.tables e below (T2.setTop (mkF m 10 #[vr a1, vi p2, vr a3, .unset] [(.int (q - p2)), (.int (0 : Int32))])) _
    exact k
  by_cases hc10_3 : (q - p2) < (0 : Int32)
  · obtain ⟨fs, hr, hrun, hended, hW, hsame⟩ := X2.leave (v := some (.int (0 : Int32))) (fun h => by rw [Bd.returns] at h; cases h)
    refine ⟨_, _, ?_, hrun, hended, _, _, rfl, ?_, ⟨_, rfl⟩, hW, hsame.mono (by decide) (by decide)⟩
    · show Steps p.tables e below (T2.setTop (mkF m 10 #[vr a1, vi p2, vr a3, .unset] [(.int (q - p2)), (.int (0 : Int32))])) _
      refine XS.icmpNo X2.here hx rfl (hb hby d12_10) rfl ((tlt hc10_3).2.2.2) ?_
      refine XS.iconst X2.here hx rfl (hb hby d12_13) ?_
      exact retN X2 hx (t := .boolean) Bd.returns (by simp) (hb hby d12_14) hr
    · show Qsw0 Z a1 p2 a3 zcs fm q d kd f tb kb g h0 n0 _ T2.heap _
      exact ⟨(congrArg (fun z => some (Value.int z)) (by rw [own_sw0]; simp only [if_pos hc10_3])), N1, e2⟩
  · obtain ⟨cq4, kq4, q4a, q4b, q4c⟩ := isOf hZ e2 E_a3
    obtain ⟨_, _, ⟨T4, L4, k4, n4⟩, -, X4, ⟨Lc4, hQ4, l4, y4, z4⟩, st4⟩ := X2.virtualBack hx (y := (⟨"java/lang/String", "length", "()I"⟩ : MethodName)) (z := (⟨"java/lang/String", "length", "()I"⟩ : MethodName)) hown (mvT hZ (hw _ (List.mem_of_getElem? (i := 71) rfl))) (mvT hZ (hw _ (List.mem_of_getElem? (i := 72) rfl))) (notFace_of_selects (args := #[]) (mvT hZ (hw _ (List.mem_of_getElem? (i := 74) rfl)))) (mvT hZ (hw _ (List.mem_of_getElem? (i := 74) rfl))) (mvT hZ (hw _ (List.mem_of_getElem? (i := 73) rfl))) (by decide) (backOf (W := 1) (rmlen0 l Z a0 hw [] a3 zcs tb kb g h0 n0 Z0 S_COMPACT_STRINGS hCS E_a3 F_value_a3 F_coder_a3 A_tb) hZ (hw _ (List.mem_of_getElem? (i := 75) rfl)) (hw _ (List.mem_of_getElem? (i := 40) rfl)) (by decide) (by decide)) q4a q4c (g := (mkF m 19 #[vr a1, vi p2, vr a3, vi (0 : Int32)] [(.ref a3), (.int (0 : Int32))])) rfl (by rw [hml]; rfl) (Steps.refl _) (argsL := []) (rest := [(.int (0 : Int32))]) (lenOf pd_7 rfl) rfl (by show 2 * 0 + _ ≤ _; exact Nat.le_of_eq rfl) (hb hby d12_19) (fun _ _ => ⟨rfl, e2, (by decide : 0 + 0 ≤ _), (by decide : 0 + 0 ≤ _)⟩)
    dsimp only [Pt.U, Pt.locs, Pt.cells, Pt.slots] at X4 l4 y4 z4 st4 hQ4
    subst y4 z4
    obtain ⟨rfl, N4q, eq4⟩ := hQ4
    have N4 : Fr n0 L4 := by rw [l4]; exact Fr.app N1 N4q
    obtain ⟨fs, hr, hrun, hended, hW, hsame⟩ := X4.leave (v := some (.int (1 : Int32))) (fun h => by rw [Bd.returns] at h; cases h)
    refine ⟨_, _, ?_, hrun, hended, _, _, rfl, ?_, ⟨_, rfl⟩, hW, hsame.mono (by decide) (by decide)⟩
    · show Steps p.tables e below (T2.setTop (mkF m 10 #[vr a1, vi p2, vr a3, .unset] [(.int (q - p2)), (.int (0 : Int32))])) _
      refine XS.icmpYes X2.here hx rfl (pc0 := 10) (pc' := 15) rfl (hb hby d12_10) rfl ((flt hc10_3).2.2.2) (by decide) (by decide) ?_
      refine XS.iconst X2.here hx rfl (hb hby d12_15) ?_
      refine XS.istoreN X2.here hx rfl (hb hby d12_16) rfl (l' := #[vr a1, vi p2, vr a3, vi (0 : Int32)]) rfl ?_
      refine XS.iloadN X2.here hx rfl (hb hby d12_17) rfl ?_
      refine XS.aloadN X2.here hx rfl (hb hby d12_18) rfl rfl ?_
      refine st4.trans ?_
      show Steps p.tables e below (T4.setTop (mkF m 22 #[vr a1, vi p2, vr a3, vi (0 : Int32)] [(.int (0 : Int32)), (.int (0 : Int32))])) _
      refine XS.icmpYes X4.here hx rfl (pc0 := 22) (pc' := 49) rfl (hb hby d12_22) rfl ((flt (by decide : ¬ ((0 : Int32) < (0 : Int32)))).2.1) (by decide) (by decide) ?_
      refine XS.iconst X4.here hx rfl (hb hby d12_49) ?_
      exact retN X4 hx (t := .boolean) Bd.returns (by simp) (hb hby d12_50) hr
    · show Qsw0 Z a1 p2 a3 zcs fm q d kd f tb kb g h0 n0 _ T4.heap _
      exact ⟨(congrArg (fun z => some (Value.int z)) (by rw [own_sw0]; simp only [if_neg hc10_3])), N4, eq4⟩
theorem d11_0 : decode prog_45_method_4_code 0 = .ok (.aload_n 0, 1) := by decide +kernel
theorem d11_1 : decode prog_45_method_4_code 1 = .ok (.aload_n 0, 1) := by decide +kernel
theorem d11_2 : decode prog_45_method_4_code 2 = .ok (.getfield 26, 3) := by decide +kernel
theorem d11_5 : decode prog_45_method_4_code 5 = .ok (.aload_n 1, 1) := by decide +kernel
theorem d11_6 : decode prog_45_method_4_code 6 = .ok (.invokevirtual 29, 3) := by decide +kernel
theorem d11_9 : decode prog_45_method_4_code 9 = .ok (.ireturn, 1) := by decide +kernel
theorem pd_8 : parseMethodDescriptor "(ILjava/lang/String;)Z" = some ⟨[.int, (.object "java/lang/String")], some .boolean⟩ := by decide +kernel
theorem ef_rmla0 (m : MethodId) (a1 : Addr) (a2 : Addr) : entryFrame m #[(.ref a1), (.ref a2)] 2 = mkF m 0 #[vr a1, vr a2] [] := by first | (simp [entryFrame, mkF, argsToLocals, Value.category]; done) | rfl
def Qla0 (Z : State) (a1 : Addr) (a2 : Addr) (w : Int32) (zcs : Int32) (fm : Value) (q : Int32) (d : Addr) (kd : ClassId) (f : Nat → Int32) (tb : Addr) (kb : ClassId) (g : Nat → Int32) (h0 : Heap) (n0 : Nat) (v : Option Value) (h : Heap) (L : List Loc) : Prop := v = some (.int (own_sw0 w q)) ∧ Fr n0 L ∧ h = h0
set_option maxRecDepth 65536 in
set_option maxHeartbeats 40000000 in
theorem rmla0 (l : Launch) (Z : State) (a0 : Array Value) (hw : ∀ d ∈ tables_1, d.before a0 Z = true) (ws : List Jvm.Cond) (a1 : Addr) (a2 : Addr) (w : Int32) (zcs : Int32) (fm : Value) (q : Int32) (d : Addr) (kd : ClassId) (f : Nat → Int32) (tb : Addr) (kb : ClassId) (g : Nat → Int32) (h0 : Heap) (n0 : Nat) (Z0 : n0 ≤ h0.size) (S_COMPACT_STRINGS : Sta Z h0 "java/lang/String" "COMPACT_STRINGS" "Z" (.int zcs)) (hCS : ¬ zcs = 0) (S_SIOOBE_FORMATTER : Sta Z h0 "jdk/internal/util/Preconditions" "SIOOBE_FORMATTER" "Ljava/util/function/BiFunction;" fm) (hfm : fm.isRef = true) (E_a1 : Exa Z h0 a1 "com/example/verdict/verdict/saml/XmlScanner") (F_pos_a1 : Fld Z h0 a1 "com/example/verdict/verdict/saml/XmlScanner" "pos" "I" (.int w)) (F_end_a1 : Fld Z h0 a1 "com/example/verdict/verdict/saml/XmlScanner" "end" "I" (.int q)) (F_doc_a1 : Fld Z h0 a1 "com/example/verdict/verdict/saml/XmlScanner" "doc" "[B" (.ref d)) (A_d : AV Z h0 d kd .byte 5 (fun i => Value.int (f i))) (E_a2 : Exa Z h0 a2 "java/lang/String") (F_value_a2 : Fld Z h0 a2 "java/lang/String" "value" "[B" (.ref tb)) (F_coder_a2 : Fld Z h0 a2 "java/lang/String" "coder" "B" (.int (0 : Int32))) (A_tb : AV Z h0 tb kb .byte 0 (fun i => Value.int (g i))) (hok : ∀ i, own_ok (g i)) (hp : w = 0 ∨ w = 1) :
    MetFree l (⟨"com/example/verdict/verdict/saml/XmlScanner", "lookingAt", "(Ljava/lang/String;)Z"⟩ : MethodName) (head1 (Jvm.Cond.code (⟨"com/example/verdict/verdict/saml/XmlScanner", "lookingAt", "(Ljava/lang/String;)Z"⟩ : MethodName) prog_45_method_4_code 2 (some .boolean) :: ws) ({ frames := 3, cells := 0, slots := 0, locals := 41 } : Room)) (fun a U => a = #[(.ref a1), (.ref a2)] ∧ Z.Warmed39 U.vm ∧ U.heap = h0) (fun _ _ _ _ _ => True) (fun _ U o U' => ∃ v L, o = .returned v ∧ Qla0 Z a1 a2 w zcs fm q d kd f tb kb g h0 n0 v U'.heap L ∧ FrameEnd U o U' L ({ frames := 3, cells := 0, slots := 0, locals := 41 } : Room).cells ({ frames := 3, cells := 0, slots := 0, locals := 41 } : Room).slots) := by
  refine MetFree.of_bodySF (plainFor_of_name pn_2) hisR ?_
  intro p e s m args below meth c s₁ Bd hml0 hP hK
  obtain ⟨rfl, hZ, hh⟩ := hP
  have hx := Bd.exec
  have hby := Bd.bytes
  have hml : c.maxLocals = 2 := hml0
  have hown : s.vm.findClass "com/example/verdict/verdict/saml/XmlScanner" = some m.cls := findClass_of_methodNamed Bd.named
  have hnm := (name_of_methodNamed Bd.named Bd.method).1
  have X0 : Stand p l e ({ frames := 3, cells := 0, slots := 0, locals := 41 } : Room) s m #[(.ref a1), (.ref a2)] below meth c s₁ [] 0 0 := Stand.of_body Bd
  have e0 : s₁.heap = h0 := by rw [← hh, Bd.state]; rfl
  have N0 := Fr.nil n0
  show GoalS p.tables e below s ({ frames := 3, cells := 0, slots := 0, locals := 41 } : Room).cells ({ frames := 3, cells := 0, slots := 0, locals := 41 } : Room).slots (Qla0 Z a1 a2 w zcs fm q d kd f tb kb g h0 n0) (s₁.setTop (entryFrame m #[(.ref a1), (.ref a2)] 2))
  refine GoalS.lift (B := s₁.setTop (mkF m 0 #[vr a1, vr a2] [])) (fun t k => castTop (ef_rmla0 m a1 a2) k) ?_
  have K0 : Keep h0 h0 [] := Keep.refl _ _
  obtain ⟨T1, X1, e1, st1⟩ := getF X0 hx hZ hown (host := "") (Or.inl (hw _ (List.mem_of_getElem? (i := 29) rfl))) Via.refl e0 F_pos_a1 (g := (mkF m 2 #[vr a1, vr a2] [(.ref a1), (.ref a1)])) rfl rfl (hb hby d11_2)
  obtain ⟨cq2, q2, q2'⟩ := E_a1.cell
  obtain ⟨_, _, ⟨T2, L2, k2, n2⟩, -, X2, ⟨Lc2, hQ2, l2, y2, z2⟩, st2⟩ := X1.privateBack hx (y := (⟨"com/example/verdict/verdict/saml/XmlScanner", "startsWith", "(ILjava/lang/String;)Z"⟩ : MethodName)) hown (mvT hZ (hw _ (List.mem_of_getElem? (i := 67) rfl))) (mvT hZ (hw _ (List.mem_of_getElem? (i := 68) rfl))) (own_selp (y := (⟨"com/example/verdict/verdict/saml/XmlScanner", "startsWith", "(ILjava/lang/String;)Z"⟩ : MethodName)) (mvT hZ (hw _ (List.mem_of_getElem? (i := 2) rfl))) (mvP hZ (hw _ (List.mem_of_getElem? (i := 69) rfl))) (mvT hZ (hw _ (List.mem_of_getElem? (i := 68) rfl))) (by decide)) (Cond.privateMethod_at (mvP hZ (hw _ (List.mem_of_getElem? (i := 69) rfl)) (args := #[]))) (mvT hZ (hw _ (List.mem_of_getElem? (i := 70) rfl))) (by decide) (backOf (W := 0) (rmsw0 l Z a0 hw [] a1 w a2 zcs fm q d kd f tb kb g h0 n0 Z0 S_COMPACT_STRINGS hCS S_SIOOBE_FORMATTER hfm E_a1 F_end_a1 F_doc_a1 A_d E_a2 F_value_a2 F_coder_a2 A_tb hok hp) hZ (hw _ (List.mem_of_getElem? (i := 70) rfl)) (hw _ (List.mem_of_getElem? (i := 3) rfl)) (by decide) (by decide)) (g := (mkF m 6 #[vr a1, vr a2] [(.ref a2), (.int w), (.ref a1)])) rfl (by rw [hml]; rfl) (Steps.refl _) (a := a1) (by rw [e1]; exact q2) q2' (argsL := [(.int w), (.ref a2)]) (rest := []) (lenOf pd_8 rfl) rfl (by show 2 * 0 + _ ≤ _; exact Nat.le_of_eq rfl) (hb hby d11_6) (fun _ _ => ⟨rfl, e1, (by decide : 0 + 0 ≤ _), (by decide : 0 + 0 ≤ _)⟩)
  dsimp only [Pt.U, Pt.locs, Pt.cells, Pt.slots] at X2 l2 y2 z2 st2 hQ2
  subst y2 z2
  obtain ⟨rfl, N2q, eq2⟩ := hQ2
  have N2 : Fr n0 L2 := by rw [l2]; exact Fr.app N0 N2q
  obtain ⟨fs, hr, hrun, hended, hW, hsame⟩ := X2.leave (v := some (.int ((own_sw0 w q) &&& 1))) (fun h => by rw [Bd.returns] at h; cases h)
  refine ⟨_, _, ?_, hrun, hended, _, _, rfl, ?_, ⟨_, rfl⟩, hW, hsame.mono (by decide) (by decide)⟩
  · show Steps p.tables e below (s₁.setTop (mkF m 0 #[vr a1, vr a2] [])) _
    refine XS.aloadN X0.here hx rfl (hb hby d11_0) rfl rfl ?_
    refine XS.aloadN X0.here hx rfl (hb hby d11_1) rfl rfl ?_
    refine st1 _ ?_
    refine XS.aloadN X1.here hx rfl (hb hby d11_5) rfl rfl ?_
    refine st2.trans ?_
    exact retN X2 hx (t := .boolean) Bd.returns (by simp) (hb hby d11_9) hr
  · show Qla0 Z a1 a2 w zcs fm q d kd f tb kb g h0 n0 _ T2.heap _
    exact ⟨(congrArg (fun z => some (Value.int z)) own_swb0), N2, eq2⟩
theorem d10_0 : decode prog_45_method_5_code 0 = .ok (.aload_n 0, 1) := by decide +kernel
theorem d10_1 : decode prog_45_method_5_code 1 = .ok (.aload_n 1, 1) := by decide +kernel
theorem d10_2 : decode prog_45_method_5_code 2 = .ok (.invokevirtual 33, 3) := by decide +kernel
theorem d10_5 : decode prog_45_method_5_code 5 = .ok (.istore_n 2, 1) := by decide +kernel
theorem d10_6 : decode prog_45_method_5_code 6 = .ok (.iload_n 2, 1) := by decide +kernel
theorem d10_7 : decode prog_45_method_5_code 7 = .ok (.ifCond .eq 16, 3) := by decide +kernel
theorem d10_10 : decode prog_45_method_5_code 10 = .ok (.aload_n 0, 1) := by decide +kernel
theorem d10_11 : decode prog_45_method_5_code 11 = .ok (.dup, 1) := by decide +kernel
theorem d10_12 : decode prog_45_method_5_code 12 = .ok (.getfield 26, 3) := by decide +kernel
theorem d10_15 : decode prog_45_method_5_code 15 = .ok (.aload_n 1, 1) := by decide +kernel
theorem d10_16 : decode prog_45_method_5_code 16 = .ok (.invokevirtual 37, 3) := by decide +kernel
theorem d10_19 : decode prog_45_method_5_code 19 = .ok (.iadd, 1) := by decide +kernel
theorem d10_20 : decode prog_45_method_5_code 20 = .ok (.putfield 26, 3) := by decide +kernel
theorem d10_23 : decode prog_45_method_5_code 23 = .ok (.iload_n 2, 1) := by decide +kernel
theorem d10_24 : decode prog_45_method_5_code 24 = .ok (.ireturn, 1) := by decide +kernel
theorem pd_9 : parseMethodDescriptor "(Ljava/lang/String;)Z" = some ⟨[(.object "java/lang/String")], some .boolean⟩ := by decide +kernel
theorem ef_rmsk0 (m : MethodId) (a1 : Addr) (a2 : Addr) : entryFrame m #[(.ref a1), (.ref a2)] 3 = mkF m 0 #[vr a1, vr a2, .unset] [] := by first | (simp [entryFrame, mkF, argsToLocals, Value.category]; done) | rfl
def Qsk0 (Z : State) (a1 : Addr) (a2 : Addr) (w : Int32) (zcs : Int32) (fm : Value) (q : Int32) (d : Addr) (kd : ClassId) (f : Nat → Int32) (tb : Addr) (kb : ClassId) (g : Nat → Int32) (h0 : Heap) (n0 : Nat) (v : Option Value) (h : Heap) (L : List Loc) : Prop := ∃ (w2 : Int32), v = some (.int (own_sw0 w q)) ∧ Fr n0 L ∧ Keep h0 h [a1] ∧ (Exa Z h a1 "com/example/verdict/verdict/saml/XmlScanner") ∧ (Fld Z h a1 "com/example/verdict/verdict/saml/XmlScanner" "pos" "I" (.int w2)) ∧ (Fld Z h a1 "com/example/verdict/verdict/saml/XmlScanner" "end" "I" (.int q)) ∧ (w2 = (if (own_sw0 w q) = (0 : Int32) then w else (w + (0 : Int32))))
set_option maxRecDepth 65536 in
set_option maxHeartbeats 40000000 in
theorem rmsk0 (l : Launch) (Z : State) (a0 : Array Value) (hw : ∀ d ∈ tables_1, d.before a0 Z = true) (ws : List Jvm.Cond) (a1 : Addr) (a2 : Addr) (w : Int32) (zcs : Int32) (fm : Value) (q : Int32) (d : Addr) (kd : ClassId) (f : Nat → Int32) (tb : Addr) (kb : ClassId) (g : Nat → Int32) (h0 : Heap) (n0 : Nat) (Z0 : n0 ≤ h0.size) (S_COMPACT_STRINGS : Sta Z h0 "java/lang/String" "COMPACT_STRINGS" "Z" (.int zcs)) (hCS : ¬ zcs = 0) (S_SIOOBE_FORMATTER : Sta Z h0 "jdk/internal/util/Preconditions" "SIOOBE_FORMATTER" "Ljava/util/function/BiFunction;" fm) (hfm : fm.isRef = true) (E_a1 : Exa Z h0 a1 "com/example/verdict/verdict/saml/XmlScanner") (g_a1 : n0 ≤ a1) (F_pos_a1 : Fld Z h0 a1 "com/example/verdict/verdict/saml/XmlScanner" "pos" "I" (.int w)) (F_end_a1 : Fld Z h0 a1 "com/example/verdict/verdict/saml/XmlScanner" "end" "I" (.int q)) (F_doc_a1 : Fld Z h0 a1 "com/example/verdict/verdict/saml/XmlScanner" "doc" "[B" (.ref d)) (A_d : AV Z h0 d kd .byte 5 (fun i => Value.int (f i))) (E_a2 : Exa Z h0 a2 "java/lang/String") (F_value_a2 : Fld Z h0 a2 "java/lang/String" "value" "[B" (.ref tb)) (F_coder_a2 : Fld Z h0 a2 "java/lang/String" "coder" "B" (.int (0 : Int32))) (A_tb : AV Z h0 tb kb .byte 0 (fun i => Value.int (g i))) (ne_a1_a2 : a1 ≠ a2) (ne_a1_tb : a1 ≠ tb) (ne_a1_d : a1 ≠ d) (hok : ∀ i, own_ok (g i)) (hp : w = 0 ∨ w = 1) :
    MetFree l (⟨"com/example/verdict/verdict/saml/XmlScanner", "skip", "(Ljava/lang/String;)Z"⟩ : MethodName) (head1 (Jvm.Cond.code (⟨"com/example/verdict/verdict/saml/XmlScanner", "skip", "(Ljava/lang/String;)Z"⟩ : MethodName) prog_45_method_5_code 3 (some .boolean) :: ws) ({ frames := 4, cells := 0, slots := 0, locals := 54 } : Room)) (fun a U => a = #[(.ref a1), (.ref a2)] ∧ Z.Warmed39 U.vm ∧ U.heap = h0) (fun _ _ _ _ _ => True) (fun _ U o U' => ∃ v L, o = .returned v ∧ Qsk0 Z a1 a2 w zcs fm q d kd f tb kb g h0 n0 v U'.heap L ∧ FrameEnd U o U' L ({ frames := 4, cells := 0, slots := 0, locals := 54 } : Room).cells ({ frames := 4, cells := 0, slots := 0, locals := 54 } : Room).slots) := by
  refine MetFree.of_bodySF (plainFor_of_name pn_2) hisR ?_
  intro p e s m args below meth c s₁ Bd hml0 hP hK
  obtain ⟨rfl, hZ, hh⟩ := hP
  have hx := Bd.exec
  have hby := Bd.bytes
  have hml : c.maxLocals = 3 := hml0
  have hown : s.vm.findClass "com/example/verdict/verdict/saml/XmlScanner" = some m.cls := findClass_of_methodNamed Bd.named
  have hnm := (name_of_methodNamed Bd.named Bd.method).1
  have X0 : Stand p l e ({ frames := 4, cells := 0, slots := 0, locals := 54 } : Room) s m #[(.ref a1), (.ref a2)] below meth c s₁ [] 0 0 := Stand.of_body Bd
  have e0 : s₁.heap = h0 := by rw [← hh, Bd.state]; rfl
  have N0 := Fr.nil n0
  show GoalS p.tables e below s ({ frames := 4, cells := 0, slots := 0, locals := 54 } : Room).cells ({ frames := 4, cells := 0, slots := 0, locals := 54 } : Room).slots (Qsk0 Z a1 a2 w zcs fm q d kd f tb kb g h0 n0) (s₁.setTop (entryFrame m #[(.ref a1), (.ref a2)] 3))
  refine GoalS.lift (B := s₁.setTop (mkF m 0 #[vr a1, vr a2, .unset] [])) (fun t k => castTop (ef_rmsk0 m a1 a2) k) ?_
  have K0 : Keep h0 h0 [a1] := Keep.refl _ _
  obtain ⟨cq1, kq1, q1a, q1b, q1c⟩ := isOf hZ e0 E_a1
  obtain ⟨_, _, ⟨T1, L1, k1, n1⟩, -, X1, ⟨Lc1, hQ1, l1, y1, z1⟩, st1⟩ := X0.virtualBack hx (y := (⟨"com/example/verdict/verdict/saml/XmlScanner", "lookingAt", "(Ljava/lang/String;)Z"⟩ : MethodName)) (z := (⟨"com/example/verdict/verdict/saml/XmlScanner", "lookingAt", "(Ljava/lang/String;)Z"⟩ : MethodName)) hown (mvT hZ (hw _ (List.mem_of_getElem? (i := 62) rfl))) (mvT hZ (hw _ (List.mem_of_getElem? (i := 63) rfl))) (notFace_of_selects (args := #[]) (mvT hZ (hw _ (List.mem_of_getElem? (i := 65) rfl)))) (mvT hZ (hw _ (List.mem_of_getElem? (i := 65) rfl))) (mvT hZ (hw _ (List.mem_of_getElem? (i := 64) rfl))) (by decide) (backOf (W := 0) (rmla0 l Z a0 hw [] a1 a2 w zcs fm q d kd f tb kb g h0 n0 Z0 S_COMPACT_STRINGS hCS S_SIOOBE_FORMATTER hfm E_a1 F_pos_a1 F_end_a1 F_doc_a1 A_d E_a2 F_value_a2 F_coder_a2 A_tb hok hp) hZ (hw _ (List.mem_of_getElem? (i := 66) rfl)) (hw _ (List.mem_of_getElem? (i := 3) rfl)) (by decide) (by decide)) q1a q1c (g := (mkF m 2 #[vr a1, vr a2, .unset] [(.ref a2), (.ref a1)])) rfl (by rw [hml]; rfl) (Steps.refl _) (argsL := [(.ref a2)]) (rest := []) (lenOf pd_9 rfl) rfl (by show 2 * 0 + _ ≤ _; exact Nat.le_of_eq rfl) (hb hby d10_2) (fun _ _ => ⟨rfl, e0, (by decide : 0 + 0 ≤ _), (by decide : 0 + 0 ≤ _)⟩)
  dsimp only [Pt.U, Pt.locs, Pt.cells, Pt.slots] at X1 l1 y1 z1 st1 hQ1
  subst y1 z1
  obtain ⟨rfl, N1q, eq1⟩ := hQ1
  have N1 : Fr n0 L1 := by rw [l1]; exact Fr.app N0 N1q
  refine GoalS.lift (B := (T1.setTop (mkF m 7 #[vr a1, vr a2, vi (own_sw0 w q)] [(.int (own_sw0 w q))]))) (fun t k => ?_) ?_
  · show Steps p.tables e below (s₁.setTop (mkF m 0 #[vr a1, vr a2, .unset] [])) _
    refine XS.aloadN X0.here hx rfl (hb hby d10_0) rfl rfl ?_
    refine XS.aloadN X0.here hx rfl (hb hby d10_1) rfl rfl ?_
    refine st1.trans ?_
    refine XS.istoreN X1.here hx rfl (hb hby d10_5) rfl (l' := #[vr a1, vr a2, vi (own_sw0 w q)]) rfl ?_
    refine XS.iloadN X1.here hx rfl (hb hby d10_6) rfl ?_
    exact k
  by_cases hc7_2 : (own_sw0 w q) = (0 : Int32)
  · obtain ⟨fs, hr, hrun, hended, hW, hsame⟩ := X1.leave (v := some (.int ((own_sw0 w q) &&& 1))) (fun h => by rw [Bd.returns] at h; cases h)
    refine ⟨_, _, ?_, hrun, hended, _, _, rfl, ?_, ⟨_, rfl⟩, hW, hsame.mono (by decide) (by decide)⟩
    · show Steps p.tables e below (T1.setTop (mkF m 7 #[vr a1, vr a2, vi (own_sw0 w q)] [(.int (own_sw0 w q))])) _
      refine XS.ifYes X1.here hx rfl (pc0 := 7) (pc' := 23) rfl (hb hby d10_7) rfl ((if0 _ _).trans (teq hc7_2).1) (by decide) (by decide) ?_
      refine XS.iloadN X1.here hx rfl (hb hby d10_23) rfl ?_
      exact retN X1 hx (t := .boolean) Bd.returns (by simp) (hb hby d10_24) hr
    · show Qsk0 Z a1 a2 w zcs fm q d kd f tb kb g h0 n0 _ T1.heap _
      rw [eq1]
      exact ⟨w, (congrArg (fun z => some (Value.int z)) own_swb0), N1, K0, E_a1, F_pos_a1, F_end_a1, (by simp only [if_pos hc7_2])⟩
  · obtain ⟨T3, X3, e3, st3⟩ := getF X1 hx hZ hown (host := "") (Or.inl (hw _ (List.mem_of_getElem? (i := 29) rfl))) Via.refl eq1 F_pos_a1 (g := (mkF m 12 #[vr a1, vr a2, vi (own_sw0 w q)] [(.ref a1), (.ref a1)])) rfl rfl (hb hby d10_12)
    obtain ⟨cq4, kq4, q4a, q4b, q4c⟩ := isOf hZ e3 E_a2
    obtain ⟨_, _, ⟨T4, L4, k4, n4⟩, -, X4, ⟨Lc4, hQ4, l4, y4, z4⟩, st4⟩ := X3.virtualBack hx (y := (⟨"java/lang/String", "length", "()I"⟩ : MethodName)) (z := (⟨"java/lang/String", "length", "()I"⟩ : MethodName)) hown (mvT hZ (hw _ (List.mem_of_getElem? (i := 71) rfl))) (mvT hZ (hw _ (List.mem_of_getElem? (i := 72) rfl))) (notFace_of_selects (args := #[]) (mvT hZ (hw _ (List.mem_of_getElem? (i := 74) rfl)))) (mvT hZ (hw _ (List.mem_of_getElem? (i := 74) rfl))) (mvT hZ (hw _ (List.mem_of_getElem? (i := 73) rfl))) (by decide) (backOf (W := 2) (rmlen0 l Z a0 hw [] a2 zcs tb kb g h0 n0 Z0 S_COMPACT_STRINGS hCS E_a2 F_value_a2 F_coder_a2 A_tb) hZ (hw _ (List.mem_of_getElem? (i := 75) rfl)) (hw _ (List.mem_of_getElem? (i := 40) rfl)) (by decide) (by decide)) q4a q4c (g := (mkF m 16 #[vr a1, vr a2, vi (own_sw0 w q)] [(.ref a2), (.int w), (.ref a1)])) rfl (by rw [hml]; rfl) (Steps.refl _) (argsL := []) (rest := [(.int w), (.ref a1)]) (lenOf pd_7 rfl) rfl (by show 2 * 0 + _ ≤ _; exact Nat.le_of_eq rfl) (hb hby d10_16) (fun _ _ => ⟨rfl, e3, (by decide : 0 + 0 ≤ _), (by decide : 0 + 0 ≤ _)⟩)
    dsimp only [Pt.U, Pt.locs, Pt.cells, Pt.slots] at X4 l4 y4 z4 st4 hQ4
    subst y4 z4
    obtain ⟨rfl, N4q, eq4⟩ := hQ4
    have N4 : Fr n0 L4 := by rw [l4]; exact Fr.app N1 N4q
    obtain ⟨T5, h5, X5, e5, W5, st5⟩ := putF X4 hx hZ hown (host := "") (Or.inl (hw _ (List.mem_of_getElem? (i := 29) rfl))) Via.refl eq4 F_pos_a1 E_a1 (Or.inl (hw _ (List.mem_of_getElem? (i := 30) rfl))) (hw _ (List.mem_of_getElem? (i := 2) rfl)) (ty := .int) (by decide) rfl rfl (g := (mkF m 20 #[vr a1, vr a2, vi (own_sw0 w q)] [(.int (w + (0 : Int32))), (.ref a1)])) rfl rfl (hb hby d10_20)
    have z6 : n0 ≤ h5.size := Nat.le_trans Z0 (Keep.of_wr W5).1
    have K7 : Keep h0 h5 [a1] := K0.wr W5 (Or.inl (List.mem_of_getElem? (i := 0) rfl))
    have Fw5 : Fld Z h5 a1 "com/example/verdict/verdict/saml/XmlScanner" "pos" "I" (.int (w + (0 : Int32))) := F_pos_a1.same W5
    have N5 := Fr.snoc X5 N4 g_a1
    obtain ⟨fs, hr, hrun, hended, hW, hsame⟩ := X5.leave (v := some (.int ((own_sw0 w q) &&& 1))) (fun h => by rw [Bd.returns] at h; cases h)
    refine ⟨_, _, ?_, hrun, hended, _, _, rfl, ?_, ⟨_, rfl⟩, hW, hsame.mono (by decide) (by decide)⟩
    · show Steps p.tables e below (T1.setTop (mkF m 7 #[vr a1, vr a2, vi (own_sw0 w q)] [(.int (own_sw0 w q))])) _
      refine XS.ifNo X1.here hx rfl (hb hby d10_7) rfl ((if0 _ _).trans (feq hc7_2).1) ?_
      refine XS.aloadN X1.here hx rfl (hb hby d10_10) rfl rfl ?_
      refine XS.dup X1.here hx rfl (hb hby d10_11) rfl rfl ?_
      refine st3 _ ?_
      refine XS.aloadN X3.here hx rfl (hb hby d10_15) rfl rfl ?_
      refine st4.trans ?_
      show Steps p.tables e below (T4.setTop (mkF m 19 #[vr a1, vr a2, vi (own_sw0 w q)] [(.int (0 : Int32)), (.int w), (.ref a1)])) _
      refine XS.iadd X4.here hx rfl (hb hby d10_19) rfl ?_
      refine st5 _ ?_
      refine XS.iloadN X5.here hx rfl (hb hby d10_23) rfl ?_
      exact retN X5 hx (t := .boolean) Bd.returns (by simp) (hb hby d10_24) hr
    · have f8 : Exa Z h5 a1 "com/example/verdict/verdict/saml/XmlScanner" := (E_a1.wr W5)
      have f9 : Fld Z h5 a1 "com/example/verdict/verdict/saml/XmlScanner" "end" "I" (.int q) := (F_end_a1.other W5 (Or.inr (slot_ne (Or.inr (hw _ (List.mem_of_getElem? (i := 23) rfl))) (Or.inl (hw _ (List.mem_of_getElem? (i := 30) rfl))) (by decide) (t := .int) (t' := .int) (by decide) (by decide))))
      show Qsk0 Z a1 a2 w zcs fm q d kd f tb kb g h0 n0 _ T5.heap _
      rw [e5]
      exact ⟨(w + (0 : Int32)), (congrArg (fun z => some (Value.int z)) own_swb0), N5, K7, f8, Fw5, f9, (by simp only [if_neg hc7_2])⟩
theorem d12_25 : decode prog_45_method_34_code 25 = .ok (.aload_n 0, 1) := by decide +kernel
theorem d12_26 : decode prog_45_method_34_code 26 = .ok (.getfield 19, 3) := by decide +kernel
theorem d12_29 : decode prog_45_method_34_code 29 = .ok (.iload_n 1, 1) := by decide +kernel
theorem d12_30 : decode prog_45_method_34_code 30 = .ok (.iload_n 3, 1) := by decide +kernel
theorem d12_31 : decode prog_45_method_34_code 31 = .ok (.iadd, 1) := by decide +kernel
theorem d12_32 : decode prog_45_method_34_code 32 = .ok (.baload, 1) := by decide +kernel
theorem d12_33 : decode prog_45_method_34_code 33 = .ok (.aload_n 2, 1) := by decide +kernel
theorem d12_34 : decode prog_45_method_34_code 34 = .ok (.iload_n 3, 1) := by decide +kernel
theorem d12_35 : decode prog_45_method_34_code 35 = .ok (.invokevirtual 129, 3) := by decide +kernel
theorem d12_38 : decode prog_45_method_34_code 38 = .ok (.if_icmp .eq 5, 3) := by decide +kernel
theorem d12_41 : decode prog_45_method_34_code 41 = .ok (.iconst 0, 1) := by decide +kernel
theorem d12_42 : decode prog_45_method_34_code 42 = .ok (.ireturn, 1) := by decide +kernel
theorem d12_43 : decode prog_45_method_34_code 43 = .ok (.iinc 3 1, 3) := by decide +kernel
theorem d12_46 : decode prog_45_method_34_code 46 = .ok (.goto (-29), 3) := by decide +kernel
theorem pd_10 : parseMethodDescriptor "(I)C" = some ⟨[.int], some .char⟩ := by decide +kernel
theorem ef_rmsw1 (m : MethodId) (a1 : Addr) (p2 : Int32) (a3 : Addr) : entryFrame m #[(.ref a1), (.int p2), (.ref a3)] 4 = mkF m 0 #[vr a1, vi p2, vr a3, .unset] [] := by first | (simp [entryFrame, mkF, argsToLocals, Value.category]; done) | rfl
def Qsw1 (Z : State) (a1 : Addr) (p2 : Int32) (a3 : Addr) (zcs : Int32) (fm : Value) (q : Int32) (d : Addr) (kd : ClassId) (f : Nat → Int32) (tb : Addr) (kb : ClassId) (g : Nat → Int32) (h0 : Heap) (n0 : Nat) (v : Option Value) (h : Heap) (L : List Loc) : Prop := v = some (.int (own_sw1 p2 q f g)) ∧ Fr n0 L ∧ h = h0
set_option maxRecDepth 65536 in
set_option maxHeartbeats 40000000 in
theorem rmsw1 (l : Launch) (Z : State) (a0 : Array Value) (hw : ∀ d ∈ tables_1, d.before a0 Z = true) (ws : List Jvm.Cond) (a1 : Addr) (p2 : Int32) (a3 : Addr) (zcs : Int32) (fm : Value) (q : Int32) (d : Addr) (kd : ClassId) (f : Nat → Int32) (tb : Addr) (kb : ClassId) (g : Nat → Int32) (h0 : Heap) (n0 : Nat) (Z0 : n0 ≤ h0.size) (S_COMPACT_STRINGS : Sta Z h0 "java/lang/String" "COMPACT_STRINGS" "Z" (.int zcs)) (hCS : ¬ zcs = 0) (S_SIOOBE_FORMATTER : Sta Z h0 "jdk/internal/util/Preconditions" "SIOOBE_FORMATTER" "Ljava/util/function/BiFunction;" fm) (hfm : fm.isRef = true) (E_a1 : Exa Z h0 a1 "com/example/verdict/verdict/saml/XmlScanner") (F_end_a1 : Fld Z h0 a1 "com/example/verdict/verdict/saml/XmlScanner" "end" "I" (.int q)) (F_doc_a1 : Fld Z h0 a1 "com/example/verdict/verdict/saml/XmlScanner" "doc" "[B" (.ref d)) (A_d : AV Z h0 d kd .byte 5 (fun i => Value.int (f i))) (E_a3 : Exa Z h0 a3 "java/lang/String") (F_value_a3 : Fld Z h0 a3 "java/lang/String" "value" "[B" (.ref tb)) (F_coder_a3 : Fld Z h0 a3 "java/lang/String" "coder" "B" (.int (0 : Int32))) (A_tb : AV Z h0 tb kb .byte 1 (fun i => Value.int (g i))) (hok : ∀ i, own_ok (g i)) (hp : p2 = 0 ∨ p2 = 1) :
    MetFree l (⟨"com/example/verdict/verdict/saml/XmlScanner", "startsWith", "(ILjava/lang/String;)Z"⟩ : MethodName) (head1 (Jvm.Cond.code (⟨"com/example/verdict/verdict/saml/XmlScanner", "startsWith", "(ILjava/lang/String;)Z"⟩ : MethodName) prog_45_method_34_code 4 (some .boolean) :: ws) ({ frames := 4, cells := 0, slots := 0, locals := 54 } : Room)) (fun a U => a = #[(.ref a1), (.int p2), (.ref a3)] ∧ Z.Warmed39 U.vm ∧ U.heap = h0) (fun _ _ _ _ _ => True) (fun _ U o U' => ∃ v L, o = .returned v ∧ Qsw1 Z a1 p2 a3 zcs fm q d kd f tb kb g h0 n0 v U'.heap L ∧ FrameEnd U o U' L ({ frames := 4, cells := 0, slots := 0, locals := 54 } : Room).cells ({ frames := 4, cells := 0, slots := 0, locals := 54 } : Room).slots) := by
  refine MetFree.of_bodySF (plainFor_of_name pn_2) hisR ?_
  intro p e s m args below meth c s₁ Bd hml0 hP hK
  obtain ⟨rfl, hZ, hh⟩ := hP
  have hx := Bd.exec
  have hby := Bd.bytes
  have hml : c.maxLocals = 4 := hml0
  have hown : s.vm.findClass "com/example/verdict/verdict/saml/XmlScanner" = some m.cls := findClass_of_methodNamed Bd.named
  have hnm := (name_of_methodNamed Bd.named Bd.method).1
  have X0 : Stand p l e ({ frames := 4, cells := 0, slots := 0, locals := 54 } : Room) s m #[(.ref a1), (.int p2), (.ref a3)] below meth c s₁ [] 0 0 := Stand.of_body Bd
  have e0 : s₁.heap = h0 := by rw [← hh, Bd.state]; rfl
  have N0 := Fr.nil n0
  show GoalS p.tables e below s ({ frames := 4, cells := 0, slots := 0, locals := 54 } : Room).cells ({ frames := 4, cells := 0, slots := 0, locals := 54 } : Room).slots (Qsw1 Z a1 p2 a3 zcs fm q d kd f tb kb g h0 n0) (s₁.setTop (entryFrame m #[(.ref a1), (.int p2), (.ref a3)] 4))
  refine GoalS.lift (B := s₁.setTop (mkF m 0 #[vr a1, vi p2, vr a3, .unset] [])) (fun t k => castTop (ef_rmsw1 m a1 p2 a3) k) ?_
  have K0 : Keep h0 h0 [] := Keep.refl _ _
  obtain ⟨cq1, kq1, q1a, q1b, q1c⟩ := isOf hZ e0 E_a3
  obtain ⟨_, _, ⟨T1, L1, k1, n1⟩, -, X1, ⟨Lc1, hQ1, l1, y1, z1⟩, st1⟩ := X0.virtualBack hx (y := (⟨"java/lang/String", "length", "()I"⟩ : MethodName)) (z := (⟨"java/lang/String", "length", "()I"⟩ : MethodName)) hown (mvT hZ (hw _ (List.mem_of_getElem? (i := 71) rfl))) (mvT hZ (hw _ (List.mem_of_getElem? (i := 72) rfl))) (notFace_of_selects (args := #[]) (mvT hZ (hw _ (List.mem_of_getElem? (i := 74) rfl)))) (mvT hZ (hw _ (List.mem_of_getElem? (i := 74) rfl))) (mvT hZ (hw _ (List.mem_of_getElem? (i := 73) rfl))) (by decide) (backOf (W := 0) (rmlen1 l Z a0 hw [] a3 zcs tb kb g h0 n0 Z0 S_COMPACT_STRINGS hCS E_a3 F_value_a3 F_coder_a3 A_tb) hZ (hw _ (List.mem_of_getElem? (i := 75) rfl)) (hw _ (List.mem_of_getElem? (i := 40) rfl)) (by decide) (by decide)) q1a q1c (g := (mkF m 1 #[vr a1, vi p2, vr a3, .unset] [(.ref a3)])) rfl (by rw [hml]; rfl) (Steps.refl _) (argsL := []) (rest := []) (lenOf pd_7 rfl) rfl (by show 2 * 0 + _ ≤ _; exact Nat.le_of_eq rfl) (hb hby d12_1) (fun _ _ => ⟨rfl, e0, (by decide : 0 + 0 ≤ _), (by decide : 0 + 0 ≤ _)⟩)
  dsimp only [Pt.U, Pt.locs, Pt.cells, Pt.slots] at X1 l1 y1 z1 st1 hQ1
  subst y1 z1
  obtain ⟨rfl, N1q, eq1⟩ := hQ1
  have N1 : Fr n0 L1 := by rw [l1]; exact Fr.app N0 N1q
  obtain ⟨T2, X2, e2, st2⟩ := getF X1 hx hZ hown (host := "") (Or.inl (hw _ (List.mem_of_getElem? (i := 22) rfl))) Via.refl eq1 F_end_a1 (g := (mkF m 5 #[vr a1, vi p2, vr a3, .unset] [(.ref a1), (.int (1 : Int32))])) rfl rfl (hb hby d12_5)
  refine GoalS.lift (B := (T2.setTop (mkF m 10 #[vr a1, vi p2, vr a3, .unset] [(.int (q - p2)), (.int (1 : Int32))]))) (fun t k => ?_) ?_
  · show Steps p.tables e below (s₁.setTop (mkF m 0 #[vr a1, vi p2, vr a3, .unset] [])) _
    refine XS.aloadN X0.here hx rfl (hb hby d12_0) rfl rfl ?_
    refine st1.trans ?_
    refine XS.aloadN X1.here hx rfl (hb hby d12_4) rfl rfl ?_
    refine st2 _ ?_
    refine XS.iloadN X2.here hx rfl (hb hby d12_8) rfl ?_
    refine XS.isub X2.here hx rfl (hb hby d12_9) rfl ?_
    show Steps p.tables e below (T2.setTop (mkF m 10 #[vr a1, vi p2, vr a3, .unset] [(.int (q - p2)), (.int (1 : Int32))])) _
    exact k
  by_cases hc10_3 : (q - p2) < (1 : Int32)
  · obtain ⟨fs, hr, hrun, hended, hW, hsame⟩ := X2.leave (v := some (.int (0 : Int32))) (fun h => by rw [Bd.returns] at h; cases h)
    refine ⟨_, _, ?_, hrun, hended, _, _, rfl, ?_, ⟨_, rfl⟩, hW, hsame.mono (by decide) (by decide)⟩
    · show Steps p.tables e below (T2.setTop (mkF m 10 #[vr a1, vi p2, vr a3, .unset] [(.int (q - p2)), (.int (1 : Int32))])) _
      refine XS.icmpNo X2.here hx rfl (hb hby d12_10) rfl ((tlt hc10_3).2.2.2) ?_
      refine XS.iconst X2.here hx rfl (hb hby d12_13) ?_
      exact retN X2 hx (t := .boolean) Bd.returns (by simp) (hb hby d12_14) hr
    · show Qsw1 Z a1 p2 a3 zcs fm q d kd f tb kb g h0 n0 _ T2.heap _
      exact ⟨(congrArg (fun z => some (Value.int z)) (by rw [own_sw1]; simp only [if_pos hc10_3])), N1, e2⟩
  · obtain ⟨cq4, kq4, q4a, q4b, q4c⟩ := isOf hZ e2 E_a3
    obtain ⟨_, _, ⟨T4, L4, k4, n4⟩, -, X4, ⟨Lc4, hQ4, l4, y4, z4⟩, st4⟩ := X2.virtualBack hx (y := (⟨"java/lang/String", "length", "()I"⟩ : MethodName)) (z := (⟨"java/lang/String", "length", "()I"⟩ : MethodName)) hown (mvT hZ (hw _ (List.mem_of_getElem? (i := 71) rfl))) (mvT hZ (hw _ (List.mem_of_getElem? (i := 72) rfl))) (notFace_of_selects (args := #[]) (mvT hZ (hw _ (List.mem_of_getElem? (i := 74) rfl)))) (mvT hZ (hw _ (List.mem_of_getElem? (i := 74) rfl))) (mvT hZ (hw _ (List.mem_of_getElem? (i := 73) rfl))) (by decide) (backOf (W := 1) (rmlen1 l Z a0 hw [] a3 zcs tb kb g h0 n0 Z0 S_COMPACT_STRINGS hCS E_a3 F_value_a3 F_coder_a3 A_tb) hZ (hw _ (List.mem_of_getElem? (i := 75) rfl)) (hw _ (List.mem_of_getElem? (i := 40) rfl)) (by decide) (by decide)) q4a q4c (g := (mkF m 19 #[vr a1, vi p2, vr a3, vi (0 : Int32)] [(.ref a3), (.int (0 : Int32))])) rfl (by rw [hml]; rfl) (Steps.refl _) (argsL := []) (rest := [(.int (0 : Int32))]) (lenOf pd_7 rfl) rfl (by show 2 * 0 + _ ≤ _; exact Nat.le_of_eq rfl) (hb hby d12_19) (fun _ _ => ⟨rfl, e2, (by decide : 0 + 0 ≤ _), (by decide : 0 + 0 ≤ _)⟩)
    dsimp only [Pt.U, Pt.locs, Pt.cells, Pt.slots] at X4 l4 y4 z4 st4 hQ4
    subst y4 z4
    obtain ⟨rfl, N4q, eq4⟩ := hQ4
    have N4 : Fr n0 L4 := by rw [l4]; exact Fr.app N1 N4q
    obtain ⟨T5, X5, e5, st5⟩ := getF X4 hx hZ hown (host := "") (Or.inl (hw _ (List.mem_of_getElem? (i := 20) rfl))) Via.refl eq4 F_doc_a1 (g := (mkF m 26 #[vr a1, vi p2, vr a3, vi (0 : Int32)] [(.ref a1)])) rfl rfl (hb hby d12_26)
    obtain ⟨cl6, Ar6, kc6, sz6, -, hv6⟩ := id A_d
    have hin6 : ¬ ((p2 + (0 : Int32)) < 0 ∨ cl6.slots.size ≤ ((p2 + (0 : Int32))).toNatClampNeg) := AV.inb sz6 (own_p5 hp (i := (0 : Int32)) (by decide))
    have hat6 : cl6.slots[((p2 + (0 : Int32))).toNatClampNeg]? = some (.int (f ((p2 + (0 : Int32))).toNatClampNeg)) := (hv6 _ (AV.inx (own_p5 hp (i := (0 : Int32)) (by decide)))).trans (congrArg some rfl)
    obtain ⟨cq7, kq7, q7a, q7b, q7c⟩ := isOf hZ e5 E_a3
    obtain ⟨_, _, ⟨T7, L7, k7, n7⟩, -, X7, ⟨Lc7, hQ7, l7, y7, z7⟩, st7⟩ := X5.virtualBack hx (y := (⟨"java/lang/String", "charAt", "(I)C"⟩ : MethodName)) (z := (⟨"java/lang/String", "charAt", "(I)C"⟩ : MethodName)) hown (mvT hZ (hw _ (List.mem_of_getElem? (i := 97) rfl))) (mvT hZ (hw _ (List.mem_of_getElem? (i := 98) rfl))) (notFace_of_selects (args := #[]) (mvT hZ (hw _ (List.mem_of_getElem? (i := 100) rfl)))) (mvT hZ (hw _ (List.mem_of_getElem? (i := 100) rfl))) (mvT hZ (hw _ (List.mem_of_getElem? (i := 99) rfl))) (by decide) (backOf (W := 1) (rmca1_0 l Z a0 hw [] a3 zcs fm tb kb g h0 n0 Z0 S_COMPACT_STRINGS hCS S_SIOOBE_FORMATTER hfm E_a3 F_value_a3 F_coder_a3 A_tb (hok 0)) hZ (hw _ (List.mem_of_getElem? (i := 101) rfl)) (hw _ (List.mem_of_getElem? (i := 40) rfl)) (by decide) (by decide)) q7a q7c (g := (mkF m 35 #[vr a1, vi p2, vr a3, vi (0 : Int32)] [(.int (0 : Int32)), (.ref a3), (.int (f ((p2 + (0 : Int32))).toNatClampNeg))])) rfl (by rw [hml]; rfl) (Steps.refl _) (argsL := [(.int (0 : Int32))]) (rest := [(.int (f ((p2 + (0 : Int32))).toNatClampNeg))]) (lenOf pd_10 rfl) rfl (by show 2 * 0 + _ ≤ _; exact Nat.le_of_eq rfl) (hb hby d12_35) (fun _ _ => ⟨rfl, e5, (by decide : 0 + 0 ≤ _), (by decide : 0 + 0 ≤ _)⟩)
    dsimp only [Pt.U, Pt.locs, Pt.cells, Pt.slots] at X7 l7 y7 z7 st7 hQ7
    subst y7 z7
    obtain ⟨rfl, N7q, eq7⟩ := hQ7
    have N7 : Fr n0 L7 := by rw [l7]; exact Fr.app N4 N7q
    refine GoalS.lift (B := (T7.setTop (mkF m 38 #[vr a1, vi p2, vr a3, vi (0 : Int32)] [(.int (g 0)), (.int (f ((p2 + (0 : Int32))).toNatClampNeg))]))) (fun t k => ?_) ?_
    · show Steps p.tables e below (T2.setTop (mkF m 10 #[vr a1, vi p2, vr a3, .unset] [(.int (q - p2)), (.int (1 : Int32))])) _
      refine XS.icmpYes X2.here hx rfl (pc0 := 10) (pc' := 15) rfl (hb hby d12_10) rfl ((flt hc10_3).2.2.2) (by decide) (by decide) ?_
      refine XS.iconst X2.here hx rfl (hb hby d12_15) ?_
      refine XS.istoreN X2.here hx rfl (hb hby d12_16) rfl (l' := #[vr a1, vi p2, vr a3, vi (0 : Int32)]) rfl ?_
      refine XS.iloadN X2.here hx rfl (hb hby d12_17) rfl ?_
      refine XS.aloadN X2.here hx rfl (hb hby d12_18) rfl rfl ?_
      refine st4.trans ?_
      show Steps p.tables e below (T4.setTop (mkF m 22 #[vr a1, vi p2, vr a3, vi (0 : Int32)] [(.int (1 : Int32)), (.int (0 : Int32))])) _
      refine XS.icmpNo X4.here hx rfl (hb hby d12_22) rfl ((tlt (by decide : (0 : Int32) < (1 : Int32))).2.1) ?_
      refine XS.aloadN X4.here hx rfl (hb hby d12_25) rfl rfl ?_
      refine st5 _ ?_
      refine XS.iloadN X5.here hx rfl (hb hby d12_29) rfl ?_
      refine XS.iloadN X5.here hx rfl (hb hby d12_30) rfl ?_
      refine XS.iadd X5.here hx rfl (hb hby d12_31) rfl ?_
      show Steps p.tables e below (T5.setTop (mkF m 32 #[vr a1, vi p2, vr a3, vi (0 : Int32)] [(.int (p2 + (0 : Int32))), (.ref d)])) _
      refine X5.baloadBytes hx (j := (p2 + (0 : Int32))) (v := (.int (f ((p2 + (0 : Int32))).toNatClampNeg))) (by rw [e5]; exact Ar6.1) (State.isArrayOf_alike hZ.alike Ar6.2.1) Ar6.2.2 hin6 hat6 (g := (mkF m 32 #[vr a1, vi p2, vr a3, vi (0 : Int32)] [(.int (p2 + (0 : Int32))), (.ref d)])) rfl rfl (hb hby d12_32) _ ?_
      refine XS.aloadN X5.here hx rfl (hb hby d12_33) rfl rfl ?_
      refine XS.iloadN X5.here hx rfl (hb hby d12_34) rfl ?_
      refine st7.trans ?_
      exact k
    by_cases hc38_8 : (f ((p2 + (0 : Int32))).toNatClampNeg) = (g 0)
    · obtain ⟨cq9, kq9, q9a, q9b, q9c⟩ := isOf hZ eq7 E_a3
      obtain ⟨_, _, ⟨T9, L9, k9, n9⟩, -, X9, ⟨Lc9, hQ9, l9, y9, z9⟩, st9⟩ := X7.virtualBack hx (y := (⟨"java/lang/String", "length", "()I"⟩ : MethodName)) (z := (⟨"java/lang/String", "length", "()I"⟩ : MethodName)) hown (mvT hZ (hw _ (List.mem_of_getElem? (i := 71) rfl))) (mvT hZ (hw _ (List.mem_of_getElem? (i := 72) rfl))) (notFace_of_selects (args := #[]) (mvT hZ (hw _ (List.mem_of_getElem? (i := 74) rfl)))) (mvT hZ (hw _ (List.mem_of_getElem? (i := 74) rfl))) (mvT hZ (hw _ (List.mem_of_getElem? (i := 73) rfl))) (by decide) (backOf (W := 1) (rmlen1 l Z a0 hw [] a3 zcs tb kb g h0 n0 Z0 S_COMPACT_STRINGS hCS E_a3 F_value_a3 F_coder_a3 A_tb) hZ (hw _ (List.mem_of_getElem? (i := 75) rfl)) (hw _ (List.mem_of_getElem? (i := 40) rfl)) (by decide) (by decide)) q9a q9c (g := (mkF m 19 #[vr a1, vi p2, vr a3, vi (1 : Int32)] [(.ref a3), (.int (1 : Int32))])) rfl (by rw [hml]; rfl) (Steps.refl _) (argsL := []) (rest := [(.int (1 : Int32))]) (lenOf pd_7 rfl) rfl (by show 2 * 0 + _ ≤ _; exact Nat.le_of_eq rfl) (hb hby d12_19) (fun _ _ => ⟨rfl, eq7, (by decide : 0 + 0 ≤ _), (by decide : 0 + 0 ≤ _)⟩)
      dsimp only [Pt.U, Pt.locs, Pt.cells, Pt.slots] at X9 l9 y9 z9 st9 hQ9
      subst y9 z9
      obtain ⟨rfl, N9q, eq9⟩ := hQ9
      have N9 : Fr n0 L9 := by rw [l9]; exact Fr.app N7 N9q
      obtain ⟨fs, hr, hrun, hended, hW, hsame⟩ := X9.leave (v := some (.int (1 : Int32))) (fun h => by rw [Bd.returns] at h; cases h)
      refine ⟨_, _, ?_, hrun, hended, _, _, rfl, ?_, ⟨_, rfl⟩, hW, hsame.mono (by decide) (by decide)⟩
      · show Steps p.tables e below (T7.setTop (mkF m 38 #[vr a1, vi p2, vr a3, vi (0 : Int32)] [(.int (g 0)), (.int (f ((p2 + (0 : Int32))).toNatClampNeg))])) _
        refine XS.icmpYes X7.here hx rfl (pc0 := 38) (pc' := 43) rfl (hb hby d12_38) rfl ((teq hc38_8).1) (by decide) (by decide) ?_
        refine XS.iinc X7.here hx rfl (hb hby d12_43) rfl (l' := #[vr a1, vi p2, vr a3, vi (1 : Int32)]) rfl ?_
        refine XS.goto X7.here hx rfl (pc0 := 46) (pc' := 17) rfl (hb hby d12_46) (by decide) (by decide) ?_
        refine XS.iloadN X7.here hx rfl (hb hby d12_17) rfl ?_
        refine XS.aloadN X7.here hx rfl (hb hby d12_18) rfl rfl ?_
        refine st9.trans ?_
        show Steps p.tables e below (T9.setTop (mkF m 22 #[vr a1, vi p2, vr a3, vi (1 : Int32)] [(.int (1 : Int32)), (.int (1 : Int32))])) _
        refine XS.icmpYes X9.here hx rfl (pc0 := 22) (pc' := 49) rfl (hb hby d12_22) rfl ((flt (by decide : ¬ ((1 : Int32) < (1 : Int32)))).2.1) (by decide) (by decide) ?_
        refine XS.iconst X9.here hx rfl (hb hby d12_49) ?_
        exact retN X9 hx (t := .boolean) Bd.returns (by simp) (hb hby d12_50) hr
      · show Qsw1 Z a1 p2 a3 zcs fm q d kd f tb kb g h0 n0 _ T9.heap _
        exact ⟨(congrArg (fun z => some (Value.int z)) (by rw [own_sw1]; simp only [if_neg hc10_3, if_pos hc38_8])), N9, eq9⟩
    · obtain ⟨fs, hr, hrun, hended, hW, hsame⟩ := X7.leave (v := some (.int (0 : Int32))) (fun h => by rw [Bd.returns] at h; cases h)
      refine ⟨_, _, ?_, hrun, hended, _, _, rfl, ?_, ⟨_, rfl⟩, hW, hsame.mono (by decide) (by decide)⟩
      · show Steps p.tables e below (T7.setTop (mkF m 38 #[vr a1, vi p2, vr a3, vi (0 : Int32)] [(.int (g 0)), (.int (f ((p2 + (0 : Int32))).toNatClampNeg))])) _
        refine XS.icmpNo X7.here hx rfl (hb hby d12_38) rfl ((feq hc38_8).1) ?_
        refine XS.iconst X7.here hx rfl (hb hby d12_41) ?_
        exact retN X7 hx (t := .boolean) Bd.returns (by simp) (hb hby d12_42) hr
      · show Qsw1 Z a1 p2 a3 zcs fm q d kd f tb kb g h0 n0 _ T7.heap _
        exact ⟨(congrArg (fun z => some (Value.int z)) (by rw [own_sw1]; simp only [if_neg hc10_3, if_neg hc38_8])), N7, eq7⟩
theorem ef_rmla1 (m : MethodId) (a1 : Addr) (a2 : Addr) : entryFrame m #[(.ref a1), (.ref a2)] 2 = mkF m 0 #[vr a1, vr a2] [] := by first | (simp [entryFrame, mkF, argsToLocals, Value.category]; done) | rfl
def Qla1 (Z : State) (a1 : Addr) (a2 : Addr) (w : Int32) (zcs : Int32) (fm : Value) (q : Int32) (d : Addr) (kd : ClassId) (f : Nat → Int32) (tb : Addr) (kb : ClassId) (g : Nat → Int32) (h0 : Heap) (n0 : Nat) (v : Option Value) (h : Heap) (L : List Loc) : Prop := v = some (.int (own_sw1 w q f g)) ∧ Fr n0 L ∧ h = h0
set_option maxRecDepth 65536 in
set_option maxHeartbeats 40000000 in
theorem rmla1 (l : Launch) (Z : State) (a0 : Array Value) (hw : ∀ d ∈ tables_1, d.before a0 Z = true) (ws : List Jvm.Cond) (a1 : Addr) (a2 : Addr) (w : Int32) (zcs : Int32) (fm : Value) (q : Int32) (d : Addr) (kd : ClassId) (f : Nat → Int32) (tb : Addr) (kb : ClassId) (g : Nat → Int32) (h0 : Heap) (n0 : Nat) (Z0 : n0 ≤ h0.size) (S_COMPACT_STRINGS : Sta Z h0 "java/lang/String" "COMPACT_STRINGS" "Z" (.int zcs)) (hCS : ¬ zcs = 0) (S_SIOOBE_FORMATTER : Sta Z h0 "jdk/internal/util/Preconditions" "SIOOBE_FORMATTER" "Ljava/util/function/BiFunction;" fm) (hfm : fm.isRef = true) (E_a1 : Exa Z h0 a1 "com/example/verdict/verdict/saml/XmlScanner") (F_pos_a1 : Fld Z h0 a1 "com/example/verdict/verdict/saml/XmlScanner" "pos" "I" (.int w)) (F_end_a1 : Fld Z h0 a1 "com/example/verdict/verdict/saml/XmlScanner" "end" "I" (.int q)) (F_doc_a1 : Fld Z h0 a1 "com/example/verdict/verdict/saml/XmlScanner" "doc" "[B" (.ref d)) (A_d : AV Z h0 d kd .byte 5 (fun i => Value.int (f i))) (E_a2 : Exa Z h0 a2 "java/lang/String") (F_value_a2 : Fld Z h0 a2 "java/lang/String" "value" "[B" (.ref tb)) (F_coder_a2 : Fld Z h0 a2 "java/lang/String" "coder" "B" (.int (0 : Int32))) (A_tb : AV Z h0 tb kb .byte 1 (fun i => Value.int (g i))) (hok : ∀ i, own_ok (g i)) (hp : w = 0 ∨ w = 1) :
    MetFree l (⟨"com/example/verdict/verdict/saml/XmlScanner", "lookingAt", "(Ljava/lang/String;)Z"⟩ : MethodName) (head1 (Jvm.Cond.code (⟨"com/example/verdict/verdict/saml/XmlScanner", "lookingAt", "(Ljava/lang/String;)Z"⟩ : MethodName) prog_45_method_4_code 2 (some .boolean) :: ws) ({ frames := 5, cells := 0, slots := 0, locals := 69 } : Room)) (fun a U => a = #[(.ref a1), (.ref a2)] ∧ Z.Warmed39 U.vm ∧ U.heap = h0) (fun _ _ _ _ _ => True) (fun _ U o U' => ∃ v L, o = .returned v ∧ Qla1 Z a1 a2 w zcs fm q d kd f tb kb g h0 n0 v U'.heap L ∧ FrameEnd U o U' L ({ frames := 5, cells := 0, slots := 0, locals := 69 } : Room).cells ({ frames := 5, cells := 0, slots := 0, locals := 69 } : Room).slots) := by
  refine MetFree.of_bodySF (plainFor_of_name pn_2) hisR ?_
  intro p e s m args below meth c s₁ Bd hml0 hP hK
  obtain ⟨rfl, hZ, hh⟩ := hP
  have hx := Bd.exec
  have hby := Bd.bytes
  have hml : c.maxLocals = 2 := hml0
  have hown : s.vm.findClass "com/example/verdict/verdict/saml/XmlScanner" = some m.cls := findClass_of_methodNamed Bd.named
  have hnm := (name_of_methodNamed Bd.named Bd.method).1
  have X0 : Stand p l e ({ frames := 5, cells := 0, slots := 0, locals := 69 } : Room) s m #[(.ref a1), (.ref a2)] below meth c s₁ [] 0 0 := Stand.of_body Bd
  have e0 : s₁.heap = h0 := by rw [← hh, Bd.state]; rfl
  have N0 := Fr.nil n0
  show GoalS p.tables e below s ({ frames := 5, cells := 0, slots := 0, locals := 69 } : Room).cells ({ frames := 5, cells := 0, slots := 0, locals := 69 } : Room).slots (Qla1 Z a1 a2 w zcs fm q d kd f tb kb g h0 n0) (s₁.setTop (entryFrame m #[(.ref a1), (.ref a2)] 2))
  refine GoalS.lift (B := s₁.setTop (mkF m 0 #[vr a1, vr a2] [])) (fun t k => castTop (ef_rmla1 m a1 a2) k) ?_
  have K0 : Keep h0 h0 [] := Keep.refl _ _
  obtain ⟨T1, X1, e1, st1⟩ := getF X0 hx hZ hown (host := "") (Or.inl (hw _ (List.mem_of_getElem? (i := 29) rfl))) Via.refl e0 F_pos_a1 (g := (mkF m 2 #[vr a1, vr a2] [(.ref a1), (.ref a1)])) rfl rfl (hb hby d11_2)
  obtain ⟨cq2, q2, q2'⟩ := E_a1.cell
  obtain ⟨_, _, ⟨T2, L2, k2, n2⟩, -, X2, ⟨Lc2, hQ2, l2, y2, z2⟩, st2⟩ := X1.privateBack hx (y := (⟨"com/example/verdict/verdict/saml/XmlScanner", "startsWith", "(ILjava/lang/String;)Z"⟩ : MethodName)) hown (mvT hZ (hw _ (List.mem_of_getElem? (i := 67) rfl))) (mvT hZ (hw _ (List.mem_of_getElem? (i := 68) rfl))) (own_selp (y := (⟨"com/example/verdict/verdict/saml/XmlScanner", "startsWith", "(ILjava/lang/String;)Z"⟩ : MethodName)) (mvT hZ (hw _ (List.mem_of_getElem? (i := 2) rfl))) (mvP hZ (hw _ (List.mem_of_getElem? (i := 69) rfl))) (mvT hZ (hw _ (List.mem_of_getElem? (i := 68) rfl))) (by decide)) (Cond.privateMethod_at (mvP hZ (hw _ (List.mem_of_getElem? (i := 69) rfl)) (args := #[]))) (mvT hZ (hw _ (List.mem_of_getElem? (i := 70) rfl))) (by decide) (backOf (W := 0) (rmsw1 l Z a0 hw [] a1 w a2 zcs fm q d kd f tb kb g h0 n0 Z0 S_COMPACT_STRINGS hCS S_SIOOBE_FORMATTER hfm E_a1 F_end_a1 F_doc_a1 A_d E_a2 F_value_a2 F_coder_a2 A_tb hok hp) hZ (hw _ (List.mem_of_getElem? (i := 70) rfl)) (hw _ (List.mem_of_getElem? (i := 3) rfl)) (by decide) (by decide)) (g := (mkF m 6 #[vr a1, vr a2] [(.ref a2), (.int w), (.ref a1)])) rfl (by rw [hml]; rfl) (Steps.refl _) (a := a1) (by rw [e1]; exact q2) q2' (argsL := [(.int w), (.ref a2)]) (rest := []) (lenOf pd_8 rfl) rfl (by show 2 * 0 + _ ≤ _; exact Nat.le_of_eq rfl) (hb hby d11_6) (fun _ _ => ⟨rfl, e1, (by decide : 0 + 0 ≤ _), (by decide : 0 + 0 ≤ _)⟩)
  dsimp only [Pt.U, Pt.locs, Pt.cells, Pt.slots] at X2 l2 y2 z2 st2 hQ2
  subst y2 z2
  obtain ⟨rfl, N2q, eq2⟩ := hQ2
  have N2 : Fr n0 L2 := by rw [l2]; exact Fr.app N0 N2q
  obtain ⟨fs, hr, hrun, hended, hW, hsame⟩ := X2.leave (v := some (.int ((own_sw1 w q f g) &&& 1))) (fun h => by rw [Bd.returns] at h; cases h)
  refine ⟨_, _, ?_, hrun, hended, _, _, rfl, ?_, ⟨_, rfl⟩, hW, hsame.mono (by decide) (by decide)⟩
  · show Steps p.tables e below (s₁.setTop (mkF m 0 #[vr a1, vr a2] [])) _
    refine XS.aloadN X0.here hx rfl (hb hby d11_0) rfl rfl ?_
    refine XS.aloadN X0.here hx rfl (hb hby d11_1) rfl rfl ?_
    refine st1 _ ?_
    refine XS.aloadN X1.here hx rfl (hb hby d11_5) rfl rfl ?_
    refine st2.trans ?_
    exact retN X2 hx (t := .boolean) Bd.returns (by simp) (hb hby d11_9) hr
  · show Qla1 Z a1 a2 w zcs fm q d kd f tb kb g h0 n0 _ T2.heap _
    exact ⟨(congrArg (fun z => some (Value.int z)) own_swb1), N2, eq2⟩
theorem ef_rmsk1 (m : MethodId) (a1 : Addr) (a2 : Addr) : entryFrame m #[(.ref a1), (.ref a2)] 3 = mkF m 0 #[vr a1, vr a2, .unset] [] := by first | (simp [entryFrame, mkF, argsToLocals, Value.category]; done) | rfl
def Qsk1 (Z : State) (a1 : Addr) (a2 : Addr) (w : Int32) (zcs : Int32) (fm : Value) (q : Int32) (d : Addr) (kd : ClassId) (f : Nat → Int32) (tb : Addr) (kb : ClassId) (g : Nat → Int32) (h0 : Heap) (n0 : Nat) (v : Option Value) (h : Heap) (L : List Loc) : Prop := ∃ (w2 : Int32), v = some (.int (own_sw1 w q f g)) ∧ Fr n0 L ∧ Keep h0 h [a1] ∧ (Exa Z h a1 "com/example/verdict/verdict/saml/XmlScanner") ∧ (Fld Z h a1 "com/example/verdict/verdict/saml/XmlScanner" "pos" "I" (.int w2)) ∧ (Fld Z h a1 "com/example/verdict/verdict/saml/XmlScanner" "end" "I" (.int q)) ∧ (w2 = (if (own_sw1 w q f g) = (0 : Int32) then w else (w + (1 : Int32))))
set_option maxRecDepth 65536 in
set_option maxHeartbeats 40000000 in
theorem rmsk1 (l : Launch) (Z : State) (a0 : Array Value) (hw : ∀ d ∈ tables_1, d.before a0 Z = true) (ws : List Jvm.Cond) (a1 : Addr) (a2 : Addr) (w : Int32) (zcs : Int32) (fm : Value) (q : Int32) (d : Addr) (kd : ClassId) (f : Nat → Int32) (tb : Addr) (kb : ClassId) (g : Nat → Int32) (h0 : Heap) (n0 : Nat) (Z0 : n0 ≤ h0.size) (S_COMPACT_STRINGS : Sta Z h0 "java/lang/String" "COMPACT_STRINGS" "Z" (.int zcs)) (hCS : ¬ zcs = 0) (S_SIOOBE_FORMATTER : Sta Z h0 "jdk/internal/util/Preconditions" "SIOOBE_FORMATTER" "Ljava/util/function/BiFunction;" fm) (hfm : fm.isRef = true) (E_a1 : Exa Z h0 a1 "com/example/verdict/verdict/saml/XmlScanner") (g_a1 : n0 ≤ a1) (F_pos_a1 : Fld Z h0 a1 "com/example/verdict/verdict/saml/XmlScanner" "pos" "I" (.int w)) (F_end_a1 : Fld Z h0 a1 "com/example/verdict/verdict/saml/XmlScanner" "end" "I" (.int q)) (F_doc_a1 : Fld Z h0 a1 "com/example/verdict/verdict/saml/XmlScanner" "doc" "[B" (.ref d)) (A_d : AV Z h0 d kd .byte 5 (fun i => Value.int (f i))) (E_a2 : Exa Z h0 a2 "java/lang/String") (F_value_a2 : Fld Z h0 a2 "java/lang/String" "value" "[B" (.ref tb)) (F_coder_a2 : Fld Z h0 a2 "java/lang/String" "coder" "B" (.int (0 : Int32))) (A_tb : AV Z h0 tb kb .byte 1 (fun i => Value.int (g i))) (ne_a1_a2 : a1 ≠ a2) (ne_a1_tb : a1 ≠ tb) (ne_a1_d : a1 ≠ d) (hok : ∀ i, own_ok (g i)) (hp : w = 0 ∨ w = 1) :
    MetFree l (⟨"com/example/verdict/verdict/saml/XmlScanner", "skip", "(Ljava/lang/String;)Z"⟩ : MethodName) (head1 (Jvm.Cond.code (⟨"com/example/verdict/verdict/saml/XmlScanner", "skip", "(Ljava/lang/String;)Z"⟩ : MethodName) prog_45_method_5_code 3 (some .boolean) :: ws) ({ frames := 6, cells := 0, slots := 0, locals := 82 } : Room)) (fun a U => a = #[(.ref a1), (.ref a2)] ∧ Z.Warmed39 U.vm ∧ U.heap = h0) (fun _ _ _ _ _ => True) (fun _ U o U' => ∃ v L, o = .returned v ∧ Qsk1 Z a1 a2 w zcs fm q d kd f tb kb g h0 n0 v U'.heap L ∧ FrameEnd U o U' L ({ frames := 6, cells := 0, slots := 0, locals := 82 } : Room).cells ({ frames := 6, cells := 0, slots := 0, locals := 82 } : Room).slots) := by
  refine MetFree.of_bodySF (plainFor_of_name pn_2) hisR ?_
  intro p e s m args below meth c s₁ Bd hml0 hP hK
  obtain ⟨rfl, hZ, hh⟩ := hP
  have hx := Bd.exec
  have hby := Bd.bytes
  have hml : c.maxLocals = 3 := hml0
  have hown : s.vm.findClass "com/example/verdict/verdict/saml/XmlScanner" = some m.cls := findClass_of_methodNamed Bd.named
  have hnm := (name_of_methodNamed Bd.named Bd.method).1
  have X0 : Stand p l e ({ frames := 6, cells := 0, slots := 0, locals := 82 } : Room) s m #[(.ref a1), (.ref a2)] below meth c s₁ [] 0 0 := Stand.of_body Bd
  have e0 : s₁.heap = h0 := by rw [← hh, Bd.state]; rfl
  have N0 := Fr.nil n0
  show GoalS p.tables e below s ({ frames := 6, cells := 0, slots := 0, locals := 82 } : Room).cells ({ frames := 6, cells := 0, slots := 0, locals := 82 } : Room).slots (Qsk1 Z a1 a2 w zcs fm q d kd f tb kb g h0 n0) (s₁.setTop (entryFrame m #[(.ref a1), (.ref a2)] 3))
  refine GoalS.lift (B := s₁.setTop (mkF m 0 #[vr a1, vr a2, .unset] [])) (fun t k => castTop (ef_rmsk1 m a1 a2) k) ?_
  have K0 : Keep h0 h0 [a1] := Keep.refl _ _
  obtain ⟨cq1, kq1, q1a, q1b, q1c⟩ := isOf hZ e0 E_a1
  obtain ⟨_, _, ⟨T1, L1, k1, n1⟩, -, X1, ⟨Lc1, hQ1, l1, y1, z1⟩, st1⟩ := X0.virtualBack hx (y := (⟨"com/example/verdict/verdict/saml/XmlScanner", "lookingAt", "(Ljava/lang/String;)Z"⟩ : MethodName)) (z := (⟨"com/example/verdict/verdict/saml/XmlScanner", "lookingAt", "(Ljava/lang/String;)Z"⟩ : MethodName)) hown (mvT hZ (hw _ (List.mem_of_getElem? (i := 62) rfl))) (mvT hZ (hw _ (List.mem_of_getElem? (i := 63) rfl))) (notFace_of_selects (args := #[]) (mvT hZ (hw _ (List.mem_of_getElem? (i := 65) rfl)))) (mvT hZ (hw _ (List.mem_of_getElem? (i := 65) rfl))) (mvT hZ (hw _ (List.mem_of_getElem? (i := 64) rfl))) (by decide) (backOf (W := 0) (rmla1 l Z a0 hw [] a1 a2 w zcs fm q d kd f tb kb g h0 n0 Z0 S_COMPACT_STRINGS hCS S_SIOOBE_FORMATTER hfm E_a1 F_pos_a1 F_end_a1 F_doc_a1 A_d E_a2 F_value_a2 F_coder_a2 A_tb hok hp) hZ (hw _ (List.mem_of_getElem? (i := 66) rfl)) (hw _ (List.mem_of_getElem? (i := 3) rfl)) (by decide) (by decide)) q1a q1c (g := (mkF m 2 #[vr a1, vr a2, .unset] [(.ref a2), (.ref a1)])) rfl (by rw [hml]; rfl) (Steps.refl _) (argsL := [(.ref a2)]) (rest := []) (lenOf pd_9 rfl) rfl (by show 2 * 0 + _ ≤ _; exact Nat.le_of_eq rfl) (hb hby d10_2) (fun _ _ => ⟨rfl, e0, (by decide : 0 + 0 ≤ _), (by decide : 0 + 0 ≤ _)⟩)
  dsimp only [Pt.U, Pt.locs, Pt.cells, Pt.slots] at X1 l1 y1 z1 st1 hQ1
  subst y1 z1
  obtain ⟨rfl, N1q, eq1⟩ := hQ1
  have N1 : Fr n0 L1 := by rw [l1]; exact Fr.app N0 N1q
  refine GoalS.lift (B := (T1.setTop (mkF m 7 #[vr a1, vr a2, vi (own_sw1 w q f g)] [(.int (own_sw1 w q f g))]))) (fun t k => ?_) ?_
  · show Steps p.tables e below (s₁.setTop (mkF m 0 #[vr a1, vr a2, .unset] [])) _
    refine XS.aloadN X0.here hx rfl (hb hby d10_0) rfl rfl ?_
    refine XS.aloadN X0.here hx rfl (hb hby d10_1) rfl rfl ?_
    refine st1.trans ?_
    refine XS.istoreN X1.here hx rfl (hb hby d10_5) rfl (l' := #[vr a1, vr a2, vi (own_sw1 w q f g)]) rfl ?_
    refine XS.iloadN X1.here hx rfl (hb hby d10_6) rfl ?_
    exact k
  by_cases hc7_2 : (own_sw1 w q f g) = (0 : Int32)
  · obtain ⟨fs, hr, hrun, hended, hW, hsame⟩ := X1.leave (v := some (.int ((own_sw1 w q f g) &&& 1))) (fun h => by rw [Bd.returns] at h; cases h)
    refine ⟨_, _, ?_, hrun, hended, _, _, rfl, ?_, ⟨_, rfl⟩, hW, hsame.mono (by decide) (by decide)⟩
    · show Steps p.tables e below (T1.setTop (mkF m 7 #[vr a1, vr a2, vi (own_sw1 w q f g)] [(.int (own_sw1 w q f g))])) _
      refine XS.ifYes X1.here hx rfl (pc0 := 7) (pc' := 23) rfl (hb hby d10_7) rfl ((if0 _ _).trans (teq hc7_2).1) (by decide) (by decide) ?_
      refine XS.iloadN X1.here hx rfl (hb hby d10_23) rfl ?_
      exact retN X1 hx (t := .boolean) Bd.returns (by simp) (hb hby d10_24) hr
    · show Qsk1 Z a1 a2 w zcs fm q d kd f tb kb g h0 n0 _ T1.heap _
      rw [eq1]
      exact ⟨w, (congrArg (fun z => some (Value.int z)) own_swb1), N1, K0, E_a1, F_pos_a1, F_end_a1, (by simp only [if_pos hc7_2])⟩
  · obtain ⟨T3, X3, e3, st3⟩ := getF X1 hx hZ hown (host := "") (Or.inl (hw _ (List.mem_of_getElem? (i := 29) rfl))) Via.refl eq1 F_pos_a1 (g := (mkF m 12 #[vr a1, vr a2, vi (own_sw1 w q f g)] [(.ref a1), (.ref a1)])) rfl rfl (hb hby d10_12)
    obtain ⟨cq4, kq4, q4a, q4b, q4c⟩ := isOf hZ e3 E_a2
    obtain ⟨_, _, ⟨T4, L4, k4, n4⟩, -, X4, ⟨Lc4, hQ4, l4, y4, z4⟩, st4⟩ := X3.virtualBack hx (y := (⟨"java/lang/String", "length", "()I"⟩ : MethodName)) (z := (⟨"java/lang/String", "length", "()I"⟩ : MethodName)) hown (mvT hZ (hw _ (List.mem_of_getElem? (i := 71) rfl))) (mvT hZ (hw _ (List.mem_of_getElem? (i := 72) rfl))) (notFace_of_selects (args := #[]) (mvT hZ (hw _ (List.mem_of_getElem? (i := 74) rfl)))) (mvT hZ (hw _ (List.mem_of_getElem? (i := 74) rfl))) (mvT hZ (hw _ (List.mem_of_getElem? (i := 73) rfl))) (by decide) (backOf (W := 2) (rmlen1 l Z a0 hw [] a2 zcs tb kb g h0 n0 Z0 S_COMPACT_STRINGS hCS E_a2 F_value_a2 F_coder_a2 A_tb) hZ (hw _ (List.mem_of_getElem? (i := 75) rfl)) (hw _ (List.mem_of_getElem? (i := 40) rfl)) (by decide) (by decide)) q4a q4c (g := (mkF m 16 #[vr a1, vr a2, vi (own_sw1 w q f g)] [(.ref a2), (.int w), (.ref a1)])) rfl (by rw [hml]; rfl) (Steps.refl _) (argsL := []) (rest := [(.int w), (.ref a1)]) (lenOf pd_7 rfl) rfl (by show 2 * 0 + _ ≤ _; exact Nat.le_of_eq rfl) (hb hby d10_16) (fun _ _ => ⟨rfl, e3, (by decide : 0 + 0 ≤ _), (by decide : 0 + 0 ≤ _)⟩)
    dsimp only [Pt.U, Pt.locs, Pt.cells, Pt.slots] at X4 l4 y4 z4 st4 hQ4
    subst y4 z4
    obtain ⟨rfl, N4q, eq4⟩ := hQ4
    have N4 : Fr n0 L4 := by rw [l4]; exact Fr.app N1 N4q
    obtain ⟨T5, h5, X5, e5, W5, st5⟩ := putF X4 hx hZ hown (host := "") (Or.inl (hw _ (List.mem_of_getElem? (i := 29) rfl))) Via.refl eq4 F_pos_a1 E_a1 (Or.inl (hw _ (List.mem_of_getElem? (i := 30) rfl))) (hw _ (List.mem_of_getElem? (i := 2) rfl)) (ty := .int) (by decide) rfl rfl (g := (mkF m 20 #[vr a1, vr a2, vi (own_sw1 w q f g)] [(.int (w + (1 : Int32))), (.ref a1)])) rfl rfl (hb hby d10_20)
    have z6 : n0 ≤ h5.size := Nat.le_trans Z0 (Keep.of_wr W5).1
    have K7 : Keep h0 h5 [a1] := K0.wr W5 (Or.inl (List.mem_of_getElem? (i := 0) rfl))
    have Fw5 : Fld Z h5 a1 "com/example/verdict/verdict/saml/XmlScanner" "pos" "I" (.int (w + (1 : Int32))) := F_pos_a1.same W5
    have N5 := Fr.snoc X5 N4 g_a1
    obtain ⟨fs, hr, hrun, hended, hW, hsame⟩ := X5.leave (v := some (.int ((own_sw1 w q f g) &&& 1))) (fun h => by rw [Bd.returns] at h; cases h)
    refine ⟨_, _, ?_, hrun, hended, _, _, rfl, ?_, ⟨_, rfl⟩, hW, hsame.mono (by decide) (by decide)⟩
    · show Steps p.tables e below (T1.setTop (mkF m 7 #[vr a1, vr a2, vi (own_sw1 w q f g)] [(.int (own_sw1 w q f g))])) _
      refine XS.ifNo X1.here hx rfl (hb hby d10_7) rfl ((if0 _ _).trans (feq hc7_2).1) ?_
      refine XS.aloadN X1.here hx rfl (hb hby d10_10) rfl rfl ?_
      refine XS.dup X1.here hx rfl (hb hby d10_11) rfl rfl ?_
      refine st3 _ ?_
      refine XS.aloadN X3.here hx rfl (hb hby d10_15) rfl rfl ?_
      refine st4.trans ?_
      show Steps p.tables e below (T4.setTop (mkF m 19 #[vr a1, vr a2, vi (own_sw1 w q f g)] [(.int (1 : Int32)), (.int w), (.ref a1)])) _
      refine XS.iadd X4.here hx rfl (hb hby d10_19) rfl ?_
      refine st5 _ ?_
      refine XS.iloadN X5.here hx rfl (hb hby d10_23) rfl ?_
      exact retN X5 hx (t := .boolean) Bd.returns (by simp) (hb hby d10_24) hr
    · have f8 : Exa Z h5 a1 "com/example/verdict/verdict/saml/XmlScanner" := (E_a1.wr W5)
      have f9 : Fld Z h5 a1 "com/example/verdict/verdict/saml/XmlScanner" "end" "I" (.int q) := (F_end_a1.other W5 (Or.inr (slot_ne (Or.inr (hw _ (List.mem_of_getElem? (i := 23) rfl))) (Or.inl (hw _ (List.mem_of_getElem? (i := 30) rfl))) (by decide) (t := .int) (t' := .int) (by decide) (by decide))))
      show Qsk1 Z a1 a2 w zcs fm q d kd f tb kb g h0 n0 _ T5.heap _
      rw [e5]
      exact ⟨(w + (1 : Int32)), (congrArg (fun z => some (Value.int z)) own_swb1), N5, K7, f8, Fw5, f9, (by simp only [if_neg hc7_2])⟩
theorem ef_rmsw2 (m : MethodId) (a1 : Addr) (p2 : Int32) (a3 : Addr) : entryFrame m #[(.ref a1), (.int p2), (.ref a3)] 4 = mkF m 0 #[vr a1, vi p2, vr a3, .unset] [] := by first | (simp [entryFrame, mkF, argsToLocals, Value.category]; done) | rfl
def Qsw2 (Z : State) (a1 : Addr) (p2 : Int32) (a3 : Addr) (zcs : Int32) (fm : Value) (q : Int32) (d : Addr) (kd : ClassId) (f : Nat → Int32) (tb : Addr) (kb : ClassId) (g : Nat → Int32) (h0 : Heap) (n0 : Nat) (v : Option Value) (h : Heap) (L : List Loc) : Prop := v = some (.int (own_sw2 p2 q f g)) ∧ Fr n0 L ∧ h = h0
set_option maxRecDepth 65536 in
set_option maxHeartbeats 40000000 in
theorem rmsw2 (l : Launch) (Z : State) (a0 : Array Value) (hw : ∀ d ∈ tables_1, d.before a0 Z = true) (ws : List Jvm.Cond) (a1 : Addr) (p2 : Int32) (a3 : Addr) (zcs : Int32) (fm : Value) (q : Int32) (d : Addr) (kd : ClassId) (f : Nat → Int32) (tb : Addr) (kb : ClassId) (g : Nat → Int32) (h0 : Heap) (n0 : Nat) (Z0 : n0 ≤ h0.size) (S_COMPACT_STRINGS : Sta Z h0 "java/lang/String" "COMPACT_STRINGS" "Z" (.int zcs)) (hCS : ¬ zcs = 0) (S_SIOOBE_FORMATTER : Sta Z h0 "jdk/internal/util/Preconditions" "SIOOBE_FORMATTER" "Ljava/util/function/BiFunction;" fm) (hfm : fm.isRef = true) (E_a1 : Exa Z h0 a1 "com/example/verdict/verdict/saml/XmlScanner") (F_end_a1 : Fld Z h0 a1 "com/example/verdict/verdict/saml/XmlScanner" "end" "I" (.int q)) (F_doc_a1 : Fld Z h0 a1 "com/example/verdict/verdict/saml/XmlScanner" "doc" "[B" (.ref d)) (A_d : AV Z h0 d kd .byte 5 (fun i => Value.int (f i))) (E_a3 : Exa Z h0 a3 "java/lang/String") (F_value_a3 : Fld Z h0 a3 "java/lang/String" "value" "[B" (.ref tb)) (F_coder_a3 : Fld Z h0 a3 "java/lang/String" "coder" "B" (.int (0 : Int32))) (A_tb : AV Z h0 tb kb .byte 2 (fun i => Value.int (g i))) (hok : ∀ i, own_ok (g i)) (hp : p2 = 0 ∨ p2 = 1) :
    MetFree l (⟨"com/example/verdict/verdict/saml/XmlScanner", "startsWith", "(ILjava/lang/String;)Z"⟩ : MethodName) (head1 (Jvm.Cond.code (⟨"com/example/verdict/verdict/saml/XmlScanner", "startsWith", "(ILjava/lang/String;)Z"⟩ : MethodName) prog_45_method_34_code 4 (some .boolean) :: ws) ({ frames := 4, cells := 0, slots := 0, locals := 54 } : Room)) (fun a U => a = #[(.ref a1), (.int p2), (.ref a3)] ∧ Z.Warmed39 U.vm ∧ U.heap = h0) (fun _ _ _ _ _ => True) (fun _ U o U' => ∃ v L, o = .returned v ∧ Qsw2 Z a1 p2 a3 zcs fm q d kd f tb kb g h0 n0 v U'.heap L ∧ FrameEnd U o U' L ({ frames := 4, cells := 0, slots := 0, locals := 54 } : Room).cells ({ frames := 4, cells := 0, slots := 0, locals := 54 } : Room).slots) := by
  refine MetFree.of_bodySF (plainFor_of_name pn_2) hisR ?_
  intro p e s m args below meth c s₁ Bd hml0 hP hK
  obtain ⟨rfl, hZ, hh⟩ := hP
  have hx := Bd.exec
  have hby := Bd.bytes
  have hml : c.maxLocals = 4 := hml0
  have hown : s.vm.findClass "com/example/verdict/verdict/saml/XmlScanner" = some m.cls := findClass_of_methodNamed Bd.named
  have hnm := (name_of_methodNamed Bd.named Bd.method).1
  have X0 : Stand p l e ({ frames := 4, cells := 0, slots := 0, locals := 54 } : Room) s m #[(.ref a1), (.int p2), (.ref a3)] below meth c s₁ [] 0 0 := Stand.of_body Bd
  have e0 : s₁.heap = h0 := by rw [← hh, Bd.state]; rfl
  have N0 := Fr.nil n0
  show GoalS p.tables e below s ({ frames := 4, cells := 0, slots := 0, locals := 54 } : Room).cells ({ frames := 4, cells := 0, slots := 0, locals := 54 } : Room).slots (Qsw2 Z a1 p2 a3 zcs fm q d kd f tb kb g h0 n0) (s₁.setTop (entryFrame m #[(.ref a1), (.int p2), (.ref a3)] 4))
  refine GoalS.lift (B := s₁.setTop (mkF m 0 #[vr a1, vi p2, vr a3, .unset] [])) (fun t k => castTop (ef_rmsw2 m a1 p2 a3) k) ?_
  have K0 : Keep h0 h0 [] := Keep.refl _ _
  obtain ⟨cq1, kq1, q1a, q1b, q1c⟩ := isOf hZ e0 E_a3
  obtain ⟨_, _, ⟨T1, L1, k1, n1⟩, -, X1, ⟨Lc1, hQ1, l1, y1, z1⟩, st1⟩ := X0.virtualBack hx (y := (⟨"java/lang/String", "length", "()I"⟩ : MethodName)) (z := (⟨"java/lang/String", "length", "()I"⟩ : MethodName)) hown (mvT hZ (hw _ (List.mem_of_getElem? (i := 71) rfl))) (mvT hZ (hw _ (List.mem_of_getElem? (i := 72) rfl))) (notFace_of_selects (args := #[]) (mvT hZ (hw _ (List.mem_of_getElem? (i := 74) rfl)))) (mvT hZ (hw _ (List.mem_of_getElem? (i := 74) rfl))) (mvT hZ (hw _ (List.mem_of_getElem? (i := 73) rfl))) (by decide) (backOf (W := 0) (rmlen2 l Z a0 hw [] a3 zcs tb kb g h0 n0 Z0 S_COMPACT_STRINGS hCS E_a3 F_value_a3 F_coder_a3 A_tb) hZ (hw _ (List.mem_of_getElem? (i := 75) rfl)) (hw _ (List.mem_of_getElem? (i := 40) rfl)) (by decide) (by decide)) q1a q1c (g := (mkF m 1 #[vr a1, vi p2, vr a3, .unset] [(.ref a3)])) rfl (by rw [hml]; rfl) (Steps.refl _) (argsL := []) (rest := []) (lenOf pd_7 rfl) rfl (by show 2 * 0 + _ ≤ _; exact Nat.le_of_eq rfl) (hb hby d12_1) (fun _ _ => ⟨rfl, e0, (by decide : 0 + 0 ≤ _), (by decide : 0 + 0 ≤ _)⟩)
  dsimp only [Pt.U, Pt.locs, Pt.cells, Pt.slots] at X1 l1 y1 z1 st1 hQ1
  subst y1 z1
  obtain ⟨rfl, N1q, eq1⟩ := hQ1
  have N1 : Fr n0 L1 := by rw [l1]; exact Fr.app N0 N1q
  obtain ⟨T2, X2, e2, st2⟩ := getF X1 hx hZ hown (host := "") (Or.inl (hw _ (List.mem_of_getElem? (i := 22) rfl))) Via.refl eq1 F_end_a1 (g := (mkF m 5 #[vr a1, vi p2, vr a3, .unset] [(.ref a1), (.int (2 : Int32))])) rfl rfl (hb hby d12_5)
  refine GoalS.lift (B := (T2.setTop (mkF m 10 #[vr a1, vi p2, vr a3, .unset] [(.int (q - p2)), (.int (2 : Int32))]))) (fun t k => ?_) ?_
  · show Steps p.tables e below (s₁.setTop (mkF m 0 #[vr a1, vi p2, vr a3, .unset] [])) _
    refine XS.aloadN X0.here hx rfl (hb hby d12_0) rfl rfl ?_
    refine st1.trans ?_
    refine XS.aloadN X1.here hx rfl (hb hby d12_4) rfl rfl ?_
    refine st2 _ ?_
    refine XS.iloadN X2.here hx rfl (hb hby d12_8) rfl ?_
    refine XS.isub X2.here hx rfl (hb hby d12_9) rfl ?_
    show Steps p.tables e below (T2.setTop (mkF m 10 #[vr a1, vi p2, vr a3, .unset] [(.int (q - p2)), (.int (2 : Int32))])) _
    exact k
  by_cases hc10_3 : (q - p2) < (2 : Int32)
  · obtain ⟨fs, hr, hrun, hended, hW, hsame⟩ := X2.leave (v := some (.int (0 : Int32))) (fun h => by rw [Bd.returns] at h; cases h)
    refine ⟨_, _, ?_, hrun, hended, _, _, rfl, ?_, ⟨_, rfl⟩, hW, hsame.mono (by decide) (by decide)⟩
    · show Steps p.tables e below (T2.setTop (mkF m 10 #[vr a1, vi p2, vr a3, .unset] [(.int (q - p2)), (.int (2 : Int32))])) _
      refine XS.icmpNo X2.here hx rfl (hb hby d12_10) rfl ((tlt hc10_3).2.2.2) ?_
      refine XS.iconst X2.here hx rfl (hb hby d12_13) ?_
      exact retN X2 hx (t := .boolean) Bd.returns (by simp) (hb hby d12_14) hr
    · show Qsw2 Z a1 p2 a3 zcs fm q d kd f tb kb g h0 n0 _ T2.heap _
      exact ⟨(congrArg (fun z => some (Value.int z)) (by rw [own_sw2]; simp only [if_pos hc10_3])), N1, e2⟩
  · obtain ⟨cq4, kq4, q4a, q4b, q4c⟩ := isOf hZ e2 E_a3
    obtain ⟨_, _, ⟨T4, L4, k4, n4⟩, -, X4, ⟨Lc4, hQ4, l4, y4, z4⟩, st4⟩ := X2.virtualBack hx (y := (⟨"java/lang/String", "length", "()I"⟩ : MethodName)) (z := (⟨"java/lang/String", "length", "()I"⟩ : MethodName)) hown (mvT hZ (hw _ (List.mem_of_getElem? (i := 71) rfl))) (mvT hZ (hw _ (List.mem_of_getElem? (i := 72) rfl))) (notFace_of_selects (args := #[]) (mvT hZ (hw _ (List.mem_of_getElem? (i := 74) rfl)))) (mvT hZ (hw _ (List.mem_of_getElem? (i := 74) rfl))) (mvT hZ (hw _ (List.mem_of_getElem? (i := 73) rfl))) (by decide) (backOf (W := 1) (rmlen2 l Z a0 hw [] a3 zcs tb kb g h0 n0 Z0 S_COMPACT_STRINGS hCS E_a3 F_value_a3 F_coder_a3 A_tb) hZ (hw _ (List.mem_of_getElem? (i := 75) rfl)) (hw _ (List.mem_of_getElem? (i := 40) rfl)) (by decide) (by decide)) q4a q4c (g := (mkF m 19 #[vr a1, vi p2, vr a3, vi (0 : Int32)] [(.ref a3), (.int (0 : Int32))])) rfl (by rw [hml]; rfl) (Steps.refl _) (argsL := []) (rest := [(.int (0 : Int32))]) (lenOf pd_7 rfl) rfl (by show 2 * 0 + _ ≤ _; exact Nat.le_of_eq rfl) (hb hby d12_19) (fun _ _ => ⟨rfl, e2, (by decide : 0 + 0 ≤ _), (by decide : 0 + 0 ≤ _)⟩)
    dsimp only [Pt.U, Pt.locs, Pt.cells, Pt.slots] at X4 l4 y4 z4 st4 hQ4
    subst y4 z4
    obtain ⟨rfl, N4q, eq4⟩ := hQ4
    have N4 : Fr n0 L4 := by rw [l4]; exact Fr.app N1 N4q
    obtain ⟨T5, X5, e5, st5⟩ := getF X4 hx hZ hown (host := "") (Or.inl (hw _ (List.mem_of_getElem? (i := 20) rfl))) Via.refl eq4 F_doc_a1 (g := (mkF m 26 #[vr a1, vi p2, vr a3, vi (0 : Int32)] [(.ref a1)])) rfl rfl (hb hby d12_26)
    obtain ⟨cl6, Ar6, kc6, sz6, -, hv6⟩ := id A_d
    have hin6 : ¬ ((p2 + (0 : Int32)) < 0 ∨ cl6.slots.size ≤ ((p2 + (0 : Int32))).toNatClampNeg) := AV.inb sz6 (own_p5 hp (i := (0 : Int32)) (by decide))
    have hat6 : cl6.slots[((p2 + (0 : Int32))).toNatClampNeg]? = some (.int (f ((p2 + (0 : Int32))).toNatClampNeg)) := (hv6 _ (AV.inx (own_p5 hp (i := (0 : Int32)) (by decide)))).trans (congrArg some rfl)
    obtain ⟨cq7, kq7, q7a, q7b, q7c⟩ := isOf hZ e5 E_a3
    obtain ⟨_, _, ⟨T7, L7, k7, n7⟩, -, X7, ⟨Lc7, hQ7, l7, y7, z7⟩, st7⟩ := X5.virtualBack hx (y := (⟨"java/lang/String", "charAt", "(I)C"⟩ : MethodName)) (z := (⟨"java/lang/String", "charAt", "(I)C"⟩ : MethodName)) hown (mvT hZ (hw _ (List.mem_of_getElem? (i := 97) rfl))) (mvT hZ (hw _ (List.mem_of_getElem? (i := 98) rfl))) (notFace_of_selects (args := #[]) (mvT hZ (hw _ (List.mem_of_getElem? (i := 100) rfl)))) (mvT hZ (hw _ (List.mem_of_getElem? (i := 100) rfl))) (mvT hZ (hw _ (List.mem_of_getElem? (i := 99) rfl))) (by decide) (backOf (W := 1) (rmca2_0 l Z a0 hw [] a3 zcs fm tb kb g h0 n0 Z0 S_COMPACT_STRINGS hCS S_SIOOBE_FORMATTER hfm E_a3 F_value_a3 F_coder_a3 A_tb (hok 0)) hZ (hw _ (List.mem_of_getElem? (i := 101) rfl)) (hw _ (List.mem_of_getElem? (i := 40) rfl)) (by decide) (by decide)) q7a q7c (g := (mkF m 35 #[vr a1, vi p2, vr a3, vi (0 : Int32)] [(.int (0 : Int32)), (.ref a3), (.int (f ((p2 + (0 : Int32))).toNatClampNeg))])) rfl (by rw [hml]; rfl) (Steps.refl _) (argsL := [(.int (0 : Int32))]) (rest := [(.int (f ((p2 + (0 : Int32))).toNatClampNeg))]) (lenOf pd_10 rfl) rfl (by show 2 * 0 + _ ≤ _; exact Nat.le_of_eq rfl) (hb hby d12_35) (fun _ _ => ⟨rfl, e5, (by decide : 0 + 0 ≤ _), (by decide : 0 + 0 ≤ _)⟩)
    dsimp only [Pt.U, Pt.locs, Pt.cells, Pt.slots] at X7 l7 y7 z7 st7 hQ7
    subst y7 z7
    obtain ⟨rfl, N7q, eq7⟩ := hQ7
    have N7 : Fr n0 L7 := by rw [l7]; exact Fr.app N4 N7q
    refine GoalS.lift (B := (T7.setTop (mkF m 38 #[vr a1, vi p2, vr a3, vi (0 : Int32)] [(.int (g 0)), (.int (f ((p2 + (0 : Int32))).toNatClampNeg))]))) (fun t k => ?_) ?_
    · show Steps p.tables e below (T2.setTop (mkF m 10 #[vr a1, vi p2, vr a3, .unset] [(.int (q - p2)), (.int (2 : Int32))])) _
      refine XS.icmpYes X2.here hx rfl (pc0 := 10) (pc' := 15) rfl (hb hby d12_10) rfl ((flt hc10_3).2.2.2) (by decide) (by decide) ?_
      refine XS.iconst X2.here hx rfl (hb hby d12_15) ?_
      refine XS.istoreN X2.here hx rfl (hb hby d12_16) rfl (l' := #[vr a1, vi p2, vr a3, vi (0 : Int32)]) rfl ?_
      refine XS.iloadN X2.here hx rfl (hb hby d12_17) rfl ?_
      refine XS.aloadN X2.here hx rfl (hb hby d12_18) rfl rfl ?_
      refine st4.trans ?_
      show Steps p.tables e below (T4.setTop (mkF m 22 #[vr a1, vi p2, vr a3, vi (0 : Int32)] [(.int (2 : Int32)), (.int (0 : Int32))])) _
      refine XS.icmpNo X4.here hx rfl (hb hby d12_22) rfl ((tlt (by decide : (0 : Int32) < (2 : Int32))).2.1) ?_
      refine XS.aloadN X4.here hx rfl (hb hby d12_25) rfl rfl ?_
      refine st5 _ ?_
      refine XS.iloadN X5.here hx rfl (hb hby d12_29) rfl ?_
      refine XS.iloadN X5.here hx rfl (hb hby d12_30) rfl ?_
      refine XS.iadd X5.here hx rfl (hb hby d12_31) rfl ?_
      show Steps p.tables e below (T5.setTop (mkF m 32 #[vr a1, vi p2, vr a3, vi (0 : Int32)] [(.int (p2 + (0 : Int32))), (.ref d)])) _
      refine X5.baloadBytes hx (j := (p2 + (0 : Int32))) (v := (.int (f ((p2 + (0 : Int32))).toNatClampNeg))) (by rw [e5]; exact Ar6.1) (State.isArrayOf_alike hZ.alike Ar6.2.1) Ar6.2.2 hin6 hat6 (g := (mkF m 32 #[vr a1, vi p2, vr a3, vi (0 : Int32)] [(.int (p2 + (0 : Int32))), (.ref d)])) rfl rfl (hb hby d12_32) _ ?_
      refine XS.aloadN X5.here hx rfl (hb hby d12_33) rfl rfl ?_
      refine XS.iloadN X5.here hx rfl (hb hby d12_34) rfl ?_
      refine st7.trans ?_
      exact k
    by_cases hc38_8 : (f ((p2 + (0 : Int32))).toNatClampNeg) = (g 0)
    · obtain ⟨cq9, kq9, q9a, q9b, q9c⟩ := isOf hZ eq7 E_a3
      obtain ⟨_, _, ⟨T9, L9, k9, n9⟩, -, X9, ⟨Lc9, hQ9, l9, y9, z9⟩, st9⟩ := X7.virtualBack hx (y := (⟨"java/lang/String", "length", "()I"⟩ : MethodName)) (z := (⟨"java/lang/String", "length", "()I"⟩ : MethodName)) hown (mvT hZ (hw _ (List.mem_of_getElem? (i := 71) rfl))) (mvT hZ (hw _ (List.mem_of_getElem? (i := 72) rfl))) (notFace_of_selects (args := #[]) (mvT hZ (hw _ (List.mem_of_getElem? (i := 74) rfl)))) (mvT hZ (hw _ (List.mem_of_getElem? (i := 74) rfl))) (mvT hZ (hw _ (List.mem_of_getElem? (i := 73) rfl))) (by decide) (backOf (W := 1) (rmlen2 l Z a0 hw [] a3 zcs tb kb g h0 n0 Z0 S_COMPACT_STRINGS hCS E_a3 F_value_a3 F_coder_a3 A_tb) hZ (hw _ (List.mem_of_getElem? (i := 75) rfl)) (hw _ (List.mem_of_getElem? (i := 40) rfl)) (by decide) (by decide)) q9a q9c (g := (mkF m 19 #[vr a1, vi p2, vr a3, vi (1 : Int32)] [(.ref a3), (.int (1 : Int32))])) rfl (by rw [hml]; rfl) (Steps.refl _) (argsL := []) (rest := [(.int (1 : Int32))]) (lenOf pd_7 rfl) rfl (by show 2 * 0 + _ ≤ _; exact Nat.le_of_eq rfl) (hb hby d12_19) (fun _ _ => ⟨rfl, eq7, (by decide : 0 + 0 ≤ _), (by decide : 0 + 0 ≤ _)⟩)
      dsimp only [Pt.U, Pt.locs, Pt.cells, Pt.slots] at X9 l9 y9 z9 st9 hQ9
      subst y9 z9
      obtain ⟨rfl, N9q, eq9⟩ := hQ9
      have N9 : Fr n0 L9 := by rw [l9]; exact Fr.app N7 N9q
      obtain ⟨T10, X10, e10, st10⟩ := getF X9 hx hZ hown (host := "") (Or.inl (hw _ (List.mem_of_getElem? (i := 20) rfl))) Via.refl eq9 F_doc_a1 (g := (mkF m 26 #[vr a1, vi p2, vr a3, vi (1 : Int32)] [(.ref a1)])) rfl rfl (hb hby d12_26)
      obtain ⟨cl11, Ar11, kc11, sz11, -, hv11⟩ := id A_d
      have hin11 : ¬ ((p2 + (1 : Int32)) < 0 ∨ cl11.slots.size ≤ ((p2 + (1 : Int32))).toNatClampNeg) := AV.inb sz11 (own_p5 hp (i := (1 : Int32)) (by decide))
      have hat11 : cl11.slots[((p2 + (1 : Int32))).toNatClampNeg]? = some (.int (f ((p2 + (1 : Int32))).toNatClampNeg)) := (hv11 _ (AV.inx (own_p5 hp (i := (1 : Int32)) (by decide)))).trans (congrArg some rfl)
      obtain ⟨cq12, kq12, q12a, q12b, q12c⟩ := isOf hZ e10 E_a3
      obtain ⟨_, _, ⟨T12, L12, k12, n12⟩, -, X12, ⟨Lc12, hQ12, l12, y12, z12⟩, st12⟩ := X10.virtualBack hx (y := (⟨"java/lang/String", "charAt", "(I)C"⟩ : MethodName)) (z := (⟨"java/lang/String", "charAt", "(I)C"⟩ : MethodName)) hown (mvT hZ (hw _ (List.mem_of_getElem? (i := 97) rfl))) (mvT hZ (hw _ (List.mem_of_getElem? (i := 98) rfl))) (notFace_of_selects (args := #[]) (mvT hZ (hw _ (List.mem_of_getElem? (i := 100) rfl)))) (mvT hZ (hw _ (List.mem_of_getElem? (i := 100) rfl))) (mvT hZ (hw _ (List.mem_of_getElem? (i := 99) rfl))) (by decide) (backOf (W := 1) (rmca2_1 l Z a0 hw [] a3 zcs fm tb kb g h0 n0 Z0 S_COMPACT_STRINGS hCS S_SIOOBE_FORMATTER hfm E_a3 F_value_a3 F_coder_a3 A_tb (hok 1)) hZ (hw _ (List.mem_of_getElem? (i := 101) rfl)) (hw _ (List.mem_of_getElem? (i := 40) rfl)) (by decide) (by decide)) q12a q12c (g := (mkF m 35 #[vr a1, vi p2, vr a3, vi (1 : Int32)] [(.int (1 : Int32)), (.ref a3), (.int (f ((p2 + (1 : Int32))).toNatClampNeg))])) rfl (by rw [hml]; rfl) (Steps.refl _) (argsL := [(.int (1 : Int32))]) (rest := [(.int (f ((p2 + (1 : Int32))).toNatClampNeg))]) (lenOf pd_10 rfl) rfl (by show 2 * 0 + _ ≤ _; exact Nat.le_of_eq rfl) (hb hby d12_35) (fun _ _ => ⟨rfl, e10, (by decide : 0 + 0 ≤ _), (by decide : 0 + 0 ≤ _)⟩)
      dsimp only [Pt.U, Pt.locs, Pt.cells, Pt.slots] at X12 l12 y12 z12 st12 hQ12
      subst y12 z12
      obtain ⟨rfl, N12q, eq12⟩ := hQ12
      have N12 : Fr n0 L12 := by rw [l12]; exact Fr.app N9 N12q
      refine GoalS.lift (B := (T12.setTop (mkF m 38 #[vr a1, vi p2, vr a3, vi (1 : Int32)] [(.int (g 1)), (.int (f ((p2 + (1 : Int32))).toNatClampNeg))]))) (fun t k => ?_) ?_
      · show Steps p.tables e below (T7.setTop (mkF m 38 #[vr a1, vi p2, vr a3, vi (0 : Int32)] [(.int (g 0)), (.int (f ((p2 + (0 : Int32))).toNatClampNeg))])) _
        refine XS.icmpYes X7.here hx rfl (pc0 := 38) (pc' := 43) rfl (hb hby d12_38) rfl ((teq hc38_8).1) (by decide) (by decide) ?_
        refine XS.iinc X7.here hx rfl (hb hby d12_43) rfl (l' := #[vr a1, vi p2, vr a3, vi (1 : Int32)]) rfl ?_
        refine XS.goto X7.here hx rfl (pc0 := 46) (pc' := 17) rfl (hb hby d12_46) (by decide) (by decide) ?_
        refine XS.iloadN X7.here hx rfl (hb hby d12_17) rfl ?_
        refine XS.aloadN X7.here hx rfl (hb hby d12_18) rfl rfl ?_
        refine st9.trans ?_
        show Steps p.tables e below (T9.setTop (mkF m 22 #[vr a1, vi p2, vr a3, vi (1 : Int32)] [(.int (2 : Int32)), (.int (1 : Int32))])) _
        refine XS.icmpNo X9.here hx rfl (hb hby d12_22) rfl ((tlt (by decide : (1 : Int32) < (2 : Int32))).2.1) ?_
        refine XS.aloadN X9.here hx rfl (hb hby d12_25) rfl rfl ?_
        refine st10 _ ?_
        refine XS.iloadN X10.here hx rfl (hb hby d12_29) rfl ?_
        refine XS.iloadN X10.here hx rfl (hb hby d12_30) rfl ?_
        refine XS.iadd X10.here hx rfl (hb hby d12_31) rfl ?_
        show Steps p.tables e below (T10.setTop (mkF m 32 #[vr a1, vi p2, vr a3, vi (1 : Int32)] [(.int (p2 + (1 : Int32))), (.ref d)])) _
        refine X10.baloadBytes hx (j := (p2 + (1 : Int32))) (v := (.int (f ((p2 + (1 : Int32))).toNatClampNeg))) (by rw [e10]; exact Ar11.1) (State.isArrayOf_alike hZ.alike Ar11.2.1) Ar11.2.2 hin11 hat11 (g := (mkF m 32 #[vr a1, vi p2, vr a3, vi (1 : Int32)] [(.int (p2 + (1 : Int32))), (.ref d)])) rfl rfl (hb hby d12_32) _ ?_
        refine XS.aloadN X10.here hx rfl (hb hby d12_33) rfl rfl ?_
        refine XS.iloadN X10.here hx rfl (hb hby d12_34) rfl ?_
        refine st12.trans ?_
        exact k
      by_cases hc38_13 : (f ((p2 + (1 : Int32))).toNatClampNeg) = (g 1)
      · obtain ⟨cq14, kq14, q14a, q14b, q14c⟩ := isOf hZ eq12 E_a3
        obtain ⟨_, _, ⟨T14, L14, k14, n14⟩, -, X14, ⟨Lc14, hQ14, l14, y14, z14⟩, st14⟩ := X12.virtualBack hx (y := (⟨"java/lang/String", "length", "()I"⟩ : MethodName)) (z := (⟨"java/lang/String", "length", "()I"⟩ : MethodName)) hown (mvT hZ (hw _ (List.mem_of_getElem? (i := 71) rfl))) (mvT hZ (hw _ (List.mem_of_getElem? (i := 72) rfl))) (notFace_of_selects (args := #[]) (mvT hZ (hw _ (List.mem_of_getElem? (i := 74) rfl)))) (mvT hZ (hw _ (List.mem_of_getElem? (i := 74) rfl))) (mvT hZ (hw _ (List.mem_of_getElem? (i := 73) rfl))) (by decide) (backOf (W := 1) (rmlen2 l Z a0 hw [] a3 zcs tb kb g h0 n0 Z0 S_COMPACT_STRINGS hCS E_a3 F_value_a3 F_coder_a3 A_tb) hZ (hw _ (List.mem_of_getElem? (i := 75) rfl)) (hw _ (List.mem_of_getElem? (i := 40) rfl)) (by decide) (by decide)) q14a q14c (g := (mkF m 19 #[vr a1, vi p2, vr a3, vi (2 : Int32)] [(.ref a3), (.int (2 : Int32))])) rfl (by rw [hml]; rfl) (Steps.refl _) (argsL := []) (rest := [(.int (2 : Int32))]) (lenOf pd_7 rfl) rfl (by show 2 * 0 + _ ≤ _; exact Nat.le_of_eq rfl) (hb hby d12_19) (fun _ _ => ⟨rfl, eq12, (by decide : 0 + 0 ≤ _), (by decide : 0 + 0 ≤ _)⟩)
        dsimp only [Pt.U, Pt.locs, Pt.cells, Pt.slots] at X14 l14 y14 z14 st14 hQ14
        subst y14 z14
        obtain ⟨rfl, N14q, eq14⟩ := hQ14
        have N14 : Fr n0 L14 := by rw [l14]; exact Fr.app N12 N14q
        obtain ⟨fs, hr, hrun, hended, hW, hsame⟩ := X14.leave (v := some (.int (1 : Int32))) (fun h => by rw [Bd.returns] at h; cases h)
        refine ⟨_, _, ?_, hrun, hended, _, _, rfl, ?_, ⟨_, rfl⟩, hW, hsame.mono (by decide) (by decide)⟩
        · show Steps p.tables e below (T12.setTop (mkF m 38 #[vr a1, vi p2, vr a3, vi (1 : Int32)] [(.int (g 1)), (.int (f ((p2 + (1 : Int32))).toNatClampNeg))])) _
          refine XS.icmpYes X12.here hx rfl (pc0 := 38) (pc' := 43) rfl (hb hby d12_38) rfl ((teq hc38_13).1) (by decide) (by decide) ?_
          refine XS.iinc X12.here hx rfl (hb hby d12_43) rfl (l' := #[vr a1, vi p2, vr a3, vi (2 : Int32)]) rfl ?_
          refine XS.goto X12.here hx rfl (pc0 := 46) (pc' := 17) rfl (hb hby d12_46) (by decide) (by decide) ?_
          refine XS.iloadN X12.here hx rfl (hb hby d12_17) rfl ?_
          refine XS.aloadN X12.here hx rfl (hb hby d12_18) rfl rfl ?_
          refine st14.trans ?_
          show Steps p.tables e below (T14.setTop (mkF m 22 #[vr a1, vi p2, vr a3, vi (2 : Int32)] [(.int (2 : Int32)), (.int (2 : Int32))])) _
          refine XS.icmpYes X14.here hx rfl (pc0 := 22) (pc' := 49) rfl (hb hby d12_22) rfl ((flt (by decide : ¬ ((2 : Int32) < (2 : Int32)))).2.1) (by decide) (by decide) ?_
          refine XS.iconst X14.here hx rfl (hb hby d12_49) ?_
          exact retN X14 hx (t := .boolean) Bd.returns (by simp) (hb hby d12_50) hr
        · show Qsw2 Z a1 p2 a3 zcs fm q d kd f tb kb g h0 n0 _ T14.heap _
          exact ⟨(congrArg (fun z => some (Value.int z)) (by rw [own_sw2]; simp only [if_neg hc10_3, if_pos hc38_8, if_pos hc38_13])), N14, eq14⟩
      · obtain ⟨fs, hr, hrun, hended, hW, hsame⟩ := X12.leave (v := some (.int (0 : Int32))) (fun h => by rw [Bd.returns] at h; cases h)
        refine ⟨_, _, ?_, hrun, hended, _, _, rfl, ?_, ⟨_, rfl⟩, hW, hsame.mono (by decide) (by decide)⟩
        · show Steps p.tables e below (T12.setTop (mkF m 38 #[vr a1, vi p2, vr a3, vi (1 : Int32)] [(.int (g 1)), (.int (f ((p2 + (1 : Int32))).toNatClampNeg))])) _
          refine XS.icmpNo X12.here hx rfl (hb hby d12_38) rfl ((feq hc38_13).1) ?_
          refine XS.iconst X12.here hx rfl (hb hby d12_41) ?_
          exact retN X12 hx (t := .boolean) Bd.returns (by simp) (hb hby d12_42) hr
        · show Qsw2 Z a1 p2 a3 zcs fm q d kd f tb kb g h0 n0 _ T12.heap _
          exact ⟨(congrArg (fun z => some (Value.int z)) (by rw [own_sw2]; simp only [if_neg hc10_3, if_pos hc38_8, if_neg hc38_13])), N12, eq12⟩
    · obtain ⟨fs, hr, hrun, hended, hW, hsame⟩ := X7.leave (v := some (.int (0 : Int32))) (fun h => by rw [Bd.returns] at h; cases h)
      refine ⟨_, _, ?_, hrun, hended, _, _, rfl, ?_, ⟨_, rfl⟩, hW, hsame.mono (by decide) (by decide)⟩
      · show Steps p.tables e below (T7.setTop (mkF m 38 #[vr a1, vi p2, vr a3, vi (0 : Int32)] [(.int (g 0)), (.int (f ((p2 + (0 : Int32))).toNatClampNeg))])) _
        refine XS.icmpNo X7.here hx rfl (hb hby d12_38) rfl ((feq hc38_8).1) ?_
        refine XS.iconst X7.here hx rfl (hb hby d12_41) ?_
        exact retN X7 hx (t := .boolean) Bd.returns (by simp) (hb hby d12_42) hr
      · show Qsw2 Z a1 p2 a3 zcs fm q d kd f tb kb g h0 n0 _ T7.heap _
        exact ⟨(congrArg (fun z => some (Value.int z)) (by rw [own_sw2]; simp only [if_neg hc10_3, if_neg hc38_8])), N7, eq7⟩
theorem ef_rmla2 (m : MethodId) (a1 : Addr) (a2 : Addr) : entryFrame m #[(.ref a1), (.ref a2)] 2 = mkF m 0 #[vr a1, vr a2] [] := by first | (simp [entryFrame, mkF, argsToLocals, Value.category]; done) | rfl
def Qla2 (Z : State) (a1 : Addr) (a2 : Addr) (w : Int32) (zcs : Int32) (fm : Value) (q : Int32) (d : Addr) (kd : ClassId) (f : Nat → Int32) (tb : Addr) (kb : ClassId) (g : Nat → Int32) (h0 : Heap) (n0 : Nat) (v : Option Value) (h : Heap) (L : List Loc) : Prop := v = some (.int (own_sw2 w q f g)) ∧ Fr n0 L ∧ h = h0
set_option maxRecDepth 65536 in
set_option maxHeartbeats 40000000 in
theorem rmla2 (l : Launch) (Z : State) (a0 : Array Value) (hw : ∀ d ∈ tables_1, d.before a0 Z = true) (ws : List Jvm.Cond) (a1 : Addr) (a2 : Addr) (w : Int32) (zcs : Int32) (fm : Value) (q : Int32) (d : Addr) (kd : ClassId) (f : Nat → Int32) (tb : Addr) (kb : ClassId) (g : Nat → Int32) (h0 : Heap) (n0 : Nat) (Z0 : n0 ≤ h0.size) (S_COMPACT_STRINGS : Sta Z h0 "java/lang/String" "COMPACT_STRINGS" "Z" (.int zcs)) (hCS : ¬ zcs = 0) (S_SIOOBE_FORMATTER : Sta Z h0 "jdk/internal/util/Preconditions" "SIOOBE_FORMATTER" "Ljava/util/function/BiFunction;" fm) (hfm : fm.isRef = true) (E_a1 : Exa Z h0 a1 "com/example/verdict/verdict/saml/XmlScanner") (F_pos_a1 : Fld Z h0 a1 "com/example/verdict/verdict/saml/XmlScanner" "pos" "I" (.int w)) (F_end_a1 : Fld Z h0 a1 "com/example/verdict/verdict/saml/XmlScanner" "end" "I" (.int q)) (F_doc_a1 : Fld Z h0 a1 "com/example/verdict/verdict/saml/XmlScanner" "doc" "[B" (.ref d)) (A_d : AV Z h0 d kd .byte 5 (fun i => Value.int (f i))) (E_a2 : Exa Z h0 a2 "java/lang/String") (F_value_a2 : Fld Z h0 a2 "java/lang/String" "value" "[B" (.ref tb)) (F_coder_a2 : Fld Z h0 a2 "java/lang/String" "coder" "B" (.int (0 : Int32))) (A_tb : AV Z h0 tb kb .byte 2 (fun i => Value.int (g i))) (hok : ∀ i, own_ok (g i)) (hp : w = 0 ∨ w = 1) :
    MetFree l (⟨"com/example/verdict/verdict/saml/XmlScanner", "lookingAt", "(Ljava/lang/String;)Z"⟩ : MethodName) (head1 (Jvm.Cond.code (⟨"com/example/verdict/verdict/saml/XmlScanner", "lookingAt", "(Ljava/lang/String;)Z"⟩ : MethodName) prog_45_method_4_code 2 (some .boolean) :: ws) ({ frames := 5, cells := 0, slots := 0, locals := 69 } : Room)) (fun a U => a = #[(.ref a1), (.ref a2)] ∧ Z.Warmed39 U.vm ∧ U.heap = h0) (fun _ _ _ _ _ => True) (fun _ U o U' => ∃ v L, o = .returned v ∧ Qla2 Z a1 a2 w zcs fm q d kd f tb kb g h0 n0 v U'.heap L ∧ FrameEnd U o U' L ({ frames := 5, cells := 0, slots := 0, locals := 69 } : Room).cells ({ frames := 5, cells := 0, slots := 0, locals := 69 } : Room).slots) := by
  refine MetFree.of_bodySF (plainFor_of_name pn_2) hisR ?_
  intro p e s m args below meth c s₁ Bd hml0 hP hK
  obtain ⟨rfl, hZ, hh⟩ := hP
  have hx := Bd.exec
  have hby := Bd.bytes
  have hml : c.maxLocals = 2 := hml0
  have hown : s.vm.findClass "com/example/verdict/verdict/saml/XmlScanner" = some m.cls := findClass_of_methodNamed Bd.named
  have hnm := (name_of_methodNamed Bd.named Bd.method).1
  have X0 : Stand p l e ({ frames := 5, cells := 0, slots := 0, locals := 69 } : Room) s m #[(.ref a1), (.ref a2)] below meth c s₁ [] 0 0 := Stand.of_body Bd
  have e0 : s₁.heap = h0 := by rw [← hh, Bd.state]; rfl
  have N0 := Fr.nil n0
  show GoalS p.tables e below s ({ frames := 5, cells := 0, slots := 0, locals := 69 } : Room).cells ({ frames := 5, cells := 0, slots := 0, locals := 69 } : Room).slots (Qla2 Z a1 a2 w zcs fm q d kd f tb kb g h0 n0) (s₁.setTop (entryFrame m #[(.ref a1), (.ref a2)] 2))
  refine GoalS.lift (B := s₁.setTop (mkF m 0 #[vr a1, vr a2] [])) (fun t k => castTop (ef_rmla2 m a1 a2) k) ?_
  have K0 : Keep h0 h0 [] := Keep.refl _ _
  obtain ⟨T1, X1, e1, st1⟩ := getF X0 hx hZ hown (host := "") (Or.inl (hw _ (List.mem_of_getElem? (i := 29) rfl))) Via.refl e0 F_pos_a1 (g := (mkF m 2 #[vr a1, vr a2] [(.ref a1), (.ref a1)])) rfl rfl (hb hby d11_2)
  obtain ⟨cq2, q2, q2'⟩ := E_a1.cell
  obtain ⟨_, _, ⟨T2, L2, k2, n2⟩, -, X2, ⟨Lc2, hQ2, l2, y2, z2⟩, st2⟩ := X1.privateBack hx (y := (⟨"com/example/verdict/verdict/saml/XmlScanner", "startsWith", "(ILjava/lang/String;)Z"⟩ : MethodName)) hown (mvT hZ (hw _ (List.mem_of_getElem? (i := 67) rfl))) (mvT hZ (hw _ (List.mem_of_getElem? (i := 68) rfl))) (own_selp (y := (⟨"com/example/verdict/verdict/saml/XmlScanner", "startsWith", "(ILjava/lang/String;)Z"⟩ : MethodName)) (mvT hZ (hw _ (List.mem_of_getElem? (i := 2) rfl))) (mvP hZ (hw _ (List.mem_of_getElem? (i := 69) rfl))) (mvT hZ (hw _ (List.mem_of_getElem? (i := 68) rfl))) (by decide)) (Cond.privateMethod_at (mvP hZ (hw _ (List.mem_of_getElem? (i := 69) rfl)) (args := #[]))) (mvT hZ (hw _ (List.mem_of_getElem? (i := 70) rfl))) (by decide) (backOf (W := 0) (rmsw2 l Z a0 hw [] a1 w a2 zcs fm q d kd f tb kb g h0 n0 Z0 S_COMPACT_STRINGS hCS S_SIOOBE_FORMATTER hfm E_a1 F_end_a1 F_doc_a1 A_d E_a2 F_value_a2 F_coder_a2 A_tb hok hp) hZ (hw _ (List.mem_of_getElem? (i := 70) rfl)) (hw _ (List.mem_of_getElem? (i := 3) rfl)) (by decide) (by decide)) (g := (mkF m 6 #[vr a1, vr a2] [(.ref a2), (.int w), (.ref a1)])) rfl (by rw [hml]; rfl) (Steps.refl _) (a := a1) (by rw [e1]; exact q2) q2' (argsL := [(.int w), (.ref a2)]) (rest := []) (lenOf pd_8 rfl) rfl (by show 2 * 0 + _ ≤ _; exact Nat.le_of_eq rfl) (hb hby d11_6) (fun _ _ => ⟨rfl, e1, (by decide : 0 + 0 ≤ _), (by decide : 0 + 0 ≤ _)⟩)
  dsimp only [Pt.U, Pt.locs, Pt.cells, Pt.slots] at X2 l2 y2 z2 st2 hQ2
  subst y2 z2
  obtain ⟨rfl, N2q, eq2⟩ := hQ2
  have N2 : Fr n0 L2 := by rw [l2]; exact Fr.app N0 N2q
  obtain ⟨fs, hr, hrun, hended, hW, hsame⟩ := X2.leave (v := some (.int ((own_sw2 w q f g) &&& 1))) (fun h => by rw [Bd.returns] at h; cases h)
  refine ⟨_, _, ?_, hrun, hended, _, _, rfl, ?_, ⟨_, rfl⟩, hW, hsame.mono (by decide) (by decide)⟩
  · show Steps p.tables e below (s₁.setTop (mkF m 0 #[vr a1, vr a2] [])) _
    refine XS.aloadN X0.here hx rfl (hb hby d11_0) rfl rfl ?_
    refine XS.aloadN X0.here hx rfl (hb hby d11_1) rfl rfl ?_
    refine st1 _ ?_
    refine XS.aloadN X1.here hx rfl (hb hby d11_5) rfl rfl ?_
    refine st2.trans ?_
    exact retN X2 hx (t := .boolean) Bd.returns (by simp) (hb hby d11_9) hr
  · show Qla2 Z a1 a2 w zcs fm q d kd f tb kb g h0 n0 _ T2.heap _
    exact ⟨(congrArg (fun z => some (Value.int z)) own_swb2), N2, eq2⟩
theorem ef_rmsk2 (m : MethodId) (a1 : Addr) (a2 : Addr) : entryFrame m #[(.ref a1), (.ref a2)] 3 = mkF m 0 #[vr a1, vr a2, .unset] [] := by first | (simp [entryFrame, mkF, argsToLocals, Value.category]; done) | rfl
def Qsk2 (Z : State) (a1 : Addr) (a2 : Addr) (w : Int32) (zcs : Int32) (fm : Value) (q : Int32) (d : Addr) (kd : ClassId) (f : Nat → Int32) (tb : Addr) (kb : ClassId) (g : Nat → Int32) (h0 : Heap) (n0 : Nat) (v : Option Value) (h : Heap) (L : List Loc) : Prop := ∃ (w2 : Int32), v = some (.int (own_sw2 w q f g)) ∧ Fr n0 L ∧ Keep h0 h [a1] ∧ (Exa Z h a1 "com/example/verdict/verdict/saml/XmlScanner") ∧ (Fld Z h a1 "com/example/verdict/verdict/saml/XmlScanner" "pos" "I" (.int w2)) ∧ (Fld Z h a1 "com/example/verdict/verdict/saml/XmlScanner" "end" "I" (.int q)) ∧ (w2 = (if (own_sw2 w q f g) = (0 : Int32) then w else (w + (2 : Int32))))
set_option maxRecDepth 65536 in
set_option maxHeartbeats 40000000 in
theorem rmsk2 (l : Launch) (Z : State) (a0 : Array Value) (hw : ∀ d ∈ tables_1, d.before a0 Z = true) (ws : List Jvm.Cond) (a1 : Addr) (a2 : Addr) (w : Int32) (zcs : Int32) (fm : Value) (q : Int32) (d : Addr) (kd : ClassId) (f : Nat → Int32) (tb : Addr) (kb : ClassId) (g : Nat → Int32) (h0 : Heap) (n0 : Nat) (Z0 : n0 ≤ h0.size) (S_COMPACT_STRINGS : Sta Z h0 "java/lang/String" "COMPACT_STRINGS" "Z" (.int zcs)) (hCS : ¬ zcs = 0) (S_SIOOBE_FORMATTER : Sta Z h0 "jdk/internal/util/Preconditions" "SIOOBE_FORMATTER" "Ljava/util/function/BiFunction;" fm) (hfm : fm.isRef = true) (E_a1 : Exa Z h0 a1 "com/example/verdict/verdict/saml/XmlScanner") (g_a1 : n0 ≤ a1) (F_pos_a1 : Fld Z h0 a1 "com/example/verdict/verdict/saml/XmlScanner" "pos" "I" (.int w)) (F_end_a1 : Fld Z h0 a1 "com/example/verdict/verdict/saml/XmlScanner" "end" "I" (.int q)) (F_doc_a1 : Fld Z h0 a1 "com/example/verdict/verdict/saml/XmlScanner" "doc" "[B" (.ref d)) (A_d : AV Z h0 d kd .byte 5 (fun i => Value.int (f i))) (E_a2 : Exa Z h0 a2 "java/lang/String") (F_value_a2 : Fld Z h0 a2 "java/lang/String" "value" "[B" (.ref tb)) (F_coder_a2 : Fld Z h0 a2 "java/lang/String" "coder" "B" (.int (0 : Int32))) (A_tb : AV Z h0 tb kb .byte 2 (fun i => Value.int (g i))) (ne_a1_a2 : a1 ≠ a2) (ne_a1_tb : a1 ≠ tb) (ne_a1_d : a1 ≠ d) (hok : ∀ i, own_ok (g i)) (hp : w = 0 ∨ w = 1) :
    MetFree l (⟨"com/example/verdict/verdict/saml/XmlScanner", "skip", "(Ljava/lang/String;)Z"⟩ : MethodName) (head1 (Jvm.Cond.code (⟨"com/example/verdict/verdict/saml/XmlScanner", "skip", "(Ljava/lang/String;)Z"⟩ : MethodName) prog_45_method_5_code 3 (some .boolean) :: ws) ({ frames := 6, cells := 0, slots := 0, locals := 82 } : Room)) (fun a U => a = #[(.ref a1), (.ref a2)] ∧ Z.Warmed39 U.vm ∧ U.heap = h0) (fun _ _ _ _ _ => True) (fun _ U o U' => ∃ v L, o = .returned v ∧ Qsk2 Z a1 a2 w zcs fm q d kd f tb kb g h0 n0 v U'.heap L ∧ FrameEnd U o U' L ({ frames := 6, cells := 0, slots := 0, locals := 82 } : Room).cells ({ frames := 6, cells := 0, slots := 0, locals := 82 } : Room).slots) := by
  refine MetFree.of_bodySF (plainFor_of_name pn_2) hisR ?_
  intro p e s m args below meth c s₁ Bd hml0 hP hK
  obtain ⟨rfl, hZ, hh⟩ := hP
  have hx := Bd.exec
  have hby := Bd.bytes
  have hml : c.maxLocals = 3 := hml0
  have hown : s.vm.findClass "com/example/verdict/verdict/saml/XmlScanner" = some m.cls := findClass_of_methodNamed Bd.named
  have hnm := (name_of_methodNamed Bd.named Bd.method).1
  have X0 : Stand p l e ({ frames := 6, cells := 0, slots := 0, locals := 82 } : Room) s m #[(.ref a1), (.ref a2)] below meth c s₁ [] 0 0 := Stand.of_body Bd
  have e0 : s₁.heap = h0 := by rw [← hh, Bd.state]; rfl
  have N0 := Fr.nil n0
  show GoalS p.tables e below s ({ frames := 6, cells := 0, slots := 0, locals := 82 } : Room).cells ({ frames := 6, cells := 0, slots := 0, locals := 82 } : Room).slots (Qsk2 Z a1 a2 w zcs fm q d kd f tb kb g h0 n0) (s₁.setTop (entryFrame m #[(.ref a1), (.ref a2)] 3))
  refine GoalS.lift (B := s₁.setTop (mkF m 0 #[vr a1, vr a2, .unset] [])) (fun t k => castTop (ef_rmsk2 m a1 a2) k) ?_
  have K0 : Keep h0 h0 [a1] := Keep.refl _ _
  obtain ⟨cq1, kq1, q1a, q1b, q1c⟩ := isOf hZ e0 E_a1
  obtain ⟨_, _, ⟨T1, L1, k1, n1⟩, -, X1, ⟨Lc1, hQ1, l1, y1, z1⟩, st1⟩ := X0.virtualBack hx (y := (⟨"com/example/verdict/verdict/saml/XmlScanner", "lookingAt", "(Ljava/lang/String;)Z"⟩ : MethodName)) (z := (⟨"com/example/verdict/verdict/saml/XmlScanner", "lookingAt", "(Ljava/lang/String;)Z"⟩ : MethodName)) hown (mvT hZ (hw _ (List.mem_of_getElem? (i := 62) rfl))) (mvT hZ (hw _ (List.mem_of_getElem? (i := 63) rfl))) (notFace_of_selects (args := #[]) (mvT hZ (hw _ (List.mem_of_getElem? (i := 65) rfl)))) (mvT hZ (hw _ (List.mem_of_getElem? (i := 65) rfl))) (mvT hZ (hw _ (List.mem_of_getElem? (i := 64) rfl))) (by decide) (backOf (W := 0) (rmla2 l Z a0 hw [] a1 a2 w zcs fm q d kd f tb kb g h0 n0 Z0 S_COMPACT_STRINGS hCS S_SIOOBE_FORMATTER hfm E_a1 F_pos_a1 F_end_a1 F_doc_a1 A_d E_a2 F_value_a2 F_coder_a2 A_tb hok hp) hZ (hw _ (List.mem_of_getElem? (i := 66) rfl)) (hw _ (List.mem_of_getElem? (i := 3) rfl)) (by decide) (by decide)) q1a q1c (g := (mkF m 2 #[vr a1, vr a2, .unset] [(.ref a2), (.ref a1)])) rfl (by rw [hml]; rfl) (Steps.refl _) (argsL := [(.ref a2)]) (rest := []) (lenOf pd_9 rfl) rfl (by show 2 * 0 + _ ≤ _; exact Nat.le_of_eq rfl) (hb hby d10_2) (fun _ _ => ⟨rfl, e0, (by decide : 0 + 0 ≤ _), (by decide : 0 + 0 ≤ _)⟩)
  dsimp only [Pt.U, Pt.locs, Pt.cells, Pt.slots] at X1 l1 y1 z1 st1 hQ1
  subst y1 z1
  obtain ⟨rfl, N1q, eq1⟩ := hQ1
  have N1 : Fr n0 L1 := by rw [l1]; exact Fr.app N0 N1q
  refine GoalS.lift (B := (T1.setTop (mkF m 7 #[vr a1, vr a2, vi (own_sw2 w q f g)] [(.int (own_sw2 w q f g))]))) (fun t k => ?_) ?_
  · show Steps p.tables e below (s₁.setTop (mkF m 0 #[vr a1, vr a2, .unset] [])) _
    refine XS.aloadN X0.here hx rfl (hb hby d10_0) rfl rfl ?_
    refine XS.aloadN X0.here hx rfl (hb hby d10_1) rfl rfl ?_
    refine st1.trans ?_
    refine XS.istoreN X1.here hx rfl (hb hby d10_5) rfl (l' := #[vr a1, vr a2, vi (own_sw2 w q f g)]) rfl ?_
    refine XS.iloadN X1.here hx rfl (hb hby d10_6) rfl ?_
    exact k
  by_cases hc7_2 : (own_sw2 w q f g) = (0 : Int32)
  · obtain ⟨fs, hr, hrun, hended, hW, hsame⟩ := X1.leave (v := some (.int ((own_sw2 w q f g) &&& 1))) (fun h => by rw [Bd.returns] at h; cases h)
    refine ⟨_, _, ?_, hrun, hended, _, _, rfl, ?_, ⟨_, rfl⟩, hW, hsame.mono (by decide) (by decide)⟩
    · show Steps p.tables e below (T1.setTop (mkF m 7 #[vr a1, vr a2, vi (own_sw2 w q f g)] [(.int (own_sw2 w q f g))])) _
      refine XS.ifYes X1.here hx rfl (pc0 := 7) (pc' := 23) rfl (hb hby d10_7) rfl ((if0 _ _).trans (teq hc7_2).1) (by decide) (by decide) ?_
      refine XS.iloadN X1.here hx rfl (hb hby d10_23) rfl ?_
      exact retN X1 hx (t := .boolean) Bd.returns (by simp) (hb hby d10_24) hr
    · show Qsk2 Z a1 a2 w zcs fm q d kd f tb kb g h0 n0 _ T1.heap _
      rw [eq1]
      exact ⟨w, (congrArg (fun z => some (Value.int z)) own_swb2), N1, K0, E_a1, F_pos_a1, F_end_a1, (by simp only [if_pos hc7_2])⟩
  · obtain ⟨T3, X3, e3, st3⟩ := getF X1 hx hZ hown (host := "") (Or.inl (hw _ (List.mem_of_getElem? (i := 29) rfl))) Via.refl eq1 F_pos_a1 (g := (mkF m 12 #[vr a1, vr a2, vi (own_sw2 w q f g)] [(.ref a1), (.ref a1)])) rfl rfl (hb hby d10_12)
    obtain ⟨cq4, kq4, q4a, q4b, q4c⟩ := isOf hZ e3 E_a2
    obtain ⟨_, _, ⟨T4, L4, k4, n4⟩, -, X4, ⟨Lc4, hQ4, l4, y4, z4⟩, st4⟩ := X3.virtualBack hx (y := (⟨"java/lang/String", "length", "()I"⟩ : MethodName)) (z := (⟨"java/lang/String", "length", "()I"⟩ : MethodName)) hown (mvT hZ (hw _ (List.mem_of_getElem? (i := 71) rfl))) (mvT hZ (hw _ (List.mem_of_getElem? (i := 72) rfl))) (notFace_of_selects (args := #[]) (mvT hZ (hw _ (List.mem_of_getElem? (i := 74) rfl)))) (mvT hZ (hw _ (List.mem_of_getElem? (i := 74) rfl))) (mvT hZ (hw _ (List.mem_of_getElem? (i := 73) rfl))) (by decide) (backOf (W := 2) (rmlen2 l Z a0 hw [] a2 zcs tb kb g h0 n0 Z0 S_COMPACT_STRINGS hCS E_a2 F_value_a2 F_coder_a2 A_tb) hZ (hw _ (List.mem_of_getElem? (i := 75) rfl)) (hw _ (List.mem_of_getElem? (i := 40) rfl)) (by decide) (by decide)) q4a q4c (g := (mkF m 16 #[vr a1, vr a2, vi (own_sw2 w q f g)] [(.ref a2), (.int w), (.ref a1)])) rfl (by rw [hml]; rfl) (Steps.refl _) (argsL := []) (rest := [(.int w), (.ref a1)]) (lenOf pd_7 rfl) rfl (by show 2 * 0 + _ ≤ _; exact Nat.le_of_eq rfl) (hb hby d10_16) (fun _ _ => ⟨rfl, e3, (by decide : 0 + 0 ≤ _), (by decide : 0 + 0 ≤ _)⟩)
    dsimp only [Pt.U, Pt.locs, Pt.cells, Pt.slots] at X4 l4 y4 z4 st4 hQ4
    subst y4 z4
    obtain ⟨rfl, N4q, eq4⟩ := hQ4
    have N4 : Fr n0 L4 := by rw [l4]; exact Fr.app N1 N4q
    obtain ⟨T5, h5, X5, e5, W5, st5⟩ := putF X4 hx hZ hown (host := "") (Or.inl (hw _ (List.mem_of_getElem? (i := 29) rfl))) Via.refl eq4 F_pos_a1 E_a1 (Or.inl (hw _ (List.mem_of_getElem? (i := 30) rfl))) (hw _ (List.mem_of_getElem? (i := 2) rfl)) (ty := .int) (by decide) rfl rfl (g := (mkF m 20 #[vr a1, vr a2, vi (own_sw2 w q f g)] [(.int (w + (2 : Int32))), (.ref a1)])) rfl rfl (hb hby d10_20)
    have z6 : n0 ≤ h5.size := Nat.le_trans Z0 (Keep.of_wr W5).1
    have K7 : Keep h0 h5 [a1] := K0.wr W5 (Or.inl (List.mem_of_getElem? (i := 0) rfl))
    have Fw5 : Fld Z h5 a1 "com/example/verdict/verdict/saml/XmlScanner" "pos" "I" (.int (w + (2 : Int32))) := F_pos_a1.same W5
    have N5 := Fr.snoc X5 N4 g_a1
    obtain ⟨fs, hr, hrun, hended, hW, hsame⟩ := X5.leave (v := some (.int ((own_sw2 w q f g) &&& 1))) (fun h => by rw [Bd.returns] at h; cases h)
    refine ⟨_, _, ?_, hrun, hended, _, _, rfl, ?_, ⟨_, rfl⟩, hW, hsame.mono (by decide) (by decide)⟩
    · show Steps p.tables e below (T1.setTop (mkF m 7 #[vr a1, vr a2, vi (own_sw2 w q f g)] [(.int (own_sw2 w q f g))])) _
      refine XS.ifNo X1.here hx rfl (hb hby d10_7) rfl ((if0 _ _).trans (feq hc7_2).1) ?_
      refine XS.aloadN X1.here hx rfl (hb hby d10_10) rfl rfl ?_
      refine XS.dup X1.here hx rfl (hb hby d10_11) rfl rfl ?_
      refine st3 _ ?_
      refine XS.aloadN X3.here hx rfl (hb hby d10_15) rfl rfl ?_
      refine st4.trans ?_
      show Steps p.tables e below (T4.setTop (mkF m 19 #[vr a1, vr a2, vi (own_sw2 w q f g)] [(.int (2 : Int32)), (.int w), (.ref a1)])) _
      refine XS.iadd X4.here hx rfl (hb hby d10_19) rfl ?_
      refine st5 _ ?_
      refine XS.iloadN X5.here hx rfl (hb hby d10_23) rfl ?_
      exact retN X5 hx (t := .boolean) Bd.returns (by simp) (hb hby d10_24) hr
    · have f8 : Exa Z h5 a1 "com/example/verdict/verdict/saml/XmlScanner" := (E_a1.wr W5)
      have f9 : Fld Z h5 a1 "com/example/verdict/verdict/saml/XmlScanner" "end" "I" (.int q) := (F_end_a1.other W5 (Or.inr (slot_ne (Or.inr (hw _ (List.mem_of_getElem? (i := 23) rfl))) (Or.inl (hw _ (List.mem_of_getElem? (i := 30) rfl))) (by decide) (t := .int) (t' := .int) (by decide) (by decide))))
      show Qsk2 Z a1 a2 w zcs fm q d kd f tb kb g h0 n0 _ T5.heap _
      rw [e5]
      exact ⟨(w + (2 : Int32)), (congrArg (fun z => some (Value.int z)) own_swb2), N5, K7, f8, Fw5, f9, (by simp only [if_neg hc7_2])⟩
theorem ef_rmsw3 (m : MethodId) (a1 : Addr) (p2 : Int32) (a3 : Addr) : entryFrame m #[(.ref a1), (.int p2), (.ref a3)] 4 = mkF m 0 #[vr a1, vi p2, vr a3, .unset] [] := by first | (simp [entryFrame, mkF, argsToLocals, Value.category]; done) | rfl
def Qsw3 (Z : State) (a1 : Addr) (p2 : Int32) (a3 : Addr) (zcs : Int32) (fm : Value) (q : Int32) (d : Addr) (kd : ClassId) (f : Nat → Int32) (tb : Addr) (kb : ClassId) (g : Nat → Int32) (h0 : Heap) (n0 : Nat) (v : Option Value) (h : Heap) (L : List Loc) : Prop := v = some (.int (own_sw3 p2 q f g)) ∧ Fr n0 L ∧ h = h0
set_option maxRecDepth 65536 in
set_option maxHeartbeats 40000000 in
theorem rmsw3 (l : Launch) (Z : State) (a0 : Array Value) (hw : ∀ d ∈ tables_1, d.before a0 Z = true) (ws : List Jvm.Cond) (a1 : Addr) (p2 : Int32) (a3 : Addr) (zcs : Int32) (fm : Value) (q : Int32) (d : Addr) (kd : ClassId) (f : Nat → Int32) (tb : Addr) (kb : ClassId) (g : Nat → Int32) (h0 : Heap) (n0 : Nat) (Z0 : n0 ≤ h0.size) (S_COMPACT_STRINGS : Sta Z h0 "java/lang/String" "COMPACT_STRINGS" "Z" (.int zcs)) (hCS : ¬ zcs = 0) (S_SIOOBE_FORMATTER : Sta Z h0 "jdk/internal/util/Preconditions" "SIOOBE_FORMATTER" "Ljava/util/function/BiFunction;" fm) (hfm : fm.isRef = true) (E_a1 : Exa Z h0 a1 "com/example/verdict/verdict/saml/XmlScanner") (F_end_a1 : Fld Z h0 a1 "com/example/verdict/verdict/saml/XmlScanner" "end" "I" (.int q)) (F_doc_a1 : Fld Z h0 a1 "com/example/verdict/verdict/saml/XmlScanner" "doc" "[B" (.ref d)) (A_d : AV Z h0 d kd .byte 5 (fun i => Value.int (f i))) (E_a3 : Exa Z h0 a3 "java/lang/String") (F_value_a3 : Fld Z h0 a3 "java/lang/String" "value" "[B" (.ref tb)) (F_coder_a3 : Fld Z h0 a3 "java/lang/String" "coder" "B" (.int (0 : Int32))) (A_tb : AV Z h0 tb kb .byte 3 (fun i => Value.int (g i))) (hok : ∀ i, own_ok (g i)) (hp : p2 = 0 ∨ p2 = 1) :
    MetFree l (⟨"com/example/verdict/verdict/saml/XmlScanner", "startsWith", "(ILjava/lang/String;)Z"⟩ : MethodName) (head1 (Jvm.Cond.code (⟨"com/example/verdict/verdict/saml/XmlScanner", "startsWith", "(ILjava/lang/String;)Z"⟩ : MethodName) prog_45_method_34_code 4 (some .boolean) :: ws) ({ frames := 4, cells := 0, slots := 0, locals := 54 } : Room)) (fun a U => a = #[(.ref a1), (.int p2), (.ref a3)] ∧ Z.Warmed39 U.vm ∧ U.heap = h0) (fun _ _ _ _ _ => True) (fun _ U o U' => ∃ v L, o = .returned v ∧ Qsw3 Z a1 p2 a3 zcs fm q d kd f tb kb g h0 n0 v U'.heap L ∧ FrameEnd U o U' L ({ frames := 4, cells := 0, slots := 0, locals := 54 } : Room).cells ({ frames := 4, cells := 0, slots := 0, locals := 54 } : Room).slots) := by
  refine MetFree.of_bodySF (plainFor_of_name pn_2) hisR ?_
  intro p e s m args below meth c s₁ Bd hml0 hP hK
  obtain ⟨rfl, hZ, hh⟩ := hP
  have hx := Bd.exec
  have hby := Bd.bytes
  have hml : c.maxLocals = 4 := hml0
  have hown : s.vm.findClass "com/example/verdict/verdict/saml/XmlScanner" = some m.cls := findClass_of_methodNamed Bd.named
  have hnm := (name_of_methodNamed Bd.named Bd.method).1
  have X0 : Stand p l e ({ frames := 4, cells := 0, slots := 0, locals := 54 } : Room) s m #[(.ref a1), (.int p2), (.ref a3)] below meth c s₁ [] 0 0 := Stand.of_body Bd
  have e0 : s₁.heap = h0 := by rw [← hh, Bd.state]; rfl
  have N0 := Fr.nil n0
  show GoalS p.tables e below s ({ frames := 4, cells := 0, slots := 0, locals := 54 } : Room).cells ({ frames := 4, cells := 0, slots := 0, locals := 54 } : Room).slots (Qsw3 Z a1 p2 a3 zcs fm q d kd f tb kb g h0 n0) (s₁.setTop (entryFrame m #[(.ref a1), (.int p2), (.ref a3)] 4))
  refine GoalS.lift (B := s₁.setTop (mkF m 0 #[vr a1, vi p2, vr a3, .unset] [])) (fun t k => castTop (ef_rmsw3 m a1 p2 a3) k) ?_
  have K0 : Keep h0 h0 [] := Keep.refl _ _
  obtain ⟨cq1, kq1, q1a, q1b, q1c⟩ := isOf hZ e0 E_a3
  obtain ⟨_, _, ⟨T1, L1, k1, n1⟩, -, X1, ⟨Lc1, hQ1, l1, y1, z1⟩, st1⟩ := X0.virtualBack hx (y := (⟨"java/lang/String", "length", "()I"⟩ : MethodName)) (z := (⟨"java/lang/String", "length", "()I"⟩ : MethodName)) hown (mvT hZ (hw _ (List.mem_of_getElem? (i := 71) rfl))) (mvT hZ (hw _ (List.mem_of_getElem? (i := 72) rfl))) (notFace_of_selects (args := #[]) (mvT hZ (hw _ (List.mem_of_getElem? (i := 74) rfl)))) (mvT hZ (hw _ (List.mem_of_getElem? (i := 74) rfl))) (mvT hZ (hw _ (List.mem_of_getElem? (i := 73) rfl))) (by decide) (backOf (W := 0) (rmlen3 l Z a0 hw [] a3 zcs tb kb g h0 n0 Z0 S_COMPACT_STRINGS hCS E_a3 F_value_a3 F_coder_a3 A_tb) hZ (hw _ (List.mem_of_getElem? (i := 75) rfl)) (hw _ (List.mem_of_getElem? (i := 40) rfl)) (by decide) (by decide)) q1a q1c (g := (mkF m 1 #[vr a1, vi p2, vr a3, .unset] [(.ref a3)])) rfl (by rw [hml]; rfl) (Steps.refl _) (argsL := []) (rest := []) (lenOf pd_7 rfl) rfl (by show 2 * 0 + _ ≤ _; exact Nat.le_of_eq rfl) (hb hby d12_1) (fun _ _ => ⟨rfl, e0, (by decide : 0 + 0 ≤ _), (by decide : 0 + 0 ≤ _)⟩)
  dsimp only [Pt.U, Pt.locs, Pt.cells, Pt.slots] at X1 l1 y1 z1 st1 hQ1
  subst y1 z1
  obtain ⟨rfl, N1q, eq1⟩ := hQ1
  have N1 : Fr n0 L1 := by rw [l1]; exact Fr.app N0 N1q
  obtain ⟨T2, X2, e2, st2⟩ := getF X1 hx hZ hown (host := "") (Or.inl (hw _ (List.mem_of_getElem? (i := 22) rfl))) Via.refl eq1 F_end_a1 (g := (mkF m 5 #[vr a1, vi p2, vr a3, .unset] [(.ref a1), (.int (3 : Int32))])) rfl rfl (hb hby d12_5)
  refine GoalS.lift (B := (T2.setTop (mkF m 10 #[vr a1, vi p2, vr a3, .unset] [(.int (q - p2)), (.int (3 : Int32))]))) (fun t k => ?_) ?_
  · show Steps p.tables e below (s₁.setTop (mkF m 0 #[vr a1, vi p2, vr a3, .unset] [])) _
    refine XS.aloadN X0.here hx rfl (hb hby d12_0) rfl rfl ?_
    refine st1.trans ?_
    refine XS.aloadN X1.here hx rfl (hb hby d12_4) rfl rfl ?_
    refine st2 _ ?_
    refine XS.iloadN X2.here hx rfl (hb hby d12_8) rfl ?_
    refine XS.isub X2.here hx rfl (hb hby d12_9) rfl ?_
    show Steps p.tables e below (T2.setTop (mkF m 10 #[vr a1, vi p2, vr a3, .unset] [(.int (q - p2)), (.int (3 : Int32))])) _
    exact k
  by_cases hc10_3 : (q - p2) < (3 : Int32)
  · obtain ⟨fs, hr, hrun, hended, hW, hsame⟩ := X2.leave (v := some (.int (0 : Int32))) (fun h => by rw [Bd.returns] at h; cases h)
    refine ⟨_, _, ?_, hrun, hended, _, _, rfl, ?_, ⟨_, rfl⟩, hW, hsame.mono (by decide) (by decide)⟩
    · show Steps p.tables e below (T2.setTop (mkF m 10 #[vr a1, vi p2, vr a3, .unset] [(.int (q - p2)), (.int (3 : Int32))])) _
      refine XS.icmpNo X2.here hx rfl (hb hby d12_10) rfl ((tlt hc10_3).2.2.2) ?_
      refine XS.iconst X2.here hx rfl (hb hby d12_13) ?_
      exact retN X2 hx (t := .boolean) Bd.returns (by simp) (hb hby d12_14) hr
    · show Qsw3 Z a1 p2 a3 zcs fm q d kd f tb kb g h0 n0 _ T2.heap _
      exact ⟨(congrArg (fun z => some (Value.int z)) (by rw [own_sw3]; simp only [if_pos hc10_3])), N1, e2⟩
  · obtain ⟨cq4, kq4, q4a, q4b, q4c⟩ := isOf hZ e2 E_a3
    obtain ⟨_, _, ⟨T4, L4, k4, n4⟩, -, X4, ⟨Lc4, hQ4, l4, y4, z4⟩, st4⟩ := X2.virtualBack hx (y := (⟨"java/lang/String", "length", "()I"⟩ : MethodName)) (z := (⟨"java/lang/String", "length", "()I"⟩ : MethodName)) hown (mvT hZ (hw _ (List.mem_of_getElem? (i := 71) rfl))) (mvT hZ (hw _ (List.mem_of_getElem? (i := 72) rfl))) (notFace_of_selects (args := #[]) (mvT hZ (hw _ (List.mem_of_getElem? (i := 74) rfl)))) (mvT hZ (hw _ (List.mem_of_getElem? (i := 74) rfl))) (mvT hZ (hw _ (List.mem_of_getElem? (i := 73) rfl))) (by decide) (backOf (W := 1) (rmlen3 l Z a0 hw [] a3 zcs tb kb g h0 n0 Z0 S_COMPACT_STRINGS hCS E_a3 F_value_a3 F_coder_a3 A_tb) hZ (hw _ (List.mem_of_getElem? (i := 75) rfl)) (hw _ (List.mem_of_getElem? (i := 40) rfl)) (by decide) (by decide)) q4a q4c (g := (mkF m 19 #[vr a1, vi p2, vr a3, vi (0 : Int32)] [(.ref a3), (.int (0 : Int32))])) rfl (by rw [hml]; rfl) (Steps.refl _) (argsL := []) (rest := [(.int (0 : Int32))]) (lenOf pd_7 rfl) rfl (by show 2 * 0 + _ ≤ _; exact Nat.le_of_eq rfl) (hb hby d12_19) (fun _ _ => ⟨rfl, e2, (by decide : 0 + 0 ≤ _), (by decide : 0 + 0 ≤ _)⟩)
    dsimp only [Pt.U, Pt.locs, Pt.cells, Pt.slots] at X4 l4 y4 z4 st4 hQ4
    subst y4 z4
    obtain ⟨rfl, N4q, eq4⟩ := hQ4
    have N4 : Fr n0 L4 := by rw [l4]; exact Fr.app N1 N4q
    obtain ⟨T5, X5, e5, st5⟩ := getF X4 hx hZ hown (host := "") (Or.inl (hw _ (List.mem_of_getElem? (i := 20) rfl))) Via.refl eq4 F_doc_a1 (g := (mkF m 26 #[vr a1, vi p2, vr a3, vi (0 : Int32)] [(.ref a1)])) rfl rfl (hb hby d12_26)
    obtain ⟨cl6, Ar6, kc6, sz6, -, hv6⟩ := id A_d
    have hin6 : ¬ ((p2 + (0 : Int32)) < 0 ∨ cl6.slots.size ≤ ((p2 + (0 : Int32))).toNatClampNeg) := AV.inb sz6 (own_p5 hp (i := (0 : Int32)) (by decide))
    have hat6 : cl6.slots[((p2 + (0 : Int32))).toNatClampNeg]? = some (.int (f ((p2 + (0 : Int32))).toNatClampNeg)) := (hv6 _ (AV.inx (own_p5 hp (i := (0 : Int32)) (by decide)))).trans (congrArg some rfl)
    obtain ⟨cq7, kq7, q7a, q7b, q7c⟩ := isOf hZ e5 E_a3
    obtain ⟨_, _, ⟨T7, L7, k7, n7⟩, -, X7, ⟨Lc7, hQ7, l7, y7, z7⟩, st7⟩ := X5.virtualBack hx (y := (⟨"java/lang/String", "charAt", "(I)C"⟩ : MethodName)) (z := (⟨"java/lang/String", "charAt", "(I)C"⟩ : MethodName)) hown (mvT hZ (hw _ (List.mem_of_getElem? (i := 97) rfl))) (mvT hZ (hw _ (List.mem_of_getElem? (i := 98) rfl))) (notFace_of_selects (args := #[]) (mvT hZ (hw _ (List.mem_of_getElem? (i := 100) rfl)))) (mvT hZ (hw _ (List.mem_of_getElem? (i := 100) rfl))) (mvT hZ (hw _ (List.mem_of_getElem? (i := 99) rfl))) (by decide) (backOf (W := 1) (rmca3_0 l Z a0 hw [] a3 zcs fm tb kb g h0 n0 Z0 S_COMPACT_STRINGS hCS S_SIOOBE_FORMATTER hfm E_a3 F_value_a3 F_coder_a3 A_tb (hok 0)) hZ (hw _ (List.mem_of_getElem? (i := 101) rfl)) (hw _ (List.mem_of_getElem? (i := 40) rfl)) (by decide) (by decide)) q7a q7c (g := (mkF m 35 #[vr a1, vi p2, vr a3, vi (0 : Int32)] [(.int (0 : Int32)), (.ref a3), (.int (f ((p2 + (0 : Int32))).toNatClampNeg))])) rfl (by rw [hml]; rfl) (Steps.refl _) (argsL := [(.int (0 : Int32))]) (rest := [(.int (f ((p2 + (0 : Int32))).toNatClampNeg))]) (lenOf pd_10 rfl) rfl (by show 2 * 0 + _ ≤ _; exact Nat.le_of_eq rfl) (hb hby d12_35) (fun _ _ => ⟨rfl, e5, (by decide : 0 + 0 ≤ _), (by decide : 0 + 0 ≤ _)⟩)
    dsimp only [Pt.U, Pt.locs, Pt.cells, Pt.slots] at X7 l7 y7 z7 st7 hQ7
    subst y7 z7
    obtain ⟨rfl, N7q, eq7⟩ := hQ7
    have N7 : Fr n0 L7 := by rw [l7]; exact Fr.app N4 N7q
    refine GoalS.lift (B := (T7.setTop (mkF m 38 #[vr a1, vi p2, vr a3, vi (0 : Int32)] [(.int (g 0)), (.int (f ((p2 + (0 : Int32))).toNatClampNeg))]))) (fun t k => ?_) ?_
    · show Steps p.tables e below (T2.setTop (mkF m 10 #[vr a1, vi p2, vr a3, .unset] [(.int (q - p2)), (.int (3 : Int32))])) _
      refine XS.icmpYes X2.here hx rfl (pc0 := 10) (pc' := 15) rfl (hb hby d12_10) rfl ((flt hc10_3).2.2.2) (by decide) (by decide) ?_
      refine XS.iconst X2.here hx rfl (hb hby d12_15) ?_
      refine XS.istoreN X2.here hx rfl (hb hby d12_16) rfl (l' := #[vr a1, vi p2, vr a3, vi (0 : Int32)]) rfl ?_
      refine XS.iloadN X2.here hx rfl (hb hby d12_17) rfl ?_
      refine XS.aloadN X2.here hx rfl (hb hby d12_18) rfl rfl ?_
      refine st4.trans ?_
      show Steps p.tables e below (T4.setTop (mkF m 22 #[vr a1, vi p2, vr a3, vi (0 : Int32)] [(.int (3 : Int32)), (.int (0 : Int32))])) _
      refine XS.icmpNo X4.here hx rfl (hb hby d12_22) rfl ((tlt (by decide : (0 : Int32) < (3 : Int32))).2.1) ?_
      refine XS.aloadN X4.here hx rfl (hb hby d12_25) rfl rfl ?_
      refine st5 _ ?_
      refine XS.iloadN X5.here hx rfl (hb hby d12_29) rfl ?_
      refine XS.iloadN X5.here hx rfl (hb hby d12_30) rfl ?_
      refine XS.iadd X5.here hx rfl (hb hby d12_31) rfl ?_
      show Steps p.tables e below (T5.setTop (mkF m 32 #[vr a1, vi p2, vr a3, vi (0 : Int32)] [(.int (p2 + (0 : Int32))), (.ref d)])) _
      refine X5.baloadBytes hx (j := (p2 + (0 : Int32))) (v := (.int (f ((p2 + (0 : Int32))).toNatClampNeg))) (by rw [e5]; exact Ar6.1) (State.isArrayOf_alike hZ.alike Ar6.2.1) Ar6.2.2 hin6 hat6 (g := (mkF m 32 #[vr a1, vi p2, vr a3, vi (0 : Int32)] [(.int (p2 + (0 : Int32))), (.ref d)])) rfl rfl (hb hby d12_32) _ ?_
      refine XS.aloadN X5.here hx rfl (hb hby d12_33) rfl rfl ?_
      refine XS.iloadN X5.here hx rfl (hb hby d12_34) rfl ?_
      refine st7.trans ?_
      exact k
    by_cases hc38_8 : (f ((p2 + (0 : Int32))).toNatClampNeg) = (g 0)
    · obtain ⟨cq9, kq9, q9a, q9b, q9c⟩ := isOf hZ eq7 E_a3
      obtain ⟨_, _, ⟨T9, L9, k9, n9⟩, -, X9, ⟨Lc9, hQ9, l9, y9, z9⟩, st9⟩ := X7.virtualBack hx (y := (⟨"java/lang/String", "length", "()I"⟩ : MethodName)) (z := (⟨"java/lang/String", "length", "()I"⟩ : MethodName)) hown (mvT hZ (hw _ (List.mem_of_getElem? (i := 71) rfl))) (mvT hZ (hw _ (List.mem_of_getElem? (i := 72) rfl))) (notFace_of_selects (args := #[]) (mvT hZ (hw _ (List.mem_of_getElem? (i := 74) rfl)))) (mvT hZ (hw _ (List.mem_of_getElem? (i := 74) rfl))) (mvT hZ (hw _ (List.mem_of_getElem? (i := 73) rfl))) (by decide) (backOf (W := 1) (rmlen3 l Z a0 hw [] a3 zcs tb kb g h0 n0 Z0 S_COMPACT_STRINGS hCS E_a3 F_value_a3 F_coder_a3 A_tb) hZ (hw _ (List.mem_of_getElem? (i := 75) rfl)) (hw _ (List.mem_of_getElem? (i := 40) rfl)) (by decide) (by decide)) q9a q9c (g := (mkF m 19 #[vr a1, vi p2, vr a3, vi (1 : Int32)] [(.ref a3), (.int (1 : Int32))])) rfl (by rw [hml]; rfl) (Steps.refl _) (argsL := []) (rest := [(.int (1 : Int32))]) (lenOf pd_7 rfl) rfl (by show 2 * 0 + _ ≤ _; exact Nat.le_of_eq rfl) (hb hby d12_19) (fun _ _ => ⟨rfl, eq7, (by decide : 0 + 0 ≤ _), (by decide : 0 + 0 ≤ _)⟩)
      dsimp only [Pt.U, Pt.locs, Pt.cells, Pt.slots] at X9 l9 y9 z9 st9 hQ9
      subst y9 z9
      obtain ⟨rfl, N9q, eq9⟩ := hQ9
      have N9 : Fr n0 L9 := by rw [l9]; exact Fr.app N7 N9q
      obtain ⟨T10, X10, e10, st10⟩ := getF X9 hx hZ hown (host := "") (Or.inl (hw _ (List.mem_of_getElem? (i := 20) rfl))) Via.refl eq9 F_doc_a1 (g := (mkF m 26 #[vr a1, vi p2, vr a3, vi (1 : Int32)] [(.ref a1)])) rfl rfl (hb hby d12_26)
      obtain ⟨cl11, Ar11, kc11, sz11, -, hv11⟩ := id A_d
      have hin11 : ¬ ((p2 + (1 : Int32)) < 0 ∨ cl11.slots.size ≤ ((p2 + (1 : Int32))).toNatClampNeg) := AV.inb sz11 (own_p5 hp (i := (1 : Int32)) (by decide))
      have hat11 : cl11.slots[((p2 + (1 : Int32))).toNatClampNeg]? = some (.int (f ((p2 + (1 : Int32))).toNatClampNeg)) := (hv11 _ (AV.inx (own_p5 hp (i := (1 : Int32)) (by decide)))).trans (congrArg some rfl)
      obtain ⟨cq12, kq12, q12a, q12b, q12c⟩ := isOf hZ e10 E_a3
      obtain ⟨_, _, ⟨T12, L12, k12, n12⟩, -, X12, ⟨Lc12, hQ12, l12, y12, z12⟩, st12⟩ := X10.virtualBack hx (y := (⟨"java/lang/String", "charAt", "(I)C"⟩ : MethodName)) (z := (⟨"java/lang/String", "charAt", "(I)C"⟩ : MethodName)) hown (mvT hZ (hw _ (List.mem_of_getElem? (i := 97) rfl))) (mvT hZ (hw _ (List.mem_of_getElem? (i := 98) rfl))) (notFace_of_selects (args := #[]) (mvT hZ (hw _ (List.mem_of_getElem? (i := 100) rfl)))) (mvT hZ (hw _ (List.mem_of_getElem? (i := 100) rfl))) (mvT hZ (hw _ (List.mem_of_getElem? (i := 99) rfl))) (by decide) (backOf (W := 1) (rmca3_1 l Z a0 hw [] a3 zcs fm tb kb g h0 n0 Z0 S_COMPACT_STRINGS hCS S_SIOOBE_FORMATTER hfm E_a3 F_value_a3 F_coder_a3 A_tb (hok 1)) hZ (hw _ (List.mem_of_getElem? (i := 101) rfl)) (hw _ (List.mem_of_getElem? (i := 40) rfl)) (by decide) (by decide)) q12a q12c (g := (mkF m 35 #[vr a1, vi p2, vr a3, vi (1 : Int32)] [(.int (1 : Int32)), (.ref a3), (.int (f ((p2 + (1 : Int32))).toNatClampNeg))])) rfl (by rw [hml]; rfl) (Steps.refl _) (argsL := [(.int (1 : Int32))]) (rest := [(.int (f ((p2 + (1 : Int32))).toNatClampNeg))]) (lenOf pd_10 rfl) rfl (by show 2 * 0 + _ ≤ _; exact Nat.le_of_eq rfl) (hb hby d12_35) (fun _ _ => ⟨rfl, e10, (by decide : 0 + 0 ≤ _), (by decide : 0 + 0 ≤ _)⟩)
      dsimp only [Pt.U, Pt.locs, Pt.cells, Pt.slots] at X12 l12 y12 z12 st12 hQ12
      subst y12 z12
      obtain ⟨rfl, N12q, eq12⟩ := hQ12
      have N12 : Fr n0 L12 := by rw [l12]; exact Fr.app N9 N12q
      refine GoalS.lift (B := (T12.setTop (mkF m 38 #[vr a1, vi p2, vr a3, vi (1 : Int32)] [(.int (g 1)), (.int (f ((p2 + (1 : Int32))).toNatClampNeg))]))) (fun t k => ?_) ?_
      · show Steps p.tables e below (T7.setTop (mkF m 38 #[vr a1, vi p2, vr a3, vi (0 : Int32)] [(.int (g 0)), (.int (f ((p2 + (0 : Int32))).toNatClampNeg))])) _
        refine XS.icmpYes X7.here hx rfl (pc0 := 38) (pc' := 43) rfl (hb hby d12_38) rfl ((teq hc38_8).1) (by decide) (by decide) ?_
        refine XS.iinc X7.here hx rfl (hb hby d12_43) rfl (l' := #[vr a1, vi p2, vr a3, vi (1 : Int32)]) rfl ?_
        refine XS.goto X7.here hx rfl (pc0 := 46) (pc' := 17) rfl (hb hby d12_46) (by decide) (by decide) ?_
        refine XS.iloadN X7.here hx rfl (hb hby d12_17) rfl ?_
        refine XS.aloadN X7.here hx rfl (hb hby d12_18) rfl rfl ?_
        refine st9.trans ?_
        show Steps p.tables e below (T9.setTop (mkF m 22 #[vr a1, vi p2, vr a3, vi (1 : Int32)] [(.int (3 : Int32)), (.int (1 : Int32))])) _
        refine XS.icmpNo X9.here hx rfl (hb hby d12_22) rfl ((tlt (by decide : (1 : Int32) < (3 : Int32))).2.1) ?_
        refine XS.aloadN X9.here hx rfl (hb hby d12_25) rfl rfl ?_
        refine st10 _ ?_
        refine XS.iloadN X10.here hx rfl (hb hby d12_29) rfl ?_
        refine XS.iloadN X10.here hx rfl (hb hby d12_30) rfl ?_
        refine XS.iadd X10.here hx rfl (hb hby d12_31) rfl ?_
        show Steps p.tables e below (T10.setTop (mkF m 32 #[vr a1, vi p2, vr a3, vi (1 : Int32)] [(.int (p2 + (1 : Int32))), (.ref d)])) _
        refine X10.baloadBytes hx (j := (p2 + (1 : Int32))) (v := (.int (f ((p2 + (1 : Int32))).toNatClampNeg))) (by rw [e10]; exact Ar11.1) (State.isArrayOf_alike hZ.alike Ar11.2.1) Ar11.2.2 hin11 hat11 (g := (mkF m 32 #[vr a1, vi p2, vr a3, vi (1 : Int32)] [(.int (p2 + (1 : Int32))), (.ref d)])) rfl rfl (hb hby d12_32) _ ?_
        refine XS.aloadN X10.here hx rfl (hb hby d12_33) rfl rfl ?_
        refine XS.iloadN X10.here hx rfl (hb hby d12_34) rfl ?_
        refine st12.trans ?_
        exact k
      by_cases hc38_13 : (f ((p2 + (1 : Int32))).toNatClampNeg) = (g 1)
      · obtain ⟨cq14, kq14, q14a, q14b, q14c⟩ := isOf hZ eq12 E_a3
        obtain ⟨_, _, ⟨T14, L14, k14, n14⟩, -, X14, ⟨Lc14, hQ14, l14, y14, z14⟩, st14⟩ := X12.virtualBack hx (y := (⟨"java/lang/String", "length", "()I"⟩ : MethodName)) (z := (⟨"java/lang/String", "length", "()I"⟩ : MethodName)) hown (mvT hZ (hw _ (List.mem_of_getElem? (i := 71) rfl))) (mvT hZ (hw _ (List.mem_of_getElem? (i := 72) rfl))) (notFace_of_selects (args := #[]) (mvT hZ (hw _ (List.mem_of_getElem? (i := 74) rfl)))) (mvT hZ (hw _ (List.mem_of_getElem? (i := 74) rfl))) (mvT hZ (hw _ (List.mem_of_getElem? (i := 73) rfl))) (by decide) (backOf (W := 1) (rmlen3 l Z a0 hw [] a3 zcs tb kb g h0 n0 Z0 S_COMPACT_STRINGS hCS E_a3 F_value_a3 F_coder_a3 A_tb) hZ (hw _ (List.mem_of_getElem? (i := 75) rfl)) (hw _ (List.mem_of_getElem? (i := 40) rfl)) (by decide) (by decide)) q14a q14c (g := (mkF m 19 #[vr a1, vi p2, vr a3, vi (2 : Int32)] [(.ref a3), (.int (2 : Int32))])) rfl (by rw [hml]; rfl) (Steps.refl _) (argsL := []) (rest := [(.int (2 : Int32))]) (lenOf pd_7 rfl) rfl (by show 2 * 0 + _ ≤ _; exact Nat.le_of_eq rfl) (hb hby d12_19) (fun _ _ => ⟨rfl, eq12, (by decide : 0 + 0 ≤ _), (by decide : 0 + 0 ≤ _)⟩)
        dsimp only [Pt.U, Pt.locs, Pt.cells, Pt.slots] at X14 l14 y14 z14 st14 hQ14
        subst y14 z14
        obtain ⟨rfl, N14q, eq14⟩ := hQ14
        have N14 : Fr n0 L14 := by rw [l14]; exact Fr.app N12 N14q
        obtain ⟨T15, X15, e15, st15⟩ := getF X14 hx hZ hown (host := "") (Or.inl (hw _ (List.mem_of_getElem? (i := 20) rfl))) Via.refl eq14 F_doc_a1 (g := (mkF m 26 #[vr a1, vi p2, vr a3, vi (2 : Int32)] [(.ref a1)])) rfl rfl (hb hby d12_26)
        obtain ⟨cl16, Ar16, kc16, sz16, -, hv16⟩ := id A_d
        have hin16 : ¬ ((p2 + (2 : Int32)) < 0 ∨ cl16.slots.size ≤ ((p2 + (2 : Int32))).toNatClampNeg) := AV.inb sz16 (own_p5 hp (i := (2 : Int32)) (by decide))
        have hat16 : cl16.slots[((p2 + (2 : Int32))).toNatClampNeg]? = some (.int (f ((p2 + (2 : Int32))).toNatClampNeg)) := (hv16 _ (AV.inx (own_p5 hp (i := (2 : Int32)) (by decide)))).trans (congrArg some rfl)
        obtain ⟨cq17, kq17, q17a, q17b, q17c⟩ := isOf hZ e15 E_a3
        obtain ⟨_, _, ⟨T17, L17, k17, n17⟩, -, X17, ⟨Lc17, hQ17, l17, y17, z17⟩, st17⟩ := X15.virtualBack hx (y := (⟨"java/lang/String", "charAt", "(I)C"⟩ : MethodName)) (z := (⟨"java/lang/String", "charAt", "(I)C"⟩ : MethodName)) hown (mvT hZ (hw _ (List.mem_of_getElem? (i := 97) rfl))) (mvT hZ (hw _ (List.mem_of_getElem? (i := 98) rfl))) (notFace_of_selects (args := #[]) (mvT hZ (hw _ (List.mem_of_getElem? (i := 100) rfl)))) (mvT hZ (hw _ (List.mem_of_getElem? (i := 100) rfl))) (mvT hZ (hw _ (List.mem_of_getElem? (i := 99) rfl))) (by decide) (backOf (W := 1) (rmca3_2 l Z a0 hw [] a3 zcs fm tb kb g h0 n0 Z0 S_COMPACT_STRINGS hCS S_SIOOBE_FORMATTER hfm E_a3 F_value_a3 F_coder_a3 A_tb (hok 2)) hZ (hw _ (List.mem_of_getElem? (i := 101) rfl)) (hw _ (List.mem_of_getElem? (i := 40) rfl)) (by decide) (by decide)) q17a q17c (g := (mkF m 35 #[vr a1, vi p2, vr a3, vi (2 : Int32)] [(.int (2 : Int32)), (.ref a3), (.int (f ((p2 + (2 : Int32))).toNatClampNeg))])) rfl (by rw [hml]; rfl) (Steps.refl _) (argsL := [(.int (2 : Int32))]) (rest := [(.int (f ((p2 + (2 : Int32))).toNatClampNeg))]) (lenOf pd_10 rfl) rfl (by show 2 * 0 + _ ≤ _; exact Nat.le_of_eq rfl) (hb hby d12_35) (fun _ _ => ⟨rfl, e15, (by decide : 0 + 0 ≤ _), (by decide : 0 + 0 ≤ _)⟩)
        dsimp only [Pt.U, Pt.locs, Pt.cells, Pt.slots] at X17 l17 y17 z17 st17 hQ17
        subst y17 z17
        obtain ⟨rfl, N17q, eq17⟩ := hQ17
        have N17 : Fr n0 L17 := by rw [l17]; exact Fr.app N14 N17q
        refine GoalS.lift (B := (T17.setTop (mkF m 38 #[vr a1, vi p2, vr a3, vi (2 : Int32)] [(.int (g 2)), (.int (f ((p2 + (2 : Int32))).toNatClampNeg))]))) (fun t k => ?_) ?_
        · show Steps p.tables e below (T12.setTop (mkF m 38 #[vr a1, vi p2, vr a3, vi (1 : Int32)] [(.int (g 1)), (.int (f ((p2 + (1 : Int32))).toNatClampNeg))])) _
          refine XS.icmpYes X12.here hx rfl (pc0 := 38) (pc' := 43) rfl (hb hby d12_38) rfl ((teq hc38_13).1) (by decide) (by decide) ?_
          refine XS.iinc X12.here hx rfl (hb hby d12_43) rfl (l' := #[vr a1, vi p2, vr a3, vi (2 : Int32)]) rfl ?_
          refine XS.goto X12.here hx rfl (pc0 := 46) (pc' := 17) rfl (hb hby d12_46) (by decide) (by decide) ?_
          refine XS.iloadN X12.here hx rfl (hb hby d12_17) rfl ?_
          refine XS.aloadN X12.here hx rfl (hb hby d12_18) rfl rfl ?_
          refine st14.trans ?_
          show Steps p.tables e below (T14.setTop (mkF m 22 #[vr a1, vi p2, vr a3, vi (2 : Int32)] [(.int (3 : Int32)), (.int (2 : Int32))])) _
          refine XS.icmpNo X14.here hx rfl (hb hby d12_22) rfl ((tlt (by decide : (2 : Int32) < (3 : Int32))).2.1) ?_
          refine XS.aloadN X14.here hx rfl (hb hby d12_25) rfl rfl ?_
          refine st15 _ ?_
          refine XS.iloadN X15.here hx rfl (hb hby d12_29) rfl ?_
          refine XS.iloadN X15.here hx rfl (hb hby d12_30) rfl ?_
          refine XS.iadd X15.here hx rfl (hb hby d12_31) rfl ?_
          show Steps p.tables e below (T15.setTop (mkF m 32 #[vr a1, vi p2, vr a3, vi (2 : Int32)] [(.int (p2 + (2 : Int32))), (.ref d)])) _
          refine X15.baloadBytes hx (j := (p2 + (2 : Int32))) (v := (.int (f ((p2 + (2 : Int32))).toNatClampNeg))) (by rw [e15]; exact Ar16.1) (State.isArrayOf_alike hZ.alike Ar16.2.1) Ar16.2.2 hin16 hat16 (g := (mkF m 32 #[vr a1, vi p2, vr a3, vi (2 : Int32)] [(.int (p2 + (2 : Int32))), (.ref d)])) rfl rfl (hb hby d12_32) _ ?_
          refine XS.aloadN X15.here hx rfl (hb hby d12_33) rfl rfl ?_
          refine XS.iloadN X15.here hx rfl (hb hby d12_34) rfl ?_
          refine st17.trans ?_
          exact k
        by_cases hc38_18 : (f ((p2 + (2 : Int32))).toNatClampNeg) = (g 2)
        · obtain ⟨cq19, kq19, q19a, q19b, q19c⟩ := isOf hZ eq17 E_a3
          obtain ⟨_, _, ⟨T19, L19, k19, n19⟩, -, X19, ⟨Lc19, hQ19, l19, y19, z19⟩, st19⟩ := X17.virtualBack hx (y := (⟨"java/lang/String", "length", "()I"⟩ : MethodName)) (z := (⟨"java/lang/String", "length", "()I"⟩ : MethodName)) hown (mvT hZ (hw _ (List.mem_of_getElem? (i := 71) rfl))) (mvT hZ (hw _ (List.mem_of_getElem? (i := 72) rfl))) (notFace_of_selects (args := #[]) (mvT hZ (hw _ (List.mem_of_getElem? (i := 74) rfl)))) (mvT hZ (hw _ (List.mem_of_getElem? (i := 74) rfl))) (mvT hZ (hw _ (List.mem_of_getElem? (i := 73) rfl))) (by decide) (backOf (W := 1) (rmlen3 l Z a0 hw [] a3 zcs tb kb g h0 n0 Z0 S_COMPACT_STRINGS hCS E_a3 F_value_a3 F_coder_a3 A_tb) hZ (hw _ (List.mem_of_getElem? (i := 75) rfl)) (hw _ (List.mem_of_getElem? (i := 40) rfl)) (by decide) (by decide)) q19a q19c (g := (mkF m 19 #[vr a1, vi p2, vr a3, vi (3 : Int32)] [(.ref a3), (.int (3 : Int32))])) rfl (by rw [hml]; rfl) (Steps.refl _) (argsL := []) (rest := [(.int (3 : Int32))]) (lenOf pd_7 rfl) rfl (by show 2 * 0 + _ ≤ _; exact Nat.le_of_eq rfl) (hb hby d12_19) (fun _ _ => ⟨rfl, eq17, (by decide : 0 + 0 ≤ _), (by decide : 0 + 0 ≤ _)⟩)
          dsimp only [Pt.U, Pt.locs, Pt.cells, Pt.slots] at X19 l19 y19 z19 st19 hQ19
          subst y19 z19
          obtain ⟨rfl, N19q, eq19⟩ := hQ19
          have N19 : Fr n0 L19 := by rw [l19]; exact Fr.app N17 N19q
          obtain ⟨fs, hr, hrun, hended, hW, hsame⟩ := X19.leave (v := some (.int (1 : Int32))) (fun h => by rw [Bd.returns] at h; cases h)
          refine ⟨_, _, ?_, hrun, hended, _, _, rfl, ?_, ⟨_, rfl⟩, hW, hsame.mono (by decide) (by decide)⟩
          · show Steps p.tables e below (T17.setTop (mkF m 38 #[vr a1, vi p2, vr a3, vi (2 : Int32)] [(.int (g 2)), (.int (f ((p2 + (2 : Int32))).toNatClampNeg))])) _
            refine XS.icmpYes X17.here hx rfl (pc0 := 38) (pc' := 43) rfl (hb hby d12_38) rfl ((teq hc38_18).1) (by decide) (by decide) ?_
            refine XS.iinc X17.here hx rfl (hb hby d12_43) rfl (l' := #[vr a1, vi p2, vr a3, vi (3 : Int32)]) rfl ?_
            refine XS.goto X17.here hx rfl (pc0 := 46) (pc' := 17) rfl (hb hby d12_46) (by decide) (by decide) ?_
            refine XS.iloadN X17.here hx rfl (hb hby d12_17) rfl ?_
            refine XS.aloadN X17.here hx rfl (hb hby d12_18) rfl rfl ?_
            refine st19.trans ?_
            show Steps p.tables e below (T19.setTop (mkF m 22 #[vr a1, vi p2, vr a3, vi (3 : Int32)] [(.int (3 : Int32)), (.int (3 : Int32))])) _
            refine XS.icmpYes X19.here hx rfl (pc0 := 22) (pc' := 49) rfl (hb hby d12_22) rfl ((flt (by decide : ¬ ((3 : Int32) < (3 : Int32)))).2.1) (by decide) (by decide) ?_
            refine XS.iconst X19.here hx rfl (hb hby d12_49) ?_
            exact retN X19 hx (t := .boolean) Bd.returns (by simp) (hb hby d12_50) hr
          · show Qsw3 Z a1 p2 a3 zcs fm q d kd f tb kb g h0 n0 _ T19.heap _
            exact ⟨(congrArg (fun z => some (Value.int z)) (by rw [own_sw3]; simp only [if_neg hc10_3, if_pos hc38_8, if_pos hc38_13, if_pos hc38_18])), N19, eq19⟩
        · obtain ⟨fs, hr, hrun, hended, hW, hsame⟩ := X17.leave (v := some (.int (0 : Int32))) (fun h => by rw [Bd.returns] at h; cases h)
          refine ⟨_, _, ?_, hrun, hended, _, _, rfl, ?_, ⟨_, rfl⟩, hW, hsame.mono (by decide) (by decide)⟩
          · show Steps p.tables e below (T17.setTop (mkF m 38 #[vr a1, vi p2, vr a3, vi (2 : Int32)] [(.int (g 2)), (.int (f ((p2 + (2 : Int32))).toNatClampNeg))])) _
            refine XS.icmpNo X17.here hx rfl (hb hby d12_38) rfl ((feq hc38_18).1) ?_
            refine XS.iconst X17.here hx rfl (hb hby d12_41) ?_
            exact retN X17 hx (t := .boolean) Bd.returns (by simp) (hb hby d12_42) hr
          · show Qsw3 Z a1 p2 a3 zcs fm q d kd f tb kb g h0 n0 _ T17.heap _
            exact ⟨(congrArg (fun z => some (Value.int z)) (by rw [own_sw3]; simp only [if_neg hc10_3, if_pos hc38_8, if_pos hc38_13, if_neg hc38_18])), N17, eq17⟩
      · obtain ⟨fs, hr, hrun, hended, hW, hsame⟩ := X12.leave (v := some (.int (0 : Int32))) (fun h => by rw [Bd.returns] at h; cases h)
        refine ⟨_, _, ?_, hrun, hended, _, _, rfl, ?_, ⟨_, rfl⟩, hW, hsame.mono (by decide) (by decide)⟩
        · show Steps p.tables e below (T12.setTop (mkF m 38 #[vr a1, vi p2, vr a3, vi (1 : Int32)] [(.int (g 1)), (.int (f ((p2 + (1 : Int32))).toNatClampNeg))])) _
          refine XS.icmpNo X12.here hx rfl (hb hby d12_38) rfl ((feq hc38_13).1) ?_
          refine XS.iconst X12.here hx rfl (hb hby d12_41) ?_
          exact retN X12 hx (t := .boolean) Bd.returns (by simp) (hb hby d12_42) hr
        · show Qsw3 Z a1 p2 a3 zcs fm q d kd f tb kb g h0 n0 _ T12.heap _
          exact ⟨(congrArg (fun z => some (Value.int z)) (by rw [own_sw3]; simp only [if_neg hc10_3, if_pos hc38_8, if_neg hc38_13])), N12, eq12⟩
    · obtain ⟨fs, hr, hrun, hended, hW, hsame⟩ := X7.leave (v := some (.int (0 : Int32))) (fun h => by rw [Bd.returns] at h; cases h)
      refine ⟨_, _, ?_, hrun, hended, _, _, rfl, ?_, ⟨_, rfl⟩, hW, hsame.mono (by decide) (by decide)⟩
      · show Steps p.tables e below (T7.setTop (mkF m 38 #[vr a1, vi p2, vr a3, vi (0 : Int32)] [(.int (g 0)), (.int (f ((p2 + (0 : Int32))).toNatClampNeg))])) _
        refine XS.icmpNo X7.here hx rfl (hb hby d12_38) rfl ((feq hc38_8).1) ?_
        refine XS.iconst X7.here hx rfl (hb hby d12_41) ?_
        exact retN X7 hx (t := .boolean) Bd.returns (by simp) (hb hby d12_42) hr
      · show Qsw3 Z a1 p2 a3 zcs fm q d kd f tb kb g h0 n0 _ T7.heap _
        exact ⟨(congrArg (fun z => some (Value.int z)) (by rw [own_sw3]; simp only [if_neg hc10_3, if_neg hc38_8])), N7, eq7⟩
theorem ef_rmla3 (m : MethodId) (a1 : Addr) (a2 : Addr) : entryFrame m #[(.ref a1), (.ref a2)] 2 = mkF m 0 #[vr a1, vr a2] [] := by first | (simp [entryFrame, mkF, argsToLocals, Value.category]; done) | rfl
def Qla3 (Z : State) (a1 : Addr) (a2 : Addr) (w : Int32) (zcs : Int32) (fm : Value) (q : Int32) (d : Addr) (kd : ClassId) (f : Nat → Int32) (tb : Addr) (kb : ClassId) (g : Nat → Int32) (h0 : Heap) (n0 : Nat) (v : Option Value) (h : Heap) (L : List Loc) : Prop := v = some (.int (own_sw3 w q f g)) ∧ Fr n0 L ∧ h = h0
set_option maxRecDepth 65536 in
set_option maxHeartbeats 40000000 in
theorem rmla3 (l : Launch) (Z : State) (a0 : Array Value) (hw : ∀ d ∈ tables_1, d.before a0 Z = true) (ws : List Jvm.Cond) (a1 : Addr) (a2 : Addr) (w : Int32) (zcs : Int32) (fm : Value) (q : Int32) (d : Addr) (kd : ClassId) (f : Nat → Int32) (tb : Addr) (kb : ClassId) (g : Nat → Int32) (h0 : Heap) (n0 : Nat) (Z0 : n0 ≤ h0.size) (S_COMPACT_STRINGS : Sta Z h0 "java/lang/String" "COMPACT_STRINGS" "Z" (.int zcs)) (hCS : ¬ zcs = 0) (S_SIOOBE_FORMATTER : Sta Z h0 "jdk/internal/util/Preconditions" "SIOOBE_FORMATTER" "Ljava/util/function/BiFunction;" fm) (hfm : fm.isRef = true) (E_a1 : Exa Z h0 a1 "com/example/verdict/verdict/saml/XmlScanner") (F_pos_a1 : Fld Z h0 a1 "com/example/verdict/verdict/saml/XmlScanner" "pos" "I" (.int w)) (F_end_a1 : Fld Z h0 a1 "com/example/verdict/verdict/saml/XmlScanner" "end" "I" (.int q)) (F_doc_a1 : Fld Z h0 a1 "com/example/verdict/verdict/saml/XmlScanner" "doc" "[B" (.ref d)) (A_d : AV Z h0 d kd .byte 5 (fun i => Value.int (f i))) (E_a2 : Exa Z h0 a2 "java/lang/String") (F_value_a2 : Fld Z h0 a2 "java/lang/String" "value" "[B" (.ref tb)) (F_coder_a2 : Fld Z h0 a2 "java/lang/String" "coder" "B" (.int (0 : Int32))) (A_tb : AV Z h0 tb kb .byte 3 (fun i => Value.int (g i))) (hok : ∀ i, own_ok (g i)) (hp : w = 0 ∨ w = 1) :
    MetFree l (⟨"com/example/verdict/verdict/saml/XmlScanner", "lookingAt", "(Ljava/lang/String;)Z"⟩ : MethodName) (head1 (Jvm.Cond.code (⟨"com/example/verdict/verdict/saml/XmlScanner", "lookingAt", "(Ljava/lang/String;)Z"⟩ : MethodName) prog_45_method_4_code 2 (some .boolean) :: ws) ({ frames := 5, cells := 0, slots := 0, locals := 69 } : Room)) (fun a U => a = #[(.ref a1), (.ref a2)] ∧ Z.Warmed39 U.vm ∧ U.heap = h0) (fun _ _ _ _ _ => True) (fun _ U o U' => ∃ v L, o = .returned v ∧ Qla3 Z a1 a2 w zcs fm q d kd f tb kb g h0 n0 v U'.heap L ∧ FrameEnd U o U' L ({ frames := 5, cells := 0, slots := 0, locals := 69 } : Room).cells ({ frames := 5, cells := 0, slots := 0, locals := 69 } : Room).slots) := by
  refine MetFree.of_bodySF (plainFor_of_name pn_2) hisR ?_
  intro p e s m args below meth c s₁ Bd hml0 hP hK
  obtain ⟨rfl, hZ, hh⟩ := hP
  have hx := Bd.exec
  have hby := Bd.bytes
  have hml : c.maxLocals = 2 := hml0
  have hown : s.vm.findClass "com/example/verdict/verdict/saml/XmlScanner" = some m.cls := findClass_of_methodNamed Bd.named
  have hnm := (name_of_methodNamed Bd.named Bd.method).1
  have X0 : Stand p l e ({ frames := 5, cells := 0, slots := 0, locals := 69 } : Room) s m #[(.ref a1), (.ref a2)] below meth c s₁ [] 0 0 := Stand.of_body Bd
  have e0 : s₁.heap = h0 := by rw [← hh, Bd.state]; rfl
  have N0 := Fr.nil n0
  show GoalS p.tables e below s ({ frames := 5, cells := 0, slots := 0, locals := 69 } : Room).cells ({ frames := 5, cells := 0, slots := 0, locals := 69 } : Room).slots (Qla3 Z a1 a2 w zcs fm q d kd f tb kb g h0 n0) (s₁.setTop (entryFrame m #[(.ref a1), (.ref a2)] 2))
  refine GoalS.lift (B := s₁.setTop (mkF m 0 #[vr a1, vr a2] [])) (fun t k => castTop (ef_rmla3 m a1 a2) k) ?_
  have K0 : Keep h0 h0 [] := Keep.refl _ _
  obtain ⟨T1, X1, e1, st1⟩ := getF X0 hx hZ hown (host := "") (Or.inl (hw _ (List.mem_of_getElem? (i := 29) rfl))) Via.refl e0 F_pos_a1 (g := (mkF m 2 #[vr a1, vr a2] [(.ref a1), (.ref a1)])) rfl rfl (hb hby d11_2)
  obtain ⟨cq2, q2, q2'⟩ := E_a1.cell
  obtain ⟨_, _, ⟨T2, L2, k2, n2⟩, -, X2, ⟨Lc2, hQ2, l2, y2, z2⟩, st2⟩ := X1.privateBack hx (y := (⟨"com/example/verdict/verdict/saml/XmlScanner", "startsWith", "(ILjava/lang/String;)Z"⟩ : MethodName)) hown (mvT hZ (hw _ (List.mem_of_getElem? (i := 67) rfl))) (mvT hZ (hw _ (List.mem_of_getElem? (i := 68) rfl))) (own_selp (y := (⟨"com/example/verdict/verdict/saml/XmlScanner", "startsWith", "(ILjava/lang/String;)Z"⟩ : MethodName)) (mvT hZ (hw _ (List.mem_of_getElem? (i := 2) rfl))) (mvP hZ (hw _ (List.mem_of_getElem? (i := 69) rfl))) (mvT hZ (hw _ (List.mem_of_getElem? (i := 68) rfl))) (by decide)) (Cond.privateMethod_at (mvP hZ (hw _ (List.mem_of_getElem? (i := 69) rfl)) (args := #[]))) (mvT hZ (hw _ (List.mem_of_getElem? (i := 70) rfl))) (by decide) (backOf (W := 0) (rmsw3 l Z a0 hw [] a1 w a2 zcs fm q d kd f tb kb g h0 n0 Z0 S_COMPACT_STRINGS hCS S_SIOOBE_FORMATTER hfm E_a1 F_end_a1 F_doc_a1 A_d E_a2 F_value_a2 F_coder_a2 A_tb hok hp) hZ (hw _ (List.mem_of_getElem? (i := 70) rfl)) (hw _ (List.mem_of_getElem? (i := 3) rfl)) (by decide) (by decide)) (g := (mkF m 6 #[vr a1, vr a2] [(.ref a2), (.int w), (.ref a1)])) rfl (by rw [hml]; rfl) (Steps.refl _) (a := a1) (by rw [e1]; exact q2) q2' (argsL := [(.int w), (.ref a2)]) (rest := []) (lenOf pd_8 rfl) rfl (by show 2 * 0 + _ ≤ _; exact Nat.le_of_eq rfl) (hb hby d11_6) (fun _ _ => ⟨rfl, e1, (by decide : 0 + 0 ≤ _), (by decide : 0 + 0 ≤ _)⟩)
  dsimp only [Pt.U, Pt.locs, Pt.cells, Pt.slots] at X2 l2 y2 z2 st2 hQ2
  subst y2 z2
  obtain ⟨rfl, N2q, eq2⟩ := hQ2
  have N2 : Fr n0 L2 := by rw [l2]; exact Fr.app N0 N2q
  obtain ⟨fs, hr, hrun, hended, hW, hsame⟩ := X2.leave (v := some (.int ((own_sw3 w q f g) &&& 1))) (fun h => by rw [Bd.returns] at h; cases h)
  refine ⟨_, _, ?_, hrun, hended, _, _, rfl, ?_, ⟨_, rfl⟩, hW, hsame.mono (by decide) (by decide)⟩
  · show Steps p.tables e below (s₁.setTop (mkF m 0 #[vr a1, vr a2] [])) _
    refine XS.aloadN X0.here hx rfl (hb hby d11_0) rfl rfl ?_
    refine XS.aloadN X0.here hx rfl (hb hby d11_1) rfl rfl ?_
    refine st1 _ ?_
    refine XS.aloadN X1.here hx rfl (hb hby d11_5) rfl rfl ?_
    refine st2.trans ?_
    exact retN X2 hx (t := .boolean) Bd.returns (by simp) (hb hby d11_9) hr
  · show Qla3 Z a1 a2 w zcs fm q d kd f tb kb g h0 n0 _ T2.heap _
    exact ⟨(congrArg (fun z => some (Value.int z)) own_swb3), N2, eq2⟩
theorem ef_rmsk3 (m : MethodId) (a1 : Addr) (a2 : Addr) : entryFrame m #[(.ref a1), (.ref a2)] 3 = mkF m 0 #[vr a1, vr a2, .unset] [] := by first | (simp [entryFrame, mkF, argsToLocals, Value.category]; done) | rfl
def Qsk3 (Z : State) (a1 : Addr) (a2 : Addr) (w : Int32) (zcs : Int32) (fm : Value) (q : Int32) (d : Addr) (kd : ClassId) (f : Nat → Int32) (tb : Addr) (kb : ClassId) (g : Nat → Int32) (h0 : Heap) (n0 : Nat) (v : Option Value) (h : Heap) (L : List Loc) : Prop := ∃ (w2 : Int32), v = some (.int (own_sw3 w q f g)) ∧ Fr n0 L ∧ Keep h0 h [a1] ∧ (Exa Z h a1 "com/example/verdict/verdict/saml/XmlScanner") ∧ (Fld Z h a1 "com/example/verdict/verdict/saml/XmlScanner" "pos" "I" (.int w2)) ∧ (Fld Z h a1 "com/example/verdict/verdict/saml/XmlScanner" "end" "I" (.int q)) ∧ (w2 = (if (own_sw3 w q f g) = (0 : Int32) then w else (w + (3 : Int32))))
set_option maxRecDepth 65536 in
set_option maxHeartbeats 40000000 in
theorem rmsk3 (l : Launch) (Z : State) (a0 : Array Value) (hw : ∀ d ∈ tables_1, d.before a0 Z = true) (ws : List Jvm.Cond) (a1 : Addr) (a2 : Addr) (w : Int32) (zcs : Int32) (fm : Value) (q : Int32) (d : Addr) (kd : ClassId) (f : Nat → Int32) (tb : Addr) (kb : ClassId) (g : Nat → Int32) (h0 : Heap) (n0 : Nat) (Z0 : n0 ≤ h0.size) (S_COMPACT_STRINGS : Sta Z h0 "java/lang/String" "COMPACT_STRINGS" "Z" (.int zcs)) (hCS : ¬ zcs = 0) (S_SIOOBE_FORMATTER : Sta Z h0 "jdk/internal/util/Preconditions" "SIOOBE_FORMATTER" "Ljava/util/function/BiFunction;" fm) (hfm : fm.isRef = true) (E_a1 : Exa Z h0 a1 "com/example/verdict/verdict/saml/XmlScanner") (g_a1 : n0 ≤ a1) (F_pos_a1 : Fld Z h0 a1 "com/example/verdict/verdict/saml/XmlScanner" "pos" "I" (.int w)) (F_end_a1 : Fld Z h0 a1 "com/example/verdict/verdict/saml/XmlScanner" "end" "I" (.int q)) (F_doc_a1 : Fld Z h0 a1 "com/example/verdict/verdict/saml/XmlScanner" "doc" "[B" (.ref d)) (A_d : AV Z h0 d kd .byte 5 (fun i => Value.int (f i))) (E_a2 : Exa Z h0 a2 "java/lang/String") (F_value_a2 : Fld Z h0 a2 "java/lang/String" "value" "[B" (.ref tb)) (F_coder_a2 : Fld Z h0 a2 "java/lang/String" "coder" "B" (.int (0 : Int32))) (A_tb : AV Z h0 tb kb .byte 3 (fun i => Value.int (g i))) (ne_a1_a2 : a1 ≠ a2) (ne_a1_tb : a1 ≠ tb) (ne_a1_d : a1 ≠ d) (hok : ∀ i, own_ok (g i)) (hp : w = 0 ∨ w = 1) :
    MetFree l (⟨"com/example/verdict/verdict/saml/XmlScanner", "skip", "(Ljava/lang/String;)Z"⟩ : MethodName) (head1 (Jvm.Cond.code (⟨"com/example/verdict/verdict/saml/XmlScanner", "skip", "(Ljava/lang/String;)Z"⟩ : MethodName) prog_45_method_5_code 3 (some .boolean) :: ws) ({ frames := 6, cells := 0, slots := 0, locals := 82 } : Room)) (fun a U => a = #[(.ref a1), (.ref a2)] ∧ Z.Warmed39 U.vm ∧ U.heap = h0) (fun _ _ _ _ _ => True) (fun _ U o U' => ∃ v L, o = .returned v ∧ Qsk3 Z a1 a2 w zcs fm q d kd f tb kb g h0 n0 v U'.heap L ∧ FrameEnd U o U' L ({ frames := 6, cells := 0, slots := 0, locals := 82 } : Room).cells ({ frames := 6, cells := 0, slots := 0, locals := 82 } : Room).slots) := by
  refine MetFree.of_bodySF (plainFor_of_name pn_2) hisR ?_
  intro p e s m args below meth c s₁ Bd hml0 hP hK
  obtain ⟨rfl, hZ, hh⟩ := hP
  have hx := Bd.exec
  have hby := Bd.bytes
  have hml : c.maxLocals = 3 := hml0
  have hown : s.vm.findClass "com/example/verdict/verdict/saml/XmlScanner" = some m.cls := findClass_of_methodNamed Bd.named
  have hnm := (name_of_methodNamed Bd.named Bd.method).1
  have X0 : Stand p l e ({ frames := 6, cells := 0, slots := 0, locals := 82 } : Room) s m #[(.ref a1), (.ref a2)] below meth c s₁ [] 0 0 := Stand.of_body Bd
  have e0 : s₁.heap = h0 := by rw [← hh, Bd.state]; rfl
  have N0 := Fr.nil n0
  show GoalS p.tables e below s ({ frames := 6, cells := 0, slots := 0, locals := 82 } : Room).cells ({ frames := 6, cells := 0, slots := 0, locals := 82 } : Room).slots (Qsk3 Z a1 a2 w zcs fm q d kd f tb kb g h0 n0) (s₁.setTop (entryFrame m #[(.ref a1), (.ref a2)] 3))
  refine GoalS.lift (B := s₁.setTop (mkF m 0 #[vr a1, vr a2, .unset] [])) (fun t k => castTop (ef_rmsk3 m a1 a2) k) ?_
  have K0 : Keep h0 h0 [a1] := Keep.refl _ _
  obtain ⟨cq1, kq1, q1a, q1b, q1c⟩ := isOf hZ e0 E_a1
  obtain ⟨_, _, ⟨T1, L1, k1, n1⟩, -, X1, ⟨Lc1, hQ1, l1, y1, z1⟩, st1⟩ := X0.virtualBack hx (y := (⟨"com/example/verdict/verdict/saml/XmlScanner", "lookingAt", "(Ljava/lang/String;)Z"⟩ : MethodName)) (z := (⟨"com/example/verdict/verdict/saml/XmlScanner", "lookingAt", "(Ljava/lang/String;)Z"⟩ : MethodName)) hown (mvT hZ (hw _ (List.mem_of_getElem? (i := 62) rfl))) (mvT hZ (hw _ (List.mem_of_getElem? (i := 63) rfl))) (notFace_of_selects (args := #[]) (mvT hZ (hw _ (List.mem_of_getElem? (i := 65) rfl)))) (mvT hZ (hw _ (List.mem_of_getElem? (i := 65) rfl))) (mvT hZ (hw _ (List.mem_of_getElem? (i := 64) rfl))) (by decide) (backOf (W := 0) (rmla3 l Z a0 hw [] a1 a2 w zcs fm q d kd f tb kb g h0 n0 Z0 S_COMPACT_STRINGS hCS S_SIOOBE_FORMATTER hfm E_a1 F_pos_a1 F_end_a1 F_doc_a1 A_d E_a2 F_value_a2 F_coder_a2 A_tb hok hp) hZ (hw _ (List.mem_of_getElem? (i := 66) rfl)) (hw _ (List.mem_of_getElem? (i := 3) rfl)) (by decide) (by decide)) q1a q1c (g := (mkF m 2 #[vr a1, vr a2, .unset] [(.ref a2), (.ref a1)])) rfl (by rw [hml]; rfl) (Steps.refl _) (argsL := [(.ref a2)]) (rest := []) (lenOf pd_9 rfl) rfl (by show 2 * 0 + _ ≤ _; exact Nat.le_of_eq rfl) (hb hby d10_2) (fun _ _ => ⟨rfl, e0, (by decide : 0 + 0 ≤ _), (by decide : 0 + 0 ≤ _)⟩)
  dsimp only [Pt.U, Pt.locs, Pt.cells, Pt.slots] at X1 l1 y1 z1 st1 hQ1
  subst y1 z1
  obtain ⟨rfl, N1q, eq1⟩ := hQ1
  have N1 : Fr n0 L1 := by rw [l1]; exact Fr.app N0 N1q
  refine GoalS.lift (B := (T1.setTop (mkF m 7 #[vr a1, vr a2, vi (own_sw3 w q f g)] [(.int (own_sw3 w q f g))]))) (fun t k => ?_) ?_
  · show Steps p.tables e below (s₁.setTop (mkF m 0 #[vr a1, vr a2, .unset] [])) _
    refine XS.aloadN X0.here hx rfl (hb hby d10_0) rfl rfl ?_
    refine XS.aloadN X0.here hx rfl (hb hby d10_1) rfl rfl ?_
    refine st1.trans ?_
    refine XS.istoreN X1.here hx rfl (hb hby d10_5) rfl (l' := #[vr a1, vr a2, vi (own_sw3 w q f g)]) rfl ?_
    refine XS.iloadN X1.here hx rfl (hb hby d10_6) rfl ?_
    exact k
  by_cases hc7_2 : (own_sw3 w q f g) = (0 : Int32)
  · obtain ⟨fs, hr, hrun, hended, hW, hsame⟩ := X1.leave (v := some (.int ((own_sw3 w q f g) &&& 1))) (fun h => by rw [Bd.returns] at h; cases h)
    refine ⟨_, _, ?_, hrun, hended, _, _, rfl, ?_, ⟨_, rfl⟩, hW, hsame.mono (by decide) (by decide)⟩
    · show Steps p.tables e below (T1.setTop (mkF m 7 #[vr a1, vr a2, vi (own_sw3 w q f g)] [(.int (own_sw3 w q f g))])) _
      refine XS.ifYes X1.here hx rfl (pc0 := 7) (pc' := 23) rfl (hb hby d10_7) rfl ((if0 _ _).trans (teq hc7_2).1) (by decide) (by decide) ?_
      refine XS.iloadN X1.here hx rfl (hb hby d10_23) rfl ?_
      exact retN X1 hx (t := .boolean) Bd.returns (by simp) (hb hby d10_24) hr
    · show Qsk3 Z a1 a2 w zcs fm q d kd f tb kb g h0 n0 _ T1.heap _
      rw [eq1]
      exact ⟨w, (congrArg (fun z => some (Value.int z)) own_swb3), N1, K0, E_a1, F_pos_a1, F_end_a1, (by simp only [if_pos hc7_2])⟩
  · obtain ⟨T3, X3, e3, st3⟩ := getF X1 hx hZ hown (host := "") (Or.inl (hw _ (List.mem_of_getElem? (i := 29) rfl))) Via.refl eq1 F_pos_a1 (g := (mkF m 12 #[vr a1, vr a2, vi (own_sw3 w q f g)] [(.ref a1), (.ref a1)])) rfl rfl (hb hby d10_12)
    obtain ⟨cq4, kq4, q4a, q4b, q4c⟩ := isOf hZ e3 E_a2
    obtain ⟨_, _, ⟨T4, L4, k4, n4⟩, -, X4, ⟨Lc4, hQ4, l4, y4, z4⟩, st4⟩ := X3.virtualBack hx (y := (⟨"java/lang/String", "length", "()I"⟩ : MethodName)) (z := (⟨"java/lang/String", "length", "()I"⟩ : MethodName)) hown (mvT hZ (hw _ (List.mem_of_getElem? (i := 71) rfl))) (mvT hZ (hw _ (List.mem_of_getElem? (i := 72) rfl))) (notFace_of_selects (args := #[]) (mvT hZ (hw _ (List.mem_of_getElem? (i := 74) rfl)))) (mvT hZ (hw _ (List.mem_of_getElem? (i := 74) rfl))) (mvT hZ (hw _ (List.mem_of_getElem? (i := 73) rfl))) (by decide) (backOf (W := 2) (rmlen3 l Z a0 hw [] a2 zcs tb kb g h0 n0 Z0 S_COMPACT_STRINGS hCS E_a2 F_value_a2 F_coder_a2 A_tb) hZ (hw _ (List.mem_of_getElem? (i := 75) rfl)) (hw _ (List.mem_of_getElem? (i := 40) rfl)) (by decide) (by decide)) q4a q4c (g := (mkF m 16 #[vr a1, vr a2, vi (own_sw3 w q f g)] [(.ref a2), (.int w), (.ref a1)])) rfl (by rw [hml]; rfl) (Steps.refl _) (argsL := []) (rest := [(.int w), (.ref a1)]) (lenOf pd_7 rfl) rfl (by show 2 * 0 + _ ≤ _; exact Nat.le_of_eq rfl) (hb hby d10_16) (fun _ _ => ⟨rfl, e3, (by decide : 0 + 0 ≤ _), (by decide : 0 + 0 ≤ _)⟩)
    dsimp only [Pt.U, Pt.locs, Pt.cells, Pt.slots] at X4 l4 y4 z4 st4 hQ4
    subst y4 z4
    obtain ⟨rfl, N4q, eq4⟩ := hQ4
    have N4 : Fr n0 L4 := by rw [l4]; exact Fr.app N1 N4q
    obtain ⟨T5, h5, X5, e5, W5, st5⟩ := putF X4 hx hZ hown (host := "") (Or.inl (hw _ (List.mem_of_getElem? (i := 29) rfl))) Via.refl eq4 F_pos_a1 E_a1 (Or.inl (hw _ (List.mem_of_getElem? (i := 30) rfl))) (hw _ (List.mem_of_getElem? (i := 2) rfl)) (ty := .int) (by decide) rfl rfl (g := (mkF m 20 #[vr a1, vr a2, vi (own_sw3 w q f g)] [(.int (w + (3 : Int32))), (.ref a1)])) rfl rfl (hb hby d10_20)
    have z6 : n0 ≤ h5.size := Nat.le_trans Z0 (Keep.of_wr W5).1
    have K7 : Keep h0 h5 [a1] := K0.wr W5 (Or.inl (List.mem_of_getElem? (i := 0) rfl))
    have Fw5 : Fld Z h5 a1 "com/example/verdict/verdict/saml/XmlScanner" "pos" "I" (.int (w + (3 : Int32))) := F_pos_a1.same W5
    have N5 := Fr.snoc X5 N4 g_a1
    obtain ⟨fs, hr, hrun, hended, hW, hsame⟩ := X5.leave (v := some (.int ((own_sw3 w q f g) &&& 1))) (fun h => by rw [Bd.returns] at h; cases h)
    refine ⟨_, _, ?_, hrun, hended, _, _, rfl, ?_, ⟨_, rfl⟩, hW, hsame.mono (by decide) (by decide)⟩
    · show Steps p.tables e below (T1.setTop (mkF m 7 #[vr a1, vr a2, vi (own_sw3 w q f g)] [(.int (own_sw3 w q f g))])) _
      refine XS.ifNo X1.here hx rfl (hb hby d10_7) rfl ((if0 _ _).trans (feq hc7_2).1) ?_
      refine XS.aloadN X1.here hx rfl (hb hby d10_10) rfl rfl ?_
      refine XS.dup X1.here hx rfl (hb hby d10_11) rfl rfl ?_
      refine st3 _ ?_
      refine XS.aloadN X3.here hx rfl (hb hby d10_15) rfl rfl ?_
      refine st4.trans ?_
      show Steps p.tables e below (T4.setTop (mkF m 19 #[vr a1, vr a2, vi (own_sw3 w q f g)] [(.int (3 : Int32)), (.int w), (.ref a1)])) _
      refine XS.iadd X4.here hx rfl (hb hby d10_19) rfl ?_
      refine st5 _ ?_
      refine XS.iloadN X5.here hx rfl (hb hby d10_23) rfl ?_
      exact retN X5 hx (t := .boolean) Bd.returns (by simp) (hb hby d10_24) hr
    · have f8 : Exa Z h5 a1 "com/example/verdict/verdict/saml/XmlScanner" := (E_a1.wr W5)
      have f9 : Fld Z h5 a1 "com/example/verdict/verdict/saml/XmlScanner" "end" "I" (.int q) := (F_end_a1.other W5 (Or.inr (slot_ne (Or.inr (hw _ (List.mem_of_getElem? (i := 23) rfl))) (Or.inl (hw _ (List.mem_of_getElem? (i := 30) rfl))) (by decide) (t := .int) (t' := .int) (by decide) (by decide))))
      show Qsk3 Z a1 a2 w zcs fm q d kd f tb kb g h0 n0 _ T5.heap _
      rw [e5]
      exact ⟨(w + (3 : Int32)), (congrArg (fun z => some (Value.int z)) own_swb3), N5, K7, f8, Fw5, f9, (by simp only [if_neg hc7_2])⟩
theorem d18_0 : decode jdk_52_method_15_code 0 = .ok (.iload_n 1, 1) := by decide +kernel
theorem d18_1 : decode jdk_52_method_15_code 1 = .ok (.aload_n 0, 1) := by decide +kernel
theorem d18_2 : decode jdk_52_method_15_code 2 = .ok (.arraylength, 1) := by decide +kernel
theorem d18_3 : decode jdk_52_method_15_code 3 = .ok (.isub, 1) := by decide +kernel
theorem d18_4 : decode jdk_52_method_15_code 4 = .ok (.bipush 31, 2) := by decide +kernel
theorem d18_6 : decode jdk_52_method_15_code 6 = .ok (.iushr, 1) := by decide +kernel
theorem d18_7 : decode jdk_52_method_15_code 7 = .ok (.i2b, 1) := by decide +kernel
theorem d18_8 : decode jdk_52_method_15_code 8 = .ok (.ireturn, 1) := by decide +kernel
theorem pn_5 : plainName "java/lang/StringUTF16" = true := by first | (simp [plainName, overriddenIn]; done) | decide +kernel
theorem ef_rmcf1 (m : MethodId) (a1 : Addr) : entryFrame m #[(.ref a1), (.int (1 : Int32))] 2 = mkF m 0 #[vr a1, vi (1 : Int32)] [] := by first | (simp [entryFrame, mkF, argsToLocals, Value.category]; done) | rfl
def Qcf1 (Z : State) (a1 : Addr) (k : ClassId) (g : Nat → Int32) (h0 : Heap) (n0 : Nat) (v : Option Value) (h : Heap) (L : List Loc) : Prop := v = some (.int (0 : Int32)) ∧ Fr n0 L ∧ h = h0
set_option maxRecDepth 65536 in
set_option maxHeartbeats 40000000 in
theorem rmcf1 (l : Launch) (Z : State) (a0 : Array Value) (hw : ∀ d ∈ tables_1, d.before a0 Z = true) (ws : List Jvm.Cond) (a1 : Addr) (k : ClassId) (g : Nat → Int32) (h0 : Heap) (n0 : Nat) (Z0 : n0 ≤ h0.size) (A_a1 : AV Z h0 a1 k .byte 1 (fun i => Value.int (g i))) :
    MetFree l (⟨"java/lang/StringUTF16", "coderFromArrayLen", "([BI)B"⟩ : MethodName) (head1 (Jvm.Cond.code (⟨"java/lang/StringUTF16", "coderFromArrayLen", "([BI)B"⟩ : MethodName) jdk_52_method_15_code 2 (some .byte) :: ws) ({ frames := 0, cells := 0, slots := 0, locals := 0 } : Room)) (fun a U => a = #[(.ref a1), (.int (1 : Int32))] ∧ Z.Warmed39 U.vm ∧ U.heap = h0) (fun _ _ _ _ _ => True) (fun _ U o U' => ∃ v L, o = .returned v ∧ Qcf1 Z a1 k g h0 n0 v U'.heap L ∧ FrameEnd U o U' L ({ frames := 0, cells := 0, slots := 0, locals := 0 } : Room).cells ({ frames := 0, cells := 0, slots := 0, locals := 0 } : Room).slots) := by
  refine MetFree.of_bodySF (plainFor_of_name pn_5) hisR ?_
  intro p e s m args below meth c s₁ Bd hml0 hP hK
  obtain ⟨rfl, hZ, hh⟩ := hP
  have hx := Bd.exec
  have hby := Bd.bytes
  have hml : c.maxLocals = 2 := hml0
  have hown : s.vm.findClass "java/lang/StringUTF16" = some m.cls := findClass_of_methodNamed Bd.named
  have hnm := (name_of_methodNamed Bd.named Bd.method).1
  have X0 : Stand p l e ({ frames := 0, cells := 0, slots := 0, locals := 0 } : Room) s m #[(.ref a1), (.int (1 : Int32))] below meth c s₁ [] 0 0 := Stand.of_body Bd
  have e0 : s₁.heap = h0 := by rw [← hh, Bd.state]; rfl
  have N0 := Fr.nil n0
  show GoalS p.tables e below s ({ frames := 0, cells := 0, slots := 0, locals := 0 } : Room).cells ({ frames := 0, cells := 0, slots := 0, locals := 0 } : Room).slots (Qcf1 Z a1 k g h0 n0) (s₁.setTop (entryFrame m #[(.ref a1), (.int (1 : Int32))] 2))
  refine GoalS.lift (B := s₁.setTop (mkF m 0 #[vr a1, vi (1 : Int32)] [])) (fun t k => castTop (ef_rmcf1 m a1) k) ?_
  have K0 : Keep h0 h0 [] := Keep.refl _ _
  obtain ⟨cl1, Ar1, -, sz1, -, -⟩ := id A_a1
  have le1 : cl1.slots.size.toInt32 = (1 : Int32) := by rw [sz1]; exact rfl
  obtain ⟨fs, hr, hrun, hended, hW, hsame⟩ := X0.leave (v := some (.int ((((0 : Int32)).toInt8.toInt32)).toInt8.toInt32)) (fun h => by rw [Bd.returns] at h; cases h)
  refine ⟨_, _, ?_, hrun, hended, _, _, rfl, ?_, ⟨_, rfl⟩, hW, hsame.mono (by decide) (by decide)⟩
  · show Steps p.tables e below (s₁.setTop (mkF m 0 #[vr a1, vi (1 : Int32)] [])) _
    refine XS.iloadN X0.here hx rfl (hb hby d18_0) rfl ?_
    refine XS.aloadN X0.here hx rfl (hb hby d18_1) rfl rfl ?_
    refine X0.arraylength hx (by rw [e0]; exact Ar1.1) (State.isArrayOf_alike hZ.alike Ar1.2.1) (g := (mkF m 2 #[vr a1, vi (1 : Int32)] [(.ref a1), (.int (1 : Int32))])) rfl rfl (hb hby d18_2) _ ?_
    rw [le1]
    refine XS.isub X0.here hx rfl (hb hby d18_3) rfl ?_
    refine XS.bipush X0.here hx rfl (hb hby d18_4) ?_
    show Steps p.tables e below (s₁.setTop (mkF m 6 #[vr a1, vi (1 : Int32)] [(.int (31 : Int32)), (.int (0 : Int32))])) _
    refine XS.iushr X0.here hx rfl (hb hby d18_6) rfl ?_
    refine XS.i2b X0.here hx rfl (hb hby d18_7) rfl ?_
    exact retN X0 hx (t := .byte) Bd.returns (by simp) (hb hby d18_8) hr
  · show Qcf1 Z a1 k g h0 n0 _ s₁.heap _
    exact ⟨(congrArg (fun z => some (Value.int z)) (by decide)), N0, e0⟩
theorem d17_0 : decode jdk_52_method_21_code 0 = .ok (.iconst 0, 1) := by decide +kernel
theorem d17_1 : decode jdk_52_method_21_code 1 = .ok (.istore 5, 2) := by decide +kernel
theorem d17_3 : decode jdk_52_method_21_code 3 = .ok (.iload 5, 2) := by decide +kernel
theorem d17_5 : decode jdk_52_method_21_code 5 = .ok (.iload 4, 2) := by decide +kernel
theorem d17_7 : decode jdk_52_method_21_code 7 = .ok (.if_icmp .ge 37, 3) := by decide +kernel
theorem d17_10 : decode jdk_52_method_21_code 10 = .ok (.aload_n 0, 1) := by decide +kernel
theorem d17_11 : decode jdk_52_method_21_code 11 = .ok (.iload_n 1, 1) := by decide +kernel
theorem d17_12 : decode jdk_52_method_21_code 12 = .ok (.caload, 1) := by decide +kernel
theorem d17_13 : decode jdk_52_method_21_code 13 = .ok (.istore 6, 2) := by decide +kernel
theorem d17_15 : decode jdk_52_method_21_code 15 = .ok (.iload 6, 2) := by decide +kernel
theorem d17_17 : decode jdk_52_method_21_code 17 = .ok (.sipush 255, 3) := by decide +kernel
theorem d17_20 : decode jdk_52_method_21_code 20 = .ok (.if_icmp .le 6, 3) := by decide +kernel
theorem d17_26 : decode jdk_52_method_21_code 26 = .ok (.aload_n 2, 1) := by decide +kernel
theorem d17_27 : decode jdk_52_method_21_code 27 = .ok (.iload_n 3, 1) := by decide +kernel
theorem d17_28 : decode jdk_52_method_21_code 28 = .ok (.iload 6, 2) := by decide +kernel
theorem d17_30 : decode jdk_52_method_21_code 30 = .ok (.i2b, 1) := by decide +kernel
theorem d17_31 : decode jdk_52_method_21_code 31 = .ok (.bastore, 1) := by decide +kernel
theorem d17_32 : decode jdk_52_method_21_code 32 = .ok (.iinc 1 1, 3) := by decide +kernel
theorem d17_35 : decode jdk_52_method_21_code 35 = .ok (.iinc 3 1, 3) := by decide +kernel
theorem d17_38 : decode jdk_52_method_21_code 38 = .ok (.iinc 5 1, 3) := by decide +kernel
theorem d17_41 : decode jdk_52_method_21_code 41 = .ok (.goto (-38), 3) := by decide +kernel
theorem d17_44 : decode jdk_52_method_21_code 44 = .ok (.iload 4, 2) := by decide +kernel
theorem d17_46 : decode jdk_52_method_21_code 46 = .ok (.ireturn, 1) := by decide +kernel
theorem ef_rmz5_1 (m : MethodId) (a1 : Addr) (a3 : Addr) : entryFrame m #[(.ref a1), (.int (0 : Int32)), (.ref a3), (.int (0 : Int32)), (.int (1 : Int32))] 7 = mkF m 0 #[vr a1, vi (0 : Int32), vr a3, vi (0 : Int32), vi (1 : Int32), .unset, .unset] [] := by first | (simp [entryFrame, mkF, argsToLocals, Value.category]; done) | rfl
def Qz5_1 (Z : State) (a1 : Addr) (a3 : Addr) (k : ClassId) (k3 : ClassId) (cf : Nat → Int32) (g : Nat → Int32) (h0 : Heap) (n0 : Nat) (v : Option Value) (h : Heap) (L : List Loc) : Prop := v = some (.int (1 : Int32)) ∧ Fr n0 L ∧ Keep h0 h [a3] ∧ (AV Z h a3 k3 .byte 1 (fun i => Value.int (cf i)))
set_option maxRecDepth 65536 in
set_option maxHeartbeats 40000000 in
theorem rmz5_1 (l : Launch) (Z : State) (a0 : Array Value) (hw : ∀ d ∈ tables_1, d.before a0 Z = true) (ws : List Jvm.Cond) (a1 : Addr) (a3 : Addr) (k : ClassId) (k3 : ClassId) (cf : Nat → Int32) (g : Nat → Int32) (h0 : Heap) (n0 : Nat) (Z0 : n0 ≤ h0.size) (A_a1 : AV Z h0 a1 k .char 1 (fun i => Value.int (cf i))) (A_a3 : AV Z h0 a3 k3 .byte 1 (fun i => Value.int (g i))) (ne_a1_a3 : a1 ≠ a3) (g_a3 : n0 ≤ a3) (hok : ∀ i, own_ok (cf i)) :
    MetFree l (⟨"java/lang/StringUTF16", "compress", "([CI[BII)I"⟩ : MethodName) (head1 (Jvm.Cond.code (⟨"java/lang/StringUTF16", "compress", "([CI[BII)I"⟩ : MethodName) jdk_52_method_21_code 7 (some .int) :: ws) ({ frames := 0, cells := 0, slots := 0, locals := 0 } : Room)) (fun a U => a = #[(.ref a1), (.int (0 : Int32)), (.ref a3), (.int (0 : Int32)), (.int (1 : Int32))] ∧ Z.Warmed39 U.vm ∧ U.heap = h0) (fun _ _ _ _ _ => True) (fun _ U o U' => ∃ v L, o = .returned v ∧ Qz5_1 Z a1 a3 k k3 cf g h0 n0 v U'.heap L ∧ FrameEnd U o U' L ({ frames := 0, cells := 0, slots := 0, locals := 0 } : Room).cells ({ frames := 0, cells := 0, slots := 0, locals := 0 } : Room).slots) := by
  refine MetFree.of_bodySF (plainFor_of_name pn_5) hisR ?_
  intro p e s m args below meth c s₁ Bd hml0 hP hK
  obtain ⟨rfl, hZ, hh⟩ := hP
  have hx := Bd.exec
  have hby := Bd.bytes
  have hml : c.maxLocals = 7 := hml0
  have hown : s.vm.findClass "java/lang/StringUTF16" = some m.cls := findClass_of_methodNamed Bd.named
  have hnm := (name_of_methodNamed Bd.named Bd.method).1
  have X0 : Stand p l e ({ frames := 0, cells := 0, slots := 0, locals := 0 } : Room) s m #[(.ref a1), (.int (0 : Int32)), (.ref a3), (.int (0 : Int32)), (.int (1 : Int32))] below meth c s₁ [] 0 0 := Stand.of_body Bd
  have e0 : s₁.heap = h0 := by rw [← hh, Bd.state]; rfl
  have N0 := Fr.nil n0
  show GoalS p.tables e below s ({ frames := 0, cells := 0, slots := 0, locals := 0 } : Room).cells ({ frames := 0, cells := 0, slots := 0, locals := 0 } : Room).slots (Qz5_1 Z a1 a3 k k3 cf g h0 n0) (s₁.setTop (entryFrame m #[(.ref a1), (.int (0 : Int32)), (.ref a3), (.int (0 : Int32)), (.int (1 : Int32))] 7))
  refine GoalS.lift (B := s₁.setTop (mkF m 0 #[vr a1, vi (0 : Int32), vr a3, vi (0 : Int32), vi (1 : Int32), .unset, .unset] [])) (fun t k => castTop (ef_rmz5_1 m a1 a3) k) ?_
  have K0 : Keep h0 h0 [a3] := Keep.refl _ _
  obtain ⟨cl1, Ar1, kc1, sz1, -, hv1⟩ := id A_a1
  have hin1 : ¬ ((0 : Int32) < 0 ∨ cl1.slots.size ≤ ((0 : Int32)).toNatClampNeg) := AV.inb sz1 (show ¬ (0 : Int32) < 0 ∧ ((0 : Int32)).toNatClampNeg < 1 by decide)
  have hat1 : cl1.slots[((0 : Int32)).toNatClampNeg]? = some (.int (cf 0)) := (hv1 _ (AV.inx (show ¬ (0 : Int32) < 0 ∧ ((0 : Int32)).toNatClampNeg < 1 by decide))).trans (congrArg some rfl)
  obtain ⟨cl2, Ar2, kc2, sz2, -, -⟩ := id A_a3
  have hin2 : ¬ ((0 : Int32) < 0 ∨ cl2.slots.size ≤ ((0 : Int32)).toNatClampNeg) := AV.inb sz2 (show ¬ (0 : Int32) < 0 ∧ ((0 : Int32)).toNatClampNeg < 1 by decide)
  obtain ⟨T2, h2, X2, e2, W2, st2⟩ := stB X0 hx hZ e0 Ar2 (j := (0 : Int32)) hin2 (g := (mkF m 31 #[vr a1, vi (0 : Int32), vr a3, vi (0 : Int32), vi (1 : Int32), vi (0 : Int32), vi (cf 0)] [(.int (((cf 0)).toInt8.toInt32)), (.int (0 : Int32)), (.ref a3)])) rfl rfl (hb hby d17_31)
  have z3 : n0 ≤ h2.size := Nat.le_trans Z0 (Keep.of_wr W2).1
  have K4 : Keep h0 h2 [a3] := K0.wr W2 (Or.inl (List.mem_of_getElem? (i := 0) rfl))
  have V2 : AV Z h2 a3 k3 .byte 1 (fun i => Value.int ((updI g 0 ((((cf 0)).toInt8.toInt32)).toInt8.toInt32) i)) := AV.putI A_a3 W2 (AV.inx (show ¬ (0 : Int32) < 0 ∧ ((0 : Int32)).toNatClampNeg < 1 by decide))
  have N2 := Fr.snoc X2 N0 g_a3
  obtain ⟨fs, hr, hrun, hended, hW, hsame⟩ := X2.leave (v := some (.int (1 : Int32))) (fun h => by rw [Bd.returns] at h; cases h)
  refine ⟨_, _, ?_, hrun, hended, _, _, rfl, ?_, ⟨_, rfl⟩, hW, hsame.mono (by decide) (by decide)⟩
  · show Steps p.tables e below (s₁.setTop (mkF m 0 #[vr a1, vi (0 : Int32), vr a3, vi (0 : Int32), vi (1 : Int32), .unset, .unset] [])) _
    refine XS.iconst X0.here hx rfl (hb hby d17_0) ?_
    refine XS.istore X0.here hx rfl (hb hby d17_1) rfl (l' := #[vr a1, vi (0 : Int32), vr a3, vi (0 : Int32), vi (1 : Int32), vi (0 : Int32), .unset]) rfl ?_
    refine XS.iload X0.here hx rfl (hb hby d17_3) rfl ?_
    refine XS.iload X0.here hx rfl (hb hby d17_5) rfl ?_
    refine XS.icmpNo X0.here hx rfl (hb hby d17_7) rfl ((tlt (by decide : (0 : Int32) < (1 : Int32))).2.1) ?_
    refine XS.aloadN X0.here hx rfl (hb hby d17_10) rfl rfl ?_
    show Steps p.tables e below (s₁.setTop (mkF m 11 #[vr a1, vi (0 : Int32), vr a3, vi (0 : Int32), vi (1 : Int32), vi (0 : Int32), .unset] [(.ref a1)])) _
    refine XS.iloadN X0.here hx rfl (hb hby d17_11) rfl ?_
    refine X0.caload hx (j := (0 : Int32)) (v := (.int (cf 0))) (by rw [e0]; exact Ar1.1) (State.isArrayOf_alike hZ.alike Ar1.2.1) Ar1.2.2 hin1 hat1 (g := (mkF m 12 #[vr a1, vi (0 : Int32), vr a3, vi (0 : Int32), vi (1 : Int32), vi (0 : Int32), .unset] [(.int (0 : Int32)), (.ref a1)])) rfl rfl (hb hby d17_12) _ ?_
    refine XS.istore X0.here hx rfl (hb hby d17_13) rfl (l' := #[vr a1, vi (0 : Int32), vr a3, vi (0 : Int32), vi (1 : Int32), vi (0 : Int32), vi (cf 0)]) rfl ?_
    refine XS.iload X0.here hx rfl (hb hby d17_15) rfl ?_
    refine XS.sipush X0.here hx rfl (hb hby d17_17) ?_
    refine XS.icmpYes X0.here hx rfl (pc0 := 20) (pc' := 26) rfl (hb hby d17_20) rfl ((flt (own_255 (hok 0) : ¬ ((255 : Int32) < (cf 0)))).2.2.2) (by decide) (by decide) ?_
    show Steps p.tables e below (s₁.setTop (mkF m 26 #[vr a1, vi (0 : Int32), vr a3, vi (0 : Int32), vi (1 : Int32), vi (0 : Int32), vi (cf 0)] [])) _
    refine XS.aloadN X0.here hx rfl (hb hby d17_26) rfl rfl ?_
    refine XS.iloadN X0.here hx rfl (hb hby d17_27) rfl ?_
    refine XS.iload X0.here hx rfl (hb hby d17_28) rfl ?_
    refine XS.i2b X0.here hx rfl (hb hby d17_30) rfl ?_
    refine st2 _ ?_
    refine XS.iinc X2.here hx rfl (hb hby d17_32) rfl (l' := #[vr a1, vi (1 : Int32), vr a3, vi (0 : Int32), vi (1 : Int32), vi (0 : Int32), vi (cf 0)]) rfl ?_
    show Steps p.tables e below (T2.setTop (mkF m 35 #[vr a1, vi (1 : Int32), vr a3, vi (0 : Int32), vi (1 : Int32), vi (0 : Int32), vi (cf 0)] [])) _
    refine XS.iinc X2.here hx rfl (hb hby d17_35) rfl (l' := #[vr a1, vi (1 : Int32), vr a3, vi (1 : Int32), vi (1 : Int32), vi (0 : Int32), vi (cf 0)]) rfl ?_
    refine XS.iinc X2.here hx rfl (hb hby d17_38) rfl (l' := #[vr a1, vi (1 : Int32), vr a3, vi (1 : Int32), vi (1 : Int32), vi (1 : Int32), vi (cf 0)]) rfl ?_
    refine XS.goto X2.here hx rfl (pc0 := 41) (pc' := 3) rfl (hb hby d17_41) (by decide) (by decide) ?_
    refine XS.iload X2.here hx rfl (hb hby d17_3) rfl ?_
    refine XS.iload X2.here hx rfl (hb hby d17_5) rfl ?_
    refine XS.icmpYes X2.here hx rfl (pc0 := 7) (pc' := 44) rfl (hb hby d17_7) rfl ((flt (by decide : ¬ ((1 : Int32) < (1 : Int32)))).2.1) (by decide) (by decide) ?_
    show Steps p.tables e below (T2.setTop (mkF m 44 #[vr a1, vi (1 : Int32), vr a3, vi (1 : Int32), vi (1 : Int32), vi (1 : Int32), vi (cf 0)] [])) _
    refine XS.iload X2.here hx rfl (hb hby d17_44) rfl ?_
    exact retI X2 hx Bd.returns (hb hby d17_46) hr
  · show Qz5_1 Z a1 a3 k k3 cf g h0 n0 _ T2.heap _
    rw [e2]
    exact ⟨rfl, N2, K4, (AV.conv V2 (fun i hi => congrArg Value.int (match i, hi with | 0, _ => own_i88 (hok 0) | i + 1, hi => absurd hi (by omega))))⟩
theorem d16_0 : decode jdk_52_method_16_code 0 = .ok (.iload_n 2, 1) := by decide +kernel
theorem d16_1 : decode jdk_52_method_16_code 1 = .ok (.newarray .byte, 2) := by decide +kernel
theorem d16_3 : decode jdk_52_method_16_code 3 = .ok (.astore_n 3, 1) := by decide +kernel
theorem d16_4 : decode jdk_52_method_16_code 4 = .ok (.aload_n 0, 1) := by decide +kernel
theorem d16_5 : decode jdk_52_method_16_code 5 = .ok (.iload_n 1, 1) := by decide +kernel
theorem d16_6 : decode jdk_52_method_16_code 6 = .ok (.aload_n 3, 1) := by decide +kernel
theorem d16_7 : decode jdk_52_method_16_code 7 = .ok (.iconst 0, 1) := by decide +kernel
theorem d16_8 : decode jdk_52_method_16_code 8 = .ok (.iload_n 2, 1) := by decide +kernel
theorem d16_9 : decode jdk_52_method_16_code 9 = .ok (.invokestatic 115, 3) := by decide +kernel
theorem d16_12 : decode jdk_52_method_16_code 12 = .ok (.istore 4, 2) := by decide +kernel
theorem d16_14 : decode jdk_52_method_16_code 14 = .ok (.iload 4, 2) := by decide +kernel
theorem d16_16 : decode jdk_52_method_16_code 16 = .ok (.iload_n 2, 1) := by decide +kernel
theorem d16_17 : decode jdk_52_method_16_code 17 = .ok (.if_icmp .eq 40, 3) := by decide +kernel
theorem d16_57 : decode jdk_52_method_16_code 57 = .ok (.aload_n 3, 1) := by decide +kernel
theorem d16_58 : decode jdk_52_method_16_code 58 = .ok (.areturn, 1) := by decide +kernel
theorem pd_11 : parseMethodDescriptor "([CI[BII)I" = some ⟨[(.array .char), .int, (.array .byte), .int, .int], some .int⟩ := by decide +kernel
theorem ef_rmz3_1 (m : MethodId) (a1 : Addr) : entryFrame m #[(.ref a1), (.int (0 : Int32)), (.int (1 : Int32))] 6 = mkF m 0 #[vr a1, vi (0 : Int32), vi (1 : Int32), .unset, .unset, .unset] [] := by first | (simp [entryFrame, mkF, argsToLocals, Value.category]; done) | rfl
def Qz3_1 (Z : State) (a1 : Addr) (k : ClassId) (cf : Nat → Int32) (h0 : Heap) (n0 : Nat) (v : Option Value) (h : Heap) (L : List Loc) : Prop := ∃ (t' : Addr), ∃ (k' : ClassId), v = some (.ref t') ∧ Fr n0 L ∧ Keep h0 h [] ∧ h0.size ≤ t' ∧ (AV Z h t' k' .byte 1 (fun i => Value.int (cf i)))
set_option maxRecDepth 65536 in
set_option maxHeartbeats 40000000 in
theorem rmz3_1 (l : Launch) (Z : State) (a0 : Array Value) (hw : ∀ d ∈ tables_1, d.before a0 Z = true) (ws : List Jvm.Cond) (a1 : Addr) (k : ClassId) (cf : Nat → Int32) (h0 : Heap) (n0 : Nat) (Z0 : n0 ≤ h0.size) (A_a1 : AV Z h0 a1 k .char 1 (fun i => Value.int (cf i))) (hok : ∀ i, own_ok (cf i)) :
    MetFree l (⟨"java/lang/StringUTF16", "compress", "([CII)[B"⟩ : MethodName) (head1 (Jvm.Cond.code (⟨"java/lang/StringUTF16", "compress", "([CII)[B"⟩ : MethodName) jdk_52_method_16_code 6 (some (.array .byte)) :: ws) ({ frames := 1, cells := 1, slots := 1, locals := 18 } : Room)) (fun a U => a = #[(.ref a1), (.int (0 : Int32)), (.int (1 : Int32))] ∧ Z.Warmed39 U.vm ∧ U.heap = h0) (fun _ _ _ _ _ => True) (fun _ U o U' => ∃ v L, o = .returned v ∧ Qz3_1 Z a1 k cf h0 n0 v U'.heap L ∧ FrameEnd U o U' L ({ frames := 1, cells := 1, slots := 1, locals := 18 } : Room).cells ({ frames := 1, cells := 1, slots := 1, locals := 18 } : Room).slots) := by
  refine MetFree.of_bodySF (plainFor_of_name pn_5) hisR ?_
  intro p e s m args below meth c s₁ Bd hml0 hP hK
  obtain ⟨rfl, hZ, hh⟩ := hP
  have hx := Bd.exec
  have hby := Bd.bytes
  have hml : c.maxLocals = 6 := hml0
  have hown : s.vm.findClass "java/lang/StringUTF16" = some m.cls := findClass_of_methodNamed Bd.named
  have hnm := (name_of_methodNamed Bd.named Bd.method).1
  have X0 : Stand p l e ({ frames := 1, cells := 1, slots := 1, locals := 18 } : Room) s m #[(.ref a1), (.int (0 : Int32)), (.int (1 : Int32))] below meth c s₁ [] 0 0 := Stand.of_body Bd
  have e0 : s₁.heap = h0 := by rw [← hh, Bd.state]; rfl
  have N0 := Fr.nil n0
  show GoalS p.tables e below s ({ frames := 1, cells := 1, slots := 1, locals := 18 } : Room).cells ({ frames := 1, cells := 1, slots := 1, locals := 18 } : Room).slots (Qz3_1 Z a1 k cf h0 n0) (s₁.setTop (entryFrame m #[(.ref a1), (.int (0 : Int32)), (.int (1 : Int32))] 6))
  refine GoalS.lift (B := s₁.setTop (mkF m 0 #[vr a1, vi (0 : Int32), vi (1 : Int32), .unset, .unset, .unset] [])) (fun t k => castTop (ef_rmz3_1 m a1) k) ?_
  have K0 : Keep h0 h0 [] := Keep.refl _ _
  obtain ⟨T1, h1, k1, X1, e1, E1, A1, st1⟩ := newP X0 hx hZ (hw _ (List.mem_of_getElem? (i := 0) rfl)) e0 (g := (mkF m 1 #[vr a1, vi (0 : Int32), vi (1 : Int32), .unset, .unset, .unset] [(.int (1 : Int32))])) rfl (hb hby d16_1) rfl (by decide) (cap := 1) (by decide) (by decide) (by decide) (by decide)
  obtain ⟨b1, g1⟩ : ∃ z, z = h0.size := ⟨_, rfl⟩
  rw [← g1] at A1 st1
  have g_b1 : n0 ≤ b1 := Nat.le_trans Z0 (Nat.le_of_eq g1.symm)
  have sz_b1 : h0.size ≤ b1 := Nat.le_trans K0.1 (Nat.le_of_eq g1.symm)
  have ne_a1_b1 : a1 ≠ b1 := Nat.ne_of_lt (Nat.lt_of_lt_of_le A_a1.lt (Nat.le_of_eq g1.symm))
  have z2 : n0 ≤ h1.size := Nat.le_trans Z0 E1.1
  have K3 : Keep h0 h1 [] := K0.ext E1
  have V1 : AV Z h1 b1 k1 .byte 1 (fun i => Value.int ((fun _ => (0 : Int32)) i)) := AV.new A1 (by decide) (by decide) (by decide)
  have f5 : AV Z h1 a1 k .char 1 (fun i => Value.int (cf i)) := (A_a1.ext E1)
  obtain ⟨_, _, ⟨T4, L4, k4, n4⟩, -, X4, ⟨Lc4, hQ4, l4, y4, z4⟩, st4⟩ := Jvm.LawKit.callS X1 hx (y := (⟨"java/lang/StringUTF16", "compress", "([CI[BII)I"⟩ : MethodName)) hown (mvT hZ (hw _ (List.mem_of_getElem? (i := 91) rfl))) (mvT hZ (hw _ (List.mem_of_getElem? (i := 92) rfl))) (mvT hZ (hw _ (List.mem_of_getElem? (i := 89) rfl))) (mvT hZ (hw _ (List.mem_of_getElem? (i := 93) rfl))) (by decide) (backOf (W := 0) (rmz5_1 l Z a0 hw [] a1 b1 k k1 cf (fun _ => (0 : Int32)) h1 n0 z2 f5 V1 ne_a1_b1 g_b1 hok) hZ (hw _ (List.mem_of_getElem? (i := 93) rfl)) (hw _ (List.mem_of_getElem? (i := 89) rfl)) (by decide) (by decide)) (g := (mkF m 9 #[vr a1, vi (0 : Int32), vi (1 : Int32), vr b1, .unset, .unset] [(.int (1 : Int32)), (.int (0 : Int32)), (.ref b1), (.int (0 : Int32)), (.ref a1)])) rfl (by rw [hml]; rfl) (argsL := [(.ref a1), (.int (0 : Int32)), (.ref b1), (.int (0 : Int32)), (.int (1 : Int32))]) (rest := []) (lenOf pd_11 rfl) rfl (by show 2 * 0 + _ ≤ _; exact Nat.le_of_eq rfl) (hb hby d16_9) (fun _ _ => ⟨rfl, e1, (by decide : 1 + 0 ≤ _), (by decide : 1 + 0 ≤ _)⟩)
  dsimp only [Pt.U, Pt.locs, Pt.cells, Pt.slots] at X4 l4 y4 z4 st4 hQ4
  subst y4 z4
  obtain ⟨rfl, N4q, p4_0, p4_1⟩ := hQ4
  have N4 : Fr n0 L4 := by rw [l4]; exact Fr.app N0 N4q
  have z6 : n0 ≤ T4.heap.size := Nat.le_trans z2 p4_0.1
  have K7 : Keep h0 T4.heap [] := K3.trans p4_0 (allS (Or.inr sz_b1) all0)
  obtain ⟨fs, hr, hrun, hended, hW, hsame⟩ := X4.leave (v := some (.ref b1)) (fun h => by rw [Bd.returns] at h; cases h)
  refine ⟨_, _, ?_, hrun, hended, _, _, rfl, ?_, ⟨_, rfl⟩, hW, hsame.mono (by decide) (by decide)⟩
  · show Steps p.tables e below (s₁.setTop (mkF m 0 #[vr a1, vi (0 : Int32), vi (1 : Int32), .unset, .unset, .unset] [])) _
    refine XS.iloadN X0.here hx rfl (hb hby d16_0) rfl ?_
    refine st1 _ ?_
    refine XS.astoreN X1.here hx rfl (hb hby d16_3) rfl rfl (l' := #[vr a1, vi (0 : Int32), vi (1 : Int32), vr b1, .unset, .unset]) rfl ?_
    refine XS.aloadN X1.here hx rfl (hb hby d16_4) rfl rfl ?_
    refine XS.iloadN X1.here hx rfl (hb hby d16_5) rfl ?_
    refine XS.aloadN X1.here hx rfl (hb hby d16_6) rfl rfl ?_
    show Steps p.tables e below (T1.setTop (mkF m 7 #[vr a1, vi (0 : Int32), vi (1 : Int32), vr b1, .unset, .unset] [(.ref b1), (.int (0 : Int32)), (.ref a1)])) _
    refine XS.iconst X1.here hx rfl (hb hby d16_7) ?_
    refine XS.iloadN X1.here hx rfl (hb hby d16_8) rfl ?_
    refine st4 _ ?_
    refine XS.istore X4.here hx rfl (hb hby d16_12) rfl (l' := #[vr a1, vi (0 : Int32), vi (1 : Int32), vr b1, vi (1 : Int32), .unset]) rfl ?_
    refine XS.iload X4.here hx rfl (hb hby d16_14) rfl ?_
    refine XS.iloadN X4.here hx rfl (hb hby d16_16) rfl ?_
    show Steps p.tables e below (T4.setTop (mkF m 17 #[vr a1, vi (0 : Int32), vi (1 : Int32), vr b1, vi (1 : Int32), .unset] [(.int (1 : Int32)), (.int (1 : Int32))])) _
    refine XS.icmpYes X4.here hx rfl (pc0 := 17) (pc' := 57) rfl (hb hby d16_17) rfl ((teq (by decide : (1 : Int32) = (1 : Int32))).1) (by decide) (by decide) ?_
    refine XS.aloadN X4.here hx rfl (hb hby d16_57) rfl rfl ?_
    show Steps p.tables e below (T4.setTop (mkF m 58 #[vr a1, vi (0 : Int32), vi (1 : Int32), vr b1, vi (1 : Int32), .unset] [(.ref b1)])) _
    jvm_step X4.here [X4.here.top, hx, (hb hby d16_58), X4.method', Bd.returns, Value.isRef, FieldType.isReference]
    first | (intro acts; rw [hr _ acts rfl rfl rfl]) | rw [hr _ _ rfl rfl rfl]
    exact Steps.refl _
  · show Qz3_1 Z a1 k cf h0 n0 _ T4.heap _
    exact ⟨b1, k1, rfl, N4, K7, sz_b1, p4_1⟩
theorem d9_0 : decode jdk_42_method_149_code 0 = .ok (.aload_n 0, 1) := by decide +kernel
theorem d9_1 : decode jdk_42_method_149_code 1 = .ok (.invokespecial 1, 3) := by decide +kernel
theorem d9_4 : decode jdk_42_method_149_code 4 = .ok (.iload_n 3, 1) := by decide +kernel
theorem d9_5 : decode jdk_42_method_149_code 5 = .ok (.ifCond .ne 22, 3) := by decide +kernel
theorem d9_27 : decode jdk_42_method_149_code 27 = .ok (.getstatic 38, 3) := by decide +kernel
theorem d9_30 : decode jdk_42_method_149_code 30 = .ok (.ifCond .eq 28, 3) := by decide +kernel
theorem d9_33 : decode jdk_42_method_149_code 33 = .ok (.aload_n 1, 1) := by decide +kernel
theorem d9_34 : decode jdk_42_method_149_code 34 = .ok (.iload_n 2, 1) := by decide +kernel
theorem d9_35 : decode jdk_42_method_149_code 35 = .ok (.iload_n 3, 1) := by decide +kernel
theorem d9_36 : decode jdk_42_method_149_code 36 = .ok (.invokestatic 177, 3) := by decide +kernel
theorem d9_39 : decode jdk_42_method_149_code 39 = .ok (.astore 5, 2) := by decide +kernel
theorem d9_41 : decode jdk_42_method_149_code 41 = .ok (.aload_n 0, 1) := by decide +kernel
theorem d9_42 : decode jdk_42_method_149_code 42 = .ok (.aload 5, 2) := by decide +kernel
theorem d9_44 : decode jdk_42_method_149_code 44 = .ok (.iload_n 3, 1) := by decide +kernel
theorem d9_45 : decode jdk_42_method_149_code 45 = .ok (.invokestatic 47, 3) := by decide +kernel
theorem d9_48 : decode jdk_42_method_149_code 48 = .ok (.putfield 15, 3) := by decide +kernel
theorem d9_51 : decode jdk_42_method_149_code 51 = .ok (.aload_n 0, 1) := by decide +kernel
theorem d9_52 : decode jdk_42_method_149_code 52 = .ok (.aload 5, 2) := by decide +kernel
theorem d9_54 : decode jdk_42_method_149_code 54 = .ok (.putfield 9, 3) := by decide +kernel
theorem d9_57 : decode jdk_42_method_149_code 57 = .ok (.return_, 1) := by decide +kernel
theorem pd_12 : parseMethodDescriptor "([CII)[B" = some ⟨[(.array .char), .int, .int], some (.array .byte)⟩ := by decide +kernel
theorem pd_13 : parseMethodDescriptor "([BI)B" = some ⟨[(.array .byte), .int], some .byte⟩ := by decide +kernel
theorem ef_rms4_1 (m : MethodId) (a1 : Addr) (a2 : Addr) : entryFrame m #[(.ref a1), (.ref a2), (.int (0 : Int32)), (.int (1 : Int32)), .null] 6 = mkF m 0 #[vr a1, vr a2, vi (0 : Int32), vi (1 : Int32), .val .null, .unset] [] := by first | (simp [entryFrame, mkF, argsToLocals, Value.category]; done) | rfl
def Qs4_1 (Z : State) (a1 : Addr) (a2 : Addr) (zcs : Int32) (k : ClassId) (cf : Nat → Int32) (h0 : Heap) (n0 : Nat) (v : Option Value) (h : Heap) (L : List Loc) : Prop := ∃ (t' : Addr), ∃ (k' : ClassId), v = none ∧ Fr n0 L ∧ Keep h0 h [a1] ∧ h0.size ≤ t' ∧ (Exa Z h a1 "java/lang/String") ∧ (Fld Z h a1 "java/lang/String" "value" "[B" (.ref t')) ∧ (Fld Z h a1 "java/lang/String" "coder" "B" (.int (0 : Int32))) ∧ (AV Z h t' k' .byte 1 (fun i => Value.int (cf i)))
set_option maxRecDepth 65536 in
set_option maxHeartbeats 40000000 in
theorem rms4_1 (l : Launch) (Z : State) (a0 : Array Value) (hw : ∀ d ∈ tables_1, d.before a0 Z = true) (ws : List Jvm.Cond) (a1 : Addr) (a2 : Addr) (zcs : Int32) (k : ClassId) (cf : Nat → Int32) (h0 : Heap) (n0 : Nat) (Z0 : n0 ≤ h0.size) (S_COMPACT_STRINGS : Sta Z h0 "java/lang/String" "COMPACT_STRINGS" "Z" (.int zcs)) (hCS : ¬ zcs = 0) (E_a1 : Exa Z h0 a1 "java/lang/String") (g_a1 : n0 ≤ a1) (F_value_a1 : Fld Z h0 a1 "java/lang/String" "value" "[B" .null) (F_coder_a1 : Fld Z h0 a1 "java/lang/String" "coder" "B" (.int (0 : Int32))) (A_a2 : AV Z h0 a2 k .char 1 (fun i => Value.int (cf i))) (ne_a1_a2 : a1 ≠ a2) (hok : ∀ i, own_ok (cf i)) :
    MetFree l (⟨"java/lang/String", "<init>", "([CIILjava/lang/Void;)V"⟩ : MethodName) (head1 (Jvm.Cond.code (⟨"java/lang/String", "<init>", "([CIILjava/lang/Void;)V"⟩ : MethodName) jdk_42_method_149_code 6 none :: ws) ({ frames := 2, cells := 1, slots := 1, locals := 35 } : Room)) (fun a U => a = #[(.ref a1), (.ref a2), (.int (0 : Int32)), (.int (1 : Int32)), .null] ∧ Z.Warmed39 U.vm ∧ U.heap = h0) (fun _ _ _ _ _ => True) (fun _ U o U' => ∃ v L, o = .returned v ∧ Qs4_1 Z a1 a2 zcs k cf h0 n0 v U'.heap L ∧ FrameEnd U o U' L ({ frames := 2, cells := 1, slots := 1, locals := 35 } : Room).cells ({ frames := 2, cells := 1, slots := 1, locals := 35 } : Room).slots) := by
  refine MetFree.of_bodySF (plainFor_of_name pn_3) hisR ?_
  intro p e s m args below meth c s₁ Bd hml0 hP hK
  obtain ⟨rfl, hZ, hh⟩ := hP
  have hx := Bd.exec
  have hby := Bd.bytes
  have hml : c.maxLocals = 6 := hml0
  have hown : s.vm.findClass "java/lang/String" = some m.cls := findClass_of_methodNamed Bd.named
  have hnm := (name_of_methodNamed Bd.named Bd.method).1
  have X0 : Stand p l e ({ frames := 2, cells := 1, slots := 1, locals := 35 } : Room) s m #[(.ref a1), (.ref a2), (.int (0 : Int32)), (.int (1 : Int32)), .null] below meth c s₁ [] 0 0 := Stand.of_body Bd
  have e0 : s₁.heap = h0 := by rw [← hh, Bd.state]; rfl
  have N0 := Fr.nil n0
  show GoalS p.tables e below s ({ frames := 2, cells := 1, slots := 1, locals := 35 } : Room).cells ({ frames := 2, cells := 1, slots := 1, locals := 35 } : Room).slots (Qs4_1 Z a1 a2 zcs k cf h0 n0) (s₁.setTop (entryFrame m #[(.ref a1), (.ref a2), (.int (0 : Int32)), (.int (1 : Int32)), .null] 6))
  refine GoalS.lift (B := s₁.setTop (mkF m 0 #[vr a1, vr a2, vi (0 : Int32), vi (1 : Int32), .val .null, .unset] [])) (fun t k => castTop (ef_rms4_1 m a1 a2) k) ?_
  have K0 : Keep h0 h0 [a1] := Keep.refl _ _
  obtain ⟨T1, X1, e1, st1⟩ := initO X0 hx hZ hown (hw _ (List.mem_of_getElem? (i := 49) rfl)) (hw _ (List.mem_of_getElem? (i := 8) rfl)) (hw _ (List.mem_of_getElem? (i := 9) rfl)) e0 (g := (mkF m 1 #[vr a1, vr a2, vi (0 : Int32), vi (1 : Int32), .val .null, .unset] [(.ref a1)])) rfl (by rw [hml]; rfl) rfl (hb hby d9_1) (by decide) (W := 0) (by show 2 * 0 + _ ≤ _; exact Nat.le_of_eq rfl) (by decide)
  obtain ⟨T2, X2, e2, st2⟩ := getS2 X1 hx hZ hown (host := "") (Or.inl (hw _ (List.mem_of_getElem? (i := 81) rfl))) Via.refl e1 S_COMPACT_STRINGS (g := (mkF m 27 #[vr a1, vr a2, vi (0 : Int32), vi (1 : Int32), .val .null, .unset] [])) rfl (hb hby d9_27)
  obtain ⟨_, _, ⟨T3, L3, k3, n3⟩, -, X3, ⟨Lc3, hQ3, l3, y3, z3⟩, st3⟩ := Jvm.LawKit.callS X2 hx (y := (⟨"java/lang/StringUTF16", "compress", "([CII)[B"⟩ : MethodName)) hown (mvT hZ (hw _ (List.mem_of_getElem? (i := 87) rfl))) (mvT hZ (hw _ (List.mem_of_getElem? (i := 88) rfl))) (mvT hZ (hw _ (List.mem_of_getElem? (i := 89) rfl))) (mvT hZ (hw _ (List.mem_of_getElem? (i := 90) rfl))) (by decide) (backOf (W := 0) (rmz3_1 l Z a0 hw [] a2 k cf h0 n0 Z0 A_a2 hok) hZ (hw _ (List.mem_of_getElem? (i := 90) rfl)) (hw _ (List.mem_of_getElem? (i := 89) rfl)) (by decide) (by decide)) (g := (mkF m 36 #[vr a1, vr a2, vi (0 : Int32), vi (1 : Int32), .val .null, .unset] [(.int (1 : Int32)), (.int (0 : Int32)), (.ref a2)])) rfl (by rw [hml]; rfl) (argsL := [(.ref a2), (.int (0 : Int32)), (.int (1 : Int32))]) (rest := []) (lenOf pd_12 rfl) rfl (by show 2 * 0 + _ ≤ _; exact Nat.le_of_eq rfl) (hb hby d9_36) (fun _ _ => ⟨rfl, e2, (by decide : 0 + 1 ≤ _), (by decide : 0 + 1 ≤ _)⟩)
  dsimp only [Pt.U, Pt.locs, Pt.cells, Pt.slots] at X3 l3 y3 z3 st3 hQ3
  subst y3 z3
  obtain ⟨t'_3, k'_3, rfl, N3q, p3_0, p3_1, p3_2⟩ := hQ3
  have N3 : Fr n0 L3 := by rw [l3]; exact Fr.app N0 N3q
  have ns4 : ∀ x ∈ ([] : List Addr), ∀ cell : Cell, h0[x]? = some cell → cell.vm.isStatics = false := all0
  have z5 : n0 ≤ T3.heap.size := Nat.le_trans Z0 p3_0.1
  have K6 : Keep h0 T3.heap [a1] := K0.trans p3_0 all0
  have ne_a1_t'_3 : a1 ≠ t'_3 := Nat.ne_of_lt (Nat.lt_of_lt_of_le E_a1.lt p3_1)
  have ne_a2_t'_3 : a2 ≠ t'_3 := Nat.ne_of_lt (Nat.lt_of_lt_of_le A_a2.lt p3_1)
  have g_t'_3 : n0 ≤ t'_3 := Nat.le_trans Z0 p3_1
  have sz_t'_3 : h0.size ≤ t'_3 := Nat.le_trans K0.1 p3_1
  obtain ⟨_, _, ⟨T8, L8, k8, n8⟩, -, X8, ⟨Lc8, hQ8, l8, y8, z8⟩, st8⟩ := Jvm.LawKit.callS X3 hx (y := (⟨"java/lang/StringUTF16", "coderFromArrayLen", "([BI)B"⟩ : MethodName)) hown (mvT hZ (hw _ (List.mem_of_getElem? (i := 94) rfl))) (mvT hZ (hw _ (List.mem_of_getElem? (i := 95) rfl))) (mvT hZ (hw _ (List.mem_of_getElem? (i := 89) rfl))) (mvT hZ (hw _ (List.mem_of_getElem? (i := 96) rfl))) (by decide) (backOf (W := 1) (rmcf1 l Z a0 hw [] t'_3 k'_3 cf T3.heap n0 z5 p3_2) hZ (hw _ (List.mem_of_getElem? (i := 96) rfl)) (hw _ (List.mem_of_getElem? (i := 89) rfl)) (by decide) (by decide)) (g := (mkF m 45 #[vr a1, vr a2, vi (0 : Int32), vi (1 : Int32), .val .null, vr t'_3] [(.int (1 : Int32)), (.ref t'_3), (.ref a1)])) rfl (by rw [hml]; rfl) (argsL := [(.ref t'_3), (.int (1 : Int32))]) (rest := [(.ref a1)]) (lenOf pd_13 rfl) rfl (by show 2 * 0 + _ ≤ _; exact Nat.le_of_eq rfl) (hb hby d9_45) (fun _ _ => ⟨rfl, rfl, (by decide : 1 + 0 ≤ _), (by decide : 1 + 0 ≤ _)⟩)
  dsimp only [Pt.U, Pt.locs, Pt.cells, Pt.slots] at X8 l8 y8 z8 st8 hQ8
  subst y8 z8
  obtain ⟨rfl, N8q, eq8⟩ := hQ8
  have N8 : Fr n0 L8 := by rw [l8]; exact Fr.app N3 N8q
  have f9 : Fld Z T3.heap a1 "java/lang/String" "coder" "B" (.int (0 : Int32)) := (F_coder_a1.keep p3_0 nin0)
  have f10 : Exa Z T3.heap a1 "java/lang/String" := (E_a1.keep p3_0)
  obtain ⟨T11, h11, X11, e11, W11, st11⟩ := putFN X8 hx hZ hown (hw _ (List.mem_of_getElem? (i := 56) rfl)) Via.refl eq8 f9 f10 (Or.inr ⟨(hw _ (List.mem_of_getElem? (i := 52) rfl)), rfl, hnm⟩) (hw _ (List.mem_of_getElem? (i := 39) rfl)) (ty := .byte) (v' := (.int (0 : Int32))) (by decide) rfl rfl (g := (mkF m 48 #[vr a1, vr a2, vi (0 : Int32), vi (1 : Int32), .val .null, vr t'_3] [(.int (0 : Int32)), (.ref a1)])) rfl rfl (hb hby d9_48)
  have z12 : n0 ≤ h11.size := Nat.le_trans z5 (Keep.of_wr W11).1
  have K13 : Keep h0 h11 [a1] := K6.wr W11 (Or.inl (List.mem_of_getElem? (i := 0) rfl))
  have Fw11 : Fld Z h11 a1 "java/lang/String" "coder" "B" (.int (0 : Int32)) := f9.same W11
  have N11 := Fr.snoc X11 N8 g_a1
  have f14 : Fld Z h11 a1 "java/lang/String" "value" "[B" .null := ((F_value_a1.keep p3_0 nin0).other W11 (Or.inr (slot_ne (Or.inr (hw _ (List.mem_of_getElem? (i := 51) rfl))) (Or.inr (hw _ (List.mem_of_getElem? (i := 52) rfl))) (by decide) (t := (.array .byte)) (t' := .byte) (by decide) (by decide))))
  have f15 : Exa Z h11 a1 "java/lang/String" := (f10.wr W11)
  obtain ⟨T16, h16, X16, e16, W16, st16⟩ := putF X11 hx hZ hown (host := "") (Or.inl (hw _ (List.mem_of_getElem? (i := 55) rfl))) Via.refl e11 f14 f15 (Or.inr ⟨(hw _ (List.mem_of_getElem? (i := 51) rfl)), rfl, hnm⟩) (hw _ (List.mem_of_getElem? (i := 39) rfl)) (ty := (.array .byte)) (by decide) rfl rfl (g := (mkF m 54 #[vr a1, vr a2, vi (0 : Int32), vi (1 : Int32), .val .null, vr t'_3] [(.ref t'_3), (.ref a1)])) rfl rfl (hb hby d9_54)
  have z17 : n0 ≤ h16.size := Nat.le_trans z12 (Keep.of_wr W16).1
  have K18 : Keep h0 h16 [a1] := K13.wr W16 (Or.inl (List.mem_of_getElem? (i := 0) rfl))
  have Fw16 : Fld Z h16 a1 "java/lang/String" "value" "[B" (.ref t'_3) := f14.same W16
  have N16 := Fr.snoc X16 N11 g_a1
  obtain ⟨fs, hr, hrun, hended, hW, hsame⟩ := X16.leave (v := none) (fun _ => rfl)
  refine ⟨_, _, ?_, hrun, hended, _, _, rfl, ?_, ⟨_, rfl⟩, hW, hsame.mono (by decide) (by decide)⟩
  · show Steps p.tables e below (s₁.setTop (mkF m 0 #[vr a1, vr a2, vi (0 : Int32), vi (1 : Int32), .val .null, .unset] [])) _
    refine XS.aloadN X0.here hx rfl (hb hby d9_0) rfl rfl ?_
    refine st1 _ ?_
    refine XS.iloadN X1.here hx rfl (hb hby d9_4) rfl ?_
    refine XS.ifYes X1.here hx rfl (pc0 := 5) (pc' := 27) rfl (hb hby d9_5) rfl ((if0 _ _).trans (feq (by decide : ¬ ((1 : Int32) = (0 : Int32)))).2) (by decide) (by decide) ?_
    refine st2 _ ?_
    refine XS.ifNo X2.here hx rfl (hb hby d9_30) rfl ((if0 _ _).trans (feq (hCS : ¬ (zcs = (0 : Int32)))).1) ?_
    show Steps p.tables e below (T2.setTop (mkF m 33 #[vr a1, vr a2, vi (0 : Int32), vi (1 : Int32), .val .null, .unset] [])) _
    refine XS.aloadN X2.here hx rfl (hb hby d9_33) rfl rfl ?_
    refine XS.iloadN X2.here hx rfl (hb hby d9_34) rfl ?_
    refine XS.iloadN X2.here hx rfl (hb hby d9_35) rfl ?_
    refine st3 _ ?_
    refine XS.astore X3.here hx rfl (hb hby d9_39) rfl rfl (l' := #[vr a1, vr a2, vi (0 : Int32), vi (1 : Int32), .val .null, vr t'_3]) rfl ?_
    refine XS.aloadN X3.here hx rfl (hb hby d9_41) rfl rfl ?_
    show Steps p.tables e below (T3.setTop (mkF m 42 #[vr a1, vr a2, vi (0 : Int32), vi (1 : Int32), .val .null, vr t'_3] [(.ref a1)])) _
    refine XS.aload X3.here hx rfl (hb hby d9_42) rfl rfl ?_
    refine XS.iloadN X3.here hx rfl (hb hby d9_44) rfl ?_
    refine st8 _ ?_
    refine st11 _ ?_
    refine XS.aloadN X11.here hx rfl (hb hby d9_51) rfl rfl ?_
    refine XS.aload X11.here hx rfl (hb hby d9_52) rfl rfl ?_
    show Steps p.tables e below (T11.setTop (mkF m 54 #[vr a1, vr a2, vi (0 : Int32), vi (1 : Int32), .val .null, vr t'_3] [(.ref t'_3), (.ref a1)])) _
    refine st16 _ ?_
    exact X16.returnOut hx Bd.returns (hb hby d9_57) hr
  · have f19 : Exa Z h16 a1 "java/lang/String" := (f15.wr W16)
    have f20 : Fld Z h16 a1 "java/lang/String" "coder" "B" (.int (0 : Int32)) := (Fw11.other W16 (Or.inr (slot_ne (Or.inr (hw _ (List.mem_of_getElem? (i := 52) rfl))) (Or.inr (hw _ (List.mem_of_getElem? (i := 51) rfl))) (by decide) (t := .byte) (t' := (.array .byte)) (by decide) (by decide))))
    have f21 : AV Z h16 t'_3 k'_3 .byte 1 (fun i => Value.int (cf i)) := ((p3_2.other W11 (Ne.symm ne_a1_t'_3)).other W16 (Ne.symm ne_a1_t'_3))
    show Qs4_1 Z a1 a2 zcs k cf h0 n0 _ T16.heap _
    rw [e16]
    exact ⟨t'_3, k'_3, rfl, N16, K18, sz_t'_3, f19, Fw16, f20, f21⟩
theorem d8_0 : decode jdk_42_method_3_code 0 = .ok (.aload_n 0, 1) := by decide +kernel
theorem d8_1 : decode jdk_42_method_3_code 1 = .ok (.aload_n 1, 1) := by decide +kernel
theorem d8_2 : decode jdk_42_method_3_code 2 = .ok (.iconst 0, 1) := by decide +kernel
theorem d8_3 : decode jdk_42_method_3_code 3 = .ok (.aload_n 1, 1) := by decide +kernel
theorem d8_4 : decode jdk_42_method_3_code 4 = .ok (.arraylength, 1) := by decide +kernel
theorem d8_5 : decode jdk_42_method_3_code 5 = .ok (.aconst_null, 1) := by decide +kernel
theorem d8_6 : decode jdk_42_method_3_code 6 = .ok (.invokespecial 27, 3) := by decide +kernel
theorem d8_9 : decode jdk_42_method_3_code 9 = .ok (.return_, 1) := by decide +kernel
theorem pd_14 : parseMethodDescriptor "([CIILjava/lang/Void;)V" = some ⟨[(.array .char), .int, .int, (.object "java/lang/Void")], none⟩ := by decide +kernel
theorem ef_rms1_1 (m : MethodId) (a1 : Addr) (a2 : Addr) : entryFrame m #[(.ref a1), (.ref a2)] 2 = mkF m 0 #[vr a1, vr a2] [] := by first | (simp [entryFrame, mkF, argsToLocals, Value.category]; done) | rfl
def Qs1_1 (Z : State) (a1 : Addr) (a2 : Addr) (zcs : Int32) (k : ClassId) (cf : Nat → Int32) (h0 : Heap) (n0 : Nat) (v : Option Value) (h : Heap) (L : List Loc) : Prop := ∃ (t' : Addr), ∃ (k' : ClassId), v = none ∧ Fr n0 L ∧ Keep h0 h [a1] ∧ h0.size ≤ t' ∧ (Exa Z h a1 "java/lang/String") ∧ (Fld Z h a1 "java/lang/String" "value" "[B" (.ref t')) ∧ (Fld Z h a1 "java/lang/String" "coder" "B" (.int (0 : Int32))) ∧ (AV Z h t' k' .byte 1 (fun i => Value.int (cf i)))
set_option maxRecDepth 65536 in
set_option maxHeartbeats 40000000 in
theorem rms1_1 (l : Launch) (Z : State) (a0 : Array Value) (hw : ∀ d ∈ tables_1, d.before a0 Z = true) (ws : List Jvm.Cond) (a1 : Addr) (a2 : Addr) (zcs : Int32) (k : ClassId) (cf : Nat → Int32) (h0 : Heap) (n0 : Nat) (Z0 : n0 ≤ h0.size) (S_COMPACT_STRINGS : Sta Z h0 "java/lang/String" "COMPACT_STRINGS" "Z" (.int zcs)) (hCS : ¬ zcs = 0) (E_a1 : Exa Z h0 a1 "java/lang/String") (g_a1 : n0 ≤ a1) (F_value_a1 : Fld Z h0 a1 "java/lang/String" "value" "[B" .null) (F_coder_a1 : Fld Z h0 a1 "java/lang/String" "coder" "B" (.int (0 : Int32))) (A_a2 : AV Z h0 a2 k .char 1 (fun i => Value.int (cf i))) (ne_a1_a2 : a1 ≠ a2) (hok : ∀ i, own_ok (cf i)) :
    MetFree l (⟨"java/lang/String", "<init>", "([C)V"⟩ : MethodName) (head1 (Jvm.Cond.code (⟨"java/lang/String", "<init>", "([C)V"⟩ : MethodName) jdk_42_method_3_code 2 none :: ws) ({ frames := 3, cells := 1, slots := 1, locals := 52 } : Room)) (fun a U => a = #[(.ref a1), (.ref a2)] ∧ Z.Warmed39 U.vm ∧ U.heap = h0) (fun _ _ _ _ _ => True) (fun _ U o U' => ∃ v L, o = .returned v ∧ Qs1_1 Z a1 a2 zcs k cf h0 n0 v U'.heap L ∧ FrameEnd U o U' L ({ frames := 3, cells := 1, slots := 1, locals := 52 } : Room).cells ({ frames := 3, cells := 1, slots := 1, locals := 52 } : Room).slots) := by
  refine MetFree.of_bodySF (plainFor_of_name pn_3) hisR ?_
  intro p e s m args below meth c s₁ Bd hml0 hP hK
  obtain ⟨rfl, hZ, hh⟩ := hP
  have hx := Bd.exec
  have hby := Bd.bytes
  have hml : c.maxLocals = 2 := hml0
  have hown : s.vm.findClass "java/lang/String" = some m.cls := findClass_of_methodNamed Bd.named
  have hnm := (name_of_methodNamed Bd.named Bd.method).1
  have X0 : Stand p l e ({ frames := 3, cells := 1, slots := 1, locals := 52 } : Room) s m #[(.ref a1), (.ref a2)] below meth c s₁ [] 0 0 := Stand.of_body Bd
  have e0 : s₁.heap = h0 := by rw [← hh, Bd.state]; rfl
  have N0 := Fr.nil n0
  show GoalS p.tables e below s ({ frames := 3, cells := 1, slots := 1, locals := 52 } : Room).cells ({ frames := 3, cells := 1, slots := 1, locals := 52 } : Room).slots (Qs1_1 Z a1 a2 zcs k cf h0 n0) (s₁.setTop (entryFrame m #[(.ref a1), (.ref a2)] 2))
  refine GoalS.lift (B := s₁.setTop (mkF m 0 #[vr a1, vr a2] [])) (fun t k => castTop (ef_rms1_1 m a1 a2) k) ?_
  have K0 : Keep h0 h0 [a1] := Keep.refl _ _
  obtain ⟨cl1, Ar1, -, sz1, -, -⟩ := id A_a2
  have le1 : cl1.slots.size.toInt32 = (1 : Int32) := by rw [sz1]; exact rfl
  obtain ⟨_, _, ⟨T2, L2, k2, n2⟩, -, X2, ⟨Lc2, hQ2, l2, y2, z2⟩, st2⟩ := X0.specialBack hx (y := (⟨"java/lang/String", "<init>", "([CIILjava/lang/Void;)V"⟩ : MethodName)) rfl hown (mvT hZ (hw _ (List.mem_of_getElem? (i := 45) rfl))) (mvT hZ (hw _ (List.mem_of_getElem? (i := 46) rfl))) (mvT hZ (hw _ (List.mem_of_getElem? (i := 48) rfl))) (by decide) (backOf (W := 0) (rms4_1 l Z a0 hw [] a1 a2 zcs k cf h0 n0 Z0 S_COMPACT_STRINGS hCS E_a1 g_a1 F_value_a1 F_coder_a1 A_a2 ne_a1_a2 hok) hZ (hw _ (List.mem_of_getElem? (i := 48) rfl)) (hw _ (List.mem_of_getElem? (i := 40) rfl)) (by decide) (by decide)) (g := (mkF m 6 #[vr a1, vr a2] [.null, (.int (1 : Int32)), (.int (0 : Int32)), (.ref a2), (.ref a1)])) rfl (by rw [hml]; rfl) (Steps.refl _) (a := a1) (argsL := [(.ref a2), (.int (0 : Int32)), (.int (1 : Int32)), .null]) (rest := []) (lenOf pd_14 rfl) rfl (by show 2 * 0 + _ ≤ _; exact Nat.le_of_eq rfl) (hb hby d8_6) (fun _ _ => ⟨rfl, e0, (by decide : 0 + 1 ≤ _), (by decide : 0 + 1 ≤ _)⟩)
  dsimp only [Pt.U, Pt.locs, Pt.cells, Pt.slots] at X2 l2 y2 z2 st2 hQ2
  subst y2 z2
  obtain ⟨t'_2, k'_2, rfl, N2q, p2_0, p2_1, p2_2, p2_3, p2_4, p2_5⟩ := hQ2
  have N2 : Fr n0 L2 := by rw [l2]; exact Fr.app N0 N2q
  have ns3 : ∀ x ∈ ([a1] : List Addr), ∀ cell : Cell, h0[x]? = some cell → cell.vm.isStatics = false := (allS (Exa.ns E_a1) all0)
  have z4 : n0 ≤ T2.heap.size := Nat.le_trans Z0 p2_0.1
  have K5 : Keep h0 T2.heap [a1] := K0.trans p2_0 (allS (Or.inl (List.mem_of_getElem? (i := 0) rfl)) all0)
  have ne_a1_t'_2 : a1 ≠ t'_2 := Nat.ne_of_lt (Nat.lt_of_lt_of_le E_a1.lt p2_1)
  have ne_a2_t'_2 : a2 ≠ t'_2 := Nat.ne_of_lt (Nat.lt_of_lt_of_le A_a2.lt p2_1)
  have g_t'_2 : n0 ≤ t'_2 := Nat.le_trans Z0 p2_1
  have sz_t'_2 : h0.size ≤ t'_2 := Nat.le_trans K0.1 p2_1
  obtain ⟨fs, hr, hrun, hended, hW, hsame⟩ := X2.leave (v := none) (fun _ => rfl)
  refine ⟨_, _, ?_, hrun, hended, _, _, rfl, ?_, ⟨_, rfl⟩, hW, hsame.mono (by decide) (by decide)⟩
  · show Steps p.tables e below (s₁.setTop (mkF m 0 #[vr a1, vr a2] [])) _
    refine XS.aloadN X0.here hx rfl (hb hby d8_0) rfl rfl ?_
    refine XS.aloadN X0.here hx rfl (hb hby d8_1) rfl rfl ?_
    refine XS.iconst X0.here hx rfl (hb hby d8_2) ?_
    refine XS.aloadN X0.here hx rfl (hb hby d8_3) rfl rfl ?_
    refine X0.arraylength hx (by rw [e0]; exact Ar1.1) (State.isArrayOf_alike hZ.alike Ar1.2.1) (g := (mkF m 4 #[vr a1, vr a2] [(.ref a2), (.int (0 : Int32)), (.ref a2), (.ref a1)])) rfl rfl (hb hby d8_4) _ ?_
    rw [le1]
    show Steps p.tables e below (s₁.setTop (mkF m 5 #[vr a1, vr a2] [(.int (1 : Int32)), (.int (0 : Int32)), (.ref a2), (.ref a1)])) _
    refine XS.aconstNull X0.here hx rfl (hb hby d8_5) ?_
    refine st2.trans ?_
    exact X2.returnOut hx Bd.returns (hb hby d8_9) hr
  · show Qs1_1 Z a1 a2 zcs k cf h0 n0 _ T2.heap _
    exact ⟨t'_2, k'_2, rfl, N2, K5, sz_t'_2, p2_2, p2_3, p2_4, p2_5⟩
theorem d7_0 : decode method_4_code 0 = .ok (.iload_n 0, 1) := by decide +kernel
theorem d7_1 : decode method_4_code 1 = .ok (.ifCond .ne 14, 3) := by decide +kernel
theorem d7_15 : decode method_4_code 15 = .ok (.iload_n 0, 1) := by decide +kernel
theorem d7_16 : decode method_4_code 16 = .ok (.iconst 1, 1) := by decide +kernel
theorem d7_17 : decode method_4_code 17 = .ok (.if_icmp .ne 18, 3) := by decide +kernel
theorem d7_20 : decode method_4_code 20 = .ok (.new 37, 3) := by decide +kernel
theorem d7_23 : decode method_4_code 23 = .ok (.dup, 1) := by decide +kernel
theorem d7_24 : decode method_4_code 24 = .ok (.iconst 1, 1) := by decide +kernel
theorem d7_25 : decode method_4_code 25 = .ok (.newarray .char, 2) := by decide +kernel
theorem d7_27 : decode method_4_code 27 = .ok (.dup, 1) := by decide +kernel
theorem d7_28 : decode method_4_code 28 = .ok (.iconst 0, 1) := by decide +kernel
theorem d7_29 : decode method_4_code 29 = .ok (.iload_n 1, 1) := by decide +kernel
theorem d7_30 : decode method_4_code 30 = .ok (.castore, 1) := by decide +kernel
theorem d7_31 : decode method_4_code 31 = .ok (.invokespecial 39, 3) := by decide +kernel
theorem d7_34 : decode method_4_code 34 = .ok (.areturn, 1) := by decide +kernel
theorem pn_6 : plainName "com/example/verdict/verdict/saml/XmlScannerSkipPinLaw" = true := by first | (simp [plainName, overriddenIn]; done) | decide +kernel
theorem pd_15 : parseMethodDescriptor "([C)V" = some ⟨[(.array .char)], none⟩ := by decide +kernel
theorem ef_rmmk1 (m : MethodId) (p2 : Int32) (p3 : Int32) (p4 : Int32) : entryFrame m #[(.int (1 : Int32)), (.int p2), (.int p3), (.int p4)] 4 = mkF m 0 #[vi (1 : Int32), vi p2, vi p3, vi p4] [] := by first | (simp [entryFrame, mkF, argsToLocals, Value.category]; done) | rfl
def Qmk1 (Z : State) (p2 : Int32) (p3 : Int32) (p4 : Int32) (zcs : Int32) (h0 : Heap) (n0 : Nat) (v : Option Value) (h : Heap) (L : List Loc) : Prop := ∃ (x' : Addr), ∃ (t' : Addr), ∃ (k' : ClassId), v = some (.ref x') ∧ Fr n0 L ∧ Keep h0 h [] ∧ h0.size ≤ x' ∧ h0.size ≤ t' ∧ x' ≠ t' ∧ (Exa Z h x' "java/lang/String") ∧ (Fld Z h x' "java/lang/String" "value" "[B" (.ref t')) ∧ (Fld Z h x' "java/lang/String" "coder" "B" (.int (0 : Int32))) ∧ (AV Z h t' k' .byte 1 (fun i => Value.int ((own_s3 p2 p3 p4) i)))
set_option maxRecDepth 65536 in
set_option maxHeartbeats 40000000 in
theorem rmmk1 (l : Launch) (Z : State) (a0 : Array Value) (hw : ∀ d ∈ tables_1, d.before a0 Z = true) (ws : List Jvm.Cond) (p2 : Int32) (p3 : Int32) (p4 : Int32) (zcs : Int32) (h0 : Heap) (n0 : Nat) (Z0 : n0 ≤ h0.size) (S_COMPACT_STRINGS : Sta Z h0 "java/lang/String" "COMPACT_STRINGS" "Z" (.int zcs)) (hCS : ¬ zcs = 0) (ok2 : own_ok p2) (ok3 : own_ok p3) (ok4 : own_ok p4) :
    MetFree l (⟨"com/example/verdict/verdict/saml/XmlScannerSkipPinLaw", "make", "(ICCC)Ljava/lang/String;"⟩ : MethodName) (head1 (Jvm.Cond.code (⟨"com/example/verdict/verdict/saml/XmlScannerSkipPinLaw", "make", "(ICCC)Ljava/lang/String;"⟩ : MethodName) method_4_code 4 (some (.object "java/lang/String")) :: ws) ({ frames := 4, cells := 3, slots := 6, locals := 66 } : Room)) (fun a U => a = #[(.int (1 : Int32)), (.int p2), (.int p3), (.int p4)] ∧ Z.Warmed39 U.vm ∧ U.heap = h0) (fun _ _ _ _ _ => True) (fun _ U o U' => ∃ v L, o = .returned v ∧ Qmk1 Z p2 p3 p4 zcs h0 n0 v U'.heap L ∧ FrameEnd U o U' L ({ frames := 4, cells := 3, slots := 6, locals := 66 } : Room).cells ({ frames := 4, cells := 3, slots := 6, locals := 66 } : Room).slots) := by
  refine MetFree.of_bodySF (plainFor_of_name pn_6) hisR ?_
  intro p e s m args below meth c s₁ Bd hml0 hP hK
  obtain ⟨rfl, hZ, hh⟩ := hP
  have hx := Bd.exec
  have hby := Bd.bytes
  have hml : c.maxLocals = 4 := hml0
  have hown : s.vm.findClass "com/example/verdict/verdict/saml/XmlScannerSkipPinLaw" = some m.cls := findClass_of_methodNamed Bd.named
  have hnm := (name_of_methodNamed Bd.named Bd.method).1
  have X0 : Stand p l e ({ frames := 4, cells := 3, slots := 6, locals := 66 } : Room) s m #[(.int (1 : Int32)), (.int p2), (.int p3), (.int p4)] below meth c s₁ [] 0 0 := Stand.of_body Bd
  have e0 : s₁.heap = h0 := by rw [← hh, Bd.state]; rfl
  have N0 := Fr.nil n0
  show GoalS p.tables e below s ({ frames := 4, cells := 3, slots := 6, locals := 66 } : Room).cells ({ frames := 4, cells := 3, slots := 6, locals := 66 } : Room).slots (Qmk1 Z p2 p3 p4 zcs h0 n0) (s₁.setTop (entryFrame m #[(.int (1 : Int32)), (.int p2), (.int p3), (.int p4)] 4))
  refine GoalS.lift (B := s₁.setTop (mkF m 0 #[vi (1 : Int32), vi p2, vi p3, vi p4] [])) (fun t k => castTop (ef_rmmk1 m p2 p3 p4) k) ?_
  have K0 : Keep h0 h0 [] := Keep.refl _ _
  obtain ⟨T1, h1, X1, e1, E1, A1, D1, -, st1⟩ := newO X0 hx hZ hown (hw _ (List.mem_of_getElem? (i := 38) rfl)) (hw _ (List.mem_of_getElem? (i := 39) rfl)) (hw _ (List.mem_of_getElem? (i := 40) rfl)) e0 (g := (mkF m 20 #[vi (1 : Int32), vi p2, vi p3, vi p4] [])) rfl (hb hby d7_20) (by decide) (by decide)
  obtain ⟨b1, g1⟩ : ∃ z, z = h0.size := ⟨_, rfl⟩
  rw [← g1] at A1 D1 st1
  have g_b1 : n0 ≤ b1 := Nat.le_trans Z0 (Nat.le_of_eq g1.symm)
  have sz_b1 : h0.size ≤ b1 := Nat.le_trans K0.1 (Nat.le_of_eq g1.symm)
  have z2 : n0 ≤ h1.size := Nat.le_trans Z0 E1.1
  have K3 : Keep h0 h1 [] := K0.ext E1
  have F_value_b1 : Fld Z h1 b1 "java/lang/String" "value" "[B" .null := D1 (Or.inr (hw _ (List.mem_of_getElem? (i := 51) rfl))) (ty := (.array .byte)) (by decide)
  have F_coder_b1 : Fld Z h1 b1 "java/lang/String" "coder" "B" (.int (0 : Int32)) := D1 (Or.inr (hw _ (List.mem_of_getElem? (i := 52) rfl))) (ty := .byte) (by decide)
  obtain ⟨T4, h4, k4, X4, e4, E4, A4, st4⟩ := newP X1 hx hZ (hw _ (List.mem_of_getElem? (i := 41) rfl)) e1 (g := (mkF m 25 #[vi (1 : Int32), vi p2, vi p3, vi p4] [(.int (1 : Int32)), (.ref b1), (.ref b1)])) rfl (hb hby d7_25) rfl (by decide) (cap := 1) (by decide) (by decide) (by decide) (by decide)
  obtain ⟨b4, g4⟩ : ∃ z, z = h1.size := ⟨_, rfl⟩
  rw [← g4] at A4 st4
  have g_b4 : n0 ≤ b4 := Nat.le_trans z2 (Nat.le_of_eq g4.symm)
  have sz_b4 : h0.size ≤ b4 := Nat.le_trans K3.1 (Nat.le_of_eq g4.symm)
  have ne_b1_b4 : b1 ≠ b4 := Nat.ne_of_lt (Nat.lt_of_lt_of_le A1.lt (Nat.le_of_eq g4.symm))
  have z5 : n0 ≤ h4.size := Nat.le_trans z2 E4.1
  have K6 : Keep h0 h4 [] := K3.ext E4
  have V4 : AV Z h4 b4 k4 .char 1 (fun i => Value.int ((fun _ => (0 : Int32)) i)) := AV.new A4 (by decide) (by decide) (by decide)
  obtain ⟨cl7, Ar7, kc7, sz7, -, -⟩ := id V4
  have hin7 : ¬ ((0 : Int32) < 0 ∨ cl7.slots.size ≤ ((0 : Int32)).toNatClampNeg) := AV.inb sz7 (show ¬ (0 : Int32) < 0 ∧ ((0 : Int32)).toNatClampNeg < 1 by decide)
  obtain ⟨T7, h7, X7, e7, W7, st7⟩ := stC X4 hx hZ e4 Ar7 (j := (0 : Int32)) hin7 (g := (mkF m 30 #[vi (1 : Int32), vi p2, vi p3, vi p4] [(.int p2), (.int (0 : Int32)), (.ref b4), (.ref b4), (.ref b1), (.ref b1)])) rfl rfl (hb hby d7_30)
  have z8 : n0 ≤ h7.size := Nat.le_trans z5 (Keep.of_wr W7).1
  have K9 : Keep h0 h7 [] := K6.wr W7 (Or.inr sz_b4)
  have V7 : AV Z h7 b4 k4 .char 1 (fun i => Value.int ((updI (fun _ => (0 : Int32)) 0 (p2).toUInt32.toUInt16.toUInt32.toInt32) i)) := AV.putI V4 W7 (AV.inx (show ¬ (0 : Int32) < 0 ∧ ((0 : Int32)).toNatClampNeg < 1 by decide))
  have N7 := Fr.snoc X7 N0 g_b4
  have V10 : AV Z h7 b4 k4 .char 1 (fun i => Value.int ((own_s3 p2 p3 p4) i)) := (AV.conv V7 (fun i hi => congrArg Value.int (match i, hi with | 0, _ => own_u16 ok2 | i + 1, hi => absurd hi (by omega))))
  have f12 : Sta Z h7 "java/lang/String" "COMPACT_STRINGS" "Z" (.int zcs) := (((S_COMPACT_STRINGS.ext E1).ext E4).wr W7)
  have f13 : Exa Z h7 b1 "java/lang/String" := ((A1.ext E4).wr W7)
  have f14 : Fld Z h7 b1 "java/lang/String" "value" "[B" .null := ((F_value_b1.ext E4).other W7 (Or.inl ne_b1_b4))
  have f15 : Fld Z h7 b1 "java/lang/String" "coder" "B" (.int (0 : Int32)) := ((F_coder_b1.ext E4).other W7 (Or.inl ne_b1_b4))
  obtain ⟨_, _, ⟨T11, L11, k11, n11⟩, -, X11, ⟨Lc11, hQ11, l11, y11, z11⟩, st11⟩ := X7.specialBack hx (y := (⟨"java/lang/String", "<init>", "([C)V"⟩ : MethodName)) rfl hown (mvT hZ (hw _ (List.mem_of_getElem? (i := 42) rfl))) (mvT hZ (hw _ (List.mem_of_getElem? (i := 43) rfl))) (mvT hZ (hw _ (List.mem_of_getElem? (i := 44) rfl))) (by decide) (backOf (W := 1) (rms1_1 l Z a0 hw [] b1 b4 zcs k4 (own_s3 p2 p3 p4) h7 n0 z8 f12 hCS f13 g_b1 f14 f15 V10 ne_b1_b4 (own_s3ok ok2 ok3 ok4)) hZ (hw _ (List.mem_of_getElem? (i := 44) rfl)) (hw _ (List.mem_of_getElem? (i := 40) rfl)) (by decide) (by decide)) (g := (mkF m 31 #[vi (1 : Int32), vi p2, vi p3, vi p4] [(.ref b4), (.ref b1), (.ref b1)])) rfl (by rw [hml]; rfl) (Steps.refl _) (a := b1) (argsL := [(.ref b4)]) (rest := [(.ref b1)]) (lenOf pd_15 rfl) rfl (by show 2 * 0 + _ ≤ _; exact Nat.le_of_eq rfl) (hb hby d7_31) (fun _ _ => ⟨rfl, e7, (by decide : 2 + 1 ≤ _), (by decide : 5 + 1 ≤ _)⟩)
  dsimp only [Pt.U, Pt.locs, Pt.cells, Pt.slots] at X11 l11 y11 z11 st11 hQ11
  subst y11 z11
  obtain ⟨t'_11, k'_11, rfl, N11q, p11_0, p11_1, p11_2, p11_3, p11_4, p11_5⟩ := hQ11
  have N11 : Fr n0 L11 := by rw [l11]; exact Fr.app N7 N11q
  have ns16 : ∀ x ∈ ([b1] : List Addr), ∀ cell : Cell, h7[x]? = some cell → cell.vm.isStatics = false := (allS (Exa.ns f13) all0)
  have z17 : n0 ≤ T11.heap.size := Nat.le_trans z8 p11_0.1
  have K18 : Keep h0 T11.heap [] := K9.trans p11_0 (allS (Or.inr sz_b1) all0)
  have ne_b1_t'_11 : b1 ≠ t'_11 := Nat.ne_of_lt (Nat.lt_of_lt_of_le f13.lt p11_1)
  have ne_b4_t'_11 : b4 ≠ t'_11 := Nat.ne_of_lt (Nat.lt_of_lt_of_le V10.lt p11_1)
  have g_t'_11 : n0 ≤ t'_11 := Nat.le_trans z8 p11_1
  have sz_t'_11 : h0.size ≤ t'_11 := Nat.le_trans K9.1 p11_1
  obtain ⟨fs, hr, hrun, hended, hW, hsame⟩ := X11.leave (v := some (.ref b1)) (fun h => by rw [Bd.returns] at h; cases h)
  refine ⟨_, _, ?_, hrun, hended, _, _, rfl, ?_, ⟨_, rfl⟩, hW, hsame.mono (by decide) (by decide)⟩
  · show Steps p.tables e below (s₁.setTop (mkF m 0 #[vi (1 : Int32), vi p2, vi p3, vi p4] [])) _
    refine XS.iloadN X0.here hx rfl (hb hby d7_0) rfl ?_
    refine XS.ifYes X0.here hx rfl (pc0 := 1) (pc' := 15) rfl (hb hby d7_1) rfl ((if0 _ _).trans (feq (by decide : ¬ ((1 : Int32) = (0 : Int32)))).2) (by decide) (by decide) ?_
    refine XS.iloadN X0.here hx rfl (hb hby d7_15) rfl ?_
    refine XS.iconst X0.here hx rfl (hb hby d7_16) ?_
    refine XS.icmpNo X0.here hx rfl (hb hby d7_17) rfl ((teq (by decide : (1 : Int32) = (1 : Int32))).2) ?_
    refine st1 _ ?_
    show Steps p.tables e below (T1.setTop (mkF m 23 #[vi (1 : Int32), vi p2, vi p3, vi p4] [(.ref b1)])) _
    refine XS.dup X1.here hx rfl (hb hby d7_23) rfl rfl ?_
    refine XS.iconst X1.here hx rfl (hb hby d7_24) ?_
    refine st4 _ ?_
    refine XS.dup X4.here hx rfl (hb hby d7_27) rfl rfl ?_
    refine XS.iconst X4.here hx rfl (hb hby d7_28) ?_
    refine XS.iloadN X4.here hx rfl (hb hby d7_29) rfl ?_
    show Steps p.tables e below (T4.setTop (mkF m 30 #[vi (1 : Int32), vi p2, vi p3, vi p4] [(.int p2), (.int (0 : Int32)), (.ref b4), (.ref b4), (.ref b1), (.ref b1)])) _
    refine st7 _ ?_
    refine st11.trans ?_
    show Steps p.tables e below (T11.setTop (mkF m 34 #[vi (1 : Int32), vi p2, vi p3, vi p4] [(.ref b1)])) _
    jvm_step X11.here [X11.here.top, hx, (hb hby d7_34), X11.method', Bd.returns, Value.isRef, FieldType.isReference]
    first | (intro acts; rw [hr _ acts rfl rfl rfl]) | rw [hr _ _ rfl rfl rfl]
    exact Steps.refl _
  · show Qmk1 Z p2 p3 p4 zcs h0 n0 _ T11.heap _
    exact ⟨b1, t'_11, k'_11, rfl, N11, K18, sz_b1, sz_t'_11, ne_b1_t'_11, p11_2, p11_3, p11_4, p11_5⟩
theorem ef_rmcf2 (m : MethodId) (a1 : Addr) : entryFrame m #[(.ref a1), (.int (2 : Int32))] 2 = mkF m 0 #[vr a1, vi (2 : Int32)] [] := by first | (simp [entryFrame, mkF, argsToLocals, Value.category]; done) | rfl
def Qcf2 (Z : State) (a1 : Addr) (k : ClassId) (g : Nat → Int32) (h0 : Heap) (n0 : Nat) (v : Option Value) (h : Heap) (L : List Loc) : Prop := v = some (.int (0 : Int32)) ∧ Fr n0 L ∧ h = h0
set_option maxRecDepth 65536 in
set_option maxHeartbeats 40000000 in
theorem rmcf2 (l : Launch) (Z : State) (a0 : Array Value) (hw : ∀ d ∈ tables_1, d.before a0 Z = true) (ws : List Jvm.Cond) (a1 : Addr) (k : ClassId) (g : Nat → Int32) (h0 : Heap) (n0 : Nat) (Z0 : n0 ≤ h0.size) (A_a1 : AV Z h0 a1 k .byte 2 (fun i => Value.int (g i))) :
    MetFree l (⟨"java/lang/StringUTF16", "coderFromArrayLen", "([BI)B"⟩ : MethodName) (head1 (Jvm.Cond.code (⟨"java/lang/StringUTF16", "coderFromArrayLen", "([BI)B"⟩ : MethodName) jdk_52_method_15_code 2 (some .byte) :: ws) ({ frames := 0, cells := 0, slots := 0, locals := 0 } : Room)) (fun a U => a = #[(.ref a1), (.int (2 : Int32))] ∧ Z.Warmed39 U.vm ∧ U.heap = h0) (fun _ _ _ _ _ => True) (fun _ U o U' => ∃ v L, o = .returned v ∧ Qcf2 Z a1 k g h0 n0 v U'.heap L ∧ FrameEnd U o U' L ({ frames := 0, cells := 0, slots := 0, locals := 0 } : Room).cells ({ frames := 0, cells := 0, slots := 0, locals := 0 } : Room).slots) := by
  refine MetFree.of_bodySF (plainFor_of_name pn_5) hisR ?_
  intro p e s m args below meth c s₁ Bd hml0 hP hK
  obtain ⟨rfl, hZ, hh⟩ := hP
  have hx := Bd.exec
  have hby := Bd.bytes
  have hml : c.maxLocals = 2 := hml0
  have hown : s.vm.findClass "java/lang/StringUTF16" = some m.cls := findClass_of_methodNamed Bd.named
  have hnm := (name_of_methodNamed Bd.named Bd.method).1
  have X0 : Stand p l e ({ frames := 0, cells := 0, slots := 0, locals := 0 } : Room) s m #[(.ref a1), (.int (2 : Int32))] below meth c s₁ [] 0 0 := Stand.of_body Bd
  have e0 : s₁.heap = h0 := by rw [← hh, Bd.state]; rfl
  have N0 := Fr.nil n0
  show GoalS p.tables e below s ({ frames := 0, cells := 0, slots := 0, locals := 0 } : Room).cells ({ frames := 0, cells := 0, slots := 0, locals := 0 } : Room).slots (Qcf2 Z a1 k g h0 n0) (s₁.setTop (entryFrame m #[(.ref a1), (.int (2 : Int32))] 2))
  refine GoalS.lift (B := s₁.setTop (mkF m 0 #[vr a1, vi (2 : Int32)] [])) (fun t k => castTop (ef_rmcf2 m a1) k) ?_
  have K0 : Keep h0 h0 [] := Keep.refl _ _
  obtain ⟨cl1, Ar1, -, sz1, -, -⟩ := id A_a1
  have le1 : cl1.slots.size.toInt32 = (2 : Int32) := by rw [sz1]; exact rfl
  obtain ⟨fs, hr, hrun, hended, hW, hsame⟩ := X0.leave (v := some (.int ((((0 : Int32)).toInt8.toInt32)).toInt8.toInt32)) (fun h => by rw [Bd.returns] at h; cases h)
  refine ⟨_, _, ?_, hrun, hended, _, _, rfl, ?_, ⟨_, rfl⟩, hW, hsame.mono (by decide) (by decide)⟩
  · show Steps p.tables e below (s₁.setTop (mkF m 0 #[vr a1, vi (2 : Int32)] [])) _
    refine XS.iloadN X0.here hx rfl (hb hby d18_0) rfl ?_
    refine XS.aloadN X0.here hx rfl (hb hby d18_1) rfl rfl ?_
    refine X0.arraylength hx (by rw [e0]; exact Ar1.1) (State.isArrayOf_alike hZ.alike Ar1.2.1) (g := (mkF m 2 #[vr a1, vi (2 : Int32)] [(.ref a1), (.int (2 : Int32))])) rfl rfl (hb hby d18_2) _ ?_
    rw [le1]
    refine XS.isub X0.here hx rfl (hb hby d18_3) rfl ?_
    refine XS.bipush X0.here hx rfl (hb hby d18_4) ?_
    show Steps p.tables e below (s₁.setTop (mkF m 6 #[vr a1, vi (2 : Int32)] [(.int (31 : Int32)), (.int (0 : Int32))])) _
    refine XS.iushr X0.here hx rfl (hb hby d18_6) rfl ?_
    refine XS.i2b X0.here hx rfl (hb hby d18_7) rfl ?_
    exact retN X0 hx (t := .byte) Bd.returns (by simp) (hb hby d18_8) hr
  · show Qcf2 Z a1 k g h0 n0 _ s₁.heap _
    exact ⟨(congrArg (fun z => some (Value.int z)) (by decide)), N0, e0⟩
theorem ef_rmz5_2 (m : MethodId) (a1 : Addr) (a3 : Addr) : entryFrame m #[(.ref a1), (.int (0 : Int32)), (.ref a3), (.int (0 : Int32)), (.int (2 : Int32))] 7 = mkF m 0 #[vr a1, vi (0 : Int32), vr a3, vi (0 : Int32), vi (2 : Int32), .unset, .unset] [] := by first | (simp [entryFrame, mkF, argsToLocals, Value.category]; done) | rfl
def Qz5_2 (Z : State) (a1 : Addr) (a3 : Addr) (k : ClassId) (k3 : ClassId) (cf : Nat → Int32) (g : Nat → Int32) (h0 : Heap) (n0 : Nat) (v : Option Value) (h : Heap) (L : List Loc) : Prop := v = some (.int (2 : Int32)) ∧ Fr n0 L ∧ Keep h0 h [a3] ∧ (AV Z h a3 k3 .byte 2 (fun i => Value.int (cf i)))
set_option maxRecDepth 65536 in
set_option maxHeartbeats 40000000 in
theorem rmz5_2 (l : Launch) (Z : State) (a0 : Array Value) (hw : ∀ d ∈ tables_1, d.before a0 Z = true) (ws : List Jvm.Cond) (a1 : Addr) (a3 : Addr) (k : ClassId) (k3 : ClassId) (cf : Nat → Int32) (g : Nat → Int32) (h0 : Heap) (n0 : Nat) (Z0 : n0 ≤ h0.size) (A_a1 : AV Z h0 a1 k .char 2 (fun i => Value.int (cf i))) (A_a3 : AV Z h0 a3 k3 .byte 2 (fun i => Value.int (g i))) (ne_a1_a3 : a1 ≠ a3) (g_a3 : n0 ≤ a3) (hok : ∀ i, own_ok (cf i)) :
    MetFree l (⟨"java/lang/StringUTF16", "compress", "([CI[BII)I"⟩ : MethodName) (head1 (Jvm.Cond.code (⟨"java/lang/StringUTF16", "compress", "([CI[BII)I"⟩ : MethodName) jdk_52_method_21_code 7 (some .int) :: ws) ({ frames := 0, cells := 0, slots := 0, locals := 0 } : Room)) (fun a U => a = #[(.ref a1), (.int (0 : Int32)), (.ref a3), (.int (0 : Int32)), (.int (2 : Int32))] ∧ Z.Warmed39 U.vm ∧ U.heap = h0) (fun _ _ _ _ _ => True) (fun _ U o U' => ∃ v L, o = .returned v ∧ Qz5_2 Z a1 a3 k k3 cf g h0 n0 v U'.heap L ∧ FrameEnd U o U' L ({ frames := 0, cells := 0, slots := 0, locals := 0 } : Room).cells ({ frames := 0, cells := 0, slots := 0, locals := 0 } : Room).slots) := by
  refine MetFree.of_bodySF (plainFor_of_name pn_5) hisR ?_
  intro p e s m args below meth c s₁ Bd hml0 hP hK
  obtain ⟨rfl, hZ, hh⟩ := hP
  have hx := Bd.exec
  have hby := Bd.bytes
  have hml : c.maxLocals = 7 := hml0
  have hown : s.vm.findClass "java/lang/StringUTF16" = some m.cls := findClass_of_methodNamed Bd.named
  have hnm := (name_of_methodNamed Bd.named Bd.method).1
  have X0 : Stand p l e ({ frames := 0, cells := 0, slots := 0, locals := 0 } : Room) s m #[(.ref a1), (.int (0 : Int32)), (.ref a3), (.int (0 : Int32)), (.int (2 : Int32))] below meth c s₁ [] 0 0 := Stand.of_body Bd
  have e0 : s₁.heap = h0 := by rw [← hh, Bd.state]; rfl
  have N0 := Fr.nil n0
  show GoalS p.tables e below s ({ frames := 0, cells := 0, slots := 0, locals := 0 } : Room).cells ({ frames := 0, cells := 0, slots := 0, locals := 0 } : Room).slots (Qz5_2 Z a1 a3 k k3 cf g h0 n0) (s₁.setTop (entryFrame m #[(.ref a1), (.int (0 : Int32)), (.ref a3), (.int (0 : Int32)), (.int (2 : Int32))] 7))
  refine GoalS.lift (B := s₁.setTop (mkF m 0 #[vr a1, vi (0 : Int32), vr a3, vi (0 : Int32), vi (2 : Int32), .unset, .unset] [])) (fun t k => castTop (ef_rmz5_2 m a1 a3) k) ?_
  have K0 : Keep h0 h0 [a3] := Keep.refl _ _
  obtain ⟨cl1, Ar1, kc1, sz1, -, hv1⟩ := id A_a1
  have hin1 : ¬ ((0 : Int32) < 0 ∨ cl1.slots.size ≤ ((0 : Int32)).toNatClampNeg) := AV.inb sz1 (show ¬ (0 : Int32) < 0 ∧ ((0 : Int32)).toNatClampNeg < 2 by decide)
  have hat1 : cl1.slots[((0 : Int32)).toNatClampNeg]? = some (.int (cf 0)) := (hv1 _ (AV.inx (show ¬ (0 : Int32) < 0 ∧ ((0 : Int32)).toNatClampNeg < 2 by decide))).trans (congrArg some rfl)
  obtain ⟨cl2, Ar2, kc2, sz2, -, -⟩ := id A_a3
  have hin2 : ¬ ((0 : Int32) < 0 ∨ cl2.slots.size ≤ ((0 : Int32)).toNatClampNeg) := AV.inb sz2 (show ¬ (0 : Int32) < 0 ∧ ((0 : Int32)).toNatClampNeg < 2 by decide)
  obtain ⟨T2, h2, X2, e2, W2, st2⟩ := stB X0 hx hZ e0 Ar2 (j := (0 : Int32)) hin2 (g := (mkF m 31 #[vr a1, vi (0 : Int32), vr a3, vi (0 : Int32), vi (2 : Int32), vi (0 : Int32), vi (cf 0)] [(.int (((cf 0)).toInt8.toInt32)), (.int (0 : Int32)), (.ref a3)])) rfl rfl (hb hby d17_31)
  have z3 : n0 ≤ h2.size := Nat.le_trans Z0 (Keep.of_wr W2).1
  have K4 : Keep h0 h2 [a3] := K0.wr W2 (Or.inl (List.mem_of_getElem? (i := 0) rfl))
  have V2 : AV Z h2 a3 k3 .byte 2 (fun i => Value.int ((updI g 0 ((((cf 0)).toInt8.toInt32)).toInt8.toInt32) i)) := AV.putI A_a3 W2 (AV.inx (show ¬ (0 : Int32) < 0 ∧ ((0 : Int32)).toNatClampNeg < 2 by decide))
  have N2 := Fr.snoc X2 N0 g_a3
  have f6 : AV Z h2 a1 k .char 2 (fun i => Value.int (cf i)) := (A_a1.other W2 ne_a1_a3)
  obtain ⟨cl5, Ar5, kc5, sz5, -, hv5⟩ := id f6
  have hin5 : ¬ ((1 : Int32) < 0 ∨ cl5.slots.size ≤ ((1 : Int32)).toNatClampNeg) := AV.inb sz5 (show ¬ (1 : Int32) < 0 ∧ ((1 : Int32)).toNatClampNeg < 2 by decide)
  have hat5 : cl5.slots[((1 : Int32)).toNatClampNeg]? = some (.int (cf 1)) := (hv5 _ (AV.inx (show ¬ (1 : Int32) < 0 ∧ ((1 : Int32)).toNatClampNeg < 2 by decide))).trans (congrArg some rfl)
  obtain ⟨cl7, Ar7, kc7, sz7, -, -⟩ := id V2
  have hin7 : ¬ ((1 : Int32) < 0 ∨ cl7.slots.size ≤ ((1 : Int32)).toNatClampNeg) := AV.inb sz7 (show ¬ (1 : Int32) < 0 ∧ ((1 : Int32)).toNatClampNeg < 2 by decide)
  obtain ⟨T7, h7, X7, e7, W7, st7⟩ := stB X2 hx hZ e2 Ar7 (j := (1 : Int32)) hin7 (g := (mkF m 31 #[vr a1, vi (1 : Int32), vr a3, vi (1 : Int32), vi (2 : Int32), vi (1 : Int32), vi (cf 1)] [(.int (((cf 1)).toInt8.toInt32)), (.int (1 : Int32)), (.ref a3)])) rfl rfl (hb hby d17_31)
  have z8 : n0 ≤ h7.size := Nat.le_trans z3 (Keep.of_wr W7).1
  have K9 : Keep h0 h7 [a3] := K4.wr W7 (Or.inl (List.mem_of_getElem? (i := 0) rfl))
  have V7 : AV Z h7 a3 k3 .byte 2 (fun i => Value.int ((updI (updI g 0 ((((cf 0)).toInt8.toInt32)).toInt8.toInt32) 1 ((((cf 1)).toInt8.toInt32)).toInt8.toInt32) i)) := AV.putI V2 W7 (AV.inx (show ¬ (1 : Int32) < 0 ∧ ((1 : Int32)).toNatClampNeg < 2 by decide))
  have N7 := Fr.snoc X7 N2 g_a3
  obtain ⟨fs, hr, hrun, hended, hW, hsame⟩ := X7.leave (v := some (.int (2 : Int32))) (fun h => by rw [Bd.returns] at h; cases h)
  refine ⟨_, _, ?_, hrun, hended, _, _, rfl, ?_, ⟨_, rfl⟩, hW, hsame.mono (by decide) (by decide)⟩
  · show Steps p.tables e below (s₁.setTop (mkF m 0 #[vr a1, vi (0 : Int32), vr a3, vi (0 : Int32), vi (2 : Int32), .unset, .unset] [])) _
    refine XS.iconst X0.here hx rfl (hb hby d17_0) ?_
    refine XS.istore X0.here hx rfl (hb hby d17_1) rfl (l' := #[vr a1, vi (0 : Int32), vr a3, vi (0 : Int32), vi (2 : Int32), vi (0 : Int32), .unset]) rfl ?_
    refine XS.iload X0.here hx rfl (hb hby d17_3) rfl ?_
    refine XS.iload X0.here hx rfl (hb hby d17_5) rfl ?_
    refine XS.icmpNo X0.here hx rfl (hb hby d17_7) rfl ((tlt (by decide : (0 : Int32) < (2 : Int32))).2.1) ?_
    refine XS.aloadN X0.here hx rfl (hb hby d17_10) rfl rfl ?_
    show Steps p.tables e below (s₁.setTop (mkF m 11 #[vr a1, vi (0 : Int32), vr a3, vi (0 : Int32), vi (2 : Int32), vi (0 : Int32), .unset] [(.ref a1)])) _
    refine XS.iloadN X0.here hx rfl (hb hby d17_11) rfl ?_
    refine X0.caload hx (j := (0 : Int32)) (v := (.int (cf 0))) (by rw [e0]; exact Ar1.1) (State.isArrayOf_alike hZ.alike Ar1.2.1) Ar1.2.2 hin1 hat1 (g := (mkF m 12 #[vr a1, vi (0 : Int32), vr a3, vi (0 : Int32), vi (2 : Int32), vi (0 : Int32), .unset] [(.int (0 : Int32)), (.ref a1)])) rfl rfl (hb hby d17_12) _ ?_
    refine XS.istore X0.here hx rfl (hb hby d17_13) rfl (l' := #[vr a1, vi (0 : Int32), vr a3, vi (0 : Int32), vi (2 : Int32), vi (0 : Int32), vi (cf 0)]) rfl ?_
    refine XS.iload X0.here hx rfl (hb hby d17_15) rfl ?_
    refine XS.sipush X0.here hx rfl (hb hby d17_17) ?_
    refine XS.icmpYes X0.here hx rfl (pc0 := 20) (pc' := 26) rfl (hb hby d17_20) rfl ((flt (own_255 (hok 0) : ¬ ((255 : Int32) < (cf 0)))).2.2.2) (by decide) (by decide) ?_
    show Steps p.tables e below (s₁.setTop (mkF m 26 #[vr a1, vi (0 : Int32), vr a3, vi (0 : Int32), vi (2 : Int32), vi (0 : Int32), vi (cf 0)] [])) _
    refine XS.aloadN X0.here hx rfl (hb hby d17_26) rfl rfl ?_
    refine XS.iloadN X0.here hx rfl (hb hby d17_27) rfl ?_
    refine XS.iload X0.here hx rfl (hb hby d17_28) rfl ?_
    refine XS.i2b X0.here hx rfl (hb hby d17_30) rfl ?_
    refine st2 _ ?_
    refine XS.iinc X2.here hx rfl (hb hby d17_32) rfl (l' := #[vr a1, vi (1 : Int32), vr a3, vi (0 : Int32), vi (2 : Int32), vi (0 : Int32), vi (cf 0)]) rfl ?_
    show Steps p.tables e below (T2.setTop (mkF m 35 #[vr a1, vi (1 : Int32), vr a3, vi (0 : Int32), vi (2 : Int32), vi (0 : Int32), vi (cf 0)] [])) _
    refine XS.iinc X2.here hx rfl (hb hby d17_35) rfl (l' := #[vr a1, vi (1 : Int32), vr a3, vi (1 : Int32), vi (2 : Int32), vi (0 : Int32), vi (cf 0)]) rfl ?_
    refine XS.iinc X2.here hx rfl (hb hby d17_38) rfl (l' := #[vr a1, vi (1 : Int32), vr a3, vi (1 : Int32), vi (2 : Int32), vi (1 : Int32), vi (cf 0)]) rfl ?_
    refine XS.goto X2.here hx rfl (pc0 := 41) (pc' := 3) rfl (hb hby d17_41) (by decide) (by decide) ?_
    refine XS.iload X2.here hx rfl (hb hby d17_3) rfl ?_
    refine XS.iload X2.here hx rfl (hb hby d17_5) rfl ?_
    refine XS.icmpNo X2.here hx rfl (hb hby d17_7) rfl ((tlt (by decide : (1 : Int32) < (2 : Int32))).2.1) ?_
    show Steps p.tables e below (T2.setTop (mkF m 10 #[vr a1, vi (1 : Int32), vr a3, vi (1 : Int32), vi (2 : Int32), vi (1 : Int32), vi (cf 0)] [])) _
    refine XS.aloadN X2.here hx rfl (hb hby d17_10) rfl rfl ?_
    refine XS.iloadN X2.here hx rfl (hb hby d17_11) rfl ?_
    refine X2.caload hx (j := (1 : Int32)) (v := (.int (cf 1))) (by rw [e2]; exact Ar5.1) (State.isArrayOf_alike hZ.alike Ar5.2.1) Ar5.2.2 hin5 hat5 (g := (mkF m 12 #[vr a1, vi (1 : Int32), vr a3, vi (1 : Int32), vi (2 : Int32), vi (1 : Int32), vi (cf 0)] [(.int (1 : Int32)), (.ref a1)])) rfl rfl (hb hby d17_12) _ ?_
    refine XS.istore X2.here hx rfl (hb hby d17_13) rfl (l' := #[vr a1, vi (1 : Int32), vr a3, vi (1 : Int32), vi (2 : Int32), vi (1 : Int32), vi (cf 1)]) rfl ?_
    refine XS.iload X2.here hx rfl (hb hby d17_15) rfl ?_
    refine XS.sipush X2.here hx rfl (hb hby d17_17) ?_
    show Steps p.tables e below (T2.setTop (mkF m 20 #[vr a1, vi (1 : Int32), vr a3, vi (1 : Int32), vi (2 : Int32), vi (1 : Int32), vi (cf 1)] [(.int (255 : Int32)), (.int (cf 1))])) _
    refine XS.icmpYes X2.here hx rfl (pc0 := 20) (pc' := 26) rfl (hb hby d17_20) rfl ((flt (own_255 (hok 1) : ¬ ((255 : Int32) < (cf 1)))).2.2.2) (by decide) (by decide) ?_
    refine XS.aloadN X2.here hx rfl (hb hby d17_26) rfl rfl ?_
    refine XS.iloadN X2.here hx rfl (hb hby d17_27) rfl ?_
    refine XS.iload X2.here hx rfl (hb hby d17_28) rfl ?_
    refine XS.i2b X2.here hx rfl (hb hby d17_30) rfl ?_
    refine st7 _ ?_
    show Steps p.tables e below (T7.setTop (mkF m 32 #[vr a1, vi (1 : Int32), vr a3, vi (1 : Int32), vi (2 : Int32), vi (1 : Int32), vi (cf 1)] [])) _
    refine XS.iinc X7.here hx rfl (hb hby d17_32) rfl (l' := #[vr a1, vi (2 : Int32), vr a3, vi (1 : Int32), vi (2 : Int32), vi (1 : Int32), vi (cf 1)]) rfl ?_
    refine XS.iinc X7.here hx rfl (hb hby d17_35) rfl (l' := #[vr a1, vi (2 : Int32), vr a3, vi (2 : Int32), vi (2 : Int32), vi (1 : Int32), vi (cf 1)]) rfl ?_
    refine XS.iinc X7.here hx rfl (hb hby d17_38) rfl (l' := #[vr a1, vi (2 : Int32), vr a3, vi (2 : Int32), vi (2 : Int32), vi (2 : Int32), vi (cf 1)]) rfl ?_
    refine XS.goto X7.here hx rfl (pc0 := 41) (pc' := 3) rfl (hb hby d17_41) (by decide) (by decide) ?_
    refine XS.iload X7.here hx rfl (hb hby d17_3) rfl ?_
    refine XS.iload X7.here hx rfl (hb hby d17_5) rfl ?_
    show Steps p.tables e below (T7.setTop (mkF m 7 #[vr a1, vi (2 : Int32), vr a3, vi (2 : Int32), vi (2 : Int32), vi (2 : Int32), vi (cf 1)] [(.int (2 : Int32)), (.int (2 : Int32))])) _
    refine XS.icmpYes X7.here hx rfl (pc0 := 7) (pc' := 44) rfl (hb hby d17_7) rfl ((flt (by decide : ¬ ((2 : Int32) < (2 : Int32)))).2.1) (by decide) (by decide) ?_
    refine XS.iload X7.here hx rfl (hb hby d17_44) rfl ?_
    exact retI X7 hx Bd.returns (hb hby d17_46) hr
  · show Qz5_2 Z a1 a3 k k3 cf g h0 n0 _ T7.heap _
    rw [e7]
    exact ⟨rfl, N7, K9, (AV.conv V7 (fun i hi => congrArg Value.int (match i, hi with | 0, _ => own_i88 (hok 0) | 1, _ => own_i88 (hok 1) | i + 2, hi => absurd hi (by omega))))⟩
theorem ef_rmz3_2 (m : MethodId) (a1 : Addr) : entryFrame m #[(.ref a1), (.int (0 : Int32)), (.int (2 : Int32))] 6 = mkF m 0 #[vr a1, vi (0 : Int32), vi (2 : Int32), .unset, .unset, .unset] [] := by first | (simp [entryFrame, mkF, argsToLocals, Value.category]; done) | rfl
def Qz3_2 (Z : State) (a1 : Addr) (k : ClassId) (cf : Nat → Int32) (h0 : Heap) (n0 : Nat) (v : Option Value) (h : Heap) (L : List Loc) : Prop := ∃ (t' : Addr), ∃ (k' : ClassId), v = some (.ref t') ∧ Fr n0 L ∧ Keep h0 h [] ∧ h0.size ≤ t' ∧ (AV Z h t' k' .byte 2 (fun i => Value.int (cf i)))
set_option maxRecDepth 65536 in
set_option maxHeartbeats 40000000 in
theorem rmz3_2 (l : Launch) (Z : State) (a0 : Array Value) (hw : ∀ d ∈ tables_1, d.before a0 Z = true) (ws : List Jvm.Cond) (a1 : Addr) (k : ClassId) (cf : Nat → Int32) (h0 : Heap) (n0 : Nat) (Z0 : n0 ≤ h0.size) (A_a1 : AV Z h0 a1 k .char 2 (fun i => Value.int (cf i))) (hok : ∀ i, own_ok (cf i)) :
    MetFree l (⟨"java/lang/StringUTF16", "compress", "([CII)[B"⟩ : MethodName) (head1 (Jvm.Cond.code (⟨"java/lang/StringUTF16", "compress", "([CII)[B"⟩ : MethodName) jdk_52_method_16_code 6 (some (.array .byte)) :: ws) ({ frames := 1, cells := 1, slots := 2, locals := 18 } : Room)) (fun a U => a = #[(.ref a1), (.int (0 : Int32)), (.int (2 : Int32))] ∧ Z.Warmed39 U.vm ∧ U.heap = h0) (fun _ _ _ _ _ => True) (fun _ U o U' => ∃ v L, o = .returned v ∧ Qz3_2 Z a1 k cf h0 n0 v U'.heap L ∧ FrameEnd U o U' L ({ frames := 1, cells := 1, slots := 2, locals := 18 } : Room).cells ({ frames := 1, cells := 1, slots := 2, locals := 18 } : Room).slots) := by
  refine MetFree.of_bodySF (plainFor_of_name pn_5) hisR ?_
  intro p e s m args below meth c s₁ Bd hml0 hP hK
  obtain ⟨rfl, hZ, hh⟩ := hP
  have hx := Bd.exec
  have hby := Bd.bytes
  have hml : c.maxLocals = 6 := hml0
  have hown : s.vm.findClass "java/lang/StringUTF16" = some m.cls := findClass_of_methodNamed Bd.named
  have hnm := (name_of_methodNamed Bd.named Bd.method).1
  have X0 : Stand p l e ({ frames := 1, cells := 1, slots := 2, locals := 18 } : Room) s m #[(.ref a1), (.int (0 : Int32)), (.int (2 : Int32))] below meth c s₁ [] 0 0 := Stand.of_body Bd
  have e0 : s₁.heap = h0 := by rw [← hh, Bd.state]; rfl
  have N0 := Fr.nil n0
  show GoalS p.tables e below s ({ frames := 1, cells := 1, slots := 2, locals := 18 } : Room).cells ({ frames := 1, cells := 1, slots := 2, locals := 18 } : Room).slots (Qz3_2 Z a1 k cf h0 n0) (s₁.setTop (entryFrame m #[(.ref a1), (.int (0 : Int32)), (.int (2 : Int32))] 6))
  refine GoalS.lift (B := s₁.setTop (mkF m 0 #[vr a1, vi (0 : Int32), vi (2 : Int32), .unset, .unset, .unset] [])) (fun t k => castTop (ef_rmz3_2 m a1) k) ?_
  have K0 : Keep h0 h0 [] := Keep.refl _ _
  obtain ⟨T1, h1, k1, X1, e1, E1, A1, st1⟩ := newP X0 hx hZ (hw _ (List.mem_of_getElem? (i := 0) rfl)) e0 (g := (mkF m 1 #[vr a1, vi (0 : Int32), vi (2 : Int32), .unset, .unset, .unset] [(.int (2 : Int32))])) rfl (hb hby d16_1) rfl (by decide) (cap := 2) (by decide) (by decide) (by decide) (by decide)
  obtain ⟨b1, g1⟩ : ∃ z, z = h0.size := ⟨_, rfl⟩
  rw [← g1] at A1 st1
  have g_b1 : n0 ≤ b1 := Nat.le_trans Z0 (Nat.le_of_eq g1.symm)
  have sz_b1 : h0.size ≤ b1 := Nat.le_trans K0.1 (Nat.le_of_eq g1.symm)
  have ne_a1_b1 : a1 ≠ b1 := Nat.ne_of_lt (Nat.lt_of_lt_of_le A_a1.lt (Nat.le_of_eq g1.symm))
  have z2 : n0 ≤ h1.size := Nat.le_trans Z0 E1.1
  have K3 : Keep h0 h1 [] := K0.ext E1
  have V1 : AV Z h1 b1 k1 .byte 2 (fun i => Value.int ((fun _ => (0 : Int32)) i)) := AV.new A1 (by decide) (by decide) (by decide)
  have f5 : AV Z h1 a1 k .char 2 (fun i => Value.int (cf i)) := (A_a1.ext E1)
  obtain ⟨_, _, ⟨T4, L4, k4, n4⟩, -, X4, ⟨Lc4, hQ4, l4, y4, z4⟩, st4⟩ := Jvm.LawKit.callS X1 hx (y := (⟨"java/lang/StringUTF16", "compress", "([CI[BII)I"⟩ : MethodName)) hown (mvT hZ (hw _ (List.mem_of_getElem? (i := 91) rfl))) (mvT hZ (hw _ (List.mem_of_getElem? (i := 92) rfl))) (mvT hZ (hw _ (List.mem_of_getElem? (i := 89) rfl))) (mvT hZ (hw _ (List.mem_of_getElem? (i := 93) rfl))) (by decide) (backOf (W := 0) (rmz5_2 l Z a0 hw [] a1 b1 k k1 cf (fun _ => (0 : Int32)) h1 n0 z2 f5 V1 ne_a1_b1 g_b1 hok) hZ (hw _ (List.mem_of_getElem? (i := 93) rfl)) (hw _ (List.mem_of_getElem? (i := 89) rfl)) (by decide) (by decide)) (g := (mkF m 9 #[vr a1, vi (0 : Int32), vi (2 : Int32), vr b1, .unset, .unset] [(.int (2 : Int32)), (.int (0 : Int32)), (.ref b1), (.int (0 : Int32)), (.ref a1)])) rfl (by rw [hml]; rfl) (argsL := [(.ref a1), (.int (0 : Int32)), (.ref b1), (.int (0 : Int32)), (.int (2 : Int32))]) (rest := []) (lenOf pd_11 rfl) rfl (by show 2 * 0 + _ ≤ _; exact Nat.le_of_eq rfl) (hb hby d16_9) (fun _ _ => ⟨rfl, e1, (by decide : 1 + 0 ≤ _), (by decide : 2 + 0 ≤ _)⟩)
  dsimp only [Pt.U, Pt.locs, Pt.cells, Pt.slots] at X4 l4 y4 z4 st4 hQ4
  subst y4 z4
  obtain ⟨rfl, N4q, p4_0, p4_1⟩ := hQ4
  have N4 : Fr n0 L4 := by rw [l4]; exact Fr.app N0 N4q
  have z6 : n0 ≤ T4.heap.size := Nat.le_trans z2 p4_0.1
  have K7 : Keep h0 T4.heap [] := K3.trans p4_0 (allS (Or.inr sz_b1) all0)
  obtain ⟨fs, hr, hrun, hended, hW, hsame⟩ := X4.leave (v := some (.ref b1)) (fun h => by rw [Bd.returns] at h; cases h)
  refine ⟨_, _, ?_, hrun, hended, _, _, rfl, ?_, ⟨_, rfl⟩, hW, hsame.mono (by decide) (by decide)⟩
  · show Steps p.tables e below (s₁.setTop (mkF m 0 #[vr a1, vi (0 : Int32), vi (2 : Int32), .unset, .unset, .unset] [])) _
    refine XS.iloadN X0.here hx rfl (hb hby d16_0) rfl ?_
    refine st1 _ ?_
    refine XS.astoreN X1.here hx rfl (hb hby d16_3) rfl rfl (l' := #[vr a1, vi (0 : Int32), vi (2 : Int32), vr b1, .unset, .unset]) rfl ?_
    refine XS.aloadN X1.here hx rfl (hb hby d16_4) rfl rfl ?_
    refine XS.iloadN X1.here hx rfl (hb hby d16_5) rfl ?_
    refine XS.aloadN X1.here hx rfl (hb hby d16_6) rfl rfl ?_
    show Steps p.tables e below (T1.setTop (mkF m 7 #[vr a1, vi (0 : Int32), vi (2 : Int32), vr b1, .unset, .unset] [(.ref b1), (.int (0 : Int32)), (.ref a1)])) _
    refine XS.iconst X1.here hx rfl (hb hby d16_7) ?_
    refine XS.iloadN X1.here hx rfl (hb hby d16_8) rfl ?_
    refine st4 _ ?_
    refine XS.istore X4.here hx rfl (hb hby d16_12) rfl (l' := #[vr a1, vi (0 : Int32), vi (2 : Int32), vr b1, vi (2 : Int32), .unset]) rfl ?_
    refine XS.iload X4.here hx rfl (hb hby d16_14) rfl ?_
    refine XS.iloadN X4.here hx rfl (hb hby d16_16) rfl ?_
    show Steps p.tables e below (T4.setTop (mkF m 17 #[vr a1, vi (0 : Int32), vi (2 : Int32), vr b1, vi (2 : Int32), .unset] [(.int (2 : Int32)), (.int (2 : Int32))])) _
    refine XS.icmpYes X4.here hx rfl (pc0 := 17) (pc' := 57) rfl (hb hby d16_17) rfl ((teq (by decide : (2 : Int32) = (2 : Int32))).1) (by decide) (by decide) ?_
    refine XS.aloadN X4.here hx rfl (hb hby d16_57) rfl rfl ?_
    show Steps p.tables e below (T4.setTop (mkF m 58 #[vr a1, vi (0 : Int32), vi (2 : Int32), vr b1, vi (2 : Int32), .unset] [(.ref b1)])) _
    jvm_step X4.here [X4.here.top, hx, (hb hby d16_58), X4.method', Bd.returns, Value.isRef, FieldType.isReference]
    first | (intro acts; rw [hr _ acts rfl rfl rfl]) | rw [hr _ _ rfl rfl rfl]
    exact Steps.refl _
  · show Qz3_2 Z a1 k cf h0 n0 _ T4.heap _
    exact ⟨b1, k1, rfl, N4, K7, sz_b1, p4_1⟩
theorem ef_rms4_2 (m : MethodId) (a1 : Addr) (a2 : Addr) : entryFrame m #[(.ref a1), (.ref a2), (.int (0 : Int32)), (.int (2 : Int32)), .null] 6 = mkF m 0 #[vr a1, vr a2, vi (0 : Int32), vi (2 : Int32), .val .null, .unset] [] := by first | (simp [entryFrame, mkF, argsToLocals, Value.category]; done) | rfl
def Qs4_2 (Z : State) (a1 : Addr) (a2 : Addr) (zcs : Int32) (k : ClassId) (cf : Nat → Int32) (h0 : Heap) (n0 : Nat) (v : Option Value) (h : Heap) (L : List Loc) : Prop := ∃ (t' : Addr), ∃ (k' : ClassId), v = none ∧ Fr n0 L ∧ Keep h0 h [a1] ∧ h0.size ≤ t' ∧ (Exa Z h a1 "java/lang/String") ∧ (Fld Z h a1 "java/lang/String" "value" "[B" (.ref t')) ∧ (Fld Z h a1 "java/lang/String" "coder" "B" (.int (0 : Int32))) ∧ (AV Z h t' k' .byte 2 (fun i => Value.int (cf i)))
set_option maxRecDepth 65536 in
set_option maxHeartbeats 40000000 in
theorem rms4_2 (l : Launch) (Z : State) (a0 : Array Value) (hw : ∀ d ∈ tables_1, d.before a0 Z = true) (ws : List Jvm.Cond) (a1 : Addr) (a2 : Addr) (zcs : Int32) (k : ClassId) (cf : Nat → Int32) (h0 : Heap) (n0 : Nat) (Z0 : n0 ≤ h0.size) (S_COMPACT_STRINGS : Sta Z h0 "java/lang/String" "COMPACT_STRINGS" "Z" (.int zcs)) (hCS : ¬ zcs = 0) (E_a1 : Exa Z h0 a1 "java/lang/String") (g_a1 : n0 ≤ a1) (F_value_a1 : Fld Z h0 a1 "java/lang/String" "value" "[B" .null) (F_coder_a1 : Fld Z h0 a1 "java/lang/String" "coder" "B" (.int (0 : Int32))) (A_a2 : AV Z h0 a2 k .char 2 (fun i => Value.int (cf i))) (ne_a1_a2 : a1 ≠ a2) (hok : ∀ i, own_ok (cf i)) :
    MetFree l (⟨"java/lang/String", "<init>", "([CIILjava/lang/Void;)V"⟩ : MethodName) (head1 (Jvm.Cond.code (⟨"java/lang/String", "<init>", "([CIILjava/lang/Void;)V"⟩ : MethodName) jdk_42_method_149_code 6 none :: ws) ({ frames := 2, cells := 1, slots := 2, locals := 35 } : Room)) (fun a U => a = #[(.ref a1), (.ref a2), (.int (0 : Int32)), (.int (2 : Int32)), .null] ∧ Z.Warmed39 U.vm ∧ U.heap = h0) (fun _ _ _ _ _ => True) (fun _ U o U' => ∃ v L, o = .returned v ∧ Qs4_2 Z a1 a2 zcs k cf h0 n0 v U'.heap L ∧ FrameEnd U o U' L ({ frames := 2, cells := 1, slots := 2, locals := 35 } : Room).cells ({ frames := 2, cells := 1, slots := 2, locals := 35 } : Room).slots) := by
  refine MetFree.of_bodySF (plainFor_of_name pn_3) hisR ?_
  intro p e s m args below meth c s₁ Bd hml0 hP hK
  obtain ⟨rfl, hZ, hh⟩ := hP
  have hx := Bd.exec
  have hby := Bd.bytes
  have hml : c.maxLocals = 6 := hml0
  have hown : s.vm.findClass "java/lang/String" = some m.cls := findClass_of_methodNamed Bd.named
  have hnm := (name_of_methodNamed Bd.named Bd.method).1
  have X0 : Stand p l e ({ frames := 2, cells := 1, slots := 2, locals := 35 } : Room) s m #[(.ref a1), (.ref a2), (.int (0 : Int32)), (.int (2 : Int32)), .null] below meth c s₁ [] 0 0 := Stand.of_body Bd
  have e0 : s₁.heap = h0 := by rw [← hh, Bd.state]; rfl
  have N0 := Fr.nil n0
  show GoalS p.tables e below s ({ frames := 2, cells := 1, slots := 2, locals := 35 } : Room).cells ({ frames := 2, cells := 1, slots := 2, locals := 35 } : Room).slots (Qs4_2 Z a1 a2 zcs k cf h0 n0) (s₁.setTop (entryFrame m #[(.ref a1), (.ref a2), (.int (0 : Int32)), (.int (2 : Int32)), .null] 6))
  refine GoalS.lift (B := s₁.setTop (mkF m 0 #[vr a1, vr a2, vi (0 : Int32), vi (2 : Int32), .val .null, .unset] [])) (fun t k => castTop (ef_rms4_2 m a1 a2) k) ?_
  have K0 : Keep h0 h0 [a1] := Keep.refl _ _
  obtain ⟨T1, X1, e1, st1⟩ := initO X0 hx hZ hown (hw _ (List.mem_of_getElem? (i := 49) rfl)) (hw _ (List.mem_of_getElem? (i := 8) rfl)) (hw _ (List.mem_of_getElem? (i := 9) rfl)) e0 (g := (mkF m 1 #[vr a1, vr a2, vi (0 : Int32), vi (2 : Int32), .val .null, .unset] [(.ref a1)])) rfl (by rw [hml]; rfl) rfl (hb hby d9_1) (by decide) (W := 0) (by show 2 * 0 + _ ≤ _; exact Nat.le_of_eq rfl) (by decide)
  obtain ⟨T2, X2, e2, st2⟩ := getS2 X1 hx hZ hown (host := "") (Or.inl (hw _ (List.mem_of_getElem? (i := 81) rfl))) Via.refl e1 S_COMPACT_STRINGS (g := (mkF m 27 #[vr a1, vr a2, vi (0 : Int32), vi (2 : Int32), .val .null, .unset] [])) rfl (hb hby d9_27)
  obtain ⟨_, _, ⟨T3, L3, k3, n3⟩, -, X3, ⟨Lc3, hQ3, l3, y3, z3⟩, st3⟩ := Jvm.LawKit.callS X2 hx (y := (⟨"java/lang/StringUTF16", "compress", "([CII)[B"⟩ : MethodName)) hown (mvT hZ (hw _ (List.mem_of_getElem? (i := 87) rfl))) (mvT hZ (hw _ (List.mem_of_getElem? (i := 88) rfl))) (mvT hZ (hw _ (List.mem_of_getElem? (i := 89) rfl))) (mvT hZ (hw _ (List.mem_of_getElem? (i := 90) rfl))) (by decide) (backOf (W := 0) (rmz3_2 l Z a0 hw [] a2 k cf h0 n0 Z0 A_a2 hok) hZ (hw _ (List.mem_of_getElem? (i := 90) rfl)) (hw _ (List.mem_of_getElem? (i := 89) rfl)) (by decide) (by decide)) (g := (mkF m 36 #[vr a1, vr a2, vi (0 : Int32), vi (2 : Int32), .val .null, .unset] [(.int (2 : Int32)), (.int (0 : Int32)), (.ref a2)])) rfl (by rw [hml]; rfl) (argsL := [(.ref a2), (.int (0 : Int32)), (.int (2 : Int32))]) (rest := []) (lenOf pd_12 rfl) rfl (by show 2 * 0 + _ ≤ _; exact Nat.le_of_eq rfl) (hb hby d9_36) (fun _ _ => ⟨rfl, e2, (by decide : 0 + 1 ≤ _), (by decide : 0 + 2 ≤ _)⟩)
  dsimp only [Pt.U, Pt.locs, Pt.cells, Pt.slots] at X3 l3 y3 z3 st3 hQ3
  subst y3 z3
  obtain ⟨t'_3, k'_3, rfl, N3q, p3_0, p3_1, p3_2⟩ := hQ3
  have N3 : Fr n0 L3 := by rw [l3]; exact Fr.app N0 N3q
  have ns4 : ∀ x ∈ ([] : List Addr), ∀ cell : Cell, h0[x]? = some cell → cell.vm.isStatics = false := all0
  have z5 : n0 ≤ T3.heap.size := Nat.le_trans Z0 p3_0.1
  have K6 : Keep h0 T3.heap [a1] := K0.trans p3_0 all0
  have ne_a1_t'_3 : a1 ≠ t'_3 := Nat.ne_of_lt (Nat.lt_of_lt_of_le E_a1.lt p3_1)
  have ne_a2_t'_3 : a2 ≠ t'_3 := Nat.ne_of_lt (Nat.lt_of_lt_of_le A_a2.lt p3_1)
  have g_t'_3 : n0 ≤ t'_3 := Nat.le_trans Z0 p3_1
  have sz_t'_3 : h0.size ≤ t'_3 := Nat.le_trans K0.1 p3_1
  obtain ⟨_, _, ⟨T8, L8, k8, n8⟩, -, X8, ⟨Lc8, hQ8, l8, y8, z8⟩, st8⟩ := Jvm.LawKit.callS X3 hx (y := (⟨"java/lang/StringUTF16", "coderFromArrayLen", "([BI)B"⟩ : MethodName)) hown (mvT hZ (hw _ (List.mem_of_getElem? (i := 94) rfl))) (mvT hZ (hw _ (List.mem_of_getElem? (i := 95) rfl))) (mvT hZ (hw _ (List.mem_of_getElem? (i := 89) rfl))) (mvT hZ (hw _ (List.mem_of_getElem? (i := 96) rfl))) (by decide) (backOf (W := 1) (rmcf2 l Z a0 hw [] t'_3 k'_3 cf T3.heap n0 z5 p3_2) hZ (hw _ (List.mem_of_getElem? (i := 96) rfl)) (hw _ (List.mem_of_getElem? (i := 89) rfl)) (by decide) (by decide)) (g := (mkF m 45 #[vr a1, vr a2, vi (0 : Int32), vi (2 : Int32), .val .null, vr t'_3] [(.int (2 : Int32)), (.ref t'_3), (.ref a1)])) rfl (by rw [hml]; rfl) (argsL := [(.ref t'_3), (.int (2 : Int32))]) (rest := [(.ref a1)]) (lenOf pd_13 rfl) rfl (by show 2 * 0 + _ ≤ _; exact Nat.le_of_eq rfl) (hb hby d9_45) (fun _ _ => ⟨rfl, rfl, (by decide : 1 + 0 ≤ _), (by decide : 2 + 0 ≤ _)⟩)
  dsimp only [Pt.U, Pt.locs, Pt.cells, Pt.slots] at X8 l8 y8 z8 st8 hQ8
  subst y8 z8
  obtain ⟨rfl, N8q, eq8⟩ := hQ8
  have N8 : Fr n0 L8 := by rw [l8]; exact Fr.app N3 N8q
  have f9 : Fld Z T3.heap a1 "java/lang/String" "coder" "B" (.int (0 : Int32)) := (F_coder_a1.keep p3_0 nin0)
  have f10 : Exa Z T3.heap a1 "java/lang/String" := (E_a1.keep p3_0)
  obtain ⟨T11, h11, X11, e11, W11, st11⟩ := putFN X8 hx hZ hown (hw _ (List.mem_of_getElem? (i := 56) rfl)) Via.refl eq8 f9 f10 (Or.inr ⟨(hw _ (List.mem_of_getElem? (i := 52) rfl)), rfl, hnm⟩) (hw _ (List.mem_of_getElem? (i := 39) rfl)) (ty := .byte) (v' := (.int (0 : Int32))) (by decide) rfl rfl (g := (mkF m 48 #[vr a1, vr a2, vi (0 : Int32), vi (2 : Int32), .val .null, vr t'_3] [(.int (0 : Int32)), (.ref a1)])) rfl rfl (hb hby d9_48)
  have z12 : n0 ≤ h11.size := Nat.le_trans z5 (Keep.of_wr W11).1
  have K13 : Keep h0 h11 [a1] := K6.wr W11 (Or.inl (List.mem_of_getElem? (i := 0) rfl))
  have Fw11 : Fld Z h11 a1 "java/lang/String" "coder" "B" (.int (0 : Int32)) := f9.same W11
  have N11 := Fr.snoc X11 N8 g_a1
  have f14 : Fld Z h11 a1 "java/lang/String" "value" "[B" .null := ((F_value_a1.keep p3_0 nin0).other W11 (Or.inr (slot_ne (Or.inr (hw _ (List.mem_of_getElem? (i := 51) rfl))) (Or.inr (hw _ (List.mem_of_getElem? (i := 52) rfl))) (by decide) (t := (.array .byte)) (t' := .byte) (by decide) (by decide))))
  have f15 : Exa Z h11 a1 "java/lang/String" := (f10.wr W11)
  obtain ⟨T16, h16, X16, e16, W16, st16⟩ := putF X11 hx hZ hown (host := "") (Or.inl (hw _ (List.mem_of_getElem? (i := 55) rfl))) Via.refl e11 f14 f15 (Or.inr ⟨(hw _ (List.mem_of_getElem? (i := 51) rfl)), rfl, hnm⟩) (hw _ (List.mem_of_getElem? (i := 39) rfl)) (ty := (.array .byte)) (by decide) rfl rfl (g := (mkF m 54 #[vr a1, vr a2, vi (0 : Int32), vi (2 : Int32), .val .null, vr t'_3] [(.ref t'_3), (.ref a1)])) rfl rfl (hb hby d9_54)
  have z17 : n0 ≤ h16.size := Nat.le_trans z12 (Keep.of_wr W16).1
  have K18 : Keep h0 h16 [a1] := K13.wr W16 (Or.inl (List.mem_of_getElem? (i := 0) rfl))
  have Fw16 : Fld Z h16 a1 "java/lang/String" "value" "[B" (.ref t'_3) := f14.same W16
  have N16 := Fr.snoc X16 N11 g_a1
  obtain ⟨fs, hr, hrun, hended, hW, hsame⟩ := X16.leave (v := none) (fun _ => rfl)
  refine ⟨_, _, ?_, hrun, hended, _, _, rfl, ?_, ⟨_, rfl⟩, hW, hsame.mono (by decide) (by decide)⟩
  · show Steps p.tables e below (s₁.setTop (mkF m 0 #[vr a1, vr a2, vi (0 : Int32), vi (2 : Int32), .val .null, .unset] [])) _
    refine XS.aloadN X0.here hx rfl (hb hby d9_0) rfl rfl ?_
    refine st1 _ ?_
    refine XS.iloadN X1.here hx rfl (hb hby d9_4) rfl ?_
    refine XS.ifYes X1.here hx rfl (pc0 := 5) (pc' := 27) rfl (hb hby d9_5) rfl ((if0 _ _).trans (feq (by decide : ¬ ((2 : Int32) = (0 : Int32)))).2) (by decide) (by decide) ?_
    refine st2 _ ?_
    refine XS.ifNo X2.here hx rfl (hb hby d9_30) rfl ((if0 _ _).trans (feq (hCS : ¬ (zcs = (0 : Int32)))).1) ?_
    show Steps p.tables e below (T2.setTop (mkF m 33 #[vr a1, vr a2, vi (0 : Int32), vi (2 : Int32), .val .null, .unset] [])) _
    refine XS.aloadN X2.here hx rfl (hb hby d9_33) rfl rfl ?_
    refine XS.iloadN X2.here hx rfl (hb hby d9_34) rfl ?_
    refine XS.iloadN X2.here hx rfl (hb hby d9_35) rfl ?_
    refine st3 _ ?_
    refine XS.astore X3.here hx rfl (hb hby d9_39) rfl rfl (l' := #[vr a1, vr a2, vi (0 : Int32), vi (2 : Int32), .val .null, vr t'_3]) rfl ?_
    refine XS.aloadN X3.here hx rfl (hb hby d9_41) rfl rfl ?_
    show Steps p.tables e below (T3.setTop (mkF m 42 #[vr a1, vr a2, vi (0 : Int32), vi (2 : Int32), .val .null, vr t'_3] [(.ref a1)])) _
    refine XS.aload X3.here hx rfl (hb hby d9_42) rfl rfl ?_
    refine XS.iloadN X3.here hx rfl (hb hby d9_44) rfl ?_
    refine st8 _ ?_
    refine st11 _ ?_
    refine XS.aloadN X11.here hx rfl (hb hby d9_51) rfl rfl ?_
    refine XS.aload X11.here hx rfl (hb hby d9_52) rfl rfl ?_
    show Steps p.tables e below (T11.setTop (mkF m 54 #[vr a1, vr a2, vi (0 : Int32), vi (2 : Int32), .val .null, vr t'_3] [(.ref t'_3), (.ref a1)])) _
    refine st16 _ ?_
    exact X16.returnOut hx Bd.returns (hb hby d9_57) hr
  · have f19 : Exa Z h16 a1 "java/lang/String" := (f15.wr W16)
    have f20 : Fld Z h16 a1 "java/lang/String" "coder" "B" (.int (0 : Int32)) := (Fw11.other W16 (Or.inr (slot_ne (Or.inr (hw _ (List.mem_of_getElem? (i := 52) rfl))) (Or.inr (hw _ (List.mem_of_getElem? (i := 51) rfl))) (by decide) (t := .byte) (t' := (.array .byte)) (by decide) (by decide))))
    have f21 : AV Z h16 t'_3 k'_3 .byte 2 (fun i => Value.int (cf i)) := ((p3_2.other W11 (Ne.symm ne_a1_t'_3)).other W16 (Ne.symm ne_a1_t'_3))
    show Qs4_2 Z a1 a2 zcs k cf h0 n0 _ T16.heap _
    rw [e16]
    exact ⟨t'_3, k'_3, rfl, N16, K18, sz_t'_3, f19, Fw16, f20, f21⟩
theorem ef_rms1_2 (m : MethodId) (a1 : Addr) (a2 : Addr) : entryFrame m #[(.ref a1), (.ref a2)] 2 = mkF m 0 #[vr a1, vr a2] [] := by first | (simp [entryFrame, mkF, argsToLocals, Value.category]; done) | rfl
def Qs1_2 (Z : State) (a1 : Addr) (a2 : Addr) (zcs : Int32) (k : ClassId) (cf : Nat → Int32) (h0 : Heap) (n0 : Nat) (v : Option Value) (h : Heap) (L : List Loc) : Prop := ∃ (t' : Addr), ∃ (k' : ClassId), v = none ∧ Fr n0 L ∧ Keep h0 h [a1] ∧ h0.size ≤ t' ∧ (Exa Z h a1 "java/lang/String") ∧ (Fld Z h a1 "java/lang/String" "value" "[B" (.ref t')) ∧ (Fld Z h a1 "java/lang/String" "coder" "B" (.int (0 : Int32))) ∧ (AV Z h t' k' .byte 2 (fun i => Value.int (cf i)))
set_option maxRecDepth 65536 in
set_option maxHeartbeats 40000000 in
theorem rms1_2 (l : Launch) (Z : State) (a0 : Array Value) (hw : ∀ d ∈ tables_1, d.before a0 Z = true) (ws : List Jvm.Cond) (a1 : Addr) (a2 : Addr) (zcs : Int32) (k : ClassId) (cf : Nat → Int32) (h0 : Heap) (n0 : Nat) (Z0 : n0 ≤ h0.size) (S_COMPACT_STRINGS : Sta Z h0 "java/lang/String" "COMPACT_STRINGS" "Z" (.int zcs)) (hCS : ¬ zcs = 0) (E_a1 : Exa Z h0 a1 "java/lang/String") (g_a1 : n0 ≤ a1) (F_value_a1 : Fld Z h0 a1 "java/lang/String" "value" "[B" .null) (F_coder_a1 : Fld Z h0 a1 "java/lang/String" "coder" "B" (.int (0 : Int32))) (A_a2 : AV Z h0 a2 k .char 2 (fun i => Value.int (cf i))) (ne_a1_a2 : a1 ≠ a2) (hok : ∀ i, own_ok (cf i)) :
    MetFree l (⟨"java/lang/String", "<init>", "([C)V"⟩ : MethodName) (head1 (Jvm.Cond.code (⟨"java/lang/String", "<init>", "([C)V"⟩ : MethodName) jdk_42_method_3_code 2 none :: ws) ({ frames := 3, cells := 1, slots := 2, locals := 52 } : Room)) (fun a U => a = #[(.ref a1), (.ref a2)] ∧ Z.Warmed39 U.vm ∧ U.heap = h0) (fun _ _ _ _ _ => True) (fun _ U o U' => ∃ v L, o = .returned v ∧ Qs1_2 Z a1 a2 zcs k cf h0 n0 v U'.heap L ∧ FrameEnd U o U' L ({ frames := 3, cells := 1, slots := 2, locals := 52 } : Room).cells ({ frames := 3, cells := 1, slots := 2, locals := 52 } : Room).slots) := by
  refine MetFree.of_bodySF (plainFor_of_name pn_3) hisR ?_
  intro p e s m args below meth c s₁ Bd hml0 hP hK
  obtain ⟨rfl, hZ, hh⟩ := hP
  have hx := Bd.exec
  have hby := Bd.bytes
  have hml : c.maxLocals = 2 := hml0
  have hown : s.vm.findClass "java/lang/String" = some m.cls := findClass_of_methodNamed Bd.named
  have hnm := (name_of_methodNamed Bd.named Bd.method).1
  have X0 : Stand p l e ({ frames := 3, cells := 1, slots := 2, locals := 52 } : Room) s m #[(.ref a1), (.ref a2)] below meth c s₁ [] 0 0 := Stand.of_body Bd
  have e0 : s₁.heap = h0 := by rw [← hh, Bd.state]; rfl
  have N0 := Fr.nil n0
  show GoalS p.tables e below s ({ frames := 3, cells := 1, slots := 2, locals := 52 } : Room).cells ({ frames := 3, cells := 1, slots := 2, locals := 52 } : Room).slots (Qs1_2 Z a1 a2 zcs k cf h0 n0) (s₁.setTop (entryFrame m #[(.ref a1), (.ref a2)] 2))
  refine GoalS.lift (B := s₁.setTop (mkF m 0 #[vr a1, vr a2] [])) (fun t k => castTop (ef_rms1_2 m a1 a2) k) ?_
  have K0 : Keep h0 h0 [a1] := Keep.refl _ _
  obtain ⟨cl1, Ar1, -, sz1, -, -⟩ := id A_a2
  have le1 : cl1.slots.size.toInt32 = (2 : Int32) := by rw [sz1]; exact rfl
  obtain ⟨_, _, ⟨T2, L2, k2, n2⟩, -, X2, ⟨Lc2, hQ2, l2, y2, z2⟩, st2⟩ := X0.specialBack hx (y := (⟨"java/lang/String", "<init>", "([CIILjava/lang/Void;)V"⟩ : MethodName)) rfl hown (mvT hZ (hw _ (List.mem_of_getElem? (i := 45) rfl))) (mvT hZ (hw _ (List.mem_of_getElem? (i := 46) rfl))) (mvT hZ (hw _ (List.mem_of_getElem? (i := 48) rfl))) (by decide) (backOf (W := 0) (rms4_2 l Z a0 hw [] a1 a2 zcs k cf h0 n0 Z0 S_COMPACT_STRINGS hCS E_a1 g_a1 F_value_a1 F_coder_a1 A_a2 ne_a1_a2 hok) hZ (hw _ (List.mem_of_getElem? (i := 48) rfl)) (hw _ (List.mem_of_getElem? (i := 40) rfl)) (by decide) (by decide)) (g := (mkF m 6 #[vr a1, vr a2] [.null, (.int (2 : Int32)), (.int (0 : Int32)), (.ref a2), (.ref a1)])) rfl (by rw [hml]; rfl) (Steps.refl _) (a := a1) (argsL := [(.ref a2), (.int (0 : Int32)), (.int (2 : Int32)), .null]) (rest := []) (lenOf pd_14 rfl) rfl (by show 2 * 0 + _ ≤ _; exact Nat.le_of_eq rfl) (hb hby d8_6) (fun _ _ => ⟨rfl, e0, (by decide : 0 + 1 ≤ _), (by decide : 0 + 2 ≤ _)⟩)
  dsimp only [Pt.U, Pt.locs, Pt.cells, Pt.slots] at X2 l2 y2 z2 st2 hQ2
  subst y2 z2
  obtain ⟨t'_2, k'_2, rfl, N2q, p2_0, p2_1, p2_2, p2_3, p2_4, p2_5⟩ := hQ2
  have N2 : Fr n0 L2 := by rw [l2]; exact Fr.app N0 N2q
  have ns3 : ∀ x ∈ ([a1] : List Addr), ∀ cell : Cell, h0[x]? = some cell → cell.vm.isStatics = false := (allS (Exa.ns E_a1) all0)
  have z4 : n0 ≤ T2.heap.size := Nat.le_trans Z0 p2_0.1
  have K5 : Keep h0 T2.heap [a1] := K0.trans p2_0 (allS (Or.inl (List.mem_of_getElem? (i := 0) rfl)) all0)
  have ne_a1_t'_2 : a1 ≠ t'_2 := Nat.ne_of_lt (Nat.lt_of_lt_of_le E_a1.lt p2_1)
  have ne_a2_t'_2 : a2 ≠ t'_2 := Nat.ne_of_lt (Nat.lt_of_lt_of_le A_a2.lt p2_1)
  have g_t'_2 : n0 ≤ t'_2 := Nat.le_trans Z0 p2_1
  have sz_t'_2 : h0.size ≤ t'_2 := Nat.le_trans K0.1 p2_1
  obtain ⟨fs, hr, hrun, hended, hW, hsame⟩ := X2.leave (v := none) (fun _ => rfl)
  refine ⟨_, _, ?_, hrun, hended, _, _, rfl, ?_, ⟨_, rfl⟩, hW, hsame.mono (by decide) (by decide)⟩
  · show Steps p.tables e below (s₁.setTop (mkF m 0 #[vr a1, vr a2] [])) _
    refine XS.aloadN X0.here hx rfl (hb hby d8_0) rfl rfl ?_
    refine XS.aloadN X0.here hx rfl (hb hby d8_1) rfl rfl ?_
    refine XS.iconst X0.here hx rfl (hb hby d8_2) ?_
    refine XS.aloadN X0.here hx rfl (hb hby d8_3) rfl rfl ?_
    refine X0.arraylength hx (by rw [e0]; exact Ar1.1) (State.isArrayOf_alike hZ.alike Ar1.2.1) (g := (mkF m 4 #[vr a1, vr a2] [(.ref a2), (.int (0 : Int32)), (.ref a2), (.ref a1)])) rfl rfl (hb hby d8_4) _ ?_
    rw [le1]
    show Steps p.tables e below (s₁.setTop (mkF m 5 #[vr a1, vr a2] [(.int (2 : Int32)), (.int (0 : Int32)), (.ref a2), (.ref a1)])) _
    refine XS.aconstNull X0.here hx rfl (hb hby d8_5) ?_
    refine st2.trans ?_
    exact X2.returnOut hx Bd.returns (hb hby d8_9) hr
  · show Qs1_2 Z a1 a2 zcs k cf h0 n0 _ T2.heap _
    exact ⟨t'_2, k'_2, rfl, N2, K5, sz_t'_2, p2_2, p2_3, p2_4, p2_5⟩
theorem d7_35 : decode method_4_code 35 = .ok (.iload_n 0, 1) := by decide +kernel
theorem d7_36 : decode method_4_code 36 = .ok (.iconst 2, 1) := by decide +kernel
theorem d7_37 : decode method_4_code 37 = .ok (.if_icmp .ne 22, 3) := by decide +kernel
theorem d7_40 : decode method_4_code 40 = .ok (.new 37, 3) := by decide +kernel
theorem d7_43 : decode method_4_code 43 = .ok (.dup, 1) := by decide +kernel
theorem d7_44 : decode method_4_code 44 = .ok (.iconst 2, 1) := by decide +kernel
theorem d7_45 : decode method_4_code 45 = .ok (.newarray .char, 2) := by decide +kernel
theorem d7_47 : decode method_4_code 47 = .ok (.dup, 1) := by decide +kernel
theorem d7_48 : decode method_4_code 48 = .ok (.iconst 0, 1) := by decide +kernel
theorem d7_49 : decode method_4_code 49 = .ok (.iload_n 1, 1) := by decide +kernel
theorem d7_50 : decode method_4_code 50 = .ok (.castore, 1) := by decide +kernel
theorem d7_51 : decode method_4_code 51 = .ok (.dup, 1) := by decide +kernel
theorem d7_52 : decode method_4_code 52 = .ok (.iconst 1, 1) := by decide +kernel
theorem d7_53 : decode method_4_code 53 = .ok (.iload_n 2, 1) := by decide +kernel
theorem d7_54 : decode method_4_code 54 = .ok (.castore, 1) := by decide +kernel
theorem d7_55 : decode method_4_code 55 = .ok (.invokespecial 39, 3) := by decide +kernel
theorem d7_58 : decode method_4_code 58 = .ok (.areturn, 1) := by decide +kernel
theorem ef_rmmk2 (m : MethodId) (p2 : Int32) (p3 : Int32) (p4 : Int32) : entryFrame m #[(.int (2 : Int32)), (.int p2), (.int p3), (.int p4)] 4 = mkF m 0 #[vi (2 : Int32), vi p2, vi p3, vi p4] [] := by first | (simp [entryFrame, mkF, argsToLocals, Value.category]; done) | rfl
def Qmk2 (Z : State) (p2 : Int32) (p3 : Int32) (p4 : Int32) (zcs : Int32) (h0 : Heap) (n0 : Nat) (v : Option Value) (h : Heap) (L : List Loc) : Prop := ∃ (x' : Addr), ∃ (t' : Addr), ∃ (k' : ClassId), v = some (.ref x') ∧ Fr n0 L ∧ Keep h0 h [] ∧ h0.size ≤ x' ∧ h0.size ≤ t' ∧ x' ≠ t' ∧ (Exa Z h x' "java/lang/String") ∧ (Fld Z h x' "java/lang/String" "value" "[B" (.ref t')) ∧ (Fld Z h x' "java/lang/String" "coder" "B" (.int (0 : Int32))) ∧ (AV Z h t' k' .byte 2 (fun i => Value.int ((own_s3 p2 p3 p4) i)))
set_option maxRecDepth 65536 in
set_option maxHeartbeats 40000000 in
theorem rmmk2 (l : Launch) (Z : State) (a0 : Array Value) (hw : ∀ d ∈ tables_1, d.before a0 Z = true) (ws : List Jvm.Cond) (p2 : Int32) (p3 : Int32) (p4 : Int32) (zcs : Int32) (h0 : Heap) (n0 : Nat) (Z0 : n0 ≤ h0.size) (S_COMPACT_STRINGS : Sta Z h0 "java/lang/String" "COMPACT_STRINGS" "Z" (.int zcs)) (hCS : ¬ zcs = 0) (ok2 : own_ok p2) (ok3 : own_ok p3) (ok4 : own_ok p4) :
    MetFree l (⟨"com/example/verdict/verdict/saml/XmlScannerSkipPinLaw", "make", "(ICCC)Ljava/lang/String;"⟩ : MethodName) (head1 (Jvm.Cond.code (⟨"com/example/verdict/verdict/saml/XmlScannerSkipPinLaw", "make", "(ICCC)Ljava/lang/String;"⟩ : MethodName) method_4_code 4 (some (.object "java/lang/String")) :: ws) ({ frames := 4, cells := 3, slots := 8, locals := 66 } : Room)) (fun a U => a = #[(.int (2 : Int32)), (.int p2), (.int p3), (.int p4)] ∧ Z.Warmed39 U.vm ∧ U.heap = h0) (fun _ _ _ _ _ => True) (fun _ U o U' => ∃ v L, o = .returned v ∧ Qmk2 Z p2 p3 p4 zcs h0 n0 v U'.heap L ∧ FrameEnd U o U' L ({ frames := 4, cells := 3, slots := 8, locals := 66 } : Room).cells ({ frames := 4, cells := 3, slots := 8, locals := 66 } : Room).slots) := by
  refine MetFree.of_bodySF (plainFor_of_name pn_6) hisR ?_
  intro p e s m args below meth c s₁ Bd hml0 hP hK
  obtain ⟨rfl, hZ, hh⟩ := hP
  have hx := Bd.exec
  have hby := Bd.bytes
  have hml : c.maxLocals = 4 := hml0
  have hown : s.vm.findClass "com/example/verdict/verdict/saml/XmlScannerSkipPinLaw" = some m.cls := findClass_of_methodNamed Bd.named
  have hnm := (name_of_methodNamed Bd.named Bd.method).1
  have X0 : Stand p l e ({ frames := 4, cells := 3, slots := 8, locals := 66 } : Room) s m #[(.int (2 : Int32)), (.int p2), (.int p3), (.int p4)] below meth c s₁ [] 0 0 := Stand.of_body Bd
  have e0 : s₁.heap = h0 := by rw [← hh, Bd.state]; rfl
  have N0 := Fr.nil n0
  show GoalS p.tables e below s ({ frames := 4, cells := 3, slots := 8, locals := 66 } : Room).cells ({ frames := 4, cells := 3, slots := 8, locals := 66 } : Room).slots (Qmk2 Z p2 p3 p4 zcs h0 n0) (s₁.setTop (entryFrame m #[(.int (2 : Int32)), (.int p2), (.int p3), (.int p4)] 4))
  refine GoalS.lift (B := s₁.setTop (mkF m 0 #[vi (2 : Int32), vi p2, vi p3, vi p4] [])) (fun t k => castTop (ef_rmmk2 m p2 p3 p4) k) ?_
  have K0 : Keep h0 h0 [] := Keep.refl _ _
  obtain ⟨T1, h1, X1, e1, E1, A1, D1, -, st1⟩ := newO X0 hx hZ hown (hw _ (List.mem_of_getElem? (i := 38) rfl)) (hw _ (List.mem_of_getElem? (i := 39) rfl)) (hw _ (List.mem_of_getElem? (i := 40) rfl)) e0 (g := (mkF m 40 #[vi (2 : Int32), vi p2, vi p3, vi p4] [])) rfl (hb hby d7_40) (by decide) (by decide)
  obtain ⟨b1, g1⟩ : ∃ z, z = h0.size := ⟨_, rfl⟩
  rw [← g1] at A1 D1 st1
  have g_b1 : n0 ≤ b1 := Nat.le_trans Z0 (Nat.le_of_eq g1.symm)
  have sz_b1 : h0.size ≤ b1 := Nat.le_trans K0.1 (Nat.le_of_eq g1.symm)
  have z2 : n0 ≤ h1.size := Nat.le_trans Z0 E1.1
  have K3 : Keep h0 h1 [] := K0.ext E1
  have F_value_b1 : Fld Z h1 b1 "java/lang/String" "value" "[B" .null := D1 (Or.inr (hw _ (List.mem_of_getElem? (i := 51) rfl))) (ty := (.array .byte)) (by decide)
  have F_coder_b1 : Fld Z h1 b1 "java/lang/String" "coder" "B" (.int (0 : Int32)) := D1 (Or.inr (hw _ (List.mem_of_getElem? (i := 52) rfl))) (ty := .byte) (by decide)
  obtain ⟨T4, h4, k4, X4, e4, E4, A4, st4⟩ := newP X1 hx hZ (hw _ (List.mem_of_getElem? (i := 41) rfl)) e1 (g := (mkF m 45 #[vi (2 : Int32), vi p2, vi p3, vi p4] [(.int (2 : Int32)), (.ref b1), (.ref b1)])) rfl (hb hby d7_45) rfl (by decide) (cap := 2) (by decide) (by decide) (by decide) (by decide)
  obtain ⟨b4, g4⟩ : ∃ z, z = h1.size := ⟨_, rfl⟩
  rw [← g4] at A4 st4
  have g_b4 : n0 ≤ b4 := Nat.le_trans z2 (Nat.le_of_eq g4.symm)
  have sz_b4 : h0.size ≤ b4 := Nat.le_trans K3.1 (Nat.le_of_eq g4.symm)
  have ne_b1_b4 : b1 ≠ b4 := Nat.ne_of_lt (Nat.lt_of_lt_of_le A1.lt (Nat.le_of_eq g4.symm))
  have z5 : n0 ≤ h4.size := Nat.le_trans z2 E4.1
  have K6 : Keep h0 h4 [] := K3.ext E4
  have V4 : AV Z h4 b4 k4 .char 2 (fun i => Value.int ((fun _ => (0 : Int32)) i)) := AV.new A4 (by decide) (by decide) (by decide)
  obtain ⟨cl7, Ar7, kc7, sz7, -, -⟩ := id V4
  have hin7 : ¬ ((0 : Int32) < 0 ∨ cl7.slots.size ≤ ((0 : Int32)).toNatClampNeg) := AV.inb sz7 (show ¬ (0 : Int32) < 0 ∧ ((0 : Int32)).toNatClampNeg < 2 by decide)
  obtain ⟨T7, h7, X7, e7, W7, st7⟩ := stC X4 hx hZ e4 Ar7 (j := (0 : Int32)) hin7 (g := (mkF m 50 #[vi (2 : Int32), vi p2, vi p3, vi p4] [(.int p2), (.int (0 : Int32)), (.ref b4), (.ref b4), (.ref b1), (.ref b1)])) rfl rfl (hb hby d7_50)
  have z8 : n0 ≤ h7.size := Nat.le_trans z5 (Keep.of_wr W7).1
  have K9 : Keep h0 h7 [] := K6.wr W7 (Or.inr sz_b4)
  have V7 : AV Z h7 b4 k4 .char 2 (fun i => Value.int ((updI (fun _ => (0 : Int32)) 0 (p2).toUInt32.toUInt16.toUInt32.toInt32) i)) := AV.putI V4 W7 (AV.inx (show ¬ (0 : Int32) < 0 ∧ ((0 : Int32)).toNatClampNeg < 2 by decide))
  have N7 := Fr.snoc X7 N0 g_b4
  obtain ⟨cl10, Ar10, kc10, sz10, -, -⟩ := id V7
  have hin10 : ¬ ((1 : Int32) < 0 ∨ cl10.slots.size ≤ ((1 : Int32)).toNatClampNeg) := AV.inb sz10 (show ¬ (1 : Int32) < 0 ∧ ((1 : Int32)).toNatClampNeg < 2 by decide)
  obtain ⟨T10, h10, X10, e10, W10, st10⟩ := stC X7 hx hZ e7 Ar10 (j := (1 : Int32)) hin10 (g := (mkF m 54 #[vi (2 : Int32), vi p2, vi p3, vi p4] [(.int p3), (.int (1 : Int32)), (.ref b4), (.ref b4), (.ref b1), (.ref b1)])) rfl rfl (hb hby d7_54)
  have z11 : n0 ≤ h10.size := Nat.le_trans z8 (Keep.of_wr W10).1
  have K12 : Keep h0 h10 [] := K9.wr W10 (Or.inr sz_b4)
  have V10 : AV Z h10 b4 k4 .char 2 (fun i => Value.int ((updI (updI (fun _ => (0 : Int32)) 0 (p2).toUInt32.toUInt16.toUInt32.toInt32) 1 (p3).toUInt32.toUInt16.toUInt32.toInt32) i)) := AV.putI V7 W10 (AV.inx (show ¬ (1 : Int32) < 0 ∧ ((1 : Int32)).toNatClampNeg < 2 by decide))
  have N10 := Fr.snoc X10 N7 g_b4
  have V13 : AV Z h10 b4 k4 .char 2 (fun i => Value.int ((own_s3 p2 p3 p4) i)) := (AV.conv V10 (fun i hi => congrArg Value.int (match i, hi with | 0, _ => own_u16 ok2 | 1, _ => own_u16 ok3 | i + 2, hi => absurd hi (by omega))))
  have f15 : Sta Z h10 "java/lang/String" "COMPACT_STRINGS" "Z" (.int zcs) := ((((S_COMPACT_STRINGS.ext E1).ext E4).wr W7).wr W10)
  have f16 : Exa Z h10 b1 "java/lang/String" := (((A1.ext E4).wr W7).wr W10)
  have f17 : Fld Z h10 b1 "java/lang/String" "value" "[B" .null := (((F_value_b1.ext E4).other W7 (Or.inl ne_b1_b4)).other W10 (Or.inl ne_b1_b4))
  have f18 : Fld Z h10 b1 "java/lang/String" "coder" "B" (.int (0 : Int32)) := (((F_coder_b1.ext E4).other W7 (Or.inl ne_b1_b4)).other W10 (Or.inl ne_b1_b4))
  obtain ⟨_, _, ⟨T14, L14, k14, n14⟩, -, X14, ⟨Lc14, hQ14, l14, y14, z14⟩, st14⟩ := X10.specialBack hx (y := (⟨"java/lang/String", "<init>", "([C)V"⟩ : MethodName)) rfl hown (mvT hZ (hw _ (List.mem_of_getElem? (i := 42) rfl))) (mvT hZ (hw _ (List.mem_of_getElem? (i := 43) rfl))) (mvT hZ (hw _ (List.mem_of_getElem? (i := 44) rfl))) (by decide) (backOf (W := 1) (rms1_2 l Z a0 hw [] b1 b4 zcs k4 (own_s3 p2 p3 p4) h10 n0 z11 f15 hCS f16 g_b1 f17 f18 V13 ne_b1_b4 (own_s3ok ok2 ok3 ok4)) hZ (hw _ (List.mem_of_getElem? (i := 44) rfl)) (hw _ (List.mem_of_getElem? (i := 40) rfl)) (by decide) (by decide)) (g := (mkF m 55 #[vi (2 : Int32), vi p2, vi p3, vi p4] [(.ref b4), (.ref b1), (.ref b1)])) rfl (by rw [hml]; rfl) (Steps.refl _) (a := b1) (argsL := [(.ref b4)]) (rest := [(.ref b1)]) (lenOf pd_15 rfl) rfl (by show 2 * 0 + _ ≤ _; exact Nat.le_of_eq rfl) (hb hby d7_55) (fun _ _ => ⟨rfl, e10, (by decide : 2 + 1 ≤ _), (by decide : 6 + 2 ≤ _)⟩)
  dsimp only [Pt.U, Pt.locs, Pt.cells, Pt.slots] at X14 l14 y14 z14 st14 hQ14
  subst y14 z14
  obtain ⟨t'_14, k'_14, rfl, N14q, p14_0, p14_1, p14_2, p14_3, p14_4, p14_5⟩ := hQ14
  have N14 : Fr n0 L14 := by rw [l14]; exact Fr.app N10 N14q
  have ns19 : ∀ x ∈ ([b1] : List Addr), ∀ cell : Cell, h10[x]? = some cell → cell.vm.isStatics = false := (allS (Exa.ns f16) all0)
  have z20 : n0 ≤ T14.heap.size := Nat.le_trans z11 p14_0.1
  have K21 : Keep h0 T14.heap [] := K12.trans p14_0 (allS (Or.inr sz_b1) all0)
  have ne_b1_t'_14 : b1 ≠ t'_14 := Nat.ne_of_lt (Nat.lt_of_lt_of_le f16.lt p14_1)
  have ne_b4_t'_14 : b4 ≠ t'_14 := Nat.ne_of_lt (Nat.lt_of_lt_of_le V13.lt p14_1)
  have g_t'_14 : n0 ≤ t'_14 := Nat.le_trans z11 p14_1
  have sz_t'_14 : h0.size ≤ t'_14 := Nat.le_trans K12.1 p14_1
  obtain ⟨fs, hr, hrun, hended, hW, hsame⟩ := X14.leave (v := some (.ref b1)) (fun h => by rw [Bd.returns] at h; cases h)
  refine ⟨_, _, ?_, hrun, hended, _, _, rfl, ?_, ⟨_, rfl⟩, hW, hsame.mono (by decide) (by decide)⟩
  · show Steps p.tables e below (s₁.setTop (mkF m 0 #[vi (2 : Int32), vi p2, vi p3, vi p4] [])) _
    refine XS.iloadN X0.here hx rfl (hb hby d7_0) rfl ?_
    refine XS.ifYes X0.here hx rfl (pc0 := 1) (pc' := 15) rfl (hb hby d7_1) rfl ((if0 _ _).trans (feq (by decide : ¬ ((2 : Int32) = (0 : Int32)))).2) (by decide) (by decide) ?_
    refine XS.iloadN X0.here hx rfl (hb hby d7_15) rfl ?_
    refine XS.iconst X0.here hx rfl (hb hby d7_16) ?_
    refine XS.icmpYes X0.here hx rfl (pc0 := 17) (pc' := 35) rfl (hb hby d7_17) rfl ((feq (by decide : ¬ ((2 : Int32) = (1 : Int32)))).2) (by decide) (by decide) ?_
    refine XS.iloadN X0.here hx rfl (hb hby d7_35) rfl ?_
    show Steps p.tables e below (s₁.setTop (mkF m 36 #[vi (2 : Int32), vi p2, vi p3, vi p4] [(.int (2 : Int32))])) _
    refine XS.iconst X0.here hx rfl (hb hby d7_36) ?_
    refine XS.icmpNo X0.here hx rfl (hb hby d7_37) rfl ((teq (by decide : (2 : Int32) = (2 : Int32))).2) ?_
    refine st1 _ ?_
    refine XS.dup X1.here hx rfl (hb hby d7_43) rfl rfl ?_
    refine XS.iconst X1.here hx rfl (hb hby d7_44) ?_
    refine st4 _ ?_
    show Steps p.tables e below (T4.setTop (mkF m 47 #[vi (2 : Int32), vi p2, vi p3, vi p4] [(.ref b4), (.ref b1), (.ref b1)])) _
    refine XS.dup X4.here hx rfl (hb hby d7_47) rfl rfl ?_
    refine XS.iconst X4.here hx rfl (hb hby d7_48) ?_
    refine XS.iloadN X4.here hx rfl (hb hby d7_49) rfl ?_
    refine st7 _ ?_
    refine XS.dup X7.here hx rfl (hb hby d7_51) rfl rfl ?_
    refine XS.iconst X7.here hx rfl (hb hby d7_52) ?_
    show Steps p.tables e below (T7.setTop (mkF m 53 #[vi (2 : Int32), vi p2, vi p3, vi p4] [(.int (1 : Int32)), (.ref b4), (.ref b4), (.ref b1), (.ref b1)])) _
    refine XS.iloadN X7.here hx rfl (hb hby d7_53) rfl ?_
    refine st10 _ ?_
    refine st14.trans ?_
    show Steps p.tables e below (T14.setTop (mkF m 58 #[vi (2 : Int32), vi p2, vi p3, vi p4] [(.ref b1)])) _
    jvm_step X14.here [X14.here.top, hx, (hb hby d7_58), X14.method', Bd.returns, Value.isRef, FieldType.isReference]
    first | (intro acts; rw [hr _ acts rfl rfl rfl]) | rw [hr _ _ rfl rfl rfl]
    exact Steps.refl _
  · show Qmk2 Z p2 p3 p4 zcs h0 n0 _ T14.heap _
    exact ⟨b1, t'_14, k'_14, rfl, N14, K21, sz_b1, sz_t'_14, ne_b1_t'_14, p14_2, p14_3, p14_4, p14_5⟩
theorem ef_rmcf3 (m : MethodId) (a1 : Addr) : entryFrame m #[(.ref a1), (.int (3 : Int32))] 2 = mkF m 0 #[vr a1, vi (3 : Int32)] [] := by first | (simp [entryFrame, mkF, argsToLocals, Value.category]; done) | rfl
def Qcf3 (Z : State) (a1 : Addr) (k : ClassId) (g : Nat → Int32) (h0 : Heap) (n0 : Nat) (v : Option Value) (h : Heap) (L : List Loc) : Prop := v = some (.int (0 : Int32)) ∧ Fr n0 L ∧ h = h0
set_option maxRecDepth 65536 in
set_option maxHeartbeats 40000000 in
theorem rmcf3 (l : Launch) (Z : State) (a0 : Array Value) (hw : ∀ d ∈ tables_1, d.before a0 Z = true) (ws : List Jvm.Cond) (a1 : Addr) (k : ClassId) (g : Nat → Int32) (h0 : Heap) (n0 : Nat) (Z0 : n0 ≤ h0.size) (A_a1 : AV Z h0 a1 k .byte 3 (fun i => Value.int (g i))) :
    MetFree l (⟨"java/lang/StringUTF16", "coderFromArrayLen", "([BI)B"⟩ : MethodName) (head1 (Jvm.Cond.code (⟨"java/lang/StringUTF16", "coderFromArrayLen", "([BI)B"⟩ : MethodName) jdk_52_method_15_code 2 (some .byte) :: ws) ({ frames := 0, cells := 0, slots := 0, locals := 0 } : Room)) (fun a U => a = #[(.ref a1), (.int (3 : Int32))] ∧ Z.Warmed39 U.vm ∧ U.heap = h0) (fun _ _ _ _ _ => True) (fun _ U o U' => ∃ v L, o = .returned v ∧ Qcf3 Z a1 k g h0 n0 v U'.heap L ∧ FrameEnd U o U' L ({ frames := 0, cells := 0, slots := 0, locals := 0 } : Room).cells ({ frames := 0, cells := 0, slots := 0, locals := 0 } : Room).slots) := by
  refine MetFree.of_bodySF (plainFor_of_name pn_5) hisR ?_
  intro p e s m args below meth c s₁ Bd hml0 hP hK
  obtain ⟨rfl, hZ, hh⟩ := hP
  have hx := Bd.exec
  have hby := Bd.bytes
  have hml : c.maxLocals = 2 := hml0
  have hown : s.vm.findClass "java/lang/StringUTF16" = some m.cls := findClass_of_methodNamed Bd.named
  have hnm := (name_of_methodNamed Bd.named Bd.method).1
  have X0 : Stand p l e ({ frames := 0, cells := 0, slots := 0, locals := 0 } : Room) s m #[(.ref a1), (.int (3 : Int32))] below meth c s₁ [] 0 0 := Stand.of_body Bd
  have e0 : s₁.heap = h0 := by rw [← hh, Bd.state]; rfl
  have N0 := Fr.nil n0
  show GoalS p.tables e below s ({ frames := 0, cells := 0, slots := 0, locals := 0 } : Room).cells ({ frames := 0, cells := 0, slots := 0, locals := 0 } : Room).slots (Qcf3 Z a1 k g h0 n0) (s₁.setTop (entryFrame m #[(.ref a1), (.int (3 : Int32))] 2))
  refine GoalS.lift (B := s₁.setTop (mkF m 0 #[vr a1, vi (3 : Int32)] [])) (fun t k => castTop (ef_rmcf3 m a1) k) ?_
  have K0 : Keep h0 h0 [] := Keep.refl _ _
  obtain ⟨cl1, Ar1, -, sz1, -, -⟩ := id A_a1
  have le1 : cl1.slots.size.toInt32 = (3 : Int32) := by rw [sz1]; exact rfl
  obtain ⟨fs, hr, hrun, hended, hW, hsame⟩ := X0.leave (v := some (.int ((((0 : Int32)).toInt8.toInt32)).toInt8.toInt32)) (fun h => by rw [Bd.returns] at h; cases h)
  refine ⟨_, _, ?_, hrun, hended, _, _, rfl, ?_, ⟨_, rfl⟩, hW, hsame.mono (by decide) (by decide)⟩
  · show Steps p.tables e below (s₁.setTop (mkF m 0 #[vr a1, vi (3 : Int32)] [])) _
    refine XS.iloadN X0.here hx rfl (hb hby d18_0) rfl ?_
    refine XS.aloadN X0.here hx rfl (hb hby d18_1) rfl rfl ?_
    refine X0.arraylength hx (by rw [e0]; exact Ar1.1) (State.isArrayOf_alike hZ.alike Ar1.2.1) (g := (mkF m 2 #[vr a1, vi (3 : Int32)] [(.ref a1), (.int (3 : Int32))])) rfl rfl (hb hby d18_2) _ ?_
    rw [le1]
    refine XS.isub X0.here hx rfl (hb hby d18_3) rfl ?_
    refine XS.bipush X0.here hx rfl (hb hby d18_4) ?_
    show Steps p.tables e below (s₁.setTop (mkF m 6 #[vr a1, vi (3 : Int32)] [(.int (31 : Int32)), (.int (0 : Int32))])) _
    refine XS.iushr X0.here hx rfl (hb hby d18_6) rfl ?_
    refine XS.i2b X0.here hx rfl (hb hby d18_7) rfl ?_
    exact retN X0 hx (t := .byte) Bd.returns (by simp) (hb hby d18_8) hr
  · show Qcf3 Z a1 k g h0 n0 _ s₁.heap _
    exact ⟨(congrArg (fun z => some (Value.int z)) (by decide)), N0, e0⟩
theorem ef_rmz5_3 (m : MethodId) (a1 : Addr) (a3 : Addr) : entryFrame m #[(.ref a1), (.int (0 : Int32)), (.ref a3), (.int (0 : Int32)), (.int (3 : Int32))] 7 = mkF m 0 #[vr a1, vi (0 : Int32), vr a3, vi (0 : Int32), vi (3 : Int32), .unset, .unset] [] := by first | (simp [entryFrame, mkF, argsToLocals, Value.category]; done) | rfl
def Qz5_3 (Z : State) (a1 : Addr) (a3 : Addr) (k : ClassId) (k3 : ClassId) (cf : Nat → Int32) (g : Nat → Int32) (h0 : Heap) (n0 : Nat) (v : Option Value) (h : Heap) (L : List Loc) : Prop := v = some (.int (3 : Int32)) ∧ Fr n0 L ∧ Keep h0 h [a3] ∧ (AV Z h a3 k3 .byte 3 (fun i => Value.int (cf i)))
set_option maxRecDepth 65536 in
set_option maxHeartbeats 40000000 in
theorem rmz5_3 (l : Launch) (Z : State) (a0 : Array Value) (hw : ∀ d ∈ tables_1, d.before a0 Z = true) (ws : List Jvm.Cond) (a1 : Addr) (a3 : Addr) (k : ClassId) (k3 : ClassId) (cf : Nat → Int32) (g : Nat → Int32) (h0 : Heap) (n0 : Nat) (Z0 : n0 ≤ h0.size) (A_a1 : AV Z h0 a1 k .char 3 (fun i => Value.int (cf i))) (A_a3 : AV Z h0 a3 k3 .byte 3 (fun i => Value.int (g i))) (ne_a1_a3 : a1 ≠ a3) (g_a3 : n0 ≤ a3) (hok : ∀ i, own_ok (cf i)) :
    MetFree l (⟨"java/lang/StringUTF16", "compress", "([CI[BII)I"⟩ : MethodName) (head1 (Jvm.Cond.code (⟨"java/lang/StringUTF16", "compress", "([CI[BII)I"⟩ : MethodName) jdk_52_method_21_code 7 (some .int) :: ws) ({ frames := 0, cells := 0, slots := 0, locals := 0 } : Room)) (fun a U => a = #[(.ref a1), (.int (0 : Int32)), (.ref a3), (.int (0 : Int32)), (.int (3 : Int32))] ∧ Z.Warmed39 U.vm ∧ U.heap = h0) (fun _ _ _ _ _ => True) (fun _ U o U' => ∃ v L, o = .returned v ∧ Qz5_3 Z a1 a3 k k3 cf g h0 n0 v U'.heap L ∧ FrameEnd U o U' L ({ frames := 0, cells := 0, slots := 0, locals := 0 } : Room).cells ({ frames := 0, cells := 0, slots := 0, locals := 0 } : Room).slots) := by
  refine MetFree.of_bodySF (plainFor_of_name pn_5) hisR ?_
  intro p e s m args below meth c s₁ Bd hml0 hP hK
  obtain ⟨rfl, hZ, hh⟩ := hP
  have hx := Bd.exec
  have hby := Bd.bytes
  have hml : c.maxLocals = 7 := hml0
  have hown : s.vm.findClass "java/lang/StringUTF16" = some m.cls := findClass_of_methodNamed Bd.named
  have hnm := (name_of_methodNamed Bd.named Bd.method).1
  have X0 : Stand p l e ({ frames := 0, cells := 0, slots := 0, locals := 0 } : Room) s m #[(.ref a1), (.int (0 : Int32)), (.ref a3), (.int (0 : Int32)), (.int (3 : Int32))] below meth c s₁ [] 0 0 := Stand.of_body Bd
  have e0 : s₁.heap = h0 := by rw [← hh, Bd.state]; rfl
  have N0 := Fr.nil n0
  show GoalS p.tables e below s ({ frames := 0, cells := 0, slots := 0, locals := 0 } : Room).cells ({ frames := 0, cells := 0, slots := 0, locals := 0 } : Room).slots (Qz5_3 Z a1 a3 k k3 cf g h0 n0) (s₁.setTop (entryFrame m #[(.ref a1), (.int (0 : Int32)), (.ref a3), (.int (0 : Int32)), (.int (3 : Int32))] 7))
  refine GoalS.lift (B := s₁.setTop (mkF m 0 #[vr a1, vi (0 : Int32), vr a3, vi (0 : Int32), vi (3 : Int32), .unset, .unset] [])) (fun t k => castTop (ef_rmz5_3 m a1 a3) k) ?_
  have K0 : Keep h0 h0 [a3] := Keep.refl _ _
  obtain ⟨cl1, Ar1, kc1, sz1, -, hv1⟩ := id A_a1
  have hin1 : ¬ ((0 : Int32) < 0 ∨ cl1.slots.size ≤ ((0 : Int32)).toNatClampNeg) := AV.inb sz1 (show ¬ (0 : Int32) < 0 ∧ ((0 : Int32)).toNatClampNeg < 3 by decide)
  have hat1 : cl1.slots[((0 : Int32)).toNatClampNeg]? = some (.int (cf 0)) := (hv1 _ (AV.inx (show ¬ (0 : Int32) < 0 ∧ ((0 : Int32)).toNatClampNeg < 3 by decide))).trans (congrArg some rfl)
  obtain ⟨cl2, Ar2, kc2, sz2, -, -⟩ := id A_a3
  have hin2 : ¬ ((0 : Int32) < 0 ∨ cl2.slots.size ≤ ((0 : Int32)).toNatClampNeg) := AV.inb sz2 (show ¬ (0 : Int32) < 0 ∧ ((0 : Int32)).toNatClampNeg < 3 by decide)
  obtain ⟨T2, h2, X2, e2, W2, st2⟩ := stB X0 hx hZ e0 Ar2 (j := (0 : Int32)) hin2 (g := (mkF m 31 #[vr a1, vi (0 : Int32), vr a3, vi (0 : Int32), vi (3 : Int32), vi (0 : Int32), vi (cf 0)] [(.int (((cf 0)).toInt8.toInt32)), (.int (0 : Int32)), (.ref a3)])) rfl rfl (hb hby d17_31)
  have z3 : n0 ≤ h2.size := Nat.le_trans Z0 (Keep.of_wr W2).1
  have K4 : Keep h0 h2 [a3] := K0.wr W2 (Or.inl (List.mem_of_getElem? (i := 0) rfl))
  have V2 : AV Z h2 a3 k3 .byte 3 (fun i => Value.int ((updI g 0 ((((cf 0)).toInt8.toInt32)).toInt8.toInt32) i)) := AV.putI A_a3 W2 (AV.inx (show ¬ (0 : Int32) < 0 ∧ ((0 : Int32)).toNatClampNeg < 3 by decide))
  have N2 := Fr.snoc X2 N0 g_a3
  have f6 : AV Z h2 a1 k .char 3 (fun i => Value.int (cf i)) := (A_a1.other W2 ne_a1_a3)
  obtain ⟨cl5, Ar5, kc5, sz5, -, hv5⟩ := id f6
  have hin5 : ¬ ((1 : Int32) < 0 ∨ cl5.slots.size ≤ ((1 : Int32)).toNatClampNeg) := AV.inb sz5 (show ¬ (1 : Int32) < 0 ∧ ((1 : Int32)).toNatClampNeg < 3 by decide)
  have hat5 : cl5.slots[((1 : Int32)).toNatClampNeg]? = some (.int (cf 1)) := (hv5 _ (AV.inx (show ¬ (1 : Int32) < 0 ∧ ((1 : Int32)).toNatClampNeg < 3 by decide))).trans (congrArg some rfl)
  obtain ⟨cl7, Ar7, kc7, sz7, -, -⟩ := id V2
  have hin7 : ¬ ((1 : Int32) < 0 ∨ cl7.slots.size ≤ ((1 : Int32)).toNatClampNeg) := AV.inb sz7 (show ¬ (1 : Int32) < 0 ∧ ((1 : Int32)).toNatClampNeg < 3 by decide)
  obtain ⟨T7, h7, X7, e7, W7, st7⟩ := stB X2 hx hZ e2 Ar7 (j := (1 : Int32)) hin7 (g := (mkF m 31 #[vr a1, vi (1 : Int32), vr a3, vi (1 : Int32), vi (3 : Int32), vi (1 : Int32), vi (cf 1)] [(.int (((cf 1)).toInt8.toInt32)), (.int (1 : Int32)), (.ref a3)])) rfl rfl (hb hby d17_31)
  have z8 : n0 ≤ h7.size := Nat.le_trans z3 (Keep.of_wr W7).1
  have K9 : Keep h0 h7 [a3] := K4.wr W7 (Or.inl (List.mem_of_getElem? (i := 0) rfl))
  have V7 : AV Z h7 a3 k3 .byte 3 (fun i => Value.int ((updI (updI g 0 ((((cf 0)).toInt8.toInt32)).toInt8.toInt32) 1 ((((cf 1)).toInt8.toInt32)).toInt8.toInt32) i)) := AV.putI V2 W7 (AV.inx (show ¬ (1 : Int32) < 0 ∧ ((1 : Int32)).toNatClampNeg < 3 by decide))
  have N7 := Fr.snoc X7 N2 g_a3
  have f11 : AV Z h7 a1 k .char 3 (fun i => Value.int (cf i)) := (f6.other W7 ne_a1_a3)
  obtain ⟨cl10, Ar10, kc10, sz10, -, hv10⟩ := id f11
  have hin10 : ¬ ((2 : Int32) < 0 ∨ cl10.slots.size ≤ ((2 : Int32)).toNatClampNeg) := AV.inb sz10 (show ¬ (2 : Int32) < 0 ∧ ((2 : Int32)).toNatClampNeg < 3 by decide)
  have hat10 : cl10.slots[((2 : Int32)).toNatClampNeg]? = some (.int (cf 2)) := (hv10 _ (AV.inx (show ¬ (2 : Int32) < 0 ∧ ((2 : Int32)).toNatClampNeg < 3 by decide))).trans (congrArg some rfl)
  obtain ⟨cl12, Ar12, kc12, sz12, -, -⟩ := id V7
  have hin12 : ¬ ((2 : Int32) < 0 ∨ cl12.slots.size ≤ ((2 : Int32)).toNatClampNeg) := AV.inb sz12 (show ¬ (2 : Int32) < 0 ∧ ((2 : Int32)).toNatClampNeg < 3 by decide)
  obtain ⟨T12, h12, X12, e12, W12, st12⟩ := stB X7 hx hZ e7 Ar12 (j := (2 : Int32)) hin12 (g := (mkF m 31 #[vr a1, vi (2 : Int32), vr a3, vi (2 : Int32), vi (3 : Int32), vi (2 : Int32), vi (cf 2)] [(.int (((cf 2)).toInt8.toInt32)), (.int (2 : Int32)), (.ref a3)])) rfl rfl (hb hby d17_31)
  have z13 : n0 ≤ h12.size := Nat.le_trans z8 (Keep.of_wr W12).1
  have K14 : Keep h0 h12 [a3] := K9.wr W12 (Or.inl (List.mem_of_getElem? (i := 0) rfl))
  have V12 : AV Z h12 a3 k3 .byte 3 (fun i => Value.int ((updI (updI (updI g 0 ((((cf 0)).toInt8.toInt32)).toInt8.toInt32) 1 ((((cf 1)).toInt8.toInt32)).toInt8.toInt32) 2 ((((cf 2)).toInt8.toInt32)).toInt8.toInt32) i)) := AV.putI V7 W12 (AV.inx (show ¬ (2 : Int32) < 0 ∧ ((2 : Int32)).toNatClampNeg < 3 by decide))
  have N12 := Fr.snoc X12 N7 g_a3
  obtain ⟨fs, hr, hrun, hended, hW, hsame⟩ := X12.leave (v := some (.int (3 : Int32))) (fun h => by rw [Bd.returns] at h; cases h)
  refine ⟨_, _, ?_, hrun, hended, _, _, rfl, ?_, ⟨_, rfl⟩, hW, hsame.mono (by decide) (by decide)⟩
  · show Steps p.tables e below (s₁.setTop (mkF m 0 #[vr a1, vi (0 : Int32), vr a3, vi (0 : Int32), vi (3 : Int32), .unset, .unset] [])) _
    refine XS.iconst X0.here hx rfl (hb hby d17_0) ?_
    refine XS.istore X0.here hx rfl (hb hby d17_1) rfl (l' := #[vr a1, vi (0 : Int32), vr a3, vi (0 : Int32), vi (3 : Int32), vi (0 : Int32), .unset]) rfl ?_
    refine XS.iload X0.here hx rfl (hb hby d17_3) rfl ?_
    refine XS.iload X0.here hx rfl (hb hby d17_5) rfl ?_
    refine XS.icmpNo X0.here hx rfl (hb hby d17_7) rfl ((tlt (by decide : (0 : Int32) < (3 : Int32))).2.1) ?_
    refine XS.aloadN X0.here hx rfl (hb hby d17_10) rfl rfl ?_
    show Steps p.tables e below (s₁.setTop (mkF m 11 #[vr a1, vi (0 : Int32), vr a3, vi (0 : Int32), vi (3 : Int32), vi (0 : Int32), .unset] [(.ref a1)])) _
    refine XS.iloadN X0.here hx rfl (hb hby d17_11) rfl ?_
    refine X0.caload hx (j := (0 : Int32)) (v := (.int (cf 0))) (by rw [e0]; exact Ar1.1) (State.isArrayOf_alike hZ.alike Ar1.2.1) Ar1.2.2 hin1 hat1 (g := (mkF m 12 #[vr a1, vi (0 : Int32), vr a3, vi (0 : Int32), vi (3 : Int32), vi (0 : Int32), .unset] [(.int (0 : Int32)), (.ref a1)])) rfl rfl (hb hby d17_12) _ ?_
    refine XS.istore X0.here hx rfl (hb hby d17_13) rfl (l' := #[vr a1, vi (0 : Int32), vr a3, vi (0 : Int32), vi (3 : Int32), vi (0 : Int32), vi (cf 0)]) rfl ?_
    refine XS.iload X0.here hx rfl (hb hby d17_15) rfl ?_
    refine XS.sipush X0.here hx rfl (hb hby d17_17) ?_
    refine XS.icmpYes X0.here hx rfl (pc0 := 20) (pc' := 26) rfl (hb hby d17_20) rfl ((flt (own_255 (hok 0) : ¬ ((255 : Int32) < (cf 0)))).2.2.2) (by decide) (by decide) ?_
    show Steps p.tables e below (s₁.setTop (mkF m 26 #[vr a1, vi (0 : Int32), vr a3, vi (0 : Int32), vi (3 : Int32), vi (0 : Int32), vi (cf 0)] [])) _
    refine XS.aloadN X0.here hx rfl (hb hby d17_26) rfl rfl ?_
    refine XS.iloadN X0.here hx rfl (hb hby d17_27) rfl ?_
    refine XS.iload X0.here hx rfl (hb hby d17_28) rfl ?_
    refine XS.i2b X0.here hx rfl (hb hby d17_30) rfl ?_
    refine st2 _ ?_
    refine XS.iinc X2.here hx rfl (hb hby d17_32) rfl (l' := #[vr a1, vi (1 : Int32), vr a3, vi (0 : Int32), vi (3 : Int32), vi (0 : Int32), vi (cf 0)]) rfl ?_
    show Steps p.tables e below (T2.setTop (mkF m 35 #[vr a1, vi (1 : Int32), vr a3, vi (0 : Int32), vi (3 : Int32), vi (0 : Int32), vi (cf 0)] [])) _
    refine XS.iinc X2.here hx rfl (hb hby d17_35) rfl (l' := #[vr a1, vi (1 : Int32), vr a3, vi (1 : Int32), vi (3 : Int32), vi (0 : Int32), vi (cf 0)]) rfl ?_
    refine XS.iinc X2.here hx rfl (hb hby d17_38) rfl (l' := #[vr a1, vi (1 : Int32), vr a3, vi (1 : Int32), vi (3 : Int32), vi (1 : Int32), vi (cf 0)]) rfl ?_
    refine XS.goto X2.here hx rfl (pc0 := 41) (pc' := 3) rfl (hb hby d17_41) (by decide) (by decide) ?_
    refine XS.iload X2.here hx rfl (hb hby d17_3) rfl ?_
    refine XS.iload X2.here hx rfl (hb hby d17_5) rfl ?_
    refine XS.icmpNo X2.here hx rfl (hb hby d17_7) rfl ((tlt (by decide : (1 : Int32) < (3 : Int32))).2.1) ?_
    show Steps p.tables e below (T2.setTop (mkF m 10 #[vr a1, vi (1 : Int32), vr a3, vi (1 : Int32), vi (3 : Int32), vi (1 : Int32), vi (cf 0)] [])) _
    refine XS.aloadN X2.here hx rfl (hb hby d17_10) rfl rfl ?_
    refine XS.iloadN X2.here hx rfl (hb hby d17_11) rfl ?_
    refine X2.caload hx (j := (1 : Int32)) (v := (.int (cf 1))) (by rw [e2]; exact Ar5.1) (State.isArrayOf_alike hZ.alike Ar5.2.1) Ar5.2.2 hin5 hat5 (g := (mkF m 12 #[vr a1, vi (1 : Int32), vr a3, vi (1 : Int32), vi (3 : Int32), vi (1 : Int32), vi (cf 0)] [(.int (1 : Int32)), (.ref a1)])) rfl rfl (hb hby d17_12) _ ?_
    refine XS.istore X2.here hx rfl (hb hby d17_13) rfl (l' := #[vr a1, vi (1 : Int32), vr a3, vi (1 : Int32), vi (3 : Int32), vi (1 : Int32), vi (cf 1)]) rfl ?_
    refine XS.iload X2.here hx rfl (hb hby d17_15) rfl ?_
    refine XS.sipush X2.here hx rfl (hb hby d17_17) ?_
    show Steps p.tables e below (T2.setTop (mkF m 20 #[vr a1, vi (1 : Int32), vr a3, vi (1 : Int32), vi (3 : Int32), vi (1 : Int32), vi (cf 1)] [(.int (255 : Int32)), (.int (cf 1))])) _
    refine XS.icmpYes X2.here hx rfl (pc0 := 20) (pc' := 26) rfl (hb hby d17_20) rfl ((flt (own_255 (hok 1) : ¬ ((255 : Int32) < (cf 1)))).2.2.2) (by decide) (by decide) ?_
    refine XS.aloadN X2.here hx rfl (hb hby d17_26) rfl rfl ?_
    refine XS.iloadN X2.here hx rfl (hb hby d17_27) rfl ?_
    refine XS.iload X2.here hx rfl (hb hby d17_28) rfl ?_
    refine XS.i2b X2.here hx rfl (hb hby d17_30) rfl ?_
    refine st7 _ ?_
    show Steps p.tables e below (T7.setTop (mkF m 32 #[vr a1, vi (1 : Int32), vr a3, vi (1 : Int32), vi (3 : Int32), vi (1 : Int32), vi (cf 1)] [])) _
    refine XS.iinc X7.here hx rfl (hb hby d17_32) rfl (l' := #[vr a1, vi (2 : Int32), vr a3, vi (1 : Int32), vi (3 : Int32), vi (1 : Int32), vi (cf 1)]) rfl ?_
    refine XS.iinc X7.here hx rfl (hb hby d17_35) rfl (l' := #[vr a1, vi (2 : Int32), vr a3, vi (2 : Int32), vi (3 : Int32), vi (1 : Int32), vi (cf 1)]) rfl ?_
    refine XS.iinc X7.here hx rfl (hb hby d17_38) rfl (l' := #[vr a1, vi (2 : Int32), vr a3, vi (2 : Int32), vi (3 : Int32), vi (2 : Int32), vi (cf 1)]) rfl ?_
    refine XS.goto X7.here hx rfl (pc0 := 41) (pc' := 3) rfl (hb hby d17_41) (by decide) (by decide) ?_
    refine XS.iload X7.here hx rfl (hb hby d17_3) rfl ?_
    refine XS.iload X7.here hx rfl (hb hby d17_5) rfl ?_
    show Steps p.tables e below (T7.setTop (mkF m 7 #[vr a1, vi (2 : Int32), vr a3, vi (2 : Int32), vi (3 : Int32), vi (2 : Int32), vi (cf 1)] [(.int (3 : Int32)), (.int (2 : Int32))])) _
    refine XS.icmpNo X7.here hx rfl (hb hby d17_7) rfl ((tlt (by decide : (2 : Int32) < (3 : Int32))).2.1) ?_
    refine XS.aloadN X7.here hx rfl (hb hby d17_10) rfl rfl ?_
    refine XS.iloadN X7.here hx rfl (hb hby d17_11) rfl ?_
    refine X7.caload hx (j := (2 : Int32)) (v := (.int (cf 2))) (by rw [e7]; exact Ar10.1) (State.isArrayOf_alike hZ.alike Ar10.2.1) Ar10.2.2 hin10 hat10 (g := (mkF m 12 #[vr a1, vi (2 : Int32), vr a3, vi (2 : Int32), vi (3 : Int32), vi (2 : Int32), vi (cf 1)] [(.int (2 : Int32)), (.ref a1)])) rfl rfl (hb hby d17_12) _ ?_
    refine XS.istore X7.here hx rfl (hb hby d17_13) rfl (l' := #[vr a1, vi (2 : Int32), vr a3, vi (2 : Int32), vi (3 : Int32), vi (2 : Int32), vi (cf 2)]) rfl ?_
    refine XS.iload X7.here hx rfl (hb hby d17_15) rfl ?_
    show Steps p.tables e below (T7.setTop (mkF m 17 #[vr a1, vi (2 : Int32), vr a3, vi (2 : Int32), vi (3 : Int32), vi (2 : Int32), vi (cf 2)] [(.int (cf 2))])) _
    refine XS.sipush X7.here hx rfl (hb hby d17_17) ?_
    refine XS.icmpYes X7.here hx rfl (pc0 := 20) (pc' := 26) rfl (hb hby d17_20) rfl ((flt (own_255 (hok 2) : ¬ ((255 : Int32) < (cf 2)))).2.2.2) (by decide) (by decide) ?_
    refine XS.aloadN X7.here hx rfl (hb hby d17_26) rfl rfl ?_
    refine XS.iloadN X7.here hx rfl (hb hby d17_27) rfl ?_
    refine XS.iload X7.here hx rfl (hb hby d17_28) rfl ?_
    refine XS.i2b X7.here hx rfl (hb hby d17_30) rfl ?_
    show Steps p.tables e below (T7.setTop (mkF m 31 #[vr a1, vi (2 : Int32), vr a3, vi (2 : Int32), vi (3 : Int32), vi (2 : Int32), vi (cf 2)] [(.int (((cf 2)).toInt8.toInt32)), (.int (2 : Int32)), (.ref a3)])) _
    refine st12 _ ?_
    refine XS.iinc X12.here hx rfl (hb hby d17_32) rfl (l' := #[vr a1, vi (3 : Int32), vr a3, vi (2 : Int32), vi (3 : Int32), vi (2 : Int32), vi (cf 2)]) rfl ?_
    refine XS.iinc X12.here hx rfl (hb hby d17_35) rfl (l' := #[vr a1, vi (3 : Int32), vr a3, vi (3 : Int32), vi (3 : Int32), vi (2 : Int32), vi (cf 2)]) rfl ?_
    refine XS.iinc X12.here hx rfl (hb hby d17_38) rfl (l' := #[vr a1, vi (3 : Int32), vr a3, vi (3 : Int32), vi (3 : Int32), vi (3 : Int32), vi (cf 2)]) rfl ?_
    refine XS.goto X12.here hx rfl (pc0 := 41) (pc' := 3) rfl (hb hby d17_41) (by decide) (by decide) ?_
    refine XS.iload X12.here hx rfl (hb hby d17_3) rfl ?_
    show Steps p.tables e below (T12.setTop (mkF m 5 #[vr a1, vi (3 : Int32), vr a3, vi (3 : Int32), vi (3 : Int32), vi (3 : Int32), vi (cf 2)] [(.int (3 : Int32))])) _
    refine XS.iload X12.here hx rfl (hb hby d17_5) rfl ?_
    refine XS.icmpYes X12.here hx rfl (pc0 := 7) (pc' := 44) rfl (hb hby d17_7) rfl ((flt (by decide : ¬ ((3 : Int32) < (3 : Int32)))).2.1) (by decide) (by decide) ?_
    refine XS.iload X12.here hx rfl (hb hby d17_44) rfl ?_
    exact retI X12 hx Bd.returns (hb hby d17_46) hr
  · show Qz5_3 Z a1 a3 k k3 cf g h0 n0 _ T12.heap _
    rw [e12]
    exact ⟨rfl, N12, K14, (AV.conv V12 (fun i hi => congrArg Value.int (match i, hi with | 0, _ => own_i88 (hok 0) | 1, _ => own_i88 (hok 1) | 2, _ => own_i88 (hok 2) | i + 3, hi => absurd hi (by omega))))⟩
theorem ef_rmz3_3 (m : MethodId) (a1 : Addr) : entryFrame m #[(.ref a1), (.int (0 : Int32)), (.int (3 : Int32))] 6 = mkF m 0 #[vr a1, vi (0 : Int32), vi (3 : Int32), .unset, .unset, .unset] [] := by first | (simp [entryFrame, mkF, argsToLocals, Value.category]; done) | rfl
def Qz3_3 (Z : State) (a1 : Addr) (k : ClassId) (cf : Nat → Int32) (h0 : Heap) (n0 : Nat) (v : Option Value) (h : Heap) (L : List Loc) : Prop := ∃ (t' : Addr), ∃ (k' : ClassId), v = some (.ref t') ∧ Fr n0 L ∧ Keep h0 h [] ∧ h0.size ≤ t' ∧ (AV Z h t' k' .byte 3 (fun i => Value.int (cf i)))
set_option maxRecDepth 65536 in
set_option maxHeartbeats 40000000 in
theorem rmz3_3 (l : Launch) (Z : State) (a0 : Array Value) (hw : ∀ d ∈ tables_1, d.before a0 Z = true) (ws : List Jvm.Cond) (a1 : Addr) (k : ClassId) (cf : Nat → Int32) (h0 : Heap) (n0 : Nat) (Z0 : n0 ≤ h0.size) (A_a1 : AV Z h0 a1 k .char 3 (fun i => Value.int (cf i))) (hok : ∀ i, own_ok (cf i)) :
    MetFree l (⟨"java/lang/StringUTF16", "compress", "([CII)[B"⟩ : MethodName) (head1 (Jvm.Cond.code (⟨"java/lang/StringUTF16", "compress", "([CII)[B"⟩ : MethodName) jdk_52_method_16_code 6 (some (.array .byte)) :: ws) ({ frames := 1, cells := 1, slots := 3, locals := 18 } : Room)) (fun a U => a = #[(.ref a1), (.int (0 : Int32)), (.int (3 : Int32))] ∧ Z.Warmed39 U.vm ∧ U.heap = h0) (fun _ _ _ _ _ => True) (fun _ U o U' => ∃ v L, o = .returned v ∧ Qz3_3 Z a1 k cf h0 n0 v U'.heap L ∧ FrameEnd U o U' L ({ frames := 1, cells := 1, slots := 3, locals := 18 } : Room).cells ({ frames := 1, cells := 1, slots := 3, locals := 18 } : Room).slots) := by
  refine MetFree.of_bodySF (plainFor_of_name pn_5) hisR ?_
  intro p e s m args below meth c s₁ Bd hml0 hP hK
  obtain ⟨rfl, hZ, hh⟩ := hP
  have hx := Bd.exec
  have hby := Bd.bytes
  have hml : c.maxLocals = 6 := hml0
  have hown : s.vm.findClass "java/lang/StringUTF16" = some m.cls := findClass_of_methodNamed Bd.named
  have hnm := (name_of_methodNamed Bd.named Bd.method).1
  have X0 : Stand p l e ({ frames := 1, cells := 1, slots := 3, locals := 18 } : Room) s m #[(.ref a1), (.int (0 : Int32)), (.int (3 : Int32))] below meth c s₁ [] 0 0 := Stand.of_body Bd
  have e0 : s₁.heap = h0 := by rw [← hh, Bd.state]; rfl
  have N0 := Fr.nil n0
  show GoalS p.tables e below s ({ frames := 1, cells := 1, slots := 3, locals := 18 } : Room).cells ({ frames := 1, cells := 1, slots := 3, locals := 18 } : Room).slots (Qz3_3 Z a1 k cf h0 n0) (s₁.setTop (entryFrame m #[(.ref a1), (.int (0 : Int32)), (.int (3 : Int32))] 6))
  refine GoalS.lift (B := s₁.setTop (mkF m 0 #[vr a1, vi (0 : Int32), vi (3 : Int32), .unset, .unset, .unset] [])) (fun t k => castTop (ef_rmz3_3 m a1) k) ?_
  have K0 : Keep h0 h0 [] := Keep.refl _ _
  obtain ⟨T1, h1, k1, X1, e1, E1, A1, st1⟩ := newP X0 hx hZ (hw _ (List.mem_of_getElem? (i := 0) rfl)) e0 (g := (mkF m 1 #[vr a1, vi (0 : Int32), vi (3 : Int32), .unset, .unset, .unset] [(.int (3 : Int32))])) rfl (hb hby d16_1) rfl (by decide) (cap := 3) (by decide) (by decide) (by decide) (by decide)
  obtain ⟨b1, g1⟩ : ∃ z, z = h0.size := ⟨_, rfl⟩
  rw [← g1] at A1 st1
  have g_b1 : n0 ≤ b1 := Nat.le_trans Z0 (Nat.le_of_eq g1.symm)
  have sz_b1 : h0.size ≤ b1 := Nat.le_trans K0.1 (Nat.le_of_eq g1.symm)
  have ne_a1_b1 : a1 ≠ b1 := Nat.ne_of_lt (Nat.lt_of_lt_of_le A_a1.lt (Nat.le_of_eq g1.symm))
  have z2 : n0 ≤ h1.size := Nat.le_trans Z0 E1.1
  have K3 : Keep h0 h1 [] := K0.ext E1
  have V1 : AV Z h1 b1 k1 .byte 3 (fun i => Value.int ((fun _ => (0 : Int32)) i)) := AV.new A1 (by decide) (by decide) (by decide)
  have f5 : AV Z h1 a1 k .char 3 (fun i => Value.int (cf i)) := (A_a1.ext E1)
  obtain ⟨_, _, ⟨T4, L4, k4, n4⟩, -, X4, ⟨Lc4, hQ4, l4, y4, z4⟩, st4⟩ := Jvm.LawKit.callS X1 hx (y := (⟨"java/lang/StringUTF16", "compress", "([CI[BII)I"⟩ : MethodName)) hown (mvT hZ (hw _ (List.mem_of_getElem? (i := 91) rfl))) (mvT hZ (hw _ (List.mem_of_getElem? (i := 92) rfl))) (mvT hZ (hw _ (List.mem_of_getElem? (i := 89) rfl))) (mvT hZ (hw _ (List.mem_of_getElem? (i := 93) rfl))) (by decide) (backOf (W := 0) (rmz5_3 l Z a0 hw [] a1 b1 k k1 cf (fun _ => (0 : Int32)) h1 n0 z2 f5 V1 ne_a1_b1 g_b1 hok) hZ (hw _ (List.mem_of_getElem? (i := 93) rfl)) (hw _ (List.mem_of_getElem? (i := 89) rfl)) (by decide) (by decide)) (g := (mkF m 9 #[vr a1, vi (0 : Int32), vi (3 : Int32), vr b1, .unset, .unset] [(.int (3 : Int32)), (.int (0 : Int32)), (.ref b1), (.int (0 : Int32)), (.ref a1)])) rfl (by rw [hml]; rfl) (argsL := [(.ref a1), (.int (0 : Int32)), (.ref b1), (.int (0 : Int32)), (.int (3 : Int32))]) (rest := []) (lenOf pd_11 rfl) rfl (by show 2 * 0 + _ ≤ _; exact Nat.le_of_eq rfl) (hb hby d16_9) (fun _ _ => ⟨rfl, e1, (by decide : 1 + 0 ≤ _), (by decide : 3 + 0 ≤ _)⟩)
  dsimp only [Pt.U, Pt.locs, Pt.cells, Pt.slots] at X4 l4 y4 z4 st4 hQ4
  subst y4 z4
  obtain ⟨rfl, N4q, p4_0, p4_1⟩ := hQ4
  have N4 : Fr n0 L4 := by rw [l4]; exact Fr.app N0 N4q
  have z6 : n0 ≤ T4.heap.size := Nat.le_trans z2 p4_0.1
  have K7 : Keep h0 T4.heap [] := K3.trans p4_0 (allS (Or.inr sz_b1) all0)
  obtain ⟨fs, hr, hrun, hended, hW, hsame⟩ := X4.leave (v := some (.ref b1)) (fun h => by rw [Bd.returns] at h; cases h)
  refine ⟨_, _, ?_, hrun, hended, _, _, rfl, ?_, ⟨_, rfl⟩, hW, hsame.mono (by decide) (by decide)⟩
  · show Steps p.tables e below (s₁.setTop (mkF m 0 #[vr a1, vi (0 : Int32), vi (3 : Int32), .unset, .unset, .unset] [])) _
    refine XS.iloadN X0.here hx rfl (hb hby d16_0) rfl ?_
    refine st1 _ ?_
    refine XS.astoreN X1.here hx rfl (hb hby d16_3) rfl rfl (l' := #[vr a1, vi (0 : Int32), vi (3 : Int32), vr b1, .unset, .unset]) rfl ?_
    refine XS.aloadN X1.here hx rfl (hb hby d16_4) rfl rfl ?_
    refine XS.iloadN X1.here hx rfl (hb hby d16_5) rfl ?_
    refine XS.aloadN X1.here hx rfl (hb hby d16_6) rfl rfl ?_
    show Steps p.tables e below (T1.setTop (mkF m 7 #[vr a1, vi (0 : Int32), vi (3 : Int32), vr b1, .unset, .unset] [(.ref b1), (.int (0 : Int32)), (.ref a1)])) _
    refine XS.iconst X1.here hx rfl (hb hby d16_7) ?_
    refine XS.iloadN X1.here hx rfl (hb hby d16_8) rfl ?_
    refine st4 _ ?_
    refine XS.istore X4.here hx rfl (hb hby d16_12) rfl (l' := #[vr a1, vi (0 : Int32), vi (3 : Int32), vr b1, vi (3 : Int32), .unset]) rfl ?_
    refine XS.iload X4.here hx rfl (hb hby d16_14) rfl ?_
    refine XS.iloadN X4.here hx rfl (hb hby d16_16) rfl ?_
    show Steps p.tables e below (T4.setTop (mkF m 17 #[vr a1, vi (0 : Int32), vi (3 : Int32), vr b1, vi (3 : Int32), .unset] [(.int (3 : Int32)), (.int (3 : Int32))])) _
    refine XS.icmpYes X4.here hx rfl (pc0 := 17) (pc' := 57) rfl (hb hby d16_17) rfl ((teq (by decide : (3 : Int32) = (3 : Int32))).1) (by decide) (by decide) ?_
    refine XS.aloadN X4.here hx rfl (hb hby d16_57) rfl rfl ?_
    show Steps p.tables e below (T4.setTop (mkF m 58 #[vr a1, vi (0 : Int32), vi (3 : Int32), vr b1, vi (3 : Int32), .unset] [(.ref b1)])) _
    jvm_step X4.here [X4.here.top, hx, (hb hby d16_58), X4.method', Bd.returns, Value.isRef, FieldType.isReference]
    first | (intro acts; rw [hr _ acts rfl rfl rfl]) | rw [hr _ _ rfl rfl rfl]
    exact Steps.refl _
  · show Qz3_3 Z a1 k cf h0 n0 _ T4.heap _
    exact ⟨b1, k1, rfl, N4, K7, sz_b1, p4_1⟩
theorem ef_rms4_3 (m : MethodId) (a1 : Addr) (a2 : Addr) : entryFrame m #[(.ref a1), (.ref a2), (.int (0 : Int32)), (.int (3 : Int32)), .null] 6 = mkF m 0 #[vr a1, vr a2, vi (0 : Int32), vi (3 : Int32), .val .null, .unset] [] := by first | (simp [entryFrame, mkF, argsToLocals, Value.category]; done) | rfl
def Qs4_3 (Z : State) (a1 : Addr) (a2 : Addr) (zcs : Int32) (k : ClassId) (cf : Nat → Int32) (h0 : Heap) (n0 : Nat) (v : Option Value) (h : Heap) (L : List Loc) : Prop := ∃ (t' : Addr), ∃ (k' : ClassId), v = none ∧ Fr n0 L ∧ Keep h0 h [a1] ∧ h0.size ≤ t' ∧ (Exa Z h a1 "java/lang/String") ∧ (Fld Z h a1 "java/lang/String" "value" "[B" (.ref t')) ∧ (Fld Z h a1 "java/lang/String" "coder" "B" (.int (0 : Int32))) ∧ (AV Z h t' k' .byte 3 (fun i => Value.int (cf i)))
set_option maxRecDepth 65536 in
set_option maxHeartbeats 40000000 in
theorem rms4_3 (l : Launch) (Z : State) (a0 : Array Value) (hw : ∀ d ∈ tables_1, d.before a0 Z = true) (ws : List Jvm.Cond) (a1 : Addr) (a2 : Addr) (zcs : Int32) (k : ClassId) (cf : Nat → Int32) (h0 : Heap) (n0 : Nat) (Z0 : n0 ≤ h0.size) (S_COMPACT_STRINGS : Sta Z h0 "java/lang/String" "COMPACT_STRINGS" "Z" (.int zcs)) (hCS : ¬ zcs = 0) (E_a1 : Exa Z h0 a1 "java/lang/String") (g_a1 : n0 ≤ a1) (F_value_a1 : Fld Z h0 a1 "java/lang/String" "value" "[B" .null) (F_coder_a1 : Fld Z h0 a1 "java/lang/String" "coder" "B" (.int (0 : Int32))) (A_a2 : AV Z h0 a2 k .char 3 (fun i => Value.int (cf i))) (ne_a1_a2 : a1 ≠ a2) (hok : ∀ i, own_ok (cf i)) :
    MetFree l (⟨"java/lang/String", "<init>", "([CIILjava/lang/Void;)V"⟩ : MethodName) (head1 (Jvm.Cond.code (⟨"java/lang/String", "<init>", "([CIILjava/lang/Void;)V"⟩ : MethodName) jdk_42_method_149_code 6 none :: ws) ({ frames := 2, cells := 1, slots := 3, locals := 35 } : Room)) (fun a U => a = #[(.ref a1), (.ref a2), (.int (0 : Int32)), (.int (3 : Int32)), .null] ∧ Z.Warmed39 U.vm ∧ U.heap = h0) (fun _ _ _ _ _ => True) (fun _ U o U' => ∃ v L, o = .returned v ∧ Qs4_3 Z a1 a2 zcs k cf h0 n0 v U'.heap L ∧ FrameEnd U o U' L ({ frames := 2, cells := 1, slots := 3, locals := 35 } : Room).cells ({ frames := 2, cells := 1, slots := 3, locals := 35 } : Room).slots) := by
  refine MetFree.of_bodySF (plainFor_of_name pn_3) hisR ?_
  intro p e s m args below meth c s₁ Bd hml0 hP hK
  obtain ⟨rfl, hZ, hh⟩ := hP
  have hx := Bd.exec
  have hby := Bd.bytes
  have hml : c.maxLocals = 6 := hml0
  have hown : s.vm.findClass "java/lang/String" = some m.cls := findClass_of_methodNamed Bd.named
  have hnm := (name_of_methodNamed Bd.named Bd.method).1
  have X0 : Stand p l e ({ frames := 2, cells := 1, slots := 3, locals := 35 } : Room) s m #[(.ref a1), (.ref a2), (.int (0 : Int32)), (.int (3 : Int32)), .null] below meth c s₁ [] 0 0 := Stand.of_body Bd
  have e0 : s₁.heap = h0 := by rw [← hh, Bd.state]; rfl
  have N0 := Fr.nil n0
  show GoalS p.tables e below s ({ frames := 2, cells := 1, slots := 3, locals := 35 } : Room).cells ({ frames := 2, cells := 1, slots := 3, locals := 35 } : Room).slots (Qs4_3 Z a1 a2 zcs k cf h0 n0) (s₁.setTop (entryFrame m #[(.ref a1), (.ref a2), (.int (0 : Int32)), (.int (3 : Int32)), .null] 6))
  refine GoalS.lift (B := s₁.setTop (mkF m 0 #[vr a1, vr a2, vi (0 : Int32), vi (3 : Int32), .val .null, .unset] [])) (fun t k => castTop (ef_rms4_3 m a1 a2) k) ?_
  have K0 : Keep h0 h0 [a1] := Keep.refl _ _
  obtain ⟨T1, X1, e1, st1⟩ := initO X0 hx hZ hown (hw _ (List.mem_of_getElem? (i := 49) rfl)) (hw _ (List.mem_of_getElem? (i := 8) rfl)) (hw _ (List.mem_of_getElem? (i := 9) rfl)) e0 (g := (mkF m 1 #[vr a1, vr a2, vi (0 : Int32), vi (3 : Int32), .val .null, .unset] [(.ref a1)])) rfl (by rw [hml]; rfl) rfl (hb hby d9_1) (by decide) (W := 0) (by show 2 * 0 + _ ≤ _; exact Nat.le_of_eq rfl) (by decide)
  obtain ⟨T2, X2, e2, st2⟩ := getS2 X1 hx hZ hown (host := "") (Or.inl (hw _ (List.mem_of_getElem? (i := 81) rfl))) Via.refl e1 S_COMPACT_STRINGS (g := (mkF m 27 #[vr a1, vr a2, vi (0 : Int32), vi (3 : Int32), .val .null, .unset] [])) rfl (hb hby d9_27)
  obtain ⟨_, _, ⟨T3, L3, k3, n3⟩, -, X3, ⟨Lc3, hQ3, l3, y3, z3⟩, st3⟩ := Jvm.LawKit.callS X2 hx (y := (⟨"java/lang/StringUTF16", "compress", "([CII)[B"⟩ : MethodName)) hown (mvT hZ (hw _ (List.mem_of_getElem? (i := 87) rfl))) (mvT hZ (hw _ (List.mem_of_getElem? (i := 88) rfl))) (mvT hZ (hw _ (List.mem_of_getElem? (i := 89) rfl))) (mvT hZ (hw _ (List.mem_of_getElem? (i := 90) rfl))) (by decide) (backOf (W := 0) (rmz3_3 l Z a0 hw [] a2 k cf h0 n0 Z0 A_a2 hok) hZ (hw _ (List.mem_of_getElem? (i := 90) rfl)) (hw _ (List.mem_of_getElem? (i := 89) rfl)) (by decide) (by decide)) (g := (mkF m 36 #[vr a1, vr a2, vi (0 : Int32), vi (3 : Int32), .val .null, .unset] [(.int (3 : Int32)), (.int (0 : Int32)), (.ref a2)])) rfl (by rw [hml]; rfl) (argsL := [(.ref a2), (.int (0 : Int32)), (.int (3 : Int32))]) (rest := []) (lenOf pd_12 rfl) rfl (by show 2 * 0 + _ ≤ _; exact Nat.le_of_eq rfl) (hb hby d9_36) (fun _ _ => ⟨rfl, e2, (by decide : 0 + 1 ≤ _), (by decide : 0 + 3 ≤ _)⟩)
  dsimp only [Pt.U, Pt.locs, Pt.cells, Pt.slots] at X3 l3 y3 z3 st3 hQ3
  subst y3 z3
  obtain ⟨t'_3, k'_3, rfl, N3q, p3_0, p3_1, p3_2⟩ := hQ3
  have N3 : Fr n0 L3 := by rw [l3]; exact Fr.app N0 N3q
  have ns4 : ∀ x ∈ ([] : List Addr), ∀ cell : Cell, h0[x]? = some cell → cell.vm.isStatics = false := all0
  have z5 : n0 ≤ T3.heap.size := Nat.le_trans Z0 p3_0.1
  have K6 : Keep h0 T3.heap [a1] := K0.trans p3_0 all0
  have ne_a1_t'_3 : a1 ≠ t'_3 := Nat.ne_of_lt (Nat.lt_of_lt_of_le E_a1.lt p3_1)
  have ne_a2_t'_3 : a2 ≠ t'_3 := Nat.ne_of_lt (Nat.lt_of_lt_of_le A_a2.lt p3_1)
  have g_t'_3 : n0 ≤ t'_3 := Nat.le_trans Z0 p3_1
  have sz_t'_3 : h0.size ≤ t'_3 := Nat.le_trans K0.1 p3_1
  obtain ⟨_, _, ⟨T8, L8, k8, n8⟩, -, X8, ⟨Lc8, hQ8, l8, y8, z8⟩, st8⟩ := Jvm.LawKit.callS X3 hx (y := (⟨"java/lang/StringUTF16", "coderFromArrayLen", "([BI)B"⟩ : MethodName)) hown (mvT hZ (hw _ (List.mem_of_getElem? (i := 94) rfl))) (mvT hZ (hw _ (List.mem_of_getElem? (i := 95) rfl))) (mvT hZ (hw _ (List.mem_of_getElem? (i := 89) rfl))) (mvT hZ (hw _ (List.mem_of_getElem? (i := 96) rfl))) (by decide) (backOf (W := 1) (rmcf3 l Z a0 hw [] t'_3 k'_3 cf T3.heap n0 z5 p3_2) hZ (hw _ (List.mem_of_getElem? (i := 96) rfl)) (hw _ (List.mem_of_getElem? (i := 89) rfl)) (by decide) (by decide)) (g := (mkF m 45 #[vr a1, vr a2, vi (0 : Int32), vi (3 : Int32), .val .null, vr t'_3] [(.int (3 : Int32)), (.ref t'_3), (.ref a1)])) rfl (by rw [hml]; rfl) (argsL := [(.ref t'_3), (.int (3 : Int32))]) (rest := [(.ref a1)]) (lenOf pd_13 rfl) rfl (by show 2 * 0 + _ ≤ _; exact Nat.le_of_eq rfl) (hb hby d9_45) (fun _ _ => ⟨rfl, rfl, (by decide : 1 + 0 ≤ _), (by decide : 3 + 0 ≤ _)⟩)
  dsimp only [Pt.U, Pt.locs, Pt.cells, Pt.slots] at X8 l8 y8 z8 st8 hQ8
  subst y8 z8
  obtain ⟨rfl, N8q, eq8⟩ := hQ8
  have N8 : Fr n0 L8 := by rw [l8]; exact Fr.app N3 N8q
  have f9 : Fld Z T3.heap a1 "java/lang/String" "coder" "B" (.int (0 : Int32)) := (F_coder_a1.keep p3_0 nin0)
  have f10 : Exa Z T3.heap a1 "java/lang/String" := (E_a1.keep p3_0)
  obtain ⟨T11, h11, X11, e11, W11, st11⟩ := putFN X8 hx hZ hown (hw _ (List.mem_of_getElem? (i := 56) rfl)) Via.refl eq8 f9 f10 (Or.inr ⟨(hw _ (List.mem_of_getElem? (i := 52) rfl)), rfl, hnm⟩) (hw _ (List.mem_of_getElem? (i := 39) rfl)) (ty := .byte) (v' := (.int (0 : Int32))) (by decide) rfl rfl (g := (mkF m 48 #[vr a1, vr a2, vi (0 : Int32), vi (3 : Int32), .val .null, vr t'_3] [(.int (0 : Int32)), (.ref a1)])) rfl rfl (hb hby d9_48)
  have z12 : n0 ≤ h11.size := Nat.le_trans z5 (Keep.of_wr W11).1
  have K13 : Keep h0 h11 [a1] := K6.wr W11 (Or.inl (List.mem_of_getElem? (i := 0) rfl))
  have Fw11 : Fld Z h11 a1 "java/lang/String" "coder" "B" (.int (0 : Int32)) := f9.same W11
  have N11 := Fr.snoc X11 N8 g_a1
  have f14 : Fld Z h11 a1 "java/lang/String" "value" "[B" .null := ((F_value_a1.keep p3_0 nin0).other W11 (Or.inr (slot_ne (Or.inr (hw _ (List.mem_of_getElem? (i := 51) rfl))) (Or.inr (hw _ (List.mem_of_getElem? (i := 52) rfl))) (by decide) (t := (.array .byte)) (t' := .byte) (by decide) (by decide))))
  have f15 : Exa Z h11 a1 "java/lang/String" := (f10.wr W11)
  obtain ⟨T16, h16, X16, e16, W16, st16⟩ := putF X11 hx hZ hown (host := "") (Or.inl (hw _ (List.mem_of_getElem? (i := 55) rfl))) Via.refl e11 f14 f15 (Or.inr ⟨(hw _ (List.mem_of_getElem? (i := 51) rfl)), rfl, hnm⟩) (hw _ (List.mem_of_getElem? (i := 39) rfl)) (ty := (.array .byte)) (by decide) rfl rfl (g := (mkF m 54 #[vr a1, vr a2, vi (0 : Int32), vi (3 : Int32), .val .null, vr t'_3] [(.ref t'_3), (.ref a1)])) rfl rfl (hb hby d9_54)
  have z17 : n0 ≤ h16.size := Nat.le_trans z12 (Keep.of_wr W16).1
  have K18 : Keep h0 h16 [a1] := K13.wr W16 (Or.inl (List.mem_of_getElem? (i := 0) rfl))
  have Fw16 : Fld Z h16 a1 "java/lang/String" "value" "[B" (.ref t'_3) := f14.same W16
  have N16 := Fr.snoc X16 N11 g_a1
  obtain ⟨fs, hr, hrun, hended, hW, hsame⟩ := X16.leave (v := none) (fun _ => rfl)
  refine ⟨_, _, ?_, hrun, hended, _, _, rfl, ?_, ⟨_, rfl⟩, hW, hsame.mono (by decide) (by decide)⟩
  · show Steps p.tables e below (s₁.setTop (mkF m 0 #[vr a1, vr a2, vi (0 : Int32), vi (3 : Int32), .val .null, .unset] [])) _
    refine XS.aloadN X0.here hx rfl (hb hby d9_0) rfl rfl ?_
    refine st1 _ ?_
    refine XS.iloadN X1.here hx rfl (hb hby d9_4) rfl ?_
    refine XS.ifYes X1.here hx rfl (pc0 := 5) (pc' := 27) rfl (hb hby d9_5) rfl ((if0 _ _).trans (feq (by decide : ¬ ((3 : Int32) = (0 : Int32)))).2) (by decide) (by decide) ?_
    refine st2 _ ?_
    refine XS.ifNo X2.here hx rfl (hb hby d9_30) rfl ((if0 _ _).trans (feq (hCS : ¬ (zcs = (0 : Int32)))).1) ?_
    show Steps p.tables e below (T2.setTop (mkF m 33 #[vr a1, vr a2, vi (0 : Int32), vi (3 : Int32), .val .null, .unset] [])) _
    refine XS.aloadN X2.here hx rfl (hb hby d9_33) rfl rfl ?_
    refine XS.iloadN X2.here hx rfl (hb hby d9_34) rfl ?_
    refine XS.iloadN X2.here hx rfl (hb hby d9_35) rfl ?_
    refine st3 _ ?_
    refine XS.astore X3.here hx rfl (hb hby d9_39) rfl rfl (l' := #[vr a1, vr a2, vi (0 : Int32), vi (3 : Int32), .val .null, vr t'_3]) rfl ?_
    refine XS.aloadN X3.here hx rfl (hb hby d9_41) rfl rfl ?_
    show Steps p.tables e below (T3.setTop (mkF m 42 #[vr a1, vr a2, vi (0 : Int32), vi (3 : Int32), .val .null, vr t'_3] [(.ref a1)])) _
    refine XS.aload X3.here hx rfl (hb hby d9_42) rfl rfl ?_
    refine XS.iloadN X3.here hx rfl (hb hby d9_44) rfl ?_
    refine st8 _ ?_
    refine st11 _ ?_
    refine XS.aloadN X11.here hx rfl (hb hby d9_51) rfl rfl ?_
    refine XS.aload X11.here hx rfl (hb hby d9_52) rfl rfl ?_
    show Steps p.tables e below (T11.setTop (mkF m 54 #[vr a1, vr a2, vi (0 : Int32), vi (3 : Int32), .val .null, vr t'_3] [(.ref t'_3), (.ref a1)])) _
    refine st16 _ ?_
    exact X16.returnOut hx Bd.returns (hb hby d9_57) hr
  · have f19 : Exa Z h16 a1 "java/lang/String" := (f15.wr W16)
    have f20 : Fld Z h16 a1 "java/lang/String" "coder" "B" (.int (0 : Int32)) := (Fw11.other W16 (Or.inr (slot_ne (Or.inr (hw _ (List.mem_of_getElem? (i := 52) rfl))) (Or.inr (hw _ (List.mem_of_getElem? (i := 51) rfl))) (by decide) (t := .byte) (t' := (.array .byte)) (by decide) (by decide))))
    have f21 : AV Z h16 t'_3 k'_3 .byte 3 (fun i => Value.int (cf i)) := ((p3_2.other W11 (Ne.symm ne_a1_t'_3)).other W16 (Ne.symm ne_a1_t'_3))
    show Qs4_3 Z a1 a2 zcs k cf h0 n0 _ T16.heap _
    rw [e16]
    exact ⟨t'_3, k'_3, rfl, N16, K18, sz_t'_3, f19, Fw16, f20, f21⟩
theorem ef_rms1_3 (m : MethodId) (a1 : Addr) (a2 : Addr) : entryFrame m #[(.ref a1), (.ref a2)] 2 = mkF m 0 #[vr a1, vr a2] [] := by first | (simp [entryFrame, mkF, argsToLocals, Value.category]; done) | rfl
def Qs1_3 (Z : State) (a1 : Addr) (a2 : Addr) (zcs : Int32) (k : ClassId) (cf : Nat → Int32) (h0 : Heap) (n0 : Nat) (v : Option Value) (h : Heap) (L : List Loc) : Prop := ∃ (t' : Addr), ∃ (k' : ClassId), v = none ∧ Fr n0 L ∧ Keep h0 h [a1] ∧ h0.size ≤ t' ∧ (Exa Z h a1 "java/lang/String") ∧ (Fld Z h a1 "java/lang/String" "value" "[B" (.ref t')) ∧ (Fld Z h a1 "java/lang/String" "coder" "B" (.int (0 : Int32))) ∧ (AV Z h t' k' .byte 3 (fun i => Value.int (cf i)))
set_option maxRecDepth 65536 in
set_option maxHeartbeats 40000000 in
theorem rms1_3 (l : Launch) (Z : State) (a0 : Array Value) (hw : ∀ d ∈ tables_1, d.before a0 Z = true) (ws : List Jvm.Cond) (a1 : Addr) (a2 : Addr) (zcs : Int32) (k : ClassId) (cf : Nat → Int32) (h0 : Heap) (n0 : Nat) (Z0 : n0 ≤ h0.size) (S_COMPACT_STRINGS : Sta Z h0 "java/lang/String" "COMPACT_STRINGS" "Z" (.int zcs)) (hCS : ¬ zcs = 0) (E_a1 : Exa Z h0 a1 "java/lang/String") (g_a1 : n0 ≤ a1) (F_value_a1 : Fld Z h0 a1 "java/lang/String" "value" "[B" .null) (F_coder_a1 : Fld Z h0 a1 "java/lang/String" "coder" "B" (.int (0 : Int32))) (A_a2 : AV Z h0 a2 k .char 3 (fun i => Value.int (cf i))) (ne_a1_a2 : a1 ≠ a2) (hok : ∀ i, own_ok (cf i)) :
    MetFree l (⟨"java/lang/String", "<init>", "([C)V"⟩ : MethodName) (head1 (Jvm.Cond.code (⟨"java/lang/String", "<init>", "([C)V"⟩ : MethodName) jdk_42_method_3_code 2 none :: ws) ({ frames := 3, cells := 1, slots := 3, locals := 52 } : Room)) (fun a U => a = #[(.ref a1), (.ref a2)] ∧ Z.Warmed39 U.vm ∧ U.heap = h0) (fun _ _ _ _ _ => True) (fun _ U o U' => ∃ v L, o = .returned v ∧ Qs1_3 Z a1 a2 zcs k cf h0 n0 v U'.heap L ∧ FrameEnd U o U' L ({ frames := 3, cells := 1, slots := 3, locals := 52 } : Room).cells ({ frames := 3, cells := 1, slots := 3, locals := 52 } : Room).slots) := by
  refine MetFree.of_bodySF (plainFor_of_name pn_3) hisR ?_
  intro p e s m args below meth c s₁ Bd hml0 hP hK
  obtain ⟨rfl, hZ, hh⟩ := hP
  have hx := Bd.exec
  have hby := Bd.bytes
  have hml : c.maxLocals = 2 := hml0
  have hown : s.vm.findClass "java/lang/String" = some m.cls := findClass_of_methodNamed Bd.named
  have hnm := (name_of_methodNamed Bd.named Bd.method).1
  have X0 : Stand p l e ({ frames := 3, cells := 1, slots := 3, locals := 52 } : Room) s m #[(.ref a1), (.ref a2)] below meth c s₁ [] 0 0 := Stand.of_body Bd
  have e0 : s₁.heap = h0 := by rw [← hh, Bd.state]; rfl
  have N0 := Fr.nil n0
  show GoalS p.tables e below s ({ frames := 3, cells := 1, slots := 3, locals := 52 } : Room).cells ({ frames := 3, cells := 1, slots := 3, locals := 52 } : Room).slots (Qs1_3 Z a1 a2 zcs k cf h0 n0) (s₁.setTop (entryFrame m #[(.ref a1), (.ref a2)] 2))
  refine GoalS.lift (B := s₁.setTop (mkF m 0 #[vr a1, vr a2] [])) (fun t k => castTop (ef_rms1_3 m a1 a2) k) ?_
  have K0 : Keep h0 h0 [a1] := Keep.refl _ _
  obtain ⟨cl1, Ar1, -, sz1, -, -⟩ := id A_a2
  have le1 : cl1.slots.size.toInt32 = (3 : Int32) := by rw [sz1]; exact rfl
  obtain ⟨_, _, ⟨T2, L2, k2, n2⟩, -, X2, ⟨Lc2, hQ2, l2, y2, z2⟩, st2⟩ := X0.specialBack hx (y := (⟨"java/lang/String", "<init>", "([CIILjava/lang/Void;)V"⟩ : MethodName)) rfl hown (mvT hZ (hw _ (List.mem_of_getElem? (i := 45) rfl))) (mvT hZ (hw _ (List.mem_of_getElem? (i := 46) rfl))) (mvT hZ (hw _ (List.mem_of_getElem? (i := 48) rfl))) (by decide) (backOf (W := 0) (rms4_3 l Z a0 hw [] a1 a2 zcs k cf h0 n0 Z0 S_COMPACT_STRINGS hCS E_a1 g_a1 F_value_a1 F_coder_a1 A_a2 ne_a1_a2 hok) hZ (hw _ (List.mem_of_getElem? (i := 48) rfl)) (hw _ (List.mem_of_getElem? (i := 40) rfl)) (by decide) (by decide)) (g := (mkF m 6 #[vr a1, vr a2] [.null, (.int (3 : Int32)), (.int (0 : Int32)), (.ref a2), (.ref a1)])) rfl (by rw [hml]; rfl) (Steps.refl _) (a := a1) (argsL := [(.ref a2), (.int (0 : Int32)), (.int (3 : Int32)), .null]) (rest := []) (lenOf pd_14 rfl) rfl (by show 2 * 0 + _ ≤ _; exact Nat.le_of_eq rfl) (hb hby d8_6) (fun _ _ => ⟨rfl, e0, (by decide : 0 + 1 ≤ _), (by decide : 0 + 3 ≤ _)⟩)
  dsimp only [Pt.U, Pt.locs, Pt.cells, Pt.slots] at X2 l2 y2 z2 st2 hQ2
  subst y2 z2
  obtain ⟨t'_2, k'_2, rfl, N2q, p2_0, p2_1, p2_2, p2_3, p2_4, p2_5⟩ := hQ2
  have N2 : Fr n0 L2 := by rw [l2]; exact Fr.app N0 N2q
  have ns3 : ∀ x ∈ ([a1] : List Addr), ∀ cell : Cell, h0[x]? = some cell → cell.vm.isStatics = false := (allS (Exa.ns E_a1) all0)
  have z4 : n0 ≤ T2.heap.size := Nat.le_trans Z0 p2_0.1
  have K5 : Keep h0 T2.heap [a1] := K0.trans p2_0 (allS (Or.inl (List.mem_of_getElem? (i := 0) rfl)) all0)
  have ne_a1_t'_2 : a1 ≠ t'_2 := Nat.ne_of_lt (Nat.lt_of_lt_of_le E_a1.lt p2_1)
  have ne_a2_t'_2 : a2 ≠ t'_2 := Nat.ne_of_lt (Nat.lt_of_lt_of_le A_a2.lt p2_1)
  have g_t'_2 : n0 ≤ t'_2 := Nat.le_trans Z0 p2_1
  have sz_t'_2 : h0.size ≤ t'_2 := Nat.le_trans K0.1 p2_1
  obtain ⟨fs, hr, hrun, hended, hW, hsame⟩ := X2.leave (v := none) (fun _ => rfl)
  refine ⟨_, _, ?_, hrun, hended, _, _, rfl, ?_, ⟨_, rfl⟩, hW, hsame.mono (by decide) (by decide)⟩
  · show Steps p.tables e below (s₁.setTop (mkF m 0 #[vr a1, vr a2] [])) _
    refine XS.aloadN X0.here hx rfl (hb hby d8_0) rfl rfl ?_
    refine XS.aloadN X0.here hx rfl (hb hby d8_1) rfl rfl ?_
    refine XS.iconst X0.here hx rfl (hb hby d8_2) ?_
    refine XS.aloadN X0.here hx rfl (hb hby d8_3) rfl rfl ?_
    refine X0.arraylength hx (by rw [e0]; exact Ar1.1) (State.isArrayOf_alike hZ.alike Ar1.2.1) (g := (mkF m 4 #[vr a1, vr a2] [(.ref a2), (.int (0 : Int32)), (.ref a2), (.ref a1)])) rfl rfl (hb hby d8_4) _ ?_
    rw [le1]
    show Steps p.tables e below (s₁.setTop (mkF m 5 #[vr a1, vr a2] [(.int (3 : Int32)), (.int (0 : Int32)), (.ref a2), (.ref a1)])) _
    refine XS.aconstNull X0.here hx rfl (hb hby d8_5) ?_
    refine st2.trans ?_
    exact X2.returnOut hx Bd.returns (hb hby d8_9) hr
  · show Qs1_3 Z a1 a2 zcs k cf h0 n0 _ T2.heap _
    exact ⟨t'_2, k'_2, rfl, N2, K5, sz_t'_2, p2_2, p2_3, p2_4, p2_5⟩
theorem d7_59 : decode method_4_code 59 = .ok (.new 37, 3) := by decide +kernel
theorem d7_62 : decode method_4_code 62 = .ok (.dup, 1) := by decide +kernel
theorem d7_63 : decode method_4_code 63 = .ok (.iconst 3, 1) := by decide +kernel
theorem d7_64 : decode method_4_code 64 = .ok (.newarray .char, 2) := by decide +kernel
theorem d7_66 : decode method_4_code 66 = .ok (.dup, 1) := by decide +kernel
theorem d7_67 : decode method_4_code 67 = .ok (.iconst 0, 1) := by decide +kernel
theorem d7_68 : decode method_4_code 68 = .ok (.iload_n 1, 1) := by decide +kernel
theorem d7_69 : decode method_4_code 69 = .ok (.castore, 1) := by decide +kernel
theorem d7_70 : decode method_4_code 70 = .ok (.dup, 1) := by decide +kernel
theorem d7_71 : decode method_4_code 71 = .ok (.iconst 1, 1) := by decide +kernel
theorem d7_72 : decode method_4_code 72 = .ok (.iload_n 2, 1) := by decide +kernel
theorem d7_73 : decode method_4_code 73 = .ok (.castore, 1) := by decide +kernel
theorem d7_74 : decode method_4_code 74 = .ok (.dup, 1) := by decide +kernel
theorem d7_75 : decode method_4_code 75 = .ok (.iconst 2, 1) := by decide +kernel
theorem d7_76 : decode method_4_code 76 = .ok (.iload_n 3, 1) := by decide +kernel
theorem d7_77 : decode method_4_code 77 = .ok (.castore, 1) := by decide +kernel
theorem d7_78 : decode method_4_code 78 = .ok (.invokespecial 39, 3) := by decide +kernel
theorem d7_81 : decode method_4_code 81 = .ok (.areturn, 1) := by decide +kernel
theorem ef_rmmk3 (m : MethodId) (p2 : Int32) (p3 : Int32) (p4 : Int32) : entryFrame m #[(.int (3 : Int32)), (.int p2), (.int p3), (.int p4)] 4 = mkF m 0 #[vi (3 : Int32), vi p2, vi p3, vi p4] [] := by first | (simp [entryFrame, mkF, argsToLocals, Value.category]; done) | rfl
def Qmk3 (Z : State) (p2 : Int32) (p3 : Int32) (p4 : Int32) (zcs : Int32) (h0 : Heap) (n0 : Nat) (v : Option Value) (h : Heap) (L : List Loc) : Prop := ∃ (x' : Addr), ∃ (t' : Addr), ∃ (k' : ClassId), v = some (.ref x') ∧ Fr n0 L ∧ Keep h0 h [] ∧ h0.size ≤ x' ∧ h0.size ≤ t' ∧ x' ≠ t' ∧ (Exa Z h x' "java/lang/String") ∧ (Fld Z h x' "java/lang/String" "value" "[B" (.ref t')) ∧ (Fld Z h x' "java/lang/String" "coder" "B" (.int (0 : Int32))) ∧ (AV Z h t' k' .byte 3 (fun i => Value.int ((own_s3 p2 p3 p4) i)))
set_option maxRecDepth 65536 in
set_option maxHeartbeats 40000000 in
theorem rmmk3 (l : Launch) (Z : State) (a0 : Array Value) (hw : ∀ d ∈ tables_1, d.before a0 Z = true) (ws : List Jvm.Cond) (p2 : Int32) (p3 : Int32) (p4 : Int32) (zcs : Int32) (h0 : Heap) (n0 : Nat) (Z0 : n0 ≤ h0.size) (S_COMPACT_STRINGS : Sta Z h0 "java/lang/String" "COMPACT_STRINGS" "Z" (.int zcs)) (hCS : ¬ zcs = 0) (ok2 : own_ok p2) (ok3 : own_ok p3) (ok4 : own_ok p4) :
    MetFree l (⟨"com/example/verdict/verdict/saml/XmlScannerSkipPinLaw", "make", "(ICCC)Ljava/lang/String;"⟩ : MethodName) (head1 (Jvm.Cond.code (⟨"com/example/verdict/verdict/saml/XmlScannerSkipPinLaw", "make", "(ICCC)Ljava/lang/String;"⟩ : MethodName) method_4_code 4 (some (.object "java/lang/String")) :: ws) ({ frames := 4, cells := 3, slots := 10, locals := 66 } : Room)) (fun a U => a = #[(.int (3 : Int32)), (.int p2), (.int p3), (.int p4)] ∧ Z.Warmed39 U.vm ∧ U.heap = h0) (fun _ _ _ _ _ => True) (fun _ U o U' => ∃ v L, o = .returned v ∧ Qmk3 Z p2 p3 p4 zcs h0 n0 v U'.heap L ∧ FrameEnd U o U' L ({ frames := 4, cells := 3, slots := 10, locals := 66 } : Room).cells ({ frames := 4, cells := 3, slots := 10, locals := 66 } : Room).slots) := by
  refine MetFree.of_bodySF (plainFor_of_name pn_6) hisR ?_
  intro p e s m args below meth c s₁ Bd hml0 hP hK
  obtain ⟨rfl, hZ, hh⟩ := hP
  have hx := Bd.exec
  have hby := Bd.bytes
  have hml : c.maxLocals = 4 := hml0
  have hown : s.vm.findClass "com/example/verdict/verdict/saml/XmlScannerSkipPinLaw" = some m.cls := findClass_of_methodNamed Bd.named
  have hnm := (name_of_methodNamed Bd.named Bd.method).1
  have X0 : Stand p l e ({ frames := 4, cells := 3, slots := 10, locals := 66 } : Room) s m #[(.int (3 : Int32)), (.int p2), (.int p3), (.int p4)] below meth c s₁ [] 0 0 := Stand.of_body Bd
  have e0 : s₁.heap = h0 := by rw [← hh, Bd.state]; rfl
  have N0 := Fr.nil n0
  show GoalS p.tables e below s ({ frames := 4, cells := 3, slots := 10, locals := 66 } : Room).cells ({ frames := 4, cells := 3, slots := 10, locals := 66 } : Room).slots (Qmk3 Z p2 p3 p4 zcs h0 n0) (s₁.setTop (entryFrame m #[(.int (3 : Int32)), (.int p2), (.int p3), (.int p4)] 4))
  refine GoalS.lift (B := s₁.setTop (mkF m 0 #[vi (3 : Int32), vi p2, vi p3, vi p4] [])) (fun t k => castTop (ef_rmmk3 m p2 p3 p4) k) ?_
  have K0 : Keep h0 h0 [] := Keep.refl _ _
  obtain ⟨T1, h1, X1, e1, E1, A1, D1, -, st1⟩ := newO X0 hx hZ hown (hw _ (List.mem_of_getElem? (i := 38) rfl)) (hw _ (List.mem_of_getElem? (i := 39) rfl)) (hw _ (List.mem_of_getElem? (i := 40) rfl)) e0 (g := (mkF m 59 #[vi (3 : Int32), vi p2, vi p3, vi p4] [])) rfl (hb hby d7_59) (by decide) (by decide)
  obtain ⟨b1, g1⟩ : ∃ z, z = h0.size := ⟨_, rfl⟩
  rw [← g1] at A1 D1 st1
  have g_b1 : n0 ≤ b1 := Nat.le_trans Z0 (Nat.le_of_eq g1.symm)
  have sz_b1 : h0.size ≤ b1 := Nat.le_trans K0.1 (Nat.le_of_eq g1.symm)
  have z2 : n0 ≤ h1.size := Nat.le_trans Z0 E1.1
  have K3 : Keep h0 h1 [] := K0.ext E1
  have F_value_b1 : Fld Z h1 b1 "java/lang/String" "value" "[B" .null := D1 (Or.inr (hw _ (List.mem_of_getElem? (i := 51) rfl))) (ty := (.array .byte)) (by decide)
  have F_coder_b1 : Fld Z h1 b1 "java/lang/String" "coder" "B" (.int (0 : Int32)) := D1 (Or.inr (hw _ (List.mem_of_getElem? (i := 52) rfl))) (ty := .byte) (by decide)
  obtain ⟨T4, h4, k4, X4, e4, E4, A4, st4⟩ := newP X1 hx hZ (hw _ (List.mem_of_getElem? (i := 41) rfl)) e1 (g := (mkF m 64 #[vi (3 : Int32), vi p2, vi p3, vi p4] [(.int (3 : Int32)), (.ref b1), (.ref b1)])) rfl (hb hby d7_64) rfl (by decide) (cap := 3) (by decide) (by decide) (by decide) (by decide)
  obtain ⟨b4, g4⟩ : ∃ z, z = h1.size := ⟨_, rfl⟩
  rw [← g4] at A4 st4
  have g_b4 : n0 ≤ b4 := Nat.le_trans z2 (Nat.le_of_eq g4.symm)
  have sz_b4 : h0.size ≤ b4 := Nat.le_trans K3.1 (Nat.le_of_eq g4.symm)
  have ne_b1_b4 : b1 ≠ b4 := Nat.ne_of_lt (Nat.lt_of_lt_of_le A1.lt (Nat.le_of_eq g4.symm))
  have z5 : n0 ≤ h4.size := Nat.le_trans z2 E4.1
  have K6 : Keep h0 h4 [] := K3.ext E4
  have V4 : AV Z h4 b4 k4 .char 3 (fun i => Value.int ((fun _ => (0 : Int32)) i)) := AV.new A4 (by decide) (by decide) (by decide)
  obtain ⟨cl7, Ar7, kc7, sz7, -, -⟩ := id V4
  have hin7 : ¬ ((0 : Int32) < 0 ∨ cl7.slots.size ≤ ((0 : Int32)).toNatClampNeg) := AV.inb sz7 (show ¬ (0 : Int32) < 0 ∧ ((0 : Int32)).toNatClampNeg < 3 by decide)
  obtain ⟨T7, h7, X7, e7, W7, st7⟩ := stC X4 hx hZ e4 Ar7 (j := (0 : Int32)) hin7 (g := (mkF m 69 #[vi (3 : Int32), vi p2, vi p3, vi p4] [(.int p2), (.int (0 : Int32)), (.ref b4), (.ref b4), (.ref b1), (.ref b1)])) rfl rfl (hb hby d7_69)
  have z8 : n0 ≤ h7.size := Nat.le_trans z5 (Keep.of_wr W7).1
  have K9 : Keep h0 h7 [] := K6.wr W7 (Or.inr sz_b4)
  have V7 : AV Z h7 b4 k4 .char 3 (fun i => Value.int ((updI (fun _ => (0 : Int32)) 0 (p2).toUInt32.toUInt16.toUInt32.toInt32) i)) := AV.putI V4 W7 (AV.inx (show ¬ (0 : Int32) < 0 ∧ ((0 : Int32)).toNatClampNeg < 3 by decide))
  have N7 := Fr.snoc X7 N0 g_b4
  obtain ⟨cl10, Ar10, kc10, sz10, -, -⟩ := id V7
  have hin10 : ¬ ((1 : Int32) < 0 ∨ cl10.slots.size ≤ ((1 : Int32)).toNatClampNeg) := AV.inb sz10 (show ¬ (1 : Int32) < 0 ∧ ((1 : Int32)).toNatClampNeg < 3 by decide)
  obtain ⟨T10, h10, X10, e10, W10, st10⟩ := stC X7 hx hZ e7 Ar10 (j := (1 : Int32)) hin10 (g := (mkF m 73 #[vi (3 : Int32), vi p2, vi p3, vi p4] [(.int p3), (.int (1 : Int32)), (.ref b4), (.ref b4), (.ref b1), (.ref b1)])) rfl rfl (hb hby d7_73)
  have z11 : n0 ≤ h10.size := Nat.le_trans z8 (Keep.of_wr W10).1
  have K12 : Keep h0 h10 [] := K9.wr W10 (Or.inr sz_b4)
  have V10 : AV Z h10 b4 k4 .char 3 (fun i => Value.int ((updI (updI (fun _ => (0 : Int32)) 0 (p2).toUInt32.toUInt16.toUInt32.toInt32) 1 (p3).toUInt32.toUInt16.toUInt32.toInt32) i)) := AV.putI V7 W10 (AV.inx (show ¬ (1 : Int32) < 0 ∧ ((1 : Int32)).toNatClampNeg < 3 by decide))
  have N10 := Fr.snoc X10 N7 g_b4
  obtain ⟨cl13, Ar13, kc13, sz13, -, -⟩ := id V10
  have hin13 : ¬ ((2 : Int32) < 0 ∨ cl13.slots.size ≤ ((2 : Int32)).toNatClampNeg) := AV.inb sz13 (show ¬ (2 : Int32) < 0 ∧ ((2 : Int32)).toNatClampNeg < 3 by decide)
  obtain ⟨T13, h13, X13, e13, W13, st13⟩ := stC X10 hx hZ e10 Ar13 (j := (2 : Int32)) hin13 (g := (mkF m 77 #[vi (3 : Int32), vi p2, vi p3, vi p4] [(.int p4), (.int (2 : Int32)), (.ref b4), (.ref b4), (.ref b1), (.ref b1)])) rfl rfl (hb hby d7_77)
  have z14 : n0 ≤ h13.size := Nat.le_trans z11 (Keep.of_wr W13).1
  have K15 : Keep h0 h13 [] := K12.wr W13 (Or.inr sz_b4)
  have V13 : AV Z h13 b4 k4 .char 3 (fun i => Value.int ((updI (updI (updI (fun _ => (0 : Int32)) 0 (p2).toUInt32.toUInt16.toUInt32.toInt32) 1 (p3).toUInt32.toUInt16.toUInt32.toInt32) 2 (p4).toUInt32.toUInt16.toUInt32.toInt32) i)) := AV.putI V10 W13 (AV.inx (show ¬ (2 : Int32) < 0 ∧ ((2 : Int32)).toNatClampNeg < 3 by decide))
  have N13 := Fr.snoc X13 N10 g_b4
  have V16 : AV Z h13 b4 k4 .char 3 (fun i => Value.int ((own_s3 p2 p3 p4) i)) := (AV.conv V13 (fun i hi => congrArg Value.int (match i, hi with | 0, _ => own_u16 ok2 | 1, _ => own_u16 ok3 | 2, _ => own_u16 ok4 | i + 3, hi => absurd hi (by omega))))
  have f18 : Sta Z h13 "java/lang/String" "COMPACT_STRINGS" "Z" (.int zcs) := (((((S_COMPACT_STRINGS.ext E1).ext E4).wr W7).wr W10).wr W13)
  have f19 : Exa Z h13 b1 "java/lang/String" := ((((A1.ext E4).wr W7).wr W10).wr W13)
  have f20 : Fld Z h13 b1 "java/lang/String" "value" "[B" .null := ((((F_value_b1.ext E4).other W7 (Or.inl ne_b1_b4)).other W10 (Or.inl ne_b1_b4)).other W13 (Or.inl ne_b1_b4))
  have f21 : Fld Z h13 b1 "java/lang/String" "coder" "B" (.int (0 : Int32)) := ((((F_coder_b1.ext E4).other W7 (Or.inl ne_b1_b4)).other W10 (Or.inl ne_b1_b4)).other W13 (Or.inl ne_b1_b4))
  obtain ⟨_, _, ⟨T17, L17, k17, n17⟩, -, X17, ⟨Lc17, hQ17, l17, y17, z17⟩, st17⟩ := X13.specialBack hx (y := (⟨"java/lang/String", "<init>", "([C)V"⟩ : MethodName)) rfl hown (mvT hZ (hw _ (List.mem_of_getElem? (i := 42) rfl))) (mvT hZ (hw _ (List.mem_of_getElem? (i := 43) rfl))) (mvT hZ (hw _ (List.mem_of_getElem? (i := 44) rfl))) (by decide) (backOf (W := 1) (rms1_3 l Z a0 hw [] b1 b4 zcs k4 (own_s3 p2 p3 p4) h13 n0 z14 f18 hCS f19 g_b1 f20 f21 V16 ne_b1_b4 (own_s3ok ok2 ok3 ok4)) hZ (hw _ (List.mem_of_getElem? (i := 44) rfl)) (hw _ (List.mem_of_getElem? (i := 40) rfl)) (by decide) (by decide)) (g := (mkF m 78 #[vi (3 : Int32), vi p2, vi p3, vi p4] [(.ref b4), (.ref b1), (.ref b1)])) rfl (by rw [hml]; rfl) (Steps.refl _) (a := b1) (argsL := [(.ref b4)]) (rest := [(.ref b1)]) (lenOf pd_15 rfl) rfl (by show 2 * 0 + _ ≤ _; exact Nat.le_of_eq rfl) (hb hby d7_78) (fun _ _ => ⟨rfl, e13, (by decide : 2 + 1 ≤ _), (by decide : 7 + 3 ≤ _)⟩)
  dsimp only [Pt.U, Pt.locs, Pt.cells, Pt.slots] at X17 l17 y17 z17 st17 hQ17
  subst y17 z17
  obtain ⟨t'_17, k'_17, rfl, N17q, p17_0, p17_1, p17_2, p17_3, p17_4, p17_5⟩ := hQ17
  have N17 : Fr n0 L17 := by rw [l17]; exact Fr.app N13 N17q
  have ns22 : ∀ x ∈ ([b1] : List Addr), ∀ cell : Cell, h13[x]? = some cell → cell.vm.isStatics = false := (allS (Exa.ns f19) all0)
  have z23 : n0 ≤ T17.heap.size := Nat.le_trans z14 p17_0.1
  have K24 : Keep h0 T17.heap [] := K15.trans p17_0 (allS (Or.inr sz_b1) all0)
  have ne_b1_t'_17 : b1 ≠ t'_17 := Nat.ne_of_lt (Nat.lt_of_lt_of_le f19.lt p17_1)
  have ne_b4_t'_17 : b4 ≠ t'_17 := Nat.ne_of_lt (Nat.lt_of_lt_of_le V16.lt p17_1)
  have g_t'_17 : n0 ≤ t'_17 := Nat.le_trans z14 p17_1
  have sz_t'_17 : h0.size ≤ t'_17 := Nat.le_trans K15.1 p17_1
  obtain ⟨fs, hr, hrun, hended, hW, hsame⟩ := X17.leave (v := some (.ref b1)) (fun h => by rw [Bd.returns] at h; cases h)
  refine ⟨_, _, ?_, hrun, hended, _, _, rfl, ?_, ⟨_, rfl⟩, hW, hsame.mono (by decide) (by decide)⟩
  · show Steps p.tables e below (s₁.setTop (mkF m 0 #[vi (3 : Int32), vi p2, vi p3, vi p4] [])) _
    refine XS.iloadN X0.here hx rfl (hb hby d7_0) rfl ?_
    refine XS.ifYes X0.here hx rfl (pc0 := 1) (pc' := 15) rfl (hb hby d7_1) rfl ((if0 _ _).trans (feq (by decide : ¬ ((3 : Int32) = (0 : Int32)))).2) (by decide) (by decide) ?_
    refine XS.iloadN X0.here hx rfl (hb hby d7_15) rfl ?_
    refine XS.iconst X0.here hx rfl (hb hby d7_16) ?_
    refine XS.icmpYes X0.here hx rfl (pc0 := 17) (pc' := 35) rfl (hb hby d7_17) rfl ((feq (by decide : ¬ ((3 : Int32) = (1 : Int32)))).2) (by decide) (by decide) ?_
    refine XS.iloadN X0.here hx rfl (hb hby d7_35) rfl ?_
    show Steps p.tables e below (s₁.setTop (mkF m 36 #[vi (3 : Int32), vi p2, vi p3, vi p4] [(.int (3 : Int32))])) _
    refine XS.iconst X0.here hx rfl (hb hby d7_36) ?_
    refine XS.icmpYes X0.here hx rfl (pc0 := 37) (pc' := 59) rfl (hb hby d7_37) rfl ((feq (by decide : ¬ ((3 : Int32) = (2 : Int32)))).2) (by decide) (by decide) ?_
    refine st1 _ ?_
    refine XS.dup X1.here hx rfl (hb hby d7_62) rfl rfl ?_
    refine XS.iconst X1.here hx rfl (hb hby d7_63) ?_
    refine st4 _ ?_
    show Steps p.tables e below (T4.setTop (mkF m 66 #[vi (3 : Int32), vi p2, vi p3, vi p4] [(.ref b4), (.ref b1), (.ref b1)])) _
    refine XS.dup X4.here hx rfl (hb hby d7_66) rfl rfl ?_
    refine XS.iconst X4.here hx rfl (hb hby d7_67) ?_
    refine XS.iloadN X4.here hx rfl (hb hby d7_68) rfl ?_
    refine st7 _ ?_
    refine XS.dup X7.here hx rfl (hb hby d7_70) rfl rfl ?_
    refine XS.iconst X7.here hx rfl (hb hby d7_71) ?_
    show Steps p.tables e below (T7.setTop (mkF m 72 #[vi (3 : Int32), vi p2, vi p3, vi p4] [(.int (1 : Int32)), (.ref b4), (.ref b4), (.ref b1), (.ref b1)])) _
    refine XS.iloadN X7.here hx rfl (hb hby d7_72) rfl ?_
    refine st10 _ ?_
    refine XS.dup X10.here hx rfl (hb hby d7_74) rfl rfl ?_
    refine XS.iconst X10.here hx rfl (hb hby d7_75) ?_
    refine XS.iloadN X10.here hx rfl (hb hby d7_76) rfl ?_
    refine st13 _ ?_
    show Steps p.tables e below (T13.setTop (mkF m 78 #[vi (3 : Int32), vi p2, vi p3, vi p4] [(.ref b4), (.ref b1), (.ref b1)])) _
    refine st17.trans ?_
    show Steps p.tables e below (T17.setTop (mkF m 81 #[vi (3 : Int32), vi p2, vi p3, vi p4] [(.ref b1)])) _
    jvm_step X17.here [X17.here.top, hx, (hb hby d7_81), X17.method', Bd.returns, Value.isRef, FieldType.isReference]
    first | (intro acts; rw [hr _ acts rfl rfl rfl]) | rw [hr _ _ rfl rfl rfl]
    exact Steps.refl _
  · show Qmk3 Z p2 p3 p4 zcs h0 n0 _ T17.heap _
    exact ⟨b1, t'_17, k'_17, rfl, N17, K24, sz_b1, sz_t'_17, ne_b1_t'_17, p17_2, p17_3, p17_4, p17_5⟩
theorem d9_8 : decode jdk_42_method_149_code 8 = .ok (.aload_n 0, 1) := by decide +kernel
theorem d9_9 : decode jdk_42_method_149_code 9 = .ok (.ldc 7, 2) := by decide +kernel
theorem d9_11 : decode jdk_42_method_149_code 11 = .ok (.getfield 9, 3) := by decide +kernel
theorem d9_14 : decode jdk_42_method_149_code 14 = .ok (.putfield 9, 3) := by decide +kernel
theorem d9_17 : decode jdk_42_method_149_code 17 = .ok (.aload_n 0, 1) := by decide +kernel
theorem d9_18 : decode jdk_42_method_149_code 18 = .ok (.ldc 7, 2) := by decide +kernel
theorem d9_20 : decode jdk_42_method_149_code 20 = .ok (.getfield 15, 3) := by decide +kernel
theorem d9_23 : decode jdk_42_method_149_code 23 = .ok (.putfield 15, 3) := by decide +kernel
theorem d9_26 : decode jdk_42_method_149_code 26 = .ok (.return_, 1) := by decide +kernel
theorem ef_rms4_0 (m : MethodId) (a1 : Addr) (a2 : Addr) : entryFrame m #[(.ref a1), (.ref a2), (.int (0 : Int32)), (.int (0 : Int32)), .null] 6 = mkF m 0 #[vr a1, vr a2, vi (0 : Int32), vi (0 : Int32), .val .null, .unset] [] := by first | (simp [entryFrame, mkF, argsToLocals, Value.category]; done) | rfl
def Qs4_0 (Z : State) (a1 : Addr) (a2 : Addr) (h0 : Heap) (n0 : Nat) (v : Option Value) (h : Heap) (L : List Loc) : Prop := ∃ (t' : Addr), ∃ (k' : ClassId), v = none ∧ Fr n0 L ∧ Keep h0 h [a1] ∧ (Exa Z h a1 "java/lang/String") ∧ (Fld Z h a1 "java/lang/String" "value" "[B" (.ref t')) ∧ (Fld Z h a1 "java/lang/String" "coder" "B" (.int (0 : Int32))) ∧ (AV Z h t' k' .byte 0 (fun i => Value.int ((fun _ => (0 : Int32)) i))) ∧ a1 ≠ t'
set_option maxRecDepth 65536 in
set_option maxHeartbeats 40000000 in
theorem rms4_0 (l : Launch) (Z : State) (a0 : Array Value) (hw : ∀ d ∈ tables_1, d.before a0 Z = true) (ws : List Jvm.Cond) (a1 : Addr) (a2 : Addr) (h0 : Heap) (n0 : Nat) (Z0 : n0 ≤ h0.size) (E_a1 : Exa Z h0 a1 "java/lang/String") (g_a1 : n0 ≤ a1) (F_value_a1 : Fld Z h0 a1 "java/lang/String" "value" "[B" .null) (F_coder_a1 : Fld Z h0 a1 "java/lang/String" "coder" "B" (.int (0 : Int32))) (hkp : ∀ (b : Addr) (cl : Cell), Z.heap[b]? = some cl → h0[b]? = some cl) (hld : Jvm.Lit.constHeld Z "java/lang/String" 7) (hcw : Jvm.Lit.compactW.before a0 Z = true) :
    MetFree l (⟨"java/lang/String", "<init>", "([CIILjava/lang/Void;)V"⟩ : MethodName) (head1 (Jvm.Cond.code (⟨"java/lang/String", "<init>", "([CIILjava/lang/Void;)V"⟩ : MethodName) jdk_42_method_149_code 6 none :: ws) ({ frames := 1, cells := 2, slots := 4, locals := 12 } : Room)) (fun a U => a = #[(.ref a1), (.ref a2), (.int (0 : Int32)), (.int (0 : Int32)), .null] ∧ Z.Warmed39 U.vm ∧ U.heap = h0 ∧ IB Z U.vm []) (fun _ _ _ _ _ => True) (fun _ U o U' => ∃ v L, o = .returned v ∧ Qs4_0 Z a1 a2 h0 n0 v U'.heap L ∧ ReturnedEndW U o U' L ({ frames := 1, cells := 2, slots := 4, locals := 12 } : Room).cells ({ frames := 1, cells := 2, slots := 4, locals := 12 } : Room).slots) := by
  refine MetFree.of_bodySF (plainFor_of_name pn_3) hisR ?_
  intro p e s m args below meth c s₁ Bd hml0 hP hK
  obtain ⟨rfl, hZ, hh, hIB⟩ := hP
  have hx := Bd.exec
  have hby := Bd.bytes
  have hml : c.maxLocals = 6 := hml0
  have hown : s.vm.findClass "java/lang/String" = some m.cls := findClass_of_methodNamed Bd.named
  have hnm := (name_of_methodNamed Bd.named Bd.method).1
  have X0 : Stand p l e ({ frames := 1, cells := 2, slots := 4, locals := 12 } : Room) s m #[(.ref a1), (.ref a2), (.int (0 : Int32)), (.int (0 : Int32)), .null] below meth c s₁ [] 0 0 := Stand.of_body Bd
  have e0 : s₁.heap = h0 := by rw [← hh, Bd.state]; rfl
  have N0 := Fr.nil n0
  show GoalW p.tables e below s ({ frames := 1, cells := 2, slots := 4, locals := 12 } : Room).cells ({ frames := 1, cells := 2, slots := 4, locals := 12 } : Room).slots (Qs4_0 Z a1 a2 h0 n0) (s₁.setTop (entryFrame m #[(.ref a1), (.ref a2), (.int (0 : Int32)), (.int (0 : Int32)), .null] 6))
  refine GoalW.lift (B := s₁.setTop (mkF m 0 #[vr a1, vr a2, vi (0 : Int32), vi (0 : Int32), .val .null, .unset] [])) (fun t k => castTop (ef_rms4_0 m a1 a2) k) ?_
  have K0 : Keep h0 h0 [a1] := Keep.refl _ _
  obtain ⟨T1, X1, e1, st1⟩ := initO X0 hx hZ hown (hw _ (List.mem_of_getElem? (i := 49) rfl)) (hw _ (List.mem_of_getElem? (i := 8) rfl)) (hw _ (List.mem_of_getElem? (i := 9) rfl)) e0 (g := (mkF m 1 #[vr a1, vr a2, vi (0 : Int32), vi (0 : Int32), .val .null, .unset] [(.ref a1)])) rfl (by rw [hml]; rfl) rfl (hb hby d9_1) (by decide) (W := 0) (by show 2 * 0 + _ ≤ _; exact Nat.le_of_eq rfl) (by decide)
  have hZ0 := hZ
  have hown0 := hown
  obtain ⟨la2, T2, h2, kq2, lb2, lk2, X2, e2, E2, hS2, hk2, hZ, hown, pe2, pc2, pv2, pa2, -, -, -, LT2, st2⟩ := ldcSVL (s := s) (vm0 := s.vm) (show Stand p l e _ (s.setVm s.vm) _ _ _ _ _ _ _ _ _ from X1) hx hZ hown (hw _ (List.mem_of_getElem? (i := 50) rfl)) (fun d hd => hw d (own_sa d hd)) e1 ((State.WarmedH.refl s).since h0.size) (Nat.le_refl _) (Fr.nil _) (fun b cl q => by rw [hh]; exact hkp b cl q) hIB (by simp) hld hcw (vs := []) (z := (0 : Int32)) ⟨by decide, by decide⟩ (by decide) (by decide) (g := (mkF m 9 #[vr a1, vr a2, vi (0 : Int32), vi (0 : Int32), .val .null, .unset] [(.ref a1)])) rfl (hb hby d9_9) (n := 0) (by decide) (by decide) (by decide) (by decide)
  have z3 : n0 ≤ h2.size := Nat.le_trans Z0 E2.1
  have K4 : Keep h0 h2 [a1] := K0.ext E2
  have V2 : AV Z h2 lb2 lk2 .byte 0 (fun i => Value.int ((fun _ => (0 : Int32)) i)) := own_av0 pa2
  have f5 : Fld Z h2 a1 "java/lang/String" "value" "[B" .null := (F_value_a1.ext E2)
  have ne_la2_a1 : la2 ≠ a1 := Fld.ne pv2 f5 (by simp)
  have f6 : Exa Z h2 a1 "java/lang/String" := (E_a1.ext E2)
  have ne_a1_lb2 : a1 ≠ lb2 := own_ne0 f6 V2 (hw _ (List.mem_of_getElem? (i := 39) rfl))
  obtain ⟨T7, X7, e7, st7⟩ := getF X2 hx hZ hown (host := "") (Or.inl (hw _ (List.mem_of_getElem? (i := 55) rfl))) Via.refl e2 pv2 (g := (mkF m 11 #[vr a1, vr a2, vi (0 : Int32), vi (0 : Int32), .val .null, .unset] [(.ref la2), (.ref a1)])) rfl rfl (hb hby d9_11)
  obtain ⟨T8, h8, X8, e8, W8, st8⟩ := putF X7 hx hZ hown (host := "") (Or.inl (hw _ (List.mem_of_getElem? (i := 55) rfl))) Via.refl e7 f5 f6 (Or.inr ⟨(hw _ (List.mem_of_getElem? (i := 51) rfl)), rfl, hnm⟩) (hw _ (List.mem_of_getElem? (i := 39) rfl)) (ty := (.array .byte)) (by decide) rfl rfl (g := (mkF m 14 #[vr a1, vr a2, vi (0 : Int32), vi (0 : Int32), .val .null, .unset] [(.ref lb2), (.ref a1)])) rfl rfl (hb hby d9_14)
  have z9 : n0 ≤ h8.size := Nat.le_trans z3 (Keep.of_wr W8).1
  have kz10 : kq2 ≤ h8.size := Nat.le_trans hk2 (Keep.of_wr W8).1
  have K11 : Keep h0 h8 [a1] := K4.wr W8 (Or.inl (List.mem_of_getElem? (i := 0) rfl))
  have Fw8 : Fld Z h8 a1 "java/lang/String" "value" "[B" (.ref lb2) := f5.same W8
  have N8 := Fr.snoc X8 N0 g_a1
  have f12 : Fld Z h8 la2 "java/lang/String" "coder" "B" (.int (0 : Int32)) := (pc2.other W8 (Or.inl ne_la2_a1))
  obtain ⟨T13, X13, e13, st13⟩ := getF X8 hx hZ hown (host := "") (Or.inl (hw _ (List.mem_of_getElem? (i := 56) rfl))) Via.refl e8 f12 (g := (mkF m 20 #[vr a1, vr a2, vi (0 : Int32), vi (0 : Int32), .val .null, .unset] [(.ref la2), (.ref a1)])) rfl rfl (hb hby d9_20)
  have f14 : Fld Z h8 a1 "java/lang/String" "coder" "B" (.int (0 : Int32)) := ((F_coder_a1.ext E2).other W8 (Or.inr (slot_ne (Or.inr (hw _ (List.mem_of_getElem? (i := 52) rfl))) (Or.inr (hw _ (List.mem_of_getElem? (i := 51) rfl))) (by decide) (t := .byte) (t' := (.array .byte)) (by decide) (by decide))))
  have f15 : Exa Z h8 a1 "java/lang/String" := (f6.wr W8)
  obtain ⟨T16, h16, X16, e16, W16, st16⟩ := putFN X13 hx hZ hown (hw _ (List.mem_of_getElem? (i := 56) rfl)) Via.refl e13 f14 f15 (Or.inr ⟨(hw _ (List.mem_of_getElem? (i := 52) rfl)), rfl, hnm⟩) (hw _ (List.mem_of_getElem? (i := 39) rfl)) (ty := .byte) (v' := (.int (0 : Int32))) (by decide) rfl rfl (g := (mkF m 23 #[vr a1, vr a2, vi (0 : Int32), vi (0 : Int32), .val .null, .unset] [(.int (0 : Int32)), (.ref a1)])) rfl rfl (hb hby d9_23)
  have z17 : n0 ≤ h16.size := Nat.le_trans z9 (Keep.of_wr W16).1
  have kz18 : kq2 ≤ h16.size := Nat.le_trans kz10 (Keep.of_wr W16).1
  have K19 : Keep h0 h16 [a1] := K11.wr W16 (Or.inl (List.mem_of_getElem? (i := 0) rfl))
  have Fw16 : Fld Z h16 a1 "java/lang/String" "coder" "B" (.int (0 : Int32)) := f14.same W16
  have N16 := Fr.snoc X16 N8 g_a1
  obtain ⟨fs, hr, hrun, hended, hRW⟩ := X16.leaveW hS2 (by rw [e16]; exact kz18) (v := none) (fun _ => rfl)
  refine ⟨_, _, ?_, hrun, hended, _, _, rfl, ?_, own_monoW hRW (by decide) (by decide)⟩
  · show Steps p.tables e below (s₁.setTop (mkF m 0 #[vr a1, vr a2, vi (0 : Int32), vi (0 : Int32), .val .null, .unset] [])) _
    refine XS.aloadN X0.here hx rfl (hb hby d9_0) rfl rfl ?_
    refine st1 _ ?_
    refine XS.iloadN X1.here hx rfl (hb hby d9_4) rfl ?_
    refine XS.ifNo X1.here hx rfl (hb hby d9_5) rfl ((if0 _ _).trans (teq (by decide : (0 : Int32) = (0 : Int32))).2) ?_
    refine XS.aloadN X1.here hx rfl (hb hby d9_8) rfl rfl ?_
    refine st2 _ ?_
    show Steps p.tables e below (T2.setTop (mkF m 11 #[vr a1, vr a2, vi (0 : Int32), vi (0 : Int32), .val .null, .unset] [(.ref la2), (.ref a1)])) _
    refine st7 _ ?_
    refine st8 _ ?_
    refine XS.aloadN X8.here hx rfl (hb hby d9_17) rfl rfl ?_
    refine ldcAgain X8 hx hZ hown (hw _ (List.mem_of_getElem? (i := 50) rfl)) LT2 (g := (mkF m 18 #[vr a1, vr a2, vi (0 : Int32), vi (0 : Int32), .val .null, .unset] [(.ref a1)])) rfl (hb hby d9_18) _ ?_
    refine st13 _ ?_
    refine st16 _ ?_
    show Steps p.tables e below (T16.setTop (mkF m 26 #[vr a1, vr a2, vi (0 : Int32), vi (0 : Int32), .val .null, .unset] [])) _
    exact X16.returnOut hx Bd.returns (hb hby d9_26) hr
  · have f20 : Exa Z h16 a1 "java/lang/String" := (f15.wr W16)
    have f21 : Fld Z h16 a1 "java/lang/String" "value" "[B" (.ref lb2) := (Fw8.other W16 (Or.inr (slot_ne (Or.inr (hw _ (List.mem_of_getElem? (i := 51) rfl))) (Or.inr (hw _ (List.mem_of_getElem? (i := 52) rfl))) (by decide) (t := (.array .byte)) (t' := .byte) (by decide) (by decide))))
    have f22 : AV Z h16 lb2 lk2 .byte 0 (fun i => Value.int ((fun _ => (0 : Int32)) i)) := ((V2.other W8 (Ne.symm ne_a1_lb2)).other W16 (Ne.symm ne_a1_lb2))
    show Qs4_0 Z a1 a2 h0 n0 _ T16.heap _
    rw [e16]
    exact ⟨lb2, lk2, rfl, N16, K19, f20, f21, Fw16, f22, ne_a1_lb2⟩
theorem ef_rms1_0 (m : MethodId) (a1 : Addr) (a2 : Addr) : entryFrame m #[(.ref a1), (.ref a2)] 2 = mkF m 0 #[vr a1, vr a2] [] := by first | (simp [entryFrame, mkF, argsToLocals, Value.category]; done) | rfl
def Qs1_0 (Z : State) (a1 : Addr) (a2 : Addr) (k : ClassId) (cf : Nat → Int32) (h0 : Heap) (n0 : Nat) (v : Option Value) (h : Heap) (L : List Loc) : Prop := ∃ (t' : Addr), ∃ (k' : ClassId), v = none ∧ Fr n0 L ∧ Keep h0 h [a1] ∧ (Exa Z h a1 "java/lang/String") ∧ (Fld Z h a1 "java/lang/String" "value" "[B" (.ref t')) ∧ (Fld Z h a1 "java/lang/String" "coder" "B" (.int (0 : Int32))) ∧ (AV Z h t' k' .byte 0 (fun i => Value.int ((fun _ => (0 : Int32)) i))) ∧ a1 ≠ t'
set_option maxRecDepth 65536 in
set_option maxHeartbeats 40000000 in
theorem rms1_0 (l : Launch) (Z : State) (a0 : Array Value) (hw : ∀ d ∈ tables_1, d.before a0 Z = true) (ws : List Jvm.Cond) (a1 : Addr) (a2 : Addr) (k : ClassId) (cf : Nat → Int32) (h0 : Heap) (n0 : Nat) (Z0 : n0 ≤ h0.size) (E_a1 : Exa Z h0 a1 "java/lang/String") (g_a1 : n0 ≤ a1) (F_value_a1 : Fld Z h0 a1 "java/lang/String" "value" "[B" .null) (F_coder_a1 : Fld Z h0 a1 "java/lang/String" "coder" "B" (.int (0 : Int32))) (A_a2 : AV Z h0 a2 k .char 0 (fun i => Value.int (cf i))) (hkp : ∀ (b : Addr) (cl : Cell), Z.heap[b]? = some cl → h0[b]? = some cl) (hld : Jvm.Lit.constHeld Z "java/lang/String" 7) (hcw : Jvm.Lit.compactW.before a0 Z = true) :
    MetFree l (⟨"java/lang/String", "<init>", "([C)V"⟩ : MethodName) (head1 (Jvm.Cond.code (⟨"java/lang/String", "<init>", "([C)V"⟩ : MethodName) jdk_42_method_3_code 2 none :: ws) ({ frames := 2, cells := 2, slots := 4, locals := 29 } : Room)) (fun a U => a = #[(.ref a1), (.ref a2)] ∧ Z.Warmed39 U.vm ∧ U.heap = h0 ∧ IB Z U.vm []) (fun _ _ _ _ _ => True) (fun _ U o U' => ∃ v L, o = .returned v ∧ Qs1_0 Z a1 a2 k cf h0 n0 v U'.heap L ∧ ReturnedEndW U o U' L ({ frames := 2, cells := 2, slots := 4, locals := 29 } : Room).cells ({ frames := 2, cells := 2, slots := 4, locals := 29 } : Room).slots) := by
  refine MetFree.of_bodySF (plainFor_of_name pn_3) hisR ?_
  intro p e s m args below meth c s₁ Bd hml0 hP hK
  obtain ⟨rfl, hZ, hh, hIB⟩ := hP
  have hx := Bd.exec
  have hby := Bd.bytes
  have hml : c.maxLocals = 2 := hml0
  have hown : s.vm.findClass "java/lang/String" = some m.cls := findClass_of_methodNamed Bd.named
  have hnm := (name_of_methodNamed Bd.named Bd.method).1
  have X0 : Stand p l e ({ frames := 2, cells := 2, slots := 4, locals := 29 } : Room) s m #[(.ref a1), (.ref a2)] below meth c s₁ [] 0 0 := Stand.of_body Bd
  have e0 : s₁.heap = h0 := by rw [← hh, Bd.state]; rfl
  have N0 := Fr.nil n0
  show GoalW p.tables e below s ({ frames := 2, cells := 2, slots := 4, locals := 29 } : Room).cells ({ frames := 2, cells := 2, slots := 4, locals := 29 } : Room).slots (Qs1_0 Z a1 a2 k cf h0 n0) (s₁.setTop (entryFrame m #[(.ref a1), (.ref a2)] 2))
  refine GoalW.lift (B := s₁.setTop (mkF m 0 #[vr a1, vr a2] [])) (fun t k => castTop (ef_rms1_0 m a1 a2) k) ?_
  have K0 : Keep h0 h0 [a1] := Keep.refl _ _
  obtain ⟨cl1, Ar1, -, sz1, -, -⟩ := id A_a2
  have le1 : cl1.slots.size.toInt32 = (0 : Int32) := by rw [sz1]; exact rfl
  obtain ⟨_, _, ⟨T2, L2, k2, n2⟩, -, X2, hS2, hgr2, ⟨Lc2, hQ2, l2, y2, z2⟩, st2⟩ := X0.specialBackS hx (y := (⟨"java/lang/String", "<init>", "([CIILjava/lang/Void;)V"⟩ : MethodName)) rfl hown (mvT hZ (hw _ (List.mem_of_getElem? (i := 45) rfl))) (mvT hZ (hw _ (List.mem_of_getElem? (i := 46) rfl))) (mvT hZ (hw _ (List.mem_of_getElem? (i := 48) rfl))) (by decide) (backOfI (W := 0) (rms4_0 l Z a0 hw [] a1 a2 h0 n0 Z0 E_a1 g_a1 F_value_a1 F_coder_a1 hkp hld hcw) hZ (hw _ (List.mem_of_getElem? (i := 48) rfl)) (hw _ (List.mem_of_getElem? (i := 40) rfl)) (by decide) (by decide) hIB) (g := (mkF m 6 #[vr a1, vr a2] [.null, (.int (0 : Int32)), (.int (0 : Int32)), (.ref a2), (.ref a1)])) rfl (by rw [hml]; rfl) (Steps.refl _) (a := a1) (argsL := [(.ref a2), (.int (0 : Int32)), (.int (0 : Int32)), .null]) (rest := []) (lenOf pd_14 rfl) rfl (by show 2 * 0 + _ ≤ _; exact Nat.le_of_eq rfl) (hb hby d8_6) (fun _ _ => ⟨rfl, e0, (by decide : 0 + 2 ≤ _), (by decide : 0 + 4 ≤ _)⟩)
  dsimp only [Pt.U, Pt.locs, Pt.cells, Pt.slots] at X2 l2 y2 z2 st2 hQ2 hS2 hgr2
  subst y2 z2
  have hZ0 := hZ
  have hown0 := hown
  have hZ : Z.Warmed39 (s.setVm T2.vm).vm := State.Warmed39.trans hZ hS2.1
  have hown : (s.setVm T2.vm).vm.findClass "java/lang/String" = some m.cls := (hS2.1.alike.findClass _ _).trans hown
  obtain ⟨t'_2, k'_2, rfl, N2q, p2_0, p2_1, p2_2, p2_3, p2_4, p2_5⟩ := hQ2
  have N2 : Fr n0 L2 := by rw [l2]; exact Fr.app N0 N2q
  have z3 : n0 ≤ T2.heap.size := Nat.le_trans Z0 p2_0.1
  have K4 : Keep h0 T2.heap [a1] := K0.trans p2_0 (allS (Or.inl (List.mem_of_getElem? (i := 0) rfl)) all0)
  obtain ⟨fs, hr, hrun, hended, hRW⟩ := X2.leaveW hS2 (Nat.le_refl T2.heap.size) (v := none) (fun _ => rfl)
  refine ⟨_, _, ?_, hrun, hended, _, _, rfl, ?_, own_monoW hRW (by decide) (by decide)⟩
  · show Steps p.tables e below (s₁.setTop (mkF m 0 #[vr a1, vr a2] [])) _
    refine XS.aloadN X0.here hx rfl (hb hby d8_0) rfl rfl ?_
    refine XS.aloadN X0.here hx rfl (hb hby d8_1) rfl rfl ?_
    refine XS.iconst X0.here hx rfl (hb hby d8_2) ?_
    refine XS.aloadN X0.here hx rfl (hb hby d8_3) rfl rfl ?_
    refine X0.arraylength hx (by rw [e0]; exact Ar1.1) (State.isArrayOf_alike hZ0.alike Ar1.2.1) (g := (mkF m 4 #[vr a1, vr a2] [(.ref a2), (.int (0 : Int32)), (.ref a2), (.ref a1)])) rfl rfl (hb hby d8_4) _ ?_
    rw [le1]
    show Steps p.tables e below (s₁.setTop (mkF m 5 #[vr a1, vr a2] [(.int (0 : Int32)), (.int (0 : Int32)), (.ref a2), (.ref a1)])) _
    refine XS.aconstNull X0.here hx rfl (hb hby d8_5) ?_
    refine st2.trans ?_
    exact X2.returnOut hx Bd.returns (hb hby d8_9) hr
  · show Qs1_0 Z a1 a2 k cf h0 n0 _ T2.heap _
    exact ⟨t'_2, k'_2, rfl, N2, K4, p2_1, p2_2, p2_3, p2_4, p2_5⟩
theorem d7_4 : decode method_4_code 4 = .ok (.new 37, 3) := by decide +kernel
theorem d7_7 : decode method_4_code 7 = .ok (.dup, 1) := by decide +kernel
theorem d7_8 : decode method_4_code 8 = .ok (.iconst 0, 1) := by decide +kernel
theorem d7_9 : decode method_4_code 9 = .ok (.newarray .char, 2) := by decide +kernel
theorem d7_11 : decode method_4_code 11 = .ok (.invokespecial 39, 3) := by decide +kernel
theorem d7_14 : decode method_4_code 14 = .ok (.areturn, 1) := by decide +kernel
theorem ef_rmmk0 (m : MethodId) (p2 : Int32) (p3 : Int32) (p4 : Int32) : entryFrame m #[(.int (0 : Int32)), (.int p2), (.int p3), (.int p4)] 4 = mkF m 0 #[vi (0 : Int32), vi p2, vi p3, vi p4] [] := by first | (simp [entryFrame, mkF, argsToLocals, Value.category]; done) | rfl
def Qmk0 (Z : State) (p2 : Int32) (p3 : Int32) (p4 : Int32) (h0 : Heap) (n0 : Nat) (v : Option Value) (h : Heap) (L : List Loc) : Prop := ∃ (x' : Addr), ∃ (t' : Addr), ∃ (k' : ClassId), v = some (.ref x') ∧ Fr n0 L ∧ Keep h0 h [] ∧ h0.size ≤ x' ∧ x' ≠ t' ∧ (Exa Z h x' "java/lang/String") ∧ (Fld Z h x' "java/lang/String" "value" "[B" (.ref t')) ∧ (Fld Z h x' "java/lang/String" "coder" "B" (.int (0 : Int32))) ∧ (AV Z h t' k' .byte 0 (fun i => Value.int ((fun _ => (0 : Int32)) i)))
set_option maxRecDepth 65536 in
set_option maxHeartbeats 40000000 in
theorem rmmk0 (l : Launch) (Z : State) (a0 : Array Value) (hw : ∀ d ∈ tables_1, d.before a0 Z = true) (ws : List Jvm.Cond) (p2 : Int32) (p3 : Int32) (p4 : Int32) (h0 : Heap) (n0 : Nat) (Z0 : n0 ≤ h0.size) (hkp : ∀ (b : Addr) (cl : Cell), Z.heap[b]? = some cl → h0[b]? = some cl) (hld : Jvm.Lit.constHeld Z "java/lang/String" 7) (hcw : Jvm.Lit.compactW.before a0 Z = true) :
    MetFree l (⟨"com/example/verdict/verdict/saml/XmlScannerSkipPinLaw", "make", "(ICCC)Ljava/lang/String;"⟩ : MethodName) (head1 (Jvm.Cond.code (⟨"com/example/verdict/verdict/saml/XmlScannerSkipPinLaw", "make", "(ICCC)Ljava/lang/String;"⟩ : MethodName) method_4_code 4 (some (.object "java/lang/String")) :: ws) ({ frames := 3, cells := 4, slots := 8, locals := 43 } : Room)) (fun a U => a = #[(.int (0 : Int32)), (.int p2), (.int p3), (.int p4)] ∧ Z.Warmed39 U.vm ∧ U.heap = h0 ∧ IB Z U.vm []) (fun _ _ _ _ _ => True) (fun _ U o U' => ∃ v L, o = .returned v ∧ Qmk0 Z p2 p3 p4 h0 n0 v U'.heap L ∧ ReturnedEndW U o U' L ({ frames := 3, cells := 4, slots := 8, locals := 43 } : Room).cells ({ frames := 3, cells := 4, slots := 8, locals := 43 } : Room).slots) := by
  refine MetFree.of_bodySF (plainFor_of_name pn_6) hisR ?_
  intro p e s m args below meth c s₁ Bd hml0 hP hK
  obtain ⟨rfl, hZ, hh, hIB⟩ := hP
  have hx := Bd.exec
  have hby := Bd.bytes
  have hml : c.maxLocals = 4 := hml0
  have hown : s.vm.findClass "com/example/verdict/verdict/saml/XmlScannerSkipPinLaw" = some m.cls := findClass_of_methodNamed Bd.named
  have hnm := (name_of_methodNamed Bd.named Bd.method).1
  have X0 : Stand p l e ({ frames := 3, cells := 4, slots := 8, locals := 43 } : Room) s m #[(.int (0 : Int32)), (.int p2), (.int p3), (.int p4)] below meth c s₁ [] 0 0 := Stand.of_body Bd
  have e0 : s₁.heap = h0 := by rw [← hh, Bd.state]; rfl
  have N0 := Fr.nil n0
  show GoalW p.tables e below s ({ frames := 3, cells := 4, slots := 8, locals := 43 } : Room).cells ({ frames := 3, cells := 4, slots := 8, locals := 43 } : Room).slots (Qmk0 Z p2 p3 p4 h0 n0) (s₁.setTop (entryFrame m #[(.int (0 : Int32)), (.int p2), (.int p3), (.int p4)] 4))
  refine GoalW.lift (B := s₁.setTop (mkF m 0 #[vi (0 : Int32), vi p2, vi p3, vi p4] [])) (fun t k => castTop (ef_rmmk0 m p2 p3 p4) k) ?_
  have K0 : Keep h0 h0 [] := Keep.refl _ _
  obtain ⟨T1, h1, X1, e1, E1, A1, D1, -, st1⟩ := newO X0 hx hZ hown (hw _ (List.mem_of_getElem? (i := 38) rfl)) (hw _ (List.mem_of_getElem? (i := 39) rfl)) (hw _ (List.mem_of_getElem? (i := 40) rfl)) e0 (g := (mkF m 4 #[vi (0 : Int32), vi p2, vi p3, vi p4] [])) rfl (hb hby d7_4) (by decide) (by decide)
  obtain ⟨b1, g1⟩ : ∃ z, z = h0.size := ⟨_, rfl⟩
  rw [← g1] at A1 D1 st1
  have g_b1 : n0 ≤ b1 := Nat.le_trans Z0 (Nat.le_of_eq g1.symm)
  have sz_b1 : h0.size ≤ b1 := Nat.le_trans K0.1 (Nat.le_of_eq g1.symm)
  have z2 : n0 ≤ h1.size := Nat.le_trans Z0 E1.1
  have K3 : Keep h0 h1 [] := K0.ext E1
  have F_value_b1 : Fld Z h1 b1 "java/lang/String" "value" "[B" .null := D1 (Or.inr (hw _ (List.mem_of_getElem? (i := 51) rfl))) (ty := (.array .byte)) (by decide)
  have F_coder_b1 : Fld Z h1 b1 "java/lang/String" "coder" "B" (.int (0 : Int32)) := D1 (Or.inr (hw _ (List.mem_of_getElem? (i := 52) rfl))) (ty := .byte) (by decide)
  obtain ⟨T4, h4, k4, X4, e4, E4, A4, st4⟩ := newP X1 hx hZ (hw _ (List.mem_of_getElem? (i := 41) rfl)) e1 (g := (mkF m 9 #[vi (0 : Int32), vi p2, vi p3, vi p4] [(.int (0 : Int32)), (.ref b1), (.ref b1)])) rfl (hb hby d7_9) rfl (by decide) (cap := 0) (by decide) (by decide) (by decide) (by decide)
  obtain ⟨b4, g4⟩ : ∃ z, z = h1.size := ⟨_, rfl⟩
  rw [← g4] at A4 st4
  have g_b4 : n0 ≤ b4 := Nat.le_trans z2 (Nat.le_of_eq g4.symm)
  have sz_b4 : h0.size ≤ b4 := Nat.le_trans K3.1 (Nat.le_of_eq g4.symm)
  have ne_b1_b4 : b1 ≠ b4 := Nat.ne_of_lt (Nat.lt_of_lt_of_le A1.lt (Nat.le_of_eq g4.symm))
  have z5 : n0 ≤ h4.size := Nat.le_trans z2 E4.1
  have K6 : Keep h0 h4 [] := K3.ext E4
  have V4 : AV Z h4 b4 k4 .char 0 (fun i => Value.int ((fun _ => (0 : Int32)) i)) := AV.new A4 (by decide) (by decide) (by decide)
  have f8 : Exa Z h4 b1 "java/lang/String" := (A1.ext E4)
  have f9 : Fld Z h4 b1 "java/lang/String" "value" "[B" .null := (F_value_b1.ext E4)
  have f10 : Fld Z h4 b1 "java/lang/String" "coder" "B" (.int (0 : Int32)) := (F_coder_b1.ext E4)
  obtain ⟨_, _, ⟨T7, L7, k7, n7⟩, -, X7, hS7, hgr7, ⟨Lc7, hQ7, l7, y7, z7⟩, st7⟩ := X4.specialBackS hx (y := (⟨"java/lang/String", "<init>", "([C)V"⟩ : MethodName)) rfl hown (mvT hZ (hw _ (List.mem_of_getElem? (i := 42) rfl))) (mvT hZ (hw _ (List.mem_of_getElem? (i := 43) rfl))) (mvT hZ (hw _ (List.mem_of_getElem? (i := 44) rfl))) (by decide) (backOfI (W := 1) (rms1_0 l Z a0 hw [] b1 b4 k4 (fun _ => (0 : Int32)) h4 n0 z5 f8 g_b1 f9 f10 V4 (fun b cl q => K6.2.1 b cl (hkp b cl q) nin0) hld hcw) hZ (hw _ (List.mem_of_getElem? (i := 44) rfl)) (hw _ (List.mem_of_getElem? (i := 40) rfl)) (by decide) (by decide) hIB) (g := (mkF m 11 #[vi (0 : Int32), vi p2, vi p3, vi p4] [(.ref b4), (.ref b1), (.ref b1)])) rfl (by rw [hml]; rfl) (Steps.refl _) (a := b1) (argsL := [(.ref b4)]) (rest := [(.ref b1)]) (lenOf pd_15 rfl) rfl (by show 2 * 0 + _ ≤ _; exact Nat.le_of_eq rfl) (hb hby d7_11) (fun _ _ => ⟨rfl, e4, (by decide : 2 + 2 ≤ _), (by decide : 4 + 4 ≤ _)⟩)
  dsimp only [Pt.U, Pt.locs, Pt.cells, Pt.slots] at X7 l7 y7 z7 st7 hQ7 hS7 hgr7
  subst y7 z7
  have hZ0 := hZ
  have hown0 := hown
  have hZ : Z.Warmed39 (s.setVm T7.vm).vm := State.Warmed39.trans hZ hS7.1
  have hown : (s.setVm T7.vm).vm.findClass "com/example/verdict/verdict/saml/XmlScannerSkipPinLaw" = some m.cls := (hS7.1.alike.findClass _ _).trans hown
  obtain ⟨t'_7, k'_7, rfl, N7q, p7_0, p7_1, p7_2, p7_3, p7_4, p7_5⟩ := hQ7
  have N7 : Fr n0 L7 := by rw [l7]; exact Fr.app N0 N7q
  have z11 : n0 ≤ T7.heap.size := Nat.le_trans z5 p7_0.1
  have K12 : Keep h0 T7.heap [] := K6.trans p7_0 (allS (Or.inr sz_b1) all0)
  obtain ⟨fs, hr, hrun, hended, hRW⟩ := X7.leaveW hS7 (Nat.le_refl T7.heap.size) (v := some (.ref b1)) (fun h => by rw [Bd.returns] at h; cases h)
  refine ⟨_, _, ?_, hrun, hended, _, _, rfl, ?_, own_monoW hRW (by decide) (by decide)⟩
  · show Steps p.tables e below (s₁.setTop (mkF m 0 #[vi (0 : Int32), vi p2, vi p3, vi p4] [])) _
    refine XS.iloadN X0.here hx rfl (hb hby d7_0) rfl ?_
    refine XS.ifNo X0.here hx rfl (hb hby d7_1) rfl ((if0 _ _).trans (teq (by decide : (0 : Int32) = (0 : Int32))).2) ?_
    refine st1 _ ?_
    refine XS.dup X1.here hx rfl (hb hby d7_7) rfl rfl ?_
    refine XS.iconst X1.here hx rfl (hb hby d7_8) ?_
    refine st4 _ ?_
    show Steps p.tables e below (T4.setTop (mkF m 11 #[vi (0 : Int32), vi p2, vi p3, vi p4] [(.ref b4), (.ref b1), (.ref b1)])) _
    refine st7.trans ?_
    show Steps p.tables e below (T7.setTop (mkF m 14 #[vi (0 : Int32), vi p2, vi p3, vi p4] [(.ref b1)])) _
    jvm_step X7.here [X7.here.top, hx, (hb hby d7_14), X7.method', Bd.returns, Value.isRef, FieldType.isReference]
    first | (intro acts; rw [hr _ acts rfl rfl rfl]) | rw [hr _ _ rfl rfl rfl]
    exact Steps.refl _
  · show Qmk0 Z p2 p3 p4 h0 n0 _ T7.heap _
    exact ⟨b1, t'_7, k'_7, rfl, N7, K12, sz_b1, p7_5, p7_1, p7_2, p7_3, p7_4⟩
theorem d6_0 : decode method_3_code 0 = .ok (.iload 4, 2) := by decide +kernel
theorem d6_2 : decode method_3_code 2 = .ok (.bipush 7, 2) := by decide +kernel
theorem d6_4 : decode method_3_code 4 = .ok (.iload_n 2, 1) := by decide +kernel
theorem d6_5 : decode method_3_code 5 = .ok (.iadd, 1) := by decide +kernel
theorem d6_6 : decode method_3_code 6 = .ok (.iushr, 1) := by decide +kernel
theorem d6_7 : decode method_3_code 7 = .ok (.iconst 1, 1) := by decide +kernel
theorem d6_8 : decode method_3_code 8 = .ok (.iand, 1) := by decide +kernel
theorem d6_9 : decode method_3_code 9 = .ok (.ifCond .eq 7, 3) := by decide +kernel
theorem d6_12 : decode method_3_code 12 = .ok (.iconst 1, 1) := by decide +kernel
theorem d6_13 : decode method_3_code 13 = .ok (.goto 4, 3) := by decide +kernel
theorem d6_16 : decode method_3_code 16 = .ok (.iconst 0, 1) := by decide +kernel
theorem d6_17 : decode method_3_code 17 = .ok (.istore 5, 2) := by decide +kernel
theorem d6_19 : decode method_3_code 19 = .ok (.iload 5, 2) := by decide +kernel
theorem d6_21 : decode method_3_code 21 = .ok (.ifCond .eq 15, 3) := by decide +kernel
theorem d6_24 : decode method_3_code 24 = .ok (.aload_n 0, 1) := by decide +kernel
theorem d6_25 : decode method_3_code 25 = .ok (.iload_n 1, 1) := by decide +kernel
theorem d6_26 : decode method_3_code 26 = .ok (.iload_n 2, 1) := by decide +kernel
theorem d6_27 : decode method_3_code 27 = .ok (.iadd, 1) := by decide +kernel
theorem d6_28 : decode method_3_code 28 = .ok (.baload, 1) := by decide +kernel
theorem d6_29 : decode method_3_code 29 = .ok (.bipush 127, 2) := by decide +kernel
theorem d6_31 : decode method_3_code 31 = .ok (.iand, 1) := by decide +kernel
theorem d6_32 : decode method_3_code 32 = .ok (.i2c, 1) := by decide +kernel
theorem d6_33 : decode method_3_code 33 = .ok (.goto 13, 3) := by decide +kernel
theorem d6_36 : decode method_3_code 36 = .ok (.iload_n 3, 1) := by decide +kernel
theorem d6_37 : decode method_3_code 37 = .ok (.bipush 7, 2) := by decide +kernel
theorem d6_39 : decode method_3_code 39 = .ok (.iload_n 2, 1) := by decide +kernel
theorem d6_40 : decode method_3_code 40 = .ok (.imul, 1) := by decide +kernel
theorem d6_41 : decode method_3_code 41 = .ok (.iushr, 1) := by decide +kernel
theorem d6_42 : decode method_3_code 42 = .ok (.bipush 127, 2) := by decide +kernel
theorem d6_44 : decode method_3_code 44 = .ok (.iand, 1) := by decide +kernel
theorem d6_45 : decode method_3_code 45 = .ok (.i2c, 1) := by decide +kernel
theorem d6_46 : decode method_3_code 46 = .ok (.ireturn, 1) := by decide +kernel
theorem ef_rmpk0 (m : MethodId) (a1 : Addr) (p2 : Int32) (p4 : Int32) (p5 : Int32) : entryFrame m #[(.ref a1), (.int p2), (.int (0 : Int32)), (.int p4), (.int p5)] 6 = mkF m 0 #[vr a1, vi p2, vi (0 : Int32), vi p4, vi p5, .unset] [] := by first | (simp [entryFrame, mkF, argsToLocals, Value.category]; done) | rfl
def Qpk0 (Z : State) (a1 : Addr) (p2 : Int32) (p4 : Int32) (p5 : Int32) (kd : ClassId) (f : Nat → Int32) (h0 : Heap) (n0 : Nat) (v : Option Value) (h : Heap) (L : List Loc) : Prop := ∃ r : Int32, v = some (.int r) ∧ own_ok r ∧ Fr n0 L ∧ h = h0
set_option maxRecDepth 65536 in
set_option maxHeartbeats 40000000 in
theorem rmpk0 (l : Launch) (Z : State) (a0 : Array Value) (hw : ∀ d ∈ tables_1, d.before a0 Z = true) (ws : List Jvm.Cond) (a1 : Addr) (p2 : Int32) (p4 : Int32) (p5 : Int32) (kd : ClassId) (f : Nat → Int32) (h0 : Heap) (n0 : Nat) (Z0 : n0 ≤ h0.size) (A_a1 : AV Z h0 a1 kd .byte 5 (fun i => Value.int (f i))) (hp : p2 = 0 ∨ p2 = 1) :
    MetFree l (⟨"com/example/verdict/verdict/saml/XmlScannerSkipPinLaw", "pick", "([BIIII)C"⟩ : MethodName) (head1 (Jvm.Cond.code (⟨"com/example/verdict/verdict/saml/XmlScannerSkipPinLaw", "pick", "([BIIII)C"⟩ : MethodName) method_3_code 6 (some .char) :: ws) ({ frames := 0, cells := 0, slots := 0, locals := 0 } : Room)) (fun a U => a = #[(.ref a1), (.int p2), (.int (0 : Int32)), (.int p4), (.int p5)] ∧ Z.Warmed39 U.vm ∧ U.heap = h0) (fun _ _ _ _ _ => True) (fun _ U o U' => ∃ v L, o = .returned v ∧ Qpk0 Z a1 p2 p4 p5 kd f h0 n0 v U'.heap L ∧ FrameEnd U o U' L ({ frames := 0, cells := 0, slots := 0, locals := 0 } : Room).cells ({ frames := 0, cells := 0, slots := 0, locals := 0 } : Room).slots) := by
  refine MetFree.of_bodySF (plainFor_of_name pn_6) hisR ?_
  intro p e s m args below meth c s₁ Bd hml0 hP hK
  obtain ⟨rfl, hZ, hh⟩ := hP
  have hx := Bd.exec
  have hby := Bd.bytes
  have hml : c.maxLocals = 6 := hml0
  have hown : s.vm.findClass "com/example/verdict/verdict/saml/XmlScannerSkipPinLaw" = some m.cls := findClass_of_methodNamed Bd.named
  have hnm := (name_of_methodNamed Bd.named Bd.method).1
  have X0 : Stand p l e ({ frames := 0, cells := 0, slots := 0, locals := 0 } : Room) s m #[(.ref a1), (.int p2), (.int (0 : Int32)), (.int p4), (.int p5)] below meth c s₁ [] 0 0 := Stand.of_body Bd
  have e0 : s₁.heap = h0 := by rw [← hh, Bd.state]; rfl
  have N0 := Fr.nil n0
  show GoalS p.tables e below s ({ frames := 0, cells := 0, slots := 0, locals := 0 } : Room).cells ({ frames := 0, cells := 0, slots := 0, locals := 0 } : Room).slots (Qpk0 Z a1 p2 p4 p5 kd f h0 n0) (s₁.setTop (entryFrame m #[(.ref a1), (.int p2), (.int (0 : Int32)), (.int p4), (.int p5)] 6))
  refine GoalS.lift (B := s₁.setTop (mkF m 0 #[vr a1, vi p2, vi (0 : Int32), vi p4, vi p5, .unset] [])) (fun t k => castTop (ef_rmpk0 m a1 p2 p4 p5) k) ?_
  have K0 : Keep h0 h0 [] := Keep.refl _ _
  refine GoalS.lift (B := (s₁.setTop (mkF m 9 #[vr a1, vi p2, vi (0 : Int32), vi p4, vi p5, .unset] [(.int ((((p5).toUInt32 >>> ((7 : Int32) &&& 31).toUInt32).toInt32) &&& (1 : Int32)))]))) (fun t k => ?_) ?_
  · show Steps p.tables e below (s₁.setTop (mkF m 0 #[vr a1, vi p2, vi (0 : Int32), vi p4, vi p5, .unset] [])) _
    refine XS.iload X0.here hx rfl (hb hby d6_0) rfl ?_
    refine XS.bipush X0.here hx rfl (hb hby d6_2) ?_
    refine XS.iloadN X0.here hx rfl (hb hby d6_4) rfl ?_
    refine XS.iadd X0.here hx rfl (hb hby d6_5) rfl ?_
    refine XS.iushr X0.here hx rfl (hb hby d6_6) rfl ?_
    refine XS.iconst X0.here hx rfl (hb hby d6_7) ?_
    show Steps p.tables e below (s₁.setTop (mkF m 8 #[vr a1, vi p2, vi (0 : Int32), vi p4, vi p5, .unset] [(.int (1 : Int32)), (.int (((p5).toUInt32 >>> ((7 : Int32) &&& 31).toUInt32).toInt32))])) _
    refine XS.iand X0.here hx rfl (hb hby d6_8) rfl ?_
    exact k
  by_cases hc9_1 : ((((p5).toUInt32 >>> ((7 : Int32) &&& 31).toUInt32).toInt32) &&& (1 : Int32)) = (0 : Int32)
  · obtain ⟨fs, hr, hrun, hended, hW, hsame⟩ := X0.leave (v := some (.int (((((((p4).toUInt32 >>> ((0 : Int32) &&& 31).toUInt32).toInt32) &&& (127 : Int32))).toUInt32.toUInt16.toUInt32.toInt32)).toUInt32.toUInt16.toUInt32.toInt32)) (fun h => by rw [Bd.returns] at h; cases h)
    refine ⟨_, _, ?_, hrun, hended, _, _, rfl, ?_, ⟨_, rfl⟩, hW, hsame.mono (by decide) (by decide)⟩
    · show Steps p.tables e below (s₁.setTop (mkF m 9 #[vr a1, vi p2, vi (0 : Int32), vi p4, vi p5, .unset] [(.int ((((p5).toUInt32 >>> ((7 : Int32) &&& 31).toUInt32).toInt32) &&& (1 : Int32)))])) _
      refine XS.ifYes X0.here hx rfl (pc0 := 9) (pc' := 16) rfl (hb hby d6_9) rfl ((if0 _ _).trans (teq hc9_1).1) (by decide) (by decide) ?_
      refine XS.iconst X0.here hx rfl (hb hby d6_16) ?_
      refine XS.istore X0.here hx rfl (hb hby d6_17) rfl (l' := #[vr a1, vi p2, vi (0 : Int32), vi p4, vi p5, vi (0 : Int32)]) rfl ?_
      refine XS.iload X0.here hx rfl (hb hby d6_19) rfl ?_
      refine XS.ifYes X0.here hx rfl (pc0 := 21) (pc' := 36) rfl (hb hby d6_21) rfl ((if0 _ _).trans (teq (by decide : (0 : Int32) = (0 : Int32))).1) (by decide) (by decide) ?_
      refine XS.iloadN X0.here hx rfl (hb hby d6_36) rfl ?_
      show Steps p.tables e below (s₁.setTop (mkF m 37 #[vr a1, vi p2, vi (0 : Int32), vi p4, vi p5, vi (0 : Int32)] [(.int p4)])) _
      refine XS.bipush X0.here hx rfl (hb hby d6_37) ?_
      refine XS.iloadN X0.here hx rfl (hb hby d6_39) rfl ?_
      refine XS.imul X0.here hx rfl (hb hby d6_40) rfl ?_
      refine XS.iushr X0.here hx rfl (hb hby d6_41) rfl ?_
      refine XS.bipush X0.here hx rfl (hb hby d6_42) ?_
      refine XS.iand X0.here hx rfl (hb hby d6_44) rfl ?_
      show Steps p.tables e below (s₁.setTop (mkF m 45 #[vr a1, vi p2, vi (0 : Int32), vi p4, vi p5, vi (0 : Int32)] [(.int ((((p4).toUInt32 >>> ((0 : Int32) &&& 31).toUInt32).toInt32) &&& (127 : Int32)))])) _
      refine XS.i2c X0.here hx rfl (hb hby d6_45) rfl ?_
      exact retN X0 hx (t := .char) Bd.returns (by simp) (hb hby d6_46) hr
    · show Qpk0 Z a1 p2 p4 p5 kd f h0 n0 _ s₁.heap _
      exact ⟨_, rfl, (own_pc _), N0, e0⟩
  · obtain ⟨cl2, Ar2, kc2, sz2, -, hv2⟩ := id A_a1
    have hin2 : ¬ ((p2 + (0 : Int32)) < 0 ∨ cl2.slots.size ≤ ((p2 + (0 : Int32))).toNatClampNeg) := AV.inb sz2 (own_p5 hp (i := (0 : Int32)) (by decide))
    have hat2 : cl2.slots[((p2 + (0 : Int32))).toNatClampNeg]? = some (.int (f ((p2 + (0 : Int32))).toNatClampNeg)) := (hv2 _ (AV.inx (own_p5 hp (i := (0 : Int32)) (by decide)))).trans (congrArg some rfl)
    obtain ⟨fs, hr, hrun, hended, hW, hsame⟩ := X0.leave (v := some (.int (((((f ((p2 + (0 : Int32))).toNatClampNeg) &&& (127 : Int32))).toUInt32.toUInt16.toUInt32.toInt32)).toUInt32.toUInt16.toUInt32.toInt32)) (fun h => by rw [Bd.returns] at h; cases h)
    refine ⟨_, _, ?_, hrun, hended, _, _, rfl, ?_, ⟨_, rfl⟩, hW, hsame.mono (by decide) (by decide)⟩
    · show Steps p.tables e below (s₁.setTop (mkF m 9 #[vr a1, vi p2, vi (0 : Int32), vi p4, vi p5, .unset] [(.int ((((p5).toUInt32 >>> ((7 : Int32) &&& 31).toUInt32).toInt32) &&& (1 : Int32)))])) _
      refine XS.ifNo X0.here hx rfl (hb hby d6_9) rfl ((if0 _ _).trans (feq hc9_1).1) ?_
      refine XS.iconst X0.here hx rfl (hb hby d6_12) ?_
      refine XS.goto X0.here hx rfl (pc0 := 13) (pc' := 17) rfl (hb hby d6_13) (by decide) (by decide) ?_
      refine XS.istore X0.here hx rfl (hb hby d6_17) rfl (l' := #[vr a1, vi p2, vi (0 : Int32), vi p4, vi p5, vi (1 : Int32)]) rfl ?_
      refine XS.iload X0.here hx rfl (hb hby d6_19) rfl ?_
      refine XS.ifNo X0.here hx rfl (hb hby d6_21) rfl ((if0 _ _).trans (feq (by decide : ¬ ((1 : Int32) = (0 : Int32)))).1) ?_
      show Steps p.tables e below (s₁.setTop (mkF m 24 #[vr a1, vi p2, vi (0 : Int32), vi p4, vi p5, vi (1 : Int32)] [])) _
      refine XS.aloadN X0.here hx rfl (hb hby d6_24) rfl rfl ?_
      refine XS.iloadN X0.here hx rfl (hb hby d6_25) rfl ?_
      refine XS.iloadN X0.here hx rfl (hb hby d6_26) rfl ?_
      refine XS.iadd X0.here hx rfl (hb hby d6_27) rfl ?_
      refine X0.baloadBytes hx (j := (p2 + (0 : Int32))) (v := (.int (f ((p2 + (0 : Int32))).toNatClampNeg))) (by rw [e0]; exact Ar2.1) (State.isArrayOf_alike hZ.alike Ar2.2.1) Ar2.2.2 hin2 hat2 (g := (mkF m 28 #[vr a1, vi p2, vi (0 : Int32), vi p4, vi p5, vi (1 : Int32)] [(.int (p2 + (0 : Int32))), (.ref a1)])) rfl rfl (hb hby d6_28) _ ?_
      refine XS.bipush X0.here hx rfl (hb hby d6_29) ?_
      show Steps p.tables e below (s₁.setTop (mkF m 31 #[vr a1, vi p2, vi (0 : Int32), vi p4, vi p5, vi (1 : Int32)] [(.int (127 : Int32)), (.int (f ((p2 + (0 : Int32))).toNatClampNeg))])) _
      refine XS.iand X0.here hx rfl (hb hby d6_31) rfl ?_
      refine XS.i2c X0.here hx rfl (hb hby d6_32) rfl ?_
      refine XS.goto X0.here hx rfl (pc0 := 33) (pc' := 46) rfl (hb hby d6_33) (by decide) (by decide) ?_
      exact retN X0 hx (t := .char) Bd.returns (by simp) (hb hby d6_46) hr
    · show Qpk0 Z a1 p2 p4 p5 kd f h0 n0 _ s₁.heap _
      exact ⟨_, rfl, (own_pc _), N0, e0⟩
theorem ef_rmpk1 (m : MethodId) (a1 : Addr) (p2 : Int32) (p4 : Int32) (p5 : Int32) : entryFrame m #[(.ref a1), (.int p2), (.int (1 : Int32)), (.int p4), (.int p5)] 6 = mkF m 0 #[vr a1, vi p2, vi (1 : Int32), vi p4, vi p5, .unset] [] := by first | (simp [entryFrame, mkF, argsToLocals, Value.category]; done) | rfl
def Qpk1 (Z : State) (a1 : Addr) (p2 : Int32) (p4 : Int32) (p5 : Int32) (kd : ClassId) (f : Nat → Int32) (h0 : Heap) (n0 : Nat) (v : Option Value) (h : Heap) (L : List Loc) : Prop := ∃ r : Int32, v = some (.int r) ∧ own_ok r ∧ Fr n0 L ∧ h = h0
set_option maxRecDepth 65536 in
set_option maxHeartbeats 40000000 in
theorem rmpk1 (l : Launch) (Z : State) (a0 : Array Value) (hw : ∀ d ∈ tables_1, d.before a0 Z = true) (ws : List Jvm.Cond) (a1 : Addr) (p2 : Int32) (p4 : Int32) (p5 : Int32) (kd : ClassId) (f : Nat → Int32) (h0 : Heap) (n0 : Nat) (Z0 : n0 ≤ h0.size) (A_a1 : AV Z h0 a1 kd .byte 5 (fun i => Value.int (f i))) (hp : p2 = 0 ∨ p2 = 1) :
    MetFree l (⟨"com/example/verdict/verdict/saml/XmlScannerSkipPinLaw", "pick", "([BIIII)C"⟩ : MethodName) (head1 (Jvm.Cond.code (⟨"com/example/verdict/verdict/saml/XmlScannerSkipPinLaw", "pick", "([BIIII)C"⟩ : MethodName) method_3_code 6 (some .char) :: ws) ({ frames := 0, cells := 0, slots := 0, locals := 0 } : Room)) (fun a U => a = #[(.ref a1), (.int p2), (.int (1 : Int32)), (.int p4), (.int p5)] ∧ Z.Warmed39 U.vm ∧ U.heap = h0) (fun _ _ _ _ _ => True) (fun _ U o U' => ∃ v L, o = .returned v ∧ Qpk1 Z a1 p2 p4 p5 kd f h0 n0 v U'.heap L ∧ FrameEnd U o U' L ({ frames := 0, cells := 0, slots := 0, locals := 0 } : Room).cells ({ frames := 0, cells := 0, slots := 0, locals := 0 } : Room).slots) := by
  refine MetFree.of_bodySF (plainFor_of_name pn_6) hisR ?_
  intro p e s m args below meth c s₁ Bd hml0 hP hK
  obtain ⟨rfl, hZ, hh⟩ := hP
  have hx := Bd.exec
  have hby := Bd.bytes
  have hml : c.maxLocals = 6 := hml0
  have hown : s.vm.findClass "com/example/verdict/verdict/saml/XmlScannerSkipPinLaw" = some m.cls := findClass_of_methodNamed Bd.named
  have hnm := (name_of_methodNamed Bd.named Bd.method).1
  have X0 : Stand p l e ({ frames := 0, cells := 0, slots := 0, locals := 0 } : Room) s m #[(.ref a1), (.int p2), (.int (1 : Int32)), (.int p4), (.int p5)] below meth c s₁ [] 0 0 := Stand.of_body Bd
  have e0 : s₁.heap = h0 := by rw [← hh, Bd.state]; rfl
  have N0 := Fr.nil n0
  show GoalS p.tables e below s ({ frames := 0, cells := 0, slots := 0, locals := 0 } : Room).cells ({ frames := 0, cells := 0, slots := 0, locals := 0 } : Room).slots (Qpk1 Z a1 p2 p4 p5 kd f h0 n0) (s₁.setTop (entryFrame m #[(.ref a1), (.int p2), (.int (1 : Int32)), (.int p4), (.int p5)] 6))
  refine GoalS.lift (B := s₁.setTop (mkF m 0 #[vr a1, vi p2, vi (1 : Int32), vi p4, vi p5, .unset] [])) (fun t k => castTop (ef_rmpk1 m a1 p2 p4 p5) k) ?_
  have K0 : Keep h0 h0 [] := Keep.refl _ _
  refine GoalS.lift (B := (s₁.setTop (mkF m 9 #[vr a1, vi p2, vi (1 : Int32), vi p4, vi p5, .unset] [(.int ((((p5).toUInt32 >>> ((8 : Int32) &&& 31).toUInt32).toInt32) &&& (1 : Int32)))]))) (fun t k => ?_) ?_
  · show Steps p.tables e below (s₁.setTop (mkF m 0 #[vr a1, vi p2, vi (1 : Int32), vi p4, vi p5, .unset] [])) _
    refine XS.iload X0.here hx rfl (hb hby d6_0) rfl ?_
    refine XS.bipush X0.here hx rfl (hb hby d6_2) ?_
    refine XS.iloadN X0.here hx rfl (hb hby d6_4) rfl ?_
    refine XS.iadd X0.here hx rfl (hb hby d6_5) rfl ?_
    refine XS.iushr X0.here hx rfl (hb hby d6_6) rfl ?_
    refine XS.iconst X0.here hx rfl (hb hby d6_7) ?_
    show Steps p.tables e below (s₁.setTop (mkF m 8 #[vr a1, vi p2, vi (1 : Int32), vi p4, vi p5, .unset] [(.int (1 : Int32)), (.int (((p5).toUInt32 >>> ((8 : Int32) &&& 31).toUInt32).toInt32))])) _
    refine XS.iand X0.here hx rfl (hb hby d6_8) rfl ?_
    exact k
  by_cases hc9_1 : ((((p5).toUInt32 >>> ((8 : Int32) &&& 31).toUInt32).toInt32) &&& (1 : Int32)) = (0 : Int32)
  · obtain ⟨fs, hr, hrun, hended, hW, hsame⟩ := X0.leave (v := some (.int (((((((p4).toUInt32 >>> ((7 : Int32) &&& 31).toUInt32).toInt32) &&& (127 : Int32))).toUInt32.toUInt16.toUInt32.toInt32)).toUInt32.toUInt16.toUInt32.toInt32)) (fun h => by rw [Bd.returns] at h; cases h)
    refine ⟨_, _, ?_, hrun, hended, _, _, rfl, ?_, ⟨_, rfl⟩, hW, hsame.mono (by decide) (by decide)⟩
    · show Steps p.tables e below (s₁.setTop (mkF m 9 #[vr a1, vi p2, vi (1 : Int32), vi p4, vi p5, .unset] [(.int ((((p5).toUInt32 >>> ((8 : Int32) &&& 31).toUInt32).toInt32) &&& (1 : Int32)))])) _
      refine XS.ifYes X0.here hx rfl (pc0 := 9) (pc' := 16) rfl (hb hby d6_9) rfl ((if0 _ _).trans (teq hc9_1).1) (by decide) (by decide) ?_
      refine XS.iconst X0.here hx rfl (hb hby d6_16) ?_
      refine XS.istore X0.here hx rfl (hb hby d6_17) rfl (l' := #[vr a1, vi p2, vi (1 : Int32), vi p4, vi p5, vi (0 : Int32)]) rfl ?_
      refine XS.iload X0.here hx rfl (hb hby d6_19) rfl ?_
      refine XS.ifYes X0.here hx rfl (pc0 := 21) (pc' := 36) rfl (hb hby d6_21) rfl ((if0 _ _).trans (teq (by decide : (0 : Int32) = (0 : Int32))).1) (by decide) (by decide) ?_
      refine XS.iloadN X0.here hx rfl (hb hby d6_36) rfl ?_
      show Steps p.tables e below (s₁.setTop (mkF m 37 #[vr a1, vi p2, vi (1 : Int32), vi p4, vi p5, vi (0 : Int32)] [(.int p4)])) _
      refine XS.bipush X0.here hx rfl (hb hby d6_37) ?_
      refine XS.iloadN X0.here hx rfl (hb hby d6_39) rfl ?_
      refine XS.imul X0.here hx rfl (hb hby d6_40) rfl ?_
      refine XS.iushr X0.here hx rfl (hb hby d6_41) rfl ?_
      refine XS.bipush X0.here hx rfl (hb hby d6_42) ?_
      refine XS.iand X0.here hx rfl (hb hby d6_44) rfl ?_
      show Steps p.tables e below (s₁.setTop (mkF m 45 #[vr a1, vi p2, vi (1 : Int32), vi p4, vi p5, vi (0 : Int32)] [(.int ((((p4).toUInt32 >>> ((7 : Int32) &&& 31).toUInt32).toInt32) &&& (127 : Int32)))])) _
      refine XS.i2c X0.here hx rfl (hb hby d6_45) rfl ?_
      exact retN X0 hx (t := .char) Bd.returns (by simp) (hb hby d6_46) hr
    · show Qpk1 Z a1 p2 p4 p5 kd f h0 n0 _ s₁.heap _
      exact ⟨_, rfl, (own_pc _), N0, e0⟩
  · obtain ⟨cl2, Ar2, kc2, sz2, -, hv2⟩ := id A_a1
    have hin2 : ¬ ((p2 + (1 : Int32)) < 0 ∨ cl2.slots.size ≤ ((p2 + (1 : Int32))).toNatClampNeg) := AV.inb sz2 (own_p5 hp (i := (1 : Int32)) (by decide))
    have hat2 : cl2.slots[((p2 + (1 : Int32))).toNatClampNeg]? = some (.int (f ((p2 + (1 : Int32))).toNatClampNeg)) := (hv2 _ (AV.inx (own_p5 hp (i := (1 : Int32)) (by decide)))).trans (congrArg some rfl)
    obtain ⟨fs, hr, hrun, hended, hW, hsame⟩ := X0.leave (v := some (.int (((((f ((p2 + (1 : Int32))).toNatClampNeg) &&& (127 : Int32))).toUInt32.toUInt16.toUInt32.toInt32)).toUInt32.toUInt16.toUInt32.toInt32)) (fun h => by rw [Bd.returns] at h; cases h)
    refine ⟨_, _, ?_, hrun, hended, _, _, rfl, ?_, ⟨_, rfl⟩, hW, hsame.mono (by decide) (by decide)⟩
    · show Steps p.tables e below (s₁.setTop (mkF m 9 #[vr a1, vi p2, vi (1 : Int32), vi p4, vi p5, .unset] [(.int ((((p5).toUInt32 >>> ((8 : Int32) &&& 31).toUInt32).toInt32) &&& (1 : Int32)))])) _
      refine XS.ifNo X0.here hx rfl (hb hby d6_9) rfl ((if0 _ _).trans (feq hc9_1).1) ?_
      refine XS.iconst X0.here hx rfl (hb hby d6_12) ?_
      refine XS.goto X0.here hx rfl (pc0 := 13) (pc' := 17) rfl (hb hby d6_13) (by decide) (by decide) ?_
      refine XS.istore X0.here hx rfl (hb hby d6_17) rfl (l' := #[vr a1, vi p2, vi (1 : Int32), vi p4, vi p5, vi (1 : Int32)]) rfl ?_
      refine XS.iload X0.here hx rfl (hb hby d6_19) rfl ?_
      refine XS.ifNo X0.here hx rfl (hb hby d6_21) rfl ((if0 _ _).trans (feq (by decide : ¬ ((1 : Int32) = (0 : Int32)))).1) ?_
      show Steps p.tables e below (s₁.setTop (mkF m 24 #[vr a1, vi p2, vi (1 : Int32), vi p4, vi p5, vi (1 : Int32)] [])) _
      refine XS.aloadN X0.here hx rfl (hb hby d6_24) rfl rfl ?_
      refine XS.iloadN X0.here hx rfl (hb hby d6_25) rfl ?_
      refine XS.iloadN X0.here hx rfl (hb hby d6_26) rfl ?_
      refine XS.iadd X0.here hx rfl (hb hby d6_27) rfl ?_
      refine X0.baloadBytes hx (j := (p2 + (1 : Int32))) (v := (.int (f ((p2 + (1 : Int32))).toNatClampNeg))) (by rw [e0]; exact Ar2.1) (State.isArrayOf_alike hZ.alike Ar2.2.1) Ar2.2.2 hin2 hat2 (g := (mkF m 28 #[vr a1, vi p2, vi (1 : Int32), vi p4, vi p5, vi (1 : Int32)] [(.int (p2 + (1 : Int32))), (.ref a1)])) rfl rfl (hb hby d6_28) _ ?_
      refine XS.bipush X0.here hx rfl (hb hby d6_29) ?_
      show Steps p.tables e below (s₁.setTop (mkF m 31 #[vr a1, vi p2, vi (1 : Int32), vi p4, vi p5, vi (1 : Int32)] [(.int (127 : Int32)), (.int (f ((p2 + (1 : Int32))).toNatClampNeg))])) _
      refine XS.iand X0.here hx rfl (hb hby d6_31) rfl ?_
      refine XS.i2c X0.here hx rfl (hb hby d6_32) rfl ?_
      refine XS.goto X0.here hx rfl (pc0 := 33) (pc' := 46) rfl (hb hby d6_33) (by decide) (by decide) ?_
      exact retN X0 hx (t := .char) Bd.returns (by simp) (hb hby d6_46) hr
    · show Qpk1 Z a1 p2 p4 p5 kd f h0 n0 _ s₁.heap _
      exact ⟨_, rfl, (own_pc _), N0, e0⟩
theorem ef_rmpk2 (m : MethodId) (a1 : Addr) (p2 : Int32) (p4 : Int32) (p5 : Int32) : entryFrame m #[(.ref a1), (.int p2), (.int (2 : Int32)), (.int p4), (.int p5)] 6 = mkF m 0 #[vr a1, vi p2, vi (2 : Int32), vi p4, vi p5, .unset] [] := by first | (simp [entryFrame, mkF, argsToLocals, Value.category]; done) | rfl
def Qpk2 (Z : State) (a1 : Addr) (p2 : Int32) (p4 : Int32) (p5 : Int32) (kd : ClassId) (f : Nat → Int32) (h0 : Heap) (n0 : Nat) (v : Option Value) (h : Heap) (L : List Loc) : Prop := ∃ r : Int32, v = some (.int r) ∧ own_ok r ∧ Fr n0 L ∧ h = h0
set_option maxRecDepth 65536 in
set_option maxHeartbeats 40000000 in
theorem rmpk2 (l : Launch) (Z : State) (a0 : Array Value) (hw : ∀ d ∈ tables_1, d.before a0 Z = true) (ws : List Jvm.Cond) (a1 : Addr) (p2 : Int32) (p4 : Int32) (p5 : Int32) (kd : ClassId) (f : Nat → Int32) (h0 : Heap) (n0 : Nat) (Z0 : n0 ≤ h0.size) (A_a1 : AV Z h0 a1 kd .byte 5 (fun i => Value.int (f i))) (hp : p2 = 0 ∨ p2 = 1) :
    MetFree l (⟨"com/example/verdict/verdict/saml/XmlScannerSkipPinLaw", "pick", "([BIIII)C"⟩ : MethodName) (head1 (Jvm.Cond.code (⟨"com/example/verdict/verdict/saml/XmlScannerSkipPinLaw", "pick", "([BIIII)C"⟩ : MethodName) method_3_code 6 (some .char) :: ws) ({ frames := 0, cells := 0, slots := 0, locals := 0 } : Room)) (fun a U => a = #[(.ref a1), (.int p2), (.int (2 : Int32)), (.int p4), (.int p5)] ∧ Z.Warmed39 U.vm ∧ U.heap = h0) (fun _ _ _ _ _ => True) (fun _ U o U' => ∃ v L, o = .returned v ∧ Qpk2 Z a1 p2 p4 p5 kd f h0 n0 v U'.heap L ∧ FrameEnd U o U' L ({ frames := 0, cells := 0, slots := 0, locals := 0 } : Room).cells ({ frames := 0, cells := 0, slots := 0, locals := 0 } : Room).slots) := by
  refine MetFree.of_bodySF (plainFor_of_name pn_6) hisR ?_
  intro p e s m args below meth c s₁ Bd hml0 hP hK
  obtain ⟨rfl, hZ, hh⟩ := hP
  have hx := Bd.exec
  have hby := Bd.bytes
  have hml : c.maxLocals = 6 := hml0
  have hown : s.vm.findClass "com/example/verdict/verdict/saml/XmlScannerSkipPinLaw" = some m.cls := findClass_of_methodNamed Bd.named
  have hnm := (name_of_methodNamed Bd.named Bd.method).1
  have X0 : Stand p l e ({ frames := 0, cells := 0, slots := 0, locals := 0 } : Room) s m #[(.ref a1), (.int p2), (.int (2 : Int32)), (.int p4), (.int p5)] below meth c s₁ [] 0 0 := Stand.of_body Bd
  have e0 : s₁.heap = h0 := by rw [← hh, Bd.state]; rfl
  have N0 := Fr.nil n0
  show GoalS p.tables e below s ({ frames := 0, cells := 0, slots := 0, locals := 0 } : Room).cells ({ frames := 0, cells := 0, slots := 0, locals := 0 } : Room).slots (Qpk2 Z a1 p2 p4 p5 kd f h0 n0) (s₁.setTop (entryFrame m #[(.ref a1), (.int p2), (.int (2 : Int32)), (.int p4), (.int p5)] 6))
  refine GoalS.lift (B := s₁.setTop (mkF m 0 #[vr a1, vi p2, vi (2 : Int32), vi p4, vi p5, .unset] [])) (fun t k => castTop (ef_rmpk2 m a1 p2 p4 p5) k) ?_
  have K0 : Keep h0 h0 [] := Keep.refl _ _
  refine GoalS.lift (B := (s₁.setTop (mkF m 9 #[vr a1, vi p2, vi (2 : Int32), vi p4, vi p5, .unset] [(.int ((((p5).toUInt32 >>> ((9 : Int32) &&& 31).toUInt32).toInt32) &&& (1 : Int32)))]))) (fun t k => ?_) ?_
  · show Steps p.tables e below (s₁.setTop (mkF m 0 #[vr a1, vi p2, vi (2 : Int32), vi p4, vi p5, .unset] [])) _
    refine XS.iload X0.here hx rfl (hb hby d6_0) rfl ?_
    refine XS.bipush X0.here hx rfl (hb hby d6_2) ?_
    refine XS.iloadN X0.here hx rfl (hb hby d6_4) rfl ?_
    refine XS.iadd X0.here hx rfl (hb hby d6_5) rfl ?_
    refine XS.iushr X0.here hx rfl (hb hby d6_6) rfl ?_
    refine XS.iconst X0.here hx rfl (hb hby d6_7) ?_
    show Steps p.tables e below (s₁.setTop (mkF m 8 #[vr a1, vi p2, vi (2 : Int32), vi p4, vi p5, .unset] [(.int (1 : Int32)), (.int (((p5).toUInt32 >>> ((9 : Int32) &&& 31).toUInt32).toInt32))])) _
    refine XS.iand X0.here hx rfl (hb hby d6_8) rfl ?_
    exact k
  by_cases hc9_1 : ((((p5).toUInt32 >>> ((9 : Int32) &&& 31).toUInt32).toInt32) &&& (1 : Int32)) = (0 : Int32)
  · obtain ⟨fs, hr, hrun, hended, hW, hsame⟩ := X0.leave (v := some (.int (((((((p4).toUInt32 >>> ((14 : Int32) &&& 31).toUInt32).toInt32) &&& (127 : Int32))).toUInt32.toUInt16.toUInt32.toInt32)).toUInt32.toUInt16.toUInt32.toInt32)) (fun h => by rw [Bd.returns] at h; cases h)
    refine ⟨_, _, ?_, hrun, hended, _, _, rfl, ?_, ⟨_, rfl⟩, hW, hsame.mono (by decide) (by decide)⟩
    · show Steps p.tables e below (s₁.setTop (mkF m 9 #[vr a1, vi p2, vi (2 : Int32), vi p4, vi p5, .unset] [(.int ((((p5).toUInt32 >>> ((9 : Int32) &&& 31).toUInt32).toInt32) &&& (1 : Int32)))])) _
      refine XS.ifYes X0.here hx rfl (pc0 := 9) (pc' := 16) rfl (hb hby d6_9) rfl ((if0 _ _).trans (teq hc9_1).1) (by decide) (by decide) ?_
      refine XS.iconst X0.here hx rfl (hb hby d6_16) ?_
      refine XS.istore X0.here hx rfl (hb hby d6_17) rfl (l' := #[vr a1, vi p2, vi (2 : Int32), vi p4, vi p5, vi (0 : Int32)]) rfl ?_
      refine XS.iload X0.here hx rfl (hb hby d6_19) rfl ?_
      refine XS.ifYes X0.here hx rfl (pc0 := 21) (pc' := 36) rfl (hb hby d6_21) rfl ((if0 _ _).trans (teq (by decide : (0 : Int32) = (0 : Int32))).1) (by decide) (by decide) ?_
      refine XS.iloadN X0.here hx rfl (hb hby d6_36) rfl ?_
      show Steps p.tables e below (s₁.setTop (mkF m 37 #[vr a1, vi p2, vi (2 : Int32), vi p4, vi p5, vi (0 : Int32)] [(.int p4)])) _
      refine XS.bipush X0.here hx rfl (hb hby d6_37) ?_
      refine XS.iloadN X0.here hx rfl (hb hby d6_39) rfl ?_
      refine XS.imul X0.here hx rfl (hb hby d6_40) rfl ?_
      refine XS.iushr X0.here hx rfl (hb hby d6_41) rfl ?_
      refine XS.bipush X0.here hx rfl (hb hby d6_42) ?_
      refine XS.iand X0.here hx rfl (hb hby d6_44) rfl ?_
      show Steps p.tables e below (s₁.setTop (mkF m 45 #[vr a1, vi p2, vi (2 : Int32), vi p4, vi p5, vi (0 : Int32)] [(.int ((((p4).toUInt32 >>> ((14 : Int32) &&& 31).toUInt32).toInt32) &&& (127 : Int32)))])) _
      refine XS.i2c X0.here hx rfl (hb hby d6_45) rfl ?_
      exact retN X0 hx (t := .char) Bd.returns (by simp) (hb hby d6_46) hr
    · show Qpk2 Z a1 p2 p4 p5 kd f h0 n0 _ s₁.heap _
      exact ⟨_, rfl, (own_pc _), N0, e0⟩
  · obtain ⟨cl2, Ar2, kc2, sz2, -, hv2⟩ := id A_a1
    have hin2 : ¬ ((p2 + (2 : Int32)) < 0 ∨ cl2.slots.size ≤ ((p2 + (2 : Int32))).toNatClampNeg) := AV.inb sz2 (own_p5 hp (i := (2 : Int32)) (by decide))
    have hat2 : cl2.slots[((p2 + (2 : Int32))).toNatClampNeg]? = some (.int (f ((p2 + (2 : Int32))).toNatClampNeg)) := (hv2 _ (AV.inx (own_p5 hp (i := (2 : Int32)) (by decide)))).trans (congrArg some rfl)
    obtain ⟨fs, hr, hrun, hended, hW, hsame⟩ := X0.leave (v := some (.int (((((f ((p2 + (2 : Int32))).toNatClampNeg) &&& (127 : Int32))).toUInt32.toUInt16.toUInt32.toInt32)).toUInt32.toUInt16.toUInt32.toInt32)) (fun h => by rw [Bd.returns] at h; cases h)
    refine ⟨_, _, ?_, hrun, hended, _, _, rfl, ?_, ⟨_, rfl⟩, hW, hsame.mono (by decide) (by decide)⟩
    · show Steps p.tables e below (s₁.setTop (mkF m 9 #[vr a1, vi p2, vi (2 : Int32), vi p4, vi p5, .unset] [(.int ((((p5).toUInt32 >>> ((9 : Int32) &&& 31).toUInt32).toInt32) &&& (1 : Int32)))])) _
      refine XS.ifNo X0.here hx rfl (hb hby d6_9) rfl ((if0 _ _).trans (feq hc9_1).1) ?_
      refine XS.iconst X0.here hx rfl (hb hby d6_12) ?_
      refine XS.goto X0.here hx rfl (pc0 := 13) (pc' := 17) rfl (hb hby d6_13) (by decide) (by decide) ?_
      refine XS.istore X0.here hx rfl (hb hby d6_17) rfl (l' := #[vr a1, vi p2, vi (2 : Int32), vi p4, vi p5, vi (1 : Int32)]) rfl ?_
      refine XS.iload X0.here hx rfl (hb hby d6_19) rfl ?_
      refine XS.ifNo X0.here hx rfl (hb hby d6_21) rfl ((if0 _ _).trans (feq (by decide : ¬ ((1 : Int32) = (0 : Int32)))).1) ?_
      show Steps p.tables e below (s₁.setTop (mkF m 24 #[vr a1, vi p2, vi (2 : Int32), vi p4, vi p5, vi (1 : Int32)] [])) _
      refine XS.aloadN X0.here hx rfl (hb hby d6_24) rfl rfl ?_
      refine XS.iloadN X0.here hx rfl (hb hby d6_25) rfl ?_
      refine XS.iloadN X0.here hx rfl (hb hby d6_26) rfl ?_
      refine XS.iadd X0.here hx rfl (hb hby d6_27) rfl ?_
      refine X0.baloadBytes hx (j := (p2 + (2 : Int32))) (v := (.int (f ((p2 + (2 : Int32))).toNatClampNeg))) (by rw [e0]; exact Ar2.1) (State.isArrayOf_alike hZ.alike Ar2.2.1) Ar2.2.2 hin2 hat2 (g := (mkF m 28 #[vr a1, vi p2, vi (2 : Int32), vi p4, vi p5, vi (1 : Int32)] [(.int (p2 + (2 : Int32))), (.ref a1)])) rfl rfl (hb hby d6_28) _ ?_
      refine XS.bipush X0.here hx rfl (hb hby d6_29) ?_
      show Steps p.tables e below (s₁.setTop (mkF m 31 #[vr a1, vi p2, vi (2 : Int32), vi p4, vi p5, vi (1 : Int32)] [(.int (127 : Int32)), (.int (f ((p2 + (2 : Int32))).toNatClampNeg))])) _
      refine XS.iand X0.here hx rfl (hb hby d6_31) rfl ?_
      refine XS.i2c X0.here hx rfl (hb hby d6_32) rfl ?_
      refine XS.goto X0.here hx rfl (pc0 := 33) (pc' := 46) rfl (hb hby d6_33) (by decide) (by decide) ?_
      exact retN X0 hx (t := .char) Bd.returns (by simp) (hb hby d6_46) hr
    · show Qpk2 Z a1 p2 p4 p5 kd f h0 n0 _ s₁.heap _
      exact ⟨_, rfl, (own_pc _), N0, e0⟩
theorem pd_16 : parseMethodDescriptor "([BI)V" = some ⟨[(.array .byte), .int], none⟩ := by decide +kernel
theorem pd_17 : parseMethodDescriptor "([BIIII)C" = some ⟨[(.array .byte), .int, .int, .int, .int], some .char⟩ := by decide +kernel
theorem pd_18 : parseMethodDescriptor "(ICCC)Ljava/lang/String;" = some ⟨[.int, .char, .char, .char], some (.object "java/lang/String")⟩ := by decide +kernel
theorem pd_19 : parseMethodDescriptor "(C)Z" = some ⟨[.char], some .boolean⟩ := by decide +kernel
theorem ef_rm0 (m : MethodId) (q1 : Int64) (p2 : Int32) (p3 : Int32) : entryFrame m #[(.long q1), (.int p2), (.int p3)] maxLocals = mkF m 0 #[vj q1, .second, vi p2, vi p3, .unset, .unset, .unset, .unset, .unset, .unset, .unset, .unset, .unset, .unset, .unset, .unset, .unset, .unset] [] := by first | (simp [entryFrame, mkF, argsToLocals, Value.category, maxLocals]; done) | rfl
def Q0 (Z : State) (q1 : Int64) (p2 : Int32) (p3 : Int32) (zcs : Int32) (fm : Value) (h0 : Heap) (n0 : Nat) (v : Option Value) (h : Heap) (L : List Loc) : Prop := v = some (.int (1 : Int32)) ∧ Fr n0 L
set_option maxRecDepth 65536 in
set_option maxHeartbeats 40000000 in
theorem rm0 (l : Launch) (Z : State) (a0 : Array Value) (hw : ∀ d ∈ tables_1, d.before a0 Z = true) (ws : List Jvm.Cond) (q1 : Int64) (p2 : Int32) (p3 : Int32) (zcs : Int32) (fm : Value) (h0 : Heap) (n0 : Nat) (Z0 : n0 ≤ h0.size) (S_COMPACT_STRINGS : Sta Z h0 "java/lang/String" "COMPACT_STRINGS" "Z" (.int zcs)) (hCS : ¬ zcs = 0) (S_SIOOBE_FORMATTER : Sta Z h0 "jdk/internal/util/Preconditions" "SIOOBE_FORMATTER" "Ljava/util/function/BiFunction;" fm) (hfm : fm.isRef = true) (hld : Jvm.Lit.constHeld Z "java/lang/String" 7) (hcw : Jvm.Lit.compactW.before a0 Z = true) (hZh : Z.heap = h0) (hn0 : n0 = h0.size) :
    MetFree l x (head1 (Jvm.Cond.code x code maxLocals ret :: ws) room_1) (fun a U => a = #[(.long q1), (.int p2), (.int p3)] ∧ Z.Warmed39 U.vm ∧ U.heap = h0 ∧ IB Z U.vm []) (fun _ _ _ _ _ => True) (fun _ U o U' => ∃ v L, o = .returned v ∧ Q0 Z q1 p2 p3 zcs fm h0 n0 v U'.heap L ∧ ReturnedEndW U o U' L 24 1408) := by
  refine MetFree.of_bodySF (plainFor_of_name pn_6) hisR ?_
  intro p e s m args below meth c s₁ Bd hml0 hP hK
  obtain ⟨rfl, hZ, hh, hIB⟩ := hP
  have hx := Bd.exec
  have hby := Bd.bytes
  have hml : c.maxLocals = 18 := hml0
  have hown : s.vm.findClass "com/example/verdict/verdict/saml/XmlScannerSkipPinLaw" = some m.cls := findClass_of_methodNamed Bd.named
  have hnm := (name_of_methodNamed Bd.named Bd.method).1
  have X0 : Stand p l e room_1 s m #[(.long q1), (.int p2), (.int p3)] below meth c s₁ [] 0 0 := Stand.of_body Bd
  have e0 : s₁.heap = h0 := by rw [← hh, Bd.state]; rfl
  have N0 := Fr.nil n0
  show GoalW p.tables e below s 24 1408 (Q0 Z q1 p2 p3 zcs fm h0 n0) (s₁.setTop (entryFrame m #[(.long q1), (.int p2), (.int p3)] maxLocals))
  refine GoalW.lift (B := s₁.setTop (mkF m 0 #[vj q1, .second, vi p2, vi p3, .unset, .unset, .unset, .unset, .unset, .unset, .unset, .unset, .unset, .unset, .unset, .unset, .unset, .unset] [])) (fun t k => castTop (ef_rm0 m q1 p2 p3) k) ?_
  obtain ⟨T1, h1, k1, X1, e1, E1, A1, st1⟩ := newP X0 hx hZ (hw _ (List.mem_of_getElem? (i := 0) rfl)) e0 (g := (mkF m 1 #[vj q1, .second, vi p2, vi p3, .unset, .unset, .unset, .unset, .unset, .unset, .unset, .unset, .unset, .unset, .unset, .unset, .unset, .unset] [(.int (5 : Int32))])) rfl (hb hby at_1) rfl (by decide) (cap := 5) (by decide) (by decide) (by decide) (by decide)
  obtain ⟨b1, g1⟩ : ∃ z, z = h0.size := ⟨_, rfl⟩
  rw [← g1] at A1 st1
  have g_b1 : n0 ≤ b1 := Nat.le_trans Z0 (Nat.le_of_eq g1.symm)
  have z2 : n0 ≤ h1.size := Nat.le_trans Z0 E1.1
  have V1 : AV Z h1 b1 k1 .byte 5 (fun i => Value.int ((fun _ => (0 : Int32)) i)) := AV.new A1 (by decide) (by decide) (by decide)
  obtain ⟨cl3, Ar3, kc3, sz3, -, -⟩ := id V1
  have hin3 : ¬ ((0 : Int32) < 0 ∨ cl3.slots.size ≤ ((0 : Int32)).toNatClampNeg) := AV.inb sz3 (show ¬ (0 : Int32) < 0 ∧ ((0 : Int32)).toNatClampNeg < 5 by decide)
  obtain ⟨T3, h3, X3, e3, W3, st3⟩ := stB X1 hx hZ e1 Ar3 (j := (0 : Int32)) hin3 (g := (mkF m 11 #[vj q1, .second, vi p2, vi p3, vr b1, .unset, .unset, .unset, .unset, .unset, .unset, .unset, .unset, .unset, .unset, .unset, .unset, .unset] [(.int ((((q1).toInt32)).toInt8.toInt32)), (.int (0 : Int32)), (.ref b1)])) rfl rfl (hb hby at_11)
  have z4 : n0 ≤ h3.size := Nat.le_trans z2 (Keep.of_wr W3).1
  have V3 : AV Z h3 b1 k1 .byte 5 (fun i => Value.int ((updI (fun _ => (0 : Int32)) 0 (((((q1).toInt32)).toInt8.toInt32)).toInt8.toInt32) i)) := AV.putI V1 W3 (AV.inx (show ¬ (0 : Int32) < 0 ∧ ((0 : Int32)).toNatClampNeg < 5 by decide))
  have N3 := Fr.snoc X3 N0 g_b1
  obtain ⟨cl5, Ar5, kc5, sz5, -, -⟩ := id V3
  have hin5 : ¬ ((1 : Int32) < 0 ∨ cl5.slots.size ≤ ((1 : Int32)).toNatClampNeg) := AV.inb sz5 (show ¬ (1 : Int32) < 0 ∧ ((1 : Int32)).toNatClampNeg < 5 by decide)
  obtain ⟨T5, h5, X5, e5, W5, st5⟩ := stB X3 hx hZ e3 Ar5 (j := (1 : Int32)) hin5 (g := (mkF m 21 #[vj q1, .second, vi p2, vi p3, vr b1, .unset, .unset, .unset, .unset, .unset, .unset, .unset, .unset, .unset, .unset, .unset, .unset, .unset] [(.int (((((((q1).toUInt64 >>> ((8 : Int32) &&& 0x3f).toInt64.toUInt64).toInt64)).toInt32)).toInt8.toInt32)), (.int (1 : Int32)), (.ref b1)])) rfl rfl (hb hby at_21)
  have z6 : n0 ≤ h5.size := Nat.le_trans z4 (Keep.of_wr W5).1
  have V5 : AV Z h5 b1 k1 .byte 5 (fun i => Value.int ((updI (updI (fun _ => (0 : Int32)) 0 (((((q1).toInt32)).toInt8.toInt32)).toInt8.toInt32) 1 ((((((((q1).toUInt64 >>> ((8 : Int32) &&& 0x3f).toInt64.toUInt64).toInt64)).toInt32)).toInt8.toInt32)).toInt8.toInt32) i)) := AV.putI V3 W5 (AV.inx (show ¬ (1 : Int32) < 0 ∧ ((1 : Int32)).toNatClampNeg < 5 by decide))
  have N5 := Fr.snoc X5 N3 g_b1
  obtain ⟨cl7, Ar7, kc7, sz7, -, -⟩ := id V5
  have hin7 : ¬ ((2 : Int32) < 0 ∨ cl7.slots.size ≤ ((2 : Int32)).toNatClampNeg) := AV.inb sz7 (show ¬ (2 : Int32) < 0 ∧ ((2 : Int32)).toNatClampNeg < 5 by decide)
  obtain ⟨T7, h7, X7, e7, W7, st7⟩ := stB X5 hx hZ e5 Ar7 (j := (2 : Int32)) hin7 (g := (mkF m 31 #[vj q1, .second, vi p2, vi p3, vr b1, .unset, .unset, .unset, .unset, .unset, .unset, .unset, .unset, .unset, .unset, .unset, .unset, .unset] [(.int (((((((q1).toUInt64 >>> ((16 : Int32) &&& 0x3f).toInt64.toUInt64).toInt64)).toInt32)).toInt8.toInt32)), (.int (2 : Int32)), (.ref b1)])) rfl rfl (hb hby at_31)
  have z8 : n0 ≤ h7.size := Nat.le_trans z6 (Keep.of_wr W7).1
  have V7 : AV Z h7 b1 k1 .byte 5 (fun i => Value.int ((updI (updI (updI (fun _ => (0 : Int32)) 0 (((((q1).toInt32)).toInt8.toInt32)).toInt8.toInt32) 1 ((((((((q1).toUInt64 >>> ((8 : Int32) &&& 0x3f).toInt64.toUInt64).toInt64)).toInt32)).toInt8.toInt32)).toInt8.toInt32) 2 ((((((((q1).toUInt64 >>> ((16 : Int32) &&& 0x3f).toInt64.toUInt64).toInt64)).toInt32)).toInt8.toInt32)).toInt8.toInt32) i)) := AV.putI V5 W7 (AV.inx (show ¬ (2 : Int32) < 0 ∧ ((2 : Int32)).toNatClampNeg < 5 by decide))
  have N7 := Fr.snoc X7 N5 g_b1
  obtain ⟨cl9, Ar9, kc9, sz9, -, -⟩ := id V7
  have hin9 : ¬ ((3 : Int32) < 0 ∨ cl9.slots.size ≤ ((3 : Int32)).toNatClampNeg) := AV.inb sz9 (show ¬ (3 : Int32) < 0 ∧ ((3 : Int32)).toNatClampNeg < 5 by decide)
  obtain ⟨T9, h9, X9, e9, W9, st9⟩ := stB X7 hx hZ e7 Ar9 (j := (3 : Int32)) hin9 (g := (mkF m 41 #[vj q1, .second, vi p2, vi p3, vr b1, .unset, .unset, .unset, .unset, .unset, .unset, .unset, .unset, .unset, .unset, .unset, .unset, .unset] [(.int (((((((q1).toUInt64 >>> ((24 : Int32) &&& 0x3f).toInt64.toUInt64).toInt64)).toInt32)).toInt8.toInt32)), (.int (3 : Int32)), (.ref b1)])) rfl rfl (hb hby at_41)
  have z10 : n0 ≤ h9.size := Nat.le_trans z8 (Keep.of_wr W9).1
  have V9 : AV Z h9 b1 k1 .byte 5 (fun i => Value.int ((updI (updI (updI (updI (fun _ => (0 : Int32)) 0 (((((q1).toInt32)).toInt8.toInt32)).toInt8.toInt32) 1 ((((((((q1).toUInt64 >>> ((8 : Int32) &&& 0x3f).toInt64.toUInt64).toInt64)).toInt32)).toInt8.toInt32)).toInt8.toInt32) 2 ((((((((q1).toUInt64 >>> ((16 : Int32) &&& 0x3f).toInt64.toUInt64).toInt64)).toInt32)).toInt8.toInt32)).toInt8.toInt32) 3 ((((((((q1).toUInt64 >>> ((24 : Int32) &&& 0x3f).toInt64.toUInt64).toInt64)).toInt32)).toInt8.toInt32)).toInt8.toInt32) i)) := AV.putI V7 W9 (AV.inx (show ¬ (3 : Int32) < 0 ∧ ((3 : Int32)).toNatClampNeg < 5 by decide))
  have N9 := Fr.snoc X9 N7 g_b1
  obtain ⟨cl11, Ar11, kc11, sz11, -, -⟩ := id V9
  have hin11 : ¬ ((4 : Int32) < 0 ∨ cl11.slots.size ≤ ((4 : Int32)).toNatClampNeg) := AV.inb sz11 (show ¬ (4 : Int32) < 0 ∧ ((4 : Int32)).toNatClampNeg < 5 by decide)
  obtain ⟨T11, h11, X11, e11, W11, st11⟩ := stB X9 hx hZ e9 Ar11 (j := (4 : Int32)) hin11 (g := (mkF m 51 #[vj q1, .second, vi p2, vi p3, vr b1, .unset, .unset, .unset, .unset, .unset, .unset, .unset, .unset, .unset, .unset, .unset, .unset, .unset] [(.int (((((((q1).toUInt64 >>> ((32 : Int32) &&& 0x3f).toInt64.toUInt64).toInt64)).toInt32)).toInt8.toInt32)), (.int (4 : Int32)), (.ref b1)])) rfl rfl (hb hby at_51)
  have z12 : n0 ≤ h11.size := Nat.le_trans z10 (Keep.of_wr W11).1
  have V11 : AV Z h11 b1 k1 .byte 5 (fun i => Value.int ((updI (updI (updI (updI (updI (fun _ => (0 : Int32)) 0 (((((q1).toInt32)).toInt8.toInt32)).toInt8.toInt32) 1 ((((((((q1).toUInt64 >>> ((8 : Int32) &&& 0x3f).toInt64.toUInt64).toInt64)).toInt32)).toInt8.toInt32)).toInt8.toInt32) 2 ((((((((q1).toUInt64 >>> ((16 : Int32) &&& 0x3f).toInt64.toUInt64).toInt64)).toInt32)).toInt8.toInt32)).toInt8.toInt32) 3 ((((((((q1).toUInt64 >>> ((24 : Int32) &&& 0x3f).toInt64.toUInt64).toInt64)).toInt32)).toInt8.toInt32)).toInt8.toInt32) 4 ((((((((q1).toUInt64 >>> ((32 : Int32) &&& 0x3f).toInt64.toUInt64).toInt64)).toInt32)).toInt8.toInt32)).toInt8.toInt32) i)) := AV.putI V9 W11 (AV.inx (show ¬ (4 : Int32) < 0 ∧ ((4 : Int32)).toNatClampNeg < 5 by decide))
  have N11 := Fr.snoc X11 N9 g_b1
  obtain ⟨fn13, hfn13⟩ : ∃ z, z = (updI (updI (updI (updI (updI (fun _ => (0 : Int32)) 0 (((((q1).toInt32)).toInt8.toInt32)).toInt8.toInt32) 1 ((((((((q1).toUInt64 >>> ((8 : Int32) &&& 0x3f).toInt64.toUInt64).toInt64)).toInt32)).toInt8.toInt32)).toInt8.toInt32) 2 ((((((((q1).toUInt64 >>> ((16 : Int32) &&& 0x3f).toInt64.toUInt64).toInt64)).toInt32)).toInt8.toInt32)).toInt8.toInt32) 3 ((((((((q1).toUInt64 >>> ((24 : Int32) &&& 0x3f).toInt64.toUInt64).toInt64)).toInt32)).toInt8.toInt32)).toInt8.toInt32) 4 ((((((((q1).toUInt64 >>> ((32 : Int32) &&& 0x3f).toInt64.toUInt64).toInt64)).toInt32)).toInt8.toInt32)).toInt8.toInt32) := ⟨_, rfl⟩
  have V13 : AV Z h11 b1 k1 .byte 5 (fun i => Value.int (fn13 i)) := by rw [hfn13]; exact V11
  obtain ⟨ln, hln⟩ : ∃ z : Int32, z = ((p3 &&& (7 : Int32)) % (6 : Int32)) := ⟨_, rfl⟩
  refine GoalW.lift (B := (T11.setTop (mkF m 59 #[vj q1, .second, vi p2, vi p3, vr b1, .unset, .unset, .unset, .unset, .unset, .unset, .unset, .unset, .unset, .unset, .unset, .unset, .unset] [(.int ln)]))) (fun t k => ?_) ?_
  · show Steps p.tables e below (s₁.setTop (mkF m 0 #[vj q1, .second, vi p2, vi p3, .unset, .unset, .unset, .unset, .unset, .unset, .unset, .unset, .unset, .unset, .unset, .unset, .unset, .unset] [])) _
    refine XS.iconst X0.here hx rfl (hb hby at_0) ?_
    refine st1 _ ?_
    refine XS.astore X1.here hx rfl (hb hby at_3) rfl rfl (l' := #[vj q1, .second, vi p2, vi p3, vr b1, .unset, .unset, .unset, .unset, .unset, .unset, .unset, .unset, .unset, .unset, .unset, .unset, .unset]) rfl ?_
    refine XS.aload X1.here hx rfl (hb hby at_5) rfl rfl ?_
    refine XS.iconst X1.here hx rfl (hb hby at_7) ?_
    refine XS.lloadN X1.here hx rfl (hb hby at_8) rfl ?_
    show Steps p.tables e below (T1.setTop (mkF m 9 #[vj q1, .second, vi p2, vi p3, vr b1, .unset, .unset, .unset, .unset, .unset, .unset, .unset, .unset, .unset, .unset, .unset, .unset, .unset] [(.long q1), (.int (0 : Int32)), (.ref b1)])) _
    refine XS.l2i X1.here hx rfl (hb hby at_9) rfl ?_
    refine XS.i2b X1.here hx rfl (hb hby at_10) rfl ?_
    refine st3 _ ?_
    refine XS.aload X3.here hx rfl (hb hby at_12) rfl rfl ?_
    refine XS.iconst X3.here hx rfl (hb hby at_14) ?_
    refine XS.lloadN X3.here hx rfl (hb hby at_15) rfl ?_
    show Steps p.tables e below (T3.setTop (mkF m 16 #[vj q1, .second, vi p2, vi p3, vr b1, .unset, .unset, .unset, .unset, .unset, .unset, .unset, .unset, .unset, .unset, .unset, .unset, .unset] [(.long q1), (.int (1 : Int32)), (.ref b1)])) _
    refine XS.bipush X3.here hx rfl (hb hby at_16) ?_
    refine XS.lushr X3.here hx rfl (hb hby at_18) rfl ?_
    refine XS.l2i X3.here hx rfl (hb hby at_19) rfl ?_
    refine XS.i2b X3.here hx rfl (hb hby at_20) rfl ?_
    refine st5 _ ?_
    refine XS.aload X5.here hx rfl (hb hby at_22) rfl rfl ?_
    show Steps p.tables e below (T5.setTop (mkF m 24 #[vj q1, .second, vi p2, vi p3, vr b1, .unset, .unset, .unset, .unset, .unset, .unset, .unset, .unset, .unset, .unset, .unset, .unset, .unset] [(.ref b1)])) _
    refine XS.iconst X5.here hx rfl (hb hby at_24) ?_
    refine XS.lloadN X5.here hx rfl (hb hby at_25) rfl ?_
    refine XS.bipush X5.here hx rfl (hb hby at_26) ?_
    refine XS.lushr X5.here hx rfl (hb hby at_28) rfl ?_
    refine XS.l2i X5.here hx rfl (hb hby at_29) rfl ?_
    refine XS.i2b X5.here hx rfl (hb hby at_30) rfl ?_
    show Steps p.tables e below (T5.setTop (mkF m 31 #[vj q1, .second, vi p2, vi p3, vr b1, .unset, .unset, .unset, .unset, .unset, .unset, .unset, .unset, .unset, .unset, .unset, .unset, .unset] [(.int (((((((q1).toUInt64 >>> ((16 : Int32) &&& 0x3f).toInt64.toUInt64).toInt64)).toInt32)).toInt8.toInt32)), (.int (2 : Int32)), (.ref b1)])) _
    refine st7 _ ?_
    refine XS.aload X7.here hx rfl (hb hby at_32) rfl rfl ?_
    refine XS.iconst X7.here hx rfl (hb hby at_34) ?_
    refine XS.lloadN X7.here hx rfl (hb hby at_35) rfl ?_
    refine XS.bipush X7.here hx rfl (hb hby at_36) ?_
    refine XS.lushr X7.here hx rfl (hb hby at_38) rfl ?_
    show Steps p.tables e below (T7.setTop (mkF m 39 #[vj q1, .second, vi p2, vi p3, vr b1, .unset, .unset, .unset, .unset, .unset, .unset, .unset, .unset, .unset, .unset, .unset, .unset, .unset] [(.long (((q1).toUInt64 >>> ((24 : Int32) &&& 0x3f).toInt64.toUInt64).toInt64)), (.int (3 : Int32)), (.ref b1)])) _
    refine XS.l2i X7.here hx rfl (hb hby at_39) rfl ?_
    refine XS.i2b X7.here hx rfl (hb hby at_40) rfl ?_
    refine st9 _ ?_
    refine XS.aload X9.here hx rfl (hb hby at_42) rfl rfl ?_
    refine XS.iconst X9.here hx rfl (hb hby at_44) ?_
    refine XS.lloadN X9.here hx rfl (hb hby at_45) rfl ?_
    show Steps p.tables e below (T9.setTop (mkF m 46 #[vj q1, .second, vi p2, vi p3, vr b1, .unset, .unset, .unset, .unset, .unset, .unset, .unset, .unset, .unset, .unset, .unset, .unset, .unset] [(.long q1), (.int (4 : Int32)), (.ref b1)])) _
    refine XS.bipush X9.here hx rfl (hb hby at_46) ?_
    refine XS.lushr X9.here hx rfl (hb hby at_48) rfl ?_
    refine XS.l2i X9.here hx rfl (hb hby at_49) rfl ?_
    refine XS.i2b X9.here hx rfl (hb hby at_50) rfl ?_
    refine st11 _ ?_
    refine XS.iloadN X11.here hx rfl (hb hby at_52) rfl ?_
    show Steps p.tables e below (T11.setTop (mkF m 53 #[vj q1, .second, vi p2, vi p3, vr b1, .unset, .unset, .unset, .unset, .unset, .unset, .unset, .unset, .unset, .unset, .unset, .unset, .unset] [(.int p3)])) _
    refine XS.bipush X11.here hx rfl (hb hby at_53) ?_
    refine XS.iand X11.here hx rfl (hb hby at_55) rfl ?_
    refine XS.bipush X11.here hx rfl (hb hby at_56) ?_
    refine iremM X11 hx rfl (hb hby at_58) rfl (by decide) ?_
    rw [hln] at k
    exact k
  have hl : 0 ≤ ln.toInt ∧ ln.toInt ≤ (5 : Nat) := by rw [hln]; exact own_ln p3
  obtain ⟨nn, hnn⟩ : ∃ z : Int32, z = ((((p3).toUInt32 >>> ((3 : Int32) &&& 31).toUInt32).toInt32) &&& (3 : Int32)) := ⟨_, rfl⟩
  refine GoalW.lift (B := (T11.setTop (mkF m 66 #[vj q1, .second, vi p2, vi p3, vr b1, vi ln, .unset, .unset, .unset, .unset, .unset, .unset, .unset, .unset, .unset, .unset, .unset, .unset] [(.int nn)]))) (fun t k => ?_) ?_
  · show Steps p.tables e below (T11.setTop (mkF m 59 #[vj q1, .second, vi p2, vi p3, vr b1, .unset, .unset, .unset, .unset, .unset, .unset, .unset, .unset, .unset, .unset, .unset, .unset, .unset] [(.int ln)])) _
    refine XS.istore X11.here hx rfl (hb hby at_59) rfl (l' := #[vj q1, .second, vi p2, vi p3, vr b1, vi ln, .unset, .unset, .unset, .unset, .unset, .unset, .unset, .unset, .unset, .unset, .unset, .unset]) rfl ?_
    refine XS.iloadN X11.here hx rfl (hb hby at_61) rfl ?_
    refine XS.iconst X11.here hx rfl (hb hby at_62) ?_
    refine XS.iushr X11.here hx rfl (hb hby at_63) rfl ?_
    refine XS.iconst X11.here hx rfl (hb hby at_64) ?_
    refine XS.iand X11.here hx rfl (hb hby at_65) rfl ?_
    rw [hnn] at k
    exact k
  refine GoalW.lift (B := (T11.setTop (mkF m 73 #[vj q1, .second, vi p2, vi p3, vr b1, vi ln, vi nn, .unset, .unset, .unset, .unset, .unset, .unset, .unset, .unset, .unset, .unset, .unset] [(.int ((((p3).toUInt32 >>> ((5 : Int32) &&& 31).toUInt32).toInt32) &&& (1 : Int32)))]))) (fun t k => ?_) ?_
  · show Steps p.tables e below (T11.setTop (mkF m 66 #[vj q1, .second, vi p2, vi p3, vr b1, vi ln, .unset, .unset, .unset, .unset, .unset, .unset, .unset, .unset, .unset, .unset, .unset, .unset] [(.int nn)])) _
    refine XS.istore X11.here hx rfl (hb hby at_66) rfl (l' := #[vj q1, .second, vi p2, vi p3, vr b1, vi ln, vi nn, .unset, .unset, .unset, .unset, .unset, .unset, .unset, .unset, .unset, .unset, .unset]) rfl ?_
    refine XS.iloadN X11.here hx rfl (hb hby at_68) rfl ?_
    refine XS.iconst X11.here hx rfl (hb hby at_69) ?_
    refine XS.iushr X11.here hx rfl (hb hby at_70) rfl ?_
    refine XS.iconst X11.here hx rfl (hb hby at_71) ?_
    refine XS.iand X11.here hx rfl (hb hby at_72) rfl ?_
    show Steps p.tables e below (T11.setTop (mkF m 73 #[vj q1, .second, vi p2, vi p3, vr b1, vi ln, vi nn, .unset, .unset, .unset, .unset, .unset, .unset, .unset, .unset, .unset, .unset, .unset] [(.int ((((p3).toUInt32 >>> ((5 : Int32) &&& 31).toUInt32).toInt32) &&& (1 : Int32)))])) _
    exact k
  suffices J73_14 : ∀ (i73_0 : Int32), i73_0 = (if ((((p3).toUInt32 >>> ((5 : Int32) &&& 31).toUInt32).toInt32) &&& (1 : Int32)) = (0 : Int32) then (0 : Int32) else (1 : Int32)) → GoalW p.tables e below s 24 1408 (Q0 Z q1 p2 p3 zcs fm h0 n0) (T11.setTop (mkF m 81 #[vj q1, .second, vi p2, vi p3, vr b1, vi ln, vi nn, .unset, .unset, .unset, .unset, .unset, .unset, .unset, .unset, .unset, .unset, .unset] [(.int i73_0)])) by
    by_cases hc73_15 : ((((p3).toUInt32 >>> ((5 : Int32) &&& 31).toUInt32).toInt32) &&& (1 : Int32)) = (0 : Int32)
    · refine GoalW.lift (B := (T11.setTop (mkF m 81 #[vj q1, .second, vi p2, vi p3, vr b1, vi ln, vi nn, .unset, .unset, .unset, .unset, .unset, .unset, .unset, .unset, .unset, .unset, .unset] [(.int (0 : Int32))]))) (fun t k => ?_) ?_
      · show Steps p.tables e below (T11.setTop (mkF m 73 #[vj q1, .second, vi p2, vi p3, vr b1, vi ln, vi nn, .unset, .unset, .unset, .unset, .unset, .unset, .unset, .unset, .unset, .unset, .unset] [(.int ((((p3).toUInt32 >>> ((5 : Int32) &&& 31).toUInt32).toInt32) &&& (1 : Int32)))])) _
        refine XS.ifYes X11.here hx rfl (pc0 := 73) (pc' := 80) rfl (hb hby at_73) rfl ((if0 _ _).trans (teq hc73_15).1) (by decide) (by decide) ?_
        refine XS.iconst X11.here hx rfl (hb hby at_80) ?_
        exact k
      exact J73_14 _ (by simp only [if_pos hc73_15])
    · refine GoalW.lift (B := (T11.setTop (mkF m 81 #[vj q1, .second, vi p2, vi p3, vr b1, vi ln, vi nn, .unset, .unset, .unset, .unset, .unset, .unset, .unset, .unset, .unset, .unset, .unset] [(.int (1 : Int32))]))) (fun t k => ?_) ?_
      · show Steps p.tables e below (T11.setTop (mkF m 73 #[vj q1, .second, vi p2, vi p3, vr b1, vi ln, vi nn, .unset, .unset, .unset, .unset, .unset, .unset, .unset, .unset, .unset, .unset, .unset] [(.int ((((p3).toUInt32 >>> ((5 : Int32) &&& 31).toUInt32).toInt32) &&& (1 : Int32)))])) _
        refine XS.ifNo X11.here hx rfl (hb hby at_73) rfl ((if0 _ _).trans (feq hc73_15).1) ?_
        refine XS.iconst X11.here hx rfl (hb hby at_76) ?_
        refine XS.goto X11.here hx rfl (pc0 := 77) (pc' := 81) rfl (hb hby at_77) (by decide) (by decide) ?_
        exact k
      exact J73_14 _ (by simp only [if_neg hc73_15])
  intro i73_0 h_i73_0
  refine GoalW.lift (B := (T11.setTop (mkF m 89 #[vj q1, .second, vi p2, vi p3, vr b1, vi ln, vi nn, vi i73_0, .unset, .unset, .unset, .unset, .unset, .unset, .unset, .unset, .unset, .unset] [(.int ((((p3).toUInt32 >>> ((6 : Int32) &&& 31).toUInt32).toInt32) &&& (1 : Int32)))]))) (fun t k => ?_) ?_
  · show Steps p.tables e below (T11.setTop (mkF m 81 #[vj q1, .second, vi p2, vi p3, vr b1, vi ln, vi nn, .unset, .unset, .unset, .unset, .unset, .unset, .unset, .unset, .unset, .unset, .unset] [(.int i73_0)])) _
    refine XS.istore X11.here hx rfl (hb hby at_81) rfl (l' := #[vj q1, .second, vi p2, vi p3, vr b1, vi ln, vi nn, vi i73_0, .unset, .unset, .unset, .unset, .unset, .unset, .unset, .unset, .unset, .unset]) rfl ?_
    refine XS.iloadN X11.here hx rfl (hb hby at_83) rfl ?_
    refine XS.bipush X11.here hx rfl (hb hby at_84) ?_
    refine XS.iushr X11.here hx rfl (hb hby at_86) rfl ?_
    refine XS.iconst X11.here hx rfl (hb hby at_87) ?_
    refine XS.iand X11.here hx rfl (hb hby at_88) rfl ?_
    show Steps p.tables e below (T11.setTop (mkF m 89 #[vj q1, .second, vi p2, vi p3, vr b1, vi ln, vi nn, vi i73_0, .unset, .unset, .unset, .unset, .unset, .unset, .unset, .unset, .unset, .unset] [(.int ((((p3).toUInt32 >>> ((6 : Int32) &&& 31).toUInt32).toInt32) &&& (1 : Int32)))])) _
    exact k
  suffices J89_16 : ∀ (i89_0 : Int32), i89_0 = (if ((((p3).toUInt32 >>> ((6 : Int32) &&& 31).toUInt32).toInt32) &&& (1 : Int32)) = (0 : Int32) then (0 : Int32) else (1 : Int32)) → GoalW p.tables e below s 24 1408 (Q0 Z q1 p2 p3 zcs fm h0 n0) (T11.setTop (mkF m 97 #[vj q1, .second, vi p2, vi p3, vr b1, vi ln, vi nn, vi i73_0, .unset, .unset, .unset, .unset, .unset, .unset, .unset, .unset, .unset, .unset] [(.int i89_0)])) by
    by_cases hc89_17 : ((((p3).toUInt32 >>> ((6 : Int32) &&& 31).toUInt32).toInt32) &&& (1 : Int32)) = (0 : Int32)
    · refine GoalW.lift (B := (T11.setTop (mkF m 97 #[vj q1, .second, vi p2, vi p3, vr b1, vi ln, vi nn, vi i73_0, .unset, .unset, .unset, .unset, .unset, .unset, .unset, .unset, .unset, .unset] [(.int (0 : Int32))]))) (fun t k => ?_) ?_
      · show Steps p.tables e below (T11.setTop (mkF m 89 #[vj q1, .second, vi p2, vi p3, vr b1, vi ln, vi nn, vi i73_0, .unset, .unset, .unset, .unset, .unset, .unset, .unset, .unset, .unset, .unset] [(.int ((((p3).toUInt32 >>> ((6 : Int32) &&& 31).toUInt32).toInt32) &&& (1 : Int32)))])) _
        refine XS.ifYes X11.here hx rfl (pc0 := 89) (pc' := 96) rfl (hb hby at_89) rfl ((if0 _ _).trans (teq hc89_17).1) (by decide) (by decide) ?_
        refine XS.iconst X11.here hx rfl (hb hby at_96) ?_
        exact k
      exact J89_16 _ (by simp only [if_pos hc89_17])
    · refine GoalW.lift (B := (T11.setTop (mkF m 97 #[vj q1, .second, vi p2, vi p3, vr b1, vi ln, vi nn, vi i73_0, .unset, .unset, .unset, .unset, .unset, .unset, .unset, .unset, .unset, .unset] [(.int (1 : Int32))]))) (fun t k => ?_) ?_
      · show Steps p.tables e below (T11.setTop (mkF m 89 #[vj q1, .second, vi p2, vi p3, vr b1, vi ln, vi nn, vi i73_0, .unset, .unset, .unset, .unset, .unset, .unset, .unset, .unset, .unset, .unset] [(.int ((((p3).toUInt32 >>> ((6 : Int32) &&& 31).toUInt32).toInt32) &&& (1 : Int32)))])) _
        refine XS.ifNo X11.here hx rfl (hb hby at_89) rfl ((if0 _ _).trans (feq hc89_17).1) ?_
        refine XS.iconst X11.here hx rfl (hb hby at_92) ?_
        refine XS.goto X11.here hx rfl (pc0 := 93) (pc' := 97) rfl (hb hby at_93) (by decide) (by decide) ?_
        exact k
      exact J89_16 _ (by simp only [if_neg hc89_17])
  intro i89_0 h_i89_0
  obtain ⟨T18, h18, X18, e18, E18, A18, D18, -, st18⟩ := newO X11 hx hZ hown (hw _ (List.mem_of_getElem? (i := 1) rfl)) (hw _ (List.mem_of_getElem? (i := 2) rfl)) (hw _ (List.mem_of_getElem? (i := 3) rfl)) e11 (g := (mkF m 99 #[vj q1, .second, vi p2, vi p3, vr b1, vi ln, vi nn, vi i73_0, vi i89_0, .unset, .unset, .unset, .unset, .unset, .unset, .unset, .unset, .unset] [])) rfl (hb hby at_99) (by decide) (by decide)
  obtain ⟨b18, g18⟩ : ∃ z, z = h11.size := ⟨_, rfl⟩
  rw [← g18] at A18 D18 st18
  have g_b18 : n0 ≤ b18 := Nat.le_trans z12 (Nat.le_of_eq g18.symm)
  have ne_b1_b18 : b1 ≠ b18 := Nat.ne_of_lt (Nat.lt_of_lt_of_le V13.lt (Nat.le_of_eq g18.symm))
  have z19 : n0 ≤ h18.size := Nat.le_trans z12 E18.1
  have F_text_b18 : Fld Z h18 b18 "com/example/verdict/verdict/saml/XmlScanner" "text" "[B" .null := D18 (Or.inl (hw _ (List.mem_of_getElem? (i := 11) rfl))) (ty := (.array .byte)) (by decide)
  have F_doc_b18 : Fld Z h18 b18 "com/example/verdict/verdict/saml/XmlScanner" "doc" "[B" .null := D18 (Or.inr (hw _ (List.mem_of_getElem? (i := 21) rfl))) (ty := (.array .byte)) (by decide)
  have F_end_b18 : Fld Z h18 b18 "com/example/verdict/verdict/saml/XmlScanner" "end" "I" (.int (0 : Int32)) := D18 (Or.inr (hw _ (List.mem_of_getElem? (i := 23) rfl))) (ty := .int) (by decide)
  have F_pos_b18 : Fld Z h18 b18 "com/example/verdict/verdict/saml/XmlScanner" "pos" "I" (.int (0 : Int32)) := D18 (Or.inl (hw _ (List.mem_of_getElem? (i := 30) rfl))) (ty := .int) (by decide)
  have f21 : AV Z h18 b1 k1 .byte 5 (fun i => Value.int (fn13 i)) := (V13.ext E18)
  obtain ⟨_, _, ⟨T20, L20, k20, n20⟩, -, X20, ⟨Lc20, hQ20, l20, y20, z20⟩, st20⟩ := X18.specialBack hx (y := (⟨"com/example/verdict/verdict/saml/XmlScanner", "<init>", "([BI)V"⟩ : MethodName)) rfl hown (mvT hZ (hw _ (List.mem_of_getElem? (i := 4) rfl))) (mvT hZ (hw _ (List.mem_of_getElem? (i := 5) rfl))) (mvT hZ (hw _ (List.mem_of_getElem? (i := 6) rfl))) (by decide) (backOf (W := 1) (rm1 l Z a0 hw [] b18 b1 ln .null .null (.int (0 : Int32)) (.int (0 : Int32)) k1 5 fn13 (5 : Int32) h18 n0 z19 A18 g_b18 F_text_b18 F_doc_b18 F_end_b18 F_pos_b18 f21 rfl (own_chk (z := (5 : Int32)) hl.1 (show _ ≤ (5 : Int32).toInt from hl.2)).1 (own_chk (z := (5 : Int32)) hl.1 (show _ ≤ (5 : Int32).toInt from hl.2)).2 ne_b1_b18) hZ (hw _ (List.mem_of_getElem? (i := 6) rfl)) (hw _ (List.mem_of_getElem? (i := 3) rfl)) (by decide) (by decide)) (g := (mkF m 107 #[vj q1, .second, vi p2, vi p3, vr b1, vi ln, vi nn, vi i73_0, vi i89_0, .unset, .unset, .unset, .unset, .unset, .unset, .unset, .unset, .unset] [(.int ln), (.ref b1), (.ref b18), (.ref b18)])) rfl (by rw [hml]; rfl) (Steps.refl _) (a := b18) (argsL := [(.ref b1), (.int ln)]) (rest := [(.ref b18)]) (lenOf pd_16 rfl) rfl (by show 2 * 0 + _ ≤ _; exact Nat.le_of_eq rfl) (hb hby at_107) (fun _ _ => ⟨rfl, e18, (by decide : 2 + 1 ≤ _), (by decide : 10 + 128 ≤ _)⟩)
  dsimp only [Pt.U, Pt.locs, Pt.cells, Pt.slots] at X20 l20 y20 z20 st20 hQ20
  subst y20 z20
  obtain ⟨rfl, N20q, p20_0, p20_1, p20_2, p20_3, p20_4⟩ := hQ20
  have N20 : Fr n0 L20 := by rw [l20]; exact Fr.app N11 N20q
  have ns22 : ∀ x ∈ ([b18] : List Addr), ∀ cell : Cell, h18[x]? = some cell → cell.vm.isStatics = false := (allS (Exa.ns A18) all0)
  have z23 : n0 ≤ T20.heap.size := Nat.le_trans z19 p20_0.1
  refine GoalW.lift (B := (T20.setTop (mkF m 114 #[vj q1, .second, vi p2, vi p3, vr b1, vi ln, vi nn, vi i73_0, vi i89_0, vr b18, .unset, .unset, .unset, .unset, .unset, .unset, .unset, .unset] [(.int i73_0)]))) (fun t k => ?_) ?_
  · show Steps p.tables e below (T11.setTop (mkF m 97 #[vj q1, .second, vi p2, vi p3, vr b1, vi ln, vi nn, vi i73_0, .unset, .unset, .unset, .unset, .unset, .unset, .unset, .unset, .unset, .unset] [(.int i89_0)])) _
    refine XS.istore X11.here hx rfl (hb hby at_97) rfl (l' := #[vj q1, .second, vi p2, vi p3, vr b1, vi ln, vi nn, vi i73_0, vi i89_0, .unset, .unset, .unset, .unset, .unset, .unset, .unset, .unset, .unset]) rfl ?_
    refine st18 _ ?_
    refine XS.dup X18.here hx rfl (hb hby at_102) rfl rfl ?_
    refine XS.aload X18.here hx rfl (hb hby at_103) rfl rfl ?_
    refine XS.iload X18.here hx rfl (hb hby at_105) rfl ?_
    refine st20.trans ?_
    show Steps p.tables e below (T20.setTop (mkF m 110 #[vj q1, .second, vi p2, vi p3, vr b1, vi ln, vi nn, vi i73_0, vi i89_0, .unset, .unset, .unset, .unset, .unset, .unset, .unset, .unset, .unset] [(.ref b18)])) _
    refine XS.astore X20.here hx rfl (hb hby at_110) rfl rfl (l' := #[vj q1, .second, vi p2, vi p3, vr b1, vi ln, vi nn, vi i73_0, vi i89_0, vr b18, .unset, .unset, .unset, .unset, .unset, .unset, .unset, .unset]) rfl ?_
    refine XS.iload X20.here hx rfl (hb hby at_112) rfl ?_
    exact k
  by_cases hc114_24 : i73_0 = (0 : Int32)
  · obtain ⟨wv, hwv⟩ : ∃ z : Int32, z = 0 := ⟨_, rfl⟩
    have Fwv : Fld Z T20.heap b18 "com/example/verdict/verdict/saml/XmlScanner" "pos" "I" (.int wv) := by rw [hwv]; exact p20_4
    have hp : wv = 0 ∨ wv = 1 := Or.inl hwv
    have hle : ¬ ln < wv := own_q0 hl.1 hwv
    obtain ⟨cq25, kq25, q25a, q25b, q25c⟩ := isOf hZ rfl p20_1
    obtain ⟨_, _, ⟨T25, L25, k25, n25⟩, -, X25, ⟨Lc25, hQ25, l25, y25, z25⟩, st25⟩ := X20.virtualBack hx (y := (⟨"com/example/verdict/verdict/saml/XmlScanner", "position", "()I"⟩ : MethodName)) (z := (⟨"com/example/verdict/verdict/saml/XmlScanner", "position", "()I"⟩ : MethodName)) hown (mvT hZ (hw _ (List.mem_of_getElem? (i := 24) rfl))) (mvT hZ (hw _ (List.mem_of_getElem? (i := 25) rfl))) (notFace_of_selects (args := #[]) (mvT hZ (hw _ (List.mem_of_getElem? (i := 27) rfl)))) (mvT hZ (hw _ (List.mem_of_getElem? (i := 27) rfl))) (mvT hZ (hw _ (List.mem_of_getElem? (i := 26) rfl))) (by decide) (backOf (W := 0) (rm5 l Z a0 hw [] b18 wv T20.heap n0 z23 Fwv) hZ (hw _ (List.mem_of_getElem? (i := 28) rfl)) (hw _ (List.mem_of_getElem? (i := 3) rfl)) (by decide) (by decide)) q25a q25c (g := (mkF m 153 #[vj q1, .second, vi p2, vi p3, vr b1, vi ln, vi nn, vi i73_0, vi i89_0, vr b18, .unset, .unset, .unset, .unset, .unset, .unset, .unset, .unset] [(.ref b18)])) rfl (by rw [hml]; rfl) (Steps.refl _) (argsL := []) (rest := []) (lenOf pd_7 rfl) rfl (by show 2 * 0 + _ ≤ _; exact Nat.le_of_eq rfl) (hb hby at_153) (fun _ _ => ⟨rfl, rfl, (by decide : 3 + 0 ≤ _), (by decide : 138 + 0 ≤ _)⟩)
    dsimp only [Pt.U, Pt.locs, Pt.cells, Pt.slots] at X25 l25 y25 z25 st25 hQ25
    subst y25 z25
    obtain ⟨rfl, N25q, eq25⟩ := hQ25
    have N25 : Fr n0 L25 := by rw [l25]; exact Fr.app N20 N25q
    have f27 : AV Z T20.heap b1 k1 .byte 5 (fun i => Value.int (fn13 i)) := (f21.keep p20_0 (ninS ne_b1_b18 nin0))
    obtain ⟨_, _, ⟨T26, L26, k26, n26⟩, -, X26, ⟨Lc26, hQ26, l26, y26, z26⟩, st26⟩ := Jvm.LawKit.callS X25 hx (y := (⟨"com/example/verdict/verdict/saml/XmlScannerSkipPinLaw", "pick", "([BIIII)C"⟩ : MethodName)) hown (mvT hZ (hw _ (List.mem_of_getElem? (i := 31) rfl))) (mvT hZ (hw _ (List.mem_of_getElem? (i := 32) rfl))) (mvT hZ (hw _ (List.mem_of_getElem? (i := 33) rfl))) (mvT hZ (hw _ (List.mem_of_getElem? (i := 34) rfl))) (by decide) (backOf (W := 0) (rmpk0 l Z a0 hw [] b1 wv p2 p3 k1 fn13 T20.heap n0 z23 f27 hp) hZ (hw _ (List.mem_of_getElem? (i := 34) rfl)) (hw _ (List.mem_of_getElem? (i := 33) rfl)) (by decide) (by decide)) (g := (mkF m 185 #[vj q1, .second, vi p2, vi p3, vr b1, vi ln, vi nn, vi i73_0, vi i89_0, vr b18, vi wv, .unset, .unset, .unset, .unset, .unset, .unset, .unset] [(.int p3), (.int p2), (.int (0 : Int32)), (.int wv), (.ref b1)])) rfl (by rw [hml]; rfl) (argsL := [(.ref b1), (.int wv), (.int (0 : Int32)), (.int p2), (.int p3)]) (rest := []) (lenOf pd_17 rfl) rfl (by show 2 * 0 + _ ≤ _; exact Nat.le_of_eq rfl) (hb hby at_185) (fun _ _ => ⟨rfl, eq25, (by decide : 3 + 0 ≤ _), (by decide : 138 + 0 ≤ _)⟩)
    dsimp only [Pt.U, Pt.locs, Pt.cells, Pt.slots] at X26 l26 y26 z26 st26 hQ26
    subst y26 z26
    obtain ⟨r26, rfl, hr26, N26q, eq26⟩ := hQ26
    have N26 : Fr n0 L26 := by rw [l26]; exact Fr.app N25 N26q
    obtain ⟨_, _, ⟨T28, L28, k28, n28⟩, -, X28, ⟨Lc28, hQ28, l28, y28, z28⟩, st28⟩ := Jvm.LawKit.callS X26 hx (y := (⟨"com/example/verdict/verdict/saml/XmlScannerSkipPinLaw", "pick", "([BIIII)C"⟩ : MethodName)) hown (mvT hZ (hw _ (List.mem_of_getElem? (i := 31) rfl))) (mvT hZ (hw _ (List.mem_of_getElem? (i := 32) rfl))) (mvT hZ (hw _ (List.mem_of_getElem? (i := 33) rfl))) (mvT hZ (hw _ (List.mem_of_getElem? (i := 34) rfl))) (by decide) (backOf (W := 0) (rmpk1 l Z a0 hw [] b1 wv p2 p3 k1 fn13 T20.heap n0 z23 f27 hp) hZ (hw _ (List.mem_of_getElem? (i := 34) rfl)) (hw _ (List.mem_of_getElem? (i := 33) rfl)) (by decide) (by decide)) (g := (mkF m 197 #[vj q1, .second, vi p2, vi p3, vr b1, vi ln, vi nn, vi i73_0, vi i89_0, vr b18, vi wv, vi r26, .unset, .unset, .unset, .unset, .unset, .unset] [(.int p3), (.int p2), (.int (1 : Int32)), (.int wv), (.ref b1)])) rfl (by rw [hml]; rfl) (argsL := [(.ref b1), (.int wv), (.int (1 : Int32)), (.int p2), (.int p3)]) (rest := []) (lenOf pd_17 rfl) rfl (by show 2 * 0 + _ ≤ _; exact Nat.le_of_eq rfl) (hb hby at_197) (fun _ _ => ⟨rfl, eq26, (by decide : 3 + 0 ≤ _), (by decide : 138 + 0 ≤ _)⟩)
    dsimp only [Pt.U, Pt.locs, Pt.cells, Pt.slots] at X28 l28 y28 z28 st28 hQ28
    subst y28 z28
    obtain ⟨r28, rfl, hr28, N28q, eq28⟩ := hQ28
    have N28 : Fr n0 L28 := by rw [l28]; exact Fr.app N26 N28q
    obtain ⟨_, _, ⟨T29, L29, k29, n29⟩, -, X29, ⟨Lc29, hQ29, l29, y29, z29⟩, st29⟩ := Jvm.LawKit.callS X28 hx (y := (⟨"com/example/verdict/verdict/saml/XmlScannerSkipPinLaw", "pick", "([BIIII)C"⟩ : MethodName)) hown (mvT hZ (hw _ (List.mem_of_getElem? (i := 31) rfl))) (mvT hZ (hw _ (List.mem_of_getElem? (i := 32) rfl))) (mvT hZ (hw _ (List.mem_of_getElem? (i := 33) rfl))) (mvT hZ (hw _ (List.mem_of_getElem? (i := 34) rfl))) (by decide) (backOf (W := 0) (rmpk2 l Z a0 hw [] b1 wv p2 p3 k1 fn13 T20.heap n0 z23 f27 hp) hZ (hw _ (List.mem_of_getElem? (i := 34) rfl)) (hw _ (List.mem_of_getElem? (i := 33) rfl)) (by decide) (by decide)) (g := (mkF m 209 #[vj q1, .second, vi p2, vi p3, vr b1, vi ln, vi nn, vi i73_0, vi i89_0, vr b18, vi wv, vi r26, vi r28, .unset, .unset, .unset, .unset, .unset] [(.int p3), (.int p2), (.int (2 : Int32)), (.int wv), (.ref b1)])) rfl (by rw [hml]; rfl) (argsL := [(.ref b1), (.int wv), (.int (2 : Int32)), (.int p2), (.int p3)]) (rest := []) (lenOf pd_17 rfl) rfl (by show 2 * 0 + _ ≤ _; exact Nat.le_of_eq rfl) (hb hby at_209) (fun _ _ => ⟨rfl, eq28, (by decide : 3 + 0 ≤ _), (by decide : 138 + 0 ≤ _)⟩)
    dsimp only [Pt.U, Pt.locs, Pt.cells, Pt.slots] at X29 l29 y29 z29 st29 hQ29
    subst y29 z29
    obtain ⟨r29, rfl, hr29, N29q, eq29⟩ := hQ29
    have N29 : Fr n0 L29 := by rw [l29]; exact Fr.app N28 N29q
    refine GoalW.lift (B := (T29.setTop (mkF m 214 #[vj q1, .second, vi p2, vi p3, vr b1, vi ln, vi nn, vi i73_0, vi i89_0, vr b18, vi wv, vi r26, vi r28, vi r29, .unset, .unset, .unset, .unset] []))) (fun t k => ?_) ?_
    · show Steps p.tables e below (T20.setTop (mkF m 114 #[vj q1, .second, vi p2, vi p3, vr b1, vi ln, vi nn, vi i73_0, vi i89_0, vr b18, .unset, .unset, .unset, .unset, .unset, .unset, .unset, .unset] [(.int i73_0)])) _
      refine XS.ifYes X20.here hx rfl (pc0 := 114) (pc' := 151) rfl (hb hby at_114) rfl ((if0 _ _).trans (teq hc114_24).1) (by decide) (by decide) ?_
      refine XS.aload X20.here hx rfl (hb hby at_151) rfl rfl ?_
      refine st25.trans ?_
      refine XS.istore X25.here hx rfl (hb hby at_156) rfl (l' := #[vj q1, .second, vi p2, vi p3, vr b1, vi ln, vi nn, vi i73_0, vi i89_0, vr b18, vi wv, .unset, .unset, .unset, .unset, .unset, .unset, .unset]) rfl ?_
      refine XS.iload X25.here hx rfl (hb hby at_158) rfl ?_
      refine XS.ifNo X25.here hx rfl (hb hby at_160) rfl ((if0 _ _).trans (flt (own_wn hp : ¬ (wv < (0 : Int32)))).1) ?_
      show Steps p.tables e below (T25.setTop (mkF m 163 #[vj q1, .second, vi p2, vi p3, vr b1, vi ln, vi nn, vi i73_0, vi i89_0, vr b18, vi wv, .unset, .unset, .unset, .unset, .unset, .unset, .unset] [])) _
      refine XS.iload X25.here hx rfl (hb hby at_163) rfl ?_
      refine XS.iconst X25.here hx rfl (hb hby at_165) ?_
      refine XS.icmpNo X25.here hx rfl (hb hby at_166) rfl ((flt (own_w1 hp : ¬ ((1 : Int32) < wv))).2.2.1) ?_
      refine XS.iload X25.here hx rfl (hb hby at_169) rfl ?_
      refine XS.iload X25.here hx rfl (hb hby at_171) rfl ?_
      refine XS.icmpYes X25.here hx rfl (pc0 := 173) (pc' := 178) rfl (hb hby at_173) rfl ((flt (hle : ¬ (ln < wv))).2.2.2) (by decide) (by decide) ?_
      show Steps p.tables e below (T25.setTop (mkF m 178 #[vj q1, .second, vi p2, vi p3, vr b1, vi ln, vi nn, vi i73_0, vi i89_0, vr b18, vi wv, .unset, .unset, .unset, .unset, .unset, .unset, .unset] [])) _
      refine XS.aload X25.here hx rfl (hb hby at_178) rfl rfl ?_
      refine XS.iload X25.here hx rfl (hb hby at_180) rfl ?_
      refine XS.iconst X25.here hx rfl (hb hby at_182) ?_
      refine XS.iloadN X25.here hx rfl (hb hby at_183) rfl ?_
      refine XS.iloadN X25.here hx rfl (hb hby at_184) rfl ?_
      refine st26 _ ?_
      show Steps p.tables e below (T26.setTop (mkF m 188 #[vj q1, .second, vi p2, vi p3, vr b1, vi ln, vi nn, vi i73_0, vi i89_0, vr b18, vi wv, .unset, .unset, .unset, .unset, .unset, .unset, .unset] [(.int r26)])) _
      refine XS.istore X26.here hx rfl (hb hby at_188) rfl (l' := #[vj q1, .second, vi p2, vi p3, vr b1, vi ln, vi nn, vi i73_0, vi i89_0, vr b18, vi wv, vi r26, .unset, .unset, .unset, .unset, .unset, .unset]) rfl ?_
      refine XS.aload X26.here hx rfl (hb hby at_190) rfl rfl ?_
      refine XS.iload X26.here hx rfl (hb hby at_192) rfl ?_
      refine XS.iconst X26.here hx rfl (hb hby at_194) ?_
      refine XS.iloadN X26.here hx rfl (hb hby at_195) rfl ?_
      refine XS.iloadN X26.here hx rfl (hb hby at_196) rfl ?_
      show Steps p.tables e below (T26.setTop (mkF m 197 #[vj q1, .second, vi p2, vi p3, vr b1, vi ln, vi nn, vi i73_0, vi i89_0, vr b18, vi wv, vi r26, .unset, .unset, .unset, .unset, .unset, .unset] [(.int p3), (.int p2), (.int (1 : Int32)), (.int wv), (.ref b1)])) _
      refine st28 _ ?_
      refine XS.istore X28.here hx rfl (hb hby at_200) rfl (l' := #[vj q1, .second, vi p2, vi p3, vr b1, vi ln, vi nn, vi i73_0, vi i89_0, vr b18, vi wv, vi r26, vi r28, .unset, .unset, .unset, .unset, .unset]) rfl ?_
      refine XS.aload X28.here hx rfl (hb hby at_202) rfl rfl ?_
      refine XS.iload X28.here hx rfl (hb hby at_204) rfl ?_
      refine XS.iconst X28.here hx rfl (hb hby at_206) ?_
      refine XS.iloadN X28.here hx rfl (hb hby at_207) rfl ?_
      show Steps p.tables e below (T28.setTop (mkF m 208 #[vj q1, .second, vi p2, vi p3, vr b1, vi ln, vi nn, vi i73_0, vi i89_0, vr b18, vi wv, vi r26, vi r28, .unset, .unset, .unset, .unset, .unset] [(.int p2), (.int (2 : Int32)), (.int wv), (.ref b1)])) _
      refine XS.iloadN X28.here hx rfl (hb hby at_208) rfl ?_
      refine st29 _ ?_
      refine XS.istore X29.here hx rfl (hb hby at_212) rfl (l' := #[vj q1, .second, vi p2, vi p3, vr b1, vi ln, vi nn, vi i73_0, vi i89_0, vr b18, vi wv, vi r26, vi r28, vi r29, .unset, .unset, .unset, .unset]) rfl ?_
      exact k
    rcases own_n4 hnn with hs30 | hs30 | hs30 | hs30
    · refine GoalW.lift (B := (T29.setTop (mkF m 214 #[vj q1, .second, vi p2, vi p3, vr b1, vi ln, vi (0 : Int32), vi i73_0, vi i89_0, vr b18, vi wv, vi r26, vi r28, vi r29, .unset, .unset, .unset, .unset] []))) (fun t k => by rw [hs30]; exact k) ?_
      obtain ⟨_, _, ⟨T31, L31, k31, n31⟩, -, X31, hS31, hgr31, ⟨Lc31, hQ31, l31, y31, z31⟩, st31⟩ := callSS X29 hx (y := (⟨"com/example/verdict/verdict/saml/XmlScannerSkipPinLaw", "make", "(ICCC)Ljava/lang/String;"⟩ : MethodName)) hown (mvT hZ (hw _ (List.mem_of_getElem? (i := 35) rfl))) (mvT hZ (hw _ (List.mem_of_getElem? (i := 36) rfl))) (mvT hZ (hw _ (List.mem_of_getElem? (i := 33) rfl))) (mvT hZ (hw _ (List.mem_of_getElem? (i := 37) rfl))) (by decide) (backOfI (W := 0) (rmmk0 l Z a0 hw [] r26 r28 r29 T20.heap n0 z23 (fun b cl q => by rw [← eq29]; exact oldF X29 (show Fr s.heap.size _ by rw [hh, ← hn0]; exact N29) b cl (by rw [hh, ← hZh]; exact q)) hld hcw) hZ (hw _ (List.mem_of_getElem? (i := 37) rfl)) (hw _ (List.mem_of_getElem? (i := 33) rfl)) (by decide) (by decide) hIB) (g := (mkF m 222 #[vj q1, .second, vi p2, vi p3, vr b1, vi ln, vi (0 : Int32), vi i73_0, vi i89_0, vr b18, vi wv, vi r26, vi r28, vi r29, .unset, .unset, .unset, .unset] [(.int r29), (.int r28), (.int r26), (.int (0 : Int32))])) rfl (by rw [hml]; rfl) (argsL := [(.int (0 : Int32)), (.int r26), (.int r28), (.int r29)]) (rest := []) (lenOf pd_18 rfl) rfl (by show 2 * 0 + _ ≤ _; exact Nat.le_of_eq rfl) (hb hby at_222) (fun _ _ => ⟨rfl, eq29, (by decide : 3 + 4 ≤ _), (by decide : 138 + 8 ≤ _)⟩)
      dsimp only [Pt.U, Pt.locs, Pt.cells, Pt.slots] at X31 l31 y31 z31 st31 hQ31 hS31 hgr31
      subst y31 z31
      have hZ0 := hZ
      have hown0 := hown
      have hZ : Z.Warmed39 (s.setVm T31.vm).vm := State.Warmed39.trans hZ hS31.1
      have hown : (s.setVm T31.vm).vm.findClass "com/example/verdict/verdict/saml/XmlScannerSkipPinLaw" = some m.cls := (hS31.1.alike.findClass _ _).trans hown
      obtain ⟨x'_31, t'_31, k'_31, rfl, N31q, p31_0, p31_1, p31_2, p31_3, p31_4, p31_5, p31_6⟩ := hQ31
      have N31 : Fr n0 L31 := by rw [l31]; exact Fr.app N29 N31q
      have ns32 : ∀ x ∈ ([] : List Addr), ∀ cell : Cell, T20.heap[x]? = some cell → cell.vm.isStatics = false := all0
      have z33 : n0 ≤ T31.heap.size := Nat.le_trans z23 p31_0.1
      have ne_b1_x'_31 : b1 ≠ x'_31 := Nat.ne_of_lt (Nat.lt_of_lt_of_le f27.lt p31_1)
      have ne_b18_x'_31 : b18 ≠ x'_31 := Nat.ne_of_lt (Nat.lt_of_lt_of_le p20_1.lt p31_1)
      have g_x'_31 : n0 ≤ x'_31 := Nat.le_trans z23 p31_1
      have f35 : Exa Z T31.heap b18 "com/example/verdict/verdict/saml/XmlScanner" := (p20_1.keep p31_0)
      have ne_b18_t'_31 : b18 ≠ t'_31 := own_ne0 f35 p31_6 (hw _ (List.mem_of_getElem? (i := 2) rfl))
      refine GoalW.lift (B := (T31.setTop (mkF m 234 #[vj q1, .second, vi p2, vi p3, vr b1, vi ln, vi (0 : Int32), vi i73_0, vi i89_0, vr b18, vi wv, vi r26, vi r28, vi r29, vr x'_31, .unset, .unset, .unset] [(.int (ln - wv)), (.int (0 : Int32))]))) (fun t k => ?_) ?_
      · show Steps p.tables e below (T29.setTop (mkF m 214 #[vj q1, .second, vi p2, vi p3, vr b1, vi ln, vi (0 : Int32), vi i73_0, vi i89_0, vr b18, vi wv, vi r26, vi r28, vi r29, .unset, .unset, .unset, .unset] [])) _
        refine XS.iload X29.here hx rfl (hb hby at_214) rfl ?_
        refine XS.iload X29.here hx rfl (hb hby at_216) rfl ?_
        refine XS.iload X29.here hx rfl (hb hby at_218) rfl ?_
        refine XS.iload X29.here hx rfl (hb hby at_220) rfl ?_
        refine st31.trans ?_
        refine XS.astore X31.here hx rfl (hb hby at_225) rfl rfl (l' := #[vj q1, .second, vi p2, vi p3, vr b1, vi ln, vi (0 : Int32), vi i73_0, vi i89_0, vr b18, vi wv, vi r26, vi r28, vi r29, vr x'_31, .unset, .unset, .unset]) rfl ?_
        show Steps p.tables e below (T31.setTop (mkF m 227 #[vj q1, .second, vi p2, vi p3, vr b1, vi ln, vi (0 : Int32), vi i73_0, vi i89_0, vr b18, vi wv, vi r26, vi r28, vi r29, vr x'_31, .unset, .unset, .unset] [])) _
        refine XS.iload X31.here hx rfl (hb hby at_227) rfl ?_
        refine XS.iload X31.here hx rfl (hb hby at_229) rfl ?_
        refine XS.iload X31.here hx rfl (hb hby at_231) rfl ?_
        refine XS.isub X31.here hx rfl (hb hby at_233) rfl ?_
        exact k
      suffices J234_36 : ∀ (i234_0 : Int32), i234_0 = (if (ln - wv) < (0 : Int32) then (0 : Int32) else (1 : Int32)) → GoalW p.tables e below s 24 1408 (Q0 Z q1 p2 p3 zcs fm h0 n0) (T31.setTop (mkF m 294 #[vj q1, .second, vi p2, vi p3, vr b1, vi ln, vi (0 : Int32), vi i73_0, vi i89_0, vr b18, vi wv, vi r26, vi r28, vi r29, vr x'_31, .unset, .unset, .unset] [(.int i234_0)])) by
        by_cases hc234_37 : (ln - wv) < (0 : Int32)
        · refine GoalW.lift (B := (T31.setTop (mkF m 294 #[vj q1, .second, vi p2, vi p3, vr b1, vi ln, vi (0 : Int32), vi i73_0, vi i89_0, vr b18, vi wv, vi r26, vi r28, vi r29, vr x'_31, .unset, .unset, .unset] [(.int (0 : Int32))]))) (fun t k => ?_) ?_
          · show Steps p.tables e below (T31.setTop (mkF m 234 #[vj q1, .second, vi p2, vi p3, vr b1, vi ln, vi (0 : Int32), vi i73_0, vi i89_0, vr b18, vi wv, vi r26, vi r28, vi r29, vr x'_31, .unset, .unset, .unset] [(.int (ln - wv)), (.int (0 : Int32))])) _
            refine XS.icmpYes X31.here hx rfl (pc0 := 234) (pc' := 293) rfl (hb hby at_234) rfl ((tlt hc234_37).2.2.1) (by decide) (by decide) ?_
            refine XS.iconst X31.here hx rfl (hb hby at_293) ?_
            exact k
          exact J234_36 _ (by simp only [if_pos hc234_37])
        · refine GoalW.lift (B := (T31.setTop (mkF m 294 #[vj q1, .second, vi p2, vi p3, vr b1, vi ln, vi (0 : Int32), vi i73_0, vi i89_0, vr b18, vi wv, vi r26, vi r28, vi r29, vr x'_31, .unset, .unset, .unset] [(.int (1 : Int32))]))) (fun t k => ?_) ?_
          · show Steps p.tables e below (T31.setTop (mkF m 234 #[vj q1, .second, vi p2, vi p3, vr b1, vi ln, vi (0 : Int32), vi i73_0, vi i89_0, vr b18, vi wv, vi r26, vi r28, vi r29, vr x'_31, .unset, .unset, .unset] [(.int (ln - wv)), (.int (0 : Int32))])) _
            refine XS.icmpNo X31.here hx rfl (hb hby at_234) rfl ((flt hc234_37).2.2.1) ?_
            refine XS.iload X31.here hx rfl (hb hby at_237) rfl ?_
            refine XS.iconst X31.here hx rfl (hb hby at_239) ?_
            refine XS.icmpYes X31.here hx rfl (pc0 := 240) (pc' := 253) rfl (hb hby at_240) rfl ((tlt (by decide : (0 : Int32) < (1 : Int32))).1) (by decide) (by decide) ?_
            refine XS.iload X31.here hx rfl (hb hby at_253) rfl ?_
            refine XS.iconst X31.here hx rfl (hb hby at_255) ?_
            show Steps p.tables e below (T31.setTop (mkF m 256 #[vj q1, .second, vi p2, vi p3, vr b1, vi ln, vi (0 : Int32), vi i73_0, vi i89_0, vr b18, vi wv, vi r26, vi r28, vi r29, vr x'_31, .unset, .unset, .unset] [(.int (2 : Int32)), (.int (0 : Int32))])) _
            refine XS.icmpYes X31.here hx rfl (pc0 := 256) (pc' := 271) rfl (hb hby at_256) rfl ((tlt (by decide : (0 : Int32) < (2 : Int32))).1) (by decide) (by decide) ?_
            refine XS.iload X31.here hx rfl (hb hby at_271) rfl ?_
            refine XS.iconst X31.here hx rfl (hb hby at_273) ?_
            refine XS.icmpYes X31.here hx rfl (pc0 := 274) (pc' := 289) rfl (hb hby at_274) rfl ((tlt (by decide : (0 : Int32) < (3 : Int32))).1) (by decide) (by decide) ?_
            refine XS.iconst X31.here hx rfl (hb hby at_289) ?_
            refine XS.goto X31.here hx rfl (pc0 := 290) (pc' := 294) rfl (hb hby at_290) (by decide) (by decide) ?_
            show Steps p.tables e below (T31.setTop (mkF m 294 #[vj q1, .second, vi p2, vi p3, vr b1, vi ln, vi (0 : Int32), vi i73_0, vi i89_0, vr b18, vi wv, vi r26, vi r28, vi r29, vr x'_31, .unset, .unset, .unset] [(.int (1 : Int32))])) _
            exact k
          exact J234_36 _ (by simp only [if_neg hc234_37])
      intro i234_0 h_i234_0
      refine GoalW.lift (B := (T31.setTop (mkF m 298 #[vj q1, .second, vi p2, vi p3, vr b1, vi ln, vi (0 : Int32), vi i73_0, vi i89_0, vr b18, vi wv, vi r26, vi r28, vi r29, vr x'_31, vi i234_0, .unset, .unset] [(.int i234_0)]))) (fun t k => ?_) ?_
      · show Steps p.tables e below (T31.setTop (mkF m 294 #[vj q1, .second, vi p2, vi p3, vr b1, vi ln, vi (0 : Int32), vi i73_0, vi i89_0, vr b18, vi wv, vi r26, vi r28, vi r29, vr x'_31, .unset, .unset, .unset] [(.int i234_0)])) _
        refine XS.istore X31.here hx rfl (hb hby at_294) rfl (l' := #[vj q1, .second, vi p2, vi p3, vr b1, vi ln, vi (0 : Int32), vi i73_0, vi i89_0, vr b18, vi wv, vi r26, vi r28, vi r29, vr x'_31, vi i234_0, .unset, .unset]) rfl ?_
        refine XS.iload X31.here hx rfl (hb hby at_296) rfl ?_
        exact k
      suffices J298_38 : ∀ (i298_0 : Int32), i298_0 = (if i234_0 = (0 : Int32) then wv else (wv + (0 : Int32))) → GoalW p.tables e below s 24 1408 (Q0 Z q1 p2 p3 zcs fm h0 n0) (T31.setTop (mkF m 311 #[vj q1, .second, vi p2, vi p3, vr b1, vi ln, vi (0 : Int32), vi i73_0, vi i89_0, vr b18, vi wv, vi r26, vi r28, vi r29, vr x'_31, vi i234_0, .unset, .unset] [(.int i298_0)])) by
        by_cases hc298_39 : i234_0 = (0 : Int32)
        · refine GoalW.lift (B := (T31.setTop (mkF m 311 #[vj q1, .second, vi p2, vi p3, vr b1, vi ln, vi (0 : Int32), vi i73_0, vi i89_0, vr b18, vi wv, vi r26, vi r28, vi r29, vr x'_31, vi i234_0, .unset, .unset] [(.int wv)]))) (fun t k => ?_) ?_
          · show Steps p.tables e below (T31.setTop (mkF m 298 #[vj q1, .second, vi p2, vi p3, vr b1, vi ln, vi (0 : Int32), vi i73_0, vi i89_0, vr b18, vi wv, vi r26, vi r28, vi r29, vr x'_31, vi i234_0, .unset, .unset] [(.int i234_0)])) _
            refine XS.ifYes X31.here hx rfl (pc0 := 298) (pc' := 309) rfl (hb hby at_298) rfl ((if0 _ _).trans (teq hc298_39).1) (by decide) (by decide) ?_
            refine XS.iload X31.here hx rfl (hb hby at_309) rfl ?_
            exact k
          exact J298_38 _ (by simp only [if_pos hc298_39])
        · refine GoalW.lift (B := (T31.setTop (mkF m 311 #[vj q1, .second, vi p2, vi p3, vr b1, vi ln, vi (0 : Int32), vi i73_0, vi i89_0, vr b18, vi wv, vi r26, vi r28, vi r29, vr x'_31, vi i234_0, .unset, .unset] [(.int (wv + (0 : Int32)))]))) (fun t k => ?_) ?_
          · show Steps p.tables e below (T31.setTop (mkF m 298 #[vj q1, .second, vi p2, vi p3, vr b1, vi ln, vi (0 : Int32), vi i73_0, vi i89_0, vr b18, vi wv, vi r26, vi r28, vi r29, vr x'_31, vi i234_0, .unset, .unset] [(.int i234_0)])) _
            refine XS.ifNo X31.here hx rfl (hb hby at_298) rfl ((if0 _ _).trans (feq hc298_39).1) ?_
            refine XS.iload X31.here hx rfl (hb hby at_301) rfl ?_
            refine XS.iload X31.here hx rfl (hb hby at_303) rfl ?_
            refine XS.iadd X31.here hx rfl (hb hby at_305) rfl ?_
            refine XS.goto X31.here hx rfl (pc0 := 306) (pc' := 311) rfl (hb hby at_306) (by decide) (by decide) ?_
            exact k
          exact J298_38 _ (by simp only [if_neg hc298_39])
      intro i298_0 h_i298_0
      have f41 : Sta Z T31.heap "java/lang/String" "COMPACT_STRINGS" "Z" (.int zcs) := (StaKeep (StaKeep (((((((S_COMPACT_STRINGS.ext E1).wr W3).wr W5).wr W7).wr W9).wr W11).ext E18) p20_0 ns22) p31_0 ns32)
      have f42 : Sta Z T31.heap "jdk/internal/util/Preconditions" "SIOOBE_FORMATTER" "Ljava/util/function/BiFunction;" fm := (StaKeep (StaKeep (((((((S_SIOOBE_FORMATTER.ext E1).wr W3).wr W5).wr W7).wr W9).wr W11).ext E18) p20_0 ns22) p31_0 ns32)
      have f43 : Fld Z T31.heap b18 "com/example/verdict/verdict/saml/XmlScanner" "pos" "I" (.int wv) := (Fwv.keep p31_0 nin0)
      have f44 : Fld Z T31.heap b18 "com/example/verdict/verdict/saml/XmlScanner" "end" "I" (.int ln) := (p20_3.keep p31_0 nin0)
      have f45 : Fld Z T31.heap b18 "com/example/verdict/verdict/saml/XmlScanner" "doc" "[B" (.ref b1) := (p20_2.keep p31_0 nin0)
      have f46 : AV Z T31.heap b1 k1 .byte 5 (fun i => Value.int (fn13 i)) := (f27.keep p31_0 nin0)
      obtain ⟨cq40, kq40, q40a, q40b, q40c⟩ := isOf hZ rfl f35
      obtain ⟨_, _, ⟨T40, L40, k40, n40⟩, -, X40, ⟨Lc40, hQ40, l40, y40, z40⟩, st40⟩ := X31.virtualBack hx (y := (⟨"com/example/verdict/verdict/saml/XmlScanner", "skip", "(Ljava/lang/String;)Z"⟩ : MethodName)) (z := (⟨"com/example/verdict/verdict/saml/XmlScanner", "skip", "(Ljava/lang/String;)Z"⟩ : MethodName)) hown (mvT hZ (hw _ (List.mem_of_getElem? (i := 57) rfl))) (mvT hZ (hw _ (List.mem_of_getElem? (i := 58) rfl))) (notFace_of_selects (args := #[]) (mvT hZ (hw _ (List.mem_of_getElem? (i := 60) rfl)))) (mvT hZ (hw _ (List.mem_of_getElem? (i := 60) rfl))) (mvT hZ (hw _ (List.mem_of_getElem? (i := 59) rfl))) (by decide) (backOf (W := 0) (rmsk0 l Z a0 hw [] b18 x'_31 wv zcs fm ln b1 k1 fn13 t'_31 k'_31 (fun _ => (0 : Int32)) T31.heap n0 z33 f41 hCS f42 hfm f35 g_b18 f43 f44 f45 f46 p31_3 p31_4 p31_5 p31_6 ne_b18_x'_31 ne_b18_t'_31 (Ne.symm ne_b1_b18) own_ok0 hp) hZ (hw _ (List.mem_of_getElem? (i := 61) rfl)) (hw _ (List.mem_of_getElem? (i := 3) rfl)) (by decide) (by decide)) q40a q40c (g := (mkF m 317 #[vj q1, .second, vi p2, vi p3, vr b1, vi ln, vi (0 : Int32), vi i73_0, vi i89_0, vr b18, vi wv, vi r26, vi r28, vi r29, vr x'_31, vi i234_0, vi i298_0, .unset] [(.ref x'_31), (.ref b18)])) rfl (by rw [hml]; rfl) (Steps.refl _) (argsL := [(.ref x'_31)]) (rest := []) (lenOf pd_9 rfl) rfl (by show 2 * 0 + _ ≤ _; exact Nat.le_of_eq rfl) (hb hby at_317) (fun _ _ => ⟨rfl, rfl, (by decide : 7 + 0 ≤ _), (by decide : 146 + 0 ≤ _)⟩)
      dsimp only [Pt.U, Pt.locs, Pt.cells, Pt.slots] at X40 l40 y40 z40 st40 hQ40
      subst y40 z40
      obtain ⟨w2_40, rfl, N40q, p40_0, p40_1, p40_2, p40_3, p40_4⟩ := hQ40
      have N40 : Fr n0 L40 := by rw [l40]; exact Fr.app N31 N40q
      have ns47 : ∀ x ∈ ([b18] : List Addr), ∀ cell : Cell, T31.heap[x]? = some cell → cell.vm.isStatics = false := (allS (Exa.ns f35) all0)
      have z48 : n0 ≤ T40.heap.size := Nat.le_trans z33 p40_0.1
      have kz49 : T31.heap.size ≤ T40.heap.size := Nat.le_trans (Nat.le_refl T31.heap.size) p40_0.1
      have hsw : (own_sw0 wv ln) = i234_0 := own_e0 h_i234_0
      obtain ⟨cq50, kq50, q50a, q50b, q50c⟩ := isOf hZ rfl p40_1
      obtain ⟨_, _, ⟨T50, L50, k50, n50⟩, -, X50, ⟨Lc50, hQ50, l50, y50, z50⟩, st50⟩ := X40.virtualBack hx (y := (⟨"com/example/verdict/verdict/saml/XmlScanner", "position", "()I"⟩ : MethodName)) (z := (⟨"com/example/verdict/verdict/saml/XmlScanner", "position", "()I"⟩ : MethodName)) hown (mvT hZ (hw _ (List.mem_of_getElem? (i := 24) rfl))) (mvT hZ (hw _ (List.mem_of_getElem? (i := 25) rfl))) (notFace_of_selects (args := #[]) (mvT hZ (hw _ (List.mem_of_getElem? (i := 27) rfl)))) (mvT hZ (hw _ (List.mem_of_getElem? (i := 27) rfl))) (mvT hZ (hw _ (List.mem_of_getElem? (i := 26) rfl))) (by decide) (backOf (W := 0) (rm5 l Z a0 hw [] b18 w2_40 T40.heap n0 z48 p40_2) hZ (hw _ (List.mem_of_getElem? (i := 28) rfl)) (hw _ (List.mem_of_getElem? (i := 3) rfl)) (by decide) (by decide)) q50a q50c (g := (mkF m 331 #[vj q1, .second, vi p2, vi p3, vr b1, vi ln, vi (0 : Int32), vi i73_0, vi i89_0, vr b18, vi wv, vi r26, vi r28, vi r29, vr x'_31, vi i234_0, vi i298_0, vi (own_sw0 wv ln)] [(.ref b18)])) rfl (by rw [hml]; rfl) (Steps.refl _) (argsL := []) (rest := []) (lenOf pd_7 rfl) rfl (by show 2 * 0 + _ ≤ _; exact Nat.le_of_eq rfl) (hb hby at_331) (fun _ _ => ⟨rfl, rfl, (by decide : 7 + 0 ≤ _), (by decide : 146 + 0 ≤ _)⟩)
      dsimp only [Pt.U, Pt.locs, Pt.cells, Pt.slots] at X50 l50 y50 z50 st50 hQ50
      subst y50 z50
      obtain ⟨rfl, N50q, eq50⟩ := hQ50
      have N50 : Fr n0 L50 := by rw [l50]; exact Fr.app N40 N50q
      have hps : w2_40 = i298_0 := by rw [p40_4, hsw, h_i298_0]
      obtain ⟨cq51, kq51, q51a, q51b, q51c⟩ := isOf hZ eq50 p40_1
      obtain ⟨_, _, ⟨T51, L51, k51, n51⟩, -, X51, ⟨Lc51, hQ51, l51, y51, z51⟩, st51⟩ := X50.virtualBack hx (y := (⟨"com/example/verdict/verdict/saml/XmlScanner", "atEnd", "()Z"⟩ : MethodName)) (z := (⟨"com/example/verdict/verdict/saml/XmlScanner", "atEnd", "()Z"⟩ : MethodName)) hown (mvT hZ (hw _ (List.mem_of_getElem? (i := 82) rfl))) (mvT hZ (hw _ (List.mem_of_getElem? (i := 83) rfl))) (notFace_of_selects (args := #[]) (mvT hZ (hw _ (List.mem_of_getElem? (i := 85) rfl)))) (mvT hZ (hw _ (List.mem_of_getElem? (i := 85) rfl))) (mvT hZ (hw _ (List.mem_of_getElem? (i := 84) rfl))) (by decide) (backOf (W := 0) (rm15 l Z a0 hw [] b18 w2_40 ln T40.heap n0 z48 p40_2 p40_3) hZ (hw _ (List.mem_of_getElem? (i := 86) rfl)) (hw _ (List.mem_of_getElem? (i := 3) rfl)) (by decide) (by decide)) q51a q51c (g := (mkF m 341 #[vj q1, .second, vi p2, vi p3, vr b1, vi ln, vi (0 : Int32), vi i73_0, vi i89_0, vr b18, vi wv, vi r26, vi r28, vi r29, vr x'_31, vi i234_0, vi i298_0, vi (own_sw0 wv ln)] [(.ref b18)])) rfl (by rw [hml]; rfl) (Steps.refl _) (argsL := []) (rest := []) (lenOf pd_5 rfl) rfl (by show 2 * 0 + _ ≤ _; exact Nat.le_of_eq rfl) (hb hby at_341) (fun _ _ => ⟨rfl, eq50, (by decide : 7 + 0 ≤ _), (by decide : 146 + 0 ≤ _)⟩)
      dsimp only [Pt.U, Pt.locs, Pt.cells, Pt.slots] at X51 l51 y51 z51 st51 hQ51
      subst y51 z51
      obtain ⟨r51, rfl, hr51, N51q, eq51⟩ := hQ51
      have N51 : Fr n0 L51 := by rw [l51]; exact Fr.app N50 N51q
      refine GoalW.lift (B := (T51.setTop (mkF m 348 #[vj q1, .second, vi p2, vi p3, vr b1, vi ln, vi (0 : Int32), vi i73_0, vi i89_0, vr b18, vi wv, vi r26, vi r28, vi r29, vr x'_31, vi i234_0, vi i298_0, vi (own_sw0 wv ln)] [(.int ln), (.int i298_0), (.int r51)]))) (fun t k => ?_) ?_
      · show Steps p.tables e below (T31.setTop (mkF m 311 #[vj q1, .second, vi p2, vi p3, vr b1, vi ln, vi (0 : Int32), vi i73_0, vi i89_0, vr b18, vi wv, vi r26, vi r28, vi r29, vr x'_31, vi i234_0, .unset, .unset] [(.int i298_0)])) _
        refine XS.istore X31.here hx rfl (hb hby at_311) rfl (l' := #[vj q1, .second, vi p2, vi p3, vr b1, vi ln, vi (0 : Int32), vi i73_0, vi i89_0, vr b18, vi wv, vi r26, vi r28, vi r29, vr x'_31, vi i234_0, vi i298_0, .unset]) rfl ?_
        refine XS.aload X31.here hx rfl (hb hby at_313) rfl rfl ?_
        refine XS.aload X31.here hx rfl (hb hby at_315) rfl rfl ?_
        refine st40.trans ?_
        refine XS.istore X40.here hx rfl (hb hby at_320) rfl (l' := #[vj q1, .second, vi p2, vi p3, vr b1, vi ln, vi (0 : Int32), vi i73_0, vi i89_0, vr b18, vi wv, vi r26, vi r28, vi r29, vr x'_31, vi i234_0, vi i298_0, vi (own_sw0 wv ln)]) rfl ?_
        refine XS.iload X40.here hx rfl (hb hby at_322) rfl ?_
        show Steps p.tables e below (T40.setTop (mkF m 324 #[vj q1, .second, vi p2, vi p3, vr b1, vi ln, vi (0 : Int32), vi i73_0, vi i89_0, vr b18, vi wv, vi r26, vi r28, vi r29, vr x'_31, vi i234_0, vi i298_0, vi (own_sw0 wv ln)] [(.int (own_sw0 wv ln))])) _
        refine XS.iload X40.here hx rfl (hb hby at_324) rfl ?_
        refine XS.icmpNo X40.here hx rfl (hb hby at_326) rfl ((teq (hsw : (own_sw0 wv ln) = i234_0)).2) ?_
        refine XS.aload X40.here hx rfl (hb hby at_329) rfl rfl ?_
        refine st50.trans ?_
        refine XS.iload X50.here hx rfl (hb hby at_334) rfl ?_
        refine XS.icmpNo X50.here hx rfl (hb hby at_336) rfl ((teq (hps : w2_40 = i298_0)).2) ?_
        show Steps p.tables e below (T50.setTop (mkF m 339 #[vj q1, .second, vi p2, vi p3, vr b1, vi ln, vi (0 : Int32), vi i73_0, vi i89_0, vr b18, vi wv, vi r26, vi r28, vi r29, vr x'_31, vi i234_0, vi i298_0, vi (own_sw0 wv ln)] [])) _
        refine XS.aload X50.here hx rfl (hb hby at_339) rfl rfl ?_
        refine st51.trans ?_
        refine XS.iload X51.here hx rfl (hb hby at_344) rfl ?_
        refine XS.iload X51.here hx rfl (hb hby at_346) rfl ?_
        exact k
      suffices J348_52 : ∀ (i348_0 : Int32), i348_0 = (if i298_0 = ln then (1 : Int32) else (0 : Int32)) → GoalW p.tables e below s 24 1408 (Q0 Z q1 p2 p3 zcs fm h0 n0) (T51.setTop (mkF m 356 #[vj q1, .second, vi p2, vi p3, vr b1, vi ln, vi (0 : Int32), vi i73_0, vi i89_0, vr b18, vi wv, vi r26, vi r28, vi r29, vr x'_31, vi i234_0, vi i298_0, vi (own_sw0 wv ln)] [(.int i348_0), (.int r51)])) by
        by_cases hc348_53 : i298_0 = ln
        · refine GoalW.lift (B := (T51.setTop (mkF m 356 #[vj q1, .second, vi p2, vi p3, vr b1, vi ln, vi (0 : Int32), vi i73_0, vi i89_0, vr b18, vi wv, vi r26, vi r28, vi r29, vr x'_31, vi i234_0, vi i298_0, vi (own_sw0 wv ln)] [(.int (1 : Int32)), (.int r51)]))) (fun t k => ?_) ?_
          · show Steps p.tables e below (T51.setTop (mkF m 348 #[vj q1, .second, vi p2, vi p3, vr b1, vi ln, vi (0 : Int32), vi i73_0, vi i89_0, vr b18, vi wv, vi r26, vi r28, vi r29, vr x'_31, vi i234_0, vi i298_0, vi (own_sw0 wv ln)] [(.int ln), (.int i298_0), (.int r51)])) _
            refine XS.icmpNo X51.here hx rfl (hb hby at_348) rfl ((teq hc348_53).2) ?_
            refine XS.iconst X51.here hx rfl (hb hby at_351) ?_
            refine XS.goto X51.here hx rfl (pc0 := 352) (pc' := 356) rfl (hb hby at_352) (by decide) (by decide) ?_
            exact k
          exact J348_52 _ (by simp only [if_pos hc348_53])
        · refine GoalW.lift (B := (T51.setTop (mkF m 356 #[vj q1, .second, vi p2, vi p3, vr b1, vi ln, vi (0 : Int32), vi i73_0, vi i89_0, vr b18, vi wv, vi r26, vi r28, vi r29, vr x'_31, vi i234_0, vi i298_0, vi (own_sw0 wv ln)] [(.int (0 : Int32)), (.int r51)]))) (fun t k => ?_) ?_
          · show Steps p.tables e below (T51.setTop (mkF m 348 #[vj q1, .second, vi p2, vi p3, vr b1, vi ln, vi (0 : Int32), vi i73_0, vi i89_0, vr b18, vi wv, vi r26, vi r28, vi r29, vr x'_31, vi i234_0, vi i298_0, vi (own_sw0 wv ln)] [(.int ln), (.int i298_0), (.int r51)])) _
            refine XS.icmpYes X51.here hx rfl (pc0 := 348) (pc' := 355) rfl (hb hby at_348) rfl ((feq hc348_53).2) (by decide) (by decide) ?_
            refine XS.iconst X51.here hx rfl (hb hby at_355) ?_
            exact k
          exact J348_52 _ (by simp only [if_neg hc348_53])
      intro i348_0 h_i348_0
      obtain ⟨fs, hr, hrun, hended, hRW⟩ := X51.leaveW hS31 (by rw [eq51]; exact kz49) (v := some (.int (1 : Int32))) (fun h => by rw [Bd.returns] at h; cases h)
      refine ⟨_, _, ?_, hrun, hended, _, _, rfl, ?_, own_monoW hRW (by decide) (by decide)⟩
      · show Steps p.tables e below (T51.setTop (mkF m 356 #[vj q1, .second, vi p2, vi p3, vr b1, vi ln, vi (0 : Int32), vi i73_0, vi i89_0, vr b18, vi wv, vi r26, vi r28, vi r29, vr x'_31, vi i234_0, vi i298_0, vi (own_sw0 wv ln)] [(.int i348_0), (.int r51)])) _
        refine XS.icmpNo X51.here hx rfl (hb hby at_356) rfl ((teq (by rw [hr51, h_i348_0, hps] : r51 = i348_0)).2) ?_
        refine XS.iconst X51.here hx rfl (hb hby at_359) ?_
        refine XS.goto X51.here hx rfl (pc0 := 360) (pc' := 364) rfl (hb hby at_360) (by decide) (by decide) ?_
        exact retN X51 hx (t := .boolean) Bd.returns (by simp) (hb hby at_364) hr
      · exact ⟨rfl, N51⟩
    · refine GoalW.lift (B := (T29.setTop (mkF m 214 #[vj q1, .second, vi p2, vi p3, vr b1, vi ln, vi (1 : Int32), vi i73_0, vi i89_0, vr b18, vi wv, vi r26, vi r28, vi r29, .unset, .unset, .unset, .unset] []))) (fun t k => by rw [hs30]; exact k) ?_
      have f55 : Sta Z T20.heap "java/lang/String" "COMPACT_STRINGS" "Z" (.int zcs) := (StaKeep (((((((S_COMPACT_STRINGS.ext E1).wr W3).wr W5).wr W7).wr W9).wr W11).ext E18) p20_0 ns22)
      obtain ⟨_, _, ⟨T54, L54, k54, n54⟩, -, X54, ⟨Lc54, hQ54, l54, y54, z54⟩, st54⟩ := Jvm.LawKit.callS X29 hx (y := (⟨"com/example/verdict/verdict/saml/XmlScannerSkipPinLaw", "make", "(ICCC)Ljava/lang/String;"⟩ : MethodName)) hown (mvT hZ (hw _ (List.mem_of_getElem? (i := 35) rfl))) (mvT hZ (hw _ (List.mem_of_getElem? (i := 36) rfl))) (mvT hZ (hw _ (List.mem_of_getElem? (i := 33) rfl))) (mvT hZ (hw _ (List.mem_of_getElem? (i := 37) rfl))) (by decide) (backOf (W := 0) (rmmk1 l Z a0 hw [] r26 r28 r29 zcs T20.heap n0 z23 f55 hCS hr26 hr28 hr29) hZ (hw _ (List.mem_of_getElem? (i := 37) rfl)) (hw _ (List.mem_of_getElem? (i := 33) rfl)) (by decide) (by decide)) (g := (mkF m 222 #[vj q1, .second, vi p2, vi p3, vr b1, vi ln, vi (1 : Int32), vi i73_0, vi i89_0, vr b18, vi wv, vi r26, vi r28, vi r29, .unset, .unset, .unset, .unset] [(.int r29), (.int r28), (.int r26), (.int (1 : Int32))])) rfl (by rw [hml]; rfl) (argsL := [(.int (1 : Int32)), (.int r26), (.int r28), (.int r29)]) (rest := []) (lenOf pd_18 rfl) rfl (by show 2 * 0 + _ ≤ _; exact Nat.le_of_eq rfl) (hb hby at_222) (fun _ _ => ⟨rfl, eq29, (by decide : 3 + 3 ≤ _), (by decide : 138 + 6 ≤ _)⟩)
      dsimp only [Pt.U, Pt.locs, Pt.cells, Pt.slots] at X54 l54 y54 z54 st54 hQ54
      subst y54 z54
      obtain ⟨x'_54, t'_54, k'_54, rfl, N54q, p54_0, p54_1, p54_2, p54_3, p54_4, p54_5, p54_6, p54_7⟩ := hQ54
      have N54 : Fr n0 L54 := by rw [l54]; exact Fr.app N29 N54q
      have ns56 : ∀ x ∈ ([] : List Addr), ∀ cell : Cell, T20.heap[x]? = some cell → cell.vm.isStatics = false := all0
      have z57 : n0 ≤ T54.heap.size := Nat.le_trans z23 p54_0.1
      have ne_b1_x'_54 : b1 ≠ x'_54 := Nat.ne_of_lt (Nat.lt_of_lt_of_le f27.lt p54_1)
      have ne_b18_x'_54 : b18 ≠ x'_54 := Nat.ne_of_lt (Nat.lt_of_lt_of_le p20_1.lt p54_1)
      have g_x'_54 : n0 ≤ x'_54 := Nat.le_trans z23 p54_1
      have ne_b1_t'_54 : b1 ≠ t'_54 := Nat.ne_of_lt (Nat.lt_of_lt_of_le f27.lt p54_2)
      have ne_b18_t'_54 : b18 ≠ t'_54 := Nat.ne_of_lt (Nat.lt_of_lt_of_le p20_1.lt p54_2)
      have g_t'_54 : n0 ≤ t'_54 := Nat.le_trans z23 p54_2
      refine GoalW.lift (B := (T54.setTop (mkF m 234 #[vj q1, .second, vi p2, vi p3, vr b1, vi ln, vi (1 : Int32), vi i73_0, vi i89_0, vr b18, vi wv, vi r26, vi r28, vi r29, vr x'_54, .unset, .unset, .unset] [(.int (ln - wv)), (.int (1 : Int32))]))) (fun t k => ?_) ?_
      · show Steps p.tables e below (T29.setTop (mkF m 214 #[vj q1, .second, vi p2, vi p3, vr b1, vi ln, vi (1 : Int32), vi i73_0, vi i89_0, vr b18, vi wv, vi r26, vi r28, vi r29, .unset, .unset, .unset, .unset] [])) _
        refine XS.iload X29.here hx rfl (hb hby at_214) rfl ?_
        refine XS.iload X29.here hx rfl (hb hby at_216) rfl ?_
        refine XS.iload X29.here hx rfl (hb hby at_218) rfl ?_
        refine XS.iload X29.here hx rfl (hb hby at_220) rfl ?_
        refine st54 _ ?_
        refine XS.astore X54.here hx rfl (hb hby at_225) rfl rfl (l' := #[vj q1, .second, vi p2, vi p3, vr b1, vi ln, vi (1 : Int32), vi i73_0, vi i89_0, vr b18, vi wv, vi r26, vi r28, vi r29, vr x'_54, .unset, .unset, .unset]) rfl ?_
        show Steps p.tables e below (T54.setTop (mkF m 227 #[vj q1, .second, vi p2, vi p3, vr b1, vi ln, vi (1 : Int32), vi i73_0, vi i89_0, vr b18, vi wv, vi r26, vi r28, vi r29, vr x'_54, .unset, .unset, .unset] [])) _
        refine XS.iload X54.here hx rfl (hb hby at_227) rfl ?_
        refine XS.iload X54.here hx rfl (hb hby at_229) rfl ?_
        refine XS.iload X54.here hx rfl (hb hby at_231) rfl ?_
        refine XS.isub X54.here hx rfl (hb hby at_233) rfl ?_
        exact k
      suffices J234_60 : ∀ (i234_0 : Int32), i234_0 = (if (ln - wv) < (1 : Int32) then (0 : Int32) else (if (fn13 (wv).toNatClampNeg) = r26 then (1 : Int32) else (0 : Int32))) → GoalW p.tables e below s 24 1408 (Q0 Z q1 p2 p3 zcs fm h0 n0) (T54.setTop (mkF m 294 #[vj q1, .second, vi p2, vi p3, vr b1, vi ln, vi (1 : Int32), vi i73_0, vi i89_0, vr b18, vi wv, vi r26, vi r28, vi r29, vr x'_54, .unset, .unset, .unset] [(.int i234_0)])) by
        by_cases hc234_61 : (ln - wv) < (1 : Int32)
        · refine GoalW.lift (B := (T54.setTop (mkF m 294 #[vj q1, .second, vi p2, vi p3, vr b1, vi ln, vi (1 : Int32), vi i73_0, vi i89_0, vr b18, vi wv, vi r26, vi r28, vi r29, vr x'_54, .unset, .unset, .unset] [(.int (0 : Int32))]))) (fun t k => ?_) ?_
          · show Steps p.tables e below (T54.setTop (mkF m 234 #[vj q1, .second, vi p2, vi p3, vr b1, vi ln, vi (1 : Int32), vi i73_0, vi i89_0, vr b18, vi wv, vi r26, vi r28, vi r29, vr x'_54, .unset, .unset, .unset] [(.int (ln - wv)), (.int (1 : Int32))])) _
            refine XS.icmpYes X54.here hx rfl (pc0 := 234) (pc' := 293) rfl (hb hby at_234) rfl ((tlt hc234_61).2.2.1) (by decide) (by decide) ?_
            refine XS.iconst X54.here hx rfl (hb hby at_293) ?_
            exact k
          exact J234_60 _ (by simp only [if_pos hc234_61])
        · have f63 : AV Z T54.heap b1 k1 .byte 5 (fun i => Value.int (fn13 i)) := (f27.keep p54_0 nin0)
          obtain ⟨cl62, Ar62, kc62, sz62, -, hv62⟩ := id f63
          have hin62 : ¬ (wv < 0 ∨ cl62.slots.size ≤ (wv).toNatClampNeg) := AV.inb sz62 (own_p50 hp)
          have hat62 : cl62.slots[(wv).toNatClampNeg]? = some (.int (fn13 (wv).toNatClampNeg)) := (hv62 _ (AV.inx (own_p50 hp))).trans (congrArg some rfl)
          refine GoalW.lift (B := (T54.setTop (mkF m 250 #[vj q1, .second, vi p2, vi p3, vr b1, vi ln, vi (1 : Int32), vi i73_0, vi i89_0, vr b18, vi wv, vi r26, vi r28, vi r29, vr x'_54, .unset, .unset, .unset] [(.int r26), (.int (fn13 (wv).toNatClampNeg))]))) (fun t k => ?_) ?_
          · show Steps p.tables e below (T54.setTop (mkF m 234 #[vj q1, .second, vi p2, vi p3, vr b1, vi ln, vi (1 : Int32), vi i73_0, vi i89_0, vr b18, vi wv, vi r26, vi r28, vi r29, vr x'_54, .unset, .unset, .unset] [(.int (ln - wv)), (.int (1 : Int32))])) _
            refine XS.icmpNo X54.here hx rfl (hb hby at_234) rfl ((flt hc234_61).2.2.1) ?_
            refine XS.iload X54.here hx rfl (hb hby at_237) rfl ?_
            refine XS.iconst X54.here hx rfl (hb hby at_239) ?_
            refine XS.icmpNo X54.here hx rfl (hb hby at_240) rfl ((flt (by decide : ¬ ((1 : Int32) < (1 : Int32)))).1) ?_
            refine XS.aload X54.here hx rfl (hb hby at_243) rfl rfl ?_
            refine XS.iload X54.here hx rfl (hb hby at_245) rfl ?_
            show Steps p.tables e below (T54.setTop (mkF m 247 #[vj q1, .second, vi p2, vi p3, vr b1, vi ln, vi (1 : Int32), vi i73_0, vi i89_0, vr b18, vi wv, vi r26, vi r28, vi r29, vr x'_54, .unset, .unset, .unset] [(.int wv), (.ref b1)])) _
            refine X54.baloadBytes hx (j := wv) (v := (.int (fn13 (wv).toNatClampNeg))) Ar62.1 (State.isArrayOf_alike hZ.alike Ar62.2.1) Ar62.2.2 hin62 hat62 (g := (mkF m 247 #[vj q1, .second, vi p2, vi p3, vr b1, vi ln, vi (1 : Int32), vi i73_0, vi i89_0, vr b18, vi wv, vi r26, vi r28, vi r29, vr x'_54, .unset, .unset, .unset] [(.int wv), (.ref b1)])) rfl rfl (hb hby at_247) _ ?_
            refine XS.iload X54.here hx rfl (hb hby at_248) rfl ?_
            exact k
          by_cases hc250_64 : (fn13 (wv).toNatClampNeg) = r26
          · refine GoalW.lift (B := (T54.setTop (mkF m 294 #[vj q1, .second, vi p2, vi p3, vr b1, vi ln, vi (1 : Int32), vi i73_0, vi i89_0, vr b18, vi wv, vi r26, vi r28, vi r29, vr x'_54, .unset, .unset, .unset] [(.int (1 : Int32))]))) (fun t k => ?_) ?_
            · show Steps p.tables e below (T54.setTop (mkF m 250 #[vj q1, .second, vi p2, vi p3, vr b1, vi ln, vi (1 : Int32), vi i73_0, vi i89_0, vr b18, vi wv, vi r26, vi r28, vi r29, vr x'_54, .unset, .unset, .unset] [(.int r26), (.int (fn13 (wv).toNatClampNeg))])) _
              refine XS.icmpNo X54.here hx rfl (hb hby at_250) rfl ((teq hc250_64).2) ?_
              refine XS.iload X54.here hx rfl (hb hby at_253) rfl ?_
              refine XS.iconst X54.here hx rfl (hb hby at_255) ?_
              refine XS.icmpYes X54.here hx rfl (pc0 := 256) (pc' := 271) rfl (hb hby at_256) rfl ((tlt (by decide : (1 : Int32) < (2 : Int32))).1) (by decide) (by decide) ?_
              refine XS.iload X54.here hx rfl (hb hby at_271) rfl ?_
              refine XS.iconst X54.here hx rfl (hb hby at_273) ?_
              show Steps p.tables e below (T54.setTop (mkF m 274 #[vj q1, .second, vi p2, vi p3, vr b1, vi ln, vi (1 : Int32), vi i73_0, vi i89_0, vr b18, vi wv, vi r26, vi r28, vi r29, vr x'_54, .unset, .unset, .unset] [(.int (3 : Int32)), (.int (1 : Int32))])) _
              refine XS.icmpYes X54.here hx rfl (pc0 := 274) (pc' := 289) rfl (hb hby at_274) rfl ((tlt (by decide : (1 : Int32) < (3 : Int32))).1) (by decide) (by decide) ?_
              refine XS.iconst X54.here hx rfl (hb hby at_289) ?_
              refine XS.goto X54.here hx rfl (pc0 := 290) (pc' := 294) rfl (hb hby at_290) (by decide) (by decide) ?_
              exact k
            exact J234_60 _ (by simp only [if_neg hc234_61, if_pos hc250_64])
          · refine GoalW.lift (B := (T54.setTop (mkF m 294 #[vj q1, .second, vi p2, vi p3, vr b1, vi ln, vi (1 : Int32), vi i73_0, vi i89_0, vr b18, vi wv, vi r26, vi r28, vi r29, vr x'_54, .unset, .unset, .unset] [(.int (0 : Int32))]))) (fun t k => ?_) ?_
            · show Steps p.tables e below (T54.setTop (mkF m 250 #[vj q1, .second, vi p2, vi p3, vr b1, vi ln, vi (1 : Int32), vi i73_0, vi i89_0, vr b18, vi wv, vi r26, vi r28, vi r29, vr x'_54, .unset, .unset, .unset] [(.int r26), (.int (fn13 (wv).toNatClampNeg))])) _
              refine XS.icmpYes X54.here hx rfl (pc0 := 250) (pc' := 293) rfl (hb hby at_250) rfl ((feq hc250_64).2) (by decide) (by decide) ?_
              refine XS.iconst X54.here hx rfl (hb hby at_293) ?_
              exact k
            exact J234_60 _ (by simp only [if_neg hc234_61, if_neg hc250_64])
      intro i234_0 h_i234_0
      refine GoalW.lift (B := (T54.setTop (mkF m 298 #[vj q1, .second, vi p2, vi p3, vr b1, vi ln, vi (1 : Int32), vi i73_0, vi i89_0, vr b18, vi wv, vi r26, vi r28, vi r29, vr x'_54, vi i234_0, .unset, .unset] [(.int i234_0)]))) (fun t k => ?_) ?_
      · show Steps p.tables e below (T54.setTop (mkF m 294 #[vj q1, .second, vi p2, vi p3, vr b1, vi ln, vi (1 : Int32), vi i73_0, vi i89_0, vr b18, vi wv, vi r26, vi r28, vi r29, vr x'_54, .unset, .unset, .unset] [(.int i234_0)])) _
        refine XS.istore X54.here hx rfl (hb hby at_294) rfl (l' := #[vj q1, .second, vi p2, vi p3, vr b1, vi ln, vi (1 : Int32), vi i73_0, vi i89_0, vr b18, vi wv, vi r26, vi r28, vi r29, vr x'_54, vi i234_0, .unset, .unset]) rfl ?_
        refine XS.iload X54.here hx rfl (hb hby at_296) rfl ?_
        exact k
      suffices J298_65 : ∀ (i298_0 : Int32), i298_0 = (if i234_0 = (0 : Int32) then wv else (wv + (1 : Int32))) → GoalW p.tables e below s 24 1408 (Q0 Z q1 p2 p3 zcs fm h0 n0) (T54.setTop (mkF m 311 #[vj q1, .second, vi p2, vi p3, vr b1, vi ln, vi (1 : Int32), vi i73_0, vi i89_0, vr b18, vi wv, vi r26, vi r28, vi r29, vr x'_54, vi i234_0, .unset, .unset] [(.int i298_0)])) by
        by_cases hc298_66 : i234_0 = (0 : Int32)
        · refine GoalW.lift (B := (T54.setTop (mkF m 311 #[vj q1, .second, vi p2, vi p3, vr b1, vi ln, vi (1 : Int32), vi i73_0, vi i89_0, vr b18, vi wv, vi r26, vi r28, vi r29, vr x'_54, vi i234_0, .unset, .unset] [(.int wv)]))) (fun t k => ?_) ?_
          · show Steps p.tables e below (T54.setTop (mkF m 298 #[vj q1, .second, vi p2, vi p3, vr b1, vi ln, vi (1 : Int32), vi i73_0, vi i89_0, vr b18, vi wv, vi r26, vi r28, vi r29, vr x'_54, vi i234_0, .unset, .unset] [(.int i234_0)])) _
            refine XS.ifYes X54.here hx rfl (pc0 := 298) (pc' := 309) rfl (hb hby at_298) rfl ((if0 _ _).trans (teq hc298_66).1) (by decide) (by decide) ?_
            refine XS.iload X54.here hx rfl (hb hby at_309) rfl ?_
            exact k
          exact J298_65 _ (by simp only [if_pos hc298_66])
        · refine GoalW.lift (B := (T54.setTop (mkF m 311 #[vj q1, .second, vi p2, vi p3, vr b1, vi ln, vi (1 : Int32), vi i73_0, vi i89_0, vr b18, vi wv, vi r26, vi r28, vi r29, vr x'_54, vi i234_0, .unset, .unset] [(.int (wv + (1 : Int32)))]))) (fun t k => ?_) ?_
          · show Steps p.tables e below (T54.setTop (mkF m 298 #[vj q1, .second, vi p2, vi p3, vr b1, vi ln, vi (1 : Int32), vi i73_0, vi i89_0, vr b18, vi wv, vi r26, vi r28, vi r29, vr x'_54, vi i234_0, .unset, .unset] [(.int i234_0)])) _
            refine XS.ifNo X54.here hx rfl (hb hby at_298) rfl ((if0 _ _).trans (feq hc298_66).1) ?_
            refine XS.iload X54.here hx rfl (hb hby at_301) rfl ?_
            refine XS.iload X54.here hx rfl (hb hby at_303) rfl ?_
            refine XS.iadd X54.here hx rfl (hb hby at_305) rfl ?_
            refine XS.goto X54.here hx rfl (pc0 := 306) (pc' := 311) rfl (hb hby at_306) (by decide) (by decide) ?_
            exact k
          exact J298_65 _ (by simp only [if_neg hc298_66])
      intro i298_0 h_i298_0
      have f68 : Sta Z T54.heap "java/lang/String" "COMPACT_STRINGS" "Z" (.int zcs) := (StaKeep f55 p54_0 ns56)
      have f69 : Sta Z T54.heap "jdk/internal/util/Preconditions" "SIOOBE_FORMATTER" "Ljava/util/function/BiFunction;" fm := (StaKeep (StaKeep (((((((S_SIOOBE_FORMATTER.ext E1).wr W3).wr W5).wr W7).wr W9).wr W11).ext E18) p20_0 ns22) p54_0 ns56)
      have f70 : Exa Z T54.heap b18 "com/example/verdict/verdict/saml/XmlScanner" := (p20_1.keep p54_0)
      have f71 : Fld Z T54.heap b18 "com/example/verdict/verdict/saml/XmlScanner" "pos" "I" (.int wv) := (Fwv.keep p54_0 nin0)
      have f72 : Fld Z T54.heap b18 "com/example/verdict/verdict/saml/XmlScanner" "end" "I" (.int ln) := (p20_3.keep p54_0 nin0)
      have f73 : Fld Z T54.heap b18 "com/example/verdict/verdict/saml/XmlScanner" "doc" "[B" (.ref b1) := (p20_2.keep p54_0 nin0)
      have f74 : AV Z T54.heap b1 k1 .byte 5 (fun i => Value.int (fn13 i)) := (f27.keep p54_0 nin0)
      obtain ⟨cq67, kq67, q67a, q67b, q67c⟩ := isOf hZ rfl f70
      obtain ⟨_, _, ⟨T67, L67, k67, n67⟩, -, X67, ⟨Lc67, hQ67, l67, y67, z67⟩, st67⟩ := X54.virtualBack hx (y := (⟨"com/example/verdict/verdict/saml/XmlScanner", "skip", "(Ljava/lang/String;)Z"⟩ : MethodName)) (z := (⟨"com/example/verdict/verdict/saml/XmlScanner", "skip", "(Ljava/lang/String;)Z"⟩ : MethodName)) hown (mvT hZ (hw _ (List.mem_of_getElem? (i := 57) rfl))) (mvT hZ (hw _ (List.mem_of_getElem? (i := 58) rfl))) (notFace_of_selects (args := #[]) (mvT hZ (hw _ (List.mem_of_getElem? (i := 60) rfl)))) (mvT hZ (hw _ (List.mem_of_getElem? (i := 60) rfl))) (mvT hZ (hw _ (List.mem_of_getElem? (i := 59) rfl))) (by decide) (backOf (W := 0) (rmsk1 l Z a0 hw [] b18 x'_54 wv zcs fm ln b1 k1 fn13 t'_54 k'_54 (own_s3 r26 r28 r29) T54.heap n0 z57 f68 hCS f69 hfm f70 g_b18 f71 f72 f73 f74 p54_4 p54_5 p54_6 p54_7 ne_b18_x'_54 ne_b18_t'_54 (Ne.symm ne_b1_b18) (own_s3ok hr26 hr28 hr29) hp) hZ (hw _ (List.mem_of_getElem? (i := 61) rfl)) (hw _ (List.mem_of_getElem? (i := 3) rfl)) (by decide) (by decide)) q67a q67c (g := (mkF m 317 #[vj q1, .second, vi p2, vi p3, vr b1, vi ln, vi (1 : Int32), vi i73_0, vi i89_0, vr b18, vi wv, vi r26, vi r28, vi r29, vr x'_54, vi i234_0, vi i298_0, .unset] [(.ref x'_54), (.ref b18)])) rfl (by rw [hml]; rfl) (Steps.refl _) (argsL := [(.ref x'_54)]) (rest := []) (lenOf pd_9 rfl) rfl (by show 2 * 0 + _ ≤ _; exact Nat.le_of_eq rfl) (hb hby at_317) (fun _ _ => ⟨rfl, rfl, (by decide : 6 + 0 ≤ _), (by decide : 144 + 0 ≤ _)⟩)
      dsimp only [Pt.U, Pt.locs, Pt.cells, Pt.slots] at X67 l67 y67 z67 st67 hQ67
      subst y67 z67
      obtain ⟨w2_67, rfl, N67q, p67_0, p67_1, p67_2, p67_3, p67_4⟩ := hQ67
      have N67 : Fr n0 L67 := by rw [l67]; exact Fr.app N54 N67q
      have ns75 : ∀ x ∈ ([b18] : List Addr), ∀ cell : Cell, T54.heap[x]? = some cell → cell.vm.isStatics = false := (allS (Exa.ns f70) all0)
      have z76 : n0 ≤ T67.heap.size := Nat.le_trans z57 p67_0.1
      have hsw : (own_sw1 wv ln fn13 (own_s3 r26 r28 r29)) = i234_0 := own_e1 h_i234_0
      obtain ⟨cq77, kq77, q77a, q77b, q77c⟩ := isOf hZ rfl p67_1
      obtain ⟨_, _, ⟨T77, L77, k77, n77⟩, -, X77, ⟨Lc77, hQ77, l77, y77, z77⟩, st77⟩ := X67.virtualBack hx (y := (⟨"com/example/verdict/verdict/saml/XmlScanner", "position", "()I"⟩ : MethodName)) (z := (⟨"com/example/verdict/verdict/saml/XmlScanner", "position", "()I"⟩ : MethodName)) hown (mvT hZ (hw _ (List.mem_of_getElem? (i := 24) rfl))) (mvT hZ (hw _ (List.mem_of_getElem? (i := 25) rfl))) (notFace_of_selects (args := #[]) (mvT hZ (hw _ (List.mem_of_getElem? (i := 27) rfl)))) (mvT hZ (hw _ (List.mem_of_getElem? (i := 27) rfl))) (mvT hZ (hw _ (List.mem_of_getElem? (i := 26) rfl))) (by decide) (backOf (W := 0) (rm5 l Z a0 hw [] b18 w2_67 T67.heap n0 z76 p67_2) hZ (hw _ (List.mem_of_getElem? (i := 28) rfl)) (hw _ (List.mem_of_getElem? (i := 3) rfl)) (by decide) (by decide)) q77a q77c (g := (mkF m 331 #[vj q1, .second, vi p2, vi p3, vr b1, vi ln, vi (1 : Int32), vi i73_0, vi i89_0, vr b18, vi wv, vi r26, vi r28, vi r29, vr x'_54, vi i234_0, vi i298_0, vi (own_sw1 wv ln fn13 (own_s3 r26 r28 r29))] [(.ref b18)])) rfl (by rw [hml]; rfl) (Steps.refl _) (argsL := []) (rest := []) (lenOf pd_7 rfl) rfl (by show 2 * 0 + _ ≤ _; exact Nat.le_of_eq rfl) (hb hby at_331) (fun _ _ => ⟨rfl, rfl, (by decide : 6 + 0 ≤ _), (by decide : 144 + 0 ≤ _)⟩)
      dsimp only [Pt.U, Pt.locs, Pt.cells, Pt.slots] at X77 l77 y77 z77 st77 hQ77
      subst y77 z77
      obtain ⟨rfl, N77q, eq77⟩ := hQ77
      have N77 : Fr n0 L77 := by rw [l77]; exact Fr.app N67 N77q
      have hps : w2_67 = i298_0 := by rw [p67_4, hsw, h_i298_0]
      obtain ⟨cq78, kq78, q78a, q78b, q78c⟩ := isOf hZ eq77 p67_1
      obtain ⟨_, _, ⟨T78, L78, k78, n78⟩, -, X78, ⟨Lc78, hQ78, l78, y78, z78⟩, st78⟩ := X77.virtualBack hx (y := (⟨"com/example/verdict/verdict/saml/XmlScanner", "atEnd", "()Z"⟩ : MethodName)) (z := (⟨"com/example/verdict/verdict/saml/XmlScanner", "atEnd", "()Z"⟩ : MethodName)) hown (mvT hZ (hw _ (List.mem_of_getElem? (i := 82) rfl))) (mvT hZ (hw _ (List.mem_of_getElem? (i := 83) rfl))) (notFace_of_selects (args := #[]) (mvT hZ (hw _ (List.mem_of_getElem? (i := 85) rfl)))) (mvT hZ (hw _ (List.mem_of_getElem? (i := 85) rfl))) (mvT hZ (hw _ (List.mem_of_getElem? (i := 84) rfl))) (by decide) (backOf (W := 0) (rm15 l Z a0 hw [] b18 w2_67 ln T67.heap n0 z76 p67_2 p67_3) hZ (hw _ (List.mem_of_getElem? (i := 86) rfl)) (hw _ (List.mem_of_getElem? (i := 3) rfl)) (by decide) (by decide)) q78a q78c (g := (mkF m 341 #[vj q1, .second, vi p2, vi p3, vr b1, vi ln, vi (1 : Int32), vi i73_0, vi i89_0, vr b18, vi wv, vi r26, vi r28, vi r29, vr x'_54, vi i234_0, vi i298_0, vi (own_sw1 wv ln fn13 (own_s3 r26 r28 r29))] [(.ref b18)])) rfl (by rw [hml]; rfl) (Steps.refl _) (argsL := []) (rest := []) (lenOf pd_5 rfl) rfl (by show 2 * 0 + _ ≤ _; exact Nat.le_of_eq rfl) (hb hby at_341) (fun _ _ => ⟨rfl, eq77, (by decide : 6 + 0 ≤ _), (by decide : 144 + 0 ≤ _)⟩)
      dsimp only [Pt.U, Pt.locs, Pt.cells, Pt.slots] at X78 l78 y78 z78 st78 hQ78
      subst y78 z78
      obtain ⟨r78, rfl, hr78, N78q, eq78⟩ := hQ78
      have N78 : Fr n0 L78 := by rw [l78]; exact Fr.app N77 N78q
      refine GoalW.lift (B := (T78.setTop (mkF m 348 #[vj q1, .second, vi p2, vi p3, vr b1, vi ln, vi (1 : Int32), vi i73_0, vi i89_0, vr b18, vi wv, vi r26, vi r28, vi r29, vr x'_54, vi i234_0, vi i298_0, vi (own_sw1 wv ln fn13 (own_s3 r26 r28 r29))] [(.int ln), (.int i298_0), (.int r78)]))) (fun t k => ?_) ?_
      · show Steps p.tables e below (T54.setTop (mkF m 311 #[vj q1, .second, vi p2, vi p3, vr b1, vi ln, vi (1 : Int32), vi i73_0, vi i89_0, vr b18, vi wv, vi r26, vi r28, vi r29, vr x'_54, vi i234_0, .unset, .unset] [(.int i298_0)])) _
        refine XS.istore X54.here hx rfl (hb hby at_311) rfl (l' := #[vj q1, .second, vi p2, vi p3, vr b1, vi ln, vi (1 : Int32), vi i73_0, vi i89_0, vr b18, vi wv, vi r26, vi r28, vi r29, vr x'_54, vi i234_0, vi i298_0, .unset]) rfl ?_
        refine XS.aload X54.here hx rfl (hb hby at_313) rfl rfl ?_
        refine XS.aload X54.here hx rfl (hb hby at_315) rfl rfl ?_
        refine st67.trans ?_
        refine XS.istore X67.here hx rfl (hb hby at_320) rfl (l' := #[vj q1, .second, vi p2, vi p3, vr b1, vi ln, vi (1 : Int32), vi i73_0, vi i89_0, vr b18, vi wv, vi r26, vi r28, vi r29, vr x'_54, vi i234_0, vi i298_0, vi (own_sw1 wv ln fn13 (own_s3 r26 r28 r29))]) rfl ?_
        refine XS.iload X67.here hx rfl (hb hby at_322) rfl ?_
        show Steps p.tables e below (T67.setTop (mkF m 324 #[vj q1, .second, vi p2, vi p3, vr b1, vi ln, vi (1 : Int32), vi i73_0, vi i89_0, vr b18, vi wv, vi r26, vi r28, vi r29, vr x'_54, vi i234_0, vi i298_0, vi (own_sw1 wv ln fn13 (own_s3 r26 r28 r29))] [(.int (own_sw1 wv ln fn13 (own_s3 r26 r28 r29)))])) _
        refine XS.iload X67.here hx rfl (hb hby at_324) rfl ?_
        refine XS.icmpNo X67.here hx rfl (hb hby at_326) rfl ((teq (hsw : (own_sw1 wv ln fn13 (own_s3 r26 r28 r29)) = i234_0)).2) ?_
        refine XS.aload X67.here hx rfl (hb hby at_329) rfl rfl ?_
        refine st77.trans ?_
        refine XS.iload X77.here hx rfl (hb hby at_334) rfl ?_
        refine XS.icmpNo X77.here hx rfl (hb hby at_336) rfl ((teq (hps : w2_67 = i298_0)).2) ?_
        show Steps p.tables e below (T77.setTop (mkF m 339 #[vj q1, .second, vi p2, vi p3, vr b1, vi ln, vi (1 : Int32), vi i73_0, vi i89_0, vr b18, vi wv, vi r26, vi r28, vi r29, vr x'_54, vi i234_0, vi i298_0, vi (own_sw1 wv ln fn13 (own_s3 r26 r28 r29))] [])) _
        refine XS.aload X77.here hx rfl (hb hby at_339) rfl rfl ?_
        refine st78.trans ?_
        refine XS.iload X78.here hx rfl (hb hby at_344) rfl ?_
        refine XS.iload X78.here hx rfl (hb hby at_346) rfl ?_
        exact k
      suffices J348_79 : ∀ (i348_0 : Int32), i348_0 = (if i298_0 = ln then (1 : Int32) else (0 : Int32)) → GoalW p.tables e below s 24 1408 (Q0 Z q1 p2 p3 zcs fm h0 n0) (T78.setTop (mkF m 356 #[vj q1, .second, vi p2, vi p3, vr b1, vi ln, vi (1 : Int32), vi i73_0, vi i89_0, vr b18, vi wv, vi r26, vi r28, vi r29, vr x'_54, vi i234_0, vi i298_0, vi (own_sw1 wv ln fn13 (own_s3 r26 r28 r29))] [(.int i348_0), (.int r78)])) by
        by_cases hc348_80 : i298_0 = ln
        · refine GoalW.lift (B := (T78.setTop (mkF m 356 #[vj q1, .second, vi p2, vi p3, vr b1, vi ln, vi (1 : Int32), vi i73_0, vi i89_0, vr b18, vi wv, vi r26, vi r28, vi r29, vr x'_54, vi i234_0, vi i298_0, vi (own_sw1 wv ln fn13 (own_s3 r26 r28 r29))] [(.int (1 : Int32)), (.int r78)]))) (fun t k => ?_) ?_
          · show Steps p.tables e below (T78.setTop (mkF m 348 #[vj q1, .second, vi p2, vi p3, vr b1, vi ln, vi (1 : Int32), vi i73_0, vi i89_0, vr b18, vi wv, vi r26, vi r28, vi r29, vr x'_54, vi i234_0, vi i298_0, vi (own_sw1 wv ln fn13 (own_s3 r26 r28 r29))] [(.int ln), (.int i298_0), (.int r78)])) _
            refine XS.icmpNo X78.here hx rfl (hb hby at_348) rfl ((teq hc348_80).2) ?_
            refine XS.iconst X78.here hx rfl (hb hby at_351) ?_
            refine XS.goto X78.here hx rfl (pc0 := 352) (pc' := 356) rfl (hb hby at_352) (by decide) (by decide) ?_
            exact k
          exact J348_79 _ (by simp only [if_pos hc348_80])
        · refine GoalW.lift (B := (T78.setTop (mkF m 356 #[vj q1, .second, vi p2, vi p3, vr b1, vi ln, vi (1 : Int32), vi i73_0, vi i89_0, vr b18, vi wv, vi r26, vi r28, vi r29, vr x'_54, vi i234_0, vi i298_0, vi (own_sw1 wv ln fn13 (own_s3 r26 r28 r29))] [(.int (0 : Int32)), (.int r78)]))) (fun t k => ?_) ?_
          · show Steps p.tables e below (T78.setTop (mkF m 348 #[vj q1, .second, vi p2, vi p3, vr b1, vi ln, vi (1 : Int32), vi i73_0, vi i89_0, vr b18, vi wv, vi r26, vi r28, vi r29, vr x'_54, vi i234_0, vi i298_0, vi (own_sw1 wv ln fn13 (own_s3 r26 r28 r29))] [(.int ln), (.int i298_0), (.int r78)])) _
            refine XS.icmpYes X78.here hx rfl (pc0 := 348) (pc' := 355) rfl (hb hby at_348) rfl ((feq hc348_80).2) (by decide) (by decide) ?_
            refine XS.iconst X78.here hx rfl (hb hby at_355) ?_
            exact k
          exact J348_79 _ (by simp only [if_neg hc348_80])
      intro i348_0 h_i348_0
      obtain ⟨fs, hr, hrun, hended, hW, hsame⟩ := X78.leave (v := some (.int (1 : Int32))) (fun h => by rw [Bd.returns] at h; cases h)
      refine ⟨_, _, ?_, hrun, hended, _, _, rfl, ?_, ReturnedEndW.of_narrow ⟨_, rfl⟩ hW (hsame.mono (by decide) (by decide))⟩
      · show Steps p.tables e below (T78.setTop (mkF m 356 #[vj q1, .second, vi p2, vi p3, vr b1, vi ln, vi (1 : Int32), vi i73_0, vi i89_0, vr b18, vi wv, vi r26, vi r28, vi r29, vr x'_54, vi i234_0, vi i298_0, vi (own_sw1 wv ln fn13 (own_s3 r26 r28 r29))] [(.int i348_0), (.int r78)])) _
        refine XS.icmpNo X78.here hx rfl (hb hby at_356) rfl ((teq (by rw [hr78, h_i348_0, hps] : r78 = i348_0)).2) ?_
        refine XS.iconst X78.here hx rfl (hb hby at_359) ?_
        refine XS.goto X78.here hx rfl (pc0 := 360) (pc' := 364) rfl (hb hby at_360) (by decide) (by decide) ?_
        exact retN X78 hx (t := .boolean) Bd.returns (by simp) (hb hby at_364) hr
      · exact ⟨rfl, N78⟩
    · refine GoalW.lift (B := (T29.setTop (mkF m 214 #[vj q1, .second, vi p2, vi p3, vr b1, vi ln, vi (2 : Int32), vi i73_0, vi i89_0, vr b18, vi wv, vi r26, vi r28, vi r29, .unset, .unset, .unset, .unset] []))) (fun t k => by rw [hs30]; exact k) ?_
      have f82 : Sta Z T20.heap "java/lang/String" "COMPACT_STRINGS" "Z" (.int zcs) := (StaKeep (((((((S_COMPACT_STRINGS.ext E1).wr W3).wr W5).wr W7).wr W9).wr W11).ext E18) p20_0 ns22)
      obtain ⟨_, _, ⟨T81, L81, k81, n81⟩, -, X81, ⟨Lc81, hQ81, l81, y81, z81⟩, st81⟩ := Jvm.LawKit.callS X29 hx (y := (⟨"com/example/verdict/verdict/saml/XmlScannerSkipPinLaw", "make", "(ICCC)Ljava/lang/String;"⟩ : MethodName)) hown (mvT hZ (hw _ (List.mem_of_getElem? (i := 35) rfl))) (mvT hZ (hw _ (List.mem_of_getElem? (i := 36) rfl))) (mvT hZ (hw _ (List.mem_of_getElem? (i := 33) rfl))) (mvT hZ (hw _ (List.mem_of_getElem? (i := 37) rfl))) (by decide) (backOf (W := 0) (rmmk2 l Z a0 hw [] r26 r28 r29 zcs T20.heap n0 z23 f82 hCS hr26 hr28 hr29) hZ (hw _ (List.mem_of_getElem? (i := 37) rfl)) (hw _ (List.mem_of_getElem? (i := 33) rfl)) (by decide) (by decide)) (g := (mkF m 222 #[vj q1, .second, vi p2, vi p3, vr b1, vi ln, vi (2 : Int32), vi i73_0, vi i89_0, vr b18, vi wv, vi r26, vi r28, vi r29, .unset, .unset, .unset, .unset] [(.int r29), (.int r28), (.int r26), (.int (2 : Int32))])) rfl (by rw [hml]; rfl) (argsL := [(.int (2 : Int32)), (.int r26), (.int r28), (.int r29)]) (rest := []) (lenOf pd_18 rfl) rfl (by show 2 * 0 + _ ≤ _; exact Nat.le_of_eq rfl) (hb hby at_222) (fun _ _ => ⟨rfl, eq29, (by decide : 3 + 3 ≤ _), (by decide : 138 + 8 ≤ _)⟩)
      dsimp only [Pt.U, Pt.locs, Pt.cells, Pt.slots] at X81 l81 y81 z81 st81 hQ81
      subst y81 z81
      obtain ⟨x'_81, t'_81, k'_81, rfl, N81q, p81_0, p81_1, p81_2, p81_3, p81_4, p81_5, p81_6, p81_7⟩ := hQ81
      have N81 : Fr n0 L81 := by rw [l81]; exact Fr.app N29 N81q
      have ns83 : ∀ x ∈ ([] : List Addr), ∀ cell : Cell, T20.heap[x]? = some cell → cell.vm.isStatics = false := all0
      have z84 : n0 ≤ T81.heap.size := Nat.le_trans z23 p81_0.1
      have ne_b1_x'_81 : b1 ≠ x'_81 := Nat.ne_of_lt (Nat.lt_of_lt_of_le f27.lt p81_1)
      have ne_b18_x'_81 : b18 ≠ x'_81 := Nat.ne_of_lt (Nat.lt_of_lt_of_le p20_1.lt p81_1)
      have g_x'_81 : n0 ≤ x'_81 := Nat.le_trans z23 p81_1
      have ne_b1_t'_81 : b1 ≠ t'_81 := Nat.ne_of_lt (Nat.lt_of_lt_of_le f27.lt p81_2)
      have ne_b18_t'_81 : b18 ≠ t'_81 := Nat.ne_of_lt (Nat.lt_of_lt_of_le p20_1.lt p81_2)
      have g_t'_81 : n0 ≤ t'_81 := Nat.le_trans z23 p81_2
      refine GoalW.lift (B := (T81.setTop (mkF m 234 #[vj q1, .second, vi p2, vi p3, vr b1, vi ln, vi (2 : Int32), vi i73_0, vi i89_0, vr b18, vi wv, vi r26, vi r28, vi r29, vr x'_81, .unset, .unset, .unset] [(.int (ln - wv)), (.int (2 : Int32))]))) (fun t k => ?_) ?_
      · show Steps p.tables e below (T29.setTop (mkF m 214 #[vj q1, .second, vi p2, vi p3, vr b1, vi ln, vi (2 : Int32), vi i73_0, vi i89_0, vr b18, vi wv, vi r26, vi r28, vi r29, .unset, .unset, .unset, .unset] [])) _
        refine XS.iload X29.here hx rfl (hb hby at_214) rfl ?_
        refine XS.iload X29.here hx rfl (hb hby at_216) rfl ?_
        refine XS.iload X29.here hx rfl (hb hby at_218) rfl ?_
        refine XS.iload X29.here hx rfl (hb hby at_220) rfl ?_
        refine st81 _ ?_
        refine XS.astore X81.here hx rfl (hb hby at_225) rfl rfl (l' := #[vj q1, .second, vi p2, vi p3, vr b1, vi ln, vi (2 : Int32), vi i73_0, vi i89_0, vr b18, vi wv, vi r26, vi r28, vi r29, vr x'_81, .unset, .unset, .unset]) rfl ?_
        show Steps p.tables e below (T81.setTop (mkF m 227 #[vj q1, .second, vi p2, vi p3, vr b1, vi ln, vi (2 : Int32), vi i73_0, vi i89_0, vr b18, vi wv, vi r26, vi r28, vi r29, vr x'_81, .unset, .unset, .unset] [])) _
        refine XS.iload X81.here hx rfl (hb hby at_227) rfl ?_
        refine XS.iload X81.here hx rfl (hb hby at_229) rfl ?_
        refine XS.iload X81.here hx rfl (hb hby at_231) rfl ?_
        refine XS.isub X81.here hx rfl (hb hby at_233) rfl ?_
        exact k
      suffices J234_87 : ∀ (i234_0 : Int32), i234_0 = (if (ln - wv) < (2 : Int32) then (0 : Int32) else (if (fn13 (wv).toNatClampNeg) = r26 then (if (fn13 ((wv + (1 : Int32))).toNatClampNeg) = r28 then (1 : Int32) else (0 : Int32)) else (0 : Int32))) → GoalW p.tables e below s 24 1408 (Q0 Z q1 p2 p3 zcs fm h0 n0) (T81.setTop (mkF m 294 #[vj q1, .second, vi p2, vi p3, vr b1, vi ln, vi (2 : Int32), vi i73_0, vi i89_0, vr b18, vi wv, vi r26, vi r28, vi r29, vr x'_81, .unset, .unset, .unset] [(.int i234_0)])) by
        by_cases hc234_88 : (ln - wv) < (2 : Int32)
        · refine GoalW.lift (B := (T81.setTop (mkF m 294 #[vj q1, .second, vi p2, vi p3, vr b1, vi ln, vi (2 : Int32), vi i73_0, vi i89_0, vr b18, vi wv, vi r26, vi r28, vi r29, vr x'_81, .unset, .unset, .unset] [(.int (0 : Int32))]))) (fun t k => ?_) ?_
          · show Steps p.tables e below (T81.setTop (mkF m 234 #[vj q1, .second, vi p2, vi p3, vr b1, vi ln, vi (2 : Int32), vi i73_0, vi i89_0, vr b18, vi wv, vi r26, vi r28, vi r29, vr x'_81, .unset, .unset, .unset] [(.int (ln - wv)), (.int (2 : Int32))])) _
            refine XS.icmpYes X81.here hx rfl (pc0 := 234) (pc' := 293) rfl (hb hby at_234) rfl ((tlt hc234_88).2.2.1) (by decide) (by decide) ?_
            refine XS.iconst X81.here hx rfl (hb hby at_293) ?_
            exact k
          exact J234_87 _ (by simp only [if_pos hc234_88])
        · have f90 : AV Z T81.heap b1 k1 .byte 5 (fun i => Value.int (fn13 i)) := (f27.keep p81_0 nin0)
          obtain ⟨cl89, Ar89, kc89, sz89, -, hv89⟩ := id f90
          have hin89 : ¬ (wv < 0 ∨ cl89.slots.size ≤ (wv).toNatClampNeg) := AV.inb sz89 (own_p50 hp)
          have hat89 : cl89.slots[(wv).toNatClampNeg]? = some (.int (fn13 (wv).toNatClampNeg)) := (hv89 _ (AV.inx (own_p50 hp))).trans (congrArg some rfl)
          refine GoalW.lift (B := (T81.setTop (mkF m 250 #[vj q1, .second, vi p2, vi p3, vr b1, vi ln, vi (2 : Int32), vi i73_0, vi i89_0, vr b18, vi wv, vi r26, vi r28, vi r29, vr x'_81, .unset, .unset, .unset] [(.int r26), (.int (fn13 (wv).toNatClampNeg))]))) (fun t k => ?_) ?_
          · show Steps p.tables e below (T81.setTop (mkF m 234 #[vj q1, .second, vi p2, vi p3, vr b1, vi ln, vi (2 : Int32), vi i73_0, vi i89_0, vr b18, vi wv, vi r26, vi r28, vi r29, vr x'_81, .unset, .unset, .unset] [(.int (ln - wv)), (.int (2 : Int32))])) _
            refine XS.icmpNo X81.here hx rfl (hb hby at_234) rfl ((flt hc234_88).2.2.1) ?_
            refine XS.iload X81.here hx rfl (hb hby at_237) rfl ?_
            refine XS.iconst X81.here hx rfl (hb hby at_239) ?_
            refine XS.icmpNo X81.here hx rfl (hb hby at_240) rfl ((flt (by decide : ¬ ((2 : Int32) < (1 : Int32)))).1) ?_
            refine XS.aload X81.here hx rfl (hb hby at_243) rfl rfl ?_
            refine XS.iload X81.here hx rfl (hb hby at_245) rfl ?_
            show Steps p.tables e below (T81.setTop (mkF m 247 #[vj q1, .second, vi p2, vi p3, vr b1, vi ln, vi (2 : Int32), vi i73_0, vi i89_0, vr b18, vi wv, vi r26, vi r28, vi r29, vr x'_81, .unset, .unset, .unset] [(.int wv), (.ref b1)])) _
            refine X81.baloadBytes hx (j := wv) (v := (.int (fn13 (wv).toNatClampNeg))) Ar89.1 (State.isArrayOf_alike hZ.alike Ar89.2.1) Ar89.2.2 hin89 hat89 (g := (mkF m 247 #[vj q1, .second, vi p2, vi p3, vr b1, vi ln, vi (2 : Int32), vi i73_0, vi i89_0, vr b18, vi wv, vi r26, vi r28, vi r29, vr x'_81, .unset, .unset, .unset] [(.int wv), (.ref b1)])) rfl rfl (hb hby at_247) _ ?_
            refine XS.iload X81.here hx rfl (hb hby at_248) rfl ?_
            exact k
          by_cases hc250_91 : (fn13 (wv).toNatClampNeg) = r26
          · obtain ⟨cl92, Ar92, kc92, sz92, -, hv92⟩ := id f90
            have hin92 : ¬ ((wv + (1 : Int32)) < 0 ∨ cl92.slots.size ≤ ((wv + (1 : Int32))).toNatClampNeg) := AV.inb sz92 (own_p5 hp (i := (1 : Int32)) (by decide))
            have hat92 : cl92.slots[((wv + (1 : Int32))).toNatClampNeg]? = some (.int (fn13 ((wv + (1 : Int32))).toNatClampNeg)) := (hv92 _ (AV.inx (own_p5 hp (i := (1 : Int32)) (by decide)))).trans (congrArg some rfl)
            refine GoalW.lift (B := (T81.setTop (mkF m 268 #[vj q1, .second, vi p2, vi p3, vr b1, vi ln, vi (2 : Int32), vi i73_0, vi i89_0, vr b18, vi wv, vi r26, vi r28, vi r29, vr x'_81, .unset, .unset, .unset] [(.int r28), (.int (fn13 ((wv + (1 : Int32))).toNatClampNeg))]))) (fun t k => ?_) ?_
            · show Steps p.tables e below (T81.setTop (mkF m 250 #[vj q1, .second, vi p2, vi p3, vr b1, vi ln, vi (2 : Int32), vi i73_0, vi i89_0, vr b18, vi wv, vi r26, vi r28, vi r29, vr x'_81, .unset, .unset, .unset] [(.int r26), (.int (fn13 (wv).toNatClampNeg))])) _
              refine XS.icmpNo X81.here hx rfl (hb hby at_250) rfl ((teq hc250_91).2) ?_
              refine XS.iload X81.here hx rfl (hb hby at_253) rfl ?_
              refine XS.iconst X81.here hx rfl (hb hby at_255) ?_
              refine XS.icmpNo X81.here hx rfl (hb hby at_256) rfl ((flt (by decide : ¬ ((2 : Int32) < (2 : Int32)))).1) ?_
              refine XS.aload X81.here hx rfl (hb hby at_259) rfl rfl ?_
              refine XS.iload X81.here hx rfl (hb hby at_261) rfl ?_
              show Steps p.tables e below (T81.setTop (mkF m 263 #[vj q1, .second, vi p2, vi p3, vr b1, vi ln, vi (2 : Int32), vi i73_0, vi i89_0, vr b18, vi wv, vi r26, vi r28, vi r29, vr x'_81, .unset, .unset, .unset] [(.int wv), (.ref b1)])) _
              refine XS.iconst X81.here hx rfl (hb hby at_263) ?_
              refine XS.iadd X81.here hx rfl (hb hby at_264) rfl ?_
              refine X81.baloadBytes hx (j := (wv + (1 : Int32))) (v := (.int (fn13 ((wv + (1 : Int32))).toNatClampNeg))) Ar92.1 (State.isArrayOf_alike hZ.alike Ar92.2.1) Ar92.2.2 hin92 hat92 (g := (mkF m 265 #[vj q1, .second, vi p2, vi p3, vr b1, vi ln, vi (2 : Int32), vi i73_0, vi i89_0, vr b18, vi wv, vi r26, vi r28, vi r29, vr x'_81, .unset, .unset, .unset] [(.int (wv + (1 : Int32))), (.ref b1)])) rfl rfl (hb hby at_265) _ ?_
              refine XS.iload X81.here hx rfl (hb hby at_266) rfl ?_
              exact k
            by_cases hc268_93 : (fn13 ((wv + (1 : Int32))).toNatClampNeg) = r28
            · refine GoalW.lift (B := (T81.setTop (mkF m 294 #[vj q1, .second, vi p2, vi p3, vr b1, vi ln, vi (2 : Int32), vi i73_0, vi i89_0, vr b18, vi wv, vi r26, vi r28, vi r29, vr x'_81, .unset, .unset, .unset] [(.int (1 : Int32))]))) (fun t k => ?_) ?_
              · show Steps p.tables e below (T81.setTop (mkF m 268 #[vj q1, .second, vi p2, vi p3, vr b1, vi ln, vi (2 : Int32), vi i73_0, vi i89_0, vr b18, vi wv, vi r26, vi r28, vi r29, vr x'_81, .unset, .unset, .unset] [(.int r28), (.int (fn13 ((wv + (1 : Int32))).toNatClampNeg))])) _
                refine XS.icmpNo X81.here hx rfl (hb hby at_268) rfl ((teq hc268_93).2) ?_
                refine XS.iload X81.here hx rfl (hb hby at_271) rfl ?_
                refine XS.iconst X81.here hx rfl (hb hby at_273) ?_
                refine XS.icmpYes X81.here hx rfl (pc0 := 274) (pc' := 289) rfl (hb hby at_274) rfl ((tlt (by decide : (2 : Int32) < (3 : Int32))).1) (by decide) (by decide) ?_
                refine XS.iconst X81.here hx rfl (hb hby at_289) ?_
                refine XS.goto X81.here hx rfl (pc0 := 290) (pc' := 294) rfl (hb hby at_290) (by decide) (by decide) ?_
                show Steps p.tables e below (T81.setTop (mkF m 294 #[vj q1, .second, vi p2, vi p3, vr b1, vi ln, vi (2 : Int32), vi i73_0, vi i89_0, vr b18, vi wv, vi r26, vi r28, vi r29, vr x'_81, .unset, .unset, .unset] [(.int (1 : Int32))])) _
                exact k
              exact J234_87 _ (by simp only [if_neg hc234_88, if_pos hc250_91, if_pos hc268_93])
            · refine GoalW.lift (B := (T81.setTop (mkF m 294 #[vj q1, .second, vi p2, vi p3, vr b1, vi ln, vi (2 : Int32), vi i73_0, vi i89_0, vr b18, vi wv, vi r26, vi r28, vi r29, vr x'_81, .unset, .unset, .unset] [(.int (0 : Int32))]))) (fun t k => ?_) ?_
              · show Steps p.tables e below (T81.setTop (mkF m 268 #[vj q1, .second, vi p2, vi p3, vr b1, vi ln, vi (2 : Int32), vi i73_0, vi i89_0, vr b18, vi wv, vi r26, vi r28, vi r29, vr x'_81, .unset, .unset, .unset] [(.int r28), (.int (fn13 ((wv + (1 : Int32))).toNatClampNeg))])) _
                refine XS.icmpYes X81.here hx rfl (pc0 := 268) (pc' := 293) rfl (hb hby at_268) rfl ((feq hc268_93).2) (by decide) (by decide) ?_
                refine XS.iconst X81.here hx rfl (hb hby at_293) ?_
                exact k
              exact J234_87 _ (by simp only [if_neg hc234_88, if_pos hc250_91, if_neg hc268_93])
          · refine GoalW.lift (B := (T81.setTop (mkF m 294 #[vj q1, .second, vi p2, vi p3, vr b1, vi ln, vi (2 : Int32), vi i73_0, vi i89_0, vr b18, vi wv, vi r26, vi r28, vi r29, vr x'_81, .unset, .unset, .unset] [(.int (0 : Int32))]))) (fun t k => ?_) ?_
            · show Steps p.tables e below (T81.setTop (mkF m 250 #[vj q1, .second, vi p2, vi p3, vr b1, vi ln, vi (2 : Int32), vi i73_0, vi i89_0, vr b18, vi wv, vi r26, vi r28, vi r29, vr x'_81, .unset, .unset, .unset] [(.int r26), (.int (fn13 (wv).toNatClampNeg))])) _
              refine XS.icmpYes X81.here hx rfl (pc0 := 250) (pc' := 293) rfl (hb hby at_250) rfl ((feq hc250_91).2) (by decide) (by decide) ?_
              refine XS.iconst X81.here hx rfl (hb hby at_293) ?_
              exact k
            exact J234_87 _ (by simp only [if_neg hc234_88, if_neg hc250_91])
      intro i234_0 h_i234_0
      refine GoalW.lift (B := (T81.setTop (mkF m 298 #[vj q1, .second, vi p2, vi p3, vr b1, vi ln, vi (2 : Int32), vi i73_0, vi i89_0, vr b18, vi wv, vi r26, vi r28, vi r29, vr x'_81, vi i234_0, .unset, .unset] [(.int i234_0)]))) (fun t k => ?_) ?_
      · show Steps p.tables e below (T81.setTop (mkF m 294 #[vj q1, .second, vi p2, vi p3, vr b1, vi ln, vi (2 : Int32), vi i73_0, vi i89_0, vr b18, vi wv, vi r26, vi r28, vi r29, vr x'_81, .unset, .unset, .unset] [(.int i234_0)])) _
        refine XS.istore X81.here hx rfl (hb hby at_294) rfl (l' := #[vj q1, .second, vi p2, vi p3, vr b1, vi ln, vi (2 : Int32), vi i73_0, vi i89_0, vr b18, vi wv, vi r26, vi r28, vi r29, vr x'_81, vi i234_0, .unset, .unset]) rfl ?_
        refine XS.iload X81.here hx rfl (hb hby at_296) rfl ?_
        exact k
      suffices J298_94 : ∀ (i298_0 : Int32), i298_0 = (if i234_0 = (0 : Int32) then wv else (wv + (2 : Int32))) → GoalW p.tables e below s 24 1408 (Q0 Z q1 p2 p3 zcs fm h0 n0) (T81.setTop (mkF m 311 #[vj q1, .second, vi p2, vi p3, vr b1, vi ln, vi (2 : Int32), vi i73_0, vi i89_0, vr b18, vi wv, vi r26, vi r28, vi r29, vr x'_81, vi i234_0, .unset, .unset] [(.int i298_0)])) by
        by_cases hc298_95 : i234_0 = (0 : Int32)
        · refine GoalW.lift (B := (T81.setTop (mkF m 311 #[vj q1, .second, vi p2, vi p3, vr b1, vi ln, vi (2 : Int32), vi i73_0, vi i89_0, vr b18, vi wv, vi r26, vi r28, vi r29, vr x'_81, vi i234_0, .unset, .unset] [(.int wv)]))) (fun t k => ?_) ?_
          · show Steps p.tables e below (T81.setTop (mkF m 298 #[vj q1, .second, vi p2, vi p3, vr b1, vi ln, vi (2 : Int32), vi i73_0, vi i89_0, vr b18, vi wv, vi r26, vi r28, vi r29, vr x'_81, vi i234_0, .unset, .unset] [(.int i234_0)])) _
            refine XS.ifYes X81.here hx rfl (pc0 := 298) (pc' := 309) rfl (hb hby at_298) rfl ((if0 _ _).trans (teq hc298_95).1) (by decide) (by decide) ?_
            refine XS.iload X81.here hx rfl (hb hby at_309) rfl ?_
            exact k
          exact J298_94 _ (by simp only [if_pos hc298_95])
        · refine GoalW.lift (B := (T81.setTop (mkF m 311 #[vj q1, .second, vi p2, vi p3, vr b1, vi ln, vi (2 : Int32), vi i73_0, vi i89_0, vr b18, vi wv, vi r26, vi r28, vi r29, vr x'_81, vi i234_0, .unset, .unset] [(.int (wv + (2 : Int32)))]))) (fun t k => ?_) ?_
          · show Steps p.tables e below (T81.setTop (mkF m 298 #[vj q1, .second, vi p2, vi p3, vr b1, vi ln, vi (2 : Int32), vi i73_0, vi i89_0, vr b18, vi wv, vi r26, vi r28, vi r29, vr x'_81, vi i234_0, .unset, .unset] [(.int i234_0)])) _
            refine XS.ifNo X81.here hx rfl (hb hby at_298) rfl ((if0 _ _).trans (feq hc298_95).1) ?_
            refine XS.iload X81.here hx rfl (hb hby at_301) rfl ?_
            refine XS.iload X81.here hx rfl (hb hby at_303) rfl ?_
            refine XS.iadd X81.here hx rfl (hb hby at_305) rfl ?_
            refine XS.goto X81.here hx rfl (pc0 := 306) (pc' := 311) rfl (hb hby at_306) (by decide) (by decide) ?_
            exact k
          exact J298_94 _ (by simp only [if_neg hc298_95])
      intro i298_0 h_i298_0
      have f97 : Sta Z T81.heap "java/lang/String" "COMPACT_STRINGS" "Z" (.int zcs) := (StaKeep f82 p81_0 ns83)
      have f98 : Sta Z T81.heap "jdk/internal/util/Preconditions" "SIOOBE_FORMATTER" "Ljava/util/function/BiFunction;" fm := (StaKeep (StaKeep (((((((S_SIOOBE_FORMATTER.ext E1).wr W3).wr W5).wr W7).wr W9).wr W11).ext E18) p20_0 ns22) p81_0 ns83)
      have f99 : Exa Z T81.heap b18 "com/example/verdict/verdict/saml/XmlScanner" := (p20_1.keep p81_0)
      have f100 : Fld Z T81.heap b18 "com/example/verdict/verdict/saml/XmlScanner" "pos" "I" (.int wv) := (Fwv.keep p81_0 nin0)
      have f101 : Fld Z T81.heap b18 "com/example/verdict/verdict/saml/XmlScanner" "end" "I" (.int ln) := (p20_3.keep p81_0 nin0)
      have f102 : Fld Z T81.heap b18 "com/example/verdict/verdict/saml/XmlScanner" "doc" "[B" (.ref b1) := (p20_2.keep p81_0 nin0)
      have f103 : AV Z T81.heap b1 k1 .byte 5 (fun i => Value.int (fn13 i)) := (f27.keep p81_0 nin0)
      obtain ⟨cq96, kq96, q96a, q96b, q96c⟩ := isOf hZ rfl f99
      obtain ⟨_, _, ⟨T96, L96, k96, n96⟩, -, X96, ⟨Lc96, hQ96, l96, y96, z96⟩, st96⟩ := X81.virtualBack hx (y := (⟨"com/example/verdict/verdict/saml/XmlScanner", "skip", "(Ljava/lang/String;)Z"⟩ : MethodName)) (z := (⟨"com/example/verdict/verdict/saml/XmlScanner", "skip", "(Ljava/lang/String;)Z"⟩ : MethodName)) hown (mvT hZ (hw _ (List.mem_of_getElem? (i := 57) rfl))) (mvT hZ (hw _ (List.mem_of_getElem? (i := 58) rfl))) (notFace_of_selects (args := #[]) (mvT hZ (hw _ (List.mem_of_getElem? (i := 60) rfl)))) (mvT hZ (hw _ (List.mem_of_getElem? (i := 60) rfl))) (mvT hZ (hw _ (List.mem_of_getElem? (i := 59) rfl))) (by decide) (backOf (W := 0) (rmsk2 l Z a0 hw [] b18 x'_81 wv zcs fm ln b1 k1 fn13 t'_81 k'_81 (own_s3 r26 r28 r29) T81.heap n0 z84 f97 hCS f98 hfm f99 g_b18 f100 f101 f102 f103 p81_4 p81_5 p81_6 p81_7 ne_b18_x'_81 ne_b18_t'_81 (Ne.symm ne_b1_b18) (own_s3ok hr26 hr28 hr29) hp) hZ (hw _ (List.mem_of_getElem? (i := 61) rfl)) (hw _ (List.mem_of_getElem? (i := 3) rfl)) (by decide) (by decide)) q96a q96c (g := (mkF m 317 #[vj q1, .second, vi p2, vi p3, vr b1, vi ln, vi (2 : Int32), vi i73_0, vi i89_0, vr b18, vi wv, vi r26, vi r28, vi r29, vr x'_81, vi i234_0, vi i298_0, .unset] [(.ref x'_81), (.ref b18)])) rfl (by rw [hml]; rfl) (Steps.refl _) (argsL := [(.ref x'_81)]) (rest := []) (lenOf pd_9 rfl) rfl (by show 2 * 0 + _ ≤ _; exact Nat.le_of_eq rfl) (hb hby at_317) (fun _ _ => ⟨rfl, rfl, (by decide : 6 + 0 ≤ _), (by decide : 146 + 0 ≤ _)⟩)
      dsimp only [Pt.U, Pt.locs, Pt.cells, Pt.slots] at X96 l96 y96 z96 st96 hQ96
      subst y96 z96
      obtain ⟨w2_96, rfl, N96q, p96_0, p96_1, p96_2, p96_3, p96_4⟩ := hQ96
      have N96 : Fr n0 L96 := by rw [l96]; exact Fr.app N81 N96q
      have ns104 : ∀ x ∈ ([b18] : List Addr), ∀ cell : Cell, T81.heap[x]? = some cell → cell.vm.isStatics = false := (allS (Exa.ns f99) all0)
      have z105 : n0 ≤ T96.heap.size := Nat.le_trans z84 p96_0.1
      have hsw : (own_sw2 wv ln fn13 (own_s3 r26 r28 r29)) = i234_0 := own_e2 h_i234_0
      obtain ⟨cq106, kq106, q106a, q106b, q106c⟩ := isOf hZ rfl p96_1
      obtain ⟨_, _, ⟨T106, L106, k106, n106⟩, -, X106, ⟨Lc106, hQ106, l106, y106, z106⟩, st106⟩ := X96.virtualBack hx (y := (⟨"com/example/verdict/verdict/saml/XmlScanner", "position", "()I"⟩ : MethodName)) (z := (⟨"com/example/verdict/verdict/saml/XmlScanner", "position", "()I"⟩ : MethodName)) hown (mvT hZ (hw _ (List.mem_of_getElem? (i := 24) rfl))) (mvT hZ (hw _ (List.mem_of_getElem? (i := 25) rfl))) (notFace_of_selects (args := #[]) (mvT hZ (hw _ (List.mem_of_getElem? (i := 27) rfl)))) (mvT hZ (hw _ (List.mem_of_getElem? (i := 27) rfl))) (mvT hZ (hw _ (List.mem_of_getElem? (i := 26) rfl))) (by decide) (backOf (W := 0) (rm5 l Z a0 hw [] b18 w2_96 T96.heap n0 z105 p96_2) hZ (hw _ (List.mem_of_getElem? (i := 28) rfl)) (hw _ (List.mem_of_getElem? (i := 3) rfl)) (by decide) (by decide)) q106a q106c (g := (mkF m 331 #[vj q1, .second, vi p2, vi p3, vr b1, vi ln, vi (2 : Int32), vi i73_0, vi i89_0, vr b18, vi wv, vi r26, vi r28, vi r29, vr x'_81, vi i234_0, vi i298_0, vi (own_sw2 wv ln fn13 (own_s3 r26 r28 r29))] [(.ref b18)])) rfl (by rw [hml]; rfl) (Steps.refl _) (argsL := []) (rest := []) (lenOf pd_7 rfl) rfl (by show 2 * 0 + _ ≤ _; exact Nat.le_of_eq rfl) (hb hby at_331) (fun _ _ => ⟨rfl, rfl, (by decide : 6 + 0 ≤ _), (by decide : 146 + 0 ≤ _)⟩)
      dsimp only [Pt.U, Pt.locs, Pt.cells, Pt.slots] at X106 l106 y106 z106 st106 hQ106
      subst y106 z106
      obtain ⟨rfl, N106q, eq106⟩ := hQ106
      have N106 : Fr n0 L106 := by rw [l106]; exact Fr.app N96 N106q
      have hps : w2_96 = i298_0 := by rw [p96_4, hsw, h_i298_0]
      obtain ⟨cq107, kq107, q107a, q107b, q107c⟩ := isOf hZ eq106 p96_1
      obtain ⟨_, _, ⟨T107, L107, k107, n107⟩, -, X107, ⟨Lc107, hQ107, l107, y107, z107⟩, st107⟩ := X106.virtualBack hx (y := (⟨"com/example/verdict/verdict/saml/XmlScanner", "atEnd", "()Z"⟩ : MethodName)) (z := (⟨"com/example/verdict/verdict/saml/XmlScanner", "atEnd", "()Z"⟩ : MethodName)) hown (mvT hZ (hw _ (List.mem_of_getElem? (i := 82) rfl))) (mvT hZ (hw _ (List.mem_of_getElem? (i := 83) rfl))) (notFace_of_selects (args := #[]) (mvT hZ (hw _ (List.mem_of_getElem? (i := 85) rfl)))) (mvT hZ (hw _ (List.mem_of_getElem? (i := 85) rfl))) (mvT hZ (hw _ (List.mem_of_getElem? (i := 84) rfl))) (by decide) (backOf (W := 0) (rm15 l Z a0 hw [] b18 w2_96 ln T96.heap n0 z105 p96_2 p96_3) hZ (hw _ (List.mem_of_getElem? (i := 86) rfl)) (hw _ (List.mem_of_getElem? (i := 3) rfl)) (by decide) (by decide)) q107a q107c (g := (mkF m 341 #[vj q1, .second, vi p2, vi p3, vr b1, vi ln, vi (2 : Int32), vi i73_0, vi i89_0, vr b18, vi wv, vi r26, vi r28, vi r29, vr x'_81, vi i234_0, vi i298_0, vi (own_sw2 wv ln fn13 (own_s3 r26 r28 r29))] [(.ref b18)])) rfl (by rw [hml]; rfl) (Steps.refl _) (argsL := []) (rest := []) (lenOf pd_5 rfl) rfl (by show 2 * 0 + _ ≤ _; exact Nat.le_of_eq rfl) (hb hby at_341) (fun _ _ => ⟨rfl, eq106, (by decide : 6 + 0 ≤ _), (by decide : 146 + 0 ≤ _)⟩)
      dsimp only [Pt.U, Pt.locs, Pt.cells, Pt.slots] at X107 l107 y107 z107 st107 hQ107
      subst y107 z107
      obtain ⟨r107, rfl, hr107, N107q, eq107⟩ := hQ107
      have N107 : Fr n0 L107 := by rw [l107]; exact Fr.app N106 N107q
      refine GoalW.lift (B := (T107.setTop (mkF m 348 #[vj q1, .second, vi p2, vi p3, vr b1, vi ln, vi (2 : Int32), vi i73_0, vi i89_0, vr b18, vi wv, vi r26, vi r28, vi r29, vr x'_81, vi i234_0, vi i298_0, vi (own_sw2 wv ln fn13 (own_s3 r26 r28 r29))] [(.int ln), (.int i298_0), (.int r107)]))) (fun t k => ?_) ?_
      · show Steps p.tables e below (T81.setTop (mkF m 311 #[vj q1, .second, vi p2, vi p3, vr b1, vi ln, vi (2 : Int32), vi i73_0, vi i89_0, vr b18, vi wv, vi r26, vi r28, vi r29, vr x'_81, vi i234_0, .unset, .unset] [(.int i298_0)])) _
        refine XS.istore X81.here hx rfl (hb hby at_311) rfl (l' := #[vj q1, .second, vi p2, vi p3, vr b1, vi ln, vi (2 : Int32), vi i73_0, vi i89_0, vr b18, vi wv, vi r26, vi r28, vi r29, vr x'_81, vi i234_0, vi i298_0, .unset]) rfl ?_
        refine XS.aload X81.here hx rfl (hb hby at_313) rfl rfl ?_
        refine XS.aload X81.here hx rfl (hb hby at_315) rfl rfl ?_
        refine st96.trans ?_
        refine XS.istore X96.here hx rfl (hb hby at_320) rfl (l' := #[vj q1, .second, vi p2, vi p3, vr b1, vi ln, vi (2 : Int32), vi i73_0, vi i89_0, vr b18, vi wv, vi r26, vi r28, vi r29, vr x'_81, vi i234_0, vi i298_0, vi (own_sw2 wv ln fn13 (own_s3 r26 r28 r29))]) rfl ?_
        refine XS.iload X96.here hx rfl (hb hby at_322) rfl ?_
        show Steps p.tables e below (T96.setTop (mkF m 324 #[vj q1, .second, vi p2, vi p3, vr b1, vi ln, vi (2 : Int32), vi i73_0, vi i89_0, vr b18, vi wv, vi r26, vi r28, vi r29, vr x'_81, vi i234_0, vi i298_0, vi (own_sw2 wv ln fn13 (own_s3 r26 r28 r29))] [(.int (own_sw2 wv ln fn13 (own_s3 r26 r28 r29)))])) _
        refine XS.iload X96.here hx rfl (hb hby at_324) rfl ?_
        refine XS.icmpNo X96.here hx rfl (hb hby at_326) rfl ((teq (hsw : (own_sw2 wv ln fn13 (own_s3 r26 r28 r29)) = i234_0)).2) ?_
        refine XS.aload X96.here hx rfl (hb hby at_329) rfl rfl ?_
        refine st106.trans ?_
        refine XS.iload X106.here hx rfl (hb hby at_334) rfl ?_
        refine XS.icmpNo X106.here hx rfl (hb hby at_336) rfl ((teq (hps : w2_96 = i298_0)).2) ?_
        show Steps p.tables e below (T106.setTop (mkF m 339 #[vj q1, .second, vi p2, vi p3, vr b1, vi ln, vi (2 : Int32), vi i73_0, vi i89_0, vr b18, vi wv, vi r26, vi r28, vi r29, vr x'_81, vi i234_0, vi i298_0, vi (own_sw2 wv ln fn13 (own_s3 r26 r28 r29))] [])) _
        refine XS.aload X106.here hx rfl (hb hby at_339) rfl rfl ?_
        refine st107.trans ?_
        refine XS.iload X107.here hx rfl (hb hby at_344) rfl ?_
        refine XS.iload X107.here hx rfl (hb hby at_346) rfl ?_
        exact k
      suffices J348_108 : ∀ (i348_0 : Int32), i348_0 = (if i298_0 = ln then (1 : Int32) else (0 : Int32)) → GoalW p.tables e below s 24 1408 (Q0 Z q1 p2 p3 zcs fm h0 n0) (T107.setTop (mkF m 356 #[vj q1, .second, vi p2, vi p3, vr b1, vi ln, vi (2 : Int32), vi i73_0, vi i89_0, vr b18, vi wv, vi r26, vi r28, vi r29, vr x'_81, vi i234_0, vi i298_0, vi (own_sw2 wv ln fn13 (own_s3 r26 r28 r29))] [(.int i348_0), (.int r107)])) by
        by_cases hc348_109 : i298_0 = ln
        · refine GoalW.lift (B := (T107.setTop (mkF m 356 #[vj q1, .second, vi p2, vi p3, vr b1, vi ln, vi (2 : Int32), vi i73_0, vi i89_0, vr b18, vi wv, vi r26, vi r28, vi r29, vr x'_81, vi i234_0, vi i298_0, vi (own_sw2 wv ln fn13 (own_s3 r26 r28 r29))] [(.int (1 : Int32)), (.int r107)]))) (fun t k => ?_) ?_
          · show Steps p.tables e below (T107.setTop (mkF m 348 #[vj q1, .second, vi p2, vi p3, vr b1, vi ln, vi (2 : Int32), vi i73_0, vi i89_0, vr b18, vi wv, vi r26, vi r28, vi r29, vr x'_81, vi i234_0, vi i298_0, vi (own_sw2 wv ln fn13 (own_s3 r26 r28 r29))] [(.int ln), (.int i298_0), (.int r107)])) _
            refine XS.icmpNo X107.here hx rfl (hb hby at_348) rfl ((teq hc348_109).2) ?_
            refine XS.iconst X107.here hx rfl (hb hby at_351) ?_
            refine XS.goto X107.here hx rfl (pc0 := 352) (pc' := 356) rfl (hb hby at_352) (by decide) (by decide) ?_
            exact k
          exact J348_108 _ (by simp only [if_pos hc348_109])
        · refine GoalW.lift (B := (T107.setTop (mkF m 356 #[vj q1, .second, vi p2, vi p3, vr b1, vi ln, vi (2 : Int32), vi i73_0, vi i89_0, vr b18, vi wv, vi r26, vi r28, vi r29, vr x'_81, vi i234_0, vi i298_0, vi (own_sw2 wv ln fn13 (own_s3 r26 r28 r29))] [(.int (0 : Int32)), (.int r107)]))) (fun t k => ?_) ?_
          · show Steps p.tables e below (T107.setTop (mkF m 348 #[vj q1, .second, vi p2, vi p3, vr b1, vi ln, vi (2 : Int32), vi i73_0, vi i89_0, vr b18, vi wv, vi r26, vi r28, vi r29, vr x'_81, vi i234_0, vi i298_0, vi (own_sw2 wv ln fn13 (own_s3 r26 r28 r29))] [(.int ln), (.int i298_0), (.int r107)])) _
            refine XS.icmpYes X107.here hx rfl (pc0 := 348) (pc' := 355) rfl (hb hby at_348) rfl ((feq hc348_109).2) (by decide) (by decide) ?_
            refine XS.iconst X107.here hx rfl (hb hby at_355) ?_
            exact k
          exact J348_108 _ (by simp only [if_neg hc348_109])
      intro i348_0 h_i348_0
      obtain ⟨fs, hr, hrun, hended, hW, hsame⟩ := X107.leave (v := some (.int (1 : Int32))) (fun h => by rw [Bd.returns] at h; cases h)
      refine ⟨_, _, ?_, hrun, hended, _, _, rfl, ?_, ReturnedEndW.of_narrow ⟨_, rfl⟩ hW (hsame.mono (by decide) (by decide))⟩
      · show Steps p.tables e below (T107.setTop (mkF m 356 #[vj q1, .second, vi p2, vi p3, vr b1, vi ln, vi (2 : Int32), vi i73_0, vi i89_0, vr b18, vi wv, vi r26, vi r28, vi r29, vr x'_81, vi i234_0, vi i298_0, vi (own_sw2 wv ln fn13 (own_s3 r26 r28 r29))] [(.int i348_0), (.int r107)])) _
        refine XS.icmpNo X107.here hx rfl (hb hby at_356) rfl ((teq (by rw [hr107, h_i348_0, hps] : r107 = i348_0)).2) ?_
        refine XS.iconst X107.here hx rfl (hb hby at_359) ?_
        refine XS.goto X107.here hx rfl (pc0 := 360) (pc' := 364) rfl (hb hby at_360) (by decide) (by decide) ?_
        exact retN X107 hx (t := .boolean) Bd.returns (by simp) (hb hby at_364) hr
      · exact ⟨rfl, N107⟩
    · refine GoalW.lift (B := (T29.setTop (mkF m 214 #[vj q1, .second, vi p2, vi p3, vr b1, vi ln, vi (3 : Int32), vi i73_0, vi i89_0, vr b18, vi wv, vi r26, vi r28, vi r29, .unset, .unset, .unset, .unset] []))) (fun t k => by rw [hs30]; exact k) ?_
      have f111 : Sta Z T20.heap "java/lang/String" "COMPACT_STRINGS" "Z" (.int zcs) := (StaKeep (((((((S_COMPACT_STRINGS.ext E1).wr W3).wr W5).wr W7).wr W9).wr W11).ext E18) p20_0 ns22)
      obtain ⟨_, _, ⟨T110, L110, k110, n110⟩, -, X110, ⟨Lc110, hQ110, l110, y110, z110⟩, st110⟩ := Jvm.LawKit.callS X29 hx (y := (⟨"com/example/verdict/verdict/saml/XmlScannerSkipPinLaw", "make", "(ICCC)Ljava/lang/String;"⟩ : MethodName)) hown (mvT hZ (hw _ (List.mem_of_getElem? (i := 35) rfl))) (mvT hZ (hw _ (List.mem_of_getElem? (i := 36) rfl))) (mvT hZ (hw _ (List.mem_of_getElem? (i := 33) rfl))) (mvT hZ (hw _ (List.mem_of_getElem? (i := 37) rfl))) (by decide) (backOf (W := 0) (rmmk3 l Z a0 hw [] r26 r28 r29 zcs T20.heap n0 z23 f111 hCS hr26 hr28 hr29) hZ (hw _ (List.mem_of_getElem? (i := 37) rfl)) (hw _ (List.mem_of_getElem? (i := 33) rfl)) (by decide) (by decide)) (g := (mkF m 222 #[vj q1, .second, vi p2, vi p3, vr b1, vi ln, vi (3 : Int32), vi i73_0, vi i89_0, vr b18, vi wv, vi r26, vi r28, vi r29, .unset, .unset, .unset, .unset] [(.int r29), (.int r28), (.int r26), (.int (3 : Int32))])) rfl (by rw [hml]; rfl) (argsL := [(.int (3 : Int32)), (.int r26), (.int r28), (.int r29)]) (rest := []) (lenOf pd_18 rfl) rfl (by show 2 * 0 + _ ≤ _; exact Nat.le_of_eq rfl) (hb hby at_222) (fun _ _ => ⟨rfl, eq29, (by decide : 3 + 3 ≤ _), (by decide : 138 + 10 ≤ _)⟩)
      dsimp only [Pt.U, Pt.locs, Pt.cells, Pt.slots] at X110 l110 y110 z110 st110 hQ110
      subst y110 z110
      obtain ⟨x'_110, t'_110, k'_110, rfl, N110q, p110_0, p110_1, p110_2, p110_3, p110_4, p110_5, p110_6, p110_7⟩ := hQ110
      have N110 : Fr n0 L110 := by rw [l110]; exact Fr.app N29 N110q
      have ns112 : ∀ x ∈ ([] : List Addr), ∀ cell : Cell, T20.heap[x]? = some cell → cell.vm.isStatics = false := all0
      have z113 : n0 ≤ T110.heap.size := Nat.le_trans z23 p110_0.1
      have ne_b1_x'_110 : b1 ≠ x'_110 := Nat.ne_of_lt (Nat.lt_of_lt_of_le f27.lt p110_1)
      have ne_b18_x'_110 : b18 ≠ x'_110 := Nat.ne_of_lt (Nat.lt_of_lt_of_le p20_1.lt p110_1)
      have g_x'_110 : n0 ≤ x'_110 := Nat.le_trans z23 p110_1
      have ne_b1_t'_110 : b1 ≠ t'_110 := Nat.ne_of_lt (Nat.lt_of_lt_of_le f27.lt p110_2)
      have ne_b18_t'_110 : b18 ≠ t'_110 := Nat.ne_of_lt (Nat.lt_of_lt_of_le p20_1.lt p110_2)
      have g_t'_110 : n0 ≤ t'_110 := Nat.le_trans z23 p110_2
      refine GoalW.lift (B := (T110.setTop (mkF m 234 #[vj q1, .second, vi p2, vi p3, vr b1, vi ln, vi (3 : Int32), vi i73_0, vi i89_0, vr b18, vi wv, vi r26, vi r28, vi r29, vr x'_110, .unset, .unset, .unset] [(.int (ln - wv)), (.int (3 : Int32))]))) (fun t k => ?_) ?_
      · show Steps p.tables e below (T29.setTop (mkF m 214 #[vj q1, .second, vi p2, vi p3, vr b1, vi ln, vi (3 : Int32), vi i73_0, vi i89_0, vr b18, vi wv, vi r26, vi r28, vi r29, .unset, .unset, .unset, .unset] [])) _
        refine XS.iload X29.here hx rfl (hb hby at_214) rfl ?_
        refine XS.iload X29.here hx rfl (hb hby at_216) rfl ?_
        refine XS.iload X29.here hx rfl (hb hby at_218) rfl ?_
        refine XS.iload X29.here hx rfl (hb hby at_220) rfl ?_
        refine st110 _ ?_
        refine XS.astore X110.here hx rfl (hb hby at_225) rfl rfl (l' := #[vj q1, .second, vi p2, vi p3, vr b1, vi ln, vi (3 : Int32), vi i73_0, vi i89_0, vr b18, vi wv, vi r26, vi r28, vi r29, vr x'_110, .unset, .unset, .unset]) rfl ?_
        show Steps p.tables e below (T110.setTop (mkF m 227 #[vj q1, .second, vi p2, vi p3, vr b1, vi ln, vi (3 : Int32), vi i73_0, vi i89_0, vr b18, vi wv, vi r26, vi r28, vi r29, vr x'_110, .unset, .unset, .unset] [])) _
        refine XS.iload X110.here hx rfl (hb hby at_227) rfl ?_
        refine XS.iload X110.here hx rfl (hb hby at_229) rfl ?_
        refine XS.iload X110.here hx rfl (hb hby at_231) rfl ?_
        refine XS.isub X110.here hx rfl (hb hby at_233) rfl ?_
        exact k
      suffices J234_116 : ∀ (i234_0 : Int32), i234_0 = (if (ln - wv) < (3 : Int32) then (0 : Int32) else (if (fn13 (wv).toNatClampNeg) = r26 then (if (fn13 ((wv + (1 : Int32))).toNatClampNeg) = r28 then (if (fn13 ((wv + (2 : Int32))).toNatClampNeg) = r29 then (1 : Int32) else (0 : Int32)) else (0 : Int32)) else (0 : Int32))) → GoalW p.tables e below s 24 1408 (Q0 Z q1 p2 p3 zcs fm h0 n0) (T110.setTop (mkF m 294 #[vj q1, .second, vi p2, vi p3, vr b1, vi ln, vi (3 : Int32), vi i73_0, vi i89_0, vr b18, vi wv, vi r26, vi r28, vi r29, vr x'_110, .unset, .unset, .unset] [(.int i234_0)])) by
        by_cases hc234_117 : (ln - wv) < (3 : Int32)
        · refine GoalW.lift (B := (T110.setTop (mkF m 294 #[vj q1, .second, vi p2, vi p3, vr b1, vi ln, vi (3 : Int32), vi i73_0, vi i89_0, vr b18, vi wv, vi r26, vi r28, vi r29, vr x'_110, .unset, .unset, .unset] [(.int (0 : Int32))]))) (fun t k => ?_) ?_
          · show Steps p.tables e below (T110.setTop (mkF m 234 #[vj q1, .second, vi p2, vi p3, vr b1, vi ln, vi (3 : Int32), vi i73_0, vi i89_0, vr b18, vi wv, vi r26, vi r28, vi r29, vr x'_110, .unset, .unset, .unset] [(.int (ln - wv)), (.int (3 : Int32))])) _
            refine XS.icmpYes X110.here hx rfl (pc0 := 234) (pc' := 293) rfl (hb hby at_234) rfl ((tlt hc234_117).2.2.1) (by decide) (by decide) ?_
            refine XS.iconst X110.here hx rfl (hb hby at_293) ?_
            exact k
          exact J234_116 _ (by simp only [if_pos hc234_117])
        · have f119 : AV Z T110.heap b1 k1 .byte 5 (fun i => Value.int (fn13 i)) := (f27.keep p110_0 nin0)
          obtain ⟨cl118, Ar118, kc118, sz118, -, hv118⟩ := id f119
          have hin118 : ¬ (wv < 0 ∨ cl118.slots.size ≤ (wv).toNatClampNeg) := AV.inb sz118 (own_p50 hp)
          have hat118 : cl118.slots[(wv).toNatClampNeg]? = some (.int (fn13 (wv).toNatClampNeg)) := (hv118 _ (AV.inx (own_p50 hp))).trans (congrArg some rfl)
          refine GoalW.lift (B := (T110.setTop (mkF m 250 #[vj q1, .second, vi p2, vi p3, vr b1, vi ln, vi (3 : Int32), vi i73_0, vi i89_0, vr b18, vi wv, vi r26, vi r28, vi r29, vr x'_110, .unset, .unset, .unset] [(.int r26), (.int (fn13 (wv).toNatClampNeg))]))) (fun t k => ?_) ?_
          · show Steps p.tables e below (T110.setTop (mkF m 234 #[vj q1, .second, vi p2, vi p3, vr b1, vi ln, vi (3 : Int32), vi i73_0, vi i89_0, vr b18, vi wv, vi r26, vi r28, vi r29, vr x'_110, .unset, .unset, .unset] [(.int (ln - wv)), (.int (3 : Int32))])) _
            refine XS.icmpNo X110.here hx rfl (hb hby at_234) rfl ((flt hc234_117).2.2.1) ?_
            refine XS.iload X110.here hx rfl (hb hby at_237) rfl ?_
            refine XS.iconst X110.here hx rfl (hb hby at_239) ?_
            refine XS.icmpNo X110.here hx rfl (hb hby at_240) rfl ((flt (by decide : ¬ ((3 : Int32) < (1 : Int32)))).1) ?_
            refine XS.aload X110.here hx rfl (hb hby at_243) rfl rfl ?_
            refine XS.iload X110.here hx rfl (hb hby at_245) rfl ?_
            show Steps p.tables e below (T110.setTop (mkF m 247 #[vj q1, .second, vi p2, vi p3, vr b1, vi ln, vi (3 : Int32), vi i73_0, vi i89_0, vr b18, vi wv, vi r26, vi r28, vi r29, vr x'_110, .unset, .unset, .unset] [(.int wv), (.ref b1)])) _
            refine X110.baloadBytes hx (j := wv) (v := (.int (fn13 (wv).toNatClampNeg))) Ar118.1 (State.isArrayOf_alike hZ.alike Ar118.2.1) Ar118.2.2 hin118 hat118 (g := (mkF m 247 #[vj q1, .second, vi p2, vi p3, vr b1, vi ln, vi (3 : Int32), vi i73_0, vi i89_0, vr b18, vi wv, vi r26, vi r28, vi r29, vr x'_110, .unset, .unset, .unset] [(.int wv), (.ref b1)])) rfl rfl (hb hby at_247) _ ?_
            refine XS.iload X110.here hx rfl (hb hby at_248) rfl ?_
            exact k
          by_cases hc250_120 : (fn13 (wv).toNatClampNeg) = r26
          · obtain ⟨cl121, Ar121, kc121, sz121, -, hv121⟩ := id f119
            have hin121 : ¬ ((wv + (1 : Int32)) < 0 ∨ cl121.slots.size ≤ ((wv + (1 : Int32))).toNatClampNeg) := AV.inb sz121 (own_p5 hp (i := (1 : Int32)) (by decide))
            have hat121 : cl121.slots[((wv + (1 : Int32))).toNatClampNeg]? = some (.int (fn13 ((wv + (1 : Int32))).toNatClampNeg)) := (hv121 _ (AV.inx (own_p5 hp (i := (1 : Int32)) (by decide)))).trans (congrArg some rfl)
            refine GoalW.lift (B := (T110.setTop (mkF m 268 #[vj q1, .second, vi p2, vi p3, vr b1, vi ln, vi (3 : Int32), vi i73_0, vi i89_0, vr b18, vi wv, vi r26, vi r28, vi r29, vr x'_110, .unset, .unset, .unset] [(.int r28), (.int (fn13 ((wv + (1 : Int32))).toNatClampNeg))]))) (fun t k => ?_) ?_
            · show Steps p.tables e below (T110.setTop (mkF m 250 #[vj q1, .second, vi p2, vi p3, vr b1, vi ln, vi (3 : Int32), vi i73_0, vi i89_0, vr b18, vi wv, vi r26, vi r28, vi r29, vr x'_110, .unset, .unset, .unset] [(.int r26), (.int (fn13 (wv).toNatClampNeg))])) _
              refine XS.icmpNo X110.here hx rfl (hb hby at_250) rfl ((teq hc250_120).2) ?_
              refine XS.iload X110.here hx rfl (hb hby at_253) rfl ?_
              refine XS.iconst X110.here hx rfl (hb hby at_255) ?_
              refine XS.icmpNo X110.here hx rfl (hb hby at_256) rfl ((flt (by decide : ¬ ((3 : Int32) < (2 : Int32)))).1) ?_
              refine XS.aload X110.here hx rfl (hb hby at_259) rfl rfl ?_
              refine XS.iload X110.here hx rfl (hb hby at_261) rfl ?_
              show Steps p.tables e below (T110.setTop (mkF m 263 #[vj q1, .second, vi p2, vi p3, vr b1, vi ln, vi (3 : Int32), vi i73_0, vi i89_0, vr b18, vi wv, vi r26, vi r28, vi r29, vr x'_110, .unset, .unset, .unset] [(.int wv), (.ref b1)])) _
              refine XS.iconst X110.here hx rfl (hb hby at_263) ?_
              refine XS.iadd X110.here hx rfl (hb hby at_264) rfl ?_
              refine X110.baloadBytes hx (j := (wv + (1 : Int32))) (v := (.int (fn13 ((wv + (1 : Int32))).toNatClampNeg))) Ar121.1 (State.isArrayOf_alike hZ.alike Ar121.2.1) Ar121.2.2 hin121 hat121 (g := (mkF m 265 #[vj q1, .second, vi p2, vi p3, vr b1, vi ln, vi (3 : Int32), vi i73_0, vi i89_0, vr b18, vi wv, vi r26, vi r28, vi r29, vr x'_110, .unset, .unset, .unset] [(.int (wv + (1 : Int32))), (.ref b1)])) rfl rfl (hb hby at_265) _ ?_
              refine XS.iload X110.here hx rfl (hb hby at_266) rfl ?_
              exact k
            by_cases hc268_122 : (fn13 ((wv + (1 : Int32))).toNatClampNeg) = r28
            · obtain ⟨cl123, Ar123, kc123, sz123, -, hv123⟩ := id f119
              have hin123 : ¬ ((wv + (2 : Int32)) < 0 ∨ cl123.slots.size ≤ ((wv + (2 : Int32))).toNatClampNeg) := AV.inb sz123 (own_p5 hp (i := (2 : Int32)) (by decide))
              have hat123 : cl123.slots[((wv + (2 : Int32))).toNatClampNeg]? = some (.int (fn13 ((wv + (2 : Int32))).toNatClampNeg)) := (hv123 _ (AV.inx (own_p5 hp (i := (2 : Int32)) (by decide)))).trans (congrArg some rfl)
              refine GoalW.lift (B := (T110.setTop (mkF m 286 #[vj q1, .second, vi p2, vi p3, vr b1, vi ln, vi (3 : Int32), vi i73_0, vi i89_0, vr b18, vi wv, vi r26, vi r28, vi r29, vr x'_110, .unset, .unset, .unset] [(.int r29), (.int (fn13 ((wv + (2 : Int32))).toNatClampNeg))]))) (fun t k => ?_) ?_
              · show Steps p.tables e below (T110.setTop (mkF m 268 #[vj q1, .second, vi p2, vi p3, vr b1, vi ln, vi (3 : Int32), vi i73_0, vi i89_0, vr b18, vi wv, vi r26, vi r28, vi r29, vr x'_110, .unset, .unset, .unset] [(.int r28), (.int (fn13 ((wv + (1 : Int32))).toNatClampNeg))])) _
                refine XS.icmpNo X110.here hx rfl (hb hby at_268) rfl ((teq hc268_122).2) ?_
                refine XS.iload X110.here hx rfl (hb hby at_271) rfl ?_
                refine XS.iconst X110.here hx rfl (hb hby at_273) ?_
                refine XS.icmpNo X110.here hx rfl (hb hby at_274) rfl ((flt (by decide : ¬ ((3 : Int32) < (3 : Int32)))).1) ?_
                refine XS.aload X110.here hx rfl (hb hby at_277) rfl rfl ?_
                refine XS.iload X110.here hx rfl (hb hby at_279) rfl ?_
                show Steps p.tables e below (T110.setTop (mkF m 281 #[vj q1, .second, vi p2, vi p3, vr b1, vi ln, vi (3 : Int32), vi i73_0, vi i89_0, vr b18, vi wv, vi r26, vi r28, vi r29, vr x'_110, .unset, .unset, .unset] [(.int wv), (.ref b1)])) _
                refine XS.iconst X110.here hx rfl (hb hby at_281) ?_
                refine XS.iadd X110.here hx rfl (hb hby at_282) rfl ?_
                refine X110.baloadBytes hx (j := (wv + (2 : Int32))) (v := (.int (fn13 ((wv + (2 : Int32))).toNatClampNeg))) Ar123.1 (State.isArrayOf_alike hZ.alike Ar123.2.1) Ar123.2.2 hin123 hat123 (g := (mkF m 283 #[vj q1, .second, vi p2, vi p3, vr b1, vi ln, vi (3 : Int32), vi i73_0, vi i89_0, vr b18, vi wv, vi r26, vi r28, vi r29, vr x'_110, .unset, .unset, .unset] [(.int (wv + (2 : Int32))), (.ref b1)])) rfl rfl (hb hby at_283) _ ?_
                refine XS.iload X110.here hx rfl (hb hby at_284) rfl ?_
                exact k
              by_cases hc286_124 : (fn13 ((wv + (2 : Int32))).toNatClampNeg) = r29
              · refine GoalW.lift (B := (T110.setTop (mkF m 294 #[vj q1, .second, vi p2, vi p3, vr b1, vi ln, vi (3 : Int32), vi i73_0, vi i89_0, vr b18, vi wv, vi r26, vi r28, vi r29, vr x'_110, .unset, .unset, .unset] [(.int (1 : Int32))]))) (fun t k => ?_) ?_
                · show Steps p.tables e below (T110.setTop (mkF m 286 #[vj q1, .second, vi p2, vi p3, vr b1, vi ln, vi (3 : Int32), vi i73_0, vi i89_0, vr b18, vi wv, vi r26, vi r28, vi r29, vr x'_110, .unset, .unset, .unset] [(.int r29), (.int (fn13 ((wv + (2 : Int32))).toNatClampNeg))])) _
                  refine XS.icmpNo X110.here hx rfl (hb hby at_286) rfl ((teq hc286_124).2) ?_
                  refine XS.iconst X110.here hx rfl (hb hby at_289) ?_
                  refine XS.goto X110.here hx rfl (pc0 := 290) (pc' := 294) rfl (hb hby at_290) (by decide) (by decide) ?_
                  exact k
                exact J234_116 _ (by simp only [if_neg hc234_117, if_pos hc250_120, if_pos hc268_122, if_pos hc286_124])
              · refine GoalW.lift (B := (T110.setTop (mkF m 294 #[vj q1, .second, vi p2, vi p3, vr b1, vi ln, vi (3 : Int32), vi i73_0, vi i89_0, vr b18, vi wv, vi r26, vi r28, vi r29, vr x'_110, .unset, .unset, .unset] [(.int (0 : Int32))]))) (fun t k => ?_) ?_
                · show Steps p.tables e below (T110.setTop (mkF m 286 #[vj q1, .second, vi p2, vi p3, vr b1, vi ln, vi (3 : Int32), vi i73_0, vi i89_0, vr b18, vi wv, vi r26, vi r28, vi r29, vr x'_110, .unset, .unset, .unset] [(.int r29), (.int (fn13 ((wv + (2 : Int32))).toNatClampNeg))])) _
                  refine XS.icmpYes X110.here hx rfl (pc0 := 286) (pc' := 293) rfl (hb hby at_286) rfl ((feq hc286_124).2) (by decide) (by decide) ?_
                  refine XS.iconst X110.here hx rfl (hb hby at_293) ?_
                  exact k
                exact J234_116 _ (by simp only [if_neg hc234_117, if_pos hc250_120, if_pos hc268_122, if_neg hc286_124])
            · refine GoalW.lift (B := (T110.setTop (mkF m 294 #[vj q1, .second, vi p2, vi p3, vr b1, vi ln, vi (3 : Int32), vi i73_0, vi i89_0, vr b18, vi wv, vi r26, vi r28, vi r29, vr x'_110, .unset, .unset, .unset] [(.int (0 : Int32))]))) (fun t k => ?_) ?_
              · show Steps p.tables e below (T110.setTop (mkF m 268 #[vj q1, .second, vi p2, vi p3, vr b1, vi ln, vi (3 : Int32), vi i73_0, vi i89_0, vr b18, vi wv, vi r26, vi r28, vi r29, vr x'_110, .unset, .unset, .unset] [(.int r28), (.int (fn13 ((wv + (1 : Int32))).toNatClampNeg))])) _
                refine XS.icmpYes X110.here hx rfl (pc0 := 268) (pc' := 293) rfl (hb hby at_268) rfl ((feq hc268_122).2) (by decide) (by decide) ?_
                refine XS.iconst X110.here hx rfl (hb hby at_293) ?_
                exact k
              exact J234_116 _ (by simp only [if_neg hc234_117, if_pos hc250_120, if_neg hc268_122])
          · refine GoalW.lift (B := (T110.setTop (mkF m 294 #[vj q1, .second, vi p2, vi p3, vr b1, vi ln, vi (3 : Int32), vi i73_0, vi i89_0, vr b18, vi wv, vi r26, vi r28, vi r29, vr x'_110, .unset, .unset, .unset] [(.int (0 : Int32))]))) (fun t k => ?_) ?_
            · show Steps p.tables e below (T110.setTop (mkF m 250 #[vj q1, .second, vi p2, vi p3, vr b1, vi ln, vi (3 : Int32), vi i73_0, vi i89_0, vr b18, vi wv, vi r26, vi r28, vi r29, vr x'_110, .unset, .unset, .unset] [(.int r26), (.int (fn13 (wv).toNatClampNeg))])) _
              refine XS.icmpYes X110.here hx rfl (pc0 := 250) (pc' := 293) rfl (hb hby at_250) rfl ((feq hc250_120).2) (by decide) (by decide) ?_
              refine XS.iconst X110.here hx rfl (hb hby at_293) ?_
              exact k
            exact J234_116 _ (by simp only [if_neg hc234_117, if_neg hc250_120])
      intro i234_0 h_i234_0
      refine GoalW.lift (B := (T110.setTop (mkF m 298 #[vj q1, .second, vi p2, vi p3, vr b1, vi ln, vi (3 : Int32), vi i73_0, vi i89_0, vr b18, vi wv, vi r26, vi r28, vi r29, vr x'_110, vi i234_0, .unset, .unset] [(.int i234_0)]))) (fun t k => ?_) ?_
      · show Steps p.tables e below (T110.setTop (mkF m 294 #[vj q1, .second, vi p2, vi p3, vr b1, vi ln, vi (3 : Int32), vi i73_0, vi i89_0, vr b18, vi wv, vi r26, vi r28, vi r29, vr x'_110, .unset, .unset, .unset] [(.int i234_0)])) _
        refine XS.istore X110.here hx rfl (hb hby at_294) rfl (l' := #[vj q1, .second, vi p2, vi p3, vr b1, vi ln, vi (3 : Int32), vi i73_0, vi i89_0, vr b18, vi wv, vi r26, vi r28, vi r29, vr x'_110, vi i234_0, .unset, .unset]) rfl ?_
        refine XS.iload X110.here hx rfl (hb hby at_296) rfl ?_
        exact k
      suffices J298_125 : ∀ (i298_0 : Int32), i298_0 = (if i234_0 = (0 : Int32) then wv else (wv + (3 : Int32))) → GoalW p.tables e below s 24 1408 (Q0 Z q1 p2 p3 zcs fm h0 n0) (T110.setTop (mkF m 311 #[vj q1, .second, vi p2, vi p3, vr b1, vi ln, vi (3 : Int32), vi i73_0, vi i89_0, vr b18, vi wv, vi r26, vi r28, vi r29, vr x'_110, vi i234_0, .unset, .unset] [(.int i298_0)])) by
        by_cases hc298_126 : i234_0 = (0 : Int32)
        · refine GoalW.lift (B := (T110.setTop (mkF m 311 #[vj q1, .second, vi p2, vi p3, vr b1, vi ln, vi (3 : Int32), vi i73_0, vi i89_0, vr b18, vi wv, vi r26, vi r28, vi r29, vr x'_110, vi i234_0, .unset, .unset] [(.int wv)]))) (fun t k => ?_) ?_
          · show Steps p.tables e below (T110.setTop (mkF m 298 #[vj q1, .second, vi p2, vi p3, vr b1, vi ln, vi (3 : Int32), vi i73_0, vi i89_0, vr b18, vi wv, vi r26, vi r28, vi r29, vr x'_110, vi i234_0, .unset, .unset] [(.int i234_0)])) _
            refine XS.ifYes X110.here hx rfl (pc0 := 298) (pc' := 309) rfl (hb hby at_298) rfl ((if0 _ _).trans (teq hc298_126).1) (by decide) (by decide) ?_
            refine XS.iload X110.here hx rfl (hb hby at_309) rfl ?_
            exact k
          exact J298_125 _ (by simp only [if_pos hc298_126])
        · refine GoalW.lift (B := (T110.setTop (mkF m 311 #[vj q1, .second, vi p2, vi p3, vr b1, vi ln, vi (3 : Int32), vi i73_0, vi i89_0, vr b18, vi wv, vi r26, vi r28, vi r29, vr x'_110, vi i234_0, .unset, .unset] [(.int (wv + (3 : Int32)))]))) (fun t k => ?_) ?_
          · show Steps p.tables e below (T110.setTop (mkF m 298 #[vj q1, .second, vi p2, vi p3, vr b1, vi ln, vi (3 : Int32), vi i73_0, vi i89_0, vr b18, vi wv, vi r26, vi r28, vi r29, vr x'_110, vi i234_0, .unset, .unset] [(.int i234_0)])) _
            refine XS.ifNo X110.here hx rfl (hb hby at_298) rfl ((if0 _ _).trans (feq hc298_126).1) ?_
            refine XS.iload X110.here hx rfl (hb hby at_301) rfl ?_
            refine XS.iload X110.here hx rfl (hb hby at_303) rfl ?_
            refine XS.iadd X110.here hx rfl (hb hby at_305) rfl ?_
            refine XS.goto X110.here hx rfl (pc0 := 306) (pc' := 311) rfl (hb hby at_306) (by decide) (by decide) ?_
            exact k
          exact J298_125 _ (by simp only [if_neg hc298_126])
      intro i298_0 h_i298_0
      have f128 : Sta Z T110.heap "java/lang/String" "COMPACT_STRINGS" "Z" (.int zcs) := (StaKeep f111 p110_0 ns112)
      have f129 : Sta Z T110.heap "jdk/internal/util/Preconditions" "SIOOBE_FORMATTER" "Ljava/util/function/BiFunction;" fm := (StaKeep (StaKeep (((((((S_SIOOBE_FORMATTER.ext E1).wr W3).wr W5).wr W7).wr W9).wr W11).ext E18) p20_0 ns22) p110_0 ns112)
      have f130 : Exa Z T110.heap b18 "com/example/verdict/verdict/saml/XmlScanner" := (p20_1.keep p110_0)
      have f131 : Fld Z T110.heap b18 "com/example/verdict/verdict/saml/XmlScanner" "pos" "I" (.int wv) := (Fwv.keep p110_0 nin0)
      have f132 : Fld Z T110.heap b18 "com/example/verdict/verdict/saml/XmlScanner" "end" "I" (.int ln) := (p20_3.keep p110_0 nin0)
      have f133 : Fld Z T110.heap b18 "com/example/verdict/verdict/saml/XmlScanner" "doc" "[B" (.ref b1) := (p20_2.keep p110_0 nin0)
      have f134 : AV Z T110.heap b1 k1 .byte 5 (fun i => Value.int (fn13 i)) := (f27.keep p110_0 nin0)
      obtain ⟨cq127, kq127, q127a, q127b, q127c⟩ := isOf hZ rfl f130
      obtain ⟨_, _, ⟨T127, L127, k127, n127⟩, -, X127, ⟨Lc127, hQ127, l127, y127, z127⟩, st127⟩ := X110.virtualBack hx (y := (⟨"com/example/verdict/verdict/saml/XmlScanner", "skip", "(Ljava/lang/String;)Z"⟩ : MethodName)) (z := (⟨"com/example/verdict/verdict/saml/XmlScanner", "skip", "(Ljava/lang/String;)Z"⟩ : MethodName)) hown (mvT hZ (hw _ (List.mem_of_getElem? (i := 57) rfl))) (mvT hZ (hw _ (List.mem_of_getElem? (i := 58) rfl))) (notFace_of_selects (args := #[]) (mvT hZ (hw _ (List.mem_of_getElem? (i := 60) rfl)))) (mvT hZ (hw _ (List.mem_of_getElem? (i := 60) rfl))) (mvT hZ (hw _ (List.mem_of_getElem? (i := 59) rfl))) (by decide) (backOf (W := 0) (rmsk3 l Z a0 hw [] b18 x'_110 wv zcs fm ln b1 k1 fn13 t'_110 k'_110 (own_s3 r26 r28 r29) T110.heap n0 z113 f128 hCS f129 hfm f130 g_b18 f131 f132 f133 f134 p110_4 p110_5 p110_6 p110_7 ne_b18_x'_110 ne_b18_t'_110 (Ne.symm ne_b1_b18) (own_s3ok hr26 hr28 hr29) hp) hZ (hw _ (List.mem_of_getElem? (i := 61) rfl)) (hw _ (List.mem_of_getElem? (i := 3) rfl)) (by decide) (by decide)) q127a q127c (g := (mkF m 317 #[vj q1, .second, vi p2, vi p3, vr b1, vi ln, vi (3 : Int32), vi i73_0, vi i89_0, vr b18, vi wv, vi r26, vi r28, vi r29, vr x'_110, vi i234_0, vi i298_0, .unset] [(.ref x'_110), (.ref b18)])) rfl (by rw [hml]; rfl) (Steps.refl _) (argsL := [(.ref x'_110)]) (rest := []) (lenOf pd_9 rfl) rfl (by show 2 * 0 + _ ≤ _; exact Nat.le_of_eq rfl) (hb hby at_317) (fun _ _ => ⟨rfl, rfl, (by decide : 6 + 0 ≤ _), (by decide : 148 + 0 ≤ _)⟩)
      dsimp only [Pt.U, Pt.locs, Pt.cells, Pt.slots] at X127 l127 y127 z127 st127 hQ127
      subst y127 z127
      obtain ⟨w2_127, rfl, N127q, p127_0, p127_1, p127_2, p127_3, p127_4⟩ := hQ127
      have N127 : Fr n0 L127 := by rw [l127]; exact Fr.app N110 N127q
      have ns135 : ∀ x ∈ ([b18] : List Addr), ∀ cell : Cell, T110.heap[x]? = some cell → cell.vm.isStatics = false := (allS (Exa.ns f130) all0)
      have z136 : n0 ≤ T127.heap.size := Nat.le_trans z113 p127_0.1
      have hsw : (own_sw3 wv ln fn13 (own_s3 r26 r28 r29)) = i234_0 := own_e3 h_i234_0
      obtain ⟨cq137, kq137, q137a, q137b, q137c⟩ := isOf hZ rfl p127_1
      obtain ⟨_, _, ⟨T137, L137, k137, n137⟩, -, X137, ⟨Lc137, hQ137, l137, y137, z137⟩, st137⟩ := X127.virtualBack hx (y := (⟨"com/example/verdict/verdict/saml/XmlScanner", "position", "()I"⟩ : MethodName)) (z := (⟨"com/example/verdict/verdict/saml/XmlScanner", "position", "()I"⟩ : MethodName)) hown (mvT hZ (hw _ (List.mem_of_getElem? (i := 24) rfl))) (mvT hZ (hw _ (List.mem_of_getElem? (i := 25) rfl))) (notFace_of_selects (args := #[]) (mvT hZ (hw _ (List.mem_of_getElem? (i := 27) rfl)))) (mvT hZ (hw _ (List.mem_of_getElem? (i := 27) rfl))) (mvT hZ (hw _ (List.mem_of_getElem? (i := 26) rfl))) (by decide) (backOf (W := 0) (rm5 l Z a0 hw [] b18 w2_127 T127.heap n0 z136 p127_2) hZ (hw _ (List.mem_of_getElem? (i := 28) rfl)) (hw _ (List.mem_of_getElem? (i := 3) rfl)) (by decide) (by decide)) q137a q137c (g := (mkF m 331 #[vj q1, .second, vi p2, vi p3, vr b1, vi ln, vi (3 : Int32), vi i73_0, vi i89_0, vr b18, vi wv, vi r26, vi r28, vi r29, vr x'_110, vi i234_0, vi i298_0, vi (own_sw3 wv ln fn13 (own_s3 r26 r28 r29))] [(.ref b18)])) rfl (by rw [hml]; rfl) (Steps.refl _) (argsL := []) (rest := []) (lenOf pd_7 rfl) rfl (by show 2 * 0 + _ ≤ _; exact Nat.le_of_eq rfl) (hb hby at_331) (fun _ _ => ⟨rfl, rfl, (by decide : 6 + 0 ≤ _), (by decide : 148 + 0 ≤ _)⟩)
      dsimp only [Pt.U, Pt.locs, Pt.cells, Pt.slots] at X137 l137 y137 z137 st137 hQ137
      subst y137 z137
      obtain ⟨rfl, N137q, eq137⟩ := hQ137
      have N137 : Fr n0 L137 := by rw [l137]; exact Fr.app N127 N137q
      have hps : w2_127 = i298_0 := by rw [p127_4, hsw, h_i298_0]
      obtain ⟨cq138, kq138, q138a, q138b, q138c⟩ := isOf hZ eq137 p127_1
      obtain ⟨_, _, ⟨T138, L138, k138, n138⟩, -, X138, ⟨Lc138, hQ138, l138, y138, z138⟩, st138⟩ := X137.virtualBack hx (y := (⟨"com/example/verdict/verdict/saml/XmlScanner", "atEnd", "()Z"⟩ : MethodName)) (z := (⟨"com/example/verdict/verdict/saml/XmlScanner", "atEnd", "()Z"⟩ : MethodName)) hown (mvT hZ (hw _ (List.mem_of_getElem? (i := 82) rfl))) (mvT hZ (hw _ (List.mem_of_getElem? (i := 83) rfl))) (notFace_of_selects (args := #[]) (mvT hZ (hw _ (List.mem_of_getElem? (i := 85) rfl)))) (mvT hZ (hw _ (List.mem_of_getElem? (i := 85) rfl))) (mvT hZ (hw _ (List.mem_of_getElem? (i := 84) rfl))) (by decide) (backOf (W := 0) (rm15 l Z a0 hw [] b18 w2_127 ln T127.heap n0 z136 p127_2 p127_3) hZ (hw _ (List.mem_of_getElem? (i := 86) rfl)) (hw _ (List.mem_of_getElem? (i := 3) rfl)) (by decide) (by decide)) q138a q138c (g := (mkF m 341 #[vj q1, .second, vi p2, vi p3, vr b1, vi ln, vi (3 : Int32), vi i73_0, vi i89_0, vr b18, vi wv, vi r26, vi r28, vi r29, vr x'_110, vi i234_0, vi i298_0, vi (own_sw3 wv ln fn13 (own_s3 r26 r28 r29))] [(.ref b18)])) rfl (by rw [hml]; rfl) (Steps.refl _) (argsL := []) (rest := []) (lenOf pd_5 rfl) rfl (by show 2 * 0 + _ ≤ _; exact Nat.le_of_eq rfl) (hb hby at_341) (fun _ _ => ⟨rfl, eq137, (by decide : 6 + 0 ≤ _), (by decide : 148 + 0 ≤ _)⟩)
      dsimp only [Pt.U, Pt.locs, Pt.cells, Pt.slots] at X138 l138 y138 z138 st138 hQ138
      subst y138 z138
      obtain ⟨r138, rfl, hr138, N138q, eq138⟩ := hQ138
      have N138 : Fr n0 L138 := by rw [l138]; exact Fr.app N137 N138q
      refine GoalW.lift (B := (T138.setTop (mkF m 348 #[vj q1, .second, vi p2, vi p3, vr b1, vi ln, vi (3 : Int32), vi i73_0, vi i89_0, vr b18, vi wv, vi r26, vi r28, vi r29, vr x'_110, vi i234_0, vi i298_0, vi (own_sw3 wv ln fn13 (own_s3 r26 r28 r29))] [(.int ln), (.int i298_0), (.int r138)]))) (fun t k => ?_) ?_
      · show Steps p.tables e below (T110.setTop (mkF m 311 #[vj q1, .second, vi p2, vi p3, vr b1, vi ln, vi (3 : Int32), vi i73_0, vi i89_0, vr b18, vi wv, vi r26, vi r28, vi r29, vr x'_110, vi i234_0, .unset, .unset] [(.int i298_0)])) _
        refine XS.istore X110.here hx rfl (hb hby at_311) rfl (l' := #[vj q1, .second, vi p2, vi p3, vr b1, vi ln, vi (3 : Int32), vi i73_0, vi i89_0, vr b18, vi wv, vi r26, vi r28, vi r29, vr x'_110, vi i234_0, vi i298_0, .unset]) rfl ?_
        refine XS.aload X110.here hx rfl (hb hby at_313) rfl rfl ?_
        refine XS.aload X110.here hx rfl (hb hby at_315) rfl rfl ?_
        refine st127.trans ?_
        refine XS.istore X127.here hx rfl (hb hby at_320) rfl (l' := #[vj q1, .second, vi p2, vi p3, vr b1, vi ln, vi (3 : Int32), vi i73_0, vi i89_0, vr b18, vi wv, vi r26, vi r28, vi r29, vr x'_110, vi i234_0, vi i298_0, vi (own_sw3 wv ln fn13 (own_s3 r26 r28 r29))]) rfl ?_
        refine XS.iload X127.here hx rfl (hb hby at_322) rfl ?_
        show Steps p.tables e below (T127.setTop (mkF m 324 #[vj q1, .second, vi p2, vi p3, vr b1, vi ln, vi (3 : Int32), vi i73_0, vi i89_0, vr b18, vi wv, vi r26, vi r28, vi r29, vr x'_110, vi i234_0, vi i298_0, vi (own_sw3 wv ln fn13 (own_s3 r26 r28 r29))] [(.int (own_sw3 wv ln fn13 (own_s3 r26 r28 r29)))])) _
        refine XS.iload X127.here hx rfl (hb hby at_324) rfl ?_
        refine XS.icmpNo X127.here hx rfl (hb hby at_326) rfl ((teq (hsw : (own_sw3 wv ln fn13 (own_s3 r26 r28 r29)) = i234_0)).2) ?_
        refine XS.aload X127.here hx rfl (hb hby at_329) rfl rfl ?_
        refine st137.trans ?_
        refine XS.iload X137.here hx rfl (hb hby at_334) rfl ?_
        refine XS.icmpNo X137.here hx rfl (hb hby at_336) rfl ((teq (hps : w2_127 = i298_0)).2) ?_
        show Steps p.tables e below (T137.setTop (mkF m 339 #[vj q1, .second, vi p2, vi p3, vr b1, vi ln, vi (3 : Int32), vi i73_0, vi i89_0, vr b18, vi wv, vi r26, vi r28, vi r29, vr x'_110, vi i234_0, vi i298_0, vi (own_sw3 wv ln fn13 (own_s3 r26 r28 r29))] [])) _
        refine XS.aload X137.here hx rfl (hb hby at_339) rfl rfl ?_
        refine st138.trans ?_
        refine XS.iload X138.here hx rfl (hb hby at_344) rfl ?_
        refine XS.iload X138.here hx rfl (hb hby at_346) rfl ?_
        exact k
      suffices J348_139 : ∀ (i348_0 : Int32), i348_0 = (if i298_0 = ln then (1 : Int32) else (0 : Int32)) → GoalW p.tables e below s 24 1408 (Q0 Z q1 p2 p3 zcs fm h0 n0) (T138.setTop (mkF m 356 #[vj q1, .second, vi p2, vi p3, vr b1, vi ln, vi (3 : Int32), vi i73_0, vi i89_0, vr b18, vi wv, vi r26, vi r28, vi r29, vr x'_110, vi i234_0, vi i298_0, vi (own_sw3 wv ln fn13 (own_s3 r26 r28 r29))] [(.int i348_0), (.int r138)])) by
        by_cases hc348_140 : i298_0 = ln
        · refine GoalW.lift (B := (T138.setTop (mkF m 356 #[vj q1, .second, vi p2, vi p3, vr b1, vi ln, vi (3 : Int32), vi i73_0, vi i89_0, vr b18, vi wv, vi r26, vi r28, vi r29, vr x'_110, vi i234_0, vi i298_0, vi (own_sw3 wv ln fn13 (own_s3 r26 r28 r29))] [(.int (1 : Int32)), (.int r138)]))) (fun t k => ?_) ?_
          · show Steps p.tables e below (T138.setTop (mkF m 348 #[vj q1, .second, vi p2, vi p3, vr b1, vi ln, vi (3 : Int32), vi i73_0, vi i89_0, vr b18, vi wv, vi r26, vi r28, vi r29, vr x'_110, vi i234_0, vi i298_0, vi (own_sw3 wv ln fn13 (own_s3 r26 r28 r29))] [(.int ln), (.int i298_0), (.int r138)])) _
            refine XS.icmpNo X138.here hx rfl (hb hby at_348) rfl ((teq hc348_140).2) ?_
            refine XS.iconst X138.here hx rfl (hb hby at_351) ?_
            refine XS.goto X138.here hx rfl (pc0 := 352) (pc' := 356) rfl (hb hby at_352) (by decide) (by decide) ?_
            exact k
          exact J348_139 _ (by simp only [if_pos hc348_140])
        · refine GoalW.lift (B := (T138.setTop (mkF m 356 #[vj q1, .second, vi p2, vi p3, vr b1, vi ln, vi (3 : Int32), vi i73_0, vi i89_0, vr b18, vi wv, vi r26, vi r28, vi r29, vr x'_110, vi i234_0, vi i298_0, vi (own_sw3 wv ln fn13 (own_s3 r26 r28 r29))] [(.int (0 : Int32)), (.int r138)]))) (fun t k => ?_) ?_
          · show Steps p.tables e below (T138.setTop (mkF m 348 #[vj q1, .second, vi p2, vi p3, vr b1, vi ln, vi (3 : Int32), vi i73_0, vi i89_0, vr b18, vi wv, vi r26, vi r28, vi r29, vr x'_110, vi i234_0, vi i298_0, vi (own_sw3 wv ln fn13 (own_s3 r26 r28 r29))] [(.int ln), (.int i298_0), (.int r138)])) _
            refine XS.icmpYes X138.here hx rfl (pc0 := 348) (pc' := 355) rfl (hb hby at_348) rfl ((feq hc348_140).2) (by decide) (by decide) ?_
            refine XS.iconst X138.here hx rfl (hb hby at_355) ?_
            exact k
          exact J348_139 _ (by simp only [if_neg hc348_140])
      intro i348_0 h_i348_0
      obtain ⟨fs, hr, hrun, hended, hW, hsame⟩ := X138.leave (v := some (.int (1 : Int32))) (fun h => by rw [Bd.returns] at h; cases h)
      refine ⟨_, _, ?_, hrun, hended, _, _, rfl, ?_, ReturnedEndW.of_narrow ⟨_, rfl⟩ hW (hsame.mono (by decide) (by decide))⟩
      · show Steps p.tables e below (T138.setTop (mkF m 356 #[vj q1, .second, vi p2, vi p3, vr b1, vi ln, vi (3 : Int32), vi i73_0, vi i89_0, vr b18, vi wv, vi r26, vi r28, vi r29, vr x'_110, vi i234_0, vi i298_0, vi (own_sw3 wv ln fn13 (own_s3 r26 r28 r29))] [(.int i348_0), (.int r138)])) _
        refine XS.icmpNo X138.here hx rfl (hb hby at_356) rfl ((teq (by rw [hr138, h_i348_0, hps] : r138 = i348_0)).2) ?_
        refine XS.iconst X138.here hx rfl (hb hby at_359) ?_
        refine XS.goto X138.here hx rfl (pc0 := 360) (pc' := 364) rfl (hb hby at_360) (by decide) (by decide) ?_
        exact retN X138 hx (t := .boolean) Bd.returns (by simp) (hb hby at_364) hr
      · exact ⟨rfl, N138⟩
  · refine GoalW.lift (B := (T20.setTop (mkF m 119 #[vj q1, .second, vi p2, vi p3, vr b1, vi ln, vi nn, vi i73_0, vi i89_0, vr b18, .unset, .unset, .unset, .unset, .unset, .unset, .unset, .unset] [(.int i89_0)]))) (fun t k => ?_) ?_
    · show Steps p.tables e below (T20.setTop (mkF m 114 #[vj q1, .second, vi p2, vi p3, vr b1, vi ln, vi nn, vi i73_0, vi i89_0, vr b18, .unset, .unset, .unset, .unset, .unset, .unset, .unset, .unset] [(.int i73_0)])) _
      refine XS.ifNo X20.here hx rfl (hb hby at_114) rfl ((if0 _ _).trans (feq hc114_24).1) ?_
      refine XS.iload X20.here hx rfl (hb hby at_117) rfl ?_
      exact k
    suffices J119_141 : ∀ (i119_0 : Int32), i119_0 = (if i89_0 = (0 : Int32) then ((((((p2).toUInt32 >>> ((21 : Int32) &&& 31).toUInt32).toInt32) &&& (127 : Int32))).toUInt32.toUInt16.toUInt32.toInt32) else ((((fn13 0) &&& (127 : Int32))).toUInt32.toUInt16.toUInt32.toInt32)) → GoalW p.tables e below s 24 1408 (Q0 Z q1 p2 p3 zcs fm h0 n0) (T20.setTop (mkF m 141 #[vj q1, .second, vi p2, vi p3, vr b1, vi ln, vi nn, vi i73_0, vi i89_0, vr b18, .unset, .unset, .unset, .unset, .unset, .unset, .unset, .unset] [(.int i119_0)])) by
      by_cases hc119_142 : i89_0 = (0 : Int32)
      · refine GoalW.lift (B := (T20.setTop (mkF m 141 #[vj q1, .second, vi p2, vi p3, vr b1, vi ln, vi nn, vi i73_0, vi i89_0, vr b18, .unset, .unset, .unset, .unset, .unset, .unset, .unset, .unset] [(.int ((((((p2).toUInt32 >>> ((21 : Int32) &&& 31).toUInt32).toInt32) &&& (127 : Int32))).toUInt32.toUInt16.toUInt32.toInt32))]))) (fun t k => ?_) ?_
        · show Steps p.tables e below (T20.setTop (mkF m 119 #[vj q1, .second, vi p2, vi p3, vr b1, vi ln, vi nn, vi i73_0, vi i89_0, vr b18, .unset, .unset, .unset, .unset, .unset, .unset, .unset, .unset] [(.int i89_0)])) _
          refine XS.ifYes X20.here hx rfl (pc0 := 119) (pc' := 133) rfl (hb hby at_119) rfl ((if0 _ _).trans (teq hc119_142).1) (by decide) (by decide) ?_
          refine XS.iloadN X20.here hx rfl (hb hby at_133) rfl ?_
          refine XS.bipush X20.here hx rfl (hb hby at_134) ?_
          refine XS.iushr X20.here hx rfl (hb hby at_136) rfl ?_
          refine XS.bipush X20.here hx rfl (hb hby at_137) ?_
          refine XS.iand X20.here hx rfl (hb hby at_139) rfl ?_
          show Steps p.tables e below (T20.setTop (mkF m 140 #[vj q1, .second, vi p2, vi p3, vr b1, vi ln, vi nn, vi i73_0, vi i89_0, vr b18, .unset, .unset, .unset, .unset, .unset, .unset, .unset, .unset] [(.int ((((p2).toUInt32 >>> ((21 : Int32) &&& 31).toUInt32).toInt32) &&& (127 : Int32)))])) _
          refine XS.i2c X20.here hx rfl (hb hby at_140) rfl ?_
          exact k
        exact J119_141 _ (by simp only [if_pos hc119_142])
      · have f144 : AV Z T20.heap b1 k1 .byte 5 (fun i => Value.int (fn13 i)) := (f21.keep p20_0 (ninS ne_b1_b18 nin0))
        obtain ⟨cl143, Ar143, kc143, sz143, -, hv143⟩ := id f144
        have hin143 : ¬ ((0 : Int32) < 0 ∨ cl143.slots.size ≤ ((0 : Int32)).toNatClampNeg) := AV.inb sz143 (show ¬ (0 : Int32) < 0 ∧ ((0 : Int32)).toNatClampNeg < 5 by decide)
        have hat143 : cl143.slots[((0 : Int32)).toNatClampNeg]? = some (.int (fn13 0)) := (hv143 _ (AV.inx (show ¬ (0 : Int32) < 0 ∧ ((0 : Int32)).toNatClampNeg < 5 by decide))).trans (congrArg some rfl)
        refine GoalW.lift (B := (T20.setTop (mkF m 141 #[vj q1, .second, vi p2, vi p3, vr b1, vi ln, vi nn, vi i73_0, vi i89_0, vr b18, .unset, .unset, .unset, .unset, .unset, .unset, .unset, .unset] [(.int ((((fn13 0) &&& (127 : Int32))).toUInt32.toUInt16.toUInt32.toInt32))]))) (fun t k => ?_) ?_
        · show Steps p.tables e below (T20.setTop (mkF m 119 #[vj q1, .second, vi p2, vi p3, vr b1, vi ln, vi nn, vi i73_0, vi i89_0, vr b18, .unset, .unset, .unset, .unset, .unset, .unset, .unset, .unset] [(.int i89_0)])) _
          refine XS.ifNo X20.here hx rfl (hb hby at_119) rfl ((if0 _ _).trans (feq hc119_142).1) ?_
          refine XS.aload X20.here hx rfl (hb hby at_122) rfl rfl ?_
          refine XS.iconst X20.here hx rfl (hb hby at_124) ?_
          refine X20.baloadBytes hx (j := (0 : Int32)) (v := (.int (fn13 0))) Ar143.1 (State.isArrayOf_alike hZ.alike Ar143.2.1) Ar143.2.2 hin143 hat143 (g := (mkF m 125 #[vj q1, .second, vi p2, vi p3, vr b1, vi ln, vi nn, vi i73_0, vi i89_0, vr b18, .unset, .unset, .unset, .unset, .unset, .unset, .unset, .unset] [(.int (0 : Int32)), (.ref b1)])) rfl rfl (hb hby at_125) _ ?_
          refine XS.bipush X20.here hx rfl (hb hby at_126) ?_
          refine XS.iand X20.here hx rfl (hb hby at_128) rfl ?_
          show Steps p.tables e below (T20.setTop (mkF m 129 #[vj q1, .second, vi p2, vi p3, vr b1, vi ln, vi nn, vi i73_0, vi i89_0, vr b18, .unset, .unset, .unset, .unset, .unset, .unset, .unset, .unset] [(.int ((fn13 0) &&& (127 : Int32)))])) _
          refine XS.i2c X20.here hx rfl (hb hby at_129) rfl ?_
          refine XS.goto X20.here hx rfl (pc0 := 130) (pc' := 141) rfl (hb hby at_130) (by decide) (by decide) ?_
          exact k
        exact J119_141 _ (by simp only [if_neg hc119_142])
    intro i119_0 h_i119_0
    have f146 : AV Z T20.heap b1 k1 .byte 5 (fun i => Value.int (fn13 i)) := (f21.keep p20_0 (ninS ne_b1_b18 nin0))
    obtain ⟨cq145, kq145, q145a, q145b, q145c⟩ := isOf hZ rfl p20_1
    obtain ⟨_, _, ⟨T145, L145, k145, n145⟩, -, X145, ⟨Lc145, hQ145, l145, y145, z145⟩, st145⟩ := X20.virtualBack hx (y := (⟨"com/example/verdict/verdict/saml/XmlScanner", "skip", "(C)Z"⟩ : MethodName)) (z := (⟨"com/example/verdict/verdict/saml/XmlScanner", "skip", "(C)Z"⟩ : MethodName)) hown (mvT hZ (hw _ (List.mem_of_getElem? (i := 118) rfl))) (mvT hZ (hw _ (List.mem_of_getElem? (i := 119) rfl))) (notFace_of_selects (args := #[]) (mvT hZ (hw _ (List.mem_of_getElem? (i := 121) rfl)))) (mvT hZ (hw _ (List.mem_of_getElem? (i := 121) rfl))) (mvT hZ (hw _ (List.mem_of_getElem? (i := 120) rfl))) (by decide) (backOf (W := 0) (rm24 l Z a0 hw [] b18 i119_0 (0 : Int32) ln b1 k1 5 fn13 (5 : Int32) T20.heap n0 z23 p20_1 g_b18 p20_4 p20_3 p20_2 f146 (by decide) hl.2) hZ (hw _ (List.mem_of_getElem? (i := 122) rfl)) (hw _ (List.mem_of_getElem? (i := 3) rfl)) (by decide) (by decide)) q145a q145c (g := (mkF m 147 #[vj q1, .second, vi p2, vi p3, vr b1, vi ln, vi nn, vi i73_0, vi i89_0, vr b18, vi i119_0, .unset, .unset, .unset, .unset, .unset, .unset, .unset] [(.int i119_0), (.ref b18)])) rfl (by rw [hml]; rfl) (Steps.refl _) (argsL := [(.int i119_0)]) (rest := []) (lenOf pd_19 rfl) rfl (by show 2 * 0 + _ ≤ _; exact Nat.le_of_eq rfl) (hb hby at_147) (fun _ _ => ⟨rfl, rfl, (by decide : 3 + 0 ≤ _), (by decide : 138 + 0 ≤ _)⟩)
    dsimp only [Pt.U, Pt.locs, Pt.cells, Pt.slots] at X145 l145 y145 z145 st145 hQ145
    subst y145 z145
    obtain ⟨w2_145, r145, rfl, hr145, N145q, p145_0, p145_1, p145_2, p145_3, p145_4, p145_5⟩ := hQ145
    have N145 : Fr n0 L145 := by rw [l145]; exact Fr.app N20 N145q
    have ns147 : ∀ x ∈ ([b18] : List Addr), ∀ cell : Cell, T20.heap[x]? = some cell → cell.vm.isStatics = false := (allS (Exa.ns p20_1) all0)
    have z148 : n0 ≤ T145.heap.size := Nat.le_trans z23 p145_0.1
    have hp := own_w01 p145_5
    have hle := own_wle hl.1 p145_5
    obtain ⟨cq149, kq149, q149a, q149b, q149c⟩ := isOf hZ rfl p145_1
    obtain ⟨_, _, ⟨T149, L149, k149, n149⟩, -, X149, ⟨Lc149, hQ149, l149, y149, z149⟩, st149⟩ := X145.virtualBack hx (y := (⟨"com/example/verdict/verdict/saml/XmlScanner", "position", "()I"⟩ : MethodName)) (z := (⟨"com/example/verdict/verdict/saml/XmlScanner", "position", "()I"⟩ : MethodName)) hown (mvT hZ (hw _ (List.mem_of_getElem? (i := 24) rfl))) (mvT hZ (hw _ (List.mem_of_getElem? (i := 25) rfl))) (notFace_of_selects (args := #[]) (mvT hZ (hw _ (List.mem_of_getElem? (i := 27) rfl)))) (mvT hZ (hw _ (List.mem_of_getElem? (i := 27) rfl))) (mvT hZ (hw _ (List.mem_of_getElem? (i := 26) rfl))) (by decide) (backOf (W := 0) (rm5 l Z a0 hw [] b18 w2_145 T145.heap n0 z148 p145_2) hZ (hw _ (List.mem_of_getElem? (i := 28) rfl)) (hw _ (List.mem_of_getElem? (i := 3) rfl)) (by decide) (by decide)) q149a q149c (g := (mkF m 153 #[vj q1, .second, vi p2, vi p3, vr b1, vi ln, vi nn, vi i73_0, vi i89_0, vr b18, vi i119_0, .unset, .unset, .unset, .unset, .unset, .unset, .unset] [(.ref b18)])) rfl (by rw [hml]; rfl) (Steps.refl _) (argsL := []) (rest := []) (lenOf pd_7 rfl) rfl (by show 2 * 0 + _ ≤ _; exact Nat.le_of_eq rfl) (hb hby at_153) (fun _ _ => ⟨rfl, rfl, (by decide : 3 + 0 ≤ _), (by decide : 138 + 0 ≤ _)⟩)
    dsimp only [Pt.U, Pt.locs, Pt.cells, Pt.slots] at X149 l149 y149 z149 st149 hQ149
    subst y149 z149
    obtain ⟨rfl, N149q, eq149⟩ := hQ149
    have N149 : Fr n0 L149 := by rw [l149]; exact Fr.app N145 N149q
    have f151 : AV Z T145.heap b1 k1 .byte 5 (fun i => Value.int (fn13 i)) := (f146.keep p145_0 (ninS ne_b1_b18 nin0))
    obtain ⟨_, _, ⟨T150, L150, k150, n150⟩, -, X150, ⟨Lc150, hQ150, l150, y150, z150⟩, st150⟩ := Jvm.LawKit.callS X149 hx (y := (⟨"com/example/verdict/verdict/saml/XmlScannerSkipPinLaw", "pick", "([BIIII)C"⟩ : MethodName)) hown (mvT hZ (hw _ (List.mem_of_getElem? (i := 31) rfl))) (mvT hZ (hw _ (List.mem_of_getElem? (i := 32) rfl))) (mvT hZ (hw _ (List.mem_of_getElem? (i := 33) rfl))) (mvT hZ (hw _ (List.mem_of_getElem? (i := 34) rfl))) (by decide) (backOf (W := 0) (rmpk0 l Z a0 hw [] b1 w2_145 p2 p3 k1 fn13 T145.heap n0 z148 f151 hp) hZ (hw _ (List.mem_of_getElem? (i := 34) rfl)) (hw _ (List.mem_of_getElem? (i := 33) rfl)) (by decide) (by decide)) (g := (mkF m 185 #[vj q1, .second, vi p2, vi p3, vr b1, vi ln, vi nn, vi i73_0, vi i89_0, vr b18, vi w2_145, .unset, .unset, .unset, .unset, .unset, .unset, .unset] [(.int p3), (.int p2), (.int (0 : Int32)), (.int w2_145), (.ref b1)])) rfl (by rw [hml]; rfl) (argsL := [(.ref b1), (.int w2_145), (.int (0 : Int32)), (.int p2), (.int p3)]) (rest := []) (lenOf pd_17 rfl) rfl (by show 2 * 0 + _ ≤ _; exact Nat.le_of_eq rfl) (hb hby at_185) (fun _ _ => ⟨rfl, eq149, (by decide : 3 + 0 ≤ _), (by decide : 138 + 0 ≤ _)⟩)
    dsimp only [Pt.U, Pt.locs, Pt.cells, Pt.slots] at X150 l150 y150 z150 st150 hQ150
    subst y150 z150
    obtain ⟨r150, rfl, hr150, N150q, eq150⟩ := hQ150
    have N150 : Fr n0 L150 := by rw [l150]; exact Fr.app N149 N150q
    obtain ⟨_, _, ⟨T152, L152, k152, n152⟩, -, X152, ⟨Lc152, hQ152, l152, y152, z152⟩, st152⟩ := Jvm.LawKit.callS X150 hx (y := (⟨"com/example/verdict/verdict/saml/XmlScannerSkipPinLaw", "pick", "([BIIII)C"⟩ : MethodName)) hown (mvT hZ (hw _ (List.mem_of_getElem? (i := 31) rfl))) (mvT hZ (hw _ (List.mem_of_getElem? (i := 32) rfl))) (mvT hZ (hw _ (List.mem_of_getElem? (i := 33) rfl))) (mvT hZ (hw _ (List.mem_of_getElem? (i := 34) rfl))) (by decide) (backOf (W := 0) (rmpk1 l Z a0 hw [] b1 w2_145 p2 p3 k1 fn13 T145.heap n0 z148 f151 hp) hZ (hw _ (List.mem_of_getElem? (i := 34) rfl)) (hw _ (List.mem_of_getElem? (i := 33) rfl)) (by decide) (by decide)) (g := (mkF m 197 #[vj q1, .second, vi p2, vi p3, vr b1, vi ln, vi nn, vi i73_0, vi i89_0, vr b18, vi w2_145, vi r150, .unset, .unset, .unset, .unset, .unset, .unset] [(.int p3), (.int p2), (.int (1 : Int32)), (.int w2_145), (.ref b1)])) rfl (by rw [hml]; rfl) (argsL := [(.ref b1), (.int w2_145), (.int (1 : Int32)), (.int p2), (.int p3)]) (rest := []) (lenOf pd_17 rfl) rfl (by show 2 * 0 + _ ≤ _; exact Nat.le_of_eq rfl) (hb hby at_197) (fun _ _ => ⟨rfl, eq150, (by decide : 3 + 0 ≤ _), (by decide : 138 + 0 ≤ _)⟩)
    dsimp only [Pt.U, Pt.locs, Pt.cells, Pt.slots] at X152 l152 y152 z152 st152 hQ152
    subst y152 z152
    obtain ⟨r152, rfl, hr152, N152q, eq152⟩ := hQ152
    have N152 : Fr n0 L152 := by rw [l152]; exact Fr.app N150 N152q
    obtain ⟨_, _, ⟨T153, L153, k153, n153⟩, -, X153, ⟨Lc153, hQ153, l153, y153, z153⟩, st153⟩ := Jvm.LawKit.callS X152 hx (y := (⟨"com/example/verdict/verdict/saml/XmlScannerSkipPinLaw", "pick", "([BIIII)C"⟩ : MethodName)) hown (mvT hZ (hw _ (List.mem_of_getElem? (i := 31) rfl))) (mvT hZ (hw _ (List.mem_of_getElem? (i := 32) rfl))) (mvT hZ (hw _ (List.mem_of_getElem? (i := 33) rfl))) (mvT hZ (hw _ (List.mem_of_getElem? (i := 34) rfl))) (by decide) (backOf (W := 0) (rmpk2 l Z a0 hw [] b1 w2_145 p2 p3 k1 fn13 T145.heap n0 z148 f151 hp) hZ (hw _ (List.mem_of_getElem? (i := 34) rfl)) (hw _ (List.mem_of_getElem? (i := 33) rfl)) (by decide) (by decide)) (g := (mkF m 209 #[vj q1, .second, vi p2, vi p3, vr b1, vi ln, vi nn, vi i73_0, vi i89_0, vr b18, vi w2_145, vi r150, vi r152, .unset, .unset, .unset, .unset, .unset] [(.int p3), (.int p2), (.int (2 : Int32)), (.int w2_145), (.ref b1)])) rfl (by rw [hml]; rfl) (argsL := [(.ref b1), (.int w2_145), (.int (2 : Int32)), (.int p2), (.int p3)]) (rest := []) (lenOf pd_17 rfl) rfl (by show 2 * 0 + _ ≤ _; exact Nat.le_of_eq rfl) (hb hby at_209) (fun _ _ => ⟨rfl, eq152, (by decide : 3 + 0 ≤ _), (by decide : 138 + 0 ≤ _)⟩)
    dsimp only [Pt.U, Pt.locs, Pt.cells, Pt.slots] at X153 l153 y153 z153 st153 hQ153
    subst y153 z153
    obtain ⟨r153, rfl, hr153, N153q, eq153⟩ := hQ153
    have N153 : Fr n0 L153 := by rw [l153]; exact Fr.app N152 N153q
    refine GoalW.lift (B := (T153.setTop (mkF m 214 #[vj q1, .second, vi p2, vi p3, vr b1, vi ln, vi nn, vi i73_0, vi i89_0, vr b18, vi w2_145, vi r150, vi r152, vi r153, .unset, .unset, .unset, .unset] []))) (fun t k => ?_) ?_
    · show Steps p.tables e below (T20.setTop (mkF m 141 #[vj q1, .second, vi p2, vi p3, vr b1, vi ln, vi nn, vi i73_0, vi i89_0, vr b18, .unset, .unset, .unset, .unset, .unset, .unset, .unset, .unset] [(.int i119_0)])) _
      refine XS.istore X20.here hx rfl (hb hby at_141) rfl (l' := #[vj q1, .second, vi p2, vi p3, vr b1, vi ln, vi nn, vi i73_0, vi i89_0, vr b18, vi i119_0, .unset, .unset, .unset, .unset, .unset, .unset, .unset]) rfl ?_
      refine XS.aload X20.here hx rfl (hb hby at_143) rfl rfl ?_
      refine XS.iload X20.here hx rfl (hb hby at_145) rfl ?_
      refine st145.trans ?_
      refine XS.pop X145.here hx rfl (hb hby at_150) rfl rfl ?_
      refine XS.aload X145.here hx rfl (hb hby at_151) rfl rfl ?_
      show Steps p.tables e below (T145.setTop (mkF m 153 #[vj q1, .second, vi p2, vi p3, vr b1, vi ln, vi nn, vi i73_0, vi i89_0, vr b18, vi i119_0, .unset, .unset, .unset, .unset, .unset, .unset, .unset] [(.ref b18)])) _
      refine st149.trans ?_
      refine XS.istore X149.here hx rfl (hb hby at_156) rfl (l' := #[vj q1, .second, vi p2, vi p3, vr b1, vi ln, vi nn, vi i73_0, vi i89_0, vr b18, vi w2_145, .unset, .unset, .unset, .unset, .unset, .unset, .unset]) rfl ?_
      refine XS.iload X149.here hx rfl (hb hby at_158) rfl ?_
      refine XS.ifNo X149.here hx rfl (hb hby at_160) rfl ((if0 _ _).trans (flt (own_wn hp : ¬ (w2_145 < (0 : Int32)))).1) ?_
      refine XS.iload X149.here hx rfl (hb hby at_163) rfl ?_
      refine XS.iconst X149.here hx rfl (hb hby at_165) ?_
      show Steps p.tables e below (T149.setTop (mkF m 166 #[vj q1, .second, vi p2, vi p3, vr b1, vi ln, vi nn, vi i73_0, vi i89_0, vr b18, vi w2_145, .unset, .unset, .unset, .unset, .unset, .unset, .unset] [(.int (1 : Int32)), (.int w2_145)])) _
      refine XS.icmpNo X149.here hx rfl (hb hby at_166) rfl ((flt (own_w1 hp : ¬ ((1 : Int32) < w2_145))).2.2.1) ?_
      refine XS.iload X149.here hx rfl (hb hby at_169) rfl ?_
      refine XS.iload X149.here hx rfl (hb hby at_171) rfl ?_
      refine XS.icmpYes X149.here hx rfl (pc0 := 173) (pc' := 178) rfl (hb hby at_173) rfl ((flt (hle : ¬ (ln < w2_145))).2.2.2) (by decide) (by decide) ?_
      refine XS.aload X149.here hx rfl (hb hby at_178) rfl rfl ?_
      refine XS.iload X149.here hx rfl (hb hby at_180) rfl ?_
      show Steps p.tables e below (T149.setTop (mkF m 182 #[vj q1, .second, vi p2, vi p3, vr b1, vi ln, vi nn, vi i73_0, vi i89_0, vr b18, vi w2_145, .unset, .unset, .unset, .unset, .unset, .unset, .unset] [(.int w2_145), (.ref b1)])) _
      refine XS.iconst X149.here hx rfl (hb hby at_182) ?_
      refine XS.iloadN X149.here hx rfl (hb hby at_183) rfl ?_
      refine XS.iloadN X149.here hx rfl (hb hby at_184) rfl ?_
      refine st150 _ ?_
      refine XS.istore X150.here hx rfl (hb hby at_188) rfl (l' := #[vj q1, .second, vi p2, vi p3, vr b1, vi ln, vi nn, vi i73_0, vi i89_0, vr b18, vi w2_145, vi r150, .unset, .unset, .unset, .unset, .unset, .unset]) rfl ?_
      refine XS.aload X150.here hx rfl (hb hby at_190) rfl rfl ?_
      show Steps p.tables e below (T150.setTop (mkF m 192 #[vj q1, .second, vi p2, vi p3, vr b1, vi ln, vi nn, vi i73_0, vi i89_0, vr b18, vi w2_145, vi r150, .unset, .unset, .unset, .unset, .unset, .unset] [(.ref b1)])) _
      refine XS.iload X150.here hx rfl (hb hby at_192) rfl ?_
      refine XS.iconst X150.here hx rfl (hb hby at_194) ?_
      refine XS.iloadN X150.here hx rfl (hb hby at_195) rfl ?_
      refine XS.iloadN X150.here hx rfl (hb hby at_196) rfl ?_
      refine st152 _ ?_
      refine XS.istore X152.here hx rfl (hb hby at_200) rfl (l' := #[vj q1, .second, vi p2, vi p3, vr b1, vi ln, vi nn, vi i73_0, vi i89_0, vr b18, vi w2_145, vi r150, vi r152, .unset, .unset, .unset, .unset, .unset]) rfl ?_
      show Steps p.tables e below (T152.setTop (mkF m 202 #[vj q1, .second, vi p2, vi p3, vr b1, vi ln, vi nn, vi i73_0, vi i89_0, vr b18, vi w2_145, vi r150, vi r152, .unset, .unset, .unset, .unset, .unset] [])) _
      refine XS.aload X152.here hx rfl (hb hby at_202) rfl rfl ?_
      refine XS.iload X152.here hx rfl (hb hby at_204) rfl ?_
      refine XS.iconst X152.here hx rfl (hb hby at_206) ?_
      refine XS.iloadN X152.here hx rfl (hb hby at_207) rfl ?_
      refine XS.iloadN X152.here hx rfl (hb hby at_208) rfl ?_
      refine st153 _ ?_
      show Steps p.tables e below (T153.setTop (mkF m 212 #[vj q1, .second, vi p2, vi p3, vr b1, vi ln, vi nn, vi i73_0, vi i89_0, vr b18, vi w2_145, vi r150, vi r152, .unset, .unset, .unset, .unset, .unset] [(.int r153)])) _
      refine XS.istore X153.here hx rfl (hb hby at_212) rfl (l' := #[vj q1, .second, vi p2, vi p3, vr b1, vi ln, vi nn, vi i73_0, vi i89_0, vr b18, vi w2_145, vi r150, vi r152, vi r153, .unset, .unset, .unset, .unset]) rfl ?_
      exact k
    rcases own_n4 hnn with hs154 | hs154 | hs154 | hs154
    · refine GoalW.lift (B := (T153.setTop (mkF m 214 #[vj q1, .second, vi p2, vi p3, vr b1, vi ln, vi (0 : Int32), vi i73_0, vi i89_0, vr b18, vi w2_145, vi r150, vi r152, vi r153, .unset, .unset, .unset, .unset] []))) (fun t k => by rw [hs154]; exact k) ?_
      obtain ⟨_, _, ⟨T155, L155, k155, n155⟩, -, X155, hS155, hgr155, ⟨Lc155, hQ155, l155, y155, z155⟩, st155⟩ := callSS X153 hx (y := (⟨"com/example/verdict/verdict/saml/XmlScannerSkipPinLaw", "make", "(ICCC)Ljava/lang/String;"⟩ : MethodName)) hown (mvT hZ (hw _ (List.mem_of_getElem? (i := 35) rfl))) (mvT hZ (hw _ (List.mem_of_getElem? (i := 36) rfl))) (mvT hZ (hw _ (List.mem_of_getElem? (i := 33) rfl))) (mvT hZ (hw _ (List.mem_of_getElem? (i := 37) rfl))) (by decide) (backOfI (W := 0) (rmmk0 l Z a0 hw [] r150 r152 r153 T145.heap n0 z148 (fun b cl q => by rw [← eq153]; exact oldF X153 (show Fr s.heap.size _ by rw [hh, ← hn0]; exact N153) b cl (by rw [hh, ← hZh]; exact q)) hld hcw) hZ (hw _ (List.mem_of_getElem? (i := 37) rfl)) (hw _ (List.mem_of_getElem? (i := 33) rfl)) (by decide) (by decide) hIB) (g := (mkF m 222 #[vj q1, .second, vi p2, vi p3, vr b1, vi ln, vi (0 : Int32), vi i73_0, vi i89_0, vr b18, vi w2_145, vi r150, vi r152, vi r153, .unset, .unset, .unset, .unset] [(.int r153), (.int r152), (.int r150), (.int (0 : Int32))])) rfl (by rw [hml]; rfl) (argsL := [(.int (0 : Int32)), (.int r150), (.int r152), (.int r153)]) (rest := []) (lenOf pd_18 rfl) rfl (by show 2 * 0 + _ ≤ _; exact Nat.le_of_eq rfl) (hb hby at_222) (fun _ _ => ⟨rfl, eq153, (by decide : 3 + 4 ≤ _), (by decide : 138 + 8 ≤ _)⟩)
      dsimp only [Pt.U, Pt.locs, Pt.cells, Pt.slots] at X155 l155 y155 z155 st155 hQ155 hS155 hgr155
      subst y155 z155
      have hZ0 := hZ
      have hown0 := hown
      have hZ : Z.Warmed39 (s.setVm T155.vm).vm := State.Warmed39.trans hZ hS155.1
      have hown : (s.setVm T155.vm).vm.findClass "com/example/verdict/verdict/saml/XmlScannerSkipPinLaw" = some m.cls := (hS155.1.alike.findClass _ _).trans hown
      obtain ⟨x'_155, t'_155, k'_155, rfl, N155q, p155_0, p155_1, p155_2, p155_3, p155_4, p155_5, p155_6⟩ := hQ155
      have N155 : Fr n0 L155 := by rw [l155]; exact Fr.app N153 N155q
      have ns156 : ∀ x ∈ ([] : List Addr), ∀ cell : Cell, T145.heap[x]? = some cell → cell.vm.isStatics = false := all0
      have z157 : n0 ≤ T155.heap.size := Nat.le_trans z148 p155_0.1
      have ne_b1_x'_155 : b1 ≠ x'_155 := Nat.ne_of_lt (Nat.lt_of_lt_of_le f151.lt p155_1)
      have ne_b18_x'_155 : b18 ≠ x'_155 := Nat.ne_of_lt (Nat.lt_of_lt_of_le p145_1.lt p155_1)
      have g_x'_155 : n0 ≤ x'_155 := Nat.le_trans z148 p155_1
      have f159 : Exa Z T155.heap b18 "com/example/verdict/verdict/saml/XmlScanner" := (p145_1.keep p155_0)
      have ne_b18_t'_155 : b18 ≠ t'_155 := own_ne0 f159 p155_6 (hw _ (List.mem_of_getElem? (i := 2) rfl))
      refine GoalW.lift (B := (T155.setTop (mkF m 234 #[vj q1, .second, vi p2, vi p3, vr b1, vi ln, vi (0 : Int32), vi i73_0, vi i89_0, vr b18, vi w2_145, vi r150, vi r152, vi r153, vr x'_155, .unset, .unset, .unset] [(.int (ln - w2_145)), (.int (0 : Int32))]))) (fun t k => ?_) ?_
      · show Steps p.tables e below (T153.setTop (mkF m 214 #[vj q1, .second, vi p2, vi p3, vr b1, vi ln, vi (0 : Int32), vi i73_0, vi i89_0, vr b18, vi w2_145, vi r150, vi r152, vi r153, .unset, .unset, .unset, .unset] [])) _
        refine XS.iload X153.here hx rfl (hb hby at_214) rfl ?_
        refine XS.iload X153.here hx rfl (hb hby at_216) rfl ?_
        refine XS.iload X153.here hx rfl (hb hby at_218) rfl ?_
        refine XS.iload X153.here hx rfl (hb hby at_220) rfl ?_
        refine st155.trans ?_
        refine XS.astore X155.here hx rfl (hb hby at_225) rfl rfl (l' := #[vj q1, .second, vi p2, vi p3, vr b1, vi ln, vi (0 : Int32), vi i73_0, vi i89_0, vr b18, vi w2_145, vi r150, vi r152, vi r153, vr x'_155, .unset, .unset, .unset]) rfl ?_
        show Steps p.tables e below (T155.setTop (mkF m 227 #[vj q1, .second, vi p2, vi p3, vr b1, vi ln, vi (0 : Int32), vi i73_0, vi i89_0, vr b18, vi w2_145, vi r150, vi r152, vi r153, vr x'_155, .unset, .unset, .unset] [])) _
        refine XS.iload X155.here hx rfl (hb hby at_227) rfl ?_
        refine XS.iload X155.here hx rfl (hb hby at_229) rfl ?_
        refine XS.iload X155.here hx rfl (hb hby at_231) rfl ?_
        refine XS.isub X155.here hx rfl (hb hby at_233) rfl ?_
        exact k
      suffices J234_160 : ∀ (i234_0 : Int32), i234_0 = (if (ln - w2_145) < (0 : Int32) then (0 : Int32) else (1 : Int32)) → GoalW p.tables e below s 24 1408 (Q0 Z q1 p2 p3 zcs fm h0 n0) (T155.setTop (mkF m 294 #[vj q1, .second, vi p2, vi p3, vr b1, vi ln, vi (0 : Int32), vi i73_0, vi i89_0, vr b18, vi w2_145, vi r150, vi r152, vi r153, vr x'_155, .unset, .unset, .unset] [(.int i234_0)])) by
        by_cases hc234_161 : (ln - w2_145) < (0 : Int32)
        · refine GoalW.lift (B := (T155.setTop (mkF m 294 #[vj q1, .second, vi p2, vi p3, vr b1, vi ln, vi (0 : Int32), vi i73_0, vi i89_0, vr b18, vi w2_145, vi r150, vi r152, vi r153, vr x'_155, .unset, .unset, .unset] [(.int (0 : Int32))]))) (fun t k => ?_) ?_
          · show Steps p.tables e below (T155.setTop (mkF m 234 #[vj q1, .second, vi p2, vi p3, vr b1, vi ln, vi (0 : Int32), vi i73_0, vi i89_0, vr b18, vi w2_145, vi r150, vi r152, vi r153, vr x'_155, .unset, .unset, .unset] [(.int (ln - w2_145)), (.int (0 : Int32))])) _
            refine XS.icmpYes X155.here hx rfl (pc0 := 234) (pc' := 293) rfl (hb hby at_234) rfl ((tlt hc234_161).2.2.1) (by decide) (by decide) ?_
            refine XS.iconst X155.here hx rfl (hb hby at_293) ?_
            exact k
          exact J234_160 _ (by simp only [if_pos hc234_161])
        · refine GoalW.lift (B := (T155.setTop (mkF m 294 #[vj q1, .second, vi p2, vi p3, vr b1, vi ln, vi (0 : Int32), vi i73_0, vi i89_0, vr b18, vi w2_145, vi r150, vi r152, vi r153, vr x'_155, .unset, .unset, .unset] [(.int (1 : Int32))]))) (fun t k => ?_) ?_
          · show Steps p.tables e below (T155.setTop (mkF m 234 #[vj q1, .second, vi p2, vi p3, vr b1, vi ln, vi (0 : Int32), vi i73_0, vi i89_0, vr b18, vi w2_145, vi r150, vi r152, vi r153, vr x'_155, .unset, .unset, .unset] [(.int (ln - w2_145)), (.int (0 : Int32))])) _
            refine XS.icmpNo X155.here hx rfl (hb hby at_234) rfl ((flt hc234_161).2.2.1) ?_
            refine XS.iload X155.here hx rfl (hb hby at_237) rfl ?_
            refine XS.iconst X155.here hx rfl (hb hby at_239) ?_
            refine XS.icmpYes X155.here hx rfl (pc0 := 240) (pc' := 253) rfl (hb hby at_240) rfl ((tlt (by decide : (0 : Int32) < (1 : Int32))).1) (by decide) (by decide) ?_
            refine XS.iload X155.here hx rfl (hb hby at_253) rfl ?_
            refine XS.iconst X155.here hx rfl (hb hby at_255) ?_
            show Steps p.tables e below (T155.setTop (mkF m 256 #[vj q1, .second, vi p2, vi p3, vr b1, vi ln, vi (0 : Int32), vi i73_0, vi i89_0, vr b18, vi w2_145, vi r150, vi r152, vi r153, vr x'_155, .unset, .unset, .unset] [(.int (2 : Int32)), (.int (0 : Int32))])) _
            refine XS.icmpYes X155.here hx rfl (pc0 := 256) (pc' := 271) rfl (hb hby at_256) rfl ((tlt (by decide : (0 : Int32) < (2 : Int32))).1) (by decide) (by decide) ?_
            refine XS.iload X155.here hx rfl (hb hby at_271) rfl ?_
            refine XS.iconst X155.here hx rfl (hb hby at_273) ?_
            refine XS.icmpYes X155.here hx rfl (pc0 := 274) (pc' := 289) rfl (hb hby at_274) rfl ((tlt (by decide : (0 : Int32) < (3 : Int32))).1) (by decide) (by decide) ?_
            refine XS.iconst X155.here hx rfl (hb hby at_289) ?_
            refine XS.goto X155.here hx rfl (pc0 := 290) (pc' := 294) rfl (hb hby at_290) (by decide) (by decide) ?_
            show Steps p.tables e below (T155.setTop (mkF m 294 #[vj q1, .second, vi p2, vi p3, vr b1, vi ln, vi (0 : Int32), vi i73_0, vi i89_0, vr b18, vi w2_145, vi r150, vi r152, vi r153, vr x'_155, .unset, .unset, .unset] [(.int (1 : Int32))])) _
            exact k
          exact J234_160 _ (by simp only [if_neg hc234_161])
      intro i234_0 h_i234_0
      refine GoalW.lift (B := (T155.setTop (mkF m 298 #[vj q1, .second, vi p2, vi p3, vr b1, vi ln, vi (0 : Int32), vi i73_0, vi i89_0, vr b18, vi w2_145, vi r150, vi r152, vi r153, vr x'_155, vi i234_0, .unset, .unset] [(.int i234_0)]))) (fun t k => ?_) ?_
      · show Steps p.tables e below (T155.setTop (mkF m 294 #[vj q1, .second, vi p2, vi p3, vr b1, vi ln, vi (0 : Int32), vi i73_0, vi i89_0, vr b18, vi w2_145, vi r150, vi r152, vi r153, vr x'_155, .unset, .unset, .unset] [(.int i234_0)])) _
        refine XS.istore X155.here hx rfl (hb hby at_294) rfl (l' := #[vj q1, .second, vi p2, vi p3, vr b1, vi ln, vi (0 : Int32), vi i73_0, vi i89_0, vr b18, vi w2_145, vi r150, vi r152, vi r153, vr x'_155, vi i234_0, .unset, .unset]) rfl ?_
        refine XS.iload X155.here hx rfl (hb hby at_296) rfl ?_
        exact k
      suffices J298_162 : ∀ (i298_0 : Int32), i298_0 = (if i234_0 = (0 : Int32) then w2_145 else (w2_145 + (0 : Int32))) → GoalW p.tables e below s 24 1408 (Q0 Z q1 p2 p3 zcs fm h0 n0) (T155.setTop (mkF m 311 #[vj q1, .second, vi p2, vi p3, vr b1, vi ln, vi (0 : Int32), vi i73_0, vi i89_0, vr b18, vi w2_145, vi r150, vi r152, vi r153, vr x'_155, vi i234_0, .unset, .unset] [(.int i298_0)])) by
        by_cases hc298_163 : i234_0 = (0 : Int32)
        · refine GoalW.lift (B := (T155.setTop (mkF m 311 #[vj q1, .second, vi p2, vi p3, vr b1, vi ln, vi (0 : Int32), vi i73_0, vi i89_0, vr b18, vi w2_145, vi r150, vi r152, vi r153, vr x'_155, vi i234_0, .unset, .unset] [(.int w2_145)]))) (fun t k => ?_) ?_
          · show Steps p.tables e below (T155.setTop (mkF m 298 #[vj q1, .second, vi p2, vi p3, vr b1, vi ln, vi (0 : Int32), vi i73_0, vi i89_0, vr b18, vi w2_145, vi r150, vi r152, vi r153, vr x'_155, vi i234_0, .unset, .unset] [(.int i234_0)])) _
            refine XS.ifYes X155.here hx rfl (pc0 := 298) (pc' := 309) rfl (hb hby at_298) rfl ((if0 _ _).trans (teq hc298_163).1) (by decide) (by decide) ?_
            refine XS.iload X155.here hx rfl (hb hby at_309) rfl ?_
            exact k
          exact J298_162 _ (by simp only [if_pos hc298_163])
        · refine GoalW.lift (B := (T155.setTop (mkF m 311 #[vj q1, .second, vi p2, vi p3, vr b1, vi ln, vi (0 : Int32), vi i73_0, vi i89_0, vr b18, vi w2_145, vi r150, vi r152, vi r153, vr x'_155, vi i234_0, .unset, .unset] [(.int (w2_145 + (0 : Int32)))]))) (fun t k => ?_) ?_
          · show Steps p.tables e below (T155.setTop (mkF m 298 #[vj q1, .second, vi p2, vi p3, vr b1, vi ln, vi (0 : Int32), vi i73_0, vi i89_0, vr b18, vi w2_145, vi r150, vi r152, vi r153, vr x'_155, vi i234_0, .unset, .unset] [(.int i234_0)])) _
            refine XS.ifNo X155.here hx rfl (hb hby at_298) rfl ((if0 _ _).trans (feq hc298_163).1) ?_
            refine XS.iload X155.here hx rfl (hb hby at_301) rfl ?_
            refine XS.iload X155.here hx rfl (hb hby at_303) rfl ?_
            refine XS.iadd X155.here hx rfl (hb hby at_305) rfl ?_
            refine XS.goto X155.here hx rfl (pc0 := 306) (pc' := 311) rfl (hb hby at_306) (by decide) (by decide) ?_
            exact k
          exact J298_162 _ (by simp only [if_neg hc298_163])
      intro i298_0 h_i298_0
      have f165 : Sta Z T155.heap "java/lang/String" "COMPACT_STRINGS" "Z" (.int zcs) := (StaKeep (StaKeep (StaKeep (((((((S_COMPACT_STRINGS.ext E1).wr W3).wr W5).wr W7).wr W9).wr W11).ext E18) p20_0 ns22) p145_0 ns147) p155_0 ns156)
      have f166 : Sta Z T155.heap "jdk/internal/util/Preconditions" "SIOOBE_FORMATTER" "Ljava/util/function/BiFunction;" fm := (StaKeep (StaKeep (StaKeep (((((((S_SIOOBE_FORMATTER.ext E1).wr W3).wr W5).wr W7).wr W9).wr W11).ext E18) p20_0 ns22) p145_0 ns147) p155_0 ns156)
      have f167 : Fld Z T155.heap b18 "com/example/verdict/verdict/saml/XmlScanner" "pos" "I" (.int w2_145) := (p145_2.keep p155_0 nin0)
      have f168 : Fld Z T155.heap b18 "com/example/verdict/verdict/saml/XmlScanner" "end" "I" (.int ln) := (p145_3.keep p155_0 nin0)
      have f169 : Fld Z T155.heap b18 "com/example/verdict/verdict/saml/XmlScanner" "doc" "[B" (.ref b1) := (p145_4.keep p155_0 nin0)
      have f170 : AV Z T155.heap b1 k1 .byte 5 (fun i => Value.int (fn13 i)) := (f151.keep p155_0 nin0)
      obtain ⟨cq164, kq164, q164a, q164b, q164c⟩ := isOf hZ rfl f159
      obtain ⟨_, _, ⟨T164, L164, k164, n164⟩, -, X164, ⟨Lc164, hQ164, l164, y164, z164⟩, st164⟩ := X155.virtualBack hx (y := (⟨"com/example/verdict/verdict/saml/XmlScanner", "skip", "(Ljava/lang/String;)Z"⟩ : MethodName)) (z := (⟨"com/example/verdict/verdict/saml/XmlScanner", "skip", "(Ljava/lang/String;)Z"⟩ : MethodName)) hown (mvT hZ (hw _ (List.mem_of_getElem? (i := 57) rfl))) (mvT hZ (hw _ (List.mem_of_getElem? (i := 58) rfl))) (notFace_of_selects (args := #[]) (mvT hZ (hw _ (List.mem_of_getElem? (i := 60) rfl)))) (mvT hZ (hw _ (List.mem_of_getElem? (i := 60) rfl))) (mvT hZ (hw _ (List.mem_of_getElem? (i := 59) rfl))) (by decide) (backOf (W := 0) (rmsk0 l Z a0 hw [] b18 x'_155 w2_145 zcs fm ln b1 k1 fn13 t'_155 k'_155 (fun _ => (0 : Int32)) T155.heap n0 z157 f165 hCS f166 hfm f159 g_b18 f167 f168 f169 f170 p155_3 p155_4 p155_5 p155_6 ne_b18_x'_155 ne_b18_t'_155 (Ne.symm ne_b1_b18) own_ok0 hp) hZ (hw _ (List.mem_of_getElem? (i := 61) rfl)) (hw _ (List.mem_of_getElem? (i := 3) rfl)) (by decide) (by decide)) q164a q164c (g := (mkF m 317 #[vj q1, .second, vi p2, vi p3, vr b1, vi ln, vi (0 : Int32), vi i73_0, vi i89_0, vr b18, vi w2_145, vi r150, vi r152, vi r153, vr x'_155, vi i234_0, vi i298_0, .unset] [(.ref x'_155), (.ref b18)])) rfl (by rw [hml]; rfl) (Steps.refl _) (argsL := [(.ref x'_155)]) (rest := []) (lenOf pd_9 rfl) rfl (by show 2 * 0 + _ ≤ _; exact Nat.le_of_eq rfl) (hb hby at_317) (fun _ _ => ⟨rfl, rfl, (by decide : 7 + 0 ≤ _), (by decide : 146 + 0 ≤ _)⟩)
      dsimp only [Pt.U, Pt.locs, Pt.cells, Pt.slots] at X164 l164 y164 z164 st164 hQ164
      subst y164 z164
      obtain ⟨w2_164, rfl, N164q, p164_0, p164_1, p164_2, p164_3, p164_4⟩ := hQ164
      have N164 : Fr n0 L164 := by rw [l164]; exact Fr.app N155 N164q
      have ns171 : ∀ x ∈ ([b18] : List Addr), ∀ cell : Cell, T155.heap[x]? = some cell → cell.vm.isStatics = false := (allS (Exa.ns f159) all0)
      have z172 : n0 ≤ T164.heap.size := Nat.le_trans z157 p164_0.1
      have kz173 : T155.heap.size ≤ T164.heap.size := Nat.le_trans (Nat.le_refl T155.heap.size) p164_0.1
      have hsw : (own_sw0 w2_145 ln) = i234_0 := own_e0 h_i234_0
      obtain ⟨cq174, kq174, q174a, q174b, q174c⟩ := isOf hZ rfl p164_1
      obtain ⟨_, _, ⟨T174, L174, k174, n174⟩, -, X174, ⟨Lc174, hQ174, l174, y174, z174⟩, st174⟩ := X164.virtualBack hx (y := (⟨"com/example/verdict/verdict/saml/XmlScanner", "position", "()I"⟩ : MethodName)) (z := (⟨"com/example/verdict/verdict/saml/XmlScanner", "position", "()I"⟩ : MethodName)) hown (mvT hZ (hw _ (List.mem_of_getElem? (i := 24) rfl))) (mvT hZ (hw _ (List.mem_of_getElem? (i := 25) rfl))) (notFace_of_selects (args := #[]) (mvT hZ (hw _ (List.mem_of_getElem? (i := 27) rfl)))) (mvT hZ (hw _ (List.mem_of_getElem? (i := 27) rfl))) (mvT hZ (hw _ (List.mem_of_getElem? (i := 26) rfl))) (by decide) (backOf (W := 0) (rm5 l Z a0 hw [] b18 w2_164 T164.heap n0 z172 p164_2) hZ (hw _ (List.mem_of_getElem? (i := 28) rfl)) (hw _ (List.mem_of_getElem? (i := 3) rfl)) (by decide) (by decide)) q174a q174c (g := (mkF m 331 #[vj q1, .second, vi p2, vi p3, vr b1, vi ln, vi (0 : Int32), vi i73_0, vi i89_0, vr b18, vi w2_145, vi r150, vi r152, vi r153, vr x'_155, vi i234_0, vi i298_0, vi (own_sw0 w2_145 ln)] [(.ref b18)])) rfl (by rw [hml]; rfl) (Steps.refl _) (argsL := []) (rest := []) (lenOf pd_7 rfl) rfl (by show 2 * 0 + _ ≤ _; exact Nat.le_of_eq rfl) (hb hby at_331) (fun _ _ => ⟨rfl, rfl, (by decide : 7 + 0 ≤ _), (by decide : 146 + 0 ≤ _)⟩)
      dsimp only [Pt.U, Pt.locs, Pt.cells, Pt.slots] at X174 l174 y174 z174 st174 hQ174
      subst y174 z174
      obtain ⟨rfl, N174q, eq174⟩ := hQ174
      have N174 : Fr n0 L174 := by rw [l174]; exact Fr.app N164 N174q
      have hps : w2_164 = i298_0 := by rw [p164_4, hsw, h_i298_0]
      obtain ⟨cq175, kq175, q175a, q175b, q175c⟩ := isOf hZ eq174 p164_1
      obtain ⟨_, _, ⟨T175, L175, k175, n175⟩, -, X175, ⟨Lc175, hQ175, l175, y175, z175⟩, st175⟩ := X174.virtualBack hx (y := (⟨"com/example/verdict/verdict/saml/XmlScanner", "atEnd", "()Z"⟩ : MethodName)) (z := (⟨"com/example/verdict/verdict/saml/XmlScanner", "atEnd", "()Z"⟩ : MethodName)) hown (mvT hZ (hw _ (List.mem_of_getElem? (i := 82) rfl))) (mvT hZ (hw _ (List.mem_of_getElem? (i := 83) rfl))) (notFace_of_selects (args := #[]) (mvT hZ (hw _ (List.mem_of_getElem? (i := 85) rfl)))) (mvT hZ (hw _ (List.mem_of_getElem? (i := 85) rfl))) (mvT hZ (hw _ (List.mem_of_getElem? (i := 84) rfl))) (by decide) (backOf (W := 0) (rm15 l Z a0 hw [] b18 w2_164 ln T164.heap n0 z172 p164_2 p164_3) hZ (hw _ (List.mem_of_getElem? (i := 86) rfl)) (hw _ (List.mem_of_getElem? (i := 3) rfl)) (by decide) (by decide)) q175a q175c (g := (mkF m 341 #[vj q1, .second, vi p2, vi p3, vr b1, vi ln, vi (0 : Int32), vi i73_0, vi i89_0, vr b18, vi w2_145, vi r150, vi r152, vi r153, vr x'_155, vi i234_0, vi i298_0, vi (own_sw0 w2_145 ln)] [(.ref b18)])) rfl (by rw [hml]; rfl) (Steps.refl _) (argsL := []) (rest := []) (lenOf pd_5 rfl) rfl (by show 2 * 0 + _ ≤ _; exact Nat.le_of_eq rfl) (hb hby at_341) (fun _ _ => ⟨rfl, eq174, (by decide : 7 + 0 ≤ _), (by decide : 146 + 0 ≤ _)⟩)
      dsimp only [Pt.U, Pt.locs, Pt.cells, Pt.slots] at X175 l175 y175 z175 st175 hQ175
      subst y175 z175
      obtain ⟨r175, rfl, hr175, N175q, eq175⟩ := hQ175
      have N175 : Fr n0 L175 := by rw [l175]; exact Fr.app N174 N175q
      refine GoalW.lift (B := (T175.setTop (mkF m 348 #[vj q1, .second, vi p2, vi p3, vr b1, vi ln, vi (0 : Int32), vi i73_0, vi i89_0, vr b18, vi w2_145, vi r150, vi r152, vi r153, vr x'_155, vi i234_0, vi i298_0, vi (own_sw0 w2_145 ln)] [(.int ln), (.int i298_0), (.int r175)]))) (fun t k => ?_) ?_
      · show Steps p.tables e below (T155.setTop (mkF m 311 #[vj q1, .second, vi p2, vi p3, vr b1, vi ln, vi (0 : Int32), vi i73_0, vi i89_0, vr b18, vi w2_145, vi r150, vi r152, vi r153, vr x'_155, vi i234_0, .unset, .unset] [(.int i298_0)])) _
        refine XS.istore X155.here hx rfl (hb hby at_311) rfl (l' := #[vj q1, .second, vi p2, vi p3, vr b1, vi ln, vi (0 : Int32), vi i73_0, vi i89_0, vr b18, vi w2_145, vi r150, vi r152, vi r153, vr x'_155, vi i234_0, vi i298_0, .unset]) rfl ?_
        refine XS.aload X155.here hx rfl (hb hby at_313) rfl rfl ?_
        refine XS.aload X155.here hx rfl (hb hby at_315) rfl rfl ?_
        refine st164.trans ?_
        refine XS.istore X164.here hx rfl (hb hby at_320) rfl (l' := #[vj q1, .second, vi p2, vi p3, vr b1, vi ln, vi (0 : Int32), vi i73_0, vi i89_0, vr b18, vi w2_145, vi r150, vi r152, vi r153, vr x'_155, vi i234_0, vi i298_0, vi (own_sw0 w2_145 ln)]) rfl ?_
        refine XS.iload X164.here hx rfl (hb hby at_322) rfl ?_
        show Steps p.tables e below (T164.setTop (mkF m 324 #[vj q1, .second, vi p2, vi p3, vr b1, vi ln, vi (0 : Int32), vi i73_0, vi i89_0, vr b18, vi w2_145, vi r150, vi r152, vi r153, vr x'_155, vi i234_0, vi i298_0, vi (own_sw0 w2_145 ln)] [(.int (own_sw0 w2_145 ln))])) _
        refine XS.iload X164.here hx rfl (hb hby at_324) rfl ?_
        refine XS.icmpNo X164.here hx rfl (hb hby at_326) rfl ((teq (hsw : (own_sw0 w2_145 ln) = i234_0)).2) ?_
        refine XS.aload X164.here hx rfl (hb hby at_329) rfl rfl ?_
        refine st174.trans ?_
        refine XS.iload X174.here hx rfl (hb hby at_334) rfl ?_
        refine XS.icmpNo X174.here hx rfl (hb hby at_336) rfl ((teq (hps : w2_164 = i298_0)).2) ?_
        show Steps p.tables e below (T174.setTop (mkF m 339 #[vj q1, .second, vi p2, vi p3, vr b1, vi ln, vi (0 : Int32), vi i73_0, vi i89_0, vr b18, vi w2_145, vi r150, vi r152, vi r153, vr x'_155, vi i234_0, vi i298_0, vi (own_sw0 w2_145 ln)] [])) _
        refine XS.aload X174.here hx rfl (hb hby at_339) rfl rfl ?_
        refine st175.trans ?_
        refine XS.iload X175.here hx rfl (hb hby at_344) rfl ?_
        refine XS.iload X175.here hx rfl (hb hby at_346) rfl ?_
        exact k
      suffices J348_176 : ∀ (i348_0 : Int32), i348_0 = (if i298_0 = ln then (1 : Int32) else (0 : Int32)) → GoalW p.tables e below s 24 1408 (Q0 Z q1 p2 p3 zcs fm h0 n0) (T175.setTop (mkF m 356 #[vj q1, .second, vi p2, vi p3, vr b1, vi ln, vi (0 : Int32), vi i73_0, vi i89_0, vr b18, vi w2_145, vi r150, vi r152, vi r153, vr x'_155, vi i234_0, vi i298_0, vi (own_sw0 w2_145 ln)] [(.int i348_0), (.int r175)])) by
        by_cases hc348_177 : i298_0 = ln
        · refine GoalW.lift (B := (T175.setTop (mkF m 356 #[vj q1, .second, vi p2, vi p3, vr b1, vi ln, vi (0 : Int32), vi i73_0, vi i89_0, vr b18, vi w2_145, vi r150, vi r152, vi r153, vr x'_155, vi i234_0, vi i298_0, vi (own_sw0 w2_145 ln)] [(.int (1 : Int32)), (.int r175)]))) (fun t k => ?_) ?_
          · show Steps p.tables e below (T175.setTop (mkF m 348 #[vj q1, .second, vi p2, vi p3, vr b1, vi ln, vi (0 : Int32), vi i73_0, vi i89_0, vr b18, vi w2_145, vi r150, vi r152, vi r153, vr x'_155, vi i234_0, vi i298_0, vi (own_sw0 w2_145 ln)] [(.int ln), (.int i298_0), (.int r175)])) _
            refine XS.icmpNo X175.here hx rfl (hb hby at_348) rfl ((teq hc348_177).2) ?_
            refine XS.iconst X175.here hx rfl (hb hby at_351) ?_
            refine XS.goto X175.here hx rfl (pc0 := 352) (pc' := 356) rfl (hb hby at_352) (by decide) (by decide) ?_
            exact k
          exact J348_176 _ (by simp only [if_pos hc348_177])
        · refine GoalW.lift (B := (T175.setTop (mkF m 356 #[vj q1, .second, vi p2, vi p3, vr b1, vi ln, vi (0 : Int32), vi i73_0, vi i89_0, vr b18, vi w2_145, vi r150, vi r152, vi r153, vr x'_155, vi i234_0, vi i298_0, vi (own_sw0 w2_145 ln)] [(.int (0 : Int32)), (.int r175)]))) (fun t k => ?_) ?_
          · show Steps p.tables e below (T175.setTop (mkF m 348 #[vj q1, .second, vi p2, vi p3, vr b1, vi ln, vi (0 : Int32), vi i73_0, vi i89_0, vr b18, vi w2_145, vi r150, vi r152, vi r153, vr x'_155, vi i234_0, vi i298_0, vi (own_sw0 w2_145 ln)] [(.int ln), (.int i298_0), (.int r175)])) _
            refine XS.icmpYes X175.here hx rfl (pc0 := 348) (pc' := 355) rfl (hb hby at_348) rfl ((feq hc348_177).2) (by decide) (by decide) ?_
            refine XS.iconst X175.here hx rfl (hb hby at_355) ?_
            exact k
          exact J348_176 _ (by simp only [if_neg hc348_177])
      intro i348_0 h_i348_0
      obtain ⟨fs, hr, hrun, hended, hRW⟩ := X175.leaveW hS155 (by rw [eq175]; exact kz173) (v := some (.int (1 : Int32))) (fun h => by rw [Bd.returns] at h; cases h)
      refine ⟨_, _, ?_, hrun, hended, _, _, rfl, ?_, own_monoW hRW (by decide) (by decide)⟩
      · show Steps p.tables e below (T175.setTop (mkF m 356 #[vj q1, .second, vi p2, vi p3, vr b1, vi ln, vi (0 : Int32), vi i73_0, vi i89_0, vr b18, vi w2_145, vi r150, vi r152, vi r153, vr x'_155, vi i234_0, vi i298_0, vi (own_sw0 w2_145 ln)] [(.int i348_0), (.int r175)])) _
        refine XS.icmpNo X175.here hx rfl (hb hby at_356) rfl ((teq (by rw [hr175, h_i348_0, hps] : r175 = i348_0)).2) ?_
        refine XS.iconst X175.here hx rfl (hb hby at_359) ?_
        refine XS.goto X175.here hx rfl (pc0 := 360) (pc' := 364) rfl (hb hby at_360) (by decide) (by decide) ?_
        exact retN X175 hx (t := .boolean) Bd.returns (by simp) (hb hby at_364) hr
      · exact ⟨rfl, N175⟩
    · refine GoalW.lift (B := (T153.setTop (mkF m 214 #[vj q1, .second, vi p2, vi p3, vr b1, vi ln, vi (1 : Int32), vi i73_0, vi i89_0, vr b18, vi w2_145, vi r150, vi r152, vi r153, .unset, .unset, .unset, .unset] []))) (fun t k => by rw [hs154]; exact k) ?_
      have f179 : Sta Z T145.heap "java/lang/String" "COMPACT_STRINGS" "Z" (.int zcs) := (StaKeep (StaKeep (((((((S_COMPACT_STRINGS.ext E1).wr W3).wr W5).wr W7).wr W9).wr W11).ext E18) p20_0 ns22) p145_0 ns147)
      obtain ⟨_, _, ⟨T178, L178, k178, n178⟩, -, X178, ⟨Lc178, hQ178, l178, y178, z178⟩, st178⟩ := Jvm.LawKit.callS X153 hx (y := (⟨"com/example/verdict/verdict/saml/XmlScannerSkipPinLaw", "make", "(ICCC)Ljava/lang/String;"⟩ : MethodName)) hown (mvT hZ (hw _ (List.mem_of_getElem? (i := 35) rfl))) (mvT hZ (hw _ (List.mem_of_getElem? (i := 36) rfl))) (mvT hZ (hw _ (List.mem_of_getElem? (i := 33) rfl))) (mvT hZ (hw _ (List.mem_of_getElem? (i := 37) rfl))) (by decide) (backOf (W := 0) (rmmk1 l Z a0 hw [] r150 r152 r153 zcs T145.heap n0 z148 f179 hCS hr150 hr152 hr153) hZ (hw _ (List.mem_of_getElem? (i := 37) rfl)) (hw _ (List.mem_of_getElem? (i := 33) rfl)) (by decide) (by decide)) (g := (mkF m 222 #[vj q1, .second, vi p2, vi p3, vr b1, vi ln, vi (1 : Int32), vi i73_0, vi i89_0, vr b18, vi w2_145, vi r150, vi r152, vi r153, .unset, .unset, .unset, .unset] [(.int r153), (.int r152), (.int r150), (.int (1 : Int32))])) rfl (by rw [hml]; rfl) (argsL := [(.int (1 : Int32)), (.int r150), (.int r152), (.int r153)]) (rest := []) (lenOf pd_18 rfl) rfl (by show 2 * 0 + _ ≤ _; exact Nat.le_of_eq rfl) (hb hby at_222) (fun _ _ => ⟨rfl, eq153, (by decide : 3 + 3 ≤ _), (by decide : 138 + 6 ≤ _)⟩)
      dsimp only [Pt.U, Pt.locs, Pt.cells, Pt.slots] at X178 l178 y178 z178 st178 hQ178
      subst y178 z178
      obtain ⟨x'_178, t'_178, k'_178, rfl, N178q, p178_0, p178_1, p178_2, p178_3, p178_4, p178_5, p178_6, p178_7⟩ := hQ178
      have N178 : Fr n0 L178 := by rw [l178]; exact Fr.app N153 N178q
      have ns180 : ∀ x ∈ ([] : List Addr), ∀ cell : Cell, T145.heap[x]? = some cell → cell.vm.isStatics = false := all0
      have z181 : n0 ≤ T178.heap.size := Nat.le_trans z148 p178_0.1
      have ne_b1_x'_178 : b1 ≠ x'_178 := Nat.ne_of_lt (Nat.lt_of_lt_of_le f151.lt p178_1)
      have ne_b18_x'_178 : b18 ≠ x'_178 := Nat.ne_of_lt (Nat.lt_of_lt_of_le p145_1.lt p178_1)
      have g_x'_178 : n0 ≤ x'_178 := Nat.le_trans z148 p178_1
      have ne_b1_t'_178 : b1 ≠ t'_178 := Nat.ne_of_lt (Nat.lt_of_lt_of_le f151.lt p178_2)
      have ne_b18_t'_178 : b18 ≠ t'_178 := Nat.ne_of_lt (Nat.lt_of_lt_of_le p145_1.lt p178_2)
      have g_t'_178 : n0 ≤ t'_178 := Nat.le_trans z148 p178_2
      refine GoalW.lift (B := (T178.setTop (mkF m 234 #[vj q1, .second, vi p2, vi p3, vr b1, vi ln, vi (1 : Int32), vi i73_0, vi i89_0, vr b18, vi w2_145, vi r150, vi r152, vi r153, vr x'_178, .unset, .unset, .unset] [(.int (ln - w2_145)), (.int (1 : Int32))]))) (fun t k => ?_) ?_
      · show Steps p.tables e below (T153.setTop (mkF m 214 #[vj q1, .second, vi p2, vi p3, vr b1, vi ln, vi (1 : Int32), vi i73_0, vi i89_0, vr b18, vi w2_145, vi r150, vi r152, vi r153, .unset, .unset, .unset, .unset] [])) _
        refine XS.iload X153.here hx rfl (hb hby at_214) rfl ?_
        refine XS.iload X153.here hx rfl (hb hby at_216) rfl ?_
        refine XS.iload X153.here hx rfl (hb hby at_218) rfl ?_
        refine XS.iload X153.here hx rfl (hb hby at_220) rfl ?_
        refine st178 _ ?_
        refine XS.astore X178.here hx rfl (hb hby at_225) rfl rfl (l' := #[vj q1, .second, vi p2, vi p3, vr b1, vi ln, vi (1 : Int32), vi i73_0, vi i89_0, vr b18, vi w2_145, vi r150, vi r152, vi r153, vr x'_178, .unset, .unset, .unset]) rfl ?_
        show Steps p.tables e below (T178.setTop (mkF m 227 #[vj q1, .second, vi p2, vi p3, vr b1, vi ln, vi (1 : Int32), vi i73_0, vi i89_0, vr b18, vi w2_145, vi r150, vi r152, vi r153, vr x'_178, .unset, .unset, .unset] [])) _
        refine XS.iload X178.here hx rfl (hb hby at_227) rfl ?_
        refine XS.iload X178.here hx rfl (hb hby at_229) rfl ?_
        refine XS.iload X178.here hx rfl (hb hby at_231) rfl ?_
        refine XS.isub X178.here hx rfl (hb hby at_233) rfl ?_
        exact k
      suffices J234_184 : ∀ (i234_0 : Int32), i234_0 = (if (ln - w2_145) < (1 : Int32) then (0 : Int32) else (if (fn13 (w2_145).toNatClampNeg) = r150 then (1 : Int32) else (0 : Int32))) → GoalW p.tables e below s 24 1408 (Q0 Z q1 p2 p3 zcs fm h0 n0) (T178.setTop (mkF m 294 #[vj q1, .second, vi p2, vi p3, vr b1, vi ln, vi (1 : Int32), vi i73_0, vi i89_0, vr b18, vi w2_145, vi r150, vi r152, vi r153, vr x'_178, .unset, .unset, .unset] [(.int i234_0)])) by
        by_cases hc234_185 : (ln - w2_145) < (1 : Int32)
        · refine GoalW.lift (B := (T178.setTop (mkF m 294 #[vj q1, .second, vi p2, vi p3, vr b1, vi ln, vi (1 : Int32), vi i73_0, vi i89_0, vr b18, vi w2_145, vi r150, vi r152, vi r153, vr x'_178, .unset, .unset, .unset] [(.int (0 : Int32))]))) (fun t k => ?_) ?_
          · show Steps p.tables e below (T178.setTop (mkF m 234 #[vj q1, .second, vi p2, vi p3, vr b1, vi ln, vi (1 : Int32), vi i73_0, vi i89_0, vr b18, vi w2_145, vi r150, vi r152, vi r153, vr x'_178, .unset, .unset, .unset] [(.int (ln - w2_145)), (.int (1 : Int32))])) _
            refine XS.icmpYes X178.here hx rfl (pc0 := 234) (pc' := 293) rfl (hb hby at_234) rfl ((tlt hc234_185).2.2.1) (by decide) (by decide) ?_
            refine XS.iconst X178.here hx rfl (hb hby at_293) ?_
            exact k
          exact J234_184 _ (by simp only [if_pos hc234_185])
        · have f187 : AV Z T178.heap b1 k1 .byte 5 (fun i => Value.int (fn13 i)) := (f151.keep p178_0 nin0)
          obtain ⟨cl186, Ar186, kc186, sz186, -, hv186⟩ := id f187
          have hin186 : ¬ (w2_145 < 0 ∨ cl186.slots.size ≤ (w2_145).toNatClampNeg) := AV.inb sz186 (own_p50 hp)
          have hat186 : cl186.slots[(w2_145).toNatClampNeg]? = some (.int (fn13 (w2_145).toNatClampNeg)) := (hv186 _ (AV.inx (own_p50 hp))).trans (congrArg some rfl)
          refine GoalW.lift (B := (T178.setTop (mkF m 250 #[vj q1, .second, vi p2, vi p3, vr b1, vi ln, vi (1 : Int32), vi i73_0, vi i89_0, vr b18, vi w2_145, vi r150, vi r152, vi r153, vr x'_178, .unset, .unset, .unset] [(.int r150), (.int (fn13 (w2_145).toNatClampNeg))]))) (fun t k => ?_) ?_
          · show Steps p.tables e below (T178.setTop (mkF m 234 #[vj q1, .second, vi p2, vi p3, vr b1, vi ln, vi (1 : Int32), vi i73_0, vi i89_0, vr b18, vi w2_145, vi r150, vi r152, vi r153, vr x'_178, .unset, .unset, .unset] [(.int (ln - w2_145)), (.int (1 : Int32))])) _
            refine XS.icmpNo X178.here hx rfl (hb hby at_234) rfl ((flt hc234_185).2.2.1) ?_
            refine XS.iload X178.here hx rfl (hb hby at_237) rfl ?_
            refine XS.iconst X178.here hx rfl (hb hby at_239) ?_
            refine XS.icmpNo X178.here hx rfl (hb hby at_240) rfl ((flt (by decide : ¬ ((1 : Int32) < (1 : Int32)))).1) ?_
            refine XS.aload X178.here hx rfl (hb hby at_243) rfl rfl ?_
            refine XS.iload X178.here hx rfl (hb hby at_245) rfl ?_
            show Steps p.tables e below (T178.setTop (mkF m 247 #[vj q1, .second, vi p2, vi p3, vr b1, vi ln, vi (1 : Int32), vi i73_0, vi i89_0, vr b18, vi w2_145, vi r150, vi r152, vi r153, vr x'_178, .unset, .unset, .unset] [(.int w2_145), (.ref b1)])) _
            refine X178.baloadBytes hx (j := w2_145) (v := (.int (fn13 (w2_145).toNatClampNeg))) Ar186.1 (State.isArrayOf_alike hZ.alike Ar186.2.1) Ar186.2.2 hin186 hat186 (g := (mkF m 247 #[vj q1, .second, vi p2, vi p3, vr b1, vi ln, vi (1 : Int32), vi i73_0, vi i89_0, vr b18, vi w2_145, vi r150, vi r152, vi r153, vr x'_178, .unset, .unset, .unset] [(.int w2_145), (.ref b1)])) rfl rfl (hb hby at_247) _ ?_
            refine XS.iload X178.here hx rfl (hb hby at_248) rfl ?_
            exact k
          by_cases hc250_188 : (fn13 (w2_145).toNatClampNeg) = r150
          · refine GoalW.lift (B := (T178.setTop (mkF m 294 #[vj q1, .second, vi p2, vi p3, vr b1, vi ln, vi (1 : Int32), vi i73_0, vi i89_0, vr b18, vi w2_145, vi r150, vi r152, vi r153, vr x'_178, .unset, .unset, .unset] [(.int (1 : Int32))]))) (fun t k => ?_) ?_
            · show Steps p.tables e below (T178.setTop (mkF m 250 #[vj q1, .second, vi p2, vi p3, vr b1, vi ln, vi (1 : Int32), vi i73_0, vi i89_0, vr b18, vi w2_145, vi r150, vi r152, vi r153, vr x'_178, .unset, .unset, .unset] [(.int r150), (.int (fn13 (w2_145).toNatClampNeg))])) _
              refine XS.icmpNo X178.here hx rfl (hb hby at_250) rfl ((teq hc250_188).2) ?_
              refine XS.iload X178.here hx rfl (hb hby at_253) rfl ?_
              refine XS.iconst X178.here hx rfl (hb hby at_255) ?_
              refine XS.icmpYes X178.here hx rfl (pc0 := 256) (pc' := 271) rfl (hb hby at_256) rfl ((tlt (by decide : (1 : Int32) < (2 : Int32))).1) (by decide) (by decide) ?_
              refine XS.iload X178.here hx rfl (hb hby at_271) rfl ?_
              refine XS.iconst X178.here hx rfl (hb hby at_273) ?_
              show Steps p.tables e below (T178.setTop (mkF m 274 #[vj q1, .second, vi p2, vi p3, vr b1, vi ln, vi (1 : Int32), vi i73_0, vi i89_0, vr b18, vi w2_145, vi r150, vi r152, vi r153, vr x'_178, .unset, .unset, .unset] [(.int (3 : Int32)), (.int (1 : Int32))])) _
              refine XS.icmpYes X178.here hx rfl (pc0 := 274) (pc' := 289) rfl (hb hby at_274) rfl ((tlt (by decide : (1 : Int32) < (3 : Int32))).1) (by decide) (by decide) ?_
              refine XS.iconst X178.here hx rfl (hb hby at_289) ?_
              refine XS.goto X178.here hx rfl (pc0 := 290) (pc' := 294) rfl (hb hby at_290) (by decide) (by decide) ?_
              exact k
            exact J234_184 _ (by simp only [if_neg hc234_185, if_pos hc250_188])
          · refine GoalW.lift (B := (T178.setTop (mkF m 294 #[vj q1, .second, vi p2, vi p3, vr b1, vi ln, vi (1 : Int32), vi i73_0, vi i89_0, vr b18, vi w2_145, vi r150, vi r152, vi r153, vr x'_178, .unset, .unset, .unset] [(.int (0 : Int32))]))) (fun t k => ?_) ?_
            · show Steps p.tables e below (T178.setTop (mkF m 250 #[vj q1, .second, vi p2, vi p3, vr b1, vi ln, vi (1 : Int32), vi i73_0, vi i89_0, vr b18, vi w2_145, vi r150, vi r152, vi r153, vr x'_178, .unset, .unset, .unset] [(.int r150), (.int (fn13 (w2_145).toNatClampNeg))])) _
              refine XS.icmpYes X178.here hx rfl (pc0 := 250) (pc' := 293) rfl (hb hby at_250) rfl ((feq hc250_188).2) (by decide) (by decide) ?_
              refine XS.iconst X178.here hx rfl (hb hby at_293) ?_
              exact k
            exact J234_184 _ (by simp only [if_neg hc234_185, if_neg hc250_188])
      intro i234_0 h_i234_0
      refine GoalW.lift (B := (T178.setTop (mkF m 298 #[vj q1, .second, vi p2, vi p3, vr b1, vi ln, vi (1 : Int32), vi i73_0, vi i89_0, vr b18, vi w2_145, vi r150, vi r152, vi r153, vr x'_178, vi i234_0, .unset, .unset] [(.int i234_0)]))) (fun t k => ?_) ?_
      · show Steps p.tables e below (T178.setTop (mkF m 294 #[vj q1, .second, vi p2, vi p3, vr b1, vi ln, vi (1 : Int32), vi i73_0, vi i89_0, vr b18, vi w2_145, vi r150, vi r152, vi r153, vr x'_178, .unset, .unset, .unset] [(.int i234_0)])) _
        refine XS.istore X178.here hx rfl (hb hby at_294) rfl (l' := #[vj q1, .second, vi p2, vi p3, vr b1, vi ln, vi (1 : Int32), vi i73_0, vi i89_0, vr b18, vi w2_145, vi r150, vi r152, vi r153, vr x'_178, vi i234_0, .unset, .unset]) rfl ?_
        refine XS.iload X178.here hx rfl (hb hby at_296) rfl ?_
        exact k
      suffices J298_189 : ∀ (i298_0 : Int32), i298_0 = (if i234_0 = (0 : Int32) then w2_145 else (w2_145 + (1 : Int32))) → GoalW p.tables e below s 24 1408 (Q0 Z q1 p2 p3 zcs fm h0 n0) (T178.setTop (mkF m 311 #[vj q1, .second, vi p2, vi p3, vr b1, vi ln, vi (1 : Int32), vi i73_0, vi i89_0, vr b18, vi w2_145, vi r150, vi r152, vi r153, vr x'_178, vi i234_0, .unset, .unset] [(.int i298_0)])) by
        by_cases hc298_190 : i234_0 = (0 : Int32)
        · refine GoalW.lift (B := (T178.setTop (mkF m 311 #[vj q1, .second, vi p2, vi p3, vr b1, vi ln, vi (1 : Int32), vi i73_0, vi i89_0, vr b18, vi w2_145, vi r150, vi r152, vi r153, vr x'_178, vi i234_0, .unset, .unset] [(.int w2_145)]))) (fun t k => ?_) ?_
          · show Steps p.tables e below (T178.setTop (mkF m 298 #[vj q1, .second, vi p2, vi p3, vr b1, vi ln, vi (1 : Int32), vi i73_0, vi i89_0, vr b18, vi w2_145, vi r150, vi r152, vi r153, vr x'_178, vi i234_0, .unset, .unset] [(.int i234_0)])) _
            refine XS.ifYes X178.here hx rfl (pc0 := 298) (pc' := 309) rfl (hb hby at_298) rfl ((if0 _ _).trans (teq hc298_190).1) (by decide) (by decide) ?_
            refine XS.iload X178.here hx rfl (hb hby at_309) rfl ?_
            exact k
          exact J298_189 _ (by simp only [if_pos hc298_190])
        · refine GoalW.lift (B := (T178.setTop (mkF m 311 #[vj q1, .second, vi p2, vi p3, vr b1, vi ln, vi (1 : Int32), vi i73_0, vi i89_0, vr b18, vi w2_145, vi r150, vi r152, vi r153, vr x'_178, vi i234_0, .unset, .unset] [(.int (w2_145 + (1 : Int32)))]))) (fun t k => ?_) ?_
          · show Steps p.tables e below (T178.setTop (mkF m 298 #[vj q1, .second, vi p2, vi p3, vr b1, vi ln, vi (1 : Int32), vi i73_0, vi i89_0, vr b18, vi w2_145, vi r150, vi r152, vi r153, vr x'_178, vi i234_0, .unset, .unset] [(.int i234_0)])) _
            refine XS.ifNo X178.here hx rfl (hb hby at_298) rfl ((if0 _ _).trans (feq hc298_190).1) ?_
            refine XS.iload X178.here hx rfl (hb hby at_301) rfl ?_
            refine XS.iload X178.here hx rfl (hb hby at_303) rfl ?_
            refine XS.iadd X178.here hx rfl (hb hby at_305) rfl ?_
            refine XS.goto X178.here hx rfl (pc0 := 306) (pc' := 311) rfl (hb hby at_306) (by decide) (by decide) ?_
            exact k
          exact J298_189 _ (by simp only [if_neg hc298_190])
      intro i298_0 h_i298_0
      have f192 : Sta Z T178.heap "java/lang/String" "COMPACT_STRINGS" "Z" (.int zcs) := (StaKeep f179 p178_0 ns180)
      have f193 : Sta Z T178.heap "jdk/internal/util/Preconditions" "SIOOBE_FORMATTER" "Ljava/util/function/BiFunction;" fm := (StaKeep (StaKeep (StaKeep (((((((S_SIOOBE_FORMATTER.ext E1).wr W3).wr W5).wr W7).wr W9).wr W11).ext E18) p20_0 ns22) p145_0 ns147) p178_0 ns180)
      have f194 : Exa Z T178.heap b18 "com/example/verdict/verdict/saml/XmlScanner" := (p145_1.keep p178_0)
      have f195 : Fld Z T178.heap b18 "com/example/verdict/verdict/saml/XmlScanner" "pos" "I" (.int w2_145) := (p145_2.keep p178_0 nin0)
      have f196 : Fld Z T178.heap b18 "com/example/verdict/verdict/saml/XmlScanner" "end" "I" (.int ln) := (p145_3.keep p178_0 nin0)
      have f197 : Fld Z T178.heap b18 "com/example/verdict/verdict/saml/XmlScanner" "doc" "[B" (.ref b1) := (p145_4.keep p178_0 nin0)
      have f198 : AV Z T178.heap b1 k1 .byte 5 (fun i => Value.int (fn13 i)) := (f151.keep p178_0 nin0)
      obtain ⟨cq191, kq191, q191a, q191b, q191c⟩ := isOf hZ rfl f194
      obtain ⟨_, _, ⟨T191, L191, k191, n191⟩, -, X191, ⟨Lc191, hQ191, l191, y191, z191⟩, st191⟩ := X178.virtualBack hx (y := (⟨"com/example/verdict/verdict/saml/XmlScanner", "skip", "(Ljava/lang/String;)Z"⟩ : MethodName)) (z := (⟨"com/example/verdict/verdict/saml/XmlScanner", "skip", "(Ljava/lang/String;)Z"⟩ : MethodName)) hown (mvT hZ (hw _ (List.mem_of_getElem? (i := 57) rfl))) (mvT hZ (hw _ (List.mem_of_getElem? (i := 58) rfl))) (notFace_of_selects (args := #[]) (mvT hZ (hw _ (List.mem_of_getElem? (i := 60) rfl)))) (mvT hZ (hw _ (List.mem_of_getElem? (i := 60) rfl))) (mvT hZ (hw _ (List.mem_of_getElem? (i := 59) rfl))) (by decide) (backOf (W := 0) (rmsk1 l Z a0 hw [] b18 x'_178 w2_145 zcs fm ln b1 k1 fn13 t'_178 k'_178 (own_s3 r150 r152 r153) T178.heap n0 z181 f192 hCS f193 hfm f194 g_b18 f195 f196 f197 f198 p178_4 p178_5 p178_6 p178_7 ne_b18_x'_178 ne_b18_t'_178 (Ne.symm ne_b1_b18) (own_s3ok hr150 hr152 hr153) hp) hZ (hw _ (List.mem_of_getElem? (i := 61) rfl)) (hw _ (List.mem_of_getElem? (i := 3) rfl)) (by decide) (by decide)) q191a q191c (g := (mkF m 317 #[vj q1, .second, vi p2, vi p3, vr b1, vi ln, vi (1 : Int32), vi i73_0, vi i89_0, vr b18, vi w2_145, vi r150, vi r152, vi r153, vr x'_178, vi i234_0, vi i298_0, .unset] [(.ref x'_178), (.ref b18)])) rfl (by rw [hml]; rfl) (Steps.refl _) (argsL := [(.ref x'_178)]) (rest := []) (lenOf pd_9 rfl) rfl (by show 2 * 0 + _ ≤ _; exact Nat.le_of_eq rfl) (hb hby at_317) (fun _ _ => ⟨rfl, rfl, (by decide : 6 + 0 ≤ _), (by decide : 144 + 0 ≤ _)⟩)
      dsimp only [Pt.U, Pt.locs, Pt.cells, Pt.slots] at X191 l191 y191 z191 st191 hQ191
      subst y191 z191
      obtain ⟨w2_191, rfl, N191q, p191_0, p191_1, p191_2, p191_3, p191_4⟩ := hQ191
      have N191 : Fr n0 L191 := by rw [l191]; exact Fr.app N178 N191q
      have ns199 : ∀ x ∈ ([b18] : List Addr), ∀ cell : Cell, T178.heap[x]? = some cell → cell.vm.isStatics = false := (allS (Exa.ns f194) all0)
      have z200 : n0 ≤ T191.heap.size := Nat.le_trans z181 p191_0.1
      have hsw : (own_sw1 w2_145 ln fn13 (own_s3 r150 r152 r153)) = i234_0 := own_e1 h_i234_0
      obtain ⟨cq201, kq201, q201a, q201b, q201c⟩ := isOf hZ rfl p191_1
      obtain ⟨_, _, ⟨T201, L201, k201, n201⟩, -, X201, ⟨Lc201, hQ201, l201, y201, z201⟩, st201⟩ := X191.virtualBack hx (y := (⟨"com/example/verdict/verdict/saml/XmlScanner", "position", "()I"⟩ : MethodName)) (z := (⟨"com/example/verdict/verdict/saml/XmlScanner", "position", "()I"⟩ : MethodName)) hown (mvT hZ (hw _ (List.mem_of_getElem? (i := 24) rfl))) (mvT hZ (hw _ (List.mem_of_getElem? (i := 25) rfl))) (notFace_of_selects (args := #[]) (mvT hZ (hw _ (List.mem_of_getElem? (i := 27) rfl)))) (mvT hZ (hw _ (List.mem_of_getElem? (i := 27) rfl))) (mvT hZ (hw _ (List.mem_of_getElem? (i := 26) rfl))) (by decide) (backOf (W := 0) (rm5 l Z a0 hw [] b18 w2_191 T191.heap n0 z200 p191_2) hZ (hw _ (List.mem_of_getElem? (i := 28) rfl)) (hw _ (List.mem_of_getElem? (i := 3) rfl)) (by decide) (by decide)) q201a q201c (g := (mkF m 331 #[vj q1, .second, vi p2, vi p3, vr b1, vi ln, vi (1 : Int32), vi i73_0, vi i89_0, vr b18, vi w2_145, vi r150, vi r152, vi r153, vr x'_178, vi i234_0, vi i298_0, vi (own_sw1 w2_145 ln fn13 (own_s3 r150 r152 r153))] [(.ref b18)])) rfl (by rw [hml]; rfl) (Steps.refl _) (argsL := []) (rest := []) (lenOf pd_7 rfl) rfl (by show 2 * 0 + _ ≤ _; exact Nat.le_of_eq rfl) (hb hby at_331) (fun _ _ => ⟨rfl, rfl, (by decide : 6 + 0 ≤ _), (by decide : 144 + 0 ≤ _)⟩)
      dsimp only [Pt.U, Pt.locs, Pt.cells, Pt.slots] at X201 l201 y201 z201 st201 hQ201
      subst y201 z201
      obtain ⟨rfl, N201q, eq201⟩ := hQ201
      have N201 : Fr n0 L201 := by rw [l201]; exact Fr.app N191 N201q
      have hps : w2_191 = i298_0 := by rw [p191_4, hsw, h_i298_0]
      obtain ⟨cq202, kq202, q202a, q202b, q202c⟩ := isOf hZ eq201 p191_1
      obtain ⟨_, _, ⟨T202, L202, k202, n202⟩, -, X202, ⟨Lc202, hQ202, l202, y202, z202⟩, st202⟩ := X201.virtualBack hx (y := (⟨"com/example/verdict/verdict/saml/XmlScanner", "atEnd", "()Z"⟩ : MethodName)) (z := (⟨"com/example/verdict/verdict/saml/XmlScanner", "atEnd", "()Z"⟩ : MethodName)) hown (mvT hZ (hw _ (List.mem_of_getElem? (i := 82) rfl))) (mvT hZ (hw _ (List.mem_of_getElem? (i := 83) rfl))) (notFace_of_selects (args := #[]) (mvT hZ (hw _ (List.mem_of_getElem? (i := 85) rfl)))) (mvT hZ (hw _ (List.mem_of_getElem? (i := 85) rfl))) (mvT hZ (hw _ (List.mem_of_getElem? (i := 84) rfl))) (by decide) (backOf (W := 0) (rm15 l Z a0 hw [] b18 w2_191 ln T191.heap n0 z200 p191_2 p191_3) hZ (hw _ (List.mem_of_getElem? (i := 86) rfl)) (hw _ (List.mem_of_getElem? (i := 3) rfl)) (by decide) (by decide)) q202a q202c (g := (mkF m 341 #[vj q1, .second, vi p2, vi p3, vr b1, vi ln, vi (1 : Int32), vi i73_0, vi i89_0, vr b18, vi w2_145, vi r150, vi r152, vi r153, vr x'_178, vi i234_0, vi i298_0, vi (own_sw1 w2_145 ln fn13 (own_s3 r150 r152 r153))] [(.ref b18)])) rfl (by rw [hml]; rfl) (Steps.refl _) (argsL := []) (rest := []) (lenOf pd_5 rfl) rfl (by show 2 * 0 + _ ≤ _; exact Nat.le_of_eq rfl) (hb hby at_341) (fun _ _ => ⟨rfl, eq201, (by decide : 6 + 0 ≤ _), (by decide : 144 + 0 ≤ _)⟩)
      dsimp only [Pt.U, Pt.locs, Pt.cells, Pt.slots] at X202 l202 y202 z202 st202 hQ202
      subst y202 z202
      obtain ⟨r202, rfl, hr202, N202q, eq202⟩ := hQ202
      have N202 : Fr n0 L202 := by rw [l202]; exact Fr.app N201 N202q
      refine GoalW.lift (B := (T202.setTop (mkF m 348 #[vj q1, .second, vi p2, vi p3, vr b1, vi ln, vi (1 : Int32), vi i73_0, vi i89_0, vr b18, vi w2_145, vi r150, vi r152, vi r153, vr x'_178, vi i234_0, vi i298_0, vi (own_sw1 w2_145 ln fn13 (own_s3 r150 r152 r153))] [(.int ln), (.int i298_0), (.int r202)]))) (fun t k => ?_) ?_
      · show Steps p.tables e below (T178.setTop (mkF m 311 #[vj q1, .second, vi p2, vi p3, vr b1, vi ln, vi (1 : Int32), vi i73_0, vi i89_0, vr b18, vi w2_145, vi r150, vi r152, vi r153, vr x'_178, vi i234_0, .unset, .unset] [(.int i298_0)])) _
        refine XS.istore X178.here hx rfl (hb hby at_311) rfl (l' := #[vj q1, .second, vi p2, vi p3, vr b1, vi ln, vi (1 : Int32), vi i73_0, vi i89_0, vr b18, vi w2_145, vi r150, vi r152, vi r153, vr x'_178, vi i234_0, vi i298_0, .unset]) rfl ?_
        refine XS.aload X178.here hx rfl (hb hby at_313) rfl rfl ?_
        refine XS.aload X178.here hx rfl (hb hby at_315) rfl rfl ?_
        refine st191.trans ?_
        refine XS.istore X191.here hx rfl (hb hby at_320) rfl (l' := #[vj q1, .second, vi p2, vi p3, vr b1, vi ln, vi (1 : Int32), vi i73_0, vi i89_0, vr b18, vi w2_145, vi r150, vi r152, vi r153, vr x'_178, vi i234_0, vi i298_0, vi (own_sw1 w2_145 ln fn13 (own_s3 r150 r152 r153))]) rfl ?_
        refine XS.iload X191.here hx rfl (hb hby at_322) rfl ?_
        show Steps p.tables e below (T191.setTop (mkF m 324 #[vj q1, .second, vi p2, vi p3, vr b1, vi ln, vi (1 : Int32), vi i73_0, vi i89_0, vr b18, vi w2_145, vi r150, vi r152, vi r153, vr x'_178, vi i234_0, vi i298_0, vi (own_sw1 w2_145 ln fn13 (own_s3 r150 r152 r153))] [(.int (own_sw1 w2_145 ln fn13 (own_s3 r150 r152 r153)))])) _
        refine XS.iload X191.here hx rfl (hb hby at_324) rfl ?_
        refine XS.icmpNo X191.here hx rfl (hb hby at_326) rfl ((teq (hsw : (own_sw1 w2_145 ln fn13 (own_s3 r150 r152 r153)) = i234_0)).2) ?_
        refine XS.aload X191.here hx rfl (hb hby at_329) rfl rfl ?_
        refine st201.trans ?_
        refine XS.iload X201.here hx rfl (hb hby at_334) rfl ?_
        refine XS.icmpNo X201.here hx rfl (hb hby at_336) rfl ((teq (hps : w2_191 = i298_0)).2) ?_
        show Steps p.tables e below (T201.setTop (mkF m 339 #[vj q1, .second, vi p2, vi p3, vr b1, vi ln, vi (1 : Int32), vi i73_0, vi i89_0, vr b18, vi w2_145, vi r150, vi r152, vi r153, vr x'_178, vi i234_0, vi i298_0, vi (own_sw1 w2_145 ln fn13 (own_s3 r150 r152 r153))] [])) _
        refine XS.aload X201.here hx rfl (hb hby at_339) rfl rfl ?_
        refine st202.trans ?_
        refine XS.iload X202.here hx rfl (hb hby at_344) rfl ?_
        refine XS.iload X202.here hx rfl (hb hby at_346) rfl ?_
        exact k
      suffices J348_203 : ∀ (i348_0 : Int32), i348_0 = (if i298_0 = ln then (1 : Int32) else (0 : Int32)) → GoalW p.tables e below s 24 1408 (Q0 Z q1 p2 p3 zcs fm h0 n0) (T202.setTop (mkF m 356 #[vj q1, .second, vi p2, vi p3, vr b1, vi ln, vi (1 : Int32), vi i73_0, vi i89_0, vr b18, vi w2_145, vi r150, vi r152, vi r153, vr x'_178, vi i234_0, vi i298_0, vi (own_sw1 w2_145 ln fn13 (own_s3 r150 r152 r153))] [(.int i348_0), (.int r202)])) by
        by_cases hc348_204 : i298_0 = ln
        · refine GoalW.lift (B := (T202.setTop (mkF m 356 #[vj q1, .second, vi p2, vi p3, vr b1, vi ln, vi (1 : Int32), vi i73_0, vi i89_0, vr b18, vi w2_145, vi r150, vi r152, vi r153, vr x'_178, vi i234_0, vi i298_0, vi (own_sw1 w2_145 ln fn13 (own_s3 r150 r152 r153))] [(.int (1 : Int32)), (.int r202)]))) (fun t k => ?_) ?_
          · show Steps p.tables e below (T202.setTop (mkF m 348 #[vj q1, .second, vi p2, vi p3, vr b1, vi ln, vi (1 : Int32), vi i73_0, vi i89_0, vr b18, vi w2_145, vi r150, vi r152, vi r153, vr x'_178, vi i234_0, vi i298_0, vi (own_sw1 w2_145 ln fn13 (own_s3 r150 r152 r153))] [(.int ln), (.int i298_0), (.int r202)])) _
            refine XS.icmpNo X202.here hx rfl (hb hby at_348) rfl ((teq hc348_204).2) ?_
            refine XS.iconst X202.here hx rfl (hb hby at_351) ?_
            refine XS.goto X202.here hx rfl (pc0 := 352) (pc' := 356) rfl (hb hby at_352) (by decide) (by decide) ?_
            exact k
          exact J348_203 _ (by simp only [if_pos hc348_204])
        · refine GoalW.lift (B := (T202.setTop (mkF m 356 #[vj q1, .second, vi p2, vi p3, vr b1, vi ln, vi (1 : Int32), vi i73_0, vi i89_0, vr b18, vi w2_145, vi r150, vi r152, vi r153, vr x'_178, vi i234_0, vi i298_0, vi (own_sw1 w2_145 ln fn13 (own_s3 r150 r152 r153))] [(.int (0 : Int32)), (.int r202)]))) (fun t k => ?_) ?_
          · show Steps p.tables e below (T202.setTop (mkF m 348 #[vj q1, .second, vi p2, vi p3, vr b1, vi ln, vi (1 : Int32), vi i73_0, vi i89_0, vr b18, vi w2_145, vi r150, vi r152, vi r153, vr x'_178, vi i234_0, vi i298_0, vi (own_sw1 w2_145 ln fn13 (own_s3 r150 r152 r153))] [(.int ln), (.int i298_0), (.int r202)])) _
            refine XS.icmpYes X202.here hx rfl (pc0 := 348) (pc' := 355) rfl (hb hby at_348) rfl ((feq hc348_204).2) (by decide) (by decide) ?_
            refine XS.iconst X202.here hx rfl (hb hby at_355) ?_
            exact k
          exact J348_203 _ (by simp only [if_neg hc348_204])
      intro i348_0 h_i348_0
      obtain ⟨fs, hr, hrun, hended, hW, hsame⟩ := X202.leave (v := some (.int (1 : Int32))) (fun h => by rw [Bd.returns] at h; cases h)
      refine ⟨_, _, ?_, hrun, hended, _, _, rfl, ?_, ReturnedEndW.of_narrow ⟨_, rfl⟩ hW (hsame.mono (by decide) (by decide))⟩
      · show Steps p.tables e below (T202.setTop (mkF m 356 #[vj q1, .second, vi p2, vi p3, vr b1, vi ln, vi (1 : Int32), vi i73_0, vi i89_0, vr b18, vi w2_145, vi r150, vi r152, vi r153, vr x'_178, vi i234_0, vi i298_0, vi (own_sw1 w2_145 ln fn13 (own_s3 r150 r152 r153))] [(.int i348_0), (.int r202)])) _
        refine XS.icmpNo X202.here hx rfl (hb hby at_356) rfl ((teq (by rw [hr202, h_i348_0, hps] : r202 = i348_0)).2) ?_
        refine XS.iconst X202.here hx rfl (hb hby at_359) ?_
        refine XS.goto X202.here hx rfl (pc0 := 360) (pc' := 364) rfl (hb hby at_360) (by decide) (by decide) ?_
        exact retN X202 hx (t := .boolean) Bd.returns (by simp) (hb hby at_364) hr
      · exact ⟨rfl, N202⟩
    · refine GoalW.lift (B := (T153.setTop (mkF m 214 #[vj q1, .second, vi p2, vi p3, vr b1, vi ln, vi (2 : Int32), vi i73_0, vi i89_0, vr b18, vi w2_145, vi r150, vi r152, vi r153, .unset, .unset, .unset, .unset] []))) (fun t k => by rw [hs154]; exact k) ?_
      have f206 : Sta Z T145.heap "java/lang/String" "COMPACT_STRINGS" "Z" (.int zcs) := (StaKeep (StaKeep (((((((S_COMPACT_STRINGS.ext E1).wr W3).wr W5).wr W7).wr W9).wr W11).ext E18) p20_0 ns22) p145_0 ns147)
      obtain ⟨_, _, ⟨T205, L205, k205, n205⟩, -, X205, ⟨Lc205, hQ205, l205, y205, z205⟩, st205⟩ := Jvm.LawKit.callS X153 hx (y := (⟨"com/example/verdict/verdict/saml/XmlScannerSkipPinLaw", "make", "(ICCC)Ljava/lang/String;"⟩ : MethodName)) hown (mvT hZ (hw _ (List.mem_of_getElem? (i := 35) rfl))) (mvT hZ (hw _ (List.mem_of_getElem? (i := 36) rfl))) (mvT hZ (hw _ (List.mem_of_getElem? (i := 33) rfl))) (mvT hZ (hw _ (List.mem_of_getElem? (i := 37) rfl))) (by decide) (backOf (W := 0) (rmmk2 l Z a0 hw [] r150 r152 r153 zcs T145.heap n0 z148 f206 hCS hr150 hr152 hr153) hZ (hw _ (List.mem_of_getElem? (i := 37) rfl)) (hw _ (List.mem_of_getElem? (i := 33) rfl)) (by decide) (by decide)) (g := (mkF m 222 #[vj q1, .second, vi p2, vi p3, vr b1, vi ln, vi (2 : Int32), vi i73_0, vi i89_0, vr b18, vi w2_145, vi r150, vi r152, vi r153, .unset, .unset, .unset, .unset] [(.int r153), (.int r152), (.int r150), (.int (2 : Int32))])) rfl (by rw [hml]; rfl) (argsL := [(.int (2 : Int32)), (.int r150), (.int r152), (.int r153)]) (rest := []) (lenOf pd_18 rfl) rfl (by show 2 * 0 + _ ≤ _; exact Nat.le_of_eq rfl) (hb hby at_222) (fun _ _ => ⟨rfl, eq153, (by decide : 3 + 3 ≤ _), (by decide : 138 + 8 ≤ _)⟩)
      dsimp only [Pt.U, Pt.locs, Pt.cells, Pt.slots] at X205 l205 y205 z205 st205 hQ205
      subst y205 z205
      obtain ⟨x'_205, t'_205, k'_205, rfl, N205q, p205_0, p205_1, p205_2, p205_3, p205_4, p205_5, p205_6, p205_7⟩ := hQ205
      have N205 : Fr n0 L205 := by rw [l205]; exact Fr.app N153 N205q
      have ns207 : ∀ x ∈ ([] : List Addr), ∀ cell : Cell, T145.heap[x]? = some cell → cell.vm.isStatics = false := all0
      have z208 : n0 ≤ T205.heap.size := Nat.le_trans z148 p205_0.1
      have ne_b1_x'_205 : b1 ≠ x'_205 := Nat.ne_of_lt (Nat.lt_of_lt_of_le f151.lt p205_1)
      have ne_b18_x'_205 : b18 ≠ x'_205 := Nat.ne_of_lt (Nat.lt_of_lt_of_le p145_1.lt p205_1)
      have g_x'_205 : n0 ≤ x'_205 := Nat.le_trans z148 p205_1
      have ne_b1_t'_205 : b1 ≠ t'_205 := Nat.ne_of_lt (Nat.lt_of_lt_of_le f151.lt p205_2)
      have ne_b18_t'_205 : b18 ≠ t'_205 := Nat.ne_of_lt (Nat.lt_of_lt_of_le p145_1.lt p205_2)
      have g_t'_205 : n0 ≤ t'_205 := Nat.le_trans z148 p205_2
      refine GoalW.lift (B := (T205.setTop (mkF m 234 #[vj q1, .second, vi p2, vi p3, vr b1, vi ln, vi (2 : Int32), vi i73_0, vi i89_0, vr b18, vi w2_145, vi r150, vi r152, vi r153, vr x'_205, .unset, .unset, .unset] [(.int (ln - w2_145)), (.int (2 : Int32))]))) (fun t k => ?_) ?_
      · show Steps p.tables e below (T153.setTop (mkF m 214 #[vj q1, .second, vi p2, vi p3, vr b1, vi ln, vi (2 : Int32), vi i73_0, vi i89_0, vr b18, vi w2_145, vi r150, vi r152, vi r153, .unset, .unset, .unset, .unset] [])) _
        refine XS.iload X153.here hx rfl (hb hby at_214) rfl ?_
        refine XS.iload X153.here hx rfl (hb hby at_216) rfl ?_
        refine XS.iload X153.here hx rfl (hb hby at_218) rfl ?_
        refine XS.iload X153.here hx rfl (hb hby at_220) rfl ?_
        refine st205 _ ?_
        refine XS.astore X205.here hx rfl (hb hby at_225) rfl rfl (l' := #[vj q1, .second, vi p2, vi p3, vr b1, vi ln, vi (2 : Int32), vi i73_0, vi i89_0, vr b18, vi w2_145, vi r150, vi r152, vi r153, vr x'_205, .unset, .unset, .unset]) rfl ?_
        show Steps p.tables e below (T205.setTop (mkF m 227 #[vj q1, .second, vi p2, vi p3, vr b1, vi ln, vi (2 : Int32), vi i73_0, vi i89_0, vr b18, vi w2_145, vi r150, vi r152, vi r153, vr x'_205, .unset, .unset, .unset] [])) _
        refine XS.iload X205.here hx rfl (hb hby at_227) rfl ?_
        refine XS.iload X205.here hx rfl (hb hby at_229) rfl ?_
        refine XS.iload X205.here hx rfl (hb hby at_231) rfl ?_
        refine XS.isub X205.here hx rfl (hb hby at_233) rfl ?_
        exact k
      suffices J234_211 : ∀ (i234_0 : Int32), i234_0 = (if (ln - w2_145) < (2 : Int32) then (0 : Int32) else (if (fn13 (w2_145).toNatClampNeg) = r150 then (if (fn13 ((w2_145 + (1 : Int32))).toNatClampNeg) = r152 then (1 : Int32) else (0 : Int32)) else (0 : Int32))) → GoalW p.tables e below s 24 1408 (Q0 Z q1 p2 p3 zcs fm h0 n0) (T205.setTop (mkF m 294 #[vj q1, .second, vi p2, vi p3, vr b1, vi ln, vi (2 : Int32), vi i73_0, vi i89_0, vr b18, vi w2_145, vi r150, vi r152, vi r153, vr x'_205, .unset, .unset, .unset] [(.int i234_0)])) by
        by_cases hc234_212 : (ln - w2_145) < (2 : Int32)
        · refine GoalW.lift (B := (T205.setTop (mkF m 294 #[vj q1, .second, vi p2, vi p3, vr b1, vi ln, vi (2 : Int32), vi i73_0, vi i89_0, vr b18, vi w2_145, vi r150, vi r152, vi r153, vr x'_205, .unset, .unset, .unset] [(.int (0 : Int32))]))) (fun t k => ?_) ?_
          · show Steps p.tables e below (T205.setTop (mkF m 234 #[vj q1, .second, vi p2, vi p3, vr b1, vi ln, vi (2 : Int32), vi i73_0, vi i89_0, vr b18, vi w2_145, vi r150, vi r152, vi r153, vr x'_205, .unset, .unset, .unset] [(.int (ln - w2_145)), (.int (2 : Int32))])) _
            refine XS.icmpYes X205.here hx rfl (pc0 := 234) (pc' := 293) rfl (hb hby at_234) rfl ((tlt hc234_212).2.2.1) (by decide) (by decide) ?_
            refine XS.iconst X205.here hx rfl (hb hby at_293) ?_
            exact k
          exact J234_211 _ (by simp only [if_pos hc234_212])
        · have f214 : AV Z T205.heap b1 k1 .byte 5 (fun i => Value.int (fn13 i)) := (f151.keep p205_0 nin0)
          obtain ⟨cl213, Ar213, kc213, sz213, -, hv213⟩ := id f214
          have hin213 : ¬ (w2_145 < 0 ∨ cl213.slots.size ≤ (w2_145).toNatClampNeg) := AV.inb sz213 (own_p50 hp)
          have hat213 : cl213.slots[(w2_145).toNatClampNeg]? = some (.int (fn13 (w2_145).toNatClampNeg)) := (hv213 _ (AV.inx (own_p50 hp))).trans (congrArg some rfl)
          refine GoalW.lift (B := (T205.setTop (mkF m 250 #[vj q1, .second, vi p2, vi p3, vr b1, vi ln, vi (2 : Int32), vi i73_0, vi i89_0, vr b18, vi w2_145, vi r150, vi r152, vi r153, vr x'_205, .unset, .unset, .unset] [(.int r150), (.int (fn13 (w2_145).toNatClampNeg))]))) (fun t k => ?_) ?_
          · show Steps p.tables e below (T205.setTop (mkF m 234 #[vj q1, .second, vi p2, vi p3, vr b1, vi ln, vi (2 : Int32), vi i73_0, vi i89_0, vr b18, vi w2_145, vi r150, vi r152, vi r153, vr x'_205, .unset, .unset, .unset] [(.int (ln - w2_145)), (.int (2 : Int32))])) _
            refine XS.icmpNo X205.here hx rfl (hb hby at_234) rfl ((flt hc234_212).2.2.1) ?_
            refine XS.iload X205.here hx rfl (hb hby at_237) rfl ?_
            refine XS.iconst X205.here hx rfl (hb hby at_239) ?_
            refine XS.icmpNo X205.here hx rfl (hb hby at_240) rfl ((flt (by decide : ¬ ((2 : Int32) < (1 : Int32)))).1) ?_
            refine XS.aload X205.here hx rfl (hb hby at_243) rfl rfl ?_
            refine XS.iload X205.here hx rfl (hb hby at_245) rfl ?_
            show Steps p.tables e below (T205.setTop (mkF m 247 #[vj q1, .second, vi p2, vi p3, vr b1, vi ln, vi (2 : Int32), vi i73_0, vi i89_0, vr b18, vi w2_145, vi r150, vi r152, vi r153, vr x'_205, .unset, .unset, .unset] [(.int w2_145), (.ref b1)])) _
            refine X205.baloadBytes hx (j := w2_145) (v := (.int (fn13 (w2_145).toNatClampNeg))) Ar213.1 (State.isArrayOf_alike hZ.alike Ar213.2.1) Ar213.2.2 hin213 hat213 (g := (mkF m 247 #[vj q1, .second, vi p2, vi p3, vr b1, vi ln, vi (2 : Int32), vi i73_0, vi i89_0, vr b18, vi w2_145, vi r150, vi r152, vi r153, vr x'_205, .unset, .unset, .unset] [(.int w2_145), (.ref b1)])) rfl rfl (hb hby at_247) _ ?_
            refine XS.iload X205.here hx rfl (hb hby at_248) rfl ?_
            exact k
          by_cases hc250_215 : (fn13 (w2_145).toNatClampNeg) = r150
          · obtain ⟨cl216, Ar216, kc216, sz216, -, hv216⟩ := id f214
            have hin216 : ¬ ((w2_145 + (1 : Int32)) < 0 ∨ cl216.slots.size ≤ ((w2_145 + (1 : Int32))).toNatClampNeg) := AV.inb sz216 (own_p5 hp (i := (1 : Int32)) (by decide))
            have hat216 : cl216.slots[((w2_145 + (1 : Int32))).toNatClampNeg]? = some (.int (fn13 ((w2_145 + (1 : Int32))).toNatClampNeg)) := (hv216 _ (AV.inx (own_p5 hp (i := (1 : Int32)) (by decide)))).trans (congrArg some rfl)
            refine GoalW.lift (B := (T205.setTop (mkF m 268 #[vj q1, .second, vi p2, vi p3, vr b1, vi ln, vi (2 : Int32), vi i73_0, vi i89_0, vr b18, vi w2_145, vi r150, vi r152, vi r153, vr x'_205, .unset, .unset, .unset] [(.int r152), (.int (fn13 ((w2_145 + (1 : Int32))).toNatClampNeg))]))) (fun t k => ?_) ?_
            · show Steps p.tables e below (T205.setTop (mkF m 250 #[vj q1, .second, vi p2, vi p3, vr b1, vi ln, vi (2 : Int32), vi i73_0, vi i89_0, vr b18, vi w2_145, vi r150, vi r152, vi r153, vr x'_205, .unset, .unset, .unset] [(.int r150), (.int (fn13 (w2_145).toNatClampNeg))])) _
              refine XS.icmpNo X205.here hx rfl (hb hby at_250) rfl ((teq hc250_215).2) ?_
              refine XS.iload X205.here hx rfl (hb hby at_253) rfl ?_
              refine XS.iconst X205.here hx rfl (hb hby at_255) ?_
              refine XS.icmpNo X205.here hx rfl (hb hby at_256) rfl ((flt (by decide : ¬ ((2 : Int32) < (2 : Int32)))).1) ?_
              refine XS.aload X205.here hx rfl (hb hby at_259) rfl rfl ?_
              refine XS.iload X205.here hx rfl (hb hby at_261) rfl ?_
              show Steps p.tables e below (T205.setTop (mkF m 263 #[vj q1, .second, vi p2, vi p3, vr b1, vi ln, vi (2 : Int32), vi i73_0, vi i89_0, vr b18, vi w2_145, vi r150, vi r152, vi r153, vr x'_205, .unset, .unset, .unset] [(.int w2_145), (.ref b1)])) _
              refine XS.iconst X205.here hx rfl (hb hby at_263) ?_
              refine XS.iadd X205.here hx rfl (hb hby at_264) rfl ?_
              refine X205.baloadBytes hx (j := (w2_145 + (1 : Int32))) (v := (.int (fn13 ((w2_145 + (1 : Int32))).toNatClampNeg))) Ar216.1 (State.isArrayOf_alike hZ.alike Ar216.2.1) Ar216.2.2 hin216 hat216 (g := (mkF m 265 #[vj q1, .second, vi p2, vi p3, vr b1, vi ln, vi (2 : Int32), vi i73_0, vi i89_0, vr b18, vi w2_145, vi r150, vi r152, vi r153, vr x'_205, .unset, .unset, .unset] [(.int (w2_145 + (1 : Int32))), (.ref b1)])) rfl rfl (hb hby at_265) _ ?_
              refine XS.iload X205.here hx rfl (hb hby at_266) rfl ?_
              exact k
            by_cases hc268_217 : (fn13 ((w2_145 + (1 : Int32))).toNatClampNeg) = r152
            · refine GoalW.lift (B := (T205.setTop (mkF m 294 #[vj q1, .second, vi p2, vi p3, vr b1, vi ln, vi (2 : Int32), vi i73_0, vi i89_0, vr b18, vi w2_145, vi r150, vi r152, vi r153, vr x'_205, .unset, .unset, .unset] [(.int (1 : Int32))]))) (fun t k => ?_) ?_
              · show Steps p.tables e below (T205.setTop (mkF m 268 #[vj q1, .second, vi p2, vi p3, vr b1, vi ln, vi (2 : Int32), vi i73_0, vi i89_0, vr b18, vi w2_145, vi r150, vi r152, vi r153, vr x'_205, .unset, .unset, .unset] [(.int r152), (.int (fn13 ((w2_145 + (1 : Int32))).toNatClampNeg))])) _
                refine XS.icmpNo X205.here hx rfl (hb hby at_268) rfl ((teq hc268_217).2) ?_
                refine XS.iload X205.here hx rfl (hb hby at_271) rfl ?_
                refine XS.iconst X205.here hx rfl (hb hby at_273) ?_
                refine XS.icmpYes X205.here hx rfl (pc0 := 274) (pc' := 289) rfl (hb hby at_274) rfl ((tlt (by decide : (2 : Int32) < (3 : Int32))).1) (by decide) (by decide) ?_
                refine XS.iconst X205.here hx rfl (hb hby at_289) ?_
                refine XS.goto X205.here hx rfl (pc0 := 290) (pc' := 294) rfl (hb hby at_290) (by decide) (by decide) ?_
                show Steps p.tables e below (T205.setTop (mkF m 294 #[vj q1, .second, vi p2, vi p3, vr b1, vi ln, vi (2 : Int32), vi i73_0, vi i89_0, vr b18, vi w2_145, vi r150, vi r152, vi r153, vr x'_205, .unset, .unset, .unset] [(.int (1 : Int32))])) _
                exact k
              exact J234_211 _ (by simp only [if_neg hc234_212, if_pos hc250_215, if_pos hc268_217])
            · refine GoalW.lift (B := (T205.setTop (mkF m 294 #[vj q1, .second, vi p2, vi p3, vr b1, vi ln, vi (2 : Int32), vi i73_0, vi i89_0, vr b18, vi w2_145, vi r150, vi r152, vi r153, vr x'_205, .unset, .unset, .unset] [(.int (0 : Int32))]))) (fun t k => ?_) ?_
              · show Steps p.tables e below (T205.setTop (mkF m 268 #[vj q1, .second, vi p2, vi p3, vr b1, vi ln, vi (2 : Int32), vi i73_0, vi i89_0, vr b18, vi w2_145, vi r150, vi r152, vi r153, vr x'_205, .unset, .unset, .unset] [(.int r152), (.int (fn13 ((w2_145 + (1 : Int32))).toNatClampNeg))])) _
                refine XS.icmpYes X205.here hx rfl (pc0 := 268) (pc' := 293) rfl (hb hby at_268) rfl ((feq hc268_217).2) (by decide) (by decide) ?_
                refine XS.iconst X205.here hx rfl (hb hby at_293) ?_
                exact k
              exact J234_211 _ (by simp only [if_neg hc234_212, if_pos hc250_215, if_neg hc268_217])
          · refine GoalW.lift (B := (T205.setTop (mkF m 294 #[vj q1, .second, vi p2, vi p3, vr b1, vi ln, vi (2 : Int32), vi i73_0, vi i89_0, vr b18, vi w2_145, vi r150, vi r152, vi r153, vr x'_205, .unset, .unset, .unset] [(.int (0 : Int32))]))) (fun t k => ?_) ?_
            · show Steps p.tables e below (T205.setTop (mkF m 250 #[vj q1, .second, vi p2, vi p3, vr b1, vi ln, vi (2 : Int32), vi i73_0, vi i89_0, vr b18, vi w2_145, vi r150, vi r152, vi r153, vr x'_205, .unset, .unset, .unset] [(.int r150), (.int (fn13 (w2_145).toNatClampNeg))])) _
              refine XS.icmpYes X205.here hx rfl (pc0 := 250) (pc' := 293) rfl (hb hby at_250) rfl ((feq hc250_215).2) (by decide) (by decide) ?_
              refine XS.iconst X205.here hx rfl (hb hby at_293) ?_
              exact k
            exact J234_211 _ (by simp only [if_neg hc234_212, if_neg hc250_215])
      intro i234_0 h_i234_0
      refine GoalW.lift (B := (T205.setTop (mkF m 298 #[vj q1, .second, vi p2, vi p3, vr b1, vi ln, vi (2 : Int32), vi i73_0, vi i89_0, vr b18, vi w2_145, vi r150, vi r152, vi r153, vr x'_205, vi i234_0, .unset, .unset] [(.int i234_0)]))) (fun t k => ?_) ?_
      · show Steps p.tables e below (T205.setTop (mkF m 294 #[vj q1, .second, vi p2, vi p3, vr b1, vi ln, vi (2 : Int32), vi i73_0, vi i89_0, vr b18, vi w2_145, vi r150, vi r152, vi r153, vr x'_205, .unset, .unset, .unset] [(.int i234_0)])) _
        refine XS.istore X205.here hx rfl (hb hby at_294) rfl (l' := #[vj q1, .second, vi p2, vi p3, vr b1, vi ln, vi (2 : Int32), vi i73_0, vi i89_0, vr b18, vi w2_145, vi r150, vi r152, vi r153, vr x'_205, vi i234_0, .unset, .unset]) rfl ?_
        refine XS.iload X205.here hx rfl (hb hby at_296) rfl ?_
        exact k
      suffices J298_218 : ∀ (i298_0 : Int32), i298_0 = (if i234_0 = (0 : Int32) then w2_145 else (w2_145 + (2 : Int32))) → GoalW p.tables e below s 24 1408 (Q0 Z q1 p2 p3 zcs fm h0 n0) (T205.setTop (mkF m 311 #[vj q1, .second, vi p2, vi p3, vr b1, vi ln, vi (2 : Int32), vi i73_0, vi i89_0, vr b18, vi w2_145, vi r150, vi r152, vi r153, vr x'_205, vi i234_0, .unset, .unset] [(.int i298_0)])) by
        by_cases hc298_219 : i234_0 = (0 : Int32)
        · refine GoalW.lift (B := (T205.setTop (mkF m 311 #[vj q1, .second, vi p2, vi p3, vr b1, vi ln, vi (2 : Int32), vi i73_0, vi i89_0, vr b18, vi w2_145, vi r150, vi r152, vi r153, vr x'_205, vi i234_0, .unset, .unset] [(.int w2_145)]))) (fun t k => ?_) ?_
          · show Steps p.tables e below (T205.setTop (mkF m 298 #[vj q1, .second, vi p2, vi p3, vr b1, vi ln, vi (2 : Int32), vi i73_0, vi i89_0, vr b18, vi w2_145, vi r150, vi r152, vi r153, vr x'_205, vi i234_0, .unset, .unset] [(.int i234_0)])) _
            refine XS.ifYes X205.here hx rfl (pc0 := 298) (pc' := 309) rfl (hb hby at_298) rfl ((if0 _ _).trans (teq hc298_219).1) (by decide) (by decide) ?_
            refine XS.iload X205.here hx rfl (hb hby at_309) rfl ?_
            exact k
          exact J298_218 _ (by simp only [if_pos hc298_219])
        · refine GoalW.lift (B := (T205.setTop (mkF m 311 #[vj q1, .second, vi p2, vi p3, vr b1, vi ln, vi (2 : Int32), vi i73_0, vi i89_0, vr b18, vi w2_145, vi r150, vi r152, vi r153, vr x'_205, vi i234_0, .unset, .unset] [(.int (w2_145 + (2 : Int32)))]))) (fun t k => ?_) ?_
          · show Steps p.tables e below (T205.setTop (mkF m 298 #[vj q1, .second, vi p2, vi p3, vr b1, vi ln, vi (2 : Int32), vi i73_0, vi i89_0, vr b18, vi w2_145, vi r150, vi r152, vi r153, vr x'_205, vi i234_0, .unset, .unset] [(.int i234_0)])) _
            refine XS.ifNo X205.here hx rfl (hb hby at_298) rfl ((if0 _ _).trans (feq hc298_219).1) ?_
            refine XS.iload X205.here hx rfl (hb hby at_301) rfl ?_
            refine XS.iload X205.here hx rfl (hb hby at_303) rfl ?_
            refine XS.iadd X205.here hx rfl (hb hby at_305) rfl ?_
            refine XS.goto X205.here hx rfl (pc0 := 306) (pc' := 311) rfl (hb hby at_306) (by decide) (by decide) ?_
            exact k
          exact J298_218 _ (by simp only [if_neg hc298_219])
      intro i298_0 h_i298_0
      have f221 : Sta Z T205.heap "java/lang/String" "COMPACT_STRINGS" "Z" (.int zcs) := (StaKeep f206 p205_0 ns207)
      have f222 : Sta Z T205.heap "jdk/internal/util/Preconditions" "SIOOBE_FORMATTER" "Ljava/util/function/BiFunction;" fm := (StaKeep (StaKeep (StaKeep (((((((S_SIOOBE_FORMATTER.ext E1).wr W3).wr W5).wr W7).wr W9).wr W11).ext E18) p20_0 ns22) p145_0 ns147) p205_0 ns207)
      have f223 : Exa Z T205.heap b18 "com/example/verdict/verdict/saml/XmlScanner" := (p145_1.keep p205_0)
      have f224 : Fld Z T205.heap b18 "com/example/verdict/verdict/saml/XmlScanner" "pos" "I" (.int w2_145) := (p145_2.keep p205_0 nin0)
      have f225 : Fld Z T205.heap b18 "com/example/verdict/verdict/saml/XmlScanner" "end" "I" (.int ln) := (p145_3.keep p205_0 nin0)
      have f226 : Fld Z T205.heap b18 "com/example/verdict/verdict/saml/XmlScanner" "doc" "[B" (.ref b1) := (p145_4.keep p205_0 nin0)
      have f227 : AV Z T205.heap b1 k1 .byte 5 (fun i => Value.int (fn13 i)) := (f151.keep p205_0 nin0)
      obtain ⟨cq220, kq220, q220a, q220b, q220c⟩ := isOf hZ rfl f223
      obtain ⟨_, _, ⟨T220, L220, k220, n220⟩, -, X220, ⟨Lc220, hQ220, l220, y220, z220⟩, st220⟩ := X205.virtualBack hx (y := (⟨"com/example/verdict/verdict/saml/XmlScanner", "skip", "(Ljava/lang/String;)Z"⟩ : MethodName)) (z := (⟨"com/example/verdict/verdict/saml/XmlScanner", "skip", "(Ljava/lang/String;)Z"⟩ : MethodName)) hown (mvT hZ (hw _ (List.mem_of_getElem? (i := 57) rfl))) (mvT hZ (hw _ (List.mem_of_getElem? (i := 58) rfl))) (notFace_of_selects (args := #[]) (mvT hZ (hw _ (List.mem_of_getElem? (i := 60) rfl)))) (mvT hZ (hw _ (List.mem_of_getElem? (i := 60) rfl))) (mvT hZ (hw _ (List.mem_of_getElem? (i := 59) rfl))) (by decide) (backOf (W := 0) (rmsk2 l Z a0 hw [] b18 x'_205 w2_145 zcs fm ln b1 k1 fn13 t'_205 k'_205 (own_s3 r150 r152 r153) T205.heap n0 z208 f221 hCS f222 hfm f223 g_b18 f224 f225 f226 f227 p205_4 p205_5 p205_6 p205_7 ne_b18_x'_205 ne_b18_t'_205 (Ne.symm ne_b1_b18) (own_s3ok hr150 hr152 hr153) hp) hZ (hw _ (List.mem_of_getElem? (i := 61) rfl)) (hw _ (List.mem_of_getElem? (i := 3) rfl)) (by decide) (by decide)) q220a q220c (g := (mkF m 317 #[vj q1, .second, vi p2, vi p3, vr b1, vi ln, vi (2 : Int32), vi i73_0, vi i89_0, vr b18, vi w2_145, vi r150, vi r152, vi r153, vr x'_205, vi i234_0, vi i298_0, .unset] [(.ref x'_205), (.ref b18)])) rfl (by rw [hml]; rfl) (Steps.refl _) (argsL := [(.ref x'_205)]) (rest := []) (lenOf pd_9 rfl) rfl (by show 2 * 0 + _ ≤ _; exact Nat.le_of_eq rfl) (hb hby at_317) (fun _ _ => ⟨rfl, rfl, (by decide : 6 + 0 ≤ _), (by decide : 146 + 0 ≤ _)⟩)
      dsimp only [Pt.U, Pt.locs, Pt.cells, Pt.slots] at X220 l220 y220 z220 st220 hQ220
      subst y220 z220
      obtain ⟨w2_220, rfl, N220q, p220_0, p220_1, p220_2, p220_3, p220_4⟩ := hQ220
      have N220 : Fr n0 L220 := by rw [l220]; exact Fr.app N205 N220q
      have ns228 : ∀ x ∈ ([b18] : List Addr), ∀ cell : Cell, T205.heap[x]? = some cell → cell.vm.isStatics = false := (allS (Exa.ns f223) all0)
      have z229 : n0 ≤ T220.heap.size := Nat.le_trans z208 p220_0.1
      have hsw : (own_sw2 w2_145 ln fn13 (own_s3 r150 r152 r153)) = i234_0 := own_e2 h_i234_0
      obtain ⟨cq230, kq230, q230a, q230b, q230c⟩ := isOf hZ rfl p220_1
      obtain ⟨_, _, ⟨T230, L230, k230, n230⟩, -, X230, ⟨Lc230, hQ230, l230, y230, z230⟩, st230⟩ := X220.virtualBack hx (y := (⟨"com/example/verdict/verdict/saml/XmlScanner", "position", "()I"⟩ : MethodName)) (z := (⟨"com/example/verdict/verdict/saml/XmlScanner", "position", "()I"⟩ : MethodName)) hown (mvT hZ (hw _ (List.mem_of_getElem? (i := 24) rfl))) (mvT hZ (hw _ (List.mem_of_getElem? (i := 25) rfl))) (notFace_of_selects (args := #[]) (mvT hZ (hw _ (List.mem_of_getElem? (i := 27) rfl)))) (mvT hZ (hw _ (List.mem_of_getElem? (i := 27) rfl))) (mvT hZ (hw _ (List.mem_of_getElem? (i := 26) rfl))) (by decide) (backOf (W := 0) (rm5 l Z a0 hw [] b18 w2_220 T220.heap n0 z229 p220_2) hZ (hw _ (List.mem_of_getElem? (i := 28) rfl)) (hw _ (List.mem_of_getElem? (i := 3) rfl)) (by decide) (by decide)) q230a q230c (g := (mkF m 331 #[vj q1, .second, vi p2, vi p3, vr b1, vi ln, vi (2 : Int32), vi i73_0, vi i89_0, vr b18, vi w2_145, vi r150, vi r152, vi r153, vr x'_205, vi i234_0, vi i298_0, vi (own_sw2 w2_145 ln fn13 (own_s3 r150 r152 r153))] [(.ref b18)])) rfl (by rw [hml]; rfl) (Steps.refl _) (argsL := []) (rest := []) (lenOf pd_7 rfl) rfl (by show 2 * 0 + _ ≤ _; exact Nat.le_of_eq rfl) (hb hby at_331) (fun _ _ => ⟨rfl, rfl, (by decide : 6 + 0 ≤ _), (by decide : 146 + 0 ≤ _)⟩)
      dsimp only [Pt.U, Pt.locs, Pt.cells, Pt.slots] at X230 l230 y230 z230 st230 hQ230
      subst y230 z230
      obtain ⟨rfl, N230q, eq230⟩ := hQ230
      have N230 : Fr n0 L230 := by rw [l230]; exact Fr.app N220 N230q
      have hps : w2_220 = i298_0 := by rw [p220_4, hsw, h_i298_0]
      obtain ⟨cq231, kq231, q231a, q231b, q231c⟩ := isOf hZ eq230 p220_1
      obtain ⟨_, _, ⟨T231, L231, k231, n231⟩, -, X231, ⟨Lc231, hQ231, l231, y231, z231⟩, st231⟩ := X230.virtualBack hx (y := (⟨"com/example/verdict/verdict/saml/XmlScanner", "atEnd", "()Z"⟩ : MethodName)) (z := (⟨"com/example/verdict/verdict/saml/XmlScanner", "atEnd", "()Z"⟩ : MethodName)) hown (mvT hZ (hw _ (List.mem_of_getElem? (i := 82) rfl))) (mvT hZ (hw _ (List.mem_of_getElem? (i := 83) rfl))) (notFace_of_selects (args := #[]) (mvT hZ (hw _ (List.mem_of_getElem? (i := 85) rfl)))) (mvT hZ (hw _ (List.mem_of_getElem? (i := 85) rfl))) (mvT hZ (hw _ (List.mem_of_getElem? (i := 84) rfl))) (by decide) (backOf (W := 0) (rm15 l Z a0 hw [] b18 w2_220 ln T220.heap n0 z229 p220_2 p220_3) hZ (hw _ (List.mem_of_getElem? (i := 86) rfl)) (hw _ (List.mem_of_getElem? (i := 3) rfl)) (by decide) (by decide)) q231a q231c (g := (mkF m 341 #[vj q1, .second, vi p2, vi p3, vr b1, vi ln, vi (2 : Int32), vi i73_0, vi i89_0, vr b18, vi w2_145, vi r150, vi r152, vi r153, vr x'_205, vi i234_0, vi i298_0, vi (own_sw2 w2_145 ln fn13 (own_s3 r150 r152 r153))] [(.ref b18)])) rfl (by rw [hml]; rfl) (Steps.refl _) (argsL := []) (rest := []) (lenOf pd_5 rfl) rfl (by show 2 * 0 + _ ≤ _; exact Nat.le_of_eq rfl) (hb hby at_341) (fun _ _ => ⟨rfl, eq230, (by decide : 6 + 0 ≤ _), (by decide : 146 + 0 ≤ _)⟩)
      dsimp only [Pt.U, Pt.locs, Pt.cells, Pt.slots] at X231 l231 y231 z231 st231 hQ231
      subst y231 z231
      obtain ⟨r231, rfl, hr231, N231q, eq231⟩ := hQ231
      have N231 : Fr n0 L231 := by rw [l231]; exact Fr.app N230 N231q
      refine GoalW.lift (B := (T231.setTop (mkF m 348 #[vj q1, .second, vi p2, vi p3, vr b1, vi ln, vi (2 : Int32), vi i73_0, vi i89_0, vr b18, vi w2_145, vi r150, vi r152, vi r153, vr x'_205, vi i234_0, vi i298_0, vi (own_sw2 w2_145 ln fn13 (own_s3 r150 r152 r153))] [(.int ln), (.int i298_0), (.int r231)]))) (fun t k => ?_) ?_
      · show Steps p.tables e below (T205.setTop (mkF m 311 #[vj q1, .second, vi p2, vi p3, vr b1, vi ln, vi (2 : Int32), vi i73_0, vi i89_0, vr b18, vi w2_145, vi r150, vi r152, vi r153, vr x'_205, vi i234_0, .unset, .unset] [(.int i298_0)])) _
        refine XS.istore X205.here hx rfl (hb hby at_311) rfl (l' := #[vj q1, .second, vi p2, vi p3, vr b1, vi ln, vi (2 : Int32), vi i73_0, vi i89_0, vr b18, vi w2_145, vi r150, vi r152, vi r153, vr x'_205, vi i234_0, vi i298_0, .unset]) rfl ?_
        refine XS.aload X205.here hx rfl (hb hby at_313) rfl rfl ?_
        refine XS.aload X205.here hx rfl (hb hby at_315) rfl rfl ?_
        refine st220.trans ?_
        refine XS.istore X220.here hx rfl (hb hby at_320) rfl (l' := #[vj q1, .second, vi p2, vi p3, vr b1, vi ln, vi (2 : Int32), vi i73_0, vi i89_0, vr b18, vi w2_145, vi r150, vi r152, vi r153, vr x'_205, vi i234_0, vi i298_0, vi (own_sw2 w2_145 ln fn13 (own_s3 r150 r152 r153))]) rfl ?_
        refine XS.iload X220.here hx rfl (hb hby at_322) rfl ?_
        show Steps p.tables e below (T220.setTop (mkF m 324 #[vj q1, .second, vi p2, vi p3, vr b1, vi ln, vi (2 : Int32), vi i73_0, vi i89_0, vr b18, vi w2_145, vi r150, vi r152, vi r153, vr x'_205, vi i234_0, vi i298_0, vi (own_sw2 w2_145 ln fn13 (own_s3 r150 r152 r153))] [(.int (own_sw2 w2_145 ln fn13 (own_s3 r150 r152 r153)))])) _
        refine XS.iload X220.here hx rfl (hb hby at_324) rfl ?_
        refine XS.icmpNo X220.here hx rfl (hb hby at_326) rfl ((teq (hsw : (own_sw2 w2_145 ln fn13 (own_s3 r150 r152 r153)) = i234_0)).2) ?_
        refine XS.aload X220.here hx rfl (hb hby at_329) rfl rfl ?_
        refine st230.trans ?_
        refine XS.iload X230.here hx rfl (hb hby at_334) rfl ?_
        refine XS.icmpNo X230.here hx rfl (hb hby at_336) rfl ((teq (hps : w2_220 = i298_0)).2) ?_
        show Steps p.tables e below (T230.setTop (mkF m 339 #[vj q1, .second, vi p2, vi p3, vr b1, vi ln, vi (2 : Int32), vi i73_0, vi i89_0, vr b18, vi w2_145, vi r150, vi r152, vi r153, vr x'_205, vi i234_0, vi i298_0, vi (own_sw2 w2_145 ln fn13 (own_s3 r150 r152 r153))] [])) _
        refine XS.aload X230.here hx rfl (hb hby at_339) rfl rfl ?_
        refine st231.trans ?_
        refine XS.iload X231.here hx rfl (hb hby at_344) rfl ?_
        refine XS.iload X231.here hx rfl (hb hby at_346) rfl ?_
        exact k
      suffices J348_232 : ∀ (i348_0 : Int32), i348_0 = (if i298_0 = ln then (1 : Int32) else (0 : Int32)) → GoalW p.tables e below s 24 1408 (Q0 Z q1 p2 p3 zcs fm h0 n0) (T231.setTop (mkF m 356 #[vj q1, .second, vi p2, vi p3, vr b1, vi ln, vi (2 : Int32), vi i73_0, vi i89_0, vr b18, vi w2_145, vi r150, vi r152, vi r153, vr x'_205, vi i234_0, vi i298_0, vi (own_sw2 w2_145 ln fn13 (own_s3 r150 r152 r153))] [(.int i348_0), (.int r231)])) by
        by_cases hc348_233 : i298_0 = ln
        · refine GoalW.lift (B := (T231.setTop (mkF m 356 #[vj q1, .second, vi p2, vi p3, vr b1, vi ln, vi (2 : Int32), vi i73_0, vi i89_0, vr b18, vi w2_145, vi r150, vi r152, vi r153, vr x'_205, vi i234_0, vi i298_0, vi (own_sw2 w2_145 ln fn13 (own_s3 r150 r152 r153))] [(.int (1 : Int32)), (.int r231)]))) (fun t k => ?_) ?_
          · show Steps p.tables e below (T231.setTop (mkF m 348 #[vj q1, .second, vi p2, vi p3, vr b1, vi ln, vi (2 : Int32), vi i73_0, vi i89_0, vr b18, vi w2_145, vi r150, vi r152, vi r153, vr x'_205, vi i234_0, vi i298_0, vi (own_sw2 w2_145 ln fn13 (own_s3 r150 r152 r153))] [(.int ln), (.int i298_0), (.int r231)])) _
            refine XS.icmpNo X231.here hx rfl (hb hby at_348) rfl ((teq hc348_233).2) ?_
            refine XS.iconst X231.here hx rfl (hb hby at_351) ?_
            refine XS.goto X231.here hx rfl (pc0 := 352) (pc' := 356) rfl (hb hby at_352) (by decide) (by decide) ?_
            exact k
          exact J348_232 _ (by simp only [if_pos hc348_233])
        · refine GoalW.lift (B := (T231.setTop (mkF m 356 #[vj q1, .second, vi p2, vi p3, vr b1, vi ln, vi (2 : Int32), vi i73_0, vi i89_0, vr b18, vi w2_145, vi r150, vi r152, vi r153, vr x'_205, vi i234_0, vi i298_0, vi (own_sw2 w2_145 ln fn13 (own_s3 r150 r152 r153))] [(.int (0 : Int32)), (.int r231)]))) (fun t k => ?_) ?_
          · show Steps p.tables e below (T231.setTop (mkF m 348 #[vj q1, .second, vi p2, vi p3, vr b1, vi ln, vi (2 : Int32), vi i73_0, vi i89_0, vr b18, vi w2_145, vi r150, vi r152, vi r153, vr x'_205, vi i234_0, vi i298_0, vi (own_sw2 w2_145 ln fn13 (own_s3 r150 r152 r153))] [(.int ln), (.int i298_0), (.int r231)])) _
            refine XS.icmpYes X231.here hx rfl (pc0 := 348) (pc' := 355) rfl (hb hby at_348) rfl ((feq hc348_233).2) (by decide) (by decide) ?_
            refine XS.iconst X231.here hx rfl (hb hby at_355) ?_
            exact k
          exact J348_232 _ (by simp only [if_neg hc348_233])
      intro i348_0 h_i348_0
      obtain ⟨fs, hr, hrun, hended, hW, hsame⟩ := X231.leave (v := some (.int (1 : Int32))) (fun h => by rw [Bd.returns] at h; cases h)
      refine ⟨_, _, ?_, hrun, hended, _, _, rfl, ?_, ReturnedEndW.of_narrow ⟨_, rfl⟩ hW (hsame.mono (by decide) (by decide))⟩
      · show Steps p.tables e below (T231.setTop (mkF m 356 #[vj q1, .second, vi p2, vi p3, vr b1, vi ln, vi (2 : Int32), vi i73_0, vi i89_0, vr b18, vi w2_145, vi r150, vi r152, vi r153, vr x'_205, vi i234_0, vi i298_0, vi (own_sw2 w2_145 ln fn13 (own_s3 r150 r152 r153))] [(.int i348_0), (.int r231)])) _
        refine XS.icmpNo X231.here hx rfl (hb hby at_356) rfl ((teq (by rw [hr231, h_i348_0, hps] : r231 = i348_0)).2) ?_
        refine XS.iconst X231.here hx rfl (hb hby at_359) ?_
        refine XS.goto X231.here hx rfl (pc0 := 360) (pc' := 364) rfl (hb hby at_360) (by decide) (by decide) ?_
        exact retN X231 hx (t := .boolean) Bd.returns (by simp) (hb hby at_364) hr
      · exact ⟨rfl, N231⟩
    · refine GoalW.lift (B := (T153.setTop (mkF m 214 #[vj q1, .second, vi p2, vi p3, vr b1, vi ln, vi (3 : Int32), vi i73_0, vi i89_0, vr b18, vi w2_145, vi r150, vi r152, vi r153, .unset, .unset, .unset, .unset] []))) (fun t k => by rw [hs154]; exact k) ?_
      have f235 : Sta Z T145.heap "java/lang/String" "COMPACT_STRINGS" "Z" (.int zcs) := (StaKeep (StaKeep (((((((S_COMPACT_STRINGS.ext E1).wr W3).wr W5).wr W7).wr W9).wr W11).ext E18) p20_0 ns22) p145_0 ns147)
      obtain ⟨_, _, ⟨T234, L234, k234, n234⟩, -, X234, ⟨Lc234, hQ234, l234, y234, z234⟩, st234⟩ := Jvm.LawKit.callS X153 hx (y := (⟨"com/example/verdict/verdict/saml/XmlScannerSkipPinLaw", "make", "(ICCC)Ljava/lang/String;"⟩ : MethodName)) hown (mvT hZ (hw _ (List.mem_of_getElem? (i := 35) rfl))) (mvT hZ (hw _ (List.mem_of_getElem? (i := 36) rfl))) (mvT hZ (hw _ (List.mem_of_getElem? (i := 33) rfl))) (mvT hZ (hw _ (List.mem_of_getElem? (i := 37) rfl))) (by decide) (backOf (W := 0) (rmmk3 l Z a0 hw [] r150 r152 r153 zcs T145.heap n0 z148 f235 hCS hr150 hr152 hr153) hZ (hw _ (List.mem_of_getElem? (i := 37) rfl)) (hw _ (List.mem_of_getElem? (i := 33) rfl)) (by decide) (by decide)) (g := (mkF m 222 #[vj q1, .second, vi p2, vi p3, vr b1, vi ln, vi (3 : Int32), vi i73_0, vi i89_0, vr b18, vi w2_145, vi r150, vi r152, vi r153, .unset, .unset, .unset, .unset] [(.int r153), (.int r152), (.int r150), (.int (3 : Int32))])) rfl (by rw [hml]; rfl) (argsL := [(.int (3 : Int32)), (.int r150), (.int r152), (.int r153)]) (rest := []) (lenOf pd_18 rfl) rfl (by show 2 * 0 + _ ≤ _; exact Nat.le_of_eq rfl) (hb hby at_222) (fun _ _ => ⟨rfl, eq153, (by decide : 3 + 3 ≤ _), (by decide : 138 + 10 ≤ _)⟩)
      dsimp only [Pt.U, Pt.locs, Pt.cells, Pt.slots] at X234 l234 y234 z234 st234 hQ234
      subst y234 z234
      obtain ⟨x'_234, t'_234, k'_234, rfl, N234q, p234_0, p234_1, p234_2, p234_3, p234_4, p234_5, p234_6, p234_7⟩ := hQ234
      have N234 : Fr n0 L234 := by rw [l234]; exact Fr.app N153 N234q
      have ns236 : ∀ x ∈ ([] : List Addr), ∀ cell : Cell, T145.heap[x]? = some cell → cell.vm.isStatics = false := all0
      have z237 : n0 ≤ T234.heap.size := Nat.le_trans z148 p234_0.1
      have ne_b1_x'_234 : b1 ≠ x'_234 := Nat.ne_of_lt (Nat.lt_of_lt_of_le f151.lt p234_1)
      have ne_b18_x'_234 : b18 ≠ x'_234 := Nat.ne_of_lt (Nat.lt_of_lt_of_le p145_1.lt p234_1)
      have g_x'_234 : n0 ≤ x'_234 := Nat.le_trans z148 p234_1
      have ne_b1_t'_234 : b1 ≠ t'_234 := Nat.ne_of_lt (Nat.lt_of_lt_of_le f151.lt p234_2)
      have ne_b18_t'_234 : b18 ≠ t'_234 := Nat.ne_of_lt (Nat.lt_of_lt_of_le p145_1.lt p234_2)
      have g_t'_234 : n0 ≤ t'_234 := Nat.le_trans z148 p234_2
      refine GoalW.lift (B := (T234.setTop (mkF m 234 #[vj q1, .second, vi p2, vi p3, vr b1, vi ln, vi (3 : Int32), vi i73_0, vi i89_0, vr b18, vi w2_145, vi r150, vi r152, vi r153, vr x'_234, .unset, .unset, .unset] [(.int (ln - w2_145)), (.int (3 : Int32))]))) (fun t k => ?_) ?_
      · show Steps p.tables e below (T153.setTop (mkF m 214 #[vj q1, .second, vi p2, vi p3, vr b1, vi ln, vi (3 : Int32), vi i73_0, vi i89_0, vr b18, vi w2_145, vi r150, vi r152, vi r153, .unset, .unset, .unset, .unset] [])) _
        refine XS.iload X153.here hx rfl (hb hby at_214) rfl ?_
        refine XS.iload X153.here hx rfl (hb hby at_216) rfl ?_
        refine XS.iload X153.here hx rfl (hb hby at_218) rfl ?_
        refine XS.iload X153.here hx rfl (hb hby at_220) rfl ?_
        refine st234 _ ?_
        refine XS.astore X234.here hx rfl (hb hby at_225) rfl rfl (l' := #[vj q1, .second, vi p2, vi p3, vr b1, vi ln, vi (3 : Int32), vi i73_0, vi i89_0, vr b18, vi w2_145, vi r150, vi r152, vi r153, vr x'_234, .unset, .unset, .unset]) rfl ?_
        show Steps p.tables e below (T234.setTop (mkF m 227 #[vj q1, .second, vi p2, vi p3, vr b1, vi ln, vi (3 : Int32), vi i73_0, vi i89_0, vr b18, vi w2_145, vi r150, vi r152, vi r153, vr x'_234, .unset, .unset, .unset] [])) _
        refine XS.iload X234.here hx rfl (hb hby at_227) rfl ?_
        refine XS.iload X234.here hx rfl (hb hby at_229) rfl ?_
        refine XS.iload X234.here hx rfl (hb hby at_231) rfl ?_
        refine XS.isub X234.here hx rfl (hb hby at_233) rfl ?_
        exact k
      suffices J234_240 : ∀ (i234_0 : Int32), i234_0 = (if (ln - w2_145) < (3 : Int32) then (0 : Int32) else (if (fn13 (w2_145).toNatClampNeg) = r150 then (if (fn13 ((w2_145 + (1 : Int32))).toNatClampNeg) = r152 then (if (fn13 ((w2_145 + (2 : Int32))).toNatClampNeg) = r153 then (1 : Int32) else (0 : Int32)) else (0 : Int32)) else (0 : Int32))) → GoalW p.tables e below s 24 1408 (Q0 Z q1 p2 p3 zcs fm h0 n0) (T234.setTop (mkF m 294 #[vj q1, .second, vi p2, vi p3, vr b1, vi ln, vi (3 : Int32), vi i73_0, vi i89_0, vr b18, vi w2_145, vi r150, vi r152, vi r153, vr x'_234, .unset, .unset, .unset] [(.int i234_0)])) by
        by_cases hc234_241 : (ln - w2_145) < (3 : Int32)
        · refine GoalW.lift (B := (T234.setTop (mkF m 294 #[vj q1, .second, vi p2, vi p3, vr b1, vi ln, vi (3 : Int32), vi i73_0, vi i89_0, vr b18, vi w2_145, vi r150, vi r152, vi r153, vr x'_234, .unset, .unset, .unset] [(.int (0 : Int32))]))) (fun t k => ?_) ?_
          · show Steps p.tables e below (T234.setTop (mkF m 234 #[vj q1, .second, vi p2, vi p3, vr b1, vi ln, vi (3 : Int32), vi i73_0, vi i89_0, vr b18, vi w2_145, vi r150, vi r152, vi r153, vr x'_234, .unset, .unset, .unset] [(.int (ln - w2_145)), (.int (3 : Int32))])) _
            refine XS.icmpYes X234.here hx rfl (pc0 := 234) (pc' := 293) rfl (hb hby at_234) rfl ((tlt hc234_241).2.2.1) (by decide) (by decide) ?_
            refine XS.iconst X234.here hx rfl (hb hby at_293) ?_
            exact k
          exact J234_240 _ (by simp only [if_pos hc234_241])
        · have f243 : AV Z T234.heap b1 k1 .byte 5 (fun i => Value.int (fn13 i)) := (f151.keep p234_0 nin0)
          obtain ⟨cl242, Ar242, kc242, sz242, -, hv242⟩ := id f243
          have hin242 : ¬ (w2_145 < 0 ∨ cl242.slots.size ≤ (w2_145).toNatClampNeg) := AV.inb sz242 (own_p50 hp)
          have hat242 : cl242.slots[(w2_145).toNatClampNeg]? = some (.int (fn13 (w2_145).toNatClampNeg)) := (hv242 _ (AV.inx (own_p50 hp))).trans (congrArg some rfl)
          refine GoalW.lift (B := (T234.setTop (mkF m 250 #[vj q1, .second, vi p2, vi p3, vr b1, vi ln, vi (3 : Int32), vi i73_0, vi i89_0, vr b18, vi w2_145, vi r150, vi r152, vi r153, vr x'_234, .unset, .unset, .unset] [(.int r150), (.int (fn13 (w2_145).toNatClampNeg))]))) (fun t k => ?_) ?_
          · show Steps p.tables e below (T234.setTop (mkF m 234 #[vj q1, .second, vi p2, vi p3, vr b1, vi ln, vi (3 : Int32), vi i73_0, vi i89_0, vr b18, vi w2_145, vi r150, vi r152, vi r153, vr x'_234, .unset, .unset, .unset] [(.int (ln - w2_145)), (.int (3 : Int32))])) _
            refine XS.icmpNo X234.here hx rfl (hb hby at_234) rfl ((flt hc234_241).2.2.1) ?_
            refine XS.iload X234.here hx rfl (hb hby at_237) rfl ?_
            refine XS.iconst X234.here hx rfl (hb hby at_239) ?_
            refine XS.icmpNo X234.here hx rfl (hb hby at_240) rfl ((flt (by decide : ¬ ((3 : Int32) < (1 : Int32)))).1) ?_
            refine XS.aload X234.here hx rfl (hb hby at_243) rfl rfl ?_
            refine XS.iload X234.here hx rfl (hb hby at_245) rfl ?_
            show Steps p.tables e below (T234.setTop (mkF m 247 #[vj q1, .second, vi p2, vi p3, vr b1, vi ln, vi (3 : Int32), vi i73_0, vi i89_0, vr b18, vi w2_145, vi r150, vi r152, vi r153, vr x'_234, .unset, .unset, .unset] [(.int w2_145), (.ref b1)])) _
            refine X234.baloadBytes hx (j := w2_145) (v := (.int (fn13 (w2_145).toNatClampNeg))) Ar242.1 (State.isArrayOf_alike hZ.alike Ar242.2.1) Ar242.2.2 hin242 hat242 (g := (mkF m 247 #[vj q1, .second, vi p2, vi p3, vr b1, vi ln, vi (3 : Int32), vi i73_0, vi i89_0, vr b18, vi w2_145, vi r150, vi r152, vi r153, vr x'_234, .unset, .unset, .unset] [(.int w2_145), (.ref b1)])) rfl rfl (hb hby at_247) _ ?_
            refine XS.iload X234.here hx rfl (hb hby at_248) rfl ?_
            exact k
          by_cases hc250_244 : (fn13 (w2_145).toNatClampNeg) = r150
          · obtain ⟨cl245, Ar245, kc245, sz245, -, hv245⟩ := id f243
            have hin245 : ¬ ((w2_145 + (1 : Int32)) < 0 ∨ cl245.slots.size ≤ ((w2_145 + (1 : Int32))).toNatClampNeg) := AV.inb sz245 (own_p5 hp (i := (1 : Int32)) (by decide))
            have hat245 : cl245.slots[((w2_145 + (1 : Int32))).toNatClampNeg]? = some (.int (fn13 ((w2_145 + (1 : Int32))).toNatClampNeg)) := (hv245 _ (AV.inx (own_p5 hp (i := (1 : Int32)) (by decide)))).trans (congrArg some rfl)
            refine GoalW.lift (B := (T234.setTop (mkF m 268 #[vj q1, .second, vi p2, vi p3, vr b1, vi ln, vi (3 : Int32), vi i73_0, vi i89_0, vr b18, vi w2_145, vi r150, vi r152, vi r153, vr x'_234, .unset, .unset, .unset] [(.int r152), (.int (fn13 ((w2_145 + (1 : Int32))).toNatClampNeg))]))) (fun t k => ?_) ?_
            · show Steps p.tables e below (T234.setTop (mkF m 250 #[vj q1, .second, vi p2, vi p3, vr b1, vi ln, vi (3 : Int32), vi i73_0, vi i89_0, vr b18, vi w2_145, vi r150, vi r152, vi r153, vr x'_234, .unset, .unset, .unset] [(.int r150), (.int (fn13 (w2_145).toNatClampNeg))])) _
              refine XS.icmpNo X234.here hx rfl (hb hby at_250) rfl ((teq hc250_244).2) ?_
              refine XS.iload X234.here hx rfl (hb hby at_253) rfl ?_
              refine XS.iconst X234.here hx rfl (hb hby at_255) ?_
              refine XS.icmpNo X234.here hx rfl (hb hby at_256) rfl ((flt (by decide : ¬ ((3 : Int32) < (2 : Int32)))).1) ?_
              refine XS.aload X234.here hx rfl (hb hby at_259) rfl rfl ?_
              refine XS.iload X234.here hx rfl (hb hby at_261) rfl ?_
              show Steps p.tables e below (T234.setTop (mkF m 263 #[vj q1, .second, vi p2, vi p3, vr b1, vi ln, vi (3 : Int32), vi i73_0, vi i89_0, vr b18, vi w2_145, vi r150, vi r152, vi r153, vr x'_234, .unset, .unset, .unset] [(.int w2_145), (.ref b1)])) _
              refine XS.iconst X234.here hx rfl (hb hby at_263) ?_
              refine XS.iadd X234.here hx rfl (hb hby at_264) rfl ?_
              refine X234.baloadBytes hx (j := (w2_145 + (1 : Int32))) (v := (.int (fn13 ((w2_145 + (1 : Int32))).toNatClampNeg))) Ar245.1 (State.isArrayOf_alike hZ.alike Ar245.2.1) Ar245.2.2 hin245 hat245 (g := (mkF m 265 #[vj q1, .second, vi p2, vi p3, vr b1, vi ln, vi (3 : Int32), vi i73_0, vi i89_0, vr b18, vi w2_145, vi r150, vi r152, vi r153, vr x'_234, .unset, .unset, .unset] [(.int (w2_145 + (1 : Int32))), (.ref b1)])) rfl rfl (hb hby at_265) _ ?_
              refine XS.iload X234.here hx rfl (hb hby at_266) rfl ?_
              exact k
            by_cases hc268_246 : (fn13 ((w2_145 + (1 : Int32))).toNatClampNeg) = r152
            · obtain ⟨cl247, Ar247, kc247, sz247, -, hv247⟩ := id f243
              have hin247 : ¬ ((w2_145 + (2 : Int32)) < 0 ∨ cl247.slots.size ≤ ((w2_145 + (2 : Int32))).toNatClampNeg) := AV.inb sz247 (own_p5 hp (i := (2 : Int32)) (by decide))
              have hat247 : cl247.slots[((w2_145 + (2 : Int32))).toNatClampNeg]? = some (.int (fn13 ((w2_145 + (2 : Int32))).toNatClampNeg)) := (hv247 _ (AV.inx (own_p5 hp (i := (2 : Int32)) (by decide)))).trans (congrArg some rfl)
              refine GoalW.lift (B := (T234.setTop (mkF m 286 #[vj q1, .second, vi p2, vi p3, vr b1, vi ln, vi (3 : Int32), vi i73_0, vi i89_0, vr b18, vi w2_145, vi r150, vi r152, vi r153, vr x'_234, .unset, .unset, .unset] [(.int r153), (.int (fn13 ((w2_145 + (2 : Int32))).toNatClampNeg))]))) (fun t k => ?_) ?_
              · show Steps p.tables e below (T234.setTop (mkF m 268 #[vj q1, .second, vi p2, vi p3, vr b1, vi ln, vi (3 : Int32), vi i73_0, vi i89_0, vr b18, vi w2_145, vi r150, vi r152, vi r153, vr x'_234, .unset, .unset, .unset] [(.int r152), (.int (fn13 ((w2_145 + (1 : Int32))).toNatClampNeg))])) _
                refine XS.icmpNo X234.here hx rfl (hb hby at_268) rfl ((teq hc268_246).2) ?_
                refine XS.iload X234.here hx rfl (hb hby at_271) rfl ?_
                refine XS.iconst X234.here hx rfl (hb hby at_273) ?_
                refine XS.icmpNo X234.here hx rfl (hb hby at_274) rfl ((flt (by decide : ¬ ((3 : Int32) < (3 : Int32)))).1) ?_
                refine XS.aload X234.here hx rfl (hb hby at_277) rfl rfl ?_
                refine XS.iload X234.here hx rfl (hb hby at_279) rfl ?_
                show Steps p.tables e below (T234.setTop (mkF m 281 #[vj q1, .second, vi p2, vi p3, vr b1, vi ln, vi (3 : Int32), vi i73_0, vi i89_0, vr b18, vi w2_145, vi r150, vi r152, vi r153, vr x'_234, .unset, .unset, .unset] [(.int w2_145), (.ref b1)])) _
                refine XS.iconst X234.here hx rfl (hb hby at_281) ?_
                refine XS.iadd X234.here hx rfl (hb hby at_282) rfl ?_
                refine X234.baloadBytes hx (j := (w2_145 + (2 : Int32))) (v := (.int (fn13 ((w2_145 + (2 : Int32))).toNatClampNeg))) Ar247.1 (State.isArrayOf_alike hZ.alike Ar247.2.1) Ar247.2.2 hin247 hat247 (g := (mkF m 283 #[vj q1, .second, vi p2, vi p3, vr b1, vi ln, vi (3 : Int32), vi i73_0, vi i89_0, vr b18, vi w2_145, vi r150, vi r152, vi r153, vr x'_234, .unset, .unset, .unset] [(.int (w2_145 + (2 : Int32))), (.ref b1)])) rfl rfl (hb hby at_283) _ ?_
                refine XS.iload X234.here hx rfl (hb hby at_284) rfl ?_
                exact k
              by_cases hc286_248 : (fn13 ((w2_145 + (2 : Int32))).toNatClampNeg) = r153
              · refine GoalW.lift (B := (T234.setTop (mkF m 294 #[vj q1, .second, vi p2, vi p3, vr b1, vi ln, vi (3 : Int32), vi i73_0, vi i89_0, vr b18, vi w2_145, vi r150, vi r152, vi r153, vr x'_234, .unset, .unset, .unset] [(.int (1 : Int32))]))) (fun t k => ?_) ?_
                · show Steps p.tables e below (T234.setTop (mkF m 286 #[vj q1, .second, vi p2, vi p3, vr b1, vi ln, vi (3 : Int32), vi i73_0, vi i89_0, vr b18, vi w2_145, vi r150, vi r152, vi r153, vr x'_234, .unset, .unset, .unset] [(.int r153), (.int (fn13 ((w2_145 + (2 : Int32))).toNatClampNeg))])) _
                  refine XS.icmpNo X234.here hx rfl (hb hby at_286) rfl ((teq hc286_248).2) ?_
                  refine XS.iconst X234.here hx rfl (hb hby at_289) ?_
                  refine XS.goto X234.here hx rfl (pc0 := 290) (pc' := 294) rfl (hb hby at_290) (by decide) (by decide) ?_
                  exact k
                exact J234_240 _ (by simp only [if_neg hc234_241, if_pos hc250_244, if_pos hc268_246, if_pos hc286_248])
              · refine GoalW.lift (B := (T234.setTop (mkF m 294 #[vj q1, .second, vi p2, vi p3, vr b1, vi ln, vi (3 : Int32), vi i73_0, vi i89_0, vr b18, vi w2_145, vi r150, vi r152, vi r153, vr x'_234, .unset, .unset, .unset] [(.int (0 : Int32))]))) (fun t k => ?_) ?_
                · show Steps p.tables e below (T234.setTop (mkF m 286 #[vj q1, .second, vi p2, vi p3, vr b1, vi ln, vi (3 : Int32), vi i73_0, vi i89_0, vr b18, vi w2_145, vi r150, vi r152, vi r153, vr x'_234, .unset, .unset, .unset] [(.int r153), (.int (fn13 ((w2_145 + (2 : Int32))).toNatClampNeg))])) _
                  refine XS.icmpYes X234.here hx rfl (pc0 := 286) (pc' := 293) rfl (hb hby at_286) rfl ((feq hc286_248).2) (by decide) (by decide) ?_
                  refine XS.iconst X234.here hx rfl (hb hby at_293) ?_
                  exact k
                exact J234_240 _ (by simp only [if_neg hc234_241, if_pos hc250_244, if_pos hc268_246, if_neg hc286_248])
            · refine GoalW.lift (B := (T234.setTop (mkF m 294 #[vj q1, .second, vi p2, vi p3, vr b1, vi ln, vi (3 : Int32), vi i73_0, vi i89_0, vr b18, vi w2_145, vi r150, vi r152, vi r153, vr x'_234, .unset, .unset, .unset] [(.int (0 : Int32))]))) (fun t k => ?_) ?_
              · show Steps p.tables e below (T234.setTop (mkF m 268 #[vj q1, .second, vi p2, vi p3, vr b1, vi ln, vi (3 : Int32), vi i73_0, vi i89_0, vr b18, vi w2_145, vi r150, vi r152, vi r153, vr x'_234, .unset, .unset, .unset] [(.int r152), (.int (fn13 ((w2_145 + (1 : Int32))).toNatClampNeg))])) _
                refine XS.icmpYes X234.here hx rfl (pc0 := 268) (pc' := 293) rfl (hb hby at_268) rfl ((feq hc268_246).2) (by decide) (by decide) ?_
                refine XS.iconst X234.here hx rfl (hb hby at_293) ?_
                exact k
              exact J234_240 _ (by simp only [if_neg hc234_241, if_pos hc250_244, if_neg hc268_246])
          · refine GoalW.lift (B := (T234.setTop (mkF m 294 #[vj q1, .second, vi p2, vi p3, vr b1, vi ln, vi (3 : Int32), vi i73_0, vi i89_0, vr b18, vi w2_145, vi r150, vi r152, vi r153, vr x'_234, .unset, .unset, .unset] [(.int (0 : Int32))]))) (fun t k => ?_) ?_
            · show Steps p.tables e below (T234.setTop (mkF m 250 #[vj q1, .second, vi p2, vi p3, vr b1, vi ln, vi (3 : Int32), vi i73_0, vi i89_0, vr b18, vi w2_145, vi r150, vi r152, vi r153, vr x'_234, .unset, .unset, .unset] [(.int r150), (.int (fn13 (w2_145).toNatClampNeg))])) _
              refine XS.icmpYes X234.here hx rfl (pc0 := 250) (pc' := 293) rfl (hb hby at_250) rfl ((feq hc250_244).2) (by decide) (by decide) ?_
              refine XS.iconst X234.here hx rfl (hb hby at_293) ?_
              exact k
            exact J234_240 _ (by simp only [if_neg hc234_241, if_neg hc250_244])
      intro i234_0 h_i234_0
      refine GoalW.lift (B := (T234.setTop (mkF m 298 #[vj q1, .second, vi p2, vi p3, vr b1, vi ln, vi (3 : Int32), vi i73_0, vi i89_0, vr b18, vi w2_145, vi r150, vi r152, vi r153, vr x'_234, vi i234_0, .unset, .unset] [(.int i234_0)]))) (fun t k => ?_) ?_
      · show Steps p.tables e below (T234.setTop (mkF m 294 #[vj q1, .second, vi p2, vi p3, vr b1, vi ln, vi (3 : Int32), vi i73_0, vi i89_0, vr b18, vi w2_145, vi r150, vi r152, vi r153, vr x'_234, .unset, .unset, .unset] [(.int i234_0)])) _
        refine XS.istore X234.here hx rfl (hb hby at_294) rfl (l' := #[vj q1, .second, vi p2, vi p3, vr b1, vi ln, vi (3 : Int32), vi i73_0, vi i89_0, vr b18, vi w2_145, vi r150, vi r152, vi r153, vr x'_234, vi i234_0, .unset, .unset]) rfl ?_
        refine XS.iload X234.here hx rfl (hb hby at_296) rfl ?_
        exact k
      suffices J298_249 : ∀ (i298_0 : Int32), i298_0 = (if i234_0 = (0 : Int32) then w2_145 else (w2_145 + (3 : Int32))) → GoalW p.tables e below s 24 1408 (Q0 Z q1 p2 p3 zcs fm h0 n0) (T234.setTop (mkF m 311 #[vj q1, .second, vi p2, vi p3, vr b1, vi ln, vi (3 : Int32), vi i73_0, vi i89_0, vr b18, vi w2_145, vi r150, vi r152, vi r153, vr x'_234, vi i234_0, .unset, .unset] [(.int i298_0)])) by
        by_cases hc298_250 : i234_0 = (0 : Int32)
        · refine GoalW.lift (B := (T234.setTop (mkF m 311 #[vj q1, .second, vi p2, vi p3, vr b1, vi ln, vi (3 : Int32), vi i73_0, vi i89_0, vr b18, vi w2_145, vi r150, vi r152, vi r153, vr x'_234, vi i234_0, .unset, .unset] [(.int w2_145)]))) (fun t k => ?_) ?_
          · show Steps p.tables e below (T234.setTop (mkF m 298 #[vj q1, .second, vi p2, vi p3, vr b1, vi ln, vi (3 : Int32), vi i73_0, vi i89_0, vr b18, vi w2_145, vi r150, vi r152, vi r153, vr x'_234, vi i234_0, .unset, .unset] [(.int i234_0)])) _
            refine XS.ifYes X234.here hx rfl (pc0 := 298) (pc' := 309) rfl (hb hby at_298) rfl ((if0 _ _).trans (teq hc298_250).1) (by decide) (by decide) ?_
            refine XS.iload X234.here hx rfl (hb hby at_309) rfl ?_
            exact k
          exact J298_249 _ (by simp only [if_pos hc298_250])
        · refine GoalW.lift (B := (T234.setTop (mkF m 311 #[vj q1, .second, vi p2, vi p3, vr b1, vi ln, vi (3 : Int32), vi i73_0, vi i89_0, vr b18, vi w2_145, vi r150, vi r152, vi r153, vr x'_234, vi i234_0, .unset, .unset] [(.int (w2_145 + (3 : Int32)))]))) (fun t k => ?_) ?_
          · show Steps p.tables e below (T234.setTop (mkF m 298 #[vj q1, .second, vi p2, vi p3, vr b1, vi ln, vi (3 : Int32), vi i73_0, vi i89_0, vr b18, vi w2_145, vi r150, vi r152, vi r153, vr x'_234, vi i234_0, .unset, .unset] [(.int i234_0)])) _
            refine XS.ifNo X234.here hx rfl (hb hby at_298) rfl ((if0 _ _).trans (feq hc298_250).1) ?_
            refine XS.iload X234.here hx rfl (hb hby at_301) rfl ?_
            refine XS.iload X234.here hx rfl (hb hby at_303) rfl ?_
            refine XS.iadd X234.here hx rfl (hb hby at_305) rfl ?_
            refine XS.goto X234.here hx rfl (pc0 := 306) (pc' := 311) rfl (hb hby at_306) (by decide) (by decide) ?_
            exact k
          exact J298_249 _ (by simp only [if_neg hc298_250])
      intro i298_0 h_i298_0
      have f252 : Sta Z T234.heap "java/lang/String" "COMPACT_STRINGS" "Z" (.int zcs) := (StaKeep f235 p234_0 ns236)
      have f253 : Sta Z T234.heap "jdk/internal/util/Preconditions" "SIOOBE_FORMATTER" "Ljava/util/function/BiFunction;" fm := (StaKeep (StaKeep (StaKeep (((((((S_SIOOBE_FORMATTER.ext E1).wr W3).wr W5).wr W7).wr W9).wr W11).ext E18) p20_0 ns22) p145_0 ns147) p234_0 ns236)
      have f254 : Exa Z T234.heap b18 "com/example/verdict/verdict/saml/XmlScanner" := (p145_1.keep p234_0)
      have f255 : Fld Z T234.heap b18 "com/example/verdict/verdict/saml/XmlScanner" "pos" "I" (.int w2_145) := (p145_2.keep p234_0 nin0)
      have f256 : Fld Z T234.heap b18 "com/example/verdict/verdict/saml/XmlScanner" "end" "I" (.int ln) := (p145_3.keep p234_0 nin0)
      have f257 : Fld Z T234.heap b18 "com/example/verdict/verdict/saml/XmlScanner" "doc" "[B" (.ref b1) := (p145_4.keep p234_0 nin0)
      have f258 : AV Z T234.heap b1 k1 .byte 5 (fun i => Value.int (fn13 i)) := (f151.keep p234_0 nin0)
      obtain ⟨cq251, kq251, q251a, q251b, q251c⟩ := isOf hZ rfl f254
      obtain ⟨_, _, ⟨T251, L251, k251, n251⟩, -, X251, ⟨Lc251, hQ251, l251, y251, z251⟩, st251⟩ := X234.virtualBack hx (y := (⟨"com/example/verdict/verdict/saml/XmlScanner", "skip", "(Ljava/lang/String;)Z"⟩ : MethodName)) (z := (⟨"com/example/verdict/verdict/saml/XmlScanner", "skip", "(Ljava/lang/String;)Z"⟩ : MethodName)) hown (mvT hZ (hw _ (List.mem_of_getElem? (i := 57) rfl))) (mvT hZ (hw _ (List.mem_of_getElem? (i := 58) rfl))) (notFace_of_selects (args := #[]) (mvT hZ (hw _ (List.mem_of_getElem? (i := 60) rfl)))) (mvT hZ (hw _ (List.mem_of_getElem? (i := 60) rfl))) (mvT hZ (hw _ (List.mem_of_getElem? (i := 59) rfl))) (by decide) (backOf (W := 0) (rmsk3 l Z a0 hw [] b18 x'_234 w2_145 zcs fm ln b1 k1 fn13 t'_234 k'_234 (own_s3 r150 r152 r153) T234.heap n0 z237 f252 hCS f253 hfm f254 g_b18 f255 f256 f257 f258 p234_4 p234_5 p234_6 p234_7 ne_b18_x'_234 ne_b18_t'_234 (Ne.symm ne_b1_b18) (own_s3ok hr150 hr152 hr153) hp) hZ (hw _ (List.mem_of_getElem? (i := 61) rfl)) (hw _ (List.mem_of_getElem? (i := 3) rfl)) (by decide) (by decide)) q251a q251c (g := (mkF m 317 #[vj q1, .second, vi p2, vi p3, vr b1, vi ln, vi (3 : Int32), vi i73_0, vi i89_0, vr b18, vi w2_145, vi r150, vi r152, vi r153, vr x'_234, vi i234_0, vi i298_0, .unset] [(.ref x'_234), (.ref b18)])) rfl (by rw [hml]; rfl) (Steps.refl _) (argsL := [(.ref x'_234)]) (rest := []) (lenOf pd_9 rfl) rfl (by show 2 * 0 + _ ≤ _; exact Nat.le_of_eq rfl) (hb hby at_317) (fun _ _ => ⟨rfl, rfl, (by decide : 6 + 0 ≤ _), (by decide : 148 + 0 ≤ _)⟩)
      dsimp only [Pt.U, Pt.locs, Pt.cells, Pt.slots] at X251 l251 y251 z251 st251 hQ251
      subst y251 z251
      obtain ⟨w2_251, rfl, N251q, p251_0, p251_1, p251_2, p251_3, p251_4⟩ := hQ251
      have N251 : Fr n0 L251 := by rw [l251]; exact Fr.app N234 N251q
      have ns259 : ∀ x ∈ ([b18] : List Addr), ∀ cell : Cell, T234.heap[x]? = some cell → cell.vm.isStatics = false := (allS (Exa.ns f254) all0)
      have z260 : n0 ≤ T251.heap.size := Nat.le_trans z237 p251_0.1
      have hsw : (own_sw3 w2_145 ln fn13 (own_s3 r150 r152 r153)) = i234_0 := own_e3 h_i234_0
      obtain ⟨cq261, kq261, q261a, q261b, q261c⟩ := isOf hZ rfl p251_1
      obtain ⟨_, _, ⟨T261, L261, k261, n261⟩, -, X261, ⟨Lc261, hQ261, l261, y261, z261⟩, st261⟩ := X251.virtualBack hx (y := (⟨"com/example/verdict/verdict/saml/XmlScanner", "position", "()I"⟩ : MethodName)) (z := (⟨"com/example/verdict/verdict/saml/XmlScanner", "position", "()I"⟩ : MethodName)) hown (mvT hZ (hw _ (List.mem_of_getElem? (i := 24) rfl))) (mvT hZ (hw _ (List.mem_of_getElem? (i := 25) rfl))) (notFace_of_selects (args := #[]) (mvT hZ (hw _ (List.mem_of_getElem? (i := 27) rfl)))) (mvT hZ (hw _ (List.mem_of_getElem? (i := 27) rfl))) (mvT hZ (hw _ (List.mem_of_getElem? (i := 26) rfl))) (by decide) (backOf (W := 0) (rm5 l Z a0 hw [] b18 w2_251 T251.heap n0 z260 p251_2) hZ (hw _ (List.mem_of_getElem? (i := 28) rfl)) (hw _ (List.mem_of_getElem? (i := 3) rfl)) (by decide) (by decide)) q261a q261c (g := (mkF m 331 #[vj q1, .second, vi p2, vi p3, vr b1, vi ln, vi (3 : Int32), vi i73_0, vi i89_0, vr b18, vi w2_145, vi r150, vi r152, vi r153, vr x'_234, vi i234_0, vi i298_0, vi (own_sw3 w2_145 ln fn13 (own_s3 r150 r152 r153))] [(.ref b18)])) rfl (by rw [hml]; rfl) (Steps.refl _) (argsL := []) (rest := []) (lenOf pd_7 rfl) rfl (by show 2 * 0 + _ ≤ _; exact Nat.le_of_eq rfl) (hb hby at_331) (fun _ _ => ⟨rfl, rfl, (by decide : 6 + 0 ≤ _), (by decide : 148 + 0 ≤ _)⟩)
      dsimp only [Pt.U, Pt.locs, Pt.cells, Pt.slots] at X261 l261 y261 z261 st261 hQ261
      subst y261 z261
      obtain ⟨rfl, N261q, eq261⟩ := hQ261
      have N261 : Fr n0 L261 := by rw [l261]; exact Fr.app N251 N261q
      have hps : w2_251 = i298_0 := by rw [p251_4, hsw, h_i298_0]
      obtain ⟨cq262, kq262, q262a, q262b, q262c⟩ := isOf hZ eq261 p251_1
      obtain ⟨_, _, ⟨T262, L262, k262, n262⟩, -, X262, ⟨Lc262, hQ262, l262, y262, z262⟩, st262⟩ := X261.virtualBack hx (y := (⟨"com/example/verdict/verdict/saml/XmlScanner", "atEnd", "()Z"⟩ : MethodName)) (z := (⟨"com/example/verdict/verdict/saml/XmlScanner", "atEnd", "()Z"⟩ : MethodName)) hown (mvT hZ (hw _ (List.mem_of_getElem? (i := 82) rfl))) (mvT hZ (hw _ (List.mem_of_getElem? (i := 83) rfl))) (notFace_of_selects (args := #[]) (mvT hZ (hw _ (List.mem_of_getElem? (i := 85) rfl)))) (mvT hZ (hw _ (List.mem_of_getElem? (i := 85) rfl))) (mvT hZ (hw _ (List.mem_of_getElem? (i := 84) rfl))) (by decide) (backOf (W := 0) (rm15 l Z a0 hw [] b18 w2_251 ln T251.heap n0 z260 p251_2 p251_3) hZ (hw _ (List.mem_of_getElem? (i := 86) rfl)) (hw _ (List.mem_of_getElem? (i := 3) rfl)) (by decide) (by decide)) q262a q262c (g := (mkF m 341 #[vj q1, .second, vi p2, vi p3, vr b1, vi ln, vi (3 : Int32), vi i73_0, vi i89_0, vr b18, vi w2_145, vi r150, vi r152, vi r153, vr x'_234, vi i234_0, vi i298_0, vi (own_sw3 w2_145 ln fn13 (own_s3 r150 r152 r153))] [(.ref b18)])) rfl (by rw [hml]; rfl) (Steps.refl _) (argsL := []) (rest := []) (lenOf pd_5 rfl) rfl (by show 2 * 0 + _ ≤ _; exact Nat.le_of_eq rfl) (hb hby at_341) (fun _ _ => ⟨rfl, eq261, (by decide : 6 + 0 ≤ _), (by decide : 148 + 0 ≤ _)⟩)
      dsimp only [Pt.U, Pt.locs, Pt.cells, Pt.slots] at X262 l262 y262 z262 st262 hQ262
      subst y262 z262
      obtain ⟨r262, rfl, hr262, N262q, eq262⟩ := hQ262
      have N262 : Fr n0 L262 := by rw [l262]; exact Fr.app N261 N262q
      refine GoalW.lift (B := (T262.setTop (mkF m 348 #[vj q1, .second, vi p2, vi p3, vr b1, vi ln, vi (3 : Int32), vi i73_0, vi i89_0, vr b18, vi w2_145, vi r150, vi r152, vi r153, vr x'_234, vi i234_0, vi i298_0, vi (own_sw3 w2_145 ln fn13 (own_s3 r150 r152 r153))] [(.int ln), (.int i298_0), (.int r262)]))) (fun t k => ?_) ?_
      · show Steps p.tables e below (T234.setTop (mkF m 311 #[vj q1, .second, vi p2, vi p3, vr b1, vi ln, vi (3 : Int32), vi i73_0, vi i89_0, vr b18, vi w2_145, vi r150, vi r152, vi r153, vr x'_234, vi i234_0, .unset, .unset] [(.int i298_0)])) _
        refine XS.istore X234.here hx rfl (hb hby at_311) rfl (l' := #[vj q1, .second, vi p2, vi p3, vr b1, vi ln, vi (3 : Int32), vi i73_0, vi i89_0, vr b18, vi w2_145, vi r150, vi r152, vi r153, vr x'_234, vi i234_0, vi i298_0, .unset]) rfl ?_
        refine XS.aload X234.here hx rfl (hb hby at_313) rfl rfl ?_
        refine XS.aload X234.here hx rfl (hb hby at_315) rfl rfl ?_
        refine st251.trans ?_
        refine XS.istore X251.here hx rfl (hb hby at_320) rfl (l' := #[vj q1, .second, vi p2, vi p3, vr b1, vi ln, vi (3 : Int32), vi i73_0, vi i89_0, vr b18, vi w2_145, vi r150, vi r152, vi r153, vr x'_234, vi i234_0, vi i298_0, vi (own_sw3 w2_145 ln fn13 (own_s3 r150 r152 r153))]) rfl ?_
        refine XS.iload X251.here hx rfl (hb hby at_322) rfl ?_
        show Steps p.tables e below (T251.setTop (mkF m 324 #[vj q1, .second, vi p2, vi p3, vr b1, vi ln, vi (3 : Int32), vi i73_0, vi i89_0, vr b18, vi w2_145, vi r150, vi r152, vi r153, vr x'_234, vi i234_0, vi i298_0, vi (own_sw3 w2_145 ln fn13 (own_s3 r150 r152 r153))] [(.int (own_sw3 w2_145 ln fn13 (own_s3 r150 r152 r153)))])) _
        refine XS.iload X251.here hx rfl (hb hby at_324) rfl ?_
        refine XS.icmpNo X251.here hx rfl (hb hby at_326) rfl ((teq (hsw : (own_sw3 w2_145 ln fn13 (own_s3 r150 r152 r153)) = i234_0)).2) ?_
        refine XS.aload X251.here hx rfl (hb hby at_329) rfl rfl ?_
        refine st261.trans ?_
        refine XS.iload X261.here hx rfl (hb hby at_334) rfl ?_
        refine XS.icmpNo X261.here hx rfl (hb hby at_336) rfl ((teq (hps : w2_251 = i298_0)).2) ?_
        show Steps p.tables e below (T261.setTop (mkF m 339 #[vj q1, .second, vi p2, vi p3, vr b1, vi ln, vi (3 : Int32), vi i73_0, vi i89_0, vr b18, vi w2_145, vi r150, vi r152, vi r153, vr x'_234, vi i234_0, vi i298_0, vi (own_sw3 w2_145 ln fn13 (own_s3 r150 r152 r153))] [])) _
        refine XS.aload X261.here hx rfl (hb hby at_339) rfl rfl ?_
        refine st262.trans ?_
        refine XS.iload X262.here hx rfl (hb hby at_344) rfl ?_
        refine XS.iload X262.here hx rfl (hb hby at_346) rfl ?_
        exact k
      suffices J348_263 : ∀ (i348_0 : Int32), i348_0 = (if i298_0 = ln then (1 : Int32) else (0 : Int32)) → GoalW p.tables e below s 24 1408 (Q0 Z q1 p2 p3 zcs fm h0 n0) (T262.setTop (mkF m 356 #[vj q1, .second, vi p2, vi p3, vr b1, vi ln, vi (3 : Int32), vi i73_0, vi i89_0, vr b18, vi w2_145, vi r150, vi r152, vi r153, vr x'_234, vi i234_0, vi i298_0, vi (own_sw3 w2_145 ln fn13 (own_s3 r150 r152 r153))] [(.int i348_0), (.int r262)])) by
        by_cases hc348_264 : i298_0 = ln
        · refine GoalW.lift (B := (T262.setTop (mkF m 356 #[vj q1, .second, vi p2, vi p3, vr b1, vi ln, vi (3 : Int32), vi i73_0, vi i89_0, vr b18, vi w2_145, vi r150, vi r152, vi r153, vr x'_234, vi i234_0, vi i298_0, vi (own_sw3 w2_145 ln fn13 (own_s3 r150 r152 r153))] [(.int (1 : Int32)), (.int r262)]))) (fun t k => ?_) ?_
          · show Steps p.tables e below (T262.setTop (mkF m 348 #[vj q1, .second, vi p2, vi p3, vr b1, vi ln, vi (3 : Int32), vi i73_0, vi i89_0, vr b18, vi w2_145, vi r150, vi r152, vi r153, vr x'_234, vi i234_0, vi i298_0, vi (own_sw3 w2_145 ln fn13 (own_s3 r150 r152 r153))] [(.int ln), (.int i298_0), (.int r262)])) _
            refine XS.icmpNo X262.here hx rfl (hb hby at_348) rfl ((teq hc348_264).2) ?_
            refine XS.iconst X262.here hx rfl (hb hby at_351) ?_
            refine XS.goto X262.here hx rfl (pc0 := 352) (pc' := 356) rfl (hb hby at_352) (by decide) (by decide) ?_
            exact k
          exact J348_263 _ (by simp only [if_pos hc348_264])
        · refine GoalW.lift (B := (T262.setTop (mkF m 356 #[vj q1, .second, vi p2, vi p3, vr b1, vi ln, vi (3 : Int32), vi i73_0, vi i89_0, vr b18, vi w2_145, vi r150, vi r152, vi r153, vr x'_234, vi i234_0, vi i298_0, vi (own_sw3 w2_145 ln fn13 (own_s3 r150 r152 r153))] [(.int (0 : Int32)), (.int r262)]))) (fun t k => ?_) ?_
          · show Steps p.tables e below (T262.setTop (mkF m 348 #[vj q1, .second, vi p2, vi p3, vr b1, vi ln, vi (3 : Int32), vi i73_0, vi i89_0, vr b18, vi w2_145, vi r150, vi r152, vi r153, vr x'_234, vi i234_0, vi i298_0, vi (own_sw3 w2_145 ln fn13 (own_s3 r150 r152 r153))] [(.int ln), (.int i298_0), (.int r262)])) _
            refine XS.icmpYes X262.here hx rfl (pc0 := 348) (pc' := 355) rfl (hb hby at_348) rfl ((feq hc348_264).2) (by decide) (by decide) ?_
            refine XS.iconst X262.here hx rfl (hb hby at_355) ?_
            exact k
          exact J348_263 _ (by simp only [if_neg hc348_264])
      intro i348_0 h_i348_0
      obtain ⟨fs, hr, hrun, hended, hW, hsame⟩ := X262.leave (v := some (.int (1 : Int32))) (fun h => by rw [Bd.returns] at h; cases h)
      refine ⟨_, _, ?_, hrun, hended, _, _, rfl, ?_, ReturnedEndW.of_narrow ⟨_, rfl⟩ hW (hsame.mono (by decide) (by decide))⟩
      · show Steps p.tables e below (T262.setTop (mkF m 356 #[vj q1, .second, vi p2, vi p3, vr b1, vi ln, vi (3 : Int32), vi i73_0, vi i89_0, vr b18, vi w2_145, vi r150, vi r152, vi r153, vr x'_234, vi i234_0, vi i298_0, vi (own_sw3 w2_145 ln fn13 (own_s3 r150 r152 r153))] [(.int i348_0), (.int r262)])) _
        refine XS.icmpNo X262.here hx rfl (hb hby at_356) rfl ((teq (by rw [hr262, h_i348_0, hps] : r262 = i348_0)).2) ?_
        refine XS.iconst X262.here hx rfl (hb hby at_359) ?_
        refine XS.goto X262.here hx rfl (pc0 := 360) (pc' := 364) rfl (hb hby at_360) (by decide) (by decide) ?_
        exact retN X262 hx (t := .boolean) Bd.returns (by simp) (hb hby at_364) hr
      · exact ⟨rfl, N262⟩
set_option maxRecDepth 65536 in
set_option maxHeartbeats 40000000 in
theorem comes_1 {Post : Tables → Env → Array Value → State → Outcome → State → Prop} (hpost : ∀ tb e args s v u, (limb_1_1.after args s (.returned v) u = true ∧ limb_1_2.after args s (.returned v) u = true ∧ True) → ReturnedEndW s (.returned v) u (Jvm.fieldLocs frame_1_writes args s ++ Jvm.arrayLocs frame_1_arrays args s ++ Jvm.staticLocs frame_1_statics s) 24 1408 → Post tb e args s (.returned v) u) :
    ArmFor flags0 classFile x code maxLocals ret World_1 tables_1 room_1 Calls_1 rest_1 Pre_1 Post := by
  intro l hfl _ _ p e ha hc hk s m args below hf hA hF happ hP
  obtain ⟨hcalls, hrest, hpre⟩ := hP
  obtain ⟨-, -, -, hnamed, -, -, -, hat⟩ := (Spec.applies_iff hf).mp happ
  obtain ⟨hg, hn⟩ := and_e (Cond.before_iff.mp (show (Jvm.Cond.and given_1 narrow_1).before args s = true from hpre))
  obtain ⟨g1, g2⟩ := and_e hg
  obtain ⟨g3, g4⟩ := and_e g2
  obtain ⟨g5, g6⟩ := and_e g4
  obtain ⟨w0, w1, w2, rfl⟩ : ∃ w0 w1 w2 : Value, args = #[w0, w1, w2] := by
    have hs : args.size = 3 := by simpa [Cond.value, given_1] using g1
    obtain ⟨L⟩ := args
    match L, hs with
    | [w0, w1, w2], _ => exact ⟨w0, w1, w2, rfl⟩
  have hw := fun d (hd : d ∈ tables_1) => atoms_spec (ws := Jvm.Cond.code x code maxLocals ret :: tables_1) hat d (List.mem_cons_of_mem _ hd)
  have hfit : Fit s := fun {y c} hc i hi => by
    obtain ⟨ha, rfl⟩ := Array.getElem?_eq_some_iff.mp hc
    have q := List.all_eq_true.mp ((Array.all_eq_true_iff_forall_mem.mp hF) _ (Array.getElem_mem ha)) i (List.mem_range.mpr hi)
    simpa [Array.getElem?_eq_getElem hi] using q
  obtain ⟨hsets, hown0⟩ := atoms_of _ (rest_1_c_eq ▸ (show rest_1_c.before _ s = true from hrest))
  have hr0 := Cond.before_iff.mp hown0
  obtain ⟨i0, ei0⟩ := isL_v g3
  obtain rfl : w0 = (.long i0) := Option.some.inj ei0
  obtain ⟨i1, ei1⟩ := is_v g5
  obtain rfl : w1 = (.int i1) := Option.some.inj ei1
  obtain ⟨i2, ei2⟩ := is_v g6
  obtain rfl : w2 = (.int i2) := Option.some.inj ei2
  have n5 := not_v (Cond.before_iff.mp (hsets _ (List.mem_of_getElem? (i := 2) rfl)))
  obtain ⟨zcs, ezcs⟩ := is_v (Cond.before_iff.mp (hsets _ (List.mem_of_getElem? (i := 1) rfl)))
  have Scs : Sta s s.heap "java/lang/String" "COMPACT_STRINGS" "Z" (.int zcs) := Sta.start ezcs (Or.inl (hsets _ (List.mem_of_getElem? (i := 0) rfl)))
  have hzcs : ¬ (zcs = (0 : Int32)) := gotF (Cond.eq_ints ezcs (Term.int_eval (0))) n5
  obtain ⟨fm, efm, rfm⟩ := isR_v (Cond.before_iff.mp (hsets _ (List.mem_of_getElem? (i := 8) rfl)))
  have Sfm : Sta s s.heap "jdk/internal/util/Preconditions" "SIOOBE_FORMATTER" "Ljava/util/function/BiFunction;" fm := Sta.start efm (Or.inl (hsets _ (List.mem_of_getElem? (i := 7) rfl)))
  have hld0 : Jvm.Lit.constHeld s "java/lang/String" 7 := hcalls.1 ("java/lang/String", 7) (List.mem_cons_self ..)
  have hcw0 := hsets _ (List.mem_of_getElem? (i := 2) rfl)
  obtain ⟨n, o, h1, h2, h3, _, L, rfl, ⟨rfl, N⟩, hq⟩ := rm0 l s _ hw tables_1 i0 i1 i2 zcs fm s.heap s.heap.size (Nat.le_refl _) Scs hzcs Sfm rfm hld0 hcw0 rfl rfl p e ha hc hk s m _ below hf ((Spec.applies_iff_loose hf).mp happ).1 ⟨rfl, State.Warmed39.refl s, rfl, IB.start⟩ trivial
  refine ⟨n, _, h1, h2, h3, hpost _ _ _ _ _ _ ⟨Cond.after_iff.mpr rfl, Cond.after_iff.mpr (eq_i res_at (Term.int_eval (1)) rfl), trivial⟩ ⟨hq.1, hq.2.1, hq.2.2.1, (hq.2.2.2.sift fun y hy => Or.inr (N y hy)).mono (by decide) (by decide)⟩⟩
theorem main_1_1 : Claimed_1_1 := comes_1 fun _ _ _ _ _ _ h hF => ⟨h.1, hF⟩
theorem main_1_2 : Claimed_1_2 := comes_1 fun _ _ _ _ _ _ h hF => ⟨h.2.1, hF⟩
end Jvm.Pilot.@@N@@
namespace Jvm.Pilot.@@N@@
open Jvm Jvm.ClassFile Sem Op Lib Jvm.Free Jvm.Stand Jvm.Pilot.@@N@@.Jvm.D
/-! MADE BY PROGRAM (witnessworld.py) out of the Statement's table words and the real class files: 21 classes; the members and pool entries that the words name. The judged class is class 1, her method 1. -/
namespace start1
open Jvm.ClassFile
def u (s : String) : CpInfo := .utf8 (stringToUtf16 s)
/-- a pool by its gaps: so many unusable entries, then the entry; so many at the end -/
def gap : Nat → List CpInfo → List CpInfo
  | 0, r => r
  | n + 1, r => .unusable :: gap n r
def poolList (es : List (Nat × CpInfo)) (last : Nat) : List CpInfo := es.foldr (fun e r => gap e.1 (e.2 :: r)) (gap last [])
def pool (es : List (Nat × CpInfo)) (last : Nat) : Array CpInfo := ⟨poolList es last⟩
def fileOf (pool : Array CpInfo) (this : Nat) (attrs : Array Attribute := #[]) (ms : Array MethodInfo := #[]) (fl : Nat := 33) (sup : Nat := 0) (ifs : Array Nat := #[]) (fds : Array FieldInfo := #[]) : ClassFile where
  minorVersion := 0
  majorVersion := 65
  constantPool := pool
  accessFlags := fl
  thisClass := this
  superClass := sup
  interfaces := ifs
  fields := fds
  methods := ms
  attributes := attrs
def plain (name : String) (sup : Option ClassId) : Class where
  name := name
  kind := .ordinary
  loader := none
  accessFlags := 33
  super := sup
  interfaces := #[]
  cf := none
  fields := #[]
  methods := #[]
  instanceTypes := #[]
  staticTypes := #[]
  resolved := #[]
  callSites := []
  init := .initialized
  statics := none
  mirror := none

def pool0 : Array CpInfo := pool [(5, u "<init>"), (0, u "()V"), (1, .class_ 10), (1, u "java/lang/Object")] 113

def k0c0 : Code := { maxStack := 0, maxLocals := 1, code := object_method_1_code, exceptionTable := #[], attributes := #[] }
def k0m0 : Method := { name := "<init>", desc := "()V", sig := { parameters := [], returnType := none }, accessFlags := 1, code := some k0c0 }
/-- java/lang/Object -/
def k0 : Class := { plain "java/lang/Object" none with
  accessFlags := 33
  interfaces := #[]
  cf := some (fileOf pool0 8 #[] #[{ accessFlags := 1, nameIndex := 5, descriptorIndex := 6, attributes := #[] }] 33 0 #[] #[])
  fields := #[]
  methods := #[k0m0]
  instanceTypes := #[]
  staticTypes := #[]
  resolved := Array.replicate 124 none
  statics := none }

def pool1 : Array CpInfo := pool [(2, .class_ 4), (1, u "java/lang/Object"), (0, u "<init>"), (0, u "()V"), (0, .class_ 8), (0, u "com/example/verdict/verdict/saml/XmlScanner"), (0, .methodref 7 10), (0, .nameAndType 5 11), (0, u "([BI)V"), (0, .methodref 7 13), (0, .nameAndType 14 15), (0, u "skip"), (0, u "(C)Z"), (0, .methodref 7 17), (0, .nameAndType 18 19), (0, u "position"), (0, u "()I"), (0, .methodref 21 22), (0, .class_ 23), (0, .nameAndType 24 25), (0, u "com/example/verdict/verdict/saml/XmlScannerSkipPinLaw"), (0, u "pick"), (0, u "([BIIII)C"), (0, .methodref 21 27), (0, .nameAndType 28 29), (0, u "make"), (0, u "(ICCC)Ljava/lang/String;"), (0, .methodref 7 31), (0, .nameAndType 14 32), (0, u "(Ljava/lang/String;)Z"), (0, .methodref 7 34), (0, .nameAndType 35 36), (0, u "atEnd"), (0, u "()Z"), (0, .class_ 38), (0, u "java/lang/String"), (0, .methodref 37 40), (0, .nameAndType 5 41), (0, u "([C)V"), (2, u "law"), (0, u "(JII)Z")] 5

def k1m0 : Method := { name := "<init>", desc := "()V", sig := { parameters := [], returnType := none }, accessFlags := 1, code := none }
def k1c1 : Code := { maxStack := 5, maxLocals := 18, code := code, exceptionTable := #[], attributes := #[] }
def k1m1 : Method := { name := "law", desc := "(JII)Z", sig := { parameters := [.long, .int, .int], returnType := some .boolean }, accessFlags := 9, code := some k1c1 }
def k1c2 : Code := { maxStack := 3, maxLocals := 6, code := method_3_code, exceptionTable := #[], attributes := #[] }
def k1m2 : Method := { name := "pick", desc := "([BIIII)C", sig := { parameters := [(.array .byte), .int, .int, .int, .int], returnType := some .char }, accessFlags := 10, code := some k1c2 }
def k1c3 : Code := { maxStack := 6, maxLocals := 4, code := method_4_code, exceptionTable := #[], attributes := #[] }
def k1m3 : Method := { name := "make", desc := "(ICCC)Ljava/lang/String;", sig := { parameters := [.int, .char, .char, .char], returnType := some (.object "java/lang/String") }, accessFlags := 10, code := some k1c3 }
/-- com/example/verdict/verdict/saml/XmlScannerSkipPinLaw -/
def k1 : Class := { plain "com/example/verdict/verdict/saml/XmlScannerSkipPinLaw" (some 0) with
  accessFlags := 49
  interfaces := #[]
  cf := some (fileOf pool1 21 #[] #[{ accessFlags := 1, nameIndex := 5, descriptorIndex := 6, attributes := #[] }, { accessFlags := 9, nameIndex := 44, descriptorIndex := 45, attributes := #[] }, { accessFlags := 10, nameIndex := 24, descriptorIndex := 25, attributes := #[] }, { accessFlags := 10, nameIndex := 28, descriptorIndex := 29, attributes := #[] }] 49 2 #[] #[])
  fields := #[]
  methods := #[k1m0, k1m1, k1m2, k1m3]
  instanceTypes := #[]
  staticTypes := #[]
  resolved := Array.replicate 51 none
  statics := none }

def pool2 : Array CpInfo := pool [(1, .methodref 2 3), (0, .class_ 4), (0, .nameAndType 5 6), (0, u "java/lang/Object"), (0, u "<init>"), (0, u "()V"), (0, .fieldref 8 9), (0, .class_ 10), (0, .nameAndType 11 12), (0, u "com/example/verdict/verdict/saml/XmlScanner"), (0, u "text"), (0, u "[B"), (0, .methodref 14 15), (0, .class_ 16), (0, .nameAndType 17 18), (0, u "java/util/Objects"), (0, u "checkFromIndexSize"), (0, u "(III)I"), (0, .fieldref 8 20), (0, .nameAndType 21 12), (0, u "doc"), (0, .fieldref 8 23), (0, .nameAndType 24 25), (0, u "end"), (0, u "I"), (0, .fieldref 8 27), (0, .nameAndType 28 25), (0, u "pos"), (0, .methodref 8 30), (0, .nameAndType 31 32), (0, u "startsWith"), (0, u "(ILjava/lang/String;)Z"), (0, .methodref 8 34), (0, .nameAndType 35 36), (0, u "lookingAt"), (0, u "(Ljava/lang/String;)Z"), (0, .methodref 38 39), (0, .class_ 40), (0, .nameAndType 41 42), (0, u "java/lang/String"), (0, u "length"), (0, u "()I"), (2, u "skip"), (0, u "(C)Z"), (39, u "textLength"), (34, u "()Z"), (7, .methodref 38 130), (0, .nameAndType 131 132), (0, u "charAt"), (0, u "(I)C"), (110, u "CLASSES"), (7, u "NOT_WELL_FORMED"), (0, u "Ljava/lang/String;"), (1, u "NAME"), (1, u "TEXT"), (1, u "VALUE"), (1, u "SPACE"), (1, u "([BI)V"), (2, u "position"), (0, u "atEnd")] 21

def k2c0 : Code := { maxStack := 3, maxLocals := 3, code := prog_45_method_1_code, exceptionTable := #[], attributes := #[] }
def k2m0 : Method := { name := "<init>", desc := "([BI)V", sig := { parameters := [(.array .byte), .int], returnType := none }, accessFlags := 0, code := some k2c0 }
def k2c1 : Code := { maxStack := 1, maxLocals := 1, code := prog_45_method_2_code, exceptionTable := #[], attributes := #[] }
def k2m1 : Method := { name := "position", desc := "()I", sig := { parameters := [], returnType := some .int }, accessFlags := 0, code := some k2c1 }
def k2c2 : Code := { maxStack := 2, maxLocals := 1, code := prog_45_method_3_code, exceptionTable := #[], attributes := #[] }
def k2m2 : Method := { name := "atEnd", desc := "()Z", sig := { parameters := [], returnType := some .boolean }, accessFlags := 0, code := some k2c2 }
def k2c3 : Code := { maxStack := 3, maxLocals := 2, code := prog_45_method_4_code, exceptionTable := #[], attributes := #[] }
def k2m3 : Method := { name := "lookingAt", desc := "(Ljava/lang/String;)Z", sig := { parameters := [(.object "java/lang/String")], returnType := some .boolean }, accessFlags := 0, code := some k2c3 }
def k2c4 : Code := { maxStack := 3, maxLocals := 3, code := prog_45_method_5_code, exceptionTable := #[], attributes := #[] }
def k2m4 : Method := { name := "skip", desc := "(Ljava/lang/String;)Z", sig := { parameters := [(.object "java/lang/String")], returnType := some .boolean }, accessFlags := 0, code := some k2c4 }
def k2c5 : Code := { maxStack := 3, maxLocals := 3, code := prog_45_method_6_code, exceptionTable := #[], attributes := #[] }
def k2m5 : Method := { name := "skip", desc := "(C)Z", sig := { parameters := [.char], returnType := some .boolean }, accessFlags := 0, code := some k2c5 }
def k2c6 : Code := { maxStack := 3, maxLocals := 4, code := prog_45_method_34_code, exceptionTable := #[], attributes := #[] }
def k2m6 : Method := { name := "startsWith", desc := "(ILjava/lang/String;)Z", sig := { parameters := [.int, (.object "java/lang/String")], returnType := some .boolean }, accessFlags := 2, code := some k2c6 }
/-- com/example/verdict/verdict/saml/XmlScanner -/
def k2 : Class := { plain "com/example/verdict/verdict/saml/XmlScanner" (some 0) with
  accessFlags := 48
  interfaces := #[]
  cf := some (fileOf pool2 8 #[] #[{ accessFlags := 0, nameIndex := 5, descriptorIndex := 262, attributes := #[] }, { accessFlags := 0, nameIndex := 265, descriptorIndex := 42, attributes := #[] }, { accessFlags := 0, nameIndex := 266, descriptorIndex := 121, attributes := #[] }, { accessFlags := 0, nameIndex := 35, descriptorIndex := 36, attributes := #[] }, { accessFlags := 0, nameIndex := 45, descriptorIndex := 36, attributes := #[] }, { accessFlags := 0, nameIndex := 45, descriptorIndex := 46, attributes := #[] }, { accessFlags := 2, nameIndex := 31, descriptorIndex := 32, attributes := #[] }] 48 2 #[] #[{ accessFlags := 24, nameIndex := 251, descriptorIndex := 252, attributes := #[] }, { accessFlags := 26, nameIndex := 254, descriptorIndex := 25, attributes := #[] }, { accessFlags := 26, nameIndex := 256, descriptorIndex := 25, attributes := #[] }, { accessFlags := 26, nameIndex := 258, descriptorIndex := 25, attributes := #[] }, { accessFlags := 26, nameIndex := 260, descriptorIndex := 25, attributes := #[] }, { accessFlags := 26, nameIndex := 243, descriptorIndex := 12, attributes := #[] }, { accessFlags := 18, nameIndex := 21, descriptorIndex := 12, attributes := #[] }, { accessFlags := 18, nameIndex := 24, descriptorIndex := 25, attributes := #[] }, { accessFlags := 2, nameIndex := 28, descriptorIndex := 25, attributes := #[] }, { accessFlags := 2, nameIndex := 11, descriptorIndex := 12, attributes := #[] }, { accessFlags := 2, nameIndex := 86, descriptorIndex := 25, attributes := #[] }])
  fields := #[{ name := "NOT_WELL_FORMED", type := (.object "java/lang/String"), accessFlags := 24, slot := 0, constantValue := 0 }, { name := "NAME", type := .int, accessFlags := 26, slot := 1, constantValue := 0 }, { name := "TEXT", type := .int, accessFlags := 26, slot := 2, constantValue := 0 }, { name := "VALUE", type := .int, accessFlags := 26, slot := 3, constantValue := 0 }, { name := "SPACE", type := .int, accessFlags := 26, slot := 4, constantValue := 0 }, { name := "CLASSES", type := (.array .byte), accessFlags := 26, slot := 5, constantValue := 0 }, { name := "doc", type := (.array .byte), accessFlags := 18, slot := 0, constantValue := 0 }, { name := "end", type := .int, accessFlags := 18, slot := 1, constantValue := 0 }, { name := "pos", type := .int, accessFlags := 2, slot := 2, constantValue := 0 }, { name := "text", type := (.array .byte), accessFlags := 2, slot := 3, constantValue := 0 }, { name := "textLength", type := .int, accessFlags := 2, slot := 4, constantValue := 0 }]
  methods := #[k2m0, k2m1, k2m2, k2m3, k2m4, k2m5, k2m6]
  instanceTypes := #[(.array .byte), .int, .int, (.array .byte), .int]
  staticTypes := #[(.object "java/lang/String"), .int, .int, .int, .int, (.array .byte)]
  resolved := Array.replicate 288 none
  statics := none }

def pool3 : Array CpInfo := pool [(2, .class_ 4), (1, u "java/lang/Object"), (0, u "<init>"), (0, u "()V"), (35, .class_ 44), (1, u "java/util/Objects"), (61, .class_ 108), (1, u "jdk/internal/util/Preconditions"), (5, u "(IIILjava/util/function/BiFunction;)I"), (0, .methodref 106 116), (0, .nameAndType 117 114), (0, u "checkFromIndexSize"), (57, u "(III)I")] 8

def k3m0 : Method := { name := "<init>", desc := "()V", sig := { parameters := [], returnType := none }, accessFlags := 2, code := none }
def k3c1 : Code := { maxStack := 4, maxLocals := 3, code := jdk_31_method_19_code, exceptionTable := #[], attributes := #[] }
def k3m1 : Method := { name := "checkFromIndexSize", desc := "(III)I", sig := { parameters := [.int, .int, .int], returnType := some .int }, accessFlags := 9, code := some k3c1 }
/-- java/util/Objects -/
def k3 : Class := { plain "java/util/Objects" (some 0) with
  accessFlags := 49
  interfaces := #[]
  cf := some (fileOf pool3 42 #[] #[{ accessFlags := 2, nameIndex := 5, descriptorIndex := 6, attributes := #[] }, { accessFlags := 9, nameIndex := 117, descriptorIndex := 175, attributes := #[] }] 49 2 #[] #[])
  fields := #[]
  methods := #[k3m0, k3m1]
  instanceTypes := #[]
  staticTypes := #[]
  resolved := Array.replicate 184 none
  statics := none }

def pool4 : Array CpInfo := pool [(2, .class_ 4), (1, u "java/lang/Object"), (0, u "<init>"), (0, u "()V"), (17, .class_ 26), (1, u "jdk/internal/util/Preconditions"), (6, u "checkIndex"), (15, u "checkFromIndexSize"), (5, .class_ 56), (0, u "jdk/internal/util/Preconditions$4"), (57, .class_ 115), (0, u "jdk/internal/util/Preconditions$1"), (7, u "SIOOBE_FORMATTER"), (0, u "Ljava/util/function/BiFunction;"), (0, .class_ 126), (0, u "jdk/internal/util/Preconditions$2"), (3, u "AIOOBE_FORMATTER"), (0, .class_ 132), (0, u "jdk/internal/util/Preconditions$3"), (3, u "IOOBE_FORMATTER"), (41, u "(IILjava/util/function/BiFunction;)I"), (4, u "(IIILjava/util/function/BiFunction;)I")] 10

def k4m0 : Method := { name := "<init>", desc := "()V", sig := { parameters := [], returnType := none }, accessFlags := 1, code := none }
def k4c1 : Code := { maxStack := 3, maxLocals := 3, code := jdk_41_method_11_code, exceptionTable := #[], attributes := #[] }
def k4m1 : Method := { name := "checkIndex", desc := "(IILjava/util/function/BiFunction;)I", sig := { parameters := [.int, .int, (.object "java/util/function/BiFunction")], returnType := some .int }, accessFlags := 9, code := some k4c1 }
def k4c2 : Code := { maxStack := 4, maxLocals := 4, code := jdk_41_method_13_code, exceptionTable := #[], attributes := #[] }
def k4m2 : Method := { name := "checkFromIndexSize", desc := "(IIILjava/util/function/BiFunction;)I", sig := { parameters := [.int, .int, .int, (.object "java/util/function/BiFunction")], returnType := some .int }, accessFlags := 9, code := some k4c2 }
/-- jdk/internal/util/Preconditions -/
def k4 : Class := { plain "jdk/internal/util/Preconditions" (some 0) with
  accessFlags := 33
  interfaces := #[]
  cf := some (fileOf pool4 24 #[.nestMembers #[55, 131, 125, 114]] #[{ accessFlags := 1, nameIndex := 5, descriptorIndex := 6, attributes := #[] }, { accessFlags := 9, nameIndex := 33, descriptorIndex := 178, attributes := #[] }, { accessFlags := 9, nameIndex := 49, descriptorIndex := 183, attributes := #[] }] 33 2 #[] #[{ accessFlags := 25, nameIndex := 123, descriptorIndex := 124, attributes := #[] }, { accessFlags := 25, nameIndex := 130, descriptorIndex := 124, attributes := #[] }, { accessFlags := 25, nameIndex := 136, descriptorIndex := 124, attributes := #[] }])
  fields := #[{ name := "SIOOBE_FORMATTER", type := (.object "java/util/function/BiFunction"), accessFlags := 25, slot := 0, constantValue := 0 }, { name := "AIOOBE_FORMATTER", type := (.object "java/util/function/BiFunction"), accessFlags := 25, slot := 1, constantValue := 0 }, { name := "IOOBE_FORMATTER", type := (.object "java/util/function/BiFunction"), accessFlags := 25, slot := 2, constantValue := 0 }]
  methods := #[k4m0, k4m1, k4m2]
  instanceTypes := #[]
  staticTypes := #[(.object "java/util/function/BiFunction"), (.object "java/util/function/BiFunction"), (.object "java/util/function/BiFunction")]
  resolved := Array.replicate 194 none
  statics := some 0 }

def pool5 : Array CpInfo := pool [(1, .class_ 2), (0, u "java/io/Serializable"), (0, .class_ 4), (0, u "java/lang/Object")] 2

/-- java/io/Serializable -/
def k5 : Class := { plain "java/io/Serializable" (some 0) with
  accessFlags := 1537
  interfaces := #[]
  cf := some (fileOf pool5 1 #[] #[] 1537 3 #[] #[])
  fields := #[]
  methods := #[]
  instanceTypes := #[]
  staticTypes := #[]
  resolved := Array.replicate 7 none
  statics := none }

def pool6 : Array CpInfo := pool [(1, .class_ 2), (0, u "java/lang/Comparable"), (0, .class_ 4), (0, u "java/lang/Object")] 7

/-- java/lang/Comparable -/
def k6 : Class := { plain "java/lang/Comparable" (some 0) with
  accessFlags := 1537
  interfaces := #[]
  cf := some (fileOf pool6 1 #[] #[] 1537 3 #[] #[])
  fields := #[]
  methods := #[]
  instanceTypes := #[]
  staticTypes := #[]
  resolved := Array.replicate 12 none
  statics := none }

def pool7 : Array CpInfo := pool [(2, .class_ 4), (1, u "java/lang/CharSequence"), (42, .class_ 48), (0, u "java/lang/CharSequence$1CodePointIterator"), (10, .class_ 60), (0, u "java/lang/CharSequence$1CharIterator"), (5, .class_ 67), (0, u "java/lang/Object")] 63

/-- java/lang/CharSequence -/
def k7 : Class := { plain "java/lang/CharSequence" (some 0) with
  accessFlags := 1537
  interfaces := #[]
  cf := some (fileOf pool7 2 #[.nestMembers #[47, 59]] #[] 1537 66 #[] #[])
  fields := #[]
  methods := #[]
  instanceTypes := #[]
  staticTypes := #[]
  resolved := Array.replicate 131 none
  statics := none }

def pool8 : Array CpInfo := pool [(1, .class_ 2), (0, u "java/lang/constant/Constable"), (0, .class_ 4), (0, u "java/lang/Object")] 6

/-- java/lang/constant/Constable -/
def k8 : Class := { plain "java/lang/constant/Constable" (some 0) with
  accessFlags := 1537
  interfaces := #[]
  cf := some (fileOf pool8 1 #[] #[] 1537 3 #[] #[])
  fields := #[]
  methods := #[]
  instanceTypes := #[]
  staticTypes := #[]
  resolved := Array.replicate 11 none
  statics := none }

def pool9 : Array CpInfo := pool [(1, .class_ 2), (0, u "java/lang/constant/ConstantDesc"), (0, .class_ 4), (0, u "java/lang/Object")] 32

/-- java/lang/constant/ConstantDesc -/
def k9 : Class := { plain "java/lang/constant/ConstantDesc" (some 0) with
  accessFlags := 1537
  interfaces := #[]
  cf := some (fileOf pool9 1 #[] #[] 1537 3 #[] #[])
  fields := #[]
  methods := #[]
  instanceTypes := #[]
  staticTypes := #[]
  resolved := Array.replicate 37 none
  statics := none }

def pool10 : Array CpInfo := pool [(1, .methodref 2 3), (0, .class_ 4), (0, .nameAndType 5 6), (0, u "java/lang/Object"), (0, u "<init>"), (0, u "()V"), (0, .string 8), (0, u ""), (0, .fieldref 10 11), (0, .class_ 12), (0, .nameAndType 13 14), (0, u "java/lang/String"), (0, u "value"), (0, u "[B"), (0, .fieldref 10 16), (0, .nameAndType 17 18), (0, u "coder"), (0, u "B"), (2, u "hash"), (0, u "I"), (2, u "hashIsZero"), (0, u "Z"), (0, .methodref 10 28), (0, .nameAndType 5 29), (0, u "([CIILjava/lang/Void;)V"), (8, .fieldref 10 39), (0, .nameAndType 40 26), (0, u "COMPACT_STRINGS"), (1, .class_ 44), (1, u "java/lang/StringUTF16"), (0, u "compress"), (1, .methodref 42 48), (0, .nameAndType 49 50), (0, u "coderFromArrayLen"), (0, u "([BI)B"), (56, .class_ 109), (1, u "java/lang/StringLatin1"), (32, u "()Z"), (34, .methodref 42 178), (0, .nameAndType 45 179), (0, u "([CII)[B"), (154, u "()I"), (0, .methodref 10 336), (0, .nameAndType 17 337), (0, u "()B"), (25, u "([BI)C"), (27, u "(II)V"), (35, u "(I)C"), (64, .methodref 10 493), (0, .nameAndType 494 142), (0, u "isLatin1"), (0, .methodref 107 496), (0, .nameAndType 497 363), (0, u "charAt"), (3, u "checkIndex"), (5, u "length"), (67, .class_ 576), (0, u "java/lang/CharSequence"), (22, u "CASE_INSENSITIVE_ORDER"), (0, u "Ljava/util/Comparator;"), (409, u "([C)V"), (42, .fieldref 1054 1055), (0, .class_ 1056), (0, .nameAndType 1057 1058), (0, u "jdk/internal/util/Preconditions"), (0, u "SIOOBE_FORMATTER"), (0, u "Ljava/util/function/BiFunction;"), (0, .methodref 1054 1060), (0, .nameAndType 501 1061), (0, u "(IILjava/util/function/BiFunction;)I"), (39, u "serialPersistentFields"), (0, u "[Ljava/io/ObjectStreamField;"), (0, .class_ 1104), (0, u "java/lang/String$CaseInsensitiveComparator"), (1, .class_ 1107), (0, u "java/io/Serializable"), (0, .class_ 1109), (0, u "java/lang/Comparable"), (0, .class_ 1111), (0, u "java/lang/constant/Constable"), (0, .class_ 1113), (0, u "java/lang/constant/ConstantDesc"), (2, u "serialVersionUID"), (0, u "J"), (3, u "REPL"), (0, u "C"), (2, u "LATIN1"), (1, u "UTF16")] 323

def k10m0 : Method := { name := "<init>", desc := "()V", sig := { parameters := [], returnType := none }, accessFlags := 1, code := none }
def k10c1 : Code := { maxStack := 5, maxLocals := 2, code := jdk_42_method_3_code, exceptionTable := #[], attributes := #[] }
def k10m1 : Method := { name := "<init>", desc := "([C)V", sig := { parameters := [(.array .char)], returnType := none }, accessFlags := 1, code := some k10c1 }
def k10c2 : Code := { maxStack := 2, maxLocals := 1, code := jdk_42_method_54_code, exceptionTable := #[], attributes := #[] }
def k10m2 : Method := { name := "length", desc := "()I", sig := { parameters := [], returnType := some .int }, accessFlags := 1, code := some k10c2 }
def k10c3 : Code := { maxStack := 2, maxLocals := 2, code := jdk_42_method_56_code, exceptionTable := #[], attributes := #[] }
def k10m3 : Method := { name := "charAt", desc := "(I)C", sig := { parameters := [.int], returnType := some .char }, accessFlags := 1, code := some k10c3 }
def k10c4 : Code := { maxStack := 4, maxLocals := 6, code := jdk_42_method_149_code, exceptionTable := #[], attributes := #[] }
def k10m4 : Method := { name := "<init>", desc := "([CIILjava/lang/Void;)V", sig := { parameters := [(.array .char), .int, .int, (.object "java/lang/Void")], returnType := none }, accessFlags := 2, code := some k10c4 }
def k10c5 : Code := { maxStack := 1, maxLocals := 1, code := jdk_42_method_152_code, exceptionTable := #[], attributes := #[] }
def k10m5 : Method := { name := "coder", desc := "()B", sig := { parameters := [], returnType := some .byte }, accessFlags := 0, code := some k10c5 }
def k10c6 : Code := { maxStack := 1, maxLocals := 1, code := jdk_42_method_154_code, exceptionTable := #[], attributes := #[] }
def k10m6 : Method := { name := "isLatin1", desc := "()Z", sig := { parameters := [], returnType := some .boolean }, accessFlags := 0, code := some k10c6 }
def k10c7 : Code := { maxStack := 3, maxLocals := 2, code := jdk_42_method_155_code, exceptionTable := #[], attributes := #[] }
def k10m7 : Method := { name := "checkIndex", desc := "(II)V", sig := { parameters := [.int, .int], returnType := none }, accessFlags := 8, code := some k10c7 }
/-- java/lang/String -/
def k10 : Class := { plain "java/lang/String" (some 0) with
  accessFlags := 49
  interfaces := #[5, 6, 7, 8, 9]
  cf := some (fileOf pool10 10 #[.nestMembers #[1103]] #[{ accessFlags := 1, nameIndex := 5, descriptorIndex := 6, attributes := #[] }, { accessFlags := 1, nameIndex := 5, descriptorIndex := 1010, attributes := #[] }, { accessFlags := 1, nameIndex := 507, descriptorIndex := 334, attributes := #[] }, { accessFlags := 1, nameIndex := 497, descriptorIndex := 427, attributes := #[] }, { accessFlags := 2, nameIndex := 5, descriptorIndex := 29, attributes := #[] }, { accessFlags := 0, nameIndex := 17, descriptorIndex := 337, attributes := #[] }, { accessFlags := 0, nameIndex := 494, descriptorIndex := 142, attributes := #[] }, { accessFlags := 8, nameIndex := 501, descriptorIndex := 391, attributes := #[] }] 49 2 #[1106, 1108, 575, 1110, 1112] #[{ accessFlags := 18, nameIndex := 13, descriptorIndex := 14, attributes := #[] }, { accessFlags := 18, nameIndex := 17, descriptorIndex := 18, attributes := #[] }, { accessFlags := 2, nameIndex := 21, descriptorIndex := 22, attributes := #[] }, { accessFlags := 2, nameIndex := 25, descriptorIndex := 26, attributes := #[] }, { accessFlags := 26, nameIndex := 1116, descriptorIndex := 1117, attributes := #[] }, { accessFlags := 24, nameIndex := 40, descriptorIndex := 26, attributes := #[] }, { accessFlags := 26, nameIndex := 1101, descriptorIndex := 1102, attributes := #[] }, { accessFlags := 26, nameIndex := 1121, descriptorIndex := 1122, attributes := #[] }, { accessFlags := 25, nameIndex := 599, descriptorIndex := 600, attributes := #[] }, { accessFlags := 24, nameIndex := 1125, descriptorIndex := 18, attributes := #[] }, { accessFlags := 24, nameIndex := 1127, descriptorIndex := 18, attributes := #[] }])
  fields := #[{ name := "value", type := (.array .byte), accessFlags := 18, slot := 0, constantValue := 0 }, { name := "coder", type := .byte, accessFlags := 18, slot := 1, constantValue := 0 }, { name := "hash", type := .int, accessFlags := 2, slot := 2, constantValue := 0 }, { name := "hashIsZero", type := .boolean, accessFlags := 2, slot := 3, constantValue := 0 }, { name := "serialVersionUID", type := .long, accessFlags := 26, slot := 0, constantValue := 0 }, { name := "COMPACT_STRINGS", type := .boolean, accessFlags := 24, slot := 1, constantValue := 0 }, { name := "serialPersistentFields", type := (.array (.object "java/io/ObjectStreamField")), accessFlags := 26, slot := 2, constantValue := 0 }, { name := "REPL", type := .char, accessFlags := 26, slot := 3, constantValue := 0 }, { name := "CASE_INSENSITIVE_ORDER", type := (.object "java/util/Comparator"), accessFlags := 25, slot := 4, constantValue := 0 }, { name := "LATIN1", type := .byte, accessFlags := 24, slot := 5, constantValue := 0 }, { name := "UTF16", type := .byte, accessFlags := 24, slot := 6, constantValue := 0 }]
  methods := #[k10m0, k10m1, k10m2, k10m3, k10m4, k10m5, k10m6, k10m7]
  instanceTypes := #[(.array .byte), .byte, .int, .boolean]
  staticTypes := #[.long, .boolean, (.array (.object "java/io/ObjectStreamField")), .char, (.object "java/util/Comparator"), .byte, .byte]
  resolved := Array.replicate 1451 none
  statics := some 1 }

def pool11 : Array CpInfo := pool [(6, .class_ 8), (1, u "java/lang/Object"), (0, u "<init>"), (0, u "()V"), (1, .class_ 14), (1, u "java/lang/StringUTF16"), (31, u "$assertionsDisabled"), (0, u "Z"), (13, u "HI_BYTE_SHIFT"), (0, u "I"), (2, u "LO_BYTE_SHIFT"), (49, .methodref 12 116), (0, .nameAndType 117 118), (0, u "compress"), (0, u "([CI[BII)I"), (3, u "([CII)[B"), (138, u "coderFromArrayLen"), (0, u "([BI)B"), (106, .class_ 371), (1, u "java/lang/StringUTF16$LinesSpliterator"), (58, u "MAX_LENGTH"), (196, .class_ 628), (0, u "java/lang/StringUTF16$CodePointsSpliterator"), (0, .class_ 630), (0, u "java/lang/StringUTF16$CharsSpliterator")] 4

def k11m0 : Method := { name := "<init>", desc := "()V", sig := { parameters := [], returnType := none }, accessFlags := 0, code := none }
def k11c1 : Code := { maxStack := 2, maxLocals := 2, code := jdk_52_method_15_code, exceptionTable := #[], attributes := #[] }
def k11m1 : Method := { name := "coderFromArrayLen", desc := "([BI)B", sig := { parameters := [(.array .byte), .int], returnType := some .byte }, accessFlags := 8, code := some k11c1 }
def k11c2 : Code := { maxStack := 5, maxLocals := 6, code := jdk_52_method_16_code, exceptionTable := #[], attributes := #[] }
def k11m2 : Method := { name := "compress", desc := "([CII)[B", sig := { parameters := [(.array .char), .int, .int], returnType := some (.array .byte) }, accessFlags := 9, code := some k11c2 }
def k11c3 : Code := { maxStack := 3, maxLocals := 7, code := jdk_52_method_21_code, exceptionTable := #[], attributes := #[] }
def k11m3 : Method := { name := "compress", desc := "([CI[BII)I", sig := { parameters := [(.array .char), .int, (.array .byte), .int, .int], returnType := some .int }, accessFlags := 9, code := some k11c3 }
/-- java/lang/StringUTF16 -/
def k11 : Class := { plain "java/lang/StringUTF16" (some 0) with
  accessFlags := 48
  interfaces := #[]
  cf := some (fileOf pool11 12 #[.nestMembers #[627, 629, 369]] #[{ accessFlags := 0, nameIndex := 9, descriptorIndex := 10, attributes := #[] }, { accessFlags := 8, nameIndex := 261, descriptorIndex := 262, attributes := #[] }, { accessFlags := 9, nameIndex := 117, descriptorIndex := 122, attributes := #[] }, { accessFlags := 9, nameIndex := 117, descriptorIndex := 118, attributes := #[] }] 48 6 #[] #[{ accessFlags := 26, nameIndex := 61, descriptorIndex := 62, attributes := #[] }, { accessFlags := 26, nameIndex := 65, descriptorIndex := 62, attributes := #[] }, { accessFlags := 24, nameIndex := 430, descriptorIndex := 62, attributes := #[] }, { accessFlags := 4120, nameIndex := 46, descriptorIndex := 47, attributes := #[] }])
  fields := #[{ name := "HI_BYTE_SHIFT", type := .int, accessFlags := 26, slot := 0, constantValue := 0 }, { name := "LO_BYTE_SHIFT", type := .int, accessFlags := 26, slot := 1, constantValue := 0 }, { name := "MAX_LENGTH", type := .int, accessFlags := 24, slot := 2, constantValue := 0 }, { name := "$assertionsDisabled", type := .boolean, accessFlags := 4120, slot := 3, constantValue := 0 }]
  methods := #[k11m0, k11m1, k11m2, k11m3]
  instanceTypes := #[]
  staticTypes := #[.int, .int, .int, .boolean]
  resolved := Array.replicate 635 none
  statics := none }

def pool12 : Array CpInfo := pool [(1, .class_ 2), (0, u "java/lang/String"), (1, .class_ 6), (1, u "java/lang/Object"), (0, u "<init>"), (0, u "()V"), (0, .methodref 1 10), (0, .nameAndType 11 12), (0, u "checkIndex"), (0, u "(II)V"), (1, .class_ 16), (1, u "java/lang/StringLatin1"), (36, u "([BI)C"), (67, u "$assertionsDisabled"), (0, u "Z"), (98, .class_ 223), (1, u "java/lang/StringLatin1$LinesSpliterator"), (28, u "charAt"), (137, .class_ 391), (0, u "java/lang/StringLatin1$CharsSpliterator")] 3

def k12m0 : Method := { name := "<init>", desc := "()V", sig := { parameters := [], returnType := none }, accessFlags := 0, code := none }
def k12c1 : Code := { maxStack := 2, maxLocals := 2, code := jdk_43_method_2_code, exceptionTable := #[], attributes := #[] }
def k12m1 : Method := { name := "charAt", desc := "([BI)C", sig := { parameters := [(.array .byte), .int], returnType := some .char }, accessFlags := 9, code := some k12c1 }
/-- java/lang/StringLatin1 -/
def k12 : Class := { plain "java/lang/StringLatin1" (some 0) with
  accessFlags := 48
  interfaces := #[]
  cf := some (fileOf pool12 14 #[.nestMembers #[390, 221]] #[{ accessFlags := 0, nameIndex := 7, descriptorIndex := 8, attributes := #[] }, { accessFlags := 9, nameIndex := 252, descriptorIndex := 53, attributes := #[] }] 48 4 #[] #[{ accessFlags := 4120, nameIndex := 121, descriptorIndex := 122, attributes := #[] }])
  fields := #[{ name := "$assertionsDisabled", type := .boolean, accessFlags := 4120, slot := 0, constantValue := 0 }]
  methods := #[k12m0, k12m1]
  instanceTypes := #[]
  staticTypes := #[.boolean]
  resolved := Array.replicate 395 none
  statics := none }

def pool13 : Array CpInfo := pool [(9, u "<init>"), (6, .class_ 18), (1, u "java/lang/Object"), (0, u "()V"), (1, .class_ 23), (1, u "jdk/internal/util/ArraysSupport"), (0, u "LOG2_ARRAY_LONG_INDEX_SCALE"), (0, u "I"), (2, u "U"), (0, u "Ljdk/internal/misc/Unsafe;"), (8, u "BIG_ENDIAN"), (0, u "Z"), (8, u "LOG2_BYTE_BIT_SIZE"), (4, u "LOG2_ARRAY_INT_INDEX_SCALE"), (54, u "JLA"), (0, u "Ljdk/internal/access/JavaLangAccess;"), (11, u "LOG2_ARRAY_BOOLEAN_INDEX_SCALE"), (9, u "LOG2_ARRAY_BYTE_INDEX_SCALE"), (5, u "LOG2_ARRAY_CHAR_INDEX_SCALE"), (5, u "LOG2_ARRAY_SHORT_INDEX_SCALE"), (18, u "LOG2_ARRAY_FLOAT_INDEX_SCALE"), (24, u "LOG2_ARRAY_DOUBLE_INDEX_SCALE"), (89, u "T_BOOLEAN"), (2, u "T_CHAR"), (1, u "T_FLOAT"), (1, u "T_DOUBLE"), (1, u "T_BYTE"), (1, u "T_SHORT"), (1, u "T_INT"), (1, u "T_LONG"), (1, u "SOFT_MAX_ARRAY_LENGTH")] 83

def k13m0 : Method := { name := "<init>", desc := "()V", sig := { parameters := [], returnType := none }, accessFlags := 2, code := none }
/-- jdk/internal/util/ArraysSupport -/
def k13 : Class := { plain "jdk/internal/util/ArraysSupport" (some 0) with
  accessFlags := 33
  interfaces := #[]
  cf := some (fileOf pool13 21 #[] #[{ accessFlags := 2, nameIndex := 9, descriptorIndex := 19, attributes := #[] }] 33 16 #[] #[{ accessFlags := 24, nameIndex := 28, descriptorIndex := 29, attributes := #[] }, { accessFlags := 26, nameIndex := 38, descriptorIndex := 39, attributes := #[] }, { accessFlags := 25, nameIndex := 121, descriptorIndex := 25, attributes := #[] }, { accessFlags := 25, nameIndex := 131, descriptorIndex := 25, attributes := #[] }, { accessFlags := 25, nameIndex := 137, descriptorIndex := 25, attributes := #[] }, { accessFlags := 25, nameIndex := 143, descriptorIndex := 25, attributes := #[] }, { accessFlags := 25, nameIndex := 53, descriptorIndex := 25, attributes := #[] }, { accessFlags := 25, nameIndex := 24, descriptorIndex := 25, attributes := #[] }, { accessFlags := 25, nameIndex := 162, descriptorIndex := 25, attributes := #[] }, { accessFlags := 25, nameIndex := 187, descriptorIndex := 25, attributes := #[] }, { accessFlags := 26, nameIndex := 48, descriptorIndex := 25, attributes := #[] }, { accessFlags := 25, nameIndex := 277, descriptorIndex := 25, attributes := #[] }, { accessFlags := 25, nameIndex := 280, descriptorIndex := 25, attributes := #[] }, { accessFlags := 25, nameIndex := 282, descriptorIndex := 25, attributes := #[] }, { accessFlags := 25, nameIndex := 284, descriptorIndex := 25, attributes := #[] }, { accessFlags := 25, nameIndex := 286, descriptorIndex := 25, attributes := #[] }, { accessFlags := 25, nameIndex := 288, descriptorIndex := 25, attributes := #[] }, { accessFlags := 25, nameIndex := 290, descriptorIndex := 25, attributes := #[] }, { accessFlags := 25, nameIndex := 292, descriptorIndex := 25, attributes := #[] }, { accessFlags := 26, nameIndex := 108, descriptorIndex := 109, attributes := #[] }, { accessFlags := 25, nameIndex := 294, descriptorIndex := 25, attributes := #[] }])
  fields := #[{ name := "U", type := (.object "jdk/internal/misc/Unsafe"), accessFlags := 24, slot := 0, constantValue := 0 }, { name := "BIG_ENDIAN", type := .boolean, accessFlags := 26, slot := 1, constantValue := 0 }, { name := "LOG2_ARRAY_BOOLEAN_INDEX_SCALE", type := .int, accessFlags := 25, slot := 2, constantValue := 0 }, { name := "LOG2_ARRAY_BYTE_INDEX_SCALE", type := .int, accessFlags := 25, slot := 3, constantValue := 0 }, { name := "LOG2_ARRAY_CHAR_INDEX_SCALE", type := .int, accessFlags := 25, slot := 4, constantValue := 0 }, { name := "LOG2_ARRAY_SHORT_INDEX_SCALE", type := .int, accessFlags := 25, slot := 5, constantValue := 0 }, { name := "LOG2_ARRAY_INT_INDEX_SCALE", type := .int, accessFlags := 25, slot := 6, constantValue := 0 }, { name := "LOG2_ARRAY_LONG_INDEX_SCALE", type := .int, accessFlags := 25, slot := 7, constantValue := 0 }, { name := "LOG2_ARRAY_FLOAT_INDEX_SCALE", type := .int, accessFlags := 25, slot := 8, constantValue := 0 }, { name := "LOG2_ARRAY_DOUBLE_INDEX_SCALE", type := .int, accessFlags := 25, slot := 9, constantValue := 0 }, { name := "LOG2_BYTE_BIT_SIZE", type := .int, accessFlags := 26, slot := 10, constantValue := 0 }, { name := "T_BOOLEAN", type := .int, accessFlags := 25, slot := 11, constantValue := 0 }, { name := "T_CHAR", type := .int, accessFlags := 25, slot := 12, constantValue := 0 }, { name := "T_FLOAT", type := .int, accessFlags := 25, slot := 13, constantValue := 0 }, { name := "T_DOUBLE", type := .int, accessFlags := 25, slot := 14, constantValue := 0 }, { name := "T_BYTE", type := .int, accessFlags := 25, slot := 15, constantValue := 0 }, { name := "T_SHORT", type := .int, accessFlags := 25, slot := 16, constantValue := 0 }, { name := "T_INT", type := .int, accessFlags := 25, slot := 17, constantValue := 0 }, { name := "T_LONG", type := .int, accessFlags := 25, slot := 18, constantValue := 0 }, { name := "JLA", type := (.object "jdk/internal/access/JavaLangAccess"), accessFlags := 26, slot := 19, constantValue := 0 }, { name := "SOFT_MAX_ARRAY_LENGTH", type := .int, accessFlags := 25, slot := 20, constantValue := 0 }]
  methods := #[k13m0]
  instanceTypes := #[]
  staticTypes := #[(.object "jdk/internal/misc/Unsafe"), .boolean, .int, .int, .int, .int, .int, .int, .int, .int, .int, .int, .int, .int, .int, .int, .int, .int, .int, (.object "jdk/internal/access/JavaLangAccess"), .int]
  resolved := Array.replicate 378 none
  statics := none }

def pool14 : Array CpInfo := pool [(1, u "java/lang/Cloneable"), (0, .class_ 1), (0, u "java/lang/Object"), (0, .class_ 3)] 3

/-- java/lang/Cloneable -/
def k14 : Class := { plain "java/lang/Cloneable" (some 0) with
  accessFlags := 1537
  interfaces := #[]
  cf := some (fileOf pool14 2 #[] #[] 1537 4 #[] #[])
  fields := #[]
  methods := #[]
  instanceTypes := #[]
  staticTypes := #[]
  resolved := Array.replicate 8 none
  statics := none }

/-- the primitive byte -/
def k15 : Class := { plain "byte" none with kind := .primitive 'B', accessFlags := 0x411 }
/-- [B -/
def k16 : Class := { plain "[B" (some 0) with kind := .array 15 .byte, interfaces := #[14, 5], accessFlags := 1041 }

/-- the primitive char -/
def k17 : Class := { plain "char" none with kind := .primitive 'C', accessFlags := 0x411 }
/-- [C -/
def k18 : Class := { plain "[C" (some 0) with kind := .array 17 .char, interfaces := #[14, 5], accessFlags := 1041 }

/-- the primitive int -/
def k19 : Class := { plain "int" none with kind := .primitive 'I', accessFlags := 0x411 }
/-- [I -/
def k20 : Class := { plain "[I" (some 0) with kind := .array 19 .int, interfaces := #[14, 5], accessFlags := 1041 }

def heap : Heap := #[{ cls := 4, slots := #[.null, .null, .null], vm := .statics 4 },
  { cls := 10, slots := #[.long 0, .int 1, .null, .int 0, .null, .int 0, .int 0], vm := .statics 10 }]
def classes : Array Class := #[k0, k1, k2, k3, k4, k5, k6, k7, k8, k9, k10, k11, k12, k13, k14, k15, k16, k17, k18, k19, k20]
def interned : List (Array UInt16 × Addr) := []
def slotsUsed : Nat := 10
def theMethod : MethodId := ⟨1, 1⟩
def args0 : Array Value := #[.long 5, .int 6, .int 7]
def aboutOver (below : List Frame) : State where
  vm := { classes := classes, interned := interned.toArray }
  heap := heap
  slotsUsed := slotsUsed
  threads := #[{ frames := .invoking theMethod args0 :: below }]
def below0 : List Frame := [.native { method := ⟨0, 0⟩, args := #[] }]
def about1 : State := aboutOver below0
def p0 : Program := .bare "" "" ""
def e0 : Env := launch0.env 0 0 0
theorem w_frames : about1.frames = Frame.invoking theMethod args0 :: below0 := rfl
set_option maxRecDepth 65536 in
theorem w_args : argsFit about1.vm theMethod args0 = true := by decide +kernel
set_option maxRecDepth 65536 in
theorem w_heap : heapFits about1 = true := by decide +kernel
set_option maxRecDepth 65536 in
theorem w_runnable : about1.curStatus? = some .runnable := by decide +kernel
set_option maxRecDepth 65536 in
theorem w_alone : about1.alone = true := by decide +kernel
set_option maxRecDepth 65536 in
theorem w_named : about1.methodNamed? x = some theMethod := by decide +kernel
set_option maxRecDepth 65536 in
theorem w_hears : about1.hears theMethod below0 = true := by decide +kernel
set_option maxRecDepth 65536 in
theorem w_ripe : about1.ripe theMethod args0 below0 = true := by decide +kernel
theorem w_running : about1.status = .running := rfl
set_option maxRecDepth 65536 in
theorem w_room : about1.hasRoom e0.platform room_1 = true :=
  launch0.hasRoom_least _ room_1 (by decide +kernel) (by decide +kernel) (by decide +kernel) (by decide +kernel) (by decide +kernel) (by decide +kernel)
theorem allAtoms_all (ts : List Jvm.Cond) (a : Array Jvm.Value) (st : Jvm.State) : (allAtoms ts).before a st = ts.all (fun c => c.before a st) := by
  induction ts with
  | nil => rfl
  | cons c t ih =>
    show (Jvm.Cond.and c (allAtoms t)).before a st = _
    rw [Jvm.Cond.before_and, ih, List.all_cons]
def words1 : List Jvm.Cond := Jvm.Cond.code x code maxLocals ret :: tables_1
/-- a 'code' word, met by the world's own term for the bytes: nothing is compared byte by byte -/
theorem code_word {y : MethodName} {bytes : ByteArray} {mx : Nat} {rt : Option FieldType} {a : Array Value} {s : State} {m : MethodId} {meth : Method} {c : Code} (h1 : s.methodNamed? y = some m) (h2 : s.vm.method? m = some meth) (h3 : meth.code = some c) (h4 : c.code = bytes)
    (h5 : (c.maxLocals == mx && c.exceptionTable.isEmpty && decide (c.maxStack ≤ mostOperands) && decide (meth.sig.returnType = rt) && !meth.locks && decide (parseMethodDescriptor y.desc = some meth.sig)) = true) : (Jvm.Cond.code y bytes mx rt).before a s = true := by
  simp only [Bool.and_eq_true, beq_iff_eq, Bool.not_eq_true', decide_eq_true_eq] at h5
  obtain ⟨⟨⟨⟨⟨g1, g2⟩, g3⟩, g4⟩, g5⟩, g6⟩ := h5
  simp [Cond.before, Cond.holds, Cond.value, h1, h2, h3, h4, g1, g2, g3, g4, g5, g6]
def isCode : Jvm.Cond → Bool
  | .code _ _ _ _ => true
  | _ => false
theorem all_split {L : List Jvm.Cond} {P : Jvm.Cond → Bool} (h1 : L.all (fun c => isCode c || P c) = true) (h2 : ∀ c ∈ L.filter isCode, P c = true) : L.all P = true := by
  refine List.all_eq_true.mpr fun c hc => ?_
  have h := List.all_eq_true.mp h1 c hc
  rcases Bool.eq_false_or_eq_true (isCode c) with hi | hi
  · exact h2 c (List.mem_filter.mpr ⟨hc, hi⟩)
  · simpa [hi] using h
set_option maxRecDepth 65536 in
theorem w_c0 : (Jvm.Cond.code x code maxLocals ret).before args0 about1 = true := code_word (m := ⟨1, 1⟩) (meth := k1m1) (c := k1c1) (by decide +kernel) rfl rfl rfl (by decide +kernel)
set_option maxRecDepth 65536 in
theorem w_c1 : (Jvm.Cond.code ({ cls := "com/example/verdict/verdict/saml/XmlScanner", name := "<init>", desc := "([BI)V" } : Jvm.MethodName) prog_45_method_1_code (3 : Nat) (Option.none : Option Jvm.ClassFile.FieldType)).before args0 about1 = true := code_word (m := ⟨2, 0⟩) (meth := k2m0) (c := k2c0) (by decide +kernel) rfl rfl rfl (by decide +kernel)
set_option maxRecDepth 65536 in
theorem w_c2 : (Jvm.Cond.code ({ cls := "java/lang/Object", name := "<init>", desc := "()V" } : Jvm.MethodName) object_method_1_code (1 : Nat) (Option.none : Option Jvm.ClassFile.FieldType)).before args0 about1 = true := code_word (m := ⟨0, 0⟩) (meth := k0m0) (c := k0c0) (by decide +kernel) rfl rfl rfl (by decide +kernel)
set_option maxRecDepth 65536 in
theorem w_c3 : (Jvm.Cond.code ({ cls := "java/util/Objects", name := "checkFromIndexSize", desc := "(III)I" } : Jvm.MethodName) jdk_31_method_19_code (3 : Nat) (Option.some Jvm.ClassFile.FieldType.int)).before args0 about1 = true := code_word (m := ⟨3, 1⟩) (meth := k3m1) (c := k3c1) (by decide +kernel) rfl rfl rfl (by decide +kernel)
set_option maxRecDepth 65536 in
theorem w_c4 : (Jvm.Cond.code ({ cls := "jdk/internal/util/Preconditions", name := "checkFromIndexSize", desc := "(IIILjava/util/function/BiFunction;)I" } : Jvm.MethodName) jdk_41_method_13_code (4 : Nat) (Option.some Jvm.ClassFile.FieldType.int)).before args0 about1 = true := code_word (m := ⟨4, 2⟩) (meth := k4m2) (c := k4c2) (by decide +kernel) rfl rfl rfl (by decide +kernel)
set_option maxRecDepth 65536 in
theorem w_c5 : (Jvm.Cond.code ({ cls := "com/example/verdict/verdict/saml/XmlScanner", name := "position", desc := "()I" } : Jvm.MethodName) prog_45_method_2_code (1 : Nat) (Option.some Jvm.ClassFile.FieldType.int)).before args0 about1 = true := code_word (m := ⟨2, 1⟩) (meth := k2m1) (c := k2c1) (by decide +kernel) rfl rfl rfl (by decide +kernel)
set_option maxRecDepth 65536 in
theorem w_c6 : (Jvm.Cond.code ({ cls := "com/example/verdict/verdict/saml/XmlScannerSkipPinLaw", name := "pick", desc := "([BIIII)C" } : Jvm.MethodName) method_3_code (6 : Nat) (Option.some Jvm.ClassFile.FieldType.char)).before args0 about1 = true := code_word (m := ⟨1, 2⟩) (meth := k1m2) (c := k1c2) (by decide +kernel) rfl rfl rfl (by decide +kernel)
set_option maxRecDepth 65536 in
theorem w_c7 : (Jvm.Cond.code ({ cls := "com/example/verdict/verdict/saml/XmlScannerSkipPinLaw", name := "make", desc := "(ICCC)Ljava/lang/String;" } : Jvm.MethodName) method_4_code (4 : Nat) (Option.some (Jvm.ClassFile.FieldType.object "java/lang/String"))).before args0 about1 = true := code_word (m := ⟨1, 3⟩) (meth := k1m3) (c := k1c3) (by decide +kernel) rfl rfl rfl (by decide +kernel)
set_option maxRecDepth 65536 in
theorem w_c8 : (Jvm.Cond.code ({ cls := "java/lang/String", name := "<init>", desc := "([C)V" } : Jvm.MethodName) jdk_42_method_3_code (2 : Nat) (Option.none : Option Jvm.ClassFile.FieldType)).before args0 about1 = true := code_word (m := ⟨10, 1⟩) (meth := k10m1) (c := k10c1) (by decide +kernel) rfl rfl rfl (by decide +kernel)
set_option maxRecDepth 65536 in
theorem w_c9 : (Jvm.Cond.code ({ cls := "java/lang/String", name := "<init>", desc := "([CIILjava/lang/Void;)V" } : Jvm.MethodName) jdk_42_method_149_code (6 : Nat) (Option.none : Option Jvm.ClassFile.FieldType)).before args0 about1 = true := code_word (m := ⟨10, 4⟩) (meth := k10m4) (c := k10c4) (by decide +kernel) rfl rfl rfl (by decide +kernel)
set_option maxRecDepth 65536 in
theorem w_c10 : (Jvm.Cond.code ({ cls := "com/example/verdict/verdict/saml/XmlScanner", name := "skip", desc := "(Ljava/lang/String;)Z" } : Jvm.MethodName) prog_45_method_5_code (3 : Nat) (Option.some Jvm.ClassFile.FieldType.boolean)).before args0 about1 = true := code_word (m := ⟨2, 4⟩) (meth := k2m4) (c := k2c4) (by decide +kernel) rfl rfl rfl (by decide +kernel)
set_option maxRecDepth 65536 in
theorem w_c11 : (Jvm.Cond.code ({ cls := "com/example/verdict/verdict/saml/XmlScanner", name := "lookingAt", desc := "(Ljava/lang/String;)Z" } : Jvm.MethodName) prog_45_method_4_code (2 : Nat) (Option.some Jvm.ClassFile.FieldType.boolean)).before args0 about1 = true := code_word (m := ⟨2, 3⟩) (meth := k2m3) (c := k2c3) (by decide +kernel) rfl rfl rfl (by decide +kernel)
set_option maxRecDepth 65536 in
theorem w_c12 : (Jvm.Cond.code ({ cls := "com/example/verdict/verdict/saml/XmlScanner", name := "startsWith", desc := "(ILjava/lang/String;)Z" } : Jvm.MethodName) prog_45_method_34_code (4 : Nat) (Option.some Jvm.ClassFile.FieldType.boolean)).before args0 about1 = true := code_word (m := ⟨2, 6⟩) (meth := k2m6) (c := k2c6) (by decide +kernel) rfl rfl rfl (by decide +kernel)
set_option maxRecDepth 65536 in
theorem w_c13 : (Jvm.Cond.code ({ cls := "java/lang/String", name := "length", desc := "()I" } : Jvm.MethodName) jdk_42_method_54_code (1 : Nat) (Option.some Jvm.ClassFile.FieldType.int)).before args0 about1 = true := code_word (m := ⟨10, 2⟩) (meth := k10m2) (c := k10c2) (by decide +kernel) rfl rfl rfl (by decide +kernel)
set_option maxRecDepth 65536 in
theorem w_c14 : (Jvm.Cond.code ({ cls := "java/lang/String", name := "coder", desc := "()B" } : Jvm.MethodName) jdk_42_method_152_code (1 : Nat) (Option.some Jvm.ClassFile.FieldType.byte)).before args0 about1 = true := code_word (m := ⟨10, 5⟩) (meth := k10m5) (c := k10c5) (by decide +kernel) rfl rfl rfl (by decide +kernel)
set_option maxRecDepth 65536 in
theorem w_c15 : (Jvm.Cond.code ({ cls := "com/example/verdict/verdict/saml/XmlScanner", name := "atEnd", desc := "()Z" } : Jvm.MethodName) prog_45_method_3_code (1 : Nat) (Option.some Jvm.ClassFile.FieldType.boolean)).before args0 about1 = true := code_word (m := ⟨2, 2⟩) (meth := k2m2) (c := k2c2) (by decide +kernel) rfl rfl rfl (by decide +kernel)
set_option maxRecDepth 65536 in
theorem w_c16 : (Jvm.Cond.code ({ cls := "java/lang/StringUTF16", name := "compress", desc := "([CII)[B" } : Jvm.MethodName) jdk_52_method_16_code (6 : Nat) (Option.some (Jvm.ClassFile.FieldType.array Jvm.ClassFile.FieldType.byte))).before args0 about1 = true := code_word (m := ⟨11, 2⟩) (meth := k11m2) (c := k11c2) (by decide +kernel) rfl rfl rfl (by decide +kernel)
set_option maxRecDepth 65536 in
theorem w_c17 : (Jvm.Cond.code ({ cls := "java/lang/StringUTF16", name := "compress", desc := "([CI[BII)I" } : Jvm.MethodName) jdk_52_method_21_code (7 : Nat) (Option.some Jvm.ClassFile.FieldType.int)).before args0 about1 = true := code_word (m := ⟨11, 3⟩) (meth := k11m3) (c := k11c3) (by decide +kernel) rfl rfl rfl (by decide +kernel)
set_option maxRecDepth 65536 in
theorem w_c18 : (Jvm.Cond.code ({ cls := "java/lang/StringUTF16", name := "coderFromArrayLen", desc := "([BI)B" } : Jvm.MethodName) jdk_52_method_15_code (2 : Nat) (Option.some Jvm.ClassFile.FieldType.byte)).before args0 about1 = true := code_word (m := ⟨11, 1⟩) (meth := k11m1) (c := k11c1) (by decide +kernel) rfl rfl rfl (by decide +kernel)
set_option maxRecDepth 65536 in
theorem w_c19 : (Jvm.Cond.code ({ cls := "java/lang/String", name := "charAt", desc := "(I)C" } : Jvm.MethodName) jdk_42_method_56_code (2 : Nat) (Option.some Jvm.ClassFile.FieldType.char)).before args0 about1 = true := code_word (m := ⟨10, 3⟩) (meth := k10m3) (c := k10c3) (by decide +kernel) rfl rfl rfl (by decide +kernel)
set_option maxRecDepth 65536 in
theorem w_c20 : (Jvm.Cond.code ({ cls := "java/lang/String", name := "isLatin1", desc := "()Z" } : Jvm.MethodName) jdk_42_method_154_code (1 : Nat) (Option.some Jvm.ClassFile.FieldType.boolean)).before args0 about1 = true := code_word (m := ⟨10, 6⟩) (meth := k10m6) (c := k10c6) (by decide +kernel) rfl rfl rfl (by decide +kernel)
set_option maxRecDepth 65536 in
theorem w_c21 : (Jvm.Cond.code ({ cls := "java/lang/StringLatin1", name := "charAt", desc := "([BI)C" } : Jvm.MethodName) jdk_43_method_2_code (2 : Nat) (Option.some Jvm.ClassFile.FieldType.char)).before args0 about1 = true := code_word (m := ⟨12, 1⟩) (meth := k12m1) (c := k12c1) (by decide +kernel) rfl rfl rfl (by decide +kernel)
set_option maxRecDepth 65536 in
theorem w_c22 : (Jvm.Cond.code ({ cls := "java/lang/String", name := "checkIndex", desc := "(II)V" } : Jvm.MethodName) jdk_42_method_155_code (2 : Nat) (Option.none : Option Jvm.ClassFile.FieldType)).before args0 about1 = true := code_word (m := ⟨10, 7⟩) (meth := k10m7) (c := k10c7) (by decide +kernel) rfl rfl rfl (by decide +kernel)
set_option maxRecDepth 65536 in
theorem w_c23 : (Jvm.Cond.code ({ cls := "jdk/internal/util/Preconditions", name := "checkIndex", desc := "(IILjava/util/function/BiFunction;)I" } : Jvm.MethodName) jdk_41_method_11_code (3 : Nat) (Option.some Jvm.ClassFile.FieldType.int)).before args0 about1 = true := code_word (m := ⟨4, 1⟩) (meth := k4m1) (c := k4c1) (by decide +kernel) rfl rfl rfl (by decide +kernel)
set_option maxRecDepth 65536 in
theorem w_c24 : (Jvm.Cond.code ({ cls := "com/example/verdict/verdict/saml/XmlScanner", name := "skip", desc := "(C)Z" } : Jvm.MethodName) prog_45_method_6_code (3 : Nat) (Option.some Jvm.ClassFile.FieldType.boolean)).before args0 about1 = true := code_word (m := ⟨2, 5⟩) (meth := k2m5) (c := k2c5) (by decide +kernel) rfl rfl rfl (by decide +kernel)
def codes1 : List Jvm.Cond := [Jvm.Cond.code x code maxLocals ret, Jvm.Cond.code ({ cls := "com/example/verdict/verdict/saml/XmlScanner", name := "<init>", desc := "([BI)V" } : Jvm.MethodName) prog_45_method_1_code (3 : Nat) (Option.none : Option Jvm.ClassFile.FieldType), Jvm.Cond.code ({ cls := "java/lang/Object", name := "<init>", desc := "()V" } : Jvm.MethodName) object_method_1_code (1 : Nat) (Option.none : Option Jvm.ClassFile.FieldType), Jvm.Cond.code ({ cls := "java/util/Objects", name := "checkFromIndexSize", desc := "(III)I" } : Jvm.MethodName) jdk_31_method_19_code (3 : Nat) (Option.some Jvm.ClassFile.FieldType.int), Jvm.Cond.code ({ cls := "jdk/internal/util/Preconditions", name := "checkFromIndexSize", desc := "(IIILjava/util/function/BiFunction;)I" } : Jvm.MethodName) jdk_41_method_13_code (4 : Nat) (Option.some Jvm.ClassFile.FieldType.int), Jvm.Cond.code ({ cls := "com/example/verdict/verdict/saml/XmlScanner", name := "position", desc := "()I" } : Jvm.MethodName) prog_45_method_2_code (1 : Nat) (Option.some Jvm.ClassFile.FieldType.int), Jvm.Cond.code ({ cls := "com/example/verdict/verdict/saml/XmlScannerSkipPinLaw", name := "pick", desc := "([BIIII)C" } : Jvm.MethodName) method_3_code (6 : Nat) (Option.some Jvm.ClassFile.FieldType.char), Jvm.Cond.code ({ cls := "com/example/verdict/verdict/saml/XmlScannerSkipPinLaw", name := "make", desc := "(ICCC)Ljava/lang/String;" } : Jvm.MethodName) method_4_code (4 : Nat) (Option.some (Jvm.ClassFile.FieldType.object "java/lang/String")), Jvm.Cond.code ({ cls := "java/lang/String", name := "<init>", desc := "([C)V" } : Jvm.MethodName) jdk_42_method_3_code (2 : Nat) (Option.none : Option Jvm.ClassFile.FieldType), Jvm.Cond.code ({ cls := "java/lang/String", name := "<init>", desc := "([CIILjava/lang/Void;)V" } : Jvm.MethodName) jdk_42_method_149_code (6 : Nat) (Option.none : Option Jvm.ClassFile.FieldType), Jvm.Cond.code ({ cls := "com/example/verdict/verdict/saml/XmlScanner", name := "skip", desc := "(Ljava/lang/String;)Z" } : Jvm.MethodName) prog_45_method_5_code (3 : Nat) (Option.some Jvm.ClassFile.FieldType.boolean), Jvm.Cond.code ({ cls := "com/example/verdict/verdict/saml/XmlScanner", name := "lookingAt", desc := "(Ljava/lang/String;)Z" } : Jvm.MethodName) prog_45_method_4_code (2 : Nat) (Option.some Jvm.ClassFile.FieldType.boolean), Jvm.Cond.code ({ cls := "com/example/verdict/verdict/saml/XmlScanner", name := "startsWith", desc := "(ILjava/lang/String;)Z" } : Jvm.MethodName) prog_45_method_34_code (4 : Nat) (Option.some Jvm.ClassFile.FieldType.boolean), Jvm.Cond.code ({ cls := "java/lang/String", name := "length", desc := "()I" } : Jvm.MethodName) jdk_42_method_54_code (1 : Nat) (Option.some Jvm.ClassFile.FieldType.int), Jvm.Cond.code ({ cls := "java/lang/String", name := "coder", desc := "()B" } : Jvm.MethodName) jdk_42_method_152_code (1 : Nat) (Option.some Jvm.ClassFile.FieldType.byte), Jvm.Cond.code ({ cls := "com/example/verdict/verdict/saml/XmlScanner", name := "atEnd", desc := "()Z" } : Jvm.MethodName) prog_45_method_3_code (1 : Nat) (Option.some Jvm.ClassFile.FieldType.boolean), Jvm.Cond.code ({ cls := "java/lang/StringUTF16", name := "compress", desc := "([CII)[B" } : Jvm.MethodName) jdk_52_method_16_code (6 : Nat) (Option.some (Jvm.ClassFile.FieldType.array Jvm.ClassFile.FieldType.byte)), Jvm.Cond.code ({ cls := "java/lang/StringUTF16", name := "compress", desc := "([CI[BII)I" } : Jvm.MethodName) jdk_52_method_21_code (7 : Nat) (Option.some Jvm.ClassFile.FieldType.int), Jvm.Cond.code ({ cls := "java/lang/StringUTF16", name := "coderFromArrayLen", desc := "([BI)B" } : Jvm.MethodName) jdk_52_method_15_code (2 : Nat) (Option.some Jvm.ClassFile.FieldType.byte), Jvm.Cond.code ({ cls := "java/lang/String", name := "charAt", desc := "(I)C" } : Jvm.MethodName) jdk_42_method_56_code (2 : Nat) (Option.some Jvm.ClassFile.FieldType.char), Jvm.Cond.code ({ cls := "java/lang/String", name := "isLatin1", desc := "()Z" } : Jvm.MethodName) jdk_42_method_154_code (1 : Nat) (Option.some Jvm.ClassFile.FieldType.boolean), Jvm.Cond.code ({ cls := "java/lang/StringLatin1", name := "charAt", desc := "([BI)C" } : Jvm.MethodName) jdk_43_method_2_code (2 : Nat) (Option.some Jvm.ClassFile.FieldType.char), Jvm.Cond.code ({ cls := "java/lang/String", name := "checkIndex", desc := "(II)V" } : Jvm.MethodName) jdk_42_method_155_code (2 : Nat) (Option.none : Option Jvm.ClassFile.FieldType), Jvm.Cond.code ({ cls := "jdk/internal/util/Preconditions", name := "checkIndex", desc := "(IILjava/util/function/BiFunction;)I" } : Jvm.MethodName) jdk_41_method_11_code (3 : Nat) (Option.some Jvm.ClassFile.FieldType.int), Jvm.Cond.code ({ cls := "com/example/verdict/verdict/saml/XmlScanner", name := "skip", desc := "(C)Z" } : Jvm.MethodName) prog_45_method_6_code (3 : Nat) (Option.some Jvm.ClassFile.FieldType.boolean)]
set_option maxRecDepth 65536 in
theorem codes_eq : words1.filter isCode = codes1 := rfl
theorem w_codes : ∀ c ∈ words1.filter isCode, c.before args0 about1 = true := by
  rw [codes_eq]
  intro c hc
  simp only [codes1, List.mem_cons, List.not_mem_nil, or_false] at hc
  rcases hc with rfl | rfl | rfl | rfl | rfl | rfl | rfl | rfl | rfl | rfl | rfl | rfl | rfl | rfl | rfl | rfl | rfl | rfl | rfl | rfl | rfl | rfl | rfl | rfl | rfl
  · exact w_c0
  · exact w_c1
  · exact w_c2
  · exact w_c3
  · exact w_c4
  · exact w_c5
  · exact w_c6
  · exact w_c7
  · exact w_c8
  · exact w_c9
  · exact w_c10
  · exact w_c11
  · exact w_c12
  · exact w_c13
  · exact w_c14
  · exact w_c15
  · exact w_c16
  · exact w_c17
  · exact w_c18
  · exact w_c19
  · exact w_c20
  · exact w_c21
  · exact w_c22
  · exact w_c23
  · exact w_c24
set_option maxRecDepth 65536 in
theorem w_t1 : (words1.take 24).all (fun c => isCode c || c.before args0 about1) = true := by decide +kernel
set_option maxRecDepth 65536 in
theorem w_t2 : ((words1.drop 24).take 24).all (fun c => isCode c || c.before args0 about1) = true := by decide +kernel
set_option maxRecDepth 65536 in
theorem w_t3 : (((words1.drop 24).drop 24).take 24).all (fun c => isCode c || c.before args0 about1) = true := by decide +kernel
set_option maxRecDepth 65536 in
theorem w_t4 : ((((words1.drop 24).drop 24).drop 24).take 24).all (fun c => isCode c || c.before args0 about1) = true := by decide +kernel
set_option maxRecDepth 65536 in
theorem w_t5 : (((((words1.drop 24).drop 24).drop 24).drop 24).take 24).all (fun c => isCode c || c.before args0 about1) = true := by decide +kernel
set_option maxRecDepth 65536 in
theorem w_t6 : (((((words1.drop 24).drop 24).drop 24).drop 24).drop 24).all (fun c => isCode c || c.before args0 about1) = true := by decide +kernel
theorem w_tables : (allAtoms (Jvm.Cond.code x code maxLocals ret :: tables_1)).before args0 about1 = true := by
  rw [allAtoms_all]
  show words1.all (fun c => c.before args0 about1) = true
  refine all_split ?_ w_codes
  rw [← List.take_append_drop 24 words1, List.all_append, w_t1, ← List.take_append_drop 24 (words1.drop 24), List.all_append, w_t2, ← List.take_append_drop 24 ((words1.drop 24).drop 24), List.all_append, w_t3, ← List.take_append_drop 24 (((words1.drop 24).drop 24).drop 24), List.all_append, w_t4, ← List.take_append_drop 24 ((((words1.drop 24).drop 24).drop 24).drop 24), List.all_append, w_t5, w_t6]
  rfl
set_option maxRecDepth 65536 in
theorem w_rest : rest_1_c.before args0 about1 = true := by decide +kernel
set_option maxRecDepth 65536 in
theorem w_case : (Jvm.Cond.and given_1 narrow_1).before args0 about1 = true := by decide +kernel
set_option maxRecDepth 65536 in
theorem w_consts : constsHeld consts_1 about1 := Jvm.Lit.constsHeldB_iff.mp (by decide +kernel)
theorem w_applies : (headSpec (Jvm.Cond.code x code maxLocals ret :: tables_1) room_1).applies x e0.platform about1 = true :=
  (Spec.applies_iff w_frames).mpr ⟨w_running, w_runnable, w_alone, w_named, w_hears, w_ripe, w_room, w_tables⟩
theorem atStart : AtStart classFile x code maxLocals ret World_1 tables_1 room_1 Calls_1 rest_1 Pre_1 launch0 p0 e0 about1 theMethod args0 below0 :=
  ⟨lists_1, trivial, launch0.admits_env _ _ _, launch0.least_env, fairChoices_fair.cas, fairChoices_fair.clock, w_frames, w_args, w_heap, w_applies, ⟨w_consts, trivial⟩, w_rest, w_case⟩
end start1
theorem witness_1 : WitnessClaimed_1 := ⟨start1.p0, start1.e0, start1.about1, start1.theMethod, start1.args0, start1.below0, start1.atStart⟩
end Jvm.Pilot.@@N@@
