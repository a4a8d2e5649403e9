import JvmDerived
import JvmDerived.Pilot.@@N@@Statement
import JvmDerived.Pilot.@@N@@Code
set_option linter.unusedVariables false
set_option linter.unusedSimpArgs false
namespace Jvm.RoadKit
open Sem ClassFile Op Lib Jvm.Stand Jvm.Free Jvm.LawKit
section New
variable {p : Program} {l : Launch} {e : Env} {R : Room} {s : State} {m : MethodId} {args : Array Value} {below : List Frame} {meth : Method} {c : Code} {T : State} {locs : List Loc} {cells slots : Nat}
theorem retI (X : Stand p l e R s m args below meth c T locs cells slots) (hx : p.tables.exec = Jvm.exec) {pc : Nat} {Ls : Array Slot} {z : Int32} {rest : List Value} (hret : meth.sig.returnType = some .int) (hd : decode c.code pc = .ok (.ireturn, 1)) {fs : List Frame}
    (hl : ∀ (f : JFrame) (acts : List Action), f.method = m → f.locked = none → f.entered = [] → (doReturn e (T.setTop f) acts (some (.int z))).1 = T.setFrames fs) : Steps p.tables e below (T.setTop (mkF m pc Ls (.int z :: rest))) (T.setFrames fs) := by
  have hm' : T.vm.method? m = some meth := X.method'
  have hn : narrow .int (.int z) = .int z := rfl
  show Steps p.tables e below (T.setTop { method := m, pc := pc, locals := Ls, stack := _ :: rest, locked := none }) _
  jvm_step X.here [X.here.top, hx, hd, hm', hret, hn]
  first | (intro acts; rw [hl _ acts rfl rfl rfl]) | rw [hl _ _ rfl rfl rfl]
  exact Steps.refl _
end New
end Jvm.RoadKit
namespace Jvm.Pilot.@@N@@
open Jvm Jvm.ClassFile Sem Op Lib Jvm.Free Jvm.Stand Jvm.LawKit Jvm.RoadKit Bundle Jvm.Pilot.@@N@@.Jvm.D
-- from the state st the run ends, and Q holds of what it leaves
def GoalS (tb : Tables) (e : Env) (below : List Frame) (s : State) (kc ks : Nat) (Q : Option Value → Heap → List Loc → Prop) (st : State) : Prop :=
  ∃ s₂ o, Steps tb e below st s₂ ∧ s₂.status = .running ∧ Ended s₂ below o ∧ ∃ v L, o = .returned v ∧ Q v s₂.heap L ∧ FrameEnd s o s₂ L kc ks
theorem GoalS.lift {tb : Tables} {e : Env} {below : List Frame} {s : State} {kc ks : Nat} {Q : Option Value → Heap → List Loc → Prop} {A B : State}
    (h : ∀ t, Steps tb e below B t → Steps tb e below A t) (g : GoalS tb e below s kc ks Q B) : GoalS tb e below s kc ks Q A := by
  obtain ⟨s₂, o, h1, h2⟩ := g
  exact ⟨s₂, o, h _ h1, h2⟩
-- an array of n places of which place i holds f i
def AV (Z : State) (h : Heap) (a : Addr) (k : ClassId) (ty : FieldType) (n : Nat) (f : Nat → Value) : Prop := ∃ c : Cell, Arr Z h a c ty ∧ c.cls = k ∧ c.slots.size = n ∧ n < 2147483648 ∧ ∀ i, i < n → c.slots[i]? = some (f i)
def updI (f : Nat → Int32) (j : Nat) (v : Int32) : Nat → Int32 := fun i => if i = j then v else f i
def updJ (f : Nat → Int64) (j : Nat) (v : Int64) : Nat → Int64 := fun i => if i = j then v else f i
def updR (f : Nat → Value) (j : Nat) (v : Value) : Nat → Value := fun i => if i = j then v else f i
section Own
variable {Z : State} {h h' : Heap} {a b : Addr} {k : ClassId} {ty : FieldType} {n : Nat} {f g : Nat → Value} {ws : List Addr} {v : Value} {sl : Nat}
theorem AV.lt (F : AV Z h a k ty n f) : a < h.size := by obtain ⟨c, A, -⟩ := F; exact A.lt
theorem AV.ext (F : AV Z h a k ty n f) (E : Ext h h') : AV Z h' a k ty n f := by obtain ⟨c, A, r⟩ := F; exact ⟨c, A.ext E, r⟩
theorem AV.other (F : AV Z h b k ty n f) (W : Wr h h' a sl v) (q : b ≠ a) : AV Z h' b k ty n f := by obtain ⟨c, A, r⟩ := F; exact ⟨c, A.other W q, r⟩
theorem AV.keep (F : AV Z h a k ty n f) (K : Keep h h' ws) (q : a ∉ ws) : AV Z h' a k ty n f := by obtain ⟨c, A, r⟩ := F; exact ⟨c, ⟨K.2.1 a c A.1 q, A.2⟩, r⟩
theorem AV.new {z : Int32} (A : Arr Z h a (newA k ty z) ty) (q : ¬ z < 0) (hn : z.toNatClampNeg = n) (hb : n < 2147483648) : AV Z h a k ty n (fun _ => defaultValue ty) :=
  ⟨_, A, rfl, (sz_new _ _ _).trans hn, hb, fun i hi => by simp [newA, hn, hi]⟩
theorem Exa.ns {C : String} (F : Exa Z h a C) : ∀ cell : Cell, h[a]? = some cell → cell.vm.isStatics = false := fun cell hc => by
  obtain ⟨c, _, h1, -, -, h4, -⟩ := F
  cases h1.symm.trans hc; exact h4
theorem AV.ns (F : AV Z h a k ty n f) : ∀ cell : Cell, h[a]? = some cell → cell.vm.isStatics = false := fun cell hc => by
  obtain ⟨c, A, -⟩ := F
  cases A.1.symm.trans hc; exact A.plain
theorem StaKeep {C nm d : String} (F : Sta Z h C nm d v) (K : Keep h h' ws) (q : ∀ x ∈ ws, ∀ cell : Cell, h[x]? = some cell → cell.vm.isStatics = false) : Sta Z h' C nm d v := by
  obtain ⟨cf, i, kk, ff, st, cell, h1, h2, h3, h4, h5, h6, h7⟩ := F
  exact ⟨cf, i, kk, ff, st, cell, h1, h2, h3, h4, K.2.1 st cell h5 (fun u => by rw [q st u cell h5] at h6; cases h6), h6, h7⟩
theorem AV.arv {z : Int32} {vs : List Value} {dv : Value} (F : AV Z h a k ty n f) (hz : ¬ z < 0) (hn : z.toNatClampNeg = n) (e : ∀ i, i < n → f i = vs.getD i dv) (hf : ∀ i, i < n → fits ty (f i) = true) : Arv Z h a k ty z vs dv := by
  obtain ⟨c, A, r1, r2, r3, r4⟩ := F
  exact ⟨c, A, r1, r2.trans hn.symm, hz, fun i hi => (r4 i (r2 ▸ hi)).trans (congrArg some (e i (r2 ▸ hi))), fun i hi => by rw [← e i (r2 ▸ hi)]; exact hf i (r2 ▸ hi)⟩
theorem AV.inb {c : Cell} {j : Int32} (S : c.slots.size = n) (q : ¬ j < 0 ∧ j.toNatClampNeg < n) : ¬ (j < 0 ∨ c.slots.size ≤ j.toNatClampNeg) := fun u => u.elim q.1 fun w => by omega
theorem AV.inx {j : Int32} (q : ¬ j < 0 ∧ j.toNatClampNeg < n) : j.toNatClampNeg < n := q.2
theorem AV.conv (F : AV Z h a k ty n f) (e : ∀ i, i < n → f i = g i) : AV Z h a k ty n g := by
  obtain ⟨c, A, r1, r2, r3, r4⟩ := F; exact ⟨c, A, r1, r2, r3, fun i hi => (r4 i hi).trans (congrArg some (e i hi))⟩
theorem AV.putR {j : Nat} (F : AV Z h a k ty n f) (W : Wr h h' a j v) (hj : j < n) : AV Z h' a k ty n (updR f j v) := by
  obtain ⟨c, A, r1, r2, r3, r4⟩ := F
  refine ⟨_, A.same W, r1, (sz_set _ _ _).trans r2, r3, fun i hi => ?_⟩
  by_cases q : i = j
  · subst q; simp [Cell.setSlot, updR, r2, hi]
  · have q' : j ≠ i := fun u => q u.symm
    simp only [Cell.setSlot, updR, if_neg q]; rw [Array.getElem?_setIfInBounds_ne q']; exact r4 i hi
theorem AV.putI {j : Nat} {f : Nat → Int32} {v : Int32} (F : AV Z h a k ty n (fun i => Value.int (f i))) (W : Wr h h' a j (.int v)) (hj : j < n) : AV Z h' a k ty n (fun i => Value.int (updI f j v i)) :=
  (F.putR W hj).conv fun i _ => by simp only [updR, updI]; split <;> rfl
theorem AV.putJ {j : Nat} {f : Nat → Int64} {v : Int64} (F : AV Z h a k ty n (fun i => Value.long (f i))) (W : Wr h h' a j (.long v)) (hj : j < n) : AV Z h' a k ty n (fun i => Value.long (updJ f j v i)) :=
  (F.putR W hj).conv fun i _ => by simp only [updR, updJ]; split <;> rfl
end Own

abbrev vi (x : Int32) : Slot := .val (.int x)
abbrev vr (x : Addr) : Slot := .val (.ref x)
abbrev vj (x : Int64) : Slot := .val (.long x)
def own_B (b : Int32) : Prop := 1 ≤ b.toInt ∧ b.toInt ≤ 31
def own_W (b : Int32) : Int32 := if (21 : Int32) < b then 2 else 1
def own_w3 (B m0 m1 m2 : Int32) : Int64 := ((((0 : Int64) ||| ((m0).toInt64 <<< ((0 : Int32) &&& 0x3f).toInt64)) ||| ((m1).toInt64 <<< (((0 : Int32) + B) &&& 0x3f).toInt64)) ||| ((m2).toInt64 <<< ((((0 : Int32) + B) + B) &&& 0x3f).toInt64))
def own_w2 (B m0 m1 : Int32) : Int64 := (((0 : Int64) ||| ((m0).toInt64 <<< ((0 : Int32) &&& 0x3f).toInt64)) ||| ((m1).toInt64 <<< (((0 : Int32) + B) &&& 0x3f).toInt64))
def own_w1 (m2 : Int32) : Int64 := ((0 : Int64) ||| ((m2).toInt64 <<< ((0 : Int32) &&& 0x3f).toInt64))
def own_mk (B : Int32) : Int64 := (((1 : Int64) <<< (B &&& 0x3f).toInt64) - (1 : Int64))
def own_rd (x : Int64) (sh : Int32) (mk : Int64) : Int32 := ((((((x).toUInt64 >>> (sh &&& 0x3f).toInt64.toUInt64).toInt64)) &&& mk).toInt32)
theorem own_enum {b : Int32} (h : own_B b) : b = 1 ∨ b = 2 ∨ b = 3 ∨ b = 4 ∨ b = 5 ∨ b = 6 ∨ b = 7 ∨ b = 8 ∨ b = 9 ∨ b = 10 ∨ b = 11 ∨ b = 12 ∨ b = 13 ∨ b = 14 ∨ b = 15 ∨ b = 16 ∨ b = 17 ∨ b = 18 ∨ b = 19 ∨ b = 20 ∨ b = 21 ∨ b = 22 ∨ b = 23 ∨ b = 24 ∨ b = 25 ∨ b = 26 ∨ b = 27 ∨ b = 28 ∨ b = 29 ∨ b = 30 ∨ b = 31 := by
  have k : ∀ (n : Int) (y : Int32), y.toInt = n → b.toInt = n → b = y := fun n y q r => Int32.toInt_inj.mp (r.trans q.symm)
  obtain ⟨h1, h2⟩ := h
  rcases (show b.toInt = 1 ∨ b.toInt = 2 ∨ b.toInt = 3 ∨ b.toInt = 4 ∨ b.toInt = 5 ∨ b.toInt = 6 ∨ b.toInt = 7 ∨ b.toInt = 8 ∨ b.toInt = 9 ∨ b.toInt = 10 ∨ b.toInt = 11 ∨ b.toInt = 12 ∨ b.toInt = 13 ∨ b.toInt = 14 ∨ b.toInt = 15 ∨ b.toInt = 16 ∨ b.toInt = 17 ∨ b.toInt = 18 ∨ b.toInt = 19 ∨ b.toInt = 20 ∨ b.toInt = 21 ∨ b.toInt = 22 ∨ b.toInt = 23 ∨ b.toInt = 24 ∨ b.toInt = 25 ∨ b.toInt = 26 ∨ b.toInt = 27 ∨ b.toInt = 28 ∨ b.toInt = 29 ∨ b.toInt = 30 ∨ b.toInt = 31 by omega) with q | q | q | q | q | q | q | q | q | q | q | q | q | q | q | q | q | q | q | q | q | q | q | q | q | q | q | q | q | q | q
  · exact Or.inl (k 1 1 rfl q)
  · exact Or.inr (Or.inl (k 2 2 rfl q))
  · exact Or.inr (Or.inr (Or.inl (k 3 3 rfl q)))
  · exact Or.inr (Or.inr (Or.inr (Or.inl (k 4 4 rfl q))))
  · exact Or.inr (Or.inr (Or.inr (Or.inr (Or.inl (k 5 5 rfl q)))))
  · exact Or.inr (Or.inr (Or.inr (Or.inr (Or.inr (Or.inl (k 6 6 rfl q))))))
  · exact Or.inr (Or.inr (Or.inr (Or.inr (Or.inr (Or.inr (Or.inl (k 7 7 rfl q)))))))
  · exact Or.inr (Or.inr (Or.inr (Or.inr (Or.inr (Or.inr (Or.inr (Or.inl (k 8 8 rfl q))))))))
  · exact Or.inr (Or.inr (Or.inr (Or.inr (Or.inr (Or.inr (Or.inr (Or.inr (Or.inl (k 9 9 rfl q)))))))))
  · exact Or.inr (Or.inr (Or.inr (Or.inr (Or.inr (Or.inr (Or.inr (Or.inr (Or.inr (Or.inl (k 10 10 rfl q))))))))))
  · exact Or.inr (Or.inr (Or.inr (Or.inr (Or.inr (Or.inr (Or.inr (Or.inr (Or.inr (Or.inr (Or.inl (k 11 11 rfl q)))))))))))
  · exact Or.inr (Or.inr (Or.inr (Or.inr (Or.inr (Or.inr (Or.inr (Or.inr (Or.inr (Or.inr (Or.inr (Or.inl (k 12 12 rfl q))))))))))))
  · exact Or.inr (Or.inr (Or.inr (Or.inr (Or.inr (Or.inr (Or.inr (Or.inr (Or.inr (Or.inr (Or.inr (Or.inr (Or.inl (k 13 13 rfl q)))))))))))))
  · exact Or.inr (Or.inr (Or.inr (Or.inr (Or.inr (Or.inr (Or.inr (Or.inr (Or.inr (Or.inr (Or.inr (Or.inr (Or.inr (Or.inl (k 14 14 rfl q))))))))))))))
  · exact Or.inr (Or.inr (Or.inr (Or.inr (Or.inr (Or.inr (Or.inr (Or.inr (Or.inr (Or.inr (Or.inr (Or.inr (Or.inr (Or.inr (Or.inl (k 15 15 rfl q)))))))))))))))
  · exact Or.inr (Or.inr (Or.inr (Or.inr (Or.inr (Or.inr (Or.inr (Or.inr (Or.inr (Or.inr (Or.inr (Or.inr (Or.inr (Or.inr (Or.inr (Or.inl (k 16 16 rfl q))))))))))))))))
  · exact Or.inr (Or.inr (Or.inr (Or.inr (Or.inr (Or.inr (Or.inr (Or.inr (Or.inr (Or.inr (Or.inr (Or.inr (Or.inr (Or.inr (Or.inr (Or.inr (Or.inl (k 17 17 rfl q)))))))))))))))))
  · exact Or.inr (Or.inr (Or.inr (Or.inr (Or.inr (Or.inr (Or.inr (Or.inr (Or.inr (Or.inr (Or.inr (Or.inr (Or.inr (Or.inr (Or.inr (Or.inr (Or.inr (Or.inl (k 18 18 rfl q))))))))))))))))))
  · exact Or.inr (Or.inr (Or.inr (Or.inr (Or.inr (Or.inr (Or.inr (Or.inr (Or.inr (Or.inr (Or.inr (Or.inr (Or.inr (Or.inr (Or.inr (Or.inr (Or.inr (Or.inr (Or.inl (k 19 19 rfl q)))))))))))))))))))
  · exact Or.inr (Or.inr (Or.inr (Or.inr (Or.inr (Or.inr (Or.inr (Or.inr (Or.inr (Or.inr (Or.inr (Or.inr (Or.inr (Or.inr (Or.inr (Or.inr (Or.inr (Or.inr (Or.inr (Or.inl (k 20 20 rfl q))))))))))))))))))))
  · exact Or.inr (Or.inr (Or.inr (Or.inr (Or.inr (Or.inr (Or.inr (Or.inr (Or.inr (Or.inr (Or.inr (Or.inr (Or.inr (Or.inr (Or.inr (Or.inr (Or.inr (Or.inr (Or.inr (Or.inr (Or.inl (k 21 21 rfl q)))))))))))))))))))))
  · exact Or.inr (Or.inr (Or.inr (Or.inr (Or.inr (Or.inr (Or.inr (Or.inr (Or.inr (Or.inr (Or.inr (Or.inr (Or.inr (Or.inr (Or.inr (Or.inr (Or.inr (Or.inr (Or.inr (Or.inr (Or.inr (Or.inl (k 22 22 rfl q))))))))))))))))))))))
  · exact Or.inr (Or.inr (Or.inr (Or.inr (Or.inr (Or.inr (Or.inr (Or.inr (Or.inr (Or.inr (Or.inr (Or.inr (Or.inr (Or.inr (Or.inr (Or.inr (Or.inr (Or.inr (Or.inr (Or.inr (Or.inr (Or.inr (Or.inl (k 23 23 rfl q)))))))))))))))))))))))
  · exact Or.inr (Or.inr (Or.inr (Or.inr (Or.inr (Or.inr (Or.inr (Or.inr (Or.inr (Or.inr (Or.inr (Or.inr (Or.inr (Or.inr (Or.inr (Or.inr (Or.inr (Or.inr (Or.inr (Or.inr (Or.inr (Or.inr (Or.inr (Or.inl (k 24 24 rfl q))))))))))))))))))))))))
  · exact Or.inr (Or.inr (Or.inr (Or.inr (Or.inr (Or.inr (Or.inr (Or.inr (Or.inr (Or.inr (Or.inr (Or.inr (Or.inr (Or.inr (Or.inr (Or.inr (Or.inr (Or.inr (Or.inr (Or.inr (Or.inr (Or.inr (Or.inr (Or.inr (Or.inl (k 25 25 rfl q)))))))))))))))))))))))))
  · exact Or.inr (Or.inr (Or.inr (Or.inr (Or.inr (Or.inr (Or.inr (Or.inr (Or.inr (Or.inr (Or.inr (Or.inr (Or.inr (Or.inr (Or.inr (Or.inr (Or.inr (Or.inr (Or.inr (Or.inr (Or.inr (Or.inr (Or.inr (Or.inr (Or.inr (Or.inl (k 26 26 rfl q))))))))))))))))))))))))))
  · exact Or.inr (Or.inr (Or.inr (Or.inr (Or.inr (Or.inr (Or.inr (Or.inr (Or.inr (Or.inr (Or.inr (Or.inr (Or.inr (Or.inr (Or.inr (Or.inr (Or.inr (Or.inr (Or.inr (Or.inr (Or.inr (Or.inr (Or.inr (Or.inr (Or.inr (Or.inr (Or.inl (k 27 27 rfl q)))))))))))))))))))))))))))
  · exact Or.inr (Or.inr (Or.inr (Or.inr (Or.inr (Or.inr (Or.inr (Or.inr (Or.inr (Or.inr (Or.inr (Or.inr (Or.inr (Or.inr (Or.inr (Or.inr (Or.inr (Or.inr (Or.inr (Or.inr (Or.inr (Or.inr (Or.inr (Or.inr (Or.inr (Or.inr (Or.inr (Or.inl (k 28 28 rfl q))))))))))))))))))))))))))))
  · exact Or.inr (Or.inr (Or.inr (Or.inr (Or.inr (Or.inr (Or.inr (Or.inr (Or.inr (Or.inr (Or.inr (Or.inr (Or.inr (Or.inr (Or.inr (Or.inr (Or.inr (Or.inr (Or.inr (Or.inr (Or.inr (Or.inr (Or.inr (Or.inr (Or.inr (Or.inr (Or.inr (Or.inr (Or.inl (k 29 29 rfl q)))))))))))))))))))))))))))))
  · exact Or.inr (Or.inr (Or.inr (Or.inr (Or.inr (Or.inr (Or.inr (Or.inr (Or.inr (Or.inr (Or.inr (Or.inr (Or.inr (Or.inr (Or.inr (Or.inr (Or.inr (Or.inr (Or.inr (Or.inr (Or.inr (Or.inr (Or.inr (Or.inr (Or.inr (Or.inr (Or.inr (Or.inr (Or.inr (Or.inl (k 30 30 rfl q))))))))))))))))))))))))))))))
  · exact Or.inr (Or.inr (Or.inr (Or.inr (Or.inr (Or.inr (Or.inr (Or.inr (Or.inr (Or.inr (Or.inr (Or.inr (Or.inr (Or.inr (Or.inr (Or.inr (Or.inr (Or.inr (Or.inr (Or.inr (Or.inr (Or.inr (Or.inr (Or.inr (Or.inr (Or.inr (Or.inr (Or.inr (Or.inr (Or.inr ((k 31 31 rfl q)))))))))))))))))))))))))))))))
theorem own_sh0 (x : Int64) : x <<< ((0 : Int32) &&& 0x3f).toInt64 = x := by
  rw [show ((0 : Int32) &&& 0x3f).toInt64 = 0 by decide]; simp
theorem own_us0 (x : Int64) : ((x.toUInt64 >>> ((0 : Int32) &&& 0x3f).toInt64.toUInt64).toInt64) = x := by
  rw [show ((0 : Int32) &&& 0x3f).toInt64.toUInt64 = 0 by decide]; simp
theorem own_w1_eq (m2 : Int32) : own_w1 m2 = m2.toInt64 := by rw [own_w1, own_sh0]; simp
theorem own_rng64 (x : Int64) : -9223372036854775808 ≤ x.toInt ∧ x.toInt ≤ 9223372036854775807 := ⟨x.le_toInt, x.toInt_le⟩
theorem own_rdk {x : Int64} {sh : Int32} {mk : Int64} {m : Int32} (k b : Nat) (hk : sh.toBitVec.toNat % 64 = k) (hb : b ≤ 31) (hm : mk.toBitVec.toNat = 2 ^ b - 1) (h0 : 0 ≤ x.toInt) (hv : x.toInt / (2 ^ k : Nat) % (2 ^ b : Nat) = m.toInt) : own_rd x sh mk = m := by
  have e : ((x.toUInt64 >>> (sh &&& 0x3f).toInt64.toUInt64).toInt64).toInt = x.toInt / (2 ^ k : Nat) := by
    by_cases q : 0 < k
    · rw [c_lushr x sh k hk q]
      have := own_rng64 x
      rw [show x.toInt % 18446744073709551616 = x.toInt by omega]
    · have q0 : k = 0 := by omega
      subst q0
      have e0 : (sh &&& 0x3f).toInt64.toUInt64 = 0 := by
        have h1 : sh &&& 0x3f = 0 := by
          have := c_mask sh 0x3f 6 (by decide) (by decide)
          apply Int32.toInt_inj.mp
          rw [this]
          have e1 : sh.toInt % 64 = 0 := by
            have : sh.toInt = sh.toBitVec.toInt := rfl
            rw [this, BitVec.toInt_eq_toNat_cond]; split <;> omega
          show sh.toInt % 64 = _
          rw [e1]; rfl
        rw [h1]; rfl
      rw [e0]; simp
  have e2 := c_maskL ((x.toUInt64 >>> (sh &&& 0x3f).toInt64.toUInt64).toInt64) mk b (by omega) hm
  rw [e, hv] at e2
  apply Int32.toInt_inj.mp
  have e3 := c_l2i (((x.toUInt64 >>> (sh &&& 0x3f).toInt64.toUInt64).toInt64) &&& mk)
  rw [own_rd]
  have r1 := rng32 (((((x.toUInt64 >>> (sh &&& 0x3f).toInt64.toUInt64).toInt64)) &&& mk).toInt32)
  have r2 := rng32 m
  omega
theorem own_v2_1 {m0 m1 : Int32} (h0 : 0 ≤ m0.toInt ∧ m0.toInt < 2) (h1 : 0 ≤ m1.toInt ∧ m1.toInt < 2) : (own_w2 1 m0 m1).toInt = m0.toInt + m1.toInt * 2 := by
  have a := c_lshl m1.toInt64 ((0 : Int32) + 1) 1 (by decide)
  rw [c_i2l] at a
  have ra := own_rng64 (m1.toInt64 <<< (((0 : Int32) + 1) &&& 0x3f).toInt64)
  have o := c_orL' m0.toInt64 (m1.toInt64 <<< (((0 : Int32) + 1) &&& 0x3f).toInt64) 1 (by decide) 2 (by decide)
  rw [c_i2l] at o
  have ro := own_rng64 (m0.toInt64 ||| (m1.toInt64 <<< (((0 : Int32) + 1) &&& 0x3f).toInt64))
  rw [own_w2, own_sh0, Int64.zero_or]
  omega
theorem own_v3_1 {m0 m1 m2 : Int32} (h0 : 0 ≤ m0.toInt ∧ m0.toInt < 2) (h1 : 0 ≤ m1.toInt ∧ m1.toInt < 2) (h2 : 0 ≤ m2.toInt ∧ m2.toInt < 2) : (own_w3 1 m0 m1 m2).toInt = m0.toInt + m1.toInt * 2 + m2.toInt * 4 := by
  have b := own_v2_1 h0 h1
  have a := c_lshl m2.toInt64 (((0 : Int32) + 1) + 1) 2 (by decide)
  rw [c_i2l] at a
  have ra := own_rng64 (m2.toInt64 <<< ((((0 : Int32) + 1) + 1) &&& 0x3f).toInt64)
  have o := c_orL' (own_w2 1 m0 m1) (m2.toInt64 <<< ((((0 : Int32) + 1) + 1) &&& 0x3f).toInt64) 2 (by decide) 4 (by decide)
  have ro := own_rng64 ((own_w2 1 m0 m1) ||| (m2.toInt64 <<< ((((0 : Int32) + 1) + 1) &&& 0x3f).toInt64))
  show ((own_w2 1 m0 m1) ||| (m2.toInt64 <<< ((((0 : Int32) + 1) + 1) &&& 0x3f).toInt64)).toInt = _
  omega
theorem own_v2_2 {m0 m1 : Int32} (h0 : 0 ≤ m0.toInt ∧ m0.toInt < 4) (h1 : 0 ≤ m1.toInt ∧ m1.toInt < 4) : (own_w2 2 m0 m1).toInt = m0.toInt + m1.toInt * 4 := by
  have a := c_lshl m1.toInt64 ((0 : Int32) + 2) 2 (by decide)
  rw [c_i2l] at a
  have ra := own_rng64 (m1.toInt64 <<< (((0 : Int32) + 2) &&& 0x3f).toInt64)
  have o := c_orL' m0.toInt64 (m1.toInt64 <<< (((0 : Int32) + 2) &&& 0x3f).toInt64) 2 (by decide) 4 (by decide)
  rw [c_i2l] at o
  have ro := own_rng64 (m0.toInt64 ||| (m1.toInt64 <<< (((0 : Int32) + 2) &&& 0x3f).toInt64))
  rw [own_w2, own_sh0, Int64.zero_or]
  omega
theorem own_v3_2 {m0 m1 m2 : Int32} (h0 : 0 ≤ m0.toInt ∧ m0.toInt < 4) (h1 : 0 ≤ m1.toInt ∧ m1.toInt < 4) (h2 : 0 ≤ m2.toInt ∧ m2.toInt < 4) : (own_w3 2 m0 m1 m2).toInt = m0.toInt + m1.toInt * 4 + m2.toInt * 16 := by
  have b := own_v2_2 h0 h1
  have a := c_lshl m2.toInt64 (((0 : Int32) + 2) + 2) 4 (by decide)
  rw [c_i2l] at a
  have ra := own_rng64 (m2.toInt64 <<< ((((0 : Int32) + 2) + 2) &&& 0x3f).toInt64)
  have o := c_orL' (own_w2 2 m0 m1) (m2.toInt64 <<< ((((0 : Int32) + 2) + 2) &&& 0x3f).toInt64) 4 (by decide) 16 (by decide)
  have ro := own_rng64 ((own_w2 2 m0 m1) ||| (m2.toInt64 <<< ((((0 : Int32) + 2) + 2) &&& 0x3f).toInt64))
  show ((own_w2 2 m0 m1) ||| (m2.toInt64 <<< ((((0 : Int32) + 2) + 2) &&& 0x3f).toInt64)).toInt = _
  omega
theorem own_v2_3 {m0 m1 : Int32} (h0 : 0 ≤ m0.toInt ∧ m0.toInt < 8) (h1 : 0 ≤ m1.toInt ∧ m1.toInt < 8) : (own_w2 3 m0 m1).toInt = m0.toInt + m1.toInt * 8 := by
  have a := c_lshl m1.toInt64 ((0 : Int32) + 3) 3 (by decide)
  rw [c_i2l] at a
  have ra := own_rng64 (m1.toInt64 <<< (((0 : Int32) + 3) &&& 0x3f).toInt64)
  have o := c_orL' m0.toInt64 (m1.toInt64 <<< (((0 : Int32) + 3) &&& 0x3f).toInt64) 3 (by decide) 8 (by decide)
  rw [c_i2l] at o
  have ro := own_rng64 (m0.toInt64 ||| (m1.toInt64 <<< (((0 : Int32) + 3) &&& 0x3f).toInt64))
  rw [own_w2, own_sh0, Int64.zero_or]
  omega
theorem own_v3_3 {m0 m1 m2 : Int32} (h0 : 0 ≤ m0.toInt ∧ m0.toInt < 8) (h1 : 0 ≤ m1.toInt ∧ m1.toInt < 8) (h2 : 0 ≤ m2.toInt ∧ m2.toInt < 8) : (own_w3 3 m0 m1 m2).toInt = m0.toInt + m1.toInt * 8 + m2.toInt * 64 := by
  have b := own_v2_3 h0 h1
  have a := c_lshl m2.toInt64 (((0 : Int32) + 3) + 3) 6 (by decide)
  rw [c_i2l] at a
  have ra := own_rng64 (m2.toInt64 <<< ((((0 : Int32) + 3) + 3) &&& 0x3f).toInt64)
  have o := c_orL' (own_w2 3 m0 m1) (m2.toInt64 <<< ((((0 : Int32) + 3) + 3) &&& 0x3f).toInt64) 6 (by decide) 64 (by decide)
  have ro := own_rng64 ((own_w2 3 m0 m1) ||| (m2.toInt64 <<< ((((0 : Int32) + 3) + 3) &&& 0x3f).toInt64))
  show ((own_w2 3 m0 m1) ||| (m2.toInt64 <<< ((((0 : Int32) + 3) + 3) &&& 0x3f).toInt64)).toInt = _
  omega
theorem own_v2_4 {m0 m1 : Int32} (h0 : 0 ≤ m0.toInt ∧ m0.toInt < 16) (h1 : 0 ≤ m1.toInt ∧ m1.toInt < 16) : (own_w2 4 m0 m1).toInt = m0.toInt + m1.toInt * 16 := by
  have a := c_lshl m1.toInt64 ((0 : Int32) + 4) 4 (by decide)
  rw [c_i2l] at a
  have ra := own_rng64 (m1.toInt64 <<< (((0 : Int32) + 4) &&& 0x3f).toInt64)
  have o := c_orL' m0.toInt64 (m1.toInt64 <<< (((0 : Int32) + 4) &&& 0x3f).toInt64) 4 (by decide) 16 (by decide)
  rw [c_i2l] at o
  have ro := own_rng64 (m0.toInt64 ||| (m1.toInt64 <<< (((0 : Int32) + 4) &&& 0x3f).toInt64))
  rw [own_w2, own_sh0, Int64.zero_or]
  omega
theorem own_v3_4 {m0 m1 m2 : Int32} (h0 : 0 ≤ m0.toInt ∧ m0.toInt < 16) (h1 : 0 ≤ m1.toInt ∧ m1.toInt < 16) (h2 : 0 ≤ m2.toInt ∧ m2.toInt < 16) : (own_w3 4 m0 m1 m2).toInt = m0.toInt + m1.toInt * 16 + m2.toInt * 256 := by
  have b := own_v2_4 h0 h1
  have a := c_lshl m2.toInt64 (((0 : Int32) + 4) + 4) 8 (by decide)
  rw [c_i2l] at a
  have ra := own_rng64 (m2.toInt64 <<< ((((0 : Int32) + 4) + 4) &&& 0x3f).toInt64)
  have o := c_orL' (own_w2 4 m0 m1) (m2.toInt64 <<< ((((0 : Int32) + 4) + 4) &&& 0x3f).toInt64) 8 (by decide) 256 (by decide)
  have ro := own_rng64 ((own_w2 4 m0 m1) ||| (m2.toInt64 <<< ((((0 : Int32) + 4) + 4) &&& 0x3f).toInt64))
  show ((own_w2 4 m0 m1) ||| (m2.toInt64 <<< ((((0 : Int32) + 4) + 4) &&& 0x3f).toInt64)).toInt = _
  omega
theorem own_v2_5 {m0 m1 : Int32} (h0 : 0 ≤ m0.toInt ∧ m0.toInt < 32) (h1 : 0 ≤ m1.toInt ∧ m1.toInt < 32) : (own_w2 5 m0 m1).toInt = m0.toInt + m1.toInt * 32 := by
  have a := c_lshl m1.toInt64 ((0 : Int32) + 5) 5 (by decide)
  rw [c_i2l] at a
  have ra := own_rng64 (m1.toInt64 <<< (((0 : Int32) + 5) &&& 0x3f).toInt64)
  have o := c_orL' m0.toInt64 (m1.toInt64 <<< (((0 : Int32) + 5) &&& 0x3f).toInt64) 5 (by decide) 32 (by decide)
  rw [c_i2l] at o
  have ro := own_rng64 (m0.toInt64 ||| (m1.toInt64 <<< (((0 : Int32) + 5) &&& 0x3f).toInt64))
  rw [own_w2, own_sh0, Int64.zero_or]
  omega
theorem own_v3_5 {m0 m1 m2 : Int32} (h0 : 0 ≤ m0.toInt ∧ m0.toInt < 32) (h1 : 0 ≤ m1.toInt ∧ m1.toInt < 32) (h2 : 0 ≤ m2.toInt ∧ m2.toInt < 32) : (own_w3 5 m0 m1 m2).toInt = m0.toInt + m1.toInt * 32 + m2.toInt * 1024 := by
  have b := own_v2_5 h0 h1
  have a := c_lshl m2.toInt64 (((0 : Int32) + 5) + 5) 10 (by decide)
  rw [c_i2l] at a
  have ra := own_rng64 (m2.toInt64 <<< ((((0 : Int32) + 5) + 5) &&& 0x3f).toInt64)
  have o := c_orL' (own_w2 5 m0 m1) (m2.toInt64 <<< ((((0 : Int32) + 5) + 5) &&& 0x3f).toInt64) 10 (by decide) 1024 (by decide)
  have ro := own_rng64 ((own_w2 5 m0 m1) ||| (m2.toInt64 <<< ((((0 : Int32) + 5) + 5) &&& 0x3f).toInt64))
  show ((own_w2 5 m0 m1) ||| (m2.toInt64 <<< ((((0 : Int32) + 5) + 5) &&& 0x3f).toInt64)).toInt = _
  omega
theorem own_v2_6 {m0 m1 : Int32} (h0 : 0 ≤ m0.toInt ∧ m0.toInt < 64) (h1 : 0 ≤ m1.toInt ∧ m1.toInt < 64) : (own_w2 6 m0 m1).toInt = m0.toInt + m1.toInt * 64 := by
  have a := c_lshl m1.toInt64 ((0 : Int32) + 6) 6 (by decide)
  rw [c_i2l] at a
  have ra := own_rng64 (m1.toInt64 <<< (((0 : Int32) + 6) &&& 0x3f).toInt64)
  have o := c_orL' m0.toInt64 (m1.toInt64 <<< (((0 : Int32) + 6) &&& 0x3f).toInt64) 6 (by decide) 64 (by decide)
  rw [c_i2l] at o
  have ro := own_rng64 (m0.toInt64 ||| (m1.toInt64 <<< (((0 : Int32) + 6) &&& 0x3f).toInt64))
  rw [own_w2, own_sh0, Int64.zero_or]
  omega
theorem own_v3_6 {m0 m1 m2 : Int32} (h0 : 0 ≤ m0.toInt ∧ m0.toInt < 64) (h1 : 0 ≤ m1.toInt ∧ m1.toInt < 64) (h2 : 0 ≤ m2.toInt ∧ m2.toInt < 64) : (own_w3 6 m0 m1 m2).toInt = m0.toInt + m1.toInt * 64 + m2.toInt * 4096 := by
  have b := own_v2_6 h0 h1
  have a := c_lshl m2.toInt64 (((0 : Int32) + 6) + 6) 12 (by decide)
  rw [c_i2l] at a
  have ra := own_rng64 (m2.toInt64 <<< ((((0 : Int32) + 6) + 6) &&& 0x3f).toInt64)
  have o := c_orL' (own_w2 6 m0 m1) (m2.toInt64 <<< ((((0 : Int32) + 6) + 6) &&& 0x3f).toInt64) 12 (by decide) 4096 (by decide)
  have ro := own_rng64 ((own_w2 6 m0 m1) ||| (m2.toInt64 <<< ((((0 : Int32) + 6) + 6) &&& 0x3f).toInt64))
  show ((own_w2 6 m0 m1) ||| (m2.toInt64 <<< ((((0 : Int32) + 6) + 6) &&& 0x3f).toInt64)).toInt = _
  omega
theorem own_v2_7 {m0 m1 : Int32} (h0 : 0 ≤ m0.toInt ∧ m0.toInt < 128) (h1 : 0 ≤ m1.toInt ∧ m1.toInt < 128) : (own_w2 7 m0 m1).toInt = m0.toInt + m1.toInt * 128 := by
  have a := c_lshl m1.toInt64 ((0 : Int32) + 7) 7 (by decide)
  rw [c_i2l] at a
  have ra := own_rng64 (m1.toInt64 <<< (((0 : Int32) + 7) &&& 0x3f).toInt64)
  have o := c_orL' m0.toInt64 (m1.toInt64 <<< (((0 : Int32) + 7) &&& 0x3f).toInt64) 7 (by decide) 128 (by decide)
  rw [c_i2l] at o
  have ro := own_rng64 (m0.toInt64 ||| (m1.toInt64 <<< (((0 : Int32) + 7) &&& 0x3f).toInt64))
  rw [own_w2, own_sh0, Int64.zero_or]
  omega
theorem own_v3_7 {m0 m1 m2 : Int32} (h0 : 0 ≤ m0.toInt ∧ m0.toInt < 128) (h1 : 0 ≤ m1.toInt ∧ m1.toInt < 128) (h2 : 0 ≤ m2.toInt ∧ m2.toInt < 128) : (own_w3 7 m0 m1 m2).toInt = m0.toInt + m1.toInt * 128 + m2.toInt * 16384 := by
  have b := own_v2_7 h0 h1
  have a := c_lshl m2.toInt64 (((0 : Int32) + 7) + 7) 14 (by decide)
  rw [c_i2l] at a
  have ra := own_rng64 (m2.toInt64 <<< ((((0 : Int32) + 7) + 7) &&& 0x3f).toInt64)
  have o := c_orL' (own_w2 7 m0 m1) (m2.toInt64 <<< ((((0 : Int32) + 7) + 7) &&& 0x3f).toInt64) 14 (by decide) 16384 (by decide)
  have ro := own_rng64 ((own_w2 7 m0 m1) ||| (m2.toInt64 <<< ((((0 : Int32) + 7) + 7) &&& 0x3f).toInt64))
  show ((own_w2 7 m0 m1) ||| (m2.toInt64 <<< ((((0 : Int32) + 7) + 7) &&& 0x3f).toInt64)).toInt = _
  omega
theorem own_v2_8 {m0 m1 : Int32} (h0 : 0 ≤ m0.toInt ∧ m0.toInt < 256) (h1 : 0 ≤ m1.toInt ∧ m1.toInt < 256) : (own_w2 8 m0 m1).toInt = m0.toInt + m1.toInt * 256 := by
  have a := c_lshl m1.toInt64 ((0 : Int32) + 8) 8 (by decide)
  rw [c_i2l] at a
  have ra := own_rng64 (m1.toInt64 <<< (((0 : Int32) + 8) &&& 0x3f).toInt64)
  have o := c_orL' m0.toInt64 (m1.toInt64 <<< (((0 : Int32) + 8) &&& 0x3f).toInt64) 8 (by decide) 256 (by decide)
  rw [c_i2l] at o
  have ro := own_rng64 (m0.toInt64 ||| (m1.toInt64 <<< (((0 : Int32) + 8) &&& 0x3f).toInt64))
  rw [own_w2, own_sh0, Int64.zero_or]
  omega
theorem own_v3_8 {m0 m1 m2 : Int32} (h0 : 0 ≤ m0.toInt ∧ m0.toInt < 256) (h1 : 0 ≤ m1.toInt ∧ m1.toInt < 256) (h2 : 0 ≤ m2.toInt ∧ m2.toInt < 256) : (own_w3 8 m0 m1 m2).toInt = m0.toInt + m1.toInt * 256 + m2.toInt * 65536 := by
  have b := own_v2_8 h0 h1
  have a := c_lshl m2.toInt64 (((0 : Int32) + 8) + 8) 16 (by decide)
  rw [c_i2l] at a
  have ra := own_rng64 (m2.toInt64 <<< ((((0 : Int32) + 8) + 8) &&& 0x3f).toInt64)
  have o := c_orL' (own_w2 8 m0 m1) (m2.toInt64 <<< ((((0 : Int32) + 8) + 8) &&& 0x3f).toInt64) 16 (by decide) 65536 (by decide)
  have ro := own_rng64 ((own_w2 8 m0 m1) ||| (m2.toInt64 <<< ((((0 : Int32) + 8) + 8) &&& 0x3f).toInt64))
  show ((own_w2 8 m0 m1) ||| (m2.toInt64 <<< ((((0 : Int32) + 8) + 8) &&& 0x3f).toInt64)).toInt = _
  omega
theorem own_v2_9 {m0 m1 : Int32} (h0 : 0 ≤ m0.toInt ∧ m0.toInt < 512) (h1 : 0 ≤ m1.toInt ∧ m1.toInt < 512) : (own_w2 9 m0 m1).toInt = m0.toInt + m1.toInt * 512 := by
  have a := c_lshl m1.toInt64 ((0 : Int32) + 9) 9 (by decide)
  rw [c_i2l] at a
  have ra := own_rng64 (m1.toInt64 <<< (((0 : Int32) + 9) &&& 0x3f).toInt64)
  have o := c_orL' m0.toInt64 (m1.toInt64 <<< (((0 : Int32) + 9) &&& 0x3f).toInt64) 9 (by decide) 512 (by decide)
  rw [c_i2l] at o
  have ro := own_rng64 (m0.toInt64 ||| (m1.toInt64 <<< (((0 : Int32) + 9) &&& 0x3f).toInt64))
  rw [own_w2, own_sh0, Int64.zero_or]
  omega
theorem own_v3_9 {m0 m1 m2 : Int32} (h0 : 0 ≤ m0.toInt ∧ m0.toInt < 512) (h1 : 0 ≤ m1.toInt ∧ m1.toInt < 512) (h2 : 0 ≤ m2.toInt ∧ m2.toInt < 512) : (own_w3 9 m0 m1 m2).toInt = m0.toInt + m1.toInt * 512 + m2.toInt * 262144 := by
  have b := own_v2_9 h0 h1
  have a := c_lshl m2.toInt64 (((0 : Int32) + 9) + 9) 18 (by decide)
  rw [c_i2l] at a
  have ra := own_rng64 (m2.toInt64 <<< ((((0 : Int32) + 9) + 9) &&& 0x3f).toInt64)
  have o := c_orL' (own_w2 9 m0 m1) (m2.toInt64 <<< ((((0 : Int32) + 9) + 9) &&& 0x3f).toInt64) 18 (by decide) 262144 (by decide)
  have ro := own_rng64 ((own_w2 9 m0 m1) ||| (m2.toInt64 <<< ((((0 : Int32) + 9) + 9) &&& 0x3f).toInt64))
  show ((own_w2 9 m0 m1) ||| (m2.toInt64 <<< ((((0 : Int32) + 9) + 9) &&& 0x3f).toInt64)).toInt = _
  omega
theorem own_v2_10 {m0 m1 : Int32} (h0 : 0 ≤ m0.toInt ∧ m0.toInt < 1024) (h1 : 0 ≤ m1.toInt ∧ m1.toInt < 1024) : (own_w2 10 m0 m1).toInt = m0.toInt + m1.toInt * 1024 := by
  have a := c_lshl m1.toInt64 ((0 : Int32) + 10) 10 (by decide)
  rw [c_i2l] at a
  have ra := own_rng64 (m1.toInt64 <<< (((0 : Int32) + 10) &&& 0x3f).toInt64)
  have o := c_orL' m0.toInt64 (m1.toInt64 <<< (((0 : Int32) + 10) &&& 0x3f).toInt64) 10 (by decide) 1024 (by decide)
  rw [c_i2l] at o
  have ro := own_rng64 (m0.toInt64 ||| (m1.toInt64 <<< (((0 : Int32) + 10) &&& 0x3f).toInt64))
  rw [own_w2, own_sh0, Int64.zero_or]
  omega
theorem own_v3_10 {m0 m1 m2 : Int32} (h0 : 0 ≤ m0.toInt ∧ m0.toInt < 1024) (h1 : 0 ≤ m1.toInt ∧ m1.toInt < 1024) (h2 : 0 ≤ m2.toInt ∧ m2.toInt < 1024) : (own_w3 10 m0 m1 m2).toInt = m0.toInt + m1.toInt * 1024 + m2.toInt * 1048576 := by
  have b := own_v2_10 h0 h1
  have a := c_lshl m2.toInt64 (((0 : Int32) + 10) + 10) 20 (by decide)
  rw [c_i2l] at a
  have ra := own_rng64 (m2.toInt64 <<< ((((0 : Int32) + 10) + 10) &&& 0x3f).toInt64)
  have o := c_orL' (own_w2 10 m0 m1) (m2.toInt64 <<< ((((0 : Int32) + 10) + 10) &&& 0x3f).toInt64) 20 (by decide) 1048576 (by decide)
  have ro := own_rng64 ((own_w2 10 m0 m1) ||| (m2.toInt64 <<< ((((0 : Int32) + 10) + 10) &&& 0x3f).toInt64))
  show ((own_w2 10 m0 m1) ||| (m2.toInt64 <<< ((((0 : Int32) + 10) + 10) &&& 0x3f).toInt64)).toInt = _
  omega
theorem own_v2_11 {m0 m1 : Int32} (h0 : 0 ≤ m0.toInt ∧ m0.toInt < 2048) (h1 : 0 ≤ m1.toInt ∧ m1.toInt < 2048) : (own_w2 11 m0 m1).toInt = m0.toInt + m1.toInt * 2048 := by
  have a := c_lshl m1.toInt64 ((0 : Int32) + 11) 11 (by decide)
  rw [c_i2l] at a
  have ra := own_rng64 (m1.toInt64 <<< (((0 : Int32) + 11) &&& 0x3f).toInt64)
  have o := c_orL' m0.toInt64 (m1.toInt64 <<< (((0 : Int32) + 11) &&& 0x3f).toInt64) 11 (by decide) 2048 (by decide)
  rw [c_i2l] at o
  have ro := own_rng64 (m0.toInt64 ||| (m1.toInt64 <<< (((0 : Int32) + 11) &&& 0x3f).toInt64))
  rw [own_w2, own_sh0, Int64.zero_or]
  omega
theorem own_v3_11 {m0 m1 m2 : Int32} (h0 : 0 ≤ m0.toInt ∧ m0.toInt < 2048) (h1 : 0 ≤ m1.toInt ∧ m1.toInt < 2048) (h2 : 0 ≤ m2.toInt ∧ m2.toInt < 2048) : (own_w3 11 m0 m1 m2).toInt = m0.toInt + m1.toInt * 2048 + m2.toInt * 4194304 := by
  have b := own_v2_11 h0 h1
  have a := c_lshl m2.toInt64 (((0 : Int32) + 11) + 11) 22 (by decide)
  rw [c_i2l] at a
  have ra := own_rng64 (m2.toInt64 <<< ((((0 : Int32) + 11) + 11) &&& 0x3f).toInt64)
  have o := c_orL' (own_w2 11 m0 m1) (m2.toInt64 <<< ((((0 : Int32) + 11) + 11) &&& 0x3f).toInt64) 22 (by decide) 4194304 (by decide)
  have ro := own_rng64 ((own_w2 11 m0 m1) ||| (m2.toInt64 <<< ((((0 : Int32) + 11) + 11) &&& 0x3f).toInt64))
  show ((own_w2 11 m0 m1) ||| (m2.toInt64 <<< ((((0 : Int32) + 11) + 11) &&& 0x3f).toInt64)).toInt = _
  omega
theorem own_v2_12 {m0 m1 : Int32} (h0 : 0 ≤ m0.toInt ∧ m0.toInt < 4096) (h1 : 0 ≤ m1.toInt ∧ m1.toInt < 4096) : (own_w2 12 m0 m1).toInt = m0.toInt + m1.toInt * 4096 := by
  have a := c_lshl m1.toInt64 ((0 : Int32) + 12) 12 (by decide)
  rw [c_i2l] at a
  have ra := own_rng64 (m1.toInt64 <<< (((0 : Int32) + 12) &&& 0x3f).toInt64)
  have o := c_orL' m0.toInt64 (m1.toInt64 <<< (((0 : Int32) + 12) &&& 0x3f).toInt64) 12 (by decide) 4096 (by decide)
  rw [c_i2l] at o
  have ro := own_rng64 (m0.toInt64 ||| (m1.toInt64 <<< (((0 : Int32) + 12) &&& 0x3f).toInt64))
  rw [own_w2, own_sh0, Int64.zero_or]
  omega
theorem own_v3_12 {m0 m1 m2 : Int32} (h0 : 0 ≤ m0.toInt ∧ m0.toInt < 4096) (h1 : 0 ≤ m1.toInt ∧ m1.toInt < 4096) (h2 : 0 ≤ m2.toInt ∧ m2.toInt < 4096) : (own_w3 12 m0 m1 m2).toInt = m0.toInt + m1.toInt * 4096 + m2.toInt * 16777216 := by
  have b := own_v2_12 h0 h1
  have a := c_lshl m2.toInt64 (((0 : Int32) + 12) + 12) 24 (by decide)
  rw [c_i2l] at a
  have ra := own_rng64 (m2.toInt64 <<< ((((0 : Int32) + 12) + 12) &&& 0x3f).toInt64)
  have o := c_orL' (own_w2 12 m0 m1) (m2.toInt64 <<< ((((0 : Int32) + 12) + 12) &&& 0x3f).toInt64) 24 (by decide) 16777216 (by decide)
  have ro := own_rng64 ((own_w2 12 m0 m1) ||| (m2.toInt64 <<< ((((0 : Int32) + 12) + 12) &&& 0x3f).toInt64))
  show ((own_w2 12 m0 m1) ||| (m2.toInt64 <<< ((((0 : Int32) + 12) + 12) &&& 0x3f).toInt64)).toInt = _
  omega
theorem own_v2_13 {m0 m1 : Int32} (h0 : 0 ≤ m0.toInt ∧ m0.toInt < 8192) (h1 : 0 ≤ m1.toInt ∧ m1.toInt < 8192) : (own_w2 13 m0 m1).toInt = m0.toInt + m1.toInt * 8192 := by
  have a := c_lshl m1.toInt64 ((0 : Int32) + 13) 13 (by decide)
  rw [c_i2l] at a
  have ra := own_rng64 (m1.toInt64 <<< (((0 : Int32) + 13) &&& 0x3f).toInt64)
  have o := c_orL' m0.toInt64 (m1.toInt64 <<< (((0 : Int32) + 13) &&& 0x3f).toInt64) 13 (by decide) 8192 (by decide)
  rw [c_i2l] at o
  have ro := own_rng64 (m0.toInt64 ||| (m1.toInt64 <<< (((0 : Int32) + 13) &&& 0x3f).toInt64))
  rw [own_w2, own_sh0, Int64.zero_or]
  omega
theorem own_v3_13 {m0 m1 m2 : Int32} (h0 : 0 ≤ m0.toInt ∧ m0.toInt < 8192) (h1 : 0 ≤ m1.toInt ∧ m1.toInt < 8192) (h2 : 0 ≤ m2.toInt ∧ m2.toInt < 8192) : (own_w3 13 m0 m1 m2).toInt = m0.toInt + m1.toInt * 8192 + m2.toInt * 67108864 := by
  have b := own_v2_13 h0 h1
  have a := c_lshl m2.toInt64 (((0 : Int32) + 13) + 13) 26 (by decide)
  rw [c_i2l] at a
  have ra := own_rng64 (m2.toInt64 <<< ((((0 : Int32) + 13) + 13) &&& 0x3f).toInt64)
  have o := c_orL' (own_w2 13 m0 m1) (m2.toInt64 <<< ((((0 : Int32) + 13) + 13) &&& 0x3f).toInt64) 26 (by decide) 67108864 (by decide)
  have ro := own_rng64 ((own_w2 13 m0 m1) ||| (m2.toInt64 <<< ((((0 : Int32) + 13) + 13) &&& 0x3f).toInt64))
  show ((own_w2 13 m0 m1) ||| (m2.toInt64 <<< ((((0 : Int32) + 13) + 13) &&& 0x3f).toInt64)).toInt = _
  omega
theorem own_v2_14 {m0 m1 : Int32} (h0 : 0 ≤ m0.toInt ∧ m0.toInt < 16384) (h1 : 0 ≤ m1.toInt ∧ m1.toInt < 16384) : (own_w2 14 m0 m1).toInt = m0.toInt + m1.toInt * 16384 := by
  have a := c_lshl m1.toInt64 ((0 : Int32) + 14) 14 (by decide)
  rw [c_i2l] at a
  have ra := own_rng64 (m1.toInt64 <<< (((0 : Int32) + 14) &&& 0x3f).toInt64)
  have o := c_orL' m0.toInt64 (m1.toInt64 <<< (((0 : Int32) + 14) &&& 0x3f).toInt64) 14 (by decide) 16384 (by decide)
  rw [c_i2l] at o
  have ro := own_rng64 (m0.toInt64 ||| (m1.toInt64 <<< (((0 : Int32) + 14) &&& 0x3f).toInt64))
  rw [own_w2, own_sh0, Int64.zero_or]
  omega
theorem own_v3_14 {m0 m1 m2 : Int32} (h0 : 0 ≤ m0.toInt ∧ m0.toInt < 16384) (h1 : 0 ≤ m1.toInt ∧ m1.toInt < 16384) (h2 : 0 ≤ m2.toInt ∧ m2.toInt < 16384) : (own_w3 14 m0 m1 m2).toInt = m0.toInt + m1.toInt * 16384 + m2.toInt * 268435456 := by
  have b := own_v2_14 h0 h1
  have a := c_lshl m2.toInt64 (((0 : Int32) + 14) + 14) 28 (by decide)
  rw [c_i2l] at a
  have ra := own_rng64 (m2.toInt64 <<< ((((0 : Int32) + 14) + 14) &&& 0x3f).toInt64)
  have o := c_orL' (own_w2 14 m0 m1) (m2.toInt64 <<< ((((0 : Int32) + 14) + 14) &&& 0x3f).toInt64) 28 (by decide) 268435456 (by decide)
  have ro := own_rng64 ((own_w2 14 m0 m1) ||| (m2.toInt64 <<< ((((0 : Int32) + 14) + 14) &&& 0x3f).toInt64))
  show ((own_w2 14 m0 m1) ||| (m2.toInt64 <<< ((((0 : Int32) + 14) + 14) &&& 0x3f).toInt64)).toInt = _
  omega
theorem own_v2_15 {m0 m1 : Int32} (h0 : 0 ≤ m0.toInt ∧ m0.toInt < 32768) (h1 : 0 ≤ m1.toInt ∧ m1.toInt < 32768) : (own_w2 15 m0 m1).toInt = m0.toInt + m1.toInt * 32768 := by
  have a := c_lshl m1.toInt64 ((0 : Int32) + 15) 15 (by decide)
  rw [c_i2l] at a
  have ra := own_rng64 (m1.toInt64 <<< (((0 : Int32) + 15) &&& 0x3f).toInt64)
  have o := c_orL' m0.toInt64 (m1.toInt64 <<< (((0 : Int32) + 15) &&& 0x3f).toInt64) 15 (by decide) 32768 (by decide)
  rw [c_i2l] at o
  have ro := own_rng64 (m0.toInt64 ||| (m1.toInt64 <<< (((0 : Int32) + 15) &&& 0x3f).toInt64))
  rw [own_w2, own_sh0, Int64.zero_or]
  omega
theorem own_v3_15 {m0 m1 m2 : Int32} (h0 : 0 ≤ m0.toInt ∧ m0.toInt < 32768) (h1 : 0 ≤ m1.toInt ∧ m1.toInt < 32768) (h2 : 0 ≤ m2.toInt ∧ m2.toInt < 32768) : (own_w3 15 m0 m1 m2).toInt = m0.toInt + m1.toInt * 32768 + m2.toInt * 1073741824 := by
  have b := own_v2_15 h0 h1
  have a := c_lshl m2.toInt64 (((0 : Int32) + 15) + 15) 30 (by decide)
  rw [c_i2l] at a
  have ra := own_rng64 (m2.toInt64 <<< ((((0 : Int32) + 15) + 15) &&& 0x3f).toInt64)
  have o := c_orL' (own_w2 15 m0 m1) (m2.toInt64 <<< ((((0 : Int32) + 15) + 15) &&& 0x3f).toInt64) 30 (by decide) 1073741824 (by decide)
  have ro := own_rng64 ((own_w2 15 m0 m1) ||| (m2.toInt64 <<< ((((0 : Int32) + 15) + 15) &&& 0x3f).toInt64))
  show ((own_w2 15 m0 m1) ||| (m2.toInt64 <<< ((((0 : Int32) + 15) + 15) &&& 0x3f).toInt64)).toInt = _
  omega
theorem own_v2_16 {m0 m1 : Int32} (h0 : 0 ≤ m0.toInt ∧ m0.toInt < 65536) (h1 : 0 ≤ m1.toInt ∧ m1.toInt < 65536) : (own_w2 16 m0 m1).toInt = m0.toInt + m1.toInt * 65536 := by
  have a := c_lshl m1.toInt64 ((0 : Int32) + 16) 16 (by decide)
  rw [c_i2l] at a
  have ra := own_rng64 (m1.toInt64 <<< (((0 : Int32) + 16) &&& 0x3f).toInt64)
  have o := c_orL' m0.toInt64 (m1.toInt64 <<< (((0 : Int32) + 16) &&& 0x3f).toInt64) 16 (by decide) 65536 (by decide)
  rw [c_i2l] at o
  have ro := own_rng64 (m0.toInt64 ||| (m1.toInt64 <<< (((0 : Int32) + 16) &&& 0x3f).toInt64))
  rw [own_w2, own_sh0, Int64.zero_or]
  omega
theorem own_v3_16 {m0 m1 m2 : Int32} (h0 : 0 ≤ m0.toInt ∧ m0.toInt < 65536) (h1 : 0 ≤ m1.toInt ∧ m1.toInt < 65536) (h2 : 0 ≤ m2.toInt ∧ m2.toInt < 65536) : (own_w3 16 m0 m1 m2).toInt = m0.toInt + m1.toInt * 65536 + m2.toInt * 4294967296 := by
  have b := own_v2_16 h0 h1
  have a := c_lshl m2.toInt64 (((0 : Int32) + 16) + 16) 32 (by decide)
  rw [c_i2l] at a
  have ra := own_rng64 (m2.toInt64 <<< ((((0 : Int32) + 16) + 16) &&& 0x3f).toInt64)
  have o := c_orL' (own_w2 16 m0 m1) (m2.toInt64 <<< ((((0 : Int32) + 16) + 16) &&& 0x3f).toInt64) 32 (by decide) 4294967296 (by decide)
  have ro := own_rng64 ((own_w2 16 m0 m1) ||| (m2.toInt64 <<< ((((0 : Int32) + 16) + 16) &&& 0x3f).toInt64))
  show ((own_w2 16 m0 m1) ||| (m2.toInt64 <<< ((((0 : Int32) + 16) + 16) &&& 0x3f).toInt64)).toInt = _
  omega
theorem own_v2_17 {m0 m1 : Int32} (h0 : 0 ≤ m0.toInt ∧ m0.toInt < 131072) (h1 : 0 ≤ m1.toInt ∧ m1.toInt < 131072) : (own_w2 17 m0 m1).toInt = m0.toInt + m1.toInt * 131072 := by
  have a := c_lshl m1.toInt64 ((0 : Int32) + 17) 17 (by decide)
  rw [c_i2l] at a
  have ra := own_rng64 (m1.toInt64 <<< (((0 : Int32) + 17) &&& 0x3f).toInt64)
  have o := c_orL' m0.toInt64 (m1.toInt64 <<< (((0 : Int32) + 17) &&& 0x3f).toInt64) 17 (by decide) 131072 (by decide)
  rw [c_i2l] at o
  have ro := own_rng64 (m0.toInt64 ||| (m1.toInt64 <<< (((0 : Int32) + 17) &&& 0x3f).toInt64))
  rw [own_w2, own_sh0, Int64.zero_or]
  omega
theorem own_v3_17 {m0 m1 m2 : Int32} (h0 : 0 ≤ m0.toInt ∧ m0.toInt < 131072) (h1 : 0 ≤ m1.toInt ∧ m1.toInt < 131072) (h2 : 0 ≤ m2.toInt ∧ m2.toInt < 131072) : (own_w3 17 m0 m1 m2).toInt = m0.toInt + m1.toInt * 131072 + m2.toInt * 17179869184 := by
  have b := own_v2_17 h0 h1
  have a := c_lshl m2.toInt64 (((0 : Int32) + 17) + 17) 34 (by decide)
  rw [c_i2l] at a
  have ra := own_rng64 (m2.toInt64 <<< ((((0 : Int32) + 17) + 17) &&& 0x3f).toInt64)
  have o := c_orL' (own_w2 17 m0 m1) (m2.toInt64 <<< ((((0 : Int32) + 17) + 17) &&& 0x3f).toInt64) 34 (by decide) 17179869184 (by decide)
  have ro := own_rng64 ((own_w2 17 m0 m1) ||| (m2.toInt64 <<< ((((0 : Int32) + 17) + 17) &&& 0x3f).toInt64))
  show ((own_w2 17 m0 m1) ||| (m2.toInt64 <<< ((((0 : Int32) + 17) + 17) &&& 0x3f).toInt64)).toInt = _
  omega
theorem own_v2_18 {m0 m1 : Int32} (h0 : 0 ≤ m0.toInt ∧ m0.toInt < 262144) (h1 : 0 ≤ m1.toInt ∧ m1.toInt < 262144) : (own_w2 18 m0 m1).toInt = m0.toInt + m1.toInt * 262144 := by
  have a := c_lshl m1.toInt64 ((0 : Int32) + 18) 18 (by decide)
  rw [c_i2l] at a
  have ra := own_rng64 (m1.toInt64 <<< (((0 : Int32) + 18) &&& 0x3f).toInt64)
  have o := c_orL' m0.toInt64 (m1.toInt64 <<< (((0 : Int32) + 18) &&& 0x3f).toInt64) 18 (by decide) 262144 (by decide)
  rw [c_i2l] at o
  have ro := own_rng64 (m0.toInt64 ||| (m1.toInt64 <<< (((0 : Int32) + 18) &&& 0x3f).toInt64))
  rw [own_w2, own_sh0, Int64.zero_or]
  omega
theorem own_v3_18 {m0 m1 m2 : Int32} (h0 : 0 ≤ m0.toInt ∧ m0.toInt < 262144) (h1 : 0 ≤ m1.toInt ∧ m1.toInt < 262144) (h2 : 0 ≤ m2.toInt ∧ m2.toInt < 262144) : (own_w3 18 m0 m1 m2).toInt = m0.toInt + m1.toInt * 262144 + m2.toInt * 68719476736 := by
  have b := own_v2_18 h0 h1
  have a := c_lshl m2.toInt64 (((0 : Int32) + 18) + 18) 36 (by decide)
  rw [c_i2l] at a
  have ra := own_rng64 (m2.toInt64 <<< ((((0 : Int32) + 18) + 18) &&& 0x3f).toInt64)
  have o := c_orL' (own_w2 18 m0 m1) (m2.toInt64 <<< ((((0 : Int32) + 18) + 18) &&& 0x3f).toInt64) 36 (by decide) 68719476736 (by decide)
  have ro := own_rng64 ((own_w2 18 m0 m1) ||| (m2.toInt64 <<< ((((0 : Int32) + 18) + 18) &&& 0x3f).toInt64))
  show ((own_w2 18 m0 m1) ||| (m2.toInt64 <<< ((((0 : Int32) + 18) + 18) &&& 0x3f).toInt64)).toInt = _
  omega
theorem own_v2_19 {m0 m1 : Int32} (h0 : 0 ≤ m0.toInt ∧ m0.toInt < 524288) (h1 : 0 ≤ m1.toInt ∧ m1.toInt < 524288) : (own_w2 19 m0 m1).toInt = m0.toInt + m1.toInt * 524288 := by
  have a := c_lshl m1.toInt64 ((0 : Int32) + 19) 19 (by decide)
  rw [c_i2l] at a
  have ra := own_rng64 (m1.toInt64 <<< (((0 : Int32) + 19) &&& 0x3f).toInt64)
  have o := c_orL' m0.toInt64 (m1.toInt64 <<< (((0 : Int32) + 19) &&& 0x3f).toInt64) 19 (by decide) 524288 (by decide)
  rw [c_i2l] at o
  have ro := own_rng64 (m0.toInt64 ||| (m1.toInt64 <<< (((0 : Int32) + 19) &&& 0x3f).toInt64))
  rw [own_w2, own_sh0, Int64.zero_or]
  omega
theorem own_v3_19 {m0 m1 m2 : Int32} (h0 : 0 ≤ m0.toInt ∧ m0.toInt < 524288) (h1 : 0 ≤ m1.toInt ∧ m1.toInt < 524288) (h2 : 0 ≤ m2.toInt ∧ m2.toInt < 524288) : (own_w3 19 m0 m1 m2).toInt = m0.toInt + m1.toInt * 524288 + m2.toInt * 274877906944 := by
  have b := own_v2_19 h0 h1
  have a := c_lshl m2.toInt64 (((0 : Int32) + 19) + 19) 38 (by decide)
  rw [c_i2l] at a
  have ra := own_rng64 (m2.toInt64 <<< ((((0 : Int32) + 19) + 19) &&& 0x3f).toInt64)
  have o := c_orL' (own_w2 19 m0 m1) (m2.toInt64 <<< ((((0 : Int32) + 19) + 19) &&& 0x3f).toInt64) 38 (by decide) 274877906944 (by decide)
  have ro := own_rng64 ((own_w2 19 m0 m1) ||| (m2.toInt64 <<< ((((0 : Int32) + 19) + 19) &&& 0x3f).toInt64))
  show ((own_w2 19 m0 m1) ||| (m2.toInt64 <<< ((((0 : Int32) + 19) + 19) &&& 0x3f).toInt64)).toInt = _
  omega
theorem own_v2_20 {m0 m1 : Int32} (h0 : 0 ≤ m0.toInt ∧ m0.toInt < 1048576) (h1 : 0 ≤ m1.toInt ∧ m1.toInt < 1048576) : (own_w2 20 m0 m1).toInt = m0.toInt + m1.toInt * 1048576 := by
  have a := c_lshl m1.toInt64 ((0 : Int32) + 20) 20 (by decide)
  rw [c_i2l] at a
  have ra := own_rng64 (m1.toInt64 <<< (((0 : Int32) + 20) &&& 0x3f).toInt64)
  have o := c_orL' m0.toInt64 (m1.toInt64 <<< (((0 : Int32) + 20) &&& 0x3f).toInt64) 20 (by decide) 1048576 (by decide)
  rw [c_i2l] at o
  have ro := own_rng64 (m0.toInt64 ||| (m1.toInt64 <<< (((0 : Int32) + 20) &&& 0x3f).toInt64))
  rw [own_w2, own_sh0, Int64.zero_or]
  omega
theorem own_v3_20 {m0 m1 m2 : Int32} (h0 : 0 ≤ m0.toInt ∧ m0.toInt < 1048576) (h1 : 0 ≤ m1.toInt ∧ m1.toInt < 1048576) (h2 : 0 ≤ m2.toInt ∧ m2.toInt < 1048576) : (own_w3 20 m0 m1 m2).toInt = m0.toInt + m1.toInt * 1048576 + m2.toInt * 1099511627776 := by
  have b := own_v2_20 h0 h1
  have a := c_lshl m2.toInt64 (((0 : Int32) + 20) + 20) 40 (by decide)
  rw [c_i2l] at a
  have ra := own_rng64 (m2.toInt64 <<< ((((0 : Int32) + 20) + 20) &&& 0x3f).toInt64)
  have o := c_orL' (own_w2 20 m0 m1) (m2.toInt64 <<< ((((0 : Int32) + 20) + 20) &&& 0x3f).toInt64) 40 (by decide) 1099511627776 (by decide)
  have ro := own_rng64 ((own_w2 20 m0 m1) ||| (m2.toInt64 <<< ((((0 : Int32) + 20) + 20) &&& 0x3f).toInt64))
  show ((own_w2 20 m0 m1) ||| (m2.toInt64 <<< ((((0 : Int32) + 20) + 20) &&& 0x3f).toInt64)).toInt = _
  omega
theorem own_v2_21 {m0 m1 : Int32} (h0 : 0 ≤ m0.toInt ∧ m0.toInt < 2097152) (h1 : 0 ≤ m1.toInt ∧ m1.toInt < 2097152) : (own_w2 21 m0 m1).toInt = m0.toInt + m1.toInt * 2097152 := by
  have a := c_lshl m1.toInt64 ((0 : Int32) + 21) 21 (by decide)
  rw [c_i2l] at a
  have ra := own_rng64 (m1.toInt64 <<< (((0 : Int32) + 21) &&& 0x3f).toInt64)
  have o := c_orL' m0.toInt64 (m1.toInt64 <<< (((0 : Int32) + 21) &&& 0x3f).toInt64) 21 (by decide) 2097152 (by decide)
  rw [c_i2l] at o
  have ro := own_rng64 (m0.toInt64 ||| (m1.toInt64 <<< (((0 : Int32) + 21) &&& 0x3f).toInt64))
  rw [own_w2, own_sh0, Int64.zero_or]
  omega
theorem own_v3_21 {m0 m1 m2 : Int32} (h0 : 0 ≤ m0.toInt ∧ m0.toInt < 2097152) (h1 : 0 ≤ m1.toInt ∧ m1.toInt < 2097152) (h2 : 0 ≤ m2.toInt ∧ m2.toInt < 2097152) : (own_w3 21 m0 m1 m2).toInt = m0.toInt + m1.toInt * 2097152 + m2.toInt * 4398046511104 := by
  have b := own_v2_21 h0 h1
  have a := c_lshl m2.toInt64 (((0 : Int32) + 21) + 21) 42 (by decide)
  rw [c_i2l] at a
  have ra := own_rng64 (m2.toInt64 <<< ((((0 : Int32) + 21) + 21) &&& 0x3f).toInt64)
  have o := c_orL' (own_w2 21 m0 m1) (m2.toInt64 <<< ((((0 : Int32) + 21) + 21) &&& 0x3f).toInt64) 42 (by decide) 4398046511104 (by decide)
  have ro := own_rng64 ((own_w2 21 m0 m1) ||| (m2.toInt64 <<< ((((0 : Int32) + 21) + 21) &&& 0x3f).toInt64))
  show ((own_w2 21 m0 m1) ||| (m2.toInt64 <<< ((((0 : Int32) + 21) + 21) &&& 0x3f).toInt64)).toInt = _
  omega
theorem own_v2_22 {m0 m1 : Int32} (h0 : 0 ≤ m0.toInt ∧ m0.toInt < 4194304) (h1 : 0 ≤ m1.toInt ∧ m1.toInt < 4194304) : (own_w2 22 m0 m1).toInt = m0.toInt + m1.toInt * 4194304 := by
  have a := c_lshl m1.toInt64 ((0 : Int32) + 22) 22 (by decide)
  rw [c_i2l] at a
  have ra := own_rng64 (m1.toInt64 <<< (((0 : Int32) + 22) &&& 0x3f).toInt64)
  have o := c_orL' m0.toInt64 (m1.toInt64 <<< (((0 : Int32) + 22) &&& 0x3f).toInt64) 22 (by decide) 4194304 (by decide)
  rw [c_i2l] at o
  have ro := own_rng64 (m0.toInt64 ||| (m1.toInt64 <<< (((0 : Int32) + 22) &&& 0x3f).toInt64))
  rw [own_w2, own_sh0, Int64.zero_or]
  omega
theorem own_v2_23 {m0 m1 : Int32} (h0 : 0 ≤ m0.toInt ∧ m0.toInt < 8388608) (h1 : 0 ≤ m1.toInt ∧ m1.toInt < 8388608) : (own_w2 23 m0 m1).toInt = m0.toInt + m1.toInt * 8388608 := by
  have a := c_lshl m1.toInt64 ((0 : Int32) + 23) 23 (by decide)
  rw [c_i2l] at a
  have ra := own_rng64 (m1.toInt64 <<< (((0 : Int32) + 23) &&& 0x3f).toInt64)
  have o := c_orL' m0.toInt64 (m1.toInt64 <<< (((0 : Int32) + 23) &&& 0x3f).toInt64) 23 (by decide) 8388608 (by decide)
  rw [c_i2l] at o
  have ro := own_rng64 (m0.toInt64 ||| (m1.toInt64 <<< (((0 : Int32) + 23) &&& 0x3f).toInt64))
  rw [own_w2, own_sh0, Int64.zero_or]
  omega
theorem own_v2_24 {m0 m1 : Int32} (h0 : 0 ≤ m0.toInt ∧ m0.toInt < 16777216) (h1 : 0 ≤ m1.toInt ∧ m1.toInt < 16777216) : (own_w2 24 m0 m1).toInt = m0.toInt + m1.toInt * 16777216 := by
  have a := c_lshl m1.toInt64 ((0 : Int32) + 24) 24 (by decide)
  rw [c_i2l] at a
  have ra := own_rng64 (m1.toInt64 <<< (((0 : Int32) + 24) &&& 0x3f).toInt64)
  have o := c_orL' m0.toInt64 (m1.toInt64 <<< (((0 : Int32) + 24) &&& 0x3f).toInt64) 24 (by decide) 16777216 (by decide)
  rw [c_i2l] at o
  have ro := own_rng64 (m0.toInt64 ||| (m1.toInt64 <<< (((0 : Int32) + 24) &&& 0x3f).toInt64))
  rw [own_w2, own_sh0, Int64.zero_or]
  omega
theorem own_v2_25 {m0 m1 : Int32} (h0 : 0 ≤ m0.toInt ∧ m0.toInt < 33554432) (h1 : 0 ≤ m1.toInt ∧ m1.toInt < 33554432) : (own_w2 25 m0 m1).toInt = m0.toInt + m1.toInt * 33554432 := by
  have a := c_lshl m1.toInt64 ((0 : Int32) + 25) 25 (by decide)
  rw [c_i2l] at a
  have ra := own_rng64 (m1.toInt64 <<< (((0 : Int32) + 25) &&& 0x3f).toInt64)
  have o := c_orL' m0.toInt64 (m1.toInt64 <<< (((0 : Int32) + 25) &&& 0x3f).toInt64) 25 (by decide) 33554432 (by decide)
  rw [c_i2l] at o
  have ro := own_rng64 (m0.toInt64 ||| (m1.toInt64 <<< (((0 : Int32) + 25) &&& 0x3f).toInt64))
  rw [own_w2, own_sh0, Int64.zero_or]
  omega
theorem own_v2_26 {m0 m1 : Int32} (h0 : 0 ≤ m0.toInt ∧ m0.toInt < 67108864) (h1 : 0 ≤ m1.toInt ∧ m1.toInt < 67108864) : (own_w2 26 m0 m1).toInt = m0.toInt + m1.toInt * 67108864 := by
  have a := c_lshl m1.toInt64 ((0 : Int32) + 26) 26 (by decide)
  rw [c_i2l] at a
  have ra := own_rng64 (m1.toInt64 <<< (((0 : Int32) + 26) &&& 0x3f).toInt64)
  have o := c_orL' m0.toInt64 (m1.toInt64 <<< (((0 : Int32) + 26) &&& 0x3f).toInt64) 26 (by decide) 67108864 (by decide)
  rw [c_i2l] at o
  have ro := own_rng64 (m0.toInt64 ||| (m1.toInt64 <<< (((0 : Int32) + 26) &&& 0x3f).toInt64))
  rw [own_w2, own_sh0, Int64.zero_or]
  omega
theorem own_v2_27 {m0 m1 : Int32} (h0 : 0 ≤ m0.toInt ∧ m0.toInt < 134217728) (h1 : 0 ≤ m1.toInt ∧ m1.toInt < 134217728) : (own_w2 27 m0 m1).toInt = m0.toInt + m1.toInt * 134217728 := by
  have a := c_lshl m1.toInt64 ((0 : Int32) + 27) 27 (by decide)
  rw [c_i2l] at a
  have ra := own_rng64 (m1.toInt64 <<< (((0 : Int32) + 27) &&& 0x3f).toInt64)
  have o := c_orL' m0.toInt64 (m1.toInt64 <<< (((0 : Int32) + 27) &&& 0x3f).toInt64) 27 (by decide) 134217728 (by decide)
  rw [c_i2l] at o
  have ro := own_rng64 (m0.toInt64 ||| (m1.toInt64 <<< (((0 : Int32) + 27) &&& 0x3f).toInt64))
  rw [own_w2, own_sh0, Int64.zero_or]
  omega
theorem own_v2_28 {m0 m1 : Int32} (h0 : 0 ≤ m0.toInt ∧ m0.toInt < 268435456) (h1 : 0 ≤ m1.toInt ∧ m1.toInt < 268435456) : (own_w2 28 m0 m1).toInt = m0.toInt + m1.toInt * 268435456 := by
  have a := c_lshl m1.toInt64 ((0 : Int32) + 28) 28 (by decide)
  rw [c_i2l] at a
  have ra := own_rng64 (m1.toInt64 <<< (((0 : Int32) + 28) &&& 0x3f).toInt64)
  have o := c_orL' m0.toInt64 (m1.toInt64 <<< (((0 : Int32) + 28) &&& 0x3f).toInt64) 28 (by decide) 268435456 (by decide)
  rw [c_i2l] at o
  have ro := own_rng64 (m0.toInt64 ||| (m1.toInt64 <<< (((0 : Int32) + 28) &&& 0x3f).toInt64))
  rw [own_w2, own_sh0, Int64.zero_or]
  omega
theorem own_v2_29 {m0 m1 : Int32} (h0 : 0 ≤ m0.toInt ∧ m0.toInt < 536870912) (h1 : 0 ≤ m1.toInt ∧ m1.toInt < 536870912) : (own_w2 29 m0 m1).toInt = m0.toInt + m1.toInt * 536870912 := by
  have a := c_lshl m1.toInt64 ((0 : Int32) + 29) 29 (by decide)
  rw [c_i2l] at a
  have ra := own_rng64 (m1.toInt64 <<< (((0 : Int32) + 29) &&& 0x3f).toInt64)
  have o := c_orL' m0.toInt64 (m1.toInt64 <<< (((0 : Int32) + 29) &&& 0x3f).toInt64) 29 (by decide) 536870912 (by decide)
  rw [c_i2l] at o
  have ro := own_rng64 (m0.toInt64 ||| (m1.toInt64 <<< (((0 : Int32) + 29) &&& 0x3f).toInt64))
  rw [own_w2, own_sh0, Int64.zero_or]
  omega
theorem own_v2_30 {m0 m1 : Int32} (h0 : 0 ≤ m0.toInt ∧ m0.toInt < 1073741824) (h1 : 0 ≤ m1.toInt ∧ m1.toInt < 1073741824) : (own_w2 30 m0 m1).toInt = m0.toInt + m1.toInt * 1073741824 := by
  have a := c_lshl m1.toInt64 ((0 : Int32) + 30) 30 (by decide)
  rw [c_i2l] at a
  have ra := own_rng64 (m1.toInt64 <<< (((0 : Int32) + 30) &&& 0x3f).toInt64)
  have o := c_orL' m0.toInt64 (m1.toInt64 <<< (((0 : Int32) + 30) &&& 0x3f).toInt64) 30 (by decide) 1073741824 (by decide)
  rw [c_i2l] at o
  have ro := own_rng64 (m0.toInt64 ||| (m1.toInt64 <<< (((0 : Int32) + 30) &&& 0x3f).toInt64))
  rw [own_w2, own_sh0, Int64.zero_or]
  omega
theorem own_v2_31 {m0 m1 : Int32} (h0 : 0 ≤ m0.toInt ∧ m0.toInt < 2147483648) (h1 : 0 ≤ m1.toInt ∧ m1.toInt < 2147483648) : (own_w2 31 m0 m1).toInt = m0.toInt + m1.toInt * 2147483648 := by
  have a := c_lshl m1.toInt64 ((0 : Int32) + 31) 31 (by decide)
  rw [c_i2l] at a
  have ra := own_rng64 (m1.toInt64 <<< (((0 : Int32) + 31) &&& 0x3f).toInt64)
  have o := c_orL' m0.toInt64 (m1.toInt64 <<< (((0 : Int32) + 31) &&& 0x3f).toInt64) 31 (by decide) 2147483648 (by decide)
  rw [c_i2l] at o
  have ro := own_rng64 (m0.toInt64 ||| (m1.toInt64 <<< (((0 : Int32) + 31) &&& 0x3f).toInt64))
  rw [own_w2, own_sh0, Int64.zero_or]
  omega
def own_un (B : Int32) (x0 x1 : Int64) : Nat → Int32 := fun i => if i = 0 then own_rd x0 0 (own_mk B) else if i = 1 then own_rd x0 ((0 : Int32) + B) (own_mk B) else if (21 : Int32) < B then own_rd x1 0 (own_mk B) else own_rd x0 (((0 : Int32) + B) + B) (own_mk B)
def own_wa (B m0 m1 m2 : Int32) : Int64 := if (21 : Int32) < B then own_w2 B m0 m1 else own_w3 B m0 m1 m2
theorem own_inv {B m0 m1 m2 : Int32} {x1 : Int64} (hB : own_B B) (h0 : 0 ≤ m0.toInt ∧ m0.toInt < 2 ^ B.toInt.toNat) (h1 : 0 ≤ m1.toInt ∧ m1.toInt < 2 ^ B.toInt.toNat) (h2 : 0 ≤ m2.toInt ∧ m2.toInt < 2 ^ B.toInt.toNat) (hx : (21 : Int32) < B → x1 = own_w1 m2) : own_un B (own_wa B m0 m1 m2) x1 0 = m0 ∧ own_un B (own_wa B m0 m1 m2) x1 1 = m1 ∧ own_un B (own_wa B m0 m1 m2) x1 2 = m2 := by
  rcases own_enum hB with rfl | rfl | rfl | rfl | rfl | rfl | rfl | rfl | rfl | rfl | rfl | rfl | rfl | rfl | rfl | rfl | rfl | rfl | rfl | rfl | rfl | rfl | rfl | rfl | rfl | rfl | rfl | rfl | rfl | rfl | rfl
  · replace h0 : 0 ≤ m0.toInt ∧ m0.toInt < 2 := h0
    replace h1 : 0 ≤ m1.toInt ∧ m1.toInt < 2 := h1
    replace h2 : 0 ≤ m2.toInt ∧ m2.toInt < 2 := h2
    have v := own_v3_1 h0 h1 h2
    have g : ¬ (21 : Int32) < 1 := by decide
    simp only [own_un, own_wa, if_neg g]
    refine ⟨own_rdk 0 1 (by decide) (by decide) (by decide) (by omega) (by rw [v]; omega), own_rdk 1 1 (by decide) (by decide) (by decide) (by omega) (by rw [v]; omega), own_rdk 2 1 (by decide) (by decide) (by decide) (by omega) (by rw [v]; omega)⟩
  · replace h0 : 0 ≤ m0.toInt ∧ m0.toInt < 4 := h0
    replace h1 : 0 ≤ m1.toInt ∧ m1.toInt < 4 := h1
    replace h2 : 0 ≤ m2.toInt ∧ m2.toInt < 4 := h2
    have v := own_v3_2 h0 h1 h2
    have g : ¬ (21 : Int32) < 2 := by decide
    simp only [own_un, own_wa, if_neg g]
    refine ⟨own_rdk 0 2 (by decide) (by decide) (by decide) (by omega) (by rw [v]; omega), own_rdk 2 2 (by decide) (by decide) (by decide) (by omega) (by rw [v]; omega), own_rdk 4 2 (by decide) (by decide) (by decide) (by omega) (by rw [v]; omega)⟩
  · replace h0 : 0 ≤ m0.toInt ∧ m0.toInt < 8 := h0
    replace h1 : 0 ≤ m1.toInt ∧ m1.toInt < 8 := h1
    replace h2 : 0 ≤ m2.toInt ∧ m2.toInt < 8 := h2
    have v := own_v3_3 h0 h1 h2
    have g : ¬ (21 : Int32) < 3 := by decide
    simp only [own_un, own_wa, if_neg g]
    refine ⟨own_rdk 0 3 (by decide) (by decide) (by decide) (by omega) (by rw [v]; omega), own_rdk 3 3 (by decide) (by decide) (by decide) (by omega) (by rw [v]; omega), own_rdk 6 3 (by decide) (by decide) (by decide) (by omega) (by rw [v]; omega)⟩
  · replace h0 : 0 ≤ m0.toInt ∧ m0.toInt < 16 := h0
    replace h1 : 0 ≤ m1.toInt ∧ m1.toInt < 16 := h1
    replace h2 : 0 ≤ m2.toInt ∧ m2.toInt < 16 := h2
    have v := own_v3_4 h0 h1 h2
    have g : ¬ (21 : Int32) < 4 := by decide
    simp only [own_un, own_wa, if_neg g]
    refine ⟨own_rdk 0 4 (by decide) (by decide) (by decide) (by omega) (by rw [v]; omega), own_rdk 4 4 (by decide) (by decide) (by decide) (by omega) (by rw [v]; omega), own_rdk 8 4 (by decide) (by decide) (by decide) (by omega) (by rw [v]; omega)⟩
  · replace h0 : 0 ≤ m0.toInt ∧ m0.toInt < 32 := h0
    replace h1 : 0 ≤ m1.toInt ∧ m1.toInt < 32 := h1
    replace h2 : 0 ≤ m2.toInt ∧ m2.toInt < 32 := h2
    have v := own_v3_5 h0 h1 h2
    have g : ¬ (21 : Int32) < 5 := by decide
    simp only [own_un, own_wa, if_neg g]
    refine ⟨own_rdk 0 5 (by decide) (by decide) (by decide) (by omega) (by rw [v]; omega), own_rdk 5 5 (by decide) (by decide) (by decide) (by omega) (by rw [v]; omega), own_rdk 10 5 (by decide) (by decide) (by decide) (by omega) (by rw [v]; omega)⟩
  · replace h0 : 0 ≤ m0.toInt ∧ m0.toInt < 64 := h0
    replace h1 : 0 ≤ m1.toInt ∧ m1.toInt < 64 := h1
    replace h2 : 0 ≤ m2.toInt ∧ m2.toInt < 64 := h2
    have v := own_v3_6 h0 h1 h2
    have g : ¬ (21 : Int32) < 6 := by decide
    simp only [own_un, own_wa, if_neg g]
    refine ⟨own_rdk 0 6 (by decide) (by decide) (by decide) (by omega) (by rw [v]; omega), own_rdk 6 6 (by decide) (by decide) (by decide) (by omega) (by rw [v]; omega), own_rdk 12 6 (by decide) (by decide) (by decide) (by omega) (by rw [v]; omega)⟩
  · replace h0 : 0 ≤ m0.toInt ∧ m0.toInt < 128 := h0
    replace h1 : 0 ≤ m1.toInt ∧ m1.toInt < 128 := h1
    replace h2 : 0 ≤ m2.toInt ∧ m2.toInt < 128 := h2
    have v := own_v3_7 h0 h1 h2
    have g : ¬ (21 : Int32) < 7 := by decide
    simp only [own_un, own_wa, if_neg g]
    refine ⟨own_rdk 0 7 (by decide) (by decide) (by decide) (by omega) (by rw [v]; omega), own_rdk 7 7 (by decide) (by decide) (by decide) (by omega) (by rw [v]; omega), own_rdk 14 7 (by decide) (by decide) (by decide) (by omega) (by rw [v]; omega)⟩
  · replace h0 : 0 ≤ m0.toInt ∧ m0.toInt < 256 := h0
    replace h1 : 0 ≤ m1.toInt ∧ m1.toInt < 256 := h1
    replace h2 : 0 ≤ m2.toInt ∧ m2.toInt < 256 := h2
    have v := own_v3_8 h0 h1 h2
    have g : ¬ (21 : Int32) < 8 := by decide
    simp only [own_un, own_wa, if_neg g]
    refine ⟨own_rdk 0 8 (by decide) (by decide) (by decide) (by omega) (by rw [v]; omega), own_rdk 8 8 (by decide) (by decide) (by decide) (by omega) (by rw [v]; omega), own_rdk 16 8 (by decide) (by decide) (by decide) (by omega) (by rw [v]; omega)⟩
  · replace h0 : 0 ≤ m0.toInt ∧ m0.toInt < 512 := h0
    replace h1 : 0 ≤ m1.toInt ∧ m1.toInt < 512 := h1
    replace h2 : 0 ≤ m2.toInt ∧ m2.toInt < 512 := h2
    have v := own_v3_9 h0 h1 h2
    have g : ¬ (21 : Int32) < 9 := by decide
    simp only [own_un, own_wa, if_neg g]
    refine ⟨own_rdk 0 9 (by decide) (by decide) (by decide) (by omega) (by rw [v]; omega), own_rdk 9 9 (by decide) (by decide) (by decide) (by omega) (by rw [v]; omega), own_rdk 18 9 (by decide) (by decide) (by decide) (by omega) (by rw [v]; omega)⟩
  · replace h0 : 0 ≤ m0.toInt ∧ m0.toInt < 1024 := h0
    replace h1 : 0 ≤ m1.toInt ∧ m1.toInt < 1024 := h1
    replace h2 : 0 ≤ m2.toInt ∧ m2.toInt < 1024 := h2
    have v := own_v3_10 h0 h1 h2
    have g : ¬ (21 : Int32) < 10 := by decide
    simp only [own_un, own_wa, if_neg g]
    refine ⟨own_rdk 0 10 (by decide) (by decide) (by decide) (by omega) (by rw [v]; omega), own_rdk 10 10 (by decide) (by decide) (by decide) (by omega) (by rw [v]; omega), own_rdk 20 10 (by decide) (by decide) (by decide) (by omega) (by rw [v]; omega)⟩
  · replace h0 : 0 ≤ m0.toInt ∧ m0.toInt < 2048 := h0
    replace h1 : 0 ≤ m1.toInt ∧ m1.toInt < 2048 := h1
    replace h2 : 0 ≤ m2.toInt ∧ m2.toInt < 2048 := h2
    have v := own_v3_11 h0 h1 h2
    have g : ¬ (21 : Int32) < 11 := by decide
    simp only [own_un, own_wa, if_neg g]
    refine ⟨own_rdk 0 11 (by decide) (by decide) (by decide) (by omega) (by rw [v]; omega), own_rdk 11 11 (by decide) (by decide) (by decide) (by omega) (by rw [v]; omega), own_rdk 22 11 (by decide) (by decide) (by decide) (by omega) (by rw [v]; omega)⟩
  · replace h0 : 0 ≤ m0.toInt ∧ m0.toInt < 4096 := h0
    replace h1 : 0 ≤ m1.toInt ∧ m1.toInt < 4096 := h1
    replace h2 : 0 ≤ m2.toInt ∧ m2.toInt < 4096 := h2
    have v := own_v3_12 h0 h1 h2
    have g : ¬ (21 : Int32) < 12 := by decide
    simp only [own_un, own_wa, if_neg g]
    refine ⟨own_rdk 0 12 (by decide) (by decide) (by decide) (by omega) (by rw [v]; omega), own_rdk 12 12 (by decide) (by decide) (by decide) (by omega) (by rw [v]; omega), own_rdk 24 12 (by decide) (by decide) (by decide) (by omega) (by rw [v]; omega)⟩
  · replace h0 : 0 ≤ m0.toInt ∧ m0.toInt < 8192 := h0
    replace h1 : 0 ≤ m1.toInt ∧ m1.toInt < 8192 := h1
    replace h2 : 0 ≤ m2.toInt ∧ m2.toInt < 8192 := h2
    have v := own_v3_13 h0 h1 h2
    have g : ¬ (21 : Int32) < 13 := by decide
    simp only [own_un, own_wa, if_neg g]
    refine ⟨own_rdk 0 13 (by decide) (by decide) (by decide) (by omega) (by rw [v]; omega), own_rdk 13 13 (by decide) (by decide) (by decide) (by omega) (by rw [v]; omega), own_rdk 26 13 (by decide) (by decide) (by decide) (by omega) (by rw [v]; omega)⟩
  · replace h0 : 0 ≤ m0.toInt ∧ m0.toInt < 16384 := h0
    replace h1 : 0 ≤ m1.toInt ∧ m1.toInt < 16384 := h1
    replace h2 : 0 ≤ m2.toInt ∧ m2.toInt < 16384 := h2
    have v := own_v3_14 h0 h1 h2
    have g : ¬ (21 : Int32) < 14 := by decide
    simp only [own_un, own_wa, if_neg g]
    refine ⟨own_rdk 0 14 (by decide) (by decide) (by decide) (by omega) (by rw [v]; omega), own_rdk 14 14 (by decide) (by decide) (by decide) (by omega) (by rw [v]; omega), own_rdk 28 14 (by decide) (by decide) (by decide) (by omega) (by rw [v]; omega)⟩
  · replace h0 : 0 ≤ m0.toInt ∧ m0.toInt < 32768 := h0
    replace h1 : 0 ≤ m1.toInt ∧ m1.toInt < 32768 := h1
    replace h2 : 0 ≤ m2.toInt ∧ m2.toInt < 32768 := h2
    have v := own_v3_15 h0 h1 h2
    have g : ¬ (21 : Int32) < 15 := by decide
    simp only [own_un, own_wa, if_neg g]
    refine ⟨own_rdk 0 15 (by decide) (by decide) (by decide) (by omega) (by rw [v]; omega), own_rdk 15 15 (by decide) (by decide) (by decide) (by omega) (by rw [v]; omega), own_rdk 30 15 (by decide) (by decide) (by decide) (by omega) (by rw [v]; omega)⟩
  · replace h0 : 0 ≤ m0.toInt ∧ m0.toInt < 65536 := h0
    replace h1 : 0 ≤ m1.toInt ∧ m1.toInt < 65536 := h1
    replace h2 : 0 ≤ m2.toInt ∧ m2.toInt < 65536 := h2
    have v := own_v3_16 h0 h1 h2
    have g : ¬ (21 : Int32) < 16 := by decide
    simp only [own_un, own_wa, if_neg g]
    refine ⟨own_rdk 0 16 (by decide) (by decide) (by decide) (by omega) (by rw [v]; omega), own_rdk 16 16 (by decide) (by decide) (by decide) (by omega) (by rw [v]; omega), own_rdk 32 16 (by decide) (by decide) (by decide) (by omega) (by rw [v]; omega)⟩
  · replace h0 : 0 ≤ m0.toInt ∧ m0.toInt < 131072 := h0
    replace h1 : 0 ≤ m1.toInt ∧ m1.toInt < 131072 := h1
    replace h2 : 0 ≤ m2.toInt ∧ m2.toInt < 131072 := h2
    have v := own_v3_17 h0 h1 h2
    have g : ¬ (21 : Int32) < 17 := by decide
    simp only [own_un, own_wa, if_neg g]
    refine ⟨own_rdk 0 17 (by decide) (by decide) (by decide) (by omega) (by rw [v]; omega), own_rdk 17 17 (by decide) (by decide) (by decide) (by omega) (by rw [v]; omega), own_rdk 34 17 (by decide) (by decide) (by decide) (by omega) (by rw [v]; omega)⟩
  · replace h0 : 0 ≤ m0.toInt ∧ m0.toInt < 262144 := h0
    replace h1 : 0 ≤ m1.toInt ∧ m1.toInt < 262144 := h1
    replace h2 : 0 ≤ m2.toInt ∧ m2.toInt < 262144 := h2
    have v := own_v3_18 h0 h1 h2
    have g : ¬ (21 : Int32) < 18 := by decide
    simp only [own_un, own_wa, if_neg g]
    refine ⟨own_rdk 0 18 (by decide) (by decide) (by decide) (by omega) (by rw [v]; omega), own_rdk 18 18 (by decide) (by decide) (by decide) (by omega) (by rw [v]; omega), own_rdk 36 18 (by decide) (by decide) (by decide) (by omega) (by rw [v]; omega)⟩
  · replace h0 : 0 ≤ m0.toInt ∧ m0.toInt < 524288 := h0
    replace h1 : 0 ≤ m1.toInt ∧ m1.toInt < 524288 := h1
    replace h2 : 0 ≤ m2.toInt ∧ m2.toInt < 524288 := h2
    have v := own_v3_19 h0 h1 h2
    have g : ¬ (21 : Int32) < 19 := by decide
    simp only [own_un, own_wa, if_neg g]
    refine ⟨own_rdk 0 19 (by decide) (by decide) (by decide) (by omega) (by rw [v]; omega), own_rdk 19 19 (by decide) (by decide) (by decide) (by omega) (by rw [v]; omega), own_rdk 38 19 (by decide) (by decide) (by decide) (by omega) (by rw [v]; omega)⟩
  · replace h0 : 0 ≤ m0.toInt ∧ m0.toInt < 1048576 := h0
    replace h1 : 0 ≤ m1.toInt ∧ m1.toInt < 1048576 := h1
    replace h2 : 0 ≤ m2.toInt ∧ m2.toInt < 1048576 := h2
    have v := own_v3_20 h0 h1 h2
    have g : ¬ (21 : Int32) < 20 := by decide
    simp only [own_un, own_wa, if_neg g]
    refine ⟨own_rdk 0 20 (by decide) (by decide) (by decide) (by omega) (by rw [v]; omega), own_rdk 20 20 (by decide) (by decide) (by decide) (by omega) (by rw [v]; omega), own_rdk 40 20 (by decide) (by decide) (by decide) (by omega) (by rw [v]; omega)⟩
  · replace h0 : 0 ≤ m0.toInt ∧ m0.toInt < 2097152 := h0
    replace h1 : 0 ≤ m1.toInt ∧ m1.toInt < 2097152 := h1
    replace h2 : 0 ≤ m2.toInt ∧ m2.toInt < 2097152 := h2
    have v := own_v3_21 h0 h1 h2
    have g : ¬ (21 : Int32) < 21 := by decide
    simp only [own_un, own_wa, if_neg g]
    refine ⟨own_rdk 0 21 (by decide) (by decide) (by decide) (by omega) (by rw [v]; omega), own_rdk 21 21 (by decide) (by decide) (by decide) (by omega) (by rw [v]; omega), own_rdk 42 21 (by decide) (by decide) (by decide) (by omega) (by rw [v]; omega)⟩
  · replace h0 : 0 ≤ m0.toInt ∧ m0.toInt < 4194304 := h0
    replace h1 : 0 ≤ m1.toInt ∧ m1.toInt < 4194304 := h1
    replace h2 : 0 ≤ m2.toInt ∧ m2.toInt < 4194304 := h2
    have v := own_v2_22 h0 h1
    have g : (21 : Int32) < 22 := by decide
    have hx' := hx g
    rw [own_w1_eq] at hx'
    simp only [own_un, own_wa, if_pos g]
    refine ⟨own_rdk 0 22 (by decide) (by decide) (by decide) (by omega) (by rw [v]; omega), own_rdk 22 22 (by decide) (by decide) (by decide) (by omega) (by rw [v]; omega), own_rdk 0 22 (by decide) (by decide) (by decide) (by rw [hx', c_i2l]; omega) (by rw [hx', c_i2l]; omega)⟩
  · replace h0 : 0 ≤ m0.toInt ∧ m0.toInt < 8388608 := h0
    replace h1 : 0 ≤ m1.toInt ∧ m1.toInt < 8388608 := h1
    replace h2 : 0 ≤ m2.toInt ∧ m2.toInt < 8388608 := h2
    have v := own_v2_23 h0 h1
    have g : (21 : Int32) < 23 := by decide
    have hx' := hx g
    rw [own_w1_eq] at hx'
    simp only [own_un, own_wa, if_pos g]
    refine ⟨own_rdk 0 23 (by decide) (by decide) (by decide) (by omega) (by rw [v]; omega), own_rdk 23 23 (by decide) (by decide) (by decide) (by omega) (by rw [v]; omega), own_rdk 0 23 (by decide) (by decide) (by decide) (by rw [hx', c_i2l]; omega) (by rw [hx', c_i2l]; omega)⟩
  · replace h0 : 0 ≤ m0.toInt ∧ m0.toInt < 16777216 := h0
    replace h1 : 0 ≤ m1.toInt ∧ m1.toInt < 16777216 := h1
    replace h2 : 0 ≤ m2.toInt ∧ m2.toInt < 16777216 := h2
    have v := own_v2_24 h0 h1
    have g : (21 : Int32) < 24 := by decide
    have hx' := hx g
    rw [own_w1_eq] at hx'
    simp only [own_un, own_wa, if_pos g]
    refine ⟨own_rdk 0 24 (by decide) (by decide) (by decide) (by omega) (by rw [v]; omega), own_rdk 24 24 (by decide) (by decide) (by decide) (by omega) (by rw [v]; omega), own_rdk 0 24 (by decide) (by decide) (by decide) (by rw [hx', c_i2l]; omega) (by rw [hx', c_i2l]; omega)⟩
  · replace h0 : 0 ≤ m0.toInt ∧ m0.toInt < 33554432 := h0
    replace h1 : 0 ≤ m1.toInt ∧ m1.toInt < 33554432 := h1
    replace h2 : 0 ≤ m2.toInt ∧ m2.toInt < 33554432 := h2
    have v := own_v2_25 h0 h1
    have g : (21 : Int32) < 25 := by decide
    have hx' := hx g
    rw [own_w1_eq] at hx'
    simp only [own_un, own_wa, if_pos g]
    refine ⟨own_rdk 0 25 (by decide) (by decide) (by decide) (by omega) (by rw [v]; omega), own_rdk 25 25 (by decide) (by decide) (by decide) (by omega) (by rw [v]; omega), own_rdk 0 25 (by decide) (by decide) (by decide) (by rw [hx', c_i2l]; omega) (by rw [hx', c_i2l]; omega)⟩
  · replace h0 : 0 ≤ m0.toInt ∧ m0.toInt < 67108864 := h0
    replace h1 : 0 ≤ m1.toInt ∧ m1.toInt < 67108864 := h1
    replace h2 : 0 ≤ m2.toInt ∧ m2.toInt < 67108864 := h2
    have v := own_v2_26 h0 h1
    have g : (21 : Int32) < 26 := by decide
    have hx' := hx g
    rw [own_w1_eq] at hx'
    simp only [own_un, own_wa, if_pos g]
    refine ⟨own_rdk 0 26 (by decide) (by decide) (by decide) (by omega) (by rw [v]; omega), own_rdk 26 26 (by decide) (by decide) (by decide) (by omega) (by rw [v]; omega), own_rdk 0 26 (by decide) (by decide) (by decide) (by rw [hx', c_i2l]; omega) (by rw [hx', c_i2l]; omega)⟩
  · replace h0 : 0 ≤ m0.toInt ∧ m0.toInt < 134217728 := h0
    replace h1 : 0 ≤ m1.toInt ∧ m1.toInt < 134217728 := h1
    replace h2 : 0 ≤ m2.toInt ∧ m2.toInt < 134217728 := h2
    have v := own_v2_27 h0 h1
    have g : (21 : Int32) < 27 := by decide
    have hx' := hx g
    rw [own_w1_eq] at hx'
    simp only [own_un, own_wa, if_pos g]
    refine ⟨own_rdk 0 27 (by decide) (by decide) (by decide) (by omega) (by rw [v]; omega), own_rdk 27 27 (by decide) (by decide) (by decide) (by omega) (by rw [v]; omega), own_rdk 0 27 (by decide) (by decide) (by decide) (by rw [hx', c_i2l]; omega) (by rw [hx', c_i2l]; omega)⟩
  · replace h0 : 0 ≤ m0.toInt ∧ m0.toInt < 268435456 := h0
    replace h1 : 0 ≤ m1.toInt ∧ m1.toInt < 268435456 := h1
    replace h2 : 0 ≤ m2.toInt ∧ m2.toInt < 268435456 := h2
    have v := own_v2_28 h0 h1
    have g : (21 : Int32) < 28 := by decide
    have hx' := hx g
    rw [own_w1_eq] at hx'
    simp only [own_un, own_wa, if_pos g]
    refine ⟨own_rdk 0 28 (by decide) (by decide) (by decide) (by omega) (by rw [v]; omega), own_rdk 28 28 (by decide) (by decide) (by decide) (by omega) (by rw [v]; omega), own_rdk 0 28 (by decide) (by decide) (by decide) (by rw [hx', c_i2l]; omega) (by rw [hx', c_i2l]; omega)⟩
  · replace h0 : 0 ≤ m0.toInt ∧ m0.toInt < 536870912 := h0
    replace h1 : 0 ≤ m1.toInt ∧ m1.toInt < 536870912 := h1
    replace h2 : 0 ≤ m2.toInt ∧ m2.toInt < 536870912 := h2
    have v := own_v2_29 h0 h1
    have g : (21 : Int32) < 29 := by decide
    have hx' := hx g
    rw [own_w1_eq] at hx'
    simp only [own_un, own_wa, if_pos g]
    refine ⟨own_rdk 0 29 (by decide) (by decide) (by decide) (by omega) (by rw [v]; omega), own_rdk 29 29 (by decide) (by decide) (by decide) (by omega) (by rw [v]; omega), own_rdk 0 29 (by decide) (by decide) (by decide) (by rw [hx', c_i2l]; omega) (by rw [hx', c_i2l]; omega)⟩
  · replace h0 : 0 ≤ m0.toInt ∧ m0.toInt < 1073741824 := h0
    replace h1 : 0 ≤ m1.toInt ∧ m1.toInt < 1073741824 := h1
    replace h2 : 0 ≤ m2.toInt ∧ m2.toInt < 1073741824 := h2
    have v := own_v2_30 h0 h1
    have g : (21 : Int32) < 30 := by decide
    have hx' := hx g
    rw [own_w1_eq] at hx'
    simp only [own_un, own_wa, if_pos g]
    refine ⟨own_rdk 0 30 (by decide) (by decide) (by decide) (by omega) (by rw [v]; omega), own_rdk 30 30 (by decide) (by decide) (by decide) (by omega) (by rw [v]; omega), own_rdk 0 30 (by decide) (by decide) (by decide) (by rw [hx', c_i2l]; omega) (by rw [hx', c_i2l]; omega)⟩
  · replace h0 : 0 ≤ m0.toInt ∧ m0.toInt < 2147483648 := h0
    replace h1 : 0 ≤ m1.toInt ∧ m1.toInt < 2147483648 := h1
    replace h2 : 0 ≤ m2.toInt ∧ m2.toInt < 2147483648 := h2
    have v := own_v2_31 h0 h1
    have g : (21 : Int32) < 31 := by decide
    have hx' := hx g
    rw [own_w1_eq] at hx'
    simp only [own_un, own_wa, if_pos g]
    refine ⟨own_rdk 0 31 (by decide) (by decide) (by decide) (by omega) (by rw [v]; omega), own_rdk 31 31 (by decide) (by decide) (by decide) (by omega) (by rw [v]; omega), own_rdk 0 31 (by decide) (by decide) (by decide) (by rw [hx', c_i2l]; omega) (by rw [hx', c_i2l]; omega)⟩
theorem own_selp {s : State} {args : Array Value} {n : Nat} {y : MethodName} (hins : (Cond.instantiable y.cls n).before args s = true) (hpriv : (Cond.privateMethod y).before args s = true) (hinst : (Cond.instanceMethod y).before args s = true) (hy : y.cls ≠ "java/lang/invoke/MethodHandle" ∧ y.cls ≠ "java/lang/invoke/VarHandle") : (Cond.selects y.cls y y).before args s = true := by
  obtain ⟨c, k, hc, hk, -, hniab, -, -⟩ := Cond.instantiable_spec hins
  exact selects_self_of_private hc hk (Bool.or_eq_false_iff.mp hniab).1 (Cond.privateMethod_at hpriv) hinst hy
def own_Wn (b : Int32) : Nat := (own_W b).toNatClampNeg
theorem own_Wp {b : Int32} (h : (21 : Int32) < b) : own_W b = 2 := if_pos h
theorem own_Wq {b : Int32} (h : ¬ (21 : Int32) < b) : own_W b = 1 := if_neg h
theorem own_W12 (b : Int32) : own_W b = 1 ∨ own_W b = 2 := by rw [own_W]; split <;> simp
theorem own_Wle (b : Int32) : (own_W b).toNatClampNeg ≤ 2 := by rcases own_W12 b with h | h <;> rw [h] <;> decide
theorem own_Wge (b : Int32) : 1 ≤ (own_W b).toNatClampNeg := by rcases own_W12 b with h | h <;> rw [h] <;> decide
theorem own_Wneg (b : Int32) : ¬ own_W b < 0 := by rcases own_W12 b with h | h <;> rw [h] <;> decide
theorem own_16neg (b : Int32) : ¬ ((16 : Int32) * own_W b) < 0 := by rcases own_W12 b with h | h <;> rw [h] <;> decide
theorem own_16nat (b : Int32) : ((16 : Int32) * own_W b).toNatClampNeg = 16 * (own_W b).toNatClampNeg := by rcases own_W12 b with h | h <;> rw [h] <;> decide
theorem own_16le (b : Int32) : ((16 : Int32) * own_W b).toNatClampNeg ≤ 32 := by rcases own_W12 b with h | h <;> rw [h] <;> decide
theorem own_len16 (b : Int32) : (16 * (own_W b).toNatClampNeg).toInt32 = (16 : Int32) * own_W b := by rcases own_W12 b with h | h <;> rw [h] <;> decide
theorem own_words {b : Int32} (hB : own_B b) : ¬ b = 0 ∧ ¬ ((64 : Int32) / b) = 0 ∧ (if (1 : Int32) < ((((3 : Int32) + ((64 : Int32) / b)) - (1 : Int32)) / ((64 : Int32) / b)) then ((((3 : Int32) + ((64 : Int32) / b)) - (1 : Int32)) / ((64 : Int32) / b)) else (1 : Int32)) = own_W b := by
  rcases own_enum hB with rfl | rfl | rfl | rfl | rfl | rfl | rfl | rfl | rfl | rfl | rfl | rfl | rfl | rfl | rfl | rfl | rfl | rfl | rfl | rfl | rfl | rfl | rfl | rfl | rfl | rfl | rfl | rfl | rfl | rfl | rfl <;> decide
theorem own_le1 {b : Int32} (hB : own_B b) : ¬ (64 : Int32) < ((0 : Int32) + b) := by
  rcases own_enum hB with rfl | rfl | rfl | rfl | rfl | rfl | rfl | rfl | rfl | rfl | rfl | rfl | rfl | rfl | rfl | rfl | rfl | rfl | rfl | rfl | rfl | rfl | rfl | rfl | rfl | rfl | rfl | rfl | rfl | rfl | rfl <;> decide
theorem own_le2 {b : Int32} (hB : own_B b) : ¬ (64 : Int32) < (((0 : Int32) + b) + b) := by
  rcases own_enum hB with rfl | rfl | rfl | rfl | rfl | rfl | rfl | rfl | rfl | rfl | rfl | rfl | rfl | rfl | rfl | rfl | rfl | rfl | rfl | rfl | rfl | rfl | rfl | rfl | rfl | rfl | rfl | rfl | rfl | rfl | rfl <;> decide
theorem own_le3 {b : Int32} (hB : own_B b) : (64 : Int32) < ((((0 : Int32) + b) + b) + b) ↔ (21 : Int32) < b := by
  rcases own_enum hB with rfl | rfl | rfl | rfl | rfl | rfl | rfl | rfl | rfl | rfl | rfl | rfl | rfl | rfl | rfl | rfl | rfl | rfl | rfl | rfl | rfl | rfl | rfl | rfl | rfl | rfl | rfl | rfl | rfl | rfl | rfl <;> decide
theorem own_in0 {b : Int32} {n : Nat} (h : (own_W b).toNatClampNeg ≤ n) : ¬ (0 : Int32) < 0 ∧ (0 : Int32).toNatClampNeg < n := ⟨by decide, by have := own_Wge b; show 0 < n; omega⟩
theorem own_in1 {b : Int32} {n : Nat} (g : (21 : Int32) < b) (h : (own_W b).toNatClampNeg ≤ n) : ¬ (1 : Int32) < 0 ∧ (1 : Int32).toNatClampNeg < n := ⟨by decide, by rw [own_Wp g] at h; show 1 < n; exact h⟩
def own_pk (B m0 m1 m2 : Int32) (g : Nat → Int64) : Nat → Int64 := if (21 : Int32) < B then updJ (updJ g 0 (own_w2 B m0 m1)) 1 (own_w1 m2) else updJ g 0 (own_w3 B m0 m1 m2)
def own_pw (B m0 m1 m2 : Int32) (f : Nat → Int64) (o : Nat) : Prop := f o = own_wa B m0 m1 m2 ∧ ((21 : Int32) < B → f (o + 1) = own_w1 m2)
theorem own_pk_pw (B m0 m1 m2 : Int32) (g : Nat → Int64) : own_pw B m0 m1 m2 (own_pk B m0 m1 m2 g) 0 := by
  rw [own_pw, own_pk, own_wa]
  by_cases h : (21 : Int32) < B
  · rw [if_pos h, if_pos h]; exact ⟨rfl, fun _ => rfl⟩
  · rw [if_neg h, if_neg h]; exact ⟨rfl, fun q => absurd q h⟩
theorem own_u3 {g : Nat → Int32} {v0 v1 v2 : Int32} {i : Nat} (hi : i < 3) : updI (updI (updI g 0 v0) 1 v1) 2 v2 i = if i = 0 then v0 else if i = 1 then v1 else v2 := by
  match i, hi with
  | 0, _ => rfl
  | 1, _ => rfl
  | 2, _ => rfl
def own_st (h x : Int64) : Int64 := (((h ^^^ x) * (-4658895280553007687 : Int64)) ^^^ ((((((h ^^^ x) * (-4658895280553007687 : Int64))).toUInt64 >>> ((29 : Int32) &&& 0x3f).toInt64.toUInt64).toInt64)))
def own_fin (h : Int64) : Int32 := (((h * (-7723592293110705685 : Int64)) ^^^ (((((h * (-7723592293110705685 : Int64))).toUInt64 >>> ((32 : Int32) &&& 0x3f).toInt64.toUInt64).toInt64))).toInt32)
def own_hash (w : Int32) (x0 x1 : Int64) : Int32 := if w = 1 then own_fin (own_st (-7046029254386353131 : Int64) x0) else own_fin (own_st (own_st (-7046029254386353131 : Int64) x0) x1)
def own_sl (B m0 m1 m2 : Int32) : Int32 := own_hash (own_W B) (own_wa B m0 m1 m2) (own_w1 m2) &&& (31 : Int32)
theorem own_hpk {B m0 m1 m2 : Int32} {f : Nat → Int64} (h : own_pw B m0 m1 m2 f 0) : (own_hash (own_W B) (f 0) (f 1) &&& (31 : Int32)) = own_sl B m0 m1 m2 := by
  rw [own_sl, own_hash, own_hash, h.1]
  by_cases g : (21 : Int32) < B
  · rw [h.2 g]
  · rw [own_Wq g, if_pos rfl, if_pos rfl]
theorem own_slr (B m0 m1 m2 : Int32) : 0 ≤ (own_sl B m0 m1 m2).toInt ∧ (own_sl B m0 m1 m2).toInt < 32 := by
  have h : (own_hash (own_W B) (own_wa B m0 m1 m2) (own_w1 m2) &&& (31 : Int32)).toInt = (own_hash (own_W B) (own_wa B m0 m1 m2) (own_w1 m2)).toInt % (2 ^ 5 : Nat) := c_mask _ 31 5 (by decide) (by decide)
  rw [own_sl]; omega
theorem own_slin {s : Int32} (h : 0 ≤ s.toInt ∧ s.toInt < 32) : ¬ s < 0 ∧ s.toNatClampNeg < 32 := by
  have e0 : (0 : Int32).toInt = 0 := rfl
  have e : s.toNatClampNeg = s.toInt.toNat := rfl
  rw [Int32.lt_iff_toInt_lt]; omega
theorem own_nxt {s : Int32} (h : 0 ≤ s.toInt ∧ s.toInt < 32) : (0 ≤ ((s + (1 : Int32)) &&& (31 : Int32)).toInt ∧ ((s + (1 : Int32)) &&& (31 : Int32)).toInt < 32) ∧ ((s + (1 : Int32)) &&& (31 : Int32)).toNatClampNeg ≠ s.toNatClampNeg := by
  have q : ((s + (1 : Int32)) &&& (31 : Int32)).toInt = (s + (1 : Int32)).toInt % (2 ^ 5 : Nat) := c_mask _ 31 5 (by decide) (by decide)
  have a := c_iadd s 1
  have e1 : (1 : Int32).toInt = 1 := rfl
  have r := rng32 (s + 1)
  have e : s.toNatClampNeg = s.toInt.toNat := rfl
  have e' : ((s + (1 : Int32)) &&& (31 : Int32)).toNatClampNeg = ((s + (1 : Int32)) &&& (31 : Int32)).toInt.toNat := rfl
  omega
theorem own_room {B z : Int32} (hz : z = 0 ∨ z = 1) : ¬ ((((16 : Int32) * (own_W B))).toInt64) < ((((z + (1 : Int32))).toInt64) * (((own_W B)).toInt64)) := by
  rcases hz with rfl | rfl <;> rcases own_W12 B with h | h <;> rw [h] <;> decide
def own_bd (B m : Int32) : Prop := 0 ≤ m.toInt ∧ m.toInt < 2 ^ B.toInt.toNat
theorem own_bdm {B N m : Int32} (hB : own_B B) (h : own_bd B m) (hN : B < N) : own_bd N m := by
  refine ⟨h.1, Int.lt_of_lt_of_le h.2 ?_⟩
  rw [Int32.lt_iff_toInt_lt] at hN
  exact_mod_cast Nat.pow_le_pow_right (by decide) (show B.toInt.toNat ≤ N.toInt.toNat by omega)
def own_same (B : Int32) (f g : Nat → Int64) : Prop := f 0 = g 0 ∧ ((21 : Int32) < B → f 1 = g 1)
theorem own_pweq {B x0 x1 x2 m0 m1 m2 : Int32} {f g : Nat → Int64} (hB : own_B B) (hx : own_pw B x0 x1 x2 f 0) (hm : own_pw B m0 m1 m2 g 0) (bx : own_bd B x0 ∧ own_bd B x1 ∧ own_bd B x2) (bm : own_bd B m0 ∧ own_bd B m1 ∧ own_bd B m2) : own_same B f g ↔ (x0 = m0 ∧ x1 = m1 ∧ x2 = m2) := by
  constructor
  · rintro ⟨h0, h1⟩
    have i1 := own_inv (x1 := f 1) hB bx.1 bx.2.1 bx.2.2 hx.2
    have i2 := own_inv (x1 := f 1) hB bm.1 bm.2.1 bm.2.2 (fun q => (h1 q).trans (hm.2 q))
    have e : own_wa B x0 x1 x2 = own_wa B m0 m1 m2 := hx.1.symm.trans (h0.trans hm.1)
    rw [e] at i1
    exact ⟨i1.1.symm.trans i2.1, i1.2.1.symm.trans i2.2.1, i1.2.2.symm.trans i2.2.2⟩
  · rintro ⟨rfl, rfl, rfl⟩
    exact ⟨hx.1.trans hm.1.symm, fun q => (hx.2 q).trans (hm.2 q).symm⟩
theorem own_gi0 (B : Int32) : ¬ (0 : Int32) < 0 ∧ (0 : Int32).toNatClampNeg < 16 * (own_W B).toNatClampNeg := by rcases own_W12 B with h | h <;> rw [h] <;> decide
theorem own_gi1 (B : Int32) : ¬ (own_W B) < 0 ∧ (own_W B).toNatClampNeg < 16 * (own_W B).toNatClampNeg := by rcases own_W12 B with h | h <;> rw [h] <;> decide
theorem own_gi2 (B : Int32) : ¬ ((0 : Int32) + (1 : Int32)) < 0 ∧ ((0 : Int32) + (1 : Int32)).toNatClampNeg < 16 * (own_W B).toNatClampNeg := by rcases own_W12 B with h | h <;> rw [h] <;> decide
theorem own_gi3 (B : Int32) : ¬ (own_W B + (1 : Int32)) < 0 ∧ (own_W B + (1 : Int32)).toNatClampNeg < 16 * (own_W B).toNatClampNeg := by rcases own_W12 B with h | h <;> rw [h] <;> decide
def own_mx (p1 : Int32) (p2 : Int32) : Int32 := (if p1 < p2 then p2 else p1)
def own_mxj (q1 : Int64) (q2 : Int64) : Int64 := (if q1 < q2 then q2 else q1)
def own_nlz (p1 : Int32) : Int32 := (if (0 : Int32) < p1 then (if p1 < (65536 : Int32) then (if p1 < (256 : Int32) then (if p1 < (16 : Int32) then (if p1 < (4 : Int32) then ((31 : Int32) - (((p1).toUInt32 >>> ((1 : Int32) &&& 31).toUInt32).toInt32)) else ((29 : Int32) - ((((((p1).toUInt32 >>> ((2 : Int32) &&& 31).toUInt32).toInt32)).toUInt32 >>> ((1 : Int32) &&& 31).toUInt32).toInt32))) else (if (((p1).toUInt32 >>> ((4 : Int32) &&& 31).toUInt32).toInt32) < (4 : Int32) then ((27 : Int32) - ((((((p1).toUInt32 >>> ((4 : Int32) &&& 31).toUInt32).toInt32)).toUInt32 >>> ((1 : Int32) &&& 31).toUInt32).toInt32)) else ((25 : Int32) - (((((((((p1).toUInt32 >>> ((4 : Int32) &&& 31).toUInt32).toInt32)).toUInt32 >>> ((2 : Int32) &&& 31).toUInt32).toInt32)).toUInt32 >>> ((1 : Int32) &&& 31).toUInt32).toInt32)))) else (if (((p1).toUInt32 >>> ((8 : Int32) &&& 31).toUInt32).toInt32) < (16 : Int32) then (if (((p1).toUInt32 >>> ((8 : Int32) &&& 31).toUInt32).toInt32) < (4 : Int32) then ((23 : Int32) - ((((((p1).toUInt32 >>> ((8 : Int32) &&& 31).toUInt32).toInt32)).toUInt32 >>> ((1 : Int32) &&& 31).toUInt32).toInt32)) else ((21 : Int32) - (((((((((p1).toUInt32 >>> ((8 : Int32) &&& 31).toUInt32).toInt32)).toUInt32 >>> ((2 : Int32) &&& 31).toUInt32).toInt32)).toUInt32 >>> ((1 : Int32) &&& 31).toUInt32).toInt32))) else (if ((((((p1).toUInt32 >>> ((8 : Int32) &&& 31).toUInt32).toInt32)).toUInt32 >>> ((4 : Int32) &&& 31).toUInt32).toInt32) < (4 : Int32) then ((19 : Int32) - (((((((((p1).toUInt32 >>> ((8 : Int32) &&& 31).toUInt32).toInt32)).toUInt32 >>> ((4 : Int32) &&& 31).toUInt32).toInt32)).toUInt32 >>> ((1 : Int32) &&& 31).toUInt32).toInt32)) else ((17 : Int32) - ((((((((((((p1).toUInt32 >>> ((8 : Int32) &&& 31).toUInt32).toInt32)).toUInt32 >>> ((4 : Int32) &&& 31).toUInt32).toInt32)).toUInt32 >>> ((2 : Int32) &&& 31).toUInt32).toInt32)).toUInt32 >>> ((1 : Int32) &&& 31).toUInt32).toInt32))))) else (if (((p1).toUInt32 >>> ((16 : Int32) &&& 31).toUInt32).toInt32) < (256 : Int32) then (if (((p1).toUInt32 >>> ((16 : Int32) &&& 31).toUInt32).toInt32) < (16 : Int32) then (if (((p1).toUInt32 >>> ((16 : Int32) &&& 31).toUInt32).toInt32) < (4 : Int32) then ((15 : Int32) - ((((((p1).toUInt32 >>> ((16 : Int32) &&& 31).toUInt32).toInt32)).toUInt32 >>> ((1 : Int32) &&& 31).toUInt32).toInt32)) else ((13 : Int32) - (((((((((p1).toUInt32 >>> ((16 : Int32) &&& 31).toUInt32).toInt32)).toUInt32 >>> ((2 : Int32) &&& 31).toUInt32).toInt32)).toUInt32 >>> ((1 : Int32) &&& 31).toUInt32).toInt32))) else (if ((((((p1).toUInt32 >>> ((16 : Int32) &&& 31).toUInt32).toInt32)).toUInt32 >>> ((4 : Int32) &&& 31).toUInt32).toInt32) < (4 : Int32) then ((11 : Int32) - (((((((((p1).toUInt32 >>> ((16 : Int32) &&& 31).toUInt32).toInt32)).toUInt32 >>> ((4 : Int32) &&& 31).toUInt32).toInt32)).toUInt32 >>> ((1 : Int32) &&& 31).toUInt32).toInt32)) else ((9 : Int32) - ((((((((((((p1).toUInt32 >>> ((16 : Int32) &&& 31).toUInt32).toInt32)).toUInt32 >>> ((4 : Int32) &&& 31).toUInt32).toInt32)).toUInt32 >>> ((2 : Int32) &&& 31).toUInt32).toInt32)).toUInt32 >>> ((1 : Int32) &&& 31).toUInt32).toInt32)))) else (if ((((((p1).toUInt32 >>> ((16 : Int32) &&& 31).toUInt32).toInt32)).toUInt32 >>> ((8 : Int32) &&& 31).toUInt32).toInt32) < (16 : Int32) then (if ((((((p1).toUInt32 >>> ((16 : Int32) &&& 31).toUInt32).toInt32)).toUInt32 >>> ((8 : Int32) &&& 31).toUInt32).toInt32) < (4 : Int32) then ((7 : Int32) - (((((((((p1).toUInt32 >>> ((16 : Int32) &&& 31).toUInt32).toInt32)).toUInt32 >>> ((8 : Int32) &&& 31).toUInt32).toInt32)).toUInt32 >>> ((1 : Int32) &&& 31).toUInt32).toInt32)) else ((5 : Int32) - ((((((((((((p1).toUInt32 >>> ((16 : Int32) &&& 31).toUInt32).toInt32)).toUInt32 >>> ((8 : Int32) &&& 31).toUInt32).toInt32)).toUInt32 >>> ((2 : Int32) &&& 31).toUInt32).toInt32)).toUInt32 >>> ((1 : Int32) &&& 31).toUInt32).toInt32))) else (if (((((((((p1).toUInt32 >>> ((16 : Int32) &&& 31).toUInt32).toInt32)).toUInt32 >>> ((8 : Int32) &&& 31).toUInt32).toInt32)).toUInt32 >>> ((4 : Int32) &&& 31).toUInt32).toInt32) < (4 : Int32) then ((3 : Int32) - ((((((((((((p1).toUInt32 >>> ((16 : Int32) &&& 31).toUInt32).toInt32)).toUInt32 >>> ((8 : Int32) &&& 31).toUInt32).toInt32)).toUInt32 >>> ((4 : Int32) &&& 31).toUInt32).toInt32)).toUInt32 >>> ((1 : Int32) &&& 31).toUInt32).toInt32)) else ((1 : Int32) - (((((((((((((((p1).toUInt32 >>> ((16 : Int32) &&& 31).toUInt32).toInt32)).toUInt32 >>> ((8 : Int32) &&& 31).toUInt32).toInt32)).toUInt32 >>> ((4 : Int32) &&& 31).toUInt32).toInt32)).toUInt32 >>> ((2 : Int32) &&& 31).toUInt32).toInt32)).toUInt32 >>> ((1 : Int32) &&& 31).toUInt32).toInt32)))))) else (if p1 = (0 : Int32) then (32 : Int32) else (0 : Int32)))
def own_us (x k : Int32) : Int32 := ((x).toUInt32 >>> (k &&& 31).toUInt32).toInt32
def own_n1 (n i : Int32) : Int32 := n - own_us i 1
def own_n2 (n i : Int32) : Int32 := if i < (4 : Int32) then own_n1 n i else own_n1 (n - 2) (own_us i 2)
def own_n4 (n i : Int32) : Int32 := if i < (16 : Int32) then own_n2 n i else own_n2 (n - 4) (own_us i 4)
def own_n8 (n i : Int32) : Int32 := if i < (256 : Int32) then own_n4 n i else own_n4 (n - 8) (own_us i 8)
def own_n16 (n i : Int32) : Int32 := if i < (65536 : Int32) then own_n8 n i else own_n8 (n - 16) (own_us i 16)
def own_sp (L : Nat) (n i r : Int32) : Prop := ∃ e : Nat, e < L ∧ r.toInt = n.toInt - e ∧ (2 ^ e : Nat) ≤ i.toInt ∧ i.toInt < (2 ^ (e + 1) : Nat)
theorem own_sp1 {n i : Int32} (hn : 1 ≤ n.toInt ∧ n.toInt ≤ 31) (h : 1 ≤ i.toInt ∧ i.toInt < 4) : own_sp 2 n i (own_n1 n i) := by
  have u := c_iushr i 1 1 (by decide) (by decide)
  have s := c_isub n (own_us i 1)
  have r := rng32 (n - own_us i 1)
  rw [own_us] at s r
  have e : i.toInt % 4294967296 / (2 ^ 1 : Nat) = 0 ∨ i.toInt % 4294967296 / (2 ^ 1 : Nat) = 1 := by omega
  rw [own_n1]
  rcases e with e | e
  · refine ⟨0, by decide, ?_, ?_, ?_⟩
    · rw [own_us]; omega
    · show ((1 : Nat) : Int) ≤ _; omega
    · show _ < ((2 : Nat) : Int); omega
  · refine ⟨1, by decide, ?_, ?_, ?_⟩
    · rw [own_us]; omega
    · show ((2 : Nat) : Int) ≤ _; omega
    · show _ < ((4 : Nat) : Int); omega
theorem own_spu {L k : Nat} {n i r q w : Int32} (hq : q.toBitVec.toNat % 32 = k) (hqi : q.toInt = k) (hk : 0 < k) (hn : (k : Int) ≤ n.toInt ∧ n.toInt ≤ 31) (h : 0 ≤ i.toInt) (S : own_sp L (n - q) (own_us i q) r) (hw : w = n - q) : own_sp (L + k) n i r := by
  obtain ⟨e, e1, e2, e3, e4⟩ := S
  have u : (own_us i q).toInt = _ := c_iushr i q k hq hk
  have s := c_isub n q
  have rr := rng32 (n - q)
  have ri := rng32 i
  rw [show i.toInt % 4294967296 = i.toInt by omega] at u
  rw [u] at e3 e4
  refine ⟨e + k, by omega, by omega, ?_, ?_⟩
  · have := (Int.le_ediv_iff_mul_le (show (0 : Int) < (2 ^ k : Nat) by exact_mod_cast Nat.two_pow_pos k)).mp e3
    rw [Nat.pow_add]; push_cast at this ⊢; exact this
  · have := (Int.ediv_lt_iff_lt_mul (show (0 : Int) < (2 ^ k : Nat) by exact_mod_cast Nat.two_pow_pos k)).mp e4
    rw [show e + k + 1 = (e + 1) + k by omega, Nat.pow_add]; push_cast at this ⊢; exact this
theorem own_spm {L M : Nat} {n i r : Int32} (h : L ≤ M) (S : own_sp L n i r) : own_sp M n i r := by obtain ⟨e, e1, r⟩ := S; exact ⟨e, by omega, r⟩
theorem own_subr {n q : Int32} (h : 0 ≤ q.toInt ∧ q.toInt ≤ n.toInt ∧ n.toInt ≤ 31) : (n - q).toInt = n.toInt - q.toInt := by
  have s := c_isub n q
  have rr := rng32 (n - q)
  omega
theorem own_usr {i q : Int32} (k : Nat) (hq : q.toBitVec.toNat % 32 = k) (hk : 0 < k) (h : 0 ≤ i.toInt) : (own_us i q).toInt = i.toInt / (2 ^ k : Nat) := by
  have u : (own_us i q).toInt = _ := c_iushr i q k hq hk
  have ri := rng32 i
  rw [show i.toInt % 4294967296 = i.toInt by omega] at u
  exact u
theorem own_sp2 {n i : Int32} (hn : 3 ≤ n.toInt ∧ n.toInt ≤ 31) (h : 1 ≤ i.toInt ∧ i.toInt < 16) : own_sp 4 n i (own_n2 n i) := by
  have e4 : (4 : Int32).toInt = 4 := rfl
  have e2 : (2 : Int32).toInt = 2 := rfl
  rw [own_n2]
  split
  · rename_i g; rw [Int32.lt_iff_toInt_lt] at g; exact own_spm (by decide) (own_sp1 (by omega) (by omega))
  · rename_i g; rw [Int32.lt_iff_toInt_lt] at g
    have a := own_subr (n := n) (q := 2) (by omega)
    have b := own_usr (i := i) (q := 2) 2 (by decide) (by decide) (by omega)
    exact own_spu (q := 2) (k := 2) (L := 2) (by decide) rfl (by decide) (by omega) (by omega) (own_sp1 (by omega) (by omega)) rfl
theorem own_sp4 {n i : Int32} (hn : 7 ≤ n.toInt ∧ n.toInt ≤ 31) (h : 1 ≤ i.toInt ∧ i.toInt < 256) : own_sp 8 n i (own_n4 n i) := by
  have e4 : (16 : Int32).toInt = 16 := rfl
  have e2 : (4 : Int32).toInt = 4 := rfl
  rw [own_n4]
  split
  · rename_i g; rw [Int32.lt_iff_toInt_lt] at g; exact own_spm (by decide) (own_sp2 (by omega) (by omega))
  · rename_i g; rw [Int32.lt_iff_toInt_lt] at g
    have a := own_subr (n := n) (q := 4) (by omega)
    have b := own_usr (i := i) (q := 4) 4 (by decide) (by decide) (by omega)
    exact own_spu (q := 4) (k := 4) (L := 4) (by decide) rfl (by decide) (by omega) (by omega) (own_sp2 (by omega) (by omega)) rfl
theorem own_sp8 {n i : Int32} (hn : 15 ≤ n.toInt ∧ n.toInt ≤ 31) (h : 1 ≤ i.toInt ∧ i.toInt < 65536) : own_sp 16 n i (own_n8 n i) := by
  have e4 : (256 : Int32).toInt = 256 := rfl
  have e2 : (8 : Int32).toInt = 8 := rfl
  rw [own_n8]
  split
  · rename_i g; rw [Int32.lt_iff_toInt_lt] at g; exact own_spm (by decide) (own_sp4 (by omega) (by omega))
  · rename_i g; rw [Int32.lt_iff_toInt_lt] at g
    have a := own_subr (n := n) (q := 8) (by omega)
    have b := own_usr (i := i) (q := 8) 8 (by decide) (by decide) (by omega)
    exact own_spu (q := 8) (k := 8) (L := 8) (by decide) rfl (by decide) (by omega) (by omega) (own_sp4 (by omega) (by omega)) rfl
theorem own_sp16 {i : Int32} (h : 1 ≤ i.toInt) : own_sp 32 31 i (own_n16 31 i) := by
  have e4 : (65536 : Int32).toInt = 65536 := rfl
  have e2 : (16 : Int32).toInt = 16 := rfl
  have e3 : (31 : Int32).toInt = 31 := rfl
  have ri := rng32 i
  rw [own_n16]
  split
  · rename_i g; rw [Int32.lt_iff_toInt_lt] at g; exact own_spm (by decide) (own_sp8 (by omega) (by omega))
  · rename_i g; rw [Int32.lt_iff_toInt_lt] at g
    have a := own_subr (n := 31) (q := 16) (by omega)
    have b := own_usr (i := i) (q := 16) 16 (by decide) (by decide) (by omega)
    exact own_spu (q := 16) (k := 16) (L := 16) (by decide) rfl (by decide) (by omega) (by omega) (own_sp8 (by omega) (by omega)) rfl
theorem own_nlz_eq (p : Int32) (h : (0 : Int32) < p) : own_nlz p = own_n16 31 p := by
  rw [own_nlz, if_pos h]; rfl
theorem own_need {c : Int32} (h : 0 ≤ c.toInt) : own_B (own_mx 1 ((32 : Int32) - own_nlz c)) ∧ c.toInt < 2 ^ (own_mx 1 ((32 : Int32) - own_nlz c)).toInt.toNat := by
  have e0 : (0 : Int32).toInt = 0 := rfl
  have e1 : (1 : Int32).toInt = 1 := rfl
  have e31 : (31 : Int32).toInt = 31 := rfl
  have e32 : (32 : Int32).toInt = 32 := rfl
  by_cases g : (0 : Int32) < c
  · rw [own_nlz_eq c g]
    rw [Int32.lt_iff_toInt_lt] at g
    obtain ⟨e, a1, a2, a3, a4⟩ := own_sp16 (i := c) (by omega)
    have rc := rng32 c
    have he : e < 31 := by
      apply Nat.lt_of_not_le
      intro q
      have : (2 ^ 31 : Nat) ≤ (2 ^ e : Nat) := Nat.pow_le_pow_right (by decide) q
      have : ((2 ^ 31 : Nat) : Int) ≤ ((2 ^ e : Nat) : Int) := by exact_mod_cast this
      omega
    have s := c_isub 32 (own_n16 31 c)
    have r := rng32 (32 - own_n16 31 c)
    have v : ((32 : Int32) - own_n16 31 c).toInt = e + 1 := by omega
    have w : (own_mx 1 ((32 : Int32) - own_n16 31 c)).toInt = e + 1 := by
      rw [own_mx]; split
      · exact v
      · rename_i q; rw [Int32.lt_iff_toInt_lt] at q; omega
    refine ⟨⟨by omega, by omega⟩, ?_⟩
    rw [w, show ((e : Int) + 1).toNat = e + 1 by omega]
    exact_mod_cast a4
  · rw [Int32.lt_iff_toInt_lt] at g
    obtain rfl : c = 0 := Int32.toInt_inj.mp (by omega)
    exact ⟨⟨by decide, by decide⟩, by decide⟩
theorem own_need3 {m0 m1 m2 : Int32} (h0 : 0 ≤ m0.toInt) (h1 : 0 ≤ m1.toInt) (h2 : 0 ≤ m2.toInt) {N : Int32} (hN : N = own_mx 1 ((32 : Int32) - own_nlz ((((0 : Int32) ||| m0) ||| m1) ||| m2))) : own_B N ∧ own_bd N m0 ∧ own_bd N m1 ∧ own_bd N m2 := by
  have e0 : (0 : Int32).toInt = 0 := rfl
  have a := c_or0 (0 : Int32) m0 (by decide) h0
  have b := c_or0 ((0 : Int32) ||| m0) m1 (by omega) h1
  have d := c_or0 (((0 : Int32) ||| m0) ||| m1) m2 (by omega) h2
  have n := own_need (c := ((((0 : Int32) ||| m0) ||| m1) ||| m2)) (by omega)
  rw [← hN] at n
  exact ⟨n.1, ⟨h0, Int.lt_of_le_of_lt (by omega) n.2⟩, ⟨h1, Int.lt_of_le_of_lt (by omega) n.2⟩, ⟨h2, Int.lt_of_le_of_lt (by omega) n.2⟩⟩
theorem own_lenm {N z : Int32} (hz : z = 0 ∨ z = 1) : ¬ (2147483639 : Int64) < (own_mxj (16 : Int64) ((z).toInt64)) * ((own_W N).toInt64) := by
  rcases hz with rfl | rfl <;> rcases own_W12 N with h | h <;> rw [h] <;> decide
theorem own_lenw {N z : Int32} (hz : z = 0 ∨ z = 1) : ((own_mxj (16 : Int64) ((z).toInt64)) * ((own_W N).toInt64)).toInt32 = (16 : Int32) * own_W N := by
  rcases hz with rfl | rfl <;> rcases own_W12 N with h | h <;> rw [h] <;> decide
def own_cpf (f g : Nat → Int64) (d w : Nat) : Nat → Int64 := fun i => if d ≤ i ∧ i < d + w then f (i - d) else g i
section Cp
variable {p : Program} {l : Launch} {e : Env} {R : Room} {s : State} {m : MethodId} {args : Array Value} {below : List Frame} {meth : Method} {c : Code} {T : State} {locs : List Loc} {cells slots : Nat} {Z : State} {h : Heap} {a b : Addr}
theorem own_lv {f : Nat → Int64} {n i : Nat} (hi : i < n) : ((List.range n).map (fun i => Value.long (f i))).getD i (.long 0) = Value.long (f i) := by
  simp [List.getD_eq_getElem?_getD, hi]
theorem own_cp (X : Stand p l e R s m args below meth c T locs cells slots) (hx : p.tables.exec = Jvm.exec) (hZ : Z.Warmed39 s.vm) {a0 : Array Value} {own : String} {index : Nat} (hown : s.vm.findClass own = some m.cls)
    (w1 : (Cond.methodLink own index Jvm.Stand.acN).before a0 Z = true) (w2 : (Cond.native Jvm.Stand.acN).before a0 Z = true) (w3 : (Cond.static Jvm.Stand.acN).before a0 Z = true) (w4 : (Cond.initialized "java/lang/System").before a0 Z = true) (eT : T.heap = h)
    {k k' : ClassId} {n n' d w : Nat} {f g : Nat → Int64} {dp nn : Int32} (A : AV Z h a k .long n (fun i => Value.long (f i))) (B : AV Z h b k' .long n' (fun i => Value.long (g i)))
    (h2 : ¬ dp < 0) (h3 : ¬ nn < 0) (ed : dp.toNatClampNeg = d) (ew : nn.toNatClampNeg = w) (h4 : w ≤ n) (h5 : d + w ≤ n') {n0 : Nat} (N : Fr n0 locs) (ge : n0 ≤ b)
    {fr : JFrame} (hg : fr.method = m) (hsize : fr.locals.size = c.maxLocals) {rest : List Value} (hs : fr.stack = .int nn :: .int dp :: .ref b :: .int 0 :: .ref a :: rest) (hd : decode c.code fr.pc = .ok (.invokestatic index, 3))
    (hf : 1 ≤ R.frames) {W : Nat} (hW : 2 * fr.monitorRoom + (rest.map fun v => v.category).sum ≤ W) (hlo : W + (nativeFrameWords "java/lang/System" "arraycopy" 5 + 11) ≤ R.locals) :
    ∃ T' h' L, Stand p l e R s m args below meth c T' L cells slots ∧ T'.heap = h' ∧ Fr n0 L ∧ Keep h h' [b] ∧ AV Z h' b k' .long n' (fun i => Value.long (own_cpf f g d w i)) ∧
      ∀ target, Steps p.tables e below (T'.setTop { fr with pc := fr.pc + 3, stack := rest }) target → Steps p.tables e below (T.setTop fr) target := by
  have lnA : n < 2147483648 := by obtain ⟨_, -, -, -, q, -⟩ := A; exact q
  have lnB : n' < 2147483648 := by obtain ⟨_, -, -, -, q, -⟩ := B; exact q
  have zz : ∀ n : Nat, n < 2147483648 → ¬ (Int32.ofNat n) < 0 ∧ (Int32.ofNat n).toNatClampNeg = n := fun n hn => by
    have q : (Int32.ofNat n).toInt = n := Int32.toInt_ofNat_of_lt (by omega)
    have e0 : (0 : Int32).toInt = 0 := rfl
    refine ⟨by rw [Int32.lt_iff_toInt_lt]; omega, ?_⟩
    show (Int32.ofNat n).toInt.toNat = n
    omega
  have za := zz n lnA
  have zb := zz n' lnB
  have A' : Arv Z h a k .long (Int32.ofNat n) ((List.range n).map (fun i => Value.long (f i))) (.long 0) := AV.arv A za.1 za.2 (fun i hi => (own_lv hi).symm) (fun i hi => rfl)
  have B' : Arv Z h b k' .long (Int32.ofNat n') ((List.range n').map (fun i => Value.long (g i))) (.long 0) := AV.arv B zb.1 zb.2 (fun i hi => (own_lv hi).symm) (fun i hi => rfl)
  subst ed ew
  obtain ⟨T', h', L, r1, r2, r3, r4, r5, r6⟩ := cpA (sp := 0) (dp := dp) (nn := nn) X hx hZ hown w1 w2 w3 w4 eT A' B' (Or.inl ⟨rfl, rfl⟩) (by decide) h2 h3 (by rw [za.2]; show 0 + _ ≤ _; omega) (by rw [zb.2]; exact h5) rfl (by simpa using h5) N ge hg hsize hs hd hf hW hlo
  refine ⟨T', h', L, r1, r2, r3, r4, ?_, r6⟩
  obtain ⟨c', Ar, q1, q2, q3, q4, q5⟩ := r5
  refine ⟨c', Ar, q1, q2.trans zb.2, lnB, fun i hi => (q4 i (by rw [q2, zb.2]; exact hi)).trans (congrArg some ?_)⟩
  have z0 : (0 : Int32).toNatClampNeg = 0 := rfl
  rw [List.getD_eq_getElem?_getD, List.append_assoc, List.getElem?_append, List.getElem?_append]
  simp only [List.length_take, List.length_map, List.length_range, own_cpf, z0]
  rw [Nat.min_eq_left (by omega)]
  by_cases c1 : i < dp.toNatClampNeg
  · rw [if_pos c1, if_neg (by omega), List.getElem?_take, if_pos c1]; simp [hi]
  · rw [if_neg c1]
    by_cases c2 : i - dp.toNatClampNeg < nn.toNatClampNeg
    · rw [if_pos c2, if_pos (by omega)]
      rw [List.getElem?_map, List.getElem?_range c2]
      simp only [Option.map_some, Option.getD_some, Nat.zero_add]
      exact own_lv (by omega)
    · rw [if_neg c2, if_neg (by omega), List.getElem?_drop]
      rw [show dp.toNatClampNeg + nn.toNatClampNeg + (i - dp.toNatClampNeg - nn.toNatClampNeg) = i by omega]
      simp [hi]
end Cp
theorem own_old {a P P' : Addr} {n : Nat} (q : a ≠ P) (l : a < n) (h : P' = P ∨ n ≤ P') : a ≠ P' := by
  rcases h with rfl | h
  · exact q
  · exact Nat.ne_of_lt (Nat.lt_of_lt_of_le l h)
theorem own_oldg {n0 n P P' : Nat} (g : n0 ≤ P) (z : n0 ≤ n) (h : P' = P ∨ n ≤ P') : n0 ≤ P' := by
  rcases h with rfl | h
  · exact g
  · exact Nat.le_trans z h
def own_bd3 (B m0 m1 m2 : Int32) : Prop := own_bd B m0 ∧ own_bd B m1 ∧ own_bd B m2
theorem own_bdm3 {B N m0 m1 m2 : Int32} (hB : own_B B) (h : own_bd3 B m0 m1 m2) (hN : B < N) : own_bd3 N m0 m1 m2 := ⟨own_bdm hB h.1 hN, own_bdm hB h.2.1 hN, own_bdm hB h.2.2 hN⟩
theorem own_bdn3 {B N m0 m1 m2 : Int32} (hN : own_B N) (h : own_bd3 N m0 m1 m2) (q : ¬ B < N) : own_bd3 B m0 m1 m2 := by
  by_cases g : N < B
  · exact own_bdm3 hN h g
  · rw [Int32.lt_iff_toInt_lt] at g q
    obtain rfl : N = B := Int32.toInt_inj.mp (by omega)
    exact h
theorem own_inv3 {B m0 m1 m2 : Int32} {f : Nat → Int64} (hB : own_B B) (h : own_bd3 B m0 m1 m2) (hp : own_pw B m0 m1 m2 f 0) : own_un B (f 0) (f 1) 0 = m0 ∧ own_un B (f 0) (f 1) 1 = m1 ∧ own_un B (f 0) (f 1) 2 = m2 := by
  have i := own_inv (x1 := f 1) hB h.1 h.2.1 h.2.2 hp.2
  rw [hp.1]; exact i
theorem own_W1 (B : Int32) : (own_W B + (1 : Int32)).toNatClampNeg = (own_W B).toNatClampNeg + 1 := by rcases own_W12 B with h | h <;> rw [h] <;> decide
theorem own_inv4 {B m0 m1 m2 : Int32} {f : Nat → Int64} (hB : own_B B) (h : own_bd3 B m0 m1 m2) (hp : own_pw B m0 m1 m2 f (own_W B).toNatClampNeg) : own_un B (f (own_W B).toNatClampNeg) (f (own_W B + (1 : Int32)).toNatClampNeg) 0 = m0 ∧ own_un B (f (own_W B).toNatClampNeg) (f (own_W B + (1 : Int32)).toNatClampNeg) 1 = m1 ∧ own_un B (f (own_W B).toNatClampNeg) (f (own_W B + (1 : Int32)).toNatClampNeg) 2 = m2 := by
  have i := own_inv (x1 := f ((own_W B).toNatClampNeg + 1)) hB h.1 h.2.1 h.2.2 hp.2
  rw [hp.1, own_W1]; exact i
theorem own_rp {B N x0 x1 x2 : Int32} {f g : Nat → Int64} (hB : own_B B) (hx : own_pw B x0 x1 x2 f 0) (h : own_bd3 B x0 x1 x2) : own_pw N x0 x1 x2 (own_pk N (own_un B (f 0) (f 1) 0) (own_un B (f 0) (f 1) 1) (own_un B (f 0) (f 1) 2) g) 0 := by
  have i := own_inv3 hB h hx
  rw [i.1, i.2.1, i.2.2]; exact own_pk_pw N x0 x1 x2 g
theorem own_cp0 {B m0 m1 m2 : Int32} {f g : Nat → Int64} (h : own_pw B m0 m1 m2 f 0) : own_pw B m0 m1 m2 (own_cpf f g 0 (own_W B).toNatClampNeg) 0 := by
  have w := own_Wge B
  refine ⟨?_, fun q => ?_⟩
  · rw [own_cpf, if_pos (by omega)]; exact h.1
  · have e : (own_W B).toNatClampNeg = 2 := by rw [own_Wp q]; decide
    rw [own_cpf, if_pos (by omega)]; exact h.2 q
theorem own_cp1 {B m0 m1 m2 : Int32} {f g : Nat → Int64} (h : own_pw B m0 m1 m2 f 0) : own_pw B m0 m1 m2 (own_cpf f g (own_W B).toNatClampNeg (own_W B).toNatClampNeg) (own_W B).toNatClampNeg := by
  have w := own_Wge B
  refine ⟨?_, fun q => ?_⟩
  · rw [own_cpf, if_pos (by omega), Nat.sub_self]; exact h.1
  · have e : (own_W B).toNatClampNeg = 2 := by rw [own_Wp q]; decide
    rw [own_cpf, if_pos (by omega), show (own_W B).toNatClampNeg + 1 - (own_W B).toNatClampNeg = 0 + 1 by omega]; exact h.2 q
theorem own_cp2 {B x0 x1 x2 : Int32} {f g : Nat → Int64} (h : own_pw B x0 x1 x2 g 0) : own_pw B x0 x1 x2 (own_cpf f g (own_W B).toNatClampNeg (own_W B).toNatClampNeg) 0 := by
  have w := own_Wge B
  refine ⟨?_, fun q => ?_⟩
  · rw [own_cpf, if_neg (by omega)]; exact h.1
  · have e : (own_W B).toNatClampNeg = 2 := by rw [own_Wp q]; decide
    rw [own_cpf, if_neg (by omega)]; exact h.2 q
theorem own_upy {f : Nat → Int32} {s t v : Int32} (h : s = t) : updI f s.toNatClampNeg v t.toNatClampNeg = v := by rw [updI, h, if_pos rfl]
theorem own_upn {f : Nat → Int32} {s t v : Int32} (hs : 0 ≤ s.toInt ∧ s.toInt < 32) (ht : 0 ≤ t.toInt ∧ t.toInt < 32) (h : ¬ s = t) : updI f s.toNatClampNeg v t.toNatClampNeg = f t.toNatClampNeg := by
  rw [updI, if_neg]
  intro q
  have e1 : s.toNatClampNeg = s.toInt.toNat := rfl
  have e2 : t.toNatClampNeg = t.toInt.toNat := rfl
  exact h (Int32.toInt_inj.mp (by omega))
theorem own_upz {f : Nat → Int32} {s t v : Int32} (ht : 0 ≤ t.toInt ∧ t.toInt < 32) (h : s = t) : updI f s.toNatClampNeg v ((t + (1 : Int32)) &&& (31 : Int32)).toNatClampNeg = f ((t + (1 : Int32)) &&& (31 : Int32)).toNatClampNeg := by
  rw [updI, h, if_neg (own_nxt ht).2]
def own_nb (x0 x1 x2 m0 m1 m2 : Int32) : Int32 := if x0 = m0 ∧ x1 = m1 ∧ x2 = m2 then 0 else 1
theorem own_nn (x : Int32) : 0 ≤ (x &&& (2147483647 : Int32)).toInt := by
  have := c_mask x 2147483647 31 (by decide) (by decide)
  rw [this]; exact Int.emod_nonneg _ (by decide)

theorem d4_0 : decode jdk_29_method_65_code 0 = .ok (.iload_n 0, 1) := by decide +kernel
theorem d4_1 : decode jdk_29_method_65_code 1 = .ok (.iload_n 1, 1) := by decide +kernel
theorem d4_2 : decode jdk_29_method_65_code 2 = .ok (.if_icmp .lt 7, 3) := by decide +kernel
theorem d4_5 : decode jdk_29_method_65_code 5 = .ok (.iload_n 0, 1) := by decide +kernel
theorem d4_6 : decode jdk_29_method_65_code 6 = .ok (.goto 4, 3) := by decide +kernel
theorem d4_9 : decode jdk_29_method_65_code 9 = .ok (.iload_n 1, 1) := by decide +kernel
theorem d4_10 : decode jdk_29_method_65_code 10 = .ok (.ireturn, 1) := by decide +kernel
theorem ef_rmmax (m : MethodId) (p1 : Int32) (p2 : Int32) : entryFrame m #[(.int p1), (.int p2)] 2 = mkF m 0 #[vi p1, vi p2] [] := by first | (simp [entryFrame, mkF, argsToLocals, Value.category]; done) | rfl
def Qmax (Z : State) (p1 : Int32) (p2 : Int32) (h0 : Heap) (n0 : Nat) (v : Option Value) (h : Heap) (L : List Loc) : Prop := v = some (.int (own_mx p1 p2)) ∧ Fr n0 L ∧ h = h0
set_option maxRecDepth 65536 in
set_option maxHeartbeats 40000000 in
theorem rmmax (l : Launch) (Z : State) (a0 : Array Value) (hw : ∀ d ∈ tables_1, d.before a0 Z = true) (ws : List Jvm.Cond) (p1 : Int32) (p2 : Int32) (h0 : Heap) (n0 : Nat) (Z0 : n0 ≤ h0.size) :
    MetFree l (⟨"java/lang/Math", "max", "(II)I"⟩ : MethodName) (head1 (Jvm.Cond.code (⟨"java/lang/Math", "max", "(II)I"⟩ : MethodName) jdk_29_method_65_code 2 (some .int) :: ws) ({ frames := 0, cells := 0, slots := 0, locals := 0 } : Room)) (fun a U => a = #[(.int p1), (.int p2)] ∧ Z.Warmed39 U.vm ∧ U.heap = h0) (fun _ _ _ _ _ => True) (fun _ U o U' => ∃ v L, o = .returned v ∧ Qmax Z p1 p2 h0 n0 v U'.heap L ∧ FrameEnd U o U' L ({ frames := 0, cells := 0, slots := 0, locals := 0 } : Room).cells ({ frames := 0, cells := 0, slots := 0, locals := 0 } : Room).slots) := by
  refine MetFree.of_bodySF (Jvm.Free.JP.mathPlain rfl (by decide +kernel)) hisR ?_
  intro p e s m args below meth c s₁ Bd hml0 hP hK
  obtain ⟨rfl, hZ, hh⟩ := hP
  have hx := Bd.exec
  have hby := Bd.bytes
  have hml : c.maxLocals = 2 := hml0
  have hown : s.vm.findClass "java/lang/Math" = some m.cls := findClass_of_methodNamed Bd.named
  have hnm := (name_of_methodNamed Bd.named Bd.method).1
  have X0 : Stand p l e ({ frames := 0, cells := 0, slots := 0, locals := 0 } : Room) s m #[(.int p1), (.int p2)] below meth c s₁ [] 0 0 := Stand.of_body Bd
  have e0 : s₁.heap = h0 := by rw [← hh, Bd.state]; rfl
  have N0 := Fr.nil n0
  show GoalS p.tables e below s ({ frames := 0, cells := 0, slots := 0, locals := 0 } : Room).cells ({ frames := 0, cells := 0, slots := 0, locals := 0 } : Room).slots (Qmax Z p1 p2 h0 n0) (s₁.setTop (entryFrame m #[(.int p1), (.int p2)] 2))
  refine GoalS.lift (B := s₁.setTop (mkF m 0 #[vi p1, vi p2] [])) (fun t k => castTop (ef_rmmax m p1 p2) k) ?_
  have K0 : Keep h0 h0 [] := Keep.refl _ _
  refine GoalS.lift (B := (s₁.setTop (mkF m 2 #[vi p1, vi p2] [(.int p2), (.int p1)]))) (fun t k => ?_) ?_
  · show Steps p.tables e below (s₁.setTop (mkF m 0 #[vi p1, vi p2] [])) _
    refine XS.iloadN X0.here hx rfl (hb hby d4_0) rfl ?_
    refine XS.iloadN X0.here hx rfl (hb hby d4_1) rfl ?_
    exact k
  by_cases hc2_1 : p1 < p2
  · obtain ⟨fs, hr, hrun, hended, hW, hsame⟩ := X0.leave (v := some (.int p2)) (fun h => by rw [Bd.returns] at h; cases h)
    refine ⟨_, _, ?_, hrun, hended, _, _, rfl, ?_, ⟨_, rfl⟩, hW, hsame.mono (by decide) (by decide)⟩
    · show Steps p.tables e below (s₁.setTop (mkF m 2 #[vi p1, vi p2] [(.int p2), (.int p1)])) _
      refine XS.icmpYes X0.here hx rfl (pc0 := 2) (pc' := 9) rfl (hb hby d4_2) rfl ((tlt hc2_1).1) (by decide) (by decide) ?_
      refine XS.iloadN X0.here hx rfl (hb hby d4_9) rfl ?_
      exact retI X0 hx Bd.returns (hb hby d4_10) hr
    · show Qmax Z p1 p2 h0 n0 _ s₁.heap _
      exact ⟨(congrArg (fun z => some (Value.int z)) (by rw [own_mx]; simp only [if_pos hc2_1])), N0, e0⟩
  · obtain ⟨fs, hr, hrun, hended, hW, hsame⟩ := X0.leave (v := some (.int p1)) (fun h => by rw [Bd.returns] at h; cases h)
    refine ⟨_, _, ?_, hrun, hended, _, _, rfl, ?_, ⟨_, rfl⟩, hW, hsame.mono (by decide) (by decide)⟩
    · show Steps p.tables e below (s₁.setTop (mkF m 2 #[vi p1, vi p2] [(.int p2), (.int p1)])) _
      refine XS.icmpNo X0.here hx rfl (hb hby d4_2) rfl ((flt hc2_1).1) ?_
      refine XS.iloadN X0.here hx rfl (hb hby d4_5) rfl ?_
      refine XS.goto X0.here hx rfl (pc0 := 6) (pc' := 10) rfl (hb hby d4_6) (by decide) (by decide) ?_
      exact retI X0 hx Bd.returns (hb hby d4_10) hr
    · show Qmax Z p1 p2 h0 n0 _ s₁.heap _
      exact ⟨(congrArg (fun z => some (Value.int z)) (by rw [own_mx]; simp only [if_neg hc2_1])), N0, e0⟩
theorem d8_0 : decode jdk_29_method_66_code 0 = .ok (.lload_n 0, 1) := by decide +kernel
theorem d8_1 : decode jdk_29_method_66_code 1 = .ok (.lload_n 2, 1) := by decide +kernel
theorem d8_2 : decode jdk_29_method_66_code 2 = .ok (.lcmp, 1) := by decide +kernel
theorem d8_3 : decode jdk_29_method_66_code 3 = .ok (.ifCond .lt 7, 3) := by decide +kernel
theorem d8_6 : decode jdk_29_method_66_code 6 = .ok (.lload_n 0, 1) := by decide +kernel
theorem d8_7 : decode jdk_29_method_66_code 7 = .ok (.goto 4, 3) := by decide +kernel
theorem d8_10 : decode jdk_29_method_66_code 10 = .ok (.lload_n 2, 1) := by decide +kernel
theorem d8_11 : decode jdk_29_method_66_code 11 = .ok (.lreturn, 1) := by decide +kernel
theorem ef_rmmaxj (m : MethodId) (q1 : Int64) (q2 : Int64) : entryFrame m #[(.long q1), (.long q2)] 4 = mkF m 0 #[vj q1, .second, vj q2, .second] [] := by first | (simp [entryFrame, mkF, argsToLocals, Value.category]; done) | rfl
def Qmaxj (Z : State) (q1 : Int64) (q2 : Int64) (h0 : Heap) (n0 : Nat) (v : Option Value) (h : Heap) (L : List Loc) : Prop := v = some (.long (own_mxj q1 q2)) ∧ Fr n0 L ∧ h = h0
set_option maxRecDepth 65536 in
set_option maxHeartbeats 40000000 in
theorem rmmaxj (l : Launch) (Z : State) (a0 : Array Value) (hw : ∀ d ∈ tables_1, d.before a0 Z = true) (ws : List Jvm.Cond) (q1 : Int64) (q2 : Int64) (h0 : Heap) (n0 : Nat) (Z0 : n0 ≤ h0.size) :
    MetFree l (⟨"java/lang/Math", "max", "(JJ)J"⟩ : MethodName) (head1 (Jvm.Cond.code (⟨"java/lang/Math", "max", "(JJ)J"⟩ : MethodName) jdk_29_method_66_code 4 (some .long) :: ws) ({ frames := 0, cells := 0, slots := 0, locals := 0 } : Room)) (fun a U => a = #[(.long q1), (.long q2)] ∧ Z.Warmed39 U.vm ∧ U.heap = h0) (fun _ _ _ _ _ => True) (fun _ U o U' => ∃ v L, o = .returned v ∧ Qmaxj Z q1 q2 h0 n0 v U'.heap L ∧ FrameEnd U o U' L ({ frames := 0, cells := 0, slots := 0, locals := 0 } : Room).cells ({ frames := 0, cells := 0, slots := 0, locals := 0 } : Room).slots) := by
  refine MetFree.of_bodySF (Jvm.Free.JP.mathPlain rfl (by decide +kernel)) hisR ?_
  intro p e s m args below meth c s₁ Bd hml0 hP hK
  obtain ⟨rfl, hZ, hh⟩ := hP
  have hx := Bd.exec
  have hby := Bd.bytes
  have hml : c.maxLocals = 4 := hml0
  have hown : s.vm.findClass "java/lang/Math" = some m.cls := findClass_of_methodNamed Bd.named
  have hnm := (name_of_methodNamed Bd.named Bd.method).1
  have X0 : Stand p l e ({ frames := 0, cells := 0, slots := 0, locals := 0 } : Room) s m #[(.long q1), (.long q2)] below meth c s₁ [] 0 0 := Stand.of_body Bd
  have e0 : s₁.heap = h0 := by rw [← hh, Bd.state]; rfl
  have N0 := Fr.nil n0
  show GoalS p.tables e below s ({ frames := 0, cells := 0, slots := 0, locals := 0 } : Room).cells ({ frames := 0, cells := 0, slots := 0, locals := 0 } : Room).slots (Qmaxj Z q1 q2 h0 n0) (s₁.setTop (entryFrame m #[(.long q1), (.long q2)] 4))
  refine GoalS.lift (B := s₁.setTop (mkF m 0 #[vj q1, .second, vj q2, .second] [])) (fun t k => castTop (ef_rmmaxj m q1 q2) k) ?_
  have K0 : Keep h0 h0 [] := Keep.refl _ _
  refine GoalS.lift (B := (s₁.setTop (mkF m 3 #[vj q1, .second, vj q2, .second] [(.int (lcmpW q1 q2))]))) (fun t k => ?_) ?_
  · show Steps p.tables e below (s₁.setTop (mkF m 0 #[vj q1, .second, vj q2, .second] [])) _
    refine XS.lloadN X0.here hx rfl (hb hby d8_0) rfl ?_
    refine XS.lloadN X0.here hx rfl (hb hby d8_1) rfl ?_
    refine XS.lcmp X0.here hx rfl (hb hby d8_2) rfl ?_
    exact k
  by_cases hc3_1 : q1 < q2
  · obtain ⟨fs, hr, hrun, hended, hW, hsame⟩ := X0.leave (v := some (.long q2)) (fun h => by rw [Bd.returns] at h; cases h)
    refine ⟨_, _, ?_, hrun, hended, _, _, rfl, ?_, ⟨_, rfl⟩, hW, hsame.mono (by decide) (by decide)⟩
    · show Steps p.tables e below (s₁.setTop (mkF m 3 #[vj q1, .second, vj q2, .second] [(.int (lcmpW q1 q2))])) _
      refine XS.ifYes X0.here hx rfl (pc0 := 3) (pc' := 10) rfl (hb hby d8_3) rfl ((if0 _ _).trans (tlt ((lw_lt q1 q2).mpr hc3_1)).1) (by decide) (by decide) ?_
      refine XS.lloadN X0.here hx rfl (hb hby d8_10) rfl ?_
      exact X0.lreturnOut hx Bd.returns (hb hby d8_11) hr
    · show Qmaxj Z q1 q2 h0 n0 _ s₁.heap _
      exact ⟨(congrArg (fun z => some (Value.long z)) (by rw [own_mxj]; simp only [if_pos hc3_1])), N0, e0⟩
  · obtain ⟨fs, hr, hrun, hended, hW, hsame⟩ := X0.leave (v := some (.long q1)) (fun h => by rw [Bd.returns] at h; cases h)
    refine ⟨_, _, ?_, hrun, hended, _, _, rfl, ?_, ⟨_, rfl⟩, hW, hsame.mono (by decide) (by decide)⟩
    · show Steps p.tables e below (s₁.setTop (mkF m 3 #[vj q1, .second, vj q2, .second] [(.int (lcmpW q1 q2))])) _
      refine XS.ifNo X0.here hx rfl (hb hby d8_3) rfl ((if0 _ _).trans (flt (fun q => hc3_1 ((lw_lt q1 q2).mp q))).1) ?_
      refine XS.lloadN X0.here hx rfl (hb hby d8_6) rfl ?_
      refine XS.goto X0.here hx rfl (pc0 := 7) (pc' := 11) rfl (hb hby d8_7) (by decide) (by decide) ?_
      exact X0.lreturnOut hx Bd.returns (hb hby d8_11) hr
    · show Qmaxj Z q1 q2 h0 n0 _ s₁.heap _
      exact ⟨(congrArg (fun z => some (Value.long z)) (by rw [own_mxj]; simp only [if_neg hc3_1])), N0, e0⟩
theorem d6_0 : decode jdk_33_method_47_code 0 = .ok (.iload_n 0, 1) := by decide +kernel
theorem d6_1 : decode jdk_33_method_47_code 1 = .ok (.ifCond .gt 14, 3) := by decide +kernel
theorem d6_4 : decode jdk_33_method_47_code 4 = .ok (.iload_n 0, 1) := by decide +kernel
theorem d6_5 : decode jdk_33_method_47_code 5 = .ok (.ifCond .ne 8, 3) := by decide +kernel
theorem d6_8 : decode jdk_33_method_47_code 8 = .ok (.bipush 32, 2) := by decide +kernel
theorem d6_10 : decode jdk_33_method_47_code 10 = .ok (.goto 4, 3) := by decide +kernel
theorem d6_13 : decode jdk_33_method_47_code 13 = .ok (.iconst 0, 1) := by decide +kernel
theorem d6_14 : decode jdk_33_method_47_code 14 = .ok (.ireturn, 1) := by decide +kernel
theorem d6_15 : decode jdk_33_method_47_code 15 = .ok (.bipush 31, 2) := by decide +kernel
theorem d6_17 : decode jdk_33_method_47_code 17 = .ok (.istore_n 1, 1) := by decide +kernel
theorem d6_18 : decode jdk_33_method_47_code 18 = .ok (.iload_n 0, 1) := by decide +kernel
theorem d6_19 : decode jdk_33_method_47_code 19 = .ok (.ldc_w 264, 3) := by decide +kernel
theorem d6_22 : decode jdk_33_method_47_code 22 = .ok (.if_icmp .lt 11, 3) := by decide +kernel
theorem d6_25 : decode jdk_33_method_47_code 25 = .ok (.iinc 1 (-16), 3) := by decide +kernel
theorem d6_28 : decode jdk_33_method_47_code 28 = .ok (.iload_n 0, 1) := by decide +kernel
theorem d6_29 : decode jdk_33_method_47_code 29 = .ok (.bipush 16, 2) := by decide +kernel
theorem d6_31 : decode jdk_33_method_47_code 31 = .ok (.iushr, 1) := by decide +kernel
theorem d6_32 : decode jdk_33_method_47_code 32 = .ok (.istore_n 0, 1) := by decide +kernel
theorem d6_33 : decode jdk_33_method_47_code 33 = .ok (.iload_n 0, 1) := by decide +kernel
theorem d6_34 : decode jdk_33_method_47_code 34 = .ok (.sipush 256, 3) := by decide +kernel
theorem d6_37 : decode jdk_33_method_47_code 37 = .ok (.if_icmp .lt 11, 3) := by decide +kernel
theorem d6_40 : decode jdk_33_method_47_code 40 = .ok (.iinc 1 (-8), 3) := by decide +kernel
theorem d6_43 : decode jdk_33_method_47_code 43 = .ok (.iload_n 0, 1) := by decide +kernel
theorem d6_44 : decode jdk_33_method_47_code 44 = .ok (.bipush 8, 2) := by decide +kernel
theorem d6_46 : decode jdk_33_method_47_code 46 = .ok (.iushr, 1) := by decide +kernel
theorem d6_47 : decode jdk_33_method_47_code 47 = .ok (.istore_n 0, 1) := by decide +kernel
theorem d6_48 : decode jdk_33_method_47_code 48 = .ok (.iload_n 0, 1) := by decide +kernel
theorem d6_49 : decode jdk_33_method_47_code 49 = .ok (.bipush 16, 2) := by decide +kernel
theorem d6_51 : decode jdk_33_method_47_code 51 = .ok (.if_icmp .lt 10, 3) := by decide +kernel
theorem d6_54 : decode jdk_33_method_47_code 54 = .ok (.iinc 1 (-4), 3) := by decide +kernel
theorem d6_57 : decode jdk_33_method_47_code 57 = .ok (.iload_n 0, 1) := by decide +kernel
theorem d6_58 : decode jdk_33_method_47_code 58 = .ok (.iconst 4, 1) := by decide +kernel
theorem d6_59 : decode jdk_33_method_47_code 59 = .ok (.iushr, 1) := by decide +kernel
theorem d6_60 : decode jdk_33_method_47_code 60 = .ok (.istore_n 0, 1) := by decide +kernel
theorem d6_61 : decode jdk_33_method_47_code 61 = .ok (.iload_n 0, 1) := by decide +kernel
theorem d6_62 : decode jdk_33_method_47_code 62 = .ok (.iconst 4, 1) := by decide +kernel
theorem d6_63 : decode jdk_33_method_47_code 63 = .ok (.if_icmp .lt 10, 3) := by decide +kernel
theorem d6_66 : decode jdk_33_method_47_code 66 = .ok (.iinc 1 (-2), 3) := by decide +kernel
theorem d6_69 : decode jdk_33_method_47_code 69 = .ok (.iload_n 0, 1) := by decide +kernel
theorem d6_70 : decode jdk_33_method_47_code 70 = .ok (.iconst 2, 1) := by decide +kernel
theorem d6_71 : decode jdk_33_method_47_code 71 = .ok (.iushr, 1) := by decide +kernel
theorem d6_72 : decode jdk_33_method_47_code 72 = .ok (.istore_n 0, 1) := by decide +kernel
theorem d6_73 : decode jdk_33_method_47_code 73 = .ok (.iload_n 1, 1) := by decide +kernel
theorem d6_74 : decode jdk_33_method_47_code 74 = .ok (.iload_n 0, 1) := by decide +kernel
theorem d6_75 : decode jdk_33_method_47_code 75 = .ok (.iconst 1, 1) := by decide +kernel
theorem d6_76 : decode jdk_33_method_47_code 76 = .ok (.iushr, 1) := by decide +kernel
theorem d6_77 : decode jdk_33_method_47_code 77 = .ok (.isub, 1) := by decide +kernel
theorem d6_78 : decode jdk_33_method_47_code 78 = .ok (.ireturn, 1) := by decide +kernel
theorem pn_0 : plainName "java/lang/Integer" = true := by first | (simp [plainName, overriddenIn]; done) | decide +kernel
theorem ef_rmnlz (m : MethodId) (p1 : Int32) : entryFrame m #[(.int p1)] 2 = mkF m 0 #[vi p1, .unset] [] := by first | (simp [entryFrame, mkF, argsToLocals, Value.category]; done) | rfl
def Qnlz (Z : State) (p1 : Int32) (h0 : Heap) (n0 : Nat) (v : Option Value) (h : Heap) (L : List Loc) : Prop := v = some (.int (own_nlz p1)) ∧ Fr n0 L ∧ h = h0
set_option maxRecDepth 65536 in
set_option maxHeartbeats 40000000 in
theorem rmnlz (l : Launch) (Z : State) (a0 : Array Value) (hw : ∀ d ∈ tables_1, d.before a0 Z = true) (ws : List Jvm.Cond) (p1 : Int32) (h0 : Heap) (n0 : Nat) (Z0 : n0 ≤ h0.size) :
    MetFree l (⟨"java/lang/Integer", "numberOfLeadingZeros", "(I)I"⟩ : MethodName) (head1 (Jvm.Cond.code (⟨"java/lang/Integer", "numberOfLeadingZeros", "(I)I"⟩ : MethodName) jdk_33_method_47_code 2 (some .int) :: ws) ({ frames := 0, cells := 0, slots := 0, locals := 0 } : Room)) (fun a U => a = #[(.int p1)] ∧ Z.Warmed39 U.vm ∧ U.heap = h0) (fun _ _ _ _ _ => True) (fun _ U o U' => ∃ v L, o = .returned v ∧ Qnlz Z p1 h0 n0 v U'.heap L ∧ FrameEnd U o U' L ({ frames := 0, cells := 0, slots := 0, locals := 0 } : Room).cells ({ frames := 0, cells := 0, slots := 0, locals := 0 } : Room).slots) := by
  refine MetFree.of_bodySF (plainFor_of_name pn_0) hisR ?_
  intro p e s m args below meth c s₁ Bd hml0 hP hK
  obtain ⟨rfl, hZ, hh⟩ := hP
  have hx := Bd.exec
  have hby := Bd.bytes
  have hml : c.maxLocals = 2 := hml0
  have hown : s.vm.findClass "java/lang/Integer" = some m.cls := findClass_of_methodNamed Bd.named
  have hnm := (name_of_methodNamed Bd.named Bd.method).1
  have X0 : Stand p l e ({ frames := 0, cells := 0, slots := 0, locals := 0 } : Room) s m #[(.int p1)] below meth c s₁ [] 0 0 := Stand.of_body Bd
  have e0 : s₁.heap = h0 := by rw [← hh, Bd.state]; rfl
  have N0 := Fr.nil n0
  show GoalS p.tables e below s ({ frames := 0, cells := 0, slots := 0, locals := 0 } : Room).cells ({ frames := 0, cells := 0, slots := 0, locals := 0 } : Room).slots (Qnlz Z p1 h0 n0) (s₁.setTop (entryFrame m #[(.int p1)] 2))
  refine GoalS.lift (B := s₁.setTop (mkF m 0 #[vi p1, .unset] [])) (fun t k => castTop (ef_rmnlz m p1) k) ?_
  have K0 : Keep h0 h0 [] := Keep.refl _ _
  refine GoalS.lift (B := (s₁.setTop (mkF m 1 #[vi p1, .unset] [(.int p1)]))) (fun t k => ?_) ?_
  · show Steps p.tables e below (s₁.setTop (mkF m 0 #[vi p1, .unset] [])) _
    refine XS.iloadN X0.here hx rfl (hb hby d6_0) rfl ?_
    exact k
  by_cases hc1_1 : (0 : Int32) < p1
  · refine GoalS.lift (B := (s₁.setTop (mkF m 22 #[vi p1, vi (31 : Int32)] [(.int (65536 : Int32)), (.int p1)]))) (fun t k => ?_) ?_
    · show Steps p.tables e below (s₁.setTop (mkF m 1 #[vi p1, .unset] [(.int p1)])) _
      refine XS.ifYes X0.here hx rfl (pc0 := 1) (pc' := 15) rfl (hb hby d6_1) rfl ((if0 _ _).trans (tlt hc1_1).2.2.1) (by decide) (by decide) ?_
      refine XS.bipush X0.here hx rfl (hb hby d6_15) ?_
      refine XS.istoreN X0.here hx rfl (hb hby d6_17) rfl (l' := #[vi p1, vi (31 : Int32)]) rfl ?_
      refine XS.iloadN X0.here hx rfl (hb hby d6_18) rfl ?_
      refine X0.ldcwInt hx hown (mvT hZ (hw _ (List.mem_of_getElem? (i := 40) rfl))) (g := (mkF m 19 #[vi p1, vi (31 : Int32)] [(.int p1)])) rfl (hb hby d6_19) _ ?_
      exact k
    by_cases hc22_2 : p1 < (65536 : Int32)
    · refine GoalS.lift (B := (s₁.setTop (mkF m 37 #[vi p1, vi (31 : Int32)] [(.int (256 : Int32)), (.int p1)]))) (fun t k => ?_) ?_
      · show Steps p.tables e below (s₁.setTop (mkF m 22 #[vi p1, vi (31 : Int32)] [(.int (65536 : Int32)), (.int p1)])) _
        refine XS.icmpYes X0.here hx rfl (pc0 := 22) (pc' := 33) rfl (hb hby d6_22) rfl ((tlt hc22_2).1) (by decide) (by decide) ?_
        refine XS.iloadN X0.here hx rfl (hb hby d6_33) rfl ?_
        refine XS.sipush X0.here hx rfl (hb hby d6_34) ?_
        exact k
      by_cases hc37_3 : p1 < (256 : Int32)
      · refine GoalS.lift (B := (s₁.setTop (mkF m 51 #[vi p1, vi (31 : Int32)] [(.int (16 : Int32)), (.int p1)]))) (fun t k => ?_) ?_
        · show Steps p.tables e below (s₁.setTop (mkF m 37 #[vi p1, vi (31 : Int32)] [(.int (256 : Int32)), (.int p1)])) _
          refine XS.icmpYes X0.here hx rfl (pc0 := 37) (pc' := 48) rfl (hb hby d6_37) rfl ((tlt hc37_3).1) (by decide) (by decide) ?_
          refine XS.iloadN X0.here hx rfl (hb hby d6_48) rfl ?_
          refine XS.bipush X0.here hx rfl (hb hby d6_49) ?_
          exact k
        by_cases hc51_4 : p1 < (16 : Int32)
        · refine GoalS.lift (B := (s₁.setTop (mkF m 63 #[vi p1, vi (31 : Int32)] [(.int (4 : Int32)), (.int p1)]))) (fun t k => ?_) ?_
          · show Steps p.tables e below (s₁.setTop (mkF m 51 #[vi p1, vi (31 : Int32)] [(.int (16 : Int32)), (.int p1)])) _
            refine XS.icmpYes X0.here hx rfl (pc0 := 51) (pc' := 61) rfl (hb hby d6_51) rfl ((tlt hc51_4).1) (by decide) (by decide) ?_
            refine XS.iloadN X0.here hx rfl (hb hby d6_61) rfl ?_
            refine XS.iconst X0.here hx rfl (hb hby d6_62) ?_
            exact k
          by_cases hc63_5 : p1 < (4 : Int32)
          · obtain ⟨fs, hr, hrun, hended, hW, hsame⟩ := X0.leave (v := some (.int ((31 : Int32) - (((p1).toUInt32 >>> ((1 : Int32) &&& 31).toUInt32).toInt32)))) (fun h => by rw [Bd.returns] at h; cases h)
            refine ⟨_, _, ?_, hrun, hended, _, _, rfl, ?_, ⟨_, rfl⟩, hW, hsame.mono (by decide) (by decide)⟩
            · show Steps p.tables e below (s₁.setTop (mkF m 63 #[vi p1, vi (31 : Int32)] [(.int (4 : Int32)), (.int p1)])) _
              refine XS.icmpYes X0.here hx rfl (pc0 := 63) (pc' := 73) rfl (hb hby d6_63) rfl ((tlt hc63_5).1) (by decide) (by decide) ?_
              refine XS.iloadN X0.here hx rfl (hb hby d6_73) rfl ?_
              refine XS.iloadN X0.here hx rfl (hb hby d6_74) rfl ?_
              refine XS.iconst X0.here hx rfl (hb hby d6_75) ?_
              refine XS.iushr X0.here hx rfl (hb hby d6_76) rfl ?_
              refine XS.isub X0.here hx rfl (hb hby d6_77) rfl ?_
              show Steps p.tables e below (s₁.setTop (mkF m 78 #[vi p1, vi (31 : Int32)] [(.int ((31 : Int32) - (((p1).toUInt32 >>> ((1 : Int32) &&& 31).toUInt32).toInt32)))])) _
              exact retI X0 hx Bd.returns (hb hby d6_78) hr
            · show Qnlz Z p1 h0 n0 _ s₁.heap _
              exact ⟨(congrArg (fun z => some (Value.int z)) (by rw [own_nlz]; simp only [if_pos hc1_1, if_pos hc22_2, if_pos hc37_3, if_pos hc51_4, if_pos hc63_5])), N0, e0⟩
          · obtain ⟨fs, hr, hrun, hended, hW, hsame⟩ := X0.leave (v := some (.int ((29 : Int32) - ((((((p1).toUInt32 >>> ((2 : Int32) &&& 31).toUInt32).toInt32)).toUInt32 >>> ((1 : Int32) &&& 31).toUInt32).toInt32)))) (fun h => by rw [Bd.returns] at h; cases h)
            refine ⟨_, _, ?_, hrun, hended, _, _, rfl, ?_, ⟨_, rfl⟩, hW, hsame.mono (by decide) (by decide)⟩
            · show Steps p.tables e below (s₁.setTop (mkF m 63 #[vi p1, vi (31 : Int32)] [(.int (4 : Int32)), (.int p1)])) _
              refine XS.icmpNo X0.here hx rfl (hb hby d6_63) rfl ((flt hc63_5).1) ?_
              refine XS.iinc X0.here hx rfl (hb hby d6_66) rfl (l' := #[vi p1, vi (29 : Int32)]) rfl ?_
              refine XS.iloadN X0.here hx rfl (hb hby d6_69) rfl ?_
              refine XS.iconst X0.here hx rfl (hb hby d6_70) ?_
              refine XS.iushr X0.here hx rfl (hb hby d6_71) rfl ?_
              refine XS.istoreN X0.here hx rfl (hb hby d6_72) rfl (l' := #[vi (((p1).toUInt32 >>> ((2 : Int32) &&& 31).toUInt32).toInt32), vi (29 : Int32)]) rfl ?_
              show Steps p.tables e below (s₁.setTop (mkF m 73 #[vi (((p1).toUInt32 >>> ((2 : Int32) &&& 31).toUInt32).toInt32), vi (29 : Int32)] [])) _
              refine XS.iloadN X0.here hx rfl (hb hby d6_73) rfl ?_
              refine XS.iloadN X0.here hx rfl (hb hby d6_74) rfl ?_
              refine XS.iconst X0.here hx rfl (hb hby d6_75) ?_
              refine XS.iushr X0.here hx rfl (hb hby d6_76) rfl ?_
              refine XS.isub X0.here hx rfl (hb hby d6_77) rfl ?_
              exact retI X0 hx Bd.returns (hb hby d6_78) hr
            · show Qnlz Z p1 h0 n0 _ s₁.heap _
              exact ⟨(congrArg (fun z => some (Value.int z)) (by rw [own_nlz]; simp only [if_pos hc1_1, if_pos hc22_2, if_pos hc37_3, if_pos hc51_4, if_neg hc63_5])), N0, e0⟩
        · refine GoalS.lift (B := (s₁.setTop (mkF m 63 #[vi (((p1).toUInt32 >>> ((4 : Int32) &&& 31).toUInt32).toInt32), vi (27 : Int32)] [(.int (4 : Int32)), (.int (((p1).toUInt32 >>> ((4 : Int32) &&& 31).toUInt32).toInt32))]))) (fun t k => ?_) ?_
          · show Steps p.tables e below (s₁.setTop (mkF m 51 #[vi p1, vi (31 : Int32)] [(.int (16 : Int32)), (.int p1)])) _
            refine XS.icmpNo X0.here hx rfl (hb hby d6_51) rfl ((flt hc51_4).1) ?_
            refine XS.iinc X0.here hx rfl (hb hby d6_54) rfl (l' := #[vi p1, vi (27 : Int32)]) rfl ?_
            refine XS.iloadN X0.here hx rfl (hb hby d6_57) rfl ?_
            refine XS.iconst X0.here hx rfl (hb hby d6_58) ?_
            refine XS.iushr X0.here hx rfl (hb hby d6_59) rfl ?_
            refine XS.istoreN X0.here hx rfl (hb hby d6_60) rfl (l' := #[vi (((p1).toUInt32 >>> ((4 : Int32) &&& 31).toUInt32).toInt32), vi (27 : Int32)]) rfl ?_
            show Steps p.tables e below (s₁.setTop (mkF m 61 #[vi (((p1).toUInt32 >>> ((4 : Int32) &&& 31).toUInt32).toInt32), vi (27 : Int32)] [])) _
            refine XS.iloadN X0.here hx rfl (hb hby d6_61) rfl ?_
            refine XS.iconst X0.here hx rfl (hb hby d6_62) ?_
            exact k
          by_cases hc63_6 : (((p1).toUInt32 >>> ((4 : Int32) &&& 31).toUInt32).toInt32) < (4 : Int32)
          · obtain ⟨fs, hr, hrun, hended, hW, hsame⟩ := X0.leave (v := some (.int ((27 : Int32) - ((((((p1).toUInt32 >>> ((4 : Int32) &&& 31).toUInt32).toInt32)).toUInt32 >>> ((1 : Int32) &&& 31).toUInt32).toInt32)))) (fun h => by rw [Bd.returns] at h; cases h)
            refine ⟨_, _, ?_, hrun, hended, _, _, rfl, ?_, ⟨_, rfl⟩, hW, hsame.mono (by decide) (by decide)⟩
            · show Steps p.tables e below (s₁.setTop (mkF m 63 #[vi (((p1).toUInt32 >>> ((4 : Int32) &&& 31).toUInt32).toInt32), vi (27 : Int32)] [(.int (4 : Int32)), (.int (((p1).toUInt32 >>> ((4 : Int32) &&& 31).toUInt32).toInt32))])) _
              refine XS.icmpYes X0.here hx rfl (pc0 := 63) (pc' := 73) rfl (hb hby d6_63) rfl ((tlt hc63_6).1) (by decide) (by decide) ?_
              refine XS.iloadN X0.here hx rfl (hb hby d6_73) rfl ?_
              refine XS.iloadN X0.here hx rfl (hb hby d6_74) rfl ?_
              refine XS.iconst X0.here hx rfl (hb hby d6_75) ?_
              refine XS.iushr X0.here hx rfl (hb hby d6_76) rfl ?_
              refine XS.isub X0.here hx rfl (hb hby d6_77) rfl ?_
              show Steps p.tables e below (s₁.setTop (mkF m 78 #[vi (((p1).toUInt32 >>> ((4 : Int32) &&& 31).toUInt32).toInt32), vi (27 : Int32)] [(.int ((27 : Int32) - ((((((p1).toUInt32 >>> ((4 : Int32) &&& 31).toUInt32).toInt32)).toUInt32 >>> ((1 : Int32) &&& 31).toUInt32).toInt32)))])) _
              exact retI X0 hx Bd.returns (hb hby d6_78) hr
            · show Qnlz Z p1 h0 n0 _ s₁.heap _
              exact ⟨(congrArg (fun z => some (Value.int z)) (by rw [own_nlz]; simp only [if_pos hc1_1, if_pos hc22_2, if_pos hc37_3, if_neg hc51_4, if_pos hc63_6])), N0, e0⟩
          · obtain ⟨fs, hr, hrun, hended, hW, hsame⟩ := X0.leave (v := some (.int ((25 : Int32) - (((((((((p1).toUInt32 >>> ((4 : Int32) &&& 31).toUInt32).toInt32)).toUInt32 >>> ((2 : Int32) &&& 31).toUInt32).toInt32)).toUInt32 >>> ((1 : Int32) &&& 31).toUInt32).toInt32)))) (fun h => by rw [Bd.returns] at h; cases h)
            refine ⟨_, _, ?_, hrun, hended, _, _, rfl, ?_, ⟨_, rfl⟩, hW, hsame.mono (by decide) (by decide)⟩
            · show Steps p.tables e below (s₁.setTop (mkF m 63 #[vi (((p1).toUInt32 >>> ((4 : Int32) &&& 31).toUInt32).toInt32), vi (27 : Int32)] [(.int (4 : Int32)), (.int (((p1).toUInt32 >>> ((4 : Int32) &&& 31).toUInt32).toInt32))])) _
              refine XS.icmpNo X0.here hx rfl (hb hby d6_63) rfl ((flt hc63_6).1) ?_
              refine XS.iinc X0.here hx rfl (hb hby d6_66) rfl (l' := #[vi (((p1).toUInt32 >>> ((4 : Int32) &&& 31).toUInt32).toInt32), vi (25 : Int32)]) rfl ?_
              refine XS.iloadN X0.here hx rfl (hb hby d6_69) rfl ?_
              refine XS.iconst X0.here hx rfl (hb hby d6_70) ?_
              refine XS.iushr X0.here hx rfl (hb hby d6_71) rfl ?_
              refine XS.istoreN X0.here hx rfl (hb hby d6_72) rfl (l' := #[vi ((((((p1).toUInt32 >>> ((4 : Int32) &&& 31).toUInt32).toInt32)).toUInt32 >>> ((2 : Int32) &&& 31).toUInt32).toInt32), vi (25 : Int32)]) rfl ?_
              show Steps p.tables e below (s₁.setTop (mkF m 73 #[vi ((((((p1).toUInt32 >>> ((4 : Int32) &&& 31).toUInt32).toInt32)).toUInt32 >>> ((2 : Int32) &&& 31).toUInt32).toInt32), vi (25 : Int32)] [])) _
              refine XS.iloadN X0.here hx rfl (hb hby d6_73) rfl ?_
              refine XS.iloadN X0.here hx rfl (hb hby d6_74) rfl ?_
              refine XS.iconst X0.here hx rfl (hb hby d6_75) ?_
              refine XS.iushr X0.here hx rfl (hb hby d6_76) rfl ?_
              refine XS.isub X0.here hx rfl (hb hby d6_77) rfl ?_
              exact retI X0 hx Bd.returns (hb hby d6_78) hr
            · show Qnlz Z p1 h0 n0 _ s₁.heap _
              exact ⟨(congrArg (fun z => some (Value.int z)) (by rw [own_nlz]; simp only [if_pos hc1_1, if_pos hc22_2, if_pos hc37_3, if_neg hc51_4, if_neg hc63_6])), N0, e0⟩
      · refine GoalS.lift (B := (s₁.setTop (mkF m 51 #[vi (((p1).toUInt32 >>> ((8 : Int32) &&& 31).toUInt32).toInt32), vi (23 : Int32)] [(.int (16 : Int32)), (.int (((p1).toUInt32 >>> ((8 : Int32) &&& 31).toUInt32).toInt32))]))) (fun t k => ?_) ?_
        · show Steps p.tables e below (s₁.setTop (mkF m 37 #[vi p1, vi (31 : Int32)] [(.int (256 : Int32)), (.int p1)])) _
          refine XS.icmpNo X0.here hx rfl (hb hby d6_37) rfl ((flt hc37_3).1) ?_
          refine XS.iinc X0.here hx rfl (hb hby d6_40) rfl (l' := #[vi p1, vi (23 : Int32)]) rfl ?_
          refine XS.iloadN X0.here hx rfl (hb hby d6_43) rfl ?_
          refine XS.bipush X0.here hx rfl (hb hby d6_44) ?_
          refine XS.iushr X0.here hx rfl (hb hby d6_46) rfl ?_
          refine XS.istoreN X0.here hx rfl (hb hby d6_47) rfl (l' := #[vi (((p1).toUInt32 >>> ((8 : Int32) &&& 31).toUInt32).toInt32), vi (23 : Int32)]) rfl ?_
          show Steps p.tables e below (s₁.setTop (mkF m 48 #[vi (((p1).toUInt32 >>> ((8 : Int32) &&& 31).toUInt32).toInt32), vi (23 : Int32)] [])) _
          refine XS.iloadN X0.here hx rfl (hb hby d6_48) rfl ?_
          refine XS.bipush X0.here hx rfl (hb hby d6_49) ?_
          exact k
        by_cases hc51_7 : (((p1).toUInt32 >>> ((8 : Int32) &&& 31).toUInt32).toInt32) < (16 : Int32)
        · refine GoalS.lift (B := (s₁.setTop (mkF m 63 #[vi (((p1).toUInt32 >>> ((8 : Int32) &&& 31).toUInt32).toInt32), vi (23 : Int32)] [(.int (4 : Int32)), (.int (((p1).toUInt32 >>> ((8 : Int32) &&& 31).toUInt32).toInt32))]))) (fun t k => ?_) ?_
          · show Steps p.tables e below (s₁.setTop (mkF m 51 #[vi (((p1).toUInt32 >>> ((8 : Int32) &&& 31).toUInt32).toInt32), vi (23 : Int32)] [(.int (16 : Int32)), (.int (((p1).toUInt32 >>> ((8 : Int32) &&& 31).toUInt32).toInt32))])) _
            refine XS.icmpYes X0.here hx rfl (pc0 := 51) (pc' := 61) rfl (hb hby d6_51) rfl ((tlt hc51_7).1) (by decide) (by decide) ?_
            refine XS.iloadN X0.here hx rfl (hb hby d6_61) rfl ?_
            refine XS.iconst X0.here hx rfl (hb hby d6_62) ?_
            exact k
          by_cases hc63_8 : (((p1).toUInt32 >>> ((8 : Int32) &&& 31).toUInt32).toInt32) < (4 : Int32)
          · obtain ⟨fs, hr, hrun, hended, hW, hsame⟩ := X0.leave (v := some (.int ((23 : Int32) - ((((((p1).toUInt32 >>> ((8 : Int32) &&& 31).toUInt32).toInt32)).toUInt32 >>> ((1 : Int32) &&& 31).toUInt32).toInt32)))) (fun h => by rw [Bd.returns] at h; cases h)
            refine ⟨_, _, ?_, hrun, hended, _, _, rfl, ?_, ⟨_, rfl⟩, hW, hsame.mono (by decide) (by decide)⟩
            · show Steps p.tables e below (s₁.setTop (mkF m 63 #[vi (((p1).toUInt32 >>> ((8 : Int32) &&& 31).toUInt32).toInt32), vi (23 : Int32)] [(.int (4 : Int32)), (.int (((p1).toUInt32 >>> ((8 : Int32) &&& 31).toUInt32).toInt32))])) _
              refine XS.icmpYes X0.here hx rfl (pc0 := 63) (pc' := 73) rfl (hb hby d6_63) rfl ((tlt hc63_8).1) (by decide) (by decide) ?_
              refine XS.iloadN X0.here hx rfl (hb hby d6_73) rfl ?_
              refine XS.iloadN X0.here hx rfl (hb hby d6_74) rfl ?_
              refine XS.iconst X0.here hx rfl (hb hby d6_75) ?_
              refine XS.iushr X0.here hx rfl (hb hby d6_76) rfl ?_
              refine XS.isub X0.here hx rfl (hb hby d6_77) rfl ?_
              show Steps p.tables e below (s₁.setTop (mkF m 78 #[vi (((p1).toUInt32 >>> ((8 : Int32) &&& 31).toUInt32).toInt32), vi (23 : Int32)] [(.int ((23 : Int32) - ((((((p1).toUInt32 >>> ((8 : Int32) &&& 31).toUInt32).toInt32)).toUInt32 >>> ((1 : Int32) &&& 31).toUInt32).toInt32)))])) _
              exact retI X0 hx Bd.returns (hb hby d6_78) hr
            · show Qnlz Z p1 h0 n0 _ s₁.heap _
              exact ⟨(congrArg (fun z => some (Value.int z)) (by rw [own_nlz]; simp only [if_pos hc1_1, if_pos hc22_2, if_neg hc37_3, if_pos hc51_7, if_pos hc63_8])), N0, e0⟩
          · obtain ⟨fs, hr, hrun, hended, hW, hsame⟩ := X0.leave (v := some (.int ((21 : Int32) - (((((((((p1).toUInt32 >>> ((8 : Int32) &&& 31).toUInt32).toInt32)).toUInt32 >>> ((2 : Int32) &&& 31).toUInt32).toInt32)).toUInt32 >>> ((1 : Int32) &&& 31).toUInt32).toInt32)))) (fun h => by rw [Bd.returns] at h; cases h)
            refine ⟨_, _, ?_, hrun, hended, _, _, rfl, ?_, ⟨_, rfl⟩, hW, hsame.mono (by decide) (by decide)⟩
            · show Steps p.tables e below (s₁.setTop (mkF m 63 #[vi (((p1).toUInt32 >>> ((8 : Int32) &&& 31).toUInt32).toInt32), vi (23 : Int32)] [(.int (4 : Int32)), (.int (((p1).toUInt32 >>> ((8 : Int32) &&& 31).toUInt32).toInt32))])) _
              refine XS.icmpNo X0.here hx rfl (hb hby d6_63) rfl ((flt hc63_8).1) ?_
              refine XS.iinc X0.here hx rfl (hb hby d6_66) rfl (l' := #[vi (((p1).toUInt32 >>> ((8 : Int32) &&& 31).toUInt32).toInt32), vi (21 : Int32)]) rfl ?_
              refine XS.iloadN X0.here hx rfl (hb hby d6_69) rfl ?_
              refine XS.iconst X0.here hx rfl (hb hby d6_70) ?_
              refine XS.iushr X0.here hx rfl (hb hby d6_71) rfl ?_
              refine XS.istoreN X0.here hx rfl (hb hby d6_72) rfl (l' := #[vi ((((((p1).toUInt32 >>> ((8 : Int32) &&& 31).toUInt32).toInt32)).toUInt32 >>> ((2 : Int32) &&& 31).toUInt32).toInt32), vi (21 : Int32)]) rfl ?_
              show Steps p.tables e below (s₁.setTop (mkF m 73 #[vi ((((((p1).toUInt32 >>> ((8 : Int32) &&& 31).toUInt32).toInt32)).toUInt32 >>> ((2 : Int32) &&& 31).toUInt32).toInt32), vi (21 : Int32)] [])) _
              refine XS.iloadN X0.here hx rfl (hb hby d6_73) rfl ?_
              refine XS.iloadN X0.here hx rfl (hb hby d6_74) rfl ?_
              refine XS.iconst X0.here hx rfl (hb hby d6_75) ?_
              refine XS.iushr X0.here hx rfl (hb hby d6_76) rfl ?_
              refine XS.isub X0.here hx rfl (hb hby d6_77) rfl ?_
              exact retI X0 hx Bd.returns (hb hby d6_78) hr
            · show Qnlz Z p1 h0 n0 _ s₁.heap _
              exact ⟨(congrArg (fun z => some (Value.int z)) (by rw [own_nlz]; simp only [if_pos hc1_1, if_pos hc22_2, if_neg hc37_3, if_pos hc51_7, if_neg hc63_8])), N0, e0⟩
        · refine GoalS.lift (B := (s₁.setTop (mkF m 63 #[vi ((((((p1).toUInt32 >>> ((8 : Int32) &&& 31).toUInt32).toInt32)).toUInt32 >>> ((4 : Int32) &&& 31).toUInt32).toInt32), vi (19 : Int32)] [(.int (4 : Int32)), (.int ((((((p1).toUInt32 >>> ((8 : Int32) &&& 31).toUInt32).toInt32)).toUInt32 >>> ((4 : Int32) &&& 31).toUInt32).toInt32))]))) (fun t k => ?_) ?_
          · show Steps p.tables e below (s₁.setTop (mkF m 51 #[vi (((p1).toUInt32 >>> ((8 : Int32) &&& 31).toUInt32).toInt32), vi (23 : Int32)] [(.int (16 : Int32)), (.int (((p1).toUInt32 >>> ((8 : Int32) &&& 31).toUInt32).toInt32))])) _
            refine XS.icmpNo X0.here hx rfl (hb hby d6_51) rfl ((flt hc51_7).1) ?_
            refine XS.iinc X0.here hx rfl (hb hby d6_54) rfl (l' := #[vi (((p1).toUInt32 >>> ((8 : Int32) &&& 31).toUInt32).toInt32), vi (19 : Int32)]) rfl ?_
            refine XS.iloadN X0.here hx rfl (hb hby d6_57) rfl ?_
            refine XS.iconst X0.here hx rfl (hb hby d6_58) ?_
            refine XS.iushr X0.here hx rfl (hb hby d6_59) rfl ?_
            refine XS.istoreN X0.here hx rfl (hb hby d6_60) rfl (l' := #[vi ((((((p1).toUInt32 >>> ((8 : Int32) &&& 31).toUInt32).toInt32)).toUInt32 >>> ((4 : Int32) &&& 31).toUInt32).toInt32), vi (19 : Int32)]) rfl ?_
            show Steps p.tables e below (s₁.setTop (mkF m 61 #[vi ((((((p1).toUInt32 >>> ((8 : Int32) &&& 31).toUInt32).toInt32)).toUInt32 >>> ((4 : Int32) &&& 31).toUInt32).toInt32), vi (19 : Int32)] [])) _
            refine XS.iloadN X0.here hx rfl (hb hby d6_61) rfl ?_
            refine XS.iconst X0.here hx rfl (hb hby d6_62) ?_
            exact k
          by_cases hc63_9 : ((((((p1).toUInt32 >>> ((8 : Int32) &&& 31).toUInt32).toInt32)).toUInt32 >>> ((4 : Int32) &&& 31).toUInt32).toInt32) < (4 : Int32)
          · obtain ⟨fs, hr, hrun, hended, hW, hsame⟩ := X0.leave (v := some (.int ((19 : Int32) - (((((((((p1).toUInt32 >>> ((8 : Int32) &&& 31).toUInt32).toInt32)).toUInt32 >>> ((4 : Int32) &&& 31).toUInt32).toInt32)).toUInt32 >>> ((1 : Int32) &&& 31).toUInt32).toInt32)))) (fun h => by rw [Bd.returns] at h; cases h)
            refine ⟨_, _, ?_, hrun, hended, _, _, rfl, ?_, ⟨_, rfl⟩, hW, hsame.mono (by decide) (by decide)⟩
            · show Steps p.tables e below (s₁.setTop (mkF m 63 #[vi ((((((p1).toUInt32 >>> ((8 : Int32) &&& 31).toUInt32).toInt32)).toUInt32 >>> ((4 : Int32) &&& 31).toUInt32).toInt32), vi (19 : Int32)] [(.int (4 : Int32)), (.int ((((((p1).toUInt32 >>> ((8 : Int32) &&& 31).toUInt32).toInt32)).toUInt32 >>> ((4 : Int32) &&& 31).toUInt32).toInt32))])) _
              refine XS.icmpYes X0.here hx rfl (pc0 := 63) (pc' := 73) rfl (hb hby d6_63) rfl ((tlt hc63_9).1) (by decide) (by decide) ?_
              refine XS.iloadN X0.here hx rfl (hb hby d6_73) rfl ?_
              refine XS.iloadN X0.here hx rfl (hb hby d6_74) rfl ?_
              refine XS.iconst X0.here hx rfl (hb hby d6_75) ?_
              refine XS.iushr X0.here hx rfl (hb hby d6_76) rfl ?_
              refine XS.isub X0.here hx rfl (hb hby d6_77) rfl ?_
              show Steps p.tables e below (s₁.setTop (mkF m 78 #[vi ((((((p1).toUInt32 >>> ((8 : Int32) &&& 31).toUInt32).toInt32)).toUInt32 >>> ((4 : Int32) &&& 31).toUInt32).toInt32), vi (19 : Int32)] [(.int ((19 : Int32) - (((((((((p1).toUInt32 >>> ((8 : Int32) &&& 31).toUInt32).toInt32)).toUInt32 >>> ((4 : Int32) &&& 31).toUInt32).toInt32)).toUInt32 >>> ((1 : Int32) &&& 31).toUInt32).toInt32)))])) _
              exact retI X0 hx Bd.returns (hb hby d6_78) hr
            · show Qnlz Z p1 h0 n0 _ s₁.heap _
              exact ⟨(congrArg (fun z => some (Value.int z)) (by rw [own_nlz]; simp only [if_pos hc1_1, if_pos hc22_2, if_neg hc37_3, if_neg hc51_7, if_pos hc63_9])), N0, e0⟩
          · obtain ⟨fs, hr, hrun, hended, hW, hsame⟩ := X0.leave (v := some (.int ((17 : Int32) - ((((((((((((p1).toUInt32 >>> ((8 : Int32) &&& 31).toUInt32).toInt32)).toUInt32 >>> ((4 : Int32) &&& 31).toUInt32).toInt32)).toUInt32 >>> ((2 : Int32) &&& 31).toUInt32).toInt32)).toUInt32 >>> ((1 : Int32) &&& 31).toUInt32).toInt32)))) (fun h => by rw [Bd.returns] at h; cases h)
            refine ⟨_, _, ?_, hrun, hended, _, _, rfl, ?_, ⟨_, rfl⟩, hW, hsame.mono (by decide) (by decide)⟩
            · show Steps p.tables e below (s₁.setTop (mkF m 63 #[vi ((((((p1).toUInt32 >>> ((8 : Int32) &&& 31).toUInt32).toInt32)).toUInt32 >>> ((4 : Int32) &&& 31).toUInt32).toInt32), vi (19 : Int32)] [(.int (4 : Int32)), (.int ((((((p1).toUInt32 >>> ((8 : Int32) &&& 31).toUInt32).toInt32)).toUInt32 >>> ((4 : Int32) &&& 31).toUInt32).toInt32))])) _
              refine XS.icmpNo X0.here hx rfl (hb hby d6_63) rfl ((flt hc63_9).1) ?_
              refine XS.iinc X0.here hx rfl (hb hby d6_66) rfl (l' := #[vi ((((((p1).toUInt32 >>> ((8 : Int32) &&& 31).toUInt32).toInt32)).toUInt32 >>> ((4 : Int32) &&& 31).toUInt32).toInt32), vi (17 : Int32)]) rfl ?_
              refine XS.iloadN X0.here hx rfl (hb hby d6_69) rfl ?_
              refine XS.iconst X0.here hx rfl (hb hby d6_70) ?_
              refine XS.iushr X0.here hx rfl (hb hby d6_71) rfl ?_
              refine XS.istoreN X0.here hx rfl (hb hby d6_72) rfl (l' := #[vi (((((((((p1).toUInt32 >>> ((8 : Int32) &&& 31).toUInt32).toInt32)).toUInt32 >>> ((4 : Int32) &&& 31).toUInt32).toInt32)).toUInt32 >>> ((2 : Int32) &&& 31).toUInt32).toInt32), vi (17 : Int32)]) rfl ?_
              show Steps p.tables e below (s₁.setTop (mkF m 73 #[vi (((((((((p1).toUInt32 >>> ((8 : Int32) &&& 31).toUInt32).toInt32)).toUInt32 >>> ((4 : Int32) &&& 31).toUInt32).toInt32)).toUInt32 >>> ((2 : Int32) &&& 31).toUInt32).toInt32), vi (17 : Int32)] [])) _
              refine XS.iloadN X0.here hx rfl (hb hby d6_73) rfl ?_
              refine XS.iloadN X0.here hx rfl (hb hby d6_74) rfl ?_
              refine XS.iconst X0.here hx rfl (hb hby d6_75) ?_
              refine XS.iushr X0.here hx rfl (hb hby d6_76) rfl ?_
              refine XS.isub X0.here hx rfl (hb hby d6_77) rfl ?_
              exact retI X0 hx Bd.returns (hb hby d6_78) hr
            · show Qnlz Z p1 h0 n0 _ s₁.heap _
              exact ⟨(congrArg (fun z => some (Value.int z)) (by rw [own_nlz]; simp only [if_pos hc1_1, if_pos hc22_2, if_neg hc37_3, if_neg hc51_7, if_neg hc63_9])), N0, e0⟩
    · refine GoalS.lift (B := (s₁.setTop (mkF m 37 #[vi (((p1).toUInt32 >>> ((16 : Int32) &&& 31).toUInt32).toInt32), vi (15 : Int32)] [(.int (256 : Int32)), (.int (((p1).toUInt32 >>> ((16 : Int32) &&& 31).toUInt32).toInt32))]))) (fun t k => ?_) ?_
      · show Steps p.tables e below (s₁.setTop (mkF m 22 #[vi p1, vi (31 : Int32)] [(.int (65536 : Int32)), (.int p1)])) _
        refine XS.icmpNo X0.here hx rfl (hb hby d6_22) rfl ((flt hc22_2).1) ?_
        refine XS.iinc X0.here hx rfl (hb hby d6_25) rfl (l' := #[vi p1, vi (15 : Int32)]) rfl ?_
        refine XS.iloadN X0.here hx rfl (hb hby d6_28) rfl ?_
        refine XS.bipush X0.here hx rfl (hb hby d6_29) ?_
        refine XS.iushr X0.here hx rfl (hb hby d6_31) rfl ?_
        refine XS.istoreN X0.here hx rfl (hb hby d6_32) rfl (l' := #[vi (((p1).toUInt32 >>> ((16 : Int32) &&& 31).toUInt32).toInt32), vi (15 : Int32)]) rfl ?_
        show Steps p.tables e below (s₁.setTop (mkF m 33 #[vi (((p1).toUInt32 >>> ((16 : Int32) &&& 31).toUInt32).toInt32), vi (15 : Int32)] [])) _
        refine XS.iloadN X0.here hx rfl (hb hby d6_33) rfl ?_
        refine XS.sipush X0.here hx rfl (hb hby d6_34) ?_
        exact k
      by_cases hc37_10 : (((p1).toUInt32 >>> ((16 : Int32) &&& 31).toUInt32).toInt32) < (256 : Int32)
      · refine GoalS.lift (B := (s₁.setTop (mkF m 51 #[vi (((p1).toUInt32 >>> ((16 : Int32) &&& 31).toUInt32).toInt32), vi (15 : Int32)] [(.int (16 : Int32)), (.int (((p1).toUInt32 >>> ((16 : Int32) &&& 31).toUInt32).toInt32))]))) (fun t k => ?_) ?_
        · show Steps p.tables e below (s₁.setTop (mkF m 37 #[vi (((p1).toUInt32 >>> ((16 : Int32) &&& 31).toUInt32).toInt32), vi (15 : Int32)] [(.int (256 : Int32)), (.int (((p1).toUInt32 >>> ((16 : Int32) &&& 31).toUInt32).toInt32))])) _
          refine XS.icmpYes X0.here hx rfl (pc0 := 37) (pc' := 48) rfl (hb hby d6_37) rfl ((tlt hc37_10).1) (by decide) (by decide) ?_
          refine XS.iloadN X0.here hx rfl (hb hby d6_48) rfl ?_
          refine XS.bipush X0.here hx rfl (hb hby d6_49) ?_
          exact k
        by_cases hc51_11 : (((p1).toUInt32 >>> ((16 : Int32) &&& 31).toUInt32).toInt32) < (16 : Int32)
        · refine GoalS.lift (B := (s₁.setTop (mkF m 63 #[vi (((p1).toUInt32 >>> ((16 : Int32) &&& 31).toUInt32).toInt32), vi (15 : Int32)] [(.int (4 : Int32)), (.int (((p1).toUInt32 >>> ((16 : Int32) &&& 31).toUInt32).toInt32))]))) (fun t k => ?_) ?_
          · show Steps p.tables e below (s₁.setTop (mkF m 51 #[vi (((p1).toUInt32 >>> ((16 : Int32) &&& 31).toUInt32).toInt32), vi (15 : Int32)] [(.int (16 : Int32)), (.int (((p1).toUInt32 >>> ((16 : Int32) &&& 31).toUInt32).toInt32))])) _
            refine XS.icmpYes X0.here hx rfl (pc0 := 51) (pc' := 61) rfl (hb hby d6_51) rfl ((tlt hc51_11).1) (by decide) (by decide) ?_
            refine XS.iloadN X0.here hx rfl (hb hby d6_61) rfl ?_
            refine XS.iconst X0.here hx rfl (hb hby d6_62) ?_
            exact k
          by_cases hc63_12 : (((p1).toUInt32 >>> ((16 : Int32) &&& 31).toUInt32).toInt32) < (4 : Int32)
          · obtain ⟨fs, hr, hrun, hended, hW, hsame⟩ := X0.leave (v := some (.int ((15 : Int32) - ((((((p1).toUInt32 >>> ((16 : Int32) &&& 31).toUInt32).toInt32)).toUInt32 >>> ((1 : Int32) &&& 31).toUInt32).toInt32)))) (fun h => by rw [Bd.returns] at h; cases h)
            refine ⟨_, _, ?_, hrun, hended, _, _, rfl, ?_, ⟨_, rfl⟩, hW, hsame.mono (by decide) (by decide)⟩
            · show Steps p.tables e below (s₁.setTop (mkF m 63 #[vi (((p1).toUInt32 >>> ((16 : Int32) &&& 31).toUInt32).toInt32), vi (15 : Int32)] [(.int (4 : Int32)), (.int (((p1).toUInt32 >>> ((16 : Int32) &&& 31).toUInt32).toInt32))])) _
              refine XS.icmpYes X0.here hx rfl (pc0 := 63) (pc' := 73) rfl (hb hby d6_63) rfl ((tlt hc63_12).1) (by decide) (by decide) ?_
              refine XS.iloadN X0.here hx rfl (hb hby d6_73) rfl ?_
              refine XS.iloadN X0.here hx rfl (hb hby d6_74) rfl ?_
              refine XS.iconst X0.here hx rfl (hb hby d6_75) ?_
              refine XS.iushr X0.here hx rfl (hb hby d6_76) rfl ?_
              refine XS.isub X0.here hx rfl (hb hby d6_77) rfl ?_
              show Steps p.tables e below (s₁.setTop (mkF m 78 #[vi (((p1).toUInt32 >>> ((16 : Int32) &&& 31).toUInt32).toInt32), vi (15 : Int32)] [(.int ((15 : Int32) - ((((((p1).toUInt32 >>> ((16 : Int32) &&& 31).toUInt32).toInt32)).toUInt32 >>> ((1 : Int32) &&& 31).toUInt32).toInt32)))])) _
              exact retI X0 hx Bd.returns (hb hby d6_78) hr
            · show Qnlz Z p1 h0 n0 _ s₁.heap _
              exact ⟨(congrArg (fun z => some (Value.int z)) (by rw [own_nlz]; simp only [if_pos hc1_1, if_neg hc22_2, if_pos hc37_10, if_pos hc51_11, if_pos hc63_12])), N0, e0⟩
          · obtain ⟨fs, hr, hrun, hended, hW, hsame⟩ := X0.leave (v := some (.int ((13 : Int32) - (((((((((p1).toUInt32 >>> ((16 : Int32) &&& 31).toUInt32).toInt32)).toUInt32 >>> ((2 : Int32) &&& 31).toUInt32).toInt32)).toUInt32 >>> ((1 : Int32) &&& 31).toUInt32).toInt32)))) (fun h => by rw [Bd.returns] at h; cases h)
            refine ⟨_, _, ?_, hrun, hended, _, _, rfl, ?_, ⟨_, rfl⟩, hW, hsame.mono (by decide) (by decide)⟩
            · show Steps p.tables e below (s₁.setTop (mkF m 63 #[vi (((p1).toUInt32 >>> ((16 : Int32) &&& 31).toUInt32).toInt32), vi (15 : Int32)] [(.int (4 : Int32)), (.int (((p1).toUInt32 >>> ((16 : Int32) &&& 31).toUInt32).toInt32))])) _
              refine XS.icmpNo X0.here hx rfl (hb hby d6_63) rfl ((flt hc63_12).1) ?_
              refine XS.iinc X0.here hx rfl (hb hby d6_66) rfl (l' := #[vi (((p1).toUInt32 >>> ((16 : Int32) &&& 31).toUInt32).toInt32), vi (13 : Int32)]) rfl ?_
              refine XS.iloadN X0.here hx rfl (hb hby d6_69) rfl ?_
              refine XS.iconst X0.here hx rfl (hb hby d6_70) ?_
              refine XS.iushr X0.here hx rfl (hb hby d6_71) rfl ?_
              refine XS.istoreN X0.here hx rfl (hb hby d6_72) rfl (l' := #[vi ((((((p1).toUInt32 >>> ((16 : Int32) &&& 31).toUInt32).toInt32)).toUInt32 >>> ((2 : Int32) &&& 31).toUInt32).toInt32), vi (13 : Int32)]) rfl ?_
              show Steps p.tables e below (s₁.setTop (mkF m 73 #[vi ((((((p1).toUInt32 >>> ((16 : Int32) &&& 31).toUInt32).toInt32)).toUInt32 >>> ((2 : Int32) &&& 31).toUInt32).toInt32), vi (13 : Int32)] [])) _
              refine XS.iloadN X0.here hx rfl (hb hby d6_73) rfl ?_
              refine XS.iloadN X0.here hx rfl (hb hby d6_74) rfl ?_
              refine XS.iconst X0.here hx rfl (hb hby d6_75) ?_
              refine XS.iushr X0.here hx rfl (hb hby d6_76) rfl ?_
              refine XS.isub X0.here hx rfl (hb hby d6_77) rfl ?_
              exact retI X0 hx Bd.returns (hb hby d6_78) hr
            · show Qnlz Z p1 h0 n0 _ s₁.heap _
              exact ⟨(congrArg (fun z => some (Value.int z)) (by rw [own_nlz]; simp only [if_pos hc1_1, if_neg hc22_2, if_pos hc37_10, if_pos hc51_11, if_neg hc63_12])), N0, e0⟩
        · refine GoalS.lift (B := (s₁.setTop (mkF m 63 #[vi ((((((p1).toUInt32 >>> ((16 : Int32) &&& 31).toUInt32).toInt32)).toUInt32 >>> ((4 : Int32) &&& 31).toUInt32).toInt32), vi (11 : Int32)] [(.int (4 : Int32)), (.int ((((((p1).toUInt32 >>> ((16 : Int32) &&& 31).toUInt32).toInt32)).toUInt32 >>> ((4 : Int32) &&& 31).toUInt32).toInt32))]))) (fun t k => ?_) ?_
          · show Steps p.tables e below (s₁.setTop (mkF m 51 #[vi (((p1).toUInt32 >>> ((16 : Int32) &&& 31).toUInt32).toInt32), vi (15 : Int32)] [(.int (16 : Int32)), (.int (((p1).toUInt32 >>> ((16 : Int32) &&& 31).toUInt32).toInt32))])) _
            refine XS.icmpNo X0.here hx rfl (hb hby d6_51) rfl ((flt hc51_11).1) ?_
            refine XS.iinc X0.here hx rfl (hb hby d6_54) rfl (l' := #[vi (((p1).toUInt32 >>> ((16 : Int32) &&& 31).toUInt32).toInt32), vi (11 : Int32)]) rfl ?_
            refine XS.iloadN X0.here hx rfl (hb hby d6_57) rfl ?_
            refine XS.iconst X0.here hx rfl (hb hby d6_58) ?_
            refine XS.iushr X0.here hx rfl (hb hby d6_59) rfl ?_
            refine XS.istoreN X0.here hx rfl (hb hby d6_60) rfl (l' := #[vi ((((((p1).toUInt32 >>> ((16 : Int32) &&& 31).toUInt32).toInt32)).toUInt32 >>> ((4 : Int32) &&& 31).toUInt32).toInt32), vi (11 : Int32)]) rfl ?_
            show Steps p.tables e below (s₁.setTop (mkF m 61 #[vi ((((((p1).toUInt32 >>> ((16 : Int32) &&& 31).toUInt32).toInt32)).toUInt32 >>> ((4 : Int32) &&& 31).toUInt32).toInt32), vi (11 : Int32)] [])) _
            refine XS.iloadN X0.here hx rfl (hb hby d6_61) rfl ?_
            refine XS.iconst X0.here hx rfl (hb hby d6_62) ?_
            exact k
          by_cases hc63_13 : ((((((p1).toUInt32 >>> ((16 : Int32) &&& 31).toUInt32).toInt32)).toUInt32 >>> ((4 : Int32) &&& 31).toUInt32).toInt32) < (4 : Int32)
          · obtain ⟨fs, hr, hrun, hended, hW, hsame⟩ := X0.leave (v := some (.int ((11 : Int32) - (((((((((p1).toUInt32 >>> ((16 : Int32) &&& 31).toUInt32).toInt32)).toUInt32 >>> ((4 : Int32) &&& 31).toUInt32).toInt32)).toUInt32 >>> ((1 : Int32) &&& 31).toUInt32).toInt32)))) (fun h => by rw [Bd.returns] at h; cases h)
            refine ⟨_, _, ?_, hrun, hended, _, _, rfl, ?_, ⟨_, rfl⟩, hW, hsame.mono (by decide) (by decide)⟩
            · show Steps p.tables e below (s₁.setTop (mkF m 63 #[vi ((((((p1).toUInt32 >>> ((16 : Int32) &&& 31).toUInt32).toInt32)).toUInt32 >>> ((4 : Int32) &&& 31).toUInt32).toInt32), vi (11 : Int32)] [(.int (4 : Int32)), (.int ((((((p1).toUInt32 >>> ((16 : Int32) &&& 31).toUInt32).toInt32)).toUInt32 >>> ((4 : Int32) &&& 31).toUInt32).toInt32))])) _
              refine XS.icmpYes X0.here hx rfl (pc0 := 63) (pc' := 73) rfl (hb hby d6_63) rfl ((tlt hc63_13).1) (by decide) (by decide) ?_
              refine XS.iloadN X0.here hx rfl (hb hby d6_73) rfl ?_
              refine XS.iloadN X0.here hx rfl (hb hby d6_74) rfl ?_
              refine XS.iconst X0.here hx rfl (hb hby d6_75) ?_
              refine XS.iushr X0.here hx rfl (hb hby d6_76) rfl ?_
              refine XS.isub X0.here hx rfl (hb hby d6_77) rfl ?_
              show Steps p.tables e below (s₁.setTop (mkF m 78 #[vi ((((((p1).toUInt32 >>> ((16 : Int32) &&& 31).toUInt32).toInt32)).toUInt32 >>> ((4 : Int32) &&& 31).toUInt32).toInt32), vi (11 : Int32)] [(.int ((11 : Int32) - (((((((((p1).toUInt32 >>> ((16 : Int32) &&& 31).toUInt32).toInt32)).toUInt32 >>> ((4 : Int32) &&& 31).toUInt32).toInt32)).toUInt32 >>> ((1 : Int32) &&& 31).toUInt32).toInt32)))])) _
              exact retI X0 hx Bd.returns (hb hby d6_78) hr
            · show Qnlz Z p1 h0 n0 _ s₁.heap _
              exact ⟨(congrArg (fun z => some (Value.int z)) (by rw [own_nlz]; simp only [if_pos hc1_1, if_neg hc22_2, if_pos hc37_10, if_neg hc51_11, if_pos hc63_13])), N0, e0⟩
          · obtain ⟨fs, hr, hrun, hended, hW, hsame⟩ := X0.leave (v := some (.int ((9 : Int32) - ((((((((((((p1).toUInt32 >>> ((16 : Int32) &&& 31).toUInt32).toInt32)).toUInt32 >>> ((4 : Int32) &&& 31).toUInt32).toInt32)).toUInt32 >>> ((2 : Int32) &&& 31).toUInt32).toInt32)).toUInt32 >>> ((1 : Int32) &&& 31).toUInt32).toInt32)))) (fun h => by rw [Bd.returns] at h; cases h)
            refine ⟨_, _, ?_, hrun, hended, _, _, rfl, ?_, ⟨_, rfl⟩, hW, hsame.mono (by decide) (by decide)⟩
            · show Steps p.tables e below (s₁.setTop (mkF m 63 #[vi ((((((p1).toUInt32 >>> ((16 : Int32) &&& 31).toUInt32).toInt32)).toUInt32 >>> ((4 : Int32) &&& 31).toUInt32).toInt32), vi (11 : Int32)] [(.int (4 : Int32)), (.int ((((((p1).toUInt32 >>> ((16 : Int32) &&& 31).toUInt32).toInt32)).toUInt32 >>> ((4 : Int32) &&& 31).toUInt32).toInt32))])) _
              refine XS.icmpNo X0.here hx rfl (hb hby d6_63) rfl ((flt hc63_13).1) ?_
              refine XS.iinc X0.here hx rfl (hb hby d6_66) rfl (l' := #[vi ((((((p1).toUInt32 >>> ((16 : Int32) &&& 31).toUInt32).toInt32)).toUInt32 >>> ((4 : Int32) &&& 31).toUInt32).toInt32), vi (9 : Int32)]) rfl ?_
              refine XS.iloadN X0.here hx rfl (hb hby d6_69) rfl ?_
              refine XS.iconst X0.here hx rfl (hb hby d6_70) ?_
              refine XS.iushr X0.here hx rfl (hb hby d6_71) rfl ?_
              refine XS.istoreN X0.here hx rfl (hb hby d6_72) rfl (l' := #[vi (((((((((p1).toUInt32 >>> ((16 : Int32) &&& 31).toUInt32).toInt32)).toUInt32 >>> ((4 : Int32) &&& 31).toUInt32).toInt32)).toUInt32 >>> ((2 : Int32) &&& 31).toUInt32).toInt32), vi (9 : Int32)]) rfl ?_
              show Steps p.tables e below (s₁.setTop (mkF m 73 #[vi (((((((((p1).toUInt32 >>> ((16 : Int32) &&& 31).toUInt32).toInt32)).toUInt32 >>> ((4 : Int32) &&& 31).toUInt32).toInt32)).toUInt32 >>> ((2 : Int32) &&& 31).toUInt32).toInt32), vi (9 : Int32)] [])) _
              refine XS.iloadN X0.here hx rfl (hb hby d6_73) rfl ?_
              refine XS.iloadN X0.here hx rfl (hb hby d6_74) rfl ?_
              refine XS.iconst X0.here hx rfl (hb hby d6_75) ?_
              refine XS.iushr X0.here hx rfl (hb hby d6_76) rfl ?_
              refine XS.isub X0.here hx rfl (hb hby d6_77) rfl ?_
              exact retI X0 hx Bd.returns (hb hby d6_78) hr
            · show Qnlz Z p1 h0 n0 _ s₁.heap _
              exact ⟨(congrArg (fun z => some (Value.int z)) (by rw [own_nlz]; simp only [if_pos hc1_1, if_neg hc22_2, if_pos hc37_10, if_neg hc51_11, if_neg hc63_13])), N0, e0⟩
      · refine GoalS.lift (B := (s₁.setTop (mkF m 51 #[vi ((((((p1).toUInt32 >>> ((16 : Int32) &&& 31).toUInt32).toInt32)).toUInt32 >>> ((8 : Int32) &&& 31).toUInt32).toInt32), vi (7 : Int32)] [(.int (16 : Int32)), (.int ((((((p1).toUInt32 >>> ((16 : Int32) &&& 31).toUInt32).toInt32)).toUInt32 >>> ((8 : Int32) &&& 31).toUInt32).toInt32))]))) (fun t k => ?_) ?_
        · show Steps p.tables e below (s₁.setTop (mkF m 37 #[vi (((p1).toUInt32 >>> ((16 : Int32) &&& 31).toUInt32).toInt32), vi (15 : Int32)] [(.int (256 : Int32)), (.int (((p1).toUInt32 >>> ((16 : Int32) &&& 31).toUInt32).toInt32))])) _
          refine XS.icmpNo X0.here hx rfl (hb hby d6_37) rfl ((flt hc37_10).1) ?_
          refine XS.iinc X0.here hx rfl (hb hby d6_40) rfl (l' := #[vi (((p1).toUInt32 >>> ((16 : Int32) &&& 31).toUInt32).toInt32), vi (7 : Int32)]) rfl ?_
          refine XS.iloadN X0.here hx rfl (hb hby d6_43) rfl ?_
          refine XS.bipush X0.here hx rfl (hb hby d6_44) ?_
          refine XS.iushr X0.here hx rfl (hb hby d6_46) rfl ?_
          refine XS.istoreN X0.here hx rfl (hb hby d6_47) rfl (l' := #[vi ((((((p1).toUInt32 >>> ((16 : Int32) &&& 31).toUInt32).toInt32)).toUInt32 >>> ((8 : Int32) &&& 31).toUInt32).toInt32), vi (7 : Int32)]) rfl ?_
          show Steps p.tables e below (s₁.setTop (mkF m 48 #[vi ((((((p1).toUInt32 >>> ((16 : Int32) &&& 31).toUInt32).toInt32)).toUInt32 >>> ((8 : Int32) &&& 31).toUInt32).toInt32), vi (7 : Int32)] [])) _
          refine XS.iloadN X0.here hx rfl (hb hby d6_48) rfl ?_
          refine XS.bipush X0.here hx rfl (hb hby d6_49) ?_
          exact k
        by_cases hc51_14 : ((((((p1).toUInt32 >>> ((16 : Int32) &&& 31).toUInt32).toInt32)).toUInt32 >>> ((8 : Int32) &&& 31).toUInt32).toInt32) < (16 : Int32)
        · refine GoalS.lift (B := (s₁.setTop (mkF m 63 #[vi ((((((p1).toUInt32 >>> ((16 : Int32) &&& 31).toUInt32).toInt32)).toUInt32 >>> ((8 : Int32) &&& 31).toUInt32).toInt32), vi (7 : Int32)] [(.int (4 : Int32)), (.int ((((((p1).toUInt32 >>> ((16 : Int32) &&& 31).toUInt32).toInt32)).toUInt32 >>> ((8 : Int32) &&& 31).toUInt32).toInt32))]))) (fun t k => ?_) ?_
          · show Steps p.tables e below (s₁.setTop (mkF m 51 #[vi ((((((p1).toUInt32 >>> ((16 : Int32) &&& 31).toUInt32).toInt32)).toUInt32 >>> ((8 : Int32) &&& 31).toUInt32).toInt32), vi (7 : Int32)] [(.int (16 : Int32)), (.int ((((((p1).toUInt32 >>> ((16 : Int32) &&& 31).toUInt32).toInt32)).toUInt32 >>> ((8 : Int32) &&& 31).toUInt32).toInt32))])) _
            refine XS.icmpYes X0.here hx rfl (pc0 := 51) (pc' := 61) rfl (hb hby d6_51) rfl ((tlt hc51_14).1) (by decide) (by decide) ?_
            refine XS.iloadN X0.here hx rfl (hb hby d6_61) rfl ?_
            refine XS.iconst X0.here hx rfl (hb hby d6_62) ?_
            exact k
          by_cases hc63_15 : ((((((p1).toUInt32 >>> ((16 : Int32) &&& 31).toUInt32).toInt32)).toUInt32 >>> ((8 : Int32) &&& 31).toUInt32).toInt32) < (4 : Int32)
          · obtain ⟨fs, hr, hrun, hended, hW, hsame⟩ := X0.leave (v := some (.int ((7 : Int32) - (((((((((p1).toUInt32 >>> ((16 : Int32) &&& 31).toUInt32).toInt32)).toUInt32 >>> ((8 : Int32) &&& 31).toUInt32).toInt32)).toUInt32 >>> ((1 : Int32) &&& 31).toUInt32).toInt32)))) (fun h => by rw [Bd.returns] at h; cases h)
            refine ⟨_, _, ?_, hrun, hended, _, _, rfl, ?_, ⟨_, rfl⟩, hW, hsame.mono (by decide) (by decide)⟩
            · show Steps p.tables e below (s₁.setTop (mkF m 63 #[vi ((((((p1).toUInt32 >>> ((16 : Int32) &&& 31).toUInt32).toInt32)).toUInt32 >>> ((8 : Int32) &&& 31).toUInt32).toInt32), vi (7 : Int32)] [(.int (4 : Int32)), (.int ((((((p1).toUInt32 >>> ((16 : Int32) &&& 31).toUInt32).toInt32)).toUInt32 >>> ((8 : Int32) &&& 31).toUInt32).toInt32))])) _
              refine XS.icmpYes X0.here hx rfl (pc0 := 63) (pc' := 73) rfl (hb hby d6_63) rfl ((tlt hc63_15).1) (by decide) (by decide) ?_
              refine XS.iloadN X0.here hx rfl (hb hby d6_73) rfl ?_
              refine XS.iloadN X0.here hx rfl (hb hby d6_74) rfl ?_
              refine XS.iconst X0.here hx rfl (hb hby d6_75) ?_
              refine XS.iushr X0.here hx rfl (hb hby d6_76) rfl ?_
              refine XS.isub X0.here hx rfl (hb hby d6_77) rfl ?_
              show Steps p.tables e below (s₁.setTop (mkF m 78 #[vi ((((((p1).toUInt32 >>> ((16 : Int32) &&& 31).toUInt32).toInt32)).toUInt32 >>> ((8 : Int32) &&& 31).toUInt32).toInt32), vi (7 : Int32)] [(.int ((7 : Int32) - (((((((((p1).toUInt32 >>> ((16 : Int32) &&& 31).toUInt32).toInt32)).toUInt32 >>> ((8 : Int32) &&& 31).toUInt32).toInt32)).toUInt32 >>> ((1 : Int32) &&& 31).toUInt32).toInt32)))])) _
              exact retI X0 hx Bd.returns (hb hby d6_78) hr
            · show Qnlz Z p1 h0 n0 _ s₁.heap _
              exact ⟨(congrArg (fun z => some (Value.int z)) (by rw [own_nlz]; simp only [if_pos hc1_1, if_neg hc22_2, if_neg hc37_10, if_pos hc51_14, if_pos hc63_15])), N0, e0⟩
          · obtain ⟨fs, hr, hrun, hended, hW, hsame⟩ := X0.leave (v := some (.int ((5 : Int32) - ((((((((((((p1).toUInt32 >>> ((16 : Int32) &&& 31).toUInt32).toInt32)).toUInt32 >>> ((8 : Int32) &&& 31).toUInt32).toInt32)).toUInt32 >>> ((2 : Int32) &&& 31).toUInt32).toInt32)).toUInt32 >>> ((1 : Int32) &&& 31).toUInt32).toInt32)))) (fun h => by rw [Bd.returns] at h; cases h)
            refine ⟨_, _, ?_, hrun, hended, _, _, rfl, ?_, ⟨_, rfl⟩, hW, hsame.mono (by decide) (by decide)⟩
            · show Steps p.tables e below (s₁.setTop (mkF m 63 #[vi ((((((p1).toUInt32 >>> ((16 : Int32) &&& 31).toUInt32).toInt32)).toUInt32 >>> ((8 : Int32) &&& 31).toUInt32).toInt32), vi (7 : Int32)] [(.int (4 : Int32)), (.int ((((((p1).toUInt32 >>> ((16 : Int32) &&& 31).toUInt32).toInt32)).toUInt32 >>> ((8 : Int32) &&& 31).toUInt32).toInt32))])) _
              refine XS.icmpNo X0.here hx rfl (hb hby d6_63) rfl ((flt hc63_15).1) ?_
              refine XS.iinc X0.here hx rfl (hb hby d6_66) rfl (l' := #[vi ((((((p1).toUInt32 >>> ((16 : Int32) &&& 31).toUInt32).toInt32)).toUInt32 >>> ((8 : Int32) &&& 31).toUInt32).toInt32), vi (5 : Int32)]) rfl ?_
              refine XS.iloadN X0.here hx rfl (hb hby d6_69) rfl ?_
              refine XS.iconst X0.here hx rfl (hb hby d6_70) ?_
              refine XS.iushr X0.here hx rfl (hb hby d6_71) rfl ?_
              refine XS.istoreN X0.here hx rfl (hb hby d6_72) rfl (l' := #[vi (((((((((p1).toUInt32 >>> ((16 : Int32) &&& 31).toUInt32).toInt32)).toUInt32 >>> ((8 : Int32) &&& 31).toUInt32).toInt32)).toUInt32 >>> ((2 : Int32) &&& 31).toUInt32).toInt32), vi (5 : Int32)]) rfl ?_
              show Steps p.tables e below (s₁.setTop (mkF m 73 #[vi (((((((((p1).toUInt32 >>> ((16 : Int32) &&& 31).toUInt32).toInt32)).toUInt32 >>> ((8 : Int32) &&& 31).toUInt32).toInt32)).toUInt32 >>> ((2 : Int32) &&& 31).toUInt32).toInt32), vi (5 : Int32)] [])) _
              refine XS.iloadN X0.here hx rfl (hb hby d6_73) rfl ?_
              refine XS.iloadN X0.here hx rfl (hb hby d6_74) rfl ?_
              refine XS.iconst X0.here hx rfl (hb hby d6_75) ?_
              refine XS.iushr X0.here hx rfl (hb hby d6_76) rfl ?_
              refine XS.isub X0.here hx rfl (hb hby d6_77) rfl ?_
              exact retI X0 hx Bd.returns (hb hby d6_78) hr
            · show Qnlz Z p1 h0 n0 _ s₁.heap _
              exact ⟨(congrArg (fun z => some (Value.int z)) (by rw [own_nlz]; simp only [if_pos hc1_1, if_neg hc22_2, if_neg hc37_10, if_pos hc51_14, if_neg hc63_15])), N0, e0⟩
        · refine GoalS.lift (B := (s₁.setTop (mkF m 63 #[vi (((((((((p1).toUInt32 >>> ((16 : Int32) &&& 31).toUInt32).toInt32)).toUInt32 >>> ((8 : Int32) &&& 31).toUInt32).toInt32)).toUInt32 >>> ((4 : Int32) &&& 31).toUInt32).toInt32), vi (3 : Int32)] [(.int (4 : Int32)), (.int (((((((((p1).toUInt32 >>> ((16 : Int32) &&& 31).toUInt32).toInt32)).toUInt32 >>> ((8 : Int32) &&& 31).toUInt32).toInt32)).toUInt32 >>> ((4 : Int32) &&& 31).toUInt32).toInt32))]))) (fun t k => ?_) ?_
          · show Steps p.tables e below (s₁.setTop (mkF m 51 #[vi ((((((p1).toUInt32 >>> ((16 : Int32) &&& 31).toUInt32).toInt32)).toUInt32 >>> ((8 : Int32) &&& 31).toUInt32).toInt32), vi (7 : Int32)] [(.int (16 : Int32)), (.int ((((((p1).toUInt32 >>> ((16 : Int32) &&& 31).toUInt32).toInt32)).toUInt32 >>> ((8 : Int32) &&& 31).toUInt32).toInt32))])) _
            refine XS.icmpNo X0.here hx rfl (hb hby d6_51) rfl ((flt hc51_14).1) ?_
            refine XS.iinc X0.here hx rfl (hb hby d6_54) rfl (l' := #[vi ((((((p1).toUInt32 >>> ((16 : Int32) &&& 31).toUInt32).toInt32)).toUInt32 >>> ((8 : Int32) &&& 31).toUInt32).toInt32), vi (3 : Int32)]) rfl ?_
            refine XS.iloadN X0.here hx rfl (hb hby d6_57) rfl ?_
            refine XS.iconst X0.here hx rfl (hb hby d6_58) ?_
            refine XS.iushr X0.here hx rfl (hb hby d6_59) rfl ?_
            refine XS.istoreN X0.here hx rfl (hb hby d6_60) rfl (l' := #[vi (((((((((p1).toUInt32 >>> ((16 : Int32) &&& 31).toUInt32).toInt32)).toUInt32 >>> ((8 : Int32) &&& 31).toUInt32).toInt32)).toUInt32 >>> ((4 : Int32) &&& 31).toUInt32).toInt32), vi (3 : Int32)]) rfl ?_
            show Steps p.tables e below (s₁.setTop (mkF m 61 #[vi (((((((((p1).toUInt32 >>> ((16 : Int32) &&& 31).toUInt32).toInt32)).toUInt32 >>> ((8 : Int32) &&& 31).toUInt32).toInt32)).toUInt32 >>> ((4 : Int32) &&& 31).toUInt32).toInt32), vi (3 : Int32)] [])) _
            refine XS.iloadN X0.here hx rfl (hb hby d6_61) rfl ?_
            refine XS.iconst X0.here hx rfl (hb hby d6_62) ?_
            exact k
          by_cases hc63_16 : (((((((((p1).toUInt32 >>> ((16 : Int32) &&& 31).toUInt32).toInt32)).toUInt32 >>> ((8 : Int32) &&& 31).toUInt32).toInt32)).toUInt32 >>> ((4 : Int32) &&& 31).toUInt32).toInt32) < (4 : Int32)
          · obtain ⟨fs, hr, hrun, hended, hW, hsame⟩ := X0.leave (v := some (.int ((3 : Int32) - ((((((((((((p1).toUInt32 >>> ((16 : Int32) &&& 31).toUInt32).toInt32)).toUInt32 >>> ((8 : Int32) &&& 31).toUInt32).toInt32)).toUInt32 >>> ((4 : Int32) &&& 31).toUInt32).toInt32)).toUInt32 >>> ((1 : Int32) &&& 31).toUInt32).toInt32)))) (fun h => by rw [Bd.returns] at h; cases h)
            refine ⟨_, _, ?_, hrun, hended, _, _, rfl, ?_, ⟨_, rfl⟩, hW, hsame.mono (by decide) (by decide)⟩
            · show Steps p.tables e below (s₁.setTop (mkF m 63 #[vi (((((((((p1).toUInt32 >>> ((16 : Int32) &&& 31).toUInt32).toInt32)).toUInt32 >>> ((8 : Int32) &&& 31).toUInt32).toInt32)).toUInt32 >>> ((4 : Int32) &&& 31).toUInt32).toInt32), vi (3 : Int32)] [(.int (4 : Int32)), (.int (((((((((p1).toUInt32 >>> ((16 : Int32) &&& 31).toUInt32).toInt32)).toUInt32 >>> ((8 : Int32) &&& 31).toUInt32).toInt32)).toUInt32 >>> ((4 : Int32) &&& 31).toUInt32).toInt32))])) _
              refine XS.icmpYes X0.here hx rfl (pc0 := 63) (pc' := 73) rfl (hb hby d6_63) rfl ((tlt hc63_16).1) (by decide) (by decide) ?_
              refine XS.iloadN X0.here hx rfl (hb hby d6_73) rfl ?_
              refine XS.iloadN X0.here hx rfl (hb hby d6_74) rfl ?_
              refine XS.iconst X0.here hx rfl (hb hby d6_75) ?_
              refine XS.iushr X0.here hx rfl (hb hby d6_76) rfl ?_
              refine XS.isub X0.here hx rfl (hb hby d6_77) rfl ?_
              show Steps p.tables e below (s₁.setTop (mkF m 78 #[vi (((((((((p1).toUInt32 >>> ((16 : Int32) &&& 31).toUInt32).toInt32)).toUInt32 >>> ((8 : Int32) &&& 31).toUInt32).toInt32)).toUInt32 >>> ((4 : Int32) &&& 31).toUInt32).toInt32), vi (3 : Int32)] [(.int ((3 : Int32) - ((((((((((((p1).toUInt32 >>> ((16 : Int32) &&& 31).toUInt32).toInt32)).toUInt32 >>> ((8 : Int32) &&& 31).toUInt32).toInt32)).toUInt32 >>> ((4 : Int32) &&& 31).toUInt32).toInt32)).toUInt32 >>> ((1 : Int32) &&& 31).toUInt32).toInt32)))])) _
              exact retI X0 hx Bd.returns (hb hby d6_78) hr
            · show Qnlz Z p1 h0 n0 _ s₁.heap _
              exact ⟨(congrArg (fun z => some (Value.int z)) (by rw [own_nlz]; simp only [if_pos hc1_1, if_neg hc22_2, if_neg hc37_10, if_neg hc51_14, if_pos hc63_16])), N0, e0⟩
          · obtain ⟨fs, hr, hrun, hended, hW, hsame⟩ := X0.leave (v := some (.int ((1 : Int32) - (((((((((((((((p1).toUInt32 >>> ((16 : Int32) &&& 31).toUInt32).toInt32)).toUInt32 >>> ((8 : Int32) &&& 31).toUInt32).toInt32)).toUInt32 >>> ((4 : Int32) &&& 31).toUInt32).toInt32)).toUInt32 >>> ((2 : Int32) &&& 31).toUInt32).toInt32)).toUInt32 >>> ((1 : Int32) &&& 31).toUInt32).toInt32)))) (fun h => by rw [Bd.returns] at h; cases h)
            refine ⟨_, _, ?_, hrun, hended, _, _, rfl, ?_, ⟨_, rfl⟩, hW, hsame.mono (by decide) (by decide)⟩
            · show Steps p.tables e below (s₁.setTop (mkF m 63 #[vi (((((((((p1).toUInt32 >>> ((16 : Int32) &&& 31).toUInt32).toInt32)).toUInt32 >>> ((8 : Int32) &&& 31).toUInt32).toInt32)).toUInt32 >>> ((4 : Int32) &&& 31).toUInt32).toInt32), vi (3 : Int32)] [(.int (4 : Int32)), (.int (((((((((p1).toUInt32 >>> ((16 : Int32) &&& 31).toUInt32).toInt32)).toUInt32 >>> ((8 : Int32) &&& 31).toUInt32).toInt32)).toUInt32 >>> ((4 : Int32) &&& 31).toUInt32).toInt32))])) _
              refine XS.icmpNo X0.here hx rfl (hb hby d6_63) rfl ((flt hc63_16).1) ?_
              refine XS.iinc X0.here hx rfl (hb hby d6_66) rfl (l' := #[vi (((((((((p1).toUInt32 >>> ((16 : Int32) &&& 31).toUInt32).toInt32)).toUInt32 >>> ((8 : Int32) &&& 31).toUInt32).toInt32)).toUInt32 >>> ((4 : Int32) &&& 31).toUInt32).toInt32), vi (1 : Int32)]) rfl ?_
              refine XS.iloadN X0.here hx rfl (hb hby d6_69) rfl ?_
              refine XS.iconst X0.here hx rfl (hb hby d6_70) ?_
              refine XS.iushr X0.here hx rfl (hb hby d6_71) rfl ?_
              refine XS.istoreN X0.here hx rfl (hb hby d6_72) rfl (l' := #[vi ((((((((((((p1).toUInt32 >>> ((16 : Int32) &&& 31).toUInt32).toInt32)).toUInt32 >>> ((8 : Int32) &&& 31).toUInt32).toInt32)).toUInt32 >>> ((4 : Int32) &&& 31).toUInt32).toInt32)).toUInt32 >>> ((2 : Int32) &&& 31).toUInt32).toInt32), vi (1 : Int32)]) rfl ?_
              show Steps p.tables e below (s₁.setTop (mkF m 73 #[vi ((((((((((((p1).toUInt32 >>> ((16 : Int32) &&& 31).toUInt32).toInt32)).toUInt32 >>> ((8 : Int32) &&& 31).toUInt32).toInt32)).toUInt32 >>> ((4 : Int32) &&& 31).toUInt32).toInt32)).toUInt32 >>> ((2 : Int32) &&& 31).toUInt32).toInt32), vi (1 : Int32)] [])) _
              refine XS.iloadN X0.here hx rfl (hb hby d6_73) rfl ?_
              refine XS.iloadN X0.here hx rfl (hb hby d6_74) rfl ?_
              refine XS.iconst X0.here hx rfl (hb hby d6_75) ?_
              refine XS.iushr X0.here hx rfl (hb hby d6_76) rfl ?_
              refine XS.isub X0.here hx rfl (hb hby d6_77) rfl ?_
              exact retI X0 hx Bd.returns (hb hby d6_78) hr
            · show Qnlz Z p1 h0 n0 _ s₁.heap _
              exact ⟨(congrArg (fun z => some (Value.int z)) (by rw [own_nlz]; simp only [if_pos hc1_1, if_neg hc22_2, if_neg hc37_10, if_neg hc51_14, if_neg hc63_16])), N0, e0⟩
  · refine GoalS.lift (B := (s₁.setTop (mkF m 5 #[vi p1, .unset] [(.int p1)]))) (fun t k => ?_) ?_
    · show Steps p.tables e below (s₁.setTop (mkF m 1 #[vi p1, .unset] [(.int p1)])) _
      refine XS.ifNo X0.here hx rfl (hb hby d6_1) rfl ((if0 _ _).trans (flt hc1_1).2.2.1) ?_
      refine XS.iloadN X0.here hx rfl (hb hby d6_4) rfl ?_
      exact k
    by_cases hc5_17 : p1 = (0 : Int32)
    · obtain ⟨fs, hr, hrun, hended, hW, hsame⟩ := X0.leave (v := some (.int (32 : Int32))) (fun h => by rw [Bd.returns] at h; cases h)
      refine ⟨_, _, ?_, hrun, hended, _, _, rfl, ?_, ⟨_, rfl⟩, hW, hsame.mono (by decide) (by decide)⟩
      · show Steps p.tables e below (s₁.setTop (mkF m 5 #[vi p1, .unset] [(.int p1)])) _
        refine XS.ifNo X0.here hx rfl (hb hby d6_5) rfl ((if0 _ _).trans (teq hc5_17).2) ?_
        refine XS.bipush X0.here hx rfl (hb hby d6_8) ?_
        refine XS.goto X0.here hx rfl (pc0 := 10) (pc' := 14) rfl (hb hby d6_10) (by decide) (by decide) ?_
        exact retI X0 hx Bd.returns (hb hby d6_14) hr
      · show Qnlz Z p1 h0 n0 _ s₁.heap _
        exact ⟨(congrArg (fun z => some (Value.int z)) (by rw [own_nlz]; simp only [if_neg hc1_1, if_pos hc5_17])), N0, e0⟩
    · obtain ⟨fs, hr, hrun, hended, hW, hsame⟩ := X0.leave (v := some (.int (0 : Int32))) (fun h => by rw [Bd.returns] at h; cases h)
      refine ⟨_, _, ?_, hrun, hended, _, _, rfl, ?_, ⟨_, rfl⟩, hW, hsame.mono (by decide) (by decide)⟩
      · show Steps p.tables e below (s₁.setTop (mkF m 5 #[vi p1, .unset] [(.int p1)])) _
        refine XS.ifYes X0.here hx rfl (pc0 := 5) (pc' := 13) rfl (hb hby d6_5) rfl ((if0 _ _).trans (feq hc5_17).2) (by decide) (by decide) ?_
        refine XS.iconst X0.here hx rfl (hb hby d6_13) ?_
        exact retI X0 hx Bd.returns (hb hby d6_14) hr
      · show Qnlz Z p1 h0 n0 _ s₁.heap _
        exact ⟨(congrArg (fun z => some (Value.int z)) (by rw [own_nlz]; simp only [if_neg hc1_1, if_neg hc5_17])), N0, e0⟩
theorem d3_0 : decode prog_21_method_12_code 0 = .ok (.bipush 64, 2) := by decide +kernel
theorem d3_2 : decode prog_21_method_12_code 2 = .ok (.iload_n 1, 1) := by decide +kernel
theorem d3_3 : decode prog_21_method_12_code 3 = .ok (.idiv, 1) := by decide +kernel
theorem d3_4 : decode prog_21_method_12_code 4 = .ok (.istore_n 2, 1) := by decide +kernel
theorem d3_5 : decode prog_21_method_12_code 5 = .ok (.iconst 1, 1) := by decide +kernel
theorem d3_6 : decode prog_21_method_12_code 6 = .ok (.iload_n 0, 1) := by decide +kernel
theorem d3_7 : decode prog_21_method_12_code 7 = .ok (.iload_n 2, 1) := by decide +kernel
theorem d3_8 : decode prog_21_method_12_code 8 = .ok (.iadd, 1) := by decide +kernel
theorem d3_9 : decode prog_21_method_12_code 9 = .ok (.iconst 1, 1) := by decide +kernel
theorem d3_10 : decode prog_21_method_12_code 10 = .ok (.isub, 1) := by decide +kernel
theorem d3_11 : decode prog_21_method_12_code 11 = .ok (.iload_n 2, 1) := by decide +kernel
theorem d3_12 : decode prog_21_method_12_code 12 = .ok (.idiv, 1) := by decide +kernel
theorem d3_13 : decode prog_21_method_12_code 13 = .ok (.invokestatic 43, 3) := by decide +kernel
theorem d3_16 : decode prog_21_method_12_code 16 = .ok (.ireturn, 1) := by decide +kernel
theorem pn_1 : plainName "com/example/always_over_paths/alwaysoverpaths/explicit/MarkingTable" = true := by first | (simp [plainName, overriddenIn]; done) | decide +kernel
theorem pd_0 : parseMethodDescriptor "(II)I" = some ⟨[.int, .int], some .int⟩ := by decide +kernel
theorem ef_rmwf (m : MethodId) (p2 : Int32) : entryFrame m #[(.int (3 : Int32)), (.int p2)] 3 = mkF m 0 #[vi (3 : Int32), vi p2, .unset] [] := by first | (simp [entryFrame, mkF, argsToLocals, Value.category]; done) | rfl
def Qwf (Z : State) (p2 : Int32) (h0 : Heap) (n0 : Nat) (v : Option Value) (h : Heap) (L : List Loc) : Prop := v = some (.int (own_W p2)) ∧ Fr n0 L ∧ h = h0
set_option maxRecDepth 65536 in
set_option maxHeartbeats 40000000 in
theorem rmwf (l : Launch) (Z : State) (a0 : Array Value) (hw : ∀ d ∈ tables_1, d.before a0 Z = true) (ws : List Jvm.Cond) (p2 : Int32) (h0 : Heap) (n0 : Nat) (Z0 : n0 ≤ h0.size) (hB : own_B p2) :
    MetFree l (⟨"com/example/always_over_paths/alwaysoverpaths/explicit/MarkingTable", "wordsFor", "(II)I"⟩ : MethodName) (head1 (Jvm.Cond.code (⟨"com/example/always_over_paths/alwaysoverpaths/explicit/MarkingTable", "wordsFor", "(II)I"⟩ : MethodName) prog_21_method_12_code 3 (some .int) :: ws) ({ frames := 1, cells := 0, slots := 0, locals := 13 } : Room)) (fun a U => a = #[(.int (3 : Int32)), (.int p2)] ∧ Z.Warmed39 U.vm ∧ U.heap = h0) (fun _ _ _ _ _ => True) (fun _ U o U' => ∃ v L, o = .returned v ∧ Qwf Z p2 h0 n0 v U'.heap L ∧ FrameEnd U o U' L ({ frames := 1, cells := 0, slots := 0, locals := 13 } : Room).cells ({ frames := 1, cells := 0, slots := 0, locals := 13 } : Room).slots) := by
  refine MetFree.of_bodySF (plainFor_of_name pn_1) hisR ?_
  intro p e s m args below meth c s₁ Bd hml0 hP hK
  obtain ⟨rfl, hZ, hh⟩ := hP
  have hx := Bd.exec
  have hby := Bd.bytes
  have hml : c.maxLocals = 3 := hml0
  have hown : s.vm.findClass "com/example/always_over_paths/alwaysoverpaths/explicit/MarkingTable" = some m.cls := findClass_of_methodNamed Bd.named
  have hnm := (name_of_methodNamed Bd.named Bd.method).1
  have X0 : Stand p l e ({ frames := 1, cells := 0, slots := 0, locals := 13 } : Room) s m #[(.int (3 : Int32)), (.int p2)] below meth c s₁ [] 0 0 := Stand.of_body Bd
  have e0 : s₁.heap = h0 := by rw [← hh, Bd.state]; rfl
  have N0 := Fr.nil n0
  show GoalS p.tables e below s ({ frames := 1, cells := 0, slots := 0, locals := 13 } : Room).cells ({ frames := 1, cells := 0, slots := 0, locals := 13 } : Room).slots (Qwf Z p2 h0 n0) (s₁.setTop (entryFrame m #[(.int (3 : Int32)), (.int p2)] 3))
  refine GoalS.lift (B := s₁.setTop (mkF m 0 #[vi (3 : Int32), vi p2, .unset] [])) (fun t k => castTop (ef_rmwf m p2) k) ?_
  have K0 : Keep h0 h0 [] := Keep.refl _ _
  obtain ⟨_, _, ⟨T1, L1, k1, n1⟩, -, X1, ⟨Lc1, hQ1, l1, y1, z1⟩, st1⟩ := Jvm.LawKit.callS X0 hx (y := (⟨"java/lang/Math", "max", "(II)I"⟩ : MethodName)) hown (mvT hZ (hw _ (List.mem_of_getElem? (i := 18) rfl))) (mvT hZ (hw _ (List.mem_of_getElem? (i := 19) rfl))) (mvT hZ (hw _ (List.mem_of_getElem? (i := 20) rfl))) (mvT hZ (hw _ (List.mem_of_getElem? (i := 21) rfl))) (by decide) (backOf (W := 0) (rmmax l Z a0 hw [] (1 : Int32) ((((3 : Int32) + ((64 : Int32) / p2)) - (1 : Int32)) / ((64 : Int32) / p2)) h0 n0 Z0) hZ (hw _ (List.mem_of_getElem? (i := 21) rfl)) (hw _ (List.mem_of_getElem? (i := 20) rfl)) (by decide) (by decide)) (g := (mkF m 13 #[vi (3 : Int32), vi p2, vi ((64 : Int32) / p2)] [(.int ((((3 : Int32) + ((64 : Int32) / p2)) - (1 : Int32)) / ((64 : Int32) / p2))), (.int (1 : Int32))])) rfl (by rw [hml]; rfl) (argsL := [(.int (1 : Int32)), (.int ((((3 : Int32) + ((64 : Int32) / p2)) - (1 : Int32)) / ((64 : Int32) / p2)))]) (rest := []) (lenOf pd_0 rfl) rfl (by show 2 * 0 + _ ≤ _; exact Nat.le_of_eq rfl) (hb hby d3_13) (fun _ _ => ⟨rfl, e0, (by decide : 0 + 0 ≤ _), (by decide : 0 + 0 ≤ _)⟩)
  dsimp only [Pt.U, Pt.locs, Pt.cells, Pt.slots] at X1 l1 y1 z1 st1 hQ1
  subst y1 z1
  obtain ⟨rfl, N1q, eq1⟩ := hQ1
  have N1 : Fr n0 L1 := by rw [l1]; exact Fr.app N0 N1q
  obtain ⟨fs, hr, hrun, hended, hW, hsame⟩ := X1.leave (v := some (.int (own_mx (1 : Int32) ((((3 : Int32) + ((64 : Int32) / p2)) - (1 : Int32)) / ((64 : Int32) / p2))))) (fun h => by rw [Bd.returns] at h; cases h)
  refine ⟨_, _, ?_, hrun, hended, _, _, rfl, ?_, ⟨_, rfl⟩, hW, hsame.mono (by decide) (by decide)⟩
  · show Steps p.tables e below (s₁.setTop (mkF m 0 #[vi (3 : Int32), vi p2, .unset] [])) _
    refine XS.bipush X0.here hx rfl (hb hby d3_0) ?_
    refine XS.iloadN X0.here hx rfl (hb hby d3_2) rfl ?_
    refine XS.idiv X0.here hx rfl (hb hby d3_3) rfl (own_words hB).1 ?_
    refine XS.istoreN X0.here hx rfl (hb hby d3_4) rfl (l' := #[vi (3 : Int32), vi p2, vi ((64 : Int32) / p2)]) rfl ?_
    refine XS.iconst X0.here hx rfl (hb hby d3_5) ?_
    refine XS.iloadN X0.here hx rfl (hb hby d3_6) rfl ?_
    show Steps p.tables e below (s₁.setTop (mkF m 7 #[vi (3 : Int32), vi p2, vi ((64 : Int32) / p2)] [(.int (3 : Int32)), (.int (1 : Int32))])) _
    refine XS.iloadN X0.here hx rfl (hb hby d3_7) rfl ?_
    refine XS.iadd X0.here hx rfl (hb hby d3_8) rfl ?_
    refine XS.iconst X0.here hx rfl (hb hby d3_9) ?_
    refine XS.isub X0.here hx rfl (hb hby d3_10) rfl ?_
    refine XS.iloadN X0.here hx rfl (hb hby d3_11) rfl ?_
    refine XS.idiv X0.here hx rfl (hb hby d3_12) rfl (own_words hB).2.1 ?_
    show Steps p.tables e below (s₁.setTop (mkF m 13 #[vi (3 : Int32), vi p2, vi ((64 : Int32) / p2)] [(.int ((((3 : Int32) + ((64 : Int32) / p2)) - (1 : Int32)) / ((64 : Int32) / p2))), (.int (1 : Int32))])) _
    refine st1 _ ?_
    exact retI X1 hx Bd.returns (hb hby d3_16) hr
  · show Qwf Z p2 h0 n0 _ T1.heap _
    exact ⟨(congrArg (fun z => some (Value.int z)) (own_words hB).2.2), N1, eq1⟩
theorem d10_0 : decode prog_21_method_13_code 0 = .ok (.iconst 0, 1) := by decide +kernel
theorem d10_1 : decode prog_21_method_13_code 1 = .ok (.istore 4, 2) := by decide +kernel
theorem d10_3 : decode prog_21_method_13_code 3 = .ok (.iload_n 3, 1) := by decide +kernel
theorem d10_4 : decode prog_21_method_13_code 4 = .ok (.istore 5, 2) := by decide +kernel
theorem d10_6 : decode prog_21_method_13_code 6 = .ok (.iload 4, 2) := by decide +kernel
theorem d10_8 : decode prog_21_method_13_code 8 = .ok (.aload_n 0, 1) := by decide +kernel
theorem d10_9 : decode prog_21_method_13_code 9 = .ok (.arraylength, 1) := by decide +kernel
theorem d10_10 : decode prog_21_method_13_code 10 = .ok (.if_icmp .ge 62, 3) := by decide +kernel
theorem d10_13 : decode prog_21_method_13_code 13 = .ok (.lconst 0, 1) := by decide +kernel
theorem d10_14 : decode prog_21_method_13_code 14 = .ok (.lstore 6, 2) := by decide +kernel
theorem d10_16 : decode prog_21_method_13_code 16 = .ok (.iconst 0, 1) := by decide +kernel
theorem d10_17 : decode prog_21_method_13_code 17 = .ok (.istore 8, 2) := by decide +kernel
theorem d10_19 : decode prog_21_method_13_code 19 = .ok (.iload 8, 2) := by decide +kernel
theorem d10_21 : decode prog_21_method_13_code 21 = .ok (.iload_n 1, 1) := by decide +kernel
theorem d10_22 : decode prog_21_method_13_code 22 = .ok (.iadd, 1) := by decide +kernel
theorem d10_23 : decode prog_21_method_13_code 23 = .ok (.bipush 64, 2) := by decide +kernel
theorem d10_25 : decode prog_21_method_13_code 25 = .ok (.if_icmp .gt 35, 3) := by decide +kernel
theorem d10_28 : decode prog_21_method_13_code 28 = .ok (.iload 4, 2) := by decide +kernel
theorem d10_30 : decode prog_21_method_13_code 30 = .ok (.aload_n 0, 1) := by decide +kernel
theorem d10_31 : decode prog_21_method_13_code 31 = .ok (.arraylength, 1) := by decide +kernel
theorem d10_32 : decode prog_21_method_13_code 32 = .ok (.if_icmp .ge 28, 3) := by decide +kernel
theorem d10_35 : decode prog_21_method_13_code 35 = .ok (.lload 6, 2) := by decide +kernel
theorem d10_37 : decode prog_21_method_13_code 37 = .ok (.aload_n 0, 1) := by decide +kernel
theorem d10_38 : decode prog_21_method_13_code 38 = .ok (.iload 4, 2) := by decide +kernel
theorem d10_40 : decode prog_21_method_13_code 40 = .ok (.iinc 4 1, 3) := by decide +kernel
theorem d10_43 : decode prog_21_method_13_code 43 = .ok (.iaload, 1) := by decide +kernel
theorem d10_44 : decode prog_21_method_13_code 44 = .ok (.i2l, 1) := by decide +kernel
theorem d10_45 : decode prog_21_method_13_code 45 = .ok (.iload 8, 2) := by decide +kernel
theorem d10_47 : decode prog_21_method_13_code 47 = .ok (.lshl, 1) := by decide +kernel
theorem d10_48 : decode prog_21_method_13_code 48 = .ok (.lor, 1) := by decide +kernel
theorem d10_49 : decode prog_21_method_13_code 49 = .ok (.lstore 6, 2) := by decide +kernel
theorem d10_51 : decode prog_21_method_13_code 51 = .ok (.iload 8, 2) := by decide +kernel
theorem d10_53 : decode prog_21_method_13_code 53 = .ok (.iload_n 1, 1) := by decide +kernel
theorem d10_54 : decode prog_21_method_13_code 54 = .ok (.iadd, 1) := by decide +kernel
theorem d10_55 : decode prog_21_method_13_code 55 = .ok (.istore 8, 2) := by decide +kernel
theorem d10_57 : decode prog_21_method_13_code 57 = .ok (.goto (-38), 3) := by decide +kernel
theorem d10_60 : decode prog_21_method_13_code 60 = .ok (.aload_n 2, 1) := by decide +kernel
theorem d10_61 : decode prog_21_method_13_code 61 = .ok (.iload 5, 2) := by decide +kernel
theorem d10_63 : decode prog_21_method_13_code 63 = .ok (.lload 6, 2) := by decide +kernel
theorem d10_65 : decode prog_21_method_13_code 65 = .ok (.lastore, 1) := by decide +kernel
theorem d10_66 : decode prog_21_method_13_code 66 = .ok (.iinc 5 1, 3) := by decide +kernel
theorem d10_69 : decode prog_21_method_13_code 69 = .ok (.goto (-63), 3) := by decide +kernel
theorem d10_72 : decode prog_21_method_13_code 72 = .ok (.return_, 1) := by decide +kernel
theorem ef_rmpk (m : MethodId) (a1 : Addr) (p2 : Int32) (a3 : Addr) : entryFrame m #[(.ref a1), (.int p2), (.ref a3), (.int (0 : Int32))] 9 = mkF m 0 #[vr a1, vi p2, vr a3, vi (0 : Int32), .unset, .unset, .unset, .unset, .unset] [] := by first | (simp [entryFrame, mkF, argsToLocals, Value.category]; done) | rfl
def Qpk (Z : State) (a1 : Addr) (p2 : Int32) (a3 : Addr) (k1 : ClassId) (k3 : ClassId) (mf : Nat → Int32) (g : Nat → Int64) (n1 : Nat) (h0 : Heap) (n0 : Nat) (v : Option Value) (h : Heap) (L : List Loc) : Prop := v = none ∧ Fr n0 L ∧ Keep h0 h [a3] ∧ (AV Z h a3 k3 .long n1 (fun i => Value.long ((own_pk p2 (mf 0) (mf 1) (mf 2) g) i)))
set_option maxRecDepth 65536 in
set_option maxHeartbeats 40000000 in
theorem rmpk (l : Launch) (Z : State) (a0 : Array Value) (hw : ∀ d ∈ tables_1, d.before a0 Z = true) (ws : List Jvm.Cond) (a1 : Addr) (p2 : Int32) (a3 : Addr) (k1 : ClassId) (k3 : ClassId) (mf : Nat → Int32) (g : Nat → Int64) (n1 : Nat) (h0 : Heap) (n0 : Nat) (Z0 : n0 ≤ h0.size) (A_a1 : AV Z h0 a1 k1 .int 3 (fun i => Value.int (mf i))) (A_a3 : AV Z h0 a3 k3 .long n1 (fun i => Value.long (g i))) (ne_a1_a3 : a1 ≠ a3) (g_a3 : n0 ≤ a3) (hB : own_B p2) (hn : (own_W p2).toNatClampNeg ≤ n1) :
    MetFree l (⟨"com/example/always_over_paths/alwaysoverpaths/explicit/MarkingTable", "pack", "([II[JI)V"⟩ : MethodName) (head1 (Jvm.Cond.code (⟨"com/example/always_over_paths/alwaysoverpaths/explicit/MarkingTable", "pack", "([II[JI)V"⟩ : MethodName) prog_21_method_13_code 9 none :: ws) ({ frames := 0, cells := 0, slots := 0, locals := 0 } : Room)) (fun a U => a = #[(.ref a1), (.int p2), (.ref a3), (.int (0 : Int32))] ∧ Z.Warmed39 U.vm ∧ U.heap = h0) (fun _ _ _ _ _ => True) (fun _ U o U' => ∃ v L, o = .returned v ∧ Qpk Z a1 p2 a3 k1 k3 mf g n1 h0 n0 v U'.heap L ∧ FrameEnd U o U' L ({ frames := 0, cells := 0, slots := 0, locals := 0 } : Room).cells ({ frames := 0, cells := 0, slots := 0, locals := 0 } : Room).slots) := by
  refine MetFree.of_bodySF (plainFor_of_name pn_1) hisR ?_
  intro p e s m args below meth c s₁ Bd hml0 hP hK
  obtain ⟨rfl, hZ, hh⟩ := hP
  have hx := Bd.exec
  have hby := Bd.bytes
  have hml : c.maxLocals = 9 := hml0
  have hown : s.vm.findClass "com/example/always_over_paths/alwaysoverpaths/explicit/MarkingTable" = some m.cls := findClass_of_methodNamed Bd.named
  have hnm := (name_of_methodNamed Bd.named Bd.method).1
  have X0 : Stand p l e ({ frames := 0, cells := 0, slots := 0, locals := 0 } : Room) s m #[(.ref a1), (.int p2), (.ref a3), (.int (0 : Int32))] below meth c s₁ [] 0 0 := Stand.of_body Bd
  have e0 : s₁.heap = h0 := by rw [← hh, Bd.state]; rfl
  have N0 := Fr.nil n0
  show GoalS p.tables e below s ({ frames := 0, cells := 0, slots := 0, locals := 0 } : Room).cells ({ frames := 0, cells := 0, slots := 0, locals := 0 } : Room).slots (Qpk Z a1 p2 a3 k1 k3 mf g n1 h0 n0) (s₁.setTop (entryFrame m #[(.ref a1), (.int p2), (.ref a3), (.int (0 : Int32))] 9))
  refine GoalS.lift (B := s₁.setTop (mkF m 0 #[vr a1, vi p2, vr a3, vi (0 : Int32), .unset, .unset, .unset, .unset, .unset] [])) (fun t k => castTop (ef_rmpk m a1 p2 a3) k) ?_
  have K0 : Keep h0 h0 [a3] := Keep.refl _ _
  by_cases hf1 : (21 : Int32) < p2
  · obtain ⟨cl2, Ar2, -, sz2, -, -⟩ := id A_a1
    have le2 : cl2.slots.size.toInt32 = (3 : Int32) := by rw [sz2]; exact rfl
    obtain ⟨cl3, Ar3, -, sz3, -, -⟩ := id A_a1
    have le3 : cl3.slots.size.toInt32 = (3 : Int32) := by rw [sz3]; exact rfl
    obtain ⟨cl4, Ar4, kc4, sz4, -, hv4⟩ := id A_a1
    have hin4 : ¬ ((0 : Int32) < 0 ∨ cl4.slots.size ≤ ((0 : Int32)).toNatClampNeg) := AV.inb sz4 (show ¬ (0 : Int32) < 0 ∧ ((0 : Int32)).toNatClampNeg < 3 by decide)
    have hat4 : cl4.slots[((0 : Int32)).toNatClampNeg]? = some (.int (mf 0)) := (hv4 _ (AV.inx (show ¬ (0 : Int32) < 0 ∧ ((0 : Int32)).toNatClampNeg < 3 by decide))).trans (congrArg some rfl)
    obtain ⟨cl5, Ar5, -, sz5, -, -⟩ := id A_a1
    have le5 : cl5.slots.size.toInt32 = (3 : Int32) := by rw [sz5]; exact rfl
    obtain ⟨cl6, Ar6, kc6, sz6, -, hv6⟩ := id A_a1
    have hin6 : ¬ ((1 : Int32) < 0 ∨ cl6.slots.size ≤ ((1 : Int32)).toNatClampNeg) := AV.inb sz6 (show ¬ (1 : Int32) < 0 ∧ ((1 : Int32)).toNatClampNeg < 3 by decide)
    have hat6 : cl6.slots[((1 : Int32)).toNatClampNeg]? = some (.int (mf 1)) := (hv6 _ (AV.inx (show ¬ (1 : Int32) < 0 ∧ ((1 : Int32)).toNatClampNeg < 3 by decide))).trans (congrArg some rfl)
    obtain ⟨cl7, Ar7, kc7, sz7, -, -⟩ := id A_a3
    have hin7 : ¬ ((0 : Int32) < 0 ∨ cl7.slots.size ≤ ((0 : Int32)).toNatClampNeg) := AV.inb sz7 (own_in0 hn)
    obtain ⟨T7, h7, X7, e7, W7, st7⟩ := stJ X0 hx hZ e0 Ar7 (j := (0 : Int32)) hin7 (g := (mkF m 65 #[vr a1, vi p2, vr a3, vi (0 : Int32), vi (2 : Int32), vi (0 : Int32), vj (((0 : Int64) ||| (((((mf 0)).toInt64) <<< ((0 : Int32) &&& 0x3f).toInt64))) ||| (((((mf 1)).toInt64) <<< (((0 : Int32) + p2) &&& 0x3f).toInt64))), .second, vi (((0 : Int32) + p2) + p2)] [(.long (((0 : Int64) ||| (((((mf 0)).toInt64) <<< ((0 : Int32) &&& 0x3f).toInt64))) ||| (((((mf 1)).toInt64) <<< (((0 : Int32) + p2) &&& 0x3f).toInt64)))), (.int (0 : Int32)), (.ref a3)])) rfl rfl (hb hby d10_65)
    have z8 : n0 ≤ h7.size := Nat.le_trans Z0 (Keep.of_wr W7).1
    have K9 : Keep h0 h7 [a3] := K0.wr W7 (Or.inl (List.mem_of_getElem? (i := 0) rfl))
    have V7 : AV Z h7 a3 k3 .long n1 (fun i => Value.long ((updJ g 0 (((0 : Int64) ||| (((((mf 0)).toInt64) <<< ((0 : Int32) &&& 0x3f).toInt64))) ||| (((((mf 1)).toInt64) <<< (((0 : Int32) + p2) &&& 0x3f).toInt64)))) i)) := AV.putJ A_a3 W7 (AV.inx (own_in0 hn))
    have N7 := Fr.snoc X7 N0 g_a3
    have f11 : AV Z h7 a1 k1 .int 3 (fun i => Value.int (mf i)) := (A_a1.other W7 ne_a1_a3)
    obtain ⟨cl10, Ar10, -, sz10, -, -⟩ := id f11
    have le10 : cl10.slots.size.toInt32 = (3 : Int32) := by rw [sz10]; exact rfl
    obtain ⟨cl12, Ar12, -, sz12, -, -⟩ := id f11
    have le12 : cl12.slots.size.toInt32 = (3 : Int32) := by rw [sz12]; exact rfl
    obtain ⟨cl13, Ar13, kc13, sz13, -, hv13⟩ := id f11
    have hin13 : ¬ ((2 : Int32) < 0 ∨ cl13.slots.size ≤ ((2 : Int32)).toNatClampNeg) := AV.inb sz13 (show ¬ (2 : Int32) < 0 ∧ ((2 : Int32)).toNatClampNeg < 3 by decide)
    have hat13 : cl13.slots[((2 : Int32)).toNatClampNeg]? = some (.int (mf 2)) := (hv13 _ (AV.inx (show ¬ (2 : Int32) < 0 ∧ ((2 : Int32)).toNatClampNeg < 3 by decide))).trans (congrArg some rfl)
    obtain ⟨cl14, Ar14, -, sz14, -, -⟩ := id f11
    have le14 : cl14.slots.size.toInt32 = (3 : Int32) := by rw [sz14]; exact rfl
    obtain ⟨cl15, Ar15, kc15, sz15, -, -⟩ := id V7
    have hin15 : ¬ ((1 : Int32) < 0 ∨ cl15.slots.size ≤ ((1 : Int32)).toNatClampNeg) := AV.inb sz15 (own_in1 hf1 hn)
    obtain ⟨T15, h15, X15, e15, W15, st15⟩ := stJ X7 hx hZ e7 Ar15 (j := (1 : Int32)) hin15 (g := (mkF m 65 #[vr a1, vi p2, vr a3, vi (0 : Int32), vi (3 : Int32), vi (1 : Int32), vj ((0 : Int64) ||| (((((mf 2)).toInt64) <<< ((0 : Int32) &&& 0x3f).toInt64))), .second, vi ((0 : Int32) + p2)] [(.long ((0 : Int64) ||| (((((mf 2)).toInt64) <<< ((0 : Int32) &&& 0x3f).toInt64)))), (.int (1 : Int32)), (.ref a3)])) rfl rfl (hb hby d10_65)
    have z16 : n0 ≤ h15.size := Nat.le_trans z8 (Keep.of_wr W15).1
    have K17 : Keep h0 h15 [a3] := K9.wr W15 (Or.inl (List.mem_of_getElem? (i := 0) rfl))
    have V15 : AV Z h15 a3 k3 .long n1 (fun i => Value.long ((updJ (updJ g 0 (((0 : Int64) ||| (((((mf 0)).toInt64) <<< ((0 : Int32) &&& 0x3f).toInt64))) ||| (((((mf 1)).toInt64) <<< (((0 : Int32) + p2) &&& 0x3f).toInt64)))) 1 ((0 : Int64) ||| (((((mf 2)).toInt64) <<< ((0 : Int32) &&& 0x3f).toInt64)))) i)) := AV.putJ V7 W15 (AV.inx (own_in1 hf1 hn))
    have N15 := Fr.snoc X15 N7 g_a3
    have f19 : AV Z h15 a1 k1 .int 3 (fun i => Value.int (mf i)) := (f11.other W15 ne_a1_a3)
    obtain ⟨cl18, Ar18, -, sz18, -, -⟩ := id f19
    have le18 : cl18.slots.size.toInt32 = (3 : Int32) := by rw [sz18]; exact rfl
    obtain ⟨fs, hr, hrun, hended, hW, hsame⟩ := X15.leave (v := none) (fun _ => rfl)
    refine ⟨_, _, ?_, hrun, hended, _, _, rfl, ?_, ⟨_, rfl⟩, hW, hsame.mono (by decide) (by decide)⟩
    · show Steps p.tables e below (s₁.setTop (mkF m 0 #[vr a1, vi p2, vr a3, vi (0 : Int32), .unset, .unset, .unset, .unset, .unset] [])) _
      refine XS.iconst X0.here hx rfl (hb hby d10_0) ?_
      refine XS.istore X0.here hx rfl (hb hby d10_1) rfl (l' := #[vr a1, vi p2, vr a3, vi (0 : Int32), vi (0 : Int32), .unset, .unset, .unset, .unset]) rfl ?_
      refine XS.iloadN X0.here hx rfl (hb hby d10_3) rfl ?_
      refine XS.istore X0.here hx rfl (hb hby d10_4) rfl (l' := #[vr a1, vi p2, vr a3, vi (0 : Int32), vi (0 : Int32), vi (0 : Int32), .unset, .unset, .unset]) rfl ?_
      refine XS.iload X0.here hx rfl (hb hby d10_6) rfl ?_
      refine XS.aloadN X0.here hx rfl (hb hby d10_8) rfl rfl ?_
      show Steps p.tables e below (s₁.setTop (mkF m 9 #[vr a1, vi p2, vr a3, vi (0 : Int32), vi (0 : Int32), vi (0 : Int32), .unset, .unset, .unset] [(.ref a1), (.int (0 : Int32))])) _
      refine X0.arraylength hx (by rw [e0]; exact Ar2.1) (State.isArrayOf_alike hZ.alike Ar2.2.1) (g := (mkF m 9 #[vr a1, vi p2, vr a3, vi (0 : Int32), vi (0 : Int32), vi (0 : Int32), .unset, .unset, .unset] [(.ref a1), (.int (0 : Int32))])) rfl rfl (hb hby d10_9) _ ?_
      rw [le2]
      refine XS.icmpNo X0.here hx rfl (hb hby d10_10) rfl ((tlt (by decide : (0 : Int32) < (3 : Int32))).2.1) ?_
      refine XS.lconst X0.here hx rfl (hb hby d10_13) ?_
      refine XS.lstore X0.here hx rfl (hb hby d10_14) rfl (l' := #[vr a1, vi p2, vr a3, vi (0 : Int32), vi (0 : Int32), vi (0 : Int32), vj (0 : Int64), .second, .unset]) rfl ?_
      refine XS.iconst X0.here hx rfl (hb hby d10_16) ?_
      show Steps p.tables e below (s₁.setTop (mkF m 17 #[vr a1, vi p2, vr a3, vi (0 : Int32), vi (0 : Int32), vi (0 : Int32), vj (0 : Int64), .second, .unset] [(.int (0 : Int32))])) _
      refine XS.istore X0.here hx rfl (hb hby d10_17) rfl (l' := #[vr a1, vi p2, vr a3, vi (0 : Int32), vi (0 : Int32), vi (0 : Int32), vj (0 : Int64), .second, vi (0 : Int32)]) rfl ?_
      refine XS.iload X0.here hx rfl (hb hby d10_19) rfl ?_
      refine XS.iloadN X0.here hx rfl (hb hby d10_21) rfl ?_
      refine XS.iadd X0.here hx rfl (hb hby d10_22) rfl ?_
      refine XS.bipush X0.here hx rfl (hb hby d10_23) ?_
      refine XS.icmpNo X0.here hx rfl (hb hby d10_25) rfl ((flt (own_le1 hB : ¬ ((64 : Int32) < ((0 : Int32) + p2)))).2.2.1) ?_
      show Steps p.tables e below (s₁.setTop (mkF m 28 #[vr a1, vi p2, vr a3, vi (0 : Int32), vi (0 : Int32), vi (0 : Int32), vj (0 : Int64), .second, vi (0 : Int32)] [])) _
      refine XS.iload X0.here hx rfl (hb hby d10_28) rfl ?_
      refine XS.aloadN X0.here hx rfl (hb hby d10_30) rfl rfl ?_
      refine X0.arraylength hx (by rw [e0]; exact Ar3.1) (State.isArrayOf_alike hZ.alike Ar3.2.1) (g := (mkF m 31 #[vr a1, vi p2, vr a3, vi (0 : Int32), vi (0 : Int32), vi (0 : Int32), vj (0 : Int64), .second, vi (0 : Int32)] [(.ref a1), (.int (0 : Int32))])) rfl rfl (hb hby d10_31) _ ?_
      rw [le3]
      refine XS.icmpNo X0.here hx rfl (hb hby d10_32) rfl ((tlt (by decide : (0 : Int32) < (3 : Int32))).2.1) ?_
      refine XS.lload X0.here hx rfl (hb hby d10_35) rfl ?_
      show Steps p.tables e below (s₁.setTop (mkF m 37 #[vr a1, vi p2, vr a3, vi (0 : Int32), vi (0 : Int32), vi (0 : Int32), vj (0 : Int64), .second, vi (0 : Int32)] [(.long (0 : Int64))])) _
      refine XS.aloadN X0.here hx rfl (hb hby d10_37) rfl rfl ?_
      refine XS.iload X0.here hx rfl (hb hby d10_38) rfl ?_
      refine XS.iinc X0.here hx rfl (hb hby d10_40) rfl (l' := #[vr a1, vi p2, vr a3, vi (0 : Int32), vi (1 : Int32), vi (0 : Int32), vj (0 : Int64), .second, vi (0 : Int32)]) rfl ?_
      refine X0.iaload hx (j := (0 : Int32)) (v := (.int (mf 0))) (by rw [e0]; exact Ar4.1) (State.isArrayOf_alike hZ.alike Ar4.2.1) Ar4.2.2 hin4 hat4 (g := (mkF m 43 #[vr a1, vi p2, vr a3, vi (0 : Int32), vi (1 : Int32), vi (0 : Int32), vj (0 : Int64), .second, vi (0 : Int32)] [(.int (0 : Int32)), (.ref a1), (.long (0 : Int64))])) rfl rfl (hb hby d10_43) _ ?_
      refine XS.i2l X0.here hx rfl (hb hby d10_44) rfl ?_
      refine XS.iload X0.here hx rfl (hb hby d10_45) rfl ?_
      show Steps p.tables e below (s₁.setTop (mkF m 47 #[vr a1, vi p2, vr a3, vi (0 : Int32), vi (1 : Int32), vi (0 : Int32), vj (0 : Int64), .second, vi (0 : Int32)] [(.int (0 : Int32)), (.long (((mf 0)).toInt64)), (.long (0 : Int64))])) _
      refine XS.lshl X0.here hx rfl (hb hby d10_47) rfl ?_
      refine XS.lor X0.here hx rfl (hb hby d10_48) rfl ?_
      refine XS.lstore X0.here hx rfl (hb hby d10_49) rfl (l' := #[vr a1, vi p2, vr a3, vi (0 : Int32), vi (1 : Int32), vi (0 : Int32), vj ((0 : Int64) ||| (((((mf 0)).toInt64) <<< ((0 : Int32) &&& 0x3f).toInt64))), .second, vi (0 : Int32)]) rfl ?_
      refine XS.iload X0.here hx rfl (hb hby d10_51) rfl ?_
      refine XS.iloadN X0.here hx rfl (hb hby d10_53) rfl ?_
      refine XS.iadd X0.here hx rfl (hb hby d10_54) rfl ?_
      show Steps p.tables e below (s₁.setTop (mkF m 55 #[vr a1, vi p2, vr a3, vi (0 : Int32), vi (1 : Int32), vi (0 : Int32), vj ((0 : Int64) ||| (((((mf 0)).toInt64) <<< ((0 : Int32) &&& 0x3f).toInt64))), .second, vi (0 : Int32)] [(.int ((0 : Int32) + p2))])) _
      refine XS.istore X0.here hx rfl (hb hby d10_55) rfl (l' := #[vr a1, vi p2, vr a3, vi (0 : Int32), vi (1 : Int32), vi (0 : Int32), vj ((0 : Int64) ||| (((((mf 0)).toInt64) <<< ((0 : Int32) &&& 0x3f).toInt64))), .second, vi ((0 : Int32) + p2)]) rfl ?_
      refine XS.goto X0.here hx rfl (pc0 := 57) (pc' := 19) rfl (hb hby d10_57) (by decide) (by decide) ?_
      refine XS.iload X0.here hx rfl (hb hby d10_19) rfl ?_
      refine XS.iloadN X0.here hx rfl (hb hby d10_21) rfl ?_
      refine XS.iadd X0.here hx rfl (hb hby d10_22) rfl ?_
      refine XS.bipush X0.here hx rfl (hb hby d10_23) ?_
      show Steps p.tables e below (s₁.setTop (mkF m 25 #[vr a1, vi p2, vr a3, vi (0 : Int32), vi (1 : Int32), vi (0 : Int32), vj ((0 : Int64) ||| (((((mf 0)).toInt64) <<< ((0 : Int32) &&& 0x3f).toInt64))), .second, vi ((0 : Int32) + p2)] [(.int (64 : Int32)), (.int (((0 : Int32) + p2) + p2))])) _
      refine XS.icmpNo X0.here hx rfl (hb hby d10_25) rfl ((flt (own_le2 hB : ¬ ((64 : Int32) < (((0 : Int32) + p2) + p2)))).2.2.1) ?_
      refine XS.iload X0.here hx rfl (hb hby d10_28) rfl ?_
      refine XS.aloadN X0.here hx rfl (hb hby d10_30) rfl rfl ?_
      refine X0.arraylength hx (by rw [e0]; exact Ar5.1) (State.isArrayOf_alike hZ.alike Ar5.2.1) (g := (mkF m 31 #[vr a1, vi p2, vr a3, vi (0 : Int32), vi (1 : Int32), vi (0 : Int32), vj ((0 : Int64) ||| (((((mf 0)).toInt64) <<< ((0 : Int32) &&& 0x3f).toInt64))), .second, vi ((0 : Int32) + p2)] [(.ref a1), (.int (1 : Int32))])) rfl rfl (hb hby d10_31) _ ?_
      rw [le5]
      refine XS.icmpNo X0.here hx rfl (hb hby d10_32) rfl ((tlt (by decide : (1 : Int32) < (3 : Int32))).2.1) ?_
      show Steps p.tables e below (s₁.setTop (mkF m 35 #[vr a1, vi p2, vr a3, vi (0 : Int32), vi (1 : Int32), vi (0 : Int32), vj ((0 : Int64) ||| (((((mf 0)).toInt64) <<< ((0 : Int32) &&& 0x3f).toInt64))), .second, vi ((0 : Int32) + p2)] [])) _
      refine XS.lload X0.here hx rfl (hb hby d10_35) rfl ?_
      refine XS.aloadN X0.here hx rfl (hb hby d10_37) rfl rfl ?_
      refine XS.iload X0.here hx rfl (hb hby d10_38) rfl ?_
      refine XS.iinc X0.here hx rfl (hb hby d10_40) rfl (l' := #[vr a1, vi p2, vr a3, vi (0 : Int32), vi (2 : Int32), vi (0 : Int32), vj ((0 : Int64) ||| (((((mf 0)).toInt64) <<< ((0 : Int32) &&& 0x3f).toInt64))), .second, vi ((0 : Int32) + p2)]) rfl ?_
      refine X0.iaload hx (j := (1 : Int32)) (v := (.int (mf 1))) (by rw [e0]; exact Ar6.1) (State.isArrayOf_alike hZ.alike Ar6.2.1) Ar6.2.2 hin6 hat6 (g := (mkF m 43 #[vr a1, vi p2, vr a3, vi (0 : Int32), vi (2 : Int32), vi (0 : Int32), vj ((0 : Int64) ||| (((((mf 0)).toInt64) <<< ((0 : Int32) &&& 0x3f).toInt64))), .second, vi ((0 : Int32) + p2)] [(.int (1 : Int32)), (.ref a1), (.long ((0 : Int64) ||| (((((mf 0)).toInt64) <<< ((0 : Int32) &&& 0x3f).toInt64))))])) rfl rfl (hb hby d10_43) _ ?_
      refine XS.i2l X0.here hx rfl (hb hby d10_44) rfl ?_
      show Steps p.tables e below (s₁.setTop (mkF m 45 #[vr a1, vi p2, vr a3, vi (0 : Int32), vi (2 : Int32), vi (0 : Int32), vj ((0 : Int64) ||| (((((mf 0)).toInt64) <<< ((0 : Int32) &&& 0x3f).toInt64))), .second, vi ((0 : Int32) + p2)] [(.long (((mf 1)).toInt64)), (.long ((0 : Int64) ||| (((((mf 0)).toInt64) <<< ((0 : Int32) &&& 0x3f).toInt64))))])) _
      refine XS.iload X0.here hx rfl (hb hby d10_45) rfl ?_
      refine XS.lshl X0.here hx rfl (hb hby d10_47) rfl ?_
      refine XS.lor X0.here hx rfl (hb hby d10_48) rfl ?_
      refine XS.lstore X0.here hx rfl (hb hby d10_49) rfl (l' := #[vr a1, vi p2, vr a3, vi (0 : Int32), vi (2 : Int32), vi (0 : Int32), vj (((0 : Int64) ||| (((((mf 0)).toInt64) <<< ((0 : Int32) &&& 0x3f).toInt64))) ||| (((((mf 1)).toInt64) <<< (((0 : Int32) + p2) &&& 0x3f).toInt64))), .second, vi ((0 : Int32) + p2)]) rfl ?_
      refine XS.iload X0.here hx rfl (hb hby d10_51) rfl ?_
      refine XS.iloadN X0.here hx rfl (hb hby d10_53) rfl ?_
      show Steps p.tables e below (s₁.setTop (mkF m 54 #[vr a1, vi p2, vr a3, vi (0 : Int32), vi (2 : Int32), vi (0 : Int32), vj (((0 : Int64) ||| (((((mf 0)).toInt64) <<< ((0 : Int32) &&& 0x3f).toInt64))) ||| (((((mf 1)).toInt64) <<< (((0 : Int32) + p2) &&& 0x3f).toInt64))), .second, vi ((0 : Int32) + p2)] [(.int p2), (.int ((0 : Int32) + p2))])) _
      refine XS.iadd X0.here hx rfl (hb hby d10_54) rfl ?_
      refine XS.istore X0.here hx rfl (hb hby d10_55) rfl (l' := #[vr a1, vi p2, vr a3, vi (0 : Int32), vi (2 : Int32), vi (0 : Int32), vj (((0 : Int64) ||| (((((mf 0)).toInt64) <<< ((0 : Int32) &&& 0x3f).toInt64))) ||| (((((mf 1)).toInt64) <<< (((0 : Int32) + p2) &&& 0x3f).toInt64))), .second, vi (((0 : Int32) + p2) + p2)]) rfl ?_
      refine XS.goto X0.here hx rfl (pc0 := 57) (pc' := 19) rfl (hb hby d10_57) (by decide) (by decide) ?_
      refine XS.iload X0.here hx rfl (hb hby d10_19) rfl ?_
      refine XS.iloadN X0.here hx rfl (hb hby d10_21) rfl ?_
      refine XS.iadd X0.here hx rfl (hb hby d10_22) rfl ?_
      show Steps p.tables e below (s₁.setTop (mkF m 23 #[vr a1, vi p2, vr a3, vi (0 : Int32), vi (2 : Int32), vi (0 : Int32), vj (((0 : Int64) ||| (((((mf 0)).toInt64) <<< ((0 : Int32) &&& 0x3f).toInt64))) ||| (((((mf 1)).toInt64) <<< (((0 : Int32) + p2) &&& 0x3f).toInt64))), .second, vi (((0 : Int32) + p2) + p2)] [(.int ((((0 : Int32) + p2) + p2) + p2))])) _
      refine XS.bipush X0.here hx rfl (hb hby d10_23) ?_
      refine XS.icmpYes X0.here hx rfl (pc0 := 25) (pc' := 60) rfl (hb hby d10_25) rfl ((tlt ((own_le3 hB).mpr hf1 : (64 : Int32) < ((((0 : Int32) + p2) + p2) + p2))).2.2.1) (by decide) (by decide) ?_
      refine XS.aloadN X0.here hx rfl (hb hby d10_60) rfl rfl ?_
      refine XS.iload X0.here hx rfl (hb hby d10_61) rfl ?_
      refine XS.lload X0.here hx rfl (hb hby d10_63) rfl ?_
      refine st7 _ ?_
      show Steps p.tables e below (T7.setTop (mkF m 66 #[vr a1, vi p2, vr a3, vi (0 : Int32), vi (2 : Int32), vi (0 : Int32), vj (((0 : Int64) ||| (((((mf 0)).toInt64) <<< ((0 : Int32) &&& 0x3f).toInt64))) ||| (((((mf 1)).toInt64) <<< (((0 : Int32) + p2) &&& 0x3f).toInt64))), .second, vi (((0 : Int32) + p2) + p2)] [])) _
      refine XS.iinc X7.here hx rfl (hb hby d10_66) rfl (l' := #[vr a1, vi p2, vr a3, vi (0 : Int32), vi (2 : Int32), vi (1 : Int32), vj (((0 : Int64) ||| (((((mf 0)).toInt64) <<< ((0 : Int32) &&& 0x3f).toInt64))) ||| (((((mf 1)).toInt64) <<< (((0 : Int32) + p2) &&& 0x3f).toInt64))), .second, vi (((0 : Int32) + p2) + p2)]) rfl ?_
      refine XS.goto X7.here hx rfl (pc0 := 69) (pc' := 6) rfl (hb hby d10_69) (by decide) (by decide) ?_
      refine XS.iload X7.here hx rfl (hb hby d10_6) rfl ?_
      refine XS.aloadN X7.here hx rfl (hb hby d10_8) rfl rfl ?_
      refine X7.arraylength hx (by rw [e7]; exact Ar10.1) (State.isArrayOf_alike hZ.alike Ar10.2.1) (g := (mkF m 9 #[vr a1, vi p2, vr a3, vi (0 : Int32), vi (2 : Int32), vi (1 : Int32), vj (((0 : Int64) ||| (((((mf 0)).toInt64) <<< ((0 : Int32) &&& 0x3f).toInt64))) ||| (((((mf 1)).toInt64) <<< (((0 : Int32) + p2) &&& 0x3f).toInt64))), .second, vi (((0 : Int32) + p2) + p2)] [(.ref a1), (.int (2 : Int32))])) rfl rfl (hb hby d10_9) _ ?_
      rw [le10]
      show Steps p.tables e below (T7.setTop (mkF m 10 #[vr a1, vi p2, vr a3, vi (0 : Int32), vi (2 : Int32), vi (1 : Int32), vj (((0 : Int64) ||| (((((mf 0)).toInt64) <<< ((0 : Int32) &&& 0x3f).toInt64))) ||| (((((mf 1)).toInt64) <<< (((0 : Int32) + p2) &&& 0x3f).toInt64))), .second, vi (((0 : Int32) + p2) + p2)] [(.int (3 : Int32)), (.int (2 : Int32))])) _
      refine XS.icmpNo X7.here hx rfl (hb hby d10_10) rfl ((tlt (by decide : (2 : Int32) < (3 : Int32))).2.1) ?_
      refine XS.lconst X7.here hx rfl (hb hby d10_13) ?_
      refine XS.lstore X7.here hx rfl (hb hby d10_14) rfl (l' := #[vr a1, vi p2, vr a3, vi (0 : Int32), vi (2 : Int32), vi (1 : Int32), vj (0 : Int64), .second, vi (((0 : Int32) + p2) + p2)]) rfl ?_
      refine XS.iconst X7.here hx rfl (hb hby d10_16) ?_
      refine XS.istore X7.here hx rfl (hb hby d10_17) rfl (l' := #[vr a1, vi p2, vr a3, vi (0 : Int32), vi (2 : Int32), vi (1 : Int32), vj (0 : Int64), .second, vi (0 : Int32)]) rfl ?_
      refine XS.iload X7.here hx rfl (hb hby d10_19) rfl ?_
      show Steps p.tables e below (T7.setTop (mkF m 21 #[vr a1, vi p2, vr a3, vi (0 : Int32), vi (2 : Int32), vi (1 : Int32), vj (0 : Int64), .second, vi (0 : Int32)] [(.int (0 : Int32))])) _
      refine XS.iloadN X7.here hx rfl (hb hby d10_21) rfl ?_
      refine XS.iadd X7.here hx rfl (hb hby d10_22) rfl ?_
      refine XS.bipush X7.here hx rfl (hb hby d10_23) ?_
      refine XS.icmpNo X7.here hx rfl (hb hby d10_25) rfl ((flt (own_le1 hB : ¬ ((64 : Int32) < ((0 : Int32) + p2)))).2.2.1) ?_
      refine XS.iload X7.here hx rfl (hb hby d10_28) rfl ?_
      refine XS.aloadN X7.here hx rfl (hb hby d10_30) rfl rfl ?_
      show Steps p.tables e below (T7.setTop (mkF m 31 #[vr a1, vi p2, vr a3, vi (0 : Int32), vi (2 : Int32), vi (1 : Int32), vj (0 : Int64), .second, vi (0 : Int32)] [(.ref a1), (.int (2 : Int32))])) _
      refine X7.arraylength hx (by rw [e7]; exact Ar12.1) (State.isArrayOf_alike hZ.alike Ar12.2.1) (g := (mkF m 31 #[vr a1, vi p2, vr a3, vi (0 : Int32), vi (2 : Int32), vi (1 : Int32), vj (0 : Int64), .second, vi (0 : Int32)] [(.ref a1), (.int (2 : Int32))])) rfl rfl (hb hby d10_31) _ ?_
      rw [le12]
      refine XS.icmpNo X7.here hx rfl (hb hby d10_32) rfl ((tlt (by decide : (2 : Int32) < (3 : Int32))).2.1) ?_
      refine XS.lload X7.here hx rfl (hb hby d10_35) rfl ?_
      refine XS.aloadN X7.here hx rfl (hb hby d10_37) rfl rfl ?_
      refine XS.iload X7.here hx rfl (hb hby d10_38) rfl ?_
      show Steps p.tables e below (T7.setTop (mkF m 40 #[vr a1, vi p2, vr a3, vi (0 : Int32), vi (2 : Int32), vi (1 : Int32), vj (0 : Int64), .second, vi (0 : Int32)] [(.int (2 : Int32)), (.ref a1), (.long (0 : Int64))])) _
      refine XS.iinc X7.here hx rfl (hb hby d10_40) rfl (l' := #[vr a1, vi p2, vr a3, vi (0 : Int32), vi (3 : Int32), vi (1 : Int32), vj (0 : Int64), .second, vi (0 : Int32)]) rfl ?_
      refine X7.iaload hx (j := (2 : Int32)) (v := (.int (mf 2))) (by rw [e7]; exact Ar13.1) (State.isArrayOf_alike hZ.alike Ar13.2.1) Ar13.2.2 hin13 hat13 (g := (mkF m 43 #[vr a1, vi p2, vr a3, vi (0 : Int32), vi (3 : Int32), vi (1 : Int32), vj (0 : Int64), .second, vi (0 : Int32)] [(.int (2 : Int32)), (.ref a1), (.long (0 : Int64))])) rfl rfl (hb hby d10_43) _ ?_
      refine XS.i2l X7.here hx rfl (hb hby d10_44) rfl ?_
      refine XS.iload X7.here hx rfl (hb hby d10_45) rfl ?_
      refine XS.lshl X7.here hx rfl (hb hby d10_47) rfl ?_
      refine XS.lor X7.here hx rfl (hb hby d10_48) rfl ?_
      show Steps p.tables e below (T7.setTop (mkF m 49 #[vr a1, vi p2, vr a3, vi (0 : Int32), vi (3 : Int32), vi (1 : Int32), vj (0 : Int64), .second, vi (0 : Int32)] [(.long ((0 : Int64) ||| (((((mf 2)).toInt64) <<< ((0 : Int32) &&& 0x3f).toInt64))))])) _
      refine XS.lstore X7.here hx rfl (hb hby d10_49) rfl (l' := #[vr a1, vi p2, vr a3, vi (0 : Int32), vi (3 : Int32), vi (1 : Int32), vj ((0 : Int64) ||| (((((mf 2)).toInt64) <<< ((0 : Int32) &&& 0x3f).toInt64))), .second, vi (0 : Int32)]) rfl ?_
      refine XS.iload X7.here hx rfl (hb hby d10_51) rfl ?_
      refine XS.iloadN X7.here hx rfl (hb hby d10_53) rfl ?_
      refine XS.iadd X7.here hx rfl (hb hby d10_54) rfl ?_
      refine XS.istore X7.here hx rfl (hb hby d10_55) rfl (l' := #[vr a1, vi p2, vr a3, vi (0 : Int32), vi (3 : Int32), vi (1 : Int32), vj ((0 : Int64) ||| (((((mf 2)).toInt64) <<< ((0 : Int32) &&& 0x3f).toInt64))), .second, vi ((0 : Int32) + p2)]) rfl ?_
      refine XS.goto X7.here hx rfl (pc0 := 57) (pc' := 19) rfl (hb hby d10_57) (by decide) (by decide) ?_
      show Steps p.tables e below (T7.setTop (mkF m 19 #[vr a1, vi p2, vr a3, vi (0 : Int32), vi (3 : Int32), vi (1 : Int32), vj ((0 : Int64) ||| (((((mf 2)).toInt64) <<< ((0 : Int32) &&& 0x3f).toInt64))), .second, vi ((0 : Int32) + p2)] [])) _
      refine XS.iload X7.here hx rfl (hb hby d10_19) rfl ?_
      refine XS.iloadN X7.here hx rfl (hb hby d10_21) rfl ?_
      refine XS.iadd X7.here hx rfl (hb hby d10_22) rfl ?_
      refine XS.bipush X7.here hx rfl (hb hby d10_23) ?_
      refine XS.icmpNo X7.here hx rfl (hb hby d10_25) rfl ((flt (own_le2 hB : ¬ ((64 : Int32) < (((0 : Int32) + p2) + p2)))).2.2.1) ?_
      refine XS.iload X7.here hx rfl (hb hby d10_28) rfl ?_
      show Steps p.tables e below (T7.setTop (mkF m 30 #[vr a1, vi p2, vr a3, vi (0 : Int32), vi (3 : Int32), vi (1 : Int32), vj ((0 : Int64) ||| (((((mf 2)).toInt64) <<< ((0 : Int32) &&& 0x3f).toInt64))), .second, vi ((0 : Int32) + p2)] [(.int (3 : Int32))])) _
      refine XS.aloadN X7.here hx rfl (hb hby d10_30) rfl rfl ?_
      refine X7.arraylength hx (by rw [e7]; exact Ar14.1) (State.isArrayOf_alike hZ.alike Ar14.2.1) (g := (mkF m 31 #[vr a1, vi p2, vr a3, vi (0 : Int32), vi (3 : Int32), vi (1 : Int32), vj ((0 : Int64) ||| (((((mf 2)).toInt64) <<< ((0 : Int32) &&& 0x3f).toInt64))), .second, vi ((0 : Int32) + p2)] [(.ref a1), (.int (3 : Int32))])) rfl rfl (hb hby d10_31) _ ?_
      rw [le14]
      refine XS.icmpYes X7.here hx rfl (pc0 := 32) (pc' := 60) rfl (hb hby d10_32) rfl ((flt (by decide : ¬ ((3 : Int32) < (3 : Int32)))).2.1) (by decide) (by decide) ?_
      refine XS.aloadN X7.here hx rfl (hb hby d10_60) rfl rfl ?_
      refine XS.iload X7.here hx rfl (hb hby d10_61) rfl ?_
      show Steps p.tables e below (T7.setTop (mkF m 63 #[vr a1, vi p2, vr a3, vi (0 : Int32), vi (3 : Int32), vi (1 : Int32), vj ((0 : Int64) ||| (((((mf 2)).toInt64) <<< ((0 : Int32) &&& 0x3f).toInt64))), .second, vi ((0 : Int32) + p2)] [(.int (1 : Int32)), (.ref a3)])) _
      refine XS.lload X7.here hx rfl (hb hby d10_63) rfl ?_
      refine st15 _ ?_
      refine XS.iinc X15.here hx rfl (hb hby d10_66) rfl (l' := #[vr a1, vi p2, vr a3, vi (0 : Int32), vi (3 : Int32), vi (2 : Int32), vj ((0 : Int64) ||| (((((mf 2)).toInt64) <<< ((0 : Int32) &&& 0x3f).toInt64))), .second, vi ((0 : Int32) + p2)]) rfl ?_
      refine XS.goto X15.here hx rfl (pc0 := 69) (pc' := 6) rfl (hb hby d10_69) (by decide) (by decide) ?_
      refine XS.iload X15.here hx rfl (hb hby d10_6) rfl ?_
      refine XS.aloadN X15.here hx rfl (hb hby d10_8) rfl rfl ?_
      show Steps p.tables e below (T15.setTop (mkF m 9 #[vr a1, vi p2, vr a3, vi (0 : Int32), vi (3 : Int32), vi (2 : Int32), vj ((0 : Int64) ||| (((((mf 2)).toInt64) <<< ((0 : Int32) &&& 0x3f).toInt64))), .second, vi ((0 : Int32) + p2)] [(.ref a1), (.int (3 : Int32))])) _
      refine X15.arraylength hx (by rw [e15]; exact Ar18.1) (State.isArrayOf_alike hZ.alike Ar18.2.1) (g := (mkF m 9 #[vr a1, vi p2, vr a3, vi (0 : Int32), vi (3 : Int32), vi (2 : Int32), vj ((0 : Int64) ||| (((((mf 2)).toInt64) <<< ((0 : Int32) &&& 0x3f).toInt64))), .second, vi ((0 : Int32) + p2)] [(.ref a1), (.int (3 : Int32))])) rfl rfl (hb hby d10_9) _ ?_
      rw [le18]
      refine XS.icmpYes X15.here hx rfl (pc0 := 10) (pc' := 72) rfl (hb hby d10_10) rfl ((flt (by decide : ¬ ((3 : Int32) < (3 : Int32)))).2.1) (by decide) (by decide) ?_
      exact X15.returnOut hx Bd.returns (hb hby d10_72) hr
    · show Qpk Z a1 p2 a3 k1 k3 mf g n1 h0 n0 _ T15.heap _
      rw [e15]
      exact ⟨rfl, N15, K17, (by rw [own_pk, if_pos hf1]; exact V15)⟩
  · obtain ⟨cl20, Ar20, -, sz20, -, -⟩ := id A_a1
    have le20 : cl20.slots.size.toInt32 = (3 : Int32) := by rw [sz20]; exact rfl
    obtain ⟨cl21, Ar21, -, sz21, -, -⟩ := id A_a1
    have le21 : cl21.slots.size.toInt32 = (3 : Int32) := by rw [sz21]; exact rfl
    obtain ⟨cl22, Ar22, kc22, sz22, -, hv22⟩ := id A_a1
    have hin22 : ¬ ((0 : Int32) < 0 ∨ cl22.slots.size ≤ ((0 : Int32)).toNatClampNeg) := AV.inb sz22 (show ¬ (0 : Int32) < 0 ∧ ((0 : Int32)).toNatClampNeg < 3 by decide)
    have hat22 : cl22.slots[((0 : Int32)).toNatClampNeg]? = some (.int (mf 0)) := (hv22 _ (AV.inx (show ¬ (0 : Int32) < 0 ∧ ((0 : Int32)).toNatClampNeg < 3 by decide))).trans (congrArg some rfl)
    obtain ⟨cl23, Ar23, -, sz23, -, -⟩ := id A_a1
    have le23 : cl23.slots.size.toInt32 = (3 : Int32) := by rw [sz23]; exact rfl
    obtain ⟨cl24, Ar24, kc24, sz24, -, hv24⟩ := id A_a1
    have hin24 : ¬ ((1 : Int32) < 0 ∨ cl24.slots.size ≤ ((1 : Int32)).toNatClampNeg) := AV.inb sz24 (show ¬ (1 : Int32) < 0 ∧ ((1 : Int32)).toNatClampNeg < 3 by decide)
    have hat24 : cl24.slots[((1 : Int32)).toNatClampNeg]? = some (.int (mf 1)) := (hv24 _ (AV.inx (show ¬ (1 : Int32) < 0 ∧ ((1 : Int32)).toNatClampNeg < 3 by decide))).trans (congrArg some rfl)
    obtain ⟨cl25, Ar25, -, sz25, -, -⟩ := id A_a1
    have le25 : cl25.slots.size.toInt32 = (3 : Int32) := by rw [sz25]; exact rfl
    obtain ⟨cl26, Ar26, kc26, sz26, -, hv26⟩ := id A_a1
    have hin26 : ¬ ((2 : Int32) < 0 ∨ cl26.slots.size ≤ ((2 : Int32)).toNatClampNeg) := AV.inb sz26 (show ¬ (2 : Int32) < 0 ∧ ((2 : Int32)).toNatClampNeg < 3 by decide)
    have hat26 : cl26.slots[((2 : Int32)).toNatClampNeg]? = some (.int (mf 2)) := (hv26 _ (AV.inx (show ¬ (2 : Int32) < 0 ∧ ((2 : Int32)).toNatClampNeg < 3 by decide))).trans (congrArg some rfl)
    refine GoalS.lift (B := (s₁.setTop (mkF m 25 #[vr a1, vi p2, vr a3, vi (0 : Int32), vi (3 : Int32), vi (0 : Int32), vj ((((0 : Int64) ||| (((((mf 0)).toInt64) <<< ((0 : Int32) &&& 0x3f).toInt64))) ||| (((((mf 1)).toInt64) <<< (((0 : Int32) + p2) &&& 0x3f).toInt64))) ||| (((((mf 2)).toInt64) <<< ((((0 : Int32) + p2) + p2) &&& 0x3f).toInt64))), .second, vi ((((0 : Int32) + p2) + p2) + p2)] [(.int (64 : Int32)), (.int (((((0 : Int32) + p2) + p2) + p2) + p2))]))) (fun t k => ?_) ?_
    · show Steps p.tables e below (s₁.setTop (mkF m 0 #[vr a1, vi p2, vr a3, vi (0 : Int32), .unset, .unset, .unset, .unset, .unset] [])) _
      refine XS.iconst X0.here hx rfl (hb hby d10_0) ?_
      refine XS.istore X0.here hx rfl (hb hby d10_1) rfl (l' := #[vr a1, vi p2, vr a3, vi (0 : Int32), vi (0 : Int32), .unset, .unset, .unset, .unset]) rfl ?_
      refine XS.iloadN X0.here hx rfl (hb hby d10_3) rfl ?_
      refine XS.istore X0.here hx rfl (hb hby d10_4) rfl (l' := #[vr a1, vi p2, vr a3, vi (0 : Int32), vi (0 : Int32), vi (0 : Int32), .unset, .unset, .unset]) rfl ?_
      refine XS.iload X0.here hx rfl (hb hby d10_6) rfl ?_
      refine XS.aloadN X0.here hx rfl (hb hby d10_8) rfl rfl ?_
      show Steps p.tables e below (s₁.setTop (mkF m 9 #[vr a1, vi p2, vr a3, vi (0 : Int32), vi (0 : Int32), vi (0 : Int32), .unset, .unset, .unset] [(.ref a1), (.int (0 : Int32))])) _
      refine X0.arraylength hx (by rw [e0]; exact Ar20.1) (State.isArrayOf_alike hZ.alike Ar20.2.1) (g := (mkF m 9 #[vr a1, vi p2, vr a3, vi (0 : Int32), vi (0 : Int32), vi (0 : Int32), .unset, .unset, .unset] [(.ref a1), (.int (0 : Int32))])) rfl rfl (hb hby d10_9) _ ?_
      rw [le20]
      refine XS.icmpNo X0.here hx rfl (hb hby d10_10) rfl ((tlt (by decide : (0 : Int32) < (3 : Int32))).2.1) ?_
      refine XS.lconst X0.here hx rfl (hb hby d10_13) ?_
      refine XS.lstore X0.here hx rfl (hb hby d10_14) rfl (l' := #[vr a1, vi p2, vr a3, vi (0 : Int32), vi (0 : Int32), vi (0 : Int32), vj (0 : Int64), .second, .unset]) rfl ?_
      refine XS.iconst X0.here hx rfl (hb hby d10_16) ?_
      show Steps p.tables e below (s₁.setTop (mkF m 17 #[vr a1, vi p2, vr a3, vi (0 : Int32), vi (0 : Int32), vi (0 : Int32), vj (0 : Int64), .second, .unset] [(.int (0 : Int32))])) _
      refine XS.istore X0.here hx rfl (hb hby d10_17) rfl (l' := #[vr a1, vi p2, vr a3, vi (0 : Int32), vi (0 : Int32), vi (0 : Int32), vj (0 : Int64), .second, vi (0 : Int32)]) rfl ?_
      refine XS.iload X0.here hx rfl (hb hby d10_19) rfl ?_
      refine XS.iloadN X0.here hx rfl (hb hby d10_21) rfl ?_
      refine XS.iadd X0.here hx rfl (hb hby d10_22) rfl ?_
      refine XS.bipush X0.here hx rfl (hb hby d10_23) ?_
      refine XS.icmpNo X0.here hx rfl (hb hby d10_25) rfl ((flt (own_le1 hB : ¬ ((64 : Int32) < ((0 : Int32) + p2)))).2.2.1) ?_
      show Steps p.tables e below (s₁.setTop (mkF m 28 #[vr a1, vi p2, vr a3, vi (0 : Int32), vi (0 : Int32), vi (0 : Int32), vj (0 : Int64), .second, vi (0 : Int32)] [])) _
      refine XS.iload X0.here hx rfl (hb hby d10_28) rfl ?_
      refine XS.aloadN X0.here hx rfl (hb hby d10_30) rfl rfl ?_
      refine X0.arraylength hx (by rw [e0]; exact Ar21.1) (State.isArrayOf_alike hZ.alike Ar21.2.1) (g := (mkF m 31 #[vr a1, vi p2, vr a3, vi (0 : Int32), vi (0 : Int32), vi (0 : Int32), vj (0 : Int64), .second, vi (0 : Int32)] [(.ref a1), (.int (0 : Int32))])) rfl rfl (hb hby d10_31) _ ?_
      rw [le21]
      refine XS.icmpNo X0.here hx rfl (hb hby d10_32) rfl ((tlt (by decide : (0 : Int32) < (3 : Int32))).2.1) ?_
      refine XS.lload X0.here hx rfl (hb hby d10_35) rfl ?_
      show Steps p.tables e below (s₁.setTop (mkF m 37 #[vr a1, vi p2, vr a3, vi (0 : Int32), vi (0 : Int32), vi (0 : Int32), vj (0 : Int64), .second, vi (0 : Int32)] [(.long (0 : Int64))])) _
      refine XS.aloadN X0.here hx rfl (hb hby d10_37) rfl rfl ?_
      refine XS.iload X0.here hx rfl (hb hby d10_38) rfl ?_
      refine XS.iinc X0.here hx rfl (hb hby d10_40) rfl (l' := #[vr a1, vi p2, vr a3, vi (0 : Int32), vi (1 : Int32), vi (0 : Int32), vj (0 : Int64), .second, vi (0 : Int32)]) rfl ?_
      refine X0.iaload hx (j := (0 : Int32)) (v := (.int (mf 0))) (by rw [e0]; exact Ar22.1) (State.isArrayOf_alike hZ.alike Ar22.2.1) Ar22.2.2 hin22 hat22 (g := (mkF m 43 #[vr a1, vi p2, vr a3, vi (0 : Int32), vi (1 : Int32), vi (0 : Int32), vj (0 : Int64), .second, vi (0 : Int32)] [(.int (0 : Int32)), (.ref a1), (.long (0 : Int64))])) rfl rfl (hb hby d10_43) _ ?_
      refine XS.i2l X0.here hx rfl (hb hby d10_44) rfl ?_
      refine XS.iload X0.here hx rfl (hb hby d10_45) rfl ?_
      show Steps p.tables e below (s₁.setTop (mkF m 47 #[vr a1, vi p2, vr a3, vi (0 : Int32), vi (1 : Int32), vi (0 : Int32), vj (0 : Int64), .second, vi (0 : Int32)] [(.int (0 : Int32)), (.long (((mf 0)).toInt64)), (.long (0 : Int64))])) _
      refine XS.lshl X0.here hx rfl (hb hby d10_47) rfl ?_
      refine XS.lor X0.here hx rfl (hb hby d10_48) rfl ?_
      refine XS.lstore X0.here hx rfl (hb hby d10_49) rfl (l' := #[vr a1, vi p2, vr a3, vi (0 : Int32), vi (1 : Int32), vi (0 : Int32), vj ((0 : Int64) ||| (((((mf 0)).toInt64) <<< ((0 : Int32) &&& 0x3f).toInt64))), .second, vi (0 : Int32)]) rfl ?_
      refine XS.iload X0.here hx rfl (hb hby d10_51) rfl ?_
      refine XS.iloadN X0.here hx rfl (hb hby d10_53) rfl ?_
      refine XS.iadd X0.here hx rfl (hb hby d10_54) rfl ?_
      show Steps p.tables e below (s₁.setTop (mkF m 55 #[vr a1, vi p2, vr a3, vi (0 : Int32), vi (1 : Int32), vi (0 : Int32), vj ((0 : Int64) ||| (((((mf 0)).toInt64) <<< ((0 : Int32) &&& 0x3f).toInt64))), .second, vi (0 : Int32)] [(.int ((0 : Int32) + p2))])) _
      refine XS.istore X0.here hx rfl (hb hby d10_55) rfl (l' := #[vr a1, vi p2, vr a3, vi (0 : Int32), vi (1 : Int32), vi (0 : Int32), vj ((0 : Int64) ||| (((((mf 0)).toInt64) <<< ((0 : Int32) &&& 0x3f).toInt64))), .second, vi ((0 : Int32) + p2)]) rfl ?_
      refine XS.goto X0.here hx rfl (pc0 := 57) (pc' := 19) rfl (hb hby d10_57) (by decide) (by decide) ?_
      refine XS.iload X0.here hx rfl (hb hby d10_19) rfl ?_
      refine XS.iloadN X0.here hx rfl (hb hby d10_21) rfl ?_
      refine XS.iadd X0.here hx rfl (hb hby d10_22) rfl ?_
      refine XS.bipush X0.here hx rfl (hb hby d10_23) ?_
      show Steps p.tables e below (s₁.setTop (mkF m 25 #[vr a1, vi p2, vr a3, vi (0 : Int32), vi (1 : Int32), vi (0 : Int32), vj ((0 : Int64) ||| (((((mf 0)).toInt64) <<< ((0 : Int32) &&& 0x3f).toInt64))), .second, vi ((0 : Int32) + p2)] [(.int (64 : Int32)), (.int (((0 : Int32) + p2) + p2))])) _
      refine XS.icmpNo X0.here hx rfl (hb hby d10_25) rfl ((flt (own_le2 hB : ¬ ((64 : Int32) < (((0 : Int32) + p2) + p2)))).2.2.1) ?_
      refine XS.iload X0.here hx rfl (hb hby d10_28) rfl ?_
      refine XS.aloadN X0.here hx rfl (hb hby d10_30) rfl rfl ?_
      refine X0.arraylength hx (by rw [e0]; exact Ar23.1) (State.isArrayOf_alike hZ.alike Ar23.2.1) (g := (mkF m 31 #[vr a1, vi p2, vr a3, vi (0 : Int32), vi (1 : Int32), vi (0 : Int32), vj ((0 : Int64) ||| (((((mf 0)).toInt64) <<< ((0 : Int32) &&& 0x3f).toInt64))), .second, vi ((0 : Int32) + p2)] [(.ref a1), (.int (1 : Int32))])) rfl rfl (hb hby d10_31) _ ?_
      rw [le23]
      refine XS.icmpNo X0.here hx rfl (hb hby d10_32) rfl ((tlt (by decide : (1 : Int32) < (3 : Int32))).2.1) ?_
      show Steps p.tables e below (s₁.setTop (mkF m 35 #[vr a1, vi p2, vr a3, vi (0 : Int32), vi (1 : Int32), vi (0 : Int32), vj ((0 : Int64) ||| (((((mf 0)).toInt64) <<< ((0 : Int32) &&& 0x3f).toInt64))), .second, vi ((0 : Int32) + p2)] [])) _
      refine XS.lload X0.here hx rfl (hb hby d10_35) rfl ?_
      refine XS.aloadN X0.here hx rfl (hb hby d10_37) rfl rfl ?_
      refine XS.iload X0.here hx rfl (hb hby d10_38) rfl ?_
      refine XS.iinc X0.here hx rfl (hb hby d10_40) rfl (l' := #[vr a1, vi p2, vr a3, vi (0 : Int32), vi (2 : Int32), vi (0 : Int32), vj ((0 : Int64) ||| (((((mf 0)).toInt64) <<< ((0 : Int32) &&& 0x3f).toInt64))), .second, vi ((0 : Int32) + p2)]) rfl ?_
      refine X0.iaload hx (j := (1 : Int32)) (v := (.int (mf 1))) (by rw [e0]; exact Ar24.1) (State.isArrayOf_alike hZ.alike Ar24.2.1) Ar24.2.2 hin24 hat24 (g := (mkF m 43 #[vr a1, vi p2, vr a3, vi (0 : Int32), vi (2 : Int32), vi (0 : Int32), vj ((0 : Int64) ||| (((((mf 0)).toInt64) <<< ((0 : Int32) &&& 0x3f).toInt64))), .second, vi ((0 : Int32) + p2)] [(.int (1 : Int32)), (.ref a1), (.long ((0 : Int64) ||| (((((mf 0)).toInt64) <<< ((0 : Int32) &&& 0x3f).toInt64))))])) rfl rfl (hb hby d10_43) _ ?_
      refine XS.i2l X0.here hx rfl (hb hby d10_44) rfl ?_
      show Steps p.tables e below (s₁.setTop (mkF m 45 #[vr a1, vi p2, vr a3, vi (0 : Int32), vi (2 : Int32), vi (0 : Int32), vj ((0 : Int64) ||| (((((mf 0)).toInt64) <<< ((0 : Int32) &&& 0x3f).toInt64))), .second, vi ((0 : Int32) + p2)] [(.long (((mf 1)).toInt64)), (.long ((0 : Int64) ||| (((((mf 0)).toInt64) <<< ((0 : Int32) &&& 0x3f).toInt64))))])) _
      refine XS.iload X0.here hx rfl (hb hby d10_45) rfl ?_
      refine XS.lshl X0.here hx rfl (hb hby d10_47) rfl ?_
      refine XS.lor X0.here hx rfl (hb hby d10_48) rfl ?_
      refine XS.lstore X0.here hx rfl (hb hby d10_49) rfl (l' := #[vr a1, vi p2, vr a3, vi (0 : Int32), vi (2 : Int32), vi (0 : Int32), vj (((0 : Int64) ||| (((((mf 0)).toInt64) <<< ((0 : Int32) &&& 0x3f).toInt64))) ||| (((((mf 1)).toInt64) <<< (((0 : Int32) + p2) &&& 0x3f).toInt64))), .second, vi ((0 : Int32) + p2)]) rfl ?_
      refine XS.iload X0.here hx rfl (hb hby d10_51) rfl ?_
      refine XS.iloadN X0.here hx rfl (hb hby d10_53) rfl ?_
      show Steps p.tables e below (s₁.setTop (mkF m 54 #[vr a1, vi p2, vr a3, vi (0 : Int32), vi (2 : Int32), vi (0 : Int32), vj (((0 : Int64) ||| (((((mf 0)).toInt64) <<< ((0 : Int32) &&& 0x3f).toInt64))) ||| (((((mf 1)).toInt64) <<< (((0 : Int32) + p2) &&& 0x3f).toInt64))), .second, vi ((0 : Int32) + p2)] [(.int p2), (.int ((0 : Int32) + p2))])) _
      refine XS.iadd X0.here hx rfl (hb hby d10_54) rfl ?_
      refine XS.istore X0.here hx rfl (hb hby d10_55) rfl (l' := #[vr a1, vi p2, vr a3, vi (0 : Int32), vi (2 : Int32), vi (0 : Int32), vj (((0 : Int64) ||| (((((mf 0)).toInt64) <<< ((0 : Int32) &&& 0x3f).toInt64))) ||| (((((mf 1)).toInt64) <<< (((0 : Int32) + p2) &&& 0x3f).toInt64))), .second, vi (((0 : Int32) + p2) + p2)]) rfl ?_
      refine XS.goto X0.here hx rfl (pc0 := 57) (pc' := 19) rfl (hb hby d10_57) (by decide) (by decide) ?_
      refine XS.iload X0.here hx rfl (hb hby d10_19) rfl ?_
      refine XS.iloadN X0.here hx rfl (hb hby d10_21) rfl ?_
      refine XS.iadd X0.here hx rfl (hb hby d10_22) rfl ?_
      show Steps p.tables e below (s₁.setTop (mkF m 23 #[vr a1, vi p2, vr a3, vi (0 : Int32), vi (2 : Int32), vi (0 : Int32), vj (((0 : Int64) ||| (((((mf 0)).toInt64) <<< ((0 : Int32) &&& 0x3f).toInt64))) ||| (((((mf 1)).toInt64) <<< (((0 : Int32) + p2) &&& 0x3f).toInt64))), .second, vi (((0 : Int32) + p2) + p2)] [(.int ((((0 : Int32) + p2) + p2) + p2))])) _
      refine XS.bipush X0.here hx rfl (hb hby d10_23) ?_
      refine XS.icmpNo X0.here hx rfl (hb hby d10_25) rfl ((flt (fun q => hf1 ((own_le3 hB).mp q) : ¬ ((64 : Int32) < ((((0 : Int32) + p2) + p2) + p2)))).2.2.1) ?_
      refine XS.iload X0.here hx rfl (hb hby d10_28) rfl ?_
      refine XS.aloadN X0.here hx rfl (hb hby d10_30) rfl rfl ?_
      refine X0.arraylength hx (by rw [e0]; exact Ar25.1) (State.isArrayOf_alike hZ.alike Ar25.2.1) (g := (mkF m 31 #[vr a1, vi p2, vr a3, vi (0 : Int32), vi (2 : Int32), vi (0 : Int32), vj (((0 : Int64) ||| (((((mf 0)).toInt64) <<< ((0 : Int32) &&& 0x3f).toInt64))) ||| (((((mf 1)).toInt64) <<< (((0 : Int32) + p2) &&& 0x3f).toInt64))), .second, vi (((0 : Int32) + p2) + p2)] [(.ref a1), (.int (2 : Int32))])) rfl rfl (hb hby d10_31) _ ?_
      rw [le25]
      show Steps p.tables e below (s₁.setTop (mkF m 32 #[vr a1, vi p2, vr a3, vi (0 : Int32), vi (2 : Int32), vi (0 : Int32), vj (((0 : Int64) ||| (((((mf 0)).toInt64) <<< ((0 : Int32) &&& 0x3f).toInt64))) ||| (((((mf 1)).toInt64) <<< (((0 : Int32) + p2) &&& 0x3f).toInt64))), .second, vi (((0 : Int32) + p2) + p2)] [(.int (3 : Int32)), (.int (2 : Int32))])) _
      refine XS.icmpNo X0.here hx rfl (hb hby d10_32) rfl ((tlt (by decide : (2 : Int32) < (3 : Int32))).2.1) ?_
      refine XS.lload X0.here hx rfl (hb hby d10_35) rfl ?_
      refine XS.aloadN X0.here hx rfl (hb hby d10_37) rfl rfl ?_
      refine XS.iload X0.here hx rfl (hb hby d10_38) rfl ?_
      refine XS.iinc X0.here hx rfl (hb hby d10_40) rfl (l' := #[vr a1, vi p2, vr a3, vi (0 : Int32), vi (3 : Int32), vi (0 : Int32), vj (((0 : Int64) ||| (((((mf 0)).toInt64) <<< ((0 : Int32) &&& 0x3f).toInt64))) ||| (((((mf 1)).toInt64) <<< (((0 : Int32) + p2) &&& 0x3f).toInt64))), .second, vi (((0 : Int32) + p2) + p2)]) rfl ?_
      refine X0.iaload hx (j := (2 : Int32)) (v := (.int (mf 2))) (by rw [e0]; exact Ar26.1) (State.isArrayOf_alike hZ.alike Ar26.2.1) Ar26.2.2 hin26 hat26 (g := (mkF m 43 #[vr a1, vi p2, vr a3, vi (0 : Int32), vi (3 : Int32), vi (0 : Int32), vj (((0 : Int64) ||| (((((mf 0)).toInt64) <<< ((0 : Int32) &&& 0x3f).toInt64))) ||| (((((mf 1)).toInt64) <<< (((0 : Int32) + p2) &&& 0x3f).toInt64))), .second, vi (((0 : Int32) + p2) + p2)] [(.int (2 : Int32)), (.ref a1), (.long (((0 : Int64) ||| (((((mf 0)).toInt64) <<< ((0 : Int32) &&& 0x3f).toInt64))) ||| (((((mf 1)).toInt64) <<< (((0 : Int32) + p2) &&& 0x3f).toInt64))))])) rfl rfl (hb hby d10_43) _ ?_
      show Steps p.tables e below (s₁.setTop (mkF m 44 #[vr a1, vi p2, vr a3, vi (0 : Int32), vi (3 : Int32), vi (0 : Int32), vj (((0 : Int64) ||| (((((mf 0)).toInt64) <<< ((0 : Int32) &&& 0x3f).toInt64))) ||| (((((mf 1)).toInt64) <<< (((0 : Int32) + p2) &&& 0x3f).toInt64))), .second, vi (((0 : Int32) + p2) + p2)] [(.int (mf 2)), (.long (((0 : Int64) ||| (((((mf 0)).toInt64) <<< ((0 : Int32) &&& 0x3f).toInt64))) ||| (((((mf 1)).toInt64) <<< (((0 : Int32) + p2) &&& 0x3f).toInt64))))])) _
      refine XS.i2l X0.here hx rfl (hb hby d10_44) rfl ?_
      refine XS.iload X0.here hx rfl (hb hby d10_45) rfl ?_
      refine XS.lshl X0.here hx rfl (hb hby d10_47) rfl ?_
      refine XS.lor X0.here hx rfl (hb hby d10_48) rfl ?_
      refine XS.lstore X0.here hx rfl (hb hby d10_49) rfl (l' := #[vr a1, vi p2, vr a3, vi (0 : Int32), vi (3 : Int32), vi (0 : Int32), vj ((((0 : Int64) ||| (((((mf 0)).toInt64) <<< ((0 : Int32) &&& 0x3f).toInt64))) ||| (((((mf 1)).toInt64) <<< (((0 : Int32) + p2) &&& 0x3f).toInt64))) ||| (((((mf 2)).toInt64) <<< ((((0 : Int32) + p2) + p2) &&& 0x3f).toInt64))), .second, vi (((0 : Int32) + p2) + p2)]) rfl ?_
      refine XS.iload X0.here hx rfl (hb hby d10_51) rfl ?_
      show Steps p.tables e below (s₁.setTop (mkF m 53 #[vr a1, vi p2, vr a3, vi (0 : Int32), vi (3 : Int32), vi (0 : Int32), vj ((((0 : Int64) ||| (((((mf 0)).toInt64) <<< ((0 : Int32) &&& 0x3f).toInt64))) ||| (((((mf 1)).toInt64) <<< (((0 : Int32) + p2) &&& 0x3f).toInt64))) ||| (((((mf 2)).toInt64) <<< ((((0 : Int32) + p2) + p2) &&& 0x3f).toInt64))), .second, vi (((0 : Int32) + p2) + p2)] [(.int (((0 : Int32) + p2) + p2))])) _
      refine XS.iloadN X0.here hx rfl (hb hby d10_53) rfl ?_
      refine XS.iadd X0.here hx rfl (hb hby d10_54) rfl ?_
      refine XS.istore X0.here hx rfl (hb hby d10_55) rfl (l' := #[vr a1, vi p2, vr a3, vi (0 : Int32), vi (3 : Int32), vi (0 : Int32), vj ((((0 : Int64) ||| (((((mf 0)).toInt64) <<< ((0 : Int32) &&& 0x3f).toInt64))) ||| (((((mf 1)).toInt64) <<< (((0 : Int32) + p2) &&& 0x3f).toInt64))) ||| (((((mf 2)).toInt64) <<< ((((0 : Int32) + p2) + p2) &&& 0x3f).toInt64))), .second, vi ((((0 : Int32) + p2) + p2) + p2)]) rfl ?_
      refine XS.goto X0.here hx rfl (pc0 := 57) (pc' := 19) rfl (hb hby d10_57) (by decide) (by decide) ?_
      refine XS.iload X0.here hx rfl (hb hby d10_19) rfl ?_
      refine XS.iloadN X0.here hx rfl (hb hby d10_21) rfl ?_
      show Steps p.tables e below (s₁.setTop (mkF m 22 #[vr a1, vi p2, vr a3, vi (0 : Int32), vi (3 : Int32), vi (0 : Int32), vj ((((0 : Int64) ||| (((((mf 0)).toInt64) <<< ((0 : Int32) &&& 0x3f).toInt64))) ||| (((((mf 1)).toInt64) <<< (((0 : Int32) + p2) &&& 0x3f).toInt64))) ||| (((((mf 2)).toInt64) <<< ((((0 : Int32) + p2) + p2) &&& 0x3f).toInt64))), .second, vi ((((0 : Int32) + p2) + p2) + p2)] [(.int p2), (.int ((((0 : Int32) + p2) + p2) + p2))])) _
      refine XS.iadd X0.here hx rfl (hb hby d10_22) rfl ?_
      refine XS.bipush X0.here hx rfl (hb hby d10_23) ?_
      exact k
    by_cases hc25_27 : (64 : Int32) < (((((0 : Int32) + p2) + p2) + p2) + p2)
    · obtain ⟨cl28, Ar28, kc28, sz28, -, -⟩ := id A_a3
      have hin28 : ¬ ((0 : Int32) < 0 ∨ cl28.slots.size ≤ ((0 : Int32)).toNatClampNeg) := AV.inb sz28 (own_in0 hn)
      obtain ⟨T28, h28, X28, e28, W28, st28⟩ := stJ X0 hx hZ e0 Ar28 (j := (0 : Int32)) hin28 (g := (mkF m 65 #[vr a1, vi p2, vr a3, vi (0 : Int32), vi (3 : Int32), vi (0 : Int32), vj ((((0 : Int64) ||| (((((mf 0)).toInt64) <<< ((0 : Int32) &&& 0x3f).toInt64))) ||| (((((mf 1)).toInt64) <<< (((0 : Int32) + p2) &&& 0x3f).toInt64))) ||| (((((mf 2)).toInt64) <<< ((((0 : Int32) + p2) + p2) &&& 0x3f).toInt64))), .second, vi ((((0 : Int32) + p2) + p2) + p2)] [(.long ((((0 : Int64) ||| (((((mf 0)).toInt64) <<< ((0 : Int32) &&& 0x3f).toInt64))) ||| (((((mf 1)).toInt64) <<< (((0 : Int32) + p2) &&& 0x3f).toInt64))) ||| (((((mf 2)).toInt64) <<< ((((0 : Int32) + p2) + p2) &&& 0x3f).toInt64)))), (.int (0 : Int32)), (.ref a3)])) rfl rfl (hb hby d10_65)
      have z29 : n0 ≤ h28.size := Nat.le_trans Z0 (Keep.of_wr W28).1
      have K30 : Keep h0 h28 [a3] := K0.wr W28 (Or.inl (List.mem_of_getElem? (i := 0) rfl))
      have V28 : AV Z h28 a3 k3 .long n1 (fun i => Value.long ((updJ g 0 ((((0 : Int64) ||| (((((mf 0)).toInt64) <<< ((0 : Int32) &&& 0x3f).toInt64))) ||| (((((mf 1)).toInt64) <<< (((0 : Int32) + p2) &&& 0x3f).toInt64))) ||| (((((mf 2)).toInt64) <<< ((((0 : Int32) + p2) + p2) &&& 0x3f).toInt64)))) i)) := AV.putJ A_a3 W28 (AV.inx (own_in0 hn))
      have N28 := Fr.snoc X28 N0 g_a3
      have f32 : AV Z h28 a1 k1 .int 3 (fun i => Value.int (mf i)) := (A_a1.other W28 ne_a1_a3)
      obtain ⟨cl31, Ar31, -, sz31, -, -⟩ := id f32
      have le31 : cl31.slots.size.toInt32 = (3 : Int32) := by rw [sz31]; exact rfl
      obtain ⟨fs, hr, hrun, hended, hW, hsame⟩ := X28.leave (v := none) (fun _ => rfl)
      refine ⟨_, _, ?_, hrun, hended, _, _, rfl, ?_, ⟨_, rfl⟩, hW, hsame.mono (by decide) (by decide)⟩
      · show Steps p.tables e below (s₁.setTop (mkF m 25 #[vr a1, vi p2, vr a3, vi (0 : Int32), vi (3 : Int32), vi (0 : Int32), vj ((((0 : Int64) ||| (((((mf 0)).toInt64) <<< ((0 : Int32) &&& 0x3f).toInt64))) ||| (((((mf 1)).toInt64) <<< (((0 : Int32) + p2) &&& 0x3f).toInt64))) ||| (((((mf 2)).toInt64) <<< ((((0 : Int32) + p2) + p2) &&& 0x3f).toInt64))), .second, vi ((((0 : Int32) + p2) + p2) + p2)] [(.int (64 : Int32)), (.int (((((0 : Int32) + p2) + p2) + p2) + p2))])) _
        refine XS.icmpYes X0.here hx rfl (pc0 := 25) (pc' := 60) rfl (hb hby d10_25) rfl ((tlt hc25_27).2.2.1) (by decide) (by decide) ?_
        refine XS.aloadN X0.here hx rfl (hb hby d10_60) rfl rfl ?_
        refine XS.iload X0.here hx rfl (hb hby d10_61) rfl ?_
        refine XS.lload X0.here hx rfl (hb hby d10_63) rfl ?_
        refine st28 _ ?_
        refine XS.iinc X28.here hx rfl (hb hby d10_66) rfl (l' := #[vr a1, vi p2, vr a3, vi (0 : Int32), vi (3 : Int32), vi (1 : Int32), vj ((((0 : Int64) ||| (((((mf 0)).toInt64) <<< ((0 : Int32) &&& 0x3f).toInt64))) ||| (((((mf 1)).toInt64) <<< (((0 : Int32) + p2) &&& 0x3f).toInt64))) ||| (((((mf 2)).toInt64) <<< ((((0 : Int32) + p2) + p2) &&& 0x3f).toInt64))), .second, vi ((((0 : Int32) + p2) + p2) + p2)]) rfl ?_
        show Steps p.tables e below (T28.setTop (mkF m 69 #[vr a1, vi p2, vr a3, vi (0 : Int32), vi (3 : Int32), vi (1 : Int32), vj ((((0 : Int64) ||| (((((mf 0)).toInt64) <<< ((0 : Int32) &&& 0x3f).toInt64))) ||| (((((mf 1)).toInt64) <<< (((0 : Int32) + p2) &&& 0x3f).toInt64))) ||| (((((mf 2)).toInt64) <<< ((((0 : Int32) + p2) + p2) &&& 0x3f).toInt64))), .second, vi ((((0 : Int32) + p2) + p2) + p2)] [])) _
        refine XS.goto X28.here hx rfl (pc0 := 69) (pc' := 6) rfl (hb hby d10_69) (by decide) (by decide) ?_
        refine XS.iload X28.here hx rfl (hb hby d10_6) rfl ?_
        refine XS.aloadN X28.here hx rfl (hb hby d10_8) rfl rfl ?_
        refine X28.arraylength hx (by rw [e28]; exact Ar31.1) (State.isArrayOf_alike hZ.alike Ar31.2.1) (g := (mkF m 9 #[vr a1, vi p2, vr a3, vi (0 : Int32), vi (3 : Int32), vi (1 : Int32), vj ((((0 : Int64) ||| (((((mf 0)).toInt64) <<< ((0 : Int32) &&& 0x3f).toInt64))) ||| (((((mf 1)).toInt64) <<< (((0 : Int32) + p2) &&& 0x3f).toInt64))) ||| (((((mf 2)).toInt64) <<< ((((0 : Int32) + p2) + p2) &&& 0x3f).toInt64))), .second, vi ((((0 : Int32) + p2) + p2) + p2)] [(.ref a1), (.int (3 : Int32))])) rfl rfl (hb hby d10_9) _ ?_
        rw [le31]
        refine XS.icmpYes X28.here hx rfl (pc0 := 10) (pc' := 72) rfl (hb hby d10_10) rfl ((flt (by decide : ¬ ((3 : Int32) < (3 : Int32)))).2.1) (by decide) (by decide) ?_
        show Steps p.tables e below (T28.setTop (mkF m 72 #[vr a1, vi p2, vr a3, vi (0 : Int32), vi (3 : Int32), vi (1 : Int32), vj ((((0 : Int64) ||| (((((mf 0)).toInt64) <<< ((0 : Int32) &&& 0x3f).toInt64))) ||| (((((mf 1)).toInt64) <<< (((0 : Int32) + p2) &&& 0x3f).toInt64))) ||| (((((mf 2)).toInt64) <<< ((((0 : Int32) + p2) + p2) &&& 0x3f).toInt64))), .second, vi ((((0 : Int32) + p2) + p2) + p2)] [])) _
        exact X28.returnOut hx Bd.returns (hb hby d10_72) hr
      · show Qpk Z a1 p2 a3 k1 k3 mf g n1 h0 n0 _ T28.heap _
        rw [e28]
        exact ⟨rfl, N28, K30, (by rw [own_pk, if_neg hf1]; exact V28)⟩
    · obtain ⟨cl33, Ar33, -, sz33, -, -⟩ := id A_a1
      have le33 : cl33.slots.size.toInt32 = (3 : Int32) := by rw [sz33]; exact rfl
      obtain ⟨cl34, Ar34, kc34, sz34, -, -⟩ := id A_a3
      have hin34 : ¬ ((0 : Int32) < 0 ∨ cl34.slots.size ≤ ((0 : Int32)).toNatClampNeg) := AV.inb sz34 (own_in0 hn)
      obtain ⟨T34, h34, X34, e34, W34, st34⟩ := stJ X0 hx hZ e0 Ar34 (j := (0 : Int32)) hin34 (g := (mkF m 65 #[vr a1, vi p2, vr a3, vi (0 : Int32), vi (3 : Int32), vi (0 : Int32), vj ((((0 : Int64) ||| (((((mf 0)).toInt64) <<< ((0 : Int32) &&& 0x3f).toInt64))) ||| (((((mf 1)).toInt64) <<< (((0 : Int32) + p2) &&& 0x3f).toInt64))) ||| (((((mf 2)).toInt64) <<< ((((0 : Int32) + p2) + p2) &&& 0x3f).toInt64))), .second, vi ((((0 : Int32) + p2) + p2) + p2)] [(.long ((((0 : Int64) ||| (((((mf 0)).toInt64) <<< ((0 : Int32) &&& 0x3f).toInt64))) ||| (((((mf 1)).toInt64) <<< (((0 : Int32) + p2) &&& 0x3f).toInt64))) ||| (((((mf 2)).toInt64) <<< ((((0 : Int32) + p2) + p2) &&& 0x3f).toInt64)))), (.int (0 : Int32)), (.ref a3)])) rfl rfl (hb hby d10_65)
      have z35 : n0 ≤ h34.size := Nat.le_trans Z0 (Keep.of_wr W34).1
      have K36 : Keep h0 h34 [a3] := K0.wr W34 (Or.inl (List.mem_of_getElem? (i := 0) rfl))
      have V34 : AV Z h34 a3 k3 .long n1 (fun i => Value.long ((updJ g 0 ((((0 : Int64) ||| (((((mf 0)).toInt64) <<< ((0 : Int32) &&& 0x3f).toInt64))) ||| (((((mf 1)).toInt64) <<< (((0 : Int32) + p2) &&& 0x3f).toInt64))) ||| (((((mf 2)).toInt64) <<< ((((0 : Int32) + p2) + p2) &&& 0x3f).toInt64)))) i)) := AV.putJ A_a3 W34 (AV.inx (own_in0 hn))
      have N34 := Fr.snoc X34 N0 g_a3
      have f38 : AV Z h34 a1 k1 .int 3 (fun i => Value.int (mf i)) := (A_a1.other W34 ne_a1_a3)
      obtain ⟨cl37, Ar37, -, sz37, -, -⟩ := id f38
      have le37 : cl37.slots.size.toInt32 = (3 : Int32) := by rw [sz37]; exact rfl
      obtain ⟨fs, hr, hrun, hended, hW, hsame⟩ := X34.leave (v := none) (fun _ => rfl)
      refine ⟨_, _, ?_, hrun, hended, _, _, rfl, ?_, ⟨_, rfl⟩, hW, hsame.mono (by decide) (by decide)⟩
      · show Steps p.tables e below (s₁.setTop (mkF m 25 #[vr a1, vi p2, vr a3, vi (0 : Int32), vi (3 : Int32), vi (0 : Int32), vj ((((0 : Int64) ||| (((((mf 0)).toInt64) <<< ((0 : Int32) &&& 0x3f).toInt64))) ||| (((((mf 1)).toInt64) <<< (((0 : Int32) + p2) &&& 0x3f).toInt64))) ||| (((((mf 2)).toInt64) <<< ((((0 : Int32) + p2) + p2) &&& 0x3f).toInt64))), .second, vi ((((0 : Int32) + p2) + p2) + p2)] [(.int (64 : Int32)), (.int (((((0 : Int32) + p2) + p2) + p2) + p2))])) _
        refine XS.icmpNo X0.here hx rfl (hb hby d10_25) rfl ((flt hc25_27).2.2.1) ?_
        refine XS.iload X0.here hx rfl (hb hby d10_28) rfl ?_
        refine XS.aloadN X0.here hx rfl (hb hby d10_30) rfl rfl ?_
        refine X0.arraylength hx (by rw [e0]; exact Ar33.1) (State.isArrayOf_alike hZ.alike Ar33.2.1) (g := (mkF m 31 #[vr a1, vi p2, vr a3, vi (0 : Int32), vi (3 : Int32), vi (0 : Int32), vj ((((0 : Int64) ||| (((((mf 0)).toInt64) <<< ((0 : Int32) &&& 0x3f).toInt64))) ||| (((((mf 1)).toInt64) <<< (((0 : Int32) + p2) &&& 0x3f).toInt64))) ||| (((((mf 2)).toInt64) <<< ((((0 : Int32) + p2) + p2) &&& 0x3f).toInt64))), .second, vi ((((0 : Int32) + p2) + p2) + p2)] [(.ref a1), (.int (3 : Int32))])) rfl rfl (hb hby d10_31) _ ?_
        rw [le33]
        refine XS.icmpYes X0.here hx rfl (pc0 := 32) (pc' := 60) rfl (hb hby d10_32) rfl ((flt (by decide : ¬ ((3 : Int32) < (3 : Int32)))).2.1) (by decide) (by decide) ?_
        show Steps p.tables e below (s₁.setTop (mkF m 60 #[vr a1, vi p2, vr a3, vi (0 : Int32), vi (3 : Int32), vi (0 : Int32), vj ((((0 : Int64) ||| (((((mf 0)).toInt64) <<< ((0 : Int32) &&& 0x3f).toInt64))) ||| (((((mf 1)).toInt64) <<< (((0 : Int32) + p2) &&& 0x3f).toInt64))) ||| (((((mf 2)).toInt64) <<< ((((0 : Int32) + p2) + p2) &&& 0x3f).toInt64))), .second, vi ((((0 : Int32) + p2) + p2) + p2)] [])) _
        refine XS.aloadN X0.here hx rfl (hb hby d10_60) rfl rfl ?_
        refine XS.iload X0.here hx rfl (hb hby d10_61) rfl ?_
        refine XS.lload X0.here hx rfl (hb hby d10_63) rfl ?_
        refine st34 _ ?_
        refine XS.iinc X34.here hx rfl (hb hby d10_66) rfl (l' := #[vr a1, vi p2, vr a3, vi (0 : Int32), vi (3 : Int32), vi (1 : Int32), vj ((((0 : Int64) ||| (((((mf 0)).toInt64) <<< ((0 : Int32) &&& 0x3f).toInt64))) ||| (((((mf 1)).toInt64) <<< (((0 : Int32) + p2) &&& 0x3f).toInt64))) ||| (((((mf 2)).toInt64) <<< ((((0 : Int32) + p2) + p2) &&& 0x3f).toInt64))), .second, vi ((((0 : Int32) + p2) + p2) + p2)]) rfl ?_
        refine XS.goto X34.here hx rfl (pc0 := 69) (pc' := 6) rfl (hb hby d10_69) (by decide) (by decide) ?_
        show Steps p.tables e below (T34.setTop (mkF m 6 #[vr a1, vi p2, vr a3, vi (0 : Int32), vi (3 : Int32), vi (1 : Int32), vj ((((0 : Int64) ||| (((((mf 0)).toInt64) <<< ((0 : Int32) &&& 0x3f).toInt64))) ||| (((((mf 1)).toInt64) <<< (((0 : Int32) + p2) &&& 0x3f).toInt64))) ||| (((((mf 2)).toInt64) <<< ((((0 : Int32) + p2) + p2) &&& 0x3f).toInt64))), .second, vi ((((0 : Int32) + p2) + p2) + p2)] [])) _
        refine XS.iload X34.here hx rfl (hb hby d10_6) rfl ?_
        refine XS.aloadN X34.here hx rfl (hb hby d10_8) rfl rfl ?_
        refine X34.arraylength hx (by rw [e34]; exact Ar37.1) (State.isArrayOf_alike hZ.alike Ar37.2.1) (g := (mkF m 9 #[vr a1, vi p2, vr a3, vi (0 : Int32), vi (3 : Int32), vi (1 : Int32), vj ((((0 : Int64) ||| (((((mf 0)).toInt64) <<< ((0 : Int32) &&& 0x3f).toInt64))) ||| (((((mf 1)).toInt64) <<< (((0 : Int32) + p2) &&& 0x3f).toInt64))) ||| (((((mf 2)).toInt64) <<< ((((0 : Int32) + p2) + p2) &&& 0x3f).toInt64))), .second, vi ((((0 : Int32) + p2) + p2) + p2)] [(.ref a1), (.int (3 : Int32))])) rfl rfl (hb hby d10_9) _ ?_
        rw [le37]
        refine XS.icmpYes X34.here hx rfl (pc0 := 10) (pc' := 72) rfl (hb hby d10_10) rfl ((flt (by decide : ¬ ((3 : Int32) < (3 : Int32)))).2.1) (by decide) (by decide) ?_
        exact X34.returnOut hx Bd.returns (hb hby d10_72) hr
      · show Qpk Z a1 p2 a3 k1 k3 mf g n1 h0 n0 _ T34.heap _
        rw [e34]
        exact ⟨rfl, N34, K36, (by rw [own_pk, if_neg hf1]; exact V34)⟩
theorem d14_0 : decode prog_21_method_14_code 0 = .ok (.lconst 1, 1) := by decide +kernel
theorem d14_1 : decode prog_21_method_14_code 1 = .ok (.iload_n 2, 1) := by decide +kernel
theorem d14_2 : decode prog_21_method_14_code 2 = .ok (.lshl, 1) := by decide +kernel
theorem d14_3 : decode prog_21_method_14_code 3 = .ok (.lconst 1, 1) := by decide +kernel
theorem d14_4 : decode prog_21_method_14_code 4 = .ok (.lsub, 1) := by decide +kernel
theorem d14_5 : decode prog_21_method_14_code 5 = .ok (.lstore 4, 2) := by decide +kernel
theorem d14_7 : decode prog_21_method_14_code 7 = .ok (.iconst 0, 1) := by decide +kernel
theorem d14_8 : decode prog_21_method_14_code 8 = .ok (.istore 6, 2) := by decide +kernel
theorem d14_10 : decode prog_21_method_14_code 10 = .ok (.iload_n 1, 1) := by decide +kernel
theorem d14_11 : decode prog_21_method_14_code 11 = .ok (.istore 7, 2) := by decide +kernel
theorem d14_13 : decode prog_21_method_14_code 13 = .ok (.iload 6, 2) := by decide +kernel
theorem d14_15 : decode prog_21_method_14_code 15 = .ok (.aload_n 3, 1) := by decide +kernel
theorem d14_16 : decode prog_21_method_14_code 16 = .ok (.arraylength, 1) := by decide +kernel
theorem d14_17 : decode prog_21_method_14_code 17 = .ok (.if_icmp .ge 59, 3) := by decide +kernel
theorem d14_20 : decode prog_21_method_14_code 20 = .ok (.aload_n 0, 1) := by decide +kernel
theorem d14_21 : decode prog_21_method_14_code 21 = .ok (.iload 7, 2) := by decide +kernel
theorem d14_23 : decode prog_21_method_14_code 23 = .ok (.laload, 1) := by decide +kernel
theorem d14_24 : decode prog_21_method_14_code 24 = .ok (.lstore 8, 2) := by decide +kernel
theorem d14_26 : decode prog_21_method_14_code 26 = .ok (.iconst 0, 1) := by decide +kernel
theorem d14_27 : decode prog_21_method_14_code 27 = .ok (.istore 10, 2) := by decide +kernel
theorem d14_29 : decode prog_21_method_14_code 29 = .ok (.iload 10, 2) := by decide +kernel
theorem d14_31 : decode prog_21_method_14_code 31 = .ok (.iload_n 2, 1) := by decide +kernel
theorem d14_32 : decode prog_21_method_14_code 32 = .ok (.iadd, 1) := by decide +kernel
theorem d14_33 : decode prog_21_method_14_code 33 = .ok (.bipush 64, 2) := by decide +kernel
theorem d14_35 : decode prog_21_method_14_code 35 = .ok (.if_icmp .gt 35, 3) := by decide +kernel
theorem d14_38 : decode prog_21_method_14_code 38 = .ok (.iload 6, 2) := by decide +kernel
theorem d14_40 : decode prog_21_method_14_code 40 = .ok (.aload_n 3, 1) := by decide +kernel
theorem d14_41 : decode prog_21_method_14_code 41 = .ok (.arraylength, 1) := by decide +kernel
theorem d14_42 : decode prog_21_method_14_code 42 = .ok (.if_icmp .ge 28, 3) := by decide +kernel
theorem d14_45 : decode prog_21_method_14_code 45 = .ok (.aload_n 3, 1) := by decide +kernel
theorem d14_46 : decode prog_21_method_14_code 46 = .ok (.iload 6, 2) := by decide +kernel
theorem d14_48 : decode prog_21_method_14_code 48 = .ok (.iinc 6 1, 3) := by decide +kernel
theorem d14_51 : decode prog_21_method_14_code 51 = .ok (.lload 8, 2) := by decide +kernel
theorem d14_53 : decode prog_21_method_14_code 53 = .ok (.iload 10, 2) := by decide +kernel
theorem d14_55 : decode prog_21_method_14_code 55 = .ok (.lushr, 1) := by decide +kernel
theorem d14_56 : decode prog_21_method_14_code 56 = .ok (.lload 4, 2) := by decide +kernel
theorem d14_58 : decode prog_21_method_14_code 58 = .ok (.land, 1) := by decide +kernel
theorem d14_59 : decode prog_21_method_14_code 59 = .ok (.l2i, 1) := by decide +kernel
theorem d14_60 : decode prog_21_method_14_code 60 = .ok (.iastore, 1) := by decide +kernel
theorem d14_61 : decode prog_21_method_14_code 61 = .ok (.iload 10, 2) := by decide +kernel
theorem d14_63 : decode prog_21_method_14_code 63 = .ok (.iload_n 2, 1) := by decide +kernel
theorem d14_64 : decode prog_21_method_14_code 64 = .ok (.iadd, 1) := by decide +kernel
theorem d14_65 : decode prog_21_method_14_code 65 = .ok (.istore 10, 2) := by decide +kernel
theorem d14_67 : decode prog_21_method_14_code 67 = .ok (.goto (-38), 3) := by decide +kernel
theorem d14_70 : decode prog_21_method_14_code 70 = .ok (.iinc 7 1, 3) := by decide +kernel
theorem d14_73 : decode prog_21_method_14_code 73 = .ok (.goto (-60), 3) := by decide +kernel
theorem d14_76 : decode prog_21_method_14_code 76 = .ok (.return_, 1) := by decide +kernel
theorem ef_rmun (m : MethodId) (a1 : Addr) (p2 : Int32) (p3 : Int32) (a4 : Addr) : entryFrame m #[(.ref a1), (.int p2), (.int p3), (.ref a4)] 11 = mkF m 0 #[vr a1, vi p2, vi p3, vr a4, .unset, .unset, .unset, .unset, .unset, .unset, .unset] [] := by first | (simp [entryFrame, mkF, argsToLocals, Value.category]; done) | rfl
def Qun (Z : State) (a1 : Addr) (p2 : Int32) (p3 : Int32) (a4 : Addr) (k1 : ClassId) (k4 : ClassId) (f1 : Nat → Int64) (g : Nat → Int32) (n1 : Nat) (h0 : Heap) (n0 : Nat) (v : Option Value) (h : Heap) (L : List Loc) : Prop := v = none ∧ Fr n0 L ∧ Keep h0 h [a4] ∧ (AV Z h a4 k4 .int 3 (fun i => Value.int ((own_un p3 (f1 (p2).toNatClampNeg) (f1 ((p2 + (1 : Int32))).toNatClampNeg)) i)))
set_option maxRecDepth 65536 in
set_option maxHeartbeats 40000000 in
theorem rmun (l : Launch) (Z : State) (a0 : Array Value) (hw : ∀ d ∈ tables_1, d.before a0 Z = true) (ws : List Jvm.Cond) (a1 : Addr) (p2 : Int32) (p3 : Int32) (a4 : Addr) (k1 : ClassId) (k4 : ClassId) (f1 : Nat → Int64) (g : Nat → Int32) (n1 : Nat) (h0 : Heap) (n0 : Nat) (Z0 : n0 ≤ h0.size) (A_a1 : AV Z h0 a1 k1 .long n1 (fun i => Value.long (f1 i))) (A_a4 : AV Z h0 a4 k4 .int 3 (fun i => Value.int (g i))) (ne_a1_a4 : a1 ≠ a4) (g_a4 : n0 ≤ a4) (hB : own_B p3) (hi0 : ¬ p2 < 0 ∧ (p2).toNatClampNeg < n1) (hi1 : (21 : Int32) < p3 → ¬ (p2 + (1 : Int32)) < 0 ∧ (p2 + (1 : Int32)).toNatClampNeg < n1) :
    MetFree l (⟨"com/example/always_over_paths/alwaysoverpaths/explicit/MarkingTable", "unpack", "([JII[I)V"⟩ : MethodName) (head1 (Jvm.Cond.code (⟨"com/example/always_over_paths/alwaysoverpaths/explicit/MarkingTable", "unpack", "([JII[I)V"⟩ : MethodName) prog_21_method_14_code 11 none :: ws) ({ frames := 0, cells := 0, slots := 0, locals := 0 } : Room)) (fun a U => a = #[(.ref a1), (.int p2), (.int p3), (.ref a4)] ∧ Z.Warmed39 U.vm ∧ U.heap = h0) (fun _ _ _ _ _ => True) (fun _ U o U' => ∃ v L, o = .returned v ∧ Qun Z a1 p2 p3 a4 k1 k4 f1 g n1 h0 n0 v U'.heap L ∧ FrameEnd U o U' L ({ frames := 0, cells := 0, slots := 0, locals := 0 } : Room).cells ({ frames := 0, cells := 0, slots := 0, locals := 0 } : Room).slots) := by
  refine MetFree.of_bodySF (plainFor_of_name pn_1) hisR ?_
  intro p e s m args below meth c s₁ Bd hml0 hP hK
  obtain ⟨rfl, hZ, hh⟩ := hP
  have hx := Bd.exec
  have hby := Bd.bytes
  have hml : c.maxLocals = 11 := hml0
  have hown : s.vm.findClass "com/example/always_over_paths/alwaysoverpaths/explicit/MarkingTable" = some m.cls := findClass_of_methodNamed Bd.named
  have hnm := (name_of_methodNamed Bd.named Bd.method).1
  have X0 : Stand p l e ({ frames := 0, cells := 0, slots := 0, locals := 0 } : Room) s m #[(.ref a1), (.int p2), (.int p3), (.ref a4)] below meth c s₁ [] 0 0 := Stand.of_body Bd
  have e0 : s₁.heap = h0 := by rw [← hh, Bd.state]; rfl
  have N0 := Fr.nil n0
  show GoalS p.tables e below s ({ frames := 0, cells := 0, slots := 0, locals := 0 } : Room).cells ({ frames := 0, cells := 0, slots := 0, locals := 0 } : Room).slots (Qun Z a1 p2 p3 a4 k1 k4 f1 g n1 h0 n0) (s₁.setTop (entryFrame m #[(.ref a1), (.int p2), (.int p3), (.ref a4)] 11))
  refine GoalS.lift (B := s₁.setTop (mkF m 0 #[vr a1, vi p2, vi p3, vr a4, .unset, .unset, .unset, .unset, .unset, .unset, .unset] [])) (fun t k => castTop (ef_rmun m a1 p2 p3 a4) k) ?_
  have K0 : Keep h0 h0 [a4] := Keep.refl _ _
  by_cases hf1 : (21 : Int32) < p3
  · obtain ⟨cl2, Ar2, -, sz2, -, -⟩ := id A_a4
    have le2 : cl2.slots.size.toInt32 = (3 : Int32) := by rw [sz2]; exact rfl
    obtain ⟨cl3, Ar3, kc3, sz3, -, hv3⟩ := id A_a1
    have hin3 : ¬ (p2 < 0 ∨ cl3.slots.size ≤ (p2).toNatClampNeg) := AV.inb sz3 hi0
    have hat3 : cl3.slots[(p2).toNatClampNeg]? = some (.long (f1 (p2).toNatClampNeg)) := (hv3 _ (AV.inx hi0)).trans (congrArg some rfl)
    obtain ⟨cl4, Ar4, -, sz4, -, -⟩ := id A_a4
    have le4 : cl4.slots.size.toInt32 = (3 : Int32) := by rw [sz4]; exact rfl
    obtain ⟨cl5, Ar5, kc5, sz5, -, -⟩ := id A_a4
    have hin5 : ¬ ((0 : Int32) < 0 ∨ cl5.slots.size ≤ ((0 : Int32)).toNatClampNeg) := AV.inb sz5 (show ¬ (0 : Int32) < 0 ∧ ((0 : Int32)).toNatClampNeg < 3 by decide)
    obtain ⟨T5, h5, X5, e5, W5, st5⟩ := stI X0 hx hZ e0 Ar5 (j := (0 : Int32)) hin5 (g := (mkF m 60 #[vr a1, vi p2, vi p3, vr a4, vj ((((1 : Int64) <<< (p3 &&& 0x3f).toInt64)) - (1 : Int64)), .second, vi (1 : Int32), vi p2, vj (f1 (p2).toNatClampNeg), .second, vi (0 : Int32)] [(.int (((((((f1 (p2).toNatClampNeg)).toUInt64 >>> ((0 : Int32) &&& 0x3f).toInt64.toUInt64).toInt64) &&& ((((1 : Int64) <<< (p3 &&& 0x3f).toInt64)) - (1 : Int64)))).toInt32)), (.int (0 : Int32)), (.ref a4)])) rfl rfl (hb hby d14_60)
    have z6 : n0 ≤ h5.size := Nat.le_trans Z0 (Keep.of_wr W5).1
    have K7 : Keep h0 h5 [a4] := K0.wr W5 (Or.inl (List.mem_of_getElem? (i := 0) rfl))
    have V5 : AV Z h5 a4 k4 .int 3 (fun i => Value.int ((updI g 0 (((((((f1 (p2).toNatClampNeg)).toUInt64 >>> ((0 : Int32) &&& 0x3f).toInt64.toUInt64).toInt64) &&& ((((1 : Int64) <<< (p3 &&& 0x3f).toInt64)) - (1 : Int64)))).toInt32)) i)) := AV.putI A_a4 W5 (AV.inx (show ¬ (0 : Int32) < 0 ∧ ((0 : Int32)).toNatClampNeg < 3 by decide))
    have N5 := Fr.snoc X5 N0 g_a4
    obtain ⟨cl8, Ar8, -, sz8, -, -⟩ := id V5
    have le8 : cl8.slots.size.toInt32 = (3 : Int32) := by rw [sz8]; exact rfl
    obtain ⟨cl9, Ar9, kc9, sz9, -, -⟩ := id V5
    have hin9 : ¬ ((1 : Int32) < 0 ∨ cl9.slots.size ≤ ((1 : Int32)).toNatClampNeg) := AV.inb sz9 (show ¬ (1 : Int32) < 0 ∧ ((1 : Int32)).toNatClampNeg < 3 by decide)
    obtain ⟨T9, h9, X9, e9, W9, st9⟩ := stI X5 hx hZ e5 Ar9 (j := (1 : Int32)) hin9 (g := (mkF m 60 #[vr a1, vi p2, vi p3, vr a4, vj ((((1 : Int64) <<< (p3 &&& 0x3f).toInt64)) - (1 : Int64)), .second, vi (2 : Int32), vi p2, vj (f1 (p2).toNatClampNeg), .second, vi ((0 : Int32) + p3)] [(.int (((((((f1 (p2).toNatClampNeg)).toUInt64 >>> (((0 : Int32) + p3) &&& 0x3f).toInt64.toUInt64).toInt64) &&& ((((1 : Int64) <<< (p3 &&& 0x3f).toInt64)) - (1 : Int64)))).toInt32)), (.int (1 : Int32)), (.ref a4)])) rfl rfl (hb hby d14_60)
    have z10 : n0 ≤ h9.size := Nat.le_trans z6 (Keep.of_wr W9).1
    have K11 : Keep h0 h9 [a4] := K7.wr W9 (Or.inl (List.mem_of_getElem? (i := 0) rfl))
    have V9 : AV Z h9 a4 k4 .int 3 (fun i => Value.int ((updI (updI g 0 (((((((f1 (p2).toNatClampNeg)).toUInt64 >>> ((0 : Int32) &&& 0x3f).toInt64.toUInt64).toInt64) &&& ((((1 : Int64) <<< (p3 &&& 0x3f).toInt64)) - (1 : Int64)))).toInt32)) 1 (((((((f1 (p2).toNatClampNeg)).toUInt64 >>> (((0 : Int32) + p3) &&& 0x3f).toInt64.toUInt64).toInt64) &&& ((((1 : Int64) <<< (p3 &&& 0x3f).toInt64)) - (1 : Int64)))).toInt32)) i)) := AV.putI V5 W9 (AV.inx (show ¬ (1 : Int32) < 0 ∧ ((1 : Int32)).toNatClampNeg < 3 by decide))
    have N9 := Fr.snoc X9 N5 g_a4
    obtain ⟨cl12, Ar12, -, sz12, -, -⟩ := id V9
    have le12 : cl12.slots.size.toInt32 = (3 : Int32) := by rw [sz12]; exact rfl
    have f14 : AV Z h9 a1 k1 .long n1 (fun i => Value.long (f1 i)) := ((A_a1.other W5 ne_a1_a4).other W9 ne_a1_a4)
    obtain ⟨cl13, Ar13, kc13, sz13, -, hv13⟩ := id f14
    have hin13 : ¬ ((p2 + (1 : Int32)) < 0 ∨ cl13.slots.size ≤ ((p2 + (1 : Int32))).toNatClampNeg) := AV.inb sz13 (hi1 hf1)
    have hat13 : cl13.slots[((p2 + (1 : Int32))).toNatClampNeg]? = some (.long (f1 ((p2 + (1 : Int32))).toNatClampNeg)) := (hv13 _ (AV.inx (hi1 hf1))).trans (congrArg some rfl)
    obtain ⟨cl15, Ar15, -, sz15, -, -⟩ := id V9
    have le15 : cl15.slots.size.toInt32 = (3 : Int32) := by rw [sz15]; exact rfl
    obtain ⟨cl16, Ar16, kc16, sz16, -, -⟩ := id V9
    have hin16 : ¬ ((2 : Int32) < 0 ∨ cl16.slots.size ≤ ((2 : Int32)).toNatClampNeg) := AV.inb sz16 (show ¬ (2 : Int32) < 0 ∧ ((2 : Int32)).toNatClampNeg < 3 by decide)
    obtain ⟨T16, h16, X16, e16, W16, st16⟩ := stI X9 hx hZ e9 Ar16 (j := (2 : Int32)) hin16 (g := (mkF m 60 #[vr a1, vi p2, vi p3, vr a4, vj ((((1 : Int64) <<< (p3 &&& 0x3f).toInt64)) - (1 : Int64)), .second, vi (3 : Int32), vi (p2 + (1 : Int32)), vj (f1 ((p2 + (1 : Int32))).toNatClampNeg), .second, vi (0 : Int32)] [(.int (((((((f1 ((p2 + (1 : Int32))).toNatClampNeg)).toUInt64 >>> ((0 : Int32) &&& 0x3f).toInt64.toUInt64).toInt64) &&& ((((1 : Int64) <<< (p3 &&& 0x3f).toInt64)) - (1 : Int64)))).toInt32)), (.int (2 : Int32)), (.ref a4)])) rfl rfl (hb hby d14_60)
    have z17 : n0 ≤ h16.size := Nat.le_trans z10 (Keep.of_wr W16).1
    have K18 : Keep h0 h16 [a4] := K11.wr W16 (Or.inl (List.mem_of_getElem? (i := 0) rfl))
    have V16 : AV Z h16 a4 k4 .int 3 (fun i => Value.int ((updI (updI (updI g 0 (((((((f1 (p2).toNatClampNeg)).toUInt64 >>> ((0 : Int32) &&& 0x3f).toInt64.toUInt64).toInt64) &&& ((((1 : Int64) <<< (p3 &&& 0x3f).toInt64)) - (1 : Int64)))).toInt32)) 1 (((((((f1 (p2).toNatClampNeg)).toUInt64 >>> (((0 : Int32) + p3) &&& 0x3f).toInt64.toUInt64).toInt64) &&& ((((1 : Int64) <<< (p3 &&& 0x3f).toInt64)) - (1 : Int64)))).toInt32)) 2 (((((((f1 ((p2 + (1 : Int32))).toNatClampNeg)).toUInt64 >>> ((0 : Int32) &&& 0x3f).toInt64.toUInt64).toInt64) &&& ((((1 : Int64) <<< (p3 &&& 0x3f).toInt64)) - (1 : Int64)))).toInt32)) i)) := AV.putI V9 W16 (AV.inx (show ¬ (2 : Int32) < 0 ∧ ((2 : Int32)).toNatClampNeg < 3 by decide))
    have N16 := Fr.snoc X16 N9 g_a4
    obtain ⟨cl19, Ar19, -, sz19, -, -⟩ := id V16
    have le19 : cl19.slots.size.toInt32 = (3 : Int32) := by rw [sz19]; exact rfl
    obtain ⟨cl20, Ar20, -, sz20, -, -⟩ := id V16
    have le20 : cl20.slots.size.toInt32 = (3 : Int32) := by rw [sz20]; exact rfl
    obtain ⟨fs, hr, hrun, hended, hW, hsame⟩ := X16.leave (v := none) (fun _ => rfl)
    refine ⟨_, _, ?_, hrun, hended, _, _, rfl, ?_, ⟨_, rfl⟩, hW, hsame.mono (by decide) (by decide)⟩
    · show Steps p.tables e below (s₁.setTop (mkF m 0 #[vr a1, vi p2, vi p3, vr a4, .unset, .unset, .unset, .unset, .unset, .unset, .unset] [])) _
      refine XS.lconst X0.here hx rfl (hb hby d14_0) ?_
      refine XS.iloadN X0.here hx rfl (hb hby d14_1) rfl ?_
      refine XS.lshl X0.here hx rfl (hb hby d14_2) rfl ?_
      refine XS.lconst X0.here hx rfl (hb hby d14_3) ?_
      refine XS.lsub X0.here hx rfl (hb hby d14_4) rfl ?_
      refine XS.lstore X0.here hx rfl (hb hby d14_5) rfl (l' := #[vr a1, vi p2, vi p3, vr a4, vj ((((1 : Int64) <<< (p3 &&& 0x3f).toInt64)) - (1 : Int64)), .second, .unset, .unset, .unset, .unset, .unset]) rfl ?_
      show Steps p.tables e below (s₁.setTop (mkF m 7 #[vr a1, vi p2, vi p3, vr a4, vj ((((1 : Int64) <<< (p3 &&& 0x3f).toInt64)) - (1 : Int64)), .second, .unset, .unset, .unset, .unset, .unset] [])) _
      refine XS.iconst X0.here hx rfl (hb hby d14_7) ?_
      refine XS.istore X0.here hx rfl (hb hby d14_8) rfl (l' := #[vr a1, vi p2, vi p3, vr a4, vj ((((1 : Int64) <<< (p3 &&& 0x3f).toInt64)) - (1 : Int64)), .second, vi (0 : Int32), .unset, .unset, .unset, .unset]) rfl ?_
      refine XS.iloadN X0.here hx rfl (hb hby d14_10) rfl ?_
      refine XS.istore X0.here hx rfl (hb hby d14_11) rfl (l' := #[vr a1, vi p2, vi p3, vr a4, vj ((((1 : Int64) <<< (p3 &&& 0x3f).toInt64)) - (1 : Int64)), .second, vi (0 : Int32), vi p2, .unset, .unset, .unset]) rfl ?_
      refine XS.iload X0.here hx rfl (hb hby d14_13) rfl ?_
      refine XS.aloadN X0.here hx rfl (hb hby d14_15) rfl rfl ?_
      show Steps p.tables e below (s₁.setTop (mkF m 16 #[vr a1, vi p2, vi p3, vr a4, vj ((((1 : Int64) <<< (p3 &&& 0x3f).toInt64)) - (1 : Int64)), .second, vi (0 : Int32), vi p2, .unset, .unset, .unset] [(.ref a4), (.int (0 : Int32))])) _
      refine X0.arraylength hx (by rw [e0]; exact Ar2.1) (State.isArrayOf_alike hZ.alike Ar2.2.1) (g := (mkF m 16 #[vr a1, vi p2, vi p3, vr a4, vj ((((1 : Int64) <<< (p3 &&& 0x3f).toInt64)) - (1 : Int64)), .second, vi (0 : Int32), vi p2, .unset, .unset, .unset] [(.ref a4), (.int (0 : Int32))])) rfl rfl (hb hby d14_16) _ ?_
      rw [le2]
      refine XS.icmpNo X0.here hx rfl (hb hby d14_17) rfl ((tlt (by decide : (0 : Int32) < (3 : Int32))).2.1) ?_
      refine XS.aloadN X0.here hx rfl (hb hby d14_20) rfl rfl ?_
      refine XS.iload X0.here hx rfl (hb hby d14_21) rfl ?_
      refine X0.laload hx (j := p2) (v := (.long (f1 (p2).toNatClampNeg))) (by rw [e0]; exact Ar3.1) (State.isArrayOf_alike hZ.alike Ar3.2.1) Ar3.2.2 hin3 hat3 (g := (mkF m 23 #[vr a1, vi p2, vi p3, vr a4, vj ((((1 : Int64) <<< (p3 &&& 0x3f).toInt64)) - (1 : Int64)), .second, vi (0 : Int32), vi p2, .unset, .unset, .unset] [(.int p2), (.ref a1)])) rfl rfl (hb hby d14_23) _ ?_
      show Steps p.tables e below (s₁.setTop (mkF m 24 #[vr a1, vi p2, vi p3, vr a4, vj ((((1 : Int64) <<< (p3 &&& 0x3f).toInt64)) - (1 : Int64)), .second, vi (0 : Int32), vi p2, .unset, .unset, .unset] [(.long (f1 (p2).toNatClampNeg))])) _
      refine XS.lstore X0.here hx rfl (hb hby d14_24) rfl (l' := #[vr a1, vi p2, vi p3, vr a4, vj ((((1 : Int64) <<< (p3 &&& 0x3f).toInt64)) - (1 : Int64)), .second, vi (0 : Int32), vi p2, vj (f1 (p2).toNatClampNeg), .second, .unset]) rfl ?_
      refine XS.iconst X0.here hx rfl (hb hby d14_26) ?_
      refine XS.istore X0.here hx rfl (hb hby d14_27) rfl (l' := #[vr a1, vi p2, vi p3, vr a4, vj ((((1 : Int64) <<< (p3 &&& 0x3f).toInt64)) - (1 : Int64)), .second, vi (0 : Int32), vi p2, vj (f1 (p2).toNatClampNeg), .second, vi (0 : Int32)]) rfl ?_
      refine XS.iload X0.here hx rfl (hb hby d14_29) rfl ?_
      refine XS.iloadN X0.here hx rfl (hb hby d14_31) rfl ?_
      refine XS.iadd X0.here hx rfl (hb hby d14_32) rfl ?_
      show Steps p.tables e below (s₁.setTop (mkF m 33 #[vr a1, vi p2, vi p3, vr a4, vj ((((1 : Int64) <<< (p3 &&& 0x3f).toInt64)) - (1 : Int64)), .second, vi (0 : Int32), vi p2, vj (f1 (p2).toNatClampNeg), .second, vi (0 : Int32)] [(.int ((0 : Int32) + p3))])) _
      refine XS.bipush X0.here hx rfl (hb hby d14_33) ?_
      refine XS.icmpNo X0.here hx rfl (hb hby d14_35) rfl ((flt (own_le1 hB : ¬ ((64 : Int32) < ((0 : Int32) + p3)))).2.2.1) ?_
      refine XS.iload X0.here hx rfl (hb hby d14_38) rfl ?_
      refine XS.aloadN X0.here hx rfl (hb hby d14_40) rfl rfl ?_
      refine X0.arraylength hx (by rw [e0]; exact Ar4.1) (State.isArrayOf_alike hZ.alike Ar4.2.1) (g := (mkF m 41 #[vr a1, vi p2, vi p3, vr a4, vj ((((1 : Int64) <<< (p3 &&& 0x3f).toInt64)) - (1 : Int64)), .second, vi (0 : Int32), vi p2, vj (f1 (p2).toNatClampNeg), .second, vi (0 : Int32)] [(.ref a4), (.int (0 : Int32))])) rfl rfl (hb hby d14_41) _ ?_
      rw [le4]
      show Steps p.tables e below (s₁.setTop (mkF m 42 #[vr a1, vi p2, vi p3, vr a4, vj ((((1 : Int64) <<< (p3 &&& 0x3f).toInt64)) - (1 : Int64)), .second, vi (0 : Int32), vi p2, vj (f1 (p2).toNatClampNeg), .second, vi (0 : Int32)] [(.int (3 : Int32)), (.int (0 : Int32))])) _
      refine XS.icmpNo X0.here hx rfl (hb hby d14_42) rfl ((tlt (by decide : (0 : Int32) < (3 : Int32))).2.1) ?_
      refine XS.aloadN X0.here hx rfl (hb hby d14_45) rfl rfl ?_
      refine XS.iload X0.here hx rfl (hb hby d14_46) rfl ?_
      refine XS.iinc X0.here hx rfl (hb hby d14_48) rfl (l' := #[vr a1, vi p2, vi p3, vr a4, vj ((((1 : Int64) <<< (p3 &&& 0x3f).toInt64)) - (1 : Int64)), .second, vi (1 : Int32), vi p2, vj (f1 (p2).toNatClampNeg), .second, vi (0 : Int32)]) rfl ?_
      refine XS.lload X0.here hx rfl (hb hby d14_51) rfl ?_
      refine XS.iload X0.here hx rfl (hb hby d14_53) rfl ?_
      show Steps p.tables e below (s₁.setTop (mkF m 55 #[vr a1, vi p2, vi p3, vr a4, vj ((((1 : Int64) <<< (p3 &&& 0x3f).toInt64)) - (1 : Int64)), .second, vi (1 : Int32), vi p2, vj (f1 (p2).toNatClampNeg), .second, vi (0 : Int32)] [(.int (0 : Int32)), (.long (f1 (p2).toNatClampNeg)), (.int (0 : Int32)), (.ref a4)])) _
      refine XS.lushr X0.here hx rfl (hb hby d14_55) rfl ?_
      refine XS.lload X0.here hx rfl (hb hby d14_56) rfl ?_
      refine XS.land X0.here hx rfl (hb hby d14_58) rfl ?_
      refine XS.l2i X0.here hx rfl (hb hby d14_59) rfl ?_
      refine st5 _ ?_
      refine XS.iload X5.here hx rfl (hb hby d14_61) rfl ?_
      show Steps p.tables e below (T5.setTop (mkF m 63 #[vr a1, vi p2, vi p3, vr a4, vj ((((1 : Int64) <<< (p3 &&& 0x3f).toInt64)) - (1 : Int64)), .second, vi (1 : Int32), vi p2, vj (f1 (p2).toNatClampNeg), .second, vi (0 : Int32)] [(.int (0 : Int32))])) _
      refine XS.iloadN X5.here hx rfl (hb hby d14_63) rfl ?_
      refine XS.iadd X5.here hx rfl (hb hby d14_64) rfl ?_
      refine XS.istore X5.here hx rfl (hb hby d14_65) rfl (l' := #[vr a1, vi p2, vi p3, vr a4, vj ((((1 : Int64) <<< (p3 &&& 0x3f).toInt64)) - (1 : Int64)), .second, vi (1 : Int32), vi p2, vj (f1 (p2).toNatClampNeg), .second, vi ((0 : Int32) + p3)]) rfl ?_
      refine XS.goto X5.here hx rfl (pc0 := 67) (pc' := 29) rfl (hb hby d14_67) (by decide) (by decide) ?_
      refine XS.iload X5.here hx rfl (hb hby d14_29) rfl ?_
      refine XS.iloadN X5.here hx rfl (hb hby d14_31) rfl ?_
      show Steps p.tables e below (T5.setTop (mkF m 32 #[vr a1, vi p2, vi p3, vr a4, vj ((((1 : Int64) <<< (p3 &&& 0x3f).toInt64)) - (1 : Int64)), .second, vi (1 : Int32), vi p2, vj (f1 (p2).toNatClampNeg), .second, vi ((0 : Int32) + p3)] [(.int p3), (.int ((0 : Int32) + p3))])) _
      refine XS.iadd X5.here hx rfl (hb hby d14_32) rfl ?_
      refine XS.bipush X5.here hx rfl (hb hby d14_33) ?_
      refine XS.icmpNo X5.here hx rfl (hb hby d14_35) rfl ((flt (own_le2 hB : ¬ ((64 : Int32) < (((0 : Int32) + p3) + p3)))).2.2.1) ?_
      refine XS.iload X5.here hx rfl (hb hby d14_38) rfl ?_
      refine XS.aloadN X5.here hx rfl (hb hby d14_40) rfl rfl ?_
      refine X5.arraylength hx (by rw [e5]; exact Ar8.1) (State.isArrayOf_alike hZ.alike Ar8.2.1) (g := (mkF m 41 #[vr a1, vi p2, vi p3, vr a4, vj ((((1 : Int64) <<< (p3 &&& 0x3f).toInt64)) - (1 : Int64)), .second, vi (1 : Int32), vi p2, vj (f1 (p2).toNatClampNeg), .second, vi ((0 : Int32) + p3)] [(.ref a4), (.int (1 : Int32))])) rfl rfl (hb hby d14_41) _ ?_
      rw [le8]
      show Steps p.tables e below (T5.setTop (mkF m 42 #[vr a1, vi p2, vi p3, vr a4, vj ((((1 : Int64) <<< (p3 &&& 0x3f).toInt64)) - (1 : Int64)), .second, vi (1 : Int32), vi p2, vj (f1 (p2).toNatClampNeg), .second, vi ((0 : Int32) + p3)] [(.int (3 : Int32)), (.int (1 : Int32))])) _
      refine XS.icmpNo X5.here hx rfl (hb hby d14_42) rfl ((tlt (by decide : (1 : Int32) < (3 : Int32))).2.1) ?_
      refine XS.aloadN X5.here hx rfl (hb hby d14_45) rfl rfl ?_
      refine XS.iload X5.here hx rfl (hb hby d14_46) rfl ?_
      refine XS.iinc X5.here hx rfl (hb hby d14_48) rfl (l' := #[vr a1, vi p2, vi p3, vr a4, vj ((((1 : Int64) <<< (p3 &&& 0x3f).toInt64)) - (1 : Int64)), .second, vi (2 : Int32), vi p2, vj (f1 (p2).toNatClampNeg), .second, vi ((0 : Int32) + p3)]) rfl ?_
      refine XS.lload X5.here hx rfl (hb hby d14_51) rfl ?_
      refine XS.iload X5.here hx rfl (hb hby d14_53) rfl ?_
      show Steps p.tables e below (T5.setTop (mkF m 55 #[vr a1, vi p2, vi p3, vr a4, vj ((((1 : Int64) <<< (p3 &&& 0x3f).toInt64)) - (1 : Int64)), .second, vi (2 : Int32), vi p2, vj (f1 (p2).toNatClampNeg), .second, vi ((0 : Int32) + p3)] [(.int ((0 : Int32) + p3)), (.long (f1 (p2).toNatClampNeg)), (.int (1 : Int32)), (.ref a4)])) _
      refine XS.lushr X5.here hx rfl (hb hby d14_55) rfl ?_
      refine XS.lload X5.here hx rfl (hb hby d14_56) rfl ?_
      refine XS.land X5.here hx rfl (hb hby d14_58) rfl ?_
      refine XS.l2i X5.here hx rfl (hb hby d14_59) rfl ?_
      refine st9 _ ?_
      refine XS.iload X9.here hx rfl (hb hby d14_61) rfl ?_
      show Steps p.tables e below (T9.setTop (mkF m 63 #[vr a1, vi p2, vi p3, vr a4, vj ((((1 : Int64) <<< (p3 &&& 0x3f).toInt64)) - (1 : Int64)), .second, vi (2 : Int32), vi p2, vj (f1 (p2).toNatClampNeg), .second, vi ((0 : Int32) + p3)] [(.int ((0 : Int32) + p3))])) _
      refine XS.iloadN X9.here hx rfl (hb hby d14_63) rfl ?_
      refine XS.iadd X9.here hx rfl (hb hby d14_64) rfl ?_
      refine XS.istore X9.here hx rfl (hb hby d14_65) rfl (l' := #[vr a1, vi p2, vi p3, vr a4, vj ((((1 : Int64) <<< (p3 &&& 0x3f).toInt64)) - (1 : Int64)), .second, vi (2 : Int32), vi p2, vj (f1 (p2).toNatClampNeg), .second, vi (((0 : Int32) + p3) + p3)]) rfl ?_
      refine XS.goto X9.here hx rfl (pc0 := 67) (pc' := 29) rfl (hb hby d14_67) (by decide) (by decide) ?_
      refine XS.iload X9.here hx rfl (hb hby d14_29) rfl ?_
      refine XS.iloadN X9.here hx rfl (hb hby d14_31) rfl ?_
      show Steps p.tables e below (T9.setTop (mkF m 32 #[vr a1, vi p2, vi p3, vr a4, vj ((((1 : Int64) <<< (p3 &&& 0x3f).toInt64)) - (1 : Int64)), .second, vi (2 : Int32), vi p2, vj (f1 (p2).toNatClampNeg), .second, vi (((0 : Int32) + p3) + p3)] [(.int p3), (.int (((0 : Int32) + p3) + p3))])) _
      refine XS.iadd X9.here hx rfl (hb hby d14_32) rfl ?_
      refine XS.bipush X9.here hx rfl (hb hby d14_33) ?_
      refine XS.icmpYes X9.here hx rfl (pc0 := 35) (pc' := 70) rfl (hb hby d14_35) rfl ((tlt ((own_le3 hB).mpr hf1 : (64 : Int32) < ((((0 : Int32) + p3) + p3) + p3))).2.2.1) (by decide) (by decide) ?_
      refine XS.iinc X9.here hx rfl (hb hby d14_70) rfl (l' := #[vr a1, vi p2, vi p3, vr a4, vj ((((1 : Int64) <<< (p3 &&& 0x3f).toInt64)) - (1 : Int64)), .second, vi (2 : Int32), vi (p2 + (1 : Int32)), vj (f1 (p2).toNatClampNeg), .second, vi (((0 : Int32) + p3) + p3)]) rfl ?_
      refine XS.goto X9.here hx rfl (pc0 := 73) (pc' := 13) rfl (hb hby d14_73) (by decide) (by decide) ?_
      refine XS.iload X9.here hx rfl (hb hby d14_13) rfl ?_
      show Steps p.tables e below (T9.setTop (mkF m 15 #[vr a1, vi p2, vi p3, vr a4, vj ((((1 : Int64) <<< (p3 &&& 0x3f).toInt64)) - (1 : Int64)), .second, vi (2 : Int32), vi (p2 + (1 : Int32)), vj (f1 (p2).toNatClampNeg), .second, vi (((0 : Int32) + p3) + p3)] [(.int (2 : Int32))])) _
      refine XS.aloadN X9.here hx rfl (hb hby d14_15) rfl rfl ?_
      refine X9.arraylength hx (by rw [e9]; exact Ar12.1) (State.isArrayOf_alike hZ.alike Ar12.2.1) (g := (mkF m 16 #[vr a1, vi p2, vi p3, vr a4, vj ((((1 : Int64) <<< (p3 &&& 0x3f).toInt64)) - (1 : Int64)), .second, vi (2 : Int32), vi (p2 + (1 : Int32)), vj (f1 (p2).toNatClampNeg), .second, vi (((0 : Int32) + p3) + p3)] [(.ref a4), (.int (2 : Int32))])) rfl rfl (hb hby d14_16) _ ?_
      rw [le12]
      refine XS.icmpNo X9.here hx rfl (hb hby d14_17) rfl ((tlt (by decide : (2 : Int32) < (3 : Int32))).2.1) ?_
      refine XS.aloadN X9.here hx rfl (hb hby d14_20) rfl rfl ?_
      refine XS.iload X9.here hx rfl (hb hby d14_21) rfl ?_
      show Steps p.tables e below (T9.setTop (mkF m 23 #[vr a1, vi p2, vi p3, vr a4, vj ((((1 : Int64) <<< (p3 &&& 0x3f).toInt64)) - (1 : Int64)), .second, vi (2 : Int32), vi (p2 + (1 : Int32)), vj (f1 (p2).toNatClampNeg), .second, vi (((0 : Int32) + p3) + p3)] [(.int (p2 + (1 : Int32))), (.ref a1)])) _
      refine X9.laload hx (j := (p2 + (1 : Int32))) (v := (.long (f1 ((p2 + (1 : Int32))).toNatClampNeg))) (by rw [e9]; exact Ar13.1) (State.isArrayOf_alike hZ.alike Ar13.2.1) Ar13.2.2 hin13 hat13 (g := (mkF m 23 #[vr a1, vi p2, vi p3, vr a4, vj ((((1 : Int64) <<< (p3 &&& 0x3f).toInt64)) - (1 : Int64)), .second, vi (2 : Int32), vi (p2 + (1 : Int32)), vj (f1 (p2).toNatClampNeg), .second, vi (((0 : Int32) + p3) + p3)] [(.int (p2 + (1 : Int32))), (.ref a1)])) rfl rfl (hb hby d14_23) _ ?_
      refine XS.lstore X9.here hx rfl (hb hby d14_24) rfl (l' := #[vr a1, vi p2, vi p3, vr a4, vj ((((1 : Int64) <<< (p3 &&& 0x3f).toInt64)) - (1 : Int64)), .second, vi (2 : Int32), vi (p2 + (1 : Int32)), vj (f1 ((p2 + (1 : Int32))).toNatClampNeg), .second, vi (((0 : Int32) + p3) + p3)]) rfl ?_
      refine XS.iconst X9.here hx rfl (hb hby d14_26) ?_
      refine XS.istore X9.here hx rfl (hb hby d14_27) rfl (l' := #[vr a1, vi p2, vi p3, vr a4, vj ((((1 : Int64) <<< (p3 &&& 0x3f).toInt64)) - (1 : Int64)), .second, vi (2 : Int32), vi (p2 + (1 : Int32)), vj (f1 ((p2 + (1 : Int32))).toNatClampNeg), .second, vi (0 : Int32)]) rfl ?_
      refine XS.iload X9.here hx rfl (hb hby d14_29) rfl ?_
      refine XS.iloadN X9.here hx rfl (hb hby d14_31) rfl ?_
      show Steps p.tables e below (T9.setTop (mkF m 32 #[vr a1, vi p2, vi p3, vr a4, vj ((((1 : Int64) <<< (p3 &&& 0x3f).toInt64)) - (1 : Int64)), .second, vi (2 : Int32), vi (p2 + (1 : Int32)), vj (f1 ((p2 + (1 : Int32))).toNatClampNeg), .second, vi (0 : Int32)] [(.int p3), (.int (0 : Int32))])) _
      refine XS.iadd X9.here hx rfl (hb hby d14_32) rfl ?_
      refine XS.bipush X9.here hx rfl (hb hby d14_33) ?_
      refine XS.icmpNo X9.here hx rfl (hb hby d14_35) rfl ((flt (own_le1 hB : ¬ ((64 : Int32) < ((0 : Int32) + p3)))).2.2.1) ?_
      refine XS.iload X9.here hx rfl (hb hby d14_38) rfl ?_
      refine XS.aloadN X9.here hx rfl (hb hby d14_40) rfl rfl ?_
      refine X9.arraylength hx (by rw [e9]; exact Ar15.1) (State.isArrayOf_alike hZ.alike Ar15.2.1) (g := (mkF m 41 #[vr a1, vi p2, vi p3, vr a4, vj ((((1 : Int64) <<< (p3 &&& 0x3f).toInt64)) - (1 : Int64)), .second, vi (2 : Int32), vi (p2 + (1 : Int32)), vj (f1 ((p2 + (1 : Int32))).toNatClampNeg), .second, vi (0 : Int32)] [(.ref a4), (.int (2 : Int32))])) rfl rfl (hb hby d14_41) _ ?_
      rw [le15]
      show Steps p.tables e below (T9.setTop (mkF m 42 #[vr a1, vi p2, vi p3, vr a4, vj ((((1 : Int64) <<< (p3 &&& 0x3f).toInt64)) - (1 : Int64)), .second, vi (2 : Int32), vi (p2 + (1 : Int32)), vj (f1 ((p2 + (1 : Int32))).toNatClampNeg), .second, vi (0 : Int32)] [(.int (3 : Int32)), (.int (2 : Int32))])) _
      refine XS.icmpNo X9.here hx rfl (hb hby d14_42) rfl ((tlt (by decide : (2 : Int32) < (3 : Int32))).2.1) ?_
      refine XS.aloadN X9.here hx rfl (hb hby d14_45) rfl rfl ?_
      refine XS.iload X9.here hx rfl (hb hby d14_46) rfl ?_
      refine XS.iinc X9.here hx rfl (hb hby d14_48) rfl (l' := #[vr a1, vi p2, vi p3, vr a4, vj ((((1 : Int64) <<< (p3 &&& 0x3f).toInt64)) - (1 : Int64)), .second, vi (3 : Int32), vi (p2 + (1 : Int32)), vj (f1 ((p2 + (1 : Int32))).toNatClampNeg), .second, vi (0 : Int32)]) rfl ?_
      refine XS.lload X9.here hx rfl (hb hby d14_51) rfl ?_
      refine XS.iload X9.here hx rfl (hb hby d14_53) rfl ?_
      show Steps p.tables e below (T9.setTop (mkF m 55 #[vr a1, vi p2, vi p3, vr a4, vj ((((1 : Int64) <<< (p3 &&& 0x3f).toInt64)) - (1 : Int64)), .second, vi (3 : Int32), vi (p2 + (1 : Int32)), vj (f1 ((p2 + (1 : Int32))).toNatClampNeg), .second, vi (0 : Int32)] [(.int (0 : Int32)), (.long (f1 ((p2 + (1 : Int32))).toNatClampNeg)), (.int (2 : Int32)), (.ref a4)])) _
      refine XS.lushr X9.here hx rfl (hb hby d14_55) rfl ?_
      refine XS.lload X9.here hx rfl (hb hby d14_56) rfl ?_
      refine XS.land X9.here hx rfl (hb hby d14_58) rfl ?_
      refine XS.l2i X9.here hx rfl (hb hby d14_59) rfl ?_
      refine st16 _ ?_
      refine XS.iload X16.here hx rfl (hb hby d14_61) rfl ?_
      show Steps p.tables e below (T16.setTop (mkF m 63 #[vr a1, vi p2, vi p3, vr a4, vj ((((1 : Int64) <<< (p3 &&& 0x3f).toInt64)) - (1 : Int64)), .second, vi (3 : Int32), vi (p2 + (1 : Int32)), vj (f1 ((p2 + (1 : Int32))).toNatClampNeg), .second, vi (0 : Int32)] [(.int (0 : Int32))])) _
      refine XS.iloadN X16.here hx rfl (hb hby d14_63) rfl ?_
      refine XS.iadd X16.here hx rfl (hb hby d14_64) rfl ?_
      refine XS.istore X16.here hx rfl (hb hby d14_65) rfl (l' := #[vr a1, vi p2, vi p3, vr a4, vj ((((1 : Int64) <<< (p3 &&& 0x3f).toInt64)) - (1 : Int64)), .second, vi (3 : Int32), vi (p2 + (1 : Int32)), vj (f1 ((p2 + (1 : Int32))).toNatClampNeg), .second, vi ((0 : Int32) + p3)]) rfl ?_
      refine XS.goto X16.here hx rfl (pc0 := 67) (pc' := 29) rfl (hb hby d14_67) (by decide) (by decide) ?_
      refine XS.iload X16.here hx rfl (hb hby d14_29) rfl ?_
      refine XS.iloadN X16.here hx rfl (hb hby d14_31) rfl ?_
      show Steps p.tables e below (T16.setTop (mkF m 32 #[vr a1, vi p2, vi p3, vr a4, vj ((((1 : Int64) <<< (p3 &&& 0x3f).toInt64)) - (1 : Int64)), .second, vi (3 : Int32), vi (p2 + (1 : Int32)), vj (f1 ((p2 + (1 : Int32))).toNatClampNeg), .second, vi ((0 : Int32) + p3)] [(.int p3), (.int ((0 : Int32) + p3))])) _
      refine XS.iadd X16.here hx rfl (hb hby d14_32) rfl ?_
      refine XS.bipush X16.here hx rfl (hb hby d14_33) ?_
      refine XS.icmpNo X16.here hx rfl (hb hby d14_35) rfl ((flt (own_le2 hB : ¬ ((64 : Int32) < (((0 : Int32) + p3) + p3)))).2.2.1) ?_
      refine XS.iload X16.here hx rfl (hb hby d14_38) rfl ?_
      refine XS.aloadN X16.here hx rfl (hb hby d14_40) rfl rfl ?_
      refine X16.arraylength hx (by rw [e16]; exact Ar19.1) (State.isArrayOf_alike hZ.alike Ar19.2.1) (g := (mkF m 41 #[vr a1, vi p2, vi p3, vr a4, vj ((((1 : Int64) <<< (p3 &&& 0x3f).toInt64)) - (1 : Int64)), .second, vi (3 : Int32), vi (p2 + (1 : Int32)), vj (f1 ((p2 + (1 : Int32))).toNatClampNeg), .second, vi ((0 : Int32) + p3)] [(.ref a4), (.int (3 : Int32))])) rfl rfl (hb hby d14_41) _ ?_
      rw [le19]
      show Steps p.tables e below (T16.setTop (mkF m 42 #[vr a1, vi p2, vi p3, vr a4, vj ((((1 : Int64) <<< (p3 &&& 0x3f).toInt64)) - (1 : Int64)), .second, vi (3 : Int32), vi (p2 + (1 : Int32)), vj (f1 ((p2 + (1 : Int32))).toNatClampNeg), .second, vi ((0 : Int32) + p3)] [(.int (3 : Int32)), (.int (3 : Int32))])) _
      refine XS.icmpYes X16.here hx rfl (pc0 := 42) (pc' := 70) rfl (hb hby d14_42) rfl ((flt (by decide : ¬ ((3 : Int32) < (3 : Int32)))).2.1) (by decide) (by decide) ?_
      refine XS.iinc X16.here hx rfl (hb hby d14_70) rfl (l' := #[vr a1, vi p2, vi p3, vr a4, vj ((((1 : Int64) <<< (p3 &&& 0x3f).toInt64)) - (1 : Int64)), .second, vi (3 : Int32), vi ((p2 + (1 : Int32)) + (1 : Int32)), vj (f1 ((p2 + (1 : Int32))).toNatClampNeg), .second, vi ((0 : Int32) + p3)]) rfl ?_
      refine XS.goto X16.here hx rfl (pc0 := 73) (pc' := 13) rfl (hb hby d14_73) (by decide) (by decide) ?_
      refine XS.iload X16.here hx rfl (hb hby d14_13) rfl ?_
      refine XS.aloadN X16.here hx rfl (hb hby d14_15) rfl rfl ?_
      refine X16.arraylength hx (by rw [e16]; exact Ar20.1) (State.isArrayOf_alike hZ.alike Ar20.2.1) (g := (mkF m 16 #[vr a1, vi p2, vi p3, vr a4, vj ((((1 : Int64) <<< (p3 &&& 0x3f).toInt64)) - (1 : Int64)), .second, vi (3 : Int32), vi ((p2 + (1 : Int32)) + (1 : Int32)), vj (f1 ((p2 + (1 : Int32))).toNatClampNeg), .second, vi ((0 : Int32) + p3)] [(.ref a4), (.int (3 : Int32))])) rfl rfl (hb hby d14_16) _ ?_
      rw [le20]
      show Steps p.tables e below (T16.setTop (mkF m 17 #[vr a1, vi p2, vi p3, vr a4, vj ((((1 : Int64) <<< (p3 &&& 0x3f).toInt64)) - (1 : Int64)), .second, vi (3 : Int32), vi ((p2 + (1 : Int32)) + (1 : Int32)), vj (f1 ((p2 + (1 : Int32))).toNatClampNeg), .second, vi ((0 : Int32) + p3)] [(.int (3 : Int32)), (.int (3 : Int32))])) _
      refine XS.icmpYes X16.here hx rfl (pc0 := 17) (pc' := 76) rfl (hb hby d14_17) rfl ((flt (by decide : ¬ ((3 : Int32) < (3 : Int32)))).2.1) (by decide) (by decide) ?_
      exact X16.returnOut hx Bd.returns (hb hby d14_76) hr
    · show Qun Z a1 p2 p3 a4 k1 k4 f1 g n1 h0 n0 _ T16.heap _
      rw [e16]
      exact ⟨rfl, N16, K18, (AV.conv V16 (fun i hi => congrArg Value.int ((own_u3 hi).trans (by simp only [own_un, if_pos hf1]; rfl))))⟩
  · obtain ⟨cl21, Ar21, -, sz21, -, -⟩ := id A_a4
    have le21 : cl21.slots.size.toInt32 = (3 : Int32) := by rw [sz21]; exact rfl
    obtain ⟨cl22, Ar22, kc22, sz22, -, hv22⟩ := id A_a1
    have hin22 : ¬ (p2 < 0 ∨ cl22.slots.size ≤ (p2).toNatClampNeg) := AV.inb sz22 hi0
    have hat22 : cl22.slots[(p2).toNatClampNeg]? = some (.long (f1 (p2).toNatClampNeg)) := (hv22 _ (AV.inx hi0)).trans (congrArg some rfl)
    obtain ⟨cl23, Ar23, -, sz23, -, -⟩ := id A_a4
    have le23 : cl23.slots.size.toInt32 = (3 : Int32) := by rw [sz23]; exact rfl
    obtain ⟨cl24, Ar24, kc24, sz24, -, -⟩ := id A_a4
    have hin24 : ¬ ((0 : Int32) < 0 ∨ cl24.slots.size ≤ ((0 : Int32)).toNatClampNeg) := AV.inb sz24 (show ¬ (0 : Int32) < 0 ∧ ((0 : Int32)).toNatClampNeg < 3 by decide)
    obtain ⟨T24, h24, X24, e24, W24, st24⟩ := stI X0 hx hZ e0 Ar24 (j := (0 : Int32)) hin24 (g := (mkF m 60 #[vr a1, vi p2, vi p3, vr a4, vj ((((1 : Int64) <<< (p3 &&& 0x3f).toInt64)) - (1 : Int64)), .second, vi (1 : Int32), vi p2, vj (f1 (p2).toNatClampNeg), .second, vi (0 : Int32)] [(.int (((((((f1 (p2).toNatClampNeg)).toUInt64 >>> ((0 : Int32) &&& 0x3f).toInt64.toUInt64).toInt64) &&& ((((1 : Int64) <<< (p3 &&& 0x3f).toInt64)) - (1 : Int64)))).toInt32)), (.int (0 : Int32)), (.ref a4)])) rfl rfl (hb hby d14_60)
    have z25 : n0 ≤ h24.size := Nat.le_trans Z0 (Keep.of_wr W24).1
    have K26 : Keep h0 h24 [a4] := K0.wr W24 (Or.inl (List.mem_of_getElem? (i := 0) rfl))
    have V24 : AV Z h24 a4 k4 .int 3 (fun i => Value.int ((updI g 0 (((((((f1 (p2).toNatClampNeg)).toUInt64 >>> ((0 : Int32) &&& 0x3f).toInt64.toUInt64).toInt64) &&& ((((1 : Int64) <<< (p3 &&& 0x3f).toInt64)) - (1 : Int64)))).toInt32)) i)) := AV.putI A_a4 W24 (AV.inx (show ¬ (0 : Int32) < 0 ∧ ((0 : Int32)).toNatClampNeg < 3 by decide))
    have N24 := Fr.snoc X24 N0 g_a4
    obtain ⟨cl27, Ar27, -, sz27, -, -⟩ := id V24
    have le27 : cl27.slots.size.toInt32 = (3 : Int32) := by rw [sz27]; exact rfl
    obtain ⟨cl28, Ar28, kc28, sz28, -, -⟩ := id V24
    have hin28 : ¬ ((1 : Int32) < 0 ∨ cl28.slots.size ≤ ((1 : Int32)).toNatClampNeg) := AV.inb sz28 (show ¬ (1 : Int32) < 0 ∧ ((1 : Int32)).toNatClampNeg < 3 by decide)
    obtain ⟨T28, h28, X28, e28, W28, st28⟩ := stI X24 hx hZ e24 Ar28 (j := (1 : Int32)) hin28 (g := (mkF m 60 #[vr a1, vi p2, vi p3, vr a4, vj ((((1 : Int64) <<< (p3 &&& 0x3f).toInt64)) - (1 : Int64)), .second, vi (2 : Int32), vi p2, vj (f1 (p2).toNatClampNeg), .second, vi ((0 : Int32) + p3)] [(.int (((((((f1 (p2).toNatClampNeg)).toUInt64 >>> (((0 : Int32) + p3) &&& 0x3f).toInt64.toUInt64).toInt64) &&& ((((1 : Int64) <<< (p3 &&& 0x3f).toInt64)) - (1 : Int64)))).toInt32)), (.int (1 : Int32)), (.ref a4)])) rfl rfl (hb hby d14_60)
    have z29 : n0 ≤ h28.size := Nat.le_trans z25 (Keep.of_wr W28).1
    have K30 : Keep h0 h28 [a4] := K26.wr W28 (Or.inl (List.mem_of_getElem? (i := 0) rfl))
    have V28 : AV Z h28 a4 k4 .int 3 (fun i => Value.int ((updI (updI g 0 (((((((f1 (p2).toNatClampNeg)).toUInt64 >>> ((0 : Int32) &&& 0x3f).toInt64.toUInt64).toInt64) &&& ((((1 : Int64) <<< (p3 &&& 0x3f).toInt64)) - (1 : Int64)))).toInt32)) 1 (((((((f1 (p2).toNatClampNeg)).toUInt64 >>> (((0 : Int32) + p3) &&& 0x3f).toInt64.toUInt64).toInt64) &&& ((((1 : Int64) <<< (p3 &&& 0x3f).toInt64)) - (1 : Int64)))).toInt32)) i)) := AV.putI V24 W28 (AV.inx (show ¬ (1 : Int32) < 0 ∧ ((1 : Int32)).toNatClampNeg < 3 by decide))
    have N28 := Fr.snoc X28 N24 g_a4
    obtain ⟨cl31, Ar31, -, sz31, -, -⟩ := id V28
    have le31 : cl31.slots.size.toInt32 = (3 : Int32) := by rw [sz31]; exact rfl
    obtain ⟨cl32, Ar32, kc32, sz32, -, -⟩ := id V28
    have hin32 : ¬ ((2 : Int32) < 0 ∨ cl32.slots.size ≤ ((2 : Int32)).toNatClampNeg) := AV.inb sz32 (show ¬ (2 : Int32) < 0 ∧ ((2 : Int32)).toNatClampNeg < 3 by decide)
    obtain ⟨T32, h32, X32, e32, W32, st32⟩ := stI X28 hx hZ e28 Ar32 (j := (2 : Int32)) hin32 (g := (mkF m 60 #[vr a1, vi p2, vi p3, vr a4, vj ((((1 : Int64) <<< (p3 &&& 0x3f).toInt64)) - (1 : Int64)), .second, vi (3 : Int32), vi p2, vj (f1 (p2).toNatClampNeg), .second, vi (((0 : Int32) + p3) + p3)] [(.int (((((((f1 (p2).toNatClampNeg)).toUInt64 >>> ((((0 : Int32) + p3) + p3) &&& 0x3f).toInt64.toUInt64).toInt64) &&& ((((1 : Int64) <<< (p3 &&& 0x3f).toInt64)) - (1 : Int64)))).toInt32)), (.int (2 : Int32)), (.ref a4)])) rfl rfl (hb hby d14_60)
    have z33 : n0 ≤ h32.size := Nat.le_trans z29 (Keep.of_wr W32).1
    have K34 : Keep h0 h32 [a4] := K30.wr W32 (Or.inl (List.mem_of_getElem? (i := 0) rfl))
    have V32 : AV Z h32 a4 k4 .int 3 (fun i => Value.int ((updI (updI (updI g 0 (((((((f1 (p2).toNatClampNeg)).toUInt64 >>> ((0 : Int32) &&& 0x3f).toInt64.toUInt64).toInt64) &&& ((((1 : Int64) <<< (p3 &&& 0x3f).toInt64)) - (1 : Int64)))).toInt32)) 1 (((((((f1 (p2).toNatClampNeg)).toUInt64 >>> (((0 : Int32) + p3) &&& 0x3f).toInt64.toUInt64).toInt64) &&& ((((1 : Int64) <<< (p3 &&& 0x3f).toInt64)) - (1 : Int64)))).toInt32)) 2 (((((((f1 (p2).toNatClampNeg)).toUInt64 >>> ((((0 : Int32) + p3) + p3) &&& 0x3f).toInt64.toUInt64).toInt64) &&& ((((1 : Int64) <<< (p3 &&& 0x3f).toInt64)) - (1 : Int64)))).toInt32)) i)) := AV.putI V28 W32 (AV.inx (show ¬ (2 : Int32) < 0 ∧ ((2 : Int32)).toNatClampNeg < 3 by decide))
    have N32 := Fr.snoc X32 N28 g_a4
    refine GoalS.lift (B := (T32.setTop (mkF m 35 #[vr a1, vi p2, vi p3, vr a4, vj ((((1 : Int64) <<< (p3 &&& 0x3f).toInt64)) - (1 : Int64)), .second, vi (3 : Int32), vi p2, vj (f1 (p2).toNatClampNeg), .second, vi ((((0 : Int32) + p3) + p3) + p3)] [(.int (64 : Int32)), (.int (((((0 : Int32) + p3) + p3) + p3) + p3))]))) (fun t k => ?_) ?_
    · show Steps p.tables e below (s₁.setTop (mkF m 0 #[vr a1, vi p2, vi p3, vr a4, .unset, .unset, .unset, .unset, .unset, .unset, .unset] [])) _
      refine XS.lconst X0.here hx rfl (hb hby d14_0) ?_
      refine XS.iloadN X0.here hx rfl (hb hby d14_1) rfl ?_
      refine XS.lshl X0.here hx rfl (hb hby d14_2) rfl ?_
      refine XS.lconst X0.here hx rfl (hb hby d14_3) ?_
      refine XS.lsub X0.here hx rfl (hb hby d14_4) rfl ?_
      refine XS.lstore X0.here hx rfl (hb hby d14_5) rfl (l' := #[vr a1, vi p2, vi p3, vr a4, vj ((((1 : Int64) <<< (p3 &&& 0x3f).toInt64)) - (1 : Int64)), .second, .unset, .unset, .unset, .unset, .unset]) rfl ?_
      show Steps p.tables e below (s₁.setTop (mkF m 7 #[vr a1, vi p2, vi p3, vr a4, vj ((((1 : Int64) <<< (p3 &&& 0x3f).toInt64)) - (1 : Int64)), .second, .unset, .unset, .unset, .unset, .unset] [])) _
      refine XS.iconst X0.here hx rfl (hb hby d14_7) ?_
      refine XS.istore X0.here hx rfl (hb hby d14_8) rfl (l' := #[vr a1, vi p2, vi p3, vr a4, vj ((((1 : Int64) <<< (p3 &&& 0x3f).toInt64)) - (1 : Int64)), .second, vi (0 : Int32), .unset, .unset, .unset, .unset]) rfl ?_
      refine XS.iloadN X0.here hx rfl (hb hby d14_10) rfl ?_
      refine XS.istore X0.here hx rfl (hb hby d14_11) rfl (l' := #[vr a1, vi p2, vi p3, vr a4, vj ((((1 : Int64) <<< (p3 &&& 0x3f).toInt64)) - (1 : Int64)), .second, vi (0 : Int32), vi p2, .unset, .unset, .unset]) rfl ?_
      refine XS.iload X0.here hx rfl (hb hby d14_13) rfl ?_
      refine XS.aloadN X0.here hx rfl (hb hby d14_15) rfl rfl ?_
      show Steps p.tables e below (s₁.setTop (mkF m 16 #[vr a1, vi p2, vi p3, vr a4, vj ((((1 : Int64) <<< (p3 &&& 0x3f).toInt64)) - (1 : Int64)), .second, vi (0 : Int32), vi p2, .unset, .unset, .unset] [(.ref a4), (.int (0 : Int32))])) _
      refine X0.arraylength hx (by rw [e0]; exact Ar21.1) (State.isArrayOf_alike hZ.alike Ar21.2.1) (g := (mkF m 16 #[vr a1, vi p2, vi p3, vr a4, vj ((((1 : Int64) <<< (p3 &&& 0x3f).toInt64)) - (1 : Int64)), .second, vi (0 : Int32), vi p2, .unset, .unset, .unset] [(.ref a4), (.int (0 : Int32))])) rfl rfl (hb hby d14_16) _ ?_
      rw [le21]
      refine XS.icmpNo X0.here hx rfl (hb hby d14_17) rfl ((tlt (by decide : (0 : Int32) < (3 : Int32))).2.1) ?_
      refine XS.aloadN X0.here hx rfl (hb hby d14_20) rfl rfl ?_
      refine XS.iload X0.here hx rfl (hb hby d14_21) rfl ?_
      refine X0.laload hx (j := p2) (v := (.long (f1 (p2).toNatClampNeg))) (by rw [e0]; exact Ar22.1) (State.isArrayOf_alike hZ.alike Ar22.2.1) Ar22.2.2 hin22 hat22 (g := (mkF m 23 #[vr a1, vi p2, vi p3, vr a4, vj ((((1 : Int64) <<< (p3 &&& 0x3f).toInt64)) - (1 : Int64)), .second, vi (0 : Int32), vi p2, .unset, .unset, .unset] [(.int p2), (.ref a1)])) rfl rfl (hb hby d14_23) _ ?_
      show Steps p.tables e below (s₁.setTop (mkF m 24 #[vr a1, vi p2, vi p3, vr a4, vj ((((1 : Int64) <<< (p3 &&& 0x3f).toInt64)) - (1 : Int64)), .second, vi (0 : Int32), vi p2, .unset, .unset, .unset] [(.long (f1 (p2).toNatClampNeg))])) _
      refine XS.lstore X0.here hx rfl (hb hby d14_24) rfl (l' := #[vr a1, vi p2, vi p3, vr a4, vj ((((1 : Int64) <<< (p3 &&& 0x3f).toInt64)) - (1 : Int64)), .second, vi (0 : Int32), vi p2, vj (f1 (p2).toNatClampNeg), .second, .unset]) rfl ?_
      refine XS.iconst X0.here hx rfl (hb hby d14_26) ?_
      refine XS.istore X0.here hx rfl (hb hby d14_27) rfl (l' := #[vr a1, vi p2, vi p3, vr a4, vj ((((1 : Int64) <<< (p3 &&& 0x3f).toInt64)) - (1 : Int64)), .second, vi (0 : Int32), vi p2, vj (f1 (p2).toNatClampNeg), .second, vi (0 : Int32)]) rfl ?_
      refine XS.iload X0.here hx rfl (hb hby d14_29) rfl ?_
      refine XS.iloadN X0.here hx rfl (hb hby d14_31) rfl ?_
      refine XS.iadd X0.here hx rfl (hb hby d14_32) rfl ?_
      show Steps p.tables e below (s₁.setTop (mkF m 33 #[vr a1, vi p2, vi p3, vr a4, vj ((((1 : Int64) <<< (p3 &&& 0x3f).toInt64)) - (1 : Int64)), .second, vi (0 : Int32), vi p2, vj (f1 (p2).toNatClampNeg), .second, vi (0 : Int32)] [(.int ((0 : Int32) + p3))])) _
      refine XS.bipush X0.here hx rfl (hb hby d14_33) ?_
      refine XS.icmpNo X0.here hx rfl (hb hby d14_35) rfl ((flt (own_le1 hB : ¬ ((64 : Int32) < ((0 : Int32) + p3)))).2.2.1) ?_
      refine XS.iload X0.here hx rfl (hb hby d14_38) rfl ?_
      refine XS.aloadN X0.here hx rfl (hb hby d14_40) rfl rfl ?_
      refine X0.arraylength hx (by rw [e0]; exact Ar23.1) (State.isArrayOf_alike hZ.alike Ar23.2.1) (g := (mkF m 41 #[vr a1, vi p2, vi p3, vr a4, vj ((((1 : Int64) <<< (p3 &&& 0x3f).toInt64)) - (1 : Int64)), .second, vi (0 : Int32), vi p2, vj (f1 (p2).toNatClampNeg), .second, vi (0 : Int32)] [(.ref a4), (.int (0 : Int32))])) rfl rfl (hb hby d14_41) _ ?_
      rw [le23]
      show Steps p.tables e below (s₁.setTop (mkF m 42 #[vr a1, vi p2, vi p3, vr a4, vj ((((1 : Int64) <<< (p3 &&& 0x3f).toInt64)) - (1 : Int64)), .second, vi (0 : Int32), vi p2, vj (f1 (p2).toNatClampNeg), .second, vi (0 : Int32)] [(.int (3 : Int32)), (.int (0 : Int32))])) _
      refine XS.icmpNo X0.here hx rfl (hb hby d14_42) rfl ((tlt (by decide : (0 : Int32) < (3 : Int32))).2.1) ?_
      refine XS.aloadN X0.here hx rfl (hb hby d14_45) rfl rfl ?_
      refine XS.iload X0.here hx rfl (hb hby d14_46) rfl ?_
      refine XS.iinc X0.here hx rfl (hb hby d14_48) rfl (l' := #[vr a1, vi p2, vi p3, vr a4, vj ((((1 : Int64) <<< (p3 &&& 0x3f).toInt64)) - (1 : Int64)), .second, vi (1 : Int32), vi p2, vj (f1 (p2).toNatClampNeg), .second, vi (0 : Int32)]) rfl ?_
      refine XS.lload X0.here hx rfl (hb hby d14_51) rfl ?_
      refine XS.iload X0.here hx rfl (hb hby d14_53) rfl ?_
      show Steps p.tables e below (s₁.setTop (mkF m 55 #[vr a1, vi p2, vi p3, vr a4, vj ((((1 : Int64) <<< (p3 &&& 0x3f).toInt64)) - (1 : Int64)), .second, vi (1 : Int32), vi p2, vj (f1 (p2).toNatClampNeg), .second, vi (0 : Int32)] [(.int (0 : Int32)), (.long (f1 (p2).toNatClampNeg)), (.int (0 : Int32)), (.ref a4)])) _
      refine XS.lushr X0.here hx rfl (hb hby d14_55) rfl ?_
      refine XS.lload X0.here hx rfl (hb hby d14_56) rfl ?_
      refine XS.land X0.here hx rfl (hb hby d14_58) rfl ?_
      refine XS.l2i X0.here hx rfl (hb hby d14_59) rfl ?_
      refine st24 _ ?_
      refine XS.iload X24.here hx rfl (hb hby d14_61) rfl ?_
      show Steps p.tables e below (T24.setTop (mkF m 63 #[vr a1, vi p2, vi p3, vr a4, vj ((((1 : Int64) <<< (p3 &&& 0x3f).toInt64)) - (1 : Int64)), .second, vi (1 : Int32), vi p2, vj (f1 (p2).toNatClampNeg), .second, vi (0 : Int32)] [(.int (0 : Int32))])) _
      refine XS.iloadN X24.here hx rfl (hb hby d14_63) rfl ?_
      refine XS.iadd X24.here hx rfl (hb hby d14_64) rfl ?_
      refine XS.istore X24.here hx rfl (hb hby d14_65) rfl (l' := #[vr a1, vi p2, vi p3, vr a4, vj ((((1 : Int64) <<< (p3 &&& 0x3f).toInt64)) - (1 : Int64)), .second, vi (1 : Int32), vi p2, vj (f1 (p2).toNatClampNeg), .second, vi ((0 : Int32) + p3)]) rfl ?_
      refine XS.goto X24.here hx rfl (pc0 := 67) (pc' := 29) rfl (hb hby d14_67) (by decide) (by decide) ?_
      refine XS.iload X24.here hx rfl (hb hby d14_29) rfl ?_
      refine XS.iloadN X24.here hx rfl (hb hby d14_31) rfl ?_
      show Steps p.tables e below (T24.setTop (mkF m 32 #[vr a1, vi p2, vi p3, vr a4, vj ((((1 : Int64) <<< (p3 &&& 0x3f).toInt64)) - (1 : Int64)), .second, vi (1 : Int32), vi p2, vj (f1 (p2).toNatClampNeg), .second, vi ((0 : Int32) + p3)] [(.int p3), (.int ((0 : Int32) + p3))])) _
      refine XS.iadd X24.here hx rfl (hb hby d14_32) rfl ?_
      refine XS.bipush X24.here hx rfl (hb hby d14_33) ?_
      refine XS.icmpNo X24.here hx rfl (hb hby d14_35) rfl ((flt (own_le2 hB : ¬ ((64 : Int32) < (((0 : Int32) + p3) + p3)))).2.2.1) ?_
      refine XS.iload X24.here hx rfl (hb hby d14_38) rfl ?_
      refine XS.aloadN X24.here hx rfl (hb hby d14_40) rfl rfl ?_
      refine X24.arraylength hx (by rw [e24]; exact Ar27.1) (State.isArrayOf_alike hZ.alike Ar27.2.1) (g := (mkF m 41 #[vr a1, vi p2, vi p3, vr a4, vj ((((1 : Int64) <<< (p3 &&& 0x3f).toInt64)) - (1 : Int64)), .second, vi (1 : Int32), vi p2, vj (f1 (p2).toNatClampNeg), .second, vi ((0 : Int32) + p3)] [(.ref a4), (.int (1 : Int32))])) rfl rfl (hb hby d14_41) _ ?_
      rw [le27]
      show Steps p.tables e below (T24.setTop (mkF m 42 #[vr a1, vi p2, vi p3, vr a4, vj ((((1 : Int64) <<< (p3 &&& 0x3f).toInt64)) - (1 : Int64)), .second, vi (1 : Int32), vi p2, vj (f1 (p2).toNatClampNeg), .second, vi ((0 : Int32) + p3)] [(.int (3 : Int32)), (.int (1 : Int32))])) _
      refine XS.icmpNo X24.here hx rfl (hb hby d14_42) rfl ((tlt (by decide : (1 : Int32) < (3 : Int32))).2.1) ?_
      refine XS.aloadN X24.here hx rfl (hb hby d14_45) rfl rfl ?_
      refine XS.iload X24.here hx rfl (hb hby d14_46) rfl ?_
      refine XS.iinc X24.here hx rfl (hb hby d14_48) rfl (l' := #[vr a1, vi p2, vi p3, vr a4, vj ((((1 : Int64) <<< (p3 &&& 0x3f).toInt64)) - (1 : Int64)), .second, vi (2 : Int32), vi p2, vj (f1 (p2).toNatClampNeg), .second, vi ((0 : Int32) + p3)]) rfl ?_
      refine XS.lload X24.here hx rfl (hb hby d14_51) rfl ?_
      refine XS.iload X24.here hx rfl (hb hby d14_53) rfl ?_
      show Steps p.tables e below (T24.setTop (mkF m 55 #[vr a1, vi p2, vi p3, vr a4, vj ((((1 : Int64) <<< (p3 &&& 0x3f).toInt64)) - (1 : Int64)), .second, vi (2 : Int32), vi p2, vj (f1 (p2).toNatClampNeg), .second, vi ((0 : Int32) + p3)] [(.int ((0 : Int32) + p3)), (.long (f1 (p2).toNatClampNeg)), (.int (1 : Int32)), (.ref a4)])) _
      refine XS.lushr X24.here hx rfl (hb hby d14_55) rfl ?_
      refine XS.lload X24.here hx rfl (hb hby d14_56) rfl ?_
      refine XS.land X24.here hx rfl (hb hby d14_58) rfl ?_
      refine XS.l2i X24.here hx rfl (hb hby d14_59) rfl ?_
      refine st28 _ ?_
      refine XS.iload X28.here hx rfl (hb hby d14_61) rfl ?_
      show Steps p.tables e below (T28.setTop (mkF m 63 #[vr a1, vi p2, vi p3, vr a4, vj ((((1 : Int64) <<< (p3 &&& 0x3f).toInt64)) - (1 : Int64)), .second, vi (2 : Int32), vi p2, vj (f1 (p2).toNatClampNeg), .second, vi ((0 : Int32) + p3)] [(.int ((0 : Int32) + p3))])) _
      refine XS.iloadN X28.here hx rfl (hb hby d14_63) rfl ?_
      refine XS.iadd X28.here hx rfl (hb hby d14_64) rfl ?_
      refine XS.istore X28.here hx rfl (hb hby d14_65) rfl (l' := #[vr a1, vi p2, vi p3, vr a4, vj ((((1 : Int64) <<< (p3 &&& 0x3f).toInt64)) - (1 : Int64)), .second, vi (2 : Int32), vi p2, vj (f1 (p2).toNatClampNeg), .second, vi (((0 : Int32) + p3) + p3)]) rfl ?_
      refine XS.goto X28.here hx rfl (pc0 := 67) (pc' := 29) rfl (hb hby d14_67) (by decide) (by decide) ?_
      refine XS.iload X28.here hx rfl (hb hby d14_29) rfl ?_
      refine XS.iloadN X28.here hx rfl (hb hby d14_31) rfl ?_
      show Steps p.tables e below (T28.setTop (mkF m 32 #[vr a1, vi p2, vi p3, vr a4, vj ((((1 : Int64) <<< (p3 &&& 0x3f).toInt64)) - (1 : Int64)), .second, vi (2 : Int32), vi p2, vj (f1 (p2).toNatClampNeg), .second, vi (((0 : Int32) + p3) + p3)] [(.int p3), (.int (((0 : Int32) + p3) + p3))])) _
      refine XS.iadd X28.here hx rfl (hb hby d14_32) rfl ?_
      refine XS.bipush X28.here hx rfl (hb hby d14_33) ?_
      refine XS.icmpNo X28.here hx rfl (hb hby d14_35) rfl ((flt (fun q => hf1 ((own_le3 hB).mp q) : ¬ ((64 : Int32) < ((((0 : Int32) + p3) + p3) + p3)))).2.2.1) ?_
      refine XS.iload X28.here hx rfl (hb hby d14_38) rfl ?_
      refine XS.aloadN X28.here hx rfl (hb hby d14_40) rfl rfl ?_
      refine X28.arraylength hx (by rw [e28]; exact Ar31.1) (State.isArrayOf_alike hZ.alike Ar31.2.1) (g := (mkF m 41 #[vr a1, vi p2, vi p3, vr a4, vj ((((1 : Int64) <<< (p3 &&& 0x3f).toInt64)) - (1 : Int64)), .second, vi (2 : Int32), vi p2, vj (f1 (p2).toNatClampNeg), .second, vi (((0 : Int32) + p3) + p3)] [(.ref a4), (.int (2 : Int32))])) rfl rfl (hb hby d14_41) _ ?_
      rw [le31]
      show Steps p.tables e below (T28.setTop (mkF m 42 #[vr a1, vi p2, vi p3, vr a4, vj ((((1 : Int64) <<< (p3 &&& 0x3f).toInt64)) - (1 : Int64)), .second, vi (2 : Int32), vi p2, vj (f1 (p2).toNatClampNeg), .second, vi (((0 : Int32) + p3) + p3)] [(.int (3 : Int32)), (.int (2 : Int32))])) _
      refine XS.icmpNo X28.here hx rfl (hb hby d14_42) rfl ((tlt (by decide : (2 : Int32) < (3 : Int32))).2.1) ?_
      refine XS.aloadN X28.here hx rfl (hb hby d14_45) rfl rfl ?_
      refine XS.iload X28.here hx rfl (hb hby d14_46) rfl ?_
      refine XS.iinc X28.here hx rfl (hb hby d14_48) rfl (l' := #[vr a1, vi p2, vi p3, vr a4, vj ((((1 : Int64) <<< (p3 &&& 0x3f).toInt64)) - (1 : Int64)), .second, vi (3 : Int32), vi p2, vj (f1 (p2).toNatClampNeg), .second, vi (((0 : Int32) + p3) + p3)]) rfl ?_
      refine XS.lload X28.here hx rfl (hb hby d14_51) rfl ?_
      refine XS.iload X28.here hx rfl (hb hby d14_53) rfl ?_
      show Steps p.tables e below (T28.setTop (mkF m 55 #[vr a1, vi p2, vi p3, vr a4, vj ((((1 : Int64) <<< (p3 &&& 0x3f).toInt64)) - (1 : Int64)), .second, vi (3 : Int32), vi p2, vj (f1 (p2).toNatClampNeg), .second, vi (((0 : Int32) + p3) + p3)] [(.int (((0 : Int32) + p3) + p3)), (.long (f1 (p2).toNatClampNeg)), (.int (2 : Int32)), (.ref a4)])) _
      refine XS.lushr X28.here hx rfl (hb hby d14_55) rfl ?_
      refine XS.lload X28.here hx rfl (hb hby d14_56) rfl ?_
      refine XS.land X28.here hx rfl (hb hby d14_58) rfl ?_
      refine XS.l2i X28.here hx rfl (hb hby d14_59) rfl ?_
      refine st32 _ ?_
      refine XS.iload X32.here hx rfl (hb hby d14_61) rfl ?_
      show Steps p.tables e below (T32.setTop (mkF m 63 #[vr a1, vi p2, vi p3, vr a4, vj ((((1 : Int64) <<< (p3 &&& 0x3f).toInt64)) - (1 : Int64)), .second, vi (3 : Int32), vi p2, vj (f1 (p2).toNatClampNeg), .second, vi (((0 : Int32) + p3) + p3)] [(.int (((0 : Int32) + p3) + p3))])) _
      refine XS.iloadN X32.here hx rfl (hb hby d14_63) rfl ?_
      refine XS.iadd X32.here hx rfl (hb hby d14_64) rfl ?_
      refine XS.istore X32.here hx rfl (hb hby d14_65) rfl (l' := #[vr a1, vi p2, vi p3, vr a4, vj ((((1 : Int64) <<< (p3 &&& 0x3f).toInt64)) - (1 : Int64)), .second, vi (3 : Int32), vi p2, vj (f1 (p2).toNatClampNeg), .second, vi ((((0 : Int32) + p3) + p3) + p3)]) rfl ?_
      refine XS.goto X32.here hx rfl (pc0 := 67) (pc' := 29) rfl (hb hby d14_67) (by decide) (by decide) ?_
      refine XS.iload X32.here hx rfl (hb hby d14_29) rfl ?_
      refine XS.iloadN X32.here hx rfl (hb hby d14_31) rfl ?_
      show Steps p.tables e below (T32.setTop (mkF m 32 #[vr a1, vi p2, vi p3, vr a4, vj ((((1 : Int64) <<< (p3 &&& 0x3f).toInt64)) - (1 : Int64)), .second, vi (3 : Int32), vi p2, vj (f1 (p2).toNatClampNeg), .second, vi ((((0 : Int32) + p3) + p3) + p3)] [(.int p3), (.int ((((0 : Int32) + p3) + p3) + p3))])) _
      refine XS.iadd X32.here hx rfl (hb hby d14_32) rfl ?_
      refine XS.bipush X32.here hx rfl (hb hby d14_33) ?_
      exact k
    by_cases hc35_35 : (64 : Int32) < (((((0 : Int32) + p3) + p3) + p3) + p3)
    · obtain ⟨cl36, Ar36, -, sz36, -, -⟩ := id V32
      have le36 : cl36.slots.size.toInt32 = (3 : Int32) := by rw [sz36]; exact rfl
      obtain ⟨fs, hr, hrun, hended, hW, hsame⟩ := X32.leave (v := none) (fun _ => rfl)
      refine ⟨_, _, ?_, hrun, hended, _, _, rfl, ?_, ⟨_, rfl⟩, hW, hsame.mono (by decide) (by decide)⟩
      · show Steps p.tables e below (T32.setTop (mkF m 35 #[vr a1, vi p2, vi p3, vr a4, vj ((((1 : Int64) <<< (p3 &&& 0x3f).toInt64)) - (1 : Int64)), .second, vi (3 : Int32), vi p2, vj (f1 (p2).toNatClampNeg), .second, vi ((((0 : Int32) + p3) + p3) + p3)] [(.int (64 : Int32)), (.int (((((0 : Int32) + p3) + p3) + p3) + p3))])) _
        refine XS.icmpYes X32.here hx rfl (pc0 := 35) (pc' := 70) rfl (hb hby d14_35) rfl ((tlt hc35_35).2.2.1) (by decide) (by decide) ?_
        refine XS.iinc X32.here hx rfl (hb hby d14_70) rfl (l' := #[vr a1, vi p2, vi p3, vr a4, vj ((((1 : Int64) <<< (p3 &&& 0x3f).toInt64)) - (1 : Int64)), .second, vi (3 : Int32), vi (p2 + (1 : Int32)), vj (f1 (p2).toNatClampNeg), .second, vi ((((0 : Int32) + p3) + p3) + p3)]) rfl ?_
        refine XS.goto X32.here hx rfl (pc0 := 73) (pc' := 13) rfl (hb hby d14_73) (by decide) (by decide) ?_
        refine XS.iload X32.here hx rfl (hb hby d14_13) rfl ?_
        refine XS.aloadN X32.here hx rfl (hb hby d14_15) rfl rfl ?_
        refine X32.arraylength hx (by rw [e32]; exact Ar36.1) (State.isArrayOf_alike hZ.alike Ar36.2.1) (g := (mkF m 16 #[vr a1, vi p2, vi p3, vr a4, vj ((((1 : Int64) <<< (p3 &&& 0x3f).toInt64)) - (1 : Int64)), .second, vi (3 : Int32), vi (p2 + (1 : Int32)), vj (f1 (p2).toNatClampNeg), .second, vi ((((0 : Int32) + p3) + p3) + p3)] [(.ref a4), (.int (3 : Int32))])) rfl rfl (hb hby d14_16) _ ?_
        rw [le36]
        show Steps p.tables e below (T32.setTop (mkF m 17 #[vr a1, vi p2, vi p3, vr a4, vj ((((1 : Int64) <<< (p3 &&& 0x3f).toInt64)) - (1 : Int64)), .second, vi (3 : Int32), vi (p2 + (1 : Int32)), vj (f1 (p2).toNatClampNeg), .second, vi ((((0 : Int32) + p3) + p3) + p3)] [(.int (3 : Int32)), (.int (3 : Int32))])) _
        refine XS.icmpYes X32.here hx rfl (pc0 := 17) (pc' := 76) rfl (hb hby d14_17) rfl ((flt (by decide : ¬ ((3 : Int32) < (3 : Int32)))).2.1) (by decide) (by decide) ?_
        exact X32.returnOut hx Bd.returns (hb hby d14_76) hr
      · show Qun Z a1 p2 p3 a4 k1 k4 f1 g n1 h0 n0 _ T32.heap _
        rw [e32]
        exact ⟨rfl, N32, K34, (AV.conv V32 (fun i hi => congrArg Value.int ((own_u3 hi).trans (by simp only [own_un, if_neg hf1]; rfl))))⟩
    · obtain ⟨cl37, Ar37, -, sz37, -, -⟩ := id V32
      have le37 : cl37.slots.size.toInt32 = (3 : Int32) := by rw [sz37]; exact rfl
      obtain ⟨cl38, Ar38, -, sz38, -, -⟩ := id V32
      have le38 : cl38.slots.size.toInt32 = (3 : Int32) := by rw [sz38]; exact rfl
      obtain ⟨fs, hr, hrun, hended, hW, hsame⟩ := X32.leave (v := none) (fun _ => rfl)
      refine ⟨_, _, ?_, hrun, hended, _, _, rfl, ?_, ⟨_, rfl⟩, hW, hsame.mono (by decide) (by decide)⟩
      · show Steps p.tables e below (T32.setTop (mkF m 35 #[vr a1, vi p2, vi p3, vr a4, vj ((((1 : Int64) <<< (p3 &&& 0x3f).toInt64)) - (1 : Int64)), .second, vi (3 : Int32), vi p2, vj (f1 (p2).toNatClampNeg), .second, vi ((((0 : Int32) + p3) + p3) + p3)] [(.int (64 : Int32)), (.int (((((0 : Int32) + p3) + p3) + p3) + p3))])) _
        refine XS.icmpNo X32.here hx rfl (hb hby d14_35) rfl ((flt hc35_35).2.2.1) ?_
        refine XS.iload X32.here hx rfl (hb hby d14_38) rfl ?_
        refine XS.aloadN X32.here hx rfl (hb hby d14_40) rfl rfl ?_
        refine X32.arraylength hx (by rw [e32]; exact Ar37.1) (State.isArrayOf_alike hZ.alike Ar37.2.1) (g := (mkF m 41 #[vr a1, vi p2, vi p3, vr a4, vj ((((1 : Int64) <<< (p3 &&& 0x3f).toInt64)) - (1 : Int64)), .second, vi (3 : Int32), vi p2, vj (f1 (p2).toNatClampNeg), .second, vi ((((0 : Int32) + p3) + p3) + p3)] [(.ref a4), (.int (3 : Int32))])) rfl rfl (hb hby d14_41) _ ?_
        rw [le37]
        refine XS.icmpYes X32.here hx rfl (pc0 := 42) (pc' := 70) rfl (hb hby d14_42) rfl ((flt (by decide : ¬ ((3 : Int32) < (3 : Int32)))).2.1) (by decide) (by decide) ?_
        show Steps p.tables e below (T32.setTop (mkF m 70 #[vr a1, vi p2, vi p3, vr a4, vj ((((1 : Int64) <<< (p3 &&& 0x3f).toInt64)) - (1 : Int64)), .second, vi (3 : Int32), vi p2, vj (f1 (p2).toNatClampNeg), .second, vi ((((0 : Int32) + p3) + p3) + p3)] [])) _
        refine XS.iinc X32.here hx rfl (hb hby d14_70) rfl (l' := #[vr a1, vi p2, vi p3, vr a4, vj ((((1 : Int64) <<< (p3 &&& 0x3f).toInt64)) - (1 : Int64)), .second, vi (3 : Int32), vi (p2 + (1 : Int32)), vj (f1 (p2).toNatClampNeg), .second, vi ((((0 : Int32) + p3) + p3) + p3)]) rfl ?_
        refine XS.goto X32.here hx rfl (pc0 := 73) (pc' := 13) rfl (hb hby d14_73) (by decide) (by decide) ?_
        refine XS.iload X32.here hx rfl (hb hby d14_13) rfl ?_
        refine XS.aloadN X32.here hx rfl (hb hby d14_15) rfl rfl ?_
        refine X32.arraylength hx (by rw [e32]; exact Ar38.1) (State.isArrayOf_alike hZ.alike Ar38.2.1) (g := (mkF m 16 #[vr a1, vi p2, vi p3, vr a4, vj ((((1 : Int64) <<< (p3 &&& 0x3f).toInt64)) - (1 : Int64)), .second, vi (3 : Int32), vi (p2 + (1 : Int32)), vj (f1 (p2).toNatClampNeg), .second, vi ((((0 : Int32) + p3) + p3) + p3)] [(.ref a4), (.int (3 : Int32))])) rfl rfl (hb hby d14_16) _ ?_
        rw [le38]
        show Steps p.tables e below (T32.setTop (mkF m 17 #[vr a1, vi p2, vi p3, vr a4, vj ((((1 : Int64) <<< (p3 &&& 0x3f).toInt64)) - (1 : Int64)), .second, vi (3 : Int32), vi (p2 + (1 : Int32)), vj (f1 (p2).toNatClampNeg), .second, vi ((((0 : Int32) + p3) + p3) + p3)] [(.int (3 : Int32)), (.int (3 : Int32))])) _
        refine XS.icmpYes X32.here hx rfl (pc0 := 17) (pc' := 76) rfl (hb hby d14_17) rfl ((flt (by decide : ¬ ((3 : Int32) < (3 : Int32)))).2.1) (by decide) (by decide) ?_
        exact X32.returnOut hx Bd.returns (hb hby d14_76) hr
      · show Qun Z a1 p2 p3 a4 k1 k4 f1 g n1 h0 n0 _ T32.heap _
        rw [e32]
        exact ⟨rfl, N32, K34, (AV.conv V32 (fun i hi => congrArg Value.int ((own_u3 hi).trans (by simp only [own_un, if_neg hf1]; rfl))))⟩
theorem d11_0 : decode prog_21_method_15_code 0 = .ok (.ldc2_w 123, 3) := by decide +kernel
theorem d11_3 : decode prog_21_method_15_code 3 = .ok (.lstore_n 3, 1) := by decide +kernel
theorem d11_4 : decode prog_21_method_15_code 4 = .ok (.iload_n 1, 1) := by decide +kernel
theorem d11_5 : decode prog_21_method_15_code 5 = .ok (.istore 5, 2) := by decide +kernel
theorem d11_7 : decode prog_21_method_15_code 7 = .ok (.iload 5, 2) := by decide +kernel
theorem d11_9 : decode prog_21_method_15_code 9 = .ok (.iload_n 1, 1) := by decide +kernel
theorem d11_10 : decode prog_21_method_15_code 10 = .ok (.iload_n 2, 1) := by decide +kernel
theorem d11_11 : decode prog_21_method_15_code 11 = .ok (.iadd, 1) := by decide +kernel
theorem d11_12 : decode prog_21_method_15_code 12 = .ok (.if_icmp .ge 27, 3) := by decide +kernel
theorem d11_15 : decode prog_21_method_15_code 15 = .ok (.lload_n 3, 1) := by decide +kernel
theorem d11_16 : decode prog_21_method_15_code 16 = .ok (.aload_n 0, 1) := by decide +kernel
theorem d11_17 : decode prog_21_method_15_code 17 = .ok (.iload 5, 2) := by decide +kernel
theorem d11_19 : decode prog_21_method_15_code 19 = .ok (.laload, 1) := by decide +kernel
theorem d11_20 : decode prog_21_method_15_code 20 = .ok (.lxor, 1) := by decide +kernel
theorem d11_21 : decode prog_21_method_15_code 21 = .ok (.ldc2_w 125, 3) := by decide +kernel
theorem d11_24 : decode prog_21_method_15_code 24 = .ok (.lmul, 1) := by decide +kernel
theorem d11_25 : decode prog_21_method_15_code 25 = .ok (.lstore_n 3, 1) := by decide +kernel
theorem d11_26 : decode prog_21_method_15_code 26 = .ok (.lload_n 3, 1) := by decide +kernel
theorem d11_27 : decode prog_21_method_15_code 27 = .ok (.lload_n 3, 1) := by decide +kernel
theorem d11_28 : decode prog_21_method_15_code 28 = .ok (.bipush 29, 2) := by decide +kernel
theorem d11_30 : decode prog_21_method_15_code 30 = .ok (.lushr, 1) := by decide +kernel
theorem d11_31 : decode prog_21_method_15_code 31 = .ok (.lxor, 1) := by decide +kernel
theorem d11_32 : decode prog_21_method_15_code 32 = .ok (.lstore_n 3, 1) := by decide +kernel
theorem d11_33 : decode prog_21_method_15_code 33 = .ok (.iinc 5 1, 3) := by decide +kernel
theorem d11_36 : decode prog_21_method_15_code 36 = .ok (.goto (-29), 3) := by decide +kernel
theorem d11_39 : decode prog_21_method_15_code 39 = .ok (.lload_n 3, 1) := by decide +kernel
theorem d11_40 : decode prog_21_method_15_code 40 = .ok (.ldc2_w 127, 3) := by decide +kernel
theorem d11_43 : decode prog_21_method_15_code 43 = .ok (.lmul, 1) := by decide +kernel
theorem d11_44 : decode prog_21_method_15_code 44 = .ok (.lstore_n 3, 1) := by decide +kernel
theorem d11_45 : decode prog_21_method_15_code 45 = .ok (.lload_n 3, 1) := by decide +kernel
theorem d11_46 : decode prog_21_method_15_code 46 = .ok (.lload_n 3, 1) := by decide +kernel
theorem d11_47 : decode prog_21_method_15_code 47 = .ok (.bipush 32, 2) := by decide +kernel
theorem d11_49 : decode prog_21_method_15_code 49 = .ok (.lushr, 1) := by decide +kernel
theorem d11_50 : decode prog_21_method_15_code 50 = .ok (.lxor, 1) := by decide +kernel
theorem d11_51 : decode prog_21_method_15_code 51 = .ok (.l2i, 1) := by decide +kernel
theorem d11_52 : decode prog_21_method_15_code 52 = .ok (.ireturn, 1) := by decide +kernel
theorem ef_rmh (m : MethodId) (a1 : Addr) (p3 : Int32) : entryFrame m #[(.ref a1), (.int (0 : Int32)), (.int p3)] 6 = mkF m 0 #[vr a1, vi (0 : Int32), vi p3, .unset, .unset, .unset] [] := by first | (simp [entryFrame, mkF, argsToLocals, Value.category]; done) | rfl
def Qh (Z : State) (a1 : Addr) (p3 : Int32) (k1 : ClassId) (f1 : Nat → Int64) (n1 : Nat) (h0 : Heap) (n0 : Nat) (v : Option Value) (h : Heap) (L : List Loc) : Prop := v = some (.int (own_hash p3 (f1 0) (f1 1))) ∧ Fr n0 L ∧ h = h0
set_option maxRecDepth 65536 in
set_option maxHeartbeats 40000000 in
theorem rmh (l : Launch) (Z : State) (a0 : Array Value) (hw : ∀ d ∈ tables_1, d.before a0 Z = true) (ws : List Jvm.Cond) (a1 : Addr) (p3 : Int32) (k1 : ClassId) (f1 : Nat → Int64) (n1 : Nat) (h0 : Heap) (n0 : Nat) (Z0 : n0 ≤ h0.size) (A_a1 : AV Z h0 a1 k1 .long n1 (fun i => Value.long (f1 i))) (hW : p3 = 1 ∨ p3 = 2) (hn : (p3).toNatClampNeg ≤ n1) :
    MetFree l (⟨"com/example/always_over_paths/alwaysoverpaths/explicit/MarkingTable", "hash", "([JII)I"⟩ : MethodName) (head1 (Jvm.Cond.code (⟨"com/example/always_over_paths/alwaysoverpaths/explicit/MarkingTable", "hash", "([JII)I"⟩ : MethodName) prog_21_method_15_code 6 (some .int) :: ws) ({ frames := 0, cells := 0, slots := 0, locals := 0 } : Room)) (fun a U => a = #[(.ref a1), (.int (0 : Int32)), (.int p3)] ∧ Z.Warmed39 U.vm ∧ U.heap = h0) (fun _ _ _ _ _ => True) (fun _ U o U' => ∃ v L, o = .returned v ∧ Qh Z a1 p3 k1 f1 n1 h0 n0 v U'.heap L ∧ FrameEnd U o U' L ({ frames := 0, cells := 0, slots := 0, locals := 0 } : Room).cells ({ frames := 0, cells := 0, slots := 0, locals := 0 } : Room).slots) := by
  refine MetFree.of_bodySF (plainFor_of_name pn_1) hisR ?_
  intro p e s m args below meth c s₁ Bd hml0 hP hK
  obtain ⟨rfl, hZ, hh⟩ := hP
  have hx := Bd.exec
  have hby := Bd.bytes
  have hml : c.maxLocals = 6 := hml0
  have hown : s.vm.findClass "com/example/always_over_paths/alwaysoverpaths/explicit/MarkingTable" = some m.cls := findClass_of_methodNamed Bd.named
  have hnm := (name_of_methodNamed Bd.named Bd.method).1
  have X0 : Stand p l e ({ frames := 0, cells := 0, slots := 0, locals := 0 } : Room) s m #[(.ref a1), (.int (0 : Int32)), (.int p3)] below meth c s₁ [] 0 0 := Stand.of_body Bd
  have e0 : s₁.heap = h0 := by rw [← hh, Bd.state]; rfl
  have N0 := Fr.nil n0
  show GoalS p.tables e below s ({ frames := 0, cells := 0, slots := 0, locals := 0 } : Room).cells ({ frames := 0, cells := 0, slots := 0, locals := 0 } : Room).slots (Qh Z a1 p3 k1 f1 n1 h0 n0) (s₁.setTop (entryFrame m #[(.ref a1), (.int (0 : Int32)), (.int p3)] 6))
  refine GoalS.lift (B := s₁.setTop (mkF m 0 #[vr a1, vi (0 : Int32), vi p3, .unset, .unset, .unset] [])) (fun t k => castTop (ef_rmh m a1 p3) k) ?_
  have K0 : Keep h0 h0 [] := Keep.refl _ _
  rcases hW with hs1 | hs1
  · refine GoalS.lift (B := (s₁.setTop (mkF m 0 #[vr a1, vi (0 : Int32), vi (1 : Int32), .unset, .unset, .unset] []))) (fun t k => by rw [hs1]; exact k) ?_
    obtain ⟨cl2, Ar2, kc2, sz2, -, hv2⟩ := id A_a1
    have hin2 : ¬ ((0 : Int32) < 0 ∨ cl2.slots.size ≤ ((0 : Int32)).toNatClampNeg) := AV.inb sz2 (by rw [hs1] at hn; exact ⟨by decide, Nat.lt_of_lt_of_le (by decide) hn⟩)
    have hat2 : cl2.slots[((0 : Int32)).toNatClampNeg]? = some (.long (f1 0)) := (hv2 _ (AV.inx (by rw [hs1] at hn; exact ⟨by decide, Nat.lt_of_lt_of_le (by decide) hn⟩))).trans (congrArg some rfl)
    obtain ⟨fs, hr, hrun, hended, hW, hsame⟩ := X0.leave (v := some (.int ((((((((-7046029254386353131 : Int64) ^^^ (f1 0)) * (-4658895280553007687 : Int64)) ^^^ ((((((-7046029254386353131 : Int64) ^^^ (f1 0)) * (-4658895280553007687 : Int64))).toUInt64 >>> ((29 : Int32) &&& 0x3f).toInt64.toUInt64).toInt64)) * (-7723592293110705685 : Int64)) ^^^ ((((((((-7046029254386353131 : Int64) ^^^ (f1 0)) * (-4658895280553007687 : Int64)) ^^^ ((((((-7046029254386353131 : Int64) ^^^ (f1 0)) * (-4658895280553007687 : Int64))).toUInt64 >>> ((29 : Int32) &&& 0x3f).toInt64.toUInt64).toInt64)) * (-7723592293110705685 : Int64))).toUInt64 >>> ((32 : Int32) &&& 0x3f).toInt64.toUInt64).toInt64))).toInt32))) (fun h => by rw [Bd.returns] at h; cases h)
    refine ⟨_, _, ?_, hrun, hended, _, _, rfl, ?_, ⟨_, rfl⟩, hW, hsame.mono (by decide) (by decide)⟩
    · show Steps p.tables e below (s₁.setTop (mkF m 0 #[vr a1, vi (0 : Int32), vi (1 : Int32), .unset, .unset, .unset] [])) _
      refine X0.ldc2Long hx hown (mvT hZ (hw _ (List.mem_of_getElem? (i := 62) rfl))) (g := (mkF m 0 #[vr a1, vi (0 : Int32), vi (1 : Int32), .unset, .unset, .unset] [])) rfl (hb hby d11_0) _ ?_
      refine XS.lstoreN X0.here hx rfl (hb hby d11_3) rfl (l' := #[vr a1, vi (0 : Int32), vi (1 : Int32), vj (-7046029254386353131 : Int64), .second, .unset]) rfl ?_
      refine XS.iloadN X0.here hx rfl (hb hby d11_4) rfl ?_
      refine XS.istore X0.here hx rfl (hb hby d11_5) rfl (l' := #[vr a1, vi (0 : Int32), vi (1 : Int32), vj (-7046029254386353131 : Int64), .second, vi (0 : Int32)]) rfl ?_
      refine XS.iload X0.here hx rfl (hb hby d11_7) rfl ?_
      refine XS.iloadN X0.here hx rfl (hb hby d11_9) rfl ?_
      show Steps p.tables e below (s₁.setTop (mkF m 10 #[vr a1, vi (0 : Int32), vi (1 : Int32), vj (-7046029254386353131 : Int64), .second, vi (0 : Int32)] [(.int (0 : Int32)), (.int (0 : Int32))])) _
      refine XS.iloadN X0.here hx rfl (hb hby d11_10) rfl ?_
      refine XS.iadd X0.here hx rfl (hb hby d11_11) rfl ?_
      refine XS.icmpNo X0.here hx rfl (hb hby d11_12) rfl ((tlt (by decide : (0 : Int32) < (1 : Int32))).2.1) ?_
      refine XS.lloadN X0.here hx rfl (hb hby d11_15) rfl ?_
      refine XS.aloadN X0.here hx rfl (hb hby d11_16) rfl rfl ?_
      refine XS.iload X0.here hx rfl (hb hby d11_17) rfl ?_
      show Steps p.tables e below (s₁.setTop (mkF m 19 #[vr a1, vi (0 : Int32), vi (1 : Int32), vj (-7046029254386353131 : Int64), .second, vi (0 : Int32)] [(.int (0 : Int32)), (.ref a1), (.long (-7046029254386353131 : Int64))])) _
      refine X0.laload hx (j := (0 : Int32)) (v := (.long (f1 0))) (by rw [e0]; exact Ar2.1) (State.isArrayOf_alike hZ.alike Ar2.2.1) Ar2.2.2 hin2 hat2 (g := (mkF m 19 #[vr a1, vi (0 : Int32), vi (1 : Int32), vj (-7046029254386353131 : Int64), .second, vi (0 : Int32)] [(.int (0 : Int32)), (.ref a1), (.long (-7046029254386353131 : Int64))])) rfl rfl (hb hby d11_19) _ ?_
      refine XS.lxor X0.here hx rfl (hb hby d11_20) rfl ?_
      refine X0.ldc2Long hx hown (mvT hZ (hw _ (List.mem_of_getElem? (i := 63) rfl))) (g := (mkF m 21 #[vr a1, vi (0 : Int32), vi (1 : Int32), vj (-7046029254386353131 : Int64), .second, vi (0 : Int32)] [(.long ((-7046029254386353131 : Int64) ^^^ (f1 0)))])) rfl (hb hby d11_21) _ ?_
      refine XS.lmul X0.here hx rfl (hb hby d11_24) rfl ?_
      refine XS.lstoreN X0.here hx rfl (hb hby d11_25) rfl (l' := #[vr a1, vi (0 : Int32), vi (1 : Int32), vj (((-7046029254386353131 : Int64) ^^^ (f1 0)) * (-4658895280553007687 : Int64)), .second, vi (0 : Int32)]) rfl ?_
      refine XS.lloadN X0.here hx rfl (hb hby d11_26) rfl ?_
      show Steps p.tables e below (s₁.setTop (mkF m 27 #[vr a1, vi (0 : Int32), vi (1 : Int32), vj (((-7046029254386353131 : Int64) ^^^ (f1 0)) * (-4658895280553007687 : Int64)), .second, vi (0 : Int32)] [(.long (((-7046029254386353131 : Int64) ^^^ (f1 0)) * (-4658895280553007687 : Int64)))])) _
      refine XS.lloadN X0.here hx rfl (hb hby d11_27) rfl ?_
      refine XS.bipush X0.here hx rfl (hb hby d11_28) ?_
      refine XS.lushr X0.here hx rfl (hb hby d11_30) rfl ?_
      refine XS.lxor X0.here hx rfl (hb hby d11_31) rfl ?_
      refine XS.lstoreN X0.here hx rfl (hb hby d11_32) rfl (l' := #[vr a1, vi (0 : Int32), vi (1 : Int32), vj ((((-7046029254386353131 : Int64) ^^^ (f1 0)) * (-4658895280553007687 : Int64)) ^^^ ((((((-7046029254386353131 : Int64) ^^^ (f1 0)) * (-4658895280553007687 : Int64))).toUInt64 >>> ((29 : Int32) &&& 0x3f).toInt64.toUInt64).toInt64)), .second, vi (0 : Int32)]) rfl ?_
      refine XS.iinc X0.here hx rfl (hb hby d11_33) rfl (l' := #[vr a1, vi (0 : Int32), vi (1 : Int32), vj ((((-7046029254386353131 : Int64) ^^^ (f1 0)) * (-4658895280553007687 : Int64)) ^^^ ((((((-7046029254386353131 : Int64) ^^^ (f1 0)) * (-4658895280553007687 : Int64))).toUInt64 >>> ((29 : Int32) &&& 0x3f).toInt64.toUInt64).toInt64)), .second, vi (1 : Int32)]) rfl ?_
      show Steps p.tables e below (s₁.setTop (mkF m 36 #[vr a1, vi (0 : Int32), vi (1 : Int32), vj ((((-7046029254386353131 : Int64) ^^^ (f1 0)) * (-4658895280553007687 : Int64)) ^^^ ((((((-7046029254386353131 : Int64) ^^^ (f1 0)) * (-4658895280553007687 : Int64))).toUInt64 >>> ((29 : Int32) &&& 0x3f).toInt64.toUInt64).toInt64)), .second, vi (1 : Int32)] [])) _
      refine XS.goto X0.here hx rfl (pc0 := 36) (pc' := 7) rfl (hb hby d11_36) (by decide) (by decide) ?_
      refine XS.iload X0.here hx rfl (hb hby d11_7) rfl ?_
      refine XS.iloadN X0.here hx rfl (hb hby d11_9) rfl ?_
      refine XS.iloadN X0.here hx rfl (hb hby d11_10) rfl ?_
      refine XS.iadd X0.here hx rfl (hb hby d11_11) rfl ?_
      refine XS.icmpYes X0.here hx rfl (pc0 := 12) (pc' := 39) rfl (hb hby d11_12) rfl ((flt (by decide : ¬ ((1 : Int32) < (1 : Int32)))).2.1) (by decide) (by decide) ?_
      show Steps p.tables e below (s₁.setTop (mkF m 39 #[vr a1, vi (0 : Int32), vi (1 : Int32), vj ((((-7046029254386353131 : Int64) ^^^ (f1 0)) * (-4658895280553007687 : Int64)) ^^^ ((((((-7046029254386353131 : Int64) ^^^ (f1 0)) * (-4658895280553007687 : Int64))).toUInt64 >>> ((29 : Int32) &&& 0x3f).toInt64.toUInt64).toInt64)), .second, vi (1 : Int32)] [])) _
      refine XS.lloadN X0.here hx rfl (hb hby d11_39) rfl ?_
      refine X0.ldc2Long hx hown (mvT hZ (hw _ (List.mem_of_getElem? (i := 64) rfl))) (g := (mkF m 40 #[vr a1, vi (0 : Int32), vi (1 : Int32), vj ((((-7046029254386353131 : Int64) ^^^ (f1 0)) * (-4658895280553007687 : Int64)) ^^^ ((((((-7046029254386353131 : Int64) ^^^ (f1 0)) * (-4658895280553007687 : Int64))).toUInt64 >>> ((29 : Int32) &&& 0x3f).toInt64.toUInt64).toInt64)), .second, vi (1 : Int32)] [(.long ((((-7046029254386353131 : Int64) ^^^ (f1 0)) * (-4658895280553007687 : Int64)) ^^^ ((((((-7046029254386353131 : Int64) ^^^ (f1 0)) * (-4658895280553007687 : Int64))).toUInt64 >>> ((29 : Int32) &&& 0x3f).toInt64.toUInt64).toInt64)))])) rfl (hb hby d11_40) _ ?_
      refine XS.lmul X0.here hx rfl (hb hby d11_43) rfl ?_
      refine XS.lstoreN X0.here hx rfl (hb hby d11_44) rfl (l' := #[vr a1, vi (0 : Int32), vi (1 : Int32), vj (((((-7046029254386353131 : Int64) ^^^ (f1 0)) * (-4658895280553007687 : Int64)) ^^^ ((((((-7046029254386353131 : Int64) ^^^ (f1 0)) * (-4658895280553007687 : Int64))).toUInt64 >>> ((29 : Int32) &&& 0x3f).toInt64.toUInt64).toInt64)) * (-7723592293110705685 : Int64)), .second, vi (1 : Int32)]) rfl ?_
      refine XS.lloadN X0.here hx rfl (hb hby d11_45) rfl ?_
      refine XS.lloadN X0.here hx rfl (hb hby d11_46) rfl ?_
      show Steps p.tables e below (s₁.setTop (mkF m 47 #[vr a1, vi (0 : Int32), vi (1 : Int32), vj (((((-7046029254386353131 : Int64) ^^^ (f1 0)) * (-4658895280553007687 : Int64)) ^^^ ((((((-7046029254386353131 : Int64) ^^^ (f1 0)) * (-4658895280553007687 : Int64))).toUInt64 >>> ((29 : Int32) &&& 0x3f).toInt64.toUInt64).toInt64)) * (-7723592293110705685 : Int64)), .second, vi (1 : Int32)] [(.long (((((-7046029254386353131 : Int64) ^^^ (f1 0)) * (-4658895280553007687 : Int64)) ^^^ ((((((-7046029254386353131 : Int64) ^^^ (f1 0)) * (-4658895280553007687 : Int64))).toUInt64 >>> ((29 : Int32) &&& 0x3f).toInt64.toUInt64).toInt64)) * (-7723592293110705685 : Int64))), (.long (((((-7046029254386353131 : Int64) ^^^ (f1 0)) * (-4658895280553007687 : Int64)) ^^^ ((((((-7046029254386353131 : Int64) ^^^ (f1 0)) * (-4658895280553007687 : Int64))).toUInt64 >>> ((29 : Int32) &&& 0x3f).toInt64.toUInt64).toInt64)) * (-7723592293110705685 : Int64)))])) _
      refine XS.bipush X0.here hx rfl (hb hby d11_47) ?_
      refine XS.lushr X0.here hx rfl (hb hby d11_49) rfl ?_
      refine XS.lxor X0.here hx rfl (hb hby d11_50) rfl ?_
      refine XS.l2i X0.here hx rfl (hb hby d11_51) rfl ?_
      exact retI X0 hx Bd.returns (hb hby d11_52) hr
    · show Qh Z a1 p3 k1 f1 n1 h0 n0 _ s₁.heap _
      exact ⟨(congrArg (fun z => some (Value.int z)) (by rw [hs1, own_hash, if_pos rfl]; rfl)), N0, e0⟩
  · refine GoalS.lift (B := (s₁.setTop (mkF m 0 #[vr a1, vi (0 : Int32), vi (2 : Int32), .unset, .unset, .unset] []))) (fun t k => by rw [hs1]; exact k) ?_
    obtain ⟨cl3, Ar3, kc3, sz3, -, hv3⟩ := id A_a1
    have hin3 : ¬ ((0 : Int32) < 0 ∨ cl3.slots.size ≤ ((0 : Int32)).toNatClampNeg) := AV.inb sz3 (by rw [hs1] at hn; exact ⟨by decide, Nat.lt_of_lt_of_le (by decide) hn⟩)
    have hat3 : cl3.slots[((0 : Int32)).toNatClampNeg]? = some (.long (f1 0)) := (hv3 _ (AV.inx (by rw [hs1] at hn; exact ⟨by decide, Nat.lt_of_lt_of_le (by decide) hn⟩))).trans (congrArg some rfl)
    obtain ⟨cl4, Ar4, kc4, sz4, -, hv4⟩ := id A_a1
    have hin4 : ¬ ((1 : Int32) < 0 ∨ cl4.slots.size ≤ ((1 : Int32)).toNatClampNeg) := AV.inb sz4 (by rw [hs1] at hn; exact ⟨by decide, Nat.lt_of_lt_of_le (by decide) hn⟩)
    have hat4 : cl4.slots[((1 : Int32)).toNatClampNeg]? = some (.long (f1 1)) := (hv4 _ (AV.inx (by rw [hs1] at hn; exact ⟨by decide, Nat.lt_of_lt_of_le (by decide) hn⟩))).trans (congrArg some rfl)
    obtain ⟨fs, hr, hrun, hended, hW, hsame⟩ := X0.leave (v := some (.int (((((((((((-7046029254386353131 : Int64) ^^^ (f1 0)) * (-4658895280553007687 : Int64)) ^^^ ((((((-7046029254386353131 : Int64) ^^^ (f1 0)) * (-4658895280553007687 : Int64))).toUInt64 >>> ((29 : Int32) &&& 0x3f).toInt64.toUInt64).toInt64)) ^^^ (f1 1)) * (-4658895280553007687 : Int64)) ^^^ (((((((((-7046029254386353131 : Int64) ^^^ (f1 0)) * (-4658895280553007687 : Int64)) ^^^ ((((((-7046029254386353131 : Int64) ^^^ (f1 0)) * (-4658895280553007687 : Int64))).toUInt64 >>> ((29 : Int32) &&& 0x3f).toInt64.toUInt64).toInt64)) ^^^ (f1 1)) * (-4658895280553007687 : Int64))).toUInt64 >>> ((29 : Int32) &&& 0x3f).toInt64.toUInt64).toInt64)) * (-7723592293110705685 : Int64)) ^^^ (((((((((((-7046029254386353131 : Int64) ^^^ (f1 0)) * (-4658895280553007687 : Int64)) ^^^ ((((((-7046029254386353131 : Int64) ^^^ (f1 0)) * (-4658895280553007687 : Int64))).toUInt64 >>> ((29 : Int32) &&& 0x3f).toInt64.toUInt64).toInt64)) ^^^ (f1 1)) * (-4658895280553007687 : Int64)) ^^^ (((((((((-7046029254386353131 : Int64) ^^^ (f1 0)) * (-4658895280553007687 : Int64)) ^^^ ((((((-7046029254386353131 : Int64) ^^^ (f1 0)) * (-4658895280553007687 : Int64))).toUInt64 >>> ((29 : Int32) &&& 0x3f).toInt64.toUInt64).toInt64)) ^^^ (f1 1)) * (-4658895280553007687 : Int64))).toUInt64 >>> ((29 : Int32) &&& 0x3f).toInt64.toUInt64).toInt64)) * (-7723592293110705685 : Int64))).toUInt64 >>> ((32 : Int32) &&& 0x3f).toInt64.toUInt64).toInt64))).toInt32))) (fun h => by rw [Bd.returns] at h; cases h)
    refine ⟨_, _, ?_, hrun, hended, _, _, rfl, ?_, ⟨_, rfl⟩, hW, hsame.mono (by decide) (by decide)⟩
    · show Steps p.tables e below (s₁.setTop (mkF m 0 #[vr a1, vi (0 : Int32), vi (2 : Int32), .unset, .unset, .unset] [])) _
      refine X0.ldc2Long hx hown (mvT hZ (hw _ (List.mem_of_getElem? (i := 62) rfl))) (g := (mkF m 0 #[vr a1, vi (0 : Int32), vi (2 : Int32), .unset, .unset, .unset] [])) rfl (hb hby d11_0) _ ?_
      refine XS.lstoreN X0.here hx rfl (hb hby d11_3) rfl (l' := #[vr a1, vi (0 : Int32), vi (2 : Int32), vj (-7046029254386353131 : Int64), .second, .unset]) rfl ?_
      refine XS.iloadN X0.here hx rfl (hb hby d11_4) rfl ?_
      refine XS.istore X0.here hx rfl (hb hby d11_5) rfl (l' := #[vr a1, vi (0 : Int32), vi (2 : Int32), vj (-7046029254386353131 : Int64), .second, vi (0 : Int32)]) rfl ?_
      refine XS.iload X0.here hx rfl (hb hby d11_7) rfl ?_
      refine XS.iloadN X0.here hx rfl (hb hby d11_9) rfl ?_
      show Steps p.tables e below (s₁.setTop (mkF m 10 #[vr a1, vi (0 : Int32), vi (2 : Int32), vj (-7046029254386353131 : Int64), .second, vi (0 : Int32)] [(.int (0 : Int32)), (.int (0 : Int32))])) _
      refine XS.iloadN X0.here hx rfl (hb hby d11_10) rfl ?_
      refine XS.iadd X0.here hx rfl (hb hby d11_11) rfl ?_
      refine XS.icmpNo X0.here hx rfl (hb hby d11_12) rfl ((tlt (by decide : (0 : Int32) < (2 : Int32))).2.1) ?_
      refine XS.lloadN X0.here hx rfl (hb hby d11_15) rfl ?_
      refine XS.aloadN X0.here hx rfl (hb hby d11_16) rfl rfl ?_
      refine XS.iload X0.here hx rfl (hb hby d11_17) rfl ?_
      show Steps p.tables e below (s₁.setTop (mkF m 19 #[vr a1, vi (0 : Int32), vi (2 : Int32), vj (-7046029254386353131 : Int64), .second, vi (0 : Int32)] [(.int (0 : Int32)), (.ref a1), (.long (-7046029254386353131 : Int64))])) _
      refine X0.laload hx (j := (0 : Int32)) (v := (.long (f1 0))) (by rw [e0]; exact Ar3.1) (State.isArrayOf_alike hZ.alike Ar3.2.1) Ar3.2.2 hin3 hat3 (g := (mkF m 19 #[vr a1, vi (0 : Int32), vi (2 : Int32), vj (-7046029254386353131 : Int64), .second, vi (0 : Int32)] [(.int (0 : Int32)), (.ref a1), (.long (-7046029254386353131 : Int64))])) rfl rfl (hb hby d11_19) _ ?_
      refine XS.lxor X0.here hx rfl (hb hby d11_20) rfl ?_
      refine X0.ldc2Long hx hown (mvT hZ (hw _ (List.mem_of_getElem? (i := 63) rfl))) (g := (mkF m 21 #[vr a1, vi (0 : Int32), vi (2 : Int32), vj (-7046029254386353131 : Int64), .second, vi (0 : Int32)] [(.long ((-7046029254386353131 : Int64) ^^^ (f1 0)))])) rfl (hb hby d11_21) _ ?_
      refine XS.lmul X0.here hx rfl (hb hby d11_24) rfl ?_
      refine XS.lstoreN X0.here hx rfl (hb hby d11_25) rfl (l' := #[vr a1, vi (0 : Int32), vi (2 : Int32), vj (((-7046029254386353131 : Int64) ^^^ (f1 0)) * (-4658895280553007687 : Int64)), .second, vi (0 : Int32)]) rfl ?_
      refine XS.lloadN X0.here hx rfl (hb hby d11_26) rfl ?_
      show Steps p.tables e below (s₁.setTop (mkF m 27 #[vr a1, vi (0 : Int32), vi (2 : Int32), vj (((-7046029254386353131 : Int64) ^^^ (f1 0)) * (-4658895280553007687 : Int64)), .second, vi (0 : Int32)] [(.long (((-7046029254386353131 : Int64) ^^^ (f1 0)) * (-4658895280553007687 : Int64)))])) _
      refine XS.lloadN X0.here hx rfl (hb hby d11_27) rfl ?_
      refine XS.bipush X0.here hx rfl (hb hby d11_28) ?_
      refine XS.lushr X0.here hx rfl (hb hby d11_30) rfl ?_
      refine XS.lxor X0.here hx rfl (hb hby d11_31) rfl ?_
      refine XS.lstoreN X0.here hx rfl (hb hby d11_32) rfl (l' := #[vr a1, vi (0 : Int32), vi (2 : Int32), vj ((((-7046029254386353131 : Int64) ^^^ (f1 0)) * (-4658895280553007687 : Int64)) ^^^ ((((((-7046029254386353131 : Int64) ^^^ (f1 0)) * (-4658895280553007687 : Int64))).toUInt64 >>> ((29 : Int32) &&& 0x3f).toInt64.toUInt64).toInt64)), .second, vi (0 : Int32)]) rfl ?_
      refine XS.iinc X0.here hx rfl (hb hby d11_33) rfl (l' := #[vr a1, vi (0 : Int32), vi (2 : Int32), vj ((((-7046029254386353131 : Int64) ^^^ (f1 0)) * (-4658895280553007687 : Int64)) ^^^ ((((((-7046029254386353131 : Int64) ^^^ (f1 0)) * (-4658895280553007687 : Int64))).toUInt64 >>> ((29 : Int32) &&& 0x3f).toInt64.toUInt64).toInt64)), .second, vi (1 : Int32)]) rfl ?_
      show Steps p.tables e below (s₁.setTop (mkF m 36 #[vr a1, vi (0 : Int32), vi (2 : Int32), vj ((((-7046029254386353131 : Int64) ^^^ (f1 0)) * (-4658895280553007687 : Int64)) ^^^ ((((((-7046029254386353131 : Int64) ^^^ (f1 0)) * (-4658895280553007687 : Int64))).toUInt64 >>> ((29 : Int32) &&& 0x3f).toInt64.toUInt64).toInt64)), .second, vi (1 : Int32)] [])) _
      refine XS.goto X0.here hx rfl (pc0 := 36) (pc' := 7) rfl (hb hby d11_36) (by decide) (by decide) ?_
      refine XS.iload X0.here hx rfl (hb hby d11_7) rfl ?_
      refine XS.iloadN X0.here hx rfl (hb hby d11_9) rfl ?_
      refine XS.iloadN X0.here hx rfl (hb hby d11_10) rfl ?_
      refine XS.iadd X0.here hx rfl (hb hby d11_11) rfl ?_
      refine XS.icmpNo X0.here hx rfl (hb hby d11_12) rfl ((tlt (by decide : (1 : Int32) < (2 : Int32))).2.1) ?_
      show Steps p.tables e below (s₁.setTop (mkF m 15 #[vr a1, vi (0 : Int32), vi (2 : Int32), vj ((((-7046029254386353131 : Int64) ^^^ (f1 0)) * (-4658895280553007687 : Int64)) ^^^ ((((((-7046029254386353131 : Int64) ^^^ (f1 0)) * (-4658895280553007687 : Int64))).toUInt64 >>> ((29 : Int32) &&& 0x3f).toInt64.toUInt64).toInt64)), .second, vi (1 : Int32)] [])) _
      refine XS.lloadN X0.here hx rfl (hb hby d11_15) rfl ?_
      refine XS.aloadN X0.here hx rfl (hb hby d11_16) rfl rfl ?_
      refine XS.iload X0.here hx rfl (hb hby d11_17) rfl ?_
      refine X0.laload hx (j := (1 : Int32)) (v := (.long (f1 1))) (by rw [e0]; exact Ar4.1) (State.isArrayOf_alike hZ.alike Ar4.2.1) Ar4.2.2 hin4 hat4 (g := (mkF m 19 #[vr a1, vi (0 : Int32), vi (2 : Int32), vj ((((-7046029254386353131 : Int64) ^^^ (f1 0)) * (-4658895280553007687 : Int64)) ^^^ ((((((-7046029254386353131 : Int64) ^^^ (f1 0)) * (-4658895280553007687 : Int64))).toUInt64 >>> ((29 : Int32) &&& 0x3f).toInt64.toUInt64).toInt64)), .second, vi (1 : Int32)] [(.int (1 : Int32)), (.ref a1), (.long ((((-7046029254386353131 : Int64) ^^^ (f1 0)) * (-4658895280553007687 : Int64)) ^^^ ((((((-7046029254386353131 : Int64) ^^^ (f1 0)) * (-4658895280553007687 : Int64))).toUInt64 >>> ((29 : Int32) &&& 0x3f).toInt64.toUInt64).toInt64)))])) rfl rfl (hb hby d11_19) _ ?_
      refine XS.lxor X0.here hx rfl (hb hby d11_20) rfl ?_
      refine X0.ldc2Long hx hown (mvT hZ (hw _ (List.mem_of_getElem? (i := 63) rfl))) (g := (mkF m 21 #[vr a1, vi (0 : Int32), vi (2 : Int32), vj ((((-7046029254386353131 : Int64) ^^^ (f1 0)) * (-4658895280553007687 : Int64)) ^^^ ((((((-7046029254386353131 : Int64) ^^^ (f1 0)) * (-4658895280553007687 : Int64))).toUInt64 >>> ((29 : Int32) &&& 0x3f).toInt64.toUInt64).toInt64)), .second, vi (1 : Int32)] [(.long (((((-7046029254386353131 : Int64) ^^^ (f1 0)) * (-4658895280553007687 : Int64)) ^^^ ((((((-7046029254386353131 : Int64) ^^^ (f1 0)) * (-4658895280553007687 : Int64))).toUInt64 >>> ((29 : Int32) &&& 0x3f).toInt64.toUInt64).toInt64)) ^^^ (f1 1)))])) rfl (hb hby d11_21) _ ?_
      show Steps p.tables e below (s₁.setTop (mkF m 24 #[vr a1, vi (0 : Int32), vi (2 : Int32), vj ((((-7046029254386353131 : Int64) ^^^ (f1 0)) * (-4658895280553007687 : Int64)) ^^^ ((((((-7046029254386353131 : Int64) ^^^ (f1 0)) * (-4658895280553007687 : Int64))).toUInt64 >>> ((29 : Int32) &&& 0x3f).toInt64.toUInt64).toInt64)), .second, vi (1 : Int32)] [(.long (-4658895280553007687 : Int64)), (.long (((((-7046029254386353131 : Int64) ^^^ (f1 0)) * (-4658895280553007687 : Int64)) ^^^ ((((((-7046029254386353131 : Int64) ^^^ (f1 0)) * (-4658895280553007687 : Int64))).toUInt64 >>> ((29 : Int32) &&& 0x3f).toInt64.toUInt64).toInt64)) ^^^ (f1 1)))])) _
      refine XS.lmul X0.here hx rfl (hb hby d11_24) rfl ?_
      refine XS.lstoreN X0.here hx rfl (hb hby d11_25) rfl (l' := #[vr a1, vi (0 : Int32), vi (2 : Int32), vj ((((((-7046029254386353131 : Int64) ^^^ (f1 0)) * (-4658895280553007687 : Int64)) ^^^ ((((((-7046029254386353131 : Int64) ^^^ (f1 0)) * (-4658895280553007687 : Int64))).toUInt64 >>> ((29 : Int32) &&& 0x3f).toInt64.toUInt64).toInt64)) ^^^ (f1 1)) * (-4658895280553007687 : Int64)), .second, vi (1 : Int32)]) rfl ?_
      refine XS.lloadN X0.here hx rfl (hb hby d11_26) rfl ?_
      refine XS.lloadN X0.here hx rfl (hb hby d11_27) rfl ?_
      refine XS.bipush X0.here hx rfl (hb hby d11_28) ?_
      refine XS.lushr X0.here hx rfl (hb hby d11_30) rfl ?_
      show Steps p.tables e below (s₁.setTop (mkF m 31 #[vr a1, vi (0 : Int32), vi (2 : Int32), vj ((((((-7046029254386353131 : Int64) ^^^ (f1 0)) * (-4658895280553007687 : Int64)) ^^^ ((((((-7046029254386353131 : Int64) ^^^ (f1 0)) * (-4658895280553007687 : Int64))).toUInt64 >>> ((29 : Int32) &&& 0x3f).toInt64.toUInt64).toInt64)) ^^^ (f1 1)) * (-4658895280553007687 : Int64)), .second, vi (1 : Int32)] [(.long (((((((((-7046029254386353131 : Int64) ^^^ (f1 0)) * (-4658895280553007687 : Int64)) ^^^ ((((((-7046029254386353131 : Int64) ^^^ (f1 0)) * (-4658895280553007687 : Int64))).toUInt64 >>> ((29 : Int32) &&& 0x3f).toInt64.toUInt64).toInt64)) ^^^ (f1 1)) * (-4658895280553007687 : Int64))).toUInt64 >>> ((29 : Int32) &&& 0x3f).toInt64.toUInt64).toInt64)), (.long ((((((-7046029254386353131 : Int64) ^^^ (f1 0)) * (-4658895280553007687 : Int64)) ^^^ ((((((-7046029254386353131 : Int64) ^^^ (f1 0)) * (-4658895280553007687 : Int64))).toUInt64 >>> ((29 : Int32) &&& 0x3f).toInt64.toUInt64).toInt64)) ^^^ (f1 1)) * (-4658895280553007687 : Int64)))])) _
      refine XS.lxor X0.here hx rfl (hb hby d11_31) rfl ?_
      refine XS.lstoreN X0.here hx rfl (hb hby d11_32) rfl (l' := #[vr a1, vi (0 : Int32), vi (2 : Int32), vj (((((((-7046029254386353131 : Int64) ^^^ (f1 0)) * (-4658895280553007687 : Int64)) ^^^ ((((((-7046029254386353131 : Int64) ^^^ (f1 0)) * (-4658895280553007687 : Int64))).toUInt64 >>> ((29 : Int32) &&& 0x3f).toInt64.toUInt64).toInt64)) ^^^ (f1 1)) * (-4658895280553007687 : Int64)) ^^^ (((((((((-7046029254386353131 : Int64) ^^^ (f1 0)) * (-4658895280553007687 : Int64)) ^^^ ((((((-7046029254386353131 : Int64) ^^^ (f1 0)) * (-4658895280553007687 : Int64))).toUInt64 >>> ((29 : Int32) &&& 0x3f).toInt64.toUInt64).toInt64)) ^^^ (f1 1)) * (-4658895280553007687 : Int64))).toUInt64 >>> ((29 : Int32) &&& 0x3f).toInt64.toUInt64).toInt64)), .second, vi (1 : Int32)]) rfl ?_
      refine XS.iinc X0.here hx rfl (hb hby d11_33) rfl (l' := #[vr a1, vi (0 : Int32), vi (2 : Int32), vj (((((((-7046029254386353131 : Int64) ^^^ (f1 0)) * (-4658895280553007687 : Int64)) ^^^ ((((((-7046029254386353131 : Int64) ^^^ (f1 0)) * (-4658895280553007687 : Int64))).toUInt64 >>> ((29 : Int32) &&& 0x3f).toInt64.toUInt64).toInt64)) ^^^ (f1 1)) * (-4658895280553007687 : Int64)) ^^^ (((((((((-7046029254386353131 : Int64) ^^^ (f1 0)) * (-4658895280553007687 : Int64)) ^^^ ((((((-7046029254386353131 : Int64) ^^^ (f1 0)) * (-4658895280553007687 : Int64))).toUInt64 >>> ((29 : Int32) &&& 0x3f).toInt64.toUInt64).toInt64)) ^^^ (f1 1)) * (-4658895280553007687 : Int64))).toUInt64 >>> ((29 : Int32) &&& 0x3f).toInt64.toUInt64).toInt64)), .second, vi (2 : Int32)]) rfl ?_
      refine XS.goto X0.here hx rfl (pc0 := 36) (pc' := 7) rfl (hb hby d11_36) (by decide) (by decide) ?_
      refine XS.iload X0.here hx rfl (hb hby d11_7) rfl ?_
      refine XS.iloadN X0.here hx rfl (hb hby d11_9) rfl ?_
      show Steps p.tables e below (s₁.setTop (mkF m 10 #[vr a1, vi (0 : Int32), vi (2 : Int32), vj (((((((-7046029254386353131 : Int64) ^^^ (f1 0)) * (-4658895280553007687 : Int64)) ^^^ ((((((-7046029254386353131 : Int64) ^^^ (f1 0)) * (-4658895280553007687 : Int64))).toUInt64 >>> ((29 : Int32) &&& 0x3f).toInt64.toUInt64).toInt64)) ^^^ (f1 1)) * (-4658895280553007687 : Int64)) ^^^ (((((((((-7046029254386353131 : Int64) ^^^ (f1 0)) * (-4658895280553007687 : Int64)) ^^^ ((((((-7046029254386353131 : Int64) ^^^ (f1 0)) * (-4658895280553007687 : Int64))).toUInt64 >>> ((29 : Int32) &&& 0x3f).toInt64.toUInt64).toInt64)) ^^^ (f1 1)) * (-4658895280553007687 : Int64))).toUInt64 >>> ((29 : Int32) &&& 0x3f).toInt64.toUInt64).toInt64)), .second, vi (2 : Int32)] [(.int (0 : Int32)), (.int (2 : Int32))])) _
      refine XS.iloadN X0.here hx rfl (hb hby d11_10) rfl ?_
      refine XS.iadd X0.here hx rfl (hb hby d11_11) rfl ?_
      refine XS.icmpYes X0.here hx rfl (pc0 := 12) (pc' := 39) rfl (hb hby d11_12) rfl ((flt (by decide : ¬ ((2 : Int32) < (2 : Int32)))).2.1) (by decide) (by decide) ?_
      refine XS.lloadN X0.here hx rfl (hb hby d11_39) rfl ?_
      refine X0.ldc2Long hx hown (mvT hZ (hw _ (List.mem_of_getElem? (i := 64) rfl))) (g := (mkF m 40 #[vr a1, vi (0 : Int32), vi (2 : Int32), vj (((((((-7046029254386353131 : Int64) ^^^ (f1 0)) * (-4658895280553007687 : Int64)) ^^^ ((((((-7046029254386353131 : Int64) ^^^ (f1 0)) * (-4658895280553007687 : Int64))).toUInt64 >>> ((29 : Int32) &&& 0x3f).toInt64.toUInt64).toInt64)) ^^^ (f1 1)) * (-4658895280553007687 : Int64)) ^^^ (((((((((-7046029254386353131 : Int64) ^^^ (f1 0)) * (-4658895280553007687 : Int64)) ^^^ ((((((-7046029254386353131 : Int64) ^^^ (f1 0)) * (-4658895280553007687 : Int64))).toUInt64 >>> ((29 : Int32) &&& 0x3f).toInt64.toUInt64).toInt64)) ^^^ (f1 1)) * (-4658895280553007687 : Int64))).toUInt64 >>> ((29 : Int32) &&& 0x3f).toInt64.toUInt64).toInt64)), .second, vi (2 : Int32)] [(.long (((((((-7046029254386353131 : Int64) ^^^ (f1 0)) * (-4658895280553007687 : Int64)) ^^^ ((((((-7046029254386353131 : Int64) ^^^ (f1 0)) * (-4658895280553007687 : Int64))).toUInt64 >>> ((29 : Int32) &&& 0x3f).toInt64.toUInt64).toInt64)) ^^^ (f1 1)) * (-4658895280553007687 : Int64)) ^^^ (((((((((-7046029254386353131 : Int64) ^^^ (f1 0)) * (-4658895280553007687 : Int64)) ^^^ ((((((-7046029254386353131 : Int64) ^^^ (f1 0)) * (-4658895280553007687 : Int64))).toUInt64 >>> ((29 : Int32) &&& 0x3f).toInt64.toUInt64).toInt64)) ^^^ (f1 1)) * (-4658895280553007687 : Int64))).toUInt64 >>> ((29 : Int32) &&& 0x3f).toInt64.toUInt64).toInt64)))])) rfl (hb hby d11_40) _ ?_
      refine XS.lmul X0.here hx rfl (hb hby d11_43) rfl ?_
      show Steps p.tables e below (s₁.setTop (mkF m 44 #[vr a1, vi (0 : Int32), vi (2 : Int32), vj (((((((-7046029254386353131 : Int64) ^^^ (f1 0)) * (-4658895280553007687 : Int64)) ^^^ ((((((-7046029254386353131 : Int64) ^^^ (f1 0)) * (-4658895280553007687 : Int64))).toUInt64 >>> ((29 : Int32) &&& 0x3f).toInt64.toUInt64).toInt64)) ^^^ (f1 1)) * (-4658895280553007687 : Int64)) ^^^ (((((((((-7046029254386353131 : Int64) ^^^ (f1 0)) * (-4658895280553007687 : Int64)) ^^^ ((((((-7046029254386353131 : Int64) ^^^ (f1 0)) * (-4658895280553007687 : Int64))).toUInt64 >>> ((29 : Int32) &&& 0x3f).toInt64.toUInt64).toInt64)) ^^^ (f1 1)) * (-4658895280553007687 : Int64))).toUInt64 >>> ((29 : Int32) &&& 0x3f).toInt64.toUInt64).toInt64)), .second, vi (2 : Int32)] [(.long ((((((((-7046029254386353131 : Int64) ^^^ (f1 0)) * (-4658895280553007687 : Int64)) ^^^ ((((((-7046029254386353131 : Int64) ^^^ (f1 0)) * (-4658895280553007687 : Int64))).toUInt64 >>> ((29 : Int32) &&& 0x3f).toInt64.toUInt64).toInt64)) ^^^ (f1 1)) * (-4658895280553007687 : Int64)) ^^^ (((((((((-7046029254386353131 : Int64) ^^^ (f1 0)) * (-4658895280553007687 : Int64)) ^^^ ((((((-7046029254386353131 : Int64) ^^^ (f1 0)) * (-4658895280553007687 : Int64))).toUInt64 >>> ((29 : Int32) &&& 0x3f).toInt64.toUInt64).toInt64)) ^^^ (f1 1)) * (-4658895280553007687 : Int64))).toUInt64 >>> ((29 : Int32) &&& 0x3f).toInt64.toUInt64).toInt64)) * (-7723592293110705685 : Int64)))])) _
      refine XS.lstoreN X0.here hx rfl (hb hby d11_44) rfl (l' := #[vr a1, vi (0 : Int32), vi (2 : Int32), vj ((((((((-7046029254386353131 : Int64) ^^^ (f1 0)) * (-4658895280553007687 : Int64)) ^^^ ((((((-7046029254386353131 : Int64) ^^^ (f1 0)) * (-4658895280553007687 : Int64))).toUInt64 >>> ((29 : Int32) &&& 0x3f).toInt64.toUInt64).toInt64)) ^^^ (f1 1)) * (-4658895280553007687 : Int64)) ^^^ (((((((((-7046029254386353131 : Int64) ^^^ (f1 0)) * (-4658895280553007687 : Int64)) ^^^ ((((((-7046029254386353131 : Int64) ^^^ (f1 0)) * (-4658895280553007687 : Int64))).toUInt64 >>> ((29 : Int32) &&& 0x3f).toInt64.toUInt64).toInt64)) ^^^ (f1 1)) * (-4658895280553007687 : Int64))).toUInt64 >>> ((29 : Int32) &&& 0x3f).toInt64.toUInt64).toInt64)) * (-7723592293110705685 : Int64)), .second, vi (2 : Int32)]) rfl ?_
      refine XS.lloadN X0.here hx rfl (hb hby d11_45) rfl ?_
      refine XS.lloadN X0.here hx rfl (hb hby d11_46) rfl ?_
      refine XS.bipush X0.here hx rfl (hb hby d11_47) ?_
      refine XS.lushr X0.here hx rfl (hb hby d11_49) rfl ?_
      refine XS.lxor X0.here hx rfl (hb hby d11_50) rfl ?_
      show Steps p.tables e below (s₁.setTop (mkF m 51 #[vr a1, vi (0 : Int32), vi (2 : Int32), vj ((((((((-7046029254386353131 : Int64) ^^^ (f1 0)) * (-4658895280553007687 : Int64)) ^^^ ((((((-7046029254386353131 : Int64) ^^^ (f1 0)) * (-4658895280553007687 : Int64))).toUInt64 >>> ((29 : Int32) &&& 0x3f).toInt64.toUInt64).toInt64)) ^^^ (f1 1)) * (-4658895280553007687 : Int64)) ^^^ (((((((((-7046029254386353131 : Int64) ^^^ (f1 0)) * (-4658895280553007687 : Int64)) ^^^ ((((((-7046029254386353131 : Int64) ^^^ (f1 0)) * (-4658895280553007687 : Int64))).toUInt64 >>> ((29 : Int32) &&& 0x3f).toInt64.toUInt64).toInt64)) ^^^ (f1 1)) * (-4658895280553007687 : Int64))).toUInt64 >>> ((29 : Int32) &&& 0x3f).toInt64.toUInt64).toInt64)) * (-7723592293110705685 : Int64)), .second, vi (2 : Int32)] [(.long (((((((((-7046029254386353131 : Int64) ^^^ (f1 0)) * (-4658895280553007687 : Int64)) ^^^ ((((((-7046029254386353131 : Int64) ^^^ (f1 0)) * (-4658895280553007687 : Int64))).toUInt64 >>> ((29 : Int32) &&& 0x3f).toInt64.toUInt64).toInt64)) ^^^ (f1 1)) * (-4658895280553007687 : Int64)) ^^^ (((((((((-7046029254386353131 : Int64) ^^^ (f1 0)) * (-4658895280553007687 : Int64)) ^^^ ((((((-7046029254386353131 : Int64) ^^^ (f1 0)) * (-4658895280553007687 : Int64))).toUInt64 >>> ((29 : Int32) &&& 0x3f).toInt64.toUInt64).toInt64)) ^^^ (f1 1)) * (-4658895280553007687 : Int64))).toUInt64 >>> ((29 : Int32) &&& 0x3f).toInt64.toUInt64).toInt64)) * (-7723592293110705685 : Int64)) ^^^ (((((((((((-7046029254386353131 : Int64) ^^^ (f1 0)) * (-4658895280553007687 : Int64)) ^^^ ((((((-7046029254386353131 : Int64) ^^^ (f1 0)) * (-4658895280553007687 : Int64))).toUInt64 >>> ((29 : Int32) &&& 0x3f).toInt64.toUInt64).toInt64)) ^^^ (f1 1)) * (-4658895280553007687 : Int64)) ^^^ (((((((((-7046029254386353131 : Int64) ^^^ (f1 0)) * (-4658895280553007687 : Int64)) ^^^ ((((((-7046029254386353131 : Int64) ^^^ (f1 0)) * (-4658895280553007687 : Int64))).toUInt64 >>> ((29 : Int32) &&& 0x3f).toInt64.toUInt64).toInt64)) ^^^ (f1 1)) * (-4658895280553007687 : Int64))).toUInt64 >>> ((29 : Int32) &&& 0x3f).toInt64.toUInt64).toInt64)) * (-7723592293110705685 : Int64))).toUInt64 >>> ((32 : Int32) &&& 0x3f).toInt64.toUInt64).toInt64)))])) _
      refine XS.l2i X0.here hx rfl (hb hby d11_51) rfl ?_
      exact retI X0 hx Bd.returns (hb hby d11_52) hr
    · show Qh Z a1 p3 k1 f1 n1 h0 n0 _ s₁.heap _
      exact ⟨(congrArg (fun z => some (Value.int z)) (by rw [hs1, own_hash, if_neg (by decide)]; rfl)), N0, e0⟩
theorem d12_0 : decode prog_21_method_7_code 0 = .ok (.aload_n 0, 1) := by decide +kernel
theorem d12_1 : decode prog_21_method_7_code 1 = .ok (.getfield 36, 3) := by decide +kernel
theorem d12_4 : decode prog_21_method_7_code 4 = .ok (.iconst 1, 1) := by decide +kernel
theorem d12_5 : decode prog_21_method_7_code 5 = .ok (.iadd, 1) := by decide +kernel
theorem d12_6 : decode prog_21_method_7_code 6 = .ok (.i2l, 1) := by decide +kernel
theorem d12_7 : decode prog_21_method_7_code 7 = .ok (.aload_n 0, 1) := by decide +kernel
theorem d12_8 : decode prog_21_method_7_code 8 = .ok (.getfield 22, 3) := by decide +kernel
theorem d12_11 : decode prog_21_method_7_code 11 = .ok (.i2l, 1) := by decide +kernel
theorem d12_12 : decode prog_21_method_7_code 12 = .ok (.lmul, 1) := by decide +kernel
theorem d12_13 : decode prog_21_method_7_code 13 = .ok (.lstore_n 1, 1) := by decide +kernel
theorem d12_14 : decode prog_21_method_7_code 14 = .ok (.lload_n 1, 1) := by decide +kernel
theorem d12_15 : decode prog_21_method_7_code 15 = .ok (.aload_n 0, 1) := by decide +kernel
theorem d12_16 : decode prog_21_method_7_code 16 = .ok (.getfield 25, 3) := by decide +kernel
theorem d12_19 : decode prog_21_method_7_code 19 = .ok (.arraylength, 1) := by decide +kernel
theorem d12_20 : decode prog_21_method_7_code 20 = .ok (.i2l, 1) := by decide +kernel
theorem d12_21 : decode prog_21_method_7_code 21 = .ok (.lcmp, 1) := by decide +kernel
theorem d12_22 : decode prog_21_method_7_code 22 = .ok (.ifCond .gt 4, 3) := by decide +kernel
theorem d12_25 : decode prog_21_method_7_code 25 = .ok (.return_, 1) := by decide +kernel
theorem ef_rmer (m : MethodId) (a1 : Addr) : entryFrame m #[(.ref a1)] 4 = mkF m 0 #[vr a1, .unset, .unset, .unset] [] := by first | (simp [entryFrame, mkF, argsToLocals, Value.category]; done) | rfl
def Qer (Z : State) (a1 : Addr) (B : Int32) (z : Int32) (P : Addr) (kP : ClassId) (fP : Nat → Int64) (h0 : Heap) (n0 : Nat) (v : Option Value) (h : Heap) (L : List Loc) : Prop := v = none ∧ Fr n0 L ∧ h = h0
set_option maxRecDepth 65536 in
set_option maxHeartbeats 40000000 in
theorem rmer (l : Launch) (Z : State) (a0 : Array Value) (hw : ∀ d ∈ tables_1, d.before a0 Z = true) (ws : List Jvm.Cond) (a1 : Addr) (B : Int32) (z : Int32) (P : Addr) (kP : ClassId) (fP : Nat → Int64) (h0 : Heap) (n0 : Nat) (Z0 : n0 ≤ h0.size) (F_bits_a1 : Fld Z h0 a1 "com/example/always_over_paths/alwaysoverpaths/explicit/MarkingTable" "bits" "I" (.int B)) (F_size_a1 : Fld Z h0 a1 "com/example/always_over_paths/alwaysoverpaths/explicit/MarkingTable" "size" "I" (.int z)) (F_words_a1 : Fld Z h0 a1 "com/example/always_over_paths/alwaysoverpaths/explicit/MarkingTable" "words" "I" (.int (own_W B))) (F_packed_a1 : Fld Z h0 a1 "com/example/always_over_paths/alwaysoverpaths/explicit/MarkingTable" "packed" "[J" (.ref P)) (A_P : AV Z h0 P kP .long (16 * (own_W B).toNatClampNeg) (fun i => Value.long (fP i))) (hz : z = 0 ∨ z = 1) :
    MetFree l (⟨"com/example/always_over_paths/alwaysoverpaths/explicit/MarkingTable", "ensureRoomForOneMore", "()V"⟩ : MethodName) (head1 (Jvm.Cond.code (⟨"com/example/always_over_paths/alwaysoverpaths/explicit/MarkingTable", "ensureRoomForOneMore", "()V"⟩ : MethodName) prog_21_method_7_code 4 none :: ws) ({ frames := 0, cells := 0, slots := 0, locals := 0 } : Room)) (fun a U => a = #[(.ref a1)] ∧ Z.Warmed39 U.vm ∧ U.heap = h0) (fun _ _ _ _ _ => True) (fun _ U o U' => ∃ v L, o = .returned v ∧ Qer Z a1 B z P kP fP h0 n0 v U'.heap L ∧ FrameEnd U o U' L ({ frames := 0, cells := 0, slots := 0, locals := 0 } : Room).cells ({ frames := 0, cells := 0, slots := 0, locals := 0 } : Room).slots) := by
  refine MetFree.of_bodySF (plainFor_of_name pn_1) hisR ?_
  intro p e s m args below meth c s₁ Bd hml0 hP hK
  obtain ⟨rfl, hZ, hh⟩ := hP
  have hx := Bd.exec
  have hby := Bd.bytes
  have hml : c.maxLocals = 4 := hml0
  have hown : s.vm.findClass "com/example/always_over_paths/alwaysoverpaths/explicit/MarkingTable" = some m.cls := findClass_of_methodNamed Bd.named
  have hnm := (name_of_methodNamed Bd.named Bd.method).1
  have X0 : Stand p l e ({ frames := 0, cells := 0, slots := 0, locals := 0 } : Room) s m #[(.ref a1)] below meth c s₁ [] 0 0 := Stand.of_body Bd
  have e0 : s₁.heap = h0 := by rw [← hh, Bd.state]; rfl
  have N0 := Fr.nil n0
  show GoalS p.tables e below s ({ frames := 0, cells := 0, slots := 0, locals := 0 } : Room).cells ({ frames := 0, cells := 0, slots := 0, locals := 0 } : Room).slots (Qer Z a1 B z P kP fP h0 n0) (s₁.setTop (entryFrame m #[(.ref a1)] 4))
  refine GoalS.lift (B := s₁.setTop (mkF m 0 #[vr a1, .unset, .unset, .unset] [])) (fun t k => castTop (ef_rmer m a1) k) ?_
  have K0 : Keep h0 h0 [] := Keep.refl _ _
  obtain ⟨T1, X1, e1, st1⟩ := getF X0 hx hZ hown (host := "") (Or.inl (hw _ (List.mem_of_getElem? (i := 46) rfl))) Via.refl e0 F_size_a1 (g := (mkF m 1 #[vr a1, .unset, .unset, .unset] [(.ref a1)])) rfl rfl (hb hby d12_1)
  obtain ⟨T2, X2, e2, st2⟩ := getF X1 hx hZ hown (host := "") (Or.inl (hw _ (List.mem_of_getElem? (i := 22) rfl))) Via.refl e1 F_words_a1 (g := (mkF m 8 #[vr a1, .unset, .unset, .unset] [(.ref a1), (.long (((z + (1 : Int32))).toInt64))])) rfl rfl (hb hby d12_8)
  obtain ⟨T3, X3, e3, st3⟩ := getF X2 hx hZ hown (host := "") (Or.inl (hw _ (List.mem_of_getElem? (i := 25) rfl))) Via.refl e2 F_packed_a1 (g := (mkF m 16 #[vr a1, vj ((((z + (1 : Int32))).toInt64) * (((own_W B)).toInt64)), .second, .unset] [(.ref a1), (.long ((((z + (1 : Int32))).toInt64) * (((own_W B)).toInt64)))])) rfl rfl (hb hby d12_16)
  obtain ⟨cl4, Ar4, -, sz4, -, -⟩ := id A_P
  have le4 : cl4.slots.size.toInt32 = ((16 : Int32) * (own_W B)) := by rw [sz4]; exact (own_len16 _)
  obtain ⟨fs, hr, hrun, hended, hW, hsame⟩ := X3.leave (v := none) (fun _ => rfl)
  refine ⟨_, _, ?_, hrun, hended, _, _, rfl, ?_, ⟨_, rfl⟩, hW, hsame.mono (by decide) (by decide)⟩
  · show Steps p.tables e below (s₁.setTop (mkF m 0 #[vr a1, .unset, .unset, .unset] [])) _
    refine XS.aloadN X0.here hx rfl (hb hby d12_0) rfl rfl ?_
    refine st1 _ ?_
    refine XS.iconst X1.here hx rfl (hb hby d12_4) ?_
    refine XS.iadd X1.here hx rfl (hb hby d12_5) rfl ?_
    refine XS.i2l X1.here hx rfl (hb hby d12_6) rfl ?_
    refine XS.aloadN X1.here hx rfl (hb hby d12_7) rfl rfl ?_
    show Steps p.tables e below (T1.setTop (mkF m 8 #[vr a1, .unset, .unset, .unset] [(.ref a1), (.long (((z + (1 : Int32))).toInt64))])) _
    refine st2 _ ?_
    refine XS.i2l X2.here hx rfl (hb hby d12_11) rfl ?_
    refine XS.lmul X2.here hx rfl (hb hby d12_12) rfl ?_
    refine XS.lstoreN X2.here hx rfl (hb hby d12_13) rfl (l' := #[vr a1, vj ((((z + (1 : Int32))).toInt64) * (((own_W B)).toInt64)), .second, .unset]) rfl ?_
    refine XS.lloadN X2.here hx rfl (hb hby d12_14) rfl ?_
    refine XS.aloadN X2.here hx rfl (hb hby d12_15) rfl rfl ?_
    show Steps p.tables e below (T2.setTop (mkF m 16 #[vr a1, vj ((((z + (1 : Int32))).toInt64) * (((own_W B)).toInt64)), .second, .unset] [(.ref a1), (.long ((((z + (1 : Int32))).toInt64) * (((own_W B)).toInt64)))])) _
    refine st3 _ ?_
    refine X3.arraylength hx (by rw [e3]; exact Ar4.1) (State.isArrayOf_alike hZ.alike Ar4.2.1) (g := (mkF m 19 #[vr a1, vj ((((z + (1 : Int32))).toInt64) * (((own_W B)).toInt64)), .second, .unset] [(.ref P), (.long ((((z + (1 : Int32))).toInt64) * (((own_W B)).toInt64)))])) rfl rfl (hb hby d12_19) _ ?_
    rw [le4]
    refine XS.i2l X3.here hx rfl (hb hby d12_20) rfl ?_
    refine XS.lcmp X3.here hx rfl (hb hby d12_21) rfl ?_
    refine XS.ifNo X3.here hx rfl (hb hby d12_22) rfl ((if0 _ _).trans (flt (fun q => (own_room hz : ¬ (((((16 : Int32) * (own_W B))).toInt64) < ((((z + (1 : Int32))).toInt64) * (((own_W B)).toInt64)))) ((lw_gt ((((z + (1 : Int32))).toInt64) * (((own_W B)).toInt64)) ((((16 : Int32) * (own_W B))).toInt64)).mp q))).2.2.1) ?_
    show Steps p.tables e below (T3.setTop (mkF m 25 #[vr a1, vj ((((z + (1 : Int32))).toInt64) * (((own_W B)).toInt64)), .second, .unset] [])) _
    exact X3.returnOut hx Bd.returns (hb hby d12_25) hr
  · show Qer Z a1 B z P kP fP h0 n0 _ T3.heap _
    exact ⟨rfl, N0, e3⟩
theorem d15_0 : decode prog_21_method_6_code 0 = .ok (.iload_n 1, 1) := by decide +kernel
theorem d15_1 : decode prog_21_method_6_code 1 = .ok (.aload_n 0, 1) := by decide +kernel
theorem d15_2 : decode prog_21_method_6_code 2 = .ok (.getfield 22, 3) := by decide +kernel
theorem d15_5 : decode prog_21_method_6_code 5 = .ok (.imul, 1) := by decide +kernel
theorem d15_6 : decode prog_21_method_6_code 6 = .ok (.istore_n 2, 1) := by decide +kernel
theorem d15_7 : decode prog_21_method_6_code 7 = .ok (.iconst 0, 1) := by decide +kernel
theorem d15_8 : decode prog_21_method_6_code 8 = .ok (.istore_n 3, 1) := by decide +kernel
theorem d15_9 : decode prog_21_method_6_code 9 = .ok (.iload_n 3, 1) := by decide +kernel
theorem d15_10 : decode prog_21_method_6_code 10 = .ok (.aload_n 0, 1) := by decide +kernel
theorem d15_11 : decode prog_21_method_6_code 11 = .ok (.getfield 22, 3) := by decide +kernel
theorem d15_14 : decode prog_21_method_6_code 14 = .ok (.if_icmp .ge 29, 3) := by decide +kernel
theorem d15_17 : decode prog_21_method_6_code 17 = .ok (.aload_n 0, 1) := by decide +kernel
theorem d15_18 : decode prog_21_method_6_code 18 = .ok (.getfield 25, 3) := by decide +kernel
theorem d15_21 : decode prog_21_method_6_code 21 = .ok (.iload_n 2, 1) := by decide +kernel
theorem d15_22 : decode prog_21_method_6_code 22 = .ok (.iload_n 3, 1) := by decide +kernel
theorem d15_23 : decode prog_21_method_6_code 23 = .ok (.iadd, 1) := by decide +kernel
theorem d15_24 : decode prog_21_method_6_code 24 = .ok (.laload, 1) := by decide +kernel
theorem d15_25 : decode prog_21_method_6_code 25 = .ok (.aload_n 0, 1) := by decide +kernel
theorem d15_26 : decode prog_21_method_6_code 26 = .ok (.getfield 29, 3) := by decide +kernel
theorem d15_29 : decode prog_21_method_6_code 29 = .ok (.iload_n 3, 1) := by decide +kernel
theorem d15_30 : decode prog_21_method_6_code 30 = .ok (.laload, 1) := by decide +kernel
theorem d15_31 : decode prog_21_method_6_code 31 = .ok (.lcmp, 1) := by decide +kernel
theorem d15_32 : decode prog_21_method_6_code 32 = .ok (.ifCond .eq 5, 3) := by decide +kernel
theorem d15_37 : decode prog_21_method_6_code 37 = .ok (.iinc 3 1, 3) := by decide +kernel
theorem d15_40 : decode prog_21_method_6_code 40 = .ok (.goto (-31), 3) := by decide +kernel
theorem d15_43 : decode prog_21_method_6_code 43 = .ok (.iconst 1, 1) := by decide +kernel
theorem d15_44 : decode prog_21_method_6_code 44 = .ok (.ireturn, 1) := by decide +kernel
theorem ef_rmhp1 (m : MethodId) (a1 : Addr) : entryFrame m #[(.ref a1), (.int (0 : Int32))] 4 = mkF m 0 #[vr a1, vi (0 : Int32), .unset, .unset] [] := by first | (simp [entryFrame, mkF, argsToLocals, Value.category]; done) | rfl
def Qhp1 (Z : State) (a1 : Addr) (B : Int32) (P : Addr) (R : Addr) (kP : ClassId) (kR : ClassId) (fP : Nat → Int64) (fR : Nat → Int64) (h0 : Heap) (n0 : Nat) (v : Option Value) (h : Heap) (L : List Loc) : Prop := v = some (.int (1 : Int32)) ∧ Fr n0 L ∧ h = h0
set_option maxRecDepth 65536 in
set_option maxHeartbeats 40000000 in
theorem rmhp1 (l : Launch) (Z : State) (a0 : Array Value) (hw : ∀ d ∈ tables_1, d.before a0 Z = true) (ws : List Jvm.Cond) (a1 : Addr) (B : Int32) (P : Addr) (R : Addr) (kP : ClassId) (kR : ClassId) (fP : Nat → Int64) (fR : Nat → Int64) (h0 : Heap) (n0 : Nat) (Z0 : n0 ≤ h0.size) (F_bits_a1 : Fld Z h0 a1 "com/example/always_over_paths/alwaysoverpaths/explicit/MarkingTable" "bits" "I" (.int B)) (F_words_a1 : Fld Z h0 a1 "com/example/always_over_paths/alwaysoverpaths/explicit/MarkingTable" "words" "I" (.int (own_W B))) (F_packed_a1 : Fld Z h0 a1 "com/example/always_over_paths/alwaysoverpaths/explicit/MarkingTable" "packed" "[J" (.ref P)) (F_probe_a1 : Fld Z h0 a1 "com/example/always_over_paths/alwaysoverpaths/explicit/MarkingTable" "probe" "[J" (.ref R)) (A_P : AV Z h0 P kP .long (16 * (own_W B).toNatClampNeg) (fun i => Value.long (fP i))) (A_R : AV Z h0 R kR .long (own_W B).toNatClampNeg (fun i => Value.long (fR i))) (hq : own_same B fP fR) :
    MetFree l (⟨"com/example/always_over_paths/alwaysoverpaths/explicit/MarkingTable", "holdsProbe", "(I)Z"⟩ : MethodName) (head1 (Jvm.Cond.code (⟨"com/example/always_over_paths/alwaysoverpaths/explicit/MarkingTable", "holdsProbe", "(I)Z"⟩ : MethodName) prog_21_method_6_code 4 (some .boolean) :: ws) ({ frames := 0, cells := 0, slots := 0, locals := 0 } : Room)) (fun a U => a = #[(.ref a1), (.int (0 : Int32))] ∧ Z.Warmed39 U.vm ∧ U.heap = h0) (fun _ _ _ _ _ => True) (fun _ U o U' => ∃ v L, o = .returned v ∧ Qhp1 Z a1 B P R kP kR fP fR h0 n0 v U'.heap L ∧ FrameEnd U o U' L ({ frames := 0, cells := 0, slots := 0, locals := 0 } : Room).cells ({ frames := 0, cells := 0, slots := 0, locals := 0 } : Room).slots) := by
  refine MetFree.of_bodySF (plainFor_of_name pn_1) hisR ?_
  intro p e s m args below meth c s₁ Bd hml0 hP hK
  obtain ⟨rfl, hZ, hh⟩ := hP
  have hx := Bd.exec
  have hby := Bd.bytes
  have hml : c.maxLocals = 4 := hml0
  have hown : s.vm.findClass "com/example/always_over_paths/alwaysoverpaths/explicit/MarkingTable" = some m.cls := findClass_of_methodNamed Bd.named
  have hnm := (name_of_methodNamed Bd.named Bd.method).1
  have X0 : Stand p l e ({ frames := 0, cells := 0, slots := 0, locals := 0 } : Room) s m #[(.ref a1), (.int (0 : Int32))] below meth c s₁ [] 0 0 := Stand.of_body Bd
  have e0 : s₁.heap = h0 := by rw [← hh, Bd.state]; rfl
  have N0 := Fr.nil n0
  show GoalS p.tables e below s ({ frames := 0, cells := 0, slots := 0, locals := 0 } : Room).cells ({ frames := 0, cells := 0, slots := 0, locals := 0 } : Room).slots (Qhp1 Z a1 B P R kP kR fP fR h0 n0) (s₁.setTop (entryFrame m #[(.ref a1), (.int (0 : Int32))] 4))
  refine GoalS.lift (B := s₁.setTop (mkF m 0 #[vr a1, vi (0 : Int32), .unset, .unset] [])) (fun t k => castTop (ef_rmhp1 m a1) k) ?_
  have K0 : Keep h0 h0 [] := Keep.refl _ _
  by_cases hf1 : (21 : Int32) < B
  · obtain ⟨T2, X2, e2, st2⟩ := getF X0 hx hZ hown (host := "") (Or.inl (hw _ (List.mem_of_getElem? (i := 22) rfl))) Via.refl e0 F_words_a1 (g := (mkF m 2 #[vr a1, vi (0 : Int32), .unset, .unset] [(.ref a1), (.int (0 : Int32))])) rfl rfl (hb hby d15_2)
    refine GoalS.lift (B := (T2.setTop (mkF m 5 #[vr a1, vi (0 : Int32), .unset, .unset] [(.int (own_W B)), (.int (0 : Int32))]))) (fun t k => ?_) ?_
    · show Steps p.tables e below (s₁.setTop (mkF m 0 #[vr a1, vi (0 : Int32), .unset, .unset] [])) _
      refine XS.iloadN X0.here hx rfl (hb hby d15_0) rfl ?_
      refine XS.aloadN X0.here hx rfl (hb hby d15_1) rfl rfl ?_
      refine st2 _ ?_
      exact k
    refine GoalS.lift (B := (T2.setTop (mkF m 5 #[vr a1, vi (0 : Int32), .unset, .unset] [(.int (2 : Int32)), (.int (0 : Int32))]))) (fun t k => by rw [own_Wp hf1]; exact k) ?_
    obtain ⟨T3, X3, e3, st3⟩ := getF X2 hx hZ hown (host := "") (Or.inl (hw _ (List.mem_of_getElem? (i := 22) rfl))) Via.refl e2 F_words_a1 (g := (mkF m 11 #[vr a1, vi (0 : Int32), vi (0 : Int32), vi (0 : Int32)] [(.ref a1), (.int (0 : Int32))])) rfl rfl (hb hby d15_11)
    refine GoalS.lift (B := (T3.setTop (mkF m 14 #[vr a1, vi (0 : Int32), vi (0 : Int32), vi (0 : Int32)] [(.int (own_W B)), (.int (0 : Int32))]))) (fun t k => ?_) ?_
    · show Steps p.tables e below (T2.setTop (mkF m 5 #[vr a1, vi (0 : Int32), .unset, .unset] [(.int (2 : Int32)), (.int (0 : Int32))])) _
      refine XS.imul X2.here hx rfl (hb hby d15_5) rfl ?_
      refine XS.istoreN X2.here hx rfl (hb hby d15_6) rfl (l' := #[vr a1, vi (0 : Int32), vi (0 : Int32), .unset]) rfl ?_
      refine XS.iconst X2.here hx rfl (hb hby d15_7) ?_
      refine XS.istoreN X2.here hx rfl (hb hby d15_8) rfl (l' := #[vr a1, vi (0 : Int32), vi (0 : Int32), vi (0 : Int32)]) rfl ?_
      refine XS.iloadN X2.here hx rfl (hb hby d15_9) rfl ?_
      refine XS.aloadN X2.here hx rfl (hb hby d15_10) rfl rfl ?_
      show Steps p.tables e below (T2.setTop (mkF m 11 #[vr a1, vi (0 : Int32), vi (0 : Int32), vi (0 : Int32)] [(.ref a1), (.int (0 : Int32))])) _
      refine st3 _ ?_
      exact k
    refine GoalS.lift (B := (T3.setTop (mkF m 14 #[vr a1, vi (0 : Int32), vi (0 : Int32), vi (0 : Int32)] [(.int (2 : Int32)), (.int (0 : Int32))]))) (fun t k => by rw [own_Wp hf1]; exact k) ?_
    obtain ⟨T4, X4, e4, st4⟩ := getF X3 hx hZ hown (host := "") (Or.inl (hw _ (List.mem_of_getElem? (i := 25) rfl))) Via.refl e3 F_packed_a1 (g := (mkF m 18 #[vr a1, vi (0 : Int32), vi (0 : Int32), vi (0 : Int32)] [(.ref a1)])) rfl rfl (hb hby d15_18)
    obtain ⟨cl5, Ar5, kc5, sz5, -, hv5⟩ := id A_P
    have hin5 : ¬ ((0 : Int32) < 0 ∨ cl5.slots.size ≤ ((0 : Int32)).toNatClampNeg) := AV.inb sz5 (own_in0 (show (own_W B).toNatClampNeg ≤ (16 * (own_W B).toNatClampNeg) by omega))
    have hat5 : cl5.slots[((0 : Int32)).toNatClampNeg]? = some (.long (fP 0)) := (hv5 _ (AV.inx (own_in0 (show (own_W B).toNatClampNeg ≤ (16 * (own_W B).toNatClampNeg) by omega)))).trans (congrArg some rfl)
    obtain ⟨T6, X6, e6, st6⟩ := getF X4 hx hZ hown (host := "") (Or.inl (hw _ (List.mem_of_getElem? (i := 27) rfl))) Via.refl e4 F_probe_a1 (g := (mkF m 26 #[vr a1, vi (0 : Int32), vi (0 : Int32), vi (0 : Int32)] [(.ref a1), (.long (fP 0))])) rfl rfl (hb hby d15_26)
    obtain ⟨cl7, Ar7, kc7, sz7, -, hv7⟩ := id A_R
    have hin7 : ¬ ((0 : Int32) < 0 ∨ cl7.slots.size ≤ ((0 : Int32)).toNatClampNeg) := AV.inb sz7 (own_in0 (Nat.le_refl _))
    have hat7 : cl7.slots[((0 : Int32)).toNatClampNeg]? = some (.long (fR 0)) := (hv7 _ (AV.inx (own_in0 (Nat.le_refl _)))).trans (congrArg some rfl)
    obtain ⟨T8, X8, e8, st8⟩ := getF X6 hx hZ hown (host := "") (Or.inl (hw _ (List.mem_of_getElem? (i := 22) rfl))) Via.refl e6 F_words_a1 (g := (mkF m 11 #[vr a1, vi (0 : Int32), vi (0 : Int32), vi (1 : Int32)] [(.ref a1), (.int (1 : Int32))])) rfl rfl (hb hby d15_11)
    refine GoalS.lift (B := (T8.setTop (mkF m 14 #[vr a1, vi (0 : Int32), vi (0 : Int32), vi (1 : Int32)] [(.int (own_W B)), (.int (1 : Int32))]))) (fun t k => ?_) ?_
    · show Steps p.tables e below (T3.setTop (mkF m 14 #[vr a1, vi (0 : Int32), vi (0 : Int32), vi (0 : Int32)] [(.int (2 : Int32)), (.int (0 : Int32))])) _
      refine XS.icmpNo X3.here hx rfl (hb hby d15_14) rfl ((tlt (by decide : (0 : Int32) < (2 : Int32))).2.1) ?_
      refine XS.aloadN X3.here hx rfl (hb hby d15_17) rfl rfl ?_
      refine st4 _ ?_
      refine XS.iloadN X4.here hx rfl (hb hby d15_21) rfl ?_
      refine XS.iloadN X4.here hx rfl (hb hby d15_22) rfl ?_
      refine XS.iadd X4.here hx rfl (hb hby d15_23) rfl ?_
      show Steps p.tables e below (T4.setTop (mkF m 24 #[vr a1, vi (0 : Int32), vi (0 : Int32), vi (0 : Int32)] [(.int (0 : Int32)), (.ref P)])) _
      refine X4.laload hx (j := (0 : Int32)) (v := (.long (fP 0))) (by rw [e4]; exact Ar5.1) (State.isArrayOf_alike hZ.alike Ar5.2.1) Ar5.2.2 hin5 hat5 (g := (mkF m 24 #[vr a1, vi (0 : Int32), vi (0 : Int32), vi (0 : Int32)] [(.int (0 : Int32)), (.ref P)])) rfl rfl (hb hby d15_24) _ ?_
      refine XS.aloadN X4.here hx rfl (hb hby d15_25) rfl rfl ?_
      refine st6 _ ?_
      refine XS.iloadN X6.here hx rfl (hb hby d15_29) rfl ?_
      refine X6.laload hx (j := (0 : Int32)) (v := (.long (fR 0))) (by rw [e6]; exact Ar7.1) (State.isArrayOf_alike hZ.alike Ar7.2.1) Ar7.2.2 hin7 hat7 (g := (mkF m 30 #[vr a1, vi (0 : Int32), vi (0 : Int32), vi (0 : Int32)] [(.int (0 : Int32)), (.ref R), (.long (fP 0))])) rfl rfl (hb hby d15_30) _ ?_
      refine XS.lcmp X6.here hx rfl (hb hby d15_31) rfl ?_
      show Steps p.tables e below (T6.setTop (mkF m 32 #[vr a1, vi (0 : Int32), vi (0 : Int32), vi (0 : Int32)] [(.int (lcmpW (fP 0) (fR 0)))])) _
      refine XS.ifYes X6.here hx rfl (pc0 := 32) (pc' := 37) rfl (hb hby d15_32) rfl ((if0 _ _).trans (teq ((lw_eq (fP 0) (fR 0)).mpr (hq.1 : (fP 0) = (fR 0)))).1) (by decide) (by decide) ?_
      refine XS.iinc X6.here hx rfl (hb hby d15_37) rfl (l' := #[vr a1, vi (0 : Int32), vi (0 : Int32), vi (1 : Int32)]) rfl ?_
      refine XS.goto X6.here hx rfl (pc0 := 40) (pc' := 9) rfl (hb hby d15_40) (by decide) (by decide) ?_
      refine XS.iloadN X6.here hx rfl (hb hby d15_9) rfl ?_
      refine XS.aloadN X6.here hx rfl (hb hby d15_10) rfl rfl ?_
      refine st8 _ ?_
      exact k
    refine GoalS.lift (B := (T8.setTop (mkF m 14 #[vr a1, vi (0 : Int32), vi (0 : Int32), vi (1 : Int32)] [(.int (2 : Int32)), (.int (1 : Int32))]))) (fun t k => by rw [own_Wp hf1]; exact k) ?_
    obtain ⟨T9, X9, e9, st9⟩ := getF X8 hx hZ hown (host := "") (Or.inl (hw _ (List.mem_of_getElem? (i := 25) rfl))) Via.refl e8 F_packed_a1 (g := (mkF m 18 #[vr a1, vi (0 : Int32), vi (0 : Int32), vi (1 : Int32)] [(.ref a1)])) rfl rfl (hb hby d15_18)
    obtain ⟨cl10, Ar10, kc10, sz10, -, hv10⟩ := id A_P
    have hin10 : ¬ ((1 : Int32) < 0 ∨ cl10.slots.size ≤ ((1 : Int32)).toNatClampNeg) := AV.inb sz10 (own_in1 hf1 (show (own_W B).toNatClampNeg ≤ (16 * (own_W B).toNatClampNeg) by omega))
    have hat10 : cl10.slots[((1 : Int32)).toNatClampNeg]? = some (.long (fP 1)) := (hv10 _ (AV.inx (own_in1 hf1 (show (own_W B).toNatClampNeg ≤ (16 * (own_W B).toNatClampNeg) by omega)))).trans (congrArg some rfl)
    obtain ⟨T11, X11, e11, st11⟩ := getF X9 hx hZ hown (host := "") (Or.inl (hw _ (List.mem_of_getElem? (i := 27) rfl))) Via.refl e9 F_probe_a1 (g := (mkF m 26 #[vr a1, vi (0 : Int32), vi (0 : Int32), vi (1 : Int32)] [(.ref a1), (.long (fP 1))])) rfl rfl (hb hby d15_26)
    obtain ⟨cl12, Ar12, kc12, sz12, -, hv12⟩ := id A_R
    have hin12 : ¬ ((1 : Int32) < 0 ∨ cl12.slots.size ≤ ((1 : Int32)).toNatClampNeg) := AV.inb sz12 (own_in1 hf1 (Nat.le_refl _))
    have hat12 : cl12.slots[((1 : Int32)).toNatClampNeg]? = some (.long (fR 1)) := (hv12 _ (AV.inx (own_in1 hf1 (Nat.le_refl _)))).trans (congrArg some rfl)
    obtain ⟨T13, X13, e13, st13⟩ := getF X11 hx hZ hown (host := "") (Or.inl (hw _ (List.mem_of_getElem? (i := 22) rfl))) Via.refl e11 F_words_a1 (g := (mkF m 11 #[vr a1, vi (0 : Int32), vi (0 : Int32), vi (2 : Int32)] [(.ref a1), (.int (2 : Int32))])) rfl rfl (hb hby d15_11)
    refine GoalS.lift (B := (T13.setTop (mkF m 14 #[vr a1, vi (0 : Int32), vi (0 : Int32), vi (2 : Int32)] [(.int (own_W B)), (.int (2 : Int32))]))) (fun t k => ?_) ?_
    · show Steps p.tables e below (T8.setTop (mkF m 14 #[vr a1, vi (0 : Int32), vi (0 : Int32), vi (1 : Int32)] [(.int (2 : Int32)), (.int (1 : Int32))])) _
      refine XS.icmpNo X8.here hx rfl (hb hby d15_14) rfl ((tlt (by decide : (1 : Int32) < (2 : Int32))).2.1) ?_
      refine XS.aloadN X8.here hx rfl (hb hby d15_17) rfl rfl ?_
      refine st9 _ ?_
      refine XS.iloadN X9.here hx rfl (hb hby d15_21) rfl ?_
      refine XS.iloadN X9.here hx rfl (hb hby d15_22) rfl ?_
      refine XS.iadd X9.here hx rfl (hb hby d15_23) rfl ?_
      show Steps p.tables e below (T9.setTop (mkF m 24 #[vr a1, vi (0 : Int32), vi (0 : Int32), vi (1 : Int32)] [(.int (1 : Int32)), (.ref P)])) _
      refine X9.laload hx (j := (1 : Int32)) (v := (.long (fP 1))) (by rw [e9]; exact Ar10.1) (State.isArrayOf_alike hZ.alike Ar10.2.1) Ar10.2.2 hin10 hat10 (g := (mkF m 24 #[vr a1, vi (0 : Int32), vi (0 : Int32), vi (1 : Int32)] [(.int (1 : Int32)), (.ref P)])) rfl rfl (hb hby d15_24) _ ?_
      refine XS.aloadN X9.here hx rfl (hb hby d15_25) rfl rfl ?_
      refine st11 _ ?_
      refine XS.iloadN X11.here hx rfl (hb hby d15_29) rfl ?_
      refine X11.laload hx (j := (1 : Int32)) (v := (.long (fR 1))) (by rw [e11]; exact Ar12.1) (State.isArrayOf_alike hZ.alike Ar12.2.1) Ar12.2.2 hin12 hat12 (g := (mkF m 30 #[vr a1, vi (0 : Int32), vi (0 : Int32), vi (1 : Int32)] [(.int (1 : Int32)), (.ref R), (.long (fP 1))])) rfl rfl (hb hby d15_30) _ ?_
      refine XS.lcmp X11.here hx rfl (hb hby d15_31) rfl ?_
      show Steps p.tables e below (T11.setTop (mkF m 32 #[vr a1, vi (0 : Int32), vi (0 : Int32), vi (1 : Int32)] [(.int (lcmpW (fP 1) (fR 1)))])) _
      refine XS.ifYes X11.here hx rfl (pc0 := 32) (pc' := 37) rfl (hb hby d15_32) rfl ((if0 _ _).trans (teq ((lw_eq (fP 1) (fR 1)).mpr (hq.2 hf1 : (fP 1) = (fR 1)))).1) (by decide) (by decide) ?_
      refine XS.iinc X11.here hx rfl (hb hby d15_37) rfl (l' := #[vr a1, vi (0 : Int32), vi (0 : Int32), vi (2 : Int32)]) rfl ?_
      refine XS.goto X11.here hx rfl (pc0 := 40) (pc' := 9) rfl (hb hby d15_40) (by decide) (by decide) ?_
      refine XS.iloadN X11.here hx rfl (hb hby d15_9) rfl ?_
      refine XS.aloadN X11.here hx rfl (hb hby d15_10) rfl rfl ?_
      refine st13 _ ?_
      exact k
    refine GoalS.lift (B := (T13.setTop (mkF m 14 #[vr a1, vi (0 : Int32), vi (0 : Int32), vi (2 : Int32)] [(.int (2 : Int32)), (.int (2 : Int32))]))) (fun t k => by rw [own_Wp hf1]; exact k) ?_
    obtain ⟨fs, hr, hrun, hended, hW, hsame⟩ := X13.leave (v := some (.int (1 : Int32))) (fun h => by rw [Bd.returns] at h; cases h)
    refine ⟨_, _, ?_, hrun, hended, _, _, rfl, ?_, ⟨_, rfl⟩, hW, hsame.mono (by decide) (by decide)⟩
    · show Steps p.tables e below (T13.setTop (mkF m 14 #[vr a1, vi (0 : Int32), vi (0 : Int32), vi (2 : Int32)] [(.int (2 : Int32)), (.int (2 : Int32))])) _
      refine XS.icmpYes X13.here hx rfl (pc0 := 14) (pc' := 43) rfl (hb hby d15_14) rfl ((flt (by decide : ¬ ((2 : Int32) < (2 : Int32)))).2.1) (by decide) (by decide) ?_
      refine XS.iconst X13.here hx rfl (hb hby d15_43) ?_
      exact retN X13 hx (t := .boolean) Bd.returns (by simp) (hb hby d15_44) hr
    · show Qhp1 Z a1 B P R kP kR fP fR h0 n0 _ T13.heap _
      exact ⟨rfl, N0, e13⟩
  · obtain ⟨T14, X14, e14, st14⟩ := getF X0 hx hZ hown (host := "") (Or.inl (hw _ (List.mem_of_getElem? (i := 22) rfl))) Via.refl e0 F_words_a1 (g := (mkF m 2 #[vr a1, vi (0 : Int32), .unset, .unset] [(.ref a1), (.int (0 : Int32))])) rfl rfl (hb hby d15_2)
    refine GoalS.lift (B := (T14.setTop (mkF m 5 #[vr a1, vi (0 : Int32), .unset, .unset] [(.int (own_W B)), (.int (0 : Int32))]))) (fun t k => ?_) ?_
    · show Steps p.tables e below (s₁.setTop (mkF m 0 #[vr a1, vi (0 : Int32), .unset, .unset] [])) _
      refine XS.iloadN X0.here hx rfl (hb hby d15_0) rfl ?_
      refine XS.aloadN X0.here hx rfl (hb hby d15_1) rfl rfl ?_
      refine st14 _ ?_
      exact k
    refine GoalS.lift (B := (T14.setTop (mkF m 5 #[vr a1, vi (0 : Int32), .unset, .unset] [(.int (1 : Int32)), (.int (0 : Int32))]))) (fun t k => by rw [own_Wq hf1]; exact k) ?_
    obtain ⟨T15, X15, e15, st15⟩ := getF X14 hx hZ hown (host := "") (Or.inl (hw _ (List.mem_of_getElem? (i := 22) rfl))) Via.refl e14 F_words_a1 (g := (mkF m 11 #[vr a1, vi (0 : Int32), vi (0 : Int32), vi (0 : Int32)] [(.ref a1), (.int (0 : Int32))])) rfl rfl (hb hby d15_11)
    refine GoalS.lift (B := (T15.setTop (mkF m 14 #[vr a1, vi (0 : Int32), vi (0 : Int32), vi (0 : Int32)] [(.int (own_W B)), (.int (0 : Int32))]))) (fun t k => ?_) ?_
    · show Steps p.tables e below (T14.setTop (mkF m 5 #[vr a1, vi (0 : Int32), .unset, .unset] [(.int (1 : Int32)), (.int (0 : Int32))])) _
      refine XS.imul X14.here hx rfl (hb hby d15_5) rfl ?_
      refine XS.istoreN X14.here hx rfl (hb hby d15_6) rfl (l' := #[vr a1, vi (0 : Int32), vi (0 : Int32), .unset]) rfl ?_
      refine XS.iconst X14.here hx rfl (hb hby d15_7) ?_
      refine XS.istoreN X14.here hx rfl (hb hby d15_8) rfl (l' := #[vr a1, vi (0 : Int32), vi (0 : Int32), vi (0 : Int32)]) rfl ?_
      refine XS.iloadN X14.here hx rfl (hb hby d15_9) rfl ?_
      refine XS.aloadN X14.here hx rfl (hb hby d15_10) rfl rfl ?_
      show Steps p.tables e below (T14.setTop (mkF m 11 #[vr a1, vi (0 : Int32), vi (0 : Int32), vi (0 : Int32)] [(.ref a1), (.int (0 : Int32))])) _
      refine st15 _ ?_
      exact k
    refine GoalS.lift (B := (T15.setTop (mkF m 14 #[vr a1, vi (0 : Int32), vi (0 : Int32), vi (0 : Int32)] [(.int (1 : Int32)), (.int (0 : Int32))]))) (fun t k => by rw [own_Wq hf1]; exact k) ?_
    obtain ⟨T16, X16, e16, st16⟩ := getF X15 hx hZ hown (host := "") (Or.inl (hw _ (List.mem_of_getElem? (i := 25) rfl))) Via.refl e15 F_packed_a1 (g := (mkF m 18 #[vr a1, vi (0 : Int32), vi (0 : Int32), vi (0 : Int32)] [(.ref a1)])) rfl rfl (hb hby d15_18)
    obtain ⟨cl17, Ar17, kc17, sz17, -, hv17⟩ := id A_P
    have hin17 : ¬ ((0 : Int32) < 0 ∨ cl17.slots.size ≤ ((0 : Int32)).toNatClampNeg) := AV.inb sz17 (own_in0 (show (own_W B).toNatClampNeg ≤ (16 * (own_W B).toNatClampNeg) by omega))
    have hat17 : cl17.slots[((0 : Int32)).toNatClampNeg]? = some (.long (fP 0)) := (hv17 _ (AV.inx (own_in0 (show (own_W B).toNatClampNeg ≤ (16 * (own_W B).toNatClampNeg) by omega)))).trans (congrArg some rfl)
    obtain ⟨T18, X18, e18, st18⟩ := getF X16 hx hZ hown (host := "") (Or.inl (hw _ (List.mem_of_getElem? (i := 27) rfl))) Via.refl e16 F_probe_a1 (g := (mkF m 26 #[vr a1, vi (0 : Int32), vi (0 : Int32), vi (0 : Int32)] [(.ref a1), (.long (fP 0))])) rfl rfl (hb hby d15_26)
    obtain ⟨cl19, Ar19, kc19, sz19, -, hv19⟩ := id A_R
    have hin19 : ¬ ((0 : Int32) < 0 ∨ cl19.slots.size ≤ ((0 : Int32)).toNatClampNeg) := AV.inb sz19 (own_in0 (Nat.le_refl _))
    have hat19 : cl19.slots[((0 : Int32)).toNatClampNeg]? = some (.long (fR 0)) := (hv19 _ (AV.inx (own_in0 (Nat.le_refl _)))).trans (congrArg some rfl)
    obtain ⟨T20, X20, e20, st20⟩ := getF X18 hx hZ hown (host := "") (Or.inl (hw _ (List.mem_of_getElem? (i := 22) rfl))) Via.refl e18 F_words_a1 (g := (mkF m 11 #[vr a1, vi (0 : Int32), vi (0 : Int32), vi (1 : Int32)] [(.ref a1), (.int (1 : Int32))])) rfl rfl (hb hby d15_11)
    refine GoalS.lift (B := (T20.setTop (mkF m 14 #[vr a1, vi (0 : Int32), vi (0 : Int32), vi (1 : Int32)] [(.int (own_W B)), (.int (1 : Int32))]))) (fun t k => ?_) ?_
    · show Steps p.tables e below (T15.setTop (mkF m 14 #[vr a1, vi (0 : Int32), vi (0 : Int32), vi (0 : Int32)] [(.int (1 : Int32)), (.int (0 : Int32))])) _
      refine XS.icmpNo X15.here hx rfl (hb hby d15_14) rfl ((tlt (by decide : (0 : Int32) < (1 : Int32))).2.1) ?_
      refine XS.aloadN X15.here hx rfl (hb hby d15_17) rfl rfl ?_
      refine st16 _ ?_
      refine XS.iloadN X16.here hx rfl (hb hby d15_21) rfl ?_
      refine XS.iloadN X16.here hx rfl (hb hby d15_22) rfl ?_
      refine XS.iadd X16.here hx rfl (hb hby d15_23) rfl ?_
      show Steps p.tables e below (T16.setTop (mkF m 24 #[vr a1, vi (0 : Int32), vi (0 : Int32), vi (0 : Int32)] [(.int (0 : Int32)), (.ref P)])) _
      refine X16.laload hx (j := (0 : Int32)) (v := (.long (fP 0))) (by rw [e16]; exact Ar17.1) (State.isArrayOf_alike hZ.alike Ar17.2.1) Ar17.2.2 hin17 hat17 (g := (mkF m 24 #[vr a1, vi (0 : Int32), vi (0 : Int32), vi (0 : Int32)] [(.int (0 : Int32)), (.ref P)])) rfl rfl (hb hby d15_24) _ ?_
      refine XS.aloadN X16.here hx rfl (hb hby d15_25) rfl rfl ?_
      refine st18 _ ?_
      refine XS.iloadN X18.here hx rfl (hb hby d15_29) rfl ?_
      refine X18.laload hx (j := (0 : Int32)) (v := (.long (fR 0))) (by rw [e18]; exact Ar19.1) (State.isArrayOf_alike hZ.alike Ar19.2.1) Ar19.2.2 hin19 hat19 (g := (mkF m 30 #[vr a1, vi (0 : Int32), vi (0 : Int32), vi (0 : Int32)] [(.int (0 : Int32)), (.ref R), (.long (fP 0))])) rfl rfl (hb hby d15_30) _ ?_
      refine XS.lcmp X18.here hx rfl (hb hby d15_31) rfl ?_
      show Steps p.tables e below (T18.setTop (mkF m 32 #[vr a1, vi (0 : Int32), vi (0 : Int32), vi (0 : Int32)] [(.int (lcmpW (fP 0) (fR 0)))])) _
      refine XS.ifYes X18.here hx rfl (pc0 := 32) (pc' := 37) rfl (hb hby d15_32) rfl ((if0 _ _).trans (teq ((lw_eq (fP 0) (fR 0)).mpr (hq.1 : (fP 0) = (fR 0)))).1) (by decide) (by decide) ?_
      refine XS.iinc X18.here hx rfl (hb hby d15_37) rfl (l' := #[vr a1, vi (0 : Int32), vi (0 : Int32), vi (1 : Int32)]) rfl ?_
      refine XS.goto X18.here hx rfl (pc0 := 40) (pc' := 9) rfl (hb hby d15_40) (by decide) (by decide) ?_
      refine XS.iloadN X18.here hx rfl (hb hby d15_9) rfl ?_
      refine XS.aloadN X18.here hx rfl (hb hby d15_10) rfl rfl ?_
      refine st20 _ ?_
      exact k
    refine GoalS.lift (B := (T20.setTop (mkF m 14 #[vr a1, vi (0 : Int32), vi (0 : Int32), vi (1 : Int32)] [(.int (1 : Int32)), (.int (1 : Int32))]))) (fun t k => by rw [own_Wq hf1]; exact k) ?_
    obtain ⟨fs, hr, hrun, hended, hW, hsame⟩ := X20.leave (v := some (.int (1 : Int32))) (fun h => by rw [Bd.returns] at h; cases h)
    refine ⟨_, _, ?_, hrun, hended, _, _, rfl, ?_, ⟨_, rfl⟩, hW, hsame.mono (by decide) (by decide)⟩
    · show Steps p.tables e below (T20.setTop (mkF m 14 #[vr a1, vi (0 : Int32), vi (0 : Int32), vi (1 : Int32)] [(.int (1 : Int32)), (.int (1 : Int32))])) _
      refine XS.icmpYes X20.here hx rfl (pc0 := 14) (pc' := 43) rfl (hb hby d15_14) rfl ((flt (by decide : ¬ ((1 : Int32) < (1 : Int32)))).2.1) (by decide) (by decide) ?_
      refine XS.iconst X20.here hx rfl (hb hby d15_43) ?_
      exact retN X20 hx (t := .boolean) Bd.returns (by simp) (hb hby d15_44) hr
    · show Qhp1 Z a1 B P R kP kR fP fR h0 n0 _ T20.heap _
      exact ⟨rfl, N0, e20⟩
theorem d15_35 : decode prog_21_method_6_code 35 = .ok (.iconst 0, 1) := by decide +kernel
theorem d15_36 : decode prog_21_method_6_code 36 = .ok (.ireturn, 1) := by decide +kernel
theorem ef_rmhp0 (m : MethodId) (a1 : Addr) : entryFrame m #[(.ref a1), (.int (0 : Int32))] 4 = mkF m 0 #[vr a1, vi (0 : Int32), .unset, .unset] [] := by first | (simp [entryFrame, mkF, argsToLocals, Value.category]; done) | rfl
def Qhp0 (Z : State) (a1 : Addr) (B : Int32) (P : Addr) (R : Addr) (kP : ClassId) (kR : ClassId) (fP : Nat → Int64) (fR : Nat → Int64) (h0 : Heap) (n0 : Nat) (v : Option Value) (h : Heap) (L : List Loc) : Prop := v = some (.int (0 : Int32)) ∧ Fr n0 L ∧ h = h0
set_option maxRecDepth 65536 in
set_option maxHeartbeats 40000000 in
theorem rmhp0 (l : Launch) (Z : State) (a0 : Array Value) (hw : ∀ d ∈ tables_1, d.before a0 Z = true) (ws : List Jvm.Cond) (a1 : Addr) (B : Int32) (P : Addr) (R : Addr) (kP : ClassId) (kR : ClassId) (fP : Nat → Int64) (fR : Nat → Int64) (h0 : Heap) (n0 : Nat) (Z0 : n0 ≤ h0.size) (F_bits_a1 : Fld Z h0 a1 "com/example/always_over_paths/alwaysoverpaths/explicit/MarkingTable" "bits" "I" (.int B)) (F_words_a1 : Fld Z h0 a1 "com/example/always_over_paths/alwaysoverpaths/explicit/MarkingTable" "words" "I" (.int (own_W B))) (F_packed_a1 : Fld Z h0 a1 "com/example/always_over_paths/alwaysoverpaths/explicit/MarkingTable" "packed" "[J" (.ref P)) (F_probe_a1 : Fld Z h0 a1 "com/example/always_over_paths/alwaysoverpaths/explicit/MarkingTable" "probe" "[J" (.ref R)) (A_P : AV Z h0 P kP .long (16 * (own_W B).toNatClampNeg) (fun i => Value.long (fP i))) (A_R : AV Z h0 R kR .long (own_W B).toNatClampNeg (fun i => Value.long (fR i))) (hq : ¬ own_same B fP fR) :
    MetFree l (⟨"com/example/always_over_paths/alwaysoverpaths/explicit/MarkingTable", "holdsProbe", "(I)Z"⟩ : MethodName) (head1 (Jvm.Cond.code (⟨"com/example/always_over_paths/alwaysoverpaths/explicit/MarkingTable", "holdsProbe", "(I)Z"⟩ : MethodName) prog_21_method_6_code 4 (some .boolean) :: ws) ({ frames := 0, cells := 0, slots := 0, locals := 0 } : Room)) (fun a U => a = #[(.ref a1), (.int (0 : Int32))] ∧ Z.Warmed39 U.vm ∧ U.heap = h0) (fun _ _ _ _ _ => True) (fun _ U o U' => ∃ v L, o = .returned v ∧ Qhp0 Z a1 B P R kP kR fP fR h0 n0 v U'.heap L ∧ FrameEnd U o U' L ({ frames := 0, cells := 0, slots := 0, locals := 0 } : Room).cells ({ frames := 0, cells := 0, slots := 0, locals := 0 } : Room).slots) := by
  refine MetFree.of_bodySF (plainFor_of_name pn_1) hisR ?_
  intro p e s m args below meth c s₁ Bd hml0 hP hK
  obtain ⟨rfl, hZ, hh⟩ := hP
  have hx := Bd.exec
  have hby := Bd.bytes
  have hml : c.maxLocals = 4 := hml0
  have hown : s.vm.findClass "com/example/always_over_paths/alwaysoverpaths/explicit/MarkingTable" = some m.cls := findClass_of_methodNamed Bd.named
  have hnm := (name_of_methodNamed Bd.named Bd.method).1
  have X0 : Stand p l e ({ frames := 0, cells := 0, slots := 0, locals := 0 } : Room) s m #[(.ref a1), (.int (0 : Int32))] below meth c s₁ [] 0 0 := Stand.of_body Bd
  have e0 : s₁.heap = h0 := by rw [← hh, Bd.state]; rfl
  have N0 := Fr.nil n0
  show GoalS p.tables e below s ({ frames := 0, cells := 0, slots := 0, locals := 0 } : Room).cells ({ frames := 0, cells := 0, slots := 0, locals := 0 } : Room).slots (Qhp0 Z a1 B P R kP kR fP fR h0 n0) (s₁.setTop (entryFrame m #[(.ref a1), (.int (0 : Int32))] 4))
  refine GoalS.lift (B := s₁.setTop (mkF m 0 #[vr a1, vi (0 : Int32), .unset, .unset] [])) (fun t k => castTop (ef_rmhp0 m a1) k) ?_
  have K0 : Keep h0 h0 [] := Keep.refl _ _
  by_cases hf1 : (21 : Int32) < B
  · obtain ⟨T2, X2, e2, st2⟩ := getF X0 hx hZ hown (host := "") (Or.inl (hw _ (List.mem_of_getElem? (i := 22) rfl))) Via.refl e0 F_words_a1 (g := (mkF m 2 #[vr a1, vi (0 : Int32), .unset, .unset] [(.ref a1), (.int (0 : Int32))])) rfl rfl (hb hby d15_2)
    refine GoalS.lift (B := (T2.setTop (mkF m 5 #[vr a1, vi (0 : Int32), .unset, .unset] [(.int (own_W B)), (.int (0 : Int32))]))) (fun t k => ?_) ?_
    · show Steps p.tables e below (s₁.setTop (mkF m 0 #[vr a1, vi (0 : Int32), .unset, .unset] [])) _
      refine XS.iloadN X0.here hx rfl (hb hby d15_0) rfl ?_
      refine XS.aloadN X0.here hx rfl (hb hby d15_1) rfl rfl ?_
      refine st2 _ ?_
      exact k
    refine GoalS.lift (B := (T2.setTop (mkF m 5 #[vr a1, vi (0 : Int32), .unset, .unset] [(.int (2 : Int32)), (.int (0 : Int32))]))) (fun t k => by rw [own_Wp hf1]; exact k) ?_
    obtain ⟨T3, X3, e3, st3⟩ := getF X2 hx hZ hown (host := "") (Or.inl (hw _ (List.mem_of_getElem? (i := 22) rfl))) Via.refl e2 F_words_a1 (g := (mkF m 11 #[vr a1, vi (0 : Int32), vi (0 : Int32), vi (0 : Int32)] [(.ref a1), (.int (0 : Int32))])) rfl rfl (hb hby d15_11)
    refine GoalS.lift (B := (T3.setTop (mkF m 14 #[vr a1, vi (0 : Int32), vi (0 : Int32), vi (0 : Int32)] [(.int (own_W B)), (.int (0 : Int32))]))) (fun t k => ?_) ?_
    · show Steps p.tables e below (T2.setTop (mkF m 5 #[vr a1, vi (0 : Int32), .unset, .unset] [(.int (2 : Int32)), (.int (0 : Int32))])) _
      refine XS.imul X2.here hx rfl (hb hby d15_5) rfl ?_
      refine XS.istoreN X2.here hx rfl (hb hby d15_6) rfl (l' := #[vr a1, vi (0 : Int32), vi (0 : Int32), .unset]) rfl ?_
      refine XS.iconst X2.here hx rfl (hb hby d15_7) ?_
      refine XS.istoreN X2.here hx rfl (hb hby d15_8) rfl (l' := #[vr a1, vi (0 : Int32), vi (0 : Int32), vi (0 : Int32)]) rfl ?_
      refine XS.iloadN X2.here hx rfl (hb hby d15_9) rfl ?_
      refine XS.aloadN X2.here hx rfl (hb hby d15_10) rfl rfl ?_
      show Steps p.tables e below (T2.setTop (mkF m 11 #[vr a1, vi (0 : Int32), vi (0 : Int32), vi (0 : Int32)] [(.ref a1), (.int (0 : Int32))])) _
      refine st3 _ ?_
      exact k
    refine GoalS.lift (B := (T3.setTop (mkF m 14 #[vr a1, vi (0 : Int32), vi (0 : Int32), vi (0 : Int32)] [(.int (2 : Int32)), (.int (0 : Int32))]))) (fun t k => by rw [own_Wp hf1]; exact k) ?_
    obtain ⟨T4, X4, e4, st4⟩ := getF X3 hx hZ hown (host := "") (Or.inl (hw _ (List.mem_of_getElem? (i := 25) rfl))) Via.refl e3 F_packed_a1 (g := (mkF m 18 #[vr a1, vi (0 : Int32), vi (0 : Int32), vi (0 : Int32)] [(.ref a1)])) rfl rfl (hb hby d15_18)
    obtain ⟨cl5, Ar5, kc5, sz5, -, hv5⟩ := id A_P
    have hin5 : ¬ ((0 : Int32) < 0 ∨ cl5.slots.size ≤ ((0 : Int32)).toNatClampNeg) := AV.inb sz5 (own_in0 (show (own_W B).toNatClampNeg ≤ (16 * (own_W B).toNatClampNeg) by omega))
    have hat5 : cl5.slots[((0 : Int32)).toNatClampNeg]? = some (.long (fP 0)) := (hv5 _ (AV.inx (own_in0 (show (own_W B).toNatClampNeg ≤ (16 * (own_W B).toNatClampNeg) by omega)))).trans (congrArg some rfl)
    obtain ⟨T6, X6, e6, st6⟩ := getF X4 hx hZ hown (host := "") (Or.inl (hw _ (List.mem_of_getElem? (i := 27) rfl))) Via.refl e4 F_probe_a1 (g := (mkF m 26 #[vr a1, vi (0 : Int32), vi (0 : Int32), vi (0 : Int32)] [(.ref a1), (.long (fP 0))])) rfl rfl (hb hby d15_26)
    obtain ⟨cl7, Ar7, kc7, sz7, -, hv7⟩ := id A_R
    have hin7 : ¬ ((0 : Int32) < 0 ∨ cl7.slots.size ≤ ((0 : Int32)).toNatClampNeg) := AV.inb sz7 (own_in0 (Nat.le_refl _))
    have hat7 : cl7.slots[((0 : Int32)).toNatClampNeg]? = some (.long (fR 0)) := (hv7 _ (AV.inx (own_in0 (Nat.le_refl _)))).trans (congrArg some rfl)
    refine GoalS.lift (B := (T6.setTop (mkF m 32 #[vr a1, vi (0 : Int32), vi (0 : Int32), vi (0 : Int32)] [(.int (lcmpW (fP 0) (fR 0)))]))) (fun t k => ?_) ?_
    · show Steps p.tables e below (T3.setTop (mkF m 14 #[vr a1, vi (0 : Int32), vi (0 : Int32), vi (0 : Int32)] [(.int (2 : Int32)), (.int (0 : Int32))])) _
      refine XS.icmpNo X3.here hx rfl (hb hby d15_14) rfl ((tlt (by decide : (0 : Int32) < (2 : Int32))).2.1) ?_
      refine XS.aloadN X3.here hx rfl (hb hby d15_17) rfl rfl ?_
      refine st4 _ ?_
      refine XS.iloadN X4.here hx rfl (hb hby d15_21) rfl ?_
      refine XS.iloadN X4.here hx rfl (hb hby d15_22) rfl ?_
      refine XS.iadd X4.here hx rfl (hb hby d15_23) rfl ?_
      show Steps p.tables e below (T4.setTop (mkF m 24 #[vr a1, vi (0 : Int32), vi (0 : Int32), vi (0 : Int32)] [(.int (0 : Int32)), (.ref P)])) _
      refine X4.laload hx (j := (0 : Int32)) (v := (.long (fP 0))) (by rw [e4]; exact Ar5.1) (State.isArrayOf_alike hZ.alike Ar5.2.1) Ar5.2.2 hin5 hat5 (g := (mkF m 24 #[vr a1, vi (0 : Int32), vi (0 : Int32), vi (0 : Int32)] [(.int (0 : Int32)), (.ref P)])) rfl rfl (hb hby d15_24) _ ?_
      refine XS.aloadN X4.here hx rfl (hb hby d15_25) rfl rfl ?_
      refine st6 _ ?_
      refine XS.iloadN X6.here hx rfl (hb hby d15_29) rfl ?_
      refine X6.laload hx (j := (0 : Int32)) (v := (.long (fR 0))) (by rw [e6]; exact Ar7.1) (State.isArrayOf_alike hZ.alike Ar7.2.1) Ar7.2.2 hin7 hat7 (g := (mkF m 30 #[vr a1, vi (0 : Int32), vi (0 : Int32), vi (0 : Int32)] [(.int (0 : Int32)), (.ref R), (.long (fP 0))])) rfl rfl (hb hby d15_30) _ ?_
      refine XS.lcmp X6.here hx rfl (hb hby d15_31) rfl ?_
      show Steps p.tables e below (T6.setTop (mkF m 32 #[vr a1, vi (0 : Int32), vi (0 : Int32), vi (0 : Int32)] [(.int (lcmpW (fP 0) (fR 0)))])) _
      exact k
    by_cases hc32_8 : (fP 0) = (fR 0)
    · obtain ⟨T9, X9, e9, st9⟩ := getF X6 hx hZ hown (host := "") (Or.inl (hw _ (List.mem_of_getElem? (i := 22) rfl))) Via.refl e6 F_words_a1 (g := (mkF m 11 #[vr a1, vi (0 : Int32), vi (0 : Int32), vi (1 : Int32)] [(.ref a1), (.int (1 : Int32))])) rfl rfl (hb hby d15_11)
      refine GoalS.lift (B := (T9.setTop (mkF m 14 #[vr a1, vi (0 : Int32), vi (0 : Int32), vi (1 : Int32)] [(.int (own_W B)), (.int (1 : Int32))]))) (fun t k => ?_) ?_
      · show Steps p.tables e below (T6.setTop (mkF m 32 #[vr a1, vi (0 : Int32), vi (0 : Int32), vi (0 : Int32)] [(.int (lcmpW (fP 0) (fR 0)))])) _
        refine XS.ifYes X6.here hx rfl (pc0 := 32) (pc' := 37) rfl (hb hby d15_32) rfl ((if0 _ _).trans (teq ((lw_eq (fP 0) (fR 0)).mpr hc32_8)).1) (by decide) (by decide) ?_
        refine XS.iinc X6.here hx rfl (hb hby d15_37) rfl (l' := #[vr a1, vi (0 : Int32), vi (0 : Int32), vi (1 : Int32)]) rfl ?_
        refine XS.goto X6.here hx rfl (pc0 := 40) (pc' := 9) rfl (hb hby d15_40) (by decide) (by decide) ?_
        refine XS.iloadN X6.here hx rfl (hb hby d15_9) rfl ?_
        refine XS.aloadN X6.here hx rfl (hb hby d15_10) rfl rfl ?_
        refine st9 _ ?_
        exact k
      refine GoalS.lift (B := (T9.setTop (mkF m 14 #[vr a1, vi (0 : Int32), vi (0 : Int32), vi (1 : Int32)] [(.int (2 : Int32)), (.int (1 : Int32))]))) (fun t k => by rw [own_Wp hf1]; exact k) ?_
      obtain ⟨T10, X10, e10, st10⟩ := getF X9 hx hZ hown (host := "") (Or.inl (hw _ (List.mem_of_getElem? (i := 25) rfl))) Via.refl e9 F_packed_a1 (g := (mkF m 18 #[vr a1, vi (0 : Int32), vi (0 : Int32), vi (1 : Int32)] [(.ref a1)])) rfl rfl (hb hby d15_18)
      obtain ⟨cl11, Ar11, kc11, sz11, -, hv11⟩ := id A_P
      have hin11 : ¬ ((1 : Int32) < 0 ∨ cl11.slots.size ≤ ((1 : Int32)).toNatClampNeg) := AV.inb sz11 (own_in1 hf1 (show (own_W B).toNatClampNeg ≤ (16 * (own_W B).toNatClampNeg) by omega))
      have hat11 : cl11.slots[((1 : Int32)).toNatClampNeg]? = some (.long (fP 1)) := (hv11 _ (AV.inx (own_in1 hf1 (show (own_W B).toNatClampNeg ≤ (16 * (own_W B).toNatClampNeg) by omega)))).trans (congrArg some rfl)
      obtain ⟨T12, X12, e12, st12⟩ := getF X10 hx hZ hown (host := "") (Or.inl (hw _ (List.mem_of_getElem? (i := 27) rfl))) Via.refl e10 F_probe_a1 (g := (mkF m 26 #[vr a1, vi (0 : Int32), vi (0 : Int32), vi (1 : Int32)] [(.ref a1), (.long (fP 1))])) rfl rfl (hb hby d15_26)
      obtain ⟨cl13, Ar13, kc13, sz13, -, hv13⟩ := id A_R
      have hin13 : ¬ ((1 : Int32) < 0 ∨ cl13.slots.size ≤ ((1 : Int32)).toNatClampNeg) := AV.inb sz13 (own_in1 hf1 (Nat.le_refl _))
      have hat13 : cl13.slots[((1 : Int32)).toNatClampNeg]? = some (.long (fR 1)) := (hv13 _ (AV.inx (own_in1 hf1 (Nat.le_refl _)))).trans (congrArg some rfl)
      obtain ⟨fs, hr, hrun, hended, hW, hsame⟩ := X12.leave (v := some (.int (0 : Int32))) (fun h => by rw [Bd.returns] at h; cases h)
      refine ⟨_, _, ?_, hrun, hended, _, _, rfl, ?_, ⟨_, rfl⟩, hW, hsame.mono (by decide) (by decide)⟩
      · show Steps p.tables e below (T9.setTop (mkF m 14 #[vr a1, vi (0 : Int32), vi (0 : Int32), vi (1 : Int32)] [(.int (2 : Int32)), (.int (1 : Int32))])) _
        refine XS.icmpNo X9.here hx rfl (hb hby d15_14) rfl ((tlt (by decide : (1 : Int32) < (2 : Int32))).2.1) ?_
        refine XS.aloadN X9.here hx rfl (hb hby d15_17) rfl rfl ?_
        refine st10 _ ?_
        refine XS.iloadN X10.here hx rfl (hb hby d15_21) rfl ?_
        refine XS.iloadN X10.here hx rfl (hb hby d15_22) rfl ?_
        refine XS.iadd X10.here hx rfl (hb hby d15_23) rfl ?_
        show Steps p.tables e below (T10.setTop (mkF m 24 #[vr a1, vi (0 : Int32), vi (0 : Int32), vi (1 : Int32)] [(.int (1 : Int32)), (.ref P)])) _
        refine X10.laload hx (j := (1 : Int32)) (v := (.long (fP 1))) (by rw [e10]; exact Ar11.1) (State.isArrayOf_alike hZ.alike Ar11.2.1) Ar11.2.2 hin11 hat11 (g := (mkF m 24 #[vr a1, vi (0 : Int32), vi (0 : Int32), vi (1 : Int32)] [(.int (1 : Int32)), (.ref P)])) rfl rfl (hb hby d15_24) _ ?_
        refine XS.aloadN X10.here hx rfl (hb hby d15_25) rfl rfl ?_
        refine st12 _ ?_
        refine XS.iloadN X12.here hx rfl (hb hby d15_29) rfl ?_
        refine X12.laload hx (j := (1 : Int32)) (v := (.long (fR 1))) (by rw [e12]; exact Ar13.1) (State.isArrayOf_alike hZ.alike Ar13.2.1) Ar13.2.2 hin13 hat13 (g := (mkF m 30 #[vr a1, vi (0 : Int32), vi (0 : Int32), vi (1 : Int32)] [(.int (1 : Int32)), (.ref R), (.long (fP 1))])) rfl rfl (hb hby d15_30) _ ?_
        refine XS.lcmp X12.here hx rfl (hb hby d15_31) rfl ?_
        show Steps p.tables e below (T12.setTop (mkF m 32 #[vr a1, vi (0 : Int32), vi (0 : Int32), vi (1 : Int32)] [(.int (lcmpW (fP 1) (fR 1)))])) _
        refine XS.ifNo X12.here hx rfl (hb hby d15_32) rfl ((if0 _ _).trans (feq (fun q => (fun q => hq ⟨hc32_8, fun _ => q⟩ : ¬ ((fP 1) = (fR 1))) ((lw_eq (fP 1) (fR 1)).mp q))).1) ?_
        refine XS.iconst X12.here hx rfl (hb hby d15_35) ?_
        exact retN X12 hx (t := .boolean) Bd.returns (by simp) (hb hby d15_36) hr
      · show Qhp0 Z a1 B P R kP kR fP fR h0 n0 _ T12.heap _
        exact ⟨rfl, N0, e12⟩
    · obtain ⟨fs, hr, hrun, hended, hW, hsame⟩ := X6.leave (v := some (.int (0 : Int32))) (fun h => by rw [Bd.returns] at h; cases h)
      refine ⟨_, _, ?_, hrun, hended, _, _, rfl, ?_, ⟨_, rfl⟩, hW, hsame.mono (by decide) (by decide)⟩
      · show Steps p.tables e below (T6.setTop (mkF m 32 #[vr a1, vi (0 : Int32), vi (0 : Int32), vi (0 : Int32)] [(.int (lcmpW (fP 0) (fR 0)))])) _
        refine XS.ifNo X6.here hx rfl (hb hby d15_32) rfl ((if0 _ _).trans (feq (fun q => hc32_8 ((lw_eq (fP 0) (fR 0)).mp q))).1) ?_
        refine XS.iconst X6.here hx rfl (hb hby d15_35) ?_
        exact retN X6 hx (t := .boolean) Bd.returns (by simp) (hb hby d15_36) hr
      · show Qhp0 Z a1 B P R kP kR fP fR h0 n0 _ T6.heap _
        exact ⟨rfl, N0, e6⟩
  · obtain ⟨T14, X14, e14, st14⟩ := getF X0 hx hZ hown (host := "") (Or.inl (hw _ (List.mem_of_getElem? (i := 22) rfl))) Via.refl e0 F_words_a1 (g := (mkF m 2 #[vr a1, vi (0 : Int32), .unset, .unset] [(.ref a1), (.int (0 : Int32))])) rfl rfl (hb hby d15_2)
    refine GoalS.lift (B := (T14.setTop (mkF m 5 #[vr a1, vi (0 : Int32), .unset, .unset] [(.int (own_W B)), (.int (0 : Int32))]))) (fun t k => ?_) ?_
    · show Steps p.tables e below (s₁.setTop (mkF m 0 #[vr a1, vi (0 : Int32), .unset, .unset] [])) _
      refine XS.iloadN X0.here hx rfl (hb hby d15_0) rfl ?_
      refine XS.aloadN X0.here hx rfl (hb hby d15_1) rfl rfl ?_
      refine st14 _ ?_
      exact k
    refine GoalS.lift (B := (T14.setTop (mkF m 5 #[vr a1, vi (0 : Int32), .unset, .unset] [(.int (1 : Int32)), (.int (0 : Int32))]))) (fun t k => by rw [own_Wq hf1]; exact k) ?_
    obtain ⟨T15, X15, e15, st15⟩ := getF X14 hx hZ hown (host := "") (Or.inl (hw _ (List.mem_of_getElem? (i := 22) rfl))) Via.refl e14 F_words_a1 (g := (mkF m 11 #[vr a1, vi (0 : Int32), vi (0 : Int32), vi (0 : Int32)] [(.ref a1), (.int (0 : Int32))])) rfl rfl (hb hby d15_11)
    refine GoalS.lift (B := (T15.setTop (mkF m 14 #[vr a1, vi (0 : Int32), vi (0 : Int32), vi (0 : Int32)] [(.int (own_W B)), (.int (0 : Int32))]))) (fun t k => ?_) ?_
    · show Steps p.tables e below (T14.setTop (mkF m 5 #[vr a1, vi (0 : Int32), .unset, .unset] [(.int (1 : Int32)), (.int (0 : Int32))])) _
      refine XS.imul X14.here hx rfl (hb hby d15_5) rfl ?_
      refine XS.istoreN X14.here hx rfl (hb hby d15_6) rfl (l' := #[vr a1, vi (0 : Int32), vi (0 : Int32), .unset]) rfl ?_
      refine XS.iconst X14.here hx rfl (hb hby d15_7) ?_
      refine XS.istoreN X14.here hx rfl (hb hby d15_8) rfl (l' := #[vr a1, vi (0 : Int32), vi (0 : Int32), vi (0 : Int32)]) rfl ?_
      refine XS.iloadN X14.here hx rfl (hb hby d15_9) rfl ?_
      refine XS.aloadN X14.here hx rfl (hb hby d15_10) rfl rfl ?_
      show Steps p.tables e below (T14.setTop (mkF m 11 #[vr a1, vi (0 : Int32), vi (0 : Int32), vi (0 : Int32)] [(.ref a1), (.int (0 : Int32))])) _
      refine st15 _ ?_
      exact k
    refine GoalS.lift (B := (T15.setTop (mkF m 14 #[vr a1, vi (0 : Int32), vi (0 : Int32), vi (0 : Int32)] [(.int (1 : Int32)), (.int (0 : Int32))]))) (fun t k => by rw [own_Wq hf1]; exact k) ?_
    obtain ⟨T16, X16, e16, st16⟩ := getF X15 hx hZ hown (host := "") (Or.inl (hw _ (List.mem_of_getElem? (i := 25) rfl))) Via.refl e15 F_packed_a1 (g := (mkF m 18 #[vr a1, vi (0 : Int32), vi (0 : Int32), vi (0 : Int32)] [(.ref a1)])) rfl rfl (hb hby d15_18)
    obtain ⟨cl17, Ar17, kc17, sz17, -, hv17⟩ := id A_P
    have hin17 : ¬ ((0 : Int32) < 0 ∨ cl17.slots.size ≤ ((0 : Int32)).toNatClampNeg) := AV.inb sz17 (own_in0 (show (own_W B).toNatClampNeg ≤ (16 * (own_W B).toNatClampNeg) by omega))
    have hat17 : cl17.slots[((0 : Int32)).toNatClampNeg]? = some (.long (fP 0)) := (hv17 _ (AV.inx (own_in0 (show (own_W B).toNatClampNeg ≤ (16 * (own_W B).toNatClampNeg) by omega)))).trans (congrArg some rfl)
    obtain ⟨T18, X18, e18, st18⟩ := getF X16 hx hZ hown (host := "") (Or.inl (hw _ (List.mem_of_getElem? (i := 27) rfl))) Via.refl e16 F_probe_a1 (g := (mkF m 26 #[vr a1, vi (0 : Int32), vi (0 : Int32), vi (0 : Int32)] [(.ref a1), (.long (fP 0))])) rfl rfl (hb hby d15_26)
    obtain ⟨cl19, Ar19, kc19, sz19, -, hv19⟩ := id A_R
    have hin19 : ¬ ((0 : Int32) < 0 ∨ cl19.slots.size ≤ ((0 : Int32)).toNatClampNeg) := AV.inb sz19 (own_in0 (Nat.le_refl _))
    have hat19 : cl19.slots[((0 : Int32)).toNatClampNeg]? = some (.long (fR 0)) := (hv19 _ (AV.inx (own_in0 (Nat.le_refl _)))).trans (congrArg some rfl)
    obtain ⟨fs, hr, hrun, hended, hW, hsame⟩ := X18.leave (v := some (.int (0 : Int32))) (fun h => by rw [Bd.returns] at h; cases h)
    refine ⟨_, _, ?_, hrun, hended, _, _, rfl, ?_, ⟨_, rfl⟩, hW, hsame.mono (by decide) (by decide)⟩
    · show Steps p.tables e below (T15.setTop (mkF m 14 #[vr a1, vi (0 : Int32), vi (0 : Int32), vi (0 : Int32)] [(.int (1 : Int32)), (.int (0 : Int32))])) _
      refine XS.icmpNo X15.here hx rfl (hb hby d15_14) rfl ((tlt (by decide : (0 : Int32) < (1 : Int32))).2.1) ?_
      refine XS.aloadN X15.here hx rfl (hb hby d15_17) rfl rfl ?_
      refine st16 _ ?_
      refine XS.iloadN X16.here hx rfl (hb hby d15_21) rfl ?_
      refine XS.iloadN X16.here hx rfl (hb hby d15_22) rfl ?_
      refine XS.iadd X16.here hx rfl (hb hby d15_23) rfl ?_
      show Steps p.tables e below (T16.setTop (mkF m 24 #[vr a1, vi (0 : Int32), vi (0 : Int32), vi (0 : Int32)] [(.int (0 : Int32)), (.ref P)])) _
      refine X16.laload hx (j := (0 : Int32)) (v := (.long (fP 0))) (by rw [e16]; exact Ar17.1) (State.isArrayOf_alike hZ.alike Ar17.2.1) Ar17.2.2 hin17 hat17 (g := (mkF m 24 #[vr a1, vi (0 : Int32), vi (0 : Int32), vi (0 : Int32)] [(.int (0 : Int32)), (.ref P)])) rfl rfl (hb hby d15_24) _ ?_
      refine XS.aloadN X16.here hx rfl (hb hby d15_25) rfl rfl ?_
      refine st18 _ ?_
      refine XS.iloadN X18.here hx rfl (hb hby d15_29) rfl ?_
      refine X18.laload hx (j := (0 : Int32)) (v := (.long (fR 0))) (by rw [e18]; exact Ar19.1) (State.isArrayOf_alike hZ.alike Ar19.2.1) Ar19.2.2 hin19 hat19 (g := (mkF m 30 #[vr a1, vi (0 : Int32), vi (0 : Int32), vi (0 : Int32)] [(.int (0 : Int32)), (.ref R), (.long (fP 0))])) rfl rfl (hb hby d15_30) _ ?_
      refine XS.lcmp X18.here hx rfl (hb hby d15_31) rfl ?_
      show Steps p.tables e below (T18.setTop (mkF m 32 #[vr a1, vi (0 : Int32), vi (0 : Int32), vi (0 : Int32)] [(.int (lcmpW (fP 0) (fR 0)))])) _
      refine XS.ifNo X18.here hx rfl (hb hby d15_32) rfl ((if0 _ _).trans (feq (fun q => (fun q => hq ⟨q, fun g => absurd g hf1⟩ : ¬ ((fP 0) = (fR 0))) ((lw_eq (fP 0) (fR 0)).mp q))).1) ?_
      refine XS.iconst X18.here hx rfl (hb hby d15_35) ?_
      exact retN X18 hx (t := .boolean) Bd.returns (by simp) (hb hby d15_36) hr
    · show Qhp0 Z a1 B P R kP kR fP fR h0 n0 _ T18.heap _
      exact ⟨rfl, N0, e18⟩
theorem d13_0 : decode prog_21_method_4_code 0 = .ok (.aload_n 0, 1) := by decide +kernel
theorem d13_1 : decode prog_21_method_4_code 1 = .ok (.getfield 25, 3) := by decide +kernel
theorem d13_4 : decode prog_21_method_4_code 4 = .ok (.iload_n 1, 1) := by decide +kernel
theorem d13_5 : decode prog_21_method_4_code 5 = .ok (.aload_n 0, 1) := by decide +kernel
theorem d13_6 : decode prog_21_method_4_code 6 = .ok (.getfield 22, 3) := by decide +kernel
theorem d13_9 : decode prog_21_method_4_code 9 = .ok (.imul, 1) := by decide +kernel
theorem d13_10 : decode prog_21_method_4_code 10 = .ok (.aload_n 0, 1) := by decide +kernel
theorem d13_11 : decode prog_21_method_4_code 11 = .ok (.getfield 15, 3) := by decide +kernel
theorem d13_14 : decode prog_21_method_4_code 14 = .ok (.aload_n 2, 1) := by decide +kernel
theorem d13_15 : decode prog_21_method_4_code 15 = .ok (.invokestatic 76, 3) := by decide +kernel
theorem d13_18 : decode prog_21_method_4_code 18 = .ok (.return_, 1) := by decide +kernel
theorem pd_1 : parseMethodDescriptor "([JII[I)V" = some ⟨[(.array .long), .int, .int, (.array .int)], none⟩ := by decide +kernel
theorem ef_rmget0 (m : MethodId) (a1 : Addr) (a3 : Addr) : entryFrame m #[(.ref a1), (.int (0 : Int32)), (.ref a3)] 3 = mkF m 0 #[vr a1, vi (0 : Int32), vr a3] [] := by first | (simp [entryFrame, mkF, argsToLocals, Value.category]; done) | rfl
def Qget0 (Z : State) (a1 : Addr) (a3 : Addr) (B : Int32) (P : Addr) (kP : ClassId) (k3 : ClassId) (fP : Nat → Int64) (g : Nat → Int32) (h0 : Heap) (n0 : Nat) (v : Option Value) (h : Heap) (L : List Loc) : Prop := v = none ∧ Fr n0 L ∧ Keep h0 h [a3] ∧ (AV Z h a3 k3 .int 3 (fun i => Value.int ((own_un B (fP 0) (fP 1)) i)))
set_option maxRecDepth 65536 in
set_option maxHeartbeats 40000000 in
theorem rmget0 (l : Launch) (Z : State) (a0 : Array Value) (hw : ∀ d ∈ tables_1, d.before a0 Z = true) (ws : List Jvm.Cond) (a1 : Addr) (a3 : Addr) (B : Int32) (P : Addr) (kP : ClassId) (k3 : ClassId) (fP : Nat → Int64) (g : Nat → Int32) (h0 : Heap) (n0 : Nat) (Z0 : n0 ≤ h0.size) (F_bits_a1 : Fld Z h0 a1 "com/example/always_over_paths/alwaysoverpaths/explicit/MarkingTable" "bits" "I" (.int B)) (F_words_a1 : Fld Z h0 a1 "com/example/always_over_paths/alwaysoverpaths/explicit/MarkingTable" "words" "I" (.int (own_W B))) (F_packed_a1 : Fld Z h0 a1 "com/example/always_over_paths/alwaysoverpaths/explicit/MarkingTable" "packed" "[J" (.ref P)) (A_P : AV Z h0 P kP .long (16 * (own_W B).toNatClampNeg) (fun i => Value.long (fP i))) (A_a3 : AV Z h0 a3 k3 .int 3 (fun i => Value.int (g i))) (ne_P_a3 : P ≠ a3) (ne_a1_a3 : a1 ≠ a3) (g_a3 : n0 ≤ a3) (hB : own_B B) :
    MetFree l (⟨"com/example/always_over_paths/alwaysoverpaths/explicit/MarkingTable", "get", "(I[I)V"⟩ : MethodName) (head1 (Jvm.Cond.code (⟨"com/example/always_over_paths/alwaysoverpaths/explicit/MarkingTable", "get", "(I[I)V"⟩ : MethodName) prog_21_method_4_code 3 none :: ws) ({ frames := 1, cells := 0, slots := 0, locals := 22 } : Room)) (fun a U => a = #[(.ref a1), (.int (0 : Int32)), (.ref a3)] ∧ Z.Warmed39 U.vm ∧ U.heap = h0) (fun _ _ _ _ _ => True) (fun _ U o U' => ∃ v L, o = .returned v ∧ Qget0 Z a1 a3 B P kP k3 fP g h0 n0 v U'.heap L ∧ FrameEnd U o U' L ({ frames := 1, cells := 0, slots := 0, locals := 22 } : Room).cells ({ frames := 1, cells := 0, slots := 0, locals := 22 } : Room).slots) := by
  refine MetFree.of_bodySF (plainFor_of_name pn_1) hisR ?_
  intro p e s m args below meth c s₁ Bd hml0 hP hK
  obtain ⟨rfl, hZ, hh⟩ := hP
  have hx := Bd.exec
  have hby := Bd.bytes
  have hml : c.maxLocals = 3 := hml0
  have hown : s.vm.findClass "com/example/always_over_paths/alwaysoverpaths/explicit/MarkingTable" = some m.cls := findClass_of_methodNamed Bd.named
  have hnm := (name_of_methodNamed Bd.named Bd.method).1
  have X0 : Stand p l e ({ frames := 1, cells := 0, slots := 0, locals := 22 } : Room) s m #[(.ref a1), (.int (0 : Int32)), (.ref a3)] below meth c s₁ [] 0 0 := Stand.of_body Bd
  have e0 : s₁.heap = h0 := by rw [← hh, Bd.state]; rfl
  have N0 := Fr.nil n0
  show GoalS p.tables e below s ({ frames := 1, cells := 0, slots := 0, locals := 22 } : Room).cells ({ frames := 1, cells := 0, slots := 0, locals := 22 } : Room).slots (Qget0 Z a1 a3 B P kP k3 fP g h0 n0) (s₁.setTop (entryFrame m #[(.ref a1), (.int (0 : Int32)), (.ref a3)] 3))
  refine GoalS.lift (B := s₁.setTop (mkF m 0 #[vr a1, vi (0 : Int32), vr a3] [])) (fun t k => castTop (ef_rmget0 m a1 a3) k) ?_
  have K0 : Keep h0 h0 [a3] := Keep.refl _ _
  obtain ⟨T1, X1, e1, st1⟩ := getF X0 hx hZ hown (host := "") (Or.inl (hw _ (List.mem_of_getElem? (i := 25) rfl))) Via.refl e0 F_packed_a1 (g := (mkF m 1 #[vr a1, vi (0 : Int32), vr a3] [(.ref a1)])) rfl rfl (hb hby d13_1)
  obtain ⟨T2, X2, e2, st2⟩ := getF X1 hx hZ hown (host := "") (Or.inl (hw _ (List.mem_of_getElem? (i := 22) rfl))) Via.refl e1 F_words_a1 (g := (mkF m 6 #[vr a1, vi (0 : Int32), vr a3] [(.ref a1), (.int (0 : Int32)), (.ref P)])) rfl rfl (hb hby d13_6)
  refine GoalS.lift (B := (T2.setTop (mkF m 10 #[vr a1, vi (0 : Int32), vr a3] [(.int ((0 : Int32) * (own_W B))), (.ref P)]))) (fun t k => ?_) ?_
  · show Steps p.tables e below (s₁.setTop (mkF m 0 #[vr a1, vi (0 : Int32), vr a3] [])) _
    refine XS.aloadN X0.here hx rfl (hb hby d13_0) rfl rfl ?_
    refine st1 _ ?_
    refine XS.iloadN X1.here hx rfl (hb hby d13_4) rfl ?_
    refine XS.aloadN X1.here hx rfl (hb hby d13_5) rfl rfl ?_
    refine st2 _ ?_
    refine XS.imul X2.here hx rfl (hb hby d13_9) rfl ?_
    exact k
  refine GoalS.lift (B := (T2.setTop (mkF m 10 #[vr a1, vi (0 : Int32), vr a3] [(.int (0 : Int32)), (.ref P)]))) (fun t k => by rw [Int32.zero_mul]; exact k) ?_
  obtain ⟨T3, X3, e3, st3⟩ := getF X2 hx hZ hown (host := "") (Or.inl (hw _ (List.mem_of_getElem? (i := 13) rfl))) Via.refl e2 F_bits_a1 (g := (mkF m 11 #[vr a1, vi (0 : Int32), vr a3] [(.ref a1), (.int (0 : Int32)), (.ref P)])) rfl rfl (hb hby d13_11)
  obtain ⟨_, _, ⟨T4, L4, k4, n4⟩, -, X4, ⟨Lc4, hQ4, l4, y4, z4⟩, st4⟩ := Jvm.LawKit.callS X3 hx (y := (⟨"com/example/always_over_paths/alwaysoverpaths/explicit/MarkingTable", "unpack", "([JII[I)V"⟩ : MethodName)) hown (mvT hZ (hw _ (List.mem_of_getElem? (i := 78) rfl))) (mvT hZ (hw _ (List.mem_of_getElem? (i := 79) rfl))) (mvT hZ (hw _ (List.mem_of_getElem? (i := 4) rfl))) (mvT hZ (hw _ (List.mem_of_getElem? (i := 80) rfl))) (by decide) (backOf (W := 0) (rmun l Z a0 hw [] P (0 : Int32) B a3 kP k3 fP g (16 * (own_W B).toNatClampNeg) h0 n0 Z0 A_P A_a3 ne_P_a3 g_a3 hB (own_gi0 B) (fun _ => own_gi2 B)) hZ (hw _ (List.mem_of_getElem? (i := 80) rfl)) (hw _ (List.mem_of_getElem? (i := 4) rfl)) (by decide) (by decide)) (g := (mkF m 15 #[vr a1, vi (0 : Int32), vr a3] [(.ref a3), (.int B), (.int (0 : Int32)), (.ref P)])) rfl (by rw [hml]; rfl) (argsL := [(.ref P), (.int (0 : Int32)), (.int B), (.ref a3)]) (rest := []) (lenOf pd_1 rfl) rfl (by show 2 * 0 + _ ≤ _; exact Nat.le_of_eq rfl) (hb hby d13_15) (fun _ _ => ⟨rfl, e3, (by decide : 0 + 0 ≤ _), (by decide : 0 + 0 ≤ _)⟩)
  dsimp only [Pt.U, Pt.locs, Pt.cells, Pt.slots] at X4 l4 y4 z4 st4 hQ4
  subst y4 z4
  obtain ⟨rfl, N4q, p4_0, p4_1⟩ := hQ4
  have N4 : Fr n0 L4 := by rw [l4]; exact Fr.app N0 N4q
  have z5 : n0 ≤ T4.heap.size := Nat.le_trans Z0 p4_0.1
  have K6 : Keep h0 T4.heap [a3] := K0.trans p4_0 (allS (Or.inl (List.mem_of_getElem? (i := 0) rfl)) all0)
  obtain ⟨fs, hr, hrun, hended, hW, hsame⟩ := X4.leave (v := none) (fun _ => rfl)
  refine ⟨_, _, ?_, hrun, hended, _, _, rfl, ?_, ⟨_, rfl⟩, hW, hsame.mono (by decide) (by decide)⟩
  · show Steps p.tables e below (T2.setTop (mkF m 10 #[vr a1, vi (0 : Int32), vr a3] [(.int (0 : Int32)), (.ref P)])) _
    refine XS.aloadN X2.here hx rfl (hb hby d13_10) rfl rfl ?_
    refine st3 _ ?_
    refine XS.aloadN X3.here hx rfl (hb hby d13_14) rfl rfl ?_
    refine st4 _ ?_
    exact X4.returnOut hx Bd.returns (hb hby d13_18) hr
  · show Qget0 Z a1 a3 B P kP k3 fP g h0 n0 _ T4.heap _
    exact ⟨rfl, N4, K6, p4_1⟩
theorem ef_rmget1 (m : MethodId) (a1 : Addr) (a3 : Addr) : entryFrame m #[(.ref a1), (.int (1 : Int32)), (.ref a3)] 3 = mkF m 0 #[vr a1, vi (1 : Int32), vr a3] [] := by first | (simp [entryFrame, mkF, argsToLocals, Value.category]; done) | rfl
def Qget1 (Z : State) (a1 : Addr) (a3 : Addr) (B : Int32) (P : Addr) (kP : ClassId) (k3 : ClassId) (fP : Nat → Int64) (g : Nat → Int32) (h0 : Heap) (n0 : Nat) (v : Option Value) (h : Heap) (L : List Loc) : Prop := v = none ∧ Fr n0 L ∧ Keep h0 h [a3] ∧ (AV Z h a3 k3 .int 3 (fun i => Value.int ((own_un B (fP (own_W B).toNatClampNeg) (fP ((own_W B) + (1 : Int32)).toNatClampNeg)) i)))
set_option maxRecDepth 65536 in
set_option maxHeartbeats 40000000 in
theorem rmget1 (l : Launch) (Z : State) (a0 : Array Value) (hw : ∀ d ∈ tables_1, d.before a0 Z = true) (ws : List Jvm.Cond) (a1 : Addr) (a3 : Addr) (B : Int32) (P : Addr) (kP : ClassId) (k3 : ClassId) (fP : Nat → Int64) (g : Nat → Int32) (h0 : Heap) (n0 : Nat) (Z0 : n0 ≤ h0.size) (F_bits_a1 : Fld Z h0 a1 "com/example/always_over_paths/alwaysoverpaths/explicit/MarkingTable" "bits" "I" (.int B)) (F_words_a1 : Fld Z h0 a1 "com/example/always_over_paths/alwaysoverpaths/explicit/MarkingTable" "words" "I" (.int (own_W B))) (F_packed_a1 : Fld Z h0 a1 "com/example/always_over_paths/alwaysoverpaths/explicit/MarkingTable" "packed" "[J" (.ref P)) (A_P : AV Z h0 P kP .long (16 * (own_W B).toNatClampNeg) (fun i => Value.long (fP i))) (A_a3 : AV Z h0 a3 k3 .int 3 (fun i => Value.int (g i))) (ne_P_a3 : P ≠ a3) (ne_a1_a3 : a1 ≠ a3) (g_a3 : n0 ≤ a3) (hB : own_B B) :
    MetFree l (⟨"com/example/always_over_paths/alwaysoverpaths/explicit/MarkingTable", "get", "(I[I)V"⟩ : MethodName) (head1 (Jvm.Cond.code (⟨"com/example/always_over_paths/alwaysoverpaths/explicit/MarkingTable", "get", "(I[I)V"⟩ : MethodName) prog_21_method_4_code 3 none :: ws) ({ frames := 1, cells := 0, slots := 0, locals := 22 } : Room)) (fun a U => a = #[(.ref a1), (.int (1 : Int32)), (.ref a3)] ∧ Z.Warmed39 U.vm ∧ U.heap = h0) (fun _ _ _ _ _ => True) (fun _ U o U' => ∃ v L, o = .returned v ∧ Qget1 Z a1 a3 B P kP k3 fP g h0 n0 v U'.heap L ∧ FrameEnd U o U' L ({ frames := 1, cells := 0, slots := 0, locals := 22 } : Room).cells ({ frames := 1, cells := 0, slots := 0, locals := 22 } : Room).slots) := by
  refine MetFree.of_bodySF (plainFor_of_name pn_1) hisR ?_
  intro p e s m args below meth c s₁ Bd hml0 hP hK
  obtain ⟨rfl, hZ, hh⟩ := hP
  have hx := Bd.exec
  have hby := Bd.bytes
  have hml : c.maxLocals = 3 := hml0
  have hown : s.vm.findClass "com/example/always_over_paths/alwaysoverpaths/explicit/MarkingTable" = some m.cls := findClass_of_methodNamed Bd.named
  have hnm := (name_of_methodNamed Bd.named Bd.method).1
  have X0 : Stand p l e ({ frames := 1, cells := 0, slots := 0, locals := 22 } : Room) s m #[(.ref a1), (.int (1 : Int32)), (.ref a3)] below meth c s₁ [] 0 0 := Stand.of_body Bd
  have e0 : s₁.heap = h0 := by rw [← hh, Bd.state]; rfl
  have N0 := Fr.nil n0
  show GoalS p.tables e below s ({ frames := 1, cells := 0, slots := 0, locals := 22 } : Room).cells ({ frames := 1, cells := 0, slots := 0, locals := 22 } : Room).slots (Qget1 Z a1 a3 B P kP k3 fP g h0 n0) (s₁.setTop (entryFrame m #[(.ref a1), (.int (1 : Int32)), (.ref a3)] 3))
  refine GoalS.lift (B := s₁.setTop (mkF m 0 #[vr a1, vi (1 : Int32), vr a3] [])) (fun t k => castTop (ef_rmget1 m a1 a3) k) ?_
  have K0 : Keep h0 h0 [a3] := Keep.refl _ _
  obtain ⟨T1, X1, e1, st1⟩ := getF X0 hx hZ hown (host := "") (Or.inl (hw _ (List.mem_of_getElem? (i := 25) rfl))) Via.refl e0 F_packed_a1 (g := (mkF m 1 #[vr a1, vi (1 : Int32), vr a3] [(.ref a1)])) rfl rfl (hb hby d13_1)
  obtain ⟨T2, X2, e2, st2⟩ := getF X1 hx hZ hown (host := "") (Or.inl (hw _ (List.mem_of_getElem? (i := 22) rfl))) Via.refl e1 F_words_a1 (g := (mkF m 6 #[vr a1, vi (1 : Int32), vr a3] [(.ref a1), (.int (1 : Int32)), (.ref P)])) rfl rfl (hb hby d13_6)
  refine GoalS.lift (B := (T2.setTop (mkF m 10 #[vr a1, vi (1 : Int32), vr a3] [(.int ((1 : Int32) * (own_W B))), (.ref P)]))) (fun t k => ?_) ?_
  · show Steps p.tables e below (s₁.setTop (mkF m 0 #[vr a1, vi (1 : Int32), vr a3] [])) _
    refine XS.aloadN X0.here hx rfl (hb hby d13_0) rfl rfl ?_
    refine st1 _ ?_
    refine XS.iloadN X1.here hx rfl (hb hby d13_4) rfl ?_
    refine XS.aloadN X1.here hx rfl (hb hby d13_5) rfl rfl ?_
    refine st2 _ ?_
    refine XS.imul X2.here hx rfl (hb hby d13_9) rfl ?_
    exact k
  refine GoalS.lift (B := (T2.setTop (mkF m 10 #[vr a1, vi (1 : Int32), vr a3] [(.int (own_W B)), (.ref P)]))) (fun t k => by rw [Int32.one_mul]; exact k) ?_
  obtain ⟨T3, X3, e3, st3⟩ := getF X2 hx hZ hown (host := "") (Or.inl (hw _ (List.mem_of_getElem? (i := 13) rfl))) Via.refl e2 F_bits_a1 (g := (mkF m 11 #[vr a1, vi (1 : Int32), vr a3] [(.ref a1), (.int (own_W B)), (.ref P)])) rfl rfl (hb hby d13_11)
  obtain ⟨_, _, ⟨T4, L4, k4, n4⟩, -, X4, ⟨Lc4, hQ4, l4, y4, z4⟩, st4⟩ := Jvm.LawKit.callS X3 hx (y := (⟨"com/example/always_over_paths/alwaysoverpaths/explicit/MarkingTable", "unpack", "([JII[I)V"⟩ : MethodName)) hown (mvT hZ (hw _ (List.mem_of_getElem? (i := 78) rfl))) (mvT hZ (hw _ (List.mem_of_getElem? (i := 79) rfl))) (mvT hZ (hw _ (List.mem_of_getElem? (i := 4) rfl))) (mvT hZ (hw _ (List.mem_of_getElem? (i := 80) rfl))) (by decide) (backOf (W := 0) (rmun l Z a0 hw [] P (own_W B) B a3 kP k3 fP g (16 * (own_W B).toNatClampNeg) h0 n0 Z0 A_P A_a3 ne_P_a3 g_a3 hB (own_gi1 B) (fun _ => own_gi3 B)) hZ (hw _ (List.mem_of_getElem? (i := 80) rfl)) (hw _ (List.mem_of_getElem? (i := 4) rfl)) (by decide) (by decide)) (g := (mkF m 15 #[vr a1, vi (1 : Int32), vr a3] [(.ref a3), (.int B), (.int (own_W B)), (.ref P)])) rfl (by rw [hml]; rfl) (argsL := [(.ref P), (.int (own_W B)), (.int B), (.ref a3)]) (rest := []) (lenOf pd_1 rfl) rfl (by show 2 * 0 + _ ≤ _; exact Nat.le_of_eq rfl) (hb hby d13_15) (fun _ _ => ⟨rfl, e3, (by decide : 0 + 0 ≤ _), (by decide : 0 + 0 ≤ _)⟩)
  dsimp only [Pt.U, Pt.locs, Pt.cells, Pt.slots] at X4 l4 y4 z4 st4 hQ4
  subst y4 z4
  obtain ⟨rfl, N4q, p4_0, p4_1⟩ := hQ4
  have N4 : Fr n0 L4 := by rw [l4]; exact Fr.app N0 N4q
  have z5 : n0 ≤ T4.heap.size := Nat.le_trans Z0 p4_0.1
  have K6 : Keep h0 T4.heap [a3] := K0.trans p4_0 (allS (Or.inl (List.mem_of_getElem? (i := 0) rfl)) all0)
  obtain ⟨fs, hr, hrun, hended, hW, hsame⟩ := X4.leave (v := none) (fun _ => rfl)
  refine ⟨_, _, ?_, hrun, hended, _, _, rfl, ?_, ⟨_, rfl⟩, hW, hsame.mono (by decide) (by decide)⟩
  · show Steps p.tables e below (T2.setTop (mkF m 10 #[vr a1, vi (1 : Int32), vr a3] [(.int (own_W B)), (.ref P)])) _
    refine XS.aloadN X2.here hx rfl (hb hby d13_10) rfl rfl ?_
    refine st3 _ ?_
    refine XS.aloadN X3.here hx rfl (hb hby d13_14) rfl rfl ?_
    refine st4 _ ?_
    exact X4.returnOut hx Bd.returns (hb hby d13_18) hr
  · show Qget1 Z a1 a3 B P kP k3 fP g h0 n0 _ T4.heap _
    exact ⟨rfl, N4, K6, p4_1⟩
theorem d9_0 : decode prog_21_method_10_code 0 = .ok (.aload_n 0, 1) := by decide +kernel
theorem d9_1 : decode prog_21_method_10_code 1 = .ok (.iload_n 1, 1) := by decide +kernel
theorem d9_2 : decode prog_21_method_10_code 2 = .ok (.newarray .int, 2) := by decide +kernel
theorem d9_4 : decode prog_21_method_10_code 4 = .ok (.putfield 32, 3) := by decide +kernel
theorem d9_7 : decode prog_21_method_10_code 7 = .ok (.iload_n 1, 1) := by decide +kernel
theorem d9_8 : decode prog_21_method_10_code 8 = .ok (.iconst 1, 1) := by decide +kernel
theorem d9_9 : decode prog_21_method_10_code 9 = .ok (.isub, 1) := by decide +kernel
theorem d9_10 : decode prog_21_method_10_code 10 = .ok (.istore_n 2, 1) := by decide +kernel
theorem d9_11 : decode prog_21_method_10_code 11 = .ok (.iconst 0, 1) := by decide +kernel
theorem d9_12 : decode prog_21_method_10_code 12 = .ok (.istore_n 3, 1) := by decide +kernel
theorem d9_13 : decode prog_21_method_10_code 13 = .ok (.iload_n 3, 1) := by decide +kernel
theorem d9_14 : decode prog_21_method_10_code 14 = .ok (.aload_n 0, 1) := by decide +kernel
theorem d9_15 : decode prog_21_method_10_code 15 = .ok (.getfield 36, 3) := by decide +kernel
theorem d9_18 : decode prog_21_method_10_code 18 = .ok (.if_icmp .ge 61, 3) := by decide +kernel
theorem d9_79 : decode prog_21_method_10_code 79 = .ok (.return_, 1) := by decide +kernel
theorem ef_rmfs0 (m : MethodId) (a1 : Addr) : entryFrame m #[(.ref a1), (.int (32 : Int32))] 5 = mkF m 0 #[vr a1, vi (32 : Int32), .unset, .unset, .unset] [] := by first | (simp [entryFrame, mkF, argsToLocals, Value.category]; done) | rfl
def Qfs0 (Z : State) (a1 : Addr) (B : Int32) (P : Addr) (R : Addr) (S : Addr) (h0 : Heap) (n0 : Nat) (v : Option Value) (h : Heap) (L : List Loc) : Prop := ∃ (S' : Addr), ∃ (kS' : ClassId), v = none ∧ Fr n0 L ∧ Keep h0 h [a1] ∧ h0.size ≤ S' ∧ (Exa Z h a1 "com/example/always_over_paths/alwaysoverpaths/explicit/MarkingTable") ∧ (Fld Z h a1 "com/example/always_over_paths/alwaysoverpaths/explicit/MarkingTable" "places" "I" (.int (3 : Int32))) ∧ (Fld Z h a1 "com/example/always_over_paths/alwaysoverpaths/explicit/MarkingTable" "bits" "I" (.int B)) ∧ (Fld Z h a1 "com/example/always_over_paths/alwaysoverpaths/explicit/MarkingTable" "words" "I" (.int (own_W B))) ∧ (Fld Z h a1 "com/example/always_over_paths/alwaysoverpaths/explicit/MarkingTable" "packed" "[J" (.ref P)) ∧ (Fld Z h a1 "com/example/always_over_paths/alwaysoverpaths/explicit/MarkingTable" "probe" "[J" (.ref R)) ∧ (Fld Z h a1 "com/example/always_over_paths/alwaysoverpaths/explicit/MarkingTable" "size" "I" (.int (0 : Int32))) ∧ (Fld Z h a1 "com/example/always_over_paths/alwaysoverpaths/explicit/MarkingTable" "slots" "[I" (.ref S')) ∧ (AV Z h S' kS' .int 32 (fun i => Value.int ((fun _ => (0 : Int32)) i)))
set_option maxRecDepth 65536 in
set_option maxHeartbeats 40000000 in
theorem rmfs0 (l : Launch) (Z : State) (a0 : Array Value) (hw : ∀ d ∈ tables_1, d.before a0 Z = true) (ws : List Jvm.Cond) (a1 : Addr) (B : Int32) (P : Addr) (R : Addr) (S : Addr) (h0 : Heap) (n0 : Nat) (Z0 : n0 ≤ h0.size) (E_a1 : Exa Z h0 a1 "com/example/always_over_paths/alwaysoverpaths/explicit/MarkingTable") (F_places_a1 : Fld Z h0 a1 "com/example/always_over_paths/alwaysoverpaths/explicit/MarkingTable" "places" "I" (.int (3 : Int32))) (F_bits_a1 : Fld Z h0 a1 "com/example/always_over_paths/alwaysoverpaths/explicit/MarkingTable" "bits" "I" (.int B)) (F_words_a1 : Fld Z h0 a1 "com/example/always_over_paths/alwaysoverpaths/explicit/MarkingTable" "words" "I" (.int (own_W B))) (F_packed_a1 : Fld Z h0 a1 "com/example/always_over_paths/alwaysoverpaths/explicit/MarkingTable" "packed" "[J" (.ref P)) (F_probe_a1 : Fld Z h0 a1 "com/example/always_over_paths/alwaysoverpaths/explicit/MarkingTable" "probe" "[J" (.ref R)) (F_size_a1 : Fld Z h0 a1 "com/example/always_over_paths/alwaysoverpaths/explicit/MarkingTable" "size" "I" (.int (0 : Int32))) (F_slots_a1 : Fld Z h0 a1 "com/example/always_over_paths/alwaysoverpaths/explicit/MarkingTable" "slots" "[I" (.ref S)) (g_a1 : n0 ≤ a1) :
    MetFree l (⟨"com/example/always_over_paths/alwaysoverpaths/explicit/MarkingTable", "fillSlots", "(I)V"⟩ : MethodName) (head1 (Jvm.Cond.code (⟨"com/example/always_over_paths/alwaysoverpaths/explicit/MarkingTable", "fillSlots", "(I)V"⟩ : MethodName) prog_21_method_10_code 5 none :: ws) ({ frames := 0, cells := 1, slots := 32, locals := 0 } : Room)) (fun a U => a = #[(.ref a1), (.int (32 : Int32))] ∧ Z.Warmed39 U.vm ∧ U.heap = h0) (fun _ _ _ _ _ => True) (fun _ U o U' => ∃ v L, o = .returned v ∧ Qfs0 Z a1 B P R S h0 n0 v U'.heap L ∧ FrameEnd U o U' L ({ frames := 0, cells := 1, slots := 32, locals := 0 } : Room).cells ({ frames := 0, cells := 1, slots := 32, locals := 0 } : Room).slots) := by
  refine MetFree.of_bodySF (plainFor_of_name pn_1) hisR ?_
  intro p e s m args below meth c s₁ Bd hml0 hP hK
  obtain ⟨rfl, hZ, hh⟩ := hP
  have hx := Bd.exec
  have hby := Bd.bytes
  have hml : c.maxLocals = 5 := hml0
  have hown : s.vm.findClass "com/example/always_over_paths/alwaysoverpaths/explicit/MarkingTable" = some m.cls := findClass_of_methodNamed Bd.named
  have hnm := (name_of_methodNamed Bd.named Bd.method).1
  have X0 : Stand p l e ({ frames := 0, cells := 1, slots := 32, locals := 0 } : Room) s m #[(.ref a1), (.int (32 : Int32))] below meth c s₁ [] 0 0 := Stand.of_body Bd
  have e0 : s₁.heap = h0 := by rw [← hh, Bd.state]; rfl
  have N0 := Fr.nil n0
  show GoalS p.tables e below s ({ frames := 0, cells := 1, slots := 32, locals := 0 } : Room).cells ({ frames := 0, cells := 1, slots := 32, locals := 0 } : Room).slots (Qfs0 Z a1 B P R S h0 n0) (s₁.setTop (entryFrame m #[(.ref a1), (.int (32 : Int32))] 5))
  refine GoalS.lift (B := s₁.setTop (mkF m 0 #[vr a1, vi (32 : Int32), .unset, .unset, .unset] [])) (fun t k => castTop (ef_rmfs0 m a1) k) ?_
  have K0 : Keep h0 h0 [a1] := Keep.refl _ _
  obtain ⟨T1, h1, k1, X1, e1, E1, A1, st1⟩ := newP X0 hx hZ (hw _ (List.mem_of_getElem? (i := 0) rfl)) e0 (g := (mkF m 2 #[vr a1, vi (32 : Int32), .unset, .unset, .unset] [(.int (32 : Int32)), (.ref a1)])) rfl (hb hby d9_2) rfl (by decide) (cap := 32) (by decide) (by decide) (by decide) (by decide)
  obtain ⟨b1, g1⟩ : ∃ z, z = h0.size := ⟨_, rfl⟩
  rw [← g1] at A1 st1
  have g_b1 : n0 ≤ b1 := Nat.le_trans Z0 (Nat.le_of_eq g1.symm)
  have sz_b1 : h0.size ≤ b1 := Nat.le_trans K0.1 (Nat.le_of_eq g1.symm)
  have ne_a1_b1 : a1 ≠ b1 := Nat.ne_of_lt (Nat.lt_of_lt_of_le E_a1.lt (Nat.le_of_eq g1.symm))
  have z2 : n0 ≤ h1.size := Nat.le_trans Z0 E1.1
  have K3 : Keep h0 h1 [a1] := K0.ext E1
  have V1 : AV Z h1 b1 k1 .int 32 (fun i => Value.int ((fun _ => (0 : Int32)) i)) := AV.new A1 (by decide) (by decide) (by decide)
  have f4 : Fld Z h1 a1 "com/example/always_over_paths/alwaysoverpaths/explicit/MarkingTable" "slots" "[I" (.ref S) := (F_slots_a1.ext E1)
  have f5 : Exa Z h1 a1 "com/example/always_over_paths/alwaysoverpaths/explicit/MarkingTable" := (E_a1.ext E1)
  obtain ⟨T6, h6, X6, e6, W6, st6⟩ := putF X1 hx hZ hown (host := "") (Or.inl (hw _ (List.mem_of_getElem? (i := 29) rfl))) Via.refl e1 f4 f5 (Or.inl (hw _ (List.mem_of_getElem? (i := 30) rfl))) (hw _ (List.mem_of_getElem? (i := 3) rfl)) (ty := (.array .int)) (by decide) rfl rfl (g := (mkF m 4 #[vr a1, vi (32 : Int32), .unset, .unset, .unset] [(.ref b1), (.ref a1)])) rfl rfl (hb hby d9_4)
  have z7 : n0 ≤ h6.size := Nat.le_trans z2 (Keep.of_wr W6).1
  have K8 : Keep h0 h6 [a1] := K3.wr W6 (Or.inl (List.mem_of_getElem? (i := 0) rfl))
  have Fw6 : Fld Z h6 a1 "com/example/always_over_paths/alwaysoverpaths/explicit/MarkingTable" "slots" "[I" (.ref b1) := f4.same W6
  have N6 := Fr.snoc X6 N0 g_a1
  have f9 : Fld Z h6 a1 "com/example/always_over_paths/alwaysoverpaths/explicit/MarkingTable" "size" "I" (.int (0 : Int32)) := ((F_size_a1.ext E1).other W6 (Or.inr (slot_ne (Or.inl (hw _ (List.mem_of_getElem? (i := 47) rfl))) (Or.inl (hw _ (List.mem_of_getElem? (i := 30) rfl))) (by decide) (t := .int) (t' := (.array .int)) (by decide) (by decide))))
  obtain ⟨T10, X10, e10, st10⟩ := getF X6 hx hZ hown (host := "") (Or.inl (hw _ (List.mem_of_getElem? (i := 46) rfl))) Via.refl e6 f9 (g := (mkF m 15 #[vr a1, vi (32 : Int32), vi (31 : Int32), vi (0 : Int32), .unset] [(.ref a1), (.int (0 : Int32))])) rfl rfl (hb hby d9_15)
  obtain ⟨fs, hr, hrun, hended, hW, hsame⟩ := X10.leave (v := none) (fun _ => rfl)
  refine ⟨_, _, ?_, hrun, hended, _, _, rfl, ?_, ⟨_, rfl⟩, hW, hsame.mono (by decide) (by decide)⟩
  · show Steps p.tables e below (s₁.setTop (mkF m 0 #[vr a1, vi (32 : Int32), .unset, .unset, .unset] [])) _
    refine XS.aloadN X0.here hx rfl (hb hby d9_0) rfl rfl ?_
    refine XS.iloadN X0.here hx rfl (hb hby d9_1) rfl ?_
    refine st1 _ ?_
    refine st6 _ ?_
    refine XS.iloadN X6.here hx rfl (hb hby d9_7) rfl ?_
    refine XS.iconst X6.here hx rfl (hb hby d9_8) ?_
    show Steps p.tables e below (T6.setTop (mkF m 9 #[vr a1, vi (32 : Int32), .unset, .unset, .unset] [(.int (1 : Int32)), (.int (32 : Int32))])) _
    refine XS.isub X6.here hx rfl (hb hby d9_9) rfl ?_
    refine XS.istoreN X6.here hx rfl (hb hby d9_10) rfl (l' := #[vr a1, vi (32 : Int32), vi (31 : Int32), .unset, .unset]) rfl ?_
    refine XS.iconst X6.here hx rfl (hb hby d9_11) ?_
    refine XS.istoreN X6.here hx rfl (hb hby d9_12) rfl (l' := #[vr a1, vi (32 : Int32), vi (31 : Int32), vi (0 : Int32), .unset]) rfl ?_
    refine XS.iloadN X6.here hx rfl (hb hby d9_13) rfl ?_
    refine XS.aloadN X6.here hx rfl (hb hby d9_14) rfl rfl ?_
    show Steps p.tables e below (T6.setTop (mkF m 15 #[vr a1, vi (32 : Int32), vi (31 : Int32), vi (0 : Int32), .unset] [(.ref a1), (.int (0 : Int32))])) _
    refine st10 _ ?_
    refine XS.icmpYes X10.here hx rfl (pc0 := 18) (pc' := 79) rfl (hb hby d9_18) rfl ((flt (by decide : ¬ ((0 : Int32) < (0 : Int32)))).2.1) (by decide) (by decide) ?_
    exact X10.returnOut hx Bd.returns (hb hby d9_79) hr
  · have f11 : Exa Z h6 a1 "com/example/always_over_paths/alwaysoverpaths/explicit/MarkingTable" := (f5.wr W6)
    have f12 : Fld Z h6 a1 "com/example/always_over_paths/alwaysoverpaths/explicit/MarkingTable" "places" "I" (.int (3 : Int32)) := ((F_places_a1.ext E1).other W6 (Or.inr (slot_ne (Or.inr (hw _ (List.mem_of_getElem? (i := 12) rfl))) (Or.inl (hw _ (List.mem_of_getElem? (i := 30) rfl))) (by decide) (t := .int) (t' := (.array .int)) (by decide) (by decide))))
    have f13 : Fld Z h6 a1 "com/example/always_over_paths/alwaysoverpaths/explicit/MarkingTable" "bits" "I" (.int B) := ((F_bits_a1.ext E1).other W6 (Or.inr (slot_ne (Or.inl (hw _ (List.mem_of_getElem? (i := 14) rfl))) (Or.inl (hw _ (List.mem_of_getElem? (i := 30) rfl))) (by decide) (t := .int) (t' := (.array .int)) (by decide) (by decide))))
    have f14 : Fld Z h6 a1 "com/example/always_over_paths/alwaysoverpaths/explicit/MarkingTable" "words" "I" (.int (own_W B)) := ((F_words_a1.ext E1).other W6 (Or.inr (slot_ne (Or.inl (hw _ (List.mem_of_getElem? (i := 23) rfl))) (Or.inl (hw _ (List.mem_of_getElem? (i := 30) rfl))) (by decide) (t := .int) (t' := (.array .int)) (by decide) (by decide))))
    have f15 : Fld Z h6 a1 "com/example/always_over_paths/alwaysoverpaths/explicit/MarkingTable" "packed" "[J" (.ref P) := ((F_packed_a1.ext E1).other W6 (Or.inr (slot_ne (Or.inl (hw _ (List.mem_of_getElem? (i := 26) rfl))) (Or.inl (hw _ (List.mem_of_getElem? (i := 30) rfl))) (by decide) (t := (.array .long)) (t' := (.array .int)) (by decide) (by decide))))
    have f16 : Fld Z h6 a1 "com/example/always_over_paths/alwaysoverpaths/explicit/MarkingTable" "probe" "[J" (.ref R) := ((F_probe_a1.ext E1).other W6 (Or.inr (slot_ne (Or.inl (hw _ (List.mem_of_getElem? (i := 28) rfl))) (Or.inl (hw _ (List.mem_of_getElem? (i := 30) rfl))) (by decide) (t := (.array .long)) (t' := (.array .int)) (by decide) (by decide))))
    have f17 : AV Z h6 b1 k1 .int 32 (fun i => Value.int ((fun _ => (0 : Int32)) i)) := (V1.other W6 (Ne.symm ne_a1_b1))
    show Qfs0 Z a1 B P R S h0 n0 _ T10.heap _
    rw [e10]
    exact ⟨b1, k1, rfl, N6, K8, sz_b1, f11, f12, f13, f14, f15, f16, f9, Fw6, f17⟩
theorem d9_21 : decode prog_21_method_10_code 21 = .ok (.aload_n 0, 1) := by decide +kernel
theorem d9_22 : decode prog_21_method_10_code 22 = .ok (.getfield 25, 3) := by decide +kernel
theorem d9_25 : decode prog_21_method_10_code 25 = .ok (.iload_n 3, 1) := by decide +kernel
theorem d9_26 : decode prog_21_method_10_code 26 = .ok (.aload_n 0, 1) := by decide +kernel
theorem d9_27 : decode prog_21_method_10_code 27 = .ok (.getfield 22, 3) := by decide +kernel
theorem d9_30 : decode prog_21_method_10_code 30 = .ok (.imul, 1) := by decide +kernel
theorem d9_31 : decode prog_21_method_10_code 31 = .ok (.aload_n 0, 1) := by decide +kernel
theorem d9_32 : decode prog_21_method_10_code 32 = .ok (.getfield 22, 3) := by decide +kernel
theorem d9_35 : decode prog_21_method_10_code 35 = .ok (.invokestatic 59, 3) := by decide +kernel
theorem d9_38 : decode prog_21_method_10_code 38 = .ok (.iload_n 2, 1) := by decide +kernel
theorem d9_39 : decode prog_21_method_10_code 39 = .ok (.iand, 1) := by decide +kernel
theorem d9_40 : decode prog_21_method_10_code 40 = .ok (.istore 4, 2) := by decide +kernel
theorem d9_42 : decode prog_21_method_10_code 42 = .ok (.aload_n 0, 1) := by decide +kernel
theorem d9_43 : decode prog_21_method_10_code 43 = .ok (.getfield 32, 3) := by decide +kernel
theorem d9_46 : decode prog_21_method_10_code 46 = .ok (.iload 4, 2) := by decide +kernel
theorem d9_48 : decode prog_21_method_10_code 48 = .ok (.iaload, 1) := by decide +kernel
theorem d9_49 : decode prog_21_method_10_code 49 = .ok (.ifCond .eq 14, 3) := by decide +kernel
theorem d9_63 : decode prog_21_method_10_code 63 = .ok (.aload_n 0, 1) := by decide +kernel
theorem d9_64 : decode prog_21_method_10_code 64 = .ok (.getfield 32, 3) := by decide +kernel
theorem d9_67 : decode prog_21_method_10_code 67 = .ok (.iload 4, 2) := by decide +kernel
theorem d9_69 : decode prog_21_method_10_code 69 = .ok (.iload_n 3, 1) := by decide +kernel
theorem d9_70 : decode prog_21_method_10_code 70 = .ok (.iconst 1, 1) := by decide +kernel
theorem d9_71 : decode prog_21_method_10_code 71 = .ok (.iadd, 1) := by decide +kernel
theorem d9_72 : decode prog_21_method_10_code 72 = .ok (.iastore, 1) := by decide +kernel
theorem d9_73 : decode prog_21_method_10_code 73 = .ok (.iinc 3 1, 3) := by decide +kernel
theorem d9_76 : decode prog_21_method_10_code 76 = .ok (.goto (-63), 3) := by decide +kernel
theorem pd_2 : parseMethodDescriptor "([JII)I" = some ⟨[(.array .long), .int, .int], some .int⟩ := by decide +kernel
theorem ef_rmfs1 (m : MethodId) (a1 : Addr) : entryFrame m #[(.ref a1), (.int (32 : Int32))] 5 = mkF m 0 #[vr a1, vi (32 : Int32), .unset, .unset, .unset] [] := by first | (simp [entryFrame, mkF, argsToLocals, Value.category]; done) | rfl
def Qfs1 (Z : State) (a1 : Addr) (B : Int32) (P : Addr) (R : Addr) (S : Addr) (kP : ClassId) (fP : Nat → Int64) (x0 : Int32) (x1 : Int32) (x2 : Int32) (h0 : Heap) (n0 : Nat) (v : Option Value) (h : Heap) (L : List Loc) : Prop := ∃ (S' : Addr), ∃ (kS' : ClassId), v = none ∧ Fr n0 L ∧ Keep h0 h [a1] ∧ h0.size ≤ S' ∧ (Exa Z h a1 "com/example/always_over_paths/alwaysoverpaths/explicit/MarkingTable") ∧ (Fld Z h a1 "com/example/always_over_paths/alwaysoverpaths/explicit/MarkingTable" "places" "I" (.int (3 : Int32))) ∧ (Fld Z h a1 "com/example/always_over_paths/alwaysoverpaths/explicit/MarkingTable" "bits" "I" (.int B)) ∧ (Fld Z h a1 "com/example/always_over_paths/alwaysoverpaths/explicit/MarkingTable" "words" "I" (.int (own_W B))) ∧ (Fld Z h a1 "com/example/always_over_paths/alwaysoverpaths/explicit/MarkingTable" "packed" "[J" (.ref P)) ∧ (Fld Z h a1 "com/example/always_over_paths/alwaysoverpaths/explicit/MarkingTable" "probe" "[J" (.ref R)) ∧ (Fld Z h a1 "com/example/always_over_paths/alwaysoverpaths/explicit/MarkingTable" "size" "I" (.int (1 : Int32))) ∧ (Fld Z h a1 "com/example/always_over_paths/alwaysoverpaths/explicit/MarkingTable" "slots" "[I" (.ref S')) ∧ (AV Z h S' kS' .int 32 (fun i => Value.int ((updI (fun _ => (0 : Int32)) (own_sl B x0 x1 x2).toNatClampNeg (1 : Int32)) i)))
set_option maxRecDepth 65536 in
set_option maxHeartbeats 40000000 in
theorem rmfs1 (l : Launch) (Z : State) (a0 : Array Value) (hw : ∀ d ∈ tables_1, d.before a0 Z = true) (ws : List Jvm.Cond) (a1 : Addr) (B : Int32) (P : Addr) (R : Addr) (S : Addr) (kP : ClassId) (fP : Nat → Int64) (x0 : Int32) (x1 : Int32) (x2 : Int32) (h0 : Heap) (n0 : Nat) (Z0 : n0 ≤ h0.size) (E_a1 : Exa Z h0 a1 "com/example/always_over_paths/alwaysoverpaths/explicit/MarkingTable") (F_places_a1 : Fld Z h0 a1 "com/example/always_over_paths/alwaysoverpaths/explicit/MarkingTable" "places" "I" (.int (3 : Int32))) (F_bits_a1 : Fld Z h0 a1 "com/example/always_over_paths/alwaysoverpaths/explicit/MarkingTable" "bits" "I" (.int B)) (F_words_a1 : Fld Z h0 a1 "com/example/always_over_paths/alwaysoverpaths/explicit/MarkingTable" "words" "I" (.int (own_W B))) (F_packed_a1 : Fld Z h0 a1 "com/example/always_over_paths/alwaysoverpaths/explicit/MarkingTable" "packed" "[J" (.ref P)) (F_probe_a1 : Fld Z h0 a1 "com/example/always_over_paths/alwaysoverpaths/explicit/MarkingTable" "probe" "[J" (.ref R)) (F_size_a1 : Fld Z h0 a1 "com/example/always_over_paths/alwaysoverpaths/explicit/MarkingTable" "size" "I" (.int (1 : Int32))) (F_slots_a1 : Fld Z h0 a1 "com/example/always_over_paths/alwaysoverpaths/explicit/MarkingTable" "slots" "[I" (.ref S)) (A_P : AV Z h0 P kP .long (16 * (own_W B).toNatClampNeg) (fun i => Value.long (fP i))) (g_a1 : n0 ≤ a1) (ne_a1_P : a1 ≠ P) (hxw : own_pw B x0 x1 x2 fP 0) :
    MetFree l (⟨"com/example/always_over_paths/alwaysoverpaths/explicit/MarkingTable", "fillSlots", "(I)V"⟩ : MethodName) (head1 (Jvm.Cond.code (⟨"com/example/always_over_paths/alwaysoverpaths/explicit/MarkingTable", "fillSlots", "(I)V"⟩ : MethodName) prog_21_method_10_code 5 none :: ws) ({ frames := 1, cells := 1, slots := 32, locals := 17 } : Room)) (fun a U => a = #[(.ref a1), (.int (32 : Int32))] ∧ Z.Warmed39 U.vm ∧ U.heap = h0) (fun _ _ _ _ _ => True) (fun _ U o U' => ∃ v L, o = .returned v ∧ Qfs1 Z a1 B P R S kP fP x0 x1 x2 h0 n0 v U'.heap L ∧ FrameEnd U o U' L ({ frames := 1, cells := 1, slots := 32, locals := 17 } : Room).cells ({ frames := 1, cells := 1, slots := 32, locals := 17 } : Room).slots) := by
  refine MetFree.of_bodySF (plainFor_of_name pn_1) hisR ?_
  intro p e s m args below meth c s₁ Bd hml0 hP hK
  obtain ⟨rfl, hZ, hh⟩ := hP
  have hx := Bd.exec
  have hby := Bd.bytes
  have hml : c.maxLocals = 5 := hml0
  have hown : s.vm.findClass "com/example/always_over_paths/alwaysoverpaths/explicit/MarkingTable" = some m.cls := findClass_of_methodNamed Bd.named
  have hnm := (name_of_methodNamed Bd.named Bd.method).1
  have X0 : Stand p l e ({ frames := 1, cells := 1, slots := 32, locals := 17 } : Room) s m #[(.ref a1), (.int (32 : Int32))] below meth c s₁ [] 0 0 := Stand.of_body Bd
  have e0 : s₁.heap = h0 := by rw [← hh, Bd.state]; rfl
  have N0 := Fr.nil n0
  show GoalS p.tables e below s ({ frames := 1, cells := 1, slots := 32, locals := 17 } : Room).cells ({ frames := 1, cells := 1, slots := 32, locals := 17 } : Room).slots (Qfs1 Z a1 B P R S kP fP x0 x1 x2 h0 n0) (s₁.setTop (entryFrame m #[(.ref a1), (.int (32 : Int32))] 5))
  refine GoalS.lift (B := s₁.setTop (mkF m 0 #[vr a1, vi (32 : Int32), .unset, .unset, .unset] [])) (fun t k => castTop (ef_rmfs1 m a1) k) ?_
  have K0 : Keep h0 h0 [a1] := Keep.refl _ _
  obtain ⟨T1, h1, k1, X1, e1, E1, A1, st1⟩ := newP X0 hx hZ (hw _ (List.mem_of_getElem? (i := 0) rfl)) e0 (g := (mkF m 2 #[vr a1, vi (32 : Int32), .unset, .unset, .unset] [(.int (32 : Int32)), (.ref a1)])) rfl (hb hby d9_2) rfl (by decide) (cap := 32) (by decide) (by decide) (by decide) (by decide)
  obtain ⟨b1, g1⟩ : ∃ z, z = h0.size := ⟨_, rfl⟩
  rw [← g1] at A1 st1
  have g_b1 : n0 ≤ b1 := Nat.le_trans Z0 (Nat.le_of_eq g1.symm)
  have sz_b1 : h0.size ≤ b1 := Nat.le_trans K0.1 (Nat.le_of_eq g1.symm)
  have ne_a1_b1 : a1 ≠ b1 := Nat.ne_of_lt (Nat.lt_of_lt_of_le E_a1.lt (Nat.le_of_eq g1.symm))
  have ne_P_b1 : P ≠ b1 := Nat.ne_of_lt (Nat.lt_of_lt_of_le A_P.lt (Nat.le_of_eq g1.symm))
  have z2 : n0 ≤ h1.size := Nat.le_trans Z0 E1.1
  have K3 : Keep h0 h1 [a1] := K0.ext E1
  have V1 : AV Z h1 b1 k1 .int 32 (fun i => Value.int ((fun _ => (0 : Int32)) i)) := AV.new A1 (by decide) (by decide) (by decide)
  have f4 : Fld Z h1 a1 "com/example/always_over_paths/alwaysoverpaths/explicit/MarkingTable" "slots" "[I" (.ref S) := (F_slots_a1.ext E1)
  have f5 : Exa Z h1 a1 "com/example/always_over_paths/alwaysoverpaths/explicit/MarkingTable" := (E_a1.ext E1)
  obtain ⟨T6, h6, X6, e6, W6, st6⟩ := putF X1 hx hZ hown (host := "") (Or.inl (hw _ (List.mem_of_getElem? (i := 29) rfl))) Via.refl e1 f4 f5 (Or.inl (hw _ (List.mem_of_getElem? (i := 30) rfl))) (hw _ (List.mem_of_getElem? (i := 3) rfl)) (ty := (.array .int)) (by decide) rfl rfl (g := (mkF m 4 #[vr a1, vi (32 : Int32), .unset, .unset, .unset] [(.ref b1), (.ref a1)])) rfl rfl (hb hby d9_4)
  have z7 : n0 ≤ h6.size := Nat.le_trans z2 (Keep.of_wr W6).1
  have K8 : Keep h0 h6 [a1] := K3.wr W6 (Or.inl (List.mem_of_getElem? (i := 0) rfl))
  have Fw6 : Fld Z h6 a1 "com/example/always_over_paths/alwaysoverpaths/explicit/MarkingTable" "slots" "[I" (.ref b1) := f4.same W6
  have N6 := Fr.snoc X6 N0 g_a1
  have f9 : Fld Z h6 a1 "com/example/always_over_paths/alwaysoverpaths/explicit/MarkingTable" "size" "I" (.int (1 : Int32)) := ((F_size_a1.ext E1).other W6 (Or.inr (slot_ne (Or.inl (hw _ (List.mem_of_getElem? (i := 47) rfl))) (Or.inl (hw _ (List.mem_of_getElem? (i := 30) rfl))) (by decide) (t := .int) (t' := (.array .int)) (by decide) (by decide))))
  obtain ⟨T10, X10, e10, st10⟩ := getF X6 hx hZ hown (host := "") (Or.inl (hw _ (List.mem_of_getElem? (i := 46) rfl))) Via.refl e6 f9 (g := (mkF m 15 #[vr a1, vi (32 : Int32), vi (31 : Int32), vi (0 : Int32), .unset] [(.ref a1), (.int (0 : Int32))])) rfl rfl (hb hby d9_15)
  have f11 : Fld Z h6 a1 "com/example/always_over_paths/alwaysoverpaths/explicit/MarkingTable" "packed" "[J" (.ref P) := ((F_packed_a1.ext E1).other W6 (Or.inr (slot_ne (Or.inl (hw _ (List.mem_of_getElem? (i := 26) rfl))) (Or.inl (hw _ (List.mem_of_getElem? (i := 30) rfl))) (by decide) (t := (.array .long)) (t' := (.array .int)) (by decide) (by decide))))
  obtain ⟨T12, X12, e12, st12⟩ := getF X10 hx hZ hown (host := "") (Or.inl (hw _ (List.mem_of_getElem? (i := 25) rfl))) Via.refl e10 f11 (g := (mkF m 22 #[vr a1, vi (32 : Int32), vi (31 : Int32), vi (0 : Int32), .unset] [(.ref a1)])) rfl rfl (hb hby d9_22)
  have f13 : Fld Z h6 a1 "com/example/always_over_paths/alwaysoverpaths/explicit/MarkingTable" "words" "I" (.int (own_W B)) := ((F_words_a1.ext E1).other W6 (Or.inr (slot_ne (Or.inl (hw _ (List.mem_of_getElem? (i := 23) rfl))) (Or.inl (hw _ (List.mem_of_getElem? (i := 30) rfl))) (by decide) (t := .int) (t' := (.array .int)) (by decide) (by decide))))
  obtain ⟨T14, X14, e14, st14⟩ := getF X12 hx hZ hown (host := "") (Or.inl (hw _ (List.mem_of_getElem? (i := 22) rfl))) Via.refl e12 f13 (g := (mkF m 27 #[vr a1, vi (32 : Int32), vi (31 : Int32), vi (0 : Int32), .unset] [(.ref a1), (.int (0 : Int32)), (.ref P)])) rfl rfl (hb hby d9_27)
  refine GoalS.lift (B := (T14.setTop (mkF m 31 #[vr a1, vi (32 : Int32), vi (31 : Int32), vi (0 : Int32), .unset] [(.int ((0 : Int32) * (own_W B))), (.ref P)]))) (fun t k => ?_) ?_
  · show Steps p.tables e below (s₁.setTop (mkF m 0 #[vr a1, vi (32 : Int32), .unset, .unset, .unset] [])) _
    refine XS.aloadN X0.here hx rfl (hb hby d9_0) rfl rfl ?_
    refine XS.iloadN X0.here hx rfl (hb hby d9_1) rfl ?_
    refine st1 _ ?_
    refine st6 _ ?_
    refine XS.iloadN X6.here hx rfl (hb hby d9_7) rfl ?_
    refine XS.iconst X6.here hx rfl (hb hby d9_8) ?_
    show Steps p.tables e below (T6.setTop (mkF m 9 #[vr a1, vi (32 : Int32), .unset, .unset, .unset] [(.int (1 : Int32)), (.int (32 : Int32))])) _
    refine XS.isub X6.here hx rfl (hb hby d9_9) rfl ?_
    refine XS.istoreN X6.here hx rfl (hb hby d9_10) rfl (l' := #[vr a1, vi (32 : Int32), vi (31 : Int32), .unset, .unset]) rfl ?_
    refine XS.iconst X6.here hx rfl (hb hby d9_11) ?_
    refine XS.istoreN X6.here hx rfl (hb hby d9_12) rfl (l' := #[vr a1, vi (32 : Int32), vi (31 : Int32), vi (0 : Int32), .unset]) rfl ?_
    refine XS.iloadN X6.here hx rfl (hb hby d9_13) rfl ?_
    refine XS.aloadN X6.here hx rfl (hb hby d9_14) rfl rfl ?_
    show Steps p.tables e below (T6.setTop (mkF m 15 #[vr a1, vi (32 : Int32), vi (31 : Int32), vi (0 : Int32), .unset] [(.ref a1), (.int (0 : Int32))])) _
    refine st10 _ ?_
    refine XS.icmpNo X10.here hx rfl (hb hby d9_18) rfl ((tlt (by decide : (0 : Int32) < (1 : Int32))).2.1) ?_
    refine XS.aloadN X10.here hx rfl (hb hby d9_21) rfl rfl ?_
    refine st12 _ ?_
    refine XS.iloadN X12.here hx rfl (hb hby d9_25) rfl ?_
    refine XS.aloadN X12.here hx rfl (hb hby d9_26) rfl rfl ?_
    show Steps p.tables e below (T12.setTop (mkF m 27 #[vr a1, vi (32 : Int32), vi (31 : Int32), vi (0 : Int32), .unset] [(.ref a1), (.int (0 : Int32)), (.ref P)])) _
    refine st14 _ ?_
    refine XS.imul X14.here hx rfl (hb hby d9_30) rfl ?_
    exact k
  refine GoalS.lift (B := (T14.setTop (mkF m 31 #[vr a1, vi (32 : Int32), vi (31 : Int32), vi (0 : Int32), .unset] [(.int (0 : Int32)), (.ref P)]))) (fun t k => by rw [Int32.zero_mul]; exact k) ?_
  obtain ⟨T15, X15, e15, st15⟩ := getF X14 hx hZ hown (host := "") (Or.inl (hw _ (List.mem_of_getElem? (i := 22) rfl))) Via.refl e14 f13 (g := (mkF m 32 #[vr a1, vi (32 : Int32), vi (31 : Int32), vi (0 : Int32), .unset] [(.ref a1), (.int (0 : Int32)), (.ref P)])) rfl rfl (hb hby d9_32)
  have f17 : AV Z h6 P kP .long (16 * (own_W B).toNatClampNeg) (fun i => Value.long (fP i)) := ((A_P.ext E1).other W6 (Ne.symm ne_a1_P))
  obtain ⟨_, _, ⟨T16, L16, k16, n16⟩, -, X16, ⟨Lc16, hQ16, l16, y16, z16⟩, st16⟩ := Jvm.LawKit.callS X15 hx (y := (⟨"com/example/always_over_paths/alwaysoverpaths/explicit/MarkingTable", "hash", "([JII)I"⟩ : MethodName)) hown (mvT hZ (hw _ (List.mem_of_getElem? (i := 59) rfl))) (mvT hZ (hw _ (List.mem_of_getElem? (i := 60) rfl))) (mvT hZ (hw _ (List.mem_of_getElem? (i := 4) rfl))) (mvT hZ (hw _ (List.mem_of_getElem? (i := 61) rfl))) (by decide) (backOf (W := 0) (rmh l Z a0 hw [] P (own_W B) kP fP (16 * (own_W B).toNatClampNeg) h6 n0 z7 f17 (own_W12 B) (show (own_W B).toNatClampNeg ≤ (16 * (own_W B).toNatClampNeg) by omega)) hZ (hw _ (List.mem_of_getElem? (i := 61) rfl)) (hw _ (List.mem_of_getElem? (i := 4) rfl)) (by decide) (by decide)) (g := (mkF m 35 #[vr a1, vi (32 : Int32), vi (31 : Int32), vi (0 : Int32), .unset] [(.int (own_W B)), (.int (0 : Int32)), (.ref P)])) rfl (by rw [hml]; rfl) (argsL := [(.ref P), (.int (0 : Int32)), (.int (own_W B))]) (rest := []) (lenOf pd_2 rfl) rfl (by show 2 * 0 + _ ≤ _; exact Nat.le_of_eq rfl) (hb hby d9_35) (fun _ _ => ⟨rfl, e15, (by decide : 1 + 0 ≤ _), (by decide : 32 + 0 ≤ _)⟩)
  dsimp only [Pt.U, Pt.locs, Pt.cells, Pt.slots] at X16 l16 y16 z16 st16 hQ16
  subst y16 z16
  obtain ⟨rfl, N16q, eq16⟩ := hQ16
  have N16 : Fr n0 L16 := by rw [l16]; exact Fr.app N6 N16q
  refine GoalS.lift (B := (T16.setTop (mkF m 40 #[vr a1, vi (32 : Int32), vi (31 : Int32), vi (0 : Int32), .unset] [(.int ((own_hash (own_W B) (fP 0) (fP 1)) &&& (31 : Int32)))]))) (fun t k => ?_) ?_
  · show Steps p.tables e below (T14.setTop (mkF m 31 #[vr a1, vi (32 : Int32), vi (31 : Int32), vi (0 : Int32), .unset] [(.int (0 : Int32)), (.ref P)])) _
    refine XS.aloadN X14.here hx rfl (hb hby d9_31) rfl rfl ?_
    refine st15 _ ?_
    refine st16 _ ?_
    refine XS.iloadN X16.here hx rfl (hb hby d9_38) rfl ?_
    refine XS.iand X16.here hx rfl (hb hby d9_39) rfl ?_
    exact k
  refine GoalS.lift (B := (T16.setTop (mkF m 40 #[vr a1, vi (32 : Int32), vi (31 : Int32), vi (0 : Int32), .unset] [(.int (own_sl B x0 x1 x2))]))) (fun t k => by rw [own_hpk hxw]; exact k) ?_
  obtain ⟨T18, X18, e18, st18⟩ := getF X16 hx hZ hown (host := "") (Or.inl (hw _ (List.mem_of_getElem? (i := 29) rfl))) Via.refl eq16 Fw6 (g := (mkF m 43 #[vr a1, vi (32 : Int32), vi (31 : Int32), vi (0 : Int32), vi (own_sl B x0 x1 x2)] [(.ref a1)])) rfl rfl (hb hby d9_43)
  have f20 : AV Z h6 b1 k1 .int 32 (fun i => Value.int ((fun _ => (0 : Int32)) i)) := (V1.other W6 (Ne.symm ne_a1_b1))
  obtain ⟨cl19, Ar19, kc19, sz19, -, hv19⟩ := id f20
  have hin19 : ¬ ((own_sl B x0 x1 x2) < 0 ∨ cl19.slots.size ≤ ((own_sl B x0 x1 x2)).toNatClampNeg) := AV.inb sz19 (own_slin (own_slr B x0 x1 x2))
  have hat19 : cl19.slots[((own_sl B x0 x1 x2)).toNatClampNeg]? = some (.int (0 : Int32)) := (hv19 _ (AV.inx (own_slin (own_slr B x0 x1 x2)))).trans (congrArg some rfl)
  obtain ⟨T21, X21, e21, st21⟩ := getF X18 hx hZ hown (host := "") (Or.inl (hw _ (List.mem_of_getElem? (i := 29) rfl))) Via.refl e18 Fw6 (g := (mkF m 64 #[vr a1, vi (32 : Int32), vi (31 : Int32), vi (0 : Int32), vi (own_sl B x0 x1 x2)] [(.ref a1)])) rfl rfl (hb hby d9_64)
  obtain ⟨cl22, Ar22, kc22, sz22, -, -⟩ := id f20
  have hin22 : ¬ ((own_sl B x0 x1 x2) < 0 ∨ cl22.slots.size ≤ ((own_sl B x0 x1 x2)).toNatClampNeg) := AV.inb sz22 (own_slin (own_slr B x0 x1 x2))
  obtain ⟨T22, h22, X22, e22, W22, st22⟩ := stI X21 hx hZ e21 Ar22 (j := (own_sl B x0 x1 x2)) hin22 (g := (mkF m 72 #[vr a1, vi (32 : Int32), vi (31 : Int32), vi (0 : Int32), vi (own_sl B x0 x1 x2)] [(.int (1 : Int32)), (.int (own_sl B x0 x1 x2)), (.ref b1)])) rfl rfl (hb hby d9_72)
  have z23 : n0 ≤ h22.size := Nat.le_trans z7 (Keep.of_wr W22).1
  have K24 : Keep h0 h22 [a1] := K8.wr W22 (Or.inr sz_b1)
  have V22 : AV Z h22 b1 k1 .int 32 (fun i => Value.int ((updI (fun _ => (0 : Int32)) ((own_sl B x0 x1 x2)).toNatClampNeg (1 : Int32)) i)) := AV.putI f20 W22 (AV.inx (own_slin (own_slr B x0 x1 x2)))
  have N22 := Fr.snoc X22 N16 g_b1
  have f25 : Fld Z h22 a1 "com/example/always_over_paths/alwaysoverpaths/explicit/MarkingTable" "size" "I" (.int (1 : Int32)) := (f9.other W22 (Or.inl ne_a1_b1))
  obtain ⟨T26, X26, e26, st26⟩ := getF X22 hx hZ hown (host := "") (Or.inl (hw _ (List.mem_of_getElem? (i := 46) rfl))) Via.refl e22 f25 (g := (mkF m 15 #[vr a1, vi (32 : Int32), vi (31 : Int32), vi (1 : Int32), vi (own_sl B x0 x1 x2)] [(.ref a1), (.int (1 : Int32))])) rfl rfl (hb hby d9_15)
  obtain ⟨fs, hr, hrun, hended, hW, hsame⟩ := X26.leave (v := none) (fun _ => rfl)
  refine ⟨_, _, ?_, hrun, hended, _, _, rfl, ?_, ⟨_, rfl⟩, hW, hsame.mono (by decide) (by decide)⟩
  · show Steps p.tables e below (T16.setTop (mkF m 40 #[vr a1, vi (32 : Int32), vi (31 : Int32), vi (0 : Int32), .unset] [(.int (own_sl B x0 x1 x2))])) _
    refine XS.istore X16.here hx rfl (hb hby d9_40) rfl (l' := #[vr a1, vi (32 : Int32), vi (31 : Int32), vi (0 : Int32), vi (own_sl B x0 x1 x2)]) rfl ?_
    refine XS.aloadN X16.here hx rfl (hb hby d9_42) rfl rfl ?_
    refine st18 _ ?_
    refine XS.iload X18.here hx rfl (hb hby d9_46) rfl ?_
    refine X18.iaload hx (j := (own_sl B x0 x1 x2)) (v := (.int (0 : Int32))) (by rw [e18]; exact Ar19.1) (State.isArrayOf_alike hZ.alike Ar19.2.1) Ar19.2.2 hin19 hat19 (g := (mkF m 48 #[vr a1, vi (32 : Int32), vi (31 : Int32), vi (0 : Int32), vi (own_sl B x0 x1 x2)] [(.int (own_sl B x0 x1 x2)), (.ref b1)])) rfl rfl (hb hby d9_48) _ ?_
    refine XS.ifYes X18.here hx rfl (pc0 := 49) (pc' := 63) rfl (hb hby d9_49) rfl ((if0 _ _).trans (teq (by decide : (0 : Int32) = (0 : Int32))).1) (by decide) (by decide) ?_
    show Steps p.tables e below (T18.setTop (mkF m 63 #[vr a1, vi (32 : Int32), vi (31 : Int32), vi (0 : Int32), vi (own_sl B x0 x1 x2)] [])) _
    refine XS.aloadN X18.here hx rfl (hb hby d9_63) rfl rfl ?_
    refine st21 _ ?_
    refine XS.iload X21.here hx rfl (hb hby d9_67) rfl ?_
    refine XS.iloadN X21.here hx rfl (hb hby d9_69) rfl ?_
    refine XS.iconst X21.here hx rfl (hb hby d9_70) ?_
    refine XS.iadd X21.here hx rfl (hb hby d9_71) rfl ?_
    show Steps p.tables e below (T21.setTop (mkF m 72 #[vr a1, vi (32 : Int32), vi (31 : Int32), vi (0 : Int32), vi (own_sl B x0 x1 x2)] [(.int (1 : Int32)), (.int (own_sl B x0 x1 x2)), (.ref b1)])) _
    refine st22 _ ?_
    refine XS.iinc X22.here hx rfl (hb hby d9_73) rfl (l' := #[vr a1, vi (32 : Int32), vi (31 : Int32), vi (1 : Int32), vi (own_sl B x0 x1 x2)]) rfl ?_
    refine XS.goto X22.here hx rfl (pc0 := 76) (pc' := 13) rfl (hb hby d9_76) (by decide) (by decide) ?_
    refine XS.iloadN X22.here hx rfl (hb hby d9_13) rfl ?_
    refine XS.aloadN X22.here hx rfl (hb hby d9_14) rfl rfl ?_
    refine st26 _ ?_
    show Steps p.tables e below (T26.setTop (mkF m 18 #[vr a1, vi (32 : Int32), vi (31 : Int32), vi (1 : Int32), vi (own_sl B x0 x1 x2)] [(.int (1 : Int32)), (.int (1 : Int32))])) _
    refine XS.icmpYes X26.here hx rfl (pc0 := 18) (pc' := 79) rfl (hb hby d9_18) rfl ((flt (by decide : ¬ ((1 : Int32) < (1 : Int32)))).2.1) (by decide) (by decide) ?_
    exact X26.returnOut hx Bd.returns (hb hby d9_79) hr
  · have f27 : Exa Z h22 a1 "com/example/always_over_paths/alwaysoverpaths/explicit/MarkingTable" := ((f5.wr W6).wr W22)
    have f28 : Fld Z h22 a1 "com/example/always_over_paths/alwaysoverpaths/explicit/MarkingTable" "places" "I" (.int (3 : Int32)) := (((F_places_a1.ext E1).other W6 (Or.inr (slot_ne (Or.inr (hw _ (List.mem_of_getElem? (i := 12) rfl))) (Or.inl (hw _ (List.mem_of_getElem? (i := 30) rfl))) (by decide) (t := .int) (t' := (.array .int)) (by decide) (by decide)))).other W22 (Or.inl ne_a1_b1))
    have f29 : Fld Z h22 a1 "com/example/always_over_paths/alwaysoverpaths/explicit/MarkingTable" "bits" "I" (.int B) := (((F_bits_a1.ext E1).other W6 (Or.inr (slot_ne (Or.inl (hw _ (List.mem_of_getElem? (i := 14) rfl))) (Or.inl (hw _ (List.mem_of_getElem? (i := 30) rfl))) (by decide) (t := .int) (t' := (.array .int)) (by decide) (by decide)))).other W22 (Or.inl ne_a1_b1))
    have f30 : Fld Z h22 a1 "com/example/always_over_paths/alwaysoverpaths/explicit/MarkingTable" "words" "I" (.int (own_W B)) := (f13.other W22 (Or.inl ne_a1_b1))
    have f31 : Fld Z h22 a1 "com/example/always_over_paths/alwaysoverpaths/explicit/MarkingTable" "packed" "[J" (.ref P) := (f11.other W22 (Or.inl ne_a1_b1))
    have f32 : Fld Z h22 a1 "com/example/always_over_paths/alwaysoverpaths/explicit/MarkingTable" "probe" "[J" (.ref R) := (((F_probe_a1.ext E1).other W6 (Or.inr (slot_ne (Or.inl (hw _ (List.mem_of_getElem? (i := 28) rfl))) (Or.inl (hw _ (List.mem_of_getElem? (i := 30) rfl))) (by decide) (t := (.array .long)) (t' := (.array .int)) (by decide) (by decide)))).other W22 (Or.inl ne_a1_b1))
    have f33 : Fld Z h22 a1 "com/example/always_over_paths/alwaysoverpaths/explicit/MarkingTable" "slots" "[I" (.ref b1) := (Fw6.other W22 (Or.inl ne_a1_b1))
    show Qfs1 Z a1 B P R S kP fP x0 x1 x2 h0 n0 _ T26.heap _
    rw [e26]
    exact ⟨b1, k1, rfl, N22, K24, sz_b1, f27, f28, f29, f30, f31, f32, f25, f33, V22⟩
theorem d7_0 : decode prog_21_method_8_code 0 = .ok (.aload_n 0, 1) := by decide +kernel
theorem d7_1 : decode prog_21_method_8_code 1 = .ok (.getfield 9, 3) := by decide +kernel
theorem d7_4 : decode prog_21_method_8_code 4 = .ok (.iload_n 1, 1) := by decide +kernel
theorem d7_5 : decode prog_21_method_8_code 5 = .ok (.invokestatic 18, 3) := by decide +kernel
theorem d7_8 : decode prog_21_method_8_code 8 = .ok (.istore_n 2, 1) := by decide +kernel
theorem d7_9 : decode prog_21_method_8_code 9 = .ok (.ldc2_w 108, 3) := by decide +kernel
theorem d7_12 : decode prog_21_method_8_code 12 = .ok (.aload_n 0, 1) := by decide +kernel
theorem d7_13 : decode prog_21_method_8_code 13 = .ok (.getfield 36, 3) := by decide +kernel
theorem d7_16 : decode prog_21_method_8_code 16 = .ok (.i2l, 1) := by decide +kernel
theorem d7_17 : decode prog_21_method_8_code 17 = .ok (.invokestatic 102, 3) := by decide +kernel
theorem d7_20 : decode prog_21_method_8_code 20 = .ok (.iload_n 2, 1) := by decide +kernel
theorem d7_21 : decode prog_21_method_8_code 21 = .ok (.i2l, 1) := by decide +kernel
theorem d7_22 : decode prog_21_method_8_code 22 = .ok (.lmul, 1) := by decide +kernel
theorem d7_23 : decode prog_21_method_8_code 23 = .ok (.lstore_n 3, 1) := by decide +kernel
theorem d7_24 : decode prog_21_method_8_code 24 = .ok (.lload_n 3, 1) := by decide +kernel
theorem d7_25 : decode prog_21_method_8_code 25 = .ok (.ldc2_w 94, 3) := by decide +kernel
theorem d7_28 : decode prog_21_method_8_code 28 = .ok (.lcmp, 1) := by decide +kernel
theorem d7_29 : decode prog_21_method_8_code 29 = .ok (.ifCond .le 8, 3) := by decide +kernel
theorem d7_37 : decode prog_21_method_8_code 37 = .ok (.lload_n 3, 1) := by decide +kernel
theorem d7_38 : decode prog_21_method_8_code 38 = .ok (.l2i, 1) := by decide +kernel
theorem d7_39 : decode prog_21_method_8_code 39 = .ok (.newarray .long, 2) := by decide +kernel
theorem d7_41 : decode prog_21_method_8_code 41 = .ok (.astore 5, 2) := by decide +kernel
theorem d7_43 : decode prog_21_method_8_code 43 = .ok (.aload_n 0, 1) := by decide +kernel
theorem d7_44 : decode prog_21_method_8_code 44 = .ok (.getfield 9, 3) := by decide +kernel
theorem d7_47 : decode prog_21_method_8_code 47 = .ok (.newarray .int, 2) := by decide +kernel
theorem d7_49 : decode prog_21_method_8_code 49 = .ok (.astore 6, 2) := by decide +kernel
theorem d7_51 : decode prog_21_method_8_code 51 = .ok (.iconst 0, 1) := by decide +kernel
theorem d7_52 : decode prog_21_method_8_code 52 = .ok (.istore 7, 2) := by decide +kernel
theorem d7_54 : decode prog_21_method_8_code 54 = .ok (.iload 7, 2) := by decide +kernel
theorem d7_56 : decode prog_21_method_8_code 56 = .ok (.aload_n 0, 1) := by decide +kernel
theorem d7_57 : decode prog_21_method_8_code 57 = .ok (.getfield 36, 3) := by decide +kernel
theorem d7_60 : decode prog_21_method_8_code 60 = .ok (.if_icmp .ge 41, 3) := by decide +kernel
theorem d7_101 : decode prog_21_method_8_code 101 = .ok (.aload_n 0, 1) := by decide +kernel
theorem d7_102 : decode prog_21_method_8_code 102 = .ok (.iload_n 1, 1) := by decide +kernel
theorem d7_103 : decode prog_21_method_8_code 103 = .ok (.putfield 15, 3) := by decide +kernel
theorem d7_106 : decode prog_21_method_8_code 106 = .ok (.aload_n 0, 1) := by decide +kernel
theorem d7_107 : decode prog_21_method_8_code 107 = .ok (.iload_n 2, 1) := by decide +kernel
theorem d7_108 : decode prog_21_method_8_code 108 = .ok (.putfield 22, 3) := by decide +kernel
theorem d7_111 : decode prog_21_method_8_code 111 = .ok (.aload_n 0, 1) := by decide +kernel
theorem d7_112 : decode prog_21_method_8_code 112 = .ok (.aload 5, 2) := by decide +kernel
theorem d7_114 : decode prog_21_method_8_code 114 = .ok (.putfield 25, 3) := by decide +kernel
theorem d7_117 : decode prog_21_method_8_code 117 = .ok (.aload_n 0, 1) := by decide +kernel
theorem d7_118 : decode prog_21_method_8_code 118 = .ok (.iload_n 2, 1) := by decide +kernel
theorem d7_119 : decode prog_21_method_8_code 119 = .ok (.newarray .long, 2) := by decide +kernel
theorem d7_121 : decode prog_21_method_8_code 121 = .ok (.putfield 29, 3) := by decide +kernel
theorem d7_124 : decode prog_21_method_8_code 124 = .ok (.aload_n 0, 1) := by decide +kernel
theorem d7_125 : decode prog_21_method_8_code 125 = .ok (.aload_n 0, 1) := by decide +kernel
theorem d7_126 : decode prog_21_method_8_code 126 = .ok (.getfield 32, 3) := by decide +kernel
theorem d7_129 : decode prog_21_method_8_code 129 = .ok (.arraylength, 1) := by decide +kernel
theorem d7_130 : decode prog_21_method_8_code 130 = .ok (.invokevirtual 110, 3) := by decide +kernel
theorem d7_133 : decode prog_21_method_8_code 133 = .ok (.return_, 1) := by decide +kernel
theorem pd_3 : parseMethodDescriptor "(JJ)J" = some ⟨[.long, .long], some .long⟩ := by decide +kernel
theorem pd_4 : parseMethodDescriptor "(I)V" = some ⟨[.int], none⟩ := by decide +kernel
theorem ef_rmwd0 (m : MethodId) (a1 : Addr) (p2 : Int32) : entryFrame m #[(.ref a1), (.int p2)] 8 = mkF m 0 #[vr a1, vi p2, .unset, .unset, .unset, .unset, .unset, .unset] [] := by first | (simp [entryFrame, mkF, argsToLocals, Value.category]; done) | rfl
def Qwd0 (Z : State) (a1 : Addr) (p2 : Int32) (B : Int32) (P : Addr) (R : Addr) (S : Addr) (kS : ClassId) (fS : Nat → Int32) (h0 : Heap) (n0 : Nat) (v : Option Value) (h : Heap) (L : List Loc) : Prop := ∃ (P' : Addr), ∃ (R' : Addr), ∃ (S' : Addr), ∃ (kP' : ClassId), ∃ (kR' : ClassId), ∃ (kS' : ClassId), v = none ∧ Fr n0 L ∧ Keep h0 h [a1] ∧ h0.size ≤ P' ∧ h0.size ≤ R' ∧ h0.size ≤ S' ∧ P' ≠ R' ∧ P' ≠ S' ∧ R' ≠ S' ∧ (Exa Z h a1 "com/example/always_over_paths/alwaysoverpaths/explicit/MarkingTable") ∧ (Fld Z h a1 "com/example/always_over_paths/alwaysoverpaths/explicit/MarkingTable" "places" "I" (.int (3 : Int32))) ∧ (Fld Z h a1 "com/example/always_over_paths/alwaysoverpaths/explicit/MarkingTable" "bits" "I" (.int p2)) ∧ (Fld Z h a1 "com/example/always_over_paths/alwaysoverpaths/explicit/MarkingTable" "words" "I" (.int (own_W p2))) ∧ (Fld Z h a1 "com/example/always_over_paths/alwaysoverpaths/explicit/MarkingTable" "packed" "[J" (.ref P')) ∧ (Fld Z h a1 "com/example/always_over_paths/alwaysoverpaths/explicit/MarkingTable" "probe" "[J" (.ref R')) ∧ (Fld Z h a1 "com/example/always_over_paths/alwaysoverpaths/explicit/MarkingTable" "size" "I" (.int (0 : Int32))) ∧ (Fld Z h a1 "com/example/always_over_paths/alwaysoverpaths/explicit/MarkingTable" "slots" "[I" (.ref S')) ∧ (AV Z h P' kP' .long (16 * (own_W p2).toNatClampNeg) (fun i => Value.long ((fun _ => (0 : Int64)) i))) ∧ (AV Z h R' kR' .long (own_W p2).toNatClampNeg (fun i => Value.long ((fun _ => (0 : Int64)) i))) ∧ (AV Z h S' kS' .int 32 (fun i => Value.int ((fun _ => (0 : Int32)) i)))
set_option maxRecDepth 65536 in
set_option maxHeartbeats 40000000 in
theorem rmwd0 (l : Launch) (Z : State) (a0 : Array Value) (hw : ∀ d ∈ tables_1, d.before a0 Z = true) (ws : List Jvm.Cond) (a1 : Addr) (p2 : Int32) (B : Int32) (P : Addr) (R : Addr) (S : Addr) (kS : ClassId) (fS : Nat → Int32) (h0 : Heap) (n0 : Nat) (Z0 : n0 ≤ h0.size) (E_a1 : Exa Z h0 a1 "com/example/always_over_paths/alwaysoverpaths/explicit/MarkingTable") (F_places_a1 : Fld Z h0 a1 "com/example/always_over_paths/alwaysoverpaths/explicit/MarkingTable" "places" "I" (.int (3 : Int32))) (F_bits_a1 : Fld Z h0 a1 "com/example/always_over_paths/alwaysoverpaths/explicit/MarkingTable" "bits" "I" (.int B)) (F_words_a1 : Fld Z h0 a1 "com/example/always_over_paths/alwaysoverpaths/explicit/MarkingTable" "words" "I" (.int (own_W B))) (F_packed_a1 : Fld Z h0 a1 "com/example/always_over_paths/alwaysoverpaths/explicit/MarkingTable" "packed" "[J" (.ref P)) (F_probe_a1 : Fld Z h0 a1 "com/example/always_over_paths/alwaysoverpaths/explicit/MarkingTable" "probe" "[J" (.ref R)) (F_size_a1 : Fld Z h0 a1 "com/example/always_over_paths/alwaysoverpaths/explicit/MarkingTable" "size" "I" (.int (0 : Int32))) (F_slots_a1 : Fld Z h0 a1 "com/example/always_over_paths/alwaysoverpaths/explicit/MarkingTable" "slots" "[I" (.ref S)) (A_S : AV Z h0 S kS .int 32 (fun i => Value.int (fS i))) (g_a1 : n0 ≤ a1) (ne_a1_S : a1 ≠ S) (hB : own_B p2) :
    MetFree l (⟨"com/example/always_over_paths/alwaysoverpaths/explicit/MarkingTable", "widen", "(I)V"⟩ : MethodName) (head1 (Jvm.Cond.code (⟨"com/example/always_over_paths/alwaysoverpaths/explicit/MarkingTable", "widen", "(I)V"⟩ : MethodName) prog_21_method_8_code 8 none :: ws) ({ frames := 2, cells := 4, slots := 69, locals := 27 } : Room)) (fun a U => a = #[(.ref a1), (.int p2)] ∧ Z.Warmed39 U.vm ∧ U.heap = h0) (fun _ _ _ _ _ => True) (fun _ U o U' => ∃ v L, o = .returned v ∧ Qwd0 Z a1 p2 B P R S kS fS h0 n0 v U'.heap L ∧ FrameEnd U o U' L ({ frames := 2, cells := 4, slots := 69, locals := 27 } : Room).cells ({ frames := 2, cells := 4, slots := 69, locals := 27 } : Room).slots) := by
  refine MetFree.of_bodySF (plainFor_of_name pn_1) hisR ?_
  intro p e s m args below meth c s₁ Bd hml0 hP hK
  obtain ⟨rfl, hZ, hh⟩ := hP
  have hx := Bd.exec
  have hby := Bd.bytes
  have hml : c.maxLocals = 8 := hml0
  have hown : s.vm.findClass "com/example/always_over_paths/alwaysoverpaths/explicit/MarkingTable" = some m.cls := findClass_of_methodNamed Bd.named
  have hnm := (name_of_methodNamed Bd.named Bd.method).1
  have X0 : Stand p l e ({ frames := 2, cells := 4, slots := 69, locals := 27 } : Room) s m #[(.ref a1), (.int p2)] below meth c s₁ [] 0 0 := Stand.of_body Bd
  have e0 : s₁.heap = h0 := by rw [← hh, Bd.state]; rfl
  have N0 := Fr.nil n0
  show GoalS p.tables e below s ({ frames := 2, cells := 4, slots := 69, locals := 27 } : Room).cells ({ frames := 2, cells := 4, slots := 69, locals := 27 } : Room).slots (Qwd0 Z a1 p2 B P R S kS fS h0 n0) (s₁.setTop (entryFrame m #[(.ref a1), (.int p2)] 8))
  refine GoalS.lift (B := s₁.setTop (mkF m 0 #[vr a1, vi p2, .unset, .unset, .unset, .unset, .unset, .unset] [])) (fun t k => castTop (ef_rmwd0 m a1 p2) k) ?_
  have K0 : Keep h0 h0 [a1] := Keep.refl _ _
  obtain ⟨T1, X1, e1, st1⟩ := getF X0 hx hZ hown (host := "") (Or.inl (hw _ (List.mem_of_getElem? (i := 11) rfl))) Via.refl e0 F_places_a1 (g := (mkF m 1 #[vr a1, vi p2, .unset, .unset, .unset, .unset, .unset, .unset] [(.ref a1)])) rfl rfl (hb hby d7_1)
  obtain ⟨_, _, ⟨T2, L2, k2, n2⟩, -, X2, ⟨Lc2, hQ2, l2, y2, z2⟩, st2⟩ := Jvm.LawKit.callS X1 hx (y := (⟨"com/example/always_over_paths/alwaysoverpaths/explicit/MarkingTable", "wordsFor", "(II)I"⟩ : MethodName)) hown (mvT hZ (hw _ (List.mem_of_getElem? (i := 15) rfl))) (mvT hZ (hw _ (List.mem_of_getElem? (i := 16) rfl))) (mvT hZ (hw _ (List.mem_of_getElem? (i := 4) rfl))) (mvT hZ (hw _ (List.mem_of_getElem? (i := 17) rfl))) (by decide) (backOf (W := 0) (rmwf l Z a0 hw [] p2 h0 n0 Z0 hB) hZ (hw _ (List.mem_of_getElem? (i := 17) rfl)) (hw _ (List.mem_of_getElem? (i := 4) rfl)) (by decide) (by decide)) (g := (mkF m 5 #[vr a1, vi p2, .unset, .unset, .unset, .unset, .unset, .unset] [(.int p2), (.int (3 : Int32))])) rfl (by rw [hml]; rfl) (argsL := [(.int (3 : Int32)), (.int p2)]) (rest := []) (lenOf pd_0 rfl) rfl (by show 2 * 0 + _ ≤ _; exact Nat.le_of_eq rfl) (hb hby d7_5) (fun _ _ => ⟨rfl, e1, (by decide : 0 + 0 ≤ _), (by decide : 0 + 0 ≤ _)⟩)
  dsimp only [Pt.U, Pt.locs, Pt.cells, Pt.slots] at X2 l2 y2 z2 st2 hQ2
  subst y2 z2
  obtain ⟨rfl, N2q, eq2⟩ := hQ2
  have N2 : Fr n0 L2 := by rw [l2]; exact Fr.app N0 N2q
  obtain ⟨T3, X3, e3, st3⟩ := getF X2 hx hZ hown (host := "") (Or.inl (hw _ (List.mem_of_getElem? (i := 46) rfl))) Via.refl eq2 F_size_a1 (g := (mkF m 13 #[vr a1, vi p2, vi (own_W p2), .unset, .unset, .unset, .unset, .unset] [(.ref a1), (.long (16 : Int64))])) rfl rfl (hb hby d7_13)
  obtain ⟨_, _, ⟨T4, L4, k4, n4⟩, -, X4, ⟨Lc4, hQ4, l4, y4, z4⟩, st4⟩ := Jvm.LawKit.callS X3 hx (y := (⟨"java/lang/Math", "max", "(JJ)J"⟩ : MethodName)) hown (mvT hZ (hw _ (List.mem_of_getElem? (i := 48) rfl))) (mvT hZ (hw _ (List.mem_of_getElem? (i := 49) rfl))) (mvT hZ (hw _ (List.mem_of_getElem? (i := 20) rfl))) (mvT hZ (hw _ (List.mem_of_getElem? (i := 50) rfl))) (by decide) (backOf (W := 0) (rmmaxj l Z a0 hw [] (16 : Int64) (((0 : Int32)).toInt64) h0 n0 Z0) hZ (hw _ (List.mem_of_getElem? (i := 50) rfl)) (hw _ (List.mem_of_getElem? (i := 20) rfl)) (by decide) (by decide)) (g := (mkF m 17 #[vr a1, vi p2, vi (own_W p2), .unset, .unset, .unset, .unset, .unset] [(.long (((0 : Int32)).toInt64)), (.long (16 : Int64))])) rfl (by rw [hml]; rfl) (argsL := [(.long (16 : Int64)), (.long (((0 : Int32)).toInt64))]) (rest := []) (lenOf pd_3 rfl) rfl (by show 2 * 0 + _ ≤ _; exact Nat.le_of_eq rfl) (hb hby d7_17) (fun _ _ => ⟨rfl, e3, (by decide : 0 + 0 ≤ _), (by decide : 0 + 0 ≤ _)⟩)
  dsimp only [Pt.U, Pt.locs, Pt.cells, Pt.slots] at X4 l4 y4 z4 st4 hQ4
  subst y4 z4
  obtain ⟨rfl, N4q, eq4⟩ := hQ4
  have N4 : Fr n0 L4 := by rw [l4]; exact Fr.app N2 N4q
  refine GoalS.lift (B := (T4.setTop (mkF m 39 #[vr a1, vi p2, vi (own_W p2), vj ((own_mxj (16 : Int64) (((0 : Int32)).toInt64)) * (((own_W p2)).toInt64)), .second, .unset, .unset, .unset] [(.int ((((own_mxj (16 : Int64) (((0 : Int32)).toInt64)) * (((own_W p2)).toInt64))).toInt32))]))) (fun t k => ?_) ?_
  · show Steps p.tables e below (s₁.setTop (mkF m 0 #[vr a1, vi p2, .unset, .unset, .unset, .unset, .unset, .unset] [])) _
    refine XS.aloadN X0.here hx rfl (hb hby d7_0) rfl rfl ?_
    refine st1 _ ?_
    refine XS.iloadN X1.here hx rfl (hb hby d7_4) rfl ?_
    refine st2 _ ?_
    refine XS.istoreN X2.here hx rfl (hb hby d7_8) rfl (l' := #[vr a1, vi p2, vi (own_W p2), .unset, .unset, .unset, .unset, .unset]) rfl ?_
    refine X2.ldc2Long hx hown (mvT hZ (hw _ (List.mem_of_getElem? (i := 45) rfl))) (g := (mkF m 9 #[vr a1, vi p2, vi (own_W p2), .unset, .unset, .unset, .unset, .unset] [])) rfl (hb hby d7_9) _ ?_
    show Steps p.tables e below (T2.setTop (mkF m 12 #[vr a1, vi p2, vi (own_W p2), .unset, .unset, .unset, .unset, .unset] [(.long (16 : Int64))])) _
    refine XS.aloadN X2.here hx rfl (hb hby d7_12) rfl rfl ?_
    refine st3 _ ?_
    refine XS.i2l X3.here hx rfl (hb hby d7_16) rfl ?_
    refine st4 _ ?_
    refine XS.iloadN X4.here hx rfl (hb hby d7_20) rfl ?_
    refine XS.i2l X4.here hx rfl (hb hby d7_21) rfl ?_
    show Steps p.tables e below (T4.setTop (mkF m 22 #[vr a1, vi p2, vi (own_W p2), .unset, .unset, .unset, .unset, .unset] [(.long (((own_W p2)).toInt64)), (.long (own_mxj (16 : Int64) (((0 : Int32)).toInt64)))])) _
    refine XS.lmul X4.here hx rfl (hb hby d7_22) rfl ?_
    refine XS.lstoreN X4.here hx rfl (hb hby d7_23) rfl (l' := #[vr a1, vi p2, vi (own_W p2), vj ((own_mxj (16 : Int64) (((0 : Int32)).toInt64)) * (((own_W p2)).toInt64)), .second, .unset, .unset, .unset]) rfl ?_
    refine XS.lloadN X4.here hx rfl (hb hby d7_24) rfl ?_
    refine X4.ldc2Long hx hown (mvT hZ (hw _ (List.mem_of_getElem? (i := 51) rfl))) (g := (mkF m 25 #[vr a1, vi p2, vi (own_W p2), vj ((own_mxj (16 : Int64) (((0 : Int32)).toInt64)) * (((own_W p2)).toInt64)), .second, .unset, .unset, .unset] [(.long ((own_mxj (16 : Int64) (((0 : Int32)).toInt64)) * (((own_W p2)).toInt64)))])) rfl (hb hby d7_25) _ ?_
    refine XS.lcmp X4.here hx rfl (hb hby d7_28) rfl ?_
    refine XS.ifYes X4.here hx rfl (pc0 := 29) (pc' := 37) rfl (hb hby d7_29) rfl ((if0 _ _).trans (flt (fun q => (own_lenm (Or.inl rfl) : ¬ ((2147483639 : Int64) < ((own_mxj (16 : Int64) (((0 : Int32)).toInt64)) * (((own_W p2)).toInt64)))) ((lw_gt ((own_mxj (16 : Int64) (((0 : Int32)).toInt64)) * (((own_W p2)).toInt64)) (2147483639 : Int64)).mp q))).2.2.2) (by decide) (by decide) ?_
    show Steps p.tables e below (T4.setTop (mkF m 37 #[vr a1, vi p2, vi (own_W p2), vj ((own_mxj (16 : Int64) (((0 : Int32)).toInt64)) * (((own_W p2)).toInt64)), .second, .unset, .unset, .unset] [])) _
    refine XS.lloadN X4.here hx rfl (hb hby d7_37) rfl ?_
    refine XS.l2i X4.here hx rfl (hb hby d7_38) rfl ?_
    exact k
  refine GoalS.lift (B := (T4.setTop (mkF m 39 #[vr a1, vi p2, vi (own_W p2), vj ((own_mxj (16 : Int64) (((0 : Int32)).toInt64)) * (((own_W p2)).toInt64)), .second, .unset, .unset, .unset] [(.int ((16 : Int32) * (own_W p2)))]))) (fun t k => by rw [own_lenw (Or.inl rfl)]; exact k) ?_
  have hW2_p2 := own_Wle p2
  obtain ⟨T5, h5, k5, X5, e5, E5, A5, st5⟩ := newP X4 hx hZ (hw _ (List.mem_of_getElem? (i := 24) rfl)) eq4 (g := (mkF m 39 #[vr a1, vi p2, vi (own_W p2), vj ((own_mxj (16 : Int64) (((0 : Int32)).toInt64)) * (((own_W p2)).toInt64)), .second, .unset, .unset, .unset] [(.int ((16 : Int32) * (own_W p2)))])) rfl (hb hby d7_39) rfl (own_16neg p2) (cap := 32) (own_16le p2) (by decide) (by decide) (by decide)
  obtain ⟨b5, g5⟩ : ∃ z, z = h0.size := ⟨_, rfl⟩
  rw [← g5] at A5 st5
  have g_b5 : n0 ≤ b5 := Nat.le_trans Z0 (Nat.le_of_eq g5.symm)
  have sz_b5 : h0.size ≤ b5 := Nat.le_trans K0.1 (Nat.le_of_eq g5.symm)
  have ne_a1_b5 : a1 ≠ b5 := Nat.ne_of_lt (Nat.lt_of_lt_of_le E_a1.lt (Nat.le_of_eq g5.symm))
  have ne_S_b5 : S ≠ b5 := Nat.ne_of_lt (Nat.lt_of_lt_of_le A_S.lt (Nat.le_of_eq g5.symm))
  have z6 : n0 ≤ h5.size := Nat.le_trans Z0 E5.1
  have K7 : Keep h0 h5 [a1] := K0.ext E5
  have V5 : AV Z h5 b5 k5 .long (16 * (own_W p2).toNatClampNeg) (fun i => Value.long ((fun _ => (0 : Int64)) i)) := AV.new A5 (own_16neg p2) (own_16nat p2) (by omega)
  have f8 : Fld Z h5 a1 "com/example/always_over_paths/alwaysoverpaths/explicit/MarkingTable" "places" "I" (.int (3 : Int32)) := (F_places_a1.ext E5)
  obtain ⟨T9, X9, e9, st9⟩ := getF X5 hx hZ hown (host := "") (Or.inl (hw _ (List.mem_of_getElem? (i := 11) rfl))) Via.refl e5 f8 (g := (mkF m 44 #[vr a1, vi p2, vi (own_W p2), vj ((own_mxj (16 : Int64) (((0 : Int32)).toInt64)) * (((own_W p2)).toInt64)), .second, vr b5, .unset, .unset] [(.ref a1)])) rfl rfl (hb hby d7_44)
  obtain ⟨T10, h10, k10, X10, e10, E10, A10, st10⟩ := newP X9 hx hZ (hw _ (List.mem_of_getElem? (i := 0) rfl)) e9 (g := (mkF m 47 #[vr a1, vi p2, vi (own_W p2), vj ((own_mxj (16 : Int64) (((0 : Int32)).toInt64)) * (((own_W p2)).toInt64)), .second, vr b5, .unset, .unset] [(.int (3 : Int32))])) rfl (hb hby d7_47) rfl (by decide) (cap := 3) (by decide) (by decide) (by decide) (by decide)
  obtain ⟨b10, g10⟩ : ∃ z, z = h5.size := ⟨_, rfl⟩
  rw [← g10] at A10 st10
  have g_b10 : n0 ≤ b10 := Nat.le_trans z6 (Nat.le_of_eq g10.symm)
  have sz_b10 : h0.size ≤ b10 := Nat.le_trans K7.1 (Nat.le_of_eq g10.symm)
  have f11 : Exa Z h5 a1 "com/example/always_over_paths/alwaysoverpaths/explicit/MarkingTable" := (E_a1.ext E5)
  have ne_a1_b10 : a1 ≠ b10 := Nat.ne_of_lt (Nat.lt_of_lt_of_le f11.lt (Nat.le_of_eq g10.symm))
  have f12 : AV Z h5 S kS .int 32 (fun i => Value.int (fS i)) := (A_S.ext E5)
  have ne_S_b10 : S ≠ b10 := Nat.ne_of_lt (Nat.lt_of_lt_of_le f12.lt (Nat.le_of_eq g10.symm))
  have ne_b5_b10 : b5 ≠ b10 := Nat.ne_of_lt (Nat.lt_of_lt_of_le V5.lt (Nat.le_of_eq g10.symm))
  have z13 : n0 ≤ h10.size := Nat.le_trans z6 E10.1
  have K14 : Keep h0 h10 [a1] := K7.ext E10
  have V10 : AV Z h10 b10 k10 .int 3 (fun i => Value.int ((fun _ => (0 : Int32)) i)) := AV.new A10 (by decide) (by decide) (by decide)
  have f15 : Fld Z h10 a1 "com/example/always_over_paths/alwaysoverpaths/explicit/MarkingTable" "size" "I" (.int (0 : Int32)) := ((F_size_a1.ext E5).ext E10)
  obtain ⟨T16, X16, e16, st16⟩ := getF X10 hx hZ hown (host := "") (Or.inl (hw _ (List.mem_of_getElem? (i := 46) rfl))) Via.refl e10 f15 (g := (mkF m 57 #[vr a1, vi p2, vi (own_W p2), vj ((own_mxj (16 : Int64) (((0 : Int32)).toInt64)) * (((own_W p2)).toInt64)), .second, vr b5, vr b10, vi (0 : Int32)] [(.ref a1), (.int (0 : Int32))])) rfl rfl (hb hby d7_57)
  have f17 : Fld Z h10 a1 "com/example/always_over_paths/alwaysoverpaths/explicit/MarkingTable" "bits" "I" (.int B) := ((F_bits_a1.ext E5).ext E10)
  have f18 : Exa Z h10 a1 "com/example/always_over_paths/alwaysoverpaths/explicit/MarkingTable" := (f11.ext E10)
  obtain ⟨T19, h19, X19, e19, W19, st19⟩ := putF X16 hx hZ hown (host := "") (Or.inl (hw _ (List.mem_of_getElem? (i := 13) rfl))) Via.refl e16 f17 f18 (Or.inl (hw _ (List.mem_of_getElem? (i := 14) rfl))) (hw _ (List.mem_of_getElem? (i := 3) rfl)) (ty := .int) (by decide) rfl rfl (g := (mkF m 103 #[vr a1, vi p2, vi (own_W p2), vj ((own_mxj (16 : Int64) (((0 : Int32)).toInt64)) * (((own_W p2)).toInt64)), .second, vr b5, vr b10, vi (0 : Int32)] [(.int p2), (.ref a1)])) rfl rfl (hb hby d7_103)
  have z20 : n0 ≤ h19.size := Nat.le_trans z13 (Keep.of_wr W19).1
  have K21 : Keep h0 h19 [a1] := K14.wr W19 (Or.inl (List.mem_of_getElem? (i := 0) rfl))
  have Fw19 : Fld Z h19 a1 "com/example/always_over_paths/alwaysoverpaths/explicit/MarkingTable" "bits" "I" (.int p2) := f17.same W19
  have N19 := Fr.snoc X19 N4 g_a1
  have f22 : Fld Z h19 a1 "com/example/always_over_paths/alwaysoverpaths/explicit/MarkingTable" "words" "I" (.int (own_W B)) := (((F_words_a1.ext E5).ext E10).other W19 (Or.inr (slot_ne (Or.inl (hw _ (List.mem_of_getElem? (i := 23) rfl))) (Or.inl (hw _ (List.mem_of_getElem? (i := 14) rfl))) (by decide) (t := .int) (t' := .int) (by decide) (by decide))))
  have f23 : Exa Z h19 a1 "com/example/always_over_paths/alwaysoverpaths/explicit/MarkingTable" := (f18.wr W19)
  obtain ⟨T24, h24, X24, e24, W24, st24⟩ := putF X19 hx hZ hown (host := "") (Or.inl (hw _ (List.mem_of_getElem? (i := 22) rfl))) Via.refl e19 f22 f23 (Or.inl (hw _ (List.mem_of_getElem? (i := 23) rfl))) (hw _ (List.mem_of_getElem? (i := 3) rfl)) (ty := .int) (by decide) rfl rfl (g := (mkF m 108 #[vr a1, vi p2, vi (own_W p2), vj ((own_mxj (16 : Int64) (((0 : Int32)).toInt64)) * (((own_W p2)).toInt64)), .second, vr b5, vr b10, vi (0 : Int32)] [(.int (own_W p2)), (.ref a1)])) rfl rfl (hb hby d7_108)
  have z25 : n0 ≤ h24.size := Nat.le_trans z20 (Keep.of_wr W24).1
  have K26 : Keep h0 h24 [a1] := K21.wr W24 (Or.inl (List.mem_of_getElem? (i := 0) rfl))
  have Fw24 : Fld Z h24 a1 "com/example/always_over_paths/alwaysoverpaths/explicit/MarkingTable" "words" "I" (.int (own_W p2)) := f22.same W24
  have N24 := Fr.snoc X24 N19 g_a1
  have f27 : Fld Z h24 a1 "com/example/always_over_paths/alwaysoverpaths/explicit/MarkingTable" "packed" "[J" (.ref P) := ((((F_packed_a1.ext E5).ext E10).other W19 (Or.inr (slot_ne (Or.inl (hw _ (List.mem_of_getElem? (i := 26) rfl))) (Or.inl (hw _ (List.mem_of_getElem? (i := 14) rfl))) (by decide) (t := (.array .long)) (t' := .int) (by decide) (by decide)))).other W24 (Or.inr (slot_ne (Or.inl (hw _ (List.mem_of_getElem? (i := 26) rfl))) (Or.inl (hw _ (List.mem_of_getElem? (i := 23) rfl))) (by decide) (t := (.array .long)) (t' := .int) (by decide) (by decide))))
  have f28 : Exa Z h24 a1 "com/example/always_over_paths/alwaysoverpaths/explicit/MarkingTable" := (f23.wr W24)
  obtain ⟨T29, h29, X29, e29, W29, st29⟩ := putF X24 hx hZ hown (host := "") (Or.inl (hw _ (List.mem_of_getElem? (i := 25) rfl))) Via.refl e24 f27 f28 (Or.inl (hw _ (List.mem_of_getElem? (i := 26) rfl))) (hw _ (List.mem_of_getElem? (i := 3) rfl)) (ty := (.array .long)) (by decide) rfl rfl (g := (mkF m 114 #[vr a1, vi p2, vi (own_W p2), vj ((own_mxj (16 : Int64) (((0 : Int32)).toInt64)) * (((own_W p2)).toInt64)), .second, vr b5, vr b10, vi (0 : Int32)] [(.ref b5), (.ref a1)])) rfl rfl (hb hby d7_114)
  have z30 : n0 ≤ h29.size := Nat.le_trans z25 (Keep.of_wr W29).1
  have K31 : Keep h0 h29 [a1] := K26.wr W29 (Or.inl (List.mem_of_getElem? (i := 0) rfl))
  have Fw29 : Fld Z h29 a1 "com/example/always_over_paths/alwaysoverpaths/explicit/MarkingTable" "packed" "[J" (.ref b5) := f27.same W29
  have N29 := Fr.snoc X29 N24 g_a1
  have hW2'_p2 := own_Wle p2
  obtain ⟨T32, h32, k32, X32, e32, E32, A32, st32⟩ := newP X29 hx hZ (hw _ (List.mem_of_getElem? (i := 24) rfl)) e29 (g := (mkF m 119 #[vr a1, vi p2, vi (own_W p2), vj ((own_mxj (16 : Int64) (((0 : Int32)).toInt64)) * (((own_W p2)).toInt64)), .second, vr b5, vr b10, vi (0 : Int32)] [(.int (own_W p2)), (.ref a1)])) rfl (hb hby d7_119) rfl (own_Wneg p2) (cap := 2) (own_Wle p2) (by decide) (by decide) (by decide)
  obtain ⟨b32, g32⟩ : ∃ z, z = h29.size := ⟨_, rfl⟩
  rw [← g32] at A32 st32
  have g_b32 : n0 ≤ b32 := Nat.le_trans z30 (Nat.le_of_eq g32.symm)
  have sz_b32 : h0.size ≤ b32 := Nat.le_trans K31.1 (Nat.le_of_eq g32.symm)
  have f33 : Exa Z h29 a1 "com/example/always_over_paths/alwaysoverpaths/explicit/MarkingTable" := (f28.wr W29)
  have ne_a1_b32 : a1 ≠ b32 := Nat.ne_of_lt (Nat.lt_of_lt_of_le f33.lt (Nat.le_of_eq g32.symm))
  have f34 : AV Z h29 S kS .int 32 (fun i => Value.int (fS i)) := ((((f12.ext E10).other W19 (Ne.symm ne_a1_S)).other W24 (Ne.symm ne_a1_S)).other W29 (Ne.symm ne_a1_S))
  have ne_S_b32 : S ≠ b32 := Nat.ne_of_lt (Nat.lt_of_lt_of_le f34.lt (Nat.le_of_eq g32.symm))
  have f35 : AV Z h29 b5 k5 .long (16 * (own_W p2).toNatClampNeg) (fun i => Value.long ((fun _ => (0 : Int64)) i)) := ((((V5.ext E10).other W19 (Ne.symm ne_a1_b5)).other W24 (Ne.symm ne_a1_b5)).other W29 (Ne.symm ne_a1_b5))
  have ne_b5_b32 : b5 ≠ b32 := Nat.ne_of_lt (Nat.lt_of_lt_of_le f35.lt (Nat.le_of_eq g32.symm))
  have f36 : AV Z h29 b10 k10 .int 3 (fun i => Value.int ((fun _ => (0 : Int32)) i)) := (((V10.other W19 (Ne.symm ne_a1_b10)).other W24 (Ne.symm ne_a1_b10)).other W29 (Ne.symm ne_a1_b10))
  have ne_b10_b32 : b10 ≠ b32 := Nat.ne_of_lt (Nat.lt_of_lt_of_le f36.lt (Nat.le_of_eq g32.symm))
  have z37 : n0 ≤ h32.size := Nat.le_trans z30 E32.1
  have K38 : Keep h0 h32 [a1] := K31.ext E32
  have V32 : AV Z h32 b32 k32 .long (own_W p2).toNatClampNeg (fun i => Value.long ((fun _ => (0 : Int64)) i)) := AV.new A32 (own_Wneg p2) (Eq.refl _) (by omega)
  have f39 : Fld Z h32 a1 "com/example/always_over_paths/alwaysoverpaths/explicit/MarkingTable" "probe" "[J" (.ref R) := ((((((F_probe_a1.ext E5).ext E10).other W19 (Or.inr (slot_ne (Or.inl (hw _ (List.mem_of_getElem? (i := 28) rfl))) (Or.inl (hw _ (List.mem_of_getElem? (i := 14) rfl))) (by decide) (t := (.array .long)) (t' := .int) (by decide) (by decide)))).other W24 (Or.inr (slot_ne (Or.inl (hw _ (List.mem_of_getElem? (i := 28) rfl))) (Or.inl (hw _ (List.mem_of_getElem? (i := 23) rfl))) (by decide) (t := (.array .long)) (t' := .int) (by decide) (by decide)))).other W29 (Or.inr (slot_ne (Or.inl (hw _ (List.mem_of_getElem? (i := 28) rfl))) (Or.inl (hw _ (List.mem_of_getElem? (i := 26) rfl))) (by decide) (t := (.array .long)) (t' := (.array .long)) (by decide) (by decide)))).ext E32)
  have f40 : Exa Z h32 a1 "com/example/always_over_paths/alwaysoverpaths/explicit/MarkingTable" := (f33.ext E32)
  obtain ⟨T41, h41, X41, e41, W41, st41⟩ := putF X32 hx hZ hown (host := "") (Or.inl (hw _ (List.mem_of_getElem? (i := 27) rfl))) Via.refl e32 f39 f40 (Or.inl (hw _ (List.mem_of_getElem? (i := 28) rfl))) (hw _ (List.mem_of_getElem? (i := 3) rfl)) (ty := (.array .long)) (by decide) rfl rfl (g := (mkF m 121 #[vr a1, vi p2, vi (own_W p2), vj ((own_mxj (16 : Int64) (((0 : Int32)).toInt64)) * (((own_W p2)).toInt64)), .second, vr b5, vr b10, vi (0 : Int32)] [(.ref b32), (.ref a1)])) rfl rfl (hb hby d7_121)
  have z42 : n0 ≤ h41.size := Nat.le_trans z37 (Keep.of_wr W41).1
  have K43 : Keep h0 h41 [a1] := K38.wr W41 (Or.inl (List.mem_of_getElem? (i := 0) rfl))
  have Fw41 : Fld Z h41 a1 "com/example/always_over_paths/alwaysoverpaths/explicit/MarkingTable" "probe" "[J" (.ref b32) := f39.same W41
  have N41 := Fr.snoc X41 N29 g_a1
  have f44 : Fld Z h41 a1 "com/example/always_over_paths/alwaysoverpaths/explicit/MarkingTable" "slots" "[I" (.ref S) := (((((((F_slots_a1.ext E5).ext E10).other W19 (Or.inr (slot_ne (Or.inl (hw _ (List.mem_of_getElem? (i := 30) rfl))) (Or.inl (hw _ (List.mem_of_getElem? (i := 14) rfl))) (by decide) (t := (.array .int)) (t' := .int) (by decide) (by decide)))).other W24 (Or.inr (slot_ne (Or.inl (hw _ (List.mem_of_getElem? (i := 30) rfl))) (Or.inl (hw _ (List.mem_of_getElem? (i := 23) rfl))) (by decide) (t := (.array .int)) (t' := .int) (by decide) (by decide)))).other W29 (Or.inr (slot_ne (Or.inl (hw _ (List.mem_of_getElem? (i := 30) rfl))) (Or.inl (hw _ (List.mem_of_getElem? (i := 26) rfl))) (by decide) (t := (.array .int)) (t' := (.array .long)) (by decide) (by decide)))).ext E32).other W41 (Or.inr (slot_ne (Or.inl (hw _ (List.mem_of_getElem? (i := 30) rfl))) (Or.inl (hw _ (List.mem_of_getElem? (i := 28) rfl))) (by decide) (t := (.array .int)) (t' := (.array .long)) (by decide) (by decide))))
  obtain ⟨T45, X45, e45, st45⟩ := getF X41 hx hZ hown (host := "") (Or.inl (hw _ (List.mem_of_getElem? (i := 29) rfl))) Via.refl e41 f44 (g := (mkF m 126 #[vr a1, vi p2, vi (own_W p2), vj ((own_mxj (16 : Int64) (((0 : Int32)).toInt64)) * (((own_W p2)).toInt64)), .second, vr b5, vr b10, vi (0 : Int32)] [(.ref a1), (.ref a1)])) rfl rfl (hb hby d7_126)
  have f47 : AV Z h41 S kS .int 32 (fun i => Value.int (fS i)) := ((f34.ext E32).other W41 (Ne.symm ne_a1_S))
  obtain ⟨cl46, Ar46, -, sz46, -, -⟩ := id f47
  have le46 : cl46.slots.size.toInt32 = (32 : Int32) := by rw [sz46]; exact rfl
  have f49 : Exa Z h41 a1 "com/example/always_over_paths/alwaysoverpaths/explicit/MarkingTable" := (f40.wr W41)
  have f50 : Fld Z h41 a1 "com/example/always_over_paths/alwaysoverpaths/explicit/MarkingTable" "places" "I" (.int (3 : Int32)) := ((((((f8.ext E10).other W19 (Or.inr (slot_ne (Or.inr (hw _ (List.mem_of_getElem? (i := 12) rfl))) (Or.inl (hw _ (List.mem_of_getElem? (i := 14) rfl))) (by decide) (t := .int) (t' := .int) (by decide) (by decide)))).other W24 (Or.inr (slot_ne (Or.inr (hw _ (List.mem_of_getElem? (i := 12) rfl))) (Or.inl (hw _ (List.mem_of_getElem? (i := 23) rfl))) (by decide) (t := .int) (t' := .int) (by decide) (by decide)))).other W29 (Or.inr (slot_ne (Or.inr (hw _ (List.mem_of_getElem? (i := 12) rfl))) (Or.inl (hw _ (List.mem_of_getElem? (i := 26) rfl))) (by decide) (t := .int) (t' := (.array .long)) (by decide) (by decide)))).ext E32).other W41 (Or.inr (slot_ne (Or.inr (hw _ (List.mem_of_getElem? (i := 12) rfl))) (Or.inl (hw _ (List.mem_of_getElem? (i := 28) rfl))) (by decide) (t := .int) (t' := (.array .long)) (by decide) (by decide))))
  have f51 : Fld Z h41 a1 "com/example/always_over_paths/alwaysoverpaths/explicit/MarkingTable" "bits" "I" (.int p2) := ((((Fw19.other W24 (Or.inr (slot_ne (Or.inl (hw _ (List.mem_of_getElem? (i := 14) rfl))) (Or.inl (hw _ (List.mem_of_getElem? (i := 23) rfl))) (by decide) (t := .int) (t' := .int) (by decide) (by decide)))).other W29 (Or.inr (slot_ne (Or.inl (hw _ (List.mem_of_getElem? (i := 14) rfl))) (Or.inl (hw _ (List.mem_of_getElem? (i := 26) rfl))) (by decide) (t := .int) (t' := (.array .long)) (by decide) (by decide)))).ext E32).other W41 (Or.inr (slot_ne (Or.inl (hw _ (List.mem_of_getElem? (i := 14) rfl))) (Or.inl (hw _ (List.mem_of_getElem? (i := 28) rfl))) (by decide) (t := .int) (t' := (.array .long)) (by decide) (by decide))))
  have f52 : Fld Z h41 a1 "com/example/always_over_paths/alwaysoverpaths/explicit/MarkingTable" "words" "I" (.int (own_W p2)) := (((Fw24.other W29 (Or.inr (slot_ne (Or.inl (hw _ (List.mem_of_getElem? (i := 23) rfl))) (Or.inl (hw _ (List.mem_of_getElem? (i := 26) rfl))) (by decide) (t := .int) (t' := (.array .long)) (by decide) (by decide)))).ext E32).other W41 (Or.inr (slot_ne (Or.inl (hw _ (List.mem_of_getElem? (i := 23) rfl))) (Or.inl (hw _ (List.mem_of_getElem? (i := 28) rfl))) (by decide) (t := .int) (t' := (.array .long)) (by decide) (by decide))))
  have f53 : Fld Z h41 a1 "com/example/always_over_paths/alwaysoverpaths/explicit/MarkingTable" "packed" "[J" (.ref b5) := ((Fw29.ext E32).other W41 (Or.inr (slot_ne (Or.inl (hw _ (List.mem_of_getElem? (i := 26) rfl))) (Or.inl (hw _ (List.mem_of_getElem? (i := 28) rfl))) (by decide) (t := (.array .long)) (t' := (.array .long)) (by decide) (by decide))))
  have f54 : Fld Z h41 a1 "com/example/always_over_paths/alwaysoverpaths/explicit/MarkingTable" "size" "I" (.int (0 : Int32)) := (((((f15.other W19 (Or.inr (slot_ne (Or.inl (hw _ (List.mem_of_getElem? (i := 47) rfl))) (Or.inl (hw _ (List.mem_of_getElem? (i := 14) rfl))) (by decide) (t := .int) (t' := .int) (by decide) (by decide)))).other W24 (Or.inr (slot_ne (Or.inl (hw _ (List.mem_of_getElem? (i := 47) rfl))) (Or.inl (hw _ (List.mem_of_getElem? (i := 23) rfl))) (by decide) (t := .int) (t' := .int) (by decide) (by decide)))).other W29 (Or.inr (slot_ne (Or.inl (hw _ (List.mem_of_getElem? (i := 47) rfl))) (Or.inl (hw _ (List.mem_of_getElem? (i := 26) rfl))) (by decide) (t := .int) (t' := (.array .long)) (by decide) (by decide)))).ext E32).other W41 (Or.inr (slot_ne (Or.inl (hw _ (List.mem_of_getElem? (i := 47) rfl))) (Or.inl (hw _ (List.mem_of_getElem? (i := 28) rfl))) (by decide) (t := .int) (t' := (.array .long)) (by decide) (by decide))))
  obtain ⟨cq48, q48, q48'⟩ := f49.cell
  obtain ⟨_, _, ⟨T48, L48, k48, n48⟩, -, X48, ⟨Lc48, hQ48, l48, y48, z48⟩, st48⟩ := X45.privateBack hx (y := (⟨"com/example/always_over_paths/alwaysoverpaths/explicit/MarkingTable", "fillSlots", "(I)V"⟩ : MethodName)) hown (mvT hZ (hw _ (List.mem_of_getElem? (i := 52) rfl))) (mvT hZ (hw _ (List.mem_of_getElem? (i := 53) rfl))) (own_selp (y := (⟨"com/example/always_over_paths/alwaysoverpaths/explicit/MarkingTable", "fillSlots", "(I)V"⟩ : MethodName)) (mvT hZ (hw _ (List.mem_of_getElem? (i := 3) rfl))) (mvP hZ (hw _ (List.mem_of_getElem? (i := 54) rfl))) (mvT hZ (hw _ (List.mem_of_getElem? (i := 53) rfl))) (by decide)) (Cond.privateMethod_at (mvP hZ (hw _ (List.mem_of_getElem? (i := 54) rfl)) (args := #[]))) (mvT hZ (hw _ (List.mem_of_getElem? (i := 55) rfl))) (by decide) (backOf (W := 0) (rmfs0 l Z a0 hw [] a1 p2 b5 b32 S h41 n0 z42 f49 f50 f51 f52 f53 Fw41 f54 f44 g_a1) hZ (hw _ (List.mem_of_getElem? (i := 55) rfl)) (hw _ (List.mem_of_getElem? (i := 4) rfl)) (by decide) (by decide)) (g := (mkF m 130 #[vr a1, vi p2, vi (own_W p2), vj ((own_mxj (16 : Int64) (((0 : Int32)).toInt64)) * (((own_W p2)).toInt64)), .second, vr b5, vr b10, vi (0 : Int32)] [(.int (32 : Int32)), (.ref a1)])) rfl (by rw [hml]; rfl) (Steps.refl _) (a := a1) (by rw [e45]; exact q48) q48' (argsL := [(.int (32 : Int32))]) (rest := []) (lenOf pd_4 rfl) rfl (by show 2 * 0 + _ ≤ _; exact Nat.le_of_eq rfl) (hb hby d7_130) (fun _ _ => ⟨rfl, e45, (by decide : 3 + 1 ≤ _), (by decide : 37 + 32 ≤ _)⟩)
  dsimp only [Pt.U, Pt.locs, Pt.cells, Pt.slots] at X48 l48 y48 z48 st48 hQ48
  subst y48 z48
  obtain ⟨S'_48, kS'_48, rfl, N48q, p48_0, p48_1, p48_2, p48_3, p48_4, p48_5, p48_6, p48_7, p48_8, p48_9, p48_10⟩ := hQ48
  have N48 : Fr n0 L48 := by rw [l48]; exact Fr.app N41 N48q
  have f55 : AV Z h41 b5 k5 .long (16 * (own_W p2).toNatClampNeg) (fun i => Value.long ((fun _ => (0 : Int64)) i)) := ((f35.ext E32).other W41 (Ne.symm ne_a1_b5))
  have f56 : AV Z h41 b10 k10 .int 3 (fun i => Value.int ((fun _ => (0 : Int32)) i)) := ((f36.ext E32).other W41 (Ne.symm ne_a1_b10))
  have f57 : AV Z h41 b32 k32 .long (own_W p2).toNatClampNeg (fun i => Value.long ((fun _ => (0 : Int64)) i)) := (V32.other W41 (Ne.symm ne_a1_b32))
  have z58 : n0 ≤ T48.heap.size := Nat.le_trans z42 p48_0.1
  have K59 : Keep h0 T48.heap [a1] := K43.trans p48_0 (allS (Or.inl (List.mem_of_getElem? (i := 0) rfl)) all0)
  have ne_a1_S'_48 : a1 ≠ S'_48 := Nat.ne_of_lt (Nat.lt_of_lt_of_le f49.lt p48_1)
  have ne_S_S'_48 : S ≠ S'_48 := Nat.ne_of_lt (Nat.lt_of_lt_of_le f47.lt p48_1)
  have ne_b5_S'_48 : b5 ≠ S'_48 := Nat.ne_of_lt (Nat.lt_of_lt_of_le f55.lt p48_1)
  have ne_b10_S'_48 : b10 ≠ S'_48 := Nat.ne_of_lt (Nat.lt_of_lt_of_le f56.lt p48_1)
  have ne_b32_S'_48 : b32 ≠ S'_48 := Nat.ne_of_lt (Nat.lt_of_lt_of_le f57.lt p48_1)
  have g_S'_48 : n0 ≤ S'_48 := Nat.le_trans z42 p48_1
  have sz_S'_48 : h0.size ≤ S'_48 := Nat.le_trans K43.1 p48_1
  obtain ⟨fs, hr, hrun, hended, hW, hsame⟩ := X48.leave (v := none) (fun _ => rfl)
  refine ⟨_, _, ?_, hrun, hended, _, _, rfl, ?_, ⟨_, rfl⟩, hW, hsame.mono (by decide) (by decide)⟩
  · show Steps p.tables e below (T4.setTop (mkF m 39 #[vr a1, vi p2, vi (own_W p2), vj ((own_mxj (16 : Int64) (((0 : Int32)).toInt64)) * (((own_W p2)).toInt64)), .second, .unset, .unset, .unset] [(.int ((16 : Int32) * (own_W p2)))])) _
    refine st5 _ ?_
    refine XS.astore X5.here hx rfl (hb hby d7_41) rfl rfl (l' := #[vr a1, vi p2, vi (own_W p2), vj ((own_mxj (16 : Int64) (((0 : Int32)).toInt64)) * (((own_W p2)).toInt64)), .second, vr b5, .unset, .unset]) rfl ?_
    refine XS.aloadN X5.here hx rfl (hb hby d7_43) rfl rfl ?_
    refine st9 _ ?_
    refine st10 _ ?_
    refine XS.astore X10.here hx rfl (hb hby d7_49) rfl rfl (l' := #[vr a1, vi p2, vi (own_W p2), vj ((own_mxj (16 : Int64) (((0 : Int32)).toInt64)) * (((own_W p2)).toInt64)), .second, vr b5, vr b10, .unset]) rfl ?_
    show Steps p.tables e below (T10.setTop (mkF m 51 #[vr a1, vi p2, vi (own_W p2), vj ((own_mxj (16 : Int64) (((0 : Int32)).toInt64)) * (((own_W p2)).toInt64)), .second, vr b5, vr b10, .unset] [])) _
    refine XS.iconst X10.here hx rfl (hb hby d7_51) ?_
    refine XS.istore X10.here hx rfl (hb hby d7_52) rfl (l' := #[vr a1, vi p2, vi (own_W p2), vj ((own_mxj (16 : Int64) (((0 : Int32)).toInt64)) * (((own_W p2)).toInt64)), .second, vr b5, vr b10, vi (0 : Int32)]) rfl ?_
    refine XS.iload X10.here hx rfl (hb hby d7_54) rfl ?_
    refine XS.aloadN X10.here hx rfl (hb hby d7_56) rfl rfl ?_
    refine st16 _ ?_
    refine XS.icmpYes X16.here hx rfl (pc0 := 60) (pc' := 101) rfl (hb hby d7_60) rfl ((flt (by decide : ¬ ((0 : Int32) < (0 : Int32)))).2.1) (by decide) (by decide) ?_
    show Steps p.tables e below (T16.setTop (mkF m 101 #[vr a1, vi p2, vi (own_W p2), vj ((own_mxj (16 : Int64) (((0 : Int32)).toInt64)) * (((own_W p2)).toInt64)), .second, vr b5, vr b10, vi (0 : Int32)] [])) _
    refine XS.aloadN X16.here hx rfl (hb hby d7_101) rfl rfl ?_
    refine XS.iloadN X16.here hx rfl (hb hby d7_102) rfl ?_
    refine st19 _ ?_
    refine XS.aloadN X19.here hx rfl (hb hby d7_106) rfl rfl ?_
    refine XS.iloadN X19.here hx rfl (hb hby d7_107) rfl ?_
    refine st24 _ ?_
    show Steps p.tables e below (T24.setTop (mkF m 111 #[vr a1, vi p2, vi (own_W p2), vj ((own_mxj (16 : Int64) (((0 : Int32)).toInt64)) * (((own_W p2)).toInt64)), .second, vr b5, vr b10, vi (0 : Int32)] [])) _
    refine XS.aloadN X24.here hx rfl (hb hby d7_111) rfl rfl ?_
    refine XS.aload X24.here hx rfl (hb hby d7_112) rfl rfl ?_
    refine st29 _ ?_
    refine XS.aloadN X29.here hx rfl (hb hby d7_117) rfl rfl ?_
    refine XS.iloadN X29.here hx rfl (hb hby d7_118) rfl ?_
    refine st32 _ ?_
    show Steps p.tables e below (T32.setTop (mkF m 121 #[vr a1, vi p2, vi (own_W p2), vj ((own_mxj (16 : Int64) (((0 : Int32)).toInt64)) * (((own_W p2)).toInt64)), .second, vr b5, vr b10, vi (0 : Int32)] [(.ref b32), (.ref a1)])) _
    refine st41 _ ?_
    refine XS.aloadN X41.here hx rfl (hb hby d7_124) rfl rfl ?_
    refine XS.aloadN X41.here hx rfl (hb hby d7_125) rfl rfl ?_
    refine st45 _ ?_
    refine X45.arraylength hx (by rw [e45]; exact Ar46.1) (State.isArrayOf_alike hZ.alike Ar46.2.1) (g := (mkF m 129 #[vr a1, vi p2, vi (own_W p2), vj ((own_mxj (16 : Int64) (((0 : Int32)).toInt64)) * (((own_W p2)).toInt64)), .second, vr b5, vr b10, vi (0 : Int32)] [(.ref S), (.ref a1)])) rfl rfl (hb hby d7_129) _ ?_
    rw [le46]
    show Steps p.tables e below (T45.setTop (mkF m 130 #[vr a1, vi p2, vi (own_W p2), vj ((own_mxj (16 : Int64) (((0 : Int32)).toInt64)) * (((own_W p2)).toInt64)), .second, vr b5, vr b10, vi (0 : Int32)] [(.int (32 : Int32)), (.ref a1)])) _
    refine st48.trans ?_
    exact X48.returnOut hx Bd.returns (hb hby d7_133) hr
  · have f61 : AV Z T48.heap b5 k5 .long (16 * (own_W p2).toNatClampNeg) (fun i => Value.long ((fun _ => (0 : Int64)) i)) := (f55.keep p48_0 (ninS (Ne.symm ne_a1_b5) nin0))
    have f62 : AV Z T48.heap b32 k32 .long (own_W p2).toNatClampNeg (fun i => Value.long ((fun _ => (0 : Int64)) i)) := (f57.keep p48_0 (ninS (Ne.symm ne_a1_b32) nin0))
    show Qwd0 Z a1 p2 B P R S kS fS h0 n0 _ T48.heap _
    exact ⟨b5, b32, S'_48, k5, k32, kS'_48, rfl, N48, K59, sz_b5, sz_b32, sz_S'_48, ne_b5_b32, ne_b5_S'_48, ne_b32_S'_48, p48_2, p48_3, p48_4, p48_5, p48_6, p48_7, p48_8, p48_9, f61, f62, p48_10⟩
theorem d7_63 : decode prog_21_method_8_code 63 = .ok (.aload_n 0, 1) := by decide +kernel
theorem d7_64 : decode prog_21_method_8_code 64 = .ok (.getfield 25, 3) := by decide +kernel
theorem d7_67 : decode prog_21_method_8_code 67 = .ok (.iload 7, 2) := by decide +kernel
theorem d7_69 : decode prog_21_method_8_code 69 = .ok (.aload_n 0, 1) := by decide +kernel
theorem d7_70 : decode prog_21_method_8_code 70 = .ok (.getfield 22, 3) := by decide +kernel
theorem d7_73 : decode prog_21_method_8_code 73 = .ok (.imul, 1) := by decide +kernel
theorem d7_74 : decode prog_21_method_8_code 74 = .ok (.aload_n 0, 1) := by decide +kernel
theorem d7_75 : decode prog_21_method_8_code 75 = .ok (.getfield 15, 3) := by decide +kernel
theorem d7_78 : decode prog_21_method_8_code 78 = .ok (.aload 6, 2) := by decide +kernel
theorem d7_80 : decode prog_21_method_8_code 80 = .ok (.invokestatic 76, 3) := by decide +kernel
theorem d7_83 : decode prog_21_method_8_code 83 = .ok (.aload 6, 2) := by decide +kernel
theorem d7_85 : decode prog_21_method_8_code 85 = .ok (.iload_n 1, 1) := by decide +kernel
theorem d7_86 : decode prog_21_method_8_code 86 = .ok (.aload 5, 2) := by decide +kernel
theorem d7_88 : decode prog_21_method_8_code 88 = .ok (.iload 7, 2) := by decide +kernel
theorem d7_90 : decode prog_21_method_8_code 90 = .ok (.iload_n 2, 1) := by decide +kernel
theorem d7_91 : decode prog_21_method_8_code 91 = .ok (.imul, 1) := by decide +kernel
theorem d7_92 : decode prog_21_method_8_code 92 = .ok (.invokestatic 55, 3) := by decide +kernel
theorem d7_95 : decode prog_21_method_8_code 95 = .ok (.iinc 7 1, 3) := by decide +kernel
theorem d7_98 : decode prog_21_method_8_code 98 = .ok (.goto (-44), 3) := by decide +kernel
theorem pd_5 : parseMethodDescriptor "([II[JI)V" = some ⟨[(.array .int), .int, (.array .long), .int], none⟩ := by decide +kernel
theorem ef_rmwd1 (m : MethodId) (a1 : Addr) (p2 : Int32) : entryFrame m #[(.ref a1), (.int p2)] 8 = mkF m 0 #[vr a1, vi p2, .unset, .unset, .unset, .unset, .unset, .unset] [] := by first | (simp [entryFrame, mkF, argsToLocals, Value.category]; done) | rfl
def Qwd1 (Z : State) (a1 : Addr) (p2 : Int32) (B : Int32) (P : Addr) (R : Addr) (S : Addr) (kP : ClassId) (kR : ClassId) (kS : ClassId) (fP : Nat → Int64) (fR : Nat → Int64) (fS : Nat → Int32) (x0 : Int32) (x1 : Int32) (x2 : Int32) (h0 : Heap) (n0 : Nat) (v : Option Value) (h : Heap) (L : List Loc) : Prop := ∃ (P' : Addr), ∃ (R' : Addr), ∃ (S' : Addr), ∃ (kP' : ClassId), ∃ (kR' : ClassId), ∃ (kS' : ClassId), ∃ (fP' : Nat → Int64), v = none ∧ Fr n0 L ∧ Keep h0 h [a1] ∧ h0.size ≤ P' ∧ h0.size ≤ R' ∧ h0.size ≤ S' ∧ P' ≠ R' ∧ P' ≠ S' ∧ R' ≠ S' ∧ (Exa Z h a1 "com/example/always_over_paths/alwaysoverpaths/explicit/MarkingTable") ∧ (Fld Z h a1 "com/example/always_over_paths/alwaysoverpaths/explicit/MarkingTable" "places" "I" (.int (3 : Int32))) ∧ (Fld Z h a1 "com/example/always_over_paths/alwaysoverpaths/explicit/MarkingTable" "bits" "I" (.int p2)) ∧ (Fld Z h a1 "com/example/always_over_paths/alwaysoverpaths/explicit/MarkingTable" "words" "I" (.int (own_W p2))) ∧ (Fld Z h a1 "com/example/always_over_paths/alwaysoverpaths/explicit/MarkingTable" "packed" "[J" (.ref P')) ∧ (Fld Z h a1 "com/example/always_over_paths/alwaysoverpaths/explicit/MarkingTable" "probe" "[J" (.ref R')) ∧ (Fld Z h a1 "com/example/always_over_paths/alwaysoverpaths/explicit/MarkingTable" "size" "I" (.int (1 : Int32))) ∧ (Fld Z h a1 "com/example/always_over_paths/alwaysoverpaths/explicit/MarkingTable" "slots" "[I" (.ref S')) ∧ (AV Z h P' kP' .long (16 * (own_W p2).toNatClampNeg) (fun i => Value.long (fP' i))) ∧ (AV Z h R' kR' .long (own_W p2).toNatClampNeg (fun i => Value.long ((fun _ => (0 : Int64)) i))) ∧ (AV Z h S' kS' .int 32 (fun i => Value.int ((updI (fun _ => (0 : Int32)) (own_sl p2 x0 x1 x2).toNatClampNeg (1 : Int32)) i))) ∧ (own_pw p2 x0 x1 x2 fP' 0)
set_option maxRecDepth 65536 in
set_option maxHeartbeats 40000000 in
theorem rmwd1 (l : Launch) (Z : State) (a0 : Array Value) (hw : ∀ d ∈ tables_1, d.before a0 Z = true) (ws : List Jvm.Cond) (a1 : Addr) (p2 : Int32) (B : Int32) (P : Addr) (R : Addr) (S : Addr) (kP : ClassId) (kR : ClassId) (kS : ClassId) (fP : Nat → Int64) (fR : Nat → Int64) (fS : Nat → Int32) (x0 : Int32) (x1 : Int32) (x2 : Int32) (h0 : Heap) (n0 : Nat) (Z0 : n0 ≤ h0.size) (E_a1 : Exa Z h0 a1 "com/example/always_over_paths/alwaysoverpaths/explicit/MarkingTable") (F_places_a1 : Fld Z h0 a1 "com/example/always_over_paths/alwaysoverpaths/explicit/MarkingTable" "places" "I" (.int (3 : Int32))) (F_bits_a1 : Fld Z h0 a1 "com/example/always_over_paths/alwaysoverpaths/explicit/MarkingTable" "bits" "I" (.int B)) (F_words_a1 : Fld Z h0 a1 "com/example/always_over_paths/alwaysoverpaths/explicit/MarkingTable" "words" "I" (.int (own_W B))) (F_packed_a1 : Fld Z h0 a1 "com/example/always_over_paths/alwaysoverpaths/explicit/MarkingTable" "packed" "[J" (.ref P)) (F_probe_a1 : Fld Z h0 a1 "com/example/always_over_paths/alwaysoverpaths/explicit/MarkingTable" "probe" "[J" (.ref R)) (F_size_a1 : Fld Z h0 a1 "com/example/always_over_paths/alwaysoverpaths/explicit/MarkingTable" "size" "I" (.int (1 : Int32))) (F_slots_a1 : Fld Z h0 a1 "com/example/always_over_paths/alwaysoverpaths/explicit/MarkingTable" "slots" "[I" (.ref S)) (A_P : AV Z h0 P kP .long (16 * (own_W B).toNatClampNeg) (fun i => Value.long (fP i))) (A_S : AV Z h0 S kS .int 32 (fun i => Value.int (fS i))) (g_a1 : n0 ≤ a1) (ne_a1_S : a1 ≠ S) (ne_a1_P : a1 ≠ P) (hB : own_B p2) (hBo : own_B B) (bx : own_bd3 B x0 x1 x2) (hxw : own_pw B x0 x1 x2 fP 0) :
    MetFree l (⟨"com/example/always_over_paths/alwaysoverpaths/explicit/MarkingTable", "widen", "(I)V"⟩ : MethodName) (head1 (Jvm.Cond.code (⟨"com/example/always_over_paths/alwaysoverpaths/explicit/MarkingTable", "widen", "(I)V"⟩ : MethodName) prog_21_method_8_code 8 none :: ws) ({ frames := 2, cells := 4, slots := 69, locals := 33 } : Room)) (fun a U => a = #[(.ref a1), (.int p2)] ∧ Z.Warmed39 U.vm ∧ U.heap = h0) (fun _ _ _ _ _ => True) (fun _ U o U' => ∃ v L, o = .returned v ∧ Qwd1 Z a1 p2 B P R S kP kR kS fP fR fS x0 x1 x2 h0 n0 v U'.heap L ∧ FrameEnd U o U' L ({ frames := 2, cells := 4, slots := 69, locals := 33 } : Room).cells ({ frames := 2, cells := 4, slots := 69, locals := 33 } : Room).slots) := by
  refine MetFree.of_bodySF (plainFor_of_name pn_1) hisR ?_
  intro p e s m args below meth c s₁ Bd hml0 hP hK
  obtain ⟨rfl, hZ, hh⟩ := hP
  have hx := Bd.exec
  have hby := Bd.bytes
  have hml : c.maxLocals = 8 := hml0
  have hown : s.vm.findClass "com/example/always_over_paths/alwaysoverpaths/explicit/MarkingTable" = some m.cls := findClass_of_methodNamed Bd.named
  have hnm := (name_of_methodNamed Bd.named Bd.method).1
  have X0 : Stand p l e ({ frames := 2, cells := 4, slots := 69, locals := 33 } : Room) s m #[(.ref a1), (.int p2)] below meth c s₁ [] 0 0 := Stand.of_body Bd
  have e0 : s₁.heap = h0 := by rw [← hh, Bd.state]; rfl
  have N0 := Fr.nil n0
  show GoalS p.tables e below s ({ frames := 2, cells := 4, slots := 69, locals := 33 } : Room).cells ({ frames := 2, cells := 4, slots := 69, locals := 33 } : Room).slots (Qwd1 Z a1 p2 B P R S kP kR kS fP fR fS x0 x1 x2 h0 n0) (s₁.setTop (entryFrame m #[(.ref a1), (.int p2)] 8))
  refine GoalS.lift (B := s₁.setTop (mkF m 0 #[vr a1, vi p2, .unset, .unset, .unset, .unset, .unset, .unset] [])) (fun t k => castTop (ef_rmwd1 m a1 p2) k) ?_
  have K0 : Keep h0 h0 [a1] := Keep.refl _ _
  obtain ⟨T1, X1, e1, st1⟩ := getF X0 hx hZ hown (host := "") (Or.inl (hw _ (List.mem_of_getElem? (i := 11) rfl))) Via.refl e0 F_places_a1 (g := (mkF m 1 #[vr a1, vi p2, .unset, .unset, .unset, .unset, .unset, .unset] [(.ref a1)])) rfl rfl (hb hby d7_1)
  obtain ⟨_, _, ⟨T2, L2, k2, n2⟩, -, X2, ⟨Lc2, hQ2, l2, y2, z2⟩, st2⟩ := Jvm.LawKit.callS X1 hx (y := (⟨"com/example/always_over_paths/alwaysoverpaths/explicit/MarkingTable", "wordsFor", "(II)I"⟩ : MethodName)) hown (mvT hZ (hw _ (List.mem_of_getElem? (i := 15) rfl))) (mvT hZ (hw _ (List.mem_of_getElem? (i := 16) rfl))) (mvT hZ (hw _ (List.mem_of_getElem? (i := 4) rfl))) (mvT hZ (hw _ (List.mem_of_getElem? (i := 17) rfl))) (by decide) (backOf (W := 0) (rmwf l Z a0 hw [] p2 h0 n0 Z0 hB) hZ (hw _ (List.mem_of_getElem? (i := 17) rfl)) (hw _ (List.mem_of_getElem? (i := 4) rfl)) (by decide) (by decide)) (g := (mkF m 5 #[vr a1, vi p2, .unset, .unset, .unset, .unset, .unset, .unset] [(.int p2), (.int (3 : Int32))])) rfl (by rw [hml]; rfl) (argsL := [(.int (3 : Int32)), (.int p2)]) (rest := []) (lenOf pd_0 rfl) rfl (by show 2 * 0 + _ ≤ _; exact Nat.le_of_eq rfl) (hb hby d7_5) (fun _ _ => ⟨rfl, e1, (by decide : 0 + 0 ≤ _), (by decide : 0 + 0 ≤ _)⟩)
  dsimp only [Pt.U, Pt.locs, Pt.cells, Pt.slots] at X2 l2 y2 z2 st2 hQ2
  subst y2 z2
  obtain ⟨rfl, N2q, eq2⟩ := hQ2
  have N2 : Fr n0 L2 := by rw [l2]; exact Fr.app N0 N2q
  obtain ⟨T3, X3, e3, st3⟩ := getF X2 hx hZ hown (host := "") (Or.inl (hw _ (List.mem_of_getElem? (i := 46) rfl))) Via.refl eq2 F_size_a1 (g := (mkF m 13 #[vr a1, vi p2, vi (own_W p2), .unset, .unset, .unset, .unset, .unset] [(.ref a1), (.long (16 : Int64))])) rfl rfl (hb hby d7_13)
  obtain ⟨_, _, ⟨T4, L4, k4, n4⟩, -, X4, ⟨Lc4, hQ4, l4, y4, z4⟩, st4⟩ := Jvm.LawKit.callS X3 hx (y := (⟨"java/lang/Math", "max", "(JJ)J"⟩ : MethodName)) hown (mvT hZ (hw _ (List.mem_of_getElem? (i := 48) rfl))) (mvT hZ (hw _ (List.mem_of_getElem? (i := 49) rfl))) (mvT hZ (hw _ (List.mem_of_getElem? (i := 20) rfl))) (mvT hZ (hw _ (List.mem_of_getElem? (i := 50) rfl))) (by decide) (backOf (W := 0) (rmmaxj l Z a0 hw [] (16 : Int64) (((1 : Int32)).toInt64) h0 n0 Z0) hZ (hw _ (List.mem_of_getElem? (i := 50) rfl)) (hw _ (List.mem_of_getElem? (i := 20) rfl)) (by decide) (by decide)) (g := (mkF m 17 #[vr a1, vi p2, vi (own_W p2), .unset, .unset, .unset, .unset, .unset] [(.long (((1 : Int32)).toInt64)), (.long (16 : Int64))])) rfl (by rw [hml]; rfl) (argsL := [(.long (16 : Int64)), (.long (((1 : Int32)).toInt64))]) (rest := []) (lenOf pd_3 rfl) rfl (by show 2 * 0 + _ ≤ _; exact Nat.le_of_eq rfl) (hb hby d7_17) (fun _ _ => ⟨rfl, e3, (by decide : 0 + 0 ≤ _), (by decide : 0 + 0 ≤ _)⟩)
  dsimp only [Pt.U, Pt.locs, Pt.cells, Pt.slots] at X4 l4 y4 z4 st4 hQ4
  subst y4 z4
  obtain ⟨rfl, N4q, eq4⟩ := hQ4
  have N4 : Fr n0 L4 := by rw [l4]; exact Fr.app N2 N4q
  refine GoalS.lift (B := (T4.setTop (mkF m 39 #[vr a1, vi p2, vi (own_W p2), vj ((own_mxj (16 : Int64) (((1 : Int32)).toInt64)) * (((own_W p2)).toInt64)), .second, .unset, .unset, .unset] [(.int ((((own_mxj (16 : Int64) (((1 : Int32)).toInt64)) * (((own_W p2)).toInt64))).toInt32))]))) (fun t k => ?_) ?_
  · show Steps p.tables e below (s₁.setTop (mkF m 0 #[vr a1, vi p2, .unset, .unset, .unset, .unset, .unset, .unset] [])) _
    refine XS.aloadN X0.here hx rfl (hb hby d7_0) rfl rfl ?_
    refine st1 _ ?_
    refine XS.iloadN X1.here hx rfl (hb hby d7_4) rfl ?_
    refine st2 _ ?_
    refine XS.istoreN X2.here hx rfl (hb hby d7_8) rfl (l' := #[vr a1, vi p2, vi (own_W p2), .unset, .unset, .unset, .unset, .unset]) rfl ?_
    refine X2.ldc2Long hx hown (mvT hZ (hw _ (List.mem_of_getElem? (i := 45) rfl))) (g := (mkF m 9 #[vr a1, vi p2, vi (own_W p2), .unset, .unset, .unset, .unset, .unset] [])) rfl (hb hby d7_9) _ ?_
    show Steps p.tables e below (T2.setTop (mkF m 12 #[vr a1, vi p2, vi (own_W p2), .unset, .unset, .unset, .unset, .unset] [(.long (16 : Int64))])) _
    refine XS.aloadN X2.here hx rfl (hb hby d7_12) rfl rfl ?_
    refine st3 _ ?_
    refine XS.i2l X3.here hx rfl (hb hby d7_16) rfl ?_
    refine st4 _ ?_
    refine XS.iloadN X4.here hx rfl (hb hby d7_20) rfl ?_
    refine XS.i2l X4.here hx rfl (hb hby d7_21) rfl ?_
    show Steps p.tables e below (T4.setTop (mkF m 22 #[vr a1, vi p2, vi (own_W p2), .unset, .unset, .unset, .unset, .unset] [(.long (((own_W p2)).toInt64)), (.long (own_mxj (16 : Int64) (((1 : Int32)).toInt64)))])) _
    refine XS.lmul X4.here hx rfl (hb hby d7_22) rfl ?_
    refine XS.lstoreN X4.here hx rfl (hb hby d7_23) rfl (l' := #[vr a1, vi p2, vi (own_W p2), vj ((own_mxj (16 : Int64) (((1 : Int32)).toInt64)) * (((own_W p2)).toInt64)), .second, .unset, .unset, .unset]) rfl ?_
    refine XS.lloadN X4.here hx rfl (hb hby d7_24) rfl ?_
    refine X4.ldc2Long hx hown (mvT hZ (hw _ (List.mem_of_getElem? (i := 51) rfl))) (g := (mkF m 25 #[vr a1, vi p2, vi (own_W p2), vj ((own_mxj (16 : Int64) (((1 : Int32)).toInt64)) * (((own_W p2)).toInt64)), .second, .unset, .unset, .unset] [(.long ((own_mxj (16 : Int64) (((1 : Int32)).toInt64)) * (((own_W p2)).toInt64)))])) rfl (hb hby d7_25) _ ?_
    refine XS.lcmp X4.here hx rfl (hb hby d7_28) rfl ?_
    refine XS.ifYes X4.here hx rfl (pc0 := 29) (pc' := 37) rfl (hb hby d7_29) rfl ((if0 _ _).trans (flt (fun q => (own_lenm (Or.inr rfl) : ¬ ((2147483639 : Int64) < ((own_mxj (16 : Int64) (((1 : Int32)).toInt64)) * (((own_W p2)).toInt64)))) ((lw_gt ((own_mxj (16 : Int64) (((1 : Int32)).toInt64)) * (((own_W p2)).toInt64)) (2147483639 : Int64)).mp q))).2.2.2) (by decide) (by decide) ?_
    show Steps p.tables e below (T4.setTop (mkF m 37 #[vr a1, vi p2, vi (own_W p2), vj ((own_mxj (16 : Int64) (((1 : Int32)).toInt64)) * (((own_W p2)).toInt64)), .second, .unset, .unset, .unset] [])) _
    refine XS.lloadN X4.here hx rfl (hb hby d7_37) rfl ?_
    refine XS.l2i X4.here hx rfl (hb hby d7_38) rfl ?_
    exact k
  refine GoalS.lift (B := (T4.setTop (mkF m 39 #[vr a1, vi p2, vi (own_W p2), vj ((own_mxj (16 : Int64) (((1 : Int32)).toInt64)) * (((own_W p2)).toInt64)), .second, .unset, .unset, .unset] [(.int ((16 : Int32) * (own_W p2)))]))) (fun t k => by rw [own_lenw (Or.inr rfl)]; exact k) ?_
  have hW2_p2 := own_Wle p2
  obtain ⟨T5, h5, k5, X5, e5, E5, A5, st5⟩ := newP X4 hx hZ (hw _ (List.mem_of_getElem? (i := 24) rfl)) eq4 (g := (mkF m 39 #[vr a1, vi p2, vi (own_W p2), vj ((own_mxj (16 : Int64) (((1 : Int32)).toInt64)) * (((own_W p2)).toInt64)), .second, .unset, .unset, .unset] [(.int ((16 : Int32) * (own_W p2)))])) rfl (hb hby d7_39) rfl (own_16neg p2) (cap := 32) (own_16le p2) (by decide) (by decide) (by decide)
  obtain ⟨b5, g5⟩ : ∃ z, z = h0.size := ⟨_, rfl⟩
  rw [← g5] at A5 st5
  have g_b5 : n0 ≤ b5 := Nat.le_trans Z0 (Nat.le_of_eq g5.symm)
  have sz_b5 : h0.size ≤ b5 := Nat.le_trans K0.1 (Nat.le_of_eq g5.symm)
  have ne_a1_b5 : a1 ≠ b5 := Nat.ne_of_lt (Nat.lt_of_lt_of_le E_a1.lt (Nat.le_of_eq g5.symm))
  have ne_P_b5 : P ≠ b5 := Nat.ne_of_lt (Nat.lt_of_lt_of_le A_P.lt (Nat.le_of_eq g5.symm))
  have ne_S_b5 : S ≠ b5 := Nat.ne_of_lt (Nat.lt_of_lt_of_le A_S.lt (Nat.le_of_eq g5.symm))
  have z6 : n0 ≤ h5.size := Nat.le_trans Z0 E5.1
  have K7 : Keep h0 h5 [a1] := K0.ext E5
  have V5 : AV Z h5 b5 k5 .long (16 * (own_W p2).toNatClampNeg) (fun i => Value.long ((fun _ => (0 : Int64)) i)) := AV.new A5 (own_16neg p2) (own_16nat p2) (by omega)
  have f8 : Fld Z h5 a1 "com/example/always_over_paths/alwaysoverpaths/explicit/MarkingTable" "places" "I" (.int (3 : Int32)) := (F_places_a1.ext E5)
  obtain ⟨T9, X9, e9, st9⟩ := getF X5 hx hZ hown (host := "") (Or.inl (hw _ (List.mem_of_getElem? (i := 11) rfl))) Via.refl e5 f8 (g := (mkF m 44 #[vr a1, vi p2, vi (own_W p2), vj ((own_mxj (16 : Int64) (((1 : Int32)).toInt64)) * (((own_W p2)).toInt64)), .second, vr b5, .unset, .unset] [(.ref a1)])) rfl rfl (hb hby d7_44)
  obtain ⟨T10, h10, k10, X10, e10, E10, A10, st10⟩ := newP X9 hx hZ (hw _ (List.mem_of_getElem? (i := 0) rfl)) e9 (g := (mkF m 47 #[vr a1, vi p2, vi (own_W p2), vj ((own_mxj (16 : Int64) (((1 : Int32)).toInt64)) * (((own_W p2)).toInt64)), .second, vr b5, .unset, .unset] [(.int (3 : Int32))])) rfl (hb hby d7_47) rfl (by decide) (cap := 3) (by decide) (by decide) (by decide) (by decide)
  obtain ⟨b10, g10⟩ : ∃ z, z = h5.size := ⟨_, rfl⟩
  rw [← g10] at A10 st10
  have g_b10 : n0 ≤ b10 := Nat.le_trans z6 (Nat.le_of_eq g10.symm)
  have sz_b10 : h0.size ≤ b10 := Nat.le_trans K7.1 (Nat.le_of_eq g10.symm)
  have f11 : Exa Z h5 a1 "com/example/always_over_paths/alwaysoverpaths/explicit/MarkingTable" := (E_a1.ext E5)
  have ne_a1_b10 : a1 ≠ b10 := Nat.ne_of_lt (Nat.lt_of_lt_of_le f11.lt (Nat.le_of_eq g10.symm))
  have f12 : AV Z h5 P kP .long (16 * (own_W B).toNatClampNeg) (fun i => Value.long (fP i)) := (A_P.ext E5)
  have ne_P_b10 : P ≠ b10 := Nat.ne_of_lt (Nat.lt_of_lt_of_le f12.lt (Nat.le_of_eq g10.symm))
  have f13 : AV Z h5 S kS .int 32 (fun i => Value.int (fS i)) := (A_S.ext E5)
  have ne_S_b10 : S ≠ b10 := Nat.ne_of_lt (Nat.lt_of_lt_of_le f13.lt (Nat.le_of_eq g10.symm))
  have ne_b5_b10 : b5 ≠ b10 := Nat.ne_of_lt (Nat.lt_of_lt_of_le V5.lt (Nat.le_of_eq g10.symm))
  have z14 : n0 ≤ h10.size := Nat.le_trans z6 E10.1
  have K15 : Keep h0 h10 [a1] := K7.ext E10
  have V10 : AV Z h10 b10 k10 .int 3 (fun i => Value.int ((fun _ => (0 : Int32)) i)) := AV.new A10 (by decide) (by decide) (by decide)
  have f16 : Fld Z h10 a1 "com/example/always_over_paths/alwaysoverpaths/explicit/MarkingTable" "size" "I" (.int (1 : Int32)) := ((F_size_a1.ext E5).ext E10)
  obtain ⟨T17, X17, e17, st17⟩ := getF X10 hx hZ hown (host := "") (Or.inl (hw _ (List.mem_of_getElem? (i := 46) rfl))) Via.refl e10 f16 (g := (mkF m 57 #[vr a1, vi p2, vi (own_W p2), vj ((own_mxj (16 : Int64) (((1 : Int32)).toInt64)) * (((own_W p2)).toInt64)), .second, vr b5, vr b10, vi (0 : Int32)] [(.ref a1), (.int (0 : Int32))])) rfl rfl (hb hby d7_57)
  have f18 : Fld Z h10 a1 "com/example/always_over_paths/alwaysoverpaths/explicit/MarkingTable" "packed" "[J" (.ref P) := ((F_packed_a1.ext E5).ext E10)
  obtain ⟨T19, X19, e19, st19⟩ := getF X17 hx hZ hown (host := "") (Or.inl (hw _ (List.mem_of_getElem? (i := 25) rfl))) Via.refl e17 f18 (g := (mkF m 64 #[vr a1, vi p2, vi (own_W p2), vj ((own_mxj (16 : Int64) (((1 : Int32)).toInt64)) * (((own_W p2)).toInt64)), .second, vr b5, vr b10, vi (0 : Int32)] [(.ref a1)])) rfl rfl (hb hby d7_64)
  have f20 : Fld Z h10 a1 "com/example/always_over_paths/alwaysoverpaths/explicit/MarkingTable" "words" "I" (.int (own_W B)) := ((F_words_a1.ext E5).ext E10)
  obtain ⟨T21, X21, e21, st21⟩ := getF X19 hx hZ hown (host := "") (Or.inl (hw _ (List.mem_of_getElem? (i := 22) rfl))) Via.refl e19 f20 (g := (mkF m 70 #[vr a1, vi p2, vi (own_W p2), vj ((own_mxj (16 : Int64) (((1 : Int32)).toInt64)) * (((own_W p2)).toInt64)), .second, vr b5, vr b10, vi (0 : Int32)] [(.ref a1), (.int (0 : Int32)), (.ref P)])) rfl rfl (hb hby d7_70)
  refine GoalS.lift (B := (T21.setTop (mkF m 74 #[vr a1, vi p2, vi (own_W p2), vj ((own_mxj (16 : Int64) (((1 : Int32)).toInt64)) * (((own_W p2)).toInt64)), .second, vr b5, vr b10, vi (0 : Int32)] [(.int ((0 : Int32) * (own_W B))), (.ref P)]))) (fun t k => ?_) ?_
  · show Steps p.tables e below (T4.setTop (mkF m 39 #[vr a1, vi p2, vi (own_W p2), vj ((own_mxj (16 : Int64) (((1 : Int32)).toInt64)) * (((own_W p2)).toInt64)), .second, .unset, .unset, .unset] [(.int ((16 : Int32) * (own_W p2)))])) _
    refine st5 _ ?_
    refine XS.astore X5.here hx rfl (hb hby d7_41) rfl rfl (l' := #[vr a1, vi p2, vi (own_W p2), vj ((own_mxj (16 : Int64) (((1 : Int32)).toInt64)) * (((own_W p2)).toInt64)), .second, vr b5, .unset, .unset]) rfl ?_
    refine XS.aloadN X5.here hx rfl (hb hby d7_43) rfl rfl ?_
    refine st9 _ ?_
    refine st10 _ ?_
    refine XS.astore X10.here hx rfl (hb hby d7_49) rfl rfl (l' := #[vr a1, vi p2, vi (own_W p2), vj ((own_mxj (16 : Int64) (((1 : Int32)).toInt64)) * (((own_W p2)).toInt64)), .second, vr b5, vr b10, .unset]) rfl ?_
    show Steps p.tables e below (T10.setTop (mkF m 51 #[vr a1, vi p2, vi (own_W p2), vj ((own_mxj (16 : Int64) (((1 : Int32)).toInt64)) * (((own_W p2)).toInt64)), .second, vr b5, vr b10, .unset] [])) _
    refine XS.iconst X10.here hx rfl (hb hby d7_51) ?_
    refine XS.istore X10.here hx rfl (hb hby d7_52) rfl (l' := #[vr a1, vi p2, vi (own_W p2), vj ((own_mxj (16 : Int64) (((1 : Int32)).toInt64)) * (((own_W p2)).toInt64)), .second, vr b5, vr b10, vi (0 : Int32)]) rfl ?_
    refine XS.iload X10.here hx rfl (hb hby d7_54) rfl ?_
    refine XS.aloadN X10.here hx rfl (hb hby d7_56) rfl rfl ?_
    refine st17 _ ?_
    refine XS.icmpNo X17.here hx rfl (hb hby d7_60) rfl ((tlt (by decide : (0 : Int32) < (1 : Int32))).2.1) ?_
    show Steps p.tables e below (T17.setTop (mkF m 63 #[vr a1, vi p2, vi (own_W p2), vj ((own_mxj (16 : Int64) (((1 : Int32)).toInt64)) * (((own_W p2)).toInt64)), .second, vr b5, vr b10, vi (0 : Int32)] [])) _
    refine XS.aloadN X17.here hx rfl (hb hby d7_63) rfl rfl ?_
    refine st19 _ ?_
    refine XS.iload X19.here hx rfl (hb hby d7_67) rfl ?_
    refine XS.aloadN X19.here hx rfl (hb hby d7_69) rfl rfl ?_
    refine st21 _ ?_
    refine XS.imul X21.here hx rfl (hb hby d7_73) rfl ?_
    exact k
  refine GoalS.lift (B := (T21.setTop (mkF m 74 #[vr a1, vi p2, vi (own_W p2), vj ((own_mxj (16 : Int64) (((1 : Int32)).toInt64)) * (((own_W p2)).toInt64)), .second, vr b5, vr b10, vi (0 : Int32)] [(.int (0 : Int32)), (.ref P)]))) (fun t k => by rw [Int32.zero_mul]; exact k) ?_
  have f22 : Fld Z h10 a1 "com/example/always_over_paths/alwaysoverpaths/explicit/MarkingTable" "bits" "I" (.int B) := ((F_bits_a1.ext E5).ext E10)
  obtain ⟨T23, X23, e23, st23⟩ := getF X21 hx hZ hown (host := "") (Or.inl (hw _ (List.mem_of_getElem? (i := 13) rfl))) Via.refl e21 f22 (g := (mkF m 75 #[vr a1, vi p2, vi (own_W p2), vj ((own_mxj (16 : Int64) (((1 : Int32)).toInt64)) * (((own_W p2)).toInt64)), .second, vr b5, vr b10, vi (0 : Int32)] [(.ref a1), (.int (0 : Int32)), (.ref P)])) rfl rfl (hb hby d7_75)
  have f25 : AV Z h10 P kP .long (16 * (own_W B).toNatClampNeg) (fun i => Value.long (fP i)) := (f12.ext E10)
  obtain ⟨_, _, ⟨T24, L24, k24, n24⟩, -, X24, ⟨Lc24, hQ24, l24, y24, z24⟩, st24⟩ := Jvm.LawKit.callS X23 hx (y := (⟨"com/example/always_over_paths/alwaysoverpaths/explicit/MarkingTable", "unpack", "([JII[I)V"⟩ : MethodName)) hown (mvT hZ (hw _ (List.mem_of_getElem? (i := 78) rfl))) (mvT hZ (hw _ (List.mem_of_getElem? (i := 79) rfl))) (mvT hZ (hw _ (List.mem_of_getElem? (i := 4) rfl))) (mvT hZ (hw _ (List.mem_of_getElem? (i := 80) rfl))) (by decide) (backOf (W := 0) (rmun l Z a0 hw [] P (0 : Int32) B b10 kP k10 fP (fun _ => (0 : Int32)) (16 * (own_W B).toNatClampNeg) h10 n0 z14 f25 V10 ne_P_b10 g_b10 hBo (own_gi0 B) (fun _ => own_gi2 B)) hZ (hw _ (List.mem_of_getElem? (i := 80) rfl)) (hw _ (List.mem_of_getElem? (i := 4) rfl)) (by decide) (by decide)) (g := (mkF m 80 #[vr a1, vi p2, vi (own_W p2), vj ((own_mxj (16 : Int64) (((1 : Int32)).toInt64)) * (((own_W p2)).toInt64)), .second, vr b5, vr b10, vi (0 : Int32)] [(.ref b10), (.int B), (.int (0 : Int32)), (.ref P)])) rfl (by rw [hml]; rfl) (argsL := [(.ref P), (.int (0 : Int32)), (.int B), (.ref b10)]) (rest := []) (lenOf pd_1 rfl) rfl (by show 2 * 0 + _ ≤ _; exact Nat.le_of_eq rfl) (hb hby d7_80) (fun _ _ => ⟨rfl, e23, (by decide : 2 + 0 ≤ _), (by decide : 35 + 0 ≤ _)⟩)
  dsimp only [Pt.U, Pt.locs, Pt.cells, Pt.slots] at X24 l24 y24 z24 st24 hQ24
  subst y24 z24
  obtain ⟨rfl, N24q, p24_0, p24_1⟩ := hQ24
  have N24 : Fr n0 L24 := by rw [l24]; exact Fr.app N4 N24q
  have z26 : n0 ≤ T24.heap.size := Nat.le_trans z14 p24_0.1
  have K27 : Keep h0 T24.heap [a1] := K15.trans p24_0 (allS (Or.inr sz_b10) all0)
  refine GoalS.lift (B := (T24.setTop (mkF m 92 #[vr a1, vi p2, vi (own_W p2), vj ((own_mxj (16 : Int64) (((1 : Int32)).toInt64)) * (((own_W p2)).toInt64)), .second, vr b5, vr b10, vi (0 : Int32)] [(.int ((0 : Int32) * (own_W p2))), (.ref b5), (.int p2), (.ref b10)]))) (fun t k => ?_) ?_
  · show Steps p.tables e below (T21.setTop (mkF m 74 #[vr a1, vi p2, vi (own_W p2), vj ((own_mxj (16 : Int64) (((1 : Int32)).toInt64)) * (((own_W p2)).toInt64)), .second, vr b5, vr b10, vi (0 : Int32)] [(.int (0 : Int32)), (.ref P)])) _
    refine XS.aloadN X21.here hx rfl (hb hby d7_74) rfl rfl ?_
    refine st23 _ ?_
    refine XS.aload X23.here hx rfl (hb hby d7_78) rfl rfl ?_
    refine st24 _ ?_
    refine XS.aload X24.here hx rfl (hb hby d7_83) rfl rfl ?_
    refine XS.iloadN X24.here hx rfl (hb hby d7_85) rfl ?_
    show Steps p.tables e below (T24.setTop (mkF m 86 #[vr a1, vi p2, vi (own_W p2), vj ((own_mxj (16 : Int64) (((1 : Int32)).toInt64)) * (((own_W p2)).toInt64)), .second, vr b5, vr b10, vi (0 : Int32)] [(.int p2), (.ref b10)])) _
    refine XS.aload X24.here hx rfl (hb hby d7_86) rfl rfl ?_
    refine XS.iload X24.here hx rfl (hb hby d7_88) rfl ?_
    refine XS.iloadN X24.here hx rfl (hb hby d7_90) rfl ?_
    refine XS.imul X24.here hx rfl (hb hby d7_91) rfl ?_
    exact k
  refine GoalS.lift (B := (T24.setTop (mkF m 92 #[vr a1, vi p2, vi (own_W p2), vj ((own_mxj (16 : Int64) (((1 : Int32)).toInt64)) * (((own_W p2)).toInt64)), .second, vr b5, vr b10, vi (0 : Int32)] [(.int (0 : Int32)), (.ref b5), (.int p2), (.ref b10)]))) (fun t k => by rw [Int32.zero_mul]; exact k) ?_
  have f29 : AV Z T24.heap b5 k5 .long (16 * (own_W p2).toNatClampNeg) (fun i => Value.long ((fun _ => (0 : Int64)) i)) := ((V5.ext E10).keep p24_0 (ninS ne_b5_b10 nin0))
  obtain ⟨_, _, ⟨T28, L28, k28, n28⟩, -, X28, ⟨Lc28, hQ28, l28, y28, z28⟩, st28⟩ := Jvm.LawKit.callS X24 hx (y := (⟨"com/example/always_over_paths/alwaysoverpaths/explicit/MarkingTable", "pack", "([II[JI)V"⟩ : MethodName)) hown (mvT hZ (hw _ (List.mem_of_getElem? (i := 56) rfl))) (mvT hZ (hw _ (List.mem_of_getElem? (i := 57) rfl))) (mvT hZ (hw _ (List.mem_of_getElem? (i := 4) rfl))) (mvT hZ (hw _ (List.mem_of_getElem? (i := 58) rfl))) (by decide) (backOf (W := 0) (rmpk l Z a0 hw [] b10 p2 b5 k10 k5 (own_un B (fP ((0 : Int32)).toNatClampNeg) (fP (((0 : Int32) + (1 : Int32))).toNatClampNeg)) (fun _ => (0 : Int64)) (16 * (own_W p2).toNatClampNeg) T24.heap n0 z26 p24_1 f29 (Ne.symm ne_b5_b10) g_b5 hB (show (own_W p2).toNatClampNeg ≤ (16 * (own_W p2).toNatClampNeg) by omega)) hZ (hw _ (List.mem_of_getElem? (i := 58) rfl)) (hw _ (List.mem_of_getElem? (i := 4) rfl)) (by decide) (by decide)) (g := (mkF m 92 #[vr a1, vi p2, vi (own_W p2), vj ((own_mxj (16 : Int64) (((1 : Int32)).toInt64)) * (((own_W p2)).toInt64)), .second, vr b5, vr b10, vi (0 : Int32)] [(.int (0 : Int32)), (.ref b5), (.int p2), (.ref b10)])) rfl (by rw [hml]; rfl) (argsL := [(.ref b10), (.int p2), (.ref b5), (.int (0 : Int32))]) (rest := []) (lenOf pd_5 rfl) rfl (by show 2 * 0 + _ ≤ _; exact Nat.le_of_eq rfl) (hb hby d7_92) (fun _ _ => ⟨rfl, rfl, (by decide : 2 + 0 ≤ _), (by decide : 35 + 0 ≤ _)⟩)
  dsimp only [Pt.U, Pt.locs, Pt.cells, Pt.slots] at X28 l28 y28 z28 st28 hQ28
  subst y28 z28
  obtain ⟨rfl, N28q, p28_0, p28_1⟩ := hQ28
  have N28 : Fr n0 L28 := by rw [l28]; exact Fr.app N24 N28q
  have z30 : n0 ≤ T28.heap.size := Nat.le_trans z26 p28_0.1
  have K31 : Keep h0 T28.heap [a1] := K27.trans p28_0 (allS (Or.inr sz_b5) all0)
  obtain ⟨fq32, hfq32⟩ : ∃ z, z = (own_pk p2 ((own_un B (fP ((0 : Int32)).toNatClampNeg) (fP (((0 : Int32) + (1 : Int32))).toNatClampNeg)) 0) ((own_un B (fP ((0 : Int32)).toNatClampNeg) (fP (((0 : Int32) + (1 : Int32))).toNatClampNeg)) 1) ((own_un B (fP ((0 : Int32)).toNatClampNeg) (fP (((0 : Int32) + (1 : Int32))).toNatClampNeg)) 2) (fun _ => (0 : Int64))) := ⟨_, rfl⟩
  have V32 : AV Z T28.heap b5 k5 .long (16 * (own_W p2).toNatClampNeg) (fun i => Value.long (fq32 i)) := by rw [hfq32]; exact p28_1
  have hpw : own_pw p2 x0 x1 x2 fq32 0 := by rw [hfq32]; exact own_rp hBo hxw bx
  have f33 : Fld Z T28.heap a1 "com/example/always_over_paths/alwaysoverpaths/explicit/MarkingTable" "size" "I" (.int (1 : Int32)) := ((f16.keep p24_0 (ninS ne_a1_b10 nin0)).keep p28_0 (ninS ne_a1_b5 nin0))
  obtain ⟨T34, X34, e34, st34⟩ := getF X28 hx hZ hown (host := "") (Or.inl (hw _ (List.mem_of_getElem? (i := 46) rfl))) Via.refl rfl f33 (g := (mkF m 57 #[vr a1, vi p2, vi (own_W p2), vj ((own_mxj (16 : Int64) (((1 : Int32)).toInt64)) * (((own_W p2)).toInt64)), .second, vr b5, vr b10, vi (1 : Int32)] [(.ref a1), (.int (1 : Int32))])) rfl rfl (hb hby d7_57)
  have f35 : Fld Z T28.heap a1 "com/example/always_over_paths/alwaysoverpaths/explicit/MarkingTable" "bits" "I" (.int B) := ((f22.keep p24_0 (ninS ne_a1_b10 nin0)).keep p28_0 (ninS ne_a1_b5 nin0))
  have f36 : Exa Z T28.heap a1 "com/example/always_over_paths/alwaysoverpaths/explicit/MarkingTable" := (((f11.ext E10).keep p24_0).keep p28_0)
  obtain ⟨T37, h37, X37, e37, W37, st37⟩ := putF X34 hx hZ hown (host := "") (Or.inl (hw _ (List.mem_of_getElem? (i := 13) rfl))) Via.refl e34 f35 f36 (Or.inl (hw _ (List.mem_of_getElem? (i := 14) rfl))) (hw _ (List.mem_of_getElem? (i := 3) rfl)) (ty := .int) (by decide) rfl rfl (g := (mkF m 103 #[vr a1, vi p2, vi (own_W p2), vj ((own_mxj (16 : Int64) (((1 : Int32)).toInt64)) * (((own_W p2)).toInt64)), .second, vr b5, vr b10, vi (1 : Int32)] [(.int p2), (.ref a1)])) rfl rfl (hb hby d7_103)
  have z38 : n0 ≤ h37.size := Nat.le_trans z30 (Keep.of_wr W37).1
  have K39 : Keep h0 h37 [a1] := K31.wr W37 (Or.inl (List.mem_of_getElem? (i := 0) rfl))
  have Fw37 : Fld Z h37 a1 "com/example/always_over_paths/alwaysoverpaths/explicit/MarkingTable" "bits" "I" (.int p2) := f35.same W37
  have N37 := Fr.snoc X37 N28 g_a1
  have f40 : Fld Z h37 a1 "com/example/always_over_paths/alwaysoverpaths/explicit/MarkingTable" "words" "I" (.int (own_W B)) := (((f20.keep p24_0 (ninS ne_a1_b10 nin0)).keep p28_0 (ninS ne_a1_b5 nin0)).other W37 (Or.inr (slot_ne (Or.inl (hw _ (List.mem_of_getElem? (i := 23) rfl))) (Or.inl (hw _ (List.mem_of_getElem? (i := 14) rfl))) (by decide) (t := .int) (t' := .int) (by decide) (by decide))))
  have f41 : Exa Z h37 a1 "com/example/always_over_paths/alwaysoverpaths/explicit/MarkingTable" := (f36.wr W37)
  obtain ⟨T42, h42, X42, e42, W42, st42⟩ := putF X37 hx hZ hown (host := "") (Or.inl (hw _ (List.mem_of_getElem? (i := 22) rfl))) Via.refl e37 f40 f41 (Or.inl (hw _ (List.mem_of_getElem? (i := 23) rfl))) (hw _ (List.mem_of_getElem? (i := 3) rfl)) (ty := .int) (by decide) rfl rfl (g := (mkF m 108 #[vr a1, vi p2, vi (own_W p2), vj ((own_mxj (16 : Int64) (((1 : Int32)).toInt64)) * (((own_W p2)).toInt64)), .second, vr b5, vr b10, vi (1 : Int32)] [(.int (own_W p2)), (.ref a1)])) rfl rfl (hb hby d7_108)
  have z43 : n0 ≤ h42.size := Nat.le_trans z38 (Keep.of_wr W42).1
  have K44 : Keep h0 h42 [a1] := K39.wr W42 (Or.inl (List.mem_of_getElem? (i := 0) rfl))
  have Fw42 : Fld Z h42 a1 "com/example/always_over_paths/alwaysoverpaths/explicit/MarkingTable" "words" "I" (.int (own_W p2)) := f40.same W42
  have N42 := Fr.snoc X42 N37 g_a1
  have f45 : Fld Z h42 a1 "com/example/always_over_paths/alwaysoverpaths/explicit/MarkingTable" "packed" "[J" (.ref P) := ((((f18.keep p24_0 (ninS ne_a1_b10 nin0)).keep p28_0 (ninS ne_a1_b5 nin0)).other W37 (Or.inr (slot_ne (Or.inl (hw _ (List.mem_of_getElem? (i := 26) rfl))) (Or.inl (hw _ (List.mem_of_getElem? (i := 14) rfl))) (by decide) (t := (.array .long)) (t' := .int) (by decide) (by decide)))).other W42 (Or.inr (slot_ne (Or.inl (hw _ (List.mem_of_getElem? (i := 26) rfl))) (Or.inl (hw _ (List.mem_of_getElem? (i := 23) rfl))) (by decide) (t := (.array .long)) (t' := .int) (by decide) (by decide))))
  have f46 : Exa Z h42 a1 "com/example/always_over_paths/alwaysoverpaths/explicit/MarkingTable" := (f41.wr W42)
  obtain ⟨T47, h47, X47, e47, W47, st47⟩ := putF X42 hx hZ hown (host := "") (Or.inl (hw _ (List.mem_of_getElem? (i := 25) rfl))) Via.refl e42 f45 f46 (Or.inl (hw _ (List.mem_of_getElem? (i := 26) rfl))) (hw _ (List.mem_of_getElem? (i := 3) rfl)) (ty := (.array .long)) (by decide) rfl rfl (g := (mkF m 114 #[vr a1, vi p2, vi (own_W p2), vj ((own_mxj (16 : Int64) (((1 : Int32)).toInt64)) * (((own_W p2)).toInt64)), .second, vr b5, vr b10, vi (1 : Int32)] [(.ref b5), (.ref a1)])) rfl rfl (hb hby d7_114)
  have z48 : n0 ≤ h47.size := Nat.le_trans z43 (Keep.of_wr W47).1
  have K49 : Keep h0 h47 [a1] := K44.wr W47 (Or.inl (List.mem_of_getElem? (i := 0) rfl))
  have Fw47 : Fld Z h47 a1 "com/example/always_over_paths/alwaysoverpaths/explicit/MarkingTable" "packed" "[J" (.ref b5) := f45.same W47
  have N47 := Fr.snoc X47 N42 g_a1
  have hW2'_p2 := own_Wle p2
  obtain ⟨T50, h50, k50, X50, e50, E50, A50, st50⟩ := newP X47 hx hZ (hw _ (List.mem_of_getElem? (i := 24) rfl)) e47 (g := (mkF m 119 #[vr a1, vi p2, vi (own_W p2), vj ((own_mxj (16 : Int64) (((1 : Int32)).toInt64)) * (((own_W p2)).toInt64)), .second, vr b5, vr b10, vi (1 : Int32)] [(.int (own_W p2)), (.ref a1)])) rfl (hb hby d7_119) rfl (own_Wneg p2) (cap := 2) (own_Wle p2) (by decide) (by decide) (by decide)
  obtain ⟨b50, g50⟩ : ∃ z, z = h47.size := ⟨_, rfl⟩
  rw [← g50] at A50 st50
  have g_b50 : n0 ≤ b50 := Nat.le_trans z48 (Nat.le_of_eq g50.symm)
  have sz_b50 : h0.size ≤ b50 := Nat.le_trans K49.1 (Nat.le_of_eq g50.symm)
  have f51 : Exa Z h47 a1 "com/example/always_over_paths/alwaysoverpaths/explicit/MarkingTable" := (f46.wr W47)
  have ne_a1_b50 : a1 ≠ b50 := Nat.ne_of_lt (Nat.lt_of_lt_of_le f51.lt (Nat.le_of_eq g50.symm))
  have f52 : AV Z h47 P kP .long (16 * (own_W B).toNatClampNeg) (fun i => Value.long (fP i)) := (((((f25.keep p24_0 (ninS ne_P_b10 nin0)).keep p28_0 (ninS ne_P_b5 nin0)).other W37 (Ne.symm ne_a1_P)).other W42 (Ne.symm ne_a1_P)).other W47 (Ne.symm ne_a1_P))
  have ne_P_b50 : P ≠ b50 := Nat.ne_of_lt (Nat.lt_of_lt_of_le f52.lt (Nat.le_of_eq g50.symm))
  have f53 : AV Z h47 S kS .int 32 (fun i => Value.int (fS i)) := ((((((f13.ext E10).keep p24_0 (ninS ne_S_b10 nin0)).keep p28_0 (ninS ne_S_b5 nin0)).other W37 (Ne.symm ne_a1_S)).other W42 (Ne.symm ne_a1_S)).other W47 (Ne.symm ne_a1_S))
  have ne_S_b50 : S ≠ b50 := Nat.ne_of_lt (Nat.lt_of_lt_of_le f53.lt (Nat.le_of_eq g50.symm))
  have f54 : AV Z h47 b5 k5 .long (16 * (own_W p2).toNatClampNeg) (fun i => Value.long (fq32 i)) := (((V32.other W37 (Ne.symm ne_a1_b5)).other W42 (Ne.symm ne_a1_b5)).other W47 (Ne.symm ne_a1_b5))
  have ne_b5_b50 : b5 ≠ b50 := Nat.ne_of_lt (Nat.lt_of_lt_of_le f54.lt (Nat.le_of_eq g50.symm))
  have f55 : AV Z h47 b10 k10 .int 3 (fun i => Value.int ((own_un B (fP ((0 : Int32)).toNatClampNeg) (fP (((0 : Int32) + (1 : Int32))).toNatClampNeg)) i)) := ((((p24_1.keep p28_0 (ninS (Ne.symm ne_b5_b10) nin0)).other W37 (Ne.symm ne_a1_b10)).other W42 (Ne.symm ne_a1_b10)).other W47 (Ne.symm ne_a1_b10))
  have ne_b10_b50 : b10 ≠ b50 := Nat.ne_of_lt (Nat.lt_of_lt_of_le f55.lt (Nat.le_of_eq g50.symm))
  have z56 : n0 ≤ h50.size := Nat.le_trans z48 E50.1
  have K57 : Keep h0 h50 [a1] := K49.ext E50
  have V50 : AV Z h50 b50 k50 .long (own_W p2).toNatClampNeg (fun i => Value.long ((fun _ => (0 : Int64)) i)) := AV.new A50 (own_Wneg p2) (Eq.refl _) (by omega)
  have f58 : Fld Z h50 a1 "com/example/always_over_paths/alwaysoverpaths/explicit/MarkingTable" "probe" "[J" (.ref R) := ((((((((F_probe_a1.ext E5).ext E10).keep p24_0 (ninS ne_a1_b10 nin0)).keep p28_0 (ninS ne_a1_b5 nin0)).other W37 (Or.inr (slot_ne (Or.inl (hw _ (List.mem_of_getElem? (i := 28) rfl))) (Or.inl (hw _ (List.mem_of_getElem? (i := 14) rfl))) (by decide) (t := (.array .long)) (t' := .int) (by decide) (by decide)))).other W42 (Or.inr (slot_ne (Or.inl (hw _ (List.mem_of_getElem? (i := 28) rfl))) (Or.inl (hw _ (List.mem_of_getElem? (i := 23) rfl))) (by decide) (t := (.array .long)) (t' := .int) (by decide) (by decide)))).other W47 (Or.inr (slot_ne (Or.inl (hw _ (List.mem_of_getElem? (i := 28) rfl))) (Or.inl (hw _ (List.mem_of_getElem? (i := 26) rfl))) (by decide) (t := (.array .long)) (t' := (.array .long)) (by decide) (by decide)))).ext E50)
  have f59 : Exa Z h50 a1 "com/example/always_over_paths/alwaysoverpaths/explicit/MarkingTable" := (f51.ext E50)
  obtain ⟨T60, h60, X60, e60, W60, st60⟩ := putF X50 hx hZ hown (host := "") (Or.inl (hw _ (List.mem_of_getElem? (i := 27) rfl))) Via.refl e50 f58 f59 (Or.inl (hw _ (List.mem_of_getElem? (i := 28) rfl))) (hw _ (List.mem_of_getElem? (i := 3) rfl)) (ty := (.array .long)) (by decide) rfl rfl (g := (mkF m 121 #[vr a1, vi p2, vi (own_W p2), vj ((own_mxj (16 : Int64) (((1 : Int32)).toInt64)) * (((own_W p2)).toInt64)), .second, vr b5, vr b10, vi (1 : Int32)] [(.ref b50), (.ref a1)])) rfl rfl (hb hby d7_121)
  have z61 : n0 ≤ h60.size := Nat.le_trans z56 (Keep.of_wr W60).1
  have K62 : Keep h0 h60 [a1] := K57.wr W60 (Or.inl (List.mem_of_getElem? (i := 0) rfl))
  have Fw60 : Fld Z h60 a1 "com/example/always_over_paths/alwaysoverpaths/explicit/MarkingTable" "probe" "[J" (.ref b50) := f58.same W60
  have N60 := Fr.snoc X60 N47 g_a1
  have f63 : Fld Z h60 a1 "com/example/always_over_paths/alwaysoverpaths/explicit/MarkingTable" "slots" "[I" (.ref S) := (((((((((F_slots_a1.ext E5).ext E10).keep p24_0 (ninS ne_a1_b10 nin0)).keep p28_0 (ninS ne_a1_b5 nin0)).other W37 (Or.inr (slot_ne (Or.inl (hw _ (List.mem_of_getElem? (i := 30) rfl))) (Or.inl (hw _ (List.mem_of_getElem? (i := 14) rfl))) (by decide) (t := (.array .int)) (t' := .int) (by decide) (by decide)))).other W42 (Or.inr (slot_ne (Or.inl (hw _ (List.mem_of_getElem? (i := 30) rfl))) (Or.inl (hw _ (List.mem_of_getElem? (i := 23) rfl))) (by decide) (t := (.array .int)) (t' := .int) (by decide) (by decide)))).other W47 (Or.inr (slot_ne (Or.inl (hw _ (List.mem_of_getElem? (i := 30) rfl))) (Or.inl (hw _ (List.mem_of_getElem? (i := 26) rfl))) (by decide) (t := (.array .int)) (t' := (.array .long)) (by decide) (by decide)))).ext E50).other W60 (Or.inr (slot_ne (Or.inl (hw _ (List.mem_of_getElem? (i := 30) rfl))) (Or.inl (hw _ (List.mem_of_getElem? (i := 28) rfl))) (by decide) (t := (.array .int)) (t' := (.array .long)) (by decide) (by decide))))
  obtain ⟨T64, X64, e64, st64⟩ := getF X60 hx hZ hown (host := "") (Or.inl (hw _ (List.mem_of_getElem? (i := 29) rfl))) Via.refl e60 f63 (g := (mkF m 126 #[vr a1, vi p2, vi (own_W p2), vj ((own_mxj (16 : Int64) (((1 : Int32)).toInt64)) * (((own_W p2)).toInt64)), .second, vr b5, vr b10, vi (1 : Int32)] [(.ref a1), (.ref a1)])) rfl rfl (hb hby d7_126)
  have f66 : AV Z h60 S kS .int 32 (fun i => Value.int (fS i)) := ((f53.ext E50).other W60 (Ne.symm ne_a1_S))
  obtain ⟨cl65, Ar65, -, sz65, -, -⟩ := id f66
  have le65 : cl65.slots.size.toInt32 = (32 : Int32) := by rw [sz65]; exact rfl
  have f68 : Exa Z h60 a1 "com/example/always_over_paths/alwaysoverpaths/explicit/MarkingTable" := (f59.wr W60)
  have f69 : Fld Z h60 a1 "com/example/always_over_paths/alwaysoverpaths/explicit/MarkingTable" "places" "I" (.int (3 : Int32)) := ((((((((f8.ext E10).keep p24_0 (ninS ne_a1_b10 nin0)).keep p28_0 (ninS ne_a1_b5 nin0)).other W37 (Or.inr (slot_ne (Or.inr (hw _ (List.mem_of_getElem? (i := 12) rfl))) (Or.inl (hw _ (List.mem_of_getElem? (i := 14) rfl))) (by decide) (t := .int) (t' := .int) (by decide) (by decide)))).other W42 (Or.inr (slot_ne (Or.inr (hw _ (List.mem_of_getElem? (i := 12) rfl))) (Or.inl (hw _ (List.mem_of_getElem? (i := 23) rfl))) (by decide) (t := .int) (t' := .int) (by decide) (by decide)))).other W47 (Or.inr (slot_ne (Or.inr (hw _ (List.mem_of_getElem? (i := 12) rfl))) (Or.inl (hw _ (List.mem_of_getElem? (i := 26) rfl))) (by decide) (t := .int) (t' := (.array .long)) (by decide) (by decide)))).ext E50).other W60 (Or.inr (slot_ne (Or.inr (hw _ (List.mem_of_getElem? (i := 12) rfl))) (Or.inl (hw _ (List.mem_of_getElem? (i := 28) rfl))) (by decide) (t := .int) (t' := (.array .long)) (by decide) (by decide))))
  have f70 : Fld Z h60 a1 "com/example/always_over_paths/alwaysoverpaths/explicit/MarkingTable" "bits" "I" (.int p2) := ((((Fw37.other W42 (Or.inr (slot_ne (Or.inl (hw _ (List.mem_of_getElem? (i := 14) rfl))) (Or.inl (hw _ (List.mem_of_getElem? (i := 23) rfl))) (by decide) (t := .int) (t' := .int) (by decide) (by decide)))).other W47 (Or.inr (slot_ne (Or.inl (hw _ (List.mem_of_getElem? (i := 14) rfl))) (Or.inl (hw _ (List.mem_of_getElem? (i := 26) rfl))) (by decide) (t := .int) (t' := (.array .long)) (by decide) (by decide)))).ext E50).other W60 (Or.inr (slot_ne (Or.inl (hw _ (List.mem_of_getElem? (i := 14) rfl))) (Or.inl (hw _ (List.mem_of_getElem? (i := 28) rfl))) (by decide) (t := .int) (t' := (.array .long)) (by decide) (by decide))))
  have f71 : Fld Z h60 a1 "com/example/always_over_paths/alwaysoverpaths/explicit/MarkingTable" "words" "I" (.int (own_W p2)) := (((Fw42.other W47 (Or.inr (slot_ne (Or.inl (hw _ (List.mem_of_getElem? (i := 23) rfl))) (Or.inl (hw _ (List.mem_of_getElem? (i := 26) rfl))) (by decide) (t := .int) (t' := (.array .long)) (by decide) (by decide)))).ext E50).other W60 (Or.inr (slot_ne (Or.inl (hw _ (List.mem_of_getElem? (i := 23) rfl))) (Or.inl (hw _ (List.mem_of_getElem? (i := 28) rfl))) (by decide) (t := .int) (t' := (.array .long)) (by decide) (by decide))))
  have f72 : Fld Z h60 a1 "com/example/always_over_paths/alwaysoverpaths/explicit/MarkingTable" "packed" "[J" (.ref b5) := ((Fw47.ext E50).other W60 (Or.inr (slot_ne (Or.inl (hw _ (List.mem_of_getElem? (i := 26) rfl))) (Or.inl (hw _ (List.mem_of_getElem? (i := 28) rfl))) (by decide) (t := (.array .long)) (t' := (.array .long)) (by decide) (by decide))))
  have f73 : Fld Z h60 a1 "com/example/always_over_paths/alwaysoverpaths/explicit/MarkingTable" "size" "I" (.int (1 : Int32)) := (((((f33.other W37 (Or.inr (slot_ne (Or.inl (hw _ (List.mem_of_getElem? (i := 47) rfl))) (Or.inl (hw _ (List.mem_of_getElem? (i := 14) rfl))) (by decide) (t := .int) (t' := .int) (by decide) (by decide)))).other W42 (Or.inr (slot_ne (Or.inl (hw _ (List.mem_of_getElem? (i := 47) rfl))) (Or.inl (hw _ (List.mem_of_getElem? (i := 23) rfl))) (by decide) (t := .int) (t' := .int) (by decide) (by decide)))).other W47 (Or.inr (slot_ne (Or.inl (hw _ (List.mem_of_getElem? (i := 47) rfl))) (Or.inl (hw _ (List.mem_of_getElem? (i := 26) rfl))) (by decide) (t := .int) (t' := (.array .long)) (by decide) (by decide)))).ext E50).other W60 (Or.inr (slot_ne (Or.inl (hw _ (List.mem_of_getElem? (i := 47) rfl))) (Or.inl (hw _ (List.mem_of_getElem? (i := 28) rfl))) (by decide) (t := .int) (t' := (.array .long)) (by decide) (by decide))))
  have f74 : AV Z h60 b5 k5 .long (16 * (own_W p2).toNatClampNeg) (fun i => Value.long (fq32 i)) := ((f54.ext E50).other W60 (Ne.symm ne_a1_b5))
  obtain ⟨cq67, q67, q67'⟩ := f68.cell
  obtain ⟨_, _, ⟨T67, L67, k67, n67⟩, -, X67, ⟨Lc67, hQ67, l67, y67, z67⟩, st67⟩ := X64.privateBack hx (y := (⟨"com/example/always_over_paths/alwaysoverpaths/explicit/MarkingTable", "fillSlots", "(I)V"⟩ : MethodName)) hown (mvT hZ (hw _ (List.mem_of_getElem? (i := 52) rfl))) (mvT hZ (hw _ (List.mem_of_getElem? (i := 53) rfl))) (own_selp (y := (⟨"com/example/always_over_paths/alwaysoverpaths/explicit/MarkingTable", "fillSlots", "(I)V"⟩ : MethodName)) (mvT hZ (hw _ (List.mem_of_getElem? (i := 3) rfl))) (mvP hZ (hw _ (List.mem_of_getElem? (i := 54) rfl))) (mvT hZ (hw _ (List.mem_of_getElem? (i := 53) rfl))) (by decide)) (Cond.privateMethod_at (mvP hZ (hw _ (List.mem_of_getElem? (i := 54) rfl)) (args := #[]))) (mvT hZ (hw _ (List.mem_of_getElem? (i := 55) rfl))) (by decide) (backOf (W := 0) (rmfs1 l Z a0 hw [] a1 p2 b5 b50 S k5 fq32 x0 x1 x2 h60 n0 z61 f68 f69 f70 f71 f72 Fw60 f73 f63 f74 g_a1 ne_a1_b5 hpw) hZ (hw _ (List.mem_of_getElem? (i := 55) rfl)) (hw _ (List.mem_of_getElem? (i := 4) rfl)) (by decide) (by decide)) (g := (mkF m 130 #[vr a1, vi p2, vi (own_W p2), vj ((own_mxj (16 : Int64) (((1 : Int32)).toInt64)) * (((own_W p2)).toInt64)), .second, vr b5, vr b10, vi (1 : Int32)] [(.int (32 : Int32)), (.ref a1)])) rfl (by rw [hml]; rfl) (Steps.refl _) (a := a1) (by rw [e64]; exact q67) q67' (argsL := [(.int (32 : Int32))]) (rest := []) (lenOf pd_4 rfl) rfl (by show 2 * 0 + _ ≤ _; exact Nat.le_of_eq rfl) (hb hby d7_130) (fun _ _ => ⟨rfl, e64, (by decide : 3 + 1 ≤ _), (by decide : 37 + 32 ≤ _)⟩)
  dsimp only [Pt.U, Pt.locs, Pt.cells, Pt.slots] at X67 l67 y67 z67 st67 hQ67
  subst y67 z67
  obtain ⟨S'_67, kS'_67, rfl, N67q, p67_0, p67_1, p67_2, p67_3, p67_4, p67_5, p67_6, p67_7, p67_8, p67_9, p67_10⟩ := hQ67
  have N67 : Fr n0 L67 := by rw [l67]; exact Fr.app N60 N67q
  have f75 : AV Z h60 P kP .long (16 * (own_W B).toNatClampNeg) (fun i => Value.long (fP i)) := ((f52.ext E50).other W60 (Ne.symm ne_a1_P))
  have f76 : AV Z h60 b10 k10 .int 3 (fun i => Value.int ((own_un B (fP ((0 : Int32)).toNatClampNeg) (fP (((0 : Int32) + (1 : Int32))).toNatClampNeg)) i)) := ((f55.ext E50).other W60 (Ne.symm ne_a1_b10))
  have f77 : AV Z h60 b50 k50 .long (own_W p2).toNatClampNeg (fun i => Value.long ((fun _ => (0 : Int64)) i)) := (V50.other W60 (Ne.symm ne_a1_b50))
  have z78 : n0 ≤ T67.heap.size := Nat.le_trans z61 p67_0.1
  have K79 : Keep h0 T67.heap [a1] := K62.trans p67_0 (allS (Or.inl (List.mem_of_getElem? (i := 0) rfl)) all0)
  have ne_a1_S'_67 : a1 ≠ S'_67 := Nat.ne_of_lt (Nat.lt_of_lt_of_le f68.lt p67_1)
  have ne_P_S'_67 : P ≠ S'_67 := Nat.ne_of_lt (Nat.lt_of_lt_of_le f75.lt p67_1)
  have ne_S_S'_67 : S ≠ S'_67 := Nat.ne_of_lt (Nat.lt_of_lt_of_le f66.lt p67_1)
  have ne_b5_S'_67 : b5 ≠ S'_67 := Nat.ne_of_lt (Nat.lt_of_lt_of_le f74.lt p67_1)
  have ne_b10_S'_67 : b10 ≠ S'_67 := Nat.ne_of_lt (Nat.lt_of_lt_of_le f76.lt p67_1)
  have ne_b50_S'_67 : b50 ≠ S'_67 := Nat.ne_of_lt (Nat.lt_of_lt_of_le f77.lt p67_1)
  have g_S'_67 : n0 ≤ S'_67 := Nat.le_trans z61 p67_1
  have sz_S'_67 : h0.size ≤ S'_67 := Nat.le_trans K62.1 p67_1
  obtain ⟨fs, hr, hrun, hended, hW, hsame⟩ := X67.leave (v := none) (fun _ => rfl)
  refine ⟨_, _, ?_, hrun, hended, _, _, rfl, ?_, ⟨_, rfl⟩, hW, hsame.mono (by decide) (by decide)⟩
  · show Steps p.tables e below (T24.setTop (mkF m 92 #[vr a1, vi p2, vi (own_W p2), vj ((own_mxj (16 : Int64) (((1 : Int32)).toInt64)) * (((own_W p2)).toInt64)), .second, vr b5, vr b10, vi (0 : Int32)] [(.int (0 : Int32)), (.ref b5), (.int p2), (.ref b10)])) _
    refine st28 _ ?_
    refine XS.iinc X28.here hx rfl (hb hby d7_95) rfl (l' := #[vr a1, vi p2, vi (own_W p2), vj ((own_mxj (16 : Int64) (((1 : Int32)).toInt64)) * (((own_W p2)).toInt64)), .second, vr b5, vr b10, vi (1 : Int32)]) rfl ?_
    refine XS.goto X28.here hx rfl (pc0 := 98) (pc' := 54) rfl (hb hby d7_98) (by decide) (by decide) ?_
    refine XS.iload X28.here hx rfl (hb hby d7_54) rfl ?_
    refine XS.aloadN X28.here hx rfl (hb hby d7_56) rfl rfl ?_
    refine st34 _ ?_
    show Steps p.tables e below (T34.setTop (mkF m 60 #[vr a1, vi p2, vi (own_W p2), vj ((own_mxj (16 : Int64) (((1 : Int32)).toInt64)) * (((own_W p2)).toInt64)), .second, vr b5, vr b10, vi (1 : Int32)] [(.int (1 : Int32)), (.int (1 : Int32))])) _
    refine XS.icmpYes X34.here hx rfl (pc0 := 60) (pc' := 101) rfl (hb hby d7_60) rfl ((flt (by decide : ¬ ((1 : Int32) < (1 : Int32)))).2.1) (by decide) (by decide) ?_
    refine XS.aloadN X34.here hx rfl (hb hby d7_101) rfl rfl ?_
    refine XS.iloadN X34.here hx rfl (hb hby d7_102) rfl ?_
    refine st37 _ ?_
    refine XS.aloadN X37.here hx rfl (hb hby d7_106) rfl rfl ?_
    refine XS.iloadN X37.here hx rfl (hb hby d7_107) rfl ?_
    show Steps p.tables e below (T37.setTop (mkF m 108 #[vr a1, vi p2, vi (own_W p2), vj ((own_mxj (16 : Int64) (((1 : Int32)).toInt64)) * (((own_W p2)).toInt64)), .second, vr b5, vr b10, vi (1 : Int32)] [(.int (own_W p2)), (.ref a1)])) _
    refine st42 _ ?_
    refine XS.aloadN X42.here hx rfl (hb hby d7_111) rfl rfl ?_
    refine XS.aload X42.here hx rfl (hb hby d7_112) rfl rfl ?_
    refine st47 _ ?_
    refine XS.aloadN X47.here hx rfl (hb hby d7_117) rfl rfl ?_
    refine XS.iloadN X47.here hx rfl (hb hby d7_118) rfl ?_
    show Steps p.tables e below (T47.setTop (mkF m 119 #[vr a1, vi p2, vi (own_W p2), vj ((own_mxj (16 : Int64) (((1 : Int32)).toInt64)) * (((own_W p2)).toInt64)), .second, vr b5, vr b10, vi (1 : Int32)] [(.int (own_W p2)), (.ref a1)])) _
    refine st50 _ ?_
    refine st60 _ ?_
    refine XS.aloadN X60.here hx rfl (hb hby d7_124) rfl rfl ?_
    refine XS.aloadN X60.here hx rfl (hb hby d7_125) rfl rfl ?_
    refine st64 _ ?_
    refine X64.arraylength hx (by rw [e64]; exact Ar65.1) (State.isArrayOf_alike hZ.alike Ar65.2.1) (g := (mkF m 129 #[vr a1, vi p2, vi (own_W p2), vj ((own_mxj (16 : Int64) (((1 : Int32)).toInt64)) * (((own_W p2)).toInt64)), .second, vr b5, vr b10, vi (1 : Int32)] [(.ref S), (.ref a1)])) rfl rfl (hb hby d7_129) _ ?_
    rw [le65]
    show Steps p.tables e below (T64.setTop (mkF m 130 #[vr a1, vi p2, vi (own_W p2), vj ((own_mxj (16 : Int64) (((1 : Int32)).toInt64)) * (((own_W p2)).toInt64)), .second, vr b5, vr b10, vi (1 : Int32)] [(.int (32 : Int32)), (.ref a1)])) _
    refine st67.trans ?_
    exact X67.returnOut hx Bd.returns (hb hby d7_133) hr
  · have f81 : AV Z T67.heap b5 k5 .long (16 * (own_W p2).toNatClampNeg) (fun i => Value.long (fq32 i)) := (f74.keep p67_0 (ninS (Ne.symm ne_a1_b5) nin0))
    have f82 : AV Z T67.heap b50 k50 .long (own_W p2).toNatClampNeg (fun i => Value.long ((fun _ => (0 : Int64)) i)) := (f77.keep p67_0 (ninS (Ne.symm ne_a1_b50) nin0))
    show Qwd1 Z a1 p2 B P R S kP kR kS fP fR fS x0 x1 x2 h0 n0 _ T67.heap _
    exact ⟨b5, b50, S'_67, k5, k50, kS'_67, fq32, rfl, N67, K79, sz_b5, sz_b50, sz_S'_67, ne_b5_b50, ne_b5_S'_67, ne_b50_S'_67, p67_2, p67_3, p67_4, p67_5, p67_6, p67_7, p67_8, p67_9, f81, f82, p67_10, hpw⟩
theorem d1_0 : decode prog_21_method_1_code 0 = .ok (.aload_n 0, 1) := by decide +kernel
theorem d1_1 : decode prog_21_method_1_code 1 = .ok (.invokespecial 3, 3) := by decide +kernel
theorem d1_4 : decode prog_21_method_1_code 4 = .ok (.aload_n 0, 1) := by decide +kernel
theorem d1_5 : decode prog_21_method_1_code 5 = .ok (.iload_n 1, 1) := by decide +kernel
theorem d1_6 : decode prog_21_method_1_code 6 = .ok (.putfield 9, 3) := by decide +kernel
theorem d1_9 : decode prog_21_method_1_code 9 = .ok (.aload_n 0, 1) := by decide +kernel
theorem d1_10 : decode prog_21_method_1_code 10 = .ok (.iconst 1, 1) := by decide +kernel
theorem d1_11 : decode prog_21_method_1_code 11 = .ok (.putfield 15, 3) := by decide +kernel
theorem d1_14 : decode prog_21_method_1_code 14 = .ok (.aload_n 0, 1) := by decide +kernel
theorem d1_15 : decode prog_21_method_1_code 15 = .ok (.iload_n 1, 1) := by decide +kernel
theorem d1_16 : decode prog_21_method_1_code 16 = .ok (.aload_n 0, 1) := by decide +kernel
theorem d1_17 : decode prog_21_method_1_code 17 = .ok (.getfield 15, 3) := by decide +kernel
theorem d1_20 : decode prog_21_method_1_code 20 = .ok (.invokestatic 18, 3) := by decide +kernel
theorem d1_23 : decode prog_21_method_1_code 23 = .ok (.putfield 22, 3) := by decide +kernel
theorem d1_26 : decode prog_21_method_1_code 26 = .ok (.aload_n 0, 1) := by decide +kernel
theorem d1_27 : decode prog_21_method_1_code 27 = .ok (.bipush 16, 2) := by decide +kernel
theorem d1_29 : decode prog_21_method_1_code 29 = .ok (.aload_n 0, 1) := by decide +kernel
theorem d1_30 : decode prog_21_method_1_code 30 = .ok (.getfield 22, 3) := by decide +kernel
theorem d1_33 : decode prog_21_method_1_code 33 = .ok (.imul, 1) := by decide +kernel
theorem d1_34 : decode prog_21_method_1_code 34 = .ok (.newarray .long, 2) := by decide +kernel
theorem d1_36 : decode prog_21_method_1_code 36 = .ok (.putfield 25, 3) := by decide +kernel
theorem d1_39 : decode prog_21_method_1_code 39 = .ok (.aload_n 0, 1) := by decide +kernel
theorem d1_40 : decode prog_21_method_1_code 40 = .ok (.aload_n 0, 1) := by decide +kernel
theorem d1_41 : decode prog_21_method_1_code 41 = .ok (.getfield 22, 3) := by decide +kernel
theorem d1_44 : decode prog_21_method_1_code 44 = .ok (.newarray .long, 2) := by decide +kernel
theorem d1_46 : decode prog_21_method_1_code 46 = .ok (.putfield 29, 3) := by decide +kernel
theorem d1_49 : decode prog_21_method_1_code 49 = .ok (.aload_n 0, 1) := by decide +kernel
theorem d1_50 : decode prog_21_method_1_code 50 = .ok (.bipush 32, 2) := by decide +kernel
theorem d1_52 : decode prog_21_method_1_code 52 = .ok (.newarray .int, 2) := by decide +kernel
theorem d1_54 : decode prog_21_method_1_code 54 = .ok (.putfield 32, 3) := by decide +kernel
theorem d1_57 : decode prog_21_method_1_code 57 = .ok (.return_, 1) := by decide +kernel
theorem ef_rmct (m : MethodId) (a1 : Addr) : entryFrame m #[(.ref a1), (.int (3 : Int32))] 2 = mkF m 0 #[vr a1, vi (3 : Int32)] [] := by first | (simp [entryFrame, mkF, argsToLocals, Value.category]; done) | rfl
def Qct (Z : State) (a1 : Addr) (h0 : Heap) (n0 : Nat) (v : Option Value) (h : Heap) (L : List Loc) : Prop := ∃ (P' : Addr), ∃ (R' : Addr), ∃ (S' : Addr), ∃ (kP' : ClassId), ∃ (kR' : ClassId), ∃ (kS' : ClassId), v = none ∧ Fr n0 L ∧ Keep h0 h [a1] ∧ h0.size ≤ P' ∧ h0.size ≤ R' ∧ h0.size ≤ S' ∧ P' ≠ R' ∧ P' ≠ S' ∧ R' ≠ S' ∧ (Exa Z h a1 "com/example/always_over_paths/alwaysoverpaths/explicit/MarkingTable") ∧ (Fld Z h a1 "com/example/always_over_paths/alwaysoverpaths/explicit/MarkingTable" "places" "I" (.int (3 : Int32))) ∧ (Fld Z h a1 "com/example/always_over_paths/alwaysoverpaths/explicit/MarkingTable" "bits" "I" (.int (1 : Int32))) ∧ (Fld Z h a1 "com/example/always_over_paths/alwaysoverpaths/explicit/MarkingTable" "words" "I" (.int (own_W (1 : Int32)))) ∧ (Fld Z h a1 "com/example/always_over_paths/alwaysoverpaths/explicit/MarkingTable" "packed" "[J" (.ref P')) ∧ (Fld Z h a1 "com/example/always_over_paths/alwaysoverpaths/explicit/MarkingTable" "probe" "[J" (.ref R')) ∧ (Fld Z h a1 "com/example/always_over_paths/alwaysoverpaths/explicit/MarkingTable" "size" "I" (.int (0 : Int32))) ∧ (Fld Z h a1 "com/example/always_over_paths/alwaysoverpaths/explicit/MarkingTable" "slots" "[I" (.ref S')) ∧ (AV Z h P' kP' .long (16 * (own_W (1 : Int32)).toNatClampNeg) (fun i => Value.long ((fun _ => (0 : Int64)) i))) ∧ (AV Z h R' kR' .long (own_W (1 : Int32)).toNatClampNeg (fun i => Value.long ((fun _ => (0 : Int64)) i))) ∧ (AV Z h S' kS' .int 32 (fun i => Value.int ((fun _ => (0 : Int32)) i)))
set_option maxRecDepth 65536 in
set_option maxHeartbeats 40000000 in
theorem rmct (l : Launch) (Z : State) (a0 : Array Value) (hw : ∀ d ∈ tables_1, d.before a0 Z = true) (ws : List Jvm.Cond) (a1 : Addr) (h0 : Heap) (n0 : Nat) (Z0 : n0 ≤ h0.size) (E_a1 : Exa Z h0 a1 "com/example/always_over_paths/alwaysoverpaths/explicit/MarkingTable") (g_a1 : n0 ≤ a1) (F_places_a1 : Fld Z h0 a1 "com/example/always_over_paths/alwaysoverpaths/explicit/MarkingTable" "places" "I" (.int (0 : Int32))) (F_bits_a1 : Fld Z h0 a1 "com/example/always_over_paths/alwaysoverpaths/explicit/MarkingTable" "bits" "I" (.int (0 : Int32))) (F_words_a1 : Fld Z h0 a1 "com/example/always_over_paths/alwaysoverpaths/explicit/MarkingTable" "words" "I" (.int (0 : Int32))) (F_packed_a1 : Fld Z h0 a1 "com/example/always_over_paths/alwaysoverpaths/explicit/MarkingTable" "packed" "[J" .null) (F_probe_a1 : Fld Z h0 a1 "com/example/always_over_paths/alwaysoverpaths/explicit/MarkingTable" "probe" "[J" .null) (F_slots_a1 : Fld Z h0 a1 "com/example/always_over_paths/alwaysoverpaths/explicit/MarkingTable" "slots" "[I" .null) (F_size_a1 : Fld Z h0 a1 "com/example/always_over_paths/alwaysoverpaths/explicit/MarkingTable" "size" "I" (.int (0 : Int32))) :
    MetFree l (⟨"com/example/always_over_paths/alwaysoverpaths/explicit/MarkingTable", "<init>", "(I)V"⟩ : MethodName) (head1 (Jvm.Cond.code (⟨"com/example/always_over_paths/alwaysoverpaths/explicit/MarkingTable", "<init>", "(I)V"⟩ : MethodName) prog_21_method_1_code 2 none :: ws) ({ frames := 2, cells := 3, slots := 66, locals := 28 } : Room)) (fun a U => a = #[(.ref a1), (.int (3 : Int32))] ∧ Z.Warmed39 U.vm ∧ U.heap = h0) (fun _ _ _ _ _ => True) (fun _ U o U' => ∃ v L, o = .returned v ∧ Qct Z a1 h0 n0 v U'.heap L ∧ FrameEnd U o U' L ({ frames := 2, cells := 3, slots := 66, locals := 28 } : Room).cells ({ frames := 2, cells := 3, slots := 66, locals := 28 } : Room).slots) := by
  refine MetFree.of_bodySF (plainFor_of_name pn_1) hisR ?_
  intro p e s m args below meth c s₁ Bd hml0 hP hK
  obtain ⟨rfl, hZ, hh⟩ := hP
  have hx := Bd.exec
  have hby := Bd.bytes
  have hml : c.maxLocals = 2 := hml0
  have hown : s.vm.findClass "com/example/always_over_paths/alwaysoverpaths/explicit/MarkingTable" = some m.cls := findClass_of_methodNamed Bd.named
  have hnm := (name_of_methodNamed Bd.named Bd.method).1
  have X0 : Stand p l e ({ frames := 2, cells := 3, slots := 66, locals := 28 } : Room) s m #[(.ref a1), (.int (3 : Int32))] below meth c s₁ [] 0 0 := Stand.of_body Bd
  have e0 : s₁.heap = h0 := by rw [← hh, Bd.state]; rfl
  have N0 := Fr.nil n0
  show GoalS p.tables e below s ({ frames := 2, cells := 3, slots := 66, locals := 28 } : Room).cells ({ frames := 2, cells := 3, slots := 66, locals := 28 } : Room).slots (Qct Z a1 h0 n0) (s₁.setTop (entryFrame m #[(.ref a1), (.int (3 : Int32))] 2))
  refine GoalS.lift (B := s₁.setTop (mkF m 0 #[vr a1, vi (3 : Int32)] [])) (fun t k => castTop (ef_rmct m a1) k) ?_
  have K0 : Keep h0 h0 [a1] := Keep.refl _ _
  obtain ⟨T1, X1, e1, st1⟩ := initO X0 hx hZ hown (hw _ (List.mem_of_getElem? (i := 8) rfl)) (hw _ (List.mem_of_getElem? (i := 9) rfl)) (hw _ (List.mem_of_getElem? (i := 10) rfl)) e0 (g := (mkF m 1 #[vr a1, vi (3 : Int32)] [(.ref a1)])) rfl (by rw [hml]; rfl) rfl (hb hby d1_1) (by decide) (W := 0) (by show 2 * 0 + _ ≤ _; exact Nat.le_of_eq rfl) (by decide)
  obtain ⟨T2, h2, X2, e2, W2, st2⟩ := putF X1 hx hZ hown (host := "") (Or.inl (hw _ (List.mem_of_getElem? (i := 11) rfl))) Via.refl e1 F_places_a1 E_a1 (Or.inr ⟨(hw _ (List.mem_of_getElem? (i := 12) rfl)), rfl, hnm⟩) (hw _ (List.mem_of_getElem? (i := 3) rfl)) (ty := .int) (by decide) rfl rfl (g := (mkF m 6 #[vr a1, vi (3 : Int32)] [(.int (3 : Int32)), (.ref a1)])) rfl rfl (hb hby d1_6)
  have z3 : n0 ≤ h2.size := Nat.le_trans Z0 (Keep.of_wr W2).1
  have K4 : Keep h0 h2 [a1] := K0.wr W2 (Or.inl (List.mem_of_getElem? (i := 0) rfl))
  have Fw2 : Fld Z h2 a1 "com/example/always_over_paths/alwaysoverpaths/explicit/MarkingTable" "places" "I" (.int (3 : Int32)) := F_places_a1.same W2
  have N2 := Fr.snoc X2 N0 g_a1
  have f5 : Fld Z h2 a1 "com/example/always_over_paths/alwaysoverpaths/explicit/MarkingTable" "bits" "I" (.int (0 : Int32)) := (F_bits_a1.other W2 (Or.inr (slot_ne (Or.inl (hw _ (List.mem_of_getElem? (i := 14) rfl))) (Or.inr (hw _ (List.mem_of_getElem? (i := 12) rfl))) (by decide) (t := .int) (t' := .int) (by decide) (by decide))))
  have f6 : Exa Z h2 a1 "com/example/always_over_paths/alwaysoverpaths/explicit/MarkingTable" := (E_a1.wr W2)
  obtain ⟨T7, h7, X7, e7, W7, st7⟩ := putF X2 hx hZ hown (host := "") (Or.inl (hw _ (List.mem_of_getElem? (i := 13) rfl))) Via.refl e2 f5 f6 (Or.inl (hw _ (List.mem_of_getElem? (i := 14) rfl))) (hw _ (List.mem_of_getElem? (i := 3) rfl)) (ty := .int) (by decide) rfl rfl (g := (mkF m 11 #[vr a1, vi (3 : Int32)] [(.int (1 : Int32)), (.ref a1)])) rfl rfl (hb hby d1_11)
  have z8 : n0 ≤ h7.size := Nat.le_trans z3 (Keep.of_wr W7).1
  have K9 : Keep h0 h7 [a1] := K4.wr W7 (Or.inl (List.mem_of_getElem? (i := 0) rfl))
  have Fw7 : Fld Z h7 a1 "com/example/always_over_paths/alwaysoverpaths/explicit/MarkingTable" "bits" "I" (.int (1 : Int32)) := f5.same W7
  have N7 := Fr.snoc X7 N2 g_a1
  obtain ⟨T10, X10, e10, st10⟩ := getF X7 hx hZ hown (host := "") (Or.inl (hw _ (List.mem_of_getElem? (i := 13) rfl))) Via.refl e7 Fw7 (g := (mkF m 17 #[vr a1, vi (3 : Int32)] [(.ref a1), (.int (3 : Int32)), (.ref a1)])) rfl rfl (hb hby d1_17)
  obtain ⟨_, _, ⟨T11, L11, k11, n11⟩, -, X11, ⟨Lc11, hQ11, l11, y11, z11⟩, st11⟩ := Jvm.LawKit.callS X10 hx (y := (⟨"com/example/always_over_paths/alwaysoverpaths/explicit/MarkingTable", "wordsFor", "(II)I"⟩ : MethodName)) hown (mvT hZ (hw _ (List.mem_of_getElem? (i := 15) rfl))) (mvT hZ (hw _ (List.mem_of_getElem? (i := 16) rfl))) (mvT hZ (hw _ (List.mem_of_getElem? (i := 4) rfl))) (mvT hZ (hw _ (List.mem_of_getElem? (i := 17) rfl))) (by decide) (backOf (W := 1) (rmwf l Z a0 hw [] (1 : Int32) h7 n0 z8 (show own_B 1 from ⟨by decide, by decide⟩)) hZ (hw _ (List.mem_of_getElem? (i := 17) rfl)) (hw _ (List.mem_of_getElem? (i := 4) rfl)) (by decide) (by decide)) (g := (mkF m 20 #[vr a1, vi (3 : Int32)] [(.int (1 : Int32)), (.int (3 : Int32)), (.ref a1)])) rfl (by rw [hml]; rfl) (argsL := [(.int (3 : Int32)), (.int (1 : Int32))]) (rest := [(.ref a1)]) (lenOf pd_0 rfl) rfl (by show 2 * 0 + _ ≤ _; exact Nat.le_of_eq rfl) (hb hby d1_20) (fun _ _ => ⟨rfl, e10, (by decide : 0 + 0 ≤ _), (by decide : 0 + 0 ≤ _)⟩)
  dsimp only [Pt.U, Pt.locs, Pt.cells, Pt.slots] at X11 l11 y11 z11 st11 hQ11
  subst y11 z11
  obtain ⟨rfl, N11q, eq11⟩ := hQ11
  have N11 : Fr n0 L11 := by rw [l11]; exact Fr.app N7 N11q
  have f12 : Fld Z h7 a1 "com/example/always_over_paths/alwaysoverpaths/explicit/MarkingTable" "words" "I" (.int (0 : Int32)) := ((F_words_a1.other W2 (Or.inr (slot_ne (Or.inl (hw _ (List.mem_of_getElem? (i := 23) rfl))) (Or.inr (hw _ (List.mem_of_getElem? (i := 12) rfl))) (by decide) (t := .int) (t' := .int) (by decide) (by decide)))).other W7 (Or.inr (slot_ne (Or.inl (hw _ (List.mem_of_getElem? (i := 23) rfl))) (Or.inl (hw _ (List.mem_of_getElem? (i := 14) rfl))) (by decide) (t := .int) (t' := .int) (by decide) (by decide))))
  have f13 : Exa Z h7 a1 "com/example/always_over_paths/alwaysoverpaths/explicit/MarkingTable" := (f6.wr W7)
  obtain ⟨T14, h14, X14, e14, W14, st14⟩ := putF X11 hx hZ hown (host := "") (Or.inl (hw _ (List.mem_of_getElem? (i := 22) rfl))) Via.refl eq11 f12 f13 (Or.inl (hw _ (List.mem_of_getElem? (i := 23) rfl))) (hw _ (List.mem_of_getElem? (i := 3) rfl)) (ty := .int) (by decide) rfl rfl (g := (mkF m 23 #[vr a1, vi (3 : Int32)] [(.int (own_W (1 : Int32))), (.ref a1)])) rfl rfl (hb hby d1_23)
  have z15 : n0 ≤ h14.size := Nat.le_trans z8 (Keep.of_wr W14).1
  have K16 : Keep h0 h14 [a1] := K9.wr W14 (Or.inl (List.mem_of_getElem? (i := 0) rfl))
  have Fw14 : Fld Z h14 a1 "com/example/always_over_paths/alwaysoverpaths/explicit/MarkingTable" "words" "I" (.int (own_W (1 : Int32))) := f12.same W14
  have N14 := Fr.snoc X14 N11 g_a1
  obtain ⟨T17, X17, e17, st17⟩ := getF X14 hx hZ hown (host := "") (Or.inl (hw _ (List.mem_of_getElem? (i := 22) rfl))) Via.refl e14 Fw14 (g := (mkF m 30 #[vr a1, vi (3 : Int32)] [(.ref a1), (.int (16 : Int32)), (.ref a1)])) rfl rfl (hb hby d1_30)
  have hW2__1___Int32_ := own_Wle (1 : Int32)
  obtain ⟨T18, h18, k18, X18, e18, E18, A18, st18⟩ := newP X17 hx hZ (hw _ (List.mem_of_getElem? (i := 24) rfl)) e17 (g := (mkF m 34 #[vr a1, vi (3 : Int32)] [(.int ((16 : Int32) * (own_W (1 : Int32)))), (.ref a1)])) rfl (hb hby d1_34) rfl (own_16neg (1 : Int32)) (cap := 32) (own_16le (1 : Int32)) (by decide) (by decide) (by decide)
  obtain ⟨b18, g18⟩ : ∃ z, z = h14.size := ⟨_, rfl⟩
  rw [← g18] at A18 st18
  have g_b18 : n0 ≤ b18 := Nat.le_trans z15 (Nat.le_of_eq g18.symm)
  have sz_b18 : h0.size ≤ b18 := Nat.le_trans K16.1 (Nat.le_of_eq g18.symm)
  have f19 : Exa Z h14 a1 "com/example/always_over_paths/alwaysoverpaths/explicit/MarkingTable" := (f13.wr W14)
  have ne_a1_b18 : a1 ≠ b18 := Nat.ne_of_lt (Nat.lt_of_lt_of_le f19.lt (Nat.le_of_eq g18.symm))
  have z20 : n0 ≤ h18.size := Nat.le_trans z15 E18.1
  have K21 : Keep h0 h18 [a1] := K16.ext E18
  have V18 : AV Z h18 b18 k18 .long (16 * (own_W (1 : Int32)).toNatClampNeg) (fun i => Value.long ((fun _ => (0 : Int64)) i)) := AV.new A18 (own_16neg (1 : Int32)) (own_16nat (1 : Int32)) (by omega)
  have f22 : Fld Z h18 a1 "com/example/always_over_paths/alwaysoverpaths/explicit/MarkingTable" "packed" "[J" .null := ((((F_packed_a1.other W2 (Or.inr (slot_ne (Or.inl (hw _ (List.mem_of_getElem? (i := 26) rfl))) (Or.inr (hw _ (List.mem_of_getElem? (i := 12) rfl))) (by decide) (t := (.array .long)) (t' := .int) (by decide) (by decide)))).other W7 (Or.inr (slot_ne (Or.inl (hw _ (List.mem_of_getElem? (i := 26) rfl))) (Or.inl (hw _ (List.mem_of_getElem? (i := 14) rfl))) (by decide) (t := (.array .long)) (t' := .int) (by decide) (by decide)))).other W14 (Or.inr (slot_ne (Or.inl (hw _ (List.mem_of_getElem? (i := 26) rfl))) (Or.inl (hw _ (List.mem_of_getElem? (i := 23) rfl))) (by decide) (t := (.array .long)) (t' := .int) (by decide) (by decide)))).ext E18)
  have f23 : Exa Z h18 a1 "com/example/always_over_paths/alwaysoverpaths/explicit/MarkingTable" := (f19.ext E18)
  obtain ⟨T24, h24, X24, e24, W24, st24⟩ := putF X18 hx hZ hown (host := "") (Or.inl (hw _ (List.mem_of_getElem? (i := 25) rfl))) Via.refl e18 f22 f23 (Or.inl (hw _ (List.mem_of_getElem? (i := 26) rfl))) (hw _ (List.mem_of_getElem? (i := 3) rfl)) (ty := (.array .long)) (by decide) rfl rfl (g := (mkF m 36 #[vr a1, vi (3 : Int32)] [(.ref b18), (.ref a1)])) rfl rfl (hb hby d1_36)
  have z25 : n0 ≤ h24.size := Nat.le_trans z20 (Keep.of_wr W24).1
  have K26 : Keep h0 h24 [a1] := K21.wr W24 (Or.inl (List.mem_of_getElem? (i := 0) rfl))
  have Fw24 : Fld Z h24 a1 "com/example/always_over_paths/alwaysoverpaths/explicit/MarkingTable" "packed" "[J" (.ref b18) := f22.same W24
  have N24 := Fr.snoc X24 N14 g_a1
  have f27 : Fld Z h24 a1 "com/example/always_over_paths/alwaysoverpaths/explicit/MarkingTable" "words" "I" (.int (own_W (1 : Int32))) := ((Fw14.ext E18).other W24 (Or.inr (slot_ne (Or.inl (hw _ (List.mem_of_getElem? (i := 23) rfl))) (Or.inl (hw _ (List.mem_of_getElem? (i := 26) rfl))) (by decide) (t := .int) (t' := (.array .long)) (by decide) (by decide))))
  obtain ⟨T28, X28, e28, st28⟩ := getF X24 hx hZ hown (host := "") (Or.inl (hw _ (List.mem_of_getElem? (i := 22) rfl))) Via.refl e24 f27 (g := (mkF m 41 #[vr a1, vi (3 : Int32)] [(.ref a1), (.ref a1)])) rfl rfl (hb hby d1_41)
  have hW2'__1___Int32_ := own_Wle (1 : Int32)
  obtain ⟨T29, h29, k29, X29, e29, E29, A29, st29⟩ := newP X28 hx hZ (hw _ (List.mem_of_getElem? (i := 24) rfl)) e28 (g := (mkF m 44 #[vr a1, vi (3 : Int32)] [(.int (own_W (1 : Int32))), (.ref a1)])) rfl (hb hby d1_44) rfl (own_Wneg (1 : Int32)) (cap := 2) (own_Wle (1 : Int32)) (by decide) (by decide) (by decide)
  obtain ⟨b29, g29⟩ : ∃ z, z = h24.size := ⟨_, rfl⟩
  rw [← g29] at A29 st29
  have g_b29 : n0 ≤ b29 := Nat.le_trans z25 (Nat.le_of_eq g29.symm)
  have sz_b29 : h0.size ≤ b29 := Nat.le_trans K26.1 (Nat.le_of_eq g29.symm)
  have f30 : Exa Z h24 a1 "com/example/always_over_paths/alwaysoverpaths/explicit/MarkingTable" := (f23.wr W24)
  have ne_a1_b29 : a1 ≠ b29 := Nat.ne_of_lt (Nat.lt_of_lt_of_le f30.lt (Nat.le_of_eq g29.symm))
  have f31 : AV Z h24 b18 k18 .long (16 * (own_W (1 : Int32)).toNatClampNeg) (fun i => Value.long ((fun _ => (0 : Int64)) i)) := (V18.other W24 (Ne.symm ne_a1_b18))
  have ne_b18_b29 : b18 ≠ b29 := Nat.ne_of_lt (Nat.lt_of_lt_of_le f31.lt (Nat.le_of_eq g29.symm))
  have z32 : n0 ≤ h29.size := Nat.le_trans z25 E29.1
  have K33 : Keep h0 h29 [a1] := K26.ext E29
  have V29 : AV Z h29 b29 k29 .long (own_W (1 : Int32)).toNatClampNeg (fun i => Value.long ((fun _ => (0 : Int64)) i)) := AV.new A29 (own_Wneg (1 : Int32)) (Eq.refl _) (by omega)
  have f34 : Fld Z h29 a1 "com/example/always_over_paths/alwaysoverpaths/explicit/MarkingTable" "probe" "[J" .null := ((((((F_probe_a1.other W2 (Or.inr (slot_ne (Or.inl (hw _ (List.mem_of_getElem? (i := 28) rfl))) (Or.inr (hw _ (List.mem_of_getElem? (i := 12) rfl))) (by decide) (t := (.array .long)) (t' := .int) (by decide) (by decide)))).other W7 (Or.inr (slot_ne (Or.inl (hw _ (List.mem_of_getElem? (i := 28) rfl))) (Or.inl (hw _ (List.mem_of_getElem? (i := 14) rfl))) (by decide) (t := (.array .long)) (t' := .int) (by decide) (by decide)))).other W14 (Or.inr (slot_ne (Or.inl (hw _ (List.mem_of_getElem? (i := 28) rfl))) (Or.inl (hw _ (List.mem_of_getElem? (i := 23) rfl))) (by decide) (t := (.array .long)) (t' := .int) (by decide) (by decide)))).ext E18).other W24 (Or.inr (slot_ne (Or.inl (hw _ (List.mem_of_getElem? (i := 28) rfl))) (Or.inl (hw _ (List.mem_of_getElem? (i := 26) rfl))) (by decide) (t := (.array .long)) (t' := (.array .long)) (by decide) (by decide)))).ext E29)
  have f35 : Exa Z h29 a1 "com/example/always_over_paths/alwaysoverpaths/explicit/MarkingTable" := (f30.ext E29)
  obtain ⟨T36, h36, X36, e36, W36, st36⟩ := putF X29 hx hZ hown (host := "") (Or.inl (hw _ (List.mem_of_getElem? (i := 27) rfl))) Via.refl e29 f34 f35 (Or.inl (hw _ (List.mem_of_getElem? (i := 28) rfl))) (hw _ (List.mem_of_getElem? (i := 3) rfl)) (ty := (.array .long)) (by decide) rfl rfl (g := (mkF m 46 #[vr a1, vi (3 : Int32)] [(.ref b29), (.ref a1)])) rfl rfl (hb hby d1_46)
  have z37 : n0 ≤ h36.size := Nat.le_trans z32 (Keep.of_wr W36).1
  have K38 : Keep h0 h36 [a1] := K33.wr W36 (Or.inl (List.mem_of_getElem? (i := 0) rfl))
  have Fw36 : Fld Z h36 a1 "com/example/always_over_paths/alwaysoverpaths/explicit/MarkingTable" "probe" "[J" (.ref b29) := f34.same W36
  have N36 := Fr.snoc X36 N24 g_a1
  obtain ⟨T39, h39, k39, X39, e39, E39, A39, st39⟩ := newP X36 hx hZ (hw _ (List.mem_of_getElem? (i := 0) rfl)) e36 (g := (mkF m 52 #[vr a1, vi (3 : Int32)] [(.int (32 : Int32)), (.ref a1)])) rfl (hb hby d1_52) rfl (by decide) (cap := 32) (by decide) (by decide) (by decide) (by decide)
  obtain ⟨b39, g39⟩ : ∃ z, z = h36.size := ⟨_, rfl⟩
  rw [← g39] at A39 st39
  have g_b39 : n0 ≤ b39 := Nat.le_trans z37 (Nat.le_of_eq g39.symm)
  have sz_b39 : h0.size ≤ b39 := Nat.le_trans K38.1 (Nat.le_of_eq g39.symm)
  have f40 : Exa Z h36 a1 "com/example/always_over_paths/alwaysoverpaths/explicit/MarkingTable" := (f35.wr W36)
  have ne_a1_b39 : a1 ≠ b39 := Nat.ne_of_lt (Nat.lt_of_lt_of_le f40.lt (Nat.le_of_eq g39.symm))
  have f41 : AV Z h36 b18 k18 .long (16 * (own_W (1 : Int32)).toNatClampNeg) (fun i => Value.long ((fun _ => (0 : Int64)) i)) := ((f31.ext E29).other W36 (Ne.symm ne_a1_b18))
  have ne_b18_b39 : b18 ≠ b39 := Nat.ne_of_lt (Nat.lt_of_lt_of_le f41.lt (Nat.le_of_eq g39.symm))
  have f42 : AV Z h36 b29 k29 .long (own_W (1 : Int32)).toNatClampNeg (fun i => Value.long ((fun _ => (0 : Int64)) i)) := (V29.other W36 (Ne.symm ne_a1_b29))
  have ne_b29_b39 : b29 ≠ b39 := Nat.ne_of_lt (Nat.lt_of_lt_of_le f42.lt (Nat.le_of_eq g39.symm))
  have z43 : n0 ≤ h39.size := Nat.le_trans z37 E39.1
  have K44 : Keep h0 h39 [a1] := K38.ext E39
  have V39 : AV Z h39 b39 k39 .int 32 (fun i => Value.int ((fun _ => (0 : Int32)) i)) := AV.new A39 (by decide) (by decide) (by decide)
  have f45 : Fld Z h39 a1 "com/example/always_over_paths/alwaysoverpaths/explicit/MarkingTable" "slots" "[I" .null := ((((((((F_slots_a1.other W2 (Or.inr (slot_ne (Or.inl (hw _ (List.mem_of_getElem? (i := 30) rfl))) (Or.inr (hw _ (List.mem_of_getElem? (i := 12) rfl))) (by decide) (t := (.array .int)) (t' := .int) (by decide) (by decide)))).other W7 (Or.inr (slot_ne (Or.inl (hw _ (List.mem_of_getElem? (i := 30) rfl))) (Or.inl (hw _ (List.mem_of_getElem? (i := 14) rfl))) (by decide) (t := (.array .int)) (t' := .int) (by decide) (by decide)))).other W14 (Or.inr (slot_ne (Or.inl (hw _ (List.mem_of_getElem? (i := 30) rfl))) (Or.inl (hw _ (List.mem_of_getElem? (i := 23) rfl))) (by decide) (t := (.array .int)) (t' := .int) (by decide) (by decide)))).ext E18).other W24 (Or.inr (slot_ne (Or.inl (hw _ (List.mem_of_getElem? (i := 30) rfl))) (Or.inl (hw _ (List.mem_of_getElem? (i := 26) rfl))) (by decide) (t := (.array .int)) (t' := (.array .long)) (by decide) (by decide)))).ext E29).other W36 (Or.inr (slot_ne (Or.inl (hw _ (List.mem_of_getElem? (i := 30) rfl))) (Or.inl (hw _ (List.mem_of_getElem? (i := 28) rfl))) (by decide) (t := (.array .int)) (t' := (.array .long)) (by decide) (by decide)))).ext E39)
  have f46 : Exa Z h39 a1 "com/example/always_over_paths/alwaysoverpaths/explicit/MarkingTable" := (f40.ext E39)
  obtain ⟨T47, h47, X47, e47, W47, st47⟩ := putF X39 hx hZ hown (host := "") (Or.inl (hw _ (List.mem_of_getElem? (i := 29) rfl))) Via.refl e39 f45 f46 (Or.inl (hw _ (List.mem_of_getElem? (i := 30) rfl))) (hw _ (List.mem_of_getElem? (i := 3) rfl)) (ty := (.array .int)) (by decide) rfl rfl (g := (mkF m 54 #[vr a1, vi (3 : Int32)] [(.ref b39), (.ref a1)])) rfl rfl (hb hby d1_54)
  have z48 : n0 ≤ h47.size := Nat.le_trans z43 (Keep.of_wr W47).1
  have K49 : Keep h0 h47 [a1] := K44.wr W47 (Or.inl (List.mem_of_getElem? (i := 0) rfl))
  have Fw47 : Fld Z h47 a1 "com/example/always_over_paths/alwaysoverpaths/explicit/MarkingTable" "slots" "[I" (.ref b39) := f45.same W47
  have N47 := Fr.snoc X47 N36 g_a1
  obtain ⟨fs, hr, hrun, hended, hW, hsame⟩ := X47.leave (v := none) (fun _ => rfl)
  refine ⟨_, _, ?_, hrun, hended, _, _, rfl, ?_, ⟨_, rfl⟩, hW, hsame.mono (by decide) (by decide)⟩
  · show Steps p.tables e below (s₁.setTop (mkF m 0 #[vr a1, vi (3 : Int32)] [])) _
    refine XS.aloadN X0.here hx rfl (hb hby d1_0) rfl rfl ?_
    refine st1 _ ?_
    refine XS.aloadN X1.here hx rfl (hb hby d1_4) rfl rfl ?_
    refine XS.iloadN X1.here hx rfl (hb hby d1_5) rfl ?_
    refine st2 _ ?_
    refine XS.aloadN X2.here hx rfl (hb hby d1_9) rfl rfl ?_
    show Steps p.tables e below (T2.setTop (mkF m 10 #[vr a1, vi (3 : Int32)] [(.ref a1)])) _
    refine XS.iconst X2.here hx rfl (hb hby d1_10) ?_
    refine st7 _ ?_
    refine XS.aloadN X7.here hx rfl (hb hby d1_14) rfl rfl ?_
    refine XS.iloadN X7.here hx rfl (hb hby d1_15) rfl ?_
    refine XS.aloadN X7.here hx rfl (hb hby d1_16) rfl rfl ?_
    refine st10 _ ?_
    show Steps p.tables e below (T10.setTop (mkF m 20 #[vr a1, vi (3 : Int32)] [(.int (1 : Int32)), (.int (3 : Int32)), (.ref a1)])) _
    refine st11 _ ?_
    refine st14 _ ?_
    refine XS.aloadN X14.here hx rfl (hb hby d1_26) rfl rfl ?_
    refine XS.bipush X14.here hx rfl (hb hby d1_27) ?_
    refine XS.aloadN X14.here hx rfl (hb hby d1_29) rfl rfl ?_
    refine st17 _ ?_
    show Steps p.tables e below (T17.setTop (mkF m 33 #[vr a1, vi (3 : Int32)] [(.int (own_W (1 : Int32))), (.int (16 : Int32)), (.ref a1)])) _
    refine XS.imul X17.here hx rfl (hb hby d1_33) rfl ?_
    refine st18 _ ?_
    refine st24 _ ?_
    refine XS.aloadN X24.here hx rfl (hb hby d1_39) rfl rfl ?_
    refine XS.aloadN X24.here hx rfl (hb hby d1_40) rfl rfl ?_
    refine st28 _ ?_
    show Steps p.tables e below (T28.setTop (mkF m 44 #[vr a1, vi (3 : Int32)] [(.int (own_W (1 : Int32))), (.ref a1)])) _
    refine st29 _ ?_
    refine st36 _ ?_
    refine XS.aloadN X36.here hx rfl (hb hby d1_49) rfl rfl ?_
    refine XS.bipush X36.here hx rfl (hb hby d1_50) ?_
    refine st39 _ ?_
    refine st47 _ ?_
    show Steps p.tables e below (T47.setTop (mkF m 57 #[vr a1, vi (3 : Int32)] [])) _
    exact X47.returnOut hx Bd.returns (hb hby d1_57) hr
  · have f50 : Exa Z h47 a1 "com/example/always_over_paths/alwaysoverpaths/explicit/MarkingTable" := (f46.wr W47)
    have f51 : Fld Z h47 a1 "com/example/always_over_paths/alwaysoverpaths/explicit/MarkingTable" "places" "I" (.int (3 : Int32)) := ((((((((Fw2.other W7 (Or.inr (slot_ne (Or.inr (hw _ (List.mem_of_getElem? (i := 12) rfl))) (Or.inl (hw _ (List.mem_of_getElem? (i := 14) rfl))) (by decide) (t := .int) (t' := .int) (by decide) (by decide)))).other W14 (Or.inr (slot_ne (Or.inr (hw _ (List.mem_of_getElem? (i := 12) rfl))) (Or.inl (hw _ (List.mem_of_getElem? (i := 23) rfl))) (by decide) (t := .int) (t' := .int) (by decide) (by decide)))).ext E18).other W24 (Or.inr (slot_ne (Or.inr (hw _ (List.mem_of_getElem? (i := 12) rfl))) (Or.inl (hw _ (List.mem_of_getElem? (i := 26) rfl))) (by decide) (t := .int) (t' := (.array .long)) (by decide) (by decide)))).ext E29).other W36 (Or.inr (slot_ne (Or.inr (hw _ (List.mem_of_getElem? (i := 12) rfl))) (Or.inl (hw _ (List.mem_of_getElem? (i := 28) rfl))) (by decide) (t := .int) (t' := (.array .long)) (by decide) (by decide)))).ext E39).other W47 (Or.inr (slot_ne (Or.inr (hw _ (List.mem_of_getElem? (i := 12) rfl))) (Or.inl (hw _ (List.mem_of_getElem? (i := 30) rfl))) (by decide) (t := .int) (t' := (.array .int)) (by decide) (by decide))))
    have f52 : Fld Z h47 a1 "com/example/always_over_paths/alwaysoverpaths/explicit/MarkingTable" "bits" "I" (.int (1 : Int32)) := (((((((Fw7.other W14 (Or.inr (slot_ne (Or.inl (hw _ (List.mem_of_getElem? (i := 14) rfl))) (Or.inl (hw _ (List.mem_of_getElem? (i := 23) rfl))) (by decide) (t := .int) (t' := .int) (by decide) (by decide)))).ext E18).other W24 (Or.inr (slot_ne (Or.inl (hw _ (List.mem_of_getElem? (i := 14) rfl))) (Or.inl (hw _ (List.mem_of_getElem? (i := 26) rfl))) (by decide) (t := .int) (t' := (.array .long)) (by decide) (by decide)))).ext E29).other W36 (Or.inr (slot_ne (Or.inl (hw _ (List.mem_of_getElem? (i := 14) rfl))) (Or.inl (hw _ (List.mem_of_getElem? (i := 28) rfl))) (by decide) (t := .int) (t' := (.array .long)) (by decide) (by decide)))).ext E39).other W47 (Or.inr (slot_ne (Or.inl (hw _ (List.mem_of_getElem? (i := 14) rfl))) (Or.inl (hw _ (List.mem_of_getElem? (i := 30) rfl))) (by decide) (t := .int) (t' := (.array .int)) (by decide) (by decide))))
    have f53 : Fld Z h47 a1 "com/example/always_over_paths/alwaysoverpaths/explicit/MarkingTable" "words" "I" (.int (own_W (1 : Int32))) := ((((f27.ext E29).other W36 (Or.inr (slot_ne (Or.inl (hw _ (List.mem_of_getElem? (i := 23) rfl))) (Or.inl (hw _ (List.mem_of_getElem? (i := 28) rfl))) (by decide) (t := .int) (t' := (.array .long)) (by decide) (by decide)))).ext E39).other W47 (Or.inr (slot_ne (Or.inl (hw _ (List.mem_of_getElem? (i := 23) rfl))) (Or.inl (hw _ (List.mem_of_getElem? (i := 30) rfl))) (by decide) (t := .int) (t' := (.array .int)) (by decide) (by decide))))
    have f54 : Fld Z h47 a1 "com/example/always_over_paths/alwaysoverpaths/explicit/MarkingTable" "packed" "[J" (.ref b18) := ((((Fw24.ext E29).other W36 (Or.inr (slot_ne (Or.inl (hw _ (List.mem_of_getElem? (i := 26) rfl))) (Or.inl (hw _ (List.mem_of_getElem? (i := 28) rfl))) (by decide) (t := (.array .long)) (t' := (.array .long)) (by decide) (by decide)))).ext E39).other W47 (Or.inr (slot_ne (Or.inl (hw _ (List.mem_of_getElem? (i := 26) rfl))) (Or.inl (hw _ (List.mem_of_getElem? (i := 30) rfl))) (by decide) (t := (.array .long)) (t' := (.array .int)) (by decide) (by decide))))
    have f55 : Fld Z h47 a1 "com/example/always_over_paths/alwaysoverpaths/explicit/MarkingTable" "probe" "[J" (.ref b29) := ((Fw36.ext E39).other W47 (Or.inr (slot_ne (Or.inl (hw _ (List.mem_of_getElem? (i := 28) rfl))) (Or.inl (hw _ (List.mem_of_getElem? (i := 30) rfl))) (by decide) (t := (.array .long)) (t' := (.array .int)) (by decide) (by decide))))
    have f56 : Fld Z h47 a1 "com/example/always_over_paths/alwaysoverpaths/explicit/MarkingTable" "size" "I" (.int (0 : Int32)) := (((((((((F_size_a1.other W2 (Or.inr (slot_ne (Or.inl (hw _ (List.mem_of_getElem? (i := 47) rfl))) (Or.inr (hw _ (List.mem_of_getElem? (i := 12) rfl))) (by decide) (t := .int) (t' := .int) (by decide) (by decide)))).other W7 (Or.inr (slot_ne (Or.inl (hw _ (List.mem_of_getElem? (i := 47) rfl))) (Or.inl (hw _ (List.mem_of_getElem? (i := 14) rfl))) (by decide) (t := .int) (t' := .int) (by decide) (by decide)))).other W14 (Or.inr (slot_ne (Or.inl (hw _ (List.mem_of_getElem? (i := 47) rfl))) (Or.inl (hw _ (List.mem_of_getElem? (i := 23) rfl))) (by decide) (t := .int) (t' := .int) (by decide) (by decide)))).ext E18).other W24 (Or.inr (slot_ne (Or.inl (hw _ (List.mem_of_getElem? (i := 47) rfl))) (Or.inl (hw _ (List.mem_of_getElem? (i := 26) rfl))) (by decide) (t := .int) (t' := (.array .long)) (by decide) (by decide)))).ext E29).other W36 (Or.inr (slot_ne (Or.inl (hw _ (List.mem_of_getElem? (i := 47) rfl))) (Or.inl (hw _ (List.mem_of_getElem? (i := 28) rfl))) (by decide) (t := .int) (t' := (.array .long)) (by decide) (by decide)))).ext E39).other W47 (Or.inr (slot_ne (Or.inl (hw _ (List.mem_of_getElem? (i := 47) rfl))) (Or.inl (hw _ (List.mem_of_getElem? (i := 30) rfl))) (by decide) (t := .int) (t' := (.array .int)) (by decide) (by decide))))
    have f57 : AV Z h47 b18 k18 .long (16 * (own_W (1 : Int32)).toNatClampNeg) (fun i => Value.long ((fun _ => (0 : Int64)) i)) := ((f41.ext E39).other W47 (Ne.symm ne_a1_b18))
    have f58 : AV Z h47 b29 k29 .long (own_W (1 : Int32)).toNatClampNeg (fun i => Value.long ((fun _ => (0 : Int64)) i)) := ((f42.ext E39).other W47 (Ne.symm ne_a1_b29))
    have f59 : AV Z h47 b39 k39 .int 32 (fun i => Value.int ((fun _ => (0 : Int32)) i)) := (V39.other W47 (Ne.symm ne_a1_b39))
    show Qct Z a1 h0 n0 _ T47.heap _
    rw [e47]
    exact ⟨b18, b29, b39, k18, k29, k39, rfl, N47, K49, sz_b18, sz_b29, sz_b39, ne_b18_b29, ne_b18_b39, ne_b29_b39, f50, f51, f52, f53, f54, f55, f56, Fw47, f57, f58, f59⟩
theorem d5_0 : decode prog_21_method_3_code 0 = .ok (.iconst 0, 1) := by decide +kernel
theorem d5_1 : decode prog_21_method_3_code 1 = .ok (.istore_n 2, 1) := by decide +kernel
theorem d5_2 : decode prog_21_method_3_code 2 = .ok (.aload_n 1, 1) := by decide +kernel
theorem d5_3 : decode prog_21_method_3_code 3 = .ok (.astore_n 3, 1) := by decide +kernel
theorem d5_4 : decode prog_21_method_3_code 4 = .ok (.aload_n 3, 1) := by decide +kernel
theorem d5_5 : decode prog_21_method_3_code 5 = .ok (.arraylength, 1) := by decide +kernel
theorem d5_6 : decode prog_21_method_3_code 6 = .ok (.istore 4, 2) := by decide +kernel
theorem d5_8 : decode prog_21_method_3_code 8 = .ok (.iconst 0, 1) := by decide +kernel
theorem d5_9 : decode prog_21_method_3_code 9 = .ok (.istore 5, 2) := by decide +kernel
theorem d5_11 : decode prog_21_method_3_code 11 = .ok (.iload 5, 2) := by decide +kernel
theorem d5_13 : decode prog_21_method_3_code 13 = .ok (.iload 4, 2) := by decide +kernel
theorem d5_15 : decode prog_21_method_3_code 15 = .ok (.if_icmp .ge 20, 3) := by decide +kernel
theorem d5_18 : decode prog_21_method_3_code 18 = .ok (.aload_n 3, 1) := by decide +kernel
theorem d5_19 : decode prog_21_method_3_code 19 = .ok (.iload 5, 2) := by decide +kernel
theorem d5_21 : decode prog_21_method_3_code 21 = .ok (.iaload, 1) := by decide +kernel
theorem d5_22 : decode prog_21_method_3_code 22 = .ok (.istore 6, 2) := by decide +kernel
theorem d5_24 : decode prog_21_method_3_code 24 = .ok (.iload_n 2, 1) := by decide +kernel
theorem d5_25 : decode prog_21_method_3_code 25 = .ok (.iload 6, 2) := by decide +kernel
theorem d5_27 : decode prog_21_method_3_code 27 = .ok (.ior, 1) := by decide +kernel
theorem d5_28 : decode prog_21_method_3_code 28 = .ok (.istore_n 2, 1) := by decide +kernel
theorem d5_29 : decode prog_21_method_3_code 29 = .ok (.iinc 5 1, 3) := by decide +kernel
theorem d5_32 : decode prog_21_method_3_code 32 = .ok (.goto (-21), 3) := by decide +kernel
theorem d5_35 : decode prog_21_method_3_code 35 = .ok (.iconst 1, 1) := by decide +kernel
theorem d5_36 : decode prog_21_method_3_code 36 = .ok (.bipush 32, 2) := by decide +kernel
theorem d5_38 : decode prog_21_method_3_code 38 = .ok (.iload_n 2, 1) := by decide +kernel
theorem d5_39 : decode prog_21_method_3_code 39 = .ok (.invokestatic 39, 3) := by decide +kernel
theorem d5_42 : decode prog_21_method_3_code 42 = .ok (.isub, 1) := by decide +kernel
theorem d5_43 : decode prog_21_method_3_code 43 = .ok (.invokestatic 43, 3) := by decide +kernel
theorem d5_46 : decode prog_21_method_3_code 46 = .ok (.istore_n 3, 1) := by decide +kernel
theorem d5_47 : decode prog_21_method_3_code 47 = .ok (.iload_n 3, 1) := by decide +kernel
theorem d5_48 : decode prog_21_method_3_code 48 = .ok (.aload_n 0, 1) := by decide +kernel
theorem d5_49 : decode prog_21_method_3_code 49 = .ok (.getfield 15, 3) := by decide +kernel
theorem d5_52 : decode prog_21_method_3_code 52 = .ok (.if_icmp .le 8, 3) := by decide +kernel
theorem d5_55 : decode prog_21_method_3_code 55 = .ok (.aload_n 0, 1) := by decide +kernel
theorem d5_56 : decode prog_21_method_3_code 56 = .ok (.iload_n 3, 1) := by decide +kernel
theorem d5_57 : decode prog_21_method_3_code 57 = .ok (.invokevirtual 48, 3) := by decide +kernel
theorem d5_60 : decode prog_21_method_3_code 60 = .ok (.aload_n 0, 1) := by decide +kernel
theorem d5_61 : decode prog_21_method_3_code 61 = .ok (.getfield 36, 3) := by decide +kernel
theorem d5_64 : decode prog_21_method_3_code 64 = .ok (.aload_n 0, 1) := by decide +kernel
theorem d5_65 : decode prog_21_method_3_code 65 = .ok (.getfield 32, 3) := by decide +kernel
theorem d5_68 : decode prog_21_method_3_code 68 = .ok (.arraylength, 1) := by decide +kernel
theorem d5_69 : decode prog_21_method_3_code 69 = .ok (.iconst 4, 1) := by decide +kernel
theorem d5_70 : decode prog_21_method_3_code 70 = .ok (.idiv, 1) := by decide +kernel
theorem d5_71 : decode prog_21_method_3_code 71 = .ok (.iconst 3, 1) := by decide +kernel
theorem d5_72 : decode prog_21_method_3_code 72 = .ok (.imul, 1) := by decide +kernel
theorem d5_73 : decode prog_21_method_3_code 73 = .ok (.if_icmp .lt 7, 3) := by decide +kernel
theorem d5_80 : decode prog_21_method_3_code 80 = .ok (.aload_n 1, 1) := by decide +kernel
theorem d5_81 : decode prog_21_method_3_code 81 = .ok (.aload_n 0, 1) := by decide +kernel
theorem d5_82 : decode prog_21_method_3_code 82 = .ok (.getfield 15, 3) := by decide +kernel
theorem d5_85 : decode prog_21_method_3_code 85 = .ok (.aload_n 0, 1) := by decide +kernel
theorem d5_86 : decode prog_21_method_3_code 86 = .ok (.getfield 29, 3) := by decide +kernel
theorem d5_89 : decode prog_21_method_3_code 89 = .ok (.iconst 0, 1) := by decide +kernel
theorem d5_90 : decode prog_21_method_3_code 90 = .ok (.invokestatic 55, 3) := by decide +kernel
theorem d5_93 : decode prog_21_method_3_code 93 = .ok (.aload_n 0, 1) := by decide +kernel
theorem d5_94 : decode prog_21_method_3_code 94 = .ok (.getfield 32, 3) := by decide +kernel
theorem d5_97 : decode prog_21_method_3_code 97 = .ok (.arraylength, 1) := by decide +kernel
theorem d5_98 : decode prog_21_method_3_code 98 = .ok (.iconst 1, 1) := by decide +kernel
theorem d5_99 : decode prog_21_method_3_code 99 = .ok (.isub, 1) := by decide +kernel
theorem d5_100 : decode prog_21_method_3_code 100 = .ok (.istore 4, 2) := by decide +kernel
theorem d5_102 : decode prog_21_method_3_code 102 = .ok (.aload_n 0, 1) := by decide +kernel
theorem d5_103 : decode prog_21_method_3_code 103 = .ok (.getfield 29, 3) := by decide +kernel
theorem d5_106 : decode prog_21_method_3_code 106 = .ok (.iconst 0, 1) := by decide +kernel
theorem d5_107 : decode prog_21_method_3_code 107 = .ok (.aload_n 0, 1) := by decide +kernel
theorem d5_108 : decode prog_21_method_3_code 108 = .ok (.getfield 22, 3) := by decide +kernel
theorem d5_111 : decode prog_21_method_3_code 111 = .ok (.invokestatic 59, 3) := by decide +kernel
theorem d5_114 : decode prog_21_method_3_code 114 = .ok (.iload 4, 2) := by decide +kernel
theorem d5_116 : decode prog_21_method_3_code 116 = .ok (.iand, 1) := by decide +kernel
theorem d5_117 : decode prog_21_method_3_code 117 = .ok (.istore 5, 2) := by decide +kernel
theorem d5_119 : decode prog_21_method_3_code 119 = .ok (.aload_n 0, 1) := by decide +kernel
theorem d5_120 : decode prog_21_method_3_code 120 = .ok (.getfield 32, 3) := by decide +kernel
theorem d5_123 : decode prog_21_method_3_code 123 = .ok (.iload 5, 2) := by decide +kernel
theorem d5_125 : decode prog_21_method_3_code 125 = .ok (.iaload, 1) := by decide +kernel
theorem d5_126 : decode prog_21_method_3_code 126 = .ok (.ifCond .eq 38, 3) := by decide +kernel
theorem d5_164 : decode prog_21_method_3_code 164 = .ok (.aload_n 0, 1) := by decide +kernel
theorem d5_165 : decode prog_21_method_3_code 165 = .ok (.invokevirtual 67, 3) := by decide +kernel
theorem d5_168 : decode prog_21_method_3_code 168 = .ok (.aload_n 0, 1) := by decide +kernel
theorem d5_169 : decode prog_21_method_3_code 169 = .ok (.getfield 29, 3) := by decide +kernel
theorem d5_172 : decode prog_21_method_3_code 172 = .ok (.iconst 0, 1) := by decide +kernel
theorem d5_173 : decode prog_21_method_3_code 173 = .ok (.aload_n 0, 1) := by decide +kernel
theorem d5_174 : decode prog_21_method_3_code 174 = .ok (.getfield 25, 3) := by decide +kernel
theorem d5_177 : decode prog_21_method_3_code 177 = .ok (.aload_n 0, 1) := by decide +kernel
theorem d5_178 : decode prog_21_method_3_code 178 = .ok (.getfield 36, 3) := by decide +kernel
theorem d5_181 : decode prog_21_method_3_code 181 = .ok (.aload_n 0, 1) := by decide +kernel
theorem d5_182 : decode prog_21_method_3_code 182 = .ok (.getfield 22, 3) := by decide +kernel
theorem d5_185 : decode prog_21_method_3_code 185 = .ok (.imul, 1) := by decide +kernel
theorem d5_186 : decode prog_21_method_3_code 186 = .ok (.aload_n 0, 1) := by decide +kernel
theorem d5_187 : decode prog_21_method_3_code 187 = .ok (.getfield 22, 3) := by decide +kernel
theorem d5_190 : decode prog_21_method_3_code 190 = .ok (.invokestatic 70, 3) := by decide +kernel
theorem d5_193 : decode prog_21_method_3_code 193 = .ok (.aload_n 0, 1) := by decide +kernel
theorem d5_194 : decode prog_21_method_3_code 194 = .ok (.getfield 32, 3) := by decide +kernel
theorem d5_197 : decode prog_21_method_3_code 197 = .ok (.iload 5, 2) := by decide +kernel
theorem d5_199 : decode prog_21_method_3_code 199 = .ok (.aload_n 0, 1) := by decide +kernel
theorem d5_200 : decode prog_21_method_3_code 200 = .ok (.getfield 36, 3) := by decide +kernel
theorem d5_203 : decode prog_21_method_3_code 203 = .ok (.iconst 1, 1) := by decide +kernel
theorem d5_204 : decode prog_21_method_3_code 204 = .ok (.iadd, 1) := by decide +kernel
theorem d5_205 : decode prog_21_method_3_code 205 = .ok (.iastore, 1) := by decide +kernel
theorem d5_206 : decode prog_21_method_3_code 206 = .ok (.aload_n 0, 1) := by decide +kernel
theorem d5_207 : decode prog_21_method_3_code 207 = .ok (.dup, 1) := by decide +kernel
theorem d5_208 : decode prog_21_method_3_code 208 = .ok (.getfield 36, 3) := by decide +kernel
theorem d5_211 : decode prog_21_method_3_code 211 = .ok (.dup_x1, 1) := by decide +kernel
theorem d5_212 : decode prog_21_method_3_code 212 = .ok (.iconst 1, 1) := by decide +kernel
theorem d5_213 : decode prog_21_method_3_code 213 = .ok (.iadd, 1) := by decide +kernel
theorem d5_214 : decode prog_21_method_3_code 214 = .ok (.putfield 36, 3) := by decide +kernel
theorem d5_217 : decode prog_21_method_3_code 217 = .ok (.ireturn, 1) := by decide +kernel
theorem pd_6 : parseMethodDescriptor "(I)I" = some ⟨[.int], some .int⟩ := by decide +kernel
theorem pd_7 : parseMethodDescriptor "()V" = some ⟨[], none⟩ := by decide +kernel
theorem ef_rmad0 (m : MethodId) (a1 : Addr) (a2 : Addr) : entryFrame m #[(.ref a1), (.ref a2)] 7 = mkF m 0 #[vr a1, vr a2, .unset, .unset, .unset, .unset, .unset] [] := by first | (simp [entryFrame, mkF, argsToLocals, Value.category]; done) | rfl
def Qad0 (Z : State) (a1 : Addr) (a2 : Addr) (P : Addr) (R : Addr) (S : Addr) (kP : ClassId) (kR : ClassId) (kS : ClassId) (fP : Nat → Int64) (fR : Nat → Int64) (kM : ClassId) (mf : Nat → Int32) (h0 : Heap) (n0 : Nat) (v : Option Value) (h : Heap) (L : List Loc) : Prop := ∃ (P' : Addr), ∃ (R' : Addr), ∃ (S' : Addr), ∃ (kP' : ClassId), ∃ (kR' : ClassId), ∃ (kS' : ClassId), ∃ (fP' : Nat → Int64), ∃ (B' : Int32), ∃ (fR' : Nat → Int64), v = some (.int (0 : Int32)) ∧ Fr n0 L ∧ Keep h0 h [a1, P, R, S] ∧ (P' = P ∨ h0.size ≤ P') ∧ (R' = R ∨ h0.size ≤ R') ∧ (S' = S ∨ h0.size ≤ S') ∧ P' ≠ R' ∧ P' ≠ S' ∧ R' ≠ S' ∧ (Exa Z h a1 "com/example/always_over_paths/alwaysoverpaths/explicit/MarkingTable") ∧ (Fld Z h a1 "com/example/always_over_paths/alwaysoverpaths/explicit/MarkingTable" "places" "I" (.int (3 : Int32))) ∧ (Fld Z h a1 "com/example/always_over_paths/alwaysoverpaths/explicit/MarkingTable" "bits" "I" (.int B')) ∧ (Fld Z h a1 "com/example/always_over_paths/alwaysoverpaths/explicit/MarkingTable" "words" "I" (.int (own_W B'))) ∧ (Fld Z h a1 "com/example/always_over_paths/alwaysoverpaths/explicit/MarkingTable" "packed" "[J" (.ref P')) ∧ (Fld Z h a1 "com/example/always_over_paths/alwaysoverpaths/explicit/MarkingTable" "probe" "[J" (.ref R')) ∧ (Fld Z h a1 "com/example/always_over_paths/alwaysoverpaths/explicit/MarkingTable" "size" "I" (.int (1 : Int32))) ∧ (Fld Z h a1 "com/example/always_over_paths/alwaysoverpaths/explicit/MarkingTable" "slots" "[I" (.ref S')) ∧ (AV Z h P' kP' .long (16 * (own_W B').toNatClampNeg) (fun i => Value.long (fP' i))) ∧ (AV Z h R' kR' .long (own_W B').toNatClampNeg (fun i => Value.long (fR' i))) ∧ (AV Z h S' kS' .int 32 (fun i => Value.int ((updI (fun _ => (0 : Int32)) (own_sl B' (mf 0) (mf 1) (mf 2)).toNatClampNeg (1 : Int32)) i))) ∧ (own_B B') ∧ (own_bd3 B' (mf 0) (mf 1) (mf 2)) ∧ (own_pw B' (mf 0) (mf 1) (mf 2) fP' 0)
set_option maxRecDepth 65536 in
set_option maxHeartbeats 40000000 in
theorem rmad0 (l : Launch) (Z : State) (a0 : Array Value) (hw : ∀ d ∈ tables_1, d.before a0 Z = true) (ws : List Jvm.Cond) (a1 : Addr) (a2 : Addr) (P : Addr) (R : Addr) (S : Addr) (kP : ClassId) (kR : ClassId) (kS : ClassId) (fP : Nat → Int64) (fR : Nat → Int64) (kM : ClassId) (mf : Nat → Int32) (h0 : Heap) (n0 : Nat) (Z0 : n0 ≤ h0.size) (E_a1 : Exa Z h0 a1 "com/example/always_over_paths/alwaysoverpaths/explicit/MarkingTable") (F_places_a1 : Fld Z h0 a1 "com/example/always_over_paths/alwaysoverpaths/explicit/MarkingTable" "places" "I" (.int (3 : Int32))) (F_bits_a1 : Fld Z h0 a1 "com/example/always_over_paths/alwaysoverpaths/explicit/MarkingTable" "bits" "I" (.int (1 : Int32))) (F_words_a1 : Fld Z h0 a1 "com/example/always_over_paths/alwaysoverpaths/explicit/MarkingTable" "words" "I" (.int (own_W (1 : Int32)))) (F_packed_a1 : Fld Z h0 a1 "com/example/always_over_paths/alwaysoverpaths/explicit/MarkingTable" "packed" "[J" (.ref P)) (F_probe_a1 : Fld Z h0 a1 "com/example/always_over_paths/alwaysoverpaths/explicit/MarkingTable" "probe" "[J" (.ref R)) (F_size_a1 : Fld Z h0 a1 "com/example/always_over_paths/alwaysoverpaths/explicit/MarkingTable" "size" "I" (.int (0 : Int32))) (F_slots_a1 : Fld Z h0 a1 "com/example/always_over_paths/alwaysoverpaths/explicit/MarkingTable" "slots" "[I" (.ref S)) (A_P : AV Z h0 P kP .long (16 * (own_W (1 : Int32)).toNatClampNeg) (fun i => Value.long (fP i))) (A_R : AV Z h0 R kR .long (own_W (1 : Int32)).toNatClampNeg (fun i => Value.long (fR i))) (A_S : AV Z h0 S kS .int 32 (fun i => Value.int ((fun _ => (0 : Int32)) i))) (A_a2 : AV Z h0 a2 kM .int 3 (fun i => Value.int (mf i))) (ne_a1_P : a1 ≠ P) (ne_a1_R : a1 ≠ R) (ne_a1_S : a1 ≠ S) (ne_a2_P : a2 ≠ P) (ne_a2_R : a2 ≠ R) (ne_a2_S : a2 ≠ S) (ne_a1_a2 : a1 ≠ a2) (ne_P_R : P ≠ R) (ne_P_S : P ≠ S) (ne_R_S : R ≠ S) (g_a1 : n0 ≤ a1) (g_P : n0 ≤ P) (g_R : n0 ≤ R) (g_S : n0 ≤ S) (hm : 0 ≤ (mf 0).toInt ∧ 0 ≤ (mf 1).toInt ∧ 0 ≤ (mf 2).toInt) :
    MetFree l (⟨"com/example/always_over_paths/alwaysoverpaths/explicit/MarkingTable", "add", "([I)I"⟩ : MethodName) (head1 (Jvm.Cond.code (⟨"com/example/always_over_paths/alwaysoverpaths/explicit/MarkingTable", "add", "([I)I"⟩ : MethodName) prog_21_method_3_code 7 (some .int) :: ws) ({ frames := 3, cells := 4, slots := 69, locals := 46 } : Room)) (fun a U => a = #[(.ref a1), (.ref a2)] ∧ Z.Warmed39 U.vm ∧ U.heap = h0) (fun _ _ _ _ _ => True) (fun _ U o U' => ∃ v L, o = .returned v ∧ Qad0 Z a1 a2 P R S kP kR kS fP fR kM mf h0 n0 v U'.heap L ∧ FrameEnd U o U' L ({ frames := 3, cells := 4, slots := 69, locals := 46 } : Room).cells ({ frames := 3, cells := 4, slots := 69, locals := 46 } : Room).slots) := by
  refine MetFree.of_bodySF (plainFor_of_name pn_1) hisR ?_
  intro p e s m args below meth c s₁ Bd hml0 hP hK
  obtain ⟨rfl, hZ, hh⟩ := hP
  have hx := Bd.exec
  have hby := Bd.bytes
  have hml : c.maxLocals = 7 := hml0
  have hown : s.vm.findClass "com/example/always_over_paths/alwaysoverpaths/explicit/MarkingTable" = some m.cls := findClass_of_methodNamed Bd.named
  have hnm := (name_of_methodNamed Bd.named Bd.method).1
  have X0 : Stand p l e ({ frames := 3, cells := 4, slots := 69, locals := 46 } : Room) s m #[(.ref a1), (.ref a2)] below meth c s₁ [] 0 0 := Stand.of_body Bd
  have e0 : s₁.heap = h0 := by rw [← hh, Bd.state]; rfl
  have N0 := Fr.nil n0
  show GoalS p.tables e below s ({ frames := 3, cells := 4, slots := 69, locals := 46 } : Room).cells ({ frames := 3, cells := 4, slots := 69, locals := 46 } : Room).slots (Qad0 Z a1 a2 P R S kP kR kS fP fR kM mf h0 n0) (s₁.setTop (entryFrame m #[(.ref a1), (.ref a2)] 7))
  refine GoalS.lift (B := s₁.setTop (mkF m 0 #[vr a1, vr a2, .unset, .unset, .unset, .unset, .unset] [])) (fun t k => castTop (ef_rmad0 m a1 a2) k) ?_
  have K0 : Keep h0 h0 [a1, P, R, S] := Keep.refl _ _
  obtain ⟨cl1, Ar1, -, sz1, -, -⟩ := id A_a2
  have le1 : cl1.slots.size.toInt32 = (3 : Int32) := by rw [sz1]; exact rfl
  obtain ⟨cl2, Ar2, kc2, sz2, -, hv2⟩ := id A_a2
  have hin2 : ¬ ((0 : Int32) < 0 ∨ cl2.slots.size ≤ ((0 : Int32)).toNatClampNeg) := AV.inb sz2 (show ¬ (0 : Int32) < 0 ∧ ((0 : Int32)).toNatClampNeg < 3 by decide)
  have hat2 : cl2.slots[((0 : Int32)).toNatClampNeg]? = some (.int (mf 0)) := (hv2 _ (AV.inx (show ¬ (0 : Int32) < 0 ∧ ((0 : Int32)).toNatClampNeg < 3 by decide))).trans (congrArg some rfl)
  obtain ⟨cl3, Ar3, kc3, sz3, -, hv3⟩ := id A_a2
  have hin3 : ¬ ((1 : Int32) < 0 ∨ cl3.slots.size ≤ ((1 : Int32)).toNatClampNeg) := AV.inb sz3 (show ¬ (1 : Int32) < 0 ∧ ((1 : Int32)).toNatClampNeg < 3 by decide)
  have hat3 : cl3.slots[((1 : Int32)).toNatClampNeg]? = some (.int (mf 1)) := (hv3 _ (AV.inx (show ¬ (1 : Int32) < 0 ∧ ((1 : Int32)).toNatClampNeg < 3 by decide))).trans (congrArg some rfl)
  obtain ⟨cl4, Ar4, kc4, sz4, -, hv4⟩ := id A_a2
  have hin4 : ¬ ((2 : Int32) < 0 ∨ cl4.slots.size ≤ ((2 : Int32)).toNatClampNeg) := AV.inb sz4 (show ¬ (2 : Int32) < 0 ∧ ((2 : Int32)).toNatClampNeg < 3 by decide)
  have hat4 : cl4.slots[((2 : Int32)).toNatClampNeg]? = some (.int (mf 2)) := (hv4 _ (AV.inx (show ¬ (2 : Int32) < 0 ∧ ((2 : Int32)).toNatClampNeg < 3 by decide))).trans (congrArg some rfl)
  obtain ⟨_, _, ⟨T5, L5, k5, n5⟩, -, X5, ⟨Lc5, hQ5, l5, y5, z5⟩, st5⟩ := Jvm.LawKit.callS X0 hx (y := (⟨"java/lang/Integer", "numberOfLeadingZeros", "(I)I"⟩ : MethodName)) hown (mvT hZ (hw _ (List.mem_of_getElem? (i := 36) rfl))) (mvT hZ (hw _ (List.mem_of_getElem? (i := 37) rfl))) (mvT hZ (hw _ (List.mem_of_getElem? (i := 38) rfl))) (mvT hZ (hw _ (List.mem_of_getElem? (i := 39) rfl))) (by decide) (backOf (W := 2) (rmnlz l Z a0 hw [] ((((0 : Int32) ||| (mf 0)) ||| (mf 1)) ||| (mf 2)) h0 n0 Z0) hZ (hw _ (List.mem_of_getElem? (i := 39) rfl)) (hw _ (List.mem_of_getElem? (i := 38) rfl)) (by decide) (by decide)) (g := (mkF m 39 #[vr a1, vr a2, vi ((((0 : Int32) ||| (mf 0)) ||| (mf 1)) ||| (mf 2)), vr a2, vi (3 : Int32), vi (3 : Int32), vi (mf 2)] [(.int ((((0 : Int32) ||| (mf 0)) ||| (mf 1)) ||| (mf 2))), (.int (32 : Int32)), (.int (1 : Int32))])) rfl (by rw [hml]; rfl) (argsL := [(.int ((((0 : Int32) ||| (mf 0)) ||| (mf 1)) ||| (mf 2)))]) (rest := [(.int (32 : Int32)), (.int (1 : Int32))]) (lenOf pd_6 rfl) rfl (by show 2 * 0 + _ ≤ _; exact Nat.le_of_eq rfl) (hb hby d5_39) (fun _ _ => ⟨rfl, e0, (by decide : 0 + 0 ≤ _), (by decide : 0 + 0 ≤ _)⟩)
  dsimp only [Pt.U, Pt.locs, Pt.cells, Pt.slots] at X5 l5 y5 z5 st5 hQ5
  subst y5 z5
  obtain ⟨rfl, N5q, eq5⟩ := hQ5
  have N5 : Fr n0 L5 := by rw [l5]; exact Fr.app N0 N5q
  obtain ⟨_, _, ⟨T6, L6, k6, n6⟩, -, X6, ⟨Lc6, hQ6, l6, y6, z6⟩, st6⟩ := Jvm.LawKit.callS X5 hx (y := (⟨"java/lang/Math", "max", "(II)I"⟩ : MethodName)) hown (mvT hZ (hw _ (List.mem_of_getElem? (i := 18) rfl))) (mvT hZ (hw _ (List.mem_of_getElem? (i := 19) rfl))) (mvT hZ (hw _ (List.mem_of_getElem? (i := 20) rfl))) (mvT hZ (hw _ (List.mem_of_getElem? (i := 21) rfl))) (by decide) (backOf (W := 0) (rmmax l Z a0 hw [] (1 : Int32) ((32 : Int32) - (own_nlz ((((0 : Int32) ||| (mf 0)) ||| (mf 1)) ||| (mf 2)))) h0 n0 Z0) hZ (hw _ (List.mem_of_getElem? (i := 21) rfl)) (hw _ (List.mem_of_getElem? (i := 20) rfl)) (by decide) (by decide)) (g := (mkF m 43 #[vr a1, vr a2, vi ((((0 : Int32) ||| (mf 0)) ||| (mf 1)) ||| (mf 2)), vr a2, vi (3 : Int32), vi (3 : Int32), vi (mf 2)] [(.int ((32 : Int32) - (own_nlz ((((0 : Int32) ||| (mf 0)) ||| (mf 1)) ||| (mf 2))))), (.int (1 : Int32))])) rfl (by rw [hml]; rfl) (argsL := [(.int (1 : Int32)), (.int ((32 : Int32) - (own_nlz ((((0 : Int32) ||| (mf 0)) ||| (mf 1)) ||| (mf 2)))))]) (rest := []) (lenOf pd_0 rfl) rfl (by show 2 * 0 + _ ≤ _; exact Nat.le_of_eq rfl) (hb hby d5_43) (fun _ _ => ⟨rfl, eq5, (by decide : 0 + 0 ≤ _), (by decide : 0 + 0 ≤ _)⟩)
  dsimp only [Pt.U, Pt.locs, Pt.cells, Pt.slots] at X6 l6 y6 z6 st6 hQ6
  subst y6 z6
  obtain ⟨rfl, N6q, eq6⟩ := hQ6
  have N6 : Fr n0 L6 := by rw [l6]; exact Fr.app N5 N6q
  obtain ⟨N, hN⟩ : ∃ z : Int32, z = (own_mx (1 : Int32) ((32 : Int32) - (own_nlz ((((0 : Int32) ||| (mf 0)) ||| (mf 1)) ||| (mf 2))))) := ⟨_, rfl⟩
  refine GoalS.lift (B := (T6.setTop (mkF m 46 #[vr a1, vr a2, vi ((((0 : Int32) ||| (mf 0)) ||| (mf 1)) ||| (mf 2)), vr a2, vi (3 : Int32), vi (3 : Int32), vi (mf 2)] [(.int N)]))) (fun t k => ?_) ?_
  · show Steps p.tables e below (s₁.setTop (mkF m 0 #[vr a1, vr a2, .unset, .unset, .unset, .unset, .unset] [])) _
    refine XS.iconst X0.here hx rfl (hb hby d5_0) ?_
    refine XS.istoreN X0.here hx rfl (hb hby d5_1) rfl (l' := #[vr a1, vr a2, vi (0 : Int32), .unset, .unset, .unset, .unset]) rfl ?_
    refine XS.aloadN X0.here hx rfl (hb hby d5_2) rfl rfl ?_
    refine XS.astoreN X0.here hx rfl (hb hby d5_3) rfl rfl (l' := #[vr a1, vr a2, vi (0 : Int32), vr a2, .unset, .unset, .unset]) rfl ?_
    refine XS.aloadN X0.here hx rfl (hb hby d5_4) rfl rfl ?_
    refine X0.arraylength hx (by rw [e0]; exact Ar1.1) (State.isArrayOf_alike hZ.alike Ar1.2.1) (g := (mkF m 5 #[vr a1, vr a2, vi (0 : Int32), vr a2, .unset, .unset, .unset] [(.ref a2)])) rfl rfl (hb hby d5_5) _ ?_
    rw [le1]
    show Steps p.tables e below (s₁.setTop (mkF m 6 #[vr a1, vr a2, vi (0 : Int32), vr a2, .unset, .unset, .unset] [(.int (3 : Int32))])) _
    refine XS.istore X0.here hx rfl (hb hby d5_6) rfl (l' := #[vr a1, vr a2, vi (0 : Int32), vr a2, vi (3 : Int32), .unset, .unset]) rfl ?_
    refine XS.iconst X0.here hx rfl (hb hby d5_8) ?_
    refine XS.istore X0.here hx rfl (hb hby d5_9) rfl (l' := #[vr a1, vr a2, vi (0 : Int32), vr a2, vi (3 : Int32), vi (0 : Int32), .unset]) rfl ?_
    refine XS.iload X0.here hx rfl (hb hby d5_11) rfl ?_
    refine XS.iload X0.here hx rfl (hb hby d5_13) rfl ?_
    refine XS.icmpNo X0.here hx rfl (hb hby d5_15) rfl ((tlt (by decide : (0 : Int32) < (3 : Int32))).2.1) ?_
    show Steps p.tables e below (s₁.setTop (mkF m 18 #[vr a1, vr a2, vi (0 : Int32), vr a2, vi (3 : Int32), vi (0 : Int32), .unset] [])) _
    refine XS.aloadN X0.here hx rfl (hb hby d5_18) rfl rfl ?_
    refine XS.iload X0.here hx rfl (hb hby d5_19) rfl ?_
    refine X0.iaload hx (j := (0 : Int32)) (v := (.int (mf 0))) (by rw [e0]; exact Ar2.1) (State.isArrayOf_alike hZ.alike Ar2.2.1) Ar2.2.2 hin2 hat2 (g := (mkF m 21 #[vr a1, vr a2, vi (0 : Int32), vr a2, vi (3 : Int32), vi (0 : Int32), .unset] [(.int (0 : Int32)), (.ref a2)])) rfl rfl (hb hby d5_21) _ ?_
    refine XS.istore X0.here hx rfl (hb hby d5_22) rfl (l' := #[vr a1, vr a2, vi (0 : Int32), vr a2, vi (3 : Int32), vi (0 : Int32), vi (mf 0)]) rfl ?_
    refine XS.iloadN X0.here hx rfl (hb hby d5_24) rfl ?_
    refine XS.iload X0.here hx rfl (hb hby d5_25) rfl ?_
    show Steps p.tables e below (s₁.setTop (mkF m 27 #[vr a1, vr a2, vi (0 : Int32), vr a2, vi (3 : Int32), vi (0 : Int32), vi (mf 0)] [(.int (mf 0)), (.int (0 : Int32))])) _
    refine XS.ior X0.here hx rfl (hb hby d5_27) rfl ?_
    refine XS.istoreN X0.here hx rfl (hb hby d5_28) rfl (l' := #[vr a1, vr a2, vi ((0 : Int32) ||| (mf 0)), vr a2, vi (3 : Int32), vi (0 : Int32), vi (mf 0)]) rfl ?_
    refine XS.iinc X0.here hx rfl (hb hby d5_29) rfl (l' := #[vr a1, vr a2, vi ((0 : Int32) ||| (mf 0)), vr a2, vi (3 : Int32), vi (1 : Int32), vi (mf 0)]) rfl ?_
    refine XS.goto X0.here hx rfl (pc0 := 32) (pc' := 11) rfl (hb hby d5_32) (by decide) (by decide) ?_
    refine XS.iload X0.here hx rfl (hb hby d5_11) rfl ?_
    refine XS.iload X0.here hx rfl (hb hby d5_13) rfl ?_
    show Steps p.tables e below (s₁.setTop (mkF m 15 #[vr a1, vr a2, vi ((0 : Int32) ||| (mf 0)), vr a2, vi (3 : Int32), vi (1 : Int32), vi (mf 0)] [(.int (3 : Int32)), (.int (1 : Int32))])) _
    refine XS.icmpNo X0.here hx rfl (hb hby d5_15) rfl ((tlt (by decide : (1 : Int32) < (3 : Int32))).2.1) ?_
    refine XS.aloadN X0.here hx rfl (hb hby d5_18) rfl rfl ?_
    refine XS.iload X0.here hx rfl (hb hby d5_19) rfl ?_
    refine X0.iaload hx (j := (1 : Int32)) (v := (.int (mf 1))) (by rw [e0]; exact Ar3.1) (State.isArrayOf_alike hZ.alike Ar3.2.1) Ar3.2.2 hin3 hat3 (g := (mkF m 21 #[vr a1, vr a2, vi ((0 : Int32) ||| (mf 0)), vr a2, vi (3 : Int32), vi (1 : Int32), vi (mf 0)] [(.int (1 : Int32)), (.ref a2)])) rfl rfl (hb hby d5_21) _ ?_
    refine XS.istore X0.here hx rfl (hb hby d5_22) rfl (l' := #[vr a1, vr a2, vi ((0 : Int32) ||| (mf 0)), vr a2, vi (3 : Int32), vi (1 : Int32), vi (mf 1)]) rfl ?_
    refine XS.iloadN X0.here hx rfl (hb hby d5_24) rfl ?_
    show Steps p.tables e below (s₁.setTop (mkF m 25 #[vr a1, vr a2, vi ((0 : Int32) ||| (mf 0)), vr a2, vi (3 : Int32), vi (1 : Int32), vi (mf 1)] [(.int ((0 : Int32) ||| (mf 0)))])) _
    refine XS.iload X0.here hx rfl (hb hby d5_25) rfl ?_
    refine XS.ior X0.here hx rfl (hb hby d5_27) rfl ?_
    refine XS.istoreN X0.here hx rfl (hb hby d5_28) rfl (l' := #[vr a1, vr a2, vi (((0 : Int32) ||| (mf 0)) ||| (mf 1)), vr a2, vi (3 : Int32), vi (1 : Int32), vi (mf 1)]) rfl ?_
    refine XS.iinc X0.here hx rfl (hb hby d5_29) rfl (l' := #[vr a1, vr a2, vi (((0 : Int32) ||| (mf 0)) ||| (mf 1)), vr a2, vi (3 : Int32), vi (2 : Int32), vi (mf 1)]) rfl ?_
    refine XS.goto X0.here hx rfl (pc0 := 32) (pc' := 11) rfl (hb hby d5_32) (by decide) (by decide) ?_
    refine XS.iload X0.here hx rfl (hb hby d5_11) rfl ?_
    show Steps p.tables e below (s₁.setTop (mkF m 13 #[vr a1, vr a2, vi (((0 : Int32) ||| (mf 0)) ||| (mf 1)), vr a2, vi (3 : Int32), vi (2 : Int32), vi (mf 1)] [(.int (2 : Int32))])) _
    refine XS.iload X0.here hx rfl (hb hby d5_13) rfl ?_
    refine XS.icmpNo X0.here hx rfl (hb hby d5_15) rfl ((tlt (by decide : (2 : Int32) < (3 : Int32))).2.1) ?_
    refine XS.aloadN X0.here hx rfl (hb hby d5_18) rfl rfl ?_
    refine XS.iload X0.here hx rfl (hb hby d5_19) rfl ?_
    refine X0.iaload hx (j := (2 : Int32)) (v := (.int (mf 2))) (by rw [e0]; exact Ar4.1) (State.isArrayOf_alike hZ.alike Ar4.2.1) Ar4.2.2 hin4 hat4 (g := (mkF m 21 #[vr a1, vr a2, vi (((0 : Int32) ||| (mf 0)) ||| (mf 1)), vr a2, vi (3 : Int32), vi (2 : Int32), vi (mf 1)] [(.int (2 : Int32)), (.ref a2)])) rfl rfl (hb hby d5_21) _ ?_
    refine XS.istore X0.here hx rfl (hb hby d5_22) rfl (l' := #[vr a1, vr a2, vi (((0 : Int32) ||| (mf 0)) ||| (mf 1)), vr a2, vi (3 : Int32), vi (2 : Int32), vi (mf 2)]) rfl ?_
    show Steps p.tables e below (s₁.setTop (mkF m 24 #[vr a1, vr a2, vi (((0 : Int32) ||| (mf 0)) ||| (mf 1)), vr a2, vi (3 : Int32), vi (2 : Int32), vi (mf 2)] [])) _
    refine XS.iloadN X0.here hx rfl (hb hby d5_24) rfl ?_
    refine XS.iload X0.here hx rfl (hb hby d5_25) rfl ?_
    refine XS.ior X0.here hx rfl (hb hby d5_27) rfl ?_
    refine XS.istoreN X0.here hx rfl (hb hby d5_28) rfl (l' := #[vr a1, vr a2, vi ((((0 : Int32) ||| (mf 0)) ||| (mf 1)) ||| (mf 2)), vr a2, vi (3 : Int32), vi (2 : Int32), vi (mf 2)]) rfl ?_
    refine XS.iinc X0.here hx rfl (hb hby d5_29) rfl (l' := #[vr a1, vr a2, vi ((((0 : Int32) ||| (mf 0)) ||| (mf 1)) ||| (mf 2)), vr a2, vi (3 : Int32), vi (3 : Int32), vi (mf 2)]) rfl ?_
    refine XS.goto X0.here hx rfl (pc0 := 32) (pc' := 11) rfl (hb hby d5_32) (by decide) (by decide) ?_
    show Steps p.tables e below (s₁.setTop (mkF m 11 #[vr a1, vr a2, vi ((((0 : Int32) ||| (mf 0)) ||| (mf 1)) ||| (mf 2)), vr a2, vi (3 : Int32), vi (3 : Int32), vi (mf 2)] [])) _
    refine XS.iload X0.here hx rfl (hb hby d5_11) rfl ?_
    refine XS.iload X0.here hx rfl (hb hby d5_13) rfl ?_
    refine XS.icmpYes X0.here hx rfl (pc0 := 15) (pc' := 35) rfl (hb hby d5_15) rfl ((flt (by decide : ¬ ((3 : Int32) < (3 : Int32)))).2.1) (by decide) (by decide) ?_
    refine XS.iconst X0.here hx rfl (hb hby d5_35) ?_
    refine XS.bipush X0.here hx rfl (hb hby d5_36) ?_
    refine XS.iloadN X0.here hx rfl (hb hby d5_38) rfl ?_
    show Steps p.tables e below (s₁.setTop (mkF m 39 #[vr a1, vr a2, vi ((((0 : Int32) ||| (mf 0)) ||| (mf 1)) ||| (mf 2)), vr a2, vi (3 : Int32), vi (3 : Int32), vi (mf 2)] [(.int ((((0 : Int32) ||| (mf 0)) ||| (mf 1)) ||| (mf 2))), (.int (32 : Int32)), (.int (1 : Int32))])) _
    refine st5 _ ?_
    refine XS.isub X5.here hx rfl (hb hby d5_42) rfl ?_
    refine st6 _ ?_
    rw [hN] at k
    exact k
  have nd := own_need3 hm.1 hm.2.1 hm.2.2 hN
  obtain ⟨T7, X7, e7, st7⟩ := getF X6 hx hZ hown (host := "") (Or.inl (hw _ (List.mem_of_getElem? (i := 13) rfl))) Via.refl eq6 F_bits_a1 (g := (mkF m 49 #[vr a1, vr a2, vi ((((0 : Int32) ||| (mf 0)) ||| (mf 1)) ||| (mf 2)), vi N, vi (3 : Int32), vi (3 : Int32), vi (mf 2)] [(.ref a1), (.int N)])) rfl rfl (hb hby d5_49)
  refine GoalS.lift (B := (T7.setTop (mkF m 52 #[vr a1, vr a2, vi ((((0 : Int32) ||| (mf 0)) ||| (mf 1)) ||| (mf 2)), vi N, vi (3 : Int32), vi (3 : Int32), vi (mf 2)] [(.int (1 : Int32)), (.int N)]))) (fun t k => ?_) ?_
  · show Steps p.tables e below (T6.setTop (mkF m 46 #[vr a1, vr a2, vi ((((0 : Int32) ||| (mf 0)) ||| (mf 1)) ||| (mf 2)), vr a2, vi (3 : Int32), vi (3 : Int32), vi (mf 2)] [(.int N)])) _
    refine XS.istoreN X6.here hx rfl (hb hby d5_46) rfl (l' := #[vr a1, vr a2, vi ((((0 : Int32) ||| (mf 0)) ||| (mf 1)) ||| (mf 2)), vi N, vi (3 : Int32), vi (3 : Int32), vi (mf 2)]) rfl ?_
    refine XS.iloadN X6.here hx rfl (hb hby d5_47) rfl ?_
    refine XS.aloadN X6.here hx rfl (hb hby d5_48) rfl rfl ?_
    refine st7 _ ?_
    exact k
  by_cases hc52_8 : (1 : Int32) < N
  · obtain ⟨cq9, q9, q9'⟩ := E_a1.cell
    obtain ⟨_, _, ⟨T9, L9, k9, n9⟩, -, X9, ⟨Lc9, hQ9, l9, y9, z9⟩, st9⟩ := X7.privateBack hx (y := (⟨"com/example/always_over_paths/alwaysoverpaths/explicit/MarkingTable", "widen", "(I)V"⟩ : MethodName)) hown (mvT hZ (hw _ (List.mem_of_getElem? (i := 41) rfl))) (mvT hZ (hw _ (List.mem_of_getElem? (i := 42) rfl))) (own_selp (y := (⟨"com/example/always_over_paths/alwaysoverpaths/explicit/MarkingTable", "widen", "(I)V"⟩ : MethodName)) (mvT hZ (hw _ (List.mem_of_getElem? (i := 3) rfl))) (mvP hZ (hw _ (List.mem_of_getElem? (i := 43) rfl))) (mvT hZ (hw _ (List.mem_of_getElem? (i := 42) rfl))) (by decide)) (Cond.privateMethod_at (mvP hZ (hw _ (List.mem_of_getElem? (i := 43) rfl)) (args := #[]))) (mvT hZ (hw _ (List.mem_of_getElem? (i := 44) rfl))) (by decide) (backOf (W := 0) (rmwd0 l Z a0 hw [] a1 N (1 : Int32) P R S kS (fun _ => (0 : Int32)) h0 n0 Z0 E_a1 F_places_a1 F_bits_a1 F_words_a1 F_packed_a1 F_probe_a1 F_size_a1 F_slots_a1 A_S g_a1 ne_a1_S nd.1) hZ (hw _ (List.mem_of_getElem? (i := 44) rfl)) (hw _ (List.mem_of_getElem? (i := 4) rfl)) (by decide) (by decide)) (g := (mkF m 57 #[vr a1, vr a2, vi ((((0 : Int32) ||| (mf 0)) ||| (mf 1)) ||| (mf 2)), vi N, vi (3 : Int32), vi (3 : Int32), vi (mf 2)] [(.int N), (.ref a1)])) rfl (by rw [hml]; rfl) (Steps.refl _) (a := a1) (by rw [e7]; exact q9) q9' (argsL := [(.int N)]) (rest := []) (lenOf pd_4 rfl) rfl (by show 2 * 0 + _ ≤ _; exact Nat.le_of_eq rfl) (hb hby d5_57) (fun _ _ => ⟨rfl, e7, (by decide : 0 + 4 ≤ _), (by decide : 0 + 69 ≤ _)⟩)
    dsimp only [Pt.U, Pt.locs, Pt.cells, Pt.slots] at X9 l9 y9 z9 st9 hQ9
    subst y9 z9
    obtain ⟨P'_9, R'_9, S'_9, kP'_9, kR'_9, kS'_9, rfl, N9q, p9_0, p9_1, p9_2, p9_3, p9_4, p9_5, p9_6, p9_7, p9_8, p9_9, p9_10, p9_11, p9_12, p9_13, p9_14, p9_15, p9_16, p9_17⟩ := hQ9
    have N9 : Fr n0 L9 := by rw [l9]; exact Fr.app N6 N9q
    have z10 : n0 ≤ T9.heap.size := Nat.le_trans Z0 p9_0.1
    have K11 : Keep h0 T9.heap [a1, P, R, S] := K0.trans p9_0 (allS (Or.inl (List.mem_of_getElem? (i := 0) rfl)) all0)
    have ne_a1_P'_9 : a1 ≠ P'_9 := Nat.ne_of_lt (Nat.lt_of_lt_of_le E_a1.lt p9_1)
    have ne_P_P'_9 : P ≠ P'_9 := Nat.ne_of_lt (Nat.lt_of_lt_of_le A_P.lt p9_1)
    have ne_R_P'_9 : R ≠ P'_9 := Nat.ne_of_lt (Nat.lt_of_lt_of_le A_R.lt p9_1)
    have ne_S_P'_9 : S ≠ P'_9 := Nat.ne_of_lt (Nat.lt_of_lt_of_le A_S.lt p9_1)
    have ne_a2_P'_9 : a2 ≠ P'_9 := Nat.ne_of_lt (Nat.lt_of_lt_of_le A_a2.lt p9_1)
    have g_P'_9 : n0 ≤ P'_9 := Nat.le_trans Z0 p9_1
    have sz_P'_9 : h0.size ≤ P'_9 := Nat.le_trans K0.1 p9_1
    have ne_a1_R'_9 : a1 ≠ R'_9 := Nat.ne_of_lt (Nat.lt_of_lt_of_le E_a1.lt p9_2)
    have ne_P_R'_9 : P ≠ R'_9 := Nat.ne_of_lt (Nat.lt_of_lt_of_le A_P.lt p9_2)
    have ne_R_R'_9 : R ≠ R'_9 := Nat.ne_of_lt (Nat.lt_of_lt_of_le A_R.lt p9_2)
    have ne_S_R'_9 : S ≠ R'_9 := Nat.ne_of_lt (Nat.lt_of_lt_of_le A_S.lt p9_2)
    have ne_a2_R'_9 : a2 ≠ R'_9 := Nat.ne_of_lt (Nat.lt_of_lt_of_le A_a2.lt p9_2)
    have g_R'_9 : n0 ≤ R'_9 := Nat.le_trans Z0 p9_2
    have sz_R'_9 : h0.size ≤ R'_9 := Nat.le_trans K0.1 p9_2
    have ne_a1_S'_9 : a1 ≠ S'_9 := Nat.ne_of_lt (Nat.lt_of_lt_of_le E_a1.lt p9_3)
    have ne_P_S'_9 : P ≠ S'_9 := Nat.ne_of_lt (Nat.lt_of_lt_of_le A_P.lt p9_3)
    have ne_R_S'_9 : R ≠ S'_9 := Nat.ne_of_lt (Nat.lt_of_lt_of_le A_R.lt p9_3)
    have ne_S_S'_9 : S ≠ S'_9 := Nat.ne_of_lt (Nat.lt_of_lt_of_le A_S.lt p9_3)
    have ne_a2_S'_9 : a2 ≠ S'_9 := Nat.ne_of_lt (Nat.lt_of_lt_of_le A_a2.lt p9_3)
    have g_S'_9 : n0 ≤ S'_9 := Nat.le_trans Z0 p9_3
    have sz_S'_9 : h0.size ≤ S'_9 := Nat.le_trans K0.1 p9_3
    have hBq : own_B N := nd.1
    have bm : own_bd3 N (mf 0) (mf 1) (mf 2) := nd.2
    obtain ⟨T15, X15, e15, st15⟩ := getF X9 hx hZ hown (host := "") (Or.inl (hw _ (List.mem_of_getElem? (i := 46) rfl))) Via.refl rfl p9_13 (g := (mkF m 61 #[vr a1, vr a2, vi ((((0 : Int32) ||| (mf 0)) ||| (mf 1)) ||| (mf 2)), vi N, vi (3 : Int32), vi (3 : Int32), vi (mf 2)] [(.ref a1)])) rfl rfl (hb hby d5_61)
    obtain ⟨T16, X16, e16, st16⟩ := getF X15 hx hZ hown (host := "") (Or.inl (hw _ (List.mem_of_getElem? (i := 29) rfl))) Via.refl e15 p9_14 (g := (mkF m 65 #[vr a1, vr a2, vi ((((0 : Int32) ||| (mf 0)) ||| (mf 1)) ||| (mf 2)), vi N, vi (3 : Int32), vi (3 : Int32), vi (mf 2)] [(.ref a1), (.int (0 : Int32))])) rfl rfl (hb hby d5_65)
    obtain ⟨cl17, Ar17, -, sz17, -, -⟩ := id p9_17
    have le17 : cl17.slots.size.toInt32 = (32 : Int32) := by rw [sz17]; exact rfl
    obtain ⟨T18, X18, e18, st18⟩ := getF X16 hx hZ hown (host := "") (Or.inl (hw _ (List.mem_of_getElem? (i := 13) rfl))) Via.refl e16 p9_9 (g := (mkF m 82 #[vr a1, vr a2, vi ((((0 : Int32) ||| (mf 0)) ||| (mf 1)) ||| (mf 2)), vi N, vi (3 : Int32), vi (3 : Int32), vi (mf 2)] [(.ref a1), (.ref a2)])) rfl rfl (hb hby d5_82)
    obtain ⟨T19, X19, e19, st19⟩ := getF X18 hx hZ hown (host := "") (Or.inl (hw _ (List.mem_of_getElem? (i := 27) rfl))) Via.refl e18 p9_12 (g := (mkF m 86 #[vr a1, vr a2, vi ((((0 : Int32) ||| (mf 0)) ||| (mf 1)) ||| (mf 2)), vi N, vi (3 : Int32), vi (3 : Int32), vi (mf 2)] [(.ref a1), (.int N), (.ref a2)])) rfl rfl (hb hby d5_86)
    have f21 : AV Z T9.heap a2 kM .int 3 (fun i => Value.int (mf i)) := (A_a2.keep p9_0 (ninS (Ne.symm ne_a1_a2) nin0))
    obtain ⟨_, _, ⟨T20, L20, k20, n20⟩, -, X20, ⟨Lc20, hQ20, l20, y20, z20⟩, st20⟩ := Jvm.LawKit.callS X19 hx (y := (⟨"com/example/always_over_paths/alwaysoverpaths/explicit/MarkingTable", "pack", "([II[JI)V"⟩ : MethodName)) hown (mvT hZ (hw _ (List.mem_of_getElem? (i := 56) rfl))) (mvT hZ (hw _ (List.mem_of_getElem? (i := 57) rfl))) (mvT hZ (hw _ (List.mem_of_getElem? (i := 4) rfl))) (mvT hZ (hw _ (List.mem_of_getElem? (i := 58) rfl))) (by decide) (backOf (W := 0) (rmpk l Z a0 hw [] a2 N R'_9 kM kR'_9 mf (fun _ => (0 : Int64)) ((own_W N).toNatClampNeg) T9.heap n0 z10 f21 p9_16 ne_a2_R'_9 g_R'_9 hBq (Nat.le_refl _)) hZ (hw _ (List.mem_of_getElem? (i := 58) rfl)) (hw _ (List.mem_of_getElem? (i := 4) rfl)) (by decide) (by decide)) (g := (mkF m 90 #[vr a1, vr a2, vi ((((0 : Int32) ||| (mf 0)) ||| (mf 1)) ||| (mf 2)), vi N, vi (3 : Int32), vi (3 : Int32), vi (mf 2)] [(.int (0 : Int32)), (.ref R'_9), (.int N), (.ref a2)])) rfl (by rw [hml]; rfl) (argsL := [(.ref a2), (.int N), (.ref R'_9), (.int (0 : Int32))]) (rest := []) (lenOf pd_5 rfl) rfl (by show 2 * 0 + _ ≤ _; exact Nat.le_of_eq rfl) (hb hby d5_90) (fun _ _ => ⟨rfl, e19, (by decide : 4 + 0 ≤ _), (by decide : 69 + 0 ≤ _)⟩)
    dsimp only [Pt.U, Pt.locs, Pt.cells, Pt.slots] at X20 l20 y20 z20 st20 hQ20
    subst y20 z20
    obtain ⟨rfl, N20q, p20_0, p20_1⟩ := hQ20
    have N20 : Fr n0 L20 := by rw [l20]; exact Fr.app N9 N20q
    have z22 : n0 ≤ T20.heap.size := Nat.le_trans z10 p20_0.1
    have K23 : Keep h0 T20.heap [a1, P, R, S] := K11.trans p20_0 (allS (Or.inr sz_R'_9) all0)
    obtain ⟨fr24, hfr24⟩ : ∃ z, z = (own_pk N (mf 0) (mf 1) (mf 2) (fun _ => (0 : Int64))) := ⟨_, rfl⟩
    have V24 : AV Z T20.heap R'_9 kR'_9 .long ((own_W N).toNatClampNeg) (fun i => Value.long (fr24 i)) := by rw [hfr24]; exact p20_1
    have hpr : own_pw N (mf 0) (mf 1) (mf 2) fr24 0 := by rw [hfr24]; exact own_pk_pw _ _ _ _ _
    have f25 : Fld Z T20.heap a1 "com/example/always_over_paths/alwaysoverpaths/explicit/MarkingTable" "slots" "[I" (.ref S'_9) := (p9_14.keep p20_0 (ninS ne_a1_R'_9 nin0))
    obtain ⟨T26, X26, e26, st26⟩ := getF X20 hx hZ hown (host := "") (Or.inl (hw _ (List.mem_of_getElem? (i := 29) rfl))) Via.refl rfl f25 (g := (mkF m 94 #[vr a1, vr a2, vi ((((0 : Int32) ||| (mf 0)) ||| (mf 1)) ||| (mf 2)), vi N, vi (3 : Int32), vi (3 : Int32), vi (mf 2)] [(.ref a1)])) rfl rfl (hb hby d5_94)
    have f28 : AV Z T20.heap S'_9 kS'_9 .int 32 (fun i => Value.int ((fun _ => (0 : Int32)) i)) := (p9_17.keep p20_0 (ninS (Ne.symm p9_6) nin0))
    obtain ⟨cl27, Ar27, -, sz27, -, -⟩ := id f28
    have le27 : cl27.slots.size.toInt32 = (32 : Int32) := by rw [sz27]; exact rfl
    have f29 : Fld Z T20.heap a1 "com/example/always_over_paths/alwaysoverpaths/explicit/MarkingTable" "probe" "[J" (.ref R'_9) := (p9_12.keep p20_0 (ninS ne_a1_R'_9 nin0))
    obtain ⟨T30, X30, e30, st30⟩ := getF X26 hx hZ hown (host := "") (Or.inl (hw _ (List.mem_of_getElem? (i := 27) rfl))) Via.refl e26 f29 (g := (mkF m 103 #[vr a1, vr a2, vi ((((0 : Int32) ||| (mf 0)) ||| (mf 1)) ||| (mf 2)), vi N, vi (31 : Int32), vi (3 : Int32), vi (mf 2)] [(.ref a1)])) rfl rfl (hb hby d5_103)
    have f31 : Fld Z T20.heap a1 "com/example/always_over_paths/alwaysoverpaths/explicit/MarkingTable" "words" "I" (.int (own_W N)) := (p9_10.keep p20_0 (ninS ne_a1_R'_9 nin0))
    obtain ⟨T32, X32, e32, st32⟩ := getF X30 hx hZ hown (host := "") (Or.inl (hw _ (List.mem_of_getElem? (i := 22) rfl))) Via.refl e30 f31 (g := (mkF m 108 #[vr a1, vr a2, vi ((((0 : Int32) ||| (mf 0)) ||| (mf 1)) ||| (mf 2)), vi N, vi (31 : Int32), vi (3 : Int32), vi (mf 2)] [(.ref a1), (.int (0 : Int32)), (.ref R'_9)])) rfl rfl (hb hby d5_108)
    obtain ⟨_, _, ⟨T33, L33, k33, n33⟩, -, X33, ⟨Lc33, hQ33, l33, y33, z33⟩, st33⟩ := Jvm.LawKit.callS X32 hx (y := (⟨"com/example/always_over_paths/alwaysoverpaths/explicit/MarkingTable", "hash", "([JII)I"⟩ : MethodName)) hown (mvT hZ (hw _ (List.mem_of_getElem? (i := 59) rfl))) (mvT hZ (hw _ (List.mem_of_getElem? (i := 60) rfl))) (mvT hZ (hw _ (List.mem_of_getElem? (i := 4) rfl))) (mvT hZ (hw _ (List.mem_of_getElem? (i := 61) rfl))) (by decide) (backOf (W := 0) (rmh l Z a0 hw [] R'_9 (own_W N) kR'_9 fr24 ((own_W N).toNatClampNeg) T20.heap n0 z22 V24 (own_W12 N) (Nat.le_refl _)) hZ (hw _ (List.mem_of_getElem? (i := 61) rfl)) (hw _ (List.mem_of_getElem? (i := 4) rfl)) (by decide) (by decide)) (g := (mkF m 111 #[vr a1, vr a2, vi ((((0 : Int32) ||| (mf 0)) ||| (mf 1)) ||| (mf 2)), vi N, vi (31 : Int32), vi (3 : Int32), vi (mf 2)] [(.int (own_W N)), (.int (0 : Int32)), (.ref R'_9)])) rfl (by rw [hml]; rfl) (argsL := [(.ref R'_9), (.int (0 : Int32)), (.int (own_W N))]) (rest := []) (lenOf pd_2 rfl) rfl (by show 2 * 0 + _ ≤ _; exact Nat.le_of_eq rfl) (hb hby d5_111) (fun _ _ => ⟨rfl, e32, (by decide : 4 + 0 ≤ _), (by decide : 69 + 0 ≤ _)⟩)
    dsimp only [Pt.U, Pt.locs, Pt.cells, Pt.slots] at X33 l33 y33 z33 st33 hQ33
    subst y33 z33
    obtain ⟨rfl, N33q, eq33⟩ := hQ33
    have N33 : Fr n0 L33 := by rw [l33]; exact Fr.app N20 N33q
    refine GoalS.lift (B := (T33.setTop (mkF m 117 #[vr a1, vr a2, vi ((((0 : Int32) ||| (mf 0)) ||| (mf 1)) ||| (mf 2)), vi N, vi (31 : Int32), vi (3 : Int32), vi (mf 2)] [(.int ((own_hash (own_W N) (fr24 0) (fr24 1)) &&& (31 : Int32)))]))) (fun t k => ?_) ?_
    · show Steps p.tables e below (T7.setTop (mkF m 52 #[vr a1, vr a2, vi ((((0 : Int32) ||| (mf 0)) ||| (mf 1)) ||| (mf 2)), vi N, vi (3 : Int32), vi (3 : Int32), vi (mf 2)] [(.int (1 : Int32)), (.int N)])) _
      refine XS.icmpNo X7.here hx rfl (hb hby d5_52) rfl ((tlt hc52_8).2.2.2) ?_
      refine XS.aloadN X7.here hx rfl (hb hby d5_55) rfl rfl ?_
      refine XS.iloadN X7.here hx rfl (hb hby d5_56) rfl ?_
      refine st9.trans ?_
      refine XS.aloadN X9.here hx rfl (hb hby d5_60) rfl rfl ?_
      refine st15 _ ?_
      show Steps p.tables e below (T15.setTop (mkF m 64 #[vr a1, vr a2, vi ((((0 : Int32) ||| (mf 0)) ||| (mf 1)) ||| (mf 2)), vi N, vi (3 : Int32), vi (3 : Int32), vi (mf 2)] [(.int (0 : Int32))])) _
      refine XS.aloadN X15.here hx rfl (hb hby d5_64) rfl rfl ?_
      refine st16 _ ?_
      refine X16.arraylength hx (by rw [e16]; exact Ar17.1) (State.isArrayOf_alike hZ.alike Ar17.2.1) (g := (mkF m 68 #[vr a1, vr a2, vi ((((0 : Int32) ||| (mf 0)) ||| (mf 1)) ||| (mf 2)), vi N, vi (3 : Int32), vi (3 : Int32), vi (mf 2)] [(.ref S'_9), (.int (0 : Int32))])) rfl rfl (hb hby d5_68) _ ?_
      rw [le17]
      refine XS.iconst X16.here hx rfl (hb hby d5_69) ?_
      refine XS.idiv X16.here hx rfl (hb hby d5_70) rfl (by decide) ?_
      show Steps p.tables e below (T16.setTop (mkF m 71 #[vr a1, vr a2, vi ((((0 : Int32) ||| (mf 0)) ||| (mf 1)) ||| (mf 2)), vi N, vi (3 : Int32), vi (3 : Int32), vi (mf 2)] [(.int ((32 : Int32) / (4 : Int32))), (.int (0 : Int32))])) _
      refine XS.iconst X16.here hx rfl (hb hby d5_71) ?_
      refine XS.imul X16.here hx rfl (hb hby d5_72) rfl ?_
      refine XS.icmpYes X16.here hx rfl (pc0 := 73) (pc' := 80) rfl (hb hby d5_73) rfl ((tlt (by decide : (0 : Int32) < (((32 : Int32) / (4 : Int32)) * (3 : Int32)))).1) (by decide) (by decide) ?_
      refine XS.aloadN X16.here hx rfl (hb hby d5_80) rfl rfl ?_
      refine XS.aloadN X16.here hx rfl (hb hby d5_81) rfl rfl ?_
      refine st18 _ ?_
      show Steps p.tables e below (T18.setTop (mkF m 85 #[vr a1, vr a2, vi ((((0 : Int32) ||| (mf 0)) ||| (mf 1)) ||| (mf 2)), vi N, vi (3 : Int32), vi (3 : Int32), vi (mf 2)] [(.int N), (.ref a2)])) _
      refine XS.aloadN X18.here hx rfl (hb hby d5_85) rfl rfl ?_
      refine st19 _ ?_
      refine XS.iconst X19.here hx rfl (hb hby d5_89) ?_
      refine st20 _ ?_
      refine XS.aloadN X20.here hx rfl (hb hby d5_93) rfl rfl ?_
      refine st26 _ ?_
      show Steps p.tables e below (T26.setTop (mkF m 97 #[vr a1, vr a2, vi ((((0 : Int32) ||| (mf 0)) ||| (mf 1)) ||| (mf 2)), vi N, vi (3 : Int32), vi (3 : Int32), vi (mf 2)] [(.ref S'_9)])) _
      refine X26.arraylength hx (by rw [e26]; exact Ar27.1) (State.isArrayOf_alike hZ.alike Ar27.2.1) (g := (mkF m 97 #[vr a1, vr a2, vi ((((0 : Int32) ||| (mf 0)) ||| (mf 1)) ||| (mf 2)), vi N, vi (3 : Int32), vi (3 : Int32), vi (mf 2)] [(.ref S'_9)])) rfl rfl (hb hby d5_97) _ ?_
      rw [le27]
      refine XS.iconst X26.here hx rfl (hb hby d5_98) ?_
      refine XS.isub X26.here hx rfl (hb hby d5_99) rfl ?_
      refine XS.istore X26.here hx rfl (hb hby d5_100) rfl (l' := #[vr a1, vr a2, vi ((((0 : Int32) ||| (mf 0)) ||| (mf 1)) ||| (mf 2)), vi N, vi (31 : Int32), vi (3 : Int32), vi (mf 2)]) rfl ?_
      refine XS.aloadN X26.here hx rfl (hb hby d5_102) rfl rfl ?_
      show Steps p.tables e below (T26.setTop (mkF m 103 #[vr a1, vr a2, vi ((((0 : Int32) ||| (mf 0)) ||| (mf 1)) ||| (mf 2)), vi N, vi (31 : Int32), vi (3 : Int32), vi (mf 2)] [(.ref a1)])) _
      refine st30 _ ?_
      refine XS.iconst X30.here hx rfl (hb hby d5_106) ?_
      refine XS.aloadN X30.here hx rfl (hb hby d5_107) rfl rfl ?_
      refine st32 _ ?_
      refine st33 _ ?_
      refine XS.iload X33.here hx rfl (hb hby d5_114) rfl ?_
      show Steps p.tables e below (T33.setTop (mkF m 116 #[vr a1, vr a2, vi ((((0 : Int32) ||| (mf 0)) ||| (mf 1)) ||| (mf 2)), vi N, vi (31 : Int32), vi (3 : Int32), vi (mf 2)] [(.int (31 : Int32)), (.int (own_hash (own_W N) (fr24 0) (fr24 1)))])) _
      refine XS.iand X33.here hx rfl (hb hby d5_116) rfl ?_
      exact k
    refine GoalS.lift (B := (T33.setTop (mkF m 117 #[vr a1, vr a2, vi ((((0 : Int32) ||| (mf 0)) ||| (mf 1)) ||| (mf 2)), vi N, vi (31 : Int32), vi (3 : Int32), vi (mf 2)] [(.int (own_sl N (mf 0) (mf 1) (mf 2)))]))) (fun t k => by rw [own_hpk hpr]; exact k) ?_
    obtain ⟨T34, X34, e34, st34⟩ := getF X33 hx hZ hown (host := "") (Or.inl (hw _ (List.mem_of_getElem? (i := 29) rfl))) Via.refl eq33 f25 (g := (mkF m 120 #[vr a1, vr a2, vi ((((0 : Int32) ||| (mf 0)) ||| (mf 1)) ||| (mf 2)), vi N, vi (31 : Int32), vi (own_sl N (mf 0) (mf 1) (mf 2)), vi (mf 2)] [(.ref a1)])) rfl rfl (hb hby d5_120)
    obtain ⟨cl35, Ar35, kc35, sz35, -, hv35⟩ := id f28
    have hin35 : ¬ ((own_sl N (mf 0) (mf 1) (mf 2)) < 0 ∨ cl35.slots.size ≤ ((own_sl N (mf 0) (mf 1) (mf 2))).toNatClampNeg) := AV.inb sz35 (own_slin (own_slr N (mf 0) (mf 1) (mf 2)))
    have hat35 : cl35.slots[((own_sl N (mf 0) (mf 1) (mf 2))).toNatClampNeg]? = some (.int (0 : Int32)) := (hv35 _ (AV.inx (own_slin (own_slr N (mf 0) (mf 1) (mf 2))))).trans (congrArg some rfl)
    have f37 : Fld Z T20.heap a1 "com/example/always_over_paths/alwaysoverpaths/explicit/MarkingTable" "bits" "I" (.int N) := (p9_9.keep p20_0 (ninS ne_a1_R'_9 nin0))
    have f38 : Fld Z T20.heap a1 "com/example/always_over_paths/alwaysoverpaths/explicit/MarkingTable" "size" "I" (.int (0 : Int32)) := (p9_13.keep p20_0 (ninS ne_a1_R'_9 nin0))
    have f39 : Fld Z T20.heap a1 "com/example/always_over_paths/alwaysoverpaths/explicit/MarkingTable" "packed" "[J" (.ref P'_9) := (p9_11.keep p20_0 (ninS ne_a1_R'_9 nin0))
    have f40 : AV Z T20.heap P'_9 kP'_9 .long (16 * (own_W N).toNatClampNeg) (fun i => Value.long ((fun _ => (0 : Int64)) i)) := (p9_15.keep p20_0 (ninS p9_4 nin0))
    have f41 : Exa Z T20.heap a1 "com/example/always_over_paths/alwaysoverpaths/explicit/MarkingTable" := (p9_7.keep p20_0)
    obtain ⟨cq36, q36, q36'⟩ := f41.cell
    obtain ⟨_, _, ⟨T36, L36, k36, n36⟩, -, X36, ⟨Lc36, hQ36, l36, y36, z36⟩, st36⟩ := X34.privateBack hx (y := (⟨"com/example/always_over_paths/alwaysoverpaths/explicit/MarkingTable", "ensureRoomForOneMore", "()V"⟩ : MethodName)) hown (mvT hZ (hw _ (List.mem_of_getElem? (i := 65) rfl))) (mvT hZ (hw _ (List.mem_of_getElem? (i := 66) rfl))) (own_selp (y := (⟨"com/example/always_over_paths/alwaysoverpaths/explicit/MarkingTable", "ensureRoomForOneMore", "()V"⟩ : MethodName)) (mvT hZ (hw _ (List.mem_of_getElem? (i := 3) rfl))) (mvP hZ (hw _ (List.mem_of_getElem? (i := 67) rfl))) (mvT hZ (hw _ (List.mem_of_getElem? (i := 66) rfl))) (by decide)) (Cond.privateMethod_at (mvP hZ (hw _ (List.mem_of_getElem? (i := 67) rfl)) (args := #[]))) (mvT hZ (hw _ (List.mem_of_getElem? (i := 68) rfl))) (by decide) (backOf (W := 0) (rmer l Z a0 hw [] a1 N (0 : Int32) P'_9 kP'_9 (fun _ => (0 : Int64)) T20.heap n0 z22 f37 f38 f31 f39 f40 (Or.inl rfl)) hZ (hw _ (List.mem_of_getElem? (i := 68) rfl)) (hw _ (List.mem_of_getElem? (i := 4) rfl)) (by decide) (by decide)) (g := (mkF m 165 #[vr a1, vr a2, vi ((((0 : Int32) ||| (mf 0)) ||| (mf 1)) ||| (mf 2)), vi N, vi (31 : Int32), vi (own_sl N (mf 0) (mf 1) (mf 2)), vi (mf 2)] [(.ref a1)])) rfl (by rw [hml]; rfl) (Steps.refl _) (a := a1) (by rw [e34]; exact q36) q36' (argsL := []) (rest := []) (lenOf pd_7 rfl) rfl (by show 2 * 0 + _ ≤ _; exact Nat.le_of_eq rfl) (hb hby d5_165) (fun _ _ => ⟨rfl, e34, (by decide : 4 + 0 ≤ _), (by decide : 69 + 0 ≤ _)⟩)
    dsimp only [Pt.U, Pt.locs, Pt.cells, Pt.slots] at X36 l36 y36 z36 st36 hQ36
    subst y36 z36
    obtain ⟨rfl, N36q, eq36⟩ := hQ36
    have N36 : Fr n0 L36 := by rw [l36]; exact Fr.app N33 N36q
    obtain ⟨T42, X42, e42, st42⟩ := getF X36 hx hZ hown (host := "") (Or.inl (hw _ (List.mem_of_getElem? (i := 27) rfl))) Via.refl eq36 f29 (g := (mkF m 169 #[vr a1, vr a2, vi ((((0 : Int32) ||| (mf 0)) ||| (mf 1)) ||| (mf 2)), vi N, vi (31 : Int32), vi (own_sl N (mf 0) (mf 1) (mf 2)), vi (mf 2)] [(.ref a1)])) rfl rfl (hb hby d5_169)
    obtain ⟨T43, X43, e43, st43⟩ := getF X42 hx hZ hown (host := "") (Or.inl (hw _ (List.mem_of_getElem? (i := 25) rfl))) Via.refl e42 f39 (g := (mkF m 174 #[vr a1, vr a2, vi ((((0 : Int32) ||| (mf 0)) ||| (mf 1)) ||| (mf 2)), vi N, vi (31 : Int32), vi (own_sl N (mf 0) (mf 1) (mf 2)), vi (mf 2)] [(.ref a1), (.int (0 : Int32)), (.ref R'_9)])) rfl rfl (hb hby d5_174)
    obtain ⟨T44, X44, e44, st44⟩ := getF X43 hx hZ hown (host := "") (Or.inl (hw _ (List.mem_of_getElem? (i := 46) rfl))) Via.refl e43 f38 (g := (mkF m 178 #[vr a1, vr a2, vi ((((0 : Int32) ||| (mf 0)) ||| (mf 1)) ||| (mf 2)), vi N, vi (31 : Int32), vi (own_sl N (mf 0) (mf 1) (mf 2)), vi (mf 2)] [(.ref a1), (.ref P'_9), (.int (0 : Int32)), (.ref R'_9)])) rfl rfl (hb hby d5_178)
    obtain ⟨T45, X45, e45, st45⟩ := getF X44 hx hZ hown (host := "") (Or.inl (hw _ (List.mem_of_getElem? (i := 22) rfl))) Via.refl e44 f31 (g := (mkF m 182 #[vr a1, vr a2, vi ((((0 : Int32) ||| (mf 0)) ||| (mf 1)) ||| (mf 2)), vi N, vi (31 : Int32), vi (own_sl N (mf 0) (mf 1) (mf 2)), vi (mf 2)] [(.ref a1), (.int (0 : Int32)), (.ref P'_9), (.int (0 : Int32)), (.ref R'_9)])) rfl rfl (hb hby d5_182)
    refine GoalS.lift (B := (T45.setTop (mkF m 186 #[vr a1, vr a2, vi ((((0 : Int32) ||| (mf 0)) ||| (mf 1)) ||| (mf 2)), vi N, vi (31 : Int32), vi (own_sl N (mf 0) (mf 1) (mf 2)), vi (mf 2)] [(.int ((0 : Int32) * (own_W N))), (.ref P'_9), (.int (0 : Int32)), (.ref R'_9)]))) (fun t k => ?_) ?_
    · show Steps p.tables e below (T33.setTop (mkF m 117 #[vr a1, vr a2, vi ((((0 : Int32) ||| (mf 0)) ||| (mf 1)) ||| (mf 2)), vi N, vi (31 : Int32), vi (3 : Int32), vi (mf 2)] [(.int (own_sl N (mf 0) (mf 1) (mf 2)))])) _
      refine XS.istore X33.here hx rfl (hb hby d5_117) rfl (l' := #[vr a1, vr a2, vi ((((0 : Int32) ||| (mf 0)) ||| (mf 1)) ||| (mf 2)), vi N, vi (31 : Int32), vi (own_sl N (mf 0) (mf 1) (mf 2)), vi (mf 2)]) rfl ?_
      refine XS.aloadN X33.here hx rfl (hb hby d5_119) rfl rfl ?_
      refine st34 _ ?_
      refine XS.iload X34.here hx rfl (hb hby d5_123) rfl ?_
      refine X34.iaload hx (j := (own_sl N (mf 0) (mf 1) (mf 2))) (v := (.int (0 : Int32))) (by rw [e34]; exact Ar35.1) (State.isArrayOf_alike hZ.alike Ar35.2.1) Ar35.2.2 hin35 hat35 (g := (mkF m 125 #[vr a1, vr a2, vi ((((0 : Int32) ||| (mf 0)) ||| (mf 1)) ||| (mf 2)), vi N, vi (31 : Int32), vi (own_sl N (mf 0) (mf 1) (mf 2)), vi (mf 2)] [(.int (own_sl N (mf 0) (mf 1) (mf 2))), (.ref S'_9)])) rfl rfl (hb hby d5_125) _ ?_
      refine XS.ifYes X34.here hx rfl (pc0 := 126) (pc' := 164) rfl (hb hby d5_126) rfl ((if0 _ _).trans (teq (by decide : (0 : Int32) = (0 : Int32))).1) (by decide) (by decide) ?_
      show Steps p.tables e below (T34.setTop (mkF m 164 #[vr a1, vr a2, vi ((((0 : Int32) ||| (mf 0)) ||| (mf 1)) ||| (mf 2)), vi N, vi (31 : Int32), vi (own_sl N (mf 0) (mf 1) (mf 2)), vi (mf 2)] [])) _
      refine XS.aloadN X34.here hx rfl (hb hby d5_164) rfl rfl ?_
      refine st36.trans ?_
      refine XS.aloadN X36.here hx rfl (hb hby d5_168) rfl rfl ?_
      refine st42 _ ?_
      refine XS.iconst X42.here hx rfl (hb hby d5_172) ?_
      refine XS.aloadN X42.here hx rfl (hb hby d5_173) rfl rfl ?_
      show Steps p.tables e below (T42.setTop (mkF m 174 #[vr a1, vr a2, vi ((((0 : Int32) ||| (mf 0)) ||| (mf 1)) ||| (mf 2)), vi N, vi (31 : Int32), vi (own_sl N (mf 0) (mf 1) (mf 2)), vi (mf 2)] [(.ref a1), (.int (0 : Int32)), (.ref R'_9)])) _
      refine st43 _ ?_
      refine XS.aloadN X43.here hx rfl (hb hby d5_177) rfl rfl ?_
      refine st44 _ ?_
      refine XS.aloadN X44.here hx rfl (hb hby d5_181) rfl rfl ?_
      refine st45 _ ?_
      refine XS.imul X45.here hx rfl (hb hby d5_185) rfl ?_
      exact k
    refine GoalS.lift (B := (T45.setTop (mkF m 186 #[vr a1, vr a2, vi ((((0 : Int32) ||| (mf 0)) ||| (mf 1)) ||| (mf 2)), vi N, vi (31 : Int32), vi (own_sl N (mf 0) (mf 1) (mf 2)), vi (mf 2)] [(.int (0 : Int32)), (.ref P'_9), (.int (0 : Int32)), (.ref R'_9)]))) (fun t k => by rw [Int32.zero_mul]; exact k) ?_
    obtain ⟨T46, X46, e46, st46⟩ := getF X45 hx hZ hown (host := "") (Or.inl (hw _ (List.mem_of_getElem? (i := 22) rfl))) Via.refl e45 f31 (g := (mkF m 187 #[vr a1, vr a2, vi ((((0 : Int32) ||| (mf 0)) ||| (mf 1)) ||| (mf 2)), vi N, vi (31 : Int32), vi (own_sl N (mf 0) (mf 1) (mf 2)), vi (mf 2)] [(.ref a1), (.int (0 : Int32)), (.ref P'_9), (.int (0 : Int32)), (.ref R'_9)])) rfl rfl (hb hby d5_187)
    have wge47 := own_Wge N
    obtain ⟨T47, h47, L47, X47, e47, N47, K47, A47, st47⟩ := own_cp X46 hx hZ hown (hw _ (List.mem_of_getElem? (i := 69) rfl)) (hw _ (List.mem_of_getElem? (i := 72) rfl)) (hw _ (List.mem_of_getElem? (i := 70) rfl)) (hw _ (List.mem_of_getElem? (i := 71) rfl)) e46 (d := 0) (w := (own_W N).toNatClampNeg) (dp := (0 : Int32)) (nn := (own_W N)) V24 f40 (by decide) (own_Wneg N) rfl rfl (Nat.le_refl _) (by omega) N36 g_P'_9 (fr := (mkF m 190 #[vr a1, vr a2, vi ((((0 : Int32) ||| (mf 0)) ||| (mf 1)) ||| (mf 2)), vi N, vi (31 : Int32), vi (own_sl N (mf 0) (mf 1) (mf 2)), vi (mf 2)] [(.int (own_W N)), (.int (0 : Int32)), (.ref P'_9), (.int (0 : Int32)), (.ref R'_9)])) rfl (by rw [hml]; rfl) (rest := []) rfl (hb hby d5_190) (by decide) (W := 0) (by show 2 * 0 + _ ≤ _; exact Nat.le_of_eq rfl) (by decide)
    have z48 : n0 ≤ h47.size := Nat.le_trans z22 K47.1
    have K49 : Keep h0 h47 [a1, P, R, S] := K23.trans K47 (allS (Or.inr sz_P'_9) all0)
    obtain ⟨fp50, hfp50⟩ : ∃ z, z = (own_cpf fr24 (fun _ => (0 : Int64)) 0 (own_W N).toNatClampNeg) := ⟨_, rfl⟩
    have V50 : AV Z h47 P'_9 kP'_9 .long (16 * (own_W N).toNatClampNeg) (fun i => Value.long (fp50 i)) := by rw [hfp50]; exact A47
    have hpm : own_pw N (mf 0) (mf 1) (mf 2) fp50 0 := by rw [hfp50]; exact own_cp0 hpr
    have f51 : Fld Z h47 a1 "com/example/always_over_paths/alwaysoverpaths/explicit/MarkingTable" "slots" "[I" (.ref S'_9) := (f25.keep K47 (ninS ne_a1_P'_9 nin0))
    obtain ⟨T52, X52, e52, st52⟩ := getF X47 hx hZ hown (host := "") (Or.inl (hw _ (List.mem_of_getElem? (i := 29) rfl))) Via.refl e47 f51 (g := (mkF m 194 #[vr a1, vr a2, vi ((((0 : Int32) ||| (mf 0)) ||| (mf 1)) ||| (mf 2)), vi N, vi (31 : Int32), vi (own_sl N (mf 0) (mf 1) (mf 2)), vi (mf 2)] [(.ref a1)])) rfl rfl (hb hby d5_194)
    have f53 : Fld Z h47 a1 "com/example/always_over_paths/alwaysoverpaths/explicit/MarkingTable" "size" "I" (.int (0 : Int32)) := (f38.keep K47 (ninS ne_a1_P'_9 nin0))
    obtain ⟨T54, X54, e54, st54⟩ := getF X52 hx hZ hown (host := "") (Or.inl (hw _ (List.mem_of_getElem? (i := 46) rfl))) Via.refl e52 f53 (g := (mkF m 200 #[vr a1, vr a2, vi ((((0 : Int32) ||| (mf 0)) ||| (mf 1)) ||| (mf 2)), vi N, vi (31 : Int32), vi (own_sl N (mf 0) (mf 1) (mf 2)), vi (mf 2)] [(.ref a1), (.int (own_sl N (mf 0) (mf 1) (mf 2))), (.ref S'_9)])) rfl rfl (hb hby d5_200)
    have f56 : AV Z h47 S'_9 kS'_9 .int 32 (fun i => Value.int ((fun _ => (0 : Int32)) i)) := (f28.keep K47 (ninS (Ne.symm p9_5) nin0))
    obtain ⟨cl55, Ar55, kc55, sz55, -, -⟩ := id f56
    have hin55 : ¬ ((own_sl N (mf 0) (mf 1) (mf 2)) < 0 ∨ cl55.slots.size ≤ ((own_sl N (mf 0) (mf 1) (mf 2))).toNatClampNeg) := AV.inb sz55 (own_slin (own_slr N (mf 0) (mf 1) (mf 2)))
    obtain ⟨T55, h55, X55, e55, W55, st55⟩ := stI X54 hx hZ e54 Ar55 (j := (own_sl N (mf 0) (mf 1) (mf 2))) hin55 (g := (mkF m 205 #[vr a1, vr a2, vi ((((0 : Int32) ||| (mf 0)) ||| (mf 1)) ||| (mf 2)), vi N, vi (31 : Int32), vi (own_sl N (mf 0) (mf 1) (mf 2)), vi (mf 2)] [(.int (1 : Int32)), (.int (own_sl N (mf 0) (mf 1) (mf 2))), (.ref S'_9)])) rfl rfl (hb hby d5_205)
    have z57 : n0 ≤ h55.size := Nat.le_trans z48 (Keep.of_wr W55).1
    have K58 : Keep h0 h55 [a1, P, R, S] := K49.wr W55 (Or.inr sz_S'_9)
    have V55 : AV Z h55 S'_9 kS'_9 .int 32 (fun i => Value.int ((updI (fun _ => (0 : Int32)) ((own_sl N (mf 0) (mf 1) (mf 2))).toNatClampNeg (1 : Int32)) i)) := AV.putI f56 W55 (AV.inx (own_slin (own_slr N (mf 0) (mf 1) (mf 2))))
    have N55 := Fr.snoc X55 N47 g_S'_9
    have f59 : Fld Z h55 a1 "com/example/always_over_paths/alwaysoverpaths/explicit/MarkingTable" "size" "I" (.int (0 : Int32)) := (f53.other W55 (Or.inl ne_a1_S'_9))
    obtain ⟨T60, X60, e60, st60⟩ := getF X55 hx hZ hown (host := "") (Or.inl (hw _ (List.mem_of_getElem? (i := 46) rfl))) Via.refl e55 f59 (g := (mkF m 208 #[vr a1, vr a2, vi ((((0 : Int32) ||| (mf 0)) ||| (mf 1)) ||| (mf 2)), vi N, vi (31 : Int32), vi (own_sl N (mf 0) (mf 1) (mf 2)), vi (mf 2)] [(.ref a1), (.ref a1)])) rfl rfl (hb hby d5_208)
    have f61 : Exa Z h55 a1 "com/example/always_over_paths/alwaysoverpaths/explicit/MarkingTable" := ((f41.keep K47).wr W55)
    obtain ⟨T62, h62, X62, e62, W62, st62⟩ := putF X60 hx hZ hown (host := "") (Or.inl (hw _ (List.mem_of_getElem? (i := 46) rfl))) Via.refl e60 f59 f61 (Or.inl (hw _ (List.mem_of_getElem? (i := 47) rfl))) (hw _ (List.mem_of_getElem? (i := 3) rfl)) (ty := .int) (by decide) rfl rfl (g := (mkF m 214 #[vr a1, vr a2, vi ((((0 : Int32) ||| (mf 0)) ||| (mf 1)) ||| (mf 2)), vi N, vi (31 : Int32), vi (own_sl N (mf 0) (mf 1) (mf 2)), vi (mf 2)] [(.int (1 : Int32)), (.ref a1), (.int (0 : Int32))])) rfl rfl (hb hby d5_214)
    have z63 : n0 ≤ h62.size := Nat.le_trans z57 (Keep.of_wr W62).1
    have K64 : Keep h0 h62 [a1, P, R, S] := K58.wr W62 (Or.inl (List.mem_of_getElem? (i := 0) rfl))
    have Fw62 : Fld Z h62 a1 "com/example/always_over_paths/alwaysoverpaths/explicit/MarkingTable" "size" "I" (.int (1 : Int32)) := f59.same W62
    have N62 := Fr.snoc X62 N55 g_a1
    obtain ⟨fs, hr, hrun, hended, hW, hsame⟩ := X62.leave (v := some (.int (0 : Int32))) (fun h => by rw [Bd.returns] at h; cases h)
    refine ⟨_, _, ?_, hrun, hended, _, _, rfl, ?_, ⟨_, rfl⟩, hW, hsame.mono (by decide) (by decide)⟩
    · show Steps p.tables e below (T45.setTop (mkF m 186 #[vr a1, vr a2, vi ((((0 : Int32) ||| (mf 0)) ||| (mf 1)) ||| (mf 2)), vi N, vi (31 : Int32), vi (own_sl N (mf 0) (mf 1) (mf 2)), vi (mf 2)] [(.int (0 : Int32)), (.ref P'_9), (.int (0 : Int32)), (.ref R'_9)])) _
      refine XS.aloadN X45.here hx rfl (hb hby d5_186) rfl rfl ?_
      refine st46 _ ?_
      refine st47 _ ?_
      refine XS.aloadN X47.here hx rfl (hb hby d5_193) rfl rfl ?_
      refine st52 _ ?_
      refine XS.iload X52.here hx rfl (hb hby d5_197) rfl ?_
      show Steps p.tables e below (T52.setTop (mkF m 199 #[vr a1, vr a2, vi ((((0 : Int32) ||| (mf 0)) ||| (mf 1)) ||| (mf 2)), vi N, vi (31 : Int32), vi (own_sl N (mf 0) (mf 1) (mf 2)), vi (mf 2)] [(.int (own_sl N (mf 0) (mf 1) (mf 2))), (.ref S'_9)])) _
      refine XS.aloadN X52.here hx rfl (hb hby d5_199) rfl rfl ?_
      refine st54 _ ?_
      refine XS.iconst X54.here hx rfl (hb hby d5_203) ?_
      refine XS.iadd X54.here hx rfl (hb hby d5_204) rfl ?_
      refine st55 _ ?_
      refine XS.aloadN X55.here hx rfl (hb hby d5_206) rfl rfl ?_
      show Steps p.tables e below (T55.setTop (mkF m 207 #[vr a1, vr a2, vi ((((0 : Int32) ||| (mf 0)) ||| (mf 1)) ||| (mf 2)), vi N, vi (31 : Int32), vi (own_sl N (mf 0) (mf 1) (mf 2)), vi (mf 2)] [(.ref a1)])) _
      refine XS.dup X55.here hx rfl (hb hby d5_207) rfl rfl ?_
      refine st60 _ ?_
      refine XS.dupX1 X60.here hx rfl (hb hby d5_211) rfl rfl rfl ?_
      refine XS.iconst X60.here hx rfl (hb hby d5_212) ?_
      refine XS.iadd X60.here hx rfl (hb hby d5_213) rfl ?_
      refine st62 _ ?_
      show Steps p.tables e below (T62.setTop (mkF m 217 #[vr a1, vr a2, vi ((((0 : Int32) ||| (mf 0)) ||| (mf 1)) ||| (mf 2)), vi N, vi (31 : Int32), vi (own_sl N (mf 0) (mf 1) (mf 2)), vi (mf 2)] [(.int (0 : Int32))])) _
      exact retI X62 hx Bd.returns (hb hby d5_217) hr
    · have f65 : Exa Z h62 a1 "com/example/always_over_paths/alwaysoverpaths/explicit/MarkingTable" := (f61.wr W62)
      have f66 : Fld Z h62 a1 "com/example/always_over_paths/alwaysoverpaths/explicit/MarkingTable" "places" "I" (.int (3 : Int32)) := ((((p9_8.keep p20_0 (ninS ne_a1_R'_9 nin0)).keep K47 (ninS ne_a1_P'_9 nin0)).other W55 (Or.inl ne_a1_S'_9)).other W62 (Or.inr (slot_ne (Or.inr (hw _ (List.mem_of_getElem? (i := 12) rfl))) (Or.inl (hw _ (List.mem_of_getElem? (i := 47) rfl))) (by decide) (t := .int) (t' := .int) (by decide) (by decide))))
      have f67 : Fld Z h62 a1 "com/example/always_over_paths/alwaysoverpaths/explicit/MarkingTable" "bits" "I" (.int N) := (((f37.keep K47 (ninS ne_a1_P'_9 nin0)).other W55 (Or.inl ne_a1_S'_9)).other W62 (Or.inr (slot_ne (Or.inl (hw _ (List.mem_of_getElem? (i := 14) rfl))) (Or.inl (hw _ (List.mem_of_getElem? (i := 47) rfl))) (by decide) (t := .int) (t' := .int) (by decide) (by decide))))
      have f68 : Fld Z h62 a1 "com/example/always_over_paths/alwaysoverpaths/explicit/MarkingTable" "words" "I" (.int (own_W N)) := (((f31.keep K47 (ninS ne_a1_P'_9 nin0)).other W55 (Or.inl ne_a1_S'_9)).other W62 (Or.inr (slot_ne (Or.inl (hw _ (List.mem_of_getElem? (i := 23) rfl))) (Or.inl (hw _ (List.mem_of_getElem? (i := 47) rfl))) (by decide) (t := .int) (t' := .int) (by decide) (by decide))))
      have f69 : Fld Z h62 a1 "com/example/always_over_paths/alwaysoverpaths/explicit/MarkingTable" "packed" "[J" (.ref P'_9) := (((f39.keep K47 (ninS ne_a1_P'_9 nin0)).other W55 (Or.inl ne_a1_S'_9)).other W62 (Or.inr (slot_ne (Or.inl (hw _ (List.mem_of_getElem? (i := 26) rfl))) (Or.inl (hw _ (List.mem_of_getElem? (i := 47) rfl))) (by decide) (t := (.array .long)) (t' := .int) (by decide) (by decide))))
      have f70 : Fld Z h62 a1 "com/example/always_over_paths/alwaysoverpaths/explicit/MarkingTable" "probe" "[J" (.ref R'_9) := (((f29.keep K47 (ninS ne_a1_P'_9 nin0)).other W55 (Or.inl ne_a1_S'_9)).other W62 (Or.inr (slot_ne (Or.inl (hw _ (List.mem_of_getElem? (i := 28) rfl))) (Or.inl (hw _ (List.mem_of_getElem? (i := 47) rfl))) (by decide) (t := (.array .long)) (t' := .int) (by decide) (by decide))))
      have f71 : Fld Z h62 a1 "com/example/always_over_paths/alwaysoverpaths/explicit/MarkingTable" "slots" "[I" (.ref S'_9) := ((f51.other W55 (Or.inl ne_a1_S'_9)).other W62 (Or.inr (slot_ne (Or.inl (hw _ (List.mem_of_getElem? (i := 30) rfl))) (Or.inl (hw _ (List.mem_of_getElem? (i := 47) rfl))) (by decide) (t := (.array .int)) (t' := .int) (by decide) (by decide))))
      have f72 : AV Z h62 P'_9 kP'_9 .long (16 * (own_W N).toNatClampNeg) (fun i => Value.long (fp50 i)) := ((V50.other W55 p9_5).other W62 (Ne.symm ne_a1_P'_9))
      have f73 : AV Z h62 R'_9 kR'_9 .long ((own_W N).toNatClampNeg) (fun i => Value.long (fr24 i)) := (((V24.keep K47 (ninS (Ne.symm p9_4) nin0)).other W55 p9_6).other W62 (Ne.symm ne_a1_R'_9))
      have f74 : AV Z h62 S'_9 kS'_9 .int 32 (fun i => Value.int ((updI (fun _ => (0 : Int32)) ((own_sl N (mf 0) (mf 1) (mf 2))).toNatClampNeg (1 : Int32)) i)) := (V55.other W62 (Ne.symm ne_a1_S'_9))
      show Qad0 Z a1 a2 P R S kP kR kS fP fR kM mf h0 n0 _ T62.heap _
      rw [e62]
      exact ⟨P'_9, R'_9, S'_9, kP'_9, kR'_9, kS'_9, fp50, N, fr24, rfl, N62, K64, (Or.inr sz_P'_9), (Or.inr sz_R'_9), (Or.inr sz_S'_9), p9_4, p9_5, p9_6, f65, f66, f67, f68, f69, f70, Fw62, f71, f72, f73, f74, hBq, bm, hpm⟩
  · have hBq : own_B (1 : Int32) := (show own_B 1 from ⟨by decide, by decide⟩)
    have bm : own_bd3 (1 : Int32) (mf 0) (mf 1) (mf 2) := own_bdn3 nd.1 nd.2 hc52_8
    obtain ⟨T75, X75, e75, st75⟩ := getF X7 hx hZ hown (host := "") (Or.inl (hw _ (List.mem_of_getElem? (i := 46) rfl))) Via.refl e7 F_size_a1 (g := (mkF m 61 #[vr a1, vr a2, vi ((((0 : Int32) ||| (mf 0)) ||| (mf 1)) ||| (mf 2)), vi N, vi (3 : Int32), vi (3 : Int32), vi (mf 2)] [(.ref a1)])) rfl rfl (hb hby d5_61)
    obtain ⟨T76, X76, e76, st76⟩ := getF X75 hx hZ hown (host := "") (Or.inl (hw _ (List.mem_of_getElem? (i := 29) rfl))) Via.refl e75 F_slots_a1 (g := (mkF m 65 #[vr a1, vr a2, vi ((((0 : Int32) ||| (mf 0)) ||| (mf 1)) ||| (mf 2)), vi N, vi (3 : Int32), vi (3 : Int32), vi (mf 2)] [(.ref a1), (.int (0 : Int32))])) rfl rfl (hb hby d5_65)
    obtain ⟨cl77, Ar77, -, sz77, -, -⟩ := id A_S
    have le77 : cl77.slots.size.toInt32 = (32 : Int32) := by rw [sz77]; exact rfl
    obtain ⟨T78, X78, e78, st78⟩ := getF X76 hx hZ hown (host := "") (Or.inl (hw _ (List.mem_of_getElem? (i := 13) rfl))) Via.refl e76 F_bits_a1 (g := (mkF m 82 #[vr a1, vr a2, vi ((((0 : Int32) ||| (mf 0)) ||| (mf 1)) ||| (mf 2)), vi N, vi (3 : Int32), vi (3 : Int32), vi (mf 2)] [(.ref a1), (.ref a2)])) rfl rfl (hb hby d5_82)
    obtain ⟨T79, X79, e79, st79⟩ := getF X78 hx hZ hown (host := "") (Or.inl (hw _ (List.mem_of_getElem? (i := 27) rfl))) Via.refl e78 F_probe_a1 (g := (mkF m 86 #[vr a1, vr a2, vi ((((0 : Int32) ||| (mf 0)) ||| (mf 1)) ||| (mf 2)), vi N, vi (3 : Int32), vi (3 : Int32), vi (mf 2)] [(.ref a1), (.int (1 : Int32)), (.ref a2)])) rfl rfl (hb hby d5_86)
    obtain ⟨_, _, ⟨T80, L80, k80, n80⟩, -, X80, ⟨Lc80, hQ80, l80, y80, z80⟩, st80⟩ := Jvm.LawKit.callS X79 hx (y := (⟨"com/example/always_over_paths/alwaysoverpaths/explicit/MarkingTable", "pack", "([II[JI)V"⟩ : MethodName)) hown (mvT hZ (hw _ (List.mem_of_getElem? (i := 56) rfl))) (mvT hZ (hw _ (List.mem_of_getElem? (i := 57) rfl))) (mvT hZ (hw _ (List.mem_of_getElem? (i := 4) rfl))) (mvT hZ (hw _ (List.mem_of_getElem? (i := 58) rfl))) (by decide) (backOf (W := 0) (rmpk l Z a0 hw [] a2 (1 : Int32) R kM kR mf fR ((own_W (1 : Int32)).toNatClampNeg) h0 n0 Z0 A_a2 A_R ne_a2_R g_R hBq (Nat.le_refl _)) hZ (hw _ (List.mem_of_getElem? (i := 58) rfl)) (hw _ (List.mem_of_getElem? (i := 4) rfl)) (by decide) (by decide)) (g := (mkF m 90 #[vr a1, vr a2, vi ((((0 : Int32) ||| (mf 0)) ||| (mf 1)) ||| (mf 2)), vi N, vi (3 : Int32), vi (3 : Int32), vi (mf 2)] [(.int (0 : Int32)), (.ref R), (.int (1 : Int32)), (.ref a2)])) rfl (by rw [hml]; rfl) (argsL := [(.ref a2), (.int (1 : Int32)), (.ref R), (.int (0 : Int32))]) (rest := []) (lenOf pd_5 rfl) rfl (by show 2 * 0 + _ ≤ _; exact Nat.le_of_eq rfl) (hb hby d5_90) (fun _ _ => ⟨rfl, e79, (by decide : 0 + 0 ≤ _), (by decide : 0 + 0 ≤ _)⟩)
    dsimp only [Pt.U, Pt.locs, Pt.cells, Pt.slots] at X80 l80 y80 z80 st80 hQ80
    subst y80 z80
    obtain ⟨rfl, N80q, p80_0, p80_1⟩ := hQ80
    have N80 : Fr n0 L80 := by rw [l80]; exact Fr.app N6 N80q
    have z81 : n0 ≤ T80.heap.size := Nat.le_trans Z0 p80_0.1
    have K82 : Keep h0 T80.heap [a1, P, R, S] := K0.trans p80_0 (allS (Or.inl (List.mem_of_getElem? (i := 2) rfl)) all0)
    obtain ⟨fr83, hfr83⟩ : ∃ z, z = (own_pk (1 : Int32) (mf 0) (mf 1) (mf 2) fR) := ⟨_, rfl⟩
    have V83 : AV Z T80.heap R kR .long ((own_W (1 : Int32)).toNatClampNeg) (fun i => Value.long (fr83 i)) := by rw [hfr83]; exact p80_1
    have hpr : own_pw (1 : Int32) (mf 0) (mf 1) (mf 2) fr83 0 := by rw [hfr83]; exact own_pk_pw _ _ _ _ _
    have f84 : Fld Z T80.heap a1 "com/example/always_over_paths/alwaysoverpaths/explicit/MarkingTable" "slots" "[I" (.ref S) := (F_slots_a1.keep p80_0 (ninS ne_a1_R nin0))
    obtain ⟨T85, X85, e85, st85⟩ := getF X80 hx hZ hown (host := "") (Or.inl (hw _ (List.mem_of_getElem? (i := 29) rfl))) Via.refl rfl f84 (g := (mkF m 94 #[vr a1, vr a2, vi ((((0 : Int32) ||| (mf 0)) ||| (mf 1)) ||| (mf 2)), vi N, vi (3 : Int32), vi (3 : Int32), vi (mf 2)] [(.ref a1)])) rfl rfl (hb hby d5_94)
    have f87 : AV Z T80.heap S kS .int 32 (fun i => Value.int ((fun _ => (0 : Int32)) i)) := (A_S.keep p80_0 (ninS (Ne.symm ne_R_S) nin0))
    obtain ⟨cl86, Ar86, -, sz86, -, -⟩ := id f87
    have le86 : cl86.slots.size.toInt32 = (32 : Int32) := by rw [sz86]; exact rfl
    have f88 : Fld Z T80.heap a1 "com/example/always_over_paths/alwaysoverpaths/explicit/MarkingTable" "probe" "[J" (.ref R) := (F_probe_a1.keep p80_0 (ninS ne_a1_R nin0))
    obtain ⟨T89, X89, e89, st89⟩ := getF X85 hx hZ hown (host := "") (Or.inl (hw _ (List.mem_of_getElem? (i := 27) rfl))) Via.refl e85 f88 (g := (mkF m 103 #[vr a1, vr a2, vi ((((0 : Int32) ||| (mf 0)) ||| (mf 1)) ||| (mf 2)), vi N, vi (31 : Int32), vi (3 : Int32), vi (mf 2)] [(.ref a1)])) rfl rfl (hb hby d5_103)
    have f90 : Fld Z T80.heap a1 "com/example/always_over_paths/alwaysoverpaths/explicit/MarkingTable" "words" "I" (.int (own_W (1 : Int32))) := (F_words_a1.keep p80_0 (ninS ne_a1_R nin0))
    obtain ⟨T91, X91, e91, st91⟩ := getF X89 hx hZ hown (host := "") (Or.inl (hw _ (List.mem_of_getElem? (i := 22) rfl))) Via.refl e89 f90 (g := (mkF m 108 #[vr a1, vr a2, vi ((((0 : Int32) ||| (mf 0)) ||| (mf 1)) ||| (mf 2)), vi N, vi (31 : Int32), vi (3 : Int32), vi (mf 2)] [(.ref a1), (.int (0 : Int32)), (.ref R)])) rfl rfl (hb hby d5_108)
    obtain ⟨_, _, ⟨T92, L92, k92, n92⟩, -, X92, ⟨Lc92, hQ92, l92, y92, z92⟩, st92⟩ := Jvm.LawKit.callS X91 hx (y := (⟨"com/example/always_over_paths/alwaysoverpaths/explicit/MarkingTable", "hash", "([JII)I"⟩ : MethodName)) hown (mvT hZ (hw _ (List.mem_of_getElem? (i := 59) rfl))) (mvT hZ (hw _ (List.mem_of_getElem? (i := 60) rfl))) (mvT hZ (hw _ (List.mem_of_getElem? (i := 4) rfl))) (mvT hZ (hw _ (List.mem_of_getElem? (i := 61) rfl))) (by decide) (backOf (W := 0) (rmh l Z a0 hw [] R (own_W (1 : Int32)) kR fr83 ((own_W (1 : Int32)).toNatClampNeg) T80.heap n0 z81 V83 (own_W12 (1 : Int32)) (Nat.le_refl _)) hZ (hw _ (List.mem_of_getElem? (i := 61) rfl)) (hw _ (List.mem_of_getElem? (i := 4) rfl)) (by decide) (by decide)) (g := (mkF m 111 #[vr a1, vr a2, vi ((((0 : Int32) ||| (mf 0)) ||| (mf 1)) ||| (mf 2)), vi N, vi (31 : Int32), vi (3 : Int32), vi (mf 2)] [(.int (own_W (1 : Int32))), (.int (0 : Int32)), (.ref R)])) rfl (by rw [hml]; rfl) (argsL := [(.ref R), (.int (0 : Int32)), (.int (own_W (1 : Int32)))]) (rest := []) (lenOf pd_2 rfl) rfl (by show 2 * 0 + _ ≤ _; exact Nat.le_of_eq rfl) (hb hby d5_111) (fun _ _ => ⟨rfl, e91, (by decide : 0 + 0 ≤ _), (by decide : 0 + 0 ≤ _)⟩)
    dsimp only [Pt.U, Pt.locs, Pt.cells, Pt.slots] at X92 l92 y92 z92 st92 hQ92
    subst y92 z92
    obtain ⟨rfl, N92q, eq92⟩ := hQ92
    have N92 : Fr n0 L92 := by rw [l92]; exact Fr.app N80 N92q
    refine GoalS.lift (B := (T92.setTop (mkF m 117 #[vr a1, vr a2, vi ((((0 : Int32) ||| (mf 0)) ||| (mf 1)) ||| (mf 2)), vi N, vi (31 : Int32), vi (3 : Int32), vi (mf 2)] [(.int ((own_hash (own_W (1 : Int32)) (fr83 0) (fr83 1)) &&& (31 : Int32)))]))) (fun t k => ?_) ?_
    · show Steps p.tables e below (T7.setTop (mkF m 52 #[vr a1, vr a2, vi ((((0 : Int32) ||| (mf 0)) ||| (mf 1)) ||| (mf 2)), vi N, vi (3 : Int32), vi (3 : Int32), vi (mf 2)] [(.int (1 : Int32)), (.int N)])) _
      refine XS.icmpYes X7.here hx rfl (pc0 := 52) (pc' := 60) rfl (hb hby d5_52) rfl ((flt hc52_8).2.2.2) (by decide) (by decide) ?_
      refine XS.aloadN X7.here hx rfl (hb hby d5_60) rfl rfl ?_
      refine st75 _ ?_
      refine XS.aloadN X75.here hx rfl (hb hby d5_64) rfl rfl ?_
      refine st76 _ ?_
      refine X76.arraylength hx (by rw [e76]; exact Ar77.1) (State.isArrayOf_alike hZ.alike Ar77.2.1) (g := (mkF m 68 #[vr a1, vr a2, vi ((((0 : Int32) ||| (mf 0)) ||| (mf 1)) ||| (mf 2)), vi N, vi (3 : Int32), vi (3 : Int32), vi (mf 2)] [(.ref S), (.int (0 : Int32))])) rfl rfl (hb hby d5_68) _ ?_
      rw [le77]
      show Steps p.tables e below (T76.setTop (mkF m 69 #[vr a1, vr a2, vi ((((0 : Int32) ||| (mf 0)) ||| (mf 1)) ||| (mf 2)), vi N, vi (3 : Int32), vi (3 : Int32), vi (mf 2)] [(.int (32 : Int32)), (.int (0 : Int32))])) _
      refine XS.iconst X76.here hx rfl (hb hby d5_69) ?_
      refine XS.idiv X76.here hx rfl (hb hby d5_70) rfl (by decide) ?_
      refine XS.iconst X76.here hx rfl (hb hby d5_71) ?_
      refine XS.imul X76.here hx rfl (hb hby d5_72) rfl ?_
      refine XS.icmpYes X76.here hx rfl (pc0 := 73) (pc' := 80) rfl (hb hby d5_73) rfl ((tlt (by decide : (0 : Int32) < (((32 : Int32) / (4 : Int32)) * (3 : Int32)))).1) (by decide) (by decide) ?_
      refine XS.aloadN X76.here hx rfl (hb hby d5_80) rfl rfl ?_
      show Steps p.tables e below (T76.setTop (mkF m 81 #[vr a1, vr a2, vi ((((0 : Int32) ||| (mf 0)) ||| (mf 1)) ||| (mf 2)), vi N, vi (3 : Int32), vi (3 : Int32), vi (mf 2)] [(.ref a2)])) _
      refine XS.aloadN X76.here hx rfl (hb hby d5_81) rfl rfl ?_
      refine st78 _ ?_
      refine XS.aloadN X78.here hx rfl (hb hby d5_85) rfl rfl ?_
      refine st79 _ ?_
      refine XS.iconst X79.here hx rfl (hb hby d5_89) ?_
      refine st80 _ ?_
      show Steps p.tables e below (T80.setTop (mkF m 93 #[vr a1, vr a2, vi ((((0 : Int32) ||| (mf 0)) ||| (mf 1)) ||| (mf 2)), vi N, vi (3 : Int32), vi (3 : Int32), vi (mf 2)] [])) _
      refine XS.aloadN X80.here hx rfl (hb hby d5_93) rfl rfl ?_
      refine st85 _ ?_
      refine X85.arraylength hx (by rw [e85]; exact Ar86.1) (State.isArrayOf_alike hZ.alike Ar86.2.1) (g := (mkF m 97 #[vr a1, vr a2, vi ((((0 : Int32) ||| (mf 0)) ||| (mf 1)) ||| (mf 2)), vi N, vi (3 : Int32), vi (3 : Int32), vi (mf 2)] [(.ref S)])) rfl rfl (hb hby d5_97) _ ?_
      rw [le86]
      refine XS.iconst X85.here hx rfl (hb hby d5_98) ?_
      refine XS.isub X85.here hx rfl (hb hby d5_99) rfl ?_
      show Steps p.tables e below (T85.setTop (mkF m 100 #[vr a1, vr a2, vi ((((0 : Int32) ||| (mf 0)) ||| (mf 1)) ||| (mf 2)), vi N, vi (3 : Int32), vi (3 : Int32), vi (mf 2)] [(.int (31 : Int32))])) _
      refine XS.istore X85.here hx rfl (hb hby d5_100) rfl (l' := #[vr a1, vr a2, vi ((((0 : Int32) ||| (mf 0)) ||| (mf 1)) ||| (mf 2)), vi N, vi (31 : Int32), vi (3 : Int32), vi (mf 2)]) rfl ?_
      refine XS.aloadN X85.here hx rfl (hb hby d5_102) rfl rfl ?_
      refine st89 _ ?_
      refine XS.iconst X89.here hx rfl (hb hby d5_106) ?_
      refine XS.aloadN X89.here hx rfl (hb hby d5_107) rfl rfl ?_
      refine st91 _ ?_
      show Steps p.tables e below (T91.setTop (mkF m 111 #[vr a1, vr a2, vi ((((0 : Int32) ||| (mf 0)) ||| (mf 1)) ||| (mf 2)), vi N, vi (31 : Int32), vi (3 : Int32), vi (mf 2)] [(.int (own_W (1 : Int32))), (.int (0 : Int32)), (.ref R)])) _
      refine st92 _ ?_
      refine XS.iload X92.here hx rfl (hb hby d5_114) rfl ?_
      refine XS.iand X92.here hx rfl (hb hby d5_116) rfl ?_
      exact k
    refine GoalS.lift (B := (T92.setTop (mkF m 117 #[vr a1, vr a2, vi ((((0 : Int32) ||| (mf 0)) ||| (mf 1)) ||| (mf 2)), vi N, vi (31 : Int32), vi (3 : Int32), vi (mf 2)] [(.int (own_sl (1 : Int32) (mf 0) (mf 1) (mf 2)))]))) (fun t k => by rw [own_hpk hpr]; exact k) ?_
    obtain ⟨T93, X93, e93, st93⟩ := getF X92 hx hZ hown (host := "") (Or.inl (hw _ (List.mem_of_getElem? (i := 29) rfl))) Via.refl eq92 f84 (g := (mkF m 120 #[vr a1, vr a2, vi ((((0 : Int32) ||| (mf 0)) ||| (mf 1)) ||| (mf 2)), vi N, vi (31 : Int32), vi (own_sl (1 : Int32) (mf 0) (mf 1) (mf 2)), vi (mf 2)] [(.ref a1)])) rfl rfl (hb hby d5_120)
    obtain ⟨cl94, Ar94, kc94, sz94, -, hv94⟩ := id f87
    have hin94 : ¬ ((own_sl (1 : Int32) (mf 0) (mf 1) (mf 2)) < 0 ∨ cl94.slots.size ≤ ((own_sl (1 : Int32) (mf 0) (mf 1) (mf 2))).toNatClampNeg) := AV.inb sz94 (own_slin (own_slr (1 : Int32) (mf 0) (mf 1) (mf 2)))
    have hat94 : cl94.slots[((own_sl (1 : Int32) (mf 0) (mf 1) (mf 2))).toNatClampNeg]? = some (.int (0 : Int32)) := (hv94 _ (AV.inx (own_slin (own_slr (1 : Int32) (mf 0) (mf 1) (mf 2))))).trans (congrArg some rfl)
    have f96 : Fld Z T80.heap a1 "com/example/always_over_paths/alwaysoverpaths/explicit/MarkingTable" "bits" "I" (.int (1 : Int32)) := (F_bits_a1.keep p80_0 (ninS ne_a1_R nin0))
    have f97 : Fld Z T80.heap a1 "com/example/always_over_paths/alwaysoverpaths/explicit/MarkingTable" "size" "I" (.int (0 : Int32)) := (F_size_a1.keep p80_0 (ninS ne_a1_R nin0))
    have f98 : Fld Z T80.heap a1 "com/example/always_over_paths/alwaysoverpaths/explicit/MarkingTable" "packed" "[J" (.ref P) := (F_packed_a1.keep p80_0 (ninS ne_a1_R nin0))
    have f99 : AV Z T80.heap P kP .long (16 * (own_W (1 : Int32)).toNatClampNeg) (fun i => Value.long (fP i)) := (A_P.keep p80_0 (ninS ne_P_R nin0))
    have f100 : Exa Z T80.heap a1 "com/example/always_over_paths/alwaysoverpaths/explicit/MarkingTable" := (E_a1.keep p80_0)
    obtain ⟨cq95, q95, q95'⟩ := f100.cell
    obtain ⟨_, _, ⟨T95, L95, k95, n95⟩, -, X95, ⟨Lc95, hQ95, l95, y95, z95⟩, st95⟩ := X93.privateBack hx (y := (⟨"com/example/always_over_paths/alwaysoverpaths/explicit/MarkingTable", "ensureRoomForOneMore", "()V"⟩ : MethodName)) hown (mvT hZ (hw _ (List.mem_of_getElem? (i := 65) rfl))) (mvT hZ (hw _ (List.mem_of_getElem? (i := 66) rfl))) (own_selp (y := (⟨"com/example/always_over_paths/alwaysoverpaths/explicit/MarkingTable", "ensureRoomForOneMore", "()V"⟩ : MethodName)) (mvT hZ (hw _ (List.mem_of_getElem? (i := 3) rfl))) (mvP hZ (hw _ (List.mem_of_getElem? (i := 67) rfl))) (mvT hZ (hw _ (List.mem_of_getElem? (i := 66) rfl))) (by decide)) (Cond.privateMethod_at (mvP hZ (hw _ (List.mem_of_getElem? (i := 67) rfl)) (args := #[]))) (mvT hZ (hw _ (List.mem_of_getElem? (i := 68) rfl))) (by decide) (backOf (W := 0) (rmer l Z a0 hw [] a1 (1 : Int32) (0 : Int32) P kP fP T80.heap n0 z81 f96 f97 f90 f98 f99 (Or.inl rfl)) hZ (hw _ (List.mem_of_getElem? (i := 68) rfl)) (hw _ (List.mem_of_getElem? (i := 4) rfl)) (by decide) (by decide)) (g := (mkF m 165 #[vr a1, vr a2, vi ((((0 : Int32) ||| (mf 0)) ||| (mf 1)) ||| (mf 2)), vi N, vi (31 : Int32), vi (own_sl (1 : Int32) (mf 0) (mf 1) (mf 2)), vi (mf 2)] [(.ref a1)])) rfl (by rw [hml]; rfl) (Steps.refl _) (a := a1) (by rw [e93]; exact q95) q95' (argsL := []) (rest := []) (lenOf pd_7 rfl) rfl (by show 2 * 0 + _ ≤ _; exact Nat.le_of_eq rfl) (hb hby d5_165) (fun _ _ => ⟨rfl, e93, (by decide : 0 + 0 ≤ _), (by decide : 0 + 0 ≤ _)⟩)
    dsimp only [Pt.U, Pt.locs, Pt.cells, Pt.slots] at X95 l95 y95 z95 st95 hQ95
    subst y95 z95
    obtain ⟨rfl, N95q, eq95⟩ := hQ95
    have N95 : Fr n0 L95 := by rw [l95]; exact Fr.app N92 N95q
    obtain ⟨T101, X101, e101, st101⟩ := getF X95 hx hZ hown (host := "") (Or.inl (hw _ (List.mem_of_getElem? (i := 27) rfl))) Via.refl eq95 f88 (g := (mkF m 169 #[vr a1, vr a2, vi ((((0 : Int32) ||| (mf 0)) ||| (mf 1)) ||| (mf 2)), vi N, vi (31 : Int32), vi (own_sl (1 : Int32) (mf 0) (mf 1) (mf 2)), vi (mf 2)] [(.ref a1)])) rfl rfl (hb hby d5_169)
    obtain ⟨T102, X102, e102, st102⟩ := getF X101 hx hZ hown (host := "") (Or.inl (hw _ (List.mem_of_getElem? (i := 25) rfl))) Via.refl e101 f98 (g := (mkF m 174 #[vr a1, vr a2, vi ((((0 : Int32) ||| (mf 0)) ||| (mf 1)) ||| (mf 2)), vi N, vi (31 : Int32), vi (own_sl (1 : Int32) (mf 0) (mf 1) (mf 2)), vi (mf 2)] [(.ref a1), (.int (0 : Int32)), (.ref R)])) rfl rfl (hb hby d5_174)
    obtain ⟨T103, X103, e103, st103⟩ := getF X102 hx hZ hown (host := "") (Or.inl (hw _ (List.mem_of_getElem? (i := 46) rfl))) Via.refl e102 f97 (g := (mkF m 178 #[vr a1, vr a2, vi ((((0 : Int32) ||| (mf 0)) ||| (mf 1)) ||| (mf 2)), vi N, vi (31 : Int32), vi (own_sl (1 : Int32) (mf 0) (mf 1) (mf 2)), vi (mf 2)] [(.ref a1), (.ref P), (.int (0 : Int32)), (.ref R)])) rfl rfl (hb hby d5_178)
    obtain ⟨T104, X104, e104, st104⟩ := getF X103 hx hZ hown (host := "") (Or.inl (hw _ (List.mem_of_getElem? (i := 22) rfl))) Via.refl e103 f90 (g := (mkF m 182 #[vr a1, vr a2, vi ((((0 : Int32) ||| (mf 0)) ||| (mf 1)) ||| (mf 2)), vi N, vi (31 : Int32), vi (own_sl (1 : Int32) (mf 0) (mf 1) (mf 2)), vi (mf 2)] [(.ref a1), (.int (0 : Int32)), (.ref P), (.int (0 : Int32)), (.ref R)])) rfl rfl (hb hby d5_182)
    refine GoalS.lift (B := (T104.setTop (mkF m 186 #[vr a1, vr a2, vi ((((0 : Int32) ||| (mf 0)) ||| (mf 1)) ||| (mf 2)), vi N, vi (31 : Int32), vi (own_sl (1 : Int32) (mf 0) (mf 1) (mf 2)), vi (mf 2)] [(.int ((0 : Int32) * (own_W (1 : Int32)))), (.ref P), (.int (0 : Int32)), (.ref R)]))) (fun t k => ?_) ?_
    · show Steps p.tables e below (T92.setTop (mkF m 117 #[vr a1, vr a2, vi ((((0 : Int32) ||| (mf 0)) ||| (mf 1)) ||| (mf 2)), vi N, vi (31 : Int32), vi (3 : Int32), vi (mf 2)] [(.int (own_sl (1 : Int32) (mf 0) (mf 1) (mf 2)))])) _
      refine XS.istore X92.here hx rfl (hb hby d5_117) rfl (l' := #[vr a1, vr a2, vi ((((0 : Int32) ||| (mf 0)) ||| (mf 1)) ||| (mf 2)), vi N, vi (31 : Int32), vi (own_sl (1 : Int32) (mf 0) (mf 1) (mf 2)), vi (mf 2)]) rfl ?_
      refine XS.aloadN X92.here hx rfl (hb hby d5_119) rfl rfl ?_
      refine st93 _ ?_
      refine XS.iload X93.here hx rfl (hb hby d5_123) rfl ?_
      refine X93.iaload hx (j := (own_sl (1 : Int32) (mf 0) (mf 1) (mf 2))) (v := (.int (0 : Int32))) (by rw [e93]; exact Ar94.1) (State.isArrayOf_alike hZ.alike Ar94.2.1) Ar94.2.2 hin94 hat94 (g := (mkF m 125 #[vr a1, vr a2, vi ((((0 : Int32) ||| (mf 0)) ||| (mf 1)) ||| (mf 2)), vi N, vi (31 : Int32), vi (own_sl (1 : Int32) (mf 0) (mf 1) (mf 2)), vi (mf 2)] [(.int (own_sl (1 : Int32) (mf 0) (mf 1) (mf 2))), (.ref S)])) rfl rfl (hb hby d5_125) _ ?_
      refine XS.ifYes X93.here hx rfl (pc0 := 126) (pc' := 164) rfl (hb hby d5_126) rfl ((if0 _ _).trans (teq (by decide : (0 : Int32) = (0 : Int32))).1) (by decide) (by decide) ?_
      show Steps p.tables e below (T93.setTop (mkF m 164 #[vr a1, vr a2, vi ((((0 : Int32) ||| (mf 0)) ||| (mf 1)) ||| (mf 2)), vi N, vi (31 : Int32), vi (own_sl (1 : Int32) (mf 0) (mf 1) (mf 2)), vi (mf 2)] [])) _
      refine XS.aloadN X93.here hx rfl (hb hby d5_164) rfl rfl ?_
      refine st95.trans ?_
      refine XS.aloadN X95.here hx rfl (hb hby d5_168) rfl rfl ?_
      refine st101 _ ?_
      refine XS.iconst X101.here hx rfl (hb hby d5_172) ?_
      refine XS.aloadN X101.here hx rfl (hb hby d5_173) rfl rfl ?_
      show Steps p.tables e below (T101.setTop (mkF m 174 #[vr a1, vr a2, vi ((((0 : Int32) ||| (mf 0)) ||| (mf 1)) ||| (mf 2)), vi N, vi (31 : Int32), vi (own_sl (1 : Int32) (mf 0) (mf 1) (mf 2)), vi (mf 2)] [(.ref a1), (.int (0 : Int32)), (.ref R)])) _
      refine st102 _ ?_
      refine XS.aloadN X102.here hx rfl (hb hby d5_177) rfl rfl ?_
      refine st103 _ ?_
      refine XS.aloadN X103.here hx rfl (hb hby d5_181) rfl rfl ?_
      refine st104 _ ?_
      refine XS.imul X104.here hx rfl (hb hby d5_185) rfl ?_
      exact k
    refine GoalS.lift (B := (T104.setTop (mkF m 186 #[vr a1, vr a2, vi ((((0 : Int32) ||| (mf 0)) ||| (mf 1)) ||| (mf 2)), vi N, vi (31 : Int32), vi (own_sl (1 : Int32) (mf 0) (mf 1) (mf 2)), vi (mf 2)] [(.int (0 : Int32)), (.ref P), (.int (0 : Int32)), (.ref R)]))) (fun t k => by rw [Int32.zero_mul]; exact k) ?_
    obtain ⟨T105, X105, e105, st105⟩ := getF X104 hx hZ hown (host := "") (Or.inl (hw _ (List.mem_of_getElem? (i := 22) rfl))) Via.refl e104 f90 (g := (mkF m 187 #[vr a1, vr a2, vi ((((0 : Int32) ||| (mf 0)) ||| (mf 1)) ||| (mf 2)), vi N, vi (31 : Int32), vi (own_sl (1 : Int32) (mf 0) (mf 1) (mf 2)), vi (mf 2)] [(.ref a1), (.int (0 : Int32)), (.ref P), (.int (0 : Int32)), (.ref R)])) rfl rfl (hb hby d5_187)
    have wge106 := own_Wge (1 : Int32)
    obtain ⟨T106, h106, L106, X106, e106, N106, K106, A106, st106⟩ := own_cp X105 hx hZ hown (hw _ (List.mem_of_getElem? (i := 69) rfl)) (hw _ (List.mem_of_getElem? (i := 72) rfl)) (hw _ (List.mem_of_getElem? (i := 70) rfl)) (hw _ (List.mem_of_getElem? (i := 71) rfl)) e105 (d := 0) (w := (own_W (1 : Int32)).toNatClampNeg) (dp := (0 : Int32)) (nn := (own_W (1 : Int32))) V83 f99 (by decide) (own_Wneg (1 : Int32)) rfl rfl (Nat.le_refl _) (by omega) N95 g_P (fr := (mkF m 190 #[vr a1, vr a2, vi ((((0 : Int32) ||| (mf 0)) ||| (mf 1)) ||| (mf 2)), vi N, vi (31 : Int32), vi (own_sl (1 : Int32) (mf 0) (mf 1) (mf 2)), vi (mf 2)] [(.int (own_W (1 : Int32))), (.int (0 : Int32)), (.ref P), (.int (0 : Int32)), (.ref R)])) rfl (by rw [hml]; rfl) (rest := []) rfl (hb hby d5_190) (by decide) (W := 0) (by show 2 * 0 + _ ≤ _; exact Nat.le_of_eq rfl) (by decide)
    have z107 : n0 ≤ h106.size := Nat.le_trans z81 K106.1
    have K108 : Keep h0 h106 [a1, P, R, S] := K82.trans K106 (allS (Or.inl (List.mem_of_getElem? (i := 1) rfl)) all0)
    obtain ⟨fp109, hfp109⟩ : ∃ z, z = (own_cpf fr83 fP 0 (own_W (1 : Int32)).toNatClampNeg) := ⟨_, rfl⟩
    have V109 : AV Z h106 P kP .long (16 * (own_W (1 : Int32)).toNatClampNeg) (fun i => Value.long (fp109 i)) := by rw [hfp109]; exact A106
    have hpm : own_pw (1 : Int32) (mf 0) (mf 1) (mf 2) fp109 0 := by rw [hfp109]; exact own_cp0 hpr
    have f110 : Fld Z h106 a1 "com/example/always_over_paths/alwaysoverpaths/explicit/MarkingTable" "slots" "[I" (.ref S) := (f84.keep K106 (ninS ne_a1_P nin0))
    obtain ⟨T111, X111, e111, st111⟩ := getF X106 hx hZ hown (host := "") (Or.inl (hw _ (List.mem_of_getElem? (i := 29) rfl))) Via.refl e106 f110 (g := (mkF m 194 #[vr a1, vr a2, vi ((((0 : Int32) ||| (mf 0)) ||| (mf 1)) ||| (mf 2)), vi N, vi (31 : Int32), vi (own_sl (1 : Int32) (mf 0) (mf 1) (mf 2)), vi (mf 2)] [(.ref a1)])) rfl rfl (hb hby d5_194)
    have f112 : Fld Z h106 a1 "com/example/always_over_paths/alwaysoverpaths/explicit/MarkingTable" "size" "I" (.int (0 : Int32)) := (f97.keep K106 (ninS ne_a1_P nin0))
    obtain ⟨T113, X113, e113, st113⟩ := getF X111 hx hZ hown (host := "") (Or.inl (hw _ (List.mem_of_getElem? (i := 46) rfl))) Via.refl e111 f112 (g := (mkF m 200 #[vr a1, vr a2, vi ((((0 : Int32) ||| (mf 0)) ||| (mf 1)) ||| (mf 2)), vi N, vi (31 : Int32), vi (own_sl (1 : Int32) (mf 0) (mf 1) (mf 2)), vi (mf 2)] [(.ref a1), (.int (own_sl (1 : Int32) (mf 0) (mf 1) (mf 2))), (.ref S)])) rfl rfl (hb hby d5_200)
    have f115 : AV Z h106 S kS .int 32 (fun i => Value.int ((fun _ => (0 : Int32)) i)) := (f87.keep K106 (ninS (Ne.symm ne_P_S) nin0))
    obtain ⟨cl114, Ar114, kc114, sz114, -, -⟩ := id f115
    have hin114 : ¬ ((own_sl (1 : Int32) (mf 0) (mf 1) (mf 2)) < 0 ∨ cl114.slots.size ≤ ((own_sl (1 : Int32) (mf 0) (mf 1) (mf 2))).toNatClampNeg) := AV.inb sz114 (own_slin (own_slr (1 : Int32) (mf 0) (mf 1) (mf 2)))
    obtain ⟨T114, h114, X114, e114, W114, st114⟩ := stI X113 hx hZ e113 Ar114 (j := (own_sl (1 : Int32) (mf 0) (mf 1) (mf 2))) hin114 (g := (mkF m 205 #[vr a1, vr a2, vi ((((0 : Int32) ||| (mf 0)) ||| (mf 1)) ||| (mf 2)), vi N, vi (31 : Int32), vi (own_sl (1 : Int32) (mf 0) (mf 1) (mf 2)), vi (mf 2)] [(.int (1 : Int32)), (.int (own_sl (1 : Int32) (mf 0) (mf 1) (mf 2))), (.ref S)])) rfl rfl (hb hby d5_205)
    have z116 : n0 ≤ h114.size := Nat.le_trans z107 (Keep.of_wr W114).1
    have K117 : Keep h0 h114 [a1, P, R, S] := K108.wr W114 (Or.inl (List.mem_of_getElem? (i := 3) rfl))
    have V114 : AV Z h114 S kS .int 32 (fun i => Value.int ((updI (fun _ => (0 : Int32)) ((own_sl (1 : Int32) (mf 0) (mf 1) (mf 2))).toNatClampNeg (1 : Int32)) i)) := AV.putI f115 W114 (AV.inx (own_slin (own_slr (1 : Int32) (mf 0) (mf 1) (mf 2))))
    have N114 := Fr.snoc X114 N106 g_S
    have f118 : Fld Z h114 a1 "com/example/always_over_paths/alwaysoverpaths/explicit/MarkingTable" "size" "I" (.int (0 : Int32)) := (f112.other W114 (Or.inl ne_a1_S))
    obtain ⟨T119, X119, e119, st119⟩ := getF X114 hx hZ hown (host := "") (Or.inl (hw _ (List.mem_of_getElem? (i := 46) rfl))) Via.refl e114 f118 (g := (mkF m 208 #[vr a1, vr a2, vi ((((0 : Int32) ||| (mf 0)) ||| (mf 1)) ||| (mf 2)), vi N, vi (31 : Int32), vi (own_sl (1 : Int32) (mf 0) (mf 1) (mf 2)), vi (mf 2)] [(.ref a1), (.ref a1)])) rfl rfl (hb hby d5_208)
    have f120 : Exa Z h114 a1 "com/example/always_over_paths/alwaysoverpaths/explicit/MarkingTable" := ((f100.keep K106).wr W114)
    obtain ⟨T121, h121, X121, e121, W121, st121⟩ := putF X119 hx hZ hown (host := "") (Or.inl (hw _ (List.mem_of_getElem? (i := 46) rfl))) Via.refl e119 f118 f120 (Or.inl (hw _ (List.mem_of_getElem? (i := 47) rfl))) (hw _ (List.mem_of_getElem? (i := 3) rfl)) (ty := .int) (by decide) rfl rfl (g := (mkF m 214 #[vr a1, vr a2, vi ((((0 : Int32) ||| (mf 0)) ||| (mf 1)) ||| (mf 2)), vi N, vi (31 : Int32), vi (own_sl (1 : Int32) (mf 0) (mf 1) (mf 2)), vi (mf 2)] [(.int (1 : Int32)), (.ref a1), (.int (0 : Int32))])) rfl rfl (hb hby d5_214)
    have z122 : n0 ≤ h121.size := Nat.le_trans z116 (Keep.of_wr W121).1
    have K123 : Keep h0 h121 [a1, P, R, S] := K117.wr W121 (Or.inl (List.mem_of_getElem? (i := 0) rfl))
    have Fw121 : Fld Z h121 a1 "com/example/always_over_paths/alwaysoverpaths/explicit/MarkingTable" "size" "I" (.int (1 : Int32)) := f118.same W121
    have N121 := Fr.snoc X121 N114 g_a1
    obtain ⟨fs, hr, hrun, hended, hW, hsame⟩ := X121.leave (v := some (.int (0 : Int32))) (fun h => by rw [Bd.returns] at h; cases h)
    refine ⟨_, _, ?_, hrun, hended, _, _, rfl, ?_, ⟨_, rfl⟩, hW, hsame.mono (by decide) (by decide)⟩
    · show Steps p.tables e below (T104.setTop (mkF m 186 #[vr a1, vr a2, vi ((((0 : Int32) ||| (mf 0)) ||| (mf 1)) ||| (mf 2)), vi N, vi (31 : Int32), vi (own_sl (1 : Int32) (mf 0) (mf 1) (mf 2)), vi (mf 2)] [(.int (0 : Int32)), (.ref P), (.int (0 : Int32)), (.ref R)])) _
      refine XS.aloadN X104.here hx rfl (hb hby d5_186) rfl rfl ?_
      refine st105 _ ?_
      refine st106 _ ?_
      refine XS.aloadN X106.here hx rfl (hb hby d5_193) rfl rfl ?_
      refine st111 _ ?_
      refine XS.iload X111.here hx rfl (hb hby d5_197) rfl ?_
      show Steps p.tables e below (T111.setTop (mkF m 199 #[vr a1, vr a2, vi ((((0 : Int32) ||| (mf 0)) ||| (mf 1)) ||| (mf 2)), vi N, vi (31 : Int32), vi (own_sl (1 : Int32) (mf 0) (mf 1) (mf 2)), vi (mf 2)] [(.int (own_sl (1 : Int32) (mf 0) (mf 1) (mf 2))), (.ref S)])) _
      refine XS.aloadN X111.here hx rfl (hb hby d5_199) rfl rfl ?_
      refine st113 _ ?_
      refine XS.iconst X113.here hx rfl (hb hby d5_203) ?_
      refine XS.iadd X113.here hx rfl (hb hby d5_204) rfl ?_
      refine st114 _ ?_
      refine XS.aloadN X114.here hx rfl (hb hby d5_206) rfl rfl ?_
      show Steps p.tables e below (T114.setTop (mkF m 207 #[vr a1, vr a2, vi ((((0 : Int32) ||| (mf 0)) ||| (mf 1)) ||| (mf 2)), vi N, vi (31 : Int32), vi (own_sl (1 : Int32) (mf 0) (mf 1) (mf 2)), vi (mf 2)] [(.ref a1)])) _
      refine XS.dup X114.here hx rfl (hb hby d5_207) rfl rfl ?_
      refine st119 _ ?_
      refine XS.dupX1 X119.here hx rfl (hb hby d5_211) rfl rfl rfl ?_
      refine XS.iconst X119.here hx rfl (hb hby d5_212) ?_
      refine XS.iadd X119.here hx rfl (hb hby d5_213) rfl ?_
      refine st121 _ ?_
      show Steps p.tables e below (T121.setTop (mkF m 217 #[vr a1, vr a2, vi ((((0 : Int32) ||| (mf 0)) ||| (mf 1)) ||| (mf 2)), vi N, vi (31 : Int32), vi (own_sl (1 : Int32) (mf 0) (mf 1) (mf 2)), vi (mf 2)] [(.int (0 : Int32))])) _
      exact retI X121 hx Bd.returns (hb hby d5_217) hr
    · have f124 : Exa Z h121 a1 "com/example/always_over_paths/alwaysoverpaths/explicit/MarkingTable" := (f120.wr W121)
      have f125 : Fld Z h121 a1 "com/example/always_over_paths/alwaysoverpaths/explicit/MarkingTable" "places" "I" (.int (3 : Int32)) := ((((F_places_a1.keep p80_0 (ninS ne_a1_R nin0)).keep K106 (ninS ne_a1_P nin0)).other W114 (Or.inl ne_a1_S)).other W121 (Or.inr (slot_ne (Or.inr (hw _ (List.mem_of_getElem? (i := 12) rfl))) (Or.inl (hw _ (List.mem_of_getElem? (i := 47) rfl))) (by decide) (t := .int) (t' := .int) (by decide) (by decide))))
      have f126 : Fld Z h121 a1 "com/example/always_over_paths/alwaysoverpaths/explicit/MarkingTable" "bits" "I" (.int (1 : Int32)) := (((f96.keep K106 (ninS ne_a1_P nin0)).other W114 (Or.inl ne_a1_S)).other W121 (Or.inr (slot_ne (Or.inl (hw _ (List.mem_of_getElem? (i := 14) rfl))) (Or.inl (hw _ (List.mem_of_getElem? (i := 47) rfl))) (by decide) (t := .int) (t' := .int) (by decide) (by decide))))
      have f127 : Fld Z h121 a1 "com/example/always_over_paths/alwaysoverpaths/explicit/MarkingTable" "words" "I" (.int (own_W (1 : Int32))) := (((f90.keep K106 (ninS ne_a1_P nin0)).other W114 (Or.inl ne_a1_S)).other W121 (Or.inr (slot_ne (Or.inl (hw _ (List.mem_of_getElem? (i := 23) rfl))) (Or.inl (hw _ (List.mem_of_getElem? (i := 47) rfl))) (by decide) (t := .int) (t' := .int) (by decide) (by decide))))
      have f128 : Fld Z h121 a1 "com/example/always_over_paths/alwaysoverpaths/explicit/MarkingTable" "packed" "[J" (.ref P) := (((f98.keep K106 (ninS ne_a1_P nin0)).other W114 (Or.inl ne_a1_S)).other W121 (Or.inr (slot_ne (Or.inl (hw _ (List.mem_of_getElem? (i := 26) rfl))) (Or.inl (hw _ (List.mem_of_getElem? (i := 47) rfl))) (by decide) (t := (.array .long)) (t' := .int) (by decide) (by decide))))
      have f129 : Fld Z h121 a1 "com/example/always_over_paths/alwaysoverpaths/explicit/MarkingTable" "probe" "[J" (.ref R) := (((f88.keep K106 (ninS ne_a1_P nin0)).other W114 (Or.inl ne_a1_S)).other W121 (Or.inr (slot_ne (Or.inl (hw _ (List.mem_of_getElem? (i := 28) rfl))) (Or.inl (hw _ (List.mem_of_getElem? (i := 47) rfl))) (by decide) (t := (.array .long)) (t' := .int) (by decide) (by decide))))
      have f130 : Fld Z h121 a1 "com/example/always_over_paths/alwaysoverpaths/explicit/MarkingTable" "slots" "[I" (.ref S) := ((f110.other W114 (Or.inl ne_a1_S)).other W121 (Or.inr (slot_ne (Or.inl (hw _ (List.mem_of_getElem? (i := 30) rfl))) (Or.inl (hw _ (List.mem_of_getElem? (i := 47) rfl))) (by decide) (t := (.array .int)) (t' := .int) (by decide) (by decide))))
      have f131 : AV Z h121 P kP .long (16 * (own_W (1 : Int32)).toNatClampNeg) (fun i => Value.long (fp109 i)) := ((V109.other W114 ne_P_S).other W121 (Ne.symm ne_a1_P))
      have f132 : AV Z h121 R kR .long ((own_W (1 : Int32)).toNatClampNeg) (fun i => Value.long (fr83 i)) := (((V83.keep K106 (ninS (Ne.symm ne_P_R) nin0)).other W114 ne_R_S).other W121 (Ne.symm ne_a1_R))
      have f133 : AV Z h121 S kS .int 32 (fun i => Value.int ((updI (fun _ => (0 : Int32)) ((own_sl (1 : Int32) (mf 0) (mf 1) (mf 2))).toNatClampNeg (1 : Int32)) i)) := (V114.other W121 (Ne.symm ne_a1_S))
      show Qad0 Z a1 a2 P R S kP kR kS fP fR kM mf h0 n0 _ T121.heap _
      rw [e121]
      exact ⟨P, R, S, kP, kR, kS, fp109, (1 : Int32), fr83, rfl, N121, K123, (Or.inl rfl), (Or.inl rfl), (Or.inl rfl), ne_P_R, ne_P_S, ne_R_S, f124, f125, f126, f127, f128, f129, Fw121, f130, f131, f132, f133, hBq, bm, hpm⟩
theorem d5_129 : decode prog_21_method_3_code 129 = .ok (.aload_n 0, 1) := by decide +kernel
theorem d5_130 : decode prog_21_method_3_code 130 = .ok (.getfield 32, 3) := by decide +kernel
theorem d5_133 : decode prog_21_method_3_code 133 = .ok (.iload 5, 2) := by decide +kernel
theorem d5_135 : decode prog_21_method_3_code 135 = .ok (.iaload, 1) := by decide +kernel
theorem d5_136 : decode prog_21_method_3_code 136 = .ok (.iconst 1, 1) := by decide +kernel
theorem d5_137 : decode prog_21_method_3_code 137 = .ok (.isub, 1) := by decide +kernel
theorem d5_138 : decode prog_21_method_3_code 138 = .ok (.istore 6, 2) := by decide +kernel
theorem d5_140 : decode prog_21_method_3_code 140 = .ok (.aload_n 0, 1) := by decide +kernel
theorem d5_141 : decode prog_21_method_3_code 141 = .ok (.iload 6, 2) := by decide +kernel
theorem d5_143 : decode prog_21_method_3_code 143 = .ok (.invokevirtual 63, 3) := by decide +kernel
theorem d5_146 : decode prog_21_method_3_code 146 = .ok (.ifCond .eq 6, 3) := by decide +kernel
theorem d5_149 : decode prog_21_method_3_code 149 = .ok (.iload 6, 2) := by decide +kernel
theorem d5_151 : decode prog_21_method_3_code 151 = .ok (.ireturn, 1) := by decide +kernel
theorem d5_152 : decode prog_21_method_3_code 152 = .ok (.iload 5, 2) := by decide +kernel
theorem d5_154 : decode prog_21_method_3_code 154 = .ok (.iconst 1, 1) := by decide +kernel
theorem d5_155 : decode prog_21_method_3_code 155 = .ok (.iadd, 1) := by decide +kernel
theorem d5_156 : decode prog_21_method_3_code 156 = .ok (.iload 4, 2) := by decide +kernel
theorem d5_158 : decode prog_21_method_3_code 158 = .ok (.iand, 1) := by decide +kernel
theorem d5_159 : decode prog_21_method_3_code 159 = .ok (.istore 5, 2) := by decide +kernel
theorem d5_161 : decode prog_21_method_3_code 161 = .ok (.goto (-42), 3) := by decide +kernel
theorem pd_8 : parseMethodDescriptor "(I)Z" = some ⟨[.int], some .boolean⟩ := by decide +kernel
theorem ef_rmad1 (m : MethodId) (a1 : Addr) (a2 : Addr) : entryFrame m #[(.ref a1), (.ref a2)] 7 = mkF m 0 #[vr a1, vr a2, .unset, .unset, .unset, .unset, .unset] [] := by first | (simp [entryFrame, mkF, argsToLocals, Value.category]; done) | rfl
def Qad1 (Z : State) (a1 : Addr) (a2 : Addr) (B : Int32) (P : Addr) (R : Addr) (S : Addr) (kP : ClassId) (kR : ClassId) (kS : ClassId) (fP : Nat → Int64) (fR : Nat → Int64) (kM : ClassId) (mf : Nat → Int32) (x0 : Int32) (x1 : Int32) (x2 : Int32) (h0 : Heap) (n0 : Nat) (v : Option Value) (h : Heap) (L : List Loc) : Prop := ∃ (P' : Addr), ∃ (kP' : ClassId), ∃ (fP' : Nat → Int64), ∃ (B' : Int32), v = some (.int (own_nb x0 x1 x2 (mf 0) (mf 1) (mf 2))) ∧ Fr n0 L ∧ Keep h0 h [a1, P, R, S] ∧ (P' = P ∨ h0.size ≤ P') ∧ (Exa Z h a1 "com/example/always_over_paths/alwaysoverpaths/explicit/MarkingTable") ∧ (Fld Z h a1 "com/example/always_over_paths/alwaysoverpaths/explicit/MarkingTable" "bits" "I" (.int B')) ∧ (Fld Z h a1 "com/example/always_over_paths/alwaysoverpaths/explicit/MarkingTable" "words" "I" (.int (own_W B'))) ∧ (Fld Z h a1 "com/example/always_over_paths/alwaysoverpaths/explicit/MarkingTable" "packed" "[J" (.ref P')) ∧ (AV Z h P' kP' .long (16 * (own_W B').toNatClampNeg) (fun i => Value.long (fP' i))) ∧ (own_B B') ∧ (own_bd3 B' x0 x1 x2) ∧ (own_bd3 B' (mf 0) (mf 1) (mf 2)) ∧ (own_pw B' x0 x1 x2 fP' 0) ∧ (¬ (x0 = (mf 0) ∧ x1 = (mf 1) ∧ x2 = (mf 2)) → own_pw B' (mf 0) (mf 1) (mf 2) fP' (own_W B').toNatClampNeg)
set_option maxRecDepth 65536 in
set_option maxHeartbeats 40000000 in
theorem rmad1 (l : Launch) (Z : State) (a0 : Array Value) (hw : ∀ d ∈ tables_1, d.before a0 Z = true) (ws : List Jvm.Cond) (a1 : Addr) (a2 : Addr) (B : Int32) (P : Addr) (R : Addr) (S : Addr) (kP : ClassId) (kR : ClassId) (kS : ClassId) (fP : Nat → Int64) (fR : Nat → Int64) (kM : ClassId) (mf : Nat → Int32) (x0 : Int32) (x1 : Int32) (x2 : Int32) (h0 : Heap) (n0 : Nat) (Z0 : n0 ≤ h0.size) (E_a1 : Exa Z h0 a1 "com/example/always_over_paths/alwaysoverpaths/explicit/MarkingTable") (F_places_a1 : Fld Z h0 a1 "com/example/always_over_paths/alwaysoverpaths/explicit/MarkingTable" "places" "I" (.int (3 : Int32))) (F_bits_a1 : Fld Z h0 a1 "com/example/always_over_paths/alwaysoverpaths/explicit/MarkingTable" "bits" "I" (.int B)) (F_words_a1 : Fld Z h0 a1 "com/example/always_over_paths/alwaysoverpaths/explicit/MarkingTable" "words" "I" (.int (own_W B))) (F_packed_a1 : Fld Z h0 a1 "com/example/always_over_paths/alwaysoverpaths/explicit/MarkingTable" "packed" "[J" (.ref P)) (F_probe_a1 : Fld Z h0 a1 "com/example/always_over_paths/alwaysoverpaths/explicit/MarkingTable" "probe" "[J" (.ref R)) (F_size_a1 : Fld Z h0 a1 "com/example/always_over_paths/alwaysoverpaths/explicit/MarkingTable" "size" "I" (.int (1 : Int32))) (F_slots_a1 : Fld Z h0 a1 "com/example/always_over_paths/alwaysoverpaths/explicit/MarkingTable" "slots" "[I" (.ref S)) (A_P : AV Z h0 P kP .long (16 * (own_W B).toNatClampNeg) (fun i => Value.long (fP i))) (A_R : AV Z h0 R kR .long (own_W B).toNatClampNeg (fun i => Value.long (fR i))) (A_S : AV Z h0 S kS .int 32 (fun i => Value.int ((updI (fun _ => (0 : Int32)) (own_sl B x0 x1 x2).toNatClampNeg (1 : Int32)) i))) (A_a2 : AV Z h0 a2 kM .int 3 (fun i => Value.int (mf i))) (ne_a1_P : a1 ≠ P) (ne_a1_R : a1 ≠ R) (ne_a1_S : a1 ≠ S) (ne_a2_P : a2 ≠ P) (ne_a2_R : a2 ≠ R) (ne_a2_S : a2 ≠ S) (ne_a1_a2 : a1 ≠ a2) (ne_P_R : P ≠ R) (ne_P_S : P ≠ S) (ne_R_S : R ≠ S) (g_a1 : n0 ≤ a1) (g_P : n0 ≤ P) (g_R : n0 ≤ R) (g_S : n0 ≤ S) (hm : 0 ≤ (mf 0).toInt ∧ 0 ≤ (mf 1).toInt ∧ 0 ≤ (mf 2).toInt) (hBo : own_B B) (bx : own_bd3 B x0 x1 x2) (hxw : own_pw B x0 x1 x2 fP 0) :
    MetFree l (⟨"com/example/always_over_paths/alwaysoverpaths/explicit/MarkingTable", "add", "([I)I"⟩ : MethodName) (head1 (Jvm.Cond.code (⟨"com/example/always_over_paths/alwaysoverpaths/explicit/MarkingTable", "add", "([I)I"⟩ : MethodName) prog_21_method_3_code 7 (some .int) :: ws) ({ frames := 3, cells := 4, slots := 69, locals := 52 } : Room)) (fun a U => a = #[(.ref a1), (.ref a2)] ∧ Z.Warmed39 U.vm ∧ U.heap = h0) (fun _ _ _ _ _ => True) (fun _ U o U' => ∃ v L, o = .returned v ∧ Qad1 Z a1 a2 B P R S kP kR kS fP fR kM mf x0 x1 x2 h0 n0 v U'.heap L ∧ FrameEnd U o U' L ({ frames := 3, cells := 4, slots := 69, locals := 52 } : Room).cells ({ frames := 3, cells := 4, slots := 69, locals := 52 } : Room).slots) := by
  refine MetFree.of_bodySF (plainFor_of_name pn_1) hisR ?_
  intro p e s m args below meth c s₁ Bd hml0 hP hK
  obtain ⟨rfl, hZ, hh⟩ := hP
  have hx := Bd.exec
  have hby := Bd.bytes
  have hml : c.maxLocals = 7 := hml0
  have hown : s.vm.findClass "com/example/always_over_paths/alwaysoverpaths/explicit/MarkingTable" = some m.cls := findClass_of_methodNamed Bd.named
  have hnm := (name_of_methodNamed Bd.named Bd.method).1
  have X0 : Stand p l e ({ frames := 3, cells := 4, slots := 69, locals := 52 } : Room) s m #[(.ref a1), (.ref a2)] below meth c s₁ [] 0 0 := Stand.of_body Bd
  have e0 : s₁.heap = h0 := by rw [← hh, Bd.state]; rfl
  have N0 := Fr.nil n0
  show GoalS p.tables e below s ({ frames := 3, cells := 4, slots := 69, locals := 52 } : Room).cells ({ frames := 3, cells := 4, slots := 69, locals := 52 } : Room).slots (Qad1 Z a1 a2 B P R S kP kR kS fP fR kM mf x0 x1 x2 h0 n0) (s₁.setTop (entryFrame m #[(.ref a1), (.ref a2)] 7))
  refine GoalS.lift (B := s₁.setTop (mkF m 0 #[vr a1, vr a2, .unset, .unset, .unset, .unset, .unset] [])) (fun t k => castTop (ef_rmad1 m a1 a2) k) ?_
  have K0 : Keep h0 h0 [a1, P, R, S] := Keep.refl _ _
  obtain ⟨cl1, Ar1, -, sz1, -, -⟩ := id A_a2
  have le1 : cl1.slots.size.toInt32 = (3 : Int32) := by rw [sz1]; exact rfl
  obtain ⟨cl2, Ar2, kc2, sz2, -, hv2⟩ := id A_a2
  have hin2 : ¬ ((0 : Int32) < 0 ∨ cl2.slots.size ≤ ((0 : Int32)).toNatClampNeg) := AV.inb sz2 (show ¬ (0 : Int32) < 0 ∧ ((0 : Int32)).toNatClampNeg < 3 by decide)
  have hat2 : cl2.slots[((0 : Int32)).toNatClampNeg]? = some (.int (mf 0)) := (hv2 _ (AV.inx (show ¬ (0 : Int32) < 0 ∧ ((0 : Int32)).toNatClampNeg < 3 by decide))).trans (congrArg some rfl)
  obtain ⟨cl3, Ar3, kc3, sz3, -, hv3⟩ := id A_a2
  have hin3 : ¬ ((1 : Int32) < 0 ∨ cl3.slots.size ≤ ((1 : Int32)).toNatClampNeg) := AV.inb sz3 (show ¬ (1 : Int32) < 0 ∧ ((1 : Int32)).toNatClampNeg < 3 by decide)
  have hat3 : cl3.slots[((1 : Int32)).toNatClampNeg]? = some (.int (mf 1)) := (hv3 _ (AV.inx (show ¬ (1 : Int32) < 0 ∧ ((1 : Int32)).toNatClampNeg < 3 by decide))).trans (congrArg some rfl)
  obtain ⟨cl4, Ar4, kc4, sz4, -, hv4⟩ := id A_a2
  have hin4 : ¬ ((2 : Int32) < 0 ∨ cl4.slots.size ≤ ((2 : Int32)).toNatClampNeg) := AV.inb sz4 (show ¬ (2 : Int32) < 0 ∧ ((2 : Int32)).toNatClampNeg < 3 by decide)
  have hat4 : cl4.slots[((2 : Int32)).toNatClampNeg]? = some (.int (mf 2)) := (hv4 _ (AV.inx (show ¬ (2 : Int32) < 0 ∧ ((2 : Int32)).toNatClampNeg < 3 by decide))).trans (congrArg some rfl)
  obtain ⟨_, _, ⟨T5, L5, k5, n5⟩, -, X5, ⟨Lc5, hQ5, l5, y5, z5⟩, st5⟩ := Jvm.LawKit.callS X0 hx (y := (⟨"java/lang/Integer", "numberOfLeadingZeros", "(I)I"⟩ : MethodName)) hown (mvT hZ (hw _ (List.mem_of_getElem? (i := 36) rfl))) (mvT hZ (hw _ (List.mem_of_getElem? (i := 37) rfl))) (mvT hZ (hw _ (List.mem_of_getElem? (i := 38) rfl))) (mvT hZ (hw _ (List.mem_of_getElem? (i := 39) rfl))) (by decide) (backOf (W := 2) (rmnlz l Z a0 hw [] ((((0 : Int32) ||| (mf 0)) ||| (mf 1)) ||| (mf 2)) h0 n0 Z0) hZ (hw _ (List.mem_of_getElem? (i := 39) rfl)) (hw _ (List.mem_of_getElem? (i := 38) rfl)) (by decide) (by decide)) (g := (mkF m 39 #[vr a1, vr a2, vi ((((0 : Int32) ||| (mf 0)) ||| (mf 1)) ||| (mf 2)), vr a2, vi (3 : Int32), vi (3 : Int32), vi (mf 2)] [(.int ((((0 : Int32) ||| (mf 0)) ||| (mf 1)) ||| (mf 2))), (.int (32 : Int32)), (.int (1 : Int32))])) rfl (by rw [hml]; rfl) (argsL := [(.int ((((0 : Int32) ||| (mf 0)) ||| (mf 1)) ||| (mf 2)))]) (rest := [(.int (32 : Int32)), (.int (1 : Int32))]) (lenOf pd_6 rfl) rfl (by show 2 * 0 + _ ≤ _; exact Nat.le_of_eq rfl) (hb hby d5_39) (fun _ _ => ⟨rfl, e0, (by decide : 0 + 0 ≤ _), (by decide : 0 + 0 ≤ _)⟩)
  dsimp only [Pt.U, Pt.locs, Pt.cells, Pt.slots] at X5 l5 y5 z5 st5 hQ5
  subst y5 z5
  obtain ⟨rfl, N5q, eq5⟩ := hQ5
  have N5 : Fr n0 L5 := by rw [l5]; exact Fr.app N0 N5q
  obtain ⟨_, _, ⟨T6, L6, k6, n6⟩, -, X6, ⟨Lc6, hQ6, l6, y6, z6⟩, st6⟩ := Jvm.LawKit.callS X5 hx (y := (⟨"java/lang/Math", "max", "(II)I"⟩ : MethodName)) hown (mvT hZ (hw _ (List.mem_of_getElem? (i := 18) rfl))) (mvT hZ (hw _ (List.mem_of_getElem? (i := 19) rfl))) (mvT hZ (hw _ (List.mem_of_getElem? (i := 20) rfl))) (mvT hZ (hw _ (List.mem_of_getElem? (i := 21) rfl))) (by decide) (backOf (W := 0) (rmmax l Z a0 hw [] (1 : Int32) ((32 : Int32) - (own_nlz ((((0 : Int32) ||| (mf 0)) ||| (mf 1)) ||| (mf 2)))) h0 n0 Z0) hZ (hw _ (List.mem_of_getElem? (i := 21) rfl)) (hw _ (List.mem_of_getElem? (i := 20) rfl)) (by decide) (by decide)) (g := (mkF m 43 #[vr a1, vr a2, vi ((((0 : Int32) ||| (mf 0)) ||| (mf 1)) ||| (mf 2)), vr a2, vi (3 : Int32), vi (3 : Int32), vi (mf 2)] [(.int ((32 : Int32) - (own_nlz ((((0 : Int32) ||| (mf 0)) ||| (mf 1)) ||| (mf 2))))), (.int (1 : Int32))])) rfl (by rw [hml]; rfl) (argsL := [(.int (1 : Int32)), (.int ((32 : Int32) - (own_nlz ((((0 : Int32) ||| (mf 0)) ||| (mf 1)) ||| (mf 2)))))]) (rest := []) (lenOf pd_0 rfl) rfl (by show 2 * 0 + _ ≤ _; exact Nat.le_of_eq rfl) (hb hby d5_43) (fun _ _ => ⟨rfl, eq5, (by decide : 0 + 0 ≤ _), (by decide : 0 + 0 ≤ _)⟩)
  dsimp only [Pt.U, Pt.locs, Pt.cells, Pt.slots] at X6 l6 y6 z6 st6 hQ6
  subst y6 z6
  obtain ⟨rfl, N6q, eq6⟩ := hQ6
  have N6 : Fr n0 L6 := by rw [l6]; exact Fr.app N5 N6q
  obtain ⟨N, hN⟩ : ∃ z : Int32, z = (own_mx (1 : Int32) ((32 : Int32) - (own_nlz ((((0 : Int32) ||| (mf 0)) ||| (mf 1)) ||| (mf 2))))) := ⟨_, rfl⟩
  refine GoalS.lift (B := (T6.setTop (mkF m 46 #[vr a1, vr a2, vi ((((0 : Int32) ||| (mf 0)) ||| (mf 1)) ||| (mf 2)), vr a2, vi (3 : Int32), vi (3 : Int32), vi (mf 2)] [(.int N)]))) (fun t k => ?_) ?_
  · show Steps p.tables e below (s₁.setTop (mkF m 0 #[vr a1, vr a2, .unset, .unset, .unset, .unset, .unset] [])) _
    refine XS.iconst X0.here hx rfl (hb hby d5_0) ?_
    refine XS.istoreN X0.here hx rfl (hb hby d5_1) rfl (l' := #[vr a1, vr a2, vi (0 : Int32), .unset, .unset, .unset, .unset]) rfl ?_
    refine XS.aloadN X0.here hx rfl (hb hby d5_2) rfl rfl ?_
    refine XS.astoreN X0.here hx rfl (hb hby d5_3) rfl rfl (l' := #[vr a1, vr a2, vi (0 : Int32), vr a2, .unset, .unset, .unset]) rfl ?_
    refine XS.aloadN X0.here hx rfl (hb hby d5_4) rfl rfl ?_
    refine X0.arraylength hx (by rw [e0]; exact Ar1.1) (State.isArrayOf_alike hZ.alike Ar1.2.1) (g := (mkF m 5 #[vr a1, vr a2, vi (0 : Int32), vr a2, .unset, .unset, .unset] [(.ref a2)])) rfl rfl (hb hby d5_5) _ ?_
    rw [le1]
    show Steps p.tables e below (s₁.setTop (mkF m 6 #[vr a1, vr a2, vi (0 : Int32), vr a2, .unset, .unset, .unset] [(.int (3 : Int32))])) _
    refine XS.istore X0.here hx rfl (hb hby d5_6) rfl (l' := #[vr a1, vr a2, vi (0 : Int32), vr a2, vi (3 : Int32), .unset, .unset]) rfl ?_
    refine XS.iconst X0.here hx rfl (hb hby d5_8) ?_
    refine XS.istore X0.here hx rfl (hb hby d5_9) rfl (l' := #[vr a1, vr a2, vi (0 : Int32), vr a2, vi (3 : Int32), vi (0 : Int32), .unset]) rfl ?_
    refine XS.iload X0.here hx rfl (hb hby d5_11) rfl ?_
    refine XS.iload X0.here hx rfl (hb hby d5_13) rfl ?_
    refine XS.icmpNo X0.here hx rfl (hb hby d5_15) rfl ((tlt (by decide : (0 : Int32) < (3 : Int32))).2.1) ?_
    show Steps p.tables e below (s₁.setTop (mkF m 18 #[vr a1, vr a2, vi (0 : Int32), vr a2, vi (3 : Int32), vi (0 : Int32), .unset] [])) _
    refine XS.aloadN X0.here hx rfl (hb hby d5_18) rfl rfl ?_
    refine XS.iload X0.here hx rfl (hb hby d5_19) rfl ?_
    refine X0.iaload hx (j := (0 : Int32)) (v := (.int (mf 0))) (by rw [e0]; exact Ar2.1) (State.isArrayOf_alike hZ.alike Ar2.2.1) Ar2.2.2 hin2 hat2 (g := (mkF m 21 #[vr a1, vr a2, vi (0 : Int32), vr a2, vi (3 : Int32), vi (0 : Int32), .unset] [(.int (0 : Int32)), (.ref a2)])) rfl rfl (hb hby d5_21) _ ?_
    refine XS.istore X0.here hx rfl (hb hby d5_22) rfl (l' := #[vr a1, vr a2, vi (0 : Int32), vr a2, vi (3 : Int32), vi (0 : Int32), vi (mf 0)]) rfl ?_
    refine XS.iloadN X0.here hx rfl (hb hby d5_24) rfl ?_
    refine XS.iload X0.here hx rfl (hb hby d5_25) rfl ?_
    show Steps p.tables e below (s₁.setTop (mkF m 27 #[vr a1, vr a2, vi (0 : Int32), vr a2, vi (3 : Int32), vi (0 : Int32), vi (mf 0)] [(.int (mf 0)), (.int (0 : Int32))])) _
    refine XS.ior X0.here hx rfl (hb hby d5_27) rfl ?_
    refine XS.istoreN X0.here hx rfl (hb hby d5_28) rfl (l' := #[vr a1, vr a2, vi ((0 : Int32) ||| (mf 0)), vr a2, vi (3 : Int32), vi (0 : Int32), vi (mf 0)]) rfl ?_
    refine XS.iinc X0.here hx rfl (hb hby d5_29) rfl (l' := #[vr a1, vr a2, vi ((0 : Int32) ||| (mf 0)), vr a2, vi (3 : Int32), vi (1 : Int32), vi (mf 0)]) rfl ?_
    refine XS.goto X0.here hx rfl (pc0 := 32) (pc' := 11) rfl (hb hby d5_32) (by decide) (by decide) ?_
    refine XS.iload X0.here hx rfl (hb hby d5_11) rfl ?_
    refine XS.iload X0.here hx rfl (hb hby d5_13) rfl ?_
    show Steps p.tables e below (s₁.setTop (mkF m 15 #[vr a1, vr a2, vi ((0 : Int32) ||| (mf 0)), vr a2, vi (3 : Int32), vi (1 : Int32), vi (mf 0)] [(.int (3 : Int32)), (.int (1 : Int32))])) _
    refine XS.icmpNo X0.here hx rfl (hb hby d5_15) rfl ((tlt (by decide : (1 : Int32) < (3 : Int32))).2.1) ?_
    refine XS.aloadN X0.here hx rfl (hb hby d5_18) rfl rfl ?_
    refine XS.iload X0.here hx rfl (hb hby d5_19) rfl ?_
    refine X0.iaload hx (j := (1 : Int32)) (v := (.int (mf 1))) (by rw [e0]; exact Ar3.1) (State.isArrayOf_alike hZ.alike Ar3.2.1) Ar3.2.2 hin3 hat3 (g := (mkF m 21 #[vr a1, vr a2, vi ((0 : Int32) ||| (mf 0)), vr a2, vi (3 : Int32), vi (1 : Int32), vi (mf 0)] [(.int (1 : Int32)), (.ref a2)])) rfl rfl (hb hby d5_21) _ ?_
    refine XS.istore X0.here hx rfl (hb hby d5_22) rfl (l' := #[vr a1, vr a2, vi ((0 : Int32) ||| (mf 0)), vr a2, vi (3 : Int32), vi (1 : Int32), vi (mf 1)]) rfl ?_
    refine XS.iloadN X0.here hx rfl (hb hby d5_24) rfl ?_
    show Steps p.tables e below (s₁.setTop (mkF m 25 #[vr a1, vr a2, vi ((0 : Int32) ||| (mf 0)), vr a2, vi (3 : Int32), vi (1 : Int32), vi (mf 1)] [(.int ((0 : Int32) ||| (mf 0)))])) _
    refine XS.iload X0.here hx rfl (hb hby d5_25) rfl ?_
    refine XS.ior X0.here hx rfl (hb hby d5_27) rfl ?_
    refine XS.istoreN X0.here hx rfl (hb hby d5_28) rfl (l' := #[vr a1, vr a2, vi (((0 : Int32) ||| (mf 0)) ||| (mf 1)), vr a2, vi (3 : Int32), vi (1 : Int32), vi (mf 1)]) rfl ?_
    refine XS.iinc X0.here hx rfl (hb hby d5_29) rfl (l' := #[vr a1, vr a2, vi (((0 : Int32) ||| (mf 0)) ||| (mf 1)), vr a2, vi (3 : Int32), vi (2 : Int32), vi (mf 1)]) rfl ?_
    refine XS.goto X0.here hx rfl (pc0 := 32) (pc' := 11) rfl (hb hby d5_32) (by decide) (by decide) ?_
    refine XS.iload X0.here hx rfl (hb hby d5_11) rfl ?_
    show Steps p.tables e below (s₁.setTop (mkF m 13 #[vr a1, vr a2, vi (((0 : Int32) ||| (mf 0)) ||| (mf 1)), vr a2, vi (3 : Int32), vi (2 : Int32), vi (mf 1)] [(.int (2 : Int32))])) _
    refine XS.iload X0.here hx rfl (hb hby d5_13) rfl ?_
    refine XS.icmpNo X0.here hx rfl (hb hby d5_15) rfl ((tlt (by decide : (2 : Int32) < (3 : Int32))).2.1) ?_
    refine XS.aloadN X0.here hx rfl (hb hby d5_18) rfl rfl ?_
    refine XS.iload X0.here hx rfl (hb hby d5_19) rfl ?_
    refine X0.iaload hx (j := (2 : Int32)) (v := (.int (mf 2))) (by rw [e0]; exact Ar4.1) (State.isArrayOf_alike hZ.alike Ar4.2.1) Ar4.2.2 hin4 hat4 (g := (mkF m 21 #[vr a1, vr a2, vi (((0 : Int32) ||| (mf 0)) ||| (mf 1)), vr a2, vi (3 : Int32), vi (2 : Int32), vi (mf 1)] [(.int (2 : Int32)), (.ref a2)])) rfl rfl (hb hby d5_21) _ ?_
    refine XS.istore X0.here hx rfl (hb hby d5_22) rfl (l' := #[vr a1, vr a2, vi (((0 : Int32) ||| (mf 0)) ||| (mf 1)), vr a2, vi (3 : Int32), vi (2 : Int32), vi (mf 2)]) rfl ?_
    show Steps p.tables e below (s₁.setTop (mkF m 24 #[vr a1, vr a2, vi (((0 : Int32) ||| (mf 0)) ||| (mf 1)), vr a2, vi (3 : Int32), vi (2 : Int32), vi (mf 2)] [])) _
    refine XS.iloadN X0.here hx rfl (hb hby d5_24) rfl ?_
    refine XS.iload X0.here hx rfl (hb hby d5_25) rfl ?_
    refine XS.ior X0.here hx rfl (hb hby d5_27) rfl ?_
    refine XS.istoreN X0.here hx rfl (hb hby d5_28) rfl (l' := #[vr a1, vr a2, vi ((((0 : Int32) ||| (mf 0)) ||| (mf 1)) ||| (mf 2)), vr a2, vi (3 : Int32), vi (2 : Int32), vi (mf 2)]) rfl ?_
    refine XS.iinc X0.here hx rfl (hb hby d5_29) rfl (l' := #[vr a1, vr a2, vi ((((0 : Int32) ||| (mf 0)) ||| (mf 1)) ||| (mf 2)), vr a2, vi (3 : Int32), vi (3 : Int32), vi (mf 2)]) rfl ?_
    refine XS.goto X0.here hx rfl (pc0 := 32) (pc' := 11) rfl (hb hby d5_32) (by decide) (by decide) ?_
    show Steps p.tables e below (s₁.setTop (mkF m 11 #[vr a1, vr a2, vi ((((0 : Int32) ||| (mf 0)) ||| (mf 1)) ||| (mf 2)), vr a2, vi (3 : Int32), vi (3 : Int32), vi (mf 2)] [])) _
    refine XS.iload X0.here hx rfl (hb hby d5_11) rfl ?_
    refine XS.iload X0.here hx rfl (hb hby d5_13) rfl ?_
    refine XS.icmpYes X0.here hx rfl (pc0 := 15) (pc' := 35) rfl (hb hby d5_15) rfl ((flt (by decide : ¬ ((3 : Int32) < (3 : Int32)))).2.1) (by decide) (by decide) ?_
    refine XS.iconst X0.here hx rfl (hb hby d5_35) ?_
    refine XS.bipush X0.here hx rfl (hb hby d5_36) ?_
    refine XS.iloadN X0.here hx rfl (hb hby d5_38) rfl ?_
    show Steps p.tables e below (s₁.setTop (mkF m 39 #[vr a1, vr a2, vi ((((0 : Int32) ||| (mf 0)) ||| (mf 1)) ||| (mf 2)), vr a2, vi (3 : Int32), vi (3 : Int32), vi (mf 2)] [(.int ((((0 : Int32) ||| (mf 0)) ||| (mf 1)) ||| (mf 2))), (.int (32 : Int32)), (.int (1 : Int32))])) _
    refine st5 _ ?_
    refine XS.isub X5.here hx rfl (hb hby d5_42) rfl ?_
    refine st6 _ ?_
    rw [hN] at k
    exact k
  have nd := own_need3 hm.1 hm.2.1 hm.2.2 hN
  obtain ⟨T7, X7, e7, st7⟩ := getF X6 hx hZ hown (host := "") (Or.inl (hw _ (List.mem_of_getElem? (i := 13) rfl))) Via.refl eq6 F_bits_a1 (g := (mkF m 49 #[vr a1, vr a2, vi ((((0 : Int32) ||| (mf 0)) ||| (mf 1)) ||| (mf 2)), vi N, vi (3 : Int32), vi (3 : Int32), vi (mf 2)] [(.ref a1), (.int N)])) rfl rfl (hb hby d5_49)
  refine GoalS.lift (B := (T7.setTop (mkF m 52 #[vr a1, vr a2, vi ((((0 : Int32) ||| (mf 0)) ||| (mf 1)) ||| (mf 2)), vi N, vi (3 : Int32), vi (3 : Int32), vi (mf 2)] [(.int B), (.int N)]))) (fun t k => ?_) ?_
  · show Steps p.tables e below (T6.setTop (mkF m 46 #[vr a1, vr a2, vi ((((0 : Int32) ||| (mf 0)) ||| (mf 1)) ||| (mf 2)), vr a2, vi (3 : Int32), vi (3 : Int32), vi (mf 2)] [(.int N)])) _
    refine XS.istoreN X6.here hx rfl (hb hby d5_46) rfl (l' := #[vr a1, vr a2, vi ((((0 : Int32) ||| (mf 0)) ||| (mf 1)) ||| (mf 2)), vi N, vi (3 : Int32), vi (3 : Int32), vi (mf 2)]) rfl ?_
    refine XS.iloadN X6.here hx rfl (hb hby d5_47) rfl ?_
    refine XS.aloadN X6.here hx rfl (hb hby d5_48) rfl rfl ?_
    refine st7 _ ?_
    exact k
  by_cases hc52_8 : B < N
  · obtain ⟨cq9, q9, q9'⟩ := E_a1.cell
    obtain ⟨_, _, ⟨T9, L9, k9, n9⟩, -, X9, ⟨Lc9, hQ9, l9, y9, z9⟩, st9⟩ := X7.privateBack hx (y := (⟨"com/example/always_over_paths/alwaysoverpaths/explicit/MarkingTable", "widen", "(I)V"⟩ : MethodName)) hown (mvT hZ (hw _ (List.mem_of_getElem? (i := 41) rfl))) (mvT hZ (hw _ (List.mem_of_getElem? (i := 42) rfl))) (own_selp (y := (⟨"com/example/always_over_paths/alwaysoverpaths/explicit/MarkingTable", "widen", "(I)V"⟩ : MethodName)) (mvT hZ (hw _ (List.mem_of_getElem? (i := 3) rfl))) (mvP hZ (hw _ (List.mem_of_getElem? (i := 43) rfl))) (mvT hZ (hw _ (List.mem_of_getElem? (i := 42) rfl))) (by decide)) (Cond.privateMethod_at (mvP hZ (hw _ (List.mem_of_getElem? (i := 43) rfl)) (args := #[]))) (mvT hZ (hw _ (List.mem_of_getElem? (i := 44) rfl))) (by decide) (backOf (W := 0) (rmwd1 l Z a0 hw [] a1 N B P R S kP kR kS fP fR (updI (fun _ => (0 : Int32)) (own_sl B x0 x1 x2).toNatClampNeg (1 : Int32)) x0 x1 x2 h0 n0 Z0 E_a1 F_places_a1 F_bits_a1 F_words_a1 F_packed_a1 F_probe_a1 F_size_a1 F_slots_a1 A_P A_S g_a1 ne_a1_S ne_a1_P nd.1 hBo bx hxw) hZ (hw _ (List.mem_of_getElem? (i := 44) rfl)) (hw _ (List.mem_of_getElem? (i := 4) rfl)) (by decide) (by decide)) (g := (mkF m 57 #[vr a1, vr a2, vi ((((0 : Int32) ||| (mf 0)) ||| (mf 1)) ||| (mf 2)), vi N, vi (3 : Int32), vi (3 : Int32), vi (mf 2)] [(.int N), (.ref a1)])) rfl (by rw [hml]; rfl) (Steps.refl _) (a := a1) (by rw [e7]; exact q9) q9' (argsL := [(.int N)]) (rest := []) (lenOf pd_4 rfl) rfl (by show 2 * 0 + _ ≤ _; exact Nat.le_of_eq rfl) (hb hby d5_57) (fun _ _ => ⟨rfl, e7, (by decide : 0 + 4 ≤ _), (by decide : 0 + 69 ≤ _)⟩)
    dsimp only [Pt.U, Pt.locs, Pt.cells, Pt.slots] at X9 l9 y9 z9 st9 hQ9
    subst y9 z9
    obtain ⟨P'_9, R'_9, S'_9, kP'_9, kR'_9, kS'_9, fP'_9, rfl, N9q, p9_0, p9_1, p9_2, p9_3, p9_4, p9_5, p9_6, p9_7, p9_8, p9_9, p9_10, p9_11, p9_12, p9_13, p9_14, p9_15, p9_16, p9_17, p9_18⟩ := hQ9
    have N9 : Fr n0 L9 := by rw [l9]; exact Fr.app N6 N9q
    have z10 : n0 ≤ T9.heap.size := Nat.le_trans Z0 p9_0.1
    have K11 : Keep h0 T9.heap [a1, P, R, S] := K0.trans p9_0 (allS (Or.inl (List.mem_of_getElem? (i := 0) rfl)) all0)
    have ne_a1_P'_9 : a1 ≠ P'_9 := Nat.ne_of_lt (Nat.lt_of_lt_of_le E_a1.lt p9_1)
    have ne_P_P'_9 : P ≠ P'_9 := Nat.ne_of_lt (Nat.lt_of_lt_of_le A_P.lt p9_1)
    have ne_R_P'_9 : R ≠ P'_9 := Nat.ne_of_lt (Nat.lt_of_lt_of_le A_R.lt p9_1)
    have ne_S_P'_9 : S ≠ P'_9 := Nat.ne_of_lt (Nat.lt_of_lt_of_le A_S.lt p9_1)
    have ne_a2_P'_9 : a2 ≠ P'_9 := Nat.ne_of_lt (Nat.lt_of_lt_of_le A_a2.lt p9_1)
    have g_P'_9 : n0 ≤ P'_9 := Nat.le_trans Z0 p9_1
    have sz_P'_9 : h0.size ≤ P'_9 := Nat.le_trans K0.1 p9_1
    have ne_a1_R'_9 : a1 ≠ R'_9 := Nat.ne_of_lt (Nat.lt_of_lt_of_le E_a1.lt p9_2)
    have ne_P_R'_9 : P ≠ R'_9 := Nat.ne_of_lt (Nat.lt_of_lt_of_le A_P.lt p9_2)
    have ne_R_R'_9 : R ≠ R'_9 := Nat.ne_of_lt (Nat.lt_of_lt_of_le A_R.lt p9_2)
    have ne_S_R'_9 : S ≠ R'_9 := Nat.ne_of_lt (Nat.lt_of_lt_of_le A_S.lt p9_2)
    have ne_a2_R'_9 : a2 ≠ R'_9 := Nat.ne_of_lt (Nat.lt_of_lt_of_le A_a2.lt p9_2)
    have g_R'_9 : n0 ≤ R'_9 := Nat.le_trans Z0 p9_2
    have sz_R'_9 : h0.size ≤ R'_9 := Nat.le_trans K0.1 p9_2
    have ne_a1_S'_9 : a1 ≠ S'_9 := Nat.ne_of_lt (Nat.lt_of_lt_of_le E_a1.lt p9_3)
    have ne_P_S'_9 : P ≠ S'_9 := Nat.ne_of_lt (Nat.lt_of_lt_of_le A_P.lt p9_3)
    have ne_R_S'_9 : R ≠ S'_9 := Nat.ne_of_lt (Nat.lt_of_lt_of_le A_R.lt p9_3)
    have ne_S_S'_9 : S ≠ S'_9 := Nat.ne_of_lt (Nat.lt_of_lt_of_le A_S.lt p9_3)
    have ne_a2_S'_9 : a2 ≠ S'_9 := Nat.ne_of_lt (Nat.lt_of_lt_of_le A_a2.lt p9_3)
    have g_S'_9 : n0 ≤ S'_9 := Nat.le_trans Z0 p9_3
    have sz_S'_9 : h0.size ≤ S'_9 := Nat.le_trans K0.1 p9_3
    have hBq : own_B N := nd.1
    have bm : own_bd3 N (mf 0) (mf 1) (mf 2) := nd.2
    have bxq : own_bd3 N x0 x1 x2 := own_bdm3 hBo bx hc52_8
    have hxq : own_pw N x0 x1 x2 fP'_9 0 := p9_18
    obtain ⟨T15, X15, e15, st15⟩ := getF X9 hx hZ hown (host := "") (Or.inl (hw _ (List.mem_of_getElem? (i := 46) rfl))) Via.refl rfl p9_13 (g := (mkF m 61 #[vr a1, vr a2, vi ((((0 : Int32) ||| (mf 0)) ||| (mf 1)) ||| (mf 2)), vi N, vi (3 : Int32), vi (3 : Int32), vi (mf 2)] [(.ref a1)])) rfl rfl (hb hby d5_61)
    obtain ⟨T16, X16, e16, st16⟩ := getF X15 hx hZ hown (host := "") (Or.inl (hw _ (List.mem_of_getElem? (i := 29) rfl))) Via.refl e15 p9_14 (g := (mkF m 65 #[vr a1, vr a2, vi ((((0 : Int32) ||| (mf 0)) ||| (mf 1)) ||| (mf 2)), vi N, vi (3 : Int32), vi (3 : Int32), vi (mf 2)] [(.ref a1), (.int (1 : Int32))])) rfl rfl (hb hby d5_65)
    obtain ⟨cl17, Ar17, -, sz17, -, -⟩ := id p9_17
    have le17 : cl17.slots.size.toInt32 = (32 : Int32) := by rw [sz17]; exact rfl
    obtain ⟨T18, X18, e18, st18⟩ := getF X16 hx hZ hown (host := "") (Or.inl (hw _ (List.mem_of_getElem? (i := 13) rfl))) Via.refl e16 p9_9 (g := (mkF m 82 #[vr a1, vr a2, vi ((((0 : Int32) ||| (mf 0)) ||| (mf 1)) ||| (mf 2)), vi N, vi (3 : Int32), vi (3 : Int32), vi (mf 2)] [(.ref a1), (.ref a2)])) rfl rfl (hb hby d5_82)
    obtain ⟨T19, X19, e19, st19⟩ := getF X18 hx hZ hown (host := "") (Or.inl (hw _ (List.mem_of_getElem? (i := 27) rfl))) Via.refl e18 p9_12 (g := (mkF m 86 #[vr a1, vr a2, vi ((((0 : Int32) ||| (mf 0)) ||| (mf 1)) ||| (mf 2)), vi N, vi (3 : Int32), vi (3 : Int32), vi (mf 2)] [(.ref a1), (.int N), (.ref a2)])) rfl rfl (hb hby d5_86)
    have f21 : AV Z T9.heap a2 kM .int 3 (fun i => Value.int (mf i)) := (A_a2.keep p9_0 (ninS (Ne.symm ne_a1_a2) nin0))
    obtain ⟨_, _, ⟨T20, L20, k20, n20⟩, -, X20, ⟨Lc20, hQ20, l20, y20, z20⟩, st20⟩ := Jvm.LawKit.callS X19 hx (y := (⟨"com/example/always_over_paths/alwaysoverpaths/explicit/MarkingTable", "pack", "([II[JI)V"⟩ : MethodName)) hown (mvT hZ (hw _ (List.mem_of_getElem? (i := 56) rfl))) (mvT hZ (hw _ (List.mem_of_getElem? (i := 57) rfl))) (mvT hZ (hw _ (List.mem_of_getElem? (i := 4) rfl))) (mvT hZ (hw _ (List.mem_of_getElem? (i := 58) rfl))) (by decide) (backOf (W := 0) (rmpk l Z a0 hw [] a2 N R'_9 kM kR'_9 mf (fun _ => (0 : Int64)) ((own_W N).toNatClampNeg) T9.heap n0 z10 f21 p9_16 ne_a2_R'_9 g_R'_9 hBq (Nat.le_refl _)) hZ (hw _ (List.mem_of_getElem? (i := 58) rfl)) (hw _ (List.mem_of_getElem? (i := 4) rfl)) (by decide) (by decide)) (g := (mkF m 90 #[vr a1, vr a2, vi ((((0 : Int32) ||| (mf 0)) ||| (mf 1)) ||| (mf 2)), vi N, vi (3 : Int32), vi (3 : Int32), vi (mf 2)] [(.int (0 : Int32)), (.ref R'_9), (.int N), (.ref a2)])) rfl (by rw [hml]; rfl) (argsL := [(.ref a2), (.int N), (.ref R'_9), (.int (0 : Int32))]) (rest := []) (lenOf pd_5 rfl) rfl (by show 2 * 0 + _ ≤ _; exact Nat.le_of_eq rfl) (hb hby d5_90) (fun _ _ => ⟨rfl, e19, (by decide : 4 + 0 ≤ _), (by decide : 69 + 0 ≤ _)⟩)
    dsimp only [Pt.U, Pt.locs, Pt.cells, Pt.slots] at X20 l20 y20 z20 st20 hQ20
    subst y20 z20
    obtain ⟨rfl, N20q, p20_0, p20_1⟩ := hQ20
    have N20 : Fr n0 L20 := by rw [l20]; exact Fr.app N9 N20q
    have z22 : n0 ≤ T20.heap.size := Nat.le_trans z10 p20_0.1
    have K23 : Keep h0 T20.heap [a1, P, R, S] := K11.trans p20_0 (allS (Or.inr sz_R'_9) all0)
    obtain ⟨fr24, hfr24⟩ : ∃ z, z = (own_pk N (mf 0) (mf 1) (mf 2) (fun _ => (0 : Int64))) := ⟨_, rfl⟩
    have V24 : AV Z T20.heap R'_9 kR'_9 .long ((own_W N).toNatClampNeg) (fun i => Value.long (fr24 i)) := by rw [hfr24]; exact p20_1
    have hpr : own_pw N (mf 0) (mf 1) (mf 2) fr24 0 := by rw [hfr24]; exact own_pk_pw _ _ _ _ _
    have f25 : Fld Z T20.heap a1 "com/example/always_over_paths/alwaysoverpaths/explicit/MarkingTable" "slots" "[I" (.ref S'_9) := (p9_14.keep p20_0 (ninS ne_a1_R'_9 nin0))
    obtain ⟨T26, X26, e26, st26⟩ := getF X20 hx hZ hown (host := "") (Or.inl (hw _ (List.mem_of_getElem? (i := 29) rfl))) Via.refl rfl f25 (g := (mkF m 94 #[vr a1, vr a2, vi ((((0 : Int32) ||| (mf 0)) ||| (mf 1)) ||| (mf 2)), vi N, vi (3 : Int32), vi (3 : Int32), vi (mf 2)] [(.ref a1)])) rfl rfl (hb hby d5_94)
    have f28 : AV Z T20.heap S'_9 kS'_9 .int 32 (fun i => Value.int ((updI (fun _ => (0 : Int32)) (own_sl N x0 x1 x2).toNatClampNeg (1 : Int32)) i)) := (p9_17.keep p20_0 (ninS (Ne.symm p9_6) nin0))
    obtain ⟨cl27, Ar27, -, sz27, -, -⟩ := id f28
    have le27 : cl27.slots.size.toInt32 = (32 : Int32) := by rw [sz27]; exact rfl
    have f29 : Fld Z T20.heap a1 "com/example/always_over_paths/alwaysoverpaths/explicit/MarkingTable" "probe" "[J" (.ref R'_9) := (p9_12.keep p20_0 (ninS ne_a1_R'_9 nin0))
    obtain ⟨T30, X30, e30, st30⟩ := getF X26 hx hZ hown (host := "") (Or.inl (hw _ (List.mem_of_getElem? (i := 27) rfl))) Via.refl e26 f29 (g := (mkF m 103 #[vr a1, vr a2, vi ((((0 : Int32) ||| (mf 0)) ||| (mf 1)) ||| (mf 2)), vi N, vi (31 : Int32), vi (3 : Int32), vi (mf 2)] [(.ref a1)])) rfl rfl (hb hby d5_103)
    have f31 : Fld Z T20.heap a1 "com/example/always_over_paths/alwaysoverpaths/explicit/MarkingTable" "words" "I" (.int (own_W N)) := (p9_10.keep p20_0 (ninS ne_a1_R'_9 nin0))
    obtain ⟨T32, X32, e32, st32⟩ := getF X30 hx hZ hown (host := "") (Or.inl (hw _ (List.mem_of_getElem? (i := 22) rfl))) Via.refl e30 f31 (g := (mkF m 108 #[vr a1, vr a2, vi ((((0 : Int32) ||| (mf 0)) ||| (mf 1)) ||| (mf 2)), vi N, vi (31 : Int32), vi (3 : Int32), vi (mf 2)] [(.ref a1), (.int (0 : Int32)), (.ref R'_9)])) rfl rfl (hb hby d5_108)
    obtain ⟨_, _, ⟨T33, L33, k33, n33⟩, -, X33, ⟨Lc33, hQ33, l33, y33, z33⟩, st33⟩ := Jvm.LawKit.callS X32 hx (y := (⟨"com/example/always_over_paths/alwaysoverpaths/explicit/MarkingTable", "hash", "([JII)I"⟩ : MethodName)) hown (mvT hZ (hw _ (List.mem_of_getElem? (i := 59) rfl))) (mvT hZ (hw _ (List.mem_of_getElem? (i := 60) rfl))) (mvT hZ (hw _ (List.mem_of_getElem? (i := 4) rfl))) (mvT hZ (hw _ (List.mem_of_getElem? (i := 61) rfl))) (by decide) (backOf (W := 0) (rmh l Z a0 hw [] R'_9 (own_W N) kR'_9 fr24 ((own_W N).toNatClampNeg) T20.heap n0 z22 V24 (own_W12 N) (Nat.le_refl _)) hZ (hw _ (List.mem_of_getElem? (i := 61) rfl)) (hw _ (List.mem_of_getElem? (i := 4) rfl)) (by decide) (by decide)) (g := (mkF m 111 #[vr a1, vr a2, vi ((((0 : Int32) ||| (mf 0)) ||| (mf 1)) ||| (mf 2)), vi N, vi (31 : Int32), vi (3 : Int32), vi (mf 2)] [(.int (own_W N)), (.int (0 : Int32)), (.ref R'_9)])) rfl (by rw [hml]; rfl) (argsL := [(.ref R'_9), (.int (0 : Int32)), (.int (own_W N))]) (rest := []) (lenOf pd_2 rfl) rfl (by show 2 * 0 + _ ≤ _; exact Nat.le_of_eq rfl) (hb hby d5_111) (fun _ _ => ⟨rfl, e32, (by decide : 4 + 0 ≤ _), (by decide : 69 + 0 ≤ _)⟩)
    dsimp only [Pt.U, Pt.locs, Pt.cells, Pt.slots] at X33 l33 y33 z33 st33 hQ33
    subst y33 z33
    obtain ⟨rfl, N33q, eq33⟩ := hQ33
    have N33 : Fr n0 L33 := by rw [l33]; exact Fr.app N20 N33q
    refine GoalS.lift (B := (T33.setTop (mkF m 117 #[vr a1, vr a2, vi ((((0 : Int32) ||| (mf 0)) ||| (mf 1)) ||| (mf 2)), vi N, vi (31 : Int32), vi (3 : Int32), vi (mf 2)] [(.int ((own_hash (own_W N) (fr24 0) (fr24 1)) &&& (31 : Int32)))]))) (fun t k => ?_) ?_
    · show Steps p.tables e below (T7.setTop (mkF m 52 #[vr a1, vr a2, vi ((((0 : Int32) ||| (mf 0)) ||| (mf 1)) ||| (mf 2)), vi N, vi (3 : Int32), vi (3 : Int32), vi (mf 2)] [(.int B), (.int N)])) _
      refine XS.icmpNo X7.here hx rfl (hb hby d5_52) rfl ((tlt hc52_8).2.2.2) ?_
      refine XS.aloadN X7.here hx rfl (hb hby d5_55) rfl rfl ?_
      refine XS.iloadN X7.here hx rfl (hb hby d5_56) rfl ?_
      refine st9.trans ?_
      refine XS.aloadN X9.here hx rfl (hb hby d5_60) rfl rfl ?_
      refine st15 _ ?_
      show Steps p.tables e below (T15.setTop (mkF m 64 #[vr a1, vr a2, vi ((((0 : Int32) ||| (mf 0)) ||| (mf 1)) ||| (mf 2)), vi N, vi (3 : Int32), vi (3 : Int32), vi (mf 2)] [(.int (1 : Int32))])) _
      refine XS.aloadN X15.here hx rfl (hb hby d5_64) rfl rfl ?_
      refine st16 _ ?_
      refine X16.arraylength hx (by rw [e16]; exact Ar17.1) (State.isArrayOf_alike hZ.alike Ar17.2.1) (g := (mkF m 68 #[vr a1, vr a2, vi ((((0 : Int32) ||| (mf 0)) ||| (mf 1)) ||| (mf 2)), vi N, vi (3 : Int32), vi (3 : Int32), vi (mf 2)] [(.ref S'_9), (.int (1 : Int32))])) rfl rfl (hb hby d5_68) _ ?_
      rw [le17]
      refine XS.iconst X16.here hx rfl (hb hby d5_69) ?_
      refine XS.idiv X16.here hx rfl (hb hby d5_70) rfl (by decide) ?_
      show Steps p.tables e below (T16.setTop (mkF m 71 #[vr a1, vr a2, vi ((((0 : Int32) ||| (mf 0)) ||| (mf 1)) ||| (mf 2)), vi N, vi (3 : Int32), vi (3 : Int32), vi (mf 2)] [(.int ((32 : Int32) / (4 : Int32))), (.int (1 : Int32))])) _
      refine XS.iconst X16.here hx rfl (hb hby d5_71) ?_
      refine XS.imul X16.here hx rfl (hb hby d5_72) rfl ?_
      refine XS.icmpYes X16.here hx rfl (pc0 := 73) (pc' := 80) rfl (hb hby d5_73) rfl ((tlt (by decide : (1 : Int32) < (((32 : Int32) / (4 : Int32)) * (3 : Int32)))).1) (by decide) (by decide) ?_
      refine XS.aloadN X16.here hx rfl (hb hby d5_80) rfl rfl ?_
      refine XS.aloadN X16.here hx rfl (hb hby d5_81) rfl rfl ?_
      refine st18 _ ?_
      show Steps p.tables e below (T18.setTop (mkF m 85 #[vr a1, vr a2, vi ((((0 : Int32) ||| (mf 0)) ||| (mf 1)) ||| (mf 2)), vi N, vi (3 : Int32), vi (3 : Int32), vi (mf 2)] [(.int N), (.ref a2)])) _
      refine XS.aloadN X18.here hx rfl (hb hby d5_85) rfl rfl ?_
      refine st19 _ ?_
      refine XS.iconst X19.here hx rfl (hb hby d5_89) ?_
      refine st20 _ ?_
      refine XS.aloadN X20.here hx rfl (hb hby d5_93) rfl rfl ?_
      refine st26 _ ?_
      show Steps p.tables e below (T26.setTop (mkF m 97 #[vr a1, vr a2, vi ((((0 : Int32) ||| (mf 0)) ||| (mf 1)) ||| (mf 2)), vi N, vi (3 : Int32), vi (3 : Int32), vi (mf 2)] [(.ref S'_9)])) _
      refine X26.arraylength hx (by rw [e26]; exact Ar27.1) (State.isArrayOf_alike hZ.alike Ar27.2.1) (g := (mkF m 97 #[vr a1, vr a2, vi ((((0 : Int32) ||| (mf 0)) ||| (mf 1)) ||| (mf 2)), vi N, vi (3 : Int32), vi (3 : Int32), vi (mf 2)] [(.ref S'_9)])) rfl rfl (hb hby d5_97) _ ?_
      rw [le27]
      refine XS.iconst X26.here hx rfl (hb hby d5_98) ?_
      refine XS.isub X26.here hx rfl (hb hby d5_99) rfl ?_
      refine XS.istore X26.here hx rfl (hb hby d5_100) rfl (l' := #[vr a1, vr a2, vi ((((0 : Int32) ||| (mf 0)) ||| (mf 1)) ||| (mf 2)), vi N, vi (31 : Int32), vi (3 : Int32), vi (mf 2)]) rfl ?_
      refine XS.aloadN X26.here hx rfl (hb hby d5_102) rfl rfl ?_
      show Steps p.tables e below (T26.setTop (mkF m 103 #[vr a1, vr a2, vi ((((0 : Int32) ||| (mf 0)) ||| (mf 1)) ||| (mf 2)), vi N, vi (31 : Int32), vi (3 : Int32), vi (mf 2)] [(.ref a1)])) _
      refine st30 _ ?_
      refine XS.iconst X30.here hx rfl (hb hby d5_106) ?_
      refine XS.aloadN X30.here hx rfl (hb hby d5_107) rfl rfl ?_
      refine st32 _ ?_
      refine st33 _ ?_
      refine XS.iload X33.here hx rfl (hb hby d5_114) rfl ?_
      show Steps p.tables e below (T33.setTop (mkF m 116 #[vr a1, vr a2, vi ((((0 : Int32) ||| (mf 0)) ||| (mf 1)) ||| (mf 2)), vi N, vi (31 : Int32), vi (3 : Int32), vi (mf 2)] [(.int (31 : Int32)), (.int (own_hash (own_W N) (fr24 0) (fr24 1)))])) _
      refine XS.iand X33.here hx rfl (hb hby d5_116) rfl ?_
      exact k
    refine GoalS.lift (B := (T33.setTop (mkF m 117 #[vr a1, vr a2, vi ((((0 : Int32) ||| (mf 0)) ||| (mf 1)) ||| (mf 2)), vi N, vi (31 : Int32), vi (3 : Int32), vi (mf 2)] [(.int (own_sl N (mf 0) (mf 1) (mf 2)))]))) (fun t k => by rw [own_hpk hpr]; exact k) ?_
    refine GoalS.lift (B := (T33.setTop (mkF m 119 #[vr a1, vr a2, vi ((((0 : Int32) ||| (mf 0)) ||| (mf 1)) ||| (mf 2)), vi N, vi (31 : Int32), vi (own_sl N (mf 0) (mf 1) (mf 2)), vi (mf 2)] []))) (fun t k => ?_) ?_
    · show Steps p.tables e below (T33.setTop (mkF m 117 #[vr a1, vr a2, vi ((((0 : Int32) ||| (mf 0)) ||| (mf 1)) ||| (mf 2)), vi N, vi (31 : Int32), vi (3 : Int32), vi (mf 2)] [(.int (own_sl N (mf 0) (mf 1) (mf 2)))])) _
      refine XS.istore X33.here hx rfl (hb hby d5_117) rfl (l' := #[vr a1, vr a2, vi ((((0 : Int32) ||| (mf 0)) ||| (mf 1)) ||| (mf 2)), vi N, vi (31 : Int32), vi (own_sl N (mf 0) (mf 1) (mf 2)), vi (mf 2)]) rfl ?_
      exact k
    by_cases hf34 : (own_sl N x0 x1 x2) = (own_sl N (mf 0) (mf 1) (mf 2))
    · obtain ⟨T35, X35, e35, st35⟩ := getF X33 hx hZ hown (host := "") (Or.inl (hw _ (List.mem_of_getElem? (i := 29) rfl))) Via.refl eq33 f25 (g := (mkF m 120 #[vr a1, vr a2, vi ((((0 : Int32) ||| (mf 0)) ||| (mf 1)) ||| (mf 2)), vi N, vi (31 : Int32), vi (own_sl N (mf 0) (mf 1) (mf 2)), vi (mf 2)] [(.ref a1)])) rfl rfl (hb hby d5_120)
      obtain ⟨cl36, Ar36, kc36, sz36, -, hv36⟩ := id f28
      have hin36 : ¬ ((own_sl N (mf 0) (mf 1) (mf 2)) < 0 ∨ cl36.slots.size ≤ ((own_sl N (mf 0) (mf 1) (mf 2))).toNatClampNeg) := AV.inb sz36 (own_slin (own_slr N (mf 0) (mf 1) (mf 2)))
      have hat36 : cl36.slots[((own_sl N (mf 0) (mf 1) (mf 2))).toNatClampNeg]? = some (.int (1 : Int32)) := (hv36 _ (AV.inx (own_slin (own_slr N (mf 0) (mf 1) (mf 2))))).trans (congrArg some (congrArg Value.int (own_upy hf34)))
      obtain ⟨T37, X37, e37, st37⟩ := getF X35 hx hZ hown (host := "") (Or.inl (hw _ (List.mem_of_getElem? (i := 29) rfl))) Via.refl e35 f25 (g := (mkF m 130 #[vr a1, vr a2, vi ((((0 : Int32) ||| (mf 0)) ||| (mf 1)) ||| (mf 2)), vi N, vi (31 : Int32), vi (own_sl N (mf 0) (mf 1) (mf 2)), vi (mf 2)] [(.ref a1)])) rfl rfl (hb hby d5_130)
      obtain ⟨cl38, Ar38, kc38, sz38, -, hv38⟩ := id f28
      have hin38 : ¬ ((own_sl N (mf 0) (mf 1) (mf 2)) < 0 ∨ cl38.slots.size ≤ ((own_sl N (mf 0) (mf 1) (mf 2))).toNatClampNeg) := AV.inb sz38 (own_slin (own_slr N (mf 0) (mf 1) (mf 2)))
      have hat38 : cl38.slots[((own_sl N (mf 0) (mf 1) (mf 2))).toNatClampNeg]? = some (.int (1 : Int32)) := (hv38 _ (AV.inx (own_slin (own_slr N (mf 0) (mf 1) (mf 2))))).trans (congrArg some (congrArg Value.int (own_upy hf34)))
      refine GoalS.lift (B := (T37.setTop (mkF m 140 #[vr a1, vr a2, vi ((((0 : Int32) ||| (mf 0)) ||| (mf 1)) ||| (mf 2)), vi N, vi (31 : Int32), vi (own_sl N (mf 0) (mf 1) (mf 2)), vi (0 : Int32)] []))) (fun t k => ?_) ?_
      · show Steps p.tables e below (T33.setTop (mkF m 119 #[vr a1, vr a2, vi ((((0 : Int32) ||| (mf 0)) ||| (mf 1)) ||| (mf 2)), vi N, vi (31 : Int32), vi (own_sl N (mf 0) (mf 1) (mf 2)), vi (mf 2)] [])) _
        refine XS.aloadN X33.here hx rfl (hb hby d5_119) rfl rfl ?_
        refine st35 _ ?_
        refine XS.iload X35.here hx rfl (hb hby d5_123) rfl ?_
        refine X35.iaload hx (j := (own_sl N (mf 0) (mf 1) (mf 2))) (v := (.int (1 : Int32))) (by rw [e35]; exact Ar36.1) (State.isArrayOf_alike hZ.alike Ar36.2.1) Ar36.2.2 hin36 hat36 (g := (mkF m 125 #[vr a1, vr a2, vi ((((0 : Int32) ||| (mf 0)) ||| (mf 1)) ||| (mf 2)), vi N, vi (31 : Int32), vi (own_sl N (mf 0) (mf 1) (mf 2)), vi (mf 2)] [(.int (own_sl N (mf 0) (mf 1) (mf 2))), (.ref S'_9)])) rfl rfl (hb hby d5_125) _ ?_
        refine XS.ifNo X35.here hx rfl (hb hby d5_126) rfl ((if0 _ _).trans (feq (by decide : ¬ ((1 : Int32) = (0 : Int32)))).1) ?_
        refine XS.aloadN X35.here hx rfl (hb hby d5_129) rfl rfl ?_
        show Steps p.tables e below (T35.setTop (mkF m 130 #[vr a1, vr a2, vi ((((0 : Int32) ||| (mf 0)) ||| (mf 1)) ||| (mf 2)), vi N, vi (31 : Int32), vi (own_sl N (mf 0) (mf 1) (mf 2)), vi (mf 2)] [(.ref a1)])) _
        refine st37 _ ?_
        refine XS.iload X37.here hx rfl (hb hby d5_133) rfl ?_
        refine X37.iaload hx (j := (own_sl N (mf 0) (mf 1) (mf 2))) (v := (.int (1 : Int32))) (by rw [e37]; exact Ar38.1) (State.isArrayOf_alike hZ.alike Ar38.2.1) Ar38.2.2 hin38 hat38 (g := (mkF m 135 #[vr a1, vr a2, vi ((((0 : Int32) ||| (mf 0)) ||| (mf 1)) ||| (mf 2)), vi N, vi (31 : Int32), vi (own_sl N (mf 0) (mf 1) (mf 2)), vi (mf 2)] [(.int (own_sl N (mf 0) (mf 1) (mf 2))), (.ref S'_9)])) rfl rfl (hb hby d5_135) _ ?_
        refine XS.iconst X37.here hx rfl (hb hby d5_136) ?_
        refine XS.isub X37.here hx rfl (hb hby d5_137) rfl ?_
        refine XS.istore X37.here hx rfl (hb hby d5_138) rfl (l' := #[vr a1, vr a2, vi ((((0 : Int32) ||| (mf 0)) ||| (mf 1)) ||| (mf 2)), vi N, vi (31 : Int32), vi (own_sl N (mf 0) (mf 1) (mf 2)), vi (0 : Int32)]) rfl ?_
        show Steps p.tables e below (T37.setTop (mkF m 140 #[vr a1, vr a2, vi ((((0 : Int32) ||| (mf 0)) ||| (mf 1)) ||| (mf 2)), vi N, vi (31 : Int32), vi (own_sl N (mf 0) (mf 1) (mf 2)), vi (0 : Int32)] [])) _
        exact k
      by_cases hf39 : own_same N fP'_9 fr24
      · have f41 : Fld Z T20.heap a1 "com/example/always_over_paths/alwaysoverpaths/explicit/MarkingTable" "bits" "I" (.int N) := (p9_9.keep p20_0 (ninS ne_a1_R'_9 nin0))
        have f42 : Fld Z T20.heap a1 "com/example/always_over_paths/alwaysoverpaths/explicit/MarkingTable" "packed" "[J" (.ref P'_9) := (p9_11.keep p20_0 (ninS ne_a1_R'_9 nin0))
        have f43 : AV Z T20.heap P'_9 kP'_9 .long (16 * (own_W N).toNatClampNeg) (fun i => Value.long (fP'_9 i)) := (p9_15.keep p20_0 (ninS p9_4 nin0))
        have f44 : Exa Z T20.heap a1 "com/example/always_over_paths/alwaysoverpaths/explicit/MarkingTable" := (p9_7.keep p20_0)
        obtain ⟨cq40, q40, q40'⟩ := f44.cell
        obtain ⟨_, _, ⟨T40, L40, k40, n40⟩, -, X40, ⟨Lc40, hQ40, l40, y40, z40⟩, st40⟩ := X37.privateBack hx (y := (⟨"com/example/always_over_paths/alwaysoverpaths/explicit/MarkingTable", "holdsProbe", "(I)Z"⟩ : MethodName)) hown (mvT hZ (hw _ (List.mem_of_getElem? (i := 81) rfl))) (mvT hZ (hw _ (List.mem_of_getElem? (i := 82) rfl))) (own_selp (y := (⟨"com/example/always_over_paths/alwaysoverpaths/explicit/MarkingTable", "holdsProbe", "(I)Z"⟩ : MethodName)) (mvT hZ (hw _ (List.mem_of_getElem? (i := 3) rfl))) (mvP hZ (hw _ (List.mem_of_getElem? (i := 83) rfl))) (mvT hZ (hw _ (List.mem_of_getElem? (i := 82) rfl))) (by decide)) (Cond.privateMethod_at (mvP hZ (hw _ (List.mem_of_getElem? (i := 83) rfl)) (args := #[]))) (mvT hZ (hw _ (List.mem_of_getElem? (i := 84) rfl))) (by decide) (backOf (W := 0) (rmhp1 l Z a0 hw [] a1 N P'_9 R'_9 kP'_9 kR'_9 fP'_9 fr24 T20.heap n0 z22 f41 f31 f42 f29 f43 V24 hf39) hZ (hw _ (List.mem_of_getElem? (i := 84) rfl)) (hw _ (List.mem_of_getElem? (i := 4) rfl)) (by decide) (by decide)) (g := (mkF m 143 #[vr a1, vr a2, vi ((((0 : Int32) ||| (mf 0)) ||| (mf 1)) ||| (mf 2)), vi N, vi (31 : Int32), vi (own_sl N (mf 0) (mf 1) (mf 2)), vi (0 : Int32)] [(.int (0 : Int32)), (.ref a1)])) rfl (by rw [hml]; rfl) (Steps.refl _) (a := a1) (by rw [e37]; exact q40) q40' (argsL := [(.int (0 : Int32))]) (rest := []) (lenOf pd_8 rfl) rfl (by show 2 * 0 + _ ≤ _; exact Nat.le_of_eq rfl) (hb hby d5_143) (fun _ _ => ⟨rfl, e37, (by decide : 4 + 0 ≤ _), (by decide : 69 + 0 ≤ _)⟩)
        dsimp only [Pt.U, Pt.locs, Pt.cells, Pt.slots] at X40 l40 y40 z40 st40 hQ40
        subst y40 z40
        obtain ⟨rfl, N40q, eq40⟩ := hQ40
        have N40 : Fr n0 L40 := by rw [l40]; exact Fr.app N33 N40q
        obtain ⟨fs, hr, hrun, hended, hW, hsame⟩ := X40.leave (v := some (.int (0 : Int32))) (fun h => by rw [Bd.returns] at h; cases h)
        refine ⟨_, _, ?_, hrun, hended, _, _, rfl, ?_, ⟨_, rfl⟩, hW, hsame.mono (by decide) (by decide)⟩
        · show Steps p.tables e below (T37.setTop (mkF m 140 #[vr a1, vr a2, vi ((((0 : Int32) ||| (mf 0)) ||| (mf 1)) ||| (mf 2)), vi N, vi (31 : Int32), vi (own_sl N (mf 0) (mf 1) (mf 2)), vi (0 : Int32)] [])) _
          refine XS.aloadN X37.here hx rfl (hb hby d5_140) rfl rfl ?_
          refine XS.iload X37.here hx rfl (hb hby d5_141) rfl ?_
          refine st40.trans ?_
          refine XS.ifNo X40.here hx rfl (hb hby d5_146) rfl ((if0 _ _).trans (feq (by decide : ¬ ((1 : Int32) = (0 : Int32)))).1) ?_
          refine XS.iload X40.here hx rfl (hb hby d5_149) rfl ?_
          exact retI X40 hx Bd.returns (hb hby d5_151) hr
        · show Qad1 Z a1 a2 B P R S kP kR kS fP fR kM mf x0 x1 x2 h0 n0 _ T40.heap _
          rw [eq40]
          exact ⟨P'_9, kP'_9, fP'_9, N, (congrArg (fun z => some (Value.int z)) (Eq.symm (if_pos ((own_pweq hBq hxq hpr bxq bm).mp hf39)))), N40, K23, (Or.inr sz_P'_9), f44, f41, f31, f42, f43, hBq, bxq, bm, hxq, (fun q => absurd ((own_pweq hBq hxq hpr bxq bm).mp hf39) q)⟩
      · have f46 : Fld Z T20.heap a1 "com/example/always_over_paths/alwaysoverpaths/explicit/MarkingTable" "bits" "I" (.int N) := (p9_9.keep p20_0 (ninS ne_a1_R'_9 nin0))
        have f47 : Fld Z T20.heap a1 "com/example/always_over_paths/alwaysoverpaths/explicit/MarkingTable" "packed" "[J" (.ref P'_9) := (p9_11.keep p20_0 (ninS ne_a1_R'_9 nin0))
        have f48 : AV Z T20.heap P'_9 kP'_9 .long (16 * (own_W N).toNatClampNeg) (fun i => Value.long (fP'_9 i)) := (p9_15.keep p20_0 (ninS p9_4 nin0))
        have f49 : Exa Z T20.heap a1 "com/example/always_over_paths/alwaysoverpaths/explicit/MarkingTable" := (p9_7.keep p20_0)
        obtain ⟨cq45, q45, q45'⟩ := f49.cell
        obtain ⟨_, _, ⟨T45, L45, k45, n45⟩, -, X45, ⟨Lc45, hQ45, l45, y45, z45⟩, st45⟩ := X37.privateBack hx (y := (⟨"com/example/always_over_paths/alwaysoverpaths/explicit/MarkingTable", "holdsProbe", "(I)Z"⟩ : MethodName)) hown (mvT hZ (hw _ (List.mem_of_getElem? (i := 81) rfl))) (mvT hZ (hw _ (List.mem_of_getElem? (i := 82) rfl))) (own_selp (y := (⟨"com/example/always_over_paths/alwaysoverpaths/explicit/MarkingTable", "holdsProbe", "(I)Z"⟩ : MethodName)) (mvT hZ (hw _ (List.mem_of_getElem? (i := 3) rfl))) (mvP hZ (hw _ (List.mem_of_getElem? (i := 83) rfl))) (mvT hZ (hw _ (List.mem_of_getElem? (i := 82) rfl))) (by decide)) (Cond.privateMethod_at (mvP hZ (hw _ (List.mem_of_getElem? (i := 83) rfl)) (args := #[]))) (mvT hZ (hw _ (List.mem_of_getElem? (i := 84) rfl))) (by decide) (backOf (W := 0) (rmhp0 l Z a0 hw [] a1 N P'_9 R'_9 kP'_9 kR'_9 fP'_9 fr24 T20.heap n0 z22 f46 f31 f47 f29 f48 V24 hf39) hZ (hw _ (List.mem_of_getElem? (i := 84) rfl)) (hw _ (List.mem_of_getElem? (i := 4) rfl)) (by decide) (by decide)) (g := (mkF m 143 #[vr a1, vr a2, vi ((((0 : Int32) ||| (mf 0)) ||| (mf 1)) ||| (mf 2)), vi N, vi (31 : Int32), vi (own_sl N (mf 0) (mf 1) (mf 2)), vi (0 : Int32)] [(.int (0 : Int32)), (.ref a1)])) rfl (by rw [hml]; rfl) (Steps.refl _) (a := a1) (by rw [e37]; exact q45) q45' (argsL := [(.int (0 : Int32))]) (rest := []) (lenOf pd_8 rfl) rfl (by show 2 * 0 + _ ≤ _; exact Nat.le_of_eq rfl) (hb hby d5_143) (fun _ _ => ⟨rfl, e37, (by decide : 4 + 0 ≤ _), (by decide : 69 + 0 ≤ _)⟩)
        dsimp only [Pt.U, Pt.locs, Pt.cells, Pt.slots] at X45 l45 y45 z45 st45 hQ45
        subst y45 z45
        obtain ⟨rfl, N45q, eq45⟩ := hQ45
        have N45 : Fr n0 L45 := by rw [l45]; exact Fr.app N33 N45q
        obtain ⟨T50, X50, e50, st50⟩ := getF X45 hx hZ hown (host := "") (Or.inl (hw _ (List.mem_of_getElem? (i := 29) rfl))) Via.refl eq45 f25 (g := (mkF m 120 #[vr a1, vr a2, vi ((((0 : Int32) ||| (mf 0)) ||| (mf 1)) ||| (mf 2)), vi N, vi (31 : Int32), vi (((own_sl N (mf 0) (mf 1) (mf 2)) + (1 : Int32)) &&& (31 : Int32)), vi (0 : Int32)] [(.ref a1)])) rfl rfl (hb hby d5_120)
        obtain ⟨cl51, Ar51, kc51, sz51, -, hv51⟩ := id f28
        have hin51 : ¬ ((((own_sl N (mf 0) (mf 1) (mf 2)) + (1 : Int32)) &&& (31 : Int32)) < 0 ∨ cl51.slots.size ≤ ((((own_sl N (mf 0) (mf 1) (mf 2)) + (1 : Int32)) &&& (31 : Int32))).toNatClampNeg) := AV.inb sz51 (own_slin (own_nxt (own_slr N (mf 0) (mf 1) (mf 2))).1)
        have hat51 : cl51.slots[((((own_sl N (mf 0) (mf 1) (mf 2)) + (1 : Int32)) &&& (31 : Int32))).toNatClampNeg]? = some (.int (0 : Int32)) := (hv51 _ (AV.inx (own_slin (own_nxt (own_slr N (mf 0) (mf 1) (mf 2))).1))).trans (congrArg some (congrArg Value.int (own_upz (own_slr N (mf 0) (mf 1) (mf 2)) hf34)))
        have f53 : Fld Z T20.heap a1 "com/example/always_over_paths/alwaysoverpaths/explicit/MarkingTable" "size" "I" (.int (1 : Int32)) := (p9_13.keep p20_0 (ninS ne_a1_R'_9 nin0))
        obtain ⟨cq52, q52, q52'⟩ := f49.cell
        obtain ⟨_, _, ⟨T52, L52, k52, n52⟩, -, X52, ⟨Lc52, hQ52, l52, y52, z52⟩, st52⟩ := X50.privateBack hx (y := (⟨"com/example/always_over_paths/alwaysoverpaths/explicit/MarkingTable", "ensureRoomForOneMore", "()V"⟩ : MethodName)) hown (mvT hZ (hw _ (List.mem_of_getElem? (i := 65) rfl))) (mvT hZ (hw _ (List.mem_of_getElem? (i := 66) rfl))) (own_selp (y := (⟨"com/example/always_over_paths/alwaysoverpaths/explicit/MarkingTable", "ensureRoomForOneMore", "()V"⟩ : MethodName)) (mvT hZ (hw _ (List.mem_of_getElem? (i := 3) rfl))) (mvP hZ (hw _ (List.mem_of_getElem? (i := 67) rfl))) (mvT hZ (hw _ (List.mem_of_getElem? (i := 66) rfl))) (by decide)) (Cond.privateMethod_at (mvP hZ (hw _ (List.mem_of_getElem? (i := 67) rfl)) (args := #[]))) (mvT hZ (hw _ (List.mem_of_getElem? (i := 68) rfl))) (by decide) (backOf (W := 0) (rmer l Z a0 hw [] a1 N (1 : Int32) P'_9 kP'_9 fP'_9 T20.heap n0 z22 f46 f53 f31 f47 f48 (Or.inr rfl)) hZ (hw _ (List.mem_of_getElem? (i := 68) rfl)) (hw _ (List.mem_of_getElem? (i := 4) rfl)) (by decide) (by decide)) (g := (mkF m 165 #[vr a1, vr a2, vi ((((0 : Int32) ||| (mf 0)) ||| (mf 1)) ||| (mf 2)), vi N, vi (31 : Int32), vi (((own_sl N (mf 0) (mf 1) (mf 2)) + (1 : Int32)) &&& (31 : Int32)), vi (0 : Int32)] [(.ref a1)])) rfl (by rw [hml]; rfl) (Steps.refl _) (a := a1) (by rw [e50]; exact q52) q52' (argsL := []) (rest := []) (lenOf pd_7 rfl) rfl (by show 2 * 0 + _ ≤ _; exact Nat.le_of_eq rfl) (hb hby d5_165) (fun _ _ => ⟨rfl, e50, (by decide : 4 + 0 ≤ _), (by decide : 69 + 0 ≤ _)⟩)
        dsimp only [Pt.U, Pt.locs, Pt.cells, Pt.slots] at X52 l52 y52 z52 st52 hQ52
        subst y52 z52
        obtain ⟨rfl, N52q, eq52⟩ := hQ52
        have N52 : Fr n0 L52 := by rw [l52]; exact Fr.app N45 N52q
        obtain ⟨T54, X54, e54, st54⟩ := getF X52 hx hZ hown (host := "") (Or.inl (hw _ (List.mem_of_getElem? (i := 27) rfl))) Via.refl eq52 f29 (g := (mkF m 169 #[vr a1, vr a2, vi ((((0 : Int32) ||| (mf 0)) ||| (mf 1)) ||| (mf 2)), vi N, vi (31 : Int32), vi (((own_sl N (mf 0) (mf 1) (mf 2)) + (1 : Int32)) &&& (31 : Int32)), vi (0 : Int32)] [(.ref a1)])) rfl rfl (hb hby d5_169)
        obtain ⟨T55, X55, e55, st55⟩ := getF X54 hx hZ hown (host := "") (Or.inl (hw _ (List.mem_of_getElem? (i := 25) rfl))) Via.refl e54 f47 (g := (mkF m 174 #[vr a1, vr a2, vi ((((0 : Int32) ||| (mf 0)) ||| (mf 1)) ||| (mf 2)), vi N, vi (31 : Int32), vi (((own_sl N (mf 0) (mf 1) (mf 2)) + (1 : Int32)) &&& (31 : Int32)), vi (0 : Int32)] [(.ref a1), (.int (0 : Int32)), (.ref R'_9)])) rfl rfl (hb hby d5_174)
        obtain ⟨T56, X56, e56, st56⟩ := getF X55 hx hZ hown (host := "") (Or.inl (hw _ (List.mem_of_getElem? (i := 46) rfl))) Via.refl e55 f53 (g := (mkF m 178 #[vr a1, vr a2, vi ((((0 : Int32) ||| (mf 0)) ||| (mf 1)) ||| (mf 2)), vi N, vi (31 : Int32), vi (((own_sl N (mf 0) (mf 1) (mf 2)) + (1 : Int32)) &&& (31 : Int32)), vi (0 : Int32)] [(.ref a1), (.ref P'_9), (.int (0 : Int32)), (.ref R'_9)])) rfl rfl (hb hby d5_178)
        obtain ⟨T57, X57, e57, st57⟩ := getF X56 hx hZ hown (host := "") (Or.inl (hw _ (List.mem_of_getElem? (i := 22) rfl))) Via.refl e56 f31 (g := (mkF m 182 #[vr a1, vr a2, vi ((((0 : Int32) ||| (mf 0)) ||| (mf 1)) ||| (mf 2)), vi N, vi (31 : Int32), vi (((own_sl N (mf 0) (mf 1) (mf 2)) + (1 : Int32)) &&& (31 : Int32)), vi (0 : Int32)] [(.ref a1), (.int (1 : Int32)), (.ref P'_9), (.int (0 : Int32)), (.ref R'_9)])) rfl rfl (hb hby d5_182)
        refine GoalS.lift (B := (T57.setTop (mkF m 186 #[vr a1, vr a2, vi ((((0 : Int32) ||| (mf 0)) ||| (mf 1)) ||| (mf 2)), vi N, vi (31 : Int32), vi (((own_sl N (mf 0) (mf 1) (mf 2)) + (1 : Int32)) &&& (31 : Int32)), vi (0 : Int32)] [(.int ((1 : Int32) * (own_W N))), (.ref P'_9), (.int (0 : Int32)), (.ref R'_9)]))) (fun t k => ?_) ?_
        · show Steps p.tables e below (T37.setTop (mkF m 140 #[vr a1, vr a2, vi ((((0 : Int32) ||| (mf 0)) ||| (mf 1)) ||| (mf 2)), vi N, vi (31 : Int32), vi (own_sl N (mf 0) (mf 1) (mf 2)), vi (0 : Int32)] [])) _
          refine XS.aloadN X37.here hx rfl (hb hby d5_140) rfl rfl ?_
          refine XS.iload X37.here hx rfl (hb hby d5_141) rfl ?_
          refine st45.trans ?_
          refine XS.ifYes X45.here hx rfl (pc0 := 146) (pc' := 152) rfl (hb hby d5_146) rfl ((if0 _ _).trans (teq (by decide : (0 : Int32) = (0 : Int32))).1) (by decide) (by decide) ?_
          refine XS.iload X45.here hx rfl (hb hby d5_152) rfl ?_
          refine XS.iconst X45.here hx rfl (hb hby d5_154) ?_
          show Steps p.tables e below (T45.setTop (mkF m 155 #[vr a1, vr a2, vi ((((0 : Int32) ||| (mf 0)) ||| (mf 1)) ||| (mf 2)), vi N, vi (31 : Int32), vi (own_sl N (mf 0) (mf 1) (mf 2)), vi (0 : Int32)] [(.int (1 : Int32)), (.int (own_sl N (mf 0) (mf 1) (mf 2)))])) _
          refine XS.iadd X45.here hx rfl (hb hby d5_155) rfl ?_
          refine XS.iload X45.here hx rfl (hb hby d5_156) rfl ?_
          refine XS.iand X45.here hx rfl (hb hby d5_158) rfl ?_
          refine XS.istore X45.here hx rfl (hb hby d5_159) rfl (l' := #[vr a1, vr a2, vi ((((0 : Int32) ||| (mf 0)) ||| (mf 1)) ||| (mf 2)), vi N, vi (31 : Int32), vi (((own_sl N (mf 0) (mf 1) (mf 2)) + (1 : Int32)) &&& (31 : Int32)), vi (0 : Int32)]) rfl ?_
          refine XS.goto X45.here hx rfl (pc0 := 161) (pc' := 119) rfl (hb hby d5_161) (by decide) (by decide) ?_
          refine XS.aloadN X45.here hx rfl (hb hby d5_119) rfl rfl ?_
          show Steps p.tables e below (T45.setTop (mkF m 120 #[vr a1, vr a2, vi ((((0 : Int32) ||| (mf 0)) ||| (mf 1)) ||| (mf 2)), vi N, vi (31 : Int32), vi (((own_sl N (mf 0) (mf 1) (mf 2)) + (1 : Int32)) &&& (31 : Int32)), vi (0 : Int32)] [(.ref a1)])) _
          refine st50 _ ?_
          refine XS.iload X50.here hx rfl (hb hby d5_123) rfl ?_
          refine X50.iaload hx (j := (((own_sl N (mf 0) (mf 1) (mf 2)) + (1 : Int32)) &&& (31 : Int32))) (v := (.int (0 : Int32))) (by rw [e50]; exact Ar51.1) (State.isArrayOf_alike hZ.alike Ar51.2.1) Ar51.2.2 hin51 hat51 (g := (mkF m 125 #[vr a1, vr a2, vi ((((0 : Int32) ||| (mf 0)) ||| (mf 1)) ||| (mf 2)), vi N, vi (31 : Int32), vi (((own_sl N (mf 0) (mf 1) (mf 2)) + (1 : Int32)) &&& (31 : Int32)), vi (0 : Int32)] [(.int (((own_sl N (mf 0) (mf 1) (mf 2)) + (1 : Int32)) &&& (31 : Int32))), (.ref S'_9)])) rfl rfl (hb hby d5_125) _ ?_
          refine XS.ifYes X50.here hx rfl (pc0 := 126) (pc' := 164) rfl (hb hby d5_126) rfl ((if0 _ _).trans (teq (by decide : (0 : Int32) = (0 : Int32))).1) (by decide) (by decide) ?_
          refine XS.aloadN X50.here hx rfl (hb hby d5_164) rfl rfl ?_
          refine st52.trans ?_
          show Steps p.tables e below (T52.setTop (mkF m 168 #[vr a1, vr a2, vi ((((0 : Int32) ||| (mf 0)) ||| (mf 1)) ||| (mf 2)), vi N, vi (31 : Int32), vi (((own_sl N (mf 0) (mf 1) (mf 2)) + (1 : Int32)) &&& (31 : Int32)), vi (0 : Int32)] [])) _
          refine XS.aloadN X52.here hx rfl (hb hby d5_168) rfl rfl ?_
          refine st54 _ ?_
          refine XS.iconst X54.here hx rfl (hb hby d5_172) ?_
          refine XS.aloadN X54.here hx rfl (hb hby d5_173) rfl rfl ?_
          refine st55 _ ?_
          refine XS.aloadN X55.here hx rfl (hb hby d5_177) rfl rfl ?_
          show Steps p.tables e below (T55.setTop (mkF m 178 #[vr a1, vr a2, vi ((((0 : Int32) ||| (mf 0)) ||| (mf 1)) ||| (mf 2)), vi N, vi (31 : Int32), vi (((own_sl N (mf 0) (mf 1) (mf 2)) + (1 : Int32)) &&& (31 : Int32)), vi (0 : Int32)] [(.ref a1), (.ref P'_9), (.int (0 : Int32)), (.ref R'_9)])) _
          refine st56 _ ?_
          refine XS.aloadN X56.here hx rfl (hb hby d5_181) rfl rfl ?_
          refine st57 _ ?_
          refine XS.imul X57.here hx rfl (hb hby d5_185) rfl ?_
          exact k
        refine GoalS.lift (B := (T57.setTop (mkF m 186 #[vr a1, vr a2, vi ((((0 : Int32) ||| (mf 0)) ||| (mf 1)) ||| (mf 2)), vi N, vi (31 : Int32), vi (((own_sl N (mf 0) (mf 1) (mf 2)) + (1 : Int32)) &&& (31 : Int32)), vi (0 : Int32)] [(.int (own_W N)), (.ref P'_9), (.int (0 : Int32)), (.ref R'_9)]))) (fun t k => by rw [Int32.one_mul]; exact k) ?_
        obtain ⟨T58, X58, e58, st58⟩ := getF X57 hx hZ hown (host := "") (Or.inl (hw _ (List.mem_of_getElem? (i := 22) rfl))) Via.refl e57 f31 (g := (mkF m 187 #[vr a1, vr a2, vi ((((0 : Int32) ||| (mf 0)) ||| (mf 1)) ||| (mf 2)), vi N, vi (31 : Int32), vi (((own_sl N (mf 0) (mf 1) (mf 2)) + (1 : Int32)) &&& (31 : Int32)), vi (0 : Int32)] [(.ref a1), (.int (own_W N)), (.ref P'_9), (.int (0 : Int32)), (.ref R'_9)])) rfl rfl (hb hby d5_187)
        have wge59 := own_Wge N
        obtain ⟨T59, h59, L59, X59, e59, N59, K59, A59, st59⟩ := own_cp X58 hx hZ hown (hw _ (List.mem_of_getElem? (i := 69) rfl)) (hw _ (List.mem_of_getElem? (i := 72) rfl)) (hw _ (List.mem_of_getElem? (i := 70) rfl)) (hw _ (List.mem_of_getElem? (i := 71) rfl)) e58 (d := (own_W N).toNatClampNeg) (w := (own_W N).toNatClampNeg) (dp := (own_W N)) (nn := (own_W N)) V24 f48 (own_Wneg N) (own_Wneg N) rfl rfl (Nat.le_refl _) (by omega) N52 g_P'_9 (fr := (mkF m 190 #[vr a1, vr a2, vi ((((0 : Int32) ||| (mf 0)) ||| (mf 1)) ||| (mf 2)), vi N, vi (31 : Int32), vi (((own_sl N (mf 0) (mf 1) (mf 2)) + (1 : Int32)) &&& (31 : Int32)), vi (0 : Int32)] [(.int (own_W N)), (.int (own_W N)), (.ref P'_9), (.int (0 : Int32)), (.ref R'_9)])) rfl (by rw [hml]; rfl) (rest := []) rfl (hb hby d5_190) (by decide) (W := 0) (by show 2 * 0 + _ ≤ _; exact Nat.le_of_eq rfl) (by decide)
        have z60 : n0 ≤ h59.size := Nat.le_trans z22 K59.1
        have K61 : Keep h0 h59 [a1, P, R, S] := K23.trans K59 (allS (Or.inr sz_P'_9) all0)
        obtain ⟨fp62, hfp62⟩ : ∃ z, z = (own_cpf fr24 fP'_9 (own_W N).toNatClampNeg (own_W N).toNatClampNeg) := ⟨_, rfl⟩
        have V62 : AV Z h59 P'_9 kP'_9 .long (16 * (own_W N).toNatClampNeg) (fun i => Value.long (fp62 i)) := by rw [hfp62]; exact A59
        have hpm : own_pw N (mf 0) (mf 1) (mf 2) fp62 (own_W N).toNatClampNeg := by rw [hfp62]; exact own_cp1 hpr
        have hpx : own_pw N x0 x1 x2 fp62 0 := by rw [hfp62]; exact own_cp2 hxq
        have f63 : Fld Z h59 a1 "com/example/always_over_paths/alwaysoverpaths/explicit/MarkingTable" "slots" "[I" (.ref S'_9) := (f25.keep K59 (ninS ne_a1_P'_9 nin0))
        obtain ⟨T64, X64, e64, st64⟩ := getF X59 hx hZ hown (host := "") (Or.inl (hw _ (List.mem_of_getElem? (i := 29) rfl))) Via.refl e59 f63 (g := (mkF m 194 #[vr a1, vr a2, vi ((((0 : Int32) ||| (mf 0)) ||| (mf 1)) ||| (mf 2)), vi N, vi (31 : Int32), vi (((own_sl N (mf 0) (mf 1) (mf 2)) + (1 : Int32)) &&& (31 : Int32)), vi (0 : Int32)] [(.ref a1)])) rfl rfl (hb hby d5_194)
        have f65 : Fld Z h59 a1 "com/example/always_over_paths/alwaysoverpaths/explicit/MarkingTable" "size" "I" (.int (1 : Int32)) := (f53.keep K59 (ninS ne_a1_P'_9 nin0))
        obtain ⟨T66, X66, e66, st66⟩ := getF X64 hx hZ hown (host := "") (Or.inl (hw _ (List.mem_of_getElem? (i := 46) rfl))) Via.refl e64 f65 (g := (mkF m 200 #[vr a1, vr a2, vi ((((0 : Int32) ||| (mf 0)) ||| (mf 1)) ||| (mf 2)), vi N, vi (31 : Int32), vi (((own_sl N (mf 0) (mf 1) (mf 2)) + (1 : Int32)) &&& (31 : Int32)), vi (0 : Int32)] [(.ref a1), (.int (((own_sl N (mf 0) (mf 1) (mf 2)) + (1 : Int32)) &&& (31 : Int32))), (.ref S'_9)])) rfl rfl (hb hby d5_200)
        have f68 : AV Z h59 S'_9 kS'_9 .int 32 (fun i => Value.int ((updI (fun _ => (0 : Int32)) (own_sl N x0 x1 x2).toNatClampNeg (1 : Int32)) i)) := (f28.keep K59 (ninS (Ne.symm p9_5) nin0))
        obtain ⟨cl67, Ar67, kc67, sz67, -, -⟩ := id f68
        have hin67 : ¬ ((((own_sl N (mf 0) (mf 1) (mf 2)) + (1 : Int32)) &&& (31 : Int32)) < 0 ∨ cl67.slots.size ≤ ((((own_sl N (mf 0) (mf 1) (mf 2)) + (1 : Int32)) &&& (31 : Int32))).toNatClampNeg) := AV.inb sz67 (own_slin (own_nxt (own_slr N (mf 0) (mf 1) (mf 2))).1)
        obtain ⟨T67, h67, X67, e67, W67, st67⟩ := stI X66 hx hZ e66 Ar67 (j := (((own_sl N (mf 0) (mf 1) (mf 2)) + (1 : Int32)) &&& (31 : Int32))) hin67 (g := (mkF m 205 #[vr a1, vr a2, vi ((((0 : Int32) ||| (mf 0)) ||| (mf 1)) ||| (mf 2)), vi N, vi (31 : Int32), vi (((own_sl N (mf 0) (mf 1) (mf 2)) + (1 : Int32)) &&& (31 : Int32)), vi (0 : Int32)] [(.int (2 : Int32)), (.int (((own_sl N (mf 0) (mf 1) (mf 2)) + (1 : Int32)) &&& (31 : Int32))), (.ref S'_9)])) rfl rfl (hb hby d5_205)
        have z69 : n0 ≤ h67.size := Nat.le_trans z60 (Keep.of_wr W67).1
        have K70 : Keep h0 h67 [a1, P, R, S] := K61.wr W67 (Or.inr sz_S'_9)
        have V67 : AV Z h67 S'_9 kS'_9 .int 32 (fun i => Value.int ((updI (updI (fun _ => (0 : Int32)) (own_sl N x0 x1 x2).toNatClampNeg (1 : Int32)) ((((own_sl N (mf 0) (mf 1) (mf 2)) + (1 : Int32)) &&& (31 : Int32))).toNatClampNeg (2 : Int32)) i)) := AV.putI f68 W67 (AV.inx (own_slin (own_nxt (own_slr N (mf 0) (mf 1) (mf 2))).1))
        have N67 := Fr.snoc X67 N59 g_S'_9
        have f71 : Fld Z h67 a1 "com/example/always_over_paths/alwaysoverpaths/explicit/MarkingTable" "size" "I" (.int (1 : Int32)) := (f65.other W67 (Or.inl ne_a1_S'_9))
        obtain ⟨T72, X72, e72, st72⟩ := getF X67 hx hZ hown (host := "") (Or.inl (hw _ (List.mem_of_getElem? (i := 46) rfl))) Via.refl e67 f71 (g := (mkF m 208 #[vr a1, vr a2, vi ((((0 : Int32) ||| (mf 0)) ||| (mf 1)) ||| (mf 2)), vi N, vi (31 : Int32), vi (((own_sl N (mf 0) (mf 1) (mf 2)) + (1 : Int32)) &&& (31 : Int32)), vi (0 : Int32)] [(.ref a1), (.ref a1)])) rfl rfl (hb hby d5_208)
        have f73 : Exa Z h67 a1 "com/example/always_over_paths/alwaysoverpaths/explicit/MarkingTable" := ((f49.keep K59).wr W67)
        obtain ⟨T74, h74, X74, e74, W74, st74⟩ := putF X72 hx hZ hown (host := "") (Or.inl (hw _ (List.mem_of_getElem? (i := 46) rfl))) Via.refl e72 f71 f73 (Or.inl (hw _ (List.mem_of_getElem? (i := 47) rfl))) (hw _ (List.mem_of_getElem? (i := 3) rfl)) (ty := .int) (by decide) rfl rfl (g := (mkF m 214 #[vr a1, vr a2, vi ((((0 : Int32) ||| (mf 0)) ||| (mf 1)) ||| (mf 2)), vi N, vi (31 : Int32), vi (((own_sl N (mf 0) (mf 1) (mf 2)) + (1 : Int32)) &&& (31 : Int32)), vi (0 : Int32)] [(.int (2 : Int32)), (.ref a1), (.int (1 : Int32))])) rfl rfl (hb hby d5_214)
        have z75 : n0 ≤ h74.size := Nat.le_trans z69 (Keep.of_wr W74).1
        have K76 : Keep h0 h74 [a1, P, R, S] := K70.wr W74 (Or.inl (List.mem_of_getElem? (i := 0) rfl))
        have Fw74 : Fld Z h74 a1 "com/example/always_over_paths/alwaysoverpaths/explicit/MarkingTable" "size" "I" (.int (2 : Int32)) := f71.same W74
        have N74 := Fr.snoc X74 N67 g_a1
        obtain ⟨fs, hr, hrun, hended, hW, hsame⟩ := X74.leave (v := some (.int (1 : Int32))) (fun h => by rw [Bd.returns] at h; cases h)
        refine ⟨_, _, ?_, hrun, hended, _, _, rfl, ?_, ⟨_, rfl⟩, hW, hsame.mono (by decide) (by decide)⟩
        · show Steps p.tables e below (T57.setTop (mkF m 186 #[vr a1, vr a2, vi ((((0 : Int32) ||| (mf 0)) ||| (mf 1)) ||| (mf 2)), vi N, vi (31 : Int32), vi (((own_sl N (mf 0) (mf 1) (mf 2)) + (1 : Int32)) &&& (31 : Int32)), vi (0 : Int32)] [(.int (own_W N)), (.ref P'_9), (.int (0 : Int32)), (.ref R'_9)])) _
          refine XS.aloadN X57.here hx rfl (hb hby d5_186) rfl rfl ?_
          refine st58 _ ?_
          refine st59 _ ?_
          refine XS.aloadN X59.here hx rfl (hb hby d5_193) rfl rfl ?_
          refine st64 _ ?_
          refine XS.iload X64.here hx rfl (hb hby d5_197) rfl ?_
          show Steps p.tables e below (T64.setTop (mkF m 199 #[vr a1, vr a2, vi ((((0 : Int32) ||| (mf 0)) ||| (mf 1)) ||| (mf 2)), vi N, vi (31 : Int32), vi (((own_sl N (mf 0) (mf 1) (mf 2)) + (1 : Int32)) &&& (31 : Int32)), vi (0 : Int32)] [(.int (((own_sl N (mf 0) (mf 1) (mf 2)) + (1 : Int32)) &&& (31 : Int32))), (.ref S'_9)])) _
          refine XS.aloadN X64.here hx rfl (hb hby d5_199) rfl rfl ?_
          refine st66 _ ?_
          refine XS.iconst X66.here hx rfl (hb hby d5_203) ?_
          refine XS.iadd X66.here hx rfl (hb hby d5_204) rfl ?_
          refine st67 _ ?_
          refine XS.aloadN X67.here hx rfl (hb hby d5_206) rfl rfl ?_
          show Steps p.tables e below (T67.setTop (mkF m 207 #[vr a1, vr a2, vi ((((0 : Int32) ||| (mf 0)) ||| (mf 1)) ||| (mf 2)), vi N, vi (31 : Int32), vi (((own_sl N (mf 0) (mf 1) (mf 2)) + (1 : Int32)) &&& (31 : Int32)), vi (0 : Int32)] [(.ref a1)])) _
          refine XS.dup X67.here hx rfl (hb hby d5_207) rfl rfl ?_
          refine st72 _ ?_
          refine XS.dupX1 X72.here hx rfl (hb hby d5_211) rfl rfl rfl ?_
          refine XS.iconst X72.here hx rfl (hb hby d5_212) ?_
          refine XS.iadd X72.here hx rfl (hb hby d5_213) rfl ?_
          refine st74 _ ?_
          show Steps p.tables e below (T74.setTop (mkF m 217 #[vr a1, vr a2, vi ((((0 : Int32) ||| (mf 0)) ||| (mf 1)) ||| (mf 2)), vi N, vi (31 : Int32), vi (((own_sl N (mf 0) (mf 1) (mf 2)) + (1 : Int32)) &&& (31 : Int32)), vi (0 : Int32)] [(.int (1 : Int32))])) _
          exact retI X74 hx Bd.returns (hb hby d5_217) hr
        · have f77 : Exa Z h74 a1 "com/example/always_over_paths/alwaysoverpaths/explicit/MarkingTable" := (f73.wr W74)
          have f78 : Fld Z h74 a1 "com/example/always_over_paths/alwaysoverpaths/explicit/MarkingTable" "bits" "I" (.int N) := (((f46.keep K59 (ninS ne_a1_P'_9 nin0)).other W67 (Or.inl ne_a1_S'_9)).other W74 (Or.inr (slot_ne (Or.inl (hw _ (List.mem_of_getElem? (i := 14) rfl))) (Or.inl (hw _ (List.mem_of_getElem? (i := 47) rfl))) (by decide) (t := .int) (t' := .int) (by decide) (by decide))))
          have f79 : Fld Z h74 a1 "com/example/always_over_paths/alwaysoverpaths/explicit/MarkingTable" "words" "I" (.int (own_W N)) := (((f31.keep K59 (ninS ne_a1_P'_9 nin0)).other W67 (Or.inl ne_a1_S'_9)).other W74 (Or.inr (slot_ne (Or.inl (hw _ (List.mem_of_getElem? (i := 23) rfl))) (Or.inl (hw _ (List.mem_of_getElem? (i := 47) rfl))) (by decide) (t := .int) (t' := .int) (by decide) (by decide))))
          have f80 : Fld Z h74 a1 "com/example/always_over_paths/alwaysoverpaths/explicit/MarkingTable" "packed" "[J" (.ref P'_9) := (((f47.keep K59 (ninS ne_a1_P'_9 nin0)).other W67 (Or.inl ne_a1_S'_9)).other W74 (Or.inr (slot_ne (Or.inl (hw _ (List.mem_of_getElem? (i := 26) rfl))) (Or.inl (hw _ (List.mem_of_getElem? (i := 47) rfl))) (by decide) (t := (.array .long)) (t' := .int) (by decide) (by decide))))
          have f81 : AV Z h74 P'_9 kP'_9 .long (16 * (own_W N).toNatClampNeg) (fun i => Value.long (fp62 i)) := ((V62.other W67 p9_5).other W74 (Ne.symm ne_a1_P'_9))
          show Qad1 Z a1 a2 B P R S kP kR kS fP fR kM mf x0 x1 x2 h0 n0 _ T74.heap _
          rw [e74]
          exact ⟨P'_9, kP'_9, fp62, N, (congrArg (fun z => some (Value.int z)) (Eq.symm (if_neg (fun q => hf39 ((own_pweq hBq hxq hpr bxq bm).mpr q))))), N74, K76, (Or.inr sz_P'_9), f77, f78, f79, f80, f81, hBq, bxq, bm, hpx, (fun _ => hpm)⟩
    · obtain ⟨T82, X82, e82, st82⟩ := getF X33 hx hZ hown (host := "") (Or.inl (hw _ (List.mem_of_getElem? (i := 29) rfl))) Via.refl eq33 f25 (g := (mkF m 120 #[vr a1, vr a2, vi ((((0 : Int32) ||| (mf 0)) ||| (mf 1)) ||| (mf 2)), vi N, vi (31 : Int32), vi (own_sl N (mf 0) (mf 1) (mf 2)), vi (mf 2)] [(.ref a1)])) rfl rfl (hb hby d5_120)
      obtain ⟨cl83, Ar83, kc83, sz83, -, hv83⟩ := id f28
      have hin83 : ¬ ((own_sl N (mf 0) (mf 1) (mf 2)) < 0 ∨ cl83.slots.size ≤ ((own_sl N (mf 0) (mf 1) (mf 2))).toNatClampNeg) := AV.inb sz83 (own_slin (own_slr N (mf 0) (mf 1) (mf 2)))
      have hat83 : cl83.slots[((own_sl N (mf 0) (mf 1) (mf 2))).toNatClampNeg]? = some (.int (0 : Int32)) := (hv83 _ (AV.inx (own_slin (own_slr N (mf 0) (mf 1) (mf 2))))).trans (congrArg some (congrArg Value.int (own_upn (own_slr N x0 x1 x2) (own_slr N (mf 0) (mf 1) (mf 2)) hf34)))
      have f85 : Fld Z T20.heap a1 "com/example/always_over_paths/alwaysoverpaths/explicit/MarkingTable" "bits" "I" (.int N) := (p9_9.keep p20_0 (ninS ne_a1_R'_9 nin0))
      have f86 : Fld Z T20.heap a1 "com/example/always_over_paths/alwaysoverpaths/explicit/MarkingTable" "size" "I" (.int (1 : Int32)) := (p9_13.keep p20_0 (ninS ne_a1_R'_9 nin0))
      have f87 : Fld Z T20.heap a1 "com/example/always_over_paths/alwaysoverpaths/explicit/MarkingTable" "packed" "[J" (.ref P'_9) := (p9_11.keep p20_0 (ninS ne_a1_R'_9 nin0))
      have f88 : AV Z T20.heap P'_9 kP'_9 .long (16 * (own_W N).toNatClampNeg) (fun i => Value.long (fP'_9 i)) := (p9_15.keep p20_0 (ninS p9_4 nin0))
      have f89 : Exa Z T20.heap a1 "com/example/always_over_paths/alwaysoverpaths/explicit/MarkingTable" := (p9_7.keep p20_0)
      obtain ⟨cq84, q84, q84'⟩ := f89.cell
      obtain ⟨_, _, ⟨T84, L84, k84, n84⟩, -, X84, ⟨Lc84, hQ84, l84, y84, z84⟩, st84⟩ := X82.privateBack hx (y := (⟨"com/example/always_over_paths/alwaysoverpaths/explicit/MarkingTable", "ensureRoomForOneMore", "()V"⟩ : MethodName)) hown (mvT hZ (hw _ (List.mem_of_getElem? (i := 65) rfl))) (mvT hZ (hw _ (List.mem_of_getElem? (i := 66) rfl))) (own_selp (y := (⟨"com/example/always_over_paths/alwaysoverpaths/explicit/MarkingTable", "ensureRoomForOneMore", "()V"⟩ : MethodName)) (mvT hZ (hw _ (List.mem_of_getElem? (i := 3) rfl))) (mvP hZ (hw _ (List.mem_of_getElem? (i := 67) rfl))) (mvT hZ (hw _ (List.mem_of_getElem? (i := 66) rfl))) (by decide)) (Cond.privateMethod_at (mvP hZ (hw _ (List.mem_of_getElem? (i := 67) rfl)) (args := #[]))) (mvT hZ (hw _ (List.mem_of_getElem? (i := 68) rfl))) (by decide) (backOf (W := 0) (rmer l Z a0 hw [] a1 N (1 : Int32) P'_9 kP'_9 fP'_9 T20.heap n0 z22 f85 f86 f31 f87 f88 (Or.inr rfl)) hZ (hw _ (List.mem_of_getElem? (i := 68) rfl)) (hw _ (List.mem_of_getElem? (i := 4) rfl)) (by decide) (by decide)) (g := (mkF m 165 #[vr a1, vr a2, vi ((((0 : Int32) ||| (mf 0)) ||| (mf 1)) ||| (mf 2)), vi N, vi (31 : Int32), vi (own_sl N (mf 0) (mf 1) (mf 2)), vi (mf 2)] [(.ref a1)])) rfl (by rw [hml]; rfl) (Steps.refl _) (a := a1) (by rw [e82]; exact q84) q84' (argsL := []) (rest := []) (lenOf pd_7 rfl) rfl (by show 2 * 0 + _ ≤ _; exact Nat.le_of_eq rfl) (hb hby d5_165) (fun _ _ => ⟨rfl, e82, (by decide : 4 + 0 ≤ _), (by decide : 69 + 0 ≤ _)⟩)
      dsimp only [Pt.U, Pt.locs, Pt.cells, Pt.slots] at X84 l84 y84 z84 st84 hQ84
      subst y84 z84
      obtain ⟨rfl, N84q, eq84⟩ := hQ84
      have N84 : Fr n0 L84 := by rw [l84]; exact Fr.app N33 N84q
      obtain ⟨T90, X90, e90, st90⟩ := getF X84 hx hZ hown (host := "") (Or.inl (hw _ (List.mem_of_getElem? (i := 27) rfl))) Via.refl eq84 f29 (g := (mkF m 169 #[vr a1, vr a2, vi ((((0 : Int32) ||| (mf 0)) ||| (mf 1)) ||| (mf 2)), vi N, vi (31 : Int32), vi (own_sl N (mf 0) (mf 1) (mf 2)), vi (mf 2)] [(.ref a1)])) rfl rfl (hb hby d5_169)
      obtain ⟨T91, X91, e91, st91⟩ := getF X90 hx hZ hown (host := "") (Or.inl (hw _ (List.mem_of_getElem? (i := 25) rfl))) Via.refl e90 f87 (g := (mkF m 174 #[vr a1, vr a2, vi ((((0 : Int32) ||| (mf 0)) ||| (mf 1)) ||| (mf 2)), vi N, vi (31 : Int32), vi (own_sl N (mf 0) (mf 1) (mf 2)), vi (mf 2)] [(.ref a1), (.int (0 : Int32)), (.ref R'_9)])) rfl rfl (hb hby d5_174)
      obtain ⟨T92, X92, e92, st92⟩ := getF X91 hx hZ hown (host := "") (Or.inl (hw _ (List.mem_of_getElem? (i := 46) rfl))) Via.refl e91 f86 (g := (mkF m 178 #[vr a1, vr a2, vi ((((0 : Int32) ||| (mf 0)) ||| (mf 1)) ||| (mf 2)), vi N, vi (31 : Int32), vi (own_sl N (mf 0) (mf 1) (mf 2)), vi (mf 2)] [(.ref a1), (.ref P'_9), (.int (0 : Int32)), (.ref R'_9)])) rfl rfl (hb hby d5_178)
      obtain ⟨T93, X93, e93, st93⟩ := getF X92 hx hZ hown (host := "") (Or.inl (hw _ (List.mem_of_getElem? (i := 22) rfl))) Via.refl e92 f31 (g := (mkF m 182 #[vr a1, vr a2, vi ((((0 : Int32) ||| (mf 0)) ||| (mf 1)) ||| (mf 2)), vi N, vi (31 : Int32), vi (own_sl N (mf 0) (mf 1) (mf 2)), vi (mf 2)] [(.ref a1), (.int (1 : Int32)), (.ref P'_9), (.int (0 : Int32)), (.ref R'_9)])) rfl rfl (hb hby d5_182)
      refine GoalS.lift (B := (T93.setTop (mkF m 186 #[vr a1, vr a2, vi ((((0 : Int32) ||| (mf 0)) ||| (mf 1)) ||| (mf 2)), vi N, vi (31 : Int32), vi (own_sl N (mf 0) (mf 1) (mf 2)), vi (mf 2)] [(.int ((1 : Int32) * (own_W N))), (.ref P'_9), (.int (0 : Int32)), (.ref R'_9)]))) (fun t k => ?_) ?_
      · show Steps p.tables e below (T33.setTop (mkF m 119 #[vr a1, vr a2, vi ((((0 : Int32) ||| (mf 0)) ||| (mf 1)) ||| (mf 2)), vi N, vi (31 : Int32), vi (own_sl N (mf 0) (mf 1) (mf 2)), vi (mf 2)] [])) _
        refine XS.aloadN X33.here hx rfl (hb hby d5_119) rfl rfl ?_
        refine st82 _ ?_
        refine XS.iload X82.here hx rfl (hb hby d5_123) rfl ?_
        refine X82.iaload hx (j := (own_sl N (mf 0) (mf 1) (mf 2))) (v := (.int (0 : Int32))) (by rw [e82]; exact Ar83.1) (State.isArrayOf_alike hZ.alike Ar83.2.1) Ar83.2.2 hin83 hat83 (g := (mkF m 125 #[vr a1, vr a2, vi ((((0 : Int32) ||| (mf 0)) ||| (mf 1)) ||| (mf 2)), vi N, vi (31 : Int32), vi (own_sl N (mf 0) (mf 1) (mf 2)), vi (mf 2)] [(.int (own_sl N (mf 0) (mf 1) (mf 2))), (.ref S'_9)])) rfl rfl (hb hby d5_125) _ ?_
        refine XS.ifYes X82.here hx rfl (pc0 := 126) (pc' := 164) rfl (hb hby d5_126) rfl ((if0 _ _).trans (teq (by decide : (0 : Int32) = (0 : Int32))).1) (by decide) (by decide) ?_
        refine XS.aloadN X82.here hx rfl (hb hby d5_164) rfl rfl ?_
        show Steps p.tables e below (T82.setTop (mkF m 165 #[vr a1, vr a2, vi ((((0 : Int32) ||| (mf 0)) ||| (mf 1)) ||| (mf 2)), vi N, vi (31 : Int32), vi (own_sl N (mf 0) (mf 1) (mf 2)), vi (mf 2)] [(.ref a1)])) _
        refine st84.trans ?_
        refine XS.aloadN X84.here hx rfl (hb hby d5_168) rfl rfl ?_
        refine st90 _ ?_
        refine XS.iconst X90.here hx rfl (hb hby d5_172) ?_
        refine XS.aloadN X90.here hx rfl (hb hby d5_173) rfl rfl ?_
        refine st91 _ ?_
        show Steps p.tables e below (T91.setTop (mkF m 177 #[vr a1, vr a2, vi ((((0 : Int32) ||| (mf 0)) ||| (mf 1)) ||| (mf 2)), vi N, vi (31 : Int32), vi (own_sl N (mf 0) (mf 1) (mf 2)), vi (mf 2)] [(.ref P'_9), (.int (0 : Int32)), (.ref R'_9)])) _
        refine XS.aloadN X91.here hx rfl (hb hby d5_177) rfl rfl ?_
        refine st92 _ ?_
        refine XS.aloadN X92.here hx rfl (hb hby d5_181) rfl rfl ?_
        refine st93 _ ?_
        refine XS.imul X93.here hx rfl (hb hby d5_185) rfl ?_
        exact k
      refine GoalS.lift (B := (T93.setTop (mkF m 186 #[vr a1, vr a2, vi ((((0 : Int32) ||| (mf 0)) ||| (mf 1)) ||| (mf 2)), vi N, vi (31 : Int32), vi (own_sl N (mf 0) (mf 1) (mf 2)), vi (mf 2)] [(.int (own_W N)), (.ref P'_9), (.int (0 : Int32)), (.ref R'_9)]))) (fun t k => by rw [Int32.one_mul]; exact k) ?_
      obtain ⟨T94, X94, e94, st94⟩ := getF X93 hx hZ hown (host := "") (Or.inl (hw _ (List.mem_of_getElem? (i := 22) rfl))) Via.refl e93 f31 (g := (mkF m 187 #[vr a1, vr a2, vi ((((0 : Int32) ||| (mf 0)) ||| (mf 1)) ||| (mf 2)), vi N, vi (31 : Int32), vi (own_sl N (mf 0) (mf 1) (mf 2)), vi (mf 2)] [(.ref a1), (.int (own_W N)), (.ref P'_9), (.int (0 : Int32)), (.ref R'_9)])) rfl rfl (hb hby d5_187)
      have wge95 := own_Wge N
      obtain ⟨T95, h95, L95, X95, e95, N95, K95, A95, st95⟩ := own_cp X94 hx hZ hown (hw _ (List.mem_of_getElem? (i := 69) rfl)) (hw _ (List.mem_of_getElem? (i := 72) rfl)) (hw _ (List.mem_of_getElem? (i := 70) rfl)) (hw _ (List.mem_of_getElem? (i := 71) rfl)) e94 (d := (own_W N).toNatClampNeg) (w := (own_W N).toNatClampNeg) (dp := (own_W N)) (nn := (own_W N)) V24 f88 (own_Wneg N) (own_Wneg N) rfl rfl (Nat.le_refl _) (by omega) N84 g_P'_9 (fr := (mkF m 190 #[vr a1, vr a2, vi ((((0 : Int32) ||| (mf 0)) ||| (mf 1)) ||| (mf 2)), vi N, vi (31 : Int32), vi (own_sl N (mf 0) (mf 1) (mf 2)), vi (mf 2)] [(.int (own_W N)), (.int (own_W N)), (.ref P'_9), (.int (0 : Int32)), (.ref R'_9)])) rfl (by rw [hml]; rfl) (rest := []) rfl (hb hby d5_190) (by decide) (W := 0) (by show 2 * 0 + _ ≤ _; exact Nat.le_of_eq rfl) (by decide)
      have z96 : n0 ≤ h95.size := Nat.le_trans z22 K95.1
      have K97 : Keep h0 h95 [a1, P, R, S] := K23.trans K95 (allS (Or.inr sz_P'_9) all0)
      obtain ⟨fp98, hfp98⟩ : ∃ z, z = (own_cpf fr24 fP'_9 (own_W N).toNatClampNeg (own_W N).toNatClampNeg) := ⟨_, rfl⟩
      have V98 : AV Z h95 P'_9 kP'_9 .long (16 * (own_W N).toNatClampNeg) (fun i => Value.long (fp98 i)) := by rw [hfp98]; exact A95
      have hpm : own_pw N (mf 0) (mf 1) (mf 2) fp98 (own_W N).toNatClampNeg := by rw [hfp98]; exact own_cp1 hpr
      have hpx : own_pw N x0 x1 x2 fp98 0 := by rw [hfp98]; exact own_cp2 hxq
      have f99 : Fld Z h95 a1 "com/example/always_over_paths/alwaysoverpaths/explicit/MarkingTable" "slots" "[I" (.ref S'_9) := (f25.keep K95 (ninS ne_a1_P'_9 nin0))
      obtain ⟨T100, X100, e100, st100⟩ := getF X95 hx hZ hown (host := "") (Or.inl (hw _ (List.mem_of_getElem? (i := 29) rfl))) Via.refl e95 f99 (g := (mkF m 194 #[vr a1, vr a2, vi ((((0 : Int32) ||| (mf 0)) ||| (mf 1)) ||| (mf 2)), vi N, vi (31 : Int32), vi (own_sl N (mf 0) (mf 1) (mf 2)), vi (mf 2)] [(.ref a1)])) rfl rfl (hb hby d5_194)
      have f101 : Fld Z h95 a1 "com/example/always_over_paths/alwaysoverpaths/explicit/MarkingTable" "size" "I" (.int (1 : Int32)) := (f86.keep K95 (ninS ne_a1_P'_9 nin0))
      obtain ⟨T102, X102, e102, st102⟩ := getF X100 hx hZ hown (host := "") (Or.inl (hw _ (List.mem_of_getElem? (i := 46) rfl))) Via.refl e100 f101 (g := (mkF m 200 #[vr a1, vr a2, vi ((((0 : Int32) ||| (mf 0)) ||| (mf 1)) ||| (mf 2)), vi N, vi (31 : Int32), vi (own_sl N (mf 0) (mf 1) (mf 2)), vi (mf 2)] [(.ref a1), (.int (own_sl N (mf 0) (mf 1) (mf 2))), (.ref S'_9)])) rfl rfl (hb hby d5_200)
      have f104 : AV Z h95 S'_9 kS'_9 .int 32 (fun i => Value.int ((updI (fun _ => (0 : Int32)) (own_sl N x0 x1 x2).toNatClampNeg (1 : Int32)) i)) := (f28.keep K95 (ninS (Ne.symm p9_5) nin0))
      obtain ⟨cl103, Ar103, kc103, sz103, -, -⟩ := id f104
      have hin103 : ¬ ((own_sl N (mf 0) (mf 1) (mf 2)) < 0 ∨ cl103.slots.size ≤ ((own_sl N (mf 0) (mf 1) (mf 2))).toNatClampNeg) := AV.inb sz103 (own_slin (own_slr N (mf 0) (mf 1) (mf 2)))
      obtain ⟨T103, h103, X103, e103, W103, st103⟩ := stI X102 hx hZ e102 Ar103 (j := (own_sl N (mf 0) (mf 1) (mf 2))) hin103 (g := (mkF m 205 #[vr a1, vr a2, vi ((((0 : Int32) ||| (mf 0)) ||| (mf 1)) ||| (mf 2)), vi N, vi (31 : Int32), vi (own_sl N (mf 0) (mf 1) (mf 2)), vi (mf 2)] [(.int (2 : Int32)), (.int (own_sl N (mf 0) (mf 1) (mf 2))), (.ref S'_9)])) rfl rfl (hb hby d5_205)
      have z105 : n0 ≤ h103.size := Nat.le_trans z96 (Keep.of_wr W103).1
      have K106 : Keep h0 h103 [a1, P, R, S] := K97.wr W103 (Or.inr sz_S'_9)
      have V103 : AV Z h103 S'_9 kS'_9 .int 32 (fun i => Value.int ((updI (updI (fun _ => (0 : Int32)) (own_sl N x0 x1 x2).toNatClampNeg (1 : Int32)) ((own_sl N (mf 0) (mf 1) (mf 2))).toNatClampNeg (2 : Int32)) i)) := AV.putI f104 W103 (AV.inx (own_slin (own_slr N (mf 0) (mf 1) (mf 2))))
      have N103 := Fr.snoc X103 N95 g_S'_9
      have f107 : Fld Z h103 a1 "com/example/always_over_paths/alwaysoverpaths/explicit/MarkingTable" "size" "I" (.int (1 : Int32)) := (f101.other W103 (Or.inl ne_a1_S'_9))
      obtain ⟨T108, X108, e108, st108⟩ := getF X103 hx hZ hown (host := "") (Or.inl (hw _ (List.mem_of_getElem? (i := 46) rfl))) Via.refl e103 f107 (g := (mkF m 208 #[vr a1, vr a2, vi ((((0 : Int32) ||| (mf 0)) ||| (mf 1)) ||| (mf 2)), vi N, vi (31 : Int32), vi (own_sl N (mf 0) (mf 1) (mf 2)), vi (mf 2)] [(.ref a1), (.ref a1)])) rfl rfl (hb hby d5_208)
      have f109 : Exa Z h103 a1 "com/example/always_over_paths/alwaysoverpaths/explicit/MarkingTable" := ((f89.keep K95).wr W103)
      obtain ⟨T110, h110, X110, e110, W110, st110⟩ := putF X108 hx hZ hown (host := "") (Or.inl (hw _ (List.mem_of_getElem? (i := 46) rfl))) Via.refl e108 f107 f109 (Or.inl (hw _ (List.mem_of_getElem? (i := 47) rfl))) (hw _ (List.mem_of_getElem? (i := 3) rfl)) (ty := .int) (by decide) rfl rfl (g := (mkF m 214 #[vr a1, vr a2, vi ((((0 : Int32) ||| (mf 0)) ||| (mf 1)) ||| (mf 2)), vi N, vi (31 : Int32), vi (own_sl N (mf 0) (mf 1) (mf 2)), vi (mf 2)] [(.int (2 : Int32)), (.ref a1), (.int (1 : Int32))])) rfl rfl (hb hby d5_214)
      have z111 : n0 ≤ h110.size := Nat.le_trans z105 (Keep.of_wr W110).1
      have K112 : Keep h0 h110 [a1, P, R, S] := K106.wr W110 (Or.inl (List.mem_of_getElem? (i := 0) rfl))
      have Fw110 : Fld Z h110 a1 "com/example/always_over_paths/alwaysoverpaths/explicit/MarkingTable" "size" "I" (.int (2 : Int32)) := f107.same W110
      have N110 := Fr.snoc X110 N103 g_a1
      obtain ⟨fs, hr, hrun, hended, hW, hsame⟩ := X110.leave (v := some (.int (1 : Int32))) (fun h => by rw [Bd.returns] at h; cases h)
      refine ⟨_, _, ?_, hrun, hended, _, _, rfl, ?_, ⟨_, rfl⟩, hW, hsame.mono (by decide) (by decide)⟩
      · show Steps p.tables e below (T93.setTop (mkF m 186 #[vr a1, vr a2, vi ((((0 : Int32) ||| (mf 0)) ||| (mf 1)) ||| (mf 2)), vi N, vi (31 : Int32), vi (own_sl N (mf 0) (mf 1) (mf 2)), vi (mf 2)] [(.int (own_W N)), (.ref P'_9), (.int (0 : Int32)), (.ref R'_9)])) _
        refine XS.aloadN X93.here hx rfl (hb hby d5_186) rfl rfl ?_
        refine st94 _ ?_
        refine st95 _ ?_
        refine XS.aloadN X95.here hx rfl (hb hby d5_193) rfl rfl ?_
        refine st100 _ ?_
        refine XS.iload X100.here hx rfl (hb hby d5_197) rfl ?_
        show Steps p.tables e below (T100.setTop (mkF m 199 #[vr a1, vr a2, vi ((((0 : Int32) ||| (mf 0)) ||| (mf 1)) ||| (mf 2)), vi N, vi (31 : Int32), vi (own_sl N (mf 0) (mf 1) (mf 2)), vi (mf 2)] [(.int (own_sl N (mf 0) (mf 1) (mf 2))), (.ref S'_9)])) _
        refine XS.aloadN X100.here hx rfl (hb hby d5_199) rfl rfl ?_
        refine st102 _ ?_
        refine XS.iconst X102.here hx rfl (hb hby d5_203) ?_
        refine XS.iadd X102.here hx rfl (hb hby d5_204) rfl ?_
        refine st103 _ ?_
        refine XS.aloadN X103.here hx rfl (hb hby d5_206) rfl rfl ?_
        show Steps p.tables e below (T103.setTop (mkF m 207 #[vr a1, vr a2, vi ((((0 : Int32) ||| (mf 0)) ||| (mf 1)) ||| (mf 2)), vi N, vi (31 : Int32), vi (own_sl N (mf 0) (mf 1) (mf 2)), vi (mf 2)] [(.ref a1)])) _
        refine XS.dup X103.here hx rfl (hb hby d5_207) rfl rfl ?_
        refine st108 _ ?_
        refine XS.dupX1 X108.here hx rfl (hb hby d5_211) rfl rfl rfl ?_
        refine XS.iconst X108.here hx rfl (hb hby d5_212) ?_
        refine XS.iadd X108.here hx rfl (hb hby d5_213) rfl ?_
        refine st110 _ ?_
        show Steps p.tables e below (T110.setTop (mkF m 217 #[vr a1, vr a2, vi ((((0 : Int32) ||| (mf 0)) ||| (mf 1)) ||| (mf 2)), vi N, vi (31 : Int32), vi (own_sl N (mf 0) (mf 1) (mf 2)), vi (mf 2)] [(.int (1 : Int32))])) _
        exact retI X110 hx Bd.returns (hb hby d5_217) hr
      · have f113 : Exa Z h110 a1 "com/example/always_over_paths/alwaysoverpaths/explicit/MarkingTable" := (f109.wr W110)
        have f114 : Fld Z h110 a1 "com/example/always_over_paths/alwaysoverpaths/explicit/MarkingTable" "bits" "I" (.int N) := (((f85.keep K95 (ninS ne_a1_P'_9 nin0)).other W103 (Or.inl ne_a1_S'_9)).other W110 (Or.inr (slot_ne (Or.inl (hw _ (List.mem_of_getElem? (i := 14) rfl))) (Or.inl (hw _ (List.mem_of_getElem? (i := 47) rfl))) (by decide) (t := .int) (t' := .int) (by decide) (by decide))))
        have f115 : Fld Z h110 a1 "com/example/always_over_paths/alwaysoverpaths/explicit/MarkingTable" "words" "I" (.int (own_W N)) := (((f31.keep K95 (ninS ne_a1_P'_9 nin0)).other W103 (Or.inl ne_a1_S'_9)).other W110 (Or.inr (slot_ne (Or.inl (hw _ (List.mem_of_getElem? (i := 23) rfl))) (Or.inl (hw _ (List.mem_of_getElem? (i := 47) rfl))) (by decide) (t := .int) (t' := .int) (by decide) (by decide))))
        have f116 : Fld Z h110 a1 "com/example/always_over_paths/alwaysoverpaths/explicit/MarkingTable" "packed" "[J" (.ref P'_9) := (((f87.keep K95 (ninS ne_a1_P'_9 nin0)).other W103 (Or.inl ne_a1_S'_9)).other W110 (Or.inr (slot_ne (Or.inl (hw _ (List.mem_of_getElem? (i := 26) rfl))) (Or.inl (hw _ (List.mem_of_getElem? (i := 47) rfl))) (by decide) (t := (.array .long)) (t' := .int) (by decide) (by decide))))
        have f117 : AV Z h110 P'_9 kP'_9 .long (16 * (own_W N).toNatClampNeg) (fun i => Value.long (fp98 i)) := ((V98.other W103 p9_5).other W110 (Ne.symm ne_a1_P'_9))
        show Qad1 Z a1 a2 B P R S kP kR kS fP fR kM mf x0 x1 x2 h0 n0 _ T110.heap _
        rw [e110]
        exact ⟨P'_9, kP'_9, fp98, N, (congrArg (fun z => some (Value.int z)) (Eq.symm (if_neg (fun q => hf34 (by rw [q.1, q.2.1, q.2.2]))))), N110, K112, (Or.inr sz_P'_9), f113, f114, f115, f116, f117, hBq, bxq, bm, hpx, (fun _ => hpm)⟩
  · have hBq : own_B B := hBo
    have bm : own_bd3 B (mf 0) (mf 1) (mf 2) := own_bdn3 nd.1 nd.2 hc52_8
    have bxq : own_bd3 B x0 x1 x2 := bx
    have hxq : own_pw B x0 x1 x2 fP 0 := hxw
    obtain ⟨T118, X118, e118, st118⟩ := getF X7 hx hZ hown (host := "") (Or.inl (hw _ (List.mem_of_getElem? (i := 46) rfl))) Via.refl e7 F_size_a1 (g := (mkF m 61 #[vr a1, vr a2, vi ((((0 : Int32) ||| (mf 0)) ||| (mf 1)) ||| (mf 2)), vi N, vi (3 : Int32), vi (3 : Int32), vi (mf 2)] [(.ref a1)])) rfl rfl (hb hby d5_61)
    obtain ⟨T119, X119, e119, st119⟩ := getF X118 hx hZ hown (host := "") (Or.inl (hw _ (List.mem_of_getElem? (i := 29) rfl))) Via.refl e118 F_slots_a1 (g := (mkF m 65 #[vr a1, vr a2, vi ((((0 : Int32) ||| (mf 0)) ||| (mf 1)) ||| (mf 2)), vi N, vi (3 : Int32), vi (3 : Int32), vi (mf 2)] [(.ref a1), (.int (1 : Int32))])) rfl rfl (hb hby d5_65)
    obtain ⟨cl120, Ar120, -, sz120, -, -⟩ := id A_S
    have le120 : cl120.slots.size.toInt32 = (32 : Int32) := by rw [sz120]; exact rfl
    obtain ⟨T121, X121, e121, st121⟩ := getF X119 hx hZ hown (host := "") (Or.inl (hw _ (List.mem_of_getElem? (i := 13) rfl))) Via.refl e119 F_bits_a1 (g := (mkF m 82 #[vr a1, vr a2, vi ((((0 : Int32) ||| (mf 0)) ||| (mf 1)) ||| (mf 2)), vi N, vi (3 : Int32), vi (3 : Int32), vi (mf 2)] [(.ref a1), (.ref a2)])) rfl rfl (hb hby d5_82)
    obtain ⟨T122, X122, e122, st122⟩ := getF X121 hx hZ hown (host := "") (Or.inl (hw _ (List.mem_of_getElem? (i := 27) rfl))) Via.refl e121 F_probe_a1 (g := (mkF m 86 #[vr a1, vr a2, vi ((((0 : Int32) ||| (mf 0)) ||| (mf 1)) ||| (mf 2)), vi N, vi (3 : Int32), vi (3 : Int32), vi (mf 2)] [(.ref a1), (.int B), (.ref a2)])) rfl rfl (hb hby d5_86)
    obtain ⟨_, _, ⟨T123, L123, k123, n123⟩, -, X123, ⟨Lc123, hQ123, l123, y123, z123⟩, st123⟩ := Jvm.LawKit.callS X122 hx (y := (⟨"com/example/always_over_paths/alwaysoverpaths/explicit/MarkingTable", "pack", "([II[JI)V"⟩ : MethodName)) hown (mvT hZ (hw _ (List.mem_of_getElem? (i := 56) rfl))) (mvT hZ (hw _ (List.mem_of_getElem? (i := 57) rfl))) (mvT hZ (hw _ (List.mem_of_getElem? (i := 4) rfl))) (mvT hZ (hw _ (List.mem_of_getElem? (i := 58) rfl))) (by decide) (backOf (W := 0) (rmpk l Z a0 hw [] a2 B R kM kR mf fR ((own_W B).toNatClampNeg) h0 n0 Z0 A_a2 A_R ne_a2_R g_R hBq (Nat.le_refl _)) hZ (hw _ (List.mem_of_getElem? (i := 58) rfl)) (hw _ (List.mem_of_getElem? (i := 4) rfl)) (by decide) (by decide)) (g := (mkF m 90 #[vr a1, vr a2, vi ((((0 : Int32) ||| (mf 0)) ||| (mf 1)) ||| (mf 2)), vi N, vi (3 : Int32), vi (3 : Int32), vi (mf 2)] [(.int (0 : Int32)), (.ref R), (.int B), (.ref a2)])) rfl (by rw [hml]; rfl) (argsL := [(.ref a2), (.int B), (.ref R), (.int (0 : Int32))]) (rest := []) (lenOf pd_5 rfl) rfl (by show 2 * 0 + _ ≤ _; exact Nat.le_of_eq rfl) (hb hby d5_90) (fun _ _ => ⟨rfl, e122, (by decide : 0 + 0 ≤ _), (by decide : 0 + 0 ≤ _)⟩)
    dsimp only [Pt.U, Pt.locs, Pt.cells, Pt.slots] at X123 l123 y123 z123 st123 hQ123
    subst y123 z123
    obtain ⟨rfl, N123q, p123_0, p123_1⟩ := hQ123
    have N123 : Fr n0 L123 := by rw [l123]; exact Fr.app N6 N123q
    have z124 : n0 ≤ T123.heap.size := Nat.le_trans Z0 p123_0.1
    have K125 : Keep h0 T123.heap [a1, P, R, S] := K0.trans p123_0 (allS (Or.inl (List.mem_of_getElem? (i := 2) rfl)) all0)
    obtain ⟨fr126, hfr126⟩ : ∃ z, z = (own_pk B (mf 0) (mf 1) (mf 2) fR) := ⟨_, rfl⟩
    have V126 : AV Z T123.heap R kR .long ((own_W B).toNatClampNeg) (fun i => Value.long (fr126 i)) := by rw [hfr126]; exact p123_1
    have hpr : own_pw B (mf 0) (mf 1) (mf 2) fr126 0 := by rw [hfr126]; exact own_pk_pw _ _ _ _ _
    have f127 : Fld Z T123.heap a1 "com/example/always_over_paths/alwaysoverpaths/explicit/MarkingTable" "slots" "[I" (.ref S) := (F_slots_a1.keep p123_0 (ninS ne_a1_R nin0))
    obtain ⟨T128, X128, e128, st128⟩ := getF X123 hx hZ hown (host := "") (Or.inl (hw _ (List.mem_of_getElem? (i := 29) rfl))) Via.refl rfl f127 (g := (mkF m 94 #[vr a1, vr a2, vi ((((0 : Int32) ||| (mf 0)) ||| (mf 1)) ||| (mf 2)), vi N, vi (3 : Int32), vi (3 : Int32), vi (mf 2)] [(.ref a1)])) rfl rfl (hb hby d5_94)
    have f130 : AV Z T123.heap S kS .int 32 (fun i => Value.int ((updI (fun _ => (0 : Int32)) (own_sl B x0 x1 x2).toNatClampNeg (1 : Int32)) i)) := (A_S.keep p123_0 (ninS (Ne.symm ne_R_S) nin0))
    obtain ⟨cl129, Ar129, -, sz129, -, -⟩ := id f130
    have le129 : cl129.slots.size.toInt32 = (32 : Int32) := by rw [sz129]; exact rfl
    have f131 : Fld Z T123.heap a1 "com/example/always_over_paths/alwaysoverpaths/explicit/MarkingTable" "probe" "[J" (.ref R) := (F_probe_a1.keep p123_0 (ninS ne_a1_R nin0))
    obtain ⟨T132, X132, e132, st132⟩ := getF X128 hx hZ hown (host := "") (Or.inl (hw _ (List.mem_of_getElem? (i := 27) rfl))) Via.refl e128 f131 (g := (mkF m 103 #[vr a1, vr a2, vi ((((0 : Int32) ||| (mf 0)) ||| (mf 1)) ||| (mf 2)), vi N, vi (31 : Int32), vi (3 : Int32), vi (mf 2)] [(.ref a1)])) rfl rfl (hb hby d5_103)
    have f133 : Fld Z T123.heap a1 "com/example/always_over_paths/alwaysoverpaths/explicit/MarkingTable" "words" "I" (.int (own_W B)) := (F_words_a1.keep p123_0 (ninS ne_a1_R nin0))
    obtain ⟨T134, X134, e134, st134⟩ := getF X132 hx hZ hown (host := "") (Or.inl (hw _ (List.mem_of_getElem? (i := 22) rfl))) Via.refl e132 f133 (g := (mkF m 108 #[vr a1, vr a2, vi ((((0 : Int32) ||| (mf 0)) ||| (mf 1)) ||| (mf 2)), vi N, vi (31 : Int32), vi (3 : Int32), vi (mf 2)] [(.ref a1), (.int (0 : Int32)), (.ref R)])) rfl rfl (hb hby d5_108)
    obtain ⟨_, _, ⟨T135, L135, k135, n135⟩, -, X135, ⟨Lc135, hQ135, l135, y135, z135⟩, st135⟩ := Jvm.LawKit.callS X134 hx (y := (⟨"com/example/always_over_paths/alwaysoverpaths/explicit/MarkingTable", "hash", "([JII)I"⟩ : MethodName)) hown (mvT hZ (hw _ (List.mem_of_getElem? (i := 59) rfl))) (mvT hZ (hw _ (List.mem_of_getElem? (i := 60) rfl))) (mvT hZ (hw _ (List.mem_of_getElem? (i := 4) rfl))) (mvT hZ (hw _ (List.mem_of_getElem? (i := 61) rfl))) (by decide) (backOf (W := 0) (rmh l Z a0 hw [] R (own_W B) kR fr126 ((own_W B).toNatClampNeg) T123.heap n0 z124 V126 (own_W12 B) (Nat.le_refl _)) hZ (hw _ (List.mem_of_getElem? (i := 61) rfl)) (hw _ (List.mem_of_getElem? (i := 4) rfl)) (by decide) (by decide)) (g := (mkF m 111 #[vr a1, vr a2, vi ((((0 : Int32) ||| (mf 0)) ||| (mf 1)) ||| (mf 2)), vi N, vi (31 : Int32), vi (3 : Int32), vi (mf 2)] [(.int (own_W B)), (.int (0 : Int32)), (.ref R)])) rfl (by rw [hml]; rfl) (argsL := [(.ref R), (.int (0 : Int32)), (.int (own_W B))]) (rest := []) (lenOf pd_2 rfl) rfl (by show 2 * 0 + _ ≤ _; exact Nat.le_of_eq rfl) (hb hby d5_111) (fun _ _ => ⟨rfl, e134, (by decide : 0 + 0 ≤ _), (by decide : 0 + 0 ≤ _)⟩)
    dsimp only [Pt.U, Pt.locs, Pt.cells, Pt.slots] at X135 l135 y135 z135 st135 hQ135
    subst y135 z135
    obtain ⟨rfl, N135q, eq135⟩ := hQ135
    have N135 : Fr n0 L135 := by rw [l135]; exact Fr.app N123 N135q
    refine GoalS.lift (B := (T135.setTop (mkF m 117 #[vr a1, vr a2, vi ((((0 : Int32) ||| (mf 0)) ||| (mf 1)) ||| (mf 2)), vi N, vi (31 : Int32), vi (3 : Int32), vi (mf 2)] [(.int ((own_hash (own_W B) (fr126 0) (fr126 1)) &&& (31 : Int32)))]))) (fun t k => ?_) ?_
    · show Steps p.tables e below (T7.setTop (mkF m 52 #[vr a1, vr a2, vi ((((0 : Int32) ||| (mf 0)) ||| (mf 1)) ||| (mf 2)), vi N, vi (3 : Int32), vi (3 : Int32), vi (mf 2)] [(.int B), (.int N)])) _
      refine XS.icmpYes X7.here hx rfl (pc0 := 52) (pc' := 60) rfl (hb hby d5_52) rfl ((flt hc52_8).2.2.2) (by decide) (by decide) ?_
      refine XS.aloadN X7.here hx rfl (hb hby d5_60) rfl rfl ?_
      refine st118 _ ?_
      refine XS.aloadN X118.here hx rfl (hb hby d5_64) rfl rfl ?_
      refine st119 _ ?_
      refine X119.arraylength hx (by rw [e119]; exact Ar120.1) (State.isArrayOf_alike hZ.alike Ar120.2.1) (g := (mkF m 68 #[vr a1, vr a2, vi ((((0 : Int32) ||| (mf 0)) ||| (mf 1)) ||| (mf 2)), vi N, vi (3 : Int32), vi (3 : Int32), vi (mf 2)] [(.ref S), (.int (1 : Int32))])) rfl rfl (hb hby d5_68) _ ?_
      rw [le120]
      show Steps p.tables e below (T119.setTop (mkF m 69 #[vr a1, vr a2, vi ((((0 : Int32) ||| (mf 0)) ||| (mf 1)) ||| (mf 2)), vi N, vi (3 : Int32), vi (3 : Int32), vi (mf 2)] [(.int (32 : Int32)), (.int (1 : Int32))])) _
      refine XS.iconst X119.here hx rfl (hb hby d5_69) ?_
      refine XS.idiv X119.here hx rfl (hb hby d5_70) rfl (by decide) ?_
      refine XS.iconst X119.here hx rfl (hb hby d5_71) ?_
      refine XS.imul X119.here hx rfl (hb hby d5_72) rfl ?_
      refine XS.icmpYes X119.here hx rfl (pc0 := 73) (pc' := 80) rfl (hb hby d5_73) rfl ((tlt (by decide : (1 : Int32) < (((32 : Int32) / (4 : Int32)) * (3 : Int32)))).1) (by decide) (by decide) ?_
      refine XS.aloadN X119.here hx rfl (hb hby d5_80) rfl rfl ?_
      show Steps p.tables e below (T119.setTop (mkF m 81 #[vr a1, vr a2, vi ((((0 : Int32) ||| (mf 0)) ||| (mf 1)) ||| (mf 2)), vi N, vi (3 : Int32), vi (3 : Int32), vi (mf 2)] [(.ref a2)])) _
      refine XS.aloadN X119.here hx rfl (hb hby d5_81) rfl rfl ?_
      refine st121 _ ?_
      refine XS.aloadN X121.here hx rfl (hb hby d5_85) rfl rfl ?_
      refine st122 _ ?_
      refine XS.iconst X122.here hx rfl (hb hby d5_89) ?_
      refine st123 _ ?_
      show Steps p.tables e below (T123.setTop (mkF m 93 #[vr a1, vr a2, vi ((((0 : Int32) ||| (mf 0)) ||| (mf 1)) ||| (mf 2)), vi N, vi (3 : Int32), vi (3 : Int32), vi (mf 2)] [])) _
      refine XS.aloadN X123.here hx rfl (hb hby d5_93) rfl rfl ?_
      refine st128 _ ?_
      refine X128.arraylength hx (by rw [e128]; exact Ar129.1) (State.isArrayOf_alike hZ.alike Ar129.2.1) (g := (mkF m 97 #[vr a1, vr a2, vi ((((0 : Int32) ||| (mf 0)) ||| (mf 1)) ||| (mf 2)), vi N, vi (3 : Int32), vi (3 : Int32), vi (mf 2)] [(.ref S)])) rfl rfl (hb hby d5_97) _ ?_
      rw [le129]
      refine XS.iconst X128.here hx rfl (hb hby d5_98) ?_
      refine XS.isub X128.here hx rfl (hb hby d5_99) rfl ?_
      show Steps p.tables e below (T128.setTop (mkF m 100 #[vr a1, vr a2, vi ((((0 : Int32) ||| (mf 0)) ||| (mf 1)) ||| (mf 2)), vi N, vi (3 : Int32), vi (3 : Int32), vi (mf 2)] [(.int (31 : Int32))])) _
      refine XS.istore X128.here hx rfl (hb hby d5_100) rfl (l' := #[vr a1, vr a2, vi ((((0 : Int32) ||| (mf 0)) ||| (mf 1)) ||| (mf 2)), vi N, vi (31 : Int32), vi (3 : Int32), vi (mf 2)]) rfl ?_
      refine XS.aloadN X128.here hx rfl (hb hby d5_102) rfl rfl ?_
      refine st132 _ ?_
      refine XS.iconst X132.here hx rfl (hb hby d5_106) ?_
      refine XS.aloadN X132.here hx rfl (hb hby d5_107) rfl rfl ?_
      refine st134 _ ?_
      show Steps p.tables e below (T134.setTop (mkF m 111 #[vr a1, vr a2, vi ((((0 : Int32) ||| (mf 0)) ||| (mf 1)) ||| (mf 2)), vi N, vi (31 : Int32), vi (3 : Int32), vi (mf 2)] [(.int (own_W B)), (.int (0 : Int32)), (.ref R)])) _
      refine st135 _ ?_
      refine XS.iload X135.here hx rfl (hb hby d5_114) rfl ?_
      refine XS.iand X135.here hx rfl (hb hby d5_116) rfl ?_
      exact k
    refine GoalS.lift (B := (T135.setTop (mkF m 117 #[vr a1, vr a2, vi ((((0 : Int32) ||| (mf 0)) ||| (mf 1)) ||| (mf 2)), vi N, vi (31 : Int32), vi (3 : Int32), vi (mf 2)] [(.int (own_sl B (mf 0) (mf 1) (mf 2)))]))) (fun t k => by rw [own_hpk hpr]; exact k) ?_
    refine GoalS.lift (B := (T135.setTop (mkF m 119 #[vr a1, vr a2, vi ((((0 : Int32) ||| (mf 0)) ||| (mf 1)) ||| (mf 2)), vi N, vi (31 : Int32), vi (own_sl B (mf 0) (mf 1) (mf 2)), vi (mf 2)] []))) (fun t k => ?_) ?_
    · show Steps p.tables e below (T135.setTop (mkF m 117 #[vr a1, vr a2, vi ((((0 : Int32) ||| (mf 0)) ||| (mf 1)) ||| (mf 2)), vi N, vi (31 : Int32), vi (3 : Int32), vi (mf 2)] [(.int (own_sl B (mf 0) (mf 1) (mf 2)))])) _
      refine XS.istore X135.here hx rfl (hb hby d5_117) rfl (l' := #[vr a1, vr a2, vi ((((0 : Int32) ||| (mf 0)) ||| (mf 1)) ||| (mf 2)), vi N, vi (31 : Int32), vi (own_sl B (mf 0) (mf 1) (mf 2)), vi (mf 2)]) rfl ?_
      exact k
    by_cases hf136 : (own_sl B x0 x1 x2) = (own_sl B (mf 0) (mf 1) (mf 2))
    · obtain ⟨T137, X137, e137, st137⟩ := getF X135 hx hZ hown (host := "") (Or.inl (hw _ (List.mem_of_getElem? (i := 29) rfl))) Via.refl eq135 f127 (g := (mkF m 120 #[vr a1, vr a2, vi ((((0 : Int32) ||| (mf 0)) ||| (mf 1)) ||| (mf 2)), vi N, vi (31 : Int32), vi (own_sl B (mf 0) (mf 1) (mf 2)), vi (mf 2)] [(.ref a1)])) rfl rfl (hb hby d5_120)
      obtain ⟨cl138, Ar138, kc138, sz138, -, hv138⟩ := id f130
      have hin138 : ¬ ((own_sl B (mf 0) (mf 1) (mf 2)) < 0 ∨ cl138.slots.size ≤ ((own_sl B (mf 0) (mf 1) (mf 2))).toNatClampNeg) := AV.inb sz138 (own_slin (own_slr B (mf 0) (mf 1) (mf 2)))
      have hat138 : cl138.slots[((own_sl B (mf 0) (mf 1) (mf 2))).toNatClampNeg]? = some (.int (1 : Int32)) := (hv138 _ (AV.inx (own_slin (own_slr B (mf 0) (mf 1) (mf 2))))).trans (congrArg some (congrArg Value.int (own_upy hf136)))
      obtain ⟨T139, X139, e139, st139⟩ := getF X137 hx hZ hown (host := "") (Or.inl (hw _ (List.mem_of_getElem? (i := 29) rfl))) Via.refl e137 f127 (g := (mkF m 130 #[vr a1, vr a2, vi ((((0 : Int32) ||| (mf 0)) ||| (mf 1)) ||| (mf 2)), vi N, vi (31 : Int32), vi (own_sl B (mf 0) (mf 1) (mf 2)), vi (mf 2)] [(.ref a1)])) rfl rfl (hb hby d5_130)
      obtain ⟨cl140, Ar140, kc140, sz140, -, hv140⟩ := id f130
      have hin140 : ¬ ((own_sl B (mf 0) (mf 1) (mf 2)) < 0 ∨ cl140.slots.size ≤ ((own_sl B (mf 0) (mf 1) (mf 2))).toNatClampNeg) := AV.inb sz140 (own_slin (own_slr B (mf 0) (mf 1) (mf 2)))
      have hat140 : cl140.slots[((own_sl B (mf 0) (mf 1) (mf 2))).toNatClampNeg]? = some (.int (1 : Int32)) := (hv140 _ (AV.inx (own_slin (own_slr B (mf 0) (mf 1) (mf 2))))).trans (congrArg some (congrArg Value.int (own_upy hf136)))
      refine GoalS.lift (B := (T139.setTop (mkF m 140 #[vr a1, vr a2, vi ((((0 : Int32) ||| (mf 0)) ||| (mf 1)) ||| (mf 2)), vi N, vi (31 : Int32), vi (own_sl B (mf 0) (mf 1) (mf 2)), vi (0 : Int32)] []))) (fun t k => ?_) ?_
      · show Steps p.tables e below (T135.setTop (mkF m 119 #[vr a1, vr a2, vi ((((0 : Int32) ||| (mf 0)) ||| (mf 1)) ||| (mf 2)), vi N, vi (31 : Int32), vi (own_sl B (mf 0) (mf 1) (mf 2)), vi (mf 2)] [])) _
        refine XS.aloadN X135.here hx rfl (hb hby d5_119) rfl rfl ?_
        refine st137 _ ?_
        refine XS.iload X137.here hx rfl (hb hby d5_123) rfl ?_
        refine X137.iaload hx (j := (own_sl B (mf 0) (mf 1) (mf 2))) (v := (.int (1 : Int32))) (by rw [e137]; exact Ar138.1) (State.isArrayOf_alike hZ.alike Ar138.2.1) Ar138.2.2 hin138 hat138 (g := (mkF m 125 #[vr a1, vr a2, vi ((((0 : Int32) ||| (mf 0)) ||| (mf 1)) ||| (mf 2)), vi N, vi (31 : Int32), vi (own_sl B (mf 0) (mf 1) (mf 2)), vi (mf 2)] [(.int (own_sl B (mf 0) (mf 1) (mf 2))), (.ref S)])) rfl rfl (hb hby d5_125) _ ?_
        refine XS.ifNo X137.here hx rfl (hb hby d5_126) rfl ((if0 _ _).trans (feq (by decide : ¬ ((1 : Int32) = (0 : Int32)))).1) ?_
        refine XS.aloadN X137.here hx rfl (hb hby d5_129) rfl rfl ?_
        show Steps p.tables e below (T137.setTop (mkF m 130 #[vr a1, vr a2, vi ((((0 : Int32) ||| (mf 0)) ||| (mf 1)) ||| (mf 2)), vi N, vi (31 : Int32), vi (own_sl B (mf 0) (mf 1) (mf 2)), vi (mf 2)] [(.ref a1)])) _
        refine st139 _ ?_
        refine XS.iload X139.here hx rfl (hb hby d5_133) rfl ?_
        refine X139.iaload hx (j := (own_sl B (mf 0) (mf 1) (mf 2))) (v := (.int (1 : Int32))) (by rw [e139]; exact Ar140.1) (State.isArrayOf_alike hZ.alike Ar140.2.1) Ar140.2.2 hin140 hat140 (g := (mkF m 135 #[vr a1, vr a2, vi ((((0 : Int32) ||| (mf 0)) ||| (mf 1)) ||| (mf 2)), vi N, vi (31 : Int32), vi (own_sl B (mf 0) (mf 1) (mf 2)), vi (mf 2)] [(.int (own_sl B (mf 0) (mf 1) (mf 2))), (.ref S)])) rfl rfl (hb hby d5_135) _ ?_
        refine XS.iconst X139.here hx rfl (hb hby d5_136) ?_
        refine XS.isub X139.here hx rfl (hb hby d5_137) rfl ?_
        refine XS.istore X139.here hx rfl (hb hby d5_138) rfl (l' := #[vr a1, vr a2, vi ((((0 : Int32) ||| (mf 0)) ||| (mf 1)) ||| (mf 2)), vi N, vi (31 : Int32), vi (own_sl B (mf 0) (mf 1) (mf 2)), vi (0 : Int32)]) rfl ?_
        show Steps p.tables e below (T139.setTop (mkF m 140 #[vr a1, vr a2, vi ((((0 : Int32) ||| (mf 0)) ||| (mf 1)) ||| (mf 2)), vi N, vi (31 : Int32), vi (own_sl B (mf 0) (mf 1) (mf 2)), vi (0 : Int32)] [])) _
        exact k
      by_cases hf141 : own_same B fP fr126
      · have f143 : Fld Z T123.heap a1 "com/example/always_over_paths/alwaysoverpaths/explicit/MarkingTable" "bits" "I" (.int B) := (F_bits_a1.keep p123_0 (ninS ne_a1_R nin0))
        have f144 : Fld Z T123.heap a1 "com/example/always_over_paths/alwaysoverpaths/explicit/MarkingTable" "packed" "[J" (.ref P) := (F_packed_a1.keep p123_0 (ninS ne_a1_R nin0))
        have f145 : AV Z T123.heap P kP .long (16 * (own_W B).toNatClampNeg) (fun i => Value.long (fP i)) := (A_P.keep p123_0 (ninS ne_P_R nin0))
        have f146 : Exa Z T123.heap a1 "com/example/always_over_paths/alwaysoverpaths/explicit/MarkingTable" := (E_a1.keep p123_0)
        obtain ⟨cq142, q142, q142'⟩ := f146.cell
        obtain ⟨_, _, ⟨T142, L142, k142, n142⟩, -, X142, ⟨Lc142, hQ142, l142, y142, z142⟩, st142⟩ := X139.privateBack hx (y := (⟨"com/example/always_over_paths/alwaysoverpaths/explicit/MarkingTable", "holdsProbe", "(I)Z"⟩ : MethodName)) hown (mvT hZ (hw _ (List.mem_of_getElem? (i := 81) rfl))) (mvT hZ (hw _ (List.mem_of_getElem? (i := 82) rfl))) (own_selp (y := (⟨"com/example/always_over_paths/alwaysoverpaths/explicit/MarkingTable", "holdsProbe", "(I)Z"⟩ : MethodName)) (mvT hZ (hw _ (List.mem_of_getElem? (i := 3) rfl))) (mvP hZ (hw _ (List.mem_of_getElem? (i := 83) rfl))) (mvT hZ (hw _ (List.mem_of_getElem? (i := 82) rfl))) (by decide)) (Cond.privateMethod_at (mvP hZ (hw _ (List.mem_of_getElem? (i := 83) rfl)) (args := #[]))) (mvT hZ (hw _ (List.mem_of_getElem? (i := 84) rfl))) (by decide) (backOf (W := 0) (rmhp1 l Z a0 hw [] a1 B P R kP kR fP fr126 T123.heap n0 z124 f143 f133 f144 f131 f145 V126 hf141) hZ (hw _ (List.mem_of_getElem? (i := 84) rfl)) (hw _ (List.mem_of_getElem? (i := 4) rfl)) (by decide) (by decide)) (g := (mkF m 143 #[vr a1, vr a2, vi ((((0 : Int32) ||| (mf 0)) ||| (mf 1)) ||| (mf 2)), vi N, vi (31 : Int32), vi (own_sl B (mf 0) (mf 1) (mf 2)), vi (0 : Int32)] [(.int (0 : Int32)), (.ref a1)])) rfl (by rw [hml]; rfl) (Steps.refl _) (a := a1) (by rw [e139]; exact q142) q142' (argsL := [(.int (0 : Int32))]) (rest := []) (lenOf pd_8 rfl) rfl (by show 2 * 0 + _ ≤ _; exact Nat.le_of_eq rfl) (hb hby d5_143) (fun _ _ => ⟨rfl, e139, (by decide : 0 + 0 ≤ _), (by decide : 0 + 0 ≤ _)⟩)
        dsimp only [Pt.U, Pt.locs, Pt.cells, Pt.slots] at X142 l142 y142 z142 st142 hQ142
        subst y142 z142
        obtain ⟨rfl, N142q, eq142⟩ := hQ142
        have N142 : Fr n0 L142 := by rw [l142]; exact Fr.app N135 N142q
        obtain ⟨fs, hr, hrun, hended, hW, hsame⟩ := X142.leave (v := some (.int (0 : Int32))) (fun h => by rw [Bd.returns] at h; cases h)
        refine ⟨_, _, ?_, hrun, hended, _, _, rfl, ?_, ⟨_, rfl⟩, hW, hsame.mono (by decide) (by decide)⟩
        · show Steps p.tables e below (T139.setTop (mkF m 140 #[vr a1, vr a2, vi ((((0 : Int32) ||| (mf 0)) ||| (mf 1)) ||| (mf 2)), vi N, vi (31 : Int32), vi (own_sl B (mf 0) (mf 1) (mf 2)), vi (0 : Int32)] [])) _
          refine XS.aloadN X139.here hx rfl (hb hby d5_140) rfl rfl ?_
          refine XS.iload X139.here hx rfl (hb hby d5_141) rfl ?_
          refine st142.trans ?_
          refine XS.ifNo X142.here hx rfl (hb hby d5_146) rfl ((if0 _ _).trans (feq (by decide : ¬ ((1 : Int32) = (0 : Int32)))).1) ?_
          refine XS.iload X142.here hx rfl (hb hby d5_149) rfl ?_
          exact retI X142 hx Bd.returns (hb hby d5_151) hr
        · show Qad1 Z a1 a2 B P R S kP kR kS fP fR kM mf x0 x1 x2 h0 n0 _ T142.heap _
          rw [eq142]
          exact ⟨P, kP, fP, B, (congrArg (fun z => some (Value.int z)) (Eq.symm (if_pos ((own_pweq hBq hxq hpr bxq bm).mp hf141)))), N142, K125, (Or.inl rfl), f146, f143, f133, f144, f145, hBq, bxq, bm, hxq, (fun q => absurd ((own_pweq hBq hxq hpr bxq bm).mp hf141) q)⟩
      · have f148 : Fld Z T123.heap a1 "com/example/always_over_paths/alwaysoverpaths/explicit/MarkingTable" "bits" "I" (.int B) := (F_bits_a1.keep p123_0 (ninS ne_a1_R nin0))
        have f149 : Fld Z T123.heap a1 "com/example/always_over_paths/alwaysoverpaths/explicit/MarkingTable" "packed" "[J" (.ref P) := (F_packed_a1.keep p123_0 (ninS ne_a1_R nin0))
        have f150 : AV Z T123.heap P kP .long (16 * (own_W B).toNatClampNeg) (fun i => Value.long (fP i)) := (A_P.keep p123_0 (ninS ne_P_R nin0))
        have f151 : Exa Z T123.heap a1 "com/example/always_over_paths/alwaysoverpaths/explicit/MarkingTable" := (E_a1.keep p123_0)
        obtain ⟨cq147, q147, q147'⟩ := f151.cell
        obtain ⟨_, _, ⟨T147, L147, k147, n147⟩, -, X147, ⟨Lc147, hQ147, l147, y147, z147⟩, st147⟩ := X139.privateBack hx (y := (⟨"com/example/always_over_paths/alwaysoverpaths/explicit/MarkingTable", "holdsProbe", "(I)Z"⟩ : MethodName)) hown (mvT hZ (hw _ (List.mem_of_getElem? (i := 81) rfl))) (mvT hZ (hw _ (List.mem_of_getElem? (i := 82) rfl))) (own_selp (y := (⟨"com/example/always_over_paths/alwaysoverpaths/explicit/MarkingTable", "holdsProbe", "(I)Z"⟩ : MethodName)) (mvT hZ (hw _ (List.mem_of_getElem? (i := 3) rfl))) (mvP hZ (hw _ (List.mem_of_getElem? (i := 83) rfl))) (mvT hZ (hw _ (List.mem_of_getElem? (i := 82) rfl))) (by decide)) (Cond.privateMethod_at (mvP hZ (hw _ (List.mem_of_getElem? (i := 83) rfl)) (args := #[]))) (mvT hZ (hw _ (List.mem_of_getElem? (i := 84) rfl))) (by decide) (backOf (W := 0) (rmhp0 l Z a0 hw [] a1 B P R kP kR fP fr126 T123.heap n0 z124 f148 f133 f149 f131 f150 V126 hf141) hZ (hw _ (List.mem_of_getElem? (i := 84) rfl)) (hw _ (List.mem_of_getElem? (i := 4) rfl)) (by decide) (by decide)) (g := (mkF m 143 #[vr a1, vr a2, vi ((((0 : Int32) ||| (mf 0)) ||| (mf 1)) ||| (mf 2)), vi N, vi (31 : Int32), vi (own_sl B (mf 0) (mf 1) (mf 2)), vi (0 : Int32)] [(.int (0 : Int32)), (.ref a1)])) rfl (by rw [hml]; rfl) (Steps.refl _) (a := a1) (by rw [e139]; exact q147) q147' (argsL := [(.int (0 : Int32))]) (rest := []) (lenOf pd_8 rfl) rfl (by show 2 * 0 + _ ≤ _; exact Nat.le_of_eq rfl) (hb hby d5_143) (fun _ _ => ⟨rfl, e139, (by decide : 0 + 0 ≤ _), (by decide : 0 + 0 ≤ _)⟩)
        dsimp only [Pt.U, Pt.locs, Pt.cells, Pt.slots] at X147 l147 y147 z147 st147 hQ147
        subst y147 z147
        obtain ⟨rfl, N147q, eq147⟩ := hQ147
        have N147 : Fr n0 L147 := by rw [l147]; exact Fr.app N135 N147q
        obtain ⟨T152, X152, e152, st152⟩ := getF X147 hx hZ hown (host := "") (Or.inl (hw _ (List.mem_of_getElem? (i := 29) rfl))) Via.refl eq147 f127 (g := (mkF m 120 #[vr a1, vr a2, vi ((((0 : Int32) ||| (mf 0)) ||| (mf 1)) ||| (mf 2)), vi N, vi (31 : Int32), vi (((own_sl B (mf 0) (mf 1) (mf 2)) + (1 : Int32)) &&& (31 : Int32)), vi (0 : Int32)] [(.ref a1)])) rfl rfl (hb hby d5_120)
        obtain ⟨cl153, Ar153, kc153, sz153, -, hv153⟩ := id f130
        have hin153 : ¬ ((((own_sl B (mf 0) (mf 1) (mf 2)) + (1 : Int32)) &&& (31 : Int32)) < 0 ∨ cl153.slots.size ≤ ((((own_sl B (mf 0) (mf 1) (mf 2)) + (1 : Int32)) &&& (31 : Int32))).toNatClampNeg) := AV.inb sz153 (own_slin (own_nxt (own_slr B (mf 0) (mf 1) (mf 2))).1)
        have hat153 : cl153.slots[((((own_sl B (mf 0) (mf 1) (mf 2)) + (1 : Int32)) &&& (31 : Int32))).toNatClampNeg]? = some (.int (0 : Int32)) := (hv153 _ (AV.inx (own_slin (own_nxt (own_slr B (mf 0) (mf 1) (mf 2))).1))).trans (congrArg some (congrArg Value.int (own_upz (own_slr B (mf 0) (mf 1) (mf 2)) hf136)))
        have f155 : Fld Z T123.heap a1 "com/example/always_over_paths/alwaysoverpaths/explicit/MarkingTable" "size" "I" (.int (1 : Int32)) := (F_size_a1.keep p123_0 (ninS ne_a1_R nin0))
        obtain ⟨cq154, q154, q154'⟩ := f151.cell
        obtain ⟨_, _, ⟨T154, L154, k154, n154⟩, -, X154, ⟨Lc154, hQ154, l154, y154, z154⟩, st154⟩ := X152.privateBack hx (y := (⟨"com/example/always_over_paths/alwaysoverpaths/explicit/MarkingTable", "ensureRoomForOneMore", "()V"⟩ : MethodName)) hown (mvT hZ (hw _ (List.mem_of_getElem? (i := 65) rfl))) (mvT hZ (hw _ (List.mem_of_getElem? (i := 66) rfl))) (own_selp (y := (⟨"com/example/always_over_paths/alwaysoverpaths/explicit/MarkingTable", "ensureRoomForOneMore", "()V"⟩ : MethodName)) (mvT hZ (hw _ (List.mem_of_getElem? (i := 3) rfl))) (mvP hZ (hw _ (List.mem_of_getElem? (i := 67) rfl))) (mvT hZ (hw _ (List.mem_of_getElem? (i := 66) rfl))) (by decide)) (Cond.privateMethod_at (mvP hZ (hw _ (List.mem_of_getElem? (i := 67) rfl)) (args := #[]))) (mvT hZ (hw _ (List.mem_of_getElem? (i := 68) rfl))) (by decide) (backOf (W := 0) (rmer l Z a0 hw [] a1 B (1 : Int32) P kP fP T123.heap n0 z124 f148 f155 f133 f149 f150 (Or.inr rfl)) hZ (hw _ (List.mem_of_getElem? (i := 68) rfl)) (hw _ (List.mem_of_getElem? (i := 4) rfl)) (by decide) (by decide)) (g := (mkF m 165 #[vr a1, vr a2, vi ((((0 : Int32) ||| (mf 0)) ||| (mf 1)) ||| (mf 2)), vi N, vi (31 : Int32), vi (((own_sl B (mf 0) (mf 1) (mf 2)) + (1 : Int32)) &&& (31 : Int32)), vi (0 : Int32)] [(.ref a1)])) rfl (by rw [hml]; rfl) (Steps.refl _) (a := a1) (by rw [e152]; exact q154) q154' (argsL := []) (rest := []) (lenOf pd_7 rfl) rfl (by show 2 * 0 + _ ≤ _; exact Nat.le_of_eq rfl) (hb hby d5_165) (fun _ _ => ⟨rfl, e152, (by decide : 0 + 0 ≤ _), (by decide : 0 + 0 ≤ _)⟩)
        dsimp only [Pt.U, Pt.locs, Pt.cells, Pt.slots] at X154 l154 y154 z154 st154 hQ154
        subst y154 z154
        obtain ⟨rfl, N154q, eq154⟩ := hQ154
        have N154 : Fr n0 L154 := by rw [l154]; exact Fr.app N147 N154q
        obtain ⟨T156, X156, e156, st156⟩ := getF X154 hx hZ hown (host := "") (Or.inl (hw _ (List.mem_of_getElem? (i := 27) rfl))) Via.refl eq154 f131 (g := (mkF m 169 #[vr a1, vr a2, vi ((((0 : Int32) ||| (mf 0)) ||| (mf 1)) ||| (mf 2)), vi N, vi (31 : Int32), vi (((own_sl B (mf 0) (mf 1) (mf 2)) + (1 : Int32)) &&& (31 : Int32)), vi (0 : Int32)] [(.ref a1)])) rfl rfl (hb hby d5_169)
        obtain ⟨T157, X157, e157, st157⟩ := getF X156 hx hZ hown (host := "") (Or.inl (hw _ (List.mem_of_getElem? (i := 25) rfl))) Via.refl e156 f149 (g := (mkF m 174 #[vr a1, vr a2, vi ((((0 : Int32) ||| (mf 0)) ||| (mf 1)) ||| (mf 2)), vi N, vi (31 : Int32), vi (((own_sl B (mf 0) (mf 1) (mf 2)) + (1 : Int32)) &&& (31 : Int32)), vi (0 : Int32)] [(.ref a1), (.int (0 : Int32)), (.ref R)])) rfl rfl (hb hby d5_174)
        obtain ⟨T158, X158, e158, st158⟩ := getF X157 hx hZ hown (host := "") (Or.inl (hw _ (List.mem_of_getElem? (i := 46) rfl))) Via.refl e157 f155 (g := (mkF m 178 #[vr a1, vr a2, vi ((((0 : Int32) ||| (mf 0)) ||| (mf 1)) ||| (mf 2)), vi N, vi (31 : Int32), vi (((own_sl B (mf 0) (mf 1) (mf 2)) + (1 : Int32)) &&& (31 : Int32)), vi (0 : Int32)] [(.ref a1), (.ref P), (.int (0 : Int32)), (.ref R)])) rfl rfl (hb hby d5_178)
        obtain ⟨T159, X159, e159, st159⟩ := getF X158 hx hZ hown (host := "") (Or.inl (hw _ (List.mem_of_getElem? (i := 22) rfl))) Via.refl e158 f133 (g := (mkF m 182 #[vr a1, vr a2, vi ((((0 : Int32) ||| (mf 0)) ||| (mf 1)) ||| (mf 2)), vi N, vi (31 : Int32), vi (((own_sl B (mf 0) (mf 1) (mf 2)) + (1 : Int32)) &&& (31 : Int32)), vi (0 : Int32)] [(.ref a1), (.int (1 : Int32)), (.ref P), (.int (0 : Int32)), (.ref R)])) rfl rfl (hb hby d5_182)
        refine GoalS.lift (B := (T159.setTop (mkF m 186 #[vr a1, vr a2, vi ((((0 : Int32) ||| (mf 0)) ||| (mf 1)) ||| (mf 2)), vi N, vi (31 : Int32), vi (((own_sl B (mf 0) (mf 1) (mf 2)) + (1 : Int32)) &&& (31 : Int32)), vi (0 : Int32)] [(.int ((1 : Int32) * (own_W B))), (.ref P), (.int (0 : Int32)), (.ref R)]))) (fun t k => ?_) ?_
        · show Steps p.tables e below (T139.setTop (mkF m 140 #[vr a1, vr a2, vi ((((0 : Int32) ||| (mf 0)) ||| (mf 1)) ||| (mf 2)), vi N, vi (31 : Int32), vi (own_sl B (mf 0) (mf 1) (mf 2)), vi (0 : Int32)] [])) _
          refine XS.aloadN X139.here hx rfl (hb hby d5_140) rfl rfl ?_
          refine XS.iload X139.here hx rfl (hb hby d5_141) rfl ?_
          refine st147.trans ?_
          refine XS.ifYes X147.here hx rfl (pc0 := 146) (pc' := 152) rfl (hb hby d5_146) rfl ((if0 _ _).trans (teq (by decide : (0 : Int32) = (0 : Int32))).1) (by decide) (by decide) ?_
          refine XS.iload X147.here hx rfl (hb hby d5_152) rfl ?_
          refine XS.iconst X147.here hx rfl (hb hby d5_154) ?_
          show Steps p.tables e below (T147.setTop (mkF m 155 #[vr a1, vr a2, vi ((((0 : Int32) ||| (mf 0)) ||| (mf 1)) ||| (mf 2)), vi N, vi (31 : Int32), vi (own_sl B (mf 0) (mf 1) (mf 2)), vi (0 : Int32)] [(.int (1 : Int32)), (.int (own_sl B (mf 0) (mf 1) (mf 2)))])) _
          refine XS.iadd X147.here hx rfl (hb hby d5_155) rfl ?_
          refine XS.iload X147.here hx rfl (hb hby d5_156) rfl ?_
          refine XS.iand X147.here hx rfl (hb hby d5_158) rfl ?_
          refine XS.istore X147.here hx rfl (hb hby d5_159) rfl (l' := #[vr a1, vr a2, vi ((((0 : Int32) ||| (mf 0)) ||| (mf 1)) ||| (mf 2)), vi N, vi (31 : Int32), vi (((own_sl B (mf 0) (mf 1) (mf 2)) + (1 : Int32)) &&& (31 : Int32)), vi (0 : Int32)]) rfl ?_
          refine XS.goto X147.here hx rfl (pc0 := 161) (pc' := 119) rfl (hb hby d5_161) (by decide) (by decide) ?_
          refine XS.aloadN X147.here hx rfl (hb hby d5_119) rfl rfl ?_
          show Steps p.tables e below (T147.setTop (mkF m 120 #[vr a1, vr a2, vi ((((0 : Int32) ||| (mf 0)) ||| (mf 1)) ||| (mf 2)), vi N, vi (31 : Int32), vi (((own_sl B (mf 0) (mf 1) (mf 2)) + (1 : Int32)) &&& (31 : Int32)), vi (0 : Int32)] [(.ref a1)])) _
          refine st152 _ ?_
          refine XS.iload X152.here hx rfl (hb hby d5_123) rfl ?_
          refine X152.iaload hx (j := (((own_sl B (mf 0) (mf 1) (mf 2)) + (1 : Int32)) &&& (31 : Int32))) (v := (.int (0 : Int32))) (by rw [e152]; exact Ar153.1) (State.isArrayOf_alike hZ.alike Ar153.2.1) Ar153.2.2 hin153 hat153 (g := (mkF m 125 #[vr a1, vr a2, vi ((((0 : Int32) ||| (mf 0)) ||| (mf 1)) ||| (mf 2)), vi N, vi (31 : Int32), vi (((own_sl B (mf 0) (mf 1) (mf 2)) + (1 : Int32)) &&& (31 : Int32)), vi (0 : Int32)] [(.int (((own_sl B (mf 0) (mf 1) (mf 2)) + (1 : Int32)) &&& (31 : Int32))), (.ref S)])) rfl rfl (hb hby d5_125) _ ?_
          refine XS.ifYes X152.here hx rfl (pc0 := 126) (pc' := 164) rfl (hb hby d5_126) rfl ((if0 _ _).trans (teq (by decide : (0 : Int32) = (0 : Int32))).1) (by decide) (by decide) ?_
          refine XS.aloadN X152.here hx rfl (hb hby d5_164) rfl rfl ?_
          refine st154.trans ?_
          show Steps p.tables e below (T154.setTop (mkF m 168 #[vr a1, vr a2, vi ((((0 : Int32) ||| (mf 0)) ||| (mf 1)) ||| (mf 2)), vi N, vi (31 : Int32), vi (((own_sl B (mf 0) (mf 1) (mf 2)) + (1 : Int32)) &&& (31 : Int32)), vi (0 : Int32)] [])) _
          refine XS.aloadN X154.here hx rfl (hb hby d5_168) rfl rfl ?_
          refine st156 _ ?_
          refine XS.iconst X156.here hx rfl (hb hby d5_172) ?_
          refine XS.aloadN X156.here hx rfl (hb hby d5_173) rfl rfl ?_
          refine st157 _ ?_
          refine XS.aloadN X157.here hx rfl (hb hby d5_177) rfl rfl ?_
          show Steps p.tables e below (T157.setTop (mkF m 178 #[vr a1, vr a2, vi ((((0 : Int32) ||| (mf 0)) ||| (mf 1)) ||| (mf 2)), vi N, vi (31 : Int32), vi (((own_sl B (mf 0) (mf 1) (mf 2)) + (1 : Int32)) &&& (31 : Int32)), vi (0 : Int32)] [(.ref a1), (.ref P), (.int (0 : Int32)), (.ref R)])) _
          refine st158 _ ?_
          refine XS.aloadN X158.here hx rfl (hb hby d5_181) rfl rfl ?_
          refine st159 _ ?_
          refine XS.imul X159.here hx rfl (hb hby d5_185) rfl ?_
          exact k
        refine GoalS.lift (B := (T159.setTop (mkF m 186 #[vr a1, vr a2, vi ((((0 : Int32) ||| (mf 0)) ||| (mf 1)) ||| (mf 2)), vi N, vi (31 : Int32), vi (((own_sl B (mf 0) (mf 1) (mf 2)) + (1 : Int32)) &&& (31 : Int32)), vi (0 : Int32)] [(.int (own_W B)), (.ref P), (.int (0 : Int32)), (.ref R)]))) (fun t k => by rw [Int32.one_mul]; exact k) ?_
        obtain ⟨T160, X160, e160, st160⟩ := getF X159 hx hZ hown (host := "") (Or.inl (hw _ (List.mem_of_getElem? (i := 22) rfl))) Via.refl e159 f133 (g := (mkF m 187 #[vr a1, vr a2, vi ((((0 : Int32) ||| (mf 0)) ||| (mf 1)) ||| (mf 2)), vi N, vi (31 : Int32), vi (((own_sl B (mf 0) (mf 1) (mf 2)) + (1 : Int32)) &&& (31 : Int32)), vi (0 : Int32)] [(.ref a1), (.int (own_W B)), (.ref P), (.int (0 : Int32)), (.ref R)])) rfl rfl (hb hby d5_187)
        have wge161 := own_Wge B
        obtain ⟨T161, h161, L161, X161, e161, N161, K161, A161, st161⟩ := own_cp X160 hx hZ hown (hw _ (List.mem_of_getElem? (i := 69) rfl)) (hw _ (List.mem_of_getElem? (i := 72) rfl)) (hw _ (List.mem_of_getElem? (i := 70) rfl)) (hw _ (List.mem_of_getElem? (i := 71) rfl)) e160 (d := (own_W B).toNatClampNeg) (w := (own_W B).toNatClampNeg) (dp := (own_W B)) (nn := (own_W B)) V126 f150 (own_Wneg B) (own_Wneg B) rfl rfl (Nat.le_refl _) (by omega) N154 g_P (fr := (mkF m 190 #[vr a1, vr a2, vi ((((0 : Int32) ||| (mf 0)) ||| (mf 1)) ||| (mf 2)), vi N, vi (31 : Int32), vi (((own_sl B (mf 0) (mf 1) (mf 2)) + (1 : Int32)) &&& (31 : Int32)), vi (0 : Int32)] [(.int (own_W B)), (.int (own_W B)), (.ref P), (.int (0 : Int32)), (.ref R)])) rfl (by rw [hml]; rfl) (rest := []) rfl (hb hby d5_190) (by decide) (W := 0) (by show 2 * 0 + _ ≤ _; exact Nat.le_of_eq rfl) (by decide)
        have z162 : n0 ≤ h161.size := Nat.le_trans z124 K161.1
        have K163 : Keep h0 h161 [a1, P, R, S] := K125.trans K161 (allS (Or.inl (List.mem_of_getElem? (i := 1) rfl)) all0)
        obtain ⟨fp164, hfp164⟩ : ∃ z, z = (own_cpf fr126 fP (own_W B).toNatClampNeg (own_W B).toNatClampNeg) := ⟨_, rfl⟩
        have V164 : AV Z h161 P kP .long (16 * (own_W B).toNatClampNeg) (fun i => Value.long (fp164 i)) := by rw [hfp164]; exact A161
        have hpm : own_pw B (mf 0) (mf 1) (mf 2) fp164 (own_W B).toNatClampNeg := by rw [hfp164]; exact own_cp1 hpr
        have hpx : own_pw B x0 x1 x2 fp164 0 := by rw [hfp164]; exact own_cp2 hxq
        have f165 : Fld Z h161 a1 "com/example/always_over_paths/alwaysoverpaths/explicit/MarkingTable" "slots" "[I" (.ref S) := (f127.keep K161 (ninS ne_a1_P nin0))
        obtain ⟨T166, X166, e166, st166⟩ := getF X161 hx hZ hown (host := "") (Or.inl (hw _ (List.mem_of_getElem? (i := 29) rfl))) Via.refl e161 f165 (g := (mkF m 194 #[vr a1, vr a2, vi ((((0 : Int32) ||| (mf 0)) ||| (mf 1)) ||| (mf 2)), vi N, vi (31 : Int32), vi (((own_sl B (mf 0) (mf 1) (mf 2)) + (1 : Int32)) &&& (31 : Int32)), vi (0 : Int32)] [(.ref a1)])) rfl rfl (hb hby d5_194)
        have f167 : Fld Z h161 a1 "com/example/always_over_paths/alwaysoverpaths/explicit/MarkingTable" "size" "I" (.int (1 : Int32)) := (f155.keep K161 (ninS ne_a1_P nin0))
        obtain ⟨T168, X168, e168, st168⟩ := getF X166 hx hZ hown (host := "") (Or.inl (hw _ (List.mem_of_getElem? (i := 46) rfl))) Via.refl e166 f167 (g := (mkF m 200 #[vr a1, vr a2, vi ((((0 : Int32) ||| (mf 0)) ||| (mf 1)) ||| (mf 2)), vi N, vi (31 : Int32), vi (((own_sl B (mf 0) (mf 1) (mf 2)) + (1 : Int32)) &&& (31 : Int32)), vi (0 : Int32)] [(.ref a1), (.int (((own_sl B (mf 0) (mf 1) (mf 2)) + (1 : Int32)) &&& (31 : Int32))), (.ref S)])) rfl rfl (hb hby d5_200)
        have f170 : AV Z h161 S kS .int 32 (fun i => Value.int ((updI (fun _ => (0 : Int32)) (own_sl B x0 x1 x2).toNatClampNeg (1 : Int32)) i)) := (f130.keep K161 (ninS (Ne.symm ne_P_S) nin0))
        obtain ⟨cl169, Ar169, kc169, sz169, -, -⟩ := id f170
        have hin169 : ¬ ((((own_sl B (mf 0) (mf 1) (mf 2)) + (1 : Int32)) &&& (31 : Int32)) < 0 ∨ cl169.slots.size ≤ ((((own_sl B (mf 0) (mf 1) (mf 2)) + (1 : Int32)) &&& (31 : Int32))).toNatClampNeg) := AV.inb sz169 (own_slin (own_nxt (own_slr B (mf 0) (mf 1) (mf 2))).1)
        obtain ⟨T169, h169, X169, e169, W169, st169⟩ := stI X168 hx hZ e168 Ar169 (j := (((own_sl B (mf 0) (mf 1) (mf 2)) + (1 : Int32)) &&& (31 : Int32))) hin169 (g := (mkF m 205 #[vr a1, vr a2, vi ((((0 : Int32) ||| (mf 0)) ||| (mf 1)) ||| (mf 2)), vi N, vi (31 : Int32), vi (((own_sl B (mf 0) (mf 1) (mf 2)) + (1 : Int32)) &&& (31 : Int32)), vi (0 : Int32)] [(.int (2 : Int32)), (.int (((own_sl B (mf 0) (mf 1) (mf 2)) + (1 : Int32)) &&& (31 : Int32))), (.ref S)])) rfl rfl (hb hby d5_205)
        have z171 : n0 ≤ h169.size := Nat.le_trans z162 (Keep.of_wr W169).1
        have K172 : Keep h0 h169 [a1, P, R, S] := K163.wr W169 (Or.inl (List.mem_of_getElem? (i := 3) rfl))
        have V169 : AV Z h169 S kS .int 32 (fun i => Value.int ((updI (updI (fun _ => (0 : Int32)) (own_sl B x0 x1 x2).toNatClampNeg (1 : Int32)) ((((own_sl B (mf 0) (mf 1) (mf 2)) + (1 : Int32)) &&& (31 : Int32))).toNatClampNeg (2 : Int32)) i)) := AV.putI f170 W169 (AV.inx (own_slin (own_nxt (own_slr B (mf 0) (mf 1) (mf 2))).1))
        have N169 := Fr.snoc X169 N161 g_S
        have f173 : Fld Z h169 a1 "com/example/always_over_paths/alwaysoverpaths/explicit/MarkingTable" "size" "I" (.int (1 : Int32)) := (f167.other W169 (Or.inl ne_a1_S))
        obtain ⟨T174, X174, e174, st174⟩ := getF X169 hx hZ hown (host := "") (Or.inl (hw _ (List.mem_of_getElem? (i := 46) rfl))) Via.refl e169 f173 (g := (mkF m 208 #[vr a1, vr a2, vi ((((0 : Int32) ||| (mf 0)) ||| (mf 1)) ||| (mf 2)), vi N, vi (31 : Int32), vi (((own_sl B (mf 0) (mf 1) (mf 2)) + (1 : Int32)) &&& (31 : Int32)), vi (0 : Int32)] [(.ref a1), (.ref a1)])) rfl rfl (hb hby d5_208)
        have f175 : Exa Z h169 a1 "com/example/always_over_paths/alwaysoverpaths/explicit/MarkingTable" := ((f151.keep K161).wr W169)
        obtain ⟨T176, h176, X176, e176, W176, st176⟩ := putF X174 hx hZ hown (host := "") (Or.inl (hw _ (List.mem_of_getElem? (i := 46) rfl))) Via.refl e174 f173 f175 (Or.inl (hw _ (List.mem_of_getElem? (i := 47) rfl))) (hw _ (List.mem_of_getElem? (i := 3) rfl)) (ty := .int) (by decide) rfl rfl (g := (mkF m 214 #[vr a1, vr a2, vi ((((0 : Int32) ||| (mf 0)) ||| (mf 1)) ||| (mf 2)), vi N, vi (31 : Int32), vi (((own_sl B (mf 0) (mf 1) (mf 2)) + (1 : Int32)) &&& (31 : Int32)), vi (0 : Int32)] [(.int (2 : Int32)), (.ref a1), (.int (1 : Int32))])) rfl rfl (hb hby d5_214)
        have z177 : n0 ≤ h176.size := Nat.le_trans z171 (Keep.of_wr W176).1
        have K178 : Keep h0 h176 [a1, P, R, S] := K172.wr W176 (Or.inl (List.mem_of_getElem? (i := 0) rfl))
        have Fw176 : Fld Z h176 a1 "com/example/always_over_paths/alwaysoverpaths/explicit/MarkingTable" "size" "I" (.int (2 : Int32)) := f173.same W176
        have N176 := Fr.snoc X176 N169 g_a1
        obtain ⟨fs, hr, hrun, hended, hW, hsame⟩ := X176.leave (v := some (.int (1 : Int32))) (fun h => by rw [Bd.returns] at h; cases h)
        refine ⟨_, _, ?_, hrun, hended, _, _, rfl, ?_, ⟨_, rfl⟩, hW, hsame.mono (by decide) (by decide)⟩
        · show Steps p.tables e below (T159.setTop (mkF m 186 #[vr a1, vr a2, vi ((((0 : Int32) ||| (mf 0)) ||| (mf 1)) ||| (mf 2)), vi N, vi (31 : Int32), vi (((own_sl B (mf 0) (mf 1) (mf 2)) + (1 : Int32)) &&& (31 : Int32)), vi (0 : Int32)] [(.int (own_W B)), (.ref P), (.int (0 : Int32)), (.ref R)])) _
          refine XS.aloadN X159.here hx rfl (hb hby d5_186) rfl rfl ?_
          refine st160 _ ?_
          refine st161 _ ?_
          refine XS.aloadN X161.here hx rfl (hb hby d5_193) rfl rfl ?_
          refine st166 _ ?_
          refine XS.iload X166.here hx rfl (hb hby d5_197) rfl ?_
          show Steps p.tables e below (T166.setTop (mkF m 199 #[vr a1, vr a2, vi ((((0 : Int32) ||| (mf 0)) ||| (mf 1)) ||| (mf 2)), vi N, vi (31 : Int32), vi (((own_sl B (mf 0) (mf 1) (mf 2)) + (1 : Int32)) &&& (31 : Int32)), vi (0 : Int32)] [(.int (((own_sl B (mf 0) (mf 1) (mf 2)) + (1 : Int32)) &&& (31 : Int32))), (.ref S)])) _
          refine XS.aloadN X166.here hx rfl (hb hby d5_199) rfl rfl ?_
          refine st168 _ ?_
          refine XS.iconst X168.here hx rfl (hb hby d5_203) ?_
          refine XS.iadd X168.here hx rfl (hb hby d5_204) rfl ?_
          refine st169 _ ?_
          refine XS.aloadN X169.here hx rfl (hb hby d5_206) rfl rfl ?_
          show Steps p.tables e below (T169.setTop (mkF m 207 #[vr a1, vr a2, vi ((((0 : Int32) ||| (mf 0)) ||| (mf 1)) ||| (mf 2)), vi N, vi (31 : Int32), vi (((own_sl B (mf 0) (mf 1) (mf 2)) + (1 : Int32)) &&& (31 : Int32)), vi (0 : Int32)] [(.ref a1)])) _
          refine XS.dup X169.here hx rfl (hb hby d5_207) rfl rfl ?_
          refine st174 _ ?_
          refine XS.dupX1 X174.here hx rfl (hb hby d5_211) rfl rfl rfl ?_
          refine XS.iconst X174.here hx rfl (hb hby d5_212) ?_
          refine XS.iadd X174.here hx rfl (hb hby d5_213) rfl ?_
          refine st176 _ ?_
          show Steps p.tables e below (T176.setTop (mkF m 217 #[vr a1, vr a2, vi ((((0 : Int32) ||| (mf 0)) ||| (mf 1)) ||| (mf 2)), vi N, vi (31 : Int32), vi (((own_sl B (mf 0) (mf 1) (mf 2)) + (1 : Int32)) &&& (31 : Int32)), vi (0 : Int32)] [(.int (1 : Int32))])) _
          exact retI X176 hx Bd.returns (hb hby d5_217) hr
        · have f179 : Exa Z h176 a1 "com/example/always_over_paths/alwaysoverpaths/explicit/MarkingTable" := (f175.wr W176)
          have f180 : Fld Z h176 a1 "com/example/always_over_paths/alwaysoverpaths/explicit/MarkingTable" "bits" "I" (.int B) := (((f148.keep K161 (ninS ne_a1_P nin0)).other W169 (Or.inl ne_a1_S)).other W176 (Or.inr (slot_ne (Or.inl (hw _ (List.mem_of_getElem? (i := 14) rfl))) (Or.inl (hw _ (List.mem_of_getElem? (i := 47) rfl))) (by decide) (t := .int) (t' := .int) (by decide) (by decide))))
          have f181 : Fld Z h176 a1 "com/example/always_over_paths/alwaysoverpaths/explicit/MarkingTable" "words" "I" (.int (own_W B)) := (((f133.keep K161 (ninS ne_a1_P nin0)).other W169 (Or.inl ne_a1_S)).other W176 (Or.inr (slot_ne (Or.inl (hw _ (List.mem_of_getElem? (i := 23) rfl))) (Or.inl (hw _ (List.mem_of_getElem? (i := 47) rfl))) (by decide) (t := .int) (t' := .int) (by decide) (by decide))))
          have f182 : Fld Z h176 a1 "com/example/always_over_paths/alwaysoverpaths/explicit/MarkingTable" "packed" "[J" (.ref P) := (((f149.keep K161 (ninS ne_a1_P nin0)).other W169 (Or.inl ne_a1_S)).other W176 (Or.inr (slot_ne (Or.inl (hw _ (List.mem_of_getElem? (i := 26) rfl))) (Or.inl (hw _ (List.mem_of_getElem? (i := 47) rfl))) (by decide) (t := (.array .long)) (t' := .int) (by decide) (by decide))))
          have f183 : AV Z h176 P kP .long (16 * (own_W B).toNatClampNeg) (fun i => Value.long (fp164 i)) := ((V164.other W169 ne_P_S).other W176 (Ne.symm ne_a1_P))
          show Qad1 Z a1 a2 B P R S kP kR kS fP fR kM mf x0 x1 x2 h0 n0 _ T176.heap _
          rw [e176]
          exact ⟨P, kP, fp164, B, (congrArg (fun z => some (Value.int z)) (Eq.symm (if_neg (fun q => hf141 ((own_pweq hBq hxq hpr bxq bm).mpr q))))), N176, K178, (Or.inl rfl), f179, f180, f181, f182, f183, hBq, bxq, bm, hpx, (fun _ => hpm)⟩
    · obtain ⟨T184, X184, e184, st184⟩ := getF X135 hx hZ hown (host := "") (Or.inl (hw _ (List.mem_of_getElem? (i := 29) rfl))) Via.refl eq135 f127 (g := (mkF m 120 #[vr a1, vr a2, vi ((((0 : Int32) ||| (mf 0)) ||| (mf 1)) ||| (mf 2)), vi N, vi (31 : Int32), vi (own_sl B (mf 0) (mf 1) (mf 2)), vi (mf 2)] [(.ref a1)])) rfl rfl (hb hby d5_120)
      obtain ⟨cl185, Ar185, kc185, sz185, -, hv185⟩ := id f130
      have hin185 : ¬ ((own_sl B (mf 0) (mf 1) (mf 2)) < 0 ∨ cl185.slots.size ≤ ((own_sl B (mf 0) (mf 1) (mf 2))).toNatClampNeg) := AV.inb sz185 (own_slin (own_slr B (mf 0) (mf 1) (mf 2)))
      have hat185 : cl185.slots[((own_sl B (mf 0) (mf 1) (mf 2))).toNatClampNeg]? = some (.int (0 : Int32)) := (hv185 _ (AV.inx (own_slin (own_slr B (mf 0) (mf 1) (mf 2))))).trans (congrArg some (congrArg Value.int (own_upn (own_slr B x0 x1 x2) (own_slr B (mf 0) (mf 1) (mf 2)) hf136)))
      have f187 : Fld Z T123.heap a1 "com/example/always_over_paths/alwaysoverpaths/explicit/MarkingTable" "bits" "I" (.int B) := (F_bits_a1.keep p123_0 (ninS ne_a1_R nin0))
      have f188 : Fld Z T123.heap a1 "com/example/always_over_paths/alwaysoverpaths/explicit/MarkingTable" "size" "I" (.int (1 : Int32)) := (F_size_a1.keep p123_0 (ninS ne_a1_R nin0))
      have f189 : Fld Z T123.heap a1 "com/example/always_over_paths/alwaysoverpaths/explicit/MarkingTable" "packed" "[J" (.ref P) := (F_packed_a1.keep p123_0 (ninS ne_a1_R nin0))
      have f190 : AV Z T123.heap P kP .long (16 * (own_W B).toNatClampNeg) (fun i => Value.long (fP i)) := (A_P.keep p123_0 (ninS ne_P_R nin0))
      have f191 : Exa Z T123.heap a1 "com/example/always_over_paths/alwaysoverpaths/explicit/MarkingTable" := (E_a1.keep p123_0)
      obtain ⟨cq186, q186, q186'⟩ := f191.cell
      obtain ⟨_, _, ⟨T186, L186, k186, n186⟩, -, X186, ⟨Lc186, hQ186, l186, y186, z186⟩, st186⟩ := X184.privateBack hx (y := (⟨"com/example/always_over_paths/alwaysoverpaths/explicit/MarkingTable", "ensureRoomForOneMore", "()V"⟩ : MethodName)) hown (mvT hZ (hw _ (List.mem_of_getElem? (i := 65) rfl))) (mvT hZ (hw _ (List.mem_of_getElem? (i := 66) rfl))) (own_selp (y := (⟨"com/example/always_over_paths/alwaysoverpaths/explicit/MarkingTable", "ensureRoomForOneMore", "()V"⟩ : MethodName)) (mvT hZ (hw _ (List.mem_of_getElem? (i := 3) rfl))) (mvP hZ (hw _ (List.mem_of_getElem? (i := 67) rfl))) (mvT hZ (hw _ (List.mem_of_getElem? (i := 66) rfl))) (by decide)) (Cond.privateMethod_at (mvP hZ (hw _ (List.mem_of_getElem? (i := 67) rfl)) (args := #[]))) (mvT hZ (hw _ (List.mem_of_getElem? (i := 68) rfl))) (by decide) (backOf (W := 0) (rmer l Z a0 hw [] a1 B (1 : Int32) P kP fP T123.heap n0 z124 f187 f188 f133 f189 f190 (Or.inr rfl)) hZ (hw _ (List.mem_of_getElem? (i := 68) rfl)) (hw _ (List.mem_of_getElem? (i := 4) rfl)) (by decide) (by decide)) (g := (mkF m 165 #[vr a1, vr a2, vi ((((0 : Int32) ||| (mf 0)) ||| (mf 1)) ||| (mf 2)), vi N, vi (31 : Int32), vi (own_sl B (mf 0) (mf 1) (mf 2)), vi (mf 2)] [(.ref a1)])) rfl (by rw [hml]; rfl) (Steps.refl _) (a := a1) (by rw [e184]; exact q186) q186' (argsL := []) (rest := []) (lenOf pd_7 rfl) rfl (by show 2 * 0 + _ ≤ _; exact Nat.le_of_eq rfl) (hb hby d5_165) (fun _ _ => ⟨rfl, e184, (by decide : 0 + 0 ≤ _), (by decide : 0 + 0 ≤ _)⟩)
      dsimp only [Pt.U, Pt.locs, Pt.cells, Pt.slots] at X186 l186 y186 z186 st186 hQ186
      subst y186 z186
      obtain ⟨rfl, N186q, eq186⟩ := hQ186
      have N186 : Fr n0 L186 := by rw [l186]; exact Fr.app N135 N186q
      obtain ⟨T192, X192, e192, st192⟩ := getF X186 hx hZ hown (host := "") (Or.inl (hw _ (List.mem_of_getElem? (i := 27) rfl))) Via.refl eq186 f131 (g := (mkF m 169 #[vr a1, vr a2, vi ((((0 : Int32) ||| (mf 0)) ||| (mf 1)) ||| (mf 2)), vi N, vi (31 : Int32), vi (own_sl B (mf 0) (mf 1) (mf 2)), vi (mf 2)] [(.ref a1)])) rfl rfl (hb hby d5_169)
      obtain ⟨T193, X193, e193, st193⟩ := getF X192 hx hZ hown (host := "") (Or.inl (hw _ (List.mem_of_getElem? (i := 25) rfl))) Via.refl e192 f189 (g := (mkF m 174 #[vr a1, vr a2, vi ((((0 : Int32) ||| (mf 0)) ||| (mf 1)) ||| (mf 2)), vi N, vi (31 : Int32), vi (own_sl B (mf 0) (mf 1) (mf 2)), vi (mf 2)] [(.ref a1), (.int (0 : Int32)), (.ref R)])) rfl rfl (hb hby d5_174)
      obtain ⟨T194, X194, e194, st194⟩ := getF X193 hx hZ hown (host := "") (Or.inl (hw _ (List.mem_of_getElem? (i := 46) rfl))) Via.refl e193 f188 (g := (mkF m 178 #[vr a1, vr a2, vi ((((0 : Int32) ||| (mf 0)) ||| (mf 1)) ||| (mf 2)), vi N, vi (31 : Int32), vi (own_sl B (mf 0) (mf 1) (mf 2)), vi (mf 2)] [(.ref a1), (.ref P), (.int (0 : Int32)), (.ref R)])) rfl rfl (hb hby d5_178)
      obtain ⟨T195, X195, e195, st195⟩ := getF X194 hx hZ hown (host := "") (Or.inl (hw _ (List.mem_of_getElem? (i := 22) rfl))) Via.refl e194 f133 (g := (mkF m 182 #[vr a1, vr a2, vi ((((0 : Int32) ||| (mf 0)) ||| (mf 1)) ||| (mf 2)), vi N, vi (31 : Int32), vi (own_sl B (mf 0) (mf 1) (mf 2)), vi (mf 2)] [(.ref a1), (.int (1 : Int32)), (.ref P), (.int (0 : Int32)), (.ref R)])) rfl rfl (hb hby d5_182)
      refine GoalS.lift (B := (T195.setTop (mkF m 186 #[vr a1, vr a2, vi ((((0 : Int32) ||| (mf 0)) ||| (mf 1)) ||| (mf 2)), vi N, vi (31 : Int32), vi (own_sl B (mf 0) (mf 1) (mf 2)), vi (mf 2)] [(.int ((1 : Int32) * (own_W B))), (.ref P), (.int (0 : Int32)), (.ref R)]))) (fun t k => ?_) ?_
      · show Steps p.tables e below (T135.setTop (mkF m 119 #[vr a1, vr a2, vi ((((0 : Int32) ||| (mf 0)) ||| (mf 1)) ||| (mf 2)), vi N, vi (31 : Int32), vi (own_sl B (mf 0) (mf 1) (mf 2)), vi (mf 2)] [])) _
        refine XS.aloadN X135.here hx rfl (hb hby d5_119) rfl rfl ?_
        refine st184 _ ?_
        refine XS.iload X184.here hx rfl (hb hby d5_123) rfl ?_
        refine X184.iaload hx (j := (own_sl B (mf 0) (mf 1) (mf 2))) (v := (.int (0 : Int32))) (by rw [e184]; exact Ar185.1) (State.isArrayOf_alike hZ.alike Ar185.2.1) Ar185.2.2 hin185 hat185 (g := (mkF m 125 #[vr a1, vr a2, vi ((((0 : Int32) ||| (mf 0)) ||| (mf 1)) ||| (mf 2)), vi N, vi (31 : Int32), vi (own_sl B (mf 0) (mf 1) (mf 2)), vi (mf 2)] [(.int (own_sl B (mf 0) (mf 1) (mf 2))), (.ref S)])) rfl rfl (hb hby d5_125) _ ?_
        refine XS.ifYes X184.here hx rfl (pc0 := 126) (pc' := 164) rfl (hb hby d5_126) rfl ((if0 _ _).trans (teq (by decide : (0 : Int32) = (0 : Int32))).1) (by decide) (by decide) ?_
        refine XS.aloadN X184.here hx rfl (hb hby d5_164) rfl rfl ?_
        show Steps p.tables e below (T184.setTop (mkF m 165 #[vr a1, vr a2, vi ((((0 : Int32) ||| (mf 0)) ||| (mf 1)) ||| (mf 2)), vi N, vi (31 : Int32), vi (own_sl B (mf 0) (mf 1) (mf 2)), vi (mf 2)] [(.ref a1)])) _
        refine st186.trans ?_
        refine XS.aloadN X186.here hx rfl (hb hby d5_168) rfl rfl ?_
        refine st192 _ ?_
        refine XS.iconst X192.here hx rfl (hb hby d5_172) ?_
        refine XS.aloadN X192.here hx rfl (hb hby d5_173) rfl rfl ?_
        refine st193 _ ?_
        show Steps p.tables e below (T193.setTop (mkF m 177 #[vr a1, vr a2, vi ((((0 : Int32) ||| (mf 0)) ||| (mf 1)) ||| (mf 2)), vi N, vi (31 : Int32), vi (own_sl B (mf 0) (mf 1) (mf 2)), vi (mf 2)] [(.ref P), (.int (0 : Int32)), (.ref R)])) _
        refine XS.aloadN X193.here hx rfl (hb hby d5_177) rfl rfl ?_
        refine st194 _ ?_
        refine XS.aloadN X194.here hx rfl (hb hby d5_181) rfl rfl ?_
        refine st195 _ ?_
        refine XS.imul X195.here hx rfl (hb hby d5_185) rfl ?_
        exact k
      refine GoalS.lift (B := (T195.setTop (mkF m 186 #[vr a1, vr a2, vi ((((0 : Int32) ||| (mf 0)) ||| (mf 1)) ||| (mf 2)), vi N, vi (31 : Int32), vi (own_sl B (mf 0) (mf 1) (mf 2)), vi (mf 2)] [(.int (own_W B)), (.ref P), (.int (0 : Int32)), (.ref R)]))) (fun t k => by rw [Int32.one_mul]; exact k) ?_
      obtain ⟨T196, X196, e196, st196⟩ := getF X195 hx hZ hown (host := "") (Or.inl (hw _ (List.mem_of_getElem? (i := 22) rfl))) Via.refl e195 f133 (g := (mkF m 187 #[vr a1, vr a2, vi ((((0 : Int32) ||| (mf 0)) ||| (mf 1)) ||| (mf 2)), vi N, vi (31 : Int32), vi (own_sl B (mf 0) (mf 1) (mf 2)), vi (mf 2)] [(.ref a1), (.int (own_W B)), (.ref P), (.int (0 : Int32)), (.ref R)])) rfl rfl (hb hby d5_187)
      have wge197 := own_Wge B
      obtain ⟨T197, h197, L197, X197, e197, N197, K197, A197, st197⟩ := own_cp X196 hx hZ hown (hw _ (List.mem_of_getElem? (i := 69) rfl)) (hw _ (List.mem_of_getElem? (i := 72) rfl)) (hw _ (List.mem_of_getElem? (i := 70) rfl)) (hw _ (List.mem_of_getElem? (i := 71) rfl)) e196 (d := (own_W B).toNatClampNeg) (w := (own_W B).toNatClampNeg) (dp := (own_W B)) (nn := (own_W B)) V126 f190 (own_Wneg B) (own_Wneg B) rfl rfl (Nat.le_refl _) (by omega) N186 g_P (fr := (mkF m 190 #[vr a1, vr a2, vi ((((0 : Int32) ||| (mf 0)) ||| (mf 1)) ||| (mf 2)), vi N, vi (31 : Int32), vi (own_sl B (mf 0) (mf 1) (mf 2)), vi (mf 2)] [(.int (own_W B)), (.int (own_W B)), (.ref P), (.int (0 : Int32)), (.ref R)])) rfl (by rw [hml]; rfl) (rest := []) rfl (hb hby d5_190) (by decide) (W := 0) (by show 2 * 0 + _ ≤ _; exact Nat.le_of_eq rfl) (by decide)
      have z198 : n0 ≤ h197.size := Nat.le_trans z124 K197.1
      have K199 : Keep h0 h197 [a1, P, R, S] := K125.trans K197 (allS (Or.inl (List.mem_of_getElem? (i := 1) rfl)) all0)
      obtain ⟨fp200, hfp200⟩ : ∃ z, z = (own_cpf fr126 fP (own_W B).toNatClampNeg (own_W B).toNatClampNeg) := ⟨_, rfl⟩
      have V200 : AV Z h197 P kP .long (16 * (own_W B).toNatClampNeg) (fun i => Value.long (fp200 i)) := by rw [hfp200]; exact A197
      have hpm : own_pw B (mf 0) (mf 1) (mf 2) fp200 (own_W B).toNatClampNeg := by rw [hfp200]; exact own_cp1 hpr
      have hpx : own_pw B x0 x1 x2 fp200 0 := by rw [hfp200]; exact own_cp2 hxq
      have f201 : Fld Z h197 a1 "com/example/always_over_paths/alwaysoverpaths/explicit/MarkingTable" "slots" "[I" (.ref S) := (f127.keep K197 (ninS ne_a1_P nin0))
      obtain ⟨T202, X202, e202, st202⟩ := getF X197 hx hZ hown (host := "") (Or.inl (hw _ (List.mem_of_getElem? (i := 29) rfl))) Via.refl e197 f201 (g := (mkF m 194 #[vr a1, vr a2, vi ((((0 : Int32) ||| (mf 0)) ||| (mf 1)) ||| (mf 2)), vi N, vi (31 : Int32), vi (own_sl B (mf 0) (mf 1) (mf 2)), vi (mf 2)] [(.ref a1)])) rfl rfl (hb hby d5_194)
      have f203 : Fld Z h197 a1 "com/example/always_over_paths/alwaysoverpaths/explicit/MarkingTable" "size" "I" (.int (1 : Int32)) := (f188.keep K197 (ninS ne_a1_P nin0))
      obtain ⟨T204, X204, e204, st204⟩ := getF X202 hx hZ hown (host := "") (Or.inl (hw _ (List.mem_of_getElem? (i := 46) rfl))) Via.refl e202 f203 (g := (mkF m 200 #[vr a1, vr a2, vi ((((0 : Int32) ||| (mf 0)) ||| (mf 1)) ||| (mf 2)), vi N, vi (31 : Int32), vi (own_sl B (mf 0) (mf 1) (mf 2)), vi (mf 2)] [(.ref a1), (.int (own_sl B (mf 0) (mf 1) (mf 2))), (.ref S)])) rfl rfl (hb hby d5_200)
      have f206 : AV Z h197 S kS .int 32 (fun i => Value.int ((updI (fun _ => (0 : Int32)) (own_sl B x0 x1 x2).toNatClampNeg (1 : Int32)) i)) := (f130.keep K197 (ninS (Ne.symm ne_P_S) nin0))
      obtain ⟨cl205, Ar205, kc205, sz205, -, -⟩ := id f206
      have hin205 : ¬ ((own_sl B (mf 0) (mf 1) (mf 2)) < 0 ∨ cl205.slots.size ≤ ((own_sl B (mf 0) (mf 1) (mf 2))).toNatClampNeg) := AV.inb sz205 (own_slin (own_slr B (mf 0) (mf 1) (mf 2)))
      obtain ⟨T205, h205, X205, e205, W205, st205⟩ := stI X204 hx hZ e204 Ar205 (j := (own_sl B (mf 0) (mf 1) (mf 2))) hin205 (g := (mkF m 205 #[vr a1, vr a2, vi ((((0 : Int32) ||| (mf 0)) ||| (mf 1)) ||| (mf 2)), vi N, vi (31 : Int32), vi (own_sl B (mf 0) (mf 1) (mf 2)), vi (mf 2)] [(.int (2 : Int32)), (.int (own_sl B (mf 0) (mf 1) (mf 2))), (.ref S)])) rfl rfl (hb hby d5_205)
      have z207 : n0 ≤ h205.size := Nat.le_trans z198 (Keep.of_wr W205).1
      have K208 : Keep h0 h205 [a1, P, R, S] := K199.wr W205 (Or.inl (List.mem_of_getElem? (i := 3) rfl))
      have V205 : AV Z h205 S kS .int 32 (fun i => Value.int ((updI (updI (fun _ => (0 : Int32)) (own_sl B x0 x1 x2).toNatClampNeg (1 : Int32)) ((own_sl B (mf 0) (mf 1) (mf 2))).toNatClampNeg (2 : Int32)) i)) := AV.putI f206 W205 (AV.inx (own_slin (own_slr B (mf 0) (mf 1) (mf 2))))
      have N205 := Fr.snoc X205 N197 g_S
      have f209 : Fld Z h205 a1 "com/example/always_over_paths/alwaysoverpaths/explicit/MarkingTable" "size" "I" (.int (1 : Int32)) := (f203.other W205 (Or.inl ne_a1_S))
      obtain ⟨T210, X210, e210, st210⟩ := getF X205 hx hZ hown (host := "") (Or.inl (hw _ (List.mem_of_getElem? (i := 46) rfl))) Via.refl e205 f209 (g := (mkF m 208 #[vr a1, vr a2, vi ((((0 : Int32) ||| (mf 0)) ||| (mf 1)) ||| (mf 2)), vi N, vi (31 : Int32), vi (own_sl B (mf 0) (mf 1) (mf 2)), vi (mf 2)] [(.ref a1), (.ref a1)])) rfl rfl (hb hby d5_208)
      have f211 : Exa Z h205 a1 "com/example/always_over_paths/alwaysoverpaths/explicit/MarkingTable" := ((f191.keep K197).wr W205)
      obtain ⟨T212, h212, X212, e212, W212, st212⟩ := putF X210 hx hZ hown (host := "") (Or.inl (hw _ (List.mem_of_getElem? (i := 46) rfl))) Via.refl e210 f209 f211 (Or.inl (hw _ (List.mem_of_getElem? (i := 47) rfl))) (hw _ (List.mem_of_getElem? (i := 3) rfl)) (ty := .int) (by decide) rfl rfl (g := (mkF m 214 #[vr a1, vr a2, vi ((((0 : Int32) ||| (mf 0)) ||| (mf 1)) ||| (mf 2)), vi N, vi (31 : Int32), vi (own_sl B (mf 0) (mf 1) (mf 2)), vi (mf 2)] [(.int (2 : Int32)), (.ref a1), (.int (1 : Int32))])) rfl rfl (hb hby d5_214)
      have z213 : n0 ≤ h212.size := Nat.le_trans z207 (Keep.of_wr W212).1
      have K214 : Keep h0 h212 [a1, P, R, S] := K208.wr W212 (Or.inl (List.mem_of_getElem? (i := 0) rfl))
      have Fw212 : Fld Z h212 a1 "com/example/always_over_paths/alwaysoverpaths/explicit/MarkingTable" "size" "I" (.int (2 : Int32)) := f209.same W212
      have N212 := Fr.snoc X212 N205 g_a1
      obtain ⟨fs, hr, hrun, hended, hW, hsame⟩ := X212.leave (v := some (.int (1 : Int32))) (fun h => by rw [Bd.returns] at h; cases h)
      refine ⟨_, _, ?_, hrun, hended, _, _, rfl, ?_, ⟨_, rfl⟩, hW, hsame.mono (by decide) (by decide)⟩
      · show Steps p.tables e below (T195.setTop (mkF m 186 #[vr a1, vr a2, vi ((((0 : Int32) ||| (mf 0)) ||| (mf 1)) ||| (mf 2)), vi N, vi (31 : Int32), vi (own_sl B (mf 0) (mf 1) (mf 2)), vi (mf 2)] [(.int (own_W B)), (.ref P), (.int (0 : Int32)), (.ref R)])) _
        refine XS.aloadN X195.here hx rfl (hb hby d5_186) rfl rfl ?_
        refine st196 _ ?_
        refine st197 _ ?_
        refine XS.aloadN X197.here hx rfl (hb hby d5_193) rfl rfl ?_
        refine st202 _ ?_
        refine XS.iload X202.here hx rfl (hb hby d5_197) rfl ?_
        show Steps p.tables e below (T202.setTop (mkF m 199 #[vr a1, vr a2, vi ((((0 : Int32) ||| (mf 0)) ||| (mf 1)) ||| (mf 2)), vi N, vi (31 : Int32), vi (own_sl B (mf 0) (mf 1) (mf 2)), vi (mf 2)] [(.int (own_sl B (mf 0) (mf 1) (mf 2))), (.ref S)])) _
        refine XS.aloadN X202.here hx rfl (hb hby d5_199) rfl rfl ?_
        refine st204 _ ?_
        refine XS.iconst X204.here hx rfl (hb hby d5_203) ?_
        refine XS.iadd X204.here hx rfl (hb hby d5_204) rfl ?_
        refine st205 _ ?_
        refine XS.aloadN X205.here hx rfl (hb hby d5_206) rfl rfl ?_
        show Steps p.tables e below (T205.setTop (mkF m 207 #[vr a1, vr a2, vi ((((0 : Int32) ||| (mf 0)) ||| (mf 1)) ||| (mf 2)), vi N, vi (31 : Int32), vi (own_sl B (mf 0) (mf 1) (mf 2)), vi (mf 2)] [(.ref a1)])) _
        refine XS.dup X205.here hx rfl (hb hby d5_207) rfl rfl ?_
        refine st210 _ ?_
        refine XS.dupX1 X210.here hx rfl (hb hby d5_211) rfl rfl rfl ?_
        refine XS.iconst X210.here hx rfl (hb hby d5_212) ?_
        refine XS.iadd X210.here hx rfl (hb hby d5_213) rfl ?_
        refine st212 _ ?_
        show Steps p.tables e below (T212.setTop (mkF m 217 #[vr a1, vr a2, vi ((((0 : Int32) ||| (mf 0)) ||| (mf 1)) ||| (mf 2)), vi N, vi (31 : Int32), vi (own_sl B (mf 0) (mf 1) (mf 2)), vi (mf 2)] [(.int (1 : Int32))])) _
        exact retI X212 hx Bd.returns (hb hby d5_217) hr
      · have f215 : Exa Z h212 a1 "com/example/always_over_paths/alwaysoverpaths/explicit/MarkingTable" := (f211.wr W212)
        have f216 : Fld Z h212 a1 "com/example/always_over_paths/alwaysoverpaths/explicit/MarkingTable" "bits" "I" (.int B) := (((f187.keep K197 (ninS ne_a1_P nin0)).other W205 (Or.inl ne_a1_S)).other W212 (Or.inr (slot_ne (Or.inl (hw _ (List.mem_of_getElem? (i := 14) rfl))) (Or.inl (hw _ (List.mem_of_getElem? (i := 47) rfl))) (by decide) (t := .int) (t' := .int) (by decide) (by decide))))
        have f217 : Fld Z h212 a1 "com/example/always_over_paths/alwaysoverpaths/explicit/MarkingTable" "words" "I" (.int (own_W B)) := (((f133.keep K197 (ninS ne_a1_P nin0)).other W205 (Or.inl ne_a1_S)).other W212 (Or.inr (slot_ne (Or.inl (hw _ (List.mem_of_getElem? (i := 23) rfl))) (Or.inl (hw _ (List.mem_of_getElem? (i := 47) rfl))) (by decide) (t := .int) (t' := .int) (by decide) (by decide))))
        have f218 : Fld Z h212 a1 "com/example/always_over_paths/alwaysoverpaths/explicit/MarkingTable" "packed" "[J" (.ref P) := (((f189.keep K197 (ninS ne_a1_P nin0)).other W205 (Or.inl ne_a1_S)).other W212 (Or.inr (slot_ne (Or.inl (hw _ (List.mem_of_getElem? (i := 26) rfl))) (Or.inl (hw _ (List.mem_of_getElem? (i := 47) rfl))) (by decide) (t := (.array .long)) (t' := .int) (by decide) (by decide))))
        have f219 : AV Z h212 P kP .long (16 * (own_W B).toNatClampNeg) (fun i => Value.long (fp200 i)) := ((V200.other W205 ne_P_S).other W212 (Ne.symm ne_a1_P))
        show Qad1 Z a1 a2 B P R S kP kR kS fP fR kM mf x0 x1 x2 h0 n0 _ T212.heap _
        rw [e212]
        exact ⟨P, kP, fp200, B, (congrArg (fun z => some (Value.int z)) (Eq.symm (if_neg (fun q => hf136 (by rw [q.1, q.2.1, q.2.2]))))), N212, K214, (Or.inl rfl), f215, f216, f217, f218, f219, hBq, bxq, bm, hpx, (fun _ => hpm)⟩
theorem pn_2 : plainName "com/example/always_over_paths/alwaysoverpaths/explicit/MarkingTableGetPinLaw" = true := by first | (simp [plainName, overriddenIn]; done) | decide +kernel
theorem pd_9 : parseMethodDescriptor "([I)I" = some ⟨[(.array .int)], some .int⟩ := by decide +kernel
theorem pd_10 : parseMethodDescriptor "(I[I)V" = some ⟨[.int, (.array .int)], none⟩ := by decide +kernel
theorem ef_rm0 (m : MethodId) (p1 : Int32) (p2 : Int32) (p3 : Int32) (p4 : Int32) (p5 : Int32) (p6 : Int32) : entryFrame m #[(.int p1), (.int p2), (.int p3), (.int p4), (.int p5), (.int p6)] maxLocals = mkF m 0 #[vi p1, vi p2, vi p3, vi p4, vi p5, vi p6, .unset, .unset, .unset, .unset, .unset, .unset, .unset, .unset] [] := by first | (simp [entryFrame, mkF, argsToLocals, Value.category, maxLocals]; done) | rfl
def Q0 (Z : State) (p1 : Int32) (p2 : Int32) (p3 : Int32) (p4 : Int32) (p5 : Int32) (p6 : Int32) (h0 : Heap) (n0 : Nat) (v : Option Value) (h : Heap) (L : List Loc) : Prop := v = some (.int (1 : Int32)) ∧ Fr n0 L
set_option maxRecDepth 65536 in
set_option maxHeartbeats 40000000 in
theorem rm0 (l : Launch) (Z : State) (a0 : Array Value) (hw : ∀ d ∈ tables_1, d.before a0 Z = true) (ws : List Jvm.Cond) (p1 : Int32) (p2 : Int32) (p3 : Int32) (p4 : Int32) (p5 : Int32) (p6 : Int32) (h0 : Heap) (n0 : Nat) (Z0 : n0 ≤ h0.size) :
    MetFree l x (head1 (Jvm.Cond.code x code maxLocals ret :: ws) room_1) (fun a U => a = #[(.int p1), (.int p2), (.int p3), (.int p4), (.int p5), (.int p6)] ∧ Z.Warmed39 U.vm ∧ U.heap = h0) (fun _ _ _ _ _ => True) (fun _ U o U' => ∃ v L, o = .returned v ∧ Q0 Z p1 p2 p3 p4 p5 p6 h0 n0 v U'.heap L ∧ FrameEnd U o U' L 40 512) := by
  refine MetFree.of_bodySF (plainFor_of_name pn_2) hisR ?_
  intro p e s m args below meth c s₁ Bd hml0 hP hK
  obtain ⟨rfl, hZ, hh⟩ := hP
  have hx := Bd.exec
  have hby := Bd.bytes
  have hml : c.maxLocals = 14 := hml0
  have hown : s.vm.findClass "com/example/always_over_paths/alwaysoverpaths/explicit/MarkingTableGetPinLaw" = some m.cls := findClass_of_methodNamed Bd.named
  have hnm := (name_of_methodNamed Bd.named Bd.method).1
  have X0 : Stand p l e room_1 s m #[(.int p1), (.int p2), (.int p3), (.int p4), (.int p5), (.int p6)] below meth c s₁ [] 0 0 := Stand.of_body Bd
  have e0 : s₁.heap = h0 := by rw [← hh, Bd.state]; rfl
  have N0 := Fr.nil n0
  show GoalS p.tables e below s 40 512 (Q0 Z p1 p2 p3 p4 p5 p6 h0 n0) (s₁.setTop (entryFrame m #[(.int p1), (.int p2), (.int p3), (.int p4), (.int p5), (.int p6)] maxLocals))
  refine GoalS.lift (B := s₁.setTop (mkF m 0 #[vi p1, vi p2, vi p3, vi p4, vi p5, vi p6, .unset, .unset, .unset, .unset, .unset, .unset, .unset, .unset] [])) (fun t k => castTop (ef_rm0 m p1 p2 p3 p4 p5 p6) k) ?_
  obtain ⟨T1, h1, k1, X1, e1, E1, A1, st1⟩ := newP X0 hx hZ (hw _ (List.mem_of_getElem? (i := 0) rfl)) e0 (g := (mkF m 1 #[vi p1, vi p2, vi p3, vi p4, vi p5, vi p6, .unset, .unset, .unset, .unset, .unset, .unset, .unset, .unset] [(.int (3 : Int32))])) rfl (hb hby at_1) rfl (by decide) (cap := 3) (by decide) (by decide) (by decide) (by decide)
  obtain ⟨b1, g1⟩ : ∃ z, z = h0.size := ⟨_, rfl⟩
  rw [← g1] at A1 st1
  have g_b1 : n0 ≤ b1 := Nat.le_trans Z0 (Nat.le_of_eq g1.symm)
  have z2 : n0 ≤ h1.size := Nat.le_trans Z0 E1.1
  have V1 : AV Z h1 b1 k1 .int 3 (fun i => Value.int ((fun _ => (0 : Int32)) i)) := AV.new A1 (by decide) (by decide) (by decide)
  obtain ⟨cl3, Ar3, kc3, sz3, -, -⟩ := id V1
  have hin3 : ¬ ((0 : Int32) < 0 ∨ cl3.slots.size ≤ ((0 : Int32)).toNatClampNeg) := AV.inb sz3 (show ¬ (0 : Int32) < 0 ∧ ((0 : Int32)).toNatClampNeg < 3 by decide)
  obtain ⟨T3, h3, X3, e3, W3, st3⟩ := stI X1 hx hZ e1 Ar3 (j := (0 : Int32)) hin3 (g := (mkF m 9 #[vi p1, vi p2, vi p3, vi p4, vi p5, vi p6, .unset, .unset, .unset, .unset, .unset, .unset, .unset, .unset] [(.int (p1 &&& (2147483647 : Int32))), (.int (0 : Int32)), (.ref b1), (.ref b1)])) rfl rfl (hb hby at_9)
  have z4 : n0 ≤ h3.size := Nat.le_trans z2 (Keep.of_wr W3).1
  have V3 : AV Z h3 b1 k1 .int 3 (fun i => Value.int ((updI (fun _ => (0 : Int32)) 0 (p1 &&& (2147483647 : Int32))) i)) := AV.putI V1 W3 (AV.inx (show ¬ (0 : Int32) < 0 ∧ ((0 : Int32)).toNatClampNeg < 3 by decide))
  have N3 := Fr.snoc X3 N0 g_b1
  obtain ⟨cl5, Ar5, kc5, sz5, -, -⟩ := id V3
  have hin5 : ¬ ((1 : Int32) < 0 ∨ cl5.slots.size ≤ ((1 : Int32)).toNatClampNeg) := AV.inb sz5 (show ¬ (1 : Int32) < 0 ∧ ((1 : Int32)).toNatClampNeg < 3 by decide)
  obtain ⟨T5, h5, X5, e5, W5, st5⟩ := stI X3 hx hZ e3 Ar5 (j := (1 : Int32)) hin5 (g := (mkF m 16 #[vi p1, vi p2, vi p3, vi p4, vi p5, vi p6, .unset, .unset, .unset, .unset, .unset, .unset, .unset, .unset] [(.int (p2 &&& (2147483647 : Int32))), (.int (1 : Int32)), (.ref b1), (.ref b1)])) rfl rfl (hb hby at_16)
  have z6 : n0 ≤ h5.size := Nat.le_trans z4 (Keep.of_wr W5).1
  have V5 : AV Z h5 b1 k1 .int 3 (fun i => Value.int ((updI (updI (fun _ => (0 : Int32)) 0 (p1 &&& (2147483647 : Int32))) 1 (p2 &&& (2147483647 : Int32))) i)) := AV.putI V3 W5 (AV.inx (show ¬ (1 : Int32) < 0 ∧ ((1 : Int32)).toNatClampNeg < 3 by decide))
  have N5 := Fr.snoc X5 N3 g_b1
  obtain ⟨cl7, Ar7, kc7, sz7, -, -⟩ := id V5
  have hin7 : ¬ ((2 : Int32) < 0 ∨ cl7.slots.size ≤ ((2 : Int32)).toNatClampNeg) := AV.inb sz7 (show ¬ (2 : Int32) < 0 ∧ ((2 : Int32)).toNatClampNeg < 3 by decide)
  obtain ⟨T7, h7, X7, e7, W7, st7⟩ := stI X5 hx hZ e5 Ar7 (j := (2 : Int32)) hin7 (g := (mkF m 23 #[vi p1, vi p2, vi p3, vi p4, vi p5, vi p6, .unset, .unset, .unset, .unset, .unset, .unset, .unset, .unset] [(.int (p3 &&& (2147483647 : Int32))), (.int (2 : Int32)), (.ref b1), (.ref b1)])) rfl rfl (hb hby at_23)
  have z8 : n0 ≤ h7.size := Nat.le_trans z6 (Keep.of_wr W7).1
  have V7 : AV Z h7 b1 k1 .int 3 (fun i => Value.int ((updI (updI (updI (fun _ => (0 : Int32)) 0 (p1 &&& (2147483647 : Int32))) 1 (p2 &&& (2147483647 : Int32))) 2 (p3 &&& (2147483647 : Int32))) i)) := AV.putI V5 W7 (AV.inx (show ¬ (2 : Int32) < 0 ∧ ((2 : Int32)).toNatClampNeg < 3 by decide))
  have N7 := Fr.snoc X7 N5 g_b1
  obtain ⟨fa9, hfa9⟩ : ∃ z, z = (updI (updI (updI (fun _ => (0 : Int32)) 0 (p1 &&& (2147483647 : Int32))) 1 (p2 &&& (2147483647 : Int32))) 2 (p3 &&& (2147483647 : Int32))) := ⟨_, rfl⟩
  have V9 : AV Z h7 b1 k1 .int 3 (fun i => Value.int (fa9 i)) := by rw [hfa9]; exact V7
  have hma : 0 ≤ (fa9 0).toInt ∧ 0 ≤ (fa9 1).toInt ∧ 0 ≤ (fa9 2).toInt := by rw [hfa9]; exact ⟨own_nn _, own_nn _, own_nn _⟩
  obtain ⟨T10, h10, k10, X10, e10, E10, A10, st10⟩ := newP X7 hx hZ (hw _ (List.mem_of_getElem? (i := 0) rfl)) e7 (g := (mkF m 27 #[vi p1, vi p2, vi p3, vi p4, vi p5, vi p6, vr b1, .unset, .unset, .unset, .unset, .unset, .unset, .unset] [(.int (3 : Int32))])) rfl (hb hby at_27) rfl (by decide) (cap := 3) (by decide) (by decide) (by decide) (by decide)
  obtain ⟨b10, g10⟩ : ∃ z, z = h7.size := ⟨_, rfl⟩
  rw [← g10] at A10 st10
  have g_b10 : n0 ≤ b10 := Nat.le_trans z8 (Nat.le_of_eq g10.symm)
  have ne_b1_b10 : b1 ≠ b10 := Nat.ne_of_lt (Nat.lt_of_lt_of_le V9.lt (Nat.le_of_eq g10.symm))
  have z11 : n0 ≤ h10.size := Nat.le_trans z8 E10.1
  have V10 : AV Z h10 b10 k10 .int 3 (fun i => Value.int ((fun _ => (0 : Int32)) i)) := AV.new A10 (by decide) (by decide) (by decide)
  obtain ⟨cl12, Ar12, kc12, sz12, -, -⟩ := id V10
  have hin12 : ¬ ((0 : Int32) < 0 ∨ cl12.slots.size ≤ ((0 : Int32)).toNatClampNeg) := AV.inb sz12 (show ¬ (0 : Int32) < 0 ∧ ((0 : Int32)).toNatClampNeg < 3 by decide)
  obtain ⟨T12, h12, X12, e12, W12, st12⟩ := stI X10 hx hZ e10 Ar12 (j := (0 : Int32)) hin12 (g := (mkF m 35 #[vi p1, vi p2, vi p3, vi p4, vi p5, vi p6, vr b1, .unset, .unset, .unset, .unset, .unset, .unset, .unset] [(.int (p4 &&& (2147483647 : Int32))), (.int (0 : Int32)), (.ref b10), (.ref b10)])) rfl rfl (hb hby at_35)
  have z13 : n0 ≤ h12.size := Nat.le_trans z11 (Keep.of_wr W12).1
  have V12 : AV Z h12 b10 k10 .int 3 (fun i => Value.int ((updI (fun _ => (0 : Int32)) 0 (p4 &&& (2147483647 : Int32))) i)) := AV.putI V10 W12 (AV.inx (show ¬ (0 : Int32) < 0 ∧ ((0 : Int32)).toNatClampNeg < 3 by decide))
  have N12 := Fr.snoc X12 N7 g_b10
  obtain ⟨cl14, Ar14, kc14, sz14, -, -⟩ := id V12
  have hin14 : ¬ ((1 : Int32) < 0 ∨ cl14.slots.size ≤ ((1 : Int32)).toNatClampNeg) := AV.inb sz14 (show ¬ (1 : Int32) < 0 ∧ ((1 : Int32)).toNatClampNeg < 3 by decide)
  obtain ⟨T14, h14, X14, e14, W14, st14⟩ := stI X12 hx hZ e12 Ar14 (j := (1 : Int32)) hin14 (g := (mkF m 43 #[vi p1, vi p2, vi p3, vi p4, vi p5, vi p6, vr b1, .unset, .unset, .unset, .unset, .unset, .unset, .unset] [(.int (p5 &&& (2147483647 : Int32))), (.int (1 : Int32)), (.ref b10), (.ref b10)])) rfl rfl (hb hby at_43)
  have z15 : n0 ≤ h14.size := Nat.le_trans z13 (Keep.of_wr W14).1
  have V14 : AV Z h14 b10 k10 .int 3 (fun i => Value.int ((updI (updI (fun _ => (0 : Int32)) 0 (p4 &&& (2147483647 : Int32))) 1 (p5 &&& (2147483647 : Int32))) i)) := AV.putI V12 W14 (AV.inx (show ¬ (1 : Int32) < 0 ∧ ((1 : Int32)).toNatClampNeg < 3 by decide))
  have N14 := Fr.snoc X14 N12 g_b10
  obtain ⟨cl16, Ar16, kc16, sz16, -, -⟩ := id V14
  have hin16 : ¬ ((2 : Int32) < 0 ∨ cl16.slots.size ≤ ((2 : Int32)).toNatClampNeg) := AV.inb sz16 (show ¬ (2 : Int32) < 0 ∧ ((2 : Int32)).toNatClampNeg < 3 by decide)
  obtain ⟨T16, h16, X16, e16, W16, st16⟩ := stI X14 hx hZ e14 Ar16 (j := (2 : Int32)) hin16 (g := (mkF m 51 #[vi p1, vi p2, vi p3, vi p4, vi p5, vi p6, vr b1, .unset, .unset, .unset, .unset, .unset, .unset, .unset] [(.int (p6 &&& (2147483647 : Int32))), (.int (2 : Int32)), (.ref b10), (.ref b10)])) rfl rfl (hb hby at_51)
  have z17 : n0 ≤ h16.size := Nat.le_trans z15 (Keep.of_wr W16).1
  have V16 : AV Z h16 b10 k10 .int 3 (fun i => Value.int ((updI (updI (updI (fun _ => (0 : Int32)) 0 (p4 &&& (2147483647 : Int32))) 1 (p5 &&& (2147483647 : Int32))) 2 (p6 &&& (2147483647 : Int32))) i)) := AV.putI V14 W16 (AV.inx (show ¬ (2 : Int32) < 0 ∧ ((2 : Int32)).toNatClampNeg < 3 by decide))
  have N16 := Fr.snoc X16 N14 g_b10
  obtain ⟨fb18, hfb18⟩ : ∃ z, z = (updI (updI (updI (fun _ => (0 : Int32)) 0 (p4 &&& (2147483647 : Int32))) 1 (p5 &&& (2147483647 : Int32))) 2 (p6 &&& (2147483647 : Int32))) := ⟨_, rfl⟩
  have V18 : AV Z h16 b10 k10 .int 3 (fun i => Value.int (fb18 i)) := by rw [hfb18]; exact V16
  have hmb : 0 ≤ (fb18 0).toInt ∧ 0 ≤ (fb18 1).toInt ∧ 0 ≤ (fb18 2).toInt := by rw [hfb18]; exact ⟨own_nn _, own_nn _, own_nn _⟩
  obtain ⟨T19, h19, k19, X19, e19, E19, A19, st19⟩ := newP X16 hx hZ (hw _ (List.mem_of_getElem? (i := 0) rfl)) e16 (g := (mkF m 55 #[vi p1, vi p2, vi p3, vi p4, vi p5, vi p6, vr b1, vr b10, .unset, .unset, .unset, .unset, .unset, .unset] [(.int (3 : Int32))])) rfl (hb hby at_55) rfl (by decide) (cap := 3) (by decide) (by decide) (by decide) (by decide)
  obtain ⟨b19, g19⟩ : ∃ z, z = h16.size := ⟨_, rfl⟩
  rw [← g19] at A19 st19
  have g_b19 : n0 ≤ b19 := Nat.le_trans z17 (Nat.le_of_eq g19.symm)
  have f20 : AV Z h16 b1 k1 .int 3 (fun i => Value.int (fa9 i)) := ((((V9.ext E10).other W12 ne_b1_b10).other W14 ne_b1_b10).other W16 ne_b1_b10)
  have ne_b1_b19 : b1 ≠ b19 := Nat.ne_of_lt (Nat.lt_of_lt_of_le f20.lt (Nat.le_of_eq g19.symm))
  have ne_b10_b19 : b10 ≠ b19 := Nat.ne_of_lt (Nat.lt_of_lt_of_le V18.lt (Nat.le_of_eq g19.symm))
  have z21 : n0 ≤ h19.size := Nat.le_trans z17 E19.1
  have V19 : AV Z h19 b19 k19 .int 3 (fun i => Value.int ((fun _ => (0 : Int32)) i)) := AV.new A19 (by decide) (by decide) (by decide)
  obtain ⟨cl22, Ar22, kc22, sz22, -, -⟩ := id V19
  have hin22 : ¬ ((0 : Int32) < 0 ∨ cl22.slots.size ≤ ((0 : Int32)).toNatClampNeg) := AV.inb sz22 (show ¬ (0 : Int32) < 0 ∧ ((0 : Int32)).toNatClampNeg < 3 by decide)
  obtain ⟨T22, h22, X22, e22, W22, st22⟩ := stI X19 hx hZ e19 Ar22 (j := (0 : Int32)) hin22 (g := (mkF m 60 #[vi p1, vi p2, vi p3, vi p4, vi p5, vi p6, vr b1, vr b10, .unset, .unset, .unset, .unset, .unset, .unset] [(.int (-1 : Int32)), (.int (0 : Int32)), (.ref b19), (.ref b19)])) rfl rfl (hb hby at_60)
  have z23 : n0 ≤ h22.size := Nat.le_trans z21 (Keep.of_wr W22).1
  have V22 : AV Z h22 b19 k19 .int 3 (fun i => Value.int ((updI (fun _ => (0 : Int32)) 0 (-1 : Int32)) i)) := AV.putI V19 W22 (AV.inx (show ¬ (0 : Int32) < 0 ∧ ((0 : Int32)).toNatClampNeg < 3 by decide))
  have N22 := Fr.snoc X22 N16 g_b19
  obtain ⟨cl24, Ar24, kc24, sz24, -, -⟩ := id V22
  have hin24 : ¬ ((1 : Int32) < 0 ∨ cl24.slots.size ≤ ((1 : Int32)).toNatClampNeg) := AV.inb sz24 (show ¬ (1 : Int32) < 0 ∧ ((1 : Int32)).toNatClampNeg < 3 by decide)
  obtain ⟨T24, h24, X24, e24, W24, st24⟩ := stI X22 hx hZ e22 Ar24 (j := (1 : Int32)) hin24 (g := (mkF m 64 #[vi p1, vi p2, vi p3, vi p4, vi p5, vi p6, vr b1, vr b10, .unset, .unset, .unset, .unset, .unset, .unset] [(.int (-1 : Int32)), (.int (1 : Int32)), (.ref b19), (.ref b19)])) rfl rfl (hb hby at_64)
  have z25 : n0 ≤ h24.size := Nat.le_trans z23 (Keep.of_wr W24).1
  have V24 : AV Z h24 b19 k19 .int 3 (fun i => Value.int ((updI (updI (fun _ => (0 : Int32)) 0 (-1 : Int32)) 1 (-1 : Int32)) i)) := AV.putI V22 W24 (AV.inx (show ¬ (1 : Int32) < 0 ∧ ((1 : Int32)).toNatClampNeg < 3 by decide))
  have N24 := Fr.snoc X24 N22 g_b19
  obtain ⟨cl26, Ar26, kc26, sz26, -, -⟩ := id V24
  have hin26 : ¬ ((2 : Int32) < 0 ∨ cl26.slots.size ≤ ((2 : Int32)).toNatClampNeg) := AV.inb sz26 (show ¬ (2 : Int32) < 0 ∧ ((2 : Int32)).toNatClampNeg < 3 by decide)
  obtain ⟨T26, h26, X26, e26, W26, st26⟩ := stI X24 hx hZ e24 Ar26 (j := (2 : Int32)) hin26 (g := (mkF m 68 #[vi p1, vi p2, vi p3, vi p4, vi p5, vi p6, vr b1, vr b10, .unset, .unset, .unset, .unset, .unset, .unset] [(.int (-1 : Int32)), (.int (2 : Int32)), (.ref b19), (.ref b19)])) rfl rfl (hb hby at_68)
  have z27 : n0 ≤ h26.size := Nat.le_trans z25 (Keep.of_wr W26).1
  have V26 : AV Z h26 b19 k19 .int 3 (fun i => Value.int ((updI (updI (updI (fun _ => (0 : Int32)) 0 (-1 : Int32)) 1 (-1 : Int32)) 2 (-1 : Int32)) i)) := AV.putI V24 W26 (AV.inx (show ¬ (2 : Int32) < 0 ∧ ((2 : Int32)).toNatClampNeg < 3 by decide))
  have N26 := Fr.snoc X26 N24 g_b19
  obtain ⟨T28, h28, k28, X28, e28, E28, A28, st28⟩ := newP X26 hx hZ (hw _ (List.mem_of_getElem? (i := 0) rfl)) e26 (g := (mkF m 72 #[vi p1, vi p2, vi p3, vi p4, vi p5, vi p6, vr b1, vr b10, vr b19, .unset, .unset, .unset, .unset, .unset] [(.int (3 : Int32))])) rfl (hb hby at_72) rfl (by decide) (cap := 3) (by decide) (by decide) (by decide) (by decide)
  obtain ⟨b28, g28⟩ : ∃ z, z = h26.size := ⟨_, rfl⟩
  rw [← g28] at A28 st28
  have g_b28 : n0 ≤ b28 := Nat.le_trans z27 (Nat.le_of_eq g28.symm)
  have f29 : AV Z h26 b1 k1 .int 3 (fun i => Value.int (fa9 i)) := ((((f20.ext E19).other W22 ne_b1_b19).other W24 ne_b1_b19).other W26 ne_b1_b19)
  have ne_b1_b28 : b1 ≠ b28 := Nat.ne_of_lt (Nat.lt_of_lt_of_le f29.lt (Nat.le_of_eq g28.symm))
  have f30 : AV Z h26 b10 k10 .int 3 (fun i => Value.int (fb18 i)) := ((((V18.ext E19).other W22 ne_b10_b19).other W24 ne_b10_b19).other W26 ne_b10_b19)
  have ne_b10_b28 : b10 ≠ b28 := Nat.ne_of_lt (Nat.lt_of_lt_of_le f30.lt (Nat.le_of_eq g28.symm))
  have ne_b19_b28 : b19 ≠ b28 := Nat.ne_of_lt (Nat.lt_of_lt_of_le V26.lt (Nat.le_of_eq g28.symm))
  have z31 : n0 ≤ h28.size := Nat.le_trans z27 E28.1
  have V28 : AV Z h28 b28 k28 .int 3 (fun i => Value.int ((fun _ => (0 : Int32)) i)) := AV.new A28 (by decide) (by decide) (by decide)
  obtain ⟨cl32, Ar32, kc32, sz32, -, -⟩ := id V28
  have hin32 : ¬ ((0 : Int32) < 0 ∨ cl32.slots.size ≤ ((0 : Int32)).toNatClampNeg) := AV.inb sz32 (show ¬ (0 : Int32) < 0 ∧ ((0 : Int32)).toNatClampNeg < 3 by decide)
  obtain ⟨T32, h32, X32, e32, W32, st32⟩ := stI X28 hx hZ e28 Ar32 (j := (0 : Int32)) hin32 (g := (mkF m 77 #[vi p1, vi p2, vi p3, vi p4, vi p5, vi p6, vr b1, vr b10, vr b19, .unset, .unset, .unset, .unset, .unset] [(.int (-1 : Int32)), (.int (0 : Int32)), (.ref b28), (.ref b28)])) rfl rfl (hb hby at_77)
  have z33 : n0 ≤ h32.size := Nat.le_trans z31 (Keep.of_wr W32).1
  have V32 : AV Z h32 b28 k28 .int 3 (fun i => Value.int ((updI (fun _ => (0 : Int32)) 0 (-1 : Int32)) i)) := AV.putI V28 W32 (AV.inx (show ¬ (0 : Int32) < 0 ∧ ((0 : Int32)).toNatClampNeg < 3 by decide))
  have N32 := Fr.snoc X32 N26 g_b28
  obtain ⟨cl34, Ar34, kc34, sz34, -, -⟩ := id V32
  have hin34 : ¬ ((1 : Int32) < 0 ∨ cl34.slots.size ≤ ((1 : Int32)).toNatClampNeg) := AV.inb sz34 (show ¬ (1 : Int32) < 0 ∧ ((1 : Int32)).toNatClampNeg < 3 by decide)
  obtain ⟨T34, h34, X34, e34, W34, st34⟩ := stI X32 hx hZ e32 Ar34 (j := (1 : Int32)) hin34 (g := (mkF m 81 #[vi p1, vi p2, vi p3, vi p4, vi p5, vi p6, vr b1, vr b10, vr b19, .unset, .unset, .unset, .unset, .unset] [(.int (-1 : Int32)), (.int (1 : Int32)), (.ref b28), (.ref b28)])) rfl rfl (hb hby at_81)
  have z35 : n0 ≤ h34.size := Nat.le_trans z33 (Keep.of_wr W34).1
  have V34 : AV Z h34 b28 k28 .int 3 (fun i => Value.int ((updI (updI (fun _ => (0 : Int32)) 0 (-1 : Int32)) 1 (-1 : Int32)) i)) := AV.putI V32 W34 (AV.inx (show ¬ (1 : Int32) < 0 ∧ ((1 : Int32)).toNatClampNeg < 3 by decide))
  have N34 := Fr.snoc X34 N32 g_b28
  obtain ⟨cl36, Ar36, kc36, sz36, -, -⟩ := id V34
  have hin36 : ¬ ((2 : Int32) < 0 ∨ cl36.slots.size ≤ ((2 : Int32)).toNatClampNeg) := AV.inb sz36 (show ¬ (2 : Int32) < 0 ∧ ((2 : Int32)).toNatClampNeg < 3 by decide)
  obtain ⟨T36, h36, X36, e36, W36, st36⟩ := stI X34 hx hZ e34 Ar36 (j := (2 : Int32)) hin36 (g := (mkF m 85 #[vi p1, vi p2, vi p3, vi p4, vi p5, vi p6, vr b1, vr b10, vr b19, .unset, .unset, .unset, .unset, .unset] [(.int (-1 : Int32)), (.int (2 : Int32)), (.ref b28), (.ref b28)])) rfl rfl (hb hby at_85)
  have z37 : n0 ≤ h36.size := Nat.le_trans z35 (Keep.of_wr W36).1
  have V36 : AV Z h36 b28 k28 .int 3 (fun i => Value.int ((updI (updI (updI (fun _ => (0 : Int32)) 0 (-1 : Int32)) 1 (-1 : Int32)) 2 (-1 : Int32)) i)) := AV.putI V34 W36 (AV.inx (show ¬ (2 : Int32) < 0 ∧ ((2 : Int32)).toNatClampNeg < 3 by decide))
  have N36 := Fr.snoc X36 N34 g_b28
  obtain ⟨T38, h38, X38, e38, E38, A38, D38, -, st38⟩ := newO X36 hx hZ hown (hw _ (List.mem_of_getElem? (i := 2) rfl)) (hw _ (List.mem_of_getElem? (i := 3) rfl)) (hw _ (List.mem_of_getElem? (i := 4) rfl)) e36 (g := (mkF m 88 #[vi p1, vi p2, vi p3, vi p4, vi p5, vi p6, vr b1, vr b10, vr b19, vr b28, .unset, .unset, .unset, .unset] [])) rfl (hb hby at_88) (by decide) (by decide)
  obtain ⟨b38, g38⟩ : ∃ z, z = h36.size := ⟨_, rfl⟩
  rw [← g38] at A38 D38 st38
  have g_b38 : n0 ≤ b38 := Nat.le_trans z37 (Nat.le_of_eq g38.symm)
  have f39 : AV Z h36 b1 k1 .int 3 (fun i => Value.int (fa9 i)) := ((((f29.ext E28).other W32 ne_b1_b28).other W34 ne_b1_b28).other W36 ne_b1_b28)
  have ne_b1_b38 : b1 ≠ b38 := Nat.ne_of_lt (Nat.lt_of_lt_of_le f39.lt (Nat.le_of_eq g38.symm))
  have f40 : AV Z h36 b10 k10 .int 3 (fun i => Value.int (fb18 i)) := ((((f30.ext E28).other W32 ne_b10_b28).other W34 ne_b10_b28).other W36 ne_b10_b28)
  have ne_b10_b38 : b10 ≠ b38 := Nat.ne_of_lt (Nat.lt_of_lt_of_le f40.lt (Nat.le_of_eq g38.symm))
  have f41 : AV Z h36 b19 k19 .int 3 (fun i => Value.int ((updI (updI (updI (fun _ => (0 : Int32)) 0 (-1 : Int32)) 1 (-1 : Int32)) 2 (-1 : Int32)) i)) := ((((V26.ext E28).other W32 ne_b19_b28).other W34 ne_b19_b28).other W36 ne_b19_b28)
  have ne_b19_b38 : b19 ≠ b38 := Nat.ne_of_lt (Nat.lt_of_lt_of_le f41.lt (Nat.le_of_eq g38.symm))
  have ne_b28_b38 : b28 ≠ b38 := Nat.ne_of_lt (Nat.lt_of_lt_of_le V36.lt (Nat.le_of_eq g38.symm))
  have z42 : n0 ≤ h38.size := Nat.le_trans z37 E38.1
  have F_places_b38 : Fld Z h38 b38 "com/example/always_over_paths/alwaysoverpaths/explicit/MarkingTable" "places" "I" (.int (0 : Int32)) := D38 (Or.inr (hw _ (List.mem_of_getElem? (i := 12) rfl))) (ty := .int) (by decide)
  have F_bits_b38 : Fld Z h38 b38 "com/example/always_over_paths/alwaysoverpaths/explicit/MarkingTable" "bits" "I" (.int (0 : Int32)) := D38 (Or.inl (hw _ (List.mem_of_getElem? (i := 14) rfl))) (ty := .int) (by decide)
  have F_words_b38 : Fld Z h38 b38 "com/example/always_over_paths/alwaysoverpaths/explicit/MarkingTable" "words" "I" (.int (0 : Int32)) := D38 (Or.inl (hw _ (List.mem_of_getElem? (i := 23) rfl))) (ty := .int) (by decide)
  have F_packed_b38 : Fld Z h38 b38 "com/example/always_over_paths/alwaysoverpaths/explicit/MarkingTable" "packed" "[J" .null := D38 (Or.inl (hw _ (List.mem_of_getElem? (i := 26) rfl))) (ty := (.array .long)) (by decide)
  have F_probe_b38 : Fld Z h38 b38 "com/example/always_over_paths/alwaysoverpaths/explicit/MarkingTable" "probe" "[J" .null := D38 (Or.inl (hw _ (List.mem_of_getElem? (i := 28) rfl))) (ty := (.array .long)) (by decide)
  have F_slots_b38 : Fld Z h38 b38 "com/example/always_over_paths/alwaysoverpaths/explicit/MarkingTable" "slots" "[I" .null := D38 (Or.inl (hw _ (List.mem_of_getElem? (i := 30) rfl))) (ty := (.array .int)) (by decide)
  have F_size_b38 : Fld Z h38 b38 "com/example/always_over_paths/alwaysoverpaths/explicit/MarkingTable" "size" "I" (.int (0 : Int32)) := D38 (Or.inl (hw _ (List.mem_of_getElem? (i := 47) rfl))) (ty := .int) (by decide)
  obtain ⟨_, _, ⟨T43, L43, k43, n43⟩, -, X43, ⟨Lc43, hQ43, l43, y43, z43⟩, st43⟩ := X38.specialBack hx (y := (⟨"com/example/always_over_paths/alwaysoverpaths/explicit/MarkingTable", "<init>", "(I)V"⟩ : MethodName)) rfl hown (mvT hZ (hw _ (List.mem_of_getElem? (i := 5) rfl))) (mvT hZ (hw _ (List.mem_of_getElem? (i := 6) rfl))) (mvT hZ (hw _ (List.mem_of_getElem? (i := 7) rfl))) (by decide) (backOf (W := 1) (rmct l Z a0 hw [] b38 h38 n0 z42 A38 g_b38 F_places_b38 F_bits_b38 F_words_b38 F_packed_b38 F_probe_b38 F_slots_b38 F_size_b38) hZ (hw _ (List.mem_of_getElem? (i := 7) rfl)) (hw _ (List.mem_of_getElem? (i := 4) rfl)) (by decide) (by decide)) (g := (mkF m 93 #[vi p1, vi p2, vi p3, vi p4, vi p5, vi p6, vr b1, vr b10, vr b19, vr b28, .unset, .unset, .unset, .unset] [(.int (3 : Int32)), (.ref b38), (.ref b38)])) rfl (by rw [hml]; rfl) (Steps.refl _) (a := b38) (argsL := [(.int (3 : Int32))]) (rest := [(.ref b38)]) (lenOf pd_4 rfl) rfl (by show 2 * 0 + _ ≤ _; exact Nat.le_of_eq rfl) (hb hby at_93) (fun _ _ => ⟨rfl, e38, (by decide : 5 + 3 ≤ _), (by decide : 19 + 66 ≤ _)⟩)
  dsimp only [Pt.U, Pt.locs, Pt.cells, Pt.slots] at X43 l43 y43 z43 st43 hQ43
  subst y43 z43
  obtain ⟨P'_43, R'_43, S'_43, kP'_43, kR'_43, kS'_43, rfl, N43q, p43_0, p43_1, p43_2, p43_3, p43_4, p43_5, p43_6, p43_7, p43_8, p43_9, p43_10, p43_11, p43_12, p43_13, p43_14, p43_15, p43_16, p43_17⟩ := hQ43
  have N43 : Fr n0 L43 := by rw [l43]; exact Fr.app N36 N43q
  have f44 : AV Z h38 b1 k1 .int 3 (fun i => Value.int (fa9 i)) := (f39.ext E38)
  have f45 : AV Z h38 b10 k10 .int 3 (fun i => Value.int (fb18 i)) := (f40.ext E38)
  have f46 : AV Z h38 b19 k19 .int 3 (fun i => Value.int ((updI (updI (updI (fun _ => (0 : Int32)) 0 (-1 : Int32)) 1 (-1 : Int32)) 2 (-1 : Int32)) i)) := (f41.ext E38)
  have f47 : AV Z h38 b28 k28 .int 3 (fun i => Value.int ((updI (updI (updI (fun _ => (0 : Int32)) 0 (-1 : Int32)) 1 (-1 : Int32)) 2 (-1 : Int32)) i)) := (V36.ext E38)
  have z48 : n0 ≤ T43.heap.size := Nat.le_trans z42 p43_0.1
  have ne_b1_P'_43 : b1 ≠ P'_43 := Nat.ne_of_lt (Nat.lt_of_lt_of_le f44.lt p43_1)
  have ne_b10_P'_43 : b10 ≠ P'_43 := Nat.ne_of_lt (Nat.lt_of_lt_of_le f45.lt p43_1)
  have ne_b19_P'_43 : b19 ≠ P'_43 := Nat.ne_of_lt (Nat.lt_of_lt_of_le f46.lt p43_1)
  have ne_b28_P'_43 : b28 ≠ P'_43 := Nat.ne_of_lt (Nat.lt_of_lt_of_le f47.lt p43_1)
  have ne_b38_P'_43 : b38 ≠ P'_43 := Nat.ne_of_lt (Nat.lt_of_lt_of_le A38.lt p43_1)
  have g_P'_43 : n0 ≤ P'_43 := Nat.le_trans z42 p43_1
  have ne_b1_R'_43 : b1 ≠ R'_43 := Nat.ne_of_lt (Nat.lt_of_lt_of_le f44.lt p43_2)
  have ne_b10_R'_43 : b10 ≠ R'_43 := Nat.ne_of_lt (Nat.lt_of_lt_of_le f45.lt p43_2)
  have ne_b19_R'_43 : b19 ≠ R'_43 := Nat.ne_of_lt (Nat.lt_of_lt_of_le f46.lt p43_2)
  have ne_b28_R'_43 : b28 ≠ R'_43 := Nat.ne_of_lt (Nat.lt_of_lt_of_le f47.lt p43_2)
  have ne_b38_R'_43 : b38 ≠ R'_43 := Nat.ne_of_lt (Nat.lt_of_lt_of_le A38.lt p43_2)
  have g_R'_43 : n0 ≤ R'_43 := Nat.le_trans z42 p43_2
  have ne_b1_S'_43 : b1 ≠ S'_43 := Nat.ne_of_lt (Nat.lt_of_lt_of_le f44.lt p43_3)
  have ne_b10_S'_43 : b10 ≠ S'_43 := Nat.ne_of_lt (Nat.lt_of_lt_of_le f45.lt p43_3)
  have ne_b19_S'_43 : b19 ≠ S'_43 := Nat.ne_of_lt (Nat.lt_of_lt_of_le f46.lt p43_3)
  have ne_b28_S'_43 : b28 ≠ S'_43 := Nat.ne_of_lt (Nat.lt_of_lt_of_le f47.lt p43_3)
  have ne_b38_S'_43 : b38 ≠ S'_43 := Nat.ne_of_lt (Nat.lt_of_lt_of_le A38.lt p43_3)
  have g_S'_43 : n0 ≤ S'_43 := Nat.le_trans z42 p43_3
  have f53 : AV Z T43.heap b1 k1 .int 3 (fun i => Value.int (fa9 i)) := (f44.keep p43_0 (ninS ne_b1_b38 nin0))
  obtain ⟨cq52, kq52, q52a, q52b, q52c⟩ := isOf hZ rfl p43_7
  obtain ⟨_, _, ⟨T52, L52, k52, n52⟩, -, X52, ⟨Lc52, hQ52, l52, y52, z52⟩, st52⟩ := X43.virtualBack hx (y := (⟨"com/example/always_over_paths/alwaysoverpaths/explicit/MarkingTable", "add", "([I)I"⟩ : MethodName)) (z := (⟨"com/example/always_over_paths/alwaysoverpaths/explicit/MarkingTable", "add", "([I)I"⟩ : MethodName)) hown (mvT hZ (hw _ (List.mem_of_getElem? (i := 31) rfl))) (mvT hZ (hw _ (List.mem_of_getElem? (i := 32) rfl))) (notFace_of_selects (args := #[]) (mvT hZ (hw _ (List.mem_of_getElem? (i := 34) rfl)))) (mvT hZ (hw _ (List.mem_of_getElem? (i := 34) rfl))) (mvT hZ (hw _ (List.mem_of_getElem? (i := 33) rfl))) (by decide) (backOf (W := 0) (rmad0 l Z a0 hw [] b38 b1 P'_43 R'_43 S'_43 kP'_43 kR'_43 kS'_43 (fun _ => (0 : Int64)) (fun _ => (0 : Int64)) k1 fa9 T43.heap n0 z48 p43_7 p43_8 p43_9 p43_10 p43_11 p43_12 p43_13 p43_14 p43_15 p43_16 p43_17 f53 ne_b38_P'_43 ne_b38_R'_43 ne_b38_S'_43 ne_b1_P'_43 ne_b1_R'_43 ne_b1_S'_43 (Ne.symm ne_b1_b38) p43_4 p43_5 p43_6 g_b38 g_P'_43 g_R'_43 g_S'_43 hma) hZ (hw _ (List.mem_of_getElem? (i := 35) rfl)) (hw _ (List.mem_of_getElem? (i := 4) rfl)) (by decide) (by decide)) q52a q52c (g := (mkF m 102 #[vi p1, vi p2, vi p3, vi p4, vi p5, vi p6, vr b1, vr b10, vr b19, vr b28, vr b38, .unset, .unset, .unset] [(.ref b1), (.ref b38)])) rfl (by rw [hml]; rfl) (Steps.refl _) (argsL := [(.ref b1)]) (rest := []) (lenOf pd_9 rfl) rfl (by show 2 * 0 + _ ≤ _; exact Nat.le_of_eq rfl) (hb hby at_102) (fun _ _ => ⟨rfl, rfl, (by decide : 8 + 4 ≤ _), (by decide : 85 + 69 ≤ _)⟩)
  dsimp only [Pt.U, Pt.locs, Pt.cells, Pt.slots] at X52 l52 y52 z52 st52 hQ52
  subst y52 z52
  obtain ⟨P'_52, R'_52, S'_52, kP'_52, kR'_52, kS'_52, fP'_52, B'_52, fR'_52, rfl, N52q, p52_0, p52_1, p52_2, p52_3, p52_4, p52_5, p52_6, p52_7, p52_8, p52_9, p52_10, p52_11, p52_12, p52_13, p52_14, p52_15, p52_16, p52_17, p52_18, p52_19, p52_20⟩ := hQ52
  have N52 : Fr n0 L52 := by rw [l52]; exact Fr.app N43 N52q
  have f54 : AV Z T43.heap b10 k10 .int 3 (fun i => Value.int (fb18 i)) := (f45.keep p43_0 (ninS ne_b10_b38 nin0))
  have f55 : AV Z T43.heap b19 k19 .int 3 (fun i => Value.int ((updI (updI (updI (fun _ => (0 : Int32)) 0 (-1 : Int32)) 1 (-1 : Int32)) 2 (-1 : Int32)) i)) := (f46.keep p43_0 (ninS ne_b19_b38 nin0))
  have f56 : AV Z T43.heap b28 k28 .int 3 (fun i => Value.int ((updI (updI (updI (fun _ => (0 : Int32)) 0 (-1 : Int32)) 1 (-1 : Int32)) 2 (-1 : Int32)) i)) := (f47.keep p43_0 (ninS ne_b28_b38 nin0))
  have z57 : n0 ≤ T52.heap.size := Nat.le_trans z48 p52_0.1
  have ne_b1_P'_52 : b1 ≠ P'_52 := own_old ne_b1_P'_43 f53.lt p52_1
  have ne_b10_P'_52 : b10 ≠ P'_52 := own_old ne_b10_P'_43 f54.lt p52_1
  have ne_b19_P'_52 : b19 ≠ P'_52 := own_old ne_b19_P'_43 f55.lt p52_1
  have ne_b28_P'_52 : b28 ≠ P'_52 := own_old ne_b28_P'_43 f56.lt p52_1
  have ne_b38_P'_52 : b38 ≠ P'_52 := own_old ne_b38_P'_43 p43_7.lt p52_1
  have ne_R'_43_P'_52 : R'_43 ≠ P'_52 := own_old (Ne.symm p43_4) p43_16.lt p52_1
  have ne_S'_43_P'_52 : S'_43 ≠ P'_52 := own_old (Ne.symm p43_5) p43_17.lt p52_1
  have g_P'_52 : n0 ≤ P'_52 := own_oldg g_P'_43 z48 p52_1
  have ne_b1_R'_52 : b1 ≠ R'_52 := own_old ne_b1_R'_43 f53.lt p52_2
  have ne_b10_R'_52 : b10 ≠ R'_52 := own_old ne_b10_R'_43 f54.lt p52_2
  have ne_b19_R'_52 : b19 ≠ R'_52 := own_old ne_b19_R'_43 f55.lt p52_2
  have ne_b28_R'_52 : b28 ≠ R'_52 := own_old ne_b28_R'_43 f56.lt p52_2
  have ne_b38_R'_52 : b38 ≠ R'_52 := own_old ne_b38_R'_43 p43_7.lt p52_2
  have ne_P'_43_R'_52 : P'_43 ≠ R'_52 := own_old p43_4 p43_15.lt p52_2
  have ne_S'_43_R'_52 : S'_43 ≠ R'_52 := own_old (Ne.symm p43_6) p43_17.lt p52_2
  have g_R'_52 : n0 ≤ R'_52 := own_oldg g_R'_43 z48 p52_2
  have ne_b1_S'_52 : b1 ≠ S'_52 := own_old ne_b1_S'_43 f53.lt p52_3
  have ne_b10_S'_52 : b10 ≠ S'_52 := own_old ne_b10_S'_43 f54.lt p52_3
  have ne_b19_S'_52 : b19 ≠ S'_52 := own_old ne_b19_S'_43 f55.lt p52_3
  have ne_b28_S'_52 : b28 ≠ S'_52 := own_old ne_b28_S'_43 f56.lt p52_3
  have ne_b38_S'_52 : b38 ≠ S'_52 := own_old ne_b38_S'_43 p43_7.lt p52_3
  have ne_P'_43_S'_52 : P'_43 ≠ S'_52 := own_old p43_5 p43_15.lt p52_3
  have ne_R'_43_S'_52 : R'_43 ≠ S'_52 := own_old p43_6 p43_16.lt p52_3
  have g_S'_52 : n0 ≤ S'_52 := own_oldg g_S'_43 z48 p52_3
  have f59 : AV Z T52.heap b10 k10 .int 3 (fun i => Value.int (fb18 i)) := (f54.keep p52_0 (ninS ne_b10_b38 (ninS ne_b10_P'_43 (ninS ne_b10_R'_43 (ninS ne_b10_S'_43 nin0)))))
  obtain ⟨cq58, kq58, q58a, q58b, q58c⟩ := isOf hZ rfl p52_7
  obtain ⟨_, _, ⟨T58, L58, k58, n58⟩, -, X58, ⟨Lc58, hQ58, l58, y58, z58⟩, st58⟩ := X52.virtualBack hx (y := (⟨"com/example/always_over_paths/alwaysoverpaths/explicit/MarkingTable", "add", "([I)I"⟩ : MethodName)) (z := (⟨"com/example/always_over_paths/alwaysoverpaths/explicit/MarkingTable", "add", "([I)I"⟩ : MethodName)) hown (mvT hZ (hw _ (List.mem_of_getElem? (i := 31) rfl))) (mvT hZ (hw _ (List.mem_of_getElem? (i := 32) rfl))) (notFace_of_selects (args := #[]) (mvT hZ (hw _ (List.mem_of_getElem? (i := 34) rfl)))) (mvT hZ (hw _ (List.mem_of_getElem? (i := 34) rfl))) (mvT hZ (hw _ (List.mem_of_getElem? (i := 33) rfl))) (by decide) (backOf (W := 0) (rmad1 l Z a0 hw [] b38 b10 B'_52 P'_52 R'_52 S'_52 kP'_52 kR'_52 kS'_52 fP'_52 fR'_52 k10 fb18 (fa9 0) (fa9 1) (fa9 2) T52.heap n0 z57 p52_7 p52_8 p52_9 p52_10 p52_11 p52_12 p52_13 p52_14 p52_15 p52_16 p52_17 f59 ne_b38_P'_52 ne_b38_R'_52 ne_b38_S'_52 ne_b10_P'_52 ne_b10_R'_52 ne_b10_S'_52 (Ne.symm ne_b10_b38) p52_4 p52_5 p52_6 g_b38 g_P'_52 g_R'_52 g_S'_52 hmb p52_18 p52_19 p52_20) hZ (hw _ (List.mem_of_getElem? (i := 35) rfl)) (hw _ (List.mem_of_getElem? (i := 4) rfl)) (by decide) (by decide)) q58a q58c (g := (mkF m 111 #[vi p1, vi p2, vi p3, vi p4, vi p5, vi p6, vr b1, vr b10, vr b19, vr b28, vr b38, vi (0 : Int32), .unset, .unset] [(.ref b10), (.ref b38)])) rfl (by rw [hml]; rfl) (Steps.refl _) (argsL := [(.ref b10)]) (rest := []) (lenOf pd_9 rfl) rfl (by show 2 * 0 + _ ≤ _; exact Nat.le_of_eq rfl) (hb hby at_111) (fun _ _ => ⟨rfl, rfl, (by decide : 12 + 4 ≤ _), (by decide : 154 + 69 ≤ _)⟩)
  dsimp only [Pt.U, Pt.locs, Pt.cells, Pt.slots] at X58 l58 y58 z58 st58 hQ58
  subst y58 z58
  obtain ⟨P'_58, kP'_58, fP'_58, B'_58, rfl, N58q, p58_0, p58_1, p58_2, p58_3, p58_4, p58_5, p58_6, p58_7, p58_8, p58_9, p58_10, p58_11⟩ := hQ58
  have N58 : Fr n0 L58 := by rw [l58]; exact Fr.app N52 N58q
  have f60 : AV Z T52.heap b1 k1 .int 3 (fun i => Value.int (fa9 i)) := (f53.keep p52_0 (ninS ne_b1_b38 (ninS ne_b1_P'_43 (ninS ne_b1_R'_43 (ninS ne_b1_S'_43 nin0)))))
  have f61 : AV Z T52.heap b19 k19 .int 3 (fun i => Value.int ((updI (updI (updI (fun _ => (0 : Int32)) 0 (-1 : Int32)) 1 (-1 : Int32)) 2 (-1 : Int32)) i)) := (f55.keep p52_0 (ninS ne_b19_b38 (ninS ne_b19_P'_43 (ninS ne_b19_R'_43 (ninS ne_b19_S'_43 nin0)))))
  have f62 : AV Z T52.heap b28 k28 .int 3 (fun i => Value.int ((updI (updI (updI (fun _ => (0 : Int32)) 0 (-1 : Int32)) 1 (-1 : Int32)) 2 (-1 : Int32)) i)) := (f56.keep p52_0 (ninS ne_b28_b38 (ninS ne_b28_P'_43 (ninS ne_b28_R'_43 (ninS ne_b28_S'_43 nin0)))))
  have z63 : n0 ≤ T58.heap.size := Nat.le_trans z57 p58_0.1
  have ne_b1_P'_58 : b1 ≠ P'_58 := own_old ne_b1_P'_52 f60.lt p58_1
  have ne_b10_P'_58 : b10 ≠ P'_58 := own_old ne_b10_P'_52 f59.lt p58_1
  have ne_b19_P'_58 : b19 ≠ P'_58 := own_old ne_b19_P'_52 f61.lt p58_1
  have ne_b28_P'_58 : b28 ≠ P'_58 := own_old ne_b28_P'_52 f62.lt p58_1
  have ne_b38_P'_58 : b38 ≠ P'_58 := own_old ne_b38_P'_52 p52_7.lt p58_1
  have ne_R'_52_P'_58 : R'_52 ≠ P'_58 := own_old (Ne.symm p52_4) p52_16.lt p58_1
  have ne_S'_52_P'_58 : S'_52 ≠ P'_58 := own_old (Ne.symm p52_5) p52_17.lt p58_1
  have g_P'_58 : n0 ≤ P'_58 := own_oldg g_P'_52 z57 p58_1
  refine GoalS.lift (B := (T58.setTop (mkF m 114 #[vi p1, vi p2, vi p3, vi p4, vi p5, vi p6, vr b1, vr b10, vr b19, vr b28, vr b38, vi (0 : Int32), .unset, .unset] [(.int (own_nb (fa9 0) (fa9 1) (fa9 2) (fb18 0) (fb18 1) (fb18 2)))]))) (fun t k => ?_) ?_
  · show Steps p.tables e below (s₁.setTop (mkF m 0 #[vi p1, vi p2, vi p3, vi p4, vi p5, vi p6, .unset, .unset, .unset, .unset, .unset, .unset, .unset, .unset] [])) _
    refine XS.iconst X0.here hx rfl (hb hby at_0) ?_
    refine st1 _ ?_
    refine XS.dup X1.here hx rfl (hb hby at_3) rfl rfl ?_
    refine XS.iconst X1.here hx rfl (hb hby at_4) ?_
    refine XS.iloadN X1.here hx rfl (hb hby at_5) rfl ?_
    refine X1.ldcInt hx hown (mvT hZ (hw _ (List.mem_of_getElem? (i := 1) rfl))) (g := (mkF m 6 #[vi p1, vi p2, vi p3, vi p4, vi p5, vi p6, .unset, .unset, .unset, .unset, .unset, .unset, .unset, .unset] [(.int p1), (.int (0 : Int32)), (.ref b1), (.ref b1)])) rfl (hb hby at_6) _ ?_
    show Steps p.tables e below (T1.setTop (mkF m 8 #[vi p1, vi p2, vi p3, vi p4, vi p5, vi p6, .unset, .unset, .unset, .unset, .unset, .unset, .unset, .unset] [(.int (2147483647 : Int32)), (.int p1), (.int (0 : Int32)), (.ref b1), (.ref b1)])) _
    refine XS.iand X1.here hx rfl (hb hby at_8) rfl ?_
    refine st3 _ ?_
    refine XS.dup X3.here hx rfl (hb hby at_10) rfl rfl ?_
    refine XS.iconst X3.here hx rfl (hb hby at_11) ?_
    refine XS.iloadN X3.here hx rfl (hb hby at_12) rfl ?_
    refine X3.ldcInt hx hown (mvT hZ (hw _ (List.mem_of_getElem? (i := 1) rfl))) (g := (mkF m 13 #[vi p1, vi p2, vi p3, vi p4, vi p5, vi p6, .unset, .unset, .unset, .unset, .unset, .unset, .unset, .unset] [(.int p2), (.int (1 : Int32)), (.ref b1), (.ref b1)])) rfl (hb hby at_13) _ ?_
    show Steps p.tables e below (T3.setTop (mkF m 15 #[vi p1, vi p2, vi p3, vi p4, vi p5, vi p6, .unset, .unset, .unset, .unset, .unset, .unset, .unset, .unset] [(.int (2147483647 : Int32)), (.int p2), (.int (1 : Int32)), (.ref b1), (.ref b1)])) _
    refine XS.iand X3.here hx rfl (hb hby at_15) rfl ?_
    refine st5 _ ?_
    refine XS.dup X5.here hx rfl (hb hby at_17) rfl rfl ?_
    refine XS.iconst X5.here hx rfl (hb hby at_18) ?_
    refine XS.iloadN X5.here hx rfl (hb hby at_19) rfl ?_
    refine X5.ldcInt hx hown (mvT hZ (hw _ (List.mem_of_getElem? (i := 1) rfl))) (g := (mkF m 20 #[vi p1, vi p2, vi p3, vi p4, vi p5, vi p6, .unset, .unset, .unset, .unset, .unset, .unset, .unset, .unset] [(.int p3), (.int (2 : Int32)), (.ref b1), (.ref b1)])) rfl (hb hby at_20) _ ?_
    show Steps p.tables e below (T5.setTop (mkF m 22 #[vi p1, vi p2, vi p3, vi p4, vi p5, vi p6, .unset, .unset, .unset, .unset, .unset, .unset, .unset, .unset] [(.int (2147483647 : Int32)), (.int p3), (.int (2 : Int32)), (.ref b1), (.ref b1)])) _
    refine XS.iand X5.here hx rfl (hb hby at_22) rfl ?_
    refine st7 _ ?_
    refine XS.astore X7.here hx rfl (hb hby at_24) rfl rfl (l' := #[vi p1, vi p2, vi p3, vi p4, vi p5, vi p6, vr b1, .unset, .unset, .unset, .unset, .unset, .unset, .unset]) rfl ?_
    refine XS.iconst X7.here hx rfl (hb hby at_26) ?_
    refine st10 _ ?_
    refine XS.dup X10.here hx rfl (hb hby at_29) rfl rfl ?_
    show Steps p.tables e below (T10.setTop (mkF m 30 #[vi p1, vi p2, vi p3, vi p4, vi p5, vi p6, vr b1, .unset, .unset, .unset, .unset, .unset, .unset, .unset] [(.ref b10), (.ref b10)])) _
    refine XS.iconst X10.here hx rfl (hb hby at_30) ?_
    refine XS.iloadN X10.here hx rfl (hb hby at_31) rfl ?_
    refine X10.ldcInt hx hown (mvT hZ (hw _ (List.mem_of_getElem? (i := 1) rfl))) (g := (mkF m 32 #[vi p1, vi p2, vi p3, vi p4, vi p5, vi p6, vr b1, .unset, .unset, .unset, .unset, .unset, .unset, .unset] [(.int p4), (.int (0 : Int32)), (.ref b10), (.ref b10)])) rfl (hb hby at_32) _ ?_
    refine XS.iand X10.here hx rfl (hb hby at_34) rfl ?_
    refine st12 _ ?_
    refine XS.dup X12.here hx rfl (hb hby at_36) rfl rfl ?_
    show Steps p.tables e below (T12.setTop (mkF m 37 #[vi p1, vi p2, vi p3, vi p4, vi p5, vi p6, vr b1, .unset, .unset, .unset, .unset, .unset, .unset, .unset] [(.ref b10), (.ref b10)])) _
    refine XS.iconst X12.here hx rfl (hb hby at_37) ?_
    refine XS.iload X12.here hx rfl (hb hby at_38) rfl ?_
    refine X12.ldcInt hx hown (mvT hZ (hw _ (List.mem_of_getElem? (i := 1) rfl))) (g := (mkF m 40 #[vi p1, vi p2, vi p3, vi p4, vi p5, vi p6, vr b1, .unset, .unset, .unset, .unset, .unset, .unset, .unset] [(.int p5), (.int (1 : Int32)), (.ref b10), (.ref b10)])) rfl (hb hby at_40) _ ?_
    refine XS.iand X12.here hx rfl (hb hby at_42) rfl ?_
    refine st14 _ ?_
    refine XS.dup X14.here hx rfl (hb hby at_44) rfl rfl ?_
    show Steps p.tables e below (T14.setTop (mkF m 45 #[vi p1, vi p2, vi p3, vi p4, vi p5, vi p6, vr b1, .unset, .unset, .unset, .unset, .unset, .unset, .unset] [(.ref b10), (.ref b10)])) _
    refine XS.iconst X14.here hx rfl (hb hby at_45) ?_
    refine XS.iload X14.here hx rfl (hb hby at_46) rfl ?_
    refine X14.ldcInt hx hown (mvT hZ (hw _ (List.mem_of_getElem? (i := 1) rfl))) (g := (mkF m 48 #[vi p1, vi p2, vi p3, vi p4, vi p5, vi p6, vr b1, .unset, .unset, .unset, .unset, .unset, .unset, .unset] [(.int p6), (.int (2 : Int32)), (.ref b10), (.ref b10)])) rfl (hb hby at_48) _ ?_
    refine XS.iand X14.here hx rfl (hb hby at_50) rfl ?_
    refine st16 _ ?_
    refine XS.astore X16.here hx rfl (hb hby at_52) rfl rfl (l' := #[vi p1, vi p2, vi p3, vi p4, vi p5, vi p6, vr b1, vr b10, .unset, .unset, .unset, .unset, .unset, .unset]) rfl ?_
    show Steps p.tables e below (T16.setTop (mkF m 54 #[vi p1, vi p2, vi p3, vi p4, vi p5, vi p6, vr b1, vr b10, .unset, .unset, .unset, .unset, .unset, .unset] [])) _
    refine XS.iconst X16.here hx rfl (hb hby at_54) ?_
    refine st19 _ ?_
    refine XS.dup X19.here hx rfl (hb hby at_57) rfl rfl ?_
    refine XS.iconst X19.here hx rfl (hb hby at_58) ?_
    refine XS.iconst X19.here hx rfl (hb hby at_59) ?_
    refine st22 _ ?_
    show Steps p.tables e below (T22.setTop (mkF m 61 #[vi p1, vi p2, vi p3, vi p4, vi p5, vi p6, vr b1, vr b10, .unset, .unset, .unset, .unset, .unset, .unset] [(.ref b19)])) _
    refine XS.dup X22.here hx rfl (hb hby at_61) rfl rfl ?_
    refine XS.iconst X22.here hx rfl (hb hby at_62) ?_
    refine XS.iconst X22.here hx rfl (hb hby at_63) ?_
    refine st24 _ ?_
    refine XS.dup X24.here hx rfl (hb hby at_65) rfl rfl ?_
    refine XS.iconst X24.here hx rfl (hb hby at_66) ?_
    show Steps p.tables e below (T24.setTop (mkF m 67 #[vi p1, vi p2, vi p3, vi p4, vi p5, vi p6, vr b1, vr b10, .unset, .unset, .unset, .unset, .unset, .unset] [(.int (2 : Int32)), (.ref b19), (.ref b19)])) _
    refine XS.iconst X24.here hx rfl (hb hby at_67) ?_
    refine st26 _ ?_
    refine XS.astore X26.here hx rfl (hb hby at_69) rfl rfl (l' := #[vi p1, vi p2, vi p3, vi p4, vi p5, vi p6, vr b1, vr b10, vr b19, .unset, .unset, .unset, .unset, .unset]) rfl ?_
    refine XS.iconst X26.here hx rfl (hb hby at_71) ?_
    refine st28 _ ?_
    refine XS.dup X28.here hx rfl (hb hby at_74) rfl rfl ?_
    show Steps p.tables e below (T28.setTop (mkF m 75 #[vi p1, vi p2, vi p3, vi p4, vi p5, vi p6, vr b1, vr b10, vr b19, .unset, .unset, .unset, .unset, .unset] [(.ref b28), (.ref b28)])) _
    refine XS.iconst X28.here hx rfl (hb hby at_75) ?_
    refine XS.iconst X28.here hx rfl (hb hby at_76) ?_
    refine st32 _ ?_
    refine XS.dup X32.here hx rfl (hb hby at_78) rfl rfl ?_
    refine XS.iconst X32.here hx rfl (hb hby at_79) ?_
    refine XS.iconst X32.here hx rfl (hb hby at_80) ?_
    show Steps p.tables e below (T32.setTop (mkF m 81 #[vi p1, vi p2, vi p3, vi p4, vi p5, vi p6, vr b1, vr b10, vr b19, .unset, .unset, .unset, .unset, .unset] [(.int (-1 : Int32)), (.int (1 : Int32)), (.ref b28), (.ref b28)])) _
    refine st34 _ ?_
    refine XS.dup X34.here hx rfl (hb hby at_82) rfl rfl ?_
    refine XS.iconst X34.here hx rfl (hb hby at_83) ?_
    refine XS.iconst X34.here hx rfl (hb hby at_84) ?_
    refine st36 _ ?_
    refine XS.astore X36.here hx rfl (hb hby at_86) rfl rfl (l' := #[vi p1, vi p2, vi p3, vi p4, vi p5, vi p6, vr b1, vr b10, vr b19, vr b28, .unset, .unset, .unset, .unset]) rfl ?_
    show Steps p.tables e below (T36.setTop (mkF m 88 #[vi p1, vi p2, vi p3, vi p4, vi p5, vi p6, vr b1, vr b10, vr b19, vr b28, .unset, .unset, .unset, .unset] [])) _
    refine st38 _ ?_
    refine XS.dup X38.here hx rfl (hb hby at_91) rfl rfl ?_
    refine XS.iconst X38.here hx rfl (hb hby at_92) ?_
    refine st43.trans ?_
    refine XS.astore X43.here hx rfl (hb hby at_96) rfl rfl (l' := #[vi p1, vi p2, vi p3, vi p4, vi p5, vi p6, vr b1, vr b10, vr b19, vr b28, vr b38, .unset, .unset, .unset]) rfl ?_
    refine XS.aload X43.here hx rfl (hb hby at_98) rfl rfl ?_
    show Steps p.tables e below (T43.setTop (mkF m 100 #[vi p1, vi p2, vi p3, vi p4, vi p5, vi p6, vr b1, vr b10, vr b19, vr b28, vr b38, .unset, .unset, .unset] [(.ref b38)])) _
    refine XS.aload X43.here hx rfl (hb hby at_100) rfl rfl ?_
    refine st52.trans ?_
    refine XS.istore X52.here hx rfl (hb hby at_105) rfl (l' := #[vi p1, vi p2, vi p3, vi p4, vi p5, vi p6, vr b1, vr b10, vr b19, vr b28, vr b38, vi (0 : Int32), .unset, .unset]) rfl ?_
    refine XS.aload X52.here hx rfl (hb hby at_107) rfl rfl ?_
    refine XS.aload X52.here hx rfl (hb hby at_109) rfl rfl ?_
    refine st58.trans ?_
    exact k
  by_cases hf64 : ((fa9 0) = (fb18 0) ∧ (fa9 1) = (fb18 1) ∧ (fa9 2) = (fb18 2))
  · refine GoalS.lift (B := (T58.setTop (mkF m 114 #[vi p1, vi p2, vi p3, vi p4, vi p5, vi p6, vr b1, vr b10, vr b19, vr b28, vr b38, vi (0 : Int32), .unset, .unset] [(.int (0 : Int32))]))) (fun t k => by rw [(show (own_nb (fa9 0) (fa9 1) (fa9 2) (fb18 0) (fb18 1) (fb18 2)) = (0 : Int32) from if_pos hf64)]; exact k) ?_
    have f66 : AV Z T58.heap b1 k1 .int 3 (fun i => Value.int (fa9 i)) := (f60.keep p58_0 (ninS ne_b1_b38 (ninS ne_b1_P'_52 (ninS ne_b1_R'_52 (ninS ne_b1_S'_52 nin0)))))
    obtain ⟨cl65, Ar65, kc65, sz65, -, hv65⟩ := id f66
    have hin65 : ¬ ((0 : Int32) < 0 ∨ cl65.slots.size ≤ ((0 : Int32)).toNatClampNeg) := AV.inb sz65 (show ¬ (0 : Int32) < 0 ∧ ((0 : Int32)).toNatClampNeg < 3 by decide)
    have hat65 : cl65.slots[((0 : Int32)).toNatClampNeg]? = some (.int (fa9 0)) := (hv65 _ (AV.inx (show ¬ (0 : Int32) < 0 ∧ ((0 : Int32)).toNatClampNeg < 3 by decide))).trans (congrArg some rfl)
    have f68 : AV Z T58.heap b10 k10 .int 3 (fun i => Value.int (fb18 i)) := (f59.keep p58_0 (ninS ne_b10_b38 (ninS ne_b10_P'_52 (ninS ne_b10_R'_52 (ninS ne_b10_S'_52 nin0)))))
    obtain ⟨cl67, Ar67, kc67, sz67, -, hv67⟩ := id f68
    have hin67 : ¬ ((0 : Int32) < 0 ∨ cl67.slots.size ≤ ((0 : Int32)).toNatClampNeg) := AV.inb sz67 (show ¬ (0 : Int32) < 0 ∧ ((0 : Int32)).toNatClampNeg < 3 by decide)
    have hat67 : cl67.slots[((0 : Int32)).toNatClampNeg]? = some (.int (fb18 0)) := (hv67 _ (AV.inx (show ¬ (0 : Int32) < 0 ∧ ((0 : Int32)).toNatClampNeg < 3 by decide))).trans (congrArg some rfl)
    refine GoalS.lift (B := (T58.setTop (mkF m 124 #[vi p1, vi p2, vi p3, vi p4, vi p5, vi p6, vr b1, vr b10, vr b19, vr b28, vr b38, vi (0 : Int32), vi (0 : Int32), .unset] [(.int (fb18 0)), (.int (fa9 0))]))) (fun t k => ?_) ?_
    · show Steps p.tables e below (T58.setTop (mkF m 114 #[vi p1, vi p2, vi p3, vi p4, vi p5, vi p6, vr b1, vr b10, vr b19, vr b28, vr b38, vi (0 : Int32), .unset, .unset] [(.int (0 : Int32))])) _
      refine XS.istore X58.here hx rfl (hb hby at_114) rfl (l' := #[vi p1, vi p2, vi p3, vi p4, vi p5, vi p6, vr b1, vr b10, vr b19, vr b28, vr b38, vi (0 : Int32), vi (0 : Int32), .unset]) rfl ?_
      refine XS.aload X58.here hx rfl (hb hby at_116) rfl rfl ?_
      refine XS.iconst X58.here hx rfl (hb hby at_118) ?_
      refine X58.iaload hx (j := (0 : Int32)) (v := (.int (fa9 0))) Ar65.1 (State.isArrayOf_alike hZ.alike Ar65.2.1) Ar65.2.2 hin65 hat65 (g := (mkF m 119 #[vi p1, vi p2, vi p3, vi p4, vi p5, vi p6, vr b1, vr b10, vr b19, vr b28, vr b38, vi (0 : Int32), vi (0 : Int32), .unset] [(.int (0 : Int32)), (.ref b1)])) rfl rfl (hb hby at_119) _ ?_
      refine XS.aload X58.here hx rfl (hb hby at_120) rfl rfl ?_
      refine XS.iconst X58.here hx rfl (hb hby at_122) ?_
      show Steps p.tables e below (T58.setTop (mkF m 123 #[vi p1, vi p2, vi p3, vi p4, vi p5, vi p6, vr b1, vr b10, vr b19, vr b28, vr b38, vi (0 : Int32), vi (0 : Int32), .unset] [(.int (0 : Int32)), (.ref b10), (.int (fa9 0))])) _
      refine X58.iaload hx (j := (0 : Int32)) (v := (.int (fb18 0))) Ar67.1 (State.isArrayOf_alike hZ.alike Ar67.2.1) Ar67.2.2 hin67 hat67 (g := (mkF m 123 #[vi p1, vi p2, vi p3, vi p4, vi p5, vi p6, vr b1, vr b10, vr b19, vr b28, vr b38, vi (0 : Int32), vi (0 : Int32), .unset] [(.int (0 : Int32)), (.ref b10), (.int (fa9 0))])) rfl rfl (hb hby at_123) _ ?_
      exact k
    suffices J124_69 : GoalS p.tables e below s 40 512 (Q0 Z p1 p2 p3 p4 p5 p6 h0 n0) (T58.setTop (mkF m 154 #[vi p1, vi p2, vi p3, vi p4, vi p5, vi p6, vr b1, vr b10, vr b19, vr b28, vr b38, vi (0 : Int32), vi (0 : Int32), .unset] [(.int (1 : Int32))])) by
      obtain ⟨cl70, Ar70, kc70, sz70, -, hv70⟩ := id f66
      have hin70 : ¬ ((1 : Int32) < 0 ∨ cl70.slots.size ≤ ((1 : Int32)).toNatClampNeg) := AV.inb sz70 (show ¬ (1 : Int32) < 0 ∧ ((1 : Int32)).toNatClampNeg < 3 by decide)
      have hat70 : cl70.slots[((1 : Int32)).toNatClampNeg]? = some (.int (fa9 1)) := (hv70 _ (AV.inx (show ¬ (1 : Int32) < 0 ∧ ((1 : Int32)).toNatClampNeg < 3 by decide))).trans (congrArg some rfl)
      obtain ⟨cl71, Ar71, kc71, sz71, -, hv71⟩ := id f68
      have hin71 : ¬ ((1 : Int32) < 0 ∨ cl71.slots.size ≤ ((1 : Int32)).toNatClampNeg) := AV.inb sz71 (show ¬ (1 : Int32) < 0 ∧ ((1 : Int32)).toNatClampNeg < 3 by decide)
      have hat71 : cl71.slots[((1 : Int32)).toNatClampNeg]? = some (.int (fb18 1)) := (hv71 _ (AV.inx (show ¬ (1 : Int32) < 0 ∧ ((1 : Int32)).toNatClampNeg < 3 by decide))).trans (congrArg some rfl)
      obtain ⟨cl72, Ar72, kc72, sz72, -, hv72⟩ := id f66
      have hin72 : ¬ ((2 : Int32) < 0 ∨ cl72.slots.size ≤ ((2 : Int32)).toNatClampNeg) := AV.inb sz72 (show ¬ (2 : Int32) < 0 ∧ ((2 : Int32)).toNatClampNeg < 3 by decide)
      have hat72 : cl72.slots[((2 : Int32)).toNatClampNeg]? = some (.int (fa9 2)) := (hv72 _ (AV.inx (show ¬ (2 : Int32) < 0 ∧ ((2 : Int32)).toNatClampNeg < 3 by decide))).trans (congrArg some rfl)
      obtain ⟨cl73, Ar73, kc73, sz73, -, hv73⟩ := id f68
      have hin73 : ¬ ((2 : Int32) < 0 ∨ cl73.slots.size ≤ ((2 : Int32)).toNatClampNeg) := AV.inb sz73 (show ¬ (2 : Int32) < 0 ∧ ((2 : Int32)).toNatClampNeg < 3 by decide)
      have hat73 : cl73.slots[((2 : Int32)).toNatClampNeg]? = some (.int (fb18 2)) := (hv73 _ (AV.inx (show ¬ (2 : Int32) < 0 ∧ ((2 : Int32)).toNatClampNeg < 3 by decide))).trans (congrArg some rfl)
      refine GoalS.lift (B := (T58.setTop (mkF m 154 #[vi p1, vi p2, vi p3, vi p4, vi p5, vi p6, vr b1, vr b10, vr b19, vr b28, vr b38, vi (0 : Int32), vi (0 : Int32), .unset] [(.int (1 : Int32))]))) (fun t k => ?_) ?_
      · show Steps p.tables e below (T58.setTop (mkF m 124 #[vi p1, vi p2, vi p3, vi p4, vi p5, vi p6, vr b1, vr b10, vr b19, vr b28, vr b38, vi (0 : Int32), vi (0 : Int32), .unset] [(.int (fb18 0)), (.int (fa9 0))])) _
        refine XS.icmpNo X58.here hx rfl (hb hby at_124) rfl ((teq (hf64.1 : (fa9 0) = (fb18 0))).2) ?_
        refine XS.aload X58.here hx rfl (hb hby at_127) rfl rfl ?_
        refine XS.iconst X58.here hx rfl (hb hby at_129) ?_
        refine X58.iaload hx (j := (1 : Int32)) (v := (.int (fa9 1))) Ar70.1 (State.isArrayOf_alike hZ.alike Ar70.2.1) Ar70.2.2 hin70 hat70 (g := (mkF m 130 #[vi p1, vi p2, vi p3, vi p4, vi p5, vi p6, vr b1, vr b10, vr b19, vr b28, vr b38, vi (0 : Int32), vi (0 : Int32), .unset] [(.int (1 : Int32)), (.ref b1)])) rfl rfl (hb hby at_130) _ ?_
        refine XS.aload X58.here hx rfl (hb hby at_131) rfl rfl ?_
        refine XS.iconst X58.here hx rfl (hb hby at_133) ?_
        show Steps p.tables e below (T58.setTop (mkF m 134 #[vi p1, vi p2, vi p3, vi p4, vi p5, vi p6, vr b1, vr b10, vr b19, vr b28, vr b38, vi (0 : Int32), vi (0 : Int32), .unset] [(.int (1 : Int32)), (.ref b10), (.int (fa9 1))])) _
        refine X58.iaload hx (j := (1 : Int32)) (v := (.int (fb18 1))) Ar71.1 (State.isArrayOf_alike hZ.alike Ar71.2.1) Ar71.2.2 hin71 hat71 (g := (mkF m 134 #[vi p1, vi p2, vi p3, vi p4, vi p5, vi p6, vr b1, vr b10, vr b19, vr b28, vr b38, vi (0 : Int32), vi (0 : Int32), .unset] [(.int (1 : Int32)), (.ref b10), (.int (fa9 1))])) rfl rfl (hb hby at_134) _ ?_
        refine XS.icmpNo X58.here hx rfl (hb hby at_135) rfl ((teq (hf64.2.1 : (fa9 1) = (fb18 1))).2) ?_
        refine XS.aload X58.here hx rfl (hb hby at_138) rfl rfl ?_
        refine XS.iconst X58.here hx rfl (hb hby at_140) ?_
        refine X58.iaload hx (j := (2 : Int32)) (v := (.int (fa9 2))) Ar72.1 (State.isArrayOf_alike hZ.alike Ar72.2.1) Ar72.2.2 hin72 hat72 (g := (mkF m 141 #[vi p1, vi p2, vi p3, vi p4, vi p5, vi p6, vr b1, vr b10, vr b19, vr b28, vr b38, vi (0 : Int32), vi (0 : Int32), .unset] [(.int (2 : Int32)), (.ref b1)])) rfl rfl (hb hby at_141) _ ?_
        refine XS.aload X58.here hx rfl (hb hby at_142) rfl rfl ?_
        show Steps p.tables e below (T58.setTop (mkF m 144 #[vi p1, vi p2, vi p3, vi p4, vi p5, vi p6, vr b1, vr b10, vr b19, vr b28, vr b38, vi (0 : Int32), vi (0 : Int32), .unset] [(.ref b10), (.int (fa9 2))])) _
        refine XS.iconst X58.here hx rfl (hb hby at_144) ?_
        refine X58.iaload hx (j := (2 : Int32)) (v := (.int (fb18 2))) Ar73.1 (State.isArrayOf_alike hZ.alike Ar73.2.1) Ar73.2.2 hin73 hat73 (g := (mkF m 145 #[vi p1, vi p2, vi p3, vi p4, vi p5, vi p6, vr b1, vr b10, vr b19, vr b28, vr b38, vi (0 : Int32), vi (0 : Int32), .unset] [(.int (2 : Int32)), (.ref b10), (.int (fa9 2))])) rfl rfl (hb hby at_145) _ ?_
        refine XS.icmpNo X58.here hx rfl (hb hby at_146) rfl ((teq (hf64.2.2 : (fa9 2) = (fb18 2))).2) ?_
        refine XS.iconst X58.here hx rfl (hb hby at_149) ?_
        refine XS.goto X58.here hx rfl (pc0 := 150) (pc' := 154) rfl (hb hby at_150) (by decide) (by decide) ?_
        exact k
      exact J124_69  
    have f75 : AV Z T58.heap b19 k19 .int 3 (fun i => Value.int ((updI (updI (updI (fun _ => (0 : Int32)) 0 (-1 : Int32)) 1 (-1 : Int32)) 2 (-1 : Int32)) i)) := (f61.keep p58_0 (ninS ne_b19_b38 (ninS ne_b19_P'_52 (ninS ne_b19_R'_52 (ninS ne_b19_S'_52 nin0)))))
    obtain ⟨cq74, kq74, q74a, q74b, q74c⟩ := isOf hZ rfl p58_2
    obtain ⟨_, _, ⟨T74, L74, k74, n74⟩, -, X74, ⟨Lc74, hQ74, l74, y74, z74⟩, st74⟩ := X58.virtualBack hx (y := (⟨"com/example/always_over_paths/alwaysoverpaths/explicit/MarkingTable", "get", "(I[I)V"⟩ : MethodName)) (z := (⟨"com/example/always_over_paths/alwaysoverpaths/explicit/MarkingTable", "get", "(I[I)V"⟩ : MethodName)) hown (mvT hZ (hw _ (List.mem_of_getElem? (i := 73) rfl))) (mvT hZ (hw _ (List.mem_of_getElem? (i := 74) rfl))) (notFace_of_selects (args := #[]) (mvT hZ (hw _ (List.mem_of_getElem? (i := 76) rfl)))) (mvT hZ (hw _ (List.mem_of_getElem? (i := 76) rfl))) (mvT hZ (hw _ (List.mem_of_getElem? (i := 75) rfl))) (by decide) (backOf (W := 0) (rmget0 l Z a0 hw [] b38 b19 B'_58 P'_58 kP'_58 k19 fP'_58 (updI (updI (updI (fun _ => (0 : Int32)) 0 (-1 : Int32)) 1 (-1 : Int32)) 2 (-1 : Int32)) T58.heap n0 z63 p58_3 p58_4 p58_5 p58_6 f75 (Ne.symm ne_b19_P'_58) (Ne.symm ne_b19_b38) g_b19 p58_7) hZ (hw _ (List.mem_of_getElem? (i := 77) rfl)) (hw _ (List.mem_of_getElem? (i := 4) rfl)) (by decide) (by decide)) q74a q74c (g := (mkF m 186 #[vi p1, vi p2, vi p3, vi p4, vi p5, vi p6, vr b1, vr b10, vr b19, vr b28, vr b38, vi (0 : Int32), vi (0 : Int32), vi (1 : Int32)] [(.ref b19), (.int (0 : Int32)), (.ref b38)])) rfl (by rw [hml]; rfl) (Steps.refl _) (argsL := [(.int (0 : Int32)), (.ref b19)]) (rest := []) (lenOf pd_10 rfl) rfl (by show 2 * 0 + _ ≤ _; exact Nat.le_of_eq rfl) (hb hby at_186) (fun _ _ => ⟨rfl, rfl, (by decide : 16 + 0 ≤ _), (by decide : 223 + 0 ≤ _)⟩)
    dsimp only [Pt.U, Pt.locs, Pt.cells, Pt.slots] at X74 l74 y74 z74 st74 hQ74
    subst y74 z74
    obtain ⟨rfl, N74q, p74_0, p74_1⟩ := hQ74
    have N74 : Fr n0 L74 := by rw [l74]; exact Fr.app N58 N74q
    have z76 : n0 ≤ T74.heap.size := Nat.le_trans z63 p74_0.1
    have f78 : Fld Z T74.heap b38 "com/example/always_over_paths/alwaysoverpaths/explicit/MarkingTable" "bits" "I" (.int B'_58) := (p58_3.keep p74_0 (ninS (Ne.symm ne_b19_b38) nin0))
    have f79 : Fld Z T74.heap b38 "com/example/always_over_paths/alwaysoverpaths/explicit/MarkingTable" "words" "I" (.int (own_W B'_58)) := (p58_4.keep p74_0 (ninS (Ne.symm ne_b19_b38) nin0))
    have f80 : Fld Z T74.heap b38 "com/example/always_over_paths/alwaysoverpaths/explicit/MarkingTable" "packed" "[J" (.ref P'_58) := (p58_5.keep p74_0 (ninS (Ne.symm ne_b19_b38) nin0))
    have f81 : AV Z T74.heap P'_58 kP'_58 .long (16 * (own_W B'_58).toNatClampNeg) (fun i => Value.long (fP'_58 i)) := (p58_6.keep p74_0 (ninS (Ne.symm ne_b19_P'_58) nin0))
    have f82 : AV Z T74.heap b28 k28 .int 3 (fun i => Value.int ((updI (updI (updI (fun _ => (0 : Int32)) 0 (-1 : Int32)) 1 (-1 : Int32)) 2 (-1 : Int32)) i)) := ((f62.keep p58_0 (ninS ne_b28_b38 (ninS ne_b28_P'_52 (ninS ne_b28_R'_52 (ninS ne_b28_S'_52 nin0))))).keep p74_0 (ninS (Ne.symm ne_b19_b28) nin0))
    have f83 : Exa Z T74.heap b38 "com/example/always_over_paths/alwaysoverpaths/explicit/MarkingTable" := (p58_2.keep p74_0)
    obtain ⟨cq77, kq77, q77a, q77b, q77c⟩ := isOf hZ rfl f83
    obtain ⟨_, _, ⟨T77, L77, k77, n77⟩, -, X77, ⟨Lc77, hQ77, l77, y77, z77⟩, st77⟩ := X74.virtualBack hx (y := (⟨"com/example/always_over_paths/alwaysoverpaths/explicit/MarkingTable", "get", "(I[I)V"⟩ : MethodName)) (z := (⟨"com/example/always_over_paths/alwaysoverpaths/explicit/MarkingTable", "get", "(I[I)V"⟩ : MethodName)) hown (mvT hZ (hw _ (List.mem_of_getElem? (i := 73) rfl))) (mvT hZ (hw _ (List.mem_of_getElem? (i := 74) rfl))) (notFace_of_selects (args := #[]) (mvT hZ (hw _ (List.mem_of_getElem? (i := 76) rfl)))) (mvT hZ (hw _ (List.mem_of_getElem? (i := 76) rfl))) (mvT hZ (hw _ (List.mem_of_getElem? (i := 75) rfl))) (by decide) (backOf (W := 0) (rmget0 l Z a0 hw [] b38 b28 B'_58 P'_58 kP'_58 k28 fP'_58 (updI (updI (updI (fun _ => (0 : Int32)) 0 (-1 : Int32)) 1 (-1 : Int32)) 2 (-1 : Int32)) T74.heap n0 z76 f78 f79 f80 f81 f82 (Ne.symm ne_b28_P'_58) (Ne.symm ne_b28_b38) g_b28 p58_7) hZ (hw _ (List.mem_of_getElem? (i := 77) rfl)) (hw _ (List.mem_of_getElem? (i := 4) rfl)) (by decide) (by decide)) q77a q77c (g := (mkF m 195 #[vi p1, vi p2, vi p3, vi p4, vi p5, vi p6, vr b1, vr b10, vr b19, vr b28, vr b38, vi (0 : Int32), vi (0 : Int32), vi (1 : Int32)] [(.ref b28), (.int (0 : Int32)), (.ref b38)])) rfl (by rw [hml]; rfl) (Steps.refl _) (argsL := [(.int (0 : Int32)), (.ref b28)]) (rest := []) (lenOf pd_10 rfl) rfl (by show 2 * 0 + _ ≤ _; exact Nat.le_of_eq rfl) (hb hby at_195) (fun _ _ => ⟨rfl, rfl, (by decide : 16 + 0 ≤ _), (by decide : 223 + 0 ≤ _)⟩)
    dsimp only [Pt.U, Pt.locs, Pt.cells, Pt.slots] at X77 l77 y77 z77 st77 hQ77
    subst y77 z77
    obtain ⟨rfl, N77q, p77_0, p77_1⟩ := hQ77
    have N77 : Fr n0 L77 := by rw [l77]; exact Fr.app N74 N77q
    have z84 : n0 ≤ T77.heap.size := Nat.le_trans z76 p77_0.1
    have iA := own_inv3 p58_7 p58_8 p58_10
    have f86 : AV Z T77.heap b19 k19 .int 3 (fun i => Value.int ((own_un B'_58 (fP'_58 0) (fP'_58 1)) i)) := (p74_1.keep p77_0 (ninS ne_b19_b28 nin0))
    obtain ⟨cl85, Ar85, kc85, sz85, -, hv85⟩ := id f86
    have hin85 : ¬ ((0 : Int32) < 0 ∨ cl85.slots.size ≤ ((0 : Int32)).toNatClampNeg) := AV.inb sz85 (show ¬ (0 : Int32) < 0 ∧ ((0 : Int32)).toNatClampNeg < 3 by decide)
    have hat85 : cl85.slots[((0 : Int32)).toNatClampNeg]? = some (.int ((own_un B'_58 (fP'_58 0) (fP'_58 1)) 0)) := (hv85 _ (AV.inx (show ¬ (0 : Int32) < 0 ∧ ((0 : Int32)).toNatClampNeg < 3 by decide))).trans (congrArg some rfl)
    have f88 : AV Z T77.heap b1 k1 .int 3 (fun i => Value.int (fa9 i)) := ((f66.keep p74_0 (ninS ne_b1_b19 nin0)).keep p77_0 (ninS ne_b1_b28 nin0))
    obtain ⟨cl87, Ar87, kc87, sz87, -, hv87⟩ := id f88
    have hin87 : ¬ ((0 : Int32) < 0 ∨ cl87.slots.size ≤ ((0 : Int32)).toNatClampNeg) := AV.inb sz87 (show ¬ (0 : Int32) < 0 ∧ ((0 : Int32)).toNatClampNeg < 3 by decide)
    have hat87 : cl87.slots[((0 : Int32)).toNatClampNeg]? = some (.int (fa9 0)) := (hv87 _ (AV.inx (show ¬ (0 : Int32) < 0 ∧ ((0 : Int32)).toNatClampNeg < 3 by decide))).trans (congrArg some rfl)
    obtain ⟨cl89, Ar89, kc89, sz89, -, hv89⟩ := id f86
    have hin89 : ¬ ((1 : Int32) < 0 ∨ cl89.slots.size ≤ ((1 : Int32)).toNatClampNeg) := AV.inb sz89 (show ¬ (1 : Int32) < 0 ∧ ((1 : Int32)).toNatClampNeg < 3 by decide)
    have hat89 : cl89.slots[((1 : Int32)).toNatClampNeg]? = some (.int ((own_un B'_58 (fP'_58 0) (fP'_58 1)) 1)) := (hv89 _ (AV.inx (show ¬ (1 : Int32) < 0 ∧ ((1 : Int32)).toNatClampNeg < 3 by decide))).trans (congrArg some rfl)
    obtain ⟨cl90, Ar90, kc90, sz90, -, hv90⟩ := id f88
    have hin90 : ¬ ((1 : Int32) < 0 ∨ cl90.slots.size ≤ ((1 : Int32)).toNatClampNeg) := AV.inb sz90 (show ¬ (1 : Int32) < 0 ∧ ((1 : Int32)).toNatClampNeg < 3 by decide)
    have hat90 : cl90.slots[((1 : Int32)).toNatClampNeg]? = some (.int (fa9 1)) := (hv90 _ (AV.inx (show ¬ (1 : Int32) < 0 ∧ ((1 : Int32)).toNatClampNeg < 3 by decide))).trans (congrArg some rfl)
    obtain ⟨cl91, Ar91, kc91, sz91, -, hv91⟩ := id f86
    have hin91 : ¬ ((2 : Int32) < 0 ∨ cl91.slots.size ≤ ((2 : Int32)).toNatClampNeg) := AV.inb sz91 (show ¬ (2 : Int32) < 0 ∧ ((2 : Int32)).toNatClampNeg < 3 by decide)
    have hat91 : cl91.slots[((2 : Int32)).toNatClampNeg]? = some (.int ((own_un B'_58 (fP'_58 0) (fP'_58 1)) 2)) := (hv91 _ (AV.inx (show ¬ (2 : Int32) < 0 ∧ ((2 : Int32)).toNatClampNeg < 3 by decide))).trans (congrArg some rfl)
    obtain ⟨cl92, Ar92, kc92, sz92, -, hv92⟩ := id f88
    have hin92 : ¬ ((2 : Int32) < 0 ∨ cl92.slots.size ≤ ((2 : Int32)).toNatClampNeg) := AV.inb sz92 (show ¬ (2 : Int32) < 0 ∧ ((2 : Int32)).toNatClampNeg < 3 by decide)
    have hat92 : cl92.slots[((2 : Int32)).toNatClampNeg]? = some (.int (fa9 2)) := (hv92 _ (AV.inx (show ¬ (2 : Int32) < 0 ∧ ((2 : Int32)).toNatClampNeg < 3 by decide))).trans (congrArg some rfl)
    obtain ⟨cl93, Ar93, kc93, sz93, -, hv93⟩ := id p77_1
    have hin93 : ¬ ((0 : Int32) < 0 ∨ cl93.slots.size ≤ ((0 : Int32)).toNatClampNeg) := AV.inb sz93 (show ¬ (0 : Int32) < 0 ∧ ((0 : Int32)).toNatClampNeg < 3 by decide)
    have hat93 : cl93.slots[((0 : Int32)).toNatClampNeg]? = some (.int ((own_un B'_58 (fP'_58 0) (fP'_58 1)) 0)) := (hv93 _ (AV.inx (show ¬ (0 : Int32) < 0 ∧ ((0 : Int32)).toNatClampNeg < 3 by decide))).trans (congrArg some rfl)
    have f95 : AV Z T77.heap b10 k10 .int 3 (fun i => Value.int (fb18 i)) := ((f68.keep p74_0 (ninS ne_b10_b19 nin0)).keep p77_0 (ninS ne_b10_b28 nin0))
    obtain ⟨cl94, Ar94, kc94, sz94, -, hv94⟩ := id f95
    have hin94 : ¬ ((0 : Int32) < 0 ∨ cl94.slots.size ≤ ((0 : Int32)).toNatClampNeg) := AV.inb sz94 (show ¬ (0 : Int32) < 0 ∧ ((0 : Int32)).toNatClampNeg < 3 by decide)
    have hat94 : cl94.slots[((0 : Int32)).toNatClampNeg]? = some (.int (fb18 0)) := (hv94 _ (AV.inx (show ¬ (0 : Int32) < 0 ∧ ((0 : Int32)).toNatClampNeg < 3 by decide))).trans (congrArg some rfl)
    obtain ⟨cl96, Ar96, kc96, sz96, -, hv96⟩ := id p77_1
    have hin96 : ¬ ((1 : Int32) < 0 ∨ cl96.slots.size ≤ ((1 : Int32)).toNatClampNeg) := AV.inb sz96 (show ¬ (1 : Int32) < 0 ∧ ((1 : Int32)).toNatClampNeg < 3 by decide)
    have hat96 : cl96.slots[((1 : Int32)).toNatClampNeg]? = some (.int ((own_un B'_58 (fP'_58 0) (fP'_58 1)) 1)) := (hv96 _ (AV.inx (show ¬ (1 : Int32) < 0 ∧ ((1 : Int32)).toNatClampNeg < 3 by decide))).trans (congrArg some rfl)
    obtain ⟨cl97, Ar97, kc97, sz97, -, hv97⟩ := id f95
    have hin97 : ¬ ((1 : Int32) < 0 ∨ cl97.slots.size ≤ ((1 : Int32)).toNatClampNeg) := AV.inb sz97 (show ¬ (1 : Int32) < 0 ∧ ((1 : Int32)).toNatClampNeg < 3 by decide)
    have hat97 : cl97.slots[((1 : Int32)).toNatClampNeg]? = some (.int (fb18 1)) := (hv97 _ (AV.inx (show ¬ (1 : Int32) < 0 ∧ ((1 : Int32)).toNatClampNeg < 3 by decide))).trans (congrArg some rfl)
    obtain ⟨cl98, Ar98, kc98, sz98, -, hv98⟩ := id p77_1
    have hin98 : ¬ ((2 : Int32) < 0 ∨ cl98.slots.size ≤ ((2 : Int32)).toNatClampNeg) := AV.inb sz98 (show ¬ (2 : Int32) < 0 ∧ ((2 : Int32)).toNatClampNeg < 3 by decide)
    have hat98 : cl98.slots[((2 : Int32)).toNatClampNeg]? = some (.int ((own_un B'_58 (fP'_58 0) (fP'_58 1)) 2)) := (hv98 _ (AV.inx (show ¬ (2 : Int32) < 0 ∧ ((2 : Int32)).toNatClampNeg < 3 by decide))).trans (congrArg some rfl)
    obtain ⟨cl99, Ar99, kc99, sz99, -, hv99⟩ := id f95
    have hin99 : ¬ ((2 : Int32) < 0 ∨ cl99.slots.size ≤ ((2 : Int32)).toNatClampNeg) := AV.inb sz99 (show ¬ (2 : Int32) < 0 ∧ ((2 : Int32)).toNatClampNeg < 3 by decide)
    have hat99 : cl99.slots[((2 : Int32)).toNatClampNeg]? = some (.int (fb18 2)) := (hv99 _ (AV.inx (show ¬ (2 : Int32) < 0 ∧ ((2 : Int32)).toNatClampNeg < 3 by decide))).trans (congrArg some rfl)
    obtain ⟨fs, hr, hrun, hended, hW, hsame⟩ := X77.leave (v := some (.int (1 : Int32))) (fun h => by rw [Bd.returns] at h; cases h)
    refine ⟨_, _, ?_, hrun, hended, _, _, rfl, ?_, ⟨_, rfl⟩, hW, hsame.mono (by decide) (by decide)⟩
    · show Steps p.tables e below (T58.setTop (mkF m 154 #[vi p1, vi p2, vi p3, vi p4, vi p5, vi p6, vr b1, vr b10, vr b19, vr b28, vr b38, vi (0 : Int32), vi (0 : Int32), .unset] [(.int (1 : Int32))])) _
      refine XS.istore X58.here hx rfl (hb hby at_154) rfl (l' := #[vi p1, vi p2, vi p3, vi p4, vi p5, vi p6, vr b1, vr b10, vr b19, vr b28, vr b38, vi (0 : Int32), vi (0 : Int32), vi (1 : Int32)]) rfl ?_
      refine XS.iload X58.here hx rfl (hb hby at_156) rfl ?_
      refine XS.ifYes X58.here hx rfl (pc0 := 158) (pc' := 163) rfl (hb hby at_158) rfl ((if0 _ _).trans (teq (by decide : (0 : Int32) = (0 : Int32))).1) (by decide) (by decide) ?_
      refine XS.iload X58.here hx rfl (hb hby at_163) rfl ?_
      refine XS.iload X58.here hx rfl (hb hby at_165) rfl ?_
      refine XS.ifNo X58.here hx rfl (hb hby at_167) rfl ((if0 _ _).trans (feq (by decide : ¬ ((1 : Int32) = (0 : Int32)))).1) ?_
      show Steps p.tables e below (T58.setTop (mkF m 170 #[vi p1, vi p2, vi p3, vi p4, vi p5, vi p6, vr b1, vr b10, vr b19, vr b28, vr b38, vi (0 : Int32), vi (0 : Int32), vi (1 : Int32)] [(.int (0 : Int32))])) _
      refine XS.iconst X58.here hx rfl (hb hby at_170) ?_
      refine XS.goto X58.here hx rfl (pc0 := 171) (pc' := 175) rfl (hb hby at_171) (by decide) (by decide) ?_
      refine XS.icmpYes X58.here hx rfl (pc0 := 175) (pc' := 180) rfl (hb hby at_175) rfl ((teq (by decide : (0 : Int32) = (0 : Int32))).1) (by decide) (by decide) ?_
      refine XS.aload X58.here hx rfl (hb hby at_180) rfl rfl ?_
      refine XS.iload X58.here hx rfl (hb hby at_182) rfl ?_
      refine XS.aload X58.here hx rfl (hb hby at_184) rfl rfl ?_
      show Steps p.tables e below (T58.setTop (mkF m 186 #[vi p1, vi p2, vi p3, vi p4, vi p5, vi p6, vr b1, vr b10, vr b19, vr b28, vr b38, vi (0 : Int32), vi (0 : Int32), vi (1 : Int32)] [(.ref b19), (.int (0 : Int32)), (.ref b38)])) _
      refine st74.trans ?_
      refine XS.aload X74.here hx rfl (hb hby at_189) rfl rfl ?_
      refine XS.iload X74.here hx rfl (hb hby at_191) rfl ?_
      refine XS.aload X74.here hx rfl (hb hby at_193) rfl rfl ?_
      refine st77.trans ?_
      refine XS.aload X77.here hx rfl (hb hby at_198) rfl rfl ?_
      show Steps p.tables e below (T77.setTop (mkF m 200 #[vi p1, vi p2, vi p3, vi p4, vi p5, vi p6, vr b1, vr b10, vr b19, vr b28, vr b38, vi (0 : Int32), vi (0 : Int32), vi (1 : Int32)] [(.ref b19)])) _
      refine XS.iconst X77.here hx rfl (hb hby at_200) ?_
      refine X77.iaload hx (j := (0 : Int32)) (v := (.int ((own_un B'_58 (fP'_58 0) (fP'_58 1)) 0))) Ar85.1 (State.isArrayOf_alike hZ.alike Ar85.2.1) Ar85.2.2 hin85 hat85 (g := (mkF m 201 #[vi p1, vi p2, vi p3, vi p4, vi p5, vi p6, vr b1, vr b10, vr b19, vr b28, vr b38, vi (0 : Int32), vi (0 : Int32), vi (1 : Int32)] [(.int (0 : Int32)), (.ref b19)])) rfl rfl (hb hby at_201) _ ?_
      refine XS.aload X77.here hx rfl (hb hby at_202) rfl rfl ?_
      refine XS.iconst X77.here hx rfl (hb hby at_204) ?_
      refine X77.iaload hx (j := (0 : Int32)) (v := (.int (fa9 0))) Ar87.1 (State.isArrayOf_alike hZ.alike Ar87.2.1) Ar87.2.2 hin87 hat87 (g := (mkF m 205 #[vi p1, vi p2, vi p3, vi p4, vi p5, vi p6, vr b1, vr b10, vr b19, vr b28, vr b38, vi (0 : Int32), vi (0 : Int32), vi (1 : Int32)] [(.int (0 : Int32)), (.ref b1), (.int ((own_un B'_58 (fP'_58 0) (fP'_58 1)) 0))])) rfl rfl (hb hby at_205) _ ?_
      refine XS.icmpNo X77.here hx rfl (hb hby at_206) rfl ((teq (iA.1 : ((own_un B'_58 (fP'_58 0) (fP'_58 1)) 0) = (fa9 0))).2) ?_
      show Steps p.tables e below (T77.setTop (mkF m 209 #[vi p1, vi p2, vi p3, vi p4, vi p5, vi p6, vr b1, vr b10, vr b19, vr b28, vr b38, vi (0 : Int32), vi (0 : Int32), vi (1 : Int32)] [])) _
      refine XS.aload X77.here hx rfl (hb hby at_209) rfl rfl ?_
      refine XS.iconst X77.here hx rfl (hb hby at_211) ?_
      refine X77.iaload hx (j := (1 : Int32)) (v := (.int ((own_un B'_58 (fP'_58 0) (fP'_58 1)) 1))) Ar89.1 (State.isArrayOf_alike hZ.alike Ar89.2.1) Ar89.2.2 hin89 hat89 (g := (mkF m 212 #[vi p1, vi p2, vi p3, vi p4, vi p5, vi p6, vr b1, vr b10, vr b19, vr b28, vr b38, vi (0 : Int32), vi (0 : Int32), vi (1 : Int32)] [(.int (1 : Int32)), (.ref b19)])) rfl rfl (hb hby at_212) _ ?_
      refine XS.aload X77.here hx rfl (hb hby at_213) rfl rfl ?_
      refine XS.iconst X77.here hx rfl (hb hby at_215) ?_
      refine X77.iaload hx (j := (1 : Int32)) (v := (.int (fa9 1))) Ar90.1 (State.isArrayOf_alike hZ.alike Ar90.2.1) Ar90.2.2 hin90 hat90 (g := (mkF m 216 #[vi p1, vi p2, vi p3, vi p4, vi p5, vi p6, vr b1, vr b10, vr b19, vr b28, vr b38, vi (0 : Int32), vi (0 : Int32), vi (1 : Int32)] [(.int (1 : Int32)), (.ref b1), (.int ((own_un B'_58 (fP'_58 0) (fP'_58 1)) 1))])) rfl rfl (hb hby at_216) _ ?_
      show Steps p.tables e below (T77.setTop (mkF m 217 #[vi p1, vi p2, vi p3, vi p4, vi p5, vi p6, vr b1, vr b10, vr b19, vr b28, vr b38, vi (0 : Int32), vi (0 : Int32), vi (1 : Int32)] [(.int (fa9 1)), (.int ((own_un B'_58 (fP'_58 0) (fP'_58 1)) 1))])) _
      refine XS.icmpNo X77.here hx rfl (hb hby at_217) rfl ((teq (iA.2.1 : ((own_un B'_58 (fP'_58 0) (fP'_58 1)) 1) = (fa9 1))).2) ?_
      refine XS.aload X77.here hx rfl (hb hby at_220) rfl rfl ?_
      refine XS.iconst X77.here hx rfl (hb hby at_222) ?_
      refine X77.iaload hx (j := (2 : Int32)) (v := (.int ((own_un B'_58 (fP'_58 0) (fP'_58 1)) 2))) Ar91.1 (State.isArrayOf_alike hZ.alike Ar91.2.1) Ar91.2.2 hin91 hat91 (g := (mkF m 223 #[vi p1, vi p2, vi p3, vi p4, vi p5, vi p6, vr b1, vr b10, vr b19, vr b28, vr b38, vi (0 : Int32), vi (0 : Int32), vi (1 : Int32)] [(.int (2 : Int32)), (.ref b19)])) rfl rfl (hb hby at_223) _ ?_
      refine XS.aload X77.here hx rfl (hb hby at_224) rfl rfl ?_
      refine XS.iconst X77.here hx rfl (hb hby at_226) ?_
      show Steps p.tables e below (T77.setTop (mkF m 227 #[vi p1, vi p2, vi p3, vi p4, vi p5, vi p6, vr b1, vr b10, vr b19, vr b28, vr b38, vi (0 : Int32), vi (0 : Int32), vi (1 : Int32)] [(.int (2 : Int32)), (.ref b1), (.int ((own_un B'_58 (fP'_58 0) (fP'_58 1)) 2))])) _
      refine X77.iaload hx (j := (2 : Int32)) (v := (.int (fa9 2))) Ar92.1 (State.isArrayOf_alike hZ.alike Ar92.2.1) Ar92.2.2 hin92 hat92 (g := (mkF m 227 #[vi p1, vi p2, vi p3, vi p4, vi p5, vi p6, vr b1, vr b10, vr b19, vr b28, vr b38, vi (0 : Int32), vi (0 : Int32), vi (1 : Int32)] [(.int (2 : Int32)), (.ref b1), (.int ((own_un B'_58 (fP'_58 0) (fP'_58 1)) 2))])) rfl rfl (hb hby at_227) _ ?_
      refine XS.icmpNo X77.here hx rfl (hb hby at_228) rfl ((teq (iA.2.2 : ((own_un B'_58 (fP'_58 0) (fP'_58 1)) 2) = (fa9 2))).2) ?_
      refine XS.aload X77.here hx rfl (hb hby at_231) rfl rfl ?_
      refine XS.iconst X77.here hx rfl (hb hby at_233) ?_
      refine X77.iaload hx (j := (0 : Int32)) (v := (.int ((own_un B'_58 (fP'_58 0) (fP'_58 1)) 0))) Ar93.1 (State.isArrayOf_alike hZ.alike Ar93.2.1) Ar93.2.2 hin93 hat93 (g := (mkF m 234 #[vi p1, vi p2, vi p3, vi p4, vi p5, vi p6, vr b1, vr b10, vr b19, vr b28, vr b38, vi (0 : Int32), vi (0 : Int32), vi (1 : Int32)] [(.int (0 : Int32)), (.ref b28)])) rfl rfl (hb hby at_234) _ ?_
      refine XS.aload X77.here hx rfl (hb hby at_235) rfl rfl ?_
      show Steps p.tables e below (T77.setTop (mkF m 237 #[vi p1, vi p2, vi p3, vi p4, vi p5, vi p6, vr b1, vr b10, vr b19, vr b28, vr b38, vi (0 : Int32), vi (0 : Int32), vi (1 : Int32)] [(.ref b10), (.int ((own_un B'_58 (fP'_58 0) (fP'_58 1)) 0))])) _
      refine XS.iconst X77.here hx rfl (hb hby at_237) ?_
      refine X77.iaload hx (j := (0 : Int32)) (v := (.int (fb18 0))) Ar94.1 (State.isArrayOf_alike hZ.alike Ar94.2.1) Ar94.2.2 hin94 hat94 (g := (mkF m 238 #[vi p1, vi p2, vi p3, vi p4, vi p5, vi p6, vr b1, vr b10, vr b19, vr b28, vr b38, vi (0 : Int32), vi (0 : Int32), vi (1 : Int32)] [(.int (0 : Int32)), (.ref b10), (.int ((own_un B'_58 (fP'_58 0) (fP'_58 1)) 0))])) rfl rfl (hb hby at_238) _ ?_
      refine XS.icmpNo X77.here hx rfl (hb hby at_239) rfl ((teq ((iA.1).trans (hf64.1) : ((own_un B'_58 (fP'_58 0) (fP'_58 1)) 0) = (fb18 0))).2) ?_
      refine XS.aload X77.here hx rfl (hb hby at_242) rfl rfl ?_
      refine XS.iconst X77.here hx rfl (hb hby at_244) ?_
      refine X77.iaload hx (j := (1 : Int32)) (v := (.int ((own_un B'_58 (fP'_58 0) (fP'_58 1)) 1))) Ar96.1 (State.isArrayOf_alike hZ.alike Ar96.2.1) Ar96.2.2 hin96 hat96 (g := (mkF m 245 #[vi p1, vi p2, vi p3, vi p4, vi p5, vi p6, vr b1, vr b10, vr b19, vr b28, vr b38, vi (0 : Int32), vi (0 : Int32), vi (1 : Int32)] [(.int (1 : Int32)), (.ref b28)])) rfl rfl (hb hby at_245) _ ?_
      show Steps p.tables e below (T77.setTop (mkF m 246 #[vi p1, vi p2, vi p3, vi p4, vi p5, vi p6, vr b1, vr b10, vr b19, vr b28, vr b38, vi (0 : Int32), vi (0 : Int32), vi (1 : Int32)] [(.int ((own_un B'_58 (fP'_58 0) (fP'_58 1)) 1))])) _
      refine XS.aload X77.here hx rfl (hb hby at_246) rfl rfl ?_
      refine XS.iconst X77.here hx rfl (hb hby at_248) ?_
      refine X77.iaload hx (j := (1 : Int32)) (v := (.int (fb18 1))) Ar97.1 (State.isArrayOf_alike hZ.alike Ar97.2.1) Ar97.2.2 hin97 hat97 (g := (mkF m 249 #[vi p1, vi p2, vi p3, vi p4, vi p5, vi p6, vr b1, vr b10, vr b19, vr b28, vr b38, vi (0 : Int32), vi (0 : Int32), vi (1 : Int32)] [(.int (1 : Int32)), (.ref b10), (.int ((own_un B'_58 (fP'_58 0) (fP'_58 1)) 1))])) rfl rfl (hb hby at_249) _ ?_
      refine XS.icmpNo X77.here hx rfl (hb hby at_250) rfl ((teq ((iA.2.1).trans (hf64.2.1) : ((own_un B'_58 (fP'_58 0) (fP'_58 1)) 1) = (fb18 1))).2) ?_
      refine XS.aload X77.here hx rfl (hb hby at_253) rfl rfl ?_
      refine XS.iconst X77.here hx rfl (hb hby at_255) ?_
      show Steps p.tables e below (T77.setTop (mkF m 256 #[vi p1, vi p2, vi p3, vi p4, vi p5, vi p6, vr b1, vr b10, vr b19, vr b28, vr b38, vi (0 : Int32), vi (0 : Int32), vi (1 : Int32)] [(.int (2 : Int32)), (.ref b28)])) _
      refine X77.iaload hx (j := (2 : Int32)) (v := (.int ((own_un B'_58 (fP'_58 0) (fP'_58 1)) 2))) Ar98.1 (State.isArrayOf_alike hZ.alike Ar98.2.1) Ar98.2.2 hin98 hat98 (g := (mkF m 256 #[vi p1, vi p2, vi p3, vi p4, vi p5, vi p6, vr b1, vr b10, vr b19, vr b28, vr b38, vi (0 : Int32), vi (0 : Int32), vi (1 : Int32)] [(.int (2 : Int32)), (.ref b28)])) rfl rfl (hb hby at_256) _ ?_
      refine XS.aload X77.here hx rfl (hb hby at_257) rfl rfl ?_
      refine XS.iconst X77.here hx rfl (hb hby at_259) ?_
      refine X77.iaload hx (j := (2 : Int32)) (v := (.int (fb18 2))) Ar99.1 (State.isArrayOf_alike hZ.alike Ar99.2.1) Ar99.2.2 hin99 hat99 (g := (mkF m 260 #[vi p1, vi p2, vi p3, vi p4, vi p5, vi p6, vr b1, vr b10, vr b19, vr b28, vr b38, vi (0 : Int32), vi (0 : Int32), vi (1 : Int32)] [(.int (2 : Int32)), (.ref b10), (.int ((own_un B'_58 (fP'_58 0) (fP'_58 1)) 2))])) rfl rfl (hb hby at_260) _ ?_
      refine XS.icmpNo X77.here hx rfl (hb hby at_261) rfl ((teq ((iA.2.2).trans (hf64.2.2) : ((own_un B'_58 (fP'_58 0) (fP'_58 1)) 2) = (fb18 2))).2) ?_
      refine XS.iconst X77.here hx rfl (hb hby at_264) ?_
      show Steps p.tables e below (T77.setTop (mkF m 265 #[vi p1, vi p2, vi p3, vi p4, vi p5, vi p6, vr b1, vr b10, vr b19, vr b28, vr b38, vi (0 : Int32), vi (0 : Int32), vi (1 : Int32)] [(.int (1 : Int32))])) _
      refine XS.goto X77.here hx rfl (pc0 := 265) (pc' := 269) rfl (hb hby at_265) (by decide) (by decide) ?_
      exact retN X77 hx (t := .boolean) Bd.returns (by simp) (hb hby at_269) hr
    · exact ⟨rfl, N77⟩
  · refine GoalS.lift (B := (T58.setTop (mkF m 114 #[vi p1, vi p2, vi p3, vi p4, vi p5, vi p6, vr b1, vr b10, vr b19, vr b28, vr b38, vi (0 : Int32), .unset, .unset] [(.int (1 : Int32))]))) (fun t k => by rw [(show (own_nb (fa9 0) (fa9 1) (fa9 2) (fb18 0) (fb18 1) (fb18 2)) = (1 : Int32) from if_neg hf64)]; exact k) ?_
    have f101 : AV Z T58.heap b1 k1 .int 3 (fun i => Value.int (fa9 i)) := (f60.keep p58_0 (ninS ne_b1_b38 (ninS ne_b1_P'_52 (ninS ne_b1_R'_52 (ninS ne_b1_S'_52 nin0)))))
    obtain ⟨cl100, Ar100, kc100, sz100, -, hv100⟩ := id f101
    have hin100 : ¬ ((0 : Int32) < 0 ∨ cl100.slots.size ≤ ((0 : Int32)).toNatClampNeg) := AV.inb sz100 (show ¬ (0 : Int32) < 0 ∧ ((0 : Int32)).toNatClampNeg < 3 by decide)
    have hat100 : cl100.slots[((0 : Int32)).toNatClampNeg]? = some (.int (fa9 0)) := (hv100 _ (AV.inx (show ¬ (0 : Int32) < 0 ∧ ((0 : Int32)).toNatClampNeg < 3 by decide))).trans (congrArg some rfl)
    have f103 : AV Z T58.heap b10 k10 .int 3 (fun i => Value.int (fb18 i)) := (f59.keep p58_0 (ninS ne_b10_b38 (ninS ne_b10_P'_52 (ninS ne_b10_R'_52 (ninS ne_b10_S'_52 nin0)))))
    obtain ⟨cl102, Ar102, kc102, sz102, -, hv102⟩ := id f103
    have hin102 : ¬ ((0 : Int32) < 0 ∨ cl102.slots.size ≤ ((0 : Int32)).toNatClampNeg) := AV.inb sz102 (show ¬ (0 : Int32) < 0 ∧ ((0 : Int32)).toNatClampNeg < 3 by decide)
    have hat102 : cl102.slots[((0 : Int32)).toNatClampNeg]? = some (.int (fb18 0)) := (hv102 _ (AV.inx (show ¬ (0 : Int32) < 0 ∧ ((0 : Int32)).toNatClampNeg < 3 by decide))).trans (congrArg some rfl)
    refine GoalS.lift (B := (T58.setTop (mkF m 124 #[vi p1, vi p2, vi p3, vi p4, vi p5, vi p6, vr b1, vr b10, vr b19, vr b28, vr b38, vi (0 : Int32), vi (1 : Int32), .unset] [(.int (fb18 0)), (.int (fa9 0))]))) (fun t k => ?_) ?_
    · show Steps p.tables e below (T58.setTop (mkF m 114 #[vi p1, vi p2, vi p3, vi p4, vi p5, vi p6, vr b1, vr b10, vr b19, vr b28, vr b38, vi (0 : Int32), .unset, .unset] [(.int (1 : Int32))])) _
      refine XS.istore X58.here hx rfl (hb hby at_114) rfl (l' := #[vi p1, vi p2, vi p3, vi p4, vi p5, vi p6, vr b1, vr b10, vr b19, vr b28, vr b38, vi (0 : Int32), vi (1 : Int32), .unset]) rfl ?_
      refine XS.aload X58.here hx rfl (hb hby at_116) rfl rfl ?_
      refine XS.iconst X58.here hx rfl (hb hby at_118) ?_
      refine X58.iaload hx (j := (0 : Int32)) (v := (.int (fa9 0))) Ar100.1 (State.isArrayOf_alike hZ.alike Ar100.2.1) Ar100.2.2 hin100 hat100 (g := (mkF m 119 #[vi p1, vi p2, vi p3, vi p4, vi p5, vi p6, vr b1, vr b10, vr b19, vr b28, vr b38, vi (0 : Int32), vi (1 : Int32), .unset] [(.int (0 : Int32)), (.ref b1)])) rfl rfl (hb hby at_119) _ ?_
      refine XS.aload X58.here hx rfl (hb hby at_120) rfl rfl ?_
      refine XS.iconst X58.here hx rfl (hb hby at_122) ?_
      show Steps p.tables e below (T58.setTop (mkF m 123 #[vi p1, vi p2, vi p3, vi p4, vi p5, vi p6, vr b1, vr b10, vr b19, vr b28, vr b38, vi (0 : Int32), vi (1 : Int32), .unset] [(.int (0 : Int32)), (.ref b10), (.int (fa9 0))])) _
      refine X58.iaload hx (j := (0 : Int32)) (v := (.int (fb18 0))) Ar102.1 (State.isArrayOf_alike hZ.alike Ar102.2.1) Ar102.2.2 hin102 hat102 (g := (mkF m 123 #[vi p1, vi p2, vi p3, vi p4, vi p5, vi p6, vr b1, vr b10, vr b19, vr b28, vr b38, vi (0 : Int32), vi (1 : Int32), .unset] [(.int (0 : Int32)), (.ref b10), (.int (fa9 0))])) rfl rfl (hb hby at_123) _ ?_
      exact k
    suffices J124_104 : GoalS p.tables e below s 40 512 (Q0 Z p1 p2 p3 p4 p5 p6 h0 n0) (T58.setTop (mkF m 154 #[vi p1, vi p2, vi p3, vi p4, vi p5, vi p6, vr b1, vr b10, vr b19, vr b28, vr b38, vi (0 : Int32), vi (1 : Int32), .unset] [(.int (0 : Int32))])) by
      by_cases hc124_105 : (fa9 0) = (fb18 0)
      · obtain ⟨cl106, Ar106, kc106, sz106, -, hv106⟩ := id f101
        have hin106 : ¬ ((1 : Int32) < 0 ∨ cl106.slots.size ≤ ((1 : Int32)).toNatClampNeg) := AV.inb sz106 (show ¬ (1 : Int32) < 0 ∧ ((1 : Int32)).toNatClampNeg < 3 by decide)
        have hat106 : cl106.slots[((1 : Int32)).toNatClampNeg]? = some (.int (fa9 1)) := (hv106 _ (AV.inx (show ¬ (1 : Int32) < 0 ∧ ((1 : Int32)).toNatClampNeg < 3 by decide))).trans (congrArg some rfl)
        obtain ⟨cl107, Ar107, kc107, sz107, -, hv107⟩ := id f103
        have hin107 : ¬ ((1 : Int32) < 0 ∨ cl107.slots.size ≤ ((1 : Int32)).toNatClampNeg) := AV.inb sz107 (show ¬ (1 : Int32) < 0 ∧ ((1 : Int32)).toNatClampNeg < 3 by decide)
        have hat107 : cl107.slots[((1 : Int32)).toNatClampNeg]? = some (.int (fb18 1)) := (hv107 _ (AV.inx (show ¬ (1 : Int32) < 0 ∧ ((1 : Int32)).toNatClampNeg < 3 by decide))).trans (congrArg some rfl)
        refine GoalS.lift (B := (T58.setTop (mkF m 135 #[vi p1, vi p2, vi p3, vi p4, vi p5, vi p6, vr b1, vr b10, vr b19, vr b28, vr b38, vi (0 : Int32), vi (1 : Int32), .unset] [(.int (fb18 1)), (.int (fa9 1))]))) (fun t k => ?_) ?_
        · show Steps p.tables e below (T58.setTop (mkF m 124 #[vi p1, vi p2, vi p3, vi p4, vi p5, vi p6, vr b1, vr b10, vr b19, vr b28, vr b38, vi (0 : Int32), vi (1 : Int32), .unset] [(.int (fb18 0)), (.int (fa9 0))])) _
          refine XS.icmpNo X58.here hx rfl (hb hby at_124) rfl ((teq hc124_105).2) ?_
          refine XS.aload X58.here hx rfl (hb hby at_127) rfl rfl ?_
          refine XS.iconst X58.here hx rfl (hb hby at_129) ?_
          refine X58.iaload hx (j := (1 : Int32)) (v := (.int (fa9 1))) Ar106.1 (State.isArrayOf_alike hZ.alike Ar106.2.1) Ar106.2.2 hin106 hat106 (g := (mkF m 130 #[vi p1, vi p2, vi p3, vi p4, vi p5, vi p6, vr b1, vr b10, vr b19, vr b28, vr b38, vi (0 : Int32), vi (1 : Int32), .unset] [(.int (1 : Int32)), (.ref b1)])) rfl rfl (hb hby at_130) _ ?_
          refine XS.aload X58.here hx rfl (hb hby at_131) rfl rfl ?_
          refine XS.iconst X58.here hx rfl (hb hby at_133) ?_
          show Steps p.tables e below (T58.setTop (mkF m 134 #[vi p1, vi p2, vi p3, vi p4, vi p5, vi p6, vr b1, vr b10, vr b19, vr b28, vr b38, vi (0 : Int32), vi (1 : Int32), .unset] [(.int (1 : Int32)), (.ref b10), (.int (fa9 1))])) _
          refine X58.iaload hx (j := (1 : Int32)) (v := (.int (fb18 1))) Ar107.1 (State.isArrayOf_alike hZ.alike Ar107.2.1) Ar107.2.2 hin107 hat107 (g := (mkF m 134 #[vi p1, vi p2, vi p3, vi p4, vi p5, vi p6, vr b1, vr b10, vr b19, vr b28, vr b38, vi (0 : Int32), vi (1 : Int32), .unset] [(.int (1 : Int32)), (.ref b10), (.int (fa9 1))])) rfl rfl (hb hby at_134) _ ?_
          exact k
        by_cases hc135_108 : (fa9 1) = (fb18 1)
        · obtain ⟨cl109, Ar109, kc109, sz109, -, hv109⟩ := id f101
          have hin109 : ¬ ((2 : Int32) < 0 ∨ cl109.slots.size ≤ ((2 : Int32)).toNatClampNeg) := AV.inb sz109 (show ¬ (2 : Int32) < 0 ∧ ((2 : Int32)).toNatClampNeg < 3 by decide)
          have hat109 : cl109.slots[((2 : Int32)).toNatClampNeg]? = some (.int (fa9 2)) := (hv109 _ (AV.inx (show ¬ (2 : Int32) < 0 ∧ ((2 : Int32)).toNatClampNeg < 3 by decide))).trans (congrArg some rfl)
          obtain ⟨cl110, Ar110, kc110, sz110, -, hv110⟩ := id f103
          have hin110 : ¬ ((2 : Int32) < 0 ∨ cl110.slots.size ≤ ((2 : Int32)).toNatClampNeg) := AV.inb sz110 (show ¬ (2 : Int32) < 0 ∧ ((2 : Int32)).toNatClampNeg < 3 by decide)
          have hat110 : cl110.slots[((2 : Int32)).toNatClampNeg]? = some (.int (fb18 2)) := (hv110 _ (AV.inx (show ¬ (2 : Int32) < 0 ∧ ((2 : Int32)).toNatClampNeg < 3 by decide))).trans (congrArg some rfl)
          refine GoalS.lift (B := (T58.setTop (mkF m 154 #[vi p1, vi p2, vi p3, vi p4, vi p5, vi p6, vr b1, vr b10, vr b19, vr b28, vr b38, vi (0 : Int32), vi (1 : Int32), .unset] [(.int (0 : Int32))]))) (fun t k => ?_) ?_
          · show Steps p.tables e below (T58.setTop (mkF m 135 #[vi p1, vi p2, vi p3, vi p4, vi p5, vi p6, vr b1, vr b10, vr b19, vr b28, vr b38, vi (0 : Int32), vi (1 : Int32), .unset] [(.int (fb18 1)), (.int (fa9 1))])) _
            refine XS.icmpNo X58.here hx rfl (hb hby at_135) rfl ((teq hc135_108).2) ?_
            refine XS.aload X58.here hx rfl (hb hby at_138) rfl rfl ?_
            refine XS.iconst X58.here hx rfl (hb hby at_140) ?_
            refine X58.iaload hx (j := (2 : Int32)) (v := (.int (fa9 2))) Ar109.1 (State.isArrayOf_alike hZ.alike Ar109.2.1) Ar109.2.2 hin109 hat109 (g := (mkF m 141 #[vi p1, vi p2, vi p3, vi p4, vi p5, vi p6, vr b1, vr b10, vr b19, vr b28, vr b38, vi (0 : Int32), vi (1 : Int32), .unset] [(.int (2 : Int32)), (.ref b1)])) rfl rfl (hb hby at_141) _ ?_
            refine XS.aload X58.here hx rfl (hb hby at_142) rfl rfl ?_
            refine XS.iconst X58.here hx rfl (hb hby at_144) ?_
            show Steps p.tables e below (T58.setTop (mkF m 145 #[vi p1, vi p2, vi p3, vi p4, vi p5, vi p6, vr b1, vr b10, vr b19, vr b28, vr b38, vi (0 : Int32), vi (1 : Int32), .unset] [(.int (2 : Int32)), (.ref b10), (.int (fa9 2))])) _
            refine X58.iaload hx (j := (2 : Int32)) (v := (.int (fb18 2))) Ar110.1 (State.isArrayOf_alike hZ.alike Ar110.2.1) Ar110.2.2 hin110 hat110 (g := (mkF m 145 #[vi p1, vi p2, vi p3, vi p4, vi p5, vi p6, vr b1, vr b10, vr b19, vr b28, vr b38, vi (0 : Int32), vi (1 : Int32), .unset] [(.int (2 : Int32)), (.ref b10), (.int (fa9 2))])) rfl rfl (hb hby at_145) _ ?_
            refine XS.icmpYes X58.here hx rfl (pc0 := 146) (pc' := 153) rfl (hb hby at_146) rfl ((feq (fun q => hf64 ⟨hc124_105, hc135_108, q⟩ : ¬ ((fa9 2) = (fb18 2)))).2) (by decide) (by decide) ?_
            refine XS.iconst X58.here hx rfl (hb hby at_153) ?_
            exact k
          exact J124_104  
        · refine GoalS.lift (B := (T58.setTop (mkF m 154 #[vi p1, vi p2, vi p3, vi p4, vi p5, vi p6, vr b1, vr b10, vr b19, vr b28, vr b38, vi (0 : Int32), vi (1 : Int32), .unset] [(.int (0 : Int32))]))) (fun t k => ?_) ?_
          · show Steps p.tables e below (T58.setTop (mkF m 135 #[vi p1, vi p2, vi p3, vi p4, vi p5, vi p6, vr b1, vr b10, vr b19, vr b28, vr b38, vi (0 : Int32), vi (1 : Int32), .unset] [(.int (fb18 1)), (.int (fa9 1))])) _
            refine XS.icmpYes X58.here hx rfl (pc0 := 135) (pc' := 153) rfl (hb hby at_135) rfl ((feq hc135_108).2) (by decide) (by decide) ?_
            refine XS.iconst X58.here hx rfl (hb hby at_153) ?_
            exact k
          exact J124_104  
      · refine GoalS.lift (B := (T58.setTop (mkF m 154 #[vi p1, vi p2, vi p3, vi p4, vi p5, vi p6, vr b1, vr b10, vr b19, vr b28, vr b38, vi (0 : Int32), vi (1 : Int32), .unset] [(.int (0 : Int32))]))) (fun t k => ?_) ?_
        · show Steps p.tables e below (T58.setTop (mkF m 124 #[vi p1, vi p2, vi p3, vi p4, vi p5, vi p6, vr b1, vr b10, vr b19, vr b28, vr b38, vi (0 : Int32), vi (1 : Int32), .unset] [(.int (fb18 0)), (.int (fa9 0))])) _
          refine XS.icmpYes X58.here hx rfl (pc0 := 124) (pc' := 153) rfl (hb hby at_124) rfl ((feq hc124_105).2) (by decide) (by decide) ?_
          refine XS.iconst X58.here hx rfl (hb hby at_153) ?_
          exact k
        exact J124_104  
    have f112 : AV Z T58.heap b19 k19 .int 3 (fun i => Value.int ((updI (updI (updI (fun _ => (0 : Int32)) 0 (-1 : Int32)) 1 (-1 : Int32)) 2 (-1 : Int32)) i)) := (f61.keep p58_0 (ninS ne_b19_b38 (ninS ne_b19_P'_52 (ninS ne_b19_R'_52 (ninS ne_b19_S'_52 nin0)))))
    obtain ⟨cq111, kq111, q111a, q111b, q111c⟩ := isOf hZ rfl p58_2
    obtain ⟨_, _, ⟨T111, L111, k111, n111⟩, -, X111, ⟨Lc111, hQ111, l111, y111, z111⟩, st111⟩ := X58.virtualBack hx (y := (⟨"com/example/always_over_paths/alwaysoverpaths/explicit/MarkingTable", "get", "(I[I)V"⟩ : MethodName)) (z := (⟨"com/example/always_over_paths/alwaysoverpaths/explicit/MarkingTable", "get", "(I[I)V"⟩ : MethodName)) hown (mvT hZ (hw _ (List.mem_of_getElem? (i := 73) rfl))) (mvT hZ (hw _ (List.mem_of_getElem? (i := 74) rfl))) (notFace_of_selects (args := #[]) (mvT hZ (hw _ (List.mem_of_getElem? (i := 76) rfl)))) (mvT hZ (hw _ (List.mem_of_getElem? (i := 76) rfl))) (mvT hZ (hw _ (List.mem_of_getElem? (i := 75) rfl))) (by decide) (backOf (W := 0) (rmget0 l Z a0 hw [] b38 b19 B'_58 P'_58 kP'_58 k19 fP'_58 (updI (updI (updI (fun _ => (0 : Int32)) 0 (-1 : Int32)) 1 (-1 : Int32)) 2 (-1 : Int32)) T58.heap n0 z63 p58_3 p58_4 p58_5 p58_6 f112 (Ne.symm ne_b19_P'_58) (Ne.symm ne_b19_b38) g_b19 p58_7) hZ (hw _ (List.mem_of_getElem? (i := 77) rfl)) (hw _ (List.mem_of_getElem? (i := 4) rfl)) (by decide) (by decide)) q111a q111c (g := (mkF m 186 #[vi p1, vi p2, vi p3, vi p4, vi p5, vi p6, vr b1, vr b10, vr b19, vr b28, vr b38, vi (0 : Int32), vi (1 : Int32), vi (0 : Int32)] [(.ref b19), (.int (0 : Int32)), (.ref b38)])) rfl (by rw [hml]; rfl) (Steps.refl _) (argsL := [(.int (0 : Int32)), (.ref b19)]) (rest := []) (lenOf pd_10 rfl) rfl (by show 2 * 0 + _ ≤ _; exact Nat.le_of_eq rfl) (hb hby at_186) (fun _ _ => ⟨rfl, rfl, (by decide : 16 + 0 ≤ _), (by decide : 223 + 0 ≤ _)⟩)
    dsimp only [Pt.U, Pt.locs, Pt.cells, Pt.slots] at X111 l111 y111 z111 st111 hQ111
    subst y111 z111
    obtain ⟨rfl, N111q, p111_0, p111_1⟩ := hQ111
    have N111 : Fr n0 L111 := by rw [l111]; exact Fr.app N58 N111q
    have z113 : n0 ≤ T111.heap.size := Nat.le_trans z63 p111_0.1
    have f115 : Fld Z T111.heap b38 "com/example/always_over_paths/alwaysoverpaths/explicit/MarkingTable" "bits" "I" (.int B'_58) := (p58_3.keep p111_0 (ninS (Ne.symm ne_b19_b38) nin0))
    have f116 : Fld Z T111.heap b38 "com/example/always_over_paths/alwaysoverpaths/explicit/MarkingTable" "words" "I" (.int (own_W B'_58)) := (p58_4.keep p111_0 (ninS (Ne.symm ne_b19_b38) nin0))
    have f117 : Fld Z T111.heap b38 "com/example/always_over_paths/alwaysoverpaths/explicit/MarkingTable" "packed" "[J" (.ref P'_58) := (p58_5.keep p111_0 (ninS (Ne.symm ne_b19_b38) nin0))
    have f118 : AV Z T111.heap P'_58 kP'_58 .long (16 * (own_W B'_58).toNatClampNeg) (fun i => Value.long (fP'_58 i)) := (p58_6.keep p111_0 (ninS (Ne.symm ne_b19_P'_58) nin0))
    have f119 : AV Z T111.heap b28 k28 .int 3 (fun i => Value.int ((updI (updI (updI (fun _ => (0 : Int32)) 0 (-1 : Int32)) 1 (-1 : Int32)) 2 (-1 : Int32)) i)) := ((f62.keep p58_0 (ninS ne_b28_b38 (ninS ne_b28_P'_52 (ninS ne_b28_R'_52 (ninS ne_b28_S'_52 nin0))))).keep p111_0 (ninS (Ne.symm ne_b19_b28) nin0))
    have f120 : Exa Z T111.heap b38 "com/example/always_over_paths/alwaysoverpaths/explicit/MarkingTable" := (p58_2.keep p111_0)
    obtain ⟨cq114, kq114, q114a, q114b, q114c⟩ := isOf hZ rfl f120
    obtain ⟨_, _, ⟨T114, L114, k114, n114⟩, -, X114, ⟨Lc114, hQ114, l114, y114, z114⟩, st114⟩ := X111.virtualBack hx (y := (⟨"com/example/always_over_paths/alwaysoverpaths/explicit/MarkingTable", "get", "(I[I)V"⟩ : MethodName)) (z := (⟨"com/example/always_over_paths/alwaysoverpaths/explicit/MarkingTable", "get", "(I[I)V"⟩ : MethodName)) hown (mvT hZ (hw _ (List.mem_of_getElem? (i := 73) rfl))) (mvT hZ (hw _ (List.mem_of_getElem? (i := 74) rfl))) (notFace_of_selects (args := #[]) (mvT hZ (hw _ (List.mem_of_getElem? (i := 76) rfl)))) (mvT hZ (hw _ (List.mem_of_getElem? (i := 76) rfl))) (mvT hZ (hw _ (List.mem_of_getElem? (i := 75) rfl))) (by decide) (backOf (W := 0) (rmget1 l Z a0 hw [] b38 b28 B'_58 P'_58 kP'_58 k28 fP'_58 (updI (updI (updI (fun _ => (0 : Int32)) 0 (-1 : Int32)) 1 (-1 : Int32)) 2 (-1 : Int32)) T111.heap n0 z113 f115 f116 f117 f118 f119 (Ne.symm ne_b28_P'_58) (Ne.symm ne_b28_b38) g_b28 p58_7) hZ (hw _ (List.mem_of_getElem? (i := 77) rfl)) (hw _ (List.mem_of_getElem? (i := 4) rfl)) (by decide) (by decide)) q114a q114c (g := (mkF m 195 #[vi p1, vi p2, vi p3, vi p4, vi p5, vi p6, vr b1, vr b10, vr b19, vr b28, vr b38, vi (0 : Int32), vi (1 : Int32), vi (0 : Int32)] [(.ref b28), (.int (1 : Int32)), (.ref b38)])) rfl (by rw [hml]; rfl) (Steps.refl _) (argsL := [(.int (1 : Int32)), (.ref b28)]) (rest := []) (lenOf pd_10 rfl) rfl (by show 2 * 0 + _ ≤ _; exact Nat.le_of_eq rfl) (hb hby at_195) (fun _ _ => ⟨rfl, rfl, (by decide : 16 + 0 ≤ _), (by decide : 223 + 0 ≤ _)⟩)
    dsimp only [Pt.U, Pt.locs, Pt.cells, Pt.slots] at X114 l114 y114 z114 st114 hQ114
    subst y114 z114
    obtain ⟨rfl, N114q, p114_0, p114_1⟩ := hQ114
    have N114 : Fr n0 L114 := by rw [l114]; exact Fr.app N111 N114q
    have z121 : n0 ≤ T114.heap.size := Nat.le_trans z113 p114_0.1
    have iA := own_inv3 p58_7 p58_8 p58_10
    have iB := own_inv4 p58_7 p58_9 (p58_11 hf64)
    have f123 : AV Z T114.heap b19 k19 .int 3 (fun i => Value.int ((own_un B'_58 (fP'_58 0) (fP'_58 1)) i)) := (p111_1.keep p114_0 (ninS ne_b19_b28 nin0))
    obtain ⟨cl122, Ar122, kc122, sz122, -, hv122⟩ := id f123
    have hin122 : ¬ ((0 : Int32) < 0 ∨ cl122.slots.size ≤ ((0 : Int32)).toNatClampNeg) := AV.inb sz122 (show ¬ (0 : Int32) < 0 ∧ ((0 : Int32)).toNatClampNeg < 3 by decide)
    have hat122 : cl122.slots[((0 : Int32)).toNatClampNeg]? = some (.int ((own_un B'_58 (fP'_58 0) (fP'_58 1)) 0)) := (hv122 _ (AV.inx (show ¬ (0 : Int32) < 0 ∧ ((0 : Int32)).toNatClampNeg < 3 by decide))).trans (congrArg some rfl)
    have f125 : AV Z T114.heap b1 k1 .int 3 (fun i => Value.int (fa9 i)) := ((f101.keep p111_0 (ninS ne_b1_b19 nin0)).keep p114_0 (ninS ne_b1_b28 nin0))
    obtain ⟨cl124, Ar124, kc124, sz124, -, hv124⟩ := id f125
    have hin124 : ¬ ((0 : Int32) < 0 ∨ cl124.slots.size ≤ ((0 : Int32)).toNatClampNeg) := AV.inb sz124 (show ¬ (0 : Int32) < 0 ∧ ((0 : Int32)).toNatClampNeg < 3 by decide)
    have hat124 : cl124.slots[((0 : Int32)).toNatClampNeg]? = some (.int (fa9 0)) := (hv124 _ (AV.inx (show ¬ (0 : Int32) < 0 ∧ ((0 : Int32)).toNatClampNeg < 3 by decide))).trans (congrArg some rfl)
    obtain ⟨cl126, Ar126, kc126, sz126, -, hv126⟩ := id f123
    have hin126 : ¬ ((1 : Int32) < 0 ∨ cl126.slots.size ≤ ((1 : Int32)).toNatClampNeg) := AV.inb sz126 (show ¬ (1 : Int32) < 0 ∧ ((1 : Int32)).toNatClampNeg < 3 by decide)
    have hat126 : cl126.slots[((1 : Int32)).toNatClampNeg]? = some (.int ((own_un B'_58 (fP'_58 0) (fP'_58 1)) 1)) := (hv126 _ (AV.inx (show ¬ (1 : Int32) < 0 ∧ ((1 : Int32)).toNatClampNeg < 3 by decide))).trans (congrArg some rfl)
    obtain ⟨cl127, Ar127, kc127, sz127, -, hv127⟩ := id f125
    have hin127 : ¬ ((1 : Int32) < 0 ∨ cl127.slots.size ≤ ((1 : Int32)).toNatClampNeg) := AV.inb sz127 (show ¬ (1 : Int32) < 0 ∧ ((1 : Int32)).toNatClampNeg < 3 by decide)
    have hat127 : cl127.slots[((1 : Int32)).toNatClampNeg]? = some (.int (fa9 1)) := (hv127 _ (AV.inx (show ¬ (1 : Int32) < 0 ∧ ((1 : Int32)).toNatClampNeg < 3 by decide))).trans (congrArg some rfl)
    obtain ⟨cl128, Ar128, kc128, sz128, -, hv128⟩ := id f123
    have hin128 : ¬ ((2 : Int32) < 0 ∨ cl128.slots.size ≤ ((2 : Int32)).toNatClampNeg) := AV.inb sz128 (show ¬ (2 : Int32) < 0 ∧ ((2 : Int32)).toNatClampNeg < 3 by decide)
    have hat128 : cl128.slots[((2 : Int32)).toNatClampNeg]? = some (.int ((own_un B'_58 (fP'_58 0) (fP'_58 1)) 2)) := (hv128 _ (AV.inx (show ¬ (2 : Int32) < 0 ∧ ((2 : Int32)).toNatClampNeg < 3 by decide))).trans (congrArg some rfl)
    obtain ⟨cl129, Ar129, kc129, sz129, -, hv129⟩ := id f125
    have hin129 : ¬ ((2 : Int32) < 0 ∨ cl129.slots.size ≤ ((2 : Int32)).toNatClampNeg) := AV.inb sz129 (show ¬ (2 : Int32) < 0 ∧ ((2 : Int32)).toNatClampNeg < 3 by decide)
    have hat129 : cl129.slots[((2 : Int32)).toNatClampNeg]? = some (.int (fa9 2)) := (hv129 _ (AV.inx (show ¬ (2 : Int32) < 0 ∧ ((2 : Int32)).toNatClampNeg < 3 by decide))).trans (congrArg some rfl)
    obtain ⟨cl130, Ar130, kc130, sz130, -, hv130⟩ := id p114_1
    have hin130 : ¬ ((0 : Int32) < 0 ∨ cl130.slots.size ≤ ((0 : Int32)).toNatClampNeg) := AV.inb sz130 (show ¬ (0 : Int32) < 0 ∧ ((0 : Int32)).toNatClampNeg < 3 by decide)
    have hat130 : cl130.slots[((0 : Int32)).toNatClampNeg]? = some (.int ((own_un B'_58 (fP'_58 (own_W B'_58).toNatClampNeg) (fP'_58 ((own_W B'_58) + (1 : Int32)).toNatClampNeg)) 0)) := (hv130 _ (AV.inx (show ¬ (0 : Int32) < 0 ∧ ((0 : Int32)).toNatClampNeg < 3 by decide))).trans (congrArg some rfl)
    have f132 : AV Z T114.heap b10 k10 .int 3 (fun i => Value.int (fb18 i)) := ((f103.keep p111_0 (ninS ne_b10_b19 nin0)).keep p114_0 (ninS ne_b10_b28 nin0))
    obtain ⟨cl131, Ar131, kc131, sz131, -, hv131⟩ := id f132
    have hin131 : ¬ ((0 : Int32) < 0 ∨ cl131.slots.size ≤ ((0 : Int32)).toNatClampNeg) := AV.inb sz131 (show ¬ (0 : Int32) < 0 ∧ ((0 : Int32)).toNatClampNeg < 3 by decide)
    have hat131 : cl131.slots[((0 : Int32)).toNatClampNeg]? = some (.int (fb18 0)) := (hv131 _ (AV.inx (show ¬ (0 : Int32) < 0 ∧ ((0 : Int32)).toNatClampNeg < 3 by decide))).trans (congrArg some rfl)
    obtain ⟨cl133, Ar133, kc133, sz133, -, hv133⟩ := id p114_1
    have hin133 : ¬ ((1 : Int32) < 0 ∨ cl133.slots.size ≤ ((1 : Int32)).toNatClampNeg) := AV.inb sz133 (show ¬ (1 : Int32) < 0 ∧ ((1 : Int32)).toNatClampNeg < 3 by decide)
    have hat133 : cl133.slots[((1 : Int32)).toNatClampNeg]? = some (.int ((own_un B'_58 (fP'_58 (own_W B'_58).toNatClampNeg) (fP'_58 ((own_W B'_58) + (1 : Int32)).toNatClampNeg)) 1)) := (hv133 _ (AV.inx (show ¬ (1 : Int32) < 0 ∧ ((1 : Int32)).toNatClampNeg < 3 by decide))).trans (congrArg some rfl)
    obtain ⟨cl134, Ar134, kc134, sz134, -, hv134⟩ := id f132
    have hin134 : ¬ ((1 : Int32) < 0 ∨ cl134.slots.size ≤ ((1 : Int32)).toNatClampNeg) := AV.inb sz134 (show ¬ (1 : Int32) < 0 ∧ ((1 : Int32)).toNatClampNeg < 3 by decide)
    have hat134 : cl134.slots[((1 : Int32)).toNatClampNeg]? = some (.int (fb18 1)) := (hv134 _ (AV.inx (show ¬ (1 : Int32) < 0 ∧ ((1 : Int32)).toNatClampNeg < 3 by decide))).trans (congrArg some rfl)
    obtain ⟨cl135, Ar135, kc135, sz135, -, hv135⟩ := id p114_1
    have hin135 : ¬ ((2 : Int32) < 0 ∨ cl135.slots.size ≤ ((2 : Int32)).toNatClampNeg) := AV.inb sz135 (show ¬ (2 : Int32) < 0 ∧ ((2 : Int32)).toNatClampNeg < 3 by decide)
    have hat135 : cl135.slots[((2 : Int32)).toNatClampNeg]? = some (.int ((own_un B'_58 (fP'_58 (own_W B'_58).toNatClampNeg) (fP'_58 ((own_W B'_58) + (1 : Int32)).toNatClampNeg)) 2)) := (hv135 _ (AV.inx (show ¬ (2 : Int32) < 0 ∧ ((2 : Int32)).toNatClampNeg < 3 by decide))).trans (congrArg some rfl)
    obtain ⟨cl136, Ar136, kc136, sz136, -, hv136⟩ := id f132
    have hin136 : ¬ ((2 : Int32) < 0 ∨ cl136.slots.size ≤ ((2 : Int32)).toNatClampNeg) := AV.inb sz136 (show ¬ (2 : Int32) < 0 ∧ ((2 : Int32)).toNatClampNeg < 3 by decide)
    have hat136 : cl136.slots[((2 : Int32)).toNatClampNeg]? = some (.int (fb18 2)) := (hv136 _ (AV.inx (show ¬ (2 : Int32) < 0 ∧ ((2 : Int32)).toNatClampNeg < 3 by decide))).trans (congrArg some rfl)
    obtain ⟨fs, hr, hrun, hended, hW, hsame⟩ := X114.leave (v := some (.int (1 : Int32))) (fun h => by rw [Bd.returns] at h; cases h)
    refine ⟨_, _, ?_, hrun, hended, _, _, rfl, ?_, ⟨_, rfl⟩, hW, hsame.mono (by decide) (by decide)⟩
    · show Steps p.tables e below (T58.setTop (mkF m 154 #[vi p1, vi p2, vi p3, vi p4, vi p5, vi p6, vr b1, vr b10, vr b19, vr b28, vr b38, vi (0 : Int32), vi (1 : Int32), .unset] [(.int (0 : Int32))])) _
      refine XS.istore X58.here hx rfl (hb hby at_154) rfl (l' := #[vi p1, vi p2, vi p3, vi p4, vi p5, vi p6, vr b1, vr b10, vr b19, vr b28, vr b38, vi (0 : Int32), vi (1 : Int32), vi (0 : Int32)]) rfl ?_
      refine XS.iload X58.here hx rfl (hb hby at_156) rfl ?_
      refine XS.ifYes X58.here hx rfl (pc0 := 158) (pc' := 163) rfl (hb hby at_158) rfl ((if0 _ _).trans (teq (by decide : (0 : Int32) = (0 : Int32))).1) (by decide) (by decide) ?_
      refine XS.iload X58.here hx rfl (hb hby at_163) rfl ?_
      refine XS.iload X58.here hx rfl (hb hby at_165) rfl ?_
      refine XS.ifYes X58.here hx rfl (pc0 := 167) (pc' := 174) rfl (hb hby at_167) rfl ((if0 _ _).trans (teq (by decide : (0 : Int32) = (0 : Int32))).1) (by decide) (by decide) ?_
      show Steps p.tables e below (T58.setTop (mkF m 174 #[vi p1, vi p2, vi p3, vi p4, vi p5, vi p6, vr b1, vr b10, vr b19, vr b28, vr b38, vi (0 : Int32), vi (1 : Int32), vi (0 : Int32)] [(.int (1 : Int32))])) _
      refine XS.iconst X58.here hx rfl (hb hby at_174) ?_
      refine XS.icmpYes X58.here hx rfl (pc0 := 175) (pc' := 180) rfl (hb hby at_175) rfl ((teq (by decide : (1 : Int32) = (1 : Int32))).1) (by decide) (by decide) ?_
      refine XS.aload X58.here hx rfl (hb hby at_180) rfl rfl ?_
      refine XS.iload X58.here hx rfl (hb hby at_182) rfl ?_
      refine XS.aload X58.here hx rfl (hb hby at_184) rfl rfl ?_
      refine st111.trans ?_
      show Steps p.tables e below (T111.setTop (mkF m 189 #[vi p1, vi p2, vi p3, vi p4, vi p5, vi p6, vr b1, vr b10, vr b19, vr b28, vr b38, vi (0 : Int32), vi (1 : Int32), vi (0 : Int32)] [])) _
      refine XS.aload X111.here hx rfl (hb hby at_189) rfl rfl ?_
      refine XS.iload X111.here hx rfl (hb hby at_191) rfl ?_
      refine XS.aload X111.here hx rfl (hb hby at_193) rfl rfl ?_
      refine st114.trans ?_
      refine XS.aload X114.here hx rfl (hb hby at_198) rfl rfl ?_
      refine XS.iconst X114.here hx rfl (hb hby at_200) ?_
      show Steps p.tables e below (T114.setTop (mkF m 201 #[vi p1, vi p2, vi p3, vi p4, vi p5, vi p6, vr b1, vr b10, vr b19, vr b28, vr b38, vi (0 : Int32), vi (1 : Int32), vi (0 : Int32)] [(.int (0 : Int32)), (.ref b19)])) _
      refine X114.iaload hx (j := (0 : Int32)) (v := (.int ((own_un B'_58 (fP'_58 0) (fP'_58 1)) 0))) Ar122.1 (State.isArrayOf_alike hZ.alike Ar122.2.1) Ar122.2.2 hin122 hat122 (g := (mkF m 201 #[vi p1, vi p2, vi p3, vi p4, vi p5, vi p6, vr b1, vr b10, vr b19, vr b28, vr b38, vi (0 : Int32), vi (1 : Int32), vi (0 : Int32)] [(.int (0 : Int32)), (.ref b19)])) rfl rfl (hb hby at_201) _ ?_
      refine XS.aload X114.here hx rfl (hb hby at_202) rfl rfl ?_
      refine XS.iconst X114.here hx rfl (hb hby at_204) ?_
      refine X114.iaload hx (j := (0 : Int32)) (v := (.int (fa9 0))) Ar124.1 (State.isArrayOf_alike hZ.alike Ar124.2.1) Ar124.2.2 hin124 hat124 (g := (mkF m 205 #[vi p1, vi p2, vi p3, vi p4, vi p5, vi p6, vr b1, vr b10, vr b19, vr b28, vr b38, vi (0 : Int32), vi (1 : Int32), vi (0 : Int32)] [(.int (0 : Int32)), (.ref b1), (.int ((own_un B'_58 (fP'_58 0) (fP'_58 1)) 0))])) rfl rfl (hb hby at_205) _ ?_
      refine XS.icmpNo X114.here hx rfl (hb hby at_206) rfl ((teq (iA.1 : ((own_un B'_58 (fP'_58 0) (fP'_58 1)) 0) = (fa9 0))).2) ?_
      refine XS.aload X114.here hx rfl (hb hby at_209) rfl rfl ?_
      show Steps p.tables e below (T114.setTop (mkF m 211 #[vi p1, vi p2, vi p3, vi p4, vi p5, vi p6, vr b1, vr b10, vr b19, vr b28, vr b38, vi (0 : Int32), vi (1 : Int32), vi (0 : Int32)] [(.ref b19)])) _
      refine XS.iconst X114.here hx rfl (hb hby at_211) ?_
      refine X114.iaload hx (j := (1 : Int32)) (v := (.int ((own_un B'_58 (fP'_58 0) (fP'_58 1)) 1))) Ar126.1 (State.isArrayOf_alike hZ.alike Ar126.2.1) Ar126.2.2 hin126 hat126 (g := (mkF m 212 #[vi p1, vi p2, vi p3, vi p4, vi p5, vi p6, vr b1, vr b10, vr b19, vr b28, vr b38, vi (0 : Int32), vi (1 : Int32), vi (0 : Int32)] [(.int (1 : Int32)), (.ref b19)])) rfl rfl (hb hby at_212) _ ?_
      refine XS.aload X114.here hx rfl (hb hby at_213) rfl rfl ?_
      refine XS.iconst X114.here hx rfl (hb hby at_215) ?_
      refine X114.iaload hx (j := (1 : Int32)) (v := (.int (fa9 1))) Ar127.1 (State.isArrayOf_alike hZ.alike Ar127.2.1) Ar127.2.2 hin127 hat127 (g := (mkF m 216 #[vi p1, vi p2, vi p3, vi p4, vi p5, vi p6, vr b1, vr b10, vr b19, vr b28, vr b38, vi (0 : Int32), vi (1 : Int32), vi (0 : Int32)] [(.int (1 : Int32)), (.ref b1), (.int ((own_un B'_58 (fP'_58 0) (fP'_58 1)) 1))])) rfl rfl (hb hby at_216) _ ?_
      refine XS.icmpNo X114.here hx rfl (hb hby at_217) rfl ((teq (iA.2.1 : ((own_un B'_58 (fP'_58 0) (fP'_58 1)) 1) = (fa9 1))).2) ?_
      show Steps p.tables e below (T114.setTop (mkF m 220 #[vi p1, vi p2, vi p3, vi p4, vi p5, vi p6, vr b1, vr b10, vr b19, vr b28, vr b38, vi (0 : Int32), vi (1 : Int32), vi (0 : Int32)] [])) _
      refine XS.aload X114.here hx rfl (hb hby at_220) rfl rfl ?_
      refine XS.iconst X114.here hx rfl (hb hby at_222) ?_
      refine X114.iaload hx (j := (2 : Int32)) (v := (.int ((own_un B'_58 (fP'_58 0) (fP'_58 1)) 2))) Ar128.1 (State.isArrayOf_alike hZ.alike Ar128.2.1) Ar128.2.2 hin128 hat128 (g := (mkF m 223 #[vi p1, vi p2, vi p3, vi p4, vi p5, vi p6, vr b1, vr b10, vr b19, vr b28, vr b38, vi (0 : Int32), vi (1 : Int32), vi (0 : Int32)] [(.int (2 : Int32)), (.ref b19)])) rfl rfl (hb hby at_223) _ ?_
      refine XS.aload X114.here hx rfl (hb hby at_224) rfl rfl ?_
      refine XS.iconst X114.here hx rfl (hb hby at_226) ?_
      refine X114.iaload hx (j := (2 : Int32)) (v := (.int (fa9 2))) Ar129.1 (State.isArrayOf_alike hZ.alike Ar129.2.1) Ar129.2.2 hin129 hat129 (g := (mkF m 227 #[vi p1, vi p2, vi p3, vi p4, vi p5, vi p6, vr b1, vr b10, vr b19, vr b28, vr b38, vi (0 : Int32), vi (1 : Int32), vi (0 : Int32)] [(.int (2 : Int32)), (.ref b1), (.int ((own_un B'_58 (fP'_58 0) (fP'_58 1)) 2))])) rfl rfl (hb hby at_227) _ ?_
      show Steps p.tables e below (T114.setTop (mkF m 228 #[vi p1, vi p2, vi p3, vi p4, vi p5, vi p6, vr b1, vr b10, vr b19, vr b28, vr b38, vi (0 : Int32), vi (1 : Int32), vi (0 : Int32)] [(.int (fa9 2)), (.int ((own_un B'_58 (fP'_58 0) (fP'_58 1)) 2))])) _
      refine XS.icmpNo X114.here hx rfl (hb hby at_228) rfl ((teq (iA.2.2 : ((own_un B'_58 (fP'_58 0) (fP'_58 1)) 2) = (fa9 2))).2) ?_
      refine XS.aload X114.here hx rfl (hb hby at_231) rfl rfl ?_
      refine XS.iconst X114.here hx rfl (hb hby at_233) ?_
      refine X114.iaload hx (j := (0 : Int32)) (v := (.int ((own_un B'_58 (fP'_58 (own_W B'_58).toNatClampNeg) (fP'_58 ((own_W B'_58) + (1 : Int32)).toNatClampNeg)) 0))) Ar130.1 (State.isArrayOf_alike hZ.alike Ar130.2.1) Ar130.2.2 hin130 hat130 (g := (mkF m 234 #[vi p1, vi p2, vi p3, vi p4, vi p5, vi p6, vr b1, vr b10, vr b19, vr b28, vr b38, vi (0 : Int32), vi (1 : Int32), vi (0 : Int32)] [(.int (0 : Int32)), (.ref b28)])) rfl rfl (hb hby at_234) _ ?_
      refine XS.aload X114.here hx rfl (hb hby at_235) rfl rfl ?_
      refine XS.iconst X114.here hx rfl (hb hby at_237) ?_
      show Steps p.tables e below (T114.setTop (mkF m 238 #[vi p1, vi p2, vi p3, vi p4, vi p5, vi p6, vr b1, vr b10, vr b19, vr b28, vr b38, vi (0 : Int32), vi (1 : Int32), vi (0 : Int32)] [(.int (0 : Int32)), (.ref b10), (.int ((own_un B'_58 (fP'_58 (own_W B'_58).toNatClampNeg) (fP'_58 ((own_W B'_58) + (1 : Int32)).toNatClampNeg)) 0))])) _
      refine X114.iaload hx (j := (0 : Int32)) (v := (.int (fb18 0))) Ar131.1 (State.isArrayOf_alike hZ.alike Ar131.2.1) Ar131.2.2 hin131 hat131 (g := (mkF m 238 #[vi p1, vi p2, vi p3, vi p4, vi p5, vi p6, vr b1, vr b10, vr b19, vr b28, vr b38, vi (0 : Int32), vi (1 : Int32), vi (0 : Int32)] [(.int (0 : Int32)), (.ref b10), (.int ((own_un B'_58 (fP'_58 (own_W B'_58).toNatClampNeg) (fP'_58 ((own_W B'_58) + (1 : Int32)).toNatClampNeg)) 0))])) rfl rfl (hb hby at_238) _ ?_
      refine XS.icmpNo X114.here hx rfl (hb hby at_239) rfl ((teq (iB.1 : ((own_un B'_58 (fP'_58 (own_W B'_58).toNatClampNeg) (fP'_58 ((own_W B'_58) + (1 : Int32)).toNatClampNeg)) 0) = (fb18 0))).2) ?_
      refine XS.aload X114.here hx rfl (hb hby at_242) rfl rfl ?_
      refine XS.iconst X114.here hx rfl (hb hby at_244) ?_
      refine X114.iaload hx (j := (1 : Int32)) (v := (.int ((own_un B'_58 (fP'_58 (own_W B'_58).toNatClampNeg) (fP'_58 ((own_W B'_58) + (1 : Int32)).toNatClampNeg)) 1))) Ar133.1 (State.isArrayOf_alike hZ.alike Ar133.2.1) Ar133.2.2 hin133 hat133 (g := (mkF m 245 #[vi p1, vi p2, vi p3, vi p4, vi p5, vi p6, vr b1, vr b10, vr b19, vr b28, vr b38, vi (0 : Int32), vi (1 : Int32), vi (0 : Int32)] [(.int (1 : Int32)), (.ref b28)])) rfl rfl (hb hby at_245) _ ?_
      refine XS.aload X114.here hx rfl (hb hby at_246) rfl rfl ?_
      show Steps p.tables e below (T114.setTop (mkF m 248 #[vi p1, vi p2, vi p3, vi p4, vi p5, vi p6, vr b1, vr b10, vr b19, vr b28, vr b38, vi (0 : Int32), vi (1 : Int32), vi (0 : Int32)] [(.ref b10), (.int ((own_un B'_58 (fP'_58 (own_W B'_58).toNatClampNeg) (fP'_58 ((own_W B'_58) + (1 : Int32)).toNatClampNeg)) 1))])) _
      refine XS.iconst X114.here hx rfl (hb hby at_248) ?_
      refine X114.iaload hx (j := (1 : Int32)) (v := (.int (fb18 1))) Ar134.1 (State.isArrayOf_alike hZ.alike Ar134.2.1) Ar134.2.2 hin134 hat134 (g := (mkF m 249 #[vi p1, vi p2, vi p3, vi p4, vi p5, vi p6, vr b1, vr b10, vr b19, vr b28, vr b38, vi (0 : Int32), vi (1 : Int32), vi (0 : Int32)] [(.int (1 : Int32)), (.ref b10), (.int ((own_un B'_58 (fP'_58 (own_W B'_58).toNatClampNeg) (fP'_58 ((own_W B'_58) + (1 : Int32)).toNatClampNeg)) 1))])) rfl rfl (hb hby at_249) _ ?_
      refine XS.icmpNo X114.here hx rfl (hb hby at_250) rfl ((teq (iB.2.1 : ((own_un B'_58 (fP'_58 (own_W B'_58).toNatClampNeg) (fP'_58 ((own_W B'_58) + (1 : Int32)).toNatClampNeg)) 1) = (fb18 1))).2) ?_
      refine XS.aload X114.here hx rfl (hb hby at_253) rfl rfl ?_
      refine XS.iconst X114.here hx rfl (hb hby at_255) ?_
      refine X114.iaload hx (j := (2 : Int32)) (v := (.int ((own_un B'_58 (fP'_58 (own_W B'_58).toNatClampNeg) (fP'_58 ((own_W B'_58) + (1 : Int32)).toNatClampNeg)) 2))) Ar135.1 (State.isArrayOf_alike hZ.alike Ar135.2.1) Ar135.2.2 hin135 hat135 (g := (mkF m 256 #[vi p1, vi p2, vi p3, vi p4, vi p5, vi p6, vr b1, vr b10, vr b19, vr b28, vr b38, vi (0 : Int32), vi (1 : Int32), vi (0 : Int32)] [(.int (2 : Int32)), (.ref b28)])) rfl rfl (hb hby at_256) _ ?_
      show Steps p.tables e below (T114.setTop (mkF m 257 #[vi p1, vi p2, vi p3, vi p4, vi p5, vi p6, vr b1, vr b10, vr b19, vr b28, vr b38, vi (0 : Int32), vi (1 : Int32), vi (0 : Int32)] [(.int ((own_un B'_58 (fP'_58 (own_W B'_58).toNatClampNeg) (fP'_58 ((own_W B'_58) + (1 : Int32)).toNatClampNeg)) 2))])) _
      refine XS.aload X114.here hx rfl (hb hby at_257) rfl rfl ?_
      refine XS.iconst X114.here hx rfl (hb hby at_259) ?_
      refine X114.iaload hx (j := (2 : Int32)) (v := (.int (fb18 2))) Ar136.1 (State.isArrayOf_alike hZ.alike Ar136.2.1) Ar136.2.2 hin136 hat136 (g := (mkF m 260 #[vi p1, vi p2, vi p3, vi p4, vi p5, vi p6, vr b1, vr b10, vr b19, vr b28, vr b38, vi (0 : Int32), vi (1 : Int32), vi (0 : Int32)] [(.int (2 : Int32)), (.ref b10), (.int ((own_un B'_58 (fP'_58 (own_W B'_58).toNatClampNeg) (fP'_58 ((own_W B'_58) + (1 : Int32)).toNatClampNeg)) 2))])) rfl rfl (hb hby at_260) _ ?_
      refine XS.icmpNo X114.here hx rfl (hb hby at_261) rfl ((teq (iB.2.2 : ((own_un B'_58 (fP'_58 (own_W B'_58).toNatClampNeg) (fP'_58 ((own_W B'_58) + (1 : Int32)).toNatClampNeg)) 2) = (fb18 2))).2) ?_
      refine XS.iconst X114.here hx rfl (hb hby at_264) ?_
      refine XS.goto X114.here hx rfl (pc0 := 265) (pc' := 269) rfl (hb hby at_265) (by decide) (by decide) ?_
      show Steps p.tables e below (T114.setTop (mkF m 269 #[vi p1, vi p2, vi p3, vi p4, vi p5, vi p6, vr b1, vr b10, vr b19, vr b28, vr b38, vi (0 : Int32), vi (1 : Int32), vi (0 : Int32)] [(.int (1 : Int32))])) _
      exact retN X114 hx (t := .boolean) Bd.returns (by simp) (hb hby at_269) hr
    · exact ⟨rfl, N114⟩
set_option maxRecDepth 65536 in
set_option maxHeartbeats 40000000 in
theorem comes_1 {Post : Tables → Env → Array Value → State → Outcome → State → Prop} (hpost : ∀ tb e args s v u, (limb_1_1.after args s (.returned v) u = true ∧ limb_1_2.after args s (.returned v) u = true ∧ True) → FrameEnd s (.returned v) u (Jvm.fieldLocs frame_1_writes args s ++ Jvm.arrayLocs frame_1_arrays args s ++ Jvm.staticLocs frame_1_statics s) 40 512 → Post tb e args s (.returned v) u) :
    ArmFor flags0 classFile x code maxLocals ret World_1 tables_1 room_1 Calls_1 rest_1 Pre_1 Post := by
  intro l hfl _ _ p e ha hc hk s m args below hf hA hF happ hP
  obtain ⟨hcalls, hrest, hpre⟩ := hP
  obtain ⟨-, -, -, hnamed, -, -, -, hat⟩ := (Spec.applies_iff hf).mp happ
  obtain ⟨hg, hn⟩ := and_e (Cond.before_iff.mp (show (Jvm.Cond.and given_1 narrow_1).before args s = true from hpre))
  obtain ⟨g1, g2⟩ := and_e hg
  obtain ⟨g3, g4⟩ := and_e g2
  obtain ⟨g5, g6⟩ := and_e g4
  obtain ⟨g7, g8⟩ := and_e g6
  obtain ⟨g9, g10⟩ := and_e g8
  obtain ⟨g11, g12⟩ := and_e g10
  obtain ⟨w0, w1, w2, w3, w4, w5, rfl⟩ : ∃ w0 w1 w2 w3 w4 w5 : Value, args = #[w0, w1, w2, w3, w4, w5] := by
    have hs : args.size = 6 := by simpa [Cond.value, given_1] using g1
    obtain ⟨L⟩ := args
    match L, hs with
    | [w0, w1, w2, w3, w4, w5], _ => exact ⟨w0, w1, w2, w3, w4, w5, rfl⟩
  have hw := fun d (hd : d ∈ tables_1) => atoms_spec (ws := Jvm.Cond.code x code maxLocals ret :: tables_1) hat d (List.mem_cons_of_mem _ hd)
  have hfit : Fit s := fun {y c} hc i hi => by
    obtain ⟨ha, rfl⟩ := Array.getElem?_eq_some_iff.mp hc
    have q := List.all_eq_true.mp ((Array.all_eq_true_iff_forall_mem.mp hF) _ (Array.getElem_mem ha)) i (List.mem_range.mpr hi)
    simpa [Array.getElem?_eq_getElem hi] using q
  obtain ⟨i0, ei0⟩ := is_v g3
  obtain rfl : w0 = (.int i0) := Option.some.inj ei0
  obtain ⟨i1, ei1⟩ := is_v g5
  obtain rfl : w1 = (.int i1) := Option.some.inj ei1
  obtain ⟨i2, ei2⟩ := is_v g7
  obtain rfl : w2 = (.int i2) := Option.some.inj ei2
  obtain ⟨i3, ei3⟩ := is_v g9
  obtain rfl : w3 = (.int i3) := Option.some.inj ei3
  obtain ⟨i4, ei4⟩ := is_v g11
  obtain rfl : w4 = (.int i4) := Option.some.inj ei4
  obtain ⟨i5, ei5⟩ := is_v g12
  obtain rfl : w5 = (.int i5) := Option.some.inj ei5
  obtain ⟨n, o, h1, h2, h3, _, L, rfl, ⟨rfl, N⟩, hq⟩ := rm0 l s _ hw tables_1 i0 i1 i2 i3 i4 i5  s.heap s.heap.size (Nat.le_refl _)  p e ha hc hk s m _ below hf ((Spec.applies_iff_loose hf).mp happ).1 ⟨rfl, State.Warmed39.refl s, rfl⟩ trivial
  refine ⟨n, _, h1, h2, h3, hpost _ _ _ _ _ _ ⟨Cond.after_iff.mpr rfl, Cond.after_iff.mpr (eq_i res_at (Term.int_eval (1)) rfl), trivial⟩ ⟨hq.1, hq.2.1, (hq.2.2.sift fun y hy => Or.inr (N y hy)).mono (by decide) (by decide)⟩⟩
theorem main_1_1 : Claimed_1_1 := comes_1 fun _ _ _ _ _ _ h hF => ⟨h.1, hF⟩
theorem main_1_2 : Claimed_1_2 := comes_1 fun _ _ _ _ _ _ h hF => ⟨h.2.1, hF⟩
end Jvm.Pilot.@@N@@
namespace Jvm.Pilot.@@N@@
open Jvm Jvm.ClassFile Sem Op Lib Jvm.Free Jvm.Stand Jvm.Pilot.@@N@@.Jvm.D
/-! MADE BY PROGRAM (witnessworld.py) out of the Statement's table words and the real class files: 18 classes; the members and pool entries that the words name. The judged class is class 1, her method 1. -/
namespace start1
open Jvm.ClassFile
def u (s : String) : CpInfo := .utf8 (stringToUtf16 s)
/-- a pool by its gaps: so many unusable entries, then the entry; so many at the end -/
def gap : Nat → List CpInfo → List CpInfo
  | 0, r => r
  | n + 1, r => .unusable :: gap n r
def poolList (es : List (Nat × CpInfo)) (last : Nat) : List CpInfo := es.foldr (fun e r => gap e.1 (e.2 :: r)) (gap last [])
def pool (es : List (Nat × CpInfo)) (last : Nat) : Array CpInfo := ⟨poolList es last⟩
def fileOf (pool : Array CpInfo) (this : Nat) (attrs : Array Attribute := #[]) (ms : Array MethodInfo := #[]) (fl : Nat := 33) (sup : Nat := 0) (ifs : Array Nat := #[]) (fds : Array FieldInfo := #[]) : ClassFile where
  minorVersion := 0
  majorVersion := 65
  constantPool := pool
  accessFlags := fl
  thisClass := this
  superClass := sup
  interfaces := ifs
  fields := fds
  methods := ms
  attributes := attrs
def plain (name : String) (sup : Option ClassId) : Class where
  name := name
  kind := .ordinary
  loader := none
  accessFlags := 33
  super := sup
  interfaces := #[]
  cf := none
  fields := #[]
  methods := #[]
  instanceTypes := #[]
  staticTypes := #[]
  resolved := #[]
  callSites := []
  init := .initialized
  statics := none
  mirror := none

def pool0 : Array CpInfo := pool [(5, u "<init>"), (0, u "()V"), (1, .class_ 10), (1, u "java/lang/Object")] 113

def k0c0 : Code := { maxStack := 0, maxLocals := 1, code := object_method_1_code, exceptionTable := #[], attributes := #[] }
def k0m0 : Method := { name := "<init>", desc := "()V", sig := { parameters := [], returnType := none }, accessFlags := 1, code := some k0c0 }
/-- java/lang/Object -/
def k0 : Class := { plain "java/lang/Object" none with
  accessFlags := 33
  interfaces := #[]
  cf := some (fileOf pool0 8 #[] #[{ accessFlags := 1, nameIndex := 5, descriptorIndex := 6, attributes := #[] }] 33 0 #[] #[])
  fields := #[]
  methods := #[k0m0]
  instanceTypes := #[]
  staticTypes := #[]
  resolved := Array.replicate 124 none
  statics := none }

def pool1 : Array CpInfo := pool [(2, .class_ 4), (1, u "java/lang/Object"), (0, u "<init>"), (0, u "()V"), (0, .integer 2147483647), (0, .class_ 9), (0, u "com/example/always_over_paths/alwaysoverpaths/explicit/MarkingTable"), (0, .methodref 8 11), (0, .nameAndType 5 12), (0, u "(I)V"), (0, .methodref 8 14), (0, .nameAndType 15 16), (0, u "add"), (0, u "([I)I"), (0, .methodref 8 18), (0, .nameAndType 19 20), (0, u "get"), (0, u "(I[I)V"), (0, .class_ 22), (0, u "com/example/always_over_paths/alwaysoverpaths/explicit/MarkingTableGetPinLaw"), (2, u "law"), (0, u "(IIIIII)Z")] 5

def k1m0 : Method := { name := "<init>", desc := "()V", sig := { parameters := [], returnType := none }, accessFlags := 1, code := none }
def k1c1 : Code := { maxStack := 5, maxLocals := 14, code := code, exceptionTable := #[], attributes := #[] }
def k1m1 : Method := { name := "law", desc := "(IIIIII)Z", sig := { parameters := [.int, .int, .int, .int, .int, .int], returnType := some .boolean }, accessFlags := 9, code := some k1c1 }
/-- com/example/always_over_paths/alwaysoverpaths/explicit/MarkingTableGetPinLaw -/
def k1 : Class := { plain "com/example/always_over_paths/alwaysoverpaths/explicit/MarkingTableGetPinLaw" (some 0) with
  accessFlags := 49
  interfaces := #[]
  cf := some (fileOf pool1 21 #[] #[{ accessFlags := 1, nameIndex := 5, descriptorIndex := 6, attributes := #[] }, { accessFlags := 9, nameIndex := 25, descriptorIndex := 26, attributes := #[] }] 49 2 #[] #[])
  fields := #[]
  methods := #[k1m0, k1m1]
  instanceTypes := #[]
  staticTypes := #[]
  resolved := Array.replicate 32 none
  statics := none }

def pool2 : Array CpInfo := pool [(1, .class_ 2), (0, u "java/lang/Integer"), (0, .methodref 4 5), (0, .class_ 6), (0, .nameAndType 7 8), (0, u "java/lang/Object"), (0, u "<init>"), (0, u "()V"), (0, .fieldref 10 11), (0, .class_ 12), (0, .nameAndType 13 14), (0, u "com/example/always_over_paths/alwaysoverpaths/explicit/MarkingTable"), (0, u "places"), (0, u "I"), (0, .fieldref 10 16), (0, .nameAndType 17 14), (0, u "bits"), (0, .methodref 10 19), (0, .nameAndType 20 21), (0, u "wordsFor"), (0, u "(II)I"), (0, .fieldref 10 23), (0, .nameAndType 24 14), (0, u "words"), (0, .fieldref 10 26), (0, .nameAndType 27 28), (0, u "packed"), (0, u "[J"), (0, .fieldref 10 30), (0, .nameAndType 31 28), (0, u "probe"), (0, .fieldref 10 33), (0, .nameAndType 34 35), (0, u "slots"), (0, u "[I"), (0, .fieldref 10 37), (0, .nameAndType 38 14), (0, u "size"), (0, .methodref 1 40), (0, .nameAndType 41 42), (0, u "numberOfLeadingZeros"), (0, u "(I)I"), (0, .methodref 44 45), (0, .class_ 46), (0, .nameAndType 47 21), (0, u "java/lang/Math"), (0, u "max"), (0, .methodref 10 49), (0, .nameAndType 50 51), (0, u "widen"), (0, u "(I)V"), (3, .methodref 10 56), (0, .nameAndType 57 58), (0, u "pack"), (0, u "([II[JI)V"), (0, .methodref 10 60), (0, .nameAndType 61 62), (0, u "hash"), (0, u "([JII)I"), (0, .methodref 10 64), (0, .nameAndType 65 66), (0, u "holdsProbe"), (0, u "(I)Z"), (0, .methodref 10 68), (0, .nameAndType 69 8), (0, u "ensureRoomForOneMore"), (0, .methodref 71 72), (0, .class_ 73), (0, .nameAndType 74 75), (0, u "java/lang/System"), (0, u "arraycopy"), (0, u "(Ljava/lang/Object;ILjava/lang/Object;II)V"), (0, .methodref 10 77), (0, .nameAndType 78 79), (0, u "unpack"), (0, u "([JII[I)V"), (6, u "get"), (0, u "(I[I)V"), (6, .long 2147483639), (5, .long 2), (1, .methodref 44 103), (0, .nameAndType 47 104), (0, u "(JJ)J"), (3, .long 16), (1, .methodref 10 111), (0, .nameAndType 112 51), (0, u "fillSlots"), (10, .long 11400714819323198485), (1, .long 13787848793156543929), (1, .long 10723151780598845931), (1, u "MAX_ARRAY"), (2, u "MAX_SLOTS"), (3, u "add"), (0, u "([I)I")] 24

def k2c0 : Code := { maxStack := 3, maxLocals := 2, code := prog_21_method_1_code, exceptionTable := #[], attributes := #[] }
def k2m0 : Method := { name := "<init>", desc := "(I)V", sig := { parameters := [.int], returnType := none }, accessFlags := 0, code := some k2c0 }
def k2c1 : Code := { maxStack := 5, maxLocals := 7, code := prog_21_method_3_code, exceptionTable := #[], attributes := #[] }
def k2m1 : Method := { name := "add", desc := "([I)I", sig := { parameters := [(.array .int)], returnType := some .int }, accessFlags := 0, code := some k2c1 }
def k2c2 : Code := { maxStack := 4, maxLocals := 3, code := prog_21_method_4_code, exceptionTable := #[], attributes := #[] }
def k2m2 : Method := { name := "get", desc := "(I[I)V", sig := { parameters := [.int, (.array .int)], returnType := none }, accessFlags := 0, code := some k2c2 }
def k2c3 : Code := { maxStack := 4, maxLocals := 4, code := prog_21_method_6_code, exceptionTable := #[], attributes := #[] }
def k2m3 : Method := { name := "holdsProbe", desc := "(I)Z", sig := { parameters := [.int], returnType := some .boolean }, accessFlags := 2, code := some k2c3 }
def k2c4 : Code := { maxStack := 8, maxLocals := 4, code := prog_21_method_7_code, exceptionTable := #[], attributes := #[] }
def k2m4 : Method := { name := "ensureRoomForOneMore", desc := "()V", sig := { parameters := [], returnType := none }, accessFlags := 2, code := some k2c4 }
def k2c5 : Code := { maxStack := 5, maxLocals := 8, code := prog_21_method_8_code, exceptionTable := #[], attributes := #[] }
def k2m5 : Method := { name := "widen", desc := "(I)V", sig := { parameters := [.int], returnType := none }, accessFlags := 2, code := some k2c5 }
def k2c6 : Code := { maxStack := 4, maxLocals := 5, code := prog_21_method_10_code, exceptionTable := #[], attributes := #[] }
def k2m6 : Method := { name := "fillSlots", desc := "(I)V", sig := { parameters := [.int], returnType := none }, accessFlags := 2, code := some k2c6 }
def k2c7 : Code := { maxStack := 3, maxLocals := 3, code := prog_21_method_12_code, exceptionTable := #[], attributes := #[] }
def k2m7 : Method := { name := "wordsFor", desc := "(II)I", sig := { parameters := [.int, .int], returnType := some .int }, accessFlags := 10, code := some k2c7 }
def k2c8 : Code := { maxStack := 5, maxLocals := 9, code := prog_21_method_13_code, exceptionTable := #[], attributes := #[] }
def k2m8 : Method := { name := "pack", desc := "([II[JI)V", sig := { parameters := [(.array .int), .int, (.array .long), .int], returnType := none }, accessFlags := 10, code := some k2c8 }
def k2c9 : Code := { maxStack := 6, maxLocals := 11, code := prog_21_method_14_code, exceptionTable := #[], attributes := #[] }
def k2m9 : Method := { name := "unpack", desc := "([JII[I)V", sig := { parameters := [(.array .long), .int, .int, (.array .int)], returnType := none }, accessFlags := 10, code := some k2c9 }
def k2c10 : Code := { maxStack := 5, maxLocals := 6, code := prog_21_method_15_code, exceptionTable := #[], attributes := #[] }
def k2m10 : Method := { name := "hash", desc := "([JII)I", sig := { parameters := [(.array .long), .int, .int], returnType := some .int }, accessFlags := 10, code := some k2c10 }
/-- com/example/always_over_paths/alwaysoverpaths/explicit/MarkingTable -/
def k2 : Class := { plain "com/example/always_over_paths/alwaysoverpaths/explicit/MarkingTable" (some 0) with
  accessFlags := 48
  interfaces := #[]
  cf := some (fileOf pool2 10 #[] #[{ accessFlags := 0, nameIndex := 7, descriptorIndex := 51, attributes := #[] }, { accessFlags := 0, nameIndex := 136, descriptorIndex := 137, attributes := #[] }, { accessFlags := 0, nameIndex := 86, descriptorIndex := 87, attributes := #[] }, { accessFlags := 2, nameIndex := 65, descriptorIndex := 66, attributes := #[] }, { accessFlags := 2, nameIndex := 69, descriptorIndex := 8, attributes := #[] }, { accessFlags := 2, nameIndex := 50, descriptorIndex := 51, attributes := #[] }, { accessFlags := 2, nameIndex := 112, descriptorIndex := 51, attributes := #[] }, { accessFlags := 10, nameIndex := 20, descriptorIndex := 21, attributes := #[] }, { accessFlags := 10, nameIndex := 57, descriptorIndex := 58, attributes := #[] }, { accessFlags := 10, nameIndex := 78, descriptorIndex := 79, attributes := #[] }, { accessFlags := 10, nameIndex := 61, descriptorIndex := 62, attributes := #[] }] 48 4 #[] #[{ accessFlags := 26, nameIndex := 129, descriptorIndex := 14, attributes := #[] }, { accessFlags := 26, nameIndex := 132, descriptorIndex := 14, attributes := #[] }, { accessFlags := 18, nameIndex := 13, descriptorIndex := 14, attributes := #[] }, { accessFlags := 2, nameIndex := 17, descriptorIndex := 14, attributes := #[] }, { accessFlags := 2, nameIndex := 24, descriptorIndex := 14, attributes := #[] }, { accessFlags := 2, nameIndex := 27, descriptorIndex := 28, attributes := #[] }, { accessFlags := 2, nameIndex := 31, descriptorIndex := 28, attributes := #[] }, { accessFlags := 2, nameIndex := 38, descriptorIndex := 14, attributes := #[] }, { accessFlags := 2, nameIndex := 34, descriptorIndex := 35, attributes := #[] }])
  fields := #[{ name := "MAX_ARRAY", type := .int, accessFlags := 26, slot := 0, constantValue := 0 }, { name := "MAX_SLOTS", type := .int, accessFlags := 26, slot := 1, constantValue := 0 }, { name := "places", type := .int, accessFlags := 18, slot := 0, constantValue := 0 }, { name := "bits", type := .int, accessFlags := 2, slot := 1, constantValue := 0 }, { name := "words", type := .int, accessFlags := 2, slot := 2, constantValue := 0 }, { name := "packed", type := (.array .long), accessFlags := 2, slot := 3, constantValue := 0 }, { name := "probe", type := (.array .long), accessFlags := 2, slot := 4, constantValue := 0 }, { name := "size", type := .int, accessFlags := 2, slot := 5, constantValue := 0 }, { name := "slots", type := (.array .int), accessFlags := 2, slot := 6, constantValue := 0 }]
  methods := #[k2m0, k2m1, k2m2, k2m3, k2m4, k2m5, k2m6, k2m7, k2m8, k2m9, k2m10]
  instanceTypes := #[.int, .int, .int, (.array .long), (.array .long), .int, (.array .int)]
  staticTypes := #[.int, .int]
  resolved := Array.replicate 162 none
  statics := none }

def pool3 : Array CpInfo := pool [(1, .class_ 2), (0, u "java/lang/Math"), (1, .class_ 6), (1, u "java/lang/Object"), (0, u "<init>"), (0, u "()V"), (89, .class_ 100), (1, u "java/lang/Math$RandomNumberGeneratorHolder"), (20, u "(JJ)J"), (50, u "negativeZeroFloatBits"), (0, u "J"), (2, u "negativeZeroDoubleBits"), (21, u "max"), (46, u "$assertionsDisabled"), (0, u "Z"), (88, u "(II)I"), (2, u "twoToTheDoubleScaleDown"), (0, u "D"), (4, u "twoToTheDoubleScaleUp"), (9, u "E"), (3, u "PI"), (2, u "TAU"), (2, u "DEGREES_TO_RADIANS"), (0, u "RADIANS_TO_DEGREES")] 94

def k3m0 : Method := { name := "<init>", desc := "()V", sig := { parameters := [], returnType := none }, accessFlags := 2, code := none }
def k3c1 : Code := { maxStack := 2, maxLocals := 2, code := jdk_29_method_65_code, exceptionTable := #[], attributes := #[] }
def k3m1 : Method := { name := "max", desc := "(II)I", sig := { parameters := [.int, .int], returnType := some .int }, accessFlags := 9, code := some k3c1 }
def k3c2 : Code := { maxStack := 4, maxLocals := 4, code := jdk_29_method_66_code, exceptionTable := #[], attributes := #[] }
def k3m2 : Method := { name := "max", desc := "(JJ)J", sig := { parameters := [.long, .long], returnType := some .long }, accessFlags := 9, code := some k3c2 }
/-- java/lang/Math -/
def k3 : Class := { plain "java/lang/Math" (some 0) with
  accessFlags := 49
  interfaces := #[]
  cf := some (fileOf pool3 1 #[.nestMembers #[98]] #[{ accessFlags := 2, nameIndex := 7, descriptorIndex := 8, attributes := #[] }, { accessFlags := 9, nameIndex := 198, descriptorIndex := 335, attributes := #[] }, { accessFlags := 9, nameIndex := 198, descriptorIndex := 121, attributes := #[] }] 49 4 #[] #[{ accessFlags := 25, nameIndex := 354, descriptorIndex := 339, attributes := #[] }, { accessFlags := 25, nameIndex := 358, descriptorIndex := 339, attributes := #[] }, { accessFlags := 25, nameIndex := 361, descriptorIndex := 339, attributes := #[] }, { accessFlags := 26, nameIndex := 364, descriptorIndex := 339, attributes := #[] }, { accessFlags := 26, nameIndex := 365, descriptorIndex := 339, attributes := #[] }, { accessFlags := 26, nameIndex := 172, descriptorIndex := 173, attributes := #[] }, { accessFlags := 26, nameIndex := 176, descriptorIndex := 173, attributes := #[] }, { accessFlags := 8, nameIndex := 344, descriptorIndex := 339, attributes := #[] }, { accessFlags := 8, nameIndex := 338, descriptorIndex := 339, attributes := #[] }, { accessFlags := 4120, nameIndex := 245, descriptorIndex := 246, attributes := #[] }])
  fields := #[{ name := "E", type := .double, accessFlags := 25, slot := 0, constantValue := 0 }, { name := "PI", type := .double, accessFlags := 25, slot := 1, constantValue := 0 }, { name := "TAU", type := .double, accessFlags := 25, slot := 2, constantValue := 0 }, { name := "DEGREES_TO_RADIANS", type := .double, accessFlags := 26, slot := 3, constantValue := 0 }, { name := "RADIANS_TO_DEGREES", type := .double, accessFlags := 26, slot := 4, constantValue := 0 }, { name := "negativeZeroFloatBits", type := .long, accessFlags := 26, slot := 5, constantValue := 0 }, { name := "negativeZeroDoubleBits", type := .long, accessFlags := 26, slot := 6, constantValue := 0 }, { name := "twoToTheDoubleScaleUp", type := .double, accessFlags := 8, slot := 7, constantValue := 0 }, { name := "twoToTheDoubleScaleDown", type := .double, accessFlags := 8, slot := 8, constantValue := 0 }, { name := "$assertionsDisabled", type := .boolean, accessFlags := 4120, slot := 9, constantValue := 0 }]
  methods := #[k3m0, k3m1, k3m2]
  instanceTypes := #[]
  staticTypes := #[.double, .double, .double, .double, .double, .long, .long, .double, .double, .boolean]
  resolved := Array.replicate 460 none
  statics := none }

def pool4 : Array CpInfo := pool [(1, .class_ 2), (0, u "java/io/Serializable"), (0, .class_ 4), (0, u "java/lang/Object")] 2

/-- java/io/Serializable -/
def k4 : Class := { plain "java/io/Serializable" (some 0) with
  accessFlags := 1537
  interfaces := #[]
  cf := some (fileOf pool4 1 #[] #[] 1537 3 #[] #[])
  fields := #[]
  methods := #[]
  instanceTypes := #[]
  staticTypes := #[]
  resolved := Array.replicate 7 none
  statics := none }

def pool5 : Array CpInfo := pool [(2, .class_ 4), (1, u "java/lang/Object"), (0, u "<init>"), (0, u "()V"), (1, .class_ 10), (1, u "java/lang/Number"), (2, .class_ 14), (0, u "java/io/Serializable"), (0, u "serialVersionUID"), (0, u "J")] 20

def k5m0 : Method := { name := "<init>", desc := "()V", sig := { parameters := [], returnType := none }, accessFlags := 1, code := none }
/-- java/lang/Number -/
def k5 : Class := { plain "java/lang/Number" (some 0) with
  accessFlags := 1057
  interfaces := #[4]
  cf := some (fileOf pool5 8 #[] #[{ accessFlags := 1, nameIndex := 5, descriptorIndex := 6, attributes := #[] }] 1057 2 #[13] #[{ accessFlags := 26, nameIndex := 15, descriptorIndex := 16, attributes := #[] }])
  fields := #[{ name := "serialVersionUID", type := .long, accessFlags := 26, slot := 0, constantValue := 0 }]
  methods := #[k5m0]
  instanceTypes := #[]
  staticTypes := #[.long]
  resolved := Array.replicate 37 none
  statics := none }

def pool6 : Array CpInfo := pool [(1, .class_ 2), (0, u "java/lang/Comparable"), (0, .class_ 4), (0, u "java/lang/Object")] 7

/-- java/lang/Comparable -/
def k6 : Class := { plain "java/lang/Comparable" (some 0) with
  accessFlags := 1537
  interfaces := #[]
  cf := some (fileOf pool6 1 #[] #[] 1537 3 #[] #[])
  fields := #[]
  methods := #[]
  instanceTypes := #[]
  staticTypes := #[]
  resolved := Array.replicate 12 none
  statics := none }

def pool7 : Array CpInfo := pool [(1, .class_ 2), (0, u "java/lang/constant/Constable"), (0, .class_ 4), (0, u "java/lang/Object")] 6

/-- java/lang/constant/Constable -/
def k7 : Class := { plain "java/lang/constant/Constable" (some 0) with
  accessFlags := 1537
  interfaces := #[]
  cf := some (fileOf pool7 1 #[] #[] 1537 3 #[] #[])
  fields := #[]
  methods := #[]
  instanceTypes := #[]
  staticTypes := #[]
  resolved := Array.replicate 11 none
  statics := none }

def pool8 : Array CpInfo := pool [(1, .class_ 2), (0, u "java/lang/constant/ConstantDesc"), (0, .class_ 4), (0, u "java/lang/Object")] 32

/-- java/lang/constant/ConstantDesc -/
def k8 : Class := { plain "java/lang/constant/ConstantDesc" (some 0) with
  accessFlags := 1537
  interfaces := #[]
  cf := some (fileOf pool8 1 #[] #[] 1537 3 #[] #[])
  fields := #[]
  methods := #[]
  instanceTypes := #[]
  staticTypes := #[]
  resolved := Array.replicate 37 none
  statics := none }

def pool9 : Array CpInfo := pool [(1, .class_ 2), (0, u "java/lang/Integer"), (16, u "digits"), (0, u "[C"), (32, u "numberOfLeadingZeros"), (0, u "(I)I"), (30, u "DigitOnes"), (0, u "[B"), (2, u "DigitTens"), (99, .class_ 190), (0, u "java/lang/Integer$IntegerCache"), (3, u "I"), (8, .class_ 204), (0, u "java/lang/Number"), (2, u "value"), (56, .integer 65536), (37, u "TYPE"), (0, u "Ljava/lang/Class;"), (0, .class_ 305), (0, u "java/lang/Comparable"), (0, .class_ 307), (0, u "java/lang/constant/Constable"), (0, .class_ 309), (0, u "java/lang/constant/ConstantDesc"), (0, u "MIN_VALUE"), (1, u "MAX_VALUE"), (3, u "SIZE"), (1, u "BYTES"), (1, u "serialVersionUID"), (0, u "J")] 131

def k9c0 : Code := { maxStack := 3, maxLocals := 2, code := jdk_33_method_47_code, exceptionTable := #[], attributes := #[] }
def k9m0 : Method := { name := "numberOfLeadingZeros", desc := "(I)I", sig := { parameters := [.int], returnType := some .int }, accessFlags := 9, code := some k9c0 }
/-- java/lang/Integer -/
def k9 : Class := { plain "java/lang/Integer" (some 5) with
  accessFlags := 49
  interfaces := #[6, 7, 8]
  cf := some (fileOf pool9 1 #[.nestMembers #[189]] #[{ accessFlags := 9, nameIndex := 53, descriptorIndex := 54, attributes := #[] }] 49 203 #[304, 306, 308] #[{ accessFlags := 25, nameIndex := 310, descriptorIndex := 194, attributes := #[] }, { accessFlags := 25, nameIndex := 312, descriptorIndex := 194, attributes := #[] }, { accessFlags := 25, nameIndex := 302, descriptorIndex := 303, attributes := #[] }, { accessFlags := 24, nameIndex := 19, descriptorIndex := 20, attributes := #[] }, { accessFlags := 24, nameIndex := 89, descriptorIndex := 86, attributes := #[] }, { accessFlags := 24, nameIndex := 85, descriptorIndex := 86, attributes := #[] }, { accessFlags := 18, nameIndex := 207, descriptorIndex := 194, attributes := #[] }, { accessFlags := 25, nameIndex := 316, descriptorIndex := 194, attributes := #[] }, { accessFlags := 25, nameIndex := 318, descriptorIndex := 194, attributes := #[] }, { accessFlags := 26, nameIndex := 320, descriptorIndex := 321, attributes := #[] }])
  fields := #[{ name := "MIN_VALUE", type := .int, accessFlags := 25, slot := 0, constantValue := 0 }, { name := "MAX_VALUE", type := .int, accessFlags := 25, slot := 1, constantValue := 0 }, { name := "TYPE", type := (.object "java/lang/Class"), accessFlags := 25, slot := 2, constantValue := 0 }, { name := "digits", type := (.array .char), accessFlags := 24, slot := 3, constantValue := 0 }, { name := "DigitTens", type := (.array .byte), accessFlags := 24, slot := 4, constantValue := 0 }, { name := "DigitOnes", type := (.array .byte), accessFlags := 24, slot := 5, constantValue := 0 }, { name := "value", type := .int, accessFlags := 18, slot := 0, constantValue := 0 }, { name := "SIZE", type := .int, accessFlags := 25, slot := 6, constantValue := 0 }, { name := "BYTES", type := .int, accessFlags := 25, slot := 7, constantValue := 0 }, { name := "serialVersionUID", type := .long, accessFlags := 26, slot := 8, constantValue := 0 }]
  methods := #[k9m0]
  instanceTypes := #[.int]
  staticTypes := #[.int, .int, (.object "java/lang/Class"), (.array .char), (.array .byte), (.array .byte), .int, .int, .long]
  resolved := Array.replicate 453 none
  statics := none }

def pool10 : Array CpInfo := pool [(2, .class_ 4), (1, u "java/lang/Object"), (0, u "<init>"), (0, u "()V"), (1, .class_ 10), (1, u "java/lang/System"), (0, u "allowSecurityManager"), (0, u "I"), (16, u "cons"), (0, u "Ljava/io/Console;"), (77, .class_ 110), (1, u "java/lang/System$CallersHolder"), (43, u "initialErrStream"), (0, u "Ljava/io/PrintStream;"), (19, u "security"), (0, u "Ljava/lang/SecurityManager;"), (31, .class_ 209), (0, u "java/lang/System$1"), (7, u "props"), (0, u "Ljava/util/Properties;"), (2, u "lineSeparator"), (0, u "Ljava/lang/String;"), (96, .class_ 321), (1, u "java/lang/System$LoggerFinder"), (5, .class_ 328), (0, u "java/lang/System$Logger"), (67, u "err"), (2, u "out"), (91, u "notSupportedJnuEncoding"), (15, u "in"), (17, u "initialIn"), (0, u "Ljava/io/InputStream;"), (35, u "bootLayer"), (0, u "Ljava/lang/ModuleLayer;"), (99, .class_ 664), (0, u "java/lang/System$2"), (9, u "NEVER"), (2, u "MAYBE"), (49, u "arraycopy"), (0, u "(Ljava/lang/Object;ILjava/lang/Object;II)V"), (72, .class_ 802), (0, u "java/lang/System$Logger$Level")] 31

def k10m0 : Method := { name := "<init>", desc := "()V", sig := { parameters := [], returnType := none }, accessFlags := 2, code := none }
def k10m1 : Method := { name := "arraycopy", desc := "(Ljava/lang/Object;ILjava/lang/Object;II)V", sig := { parameters := [(.object "java/lang/Object"), .int, (.object "java/lang/Object"), .int, .int], returnType := none }, accessFlags := 265, code := none }
/-- java/lang/System -/
def k10 : Class := { plain "java/lang/System" (some 0) with
  accessFlags := 49
  interfaces := #[]
  cf := some (fileOf pool10 8 #[.nestMembers #[319, 327, 801, 108, 663, 208]] #[{ accessFlags := 2, nameIndex := 5, descriptorIndex := 6, attributes := #[] }, { accessFlags := 265, nameIndex := 727, descriptorIndex := 728, attributes := #[] }] 49 2 #[] #[{ accessFlags := 25, nameIndex := 507, descriptorIndex := 526, attributes := #[] }, { accessFlags := 25, nameIndex := 399, descriptorIndex := 155, attributes := #[] }, { accessFlags := 25, nameIndex := 396, descriptorIndex := 155, attributes := #[] }, { accessFlags := 10, nameIndex := 525, descriptorIndex := 526, attributes := #[] }, { accessFlags := 26, nameIndex := 674, descriptorIndex := 12, attributes := #[] }, { accessFlags := 26, nameIndex := 677, descriptorIndex := 12, attributes := #[] }, { accessFlags := 10, nameIndex := 11, descriptorIndex := 12, attributes := #[] }, { accessFlags := 74, nameIndex := 175, descriptorIndex := 176, attributes := #[] }, { accessFlags := 10, nameIndex := 491, descriptorIndex := 222, attributes := #[] }, { accessFlags := 74, nameIndex := 29, descriptorIndex := 30, attributes := #[] }, { accessFlags := 74, nameIndex := 154, descriptorIndex := 155, attributes := #[] }, { accessFlags := 10, nameIndex := 217, descriptorIndex := 218, attributes := #[] }, { accessFlags := 10, nameIndex := 221, descriptorIndex := 222, attributes := #[] }, { accessFlags := 8, nameIndex := 562, descriptorIndex := 563, attributes := #[] }])
  fields := #[{ name := "in", type := (.object "java/io/InputStream"), accessFlags := 25, slot := 0, constantValue := 0 }, { name := "out", type := (.object "java/io/PrintStream"), accessFlags := 25, slot := 1, constantValue := 0 }, { name := "err", type := (.object "java/io/PrintStream"), accessFlags := 25, slot := 2, constantValue := 0 }, { name := "initialIn", type := (.object "java/io/InputStream"), accessFlags := 10, slot := 3, constantValue := 0 }, { name := "NEVER", type := .int, accessFlags := 26, slot := 4, constantValue := 0 }, { name := "MAYBE", type := .int, accessFlags := 26, slot := 5, constantValue := 0 }, { name := "allowSecurityManager", type := .int, accessFlags := 10, slot := 6, constantValue := 0 }, { name := "security", type := (.object "java/lang/SecurityManager"), accessFlags := 74, slot := 7, constantValue := 0 }, { name := "notSupportedJnuEncoding", type := (.object "java/lang/String"), accessFlags := 10, slot := 8, constantValue := 0 }, { name := "cons", type := (.object "java/io/Console"), accessFlags := 74, slot := 9, constantValue := 0 }, { name := "initialErrStream", type := (.object "java/io/PrintStream"), accessFlags := 74, slot := 10, constantValue := 0 }, { name := "props", type := (.object "java/util/Properties"), accessFlags := 10, slot := 11, constantValue := 0 }, { name := "lineSeparator", type := (.object "java/lang/String"), accessFlags := 10, slot := 12, constantValue := 0 }, { name := "bootLayer", type := (.object "java/lang/ModuleLayer"), accessFlags := 8, slot := 13, constantValue := 0 }]
  methods := #[k10m0, k10m1]
  instanceTypes := #[]
  staticTypes := #[(.object "java/io/InputStream"), (.object "java/io/PrintStream"), (.object "java/io/PrintStream"), (.object "java/io/InputStream"), .int, .int, .int, (.object "java/lang/SecurityManager"), (.object "java/lang/String"), (.object "java/io/Console"), (.object "java/io/PrintStream"), (.object "java/util/Properties"), (.object "java/lang/String"), (.object "java/lang/ModuleLayer")]
  resolved := Array.replicate 834 none
  statics := none }

def pool11 : Array CpInfo := pool [(1, u "java/lang/Cloneable"), (0, .class_ 1), (0, u "java/lang/Object"), (0, .class_ 3)] 3

/-- java/lang/Cloneable -/
def k11 : Class := { plain "java/lang/Cloneable" (some 0) with
  accessFlags := 1537
  interfaces := #[]
  cf := some (fileOf pool11 2 #[] #[] 1537 4 #[] #[])
  fields := #[]
  methods := #[]
  instanceTypes := #[]
  staticTypes := #[]
  resolved := Array.replicate 8 none
  statics := none }

/-- the primitive byte -/
def k12 : Class := { plain "byte" none with kind := .primitive 'B', accessFlags := 0x411 }
/-- [B -/
def k13 : Class := { plain "[B" (some 0) with kind := .array 12 .byte, interfaces := #[11, 4], accessFlags := 1041 }

/-- the primitive int -/
def k14 : Class := { plain "int" none with kind := .primitive 'I', accessFlags := 0x411 }
/-- [I -/
def k15 : Class := { plain "[I" (some 0) with kind := .array 14 .int, interfaces := #[11, 4], accessFlags := 1041 }

/-- the primitive long -/
def k16 : Class := { plain "long" none with kind := .primitive 'J', accessFlags := 0x411 }
/-- [J -/
def k17 : Class := { plain "[J" (some 0) with kind := .array 16 .long, interfaces := #[11, 4], accessFlags := 1041 }

def heap : Heap := #[]
def classes : Array Class := #[k0, k1, k2, k3, k4, k5, k6, k7, k8, k9, k10, k11, k12, k13, k14, k15, k16, k17]
def interned : List (Array UInt16 × Addr) := []
def slotsUsed : Nat := 0
def theMethod : MethodId := ⟨1, 1⟩
def args0 : Array Value := #[.int 5, .int 0, .int 7, .int 1, .int 200000000, .int 3]
def aboutOver (below : List Frame) : State where
  vm := { classes := classes, interned := interned.toArray }
  heap := heap
  slotsUsed := slotsUsed
  threads := #[{ frames := .invoking theMethod args0 :: below }]
def below0 : List Frame := [.native { method := ⟨0, 0⟩, args := #[] }]
def about1 : State := aboutOver below0
def p0 : Program := .bare "" "" ""
def e0 : Env := launch0.env 0 0 0
theorem w_frames : about1.frames = Frame.invoking theMethod args0 :: below0 := rfl
set_option maxRecDepth 65536 in
theorem w_args : argsFit about1.vm theMethod args0 = true := by decide +kernel
set_option maxRecDepth 65536 in
theorem w_heap : heapFits about1 = true := by decide +kernel
set_option maxRecDepth 65536 in
theorem w_runnable : about1.curStatus? = some .runnable := by decide +kernel
set_option maxRecDepth 65536 in
theorem w_alone : about1.alone = true := by decide +kernel
set_option maxRecDepth 65536 in
theorem w_named : about1.methodNamed? x = some theMethod := by decide +kernel
set_option maxRecDepth 65536 in
theorem w_hears : about1.hears theMethod below0 = true := by decide +kernel
set_option maxRecDepth 65536 in
theorem w_ripe : about1.ripe theMethod args0 below0 = true := by decide +kernel
theorem w_running : about1.status = .running := rfl
set_option maxRecDepth 65536 in
theorem w_room : about1.hasRoom e0.platform room_1 = true :=
  launch0.hasRoom_least _ room_1 (by decide +kernel) (by decide +kernel) (by decide +kernel) (by decide +kernel) (by decide +kernel) (by decide +kernel)
theorem allAtoms_all (ts : List Jvm.Cond) (a : Array Jvm.Value) (st : Jvm.State) : (allAtoms ts).before a st = ts.all (fun c => c.before a st) := by
  induction ts with
  | nil => rfl
  | cons c t ih =>
    show (Jvm.Cond.and c (allAtoms t)).before a st = _
    rw [Jvm.Cond.before_and, ih, List.all_cons]
def words1 : List Jvm.Cond := Jvm.Cond.code x code maxLocals ret :: tables_1
/-- a 'code' word, met by the world's own term for the bytes: nothing is compared byte by byte -/
theorem code_word {y : MethodName} {bytes : ByteArray} {mx : Nat} {rt : Option FieldType} {a : Array Value} {s : State} {m : MethodId} {meth : Method} {c : Code} (h1 : s.methodNamed? y = some m) (h2 : s.vm.method? m = some meth) (h3 : meth.code = some c) (h4 : c.code = bytes)
    (h5 : (c.maxLocals == mx && c.exceptionTable.isEmpty && decide (c.maxStack ≤ mostOperands) && decide (meth.sig.returnType = rt) && !meth.locks && decide (parseMethodDescriptor y.desc = some meth.sig)) = true) : (Jvm.Cond.code y bytes mx rt).before a s = true := by
  simp only [Bool.and_eq_true, beq_iff_eq, Bool.not_eq_true', decide_eq_true_eq] at h5
  obtain ⟨⟨⟨⟨⟨g1, g2⟩, g3⟩, g4⟩, g5⟩, g6⟩ := h5
  simp [Cond.before, Cond.holds, Cond.value, h1, h2, h3, h4, g1, g2, g3, g4, g5, g6]
def isCode : Jvm.Cond → Bool
  | .code _ _ _ _ => true
  | _ => false
theorem all_split {L : List Jvm.Cond} {P : Jvm.Cond → Bool} (h1 : L.all (fun c => isCode c || P c) = true) (h2 : ∀ c ∈ L.filter isCode, P c = true) : L.all P = true := by
  refine List.all_eq_true.mpr fun c hc => ?_
  have h := List.all_eq_true.mp h1 c hc
  rcases Bool.eq_false_or_eq_true (isCode c) with hi | hi
  · exact h2 c (List.mem_filter.mpr ⟨hc, hi⟩)
  · simpa [hi] using h
set_option maxRecDepth 65536 in
theorem w_c0 : (Jvm.Cond.code x code maxLocals ret).before args0 about1 = true := code_word (m := ⟨1, 1⟩) (meth := k1m1) (c := k1c1) (by decide +kernel) rfl rfl rfl (by decide +kernel)
set_option maxRecDepth 65536 in
theorem w_c1 : (Jvm.Cond.code ({ cls := "com/example/always_over_paths/alwaysoverpaths/explicit/MarkingTable", name := "<init>", desc := "(I)V" } : Jvm.MethodName) prog_21_method_1_code (2 : Nat) (Option.none : Option Jvm.ClassFile.FieldType)).before args0 about1 = true := code_word (m := ⟨2, 0⟩) (meth := k2m0) (c := k2c0) (by decide +kernel) rfl rfl rfl (by decide +kernel)
set_option maxRecDepth 65536 in
theorem w_c2 : (Jvm.Cond.code ({ cls := "java/lang/Object", name := "<init>", desc := "()V" } : Jvm.MethodName) object_method_1_code (1 : Nat) (Option.none : Option Jvm.ClassFile.FieldType)).before args0 about1 = true := code_word (m := ⟨0, 0⟩) (meth := k0m0) (c := k0c0) (by decide +kernel) rfl rfl rfl (by decide +kernel)
set_option maxRecDepth 65536 in
theorem w_c3 : (Jvm.Cond.code ({ cls := "com/example/always_over_paths/alwaysoverpaths/explicit/MarkingTable", name := "wordsFor", desc := "(II)I" } : Jvm.MethodName) prog_21_method_12_code (3 : Nat) (Option.some Jvm.ClassFile.FieldType.int)).before args0 about1 = true := code_word (m := ⟨2, 7⟩) (meth := k2m7) (c := k2c7) (by decide +kernel) rfl rfl rfl (by decide +kernel)
set_option maxRecDepth 65536 in
theorem w_c4 : (Jvm.Cond.code ({ cls := "java/lang/Math", name := "max", desc := "(II)I" } : Jvm.MethodName) jdk_29_method_65_code (2 : Nat) (Option.some Jvm.ClassFile.FieldType.int)).before args0 about1 = true := code_word (m := ⟨3, 1⟩) (meth := k3m1) (c := k3c1) (by decide +kernel) rfl rfl rfl (by decide +kernel)
set_option maxRecDepth 65536 in
theorem w_c5 : (Jvm.Cond.code ({ cls := "com/example/always_over_paths/alwaysoverpaths/explicit/MarkingTable", name := "add", desc := "([I)I" } : Jvm.MethodName) prog_21_method_3_code (7 : Nat) (Option.some Jvm.ClassFile.FieldType.int)).before args0 about1 = true := code_word (m := ⟨2, 1⟩) (meth := k2m1) (c := k2c1) (by decide +kernel) rfl rfl rfl (by decide +kernel)
set_option maxRecDepth 65536 in
theorem w_c6 : (Jvm.Cond.code ({ cls := "java/lang/Integer", name := "numberOfLeadingZeros", desc := "(I)I" } : Jvm.MethodName) jdk_33_method_47_code (2 : Nat) (Option.some Jvm.ClassFile.FieldType.int)).before args0 about1 = true := code_word (m := ⟨9, 0⟩) (meth := k9m0) (c := k9c0) (by decide +kernel) rfl rfl rfl (by decide +kernel)
set_option maxRecDepth 65536 in
theorem w_c7 : (Jvm.Cond.code ({ cls := "com/example/always_over_paths/alwaysoverpaths/explicit/MarkingTable", name := "widen", desc := "(I)V" } : Jvm.MethodName) prog_21_method_8_code (8 : Nat) (Option.none : Option Jvm.ClassFile.FieldType)).before args0 about1 = true := code_word (m := ⟨2, 5⟩) (meth := k2m5) (c := k2c5) (by decide +kernel) rfl rfl rfl (by decide +kernel)
set_option maxRecDepth 65536 in
theorem w_c8 : (Jvm.Cond.code ({ cls := "java/lang/Math", name := "max", desc := "(JJ)J" } : Jvm.MethodName) jdk_29_method_66_code (4 : Nat) (Option.some Jvm.ClassFile.FieldType.long)).before args0 about1 = true := code_word (m := ⟨3, 2⟩) (meth := k3m2) (c := k3c2) (by decide +kernel) rfl rfl rfl (by decide +kernel)
set_option maxRecDepth 65536 in
theorem w_c9 : (Jvm.Cond.code ({ cls := "com/example/always_over_paths/alwaysoverpaths/explicit/MarkingTable", name := "fillSlots", desc := "(I)V" } : Jvm.MethodName) prog_21_method_10_code (5 : Nat) (Option.none : Option Jvm.ClassFile.FieldType)).before args0 about1 = true := code_word (m := ⟨2, 6⟩) (meth := k2m6) (c := k2c6) (by decide +kernel) rfl rfl rfl (by decide +kernel)
set_option maxRecDepth 65536 in
theorem w_c10 : (Jvm.Cond.code ({ cls := "com/example/always_over_paths/alwaysoverpaths/explicit/MarkingTable", name := "pack", desc := "([II[JI)V" } : Jvm.MethodName) prog_21_method_13_code (9 : Nat) (Option.none : Option Jvm.ClassFile.FieldType)).before args0 about1 = true := code_word (m := ⟨2, 8⟩) (meth := k2m8) (c := k2c8) (by decide +kernel) rfl rfl rfl (by decide +kernel)
set_option maxRecDepth 65536 in
theorem w_c11 : (Jvm.Cond.code ({ cls := "com/example/always_over_paths/alwaysoverpaths/explicit/MarkingTable", name := "hash", desc := "([JII)I" } : Jvm.MethodName) prog_21_method_15_code (6 : Nat) (Option.some Jvm.ClassFile.FieldType.int)).before args0 about1 = true := code_word (m := ⟨2, 10⟩) (meth := k2m10) (c := k2c10) (by decide +kernel) rfl rfl rfl (by decide +kernel)
set_option maxRecDepth 65536 in
theorem w_c12 : (Jvm.Cond.code ({ cls := "com/example/always_over_paths/alwaysoverpaths/explicit/MarkingTable", name := "ensureRoomForOneMore", desc := "()V" } : Jvm.MethodName) prog_21_method_7_code (4 : Nat) (Option.none : Option Jvm.ClassFile.FieldType)).before args0 about1 = true := code_word (m := ⟨2, 4⟩) (meth := k2m4) (c := k2c4) (by decide +kernel) rfl rfl rfl (by decide +kernel)
set_option maxRecDepth 65536 in
theorem w_c13 : (Jvm.Cond.code ({ cls := "com/example/always_over_paths/alwaysoverpaths/explicit/MarkingTable", name := "get", desc := "(I[I)V" } : Jvm.MethodName) prog_21_method_4_code (3 : Nat) (Option.none : Option Jvm.ClassFile.FieldType)).before args0 about1 = true := code_word (m := ⟨2, 2⟩) (meth := k2m2) (c := k2c2) (by decide +kernel) rfl rfl rfl (by decide +kernel)
set_option maxRecDepth 65536 in
theorem w_c14 : (Jvm.Cond.code ({ cls := "com/example/always_over_paths/alwaysoverpaths/explicit/MarkingTable", name := "unpack", desc := "([JII[I)V" } : Jvm.MethodName) prog_21_method_14_code (11 : Nat) (Option.none : Option Jvm.ClassFile.FieldType)).before args0 about1 = true := code_word (m := ⟨2, 9⟩) (meth := k2m9) (c := k2c9) (by decide +kernel) rfl rfl rfl (by decide +kernel)
set_option maxRecDepth 65536 in
theorem w_c15 : (Jvm.Cond.code ({ cls := "com/example/always_over_paths/alwaysoverpaths/explicit/MarkingTable", name := "holdsProbe", desc := "(I)Z" } : Jvm.MethodName) prog_21_method_6_code (4 : Nat) (Option.some Jvm.ClassFile.FieldType.boolean)).before args0 about1 = true := code_word (m := ⟨2, 3⟩) (meth := k2m3) (c := k2c3) (by decide +kernel) rfl rfl rfl (by decide +kernel)
def codes1 : List Jvm.Cond := [Jvm.Cond.code x code maxLocals ret, Jvm.Cond.code ({ cls := "com/example/always_over_paths/alwaysoverpaths/explicit/MarkingTable", name := "<init>", desc := "(I)V" } : Jvm.MethodName) prog_21_method_1_code (2 : Nat) (Option.none : Option Jvm.ClassFile.FieldType), Jvm.Cond.code ({ cls := "java/lang/Object", name := "<init>", desc := "()V" } : Jvm.MethodName) object_method_1_code (1 : Nat) (Option.none : Option Jvm.ClassFile.FieldType), Jvm.Cond.code ({ cls := "com/example/always_over_paths/alwaysoverpaths/explicit/MarkingTable", name := "wordsFor", desc := "(II)I" } : Jvm.MethodName) prog_21_method_12_code (3 : Nat) (Option.some Jvm.ClassFile.FieldType.int), Jvm.Cond.code ({ cls := "java/lang/Math", name := "max", desc := "(II)I" } : Jvm.MethodName) jdk_29_method_65_code (2 : Nat) (Option.some Jvm.ClassFile.FieldType.int), Jvm.Cond.code ({ cls := "com/example/always_over_paths/alwaysoverpaths/explicit/MarkingTable", name := "add", desc := "([I)I" } : Jvm.MethodName) prog_21_method_3_code (7 : Nat) (Option.some Jvm.ClassFile.FieldType.int), Jvm.Cond.code ({ cls := "java/lang/Integer", name := "numberOfLeadingZeros", desc := "(I)I" } : Jvm.MethodName) jdk_33_method_47_code (2 : Nat) (Option.some Jvm.ClassFile.FieldType.int), Jvm.Cond.code ({ cls := "com/example/always_over_paths/alwaysoverpaths/explicit/MarkingTable", name := "widen", desc := "(I)V" } : Jvm.MethodName) prog_21_method_8_code (8 : Nat) (Option.none : Option Jvm.ClassFile.FieldType), Jvm.Cond.code ({ cls := "java/lang/Math", name := "max", desc := "(JJ)J" } : Jvm.MethodName) jdk_29_method_66_code (4 : Nat) (Option.some Jvm.ClassFile.FieldType.long), Jvm.Cond.code ({ cls := "com/example/always_over_paths/alwaysoverpaths/explicit/MarkingTable", name := "fillSlots", desc := "(I)V" } : Jvm.MethodName) prog_21_method_10_code (5 : Nat) (Option.none : Option Jvm.ClassFile.FieldType), Jvm.Cond.code ({ cls := "com/example/always_over_paths/alwaysoverpaths/explicit/MarkingTable", name := "pack", desc := "([II[JI)V" } : Jvm.MethodName) prog_21_method_13_code (9 : Nat) (Option.none : Option Jvm.ClassFile.FieldType), Jvm.Cond.code ({ cls := "com/example/always_over_paths/alwaysoverpaths/explicit/MarkingTable", name := "hash", desc := "([JII)I" } : Jvm.MethodName) prog_21_method_15_code (6 : Nat) (Option.some Jvm.ClassFile.FieldType.int), Jvm.Cond.code ({ cls := "com/example/always_over_paths/alwaysoverpaths/explicit/MarkingTable", name := "ensureRoomForOneMore", desc := "()V" } : Jvm.MethodName) prog_21_method_7_code (4 : Nat) (Option.none : Option Jvm.ClassFile.FieldType), Jvm.Cond.code ({ cls := "com/example/always_over_paths/alwaysoverpaths/explicit/MarkingTable", name := "get", desc := "(I[I)V" } : Jvm.MethodName) prog_21_method_4_code (3 : Nat) (Option.none : Option Jvm.ClassFile.FieldType), Jvm.Cond.code ({ cls := "com/example/always_over_paths/alwaysoverpaths/explicit/MarkingTable", name := "unpack", desc := "([JII[I)V" } : Jvm.MethodName) prog_21_method_14_code (11 : Nat) (Option.none : Option Jvm.ClassFile.FieldType), Jvm.Cond.code ({ cls := "com/example/always_over_paths/alwaysoverpaths/explicit/MarkingTable", name := "holdsProbe", desc := "(I)Z" } : Jvm.MethodName) prog_21_method_6_code (4 : Nat) (Option.some Jvm.ClassFile.FieldType.boolean)]
set_option maxRecDepth 65536 in
theorem codes_eq : words1.filter isCode = codes1 := rfl
theorem w_codes : ∀ c ∈ words1.filter isCode, c.before args0 about1 = true := by
  rw [codes_eq]
  intro c hc
  simp only [codes1, List.mem_cons, List.not_mem_nil, or_false] at hc
  rcases hc with rfl | rfl | rfl | rfl | rfl | rfl | rfl | rfl | rfl | rfl | rfl | rfl | rfl | rfl | rfl | rfl
  · exact w_c0
  · exact w_c1
  · exact w_c2
  · exact w_c3
  · exact w_c4
  · exact w_c5
  · exact w_c6
  · exact w_c7
  · exact w_c8
  · exact w_c9
  · exact w_c10
  · exact w_c11
  · exact w_c12
  · exact w_c13
  · exact w_c14
  · exact w_c15
set_option maxRecDepth 65536 in
theorem w_t1 : (words1.take 24).all (fun c => isCode c || c.before args0 about1) = true := by decide +kernel
set_option maxRecDepth 65536 in
theorem w_t2 : ((words1.drop 24).take 24).all (fun c => isCode c || c.before args0 about1) = true := by decide +kernel
set_option maxRecDepth 65536 in
theorem w_t3 : (((words1.drop 24).drop 24).take 24).all (fun c => isCode c || c.before args0 about1) = true := by decide +kernel
set_option maxRecDepth 65536 in
theorem w_t4 : (((words1.drop 24).drop 24).drop 24).all (fun c => isCode c || c.before args0 about1) = true := by decide +kernel
theorem w_tables : (allAtoms (Jvm.Cond.code x code maxLocals ret :: tables_1)).before args0 about1 = true := by
  rw [allAtoms_all]
  show words1.all (fun c => c.before args0 about1) = true
  refine all_split ?_ w_codes
  rw [← List.take_append_drop 24 words1, List.all_append, w_t1, ← List.take_append_drop 24 (words1.drop 24), List.all_append, w_t2, ← List.take_append_drop 24 ((words1.drop 24).drop 24), List.all_append, w_t3, w_t4]
  rfl
set_option maxRecDepth 65536 in
theorem w_case : (Jvm.Cond.and given_1 narrow_1).before args0 about1 = true := by decide +kernel
theorem w_applies : (headSpec (Jvm.Cond.code x code maxLocals ret :: tables_1) room_1).applies x e0.platform about1 = true :=
  (Spec.applies_iff w_frames).mpr ⟨w_running, w_runnable, w_alone, w_named, w_hears, w_ripe, w_room, w_tables⟩
theorem atStart : AtStart classFile x code maxLocals ret World_1 tables_1 room_1 Calls_1 rest_1 Pre_1 launch0 p0 e0 about1 theMethod args0 below0 :=
  ⟨lists_1, trivial, launch0.admits_env _ _ _, launch0.least_env, fairChoices_fair.cas, fairChoices_fair.clock, w_frames, w_args, w_heap, w_applies, trivial, trivial, w_case⟩
end start1
theorem witness_1 : WitnessClaimed_1 := ⟨start1.p0, start1.e0, start1.about1, start1.theMethod, start1.args0, start1.below0, start1.atStart⟩
end Jvm.Pilot.@@N@@
